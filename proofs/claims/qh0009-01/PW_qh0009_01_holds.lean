import PyProof.Rows.All
import Wide.All
import OpenK.AllK
import Wide.FinOn
import KE.KxDecode
import KE.BytesMake
import Lean
import PySem.Challenge.RW_qh0009_01
set_option Elab.async false
set_option maxRecDepth 100000
set_option maxHeartbeats 0
set_option linter.all false
namespace Mine
open PySem PySem.W PySem.W.X PySem.W.ZRun PyProof.Rows
local macro_rules | `(tactic| k_head)=>`(tactic| z_head)
open_top hd for PySem.Challenge.rw_qh0009_01
end Mine
set_option genInjectivity false
set_option genSizeOf false
namespace Mine
open PySem PySem.W PySem.W.X
noncomputable def denF:Code → Sem Fin:=Fast.tw11892475500146522536 Fast.tw14364793385576792824
theorem denF_eq:denote table = denF:=by
  rw [table_eq_tree]
  exact congr (congrArg (fun x x_1=>x x_1) Fast.te11892475500146522536) Fast.te14364793385576792824
noncomputable def limitOk:Sem Unit:=R.bindR Fast.tw2211186353215096513 fun l=>match Nat.beq l 1000 with
  | true=>.pure ()
  | false=>.unsupported "limit"
noncomputable def codeFor (fd:FuncData) (env:Env):Code:=match fd.body with
  | .stmts b=>.func b env
  | .expr e=>.expr e env
noncomputable def compiledOf (fd:FuncData):Sem Str:=match fd.code with
  | .none=>pure fd.qualname
  | c=>do match ← field c 1 with
    | .str q _=>pure q
    | _=>pure fd.qualname
noncomputable def compiledF (fd:FuncData):Sem Str:=match fd.code with
  | .none=>.pure fd.qualname
  | c=>R.bindR (Fast.tw6609576154772507232 c 1) fun v=>match v with
    | .str q _=>.pure q
    | _=>.pure fd.qualname
theorem compiledF_eq (fd:FuncData):compiledF fd = compiledOf fd:=by
  unfold compiledF compiledOf
  rw [← Fast.te6609576154772507232,← R.bindR_eq]
  rfl
noncomputable def locStr:Str:=⟨#[46,60,108,111,99,97,108,115,62,46]⟩
noncomputable def callFn0 (self:Addr) (fd:FuncData) (args:Args):Sem Fin :=
  R.bindR (compiledF fd) fun compiled =>
  R.bindR (Fast.tw9782568553167038054 fd args) fun binds =>
  R.bindR (Fast.tw11113344188204177931 fd.scope fd.globals fd.closure binds (compiled ++ locStr) (some self) fd.code none fd.builtins) fun env =>
  R.bindR limitOk fun _ =>
  match fd.scope.isGenerator,fd.scope.isCoroutine with
  | false,false=>.pure (.again (codeFor fd env))
  | _,_=>.unsupported "generator"
noncomputable def callFn (self:Addr) (fd:FuncData) (args:Args):Sem Fin:=match fd.code with
  | .ref _=>callFn0 self fd args
  | _=>.unsupported "code"
noncomputable def loadK:Sem Fin → Obj → Sem Fin
  | .load _ _ k=>k
  | t=>fun _=>t
noncomputable def callRef (a:Addr) (args:Args):Sem Fin:=.load a none fun o=>match o.data with
  | .func fd=>callFn a fd args
  | _=>loadK (Fast.tw2956504954644400088 (.ref a) args) o
noncomputable def Im {α:Type} (M:Model) (A:Around) (c:Code) (t t':Sem α):Prop :=
  ∀ Γ p s Q E,Γ.code = c → Γ.Below A → Sem.wp M Γ t Q E p s → Sem.wp M Γ t' Q E p s
theorem Im.rfl' {α:Type} {M:Model} {A:Around} {c:Code} {t:Sem α}:Im M A c t t:=fun _ _ _ _ _ _ _ h=>h
theorem Im.bind {α β:Type} {M:Model} {A:Around} {c:Code} {m:Sem α} {f g:α → Sem β} (h:∀ a,Im M A c (f a) (g a)):Im M A c (m.bind f) (m.bind g):=fun Γ p s Q E hc hΓ x=>by
  have x':Sem.wp M Γ (m >>= f) Q E p s:=x
  show Sem.wp M Γ (m >>= g) Q E p s
  rw [Sem.wp_bind'] at x' ⊢
  exact Sem.wp_mono M Γ m (fun a p' s' q=>h a Γ p' s' Q E hc hΓ q) (fun _ _ _ q=>q) p s x'
theorem Im.own {α:Type} {M:Model} {A:Around} {c:Code} {t t':Sem α} {Q:α → Shared → Prop} {E:Value → Shared → Prop} {s:Shared} (i:Im M A c t t') (h:wpOwn M A c t Q E s):wpOwn M A c t' Q E s :=
  fun Γ p hc hΓ=>i Γ p s _ _ hc hΓ (h Γ p hc hΓ)
theorem limitOk_eq:limitOk = (currentRecursionLimit.bind fun l=>match Nat.beq l 1000 with | true=>.pure () | false=>.unsupported "limit"):=by
  unfold limitOk
  rw [← Fast.te2211186353215096513,← R.bindR_eq]
theorem limit_enter {M:Model} {A:Around} {c:Code} (hd:(A.under c).depth < recursionLimit):Im M A c limitOk (enterFrame 0):=fun Γ p s Q E hc hΓ h=>by
  have hΓ':Γ.In (A.under c):=hc ▸ hΓ.in
  rw [limitOk_eq] at h
  have h':Sem.wp M Γ (currentRecursionLimit >>= fun l=>match Nat.beq l 1000 with | true=>.pure () | false=>.unsupported "limit") Q E p s:=h
  rw [Sem.wp_bind'] at h'
  have hsum:((((Γ.code,p) :: Γ.below).map (·.1)).map (·.frames)).sum + ((((Γ.code,p) :: Γ.below).map (·.1)).filter Code.isCreation).length < recursionLimit:=by
    have hge:=frameCount_ge ((Γ.code,p) :: Γ.below)
    rw [frameCount_cons] at hge
    have:=hΓ'.2.1
    lia
  have hlt:¬ ((((Γ.code,p) :: Γ.below).map (·.1)).map (·.frames)).sum ≥ recursionLimit:=by lia
  have hlt':¬ ((((Γ.code,p) :: Γ.below).map (·.1)).map (·.frames)).sum + ((((Γ.code,p) :: Γ.below).map (·.1)).filter Code.isCreation).length ≥ recursionLimit:=by lia
  simp only [enterFrame,Sem.wp_bind']
  show Sem.wp M Γ currentRecursionLimit _ _ p s
  refine Sem.wp_mono M Γ _ (fun l p' s' q=>?_) (fun _ _ _ q=>q) p s h'
  cases hl:Nat.beq l 1000 with
  | false=>rw [hl] at q; exact q.elim
  | true =>
    rw [hl] at q
    have hl':l = recursionLimit:=Nat.eq_of_beq_eq_true hl
    subst hl'
    show Sem.wp M Γ (if nearTheLimitUnderAClaim (((Γ.code,p) :: Γ.below).map (·.1)) (((((Γ.code,p) :: Γ.below).map (·.1)).map (·.frames)).sum + ((((Γ.code,p) :: Γ.below).map (·.1)).filter Code.isCreation).length) recursionLimit = true then _ else _) _ _ p' s'
    rw [if_neg (by rw [not_nearTheLimit hΓ' hd]; exact Bool.false_ne_true)]
    show Sem.wp M Γ (if ((((Γ.code,p) :: Γ.below).map (·.1)).map (·.frames)).sum ≥ recursionLimit then _ else _) _ _ p' s'
    rw [if_neg hlt]
    show Sem.wp M Γ (if ((((Γ.code,p) :: Γ.below).map (·.1)).map (·.frames)).sum + ((((Γ.code,p) :: Γ.below).map (·.1)).filter Code.isCreation).length ≥ recursionLimit then _ else _) _ _ p' s'
    rw [if_neg hlt']
    exact q
theorem callRest_is (self:Addr) (fd:FuncData) (args:Args) (compiled:Str):(do
    let env ← newFunctionEnv fd.scope fd.globals fd.closure (← bindArgs fd args) (compiled ++ ".<locals>.") (some self) fd.code none fd.builtins
    enterFrame
    let code:Code:=match fd.body with
      | .stmts b=>.func b env
      | .expr e=>.expr e env
    match fd.scope.isGenerator,fd.scope.isCoroutine with
    | false,false=>again code
    | true,false=>ret (← newGenerator code fd.name fd.qualname)
    | false,true=>ret (← newCoroutine code fd.name fd.qualname)
    | true,true=>ret (← newAsyncGenerator code fd.name fd.qualname):Sem Fin) = (bindArgs fd args).bind fun binds =>
    (newFunctionEnv fd.scope fd.globals fd.closure binds (compiled ++ (".<locals>.":Str)) (some self) fd.code none fd.builtins).bind fun env =>
    (enterFrame 0).bind fun _=>(match fd.scope.isGenerator,fd.scope.isCoroutine with
      | false,false=>again (codeFor fd env)
      | true,false=>do ret (← newGenerator (codeFor fd env) fd.name fd.qualname)
      | false,true=>do ret (← newCoroutine (codeFor fd env) fd.name fd.qualname)
      | true,true=>do ret (← newAsyncGenerator (codeFor fd env) fd.name fd.qualname)):=by
  unfold codeFor
  cases fd.scope.isGenerator <;> cases fd.scope.isCoroutine <;> rfl
theorem callFunction_is (self:Addr) (fd:FuncData) (args:Args) {ca:Addr} (hcd:fd.code = .ref ca):callFunction self fd args =
    (compiledOf fd).bind fun compiled=>(bindArgs fd args).bind fun binds =>
    (newFunctionEnv fd.scope fd.globals fd.closure binds (compiled ++ (".<locals>.":Str)) (some self) fd.code none fd.builtins).bind fun env =>
    (enterFrame 0).bind fun _=>(match fd.scope.isGenerator,fd.scope.isCoroutine with
      | false,false=>again (codeFor fd env)
      | true,false=>do ret (← newGenerator (codeFor fd env) fd.name fd.qualname)
      | false,true=>do ret (← newCoroutine (codeFor fd env) fd.name fd.qualname)
      | true,true=>do ret (← newAsyncGenerator (codeFor fd env) fd.name fd.qualname)):=by
  obtain ⟨nm,q,ps,b,sc,gl,cl,df,kd,dc,pm,an,cd,ct,bl⟩:=fd
  cases hcd
  refine Eq.trans ?_ (congrArg (Sem.bind _) (funext fun compiled=>callRest_is self _ args compiled))
  refine Eq.trans ?_ (bind_assoc (m:=Sem) _ _ _).symm
  unfold callFunction
  exact congrArg (Sem.bind _) (funext fun v=>by cases v <;> rfl)
theorem callFn_is (self:Addr) (fd:FuncData) (args:Args):callFn0 self fd args =
    (compiledOf fd).bind fun compiled=>(bindArgs fd args).bind fun binds =>
    (newFunctionEnv fd.scope fd.globals fd.closure binds (compiled ++ locStr) (some self) fd.code none fd.builtins).bind fun env =>
    limitOk.bind fun _=>(match fd.scope.isGenerator,fd.scope.isCoroutine with
      | false,false=>Sem.pure (Fin.again (codeFor fd env))
      | _,_=>Sem.unsupported "generator"):=by
  unfold callFn0
  rw [compiledF_eq,← Fast.te9782568553167038054,← Fast.te11113344188204177931,← R.bindR_eq]
theorem loc_eq:locStr = (".<locals>.":Str):=by decide +kernel
theorem callFn_im {M:Model} {A:Around} {c:Code} (hd:(A.under c).depth < recursionLimit) (self:Addr) (fd:FuncData) (args:Args):Im M A c (callFn self fd args) (callFunction self fd args):=by
  unfold callFn
  split
  case h_2=>exact fun Γ p s Q E hc hΓ x=>False.elim x
  rename_i ca hcd
  rw [callFn_is,callFunction_is self fd args hcd,loc_eq]
  refine Im.bind fun compiled=>Im.bind fun binds=>Im.bind fun env=>?_
  intro Γ p s Q E hc hΓ x
  have x':Sem.wp M Γ (limitOk >>= _) Q E p s:=x
  show Sem.wp M Γ (enterFrame 0 >>= _) Q E p s
  rw [Sem.wp_bind'] at x' ⊢
  have y:=limit_enter hd Γ p s _ _ hc hΓ x'
  refine Sem.wp_mono M Γ _ (fun a p' s' q=>?_) (fun _ _ _ q=>q) p s y
  revert q
  cases fd.scope.isGenerator <;> cases fd.scope.isCoroutine <;> intro q
  · exact q
  all_goals exact q.elim
theorem callAny_is (a:Addr) (args:Args):callAny (.ref a) args = .load a none (fun o=>match o.data with
    | .func fd=>callFunction a fd args
    | _=>loadK (callAny (.ref a) args) o):=by
  show _ = Sem.load a none _
  unfold callAny
  show Sem.load a none _ = _
  congr 1
  funext o
  show _ = (match o.data with | .func fd=>callFunction a fd args | _=>_)
  obtain ⟨cl,d,dt,sl⟩:=o
  cases dt <;> rfl
theorem callRef_im {M:Model} {A:Around} {c:Code} (hd:(A.under c).depth < recursionLimit) (a:Addr) (args:Args):Im M A c (callRef a args) (callAny (.ref a) args):=by
  rw [callAny_is]
  unfold callRef
  rw [← Fast.te2956504954644400088]
  intro Γ p s Q E hc hΓ x
  have x':∃ o,s.heap.get? a = some o ∧ _:=x
  obtain ⟨o,ho,q⟩:=x'
  refine ⟨o,ho,?_⟩
  clear ho x
  obtain ⟨cl,d,dt,sl⟩:=o
  cases dt
  case func fd=>exact callFn_im hd a fd args Γ p s Q E hc hΓ q
  all_goals exact q
noncomputable def okIds:List String:=["_codecs.decode.text","bytes.__eq__","bytes.__getitem__","bytes.__len__","bytes.__new__","bytes.__new__.loop","bytes.decode","bytes.hex","bytes.upper","callable_iterator.__iter__","callable_iterator.__next__","dict.__getitem__","dict.__setitem__","divmod","enumerate.__iter__","enumerate.__new__","enumerate.__next__","function.__get__","int.__add__","int.__bool__","int.__divmod__","int.__eq__","int.__floordiv__","int.__ge__","int.__gt__","int.__hash__","int.__le__","int.__lshift__","int.__lt__","int.__mod__","int.__mul__","int.__ne__","int.__neg__","int.__new__","int.__pow__","int.__repr__","int.__sub__","int.__xor__","isinstance","isinstance.nested","iter","len","list.__add__","list.__eq__","list.__eq__.loop","list.__getitem__","list.__iadd__","list.__init__","list.__iter__","list.__len__","list.__ne__","list.__new__","list.append","list.extend","list.extend.loop","list.pop","list.sort","list_iterator.__iter__","list_iterator.__next__","next","object.__init__","object.__new__","object.__setattr__","object.__str__","proto.collect","proto.getattr_hooked","proto.let_go","range.__iter__","range.__len__","range.__new__","range_iterator.__iter__","range_iterator.__next__","re.Pattern.search","sorted","str.__add__","str.__contains__","str.__eq__","str.__getitem__","str.__iter__","str.__ne__","str.__new__","str.count","str.encode","str.index","str.join","str_ascii_iterator.__iter__","str_ascii_iterator.__next__","tuple.__getitem__","tuple.__iter__","tuple.__ne__","tuple_iterator.__next__","type.__call__"]
noncomputable def okCodes:List Nat:=[2619762639393042134921171463191304907674117216,29827158059823676458666392163,32795286342768305172929921614967408523875,7635748836777223718956730514019,7635759717146493738766721972835,9881949375840847480939150339697687676680803,31690103266657119069290199651,2239435514560260700771,139510243294789738601740899,154871483620844820483908825499292026105330360369147596340290148,154871534474935724191431299575622858322749446335671712506274404,128106587276438692081757506308483082853,128106587276438692082622197436938218085,111533564062309,8395599949888658542141600605037211174727526,32795338265258401048814659337623159861094,8395602706694450420892867620059520941059942,128106729249270423073818695490870408807,116512096292018843154739050,29827134633612522566320484202,1954748619459276632098664420306794,455126313168696235093866,128106770130096871752080967664072486762,455125449040517733379946,455126529904428302298986,29827115816926449915907108714,455125450447892616933226,1954753560319954399567331122835306,455126531311803185852266,116512097088030077292474218,116512245094328231196454762,455125451010842570354538,116512151707967833018560362,116512446855873012371386218,116512447577011902704086890,29827162985542091517149409130,116512060628576343961202538,116512355345543333970014058,483534081766703640507498,34504710174192491542856066308153637762154,1936094570,7300717,29827096650756823847613524589,116512336171186236184357485,150786581052259025172200297655235275373,128106587276438692081757506308484131437,7635736742594467534504881056365,7635756109259221455878126594669,7635753672628796759583453637229,29827143893661030152192420461,116512115458775698011089517,29827186395103491167075199597,122627580202994350266018413,122627580493480924277926509,150786581052265140416522592343328844397,8174157772325415533,2166587332882953693805,36058827215071027279810240841305820761558218265881197,36058839055461744822429329989390181918337346850548333,1970890351,500416912376412337332428835721536368,1954754487589502397125371494097776,8395600027772484101628393163519180982150000,1954752958321952417033813716853616,9300767342341403084508581884785,578892190251384323716698947995045951570422297457,34788504898062588765686231921,1954752940192971970453299505619571,7635748836777223718896634126963,7635759717146493738706625585779,9231059767058182983631421655374290114958903811440075379,9231062798198206674541908477283886571094360729114862195,35863170436209133097404895493593441986163,111490731569268,116512096292018843154609524,128106709680535770272165659069392319860,455126313168696234964340,500416356548588640944365259017385332,29827162783706237342122734964,455125451010842570225012,116512446855873012371256692,2166300787185074533748,483552601124663068947828,2239434458985225483636,8028352891401237876,39647099806936274043880659327818758682964572328072889394563085684,39647112825583545393006412691359451730623858335503063133055055220,32795286342768305172929921614907396159093,1954752940192971970453299589641845,29827101557446578626297427573,9231062798198206674541908477283886571094360729198884469,7635746451779523968930960996981]
theorem okCodes_eq:okCodes = okIds.map PySem.code:=by decide +kernel
theorem okIds_plain:∀ s ∈ okIds,plainId s = true ∨ s = "type.__call__":=by decide +kernel
noncomputable def memB (x:Nat):List Nat → Bool
  | []=>false
  | y :: r=>match Nat.beq x y with
    | true=>true
    | false=>memB x r
theorem memB_mem {x:Nat}:∀ {l:List Nat},memB x l = true → x ∈ l
  | [],h=>by cases h
  | y :: r,h=>by
    unfold memB at h
    cases q:Nat.beq x y with
    | true=>rw [Nat.eq_of_beq_eq_true q]; exact .head _
    | false=>rw [q] at h; exact .tail _ (memB_mem h)
noncomputable def idOk (id:String):Bool:=memB (S.codeS id) okCodes
theorem idOk_is {id:String} (h:idOk id = true):plainId id = true ∨ id = "type.__call__":=by
  have m:=memB_mem h
  rw [okCodes_eq,← S.code_S] at m
  obtain ⟨s,hs,e⟩:=List.mem_map.mp m
  have:=PySem.code_inj _ _ e
  subst this
  exact okIds_plain _ hs
noncomputable def quietB:Code → Bool
  | .builtin id _=>idOk id
  | _=>true
theorem quietB_quiet {c:Code} (h:quietB c = true):c.quiet = true:=by
  cases c with
  | builtin id args =>
    rcases idOk_is h with p | rfl
    · exact plainId_quiet p args
    · exact Code.quiet_builtin args (by decide +kernel)
  | _=>rfl
noncomputable def wB:Code → Nat
  | .builtin id _=>match idOk id with | true=>1 | false=>1000
  | _=>1
theorem weight_wB (c:Code) (h:Nat.blt (wB c) 1000 = true):c.weight ≤ wB c:=by
  cases c with
  | builtin id args =>
    have e:wB (.builtin id args) = match idOk id with | true=>1 | false=>1000:=rfl
    rw [e] at h ⊢
    cases q:idOk id with
    | false=>rw [q] at h; cases h
    | true =>
      show _ ≤ 1
      rcases idOk_is q with p | rfl
      · rw [plainId_weight p args]; exact Nat.zero_le _
      · have hf:(Code.builtin "type.__call__" args).frames = 0:=by kernel_rfl
        have hg:(Code.builtin "type.__call__" args).isGuard = false:=by
          show guardIds.contains "type.__call__" = false
          decide +kernel
        have hc:(Code.builtin "type.__call__" args).isCaller = false:=by kernel_rfl
        unfold Code.weight
        rw [hf,hg,hc]
        simp only [Bool.false_eq_true,if_false,Nat.zero_add,Nat.add_zero]
        split <;> lia
  | call f a=>exact Nat.zero_le _
  | body b e=>exact Nat.le_refl _
  | block b e=>exact Nat.zero_le _
  | handlers x hs e=>exact Nat.zero_le _
  | starHandlers=>exact Nat.zero_le _
  | func b e=>exact Nat.le_refl _
  | expr b e=>exact Nat.le_refl _
  | whileLoop=>exact Nat.zero_le _
  | forLoop=>exact Nat.zero_le _
  | asyncForLoop=>exact Nat.zero_le _
  | compStart e d i a env=>show (if (Code.compStart e d i a env).isFrame then 1 else 0) + 0 + 0 + 0 ≤ 1; split <;> lia
  | compLoop e d i a env=>show (if (Code.compLoop e d i a env).isFrame then 1 else 0) + 0 + 0 + 0 ≤ 1; split <;> lia
inductive Kn where
  | base
  | ret (c:Code) (k:Result → Sem Fin) (κ:Kn)
noncomputable def depB:Kn → Nat
  | .base=>0
  | .ret c _ κ=>wB c + depB κ
noncomputable def arA (A:Around):Kn → Around
  | .base=>A
  | .ret c _ κ=>(arA A κ).under c
theorem arA_depth (A:Around):∀ κ:Kn,depB κ < 1000 → (arA A κ).depth ≤ A.depth + depB κ
  | .base,_=>Nat.le_refl _
  | .ret c k κ,h=>by
    unfold depB at h ⊢
    have:=arA_depth A κ (by lia)
    have hw:=weight_wB c (Nat.ble_eq_true_of_le (by lia))
    show (arA A κ).depth + c.weight ≤ _
    lia
theorem arA_handled (A:Around):∀ κ:Kn,(arA A κ).handled = A.handled
  | .base=>rfl
  | .ret _ _ κ=>arA_handled A κ
noncomputable def D (κ:Kn) (c:Code):Sem Fin:=match c with
  | .call (.ref a) args=>match Nat.blt (depB κ) 200 with
    | true=>callRef a args
    | false=>denF (.call (.ref a) args)
  | c=>denF c
theorem D_im {M:Model} {A:Around} (hA:A.depth ≤ 700) (κ:Kn) (c:Code):Im M (arA A κ) c (D κ c) (denote table c):=by
  have other:D κ c = denF c → Im M (arA A κ) c (D κ c) (denote table c):=fun e=>by rw [e,denF_eq]; exact Im.rfl'
  cases c with
  | call f args =>
    cases f with
    | ref a =>
      cases q:Nat.blt (depB κ) 200 with
      | false=>exact other (by unfold D; rw [q])
      | true =>
        have e:D κ (.call (.ref a) args) = callRef a args:=by unfold D; rw [q]
        rw [e]
        have hb:depB κ < 200:=Nat.le_of_ble_eq_true q
        have hd:=arA_depth A κ (by lia)
        exact callRef_im (by show (arA A κ).depth + 0 < 1000; lia) a args
    | _=>exact other rfl
  | _=>exact other rfl
noncomputable def rowK1:Nat:=2510650655181157320538776789020469319833841985448949215332
theorem rowK1_eq:PySem.code "comprehension-iter-twice" = rowK1:=by decide +kernel
structure Follows (w:World) (b1 b2:Bool):Prop where
  r1:w.params.followText "comprehension-iter-twice" = b1
  r2:w.params.followText "special-get-raises" = b2
noncomputable def follow2 (P:Params) (b1 b2:Bool):Params:={ P with followText:=fun r=>match Nat.beq (S.codeS r) 2510650655181157320538776789020469319833841985448949215332 with
  | true=>b1
  | false=>match Nat.beq (S.codeS r) 10139888712337904147300001983332972444938612 with
    | true=>b2
    | false=>P.followText r }
theorem rowK2_eq:PySem.code "special-get-raises" = 10139888712337904147300001983332972444938612:=by decide +kernel
theorem follow2_eq {w:World} {b1 b2:Bool} (F:Follows w b1 b2):follow2 w.params b1 b2 = w.params:=by
  unfold follow2
  have e:(fun r=>match Nat.beq (S.codeS r) 2510650655181157320538776789020469319833841985448949215332 with
      | true=>b1
      | false=>match Nat.beq (S.codeS r) 10139888712337904147300001983332972444938612 with
        | true=>b2
        | false=>w.params.followText r) = w.params.followText:=by
    funext r
    cases q:Nat.beq (S.codeS r) 2510650655181157320538776789020469319833841985448949215332 with
    | true =>
      have:r = "comprehension-iter-twice":=PySem.code_inj _ _ (by rw [S.code_S,rowK1_eq]; exact Nat.eq_of_beq_eq_true q)
      rw [this]; exact F.r1.symm
    | false =>
      cases q2:Nat.beq (S.codeS r) 10139888712337904147300001983332972444938612 with
      | true =>
        have:r = "special-get-raises":=PySem.code_inj _ _ (by rw [S.code_S,rowK2_eq]; exact Nat.eq_of_beq_eq_true q2)
        rw [this]; exact F.r2.symm
      | false=>rfl
  rw [e]
structure Cf where
  prg:Program
  P:Params
  b1:Bool
  b2:Bool
  kt:KT
  ro:List (Addr × Obj)
  pre:List Addr
  p:Nat
  N:Nat
  T0:Nat
noncomputable def Cf.setB (C:Cf) (b1 b2:Bool):Setting:=⟨C.prg,follow2 C.P b1 b2⟩
noncomputable def Cf.set (C:Cf):Setting:=C.setB C.b1 C.b2
noncomputable def Cf.addr (C:Cf) (j:Nat):Addr:=match Nat.blt j C.p with
  | true=>C.pre.getD j 0
  | false=>C.N + (j - C.p)
noncomputable def Cf.look (C:Cf) (T:BT) (j:Nat):Option (Addr × Obj):=match Nat.blt j 1000 with
  | true=>match C.kt.get j with
    | some o=>some (j,o)
    | none=>none
  | false=>match Nat.blt j 2000 with
    | true=>match T.get (j - 1000) with
      | some o=>some (C.addr (j - 1000),o)
      | none=>none
    | false=>C.ro[j - 2000]?
noncomputable abbrev Acts:=List (Code × Pos)
noncomputable abbrev ActF:=Pos → Acts → Sem Fin
structure Pt where
  c:Code
  κ:Kn
  t:Sem Fin
  T:BT
  m:Nat
  i:Nat
structure Out where
  ok:Bool
  c:Code
  κ:Kn
  t:Sem Fin
  T:BT
  m:Nat
  i:Nat
  eqs:List (Addr × Addr)
  qs:List (Pt × Pt)
  ks:List (ActF × ActF)
  ps:List Prop
  ls:List ((Obj → Sem Fin) × (Obj → Sem Fin))
noncomputable def Out.pt (o:Out):Pt:=⟨o.c,o.κ,o.t,o.T,o.m,o.i⟩
noncomputable def unB:Kn → Nat
  | .base=>0
  | .ret c _ κ=>(match c with | .builtin id _=>(match idOk id with | true=>1 | false=>1000) | _=>3) + unB κ
noncomputable def unC (c:Code):Nat:=match c with | .builtin id _=>(match idOk id with | true=>1 | false=>1000) | _=>3
noncomputable def roomF (what:String) (rest:Sem Fin) (acts:Acts):Sem Fin :=
  if Fast.tw3755427657022040156 (R.mapR (fun x=>Fast.tw165980757501359005 x.fst) acts) ≥ cLine then .unsupported (toString "recursion.c-limit:near:" ++ toString what) else rest
noncomputable def lk0:Obj:={ cls:=.none,data:=.seq #[] }
noncomputable def lookF (rest:Sem Fin) (o:Obj):Sem Fin:=match o.data.pastItsLine with
  | some what=>.unsupported what
  | _=>rest
noncomputable def dec (j:Nat):Option Bool:=match Nat.beq j 7200 with
  | true=>some false
  | false=>match Nat.beq j 7201 with
    | true=>some true
    | false=>none
structure AskO where
  or:List Nat
  o:Out
noncomputable def runG (C:Cf) (S:List Nat → Code → Kn → (Setting → Sem Fin) → BT → Nat → Nat → Option AskO):Nat → List Nat → Code → Kn → Sem Fin → BT → Nat → Nat → List (Addr × Addr) → List (Pt × Pt) → List (ActF × ActF) → List Prop → List ((Obj → Sem Fin) × (Obj → Sem Fin)) → Out
  | 0,_,c,κ,t,T,m,i,es,qs,ks,ps,ls=>⟨true,c,κ,t,T,m,i,es,qs,ks,ps,ls⟩
  | n + 1,or,c,κ,t,T,m,i,es,qs,ks,ps,ls=>match t with
    | .pure fin=>match fin with
      | .done f=>match κ with
        | .ret c' k κ'=>match or with
          | []=>runG C S n or c' κ' (k (.ok f)) T m i es qs ks ps ls
          | j :: or'=>match dec j with
            | none=>match Nat.beq j 7203 with
              | true=>match f with
                | .ret (.bool x)=>runG C S n or' c' κ' (k (.ok (.ret (.bool x)))) T m i es qs ks ps ls
                | f=>runG C S n (j :: or') c' κ' (k (.ok f)) T m i es qs ks ps ls
              | false=>runG C S n (j :: or') c' κ' (k (.ok f)) T m i es qs ks ps ls
            | some v=>match f with
              | .ret (.bool x)=>runG C S n or' c' κ' (k (.ok (.ret (.bool v)))) T m i es qs ks ((x = v) :: ps) ls
              | f=>runG C S n (j :: or') c' κ' (k (.ok f)) T m i es qs ks ps ls
        | .base=>⟨false,c,κ,t,T,m,i,es,qs,ks,ps,ls⟩
      | .again c'=>match quietB c' with
        | true=>runG C S n or c' κ (D κ c') T m i es qs ks ps ls
        | false=>⟨false,c,κ,t,T,m,i,es,qs,ks,ps,ls⟩
    | .raise e=>match κ with
      | .ret c' k κ'=>runG C S n or c' κ' (k (.error e)) T m i es qs ks ps ls
      | .base=>⟨false,c,κ,t,T,m,i,es,qs,ks,ps,ls⟩
    | .rule _ k=>runG C S n or c κ (k ()) T m i es qs ks ps ls
    | .at _ k=>runG C S n or c κ (k ()) T m i es qs ks ps ls
    | .point _ k=>runG C S n or c κ (k ()) T m i es qs ks ps ls
    | .ask k=>match S or c κ k T m i with
      | none=>runG C S n or c κ (k C.set) T m i es qs ks ps ls
      | some a=>match a.o.ok with
        | true=>runG C S n a.or a.o.c a.o.κ a.o.t a.o.T a.o.m a.o.i (a.o.eqs ++ es) (a.o.qs ++ qs) (a.o.ks ++ ks) (a.o.ps ++ ps) (a.o.ls ++ ls)
        | false=>⟨false,c,κ,t,T,m,i,es,qs,ks,ps,ls⟩
    | .load a _ k=>match or with
      | []=>⟨false,c,κ,t,T,m,i,es,qs,ks,ps,ls⟩
      | j :: or=>match Nat.beq j 7300 with
        | true=>match or with
          | []=>⟨false,c,κ,t,T,m,i,es,qs,ks,ps,ls⟩
          | j :: or=>match C.look T j with
            | some q=>runG C S n or c κ (k lk0) T m i ((a,q.1) :: es) qs ks ((q.2.data.pastItsLine = none) :: ps) ((k,lookF (k lk0)) :: ls)
            | none=>⟨false,c,κ,t,T,m,i,es,qs,ks,ps,ls⟩
        | false=>match C.look T j with
          | some q=>runG C S n or c κ (k q.2) T m i ((a,q.1) :: es) qs ks ps ls
          | none=>⟨false,c,κ,t,T,m,i,es,qs,ks,ps,ls⟩
    | .alloc o k=>match o.isFreed with
      | true=>⟨false,c,κ,t,T,m,i,es,qs,ks,ps,ls⟩
      | false=>match (T.ins m o).get m with
        | some _=>runG C S n or c κ (k (C.N + (m - C.p))) (T.ins m o) (m + 1) i es qs ks ps ls
        | none=>⟨false,c,κ,t,T,m,i,es,qs,ks,ps,ls⟩
    | .update a _ f k=>match or with
      | []=>⟨false,c,κ,t,T,m,i,es,qs,ks,ps,ls⟩
      | j :: or=>match T.get (j - 1000) with
        | some o=>match (f o).isFreed with
          | true=>⟨false,c,κ,t,T,m,i,es,qs,ks,ps,ls⟩
          | false=>runG C S n or c κ (k ()) (T.set (j - 1000) f) m i ((a,C.addr (j - 1000)) :: es) qs ks ps ls
        | none=>⟨false,c,κ,t,T,m,i,es,qs,ks,ps,ls⟩
    | .fresh k=>runG C S n or c κ (k (C.T0 + i)) T m (i + 1) es qs ks ps ls
    | .handled own k=>match own with
      | false=>runG C S n or c κ (k none) T m i es qs ks ps ls
      | true=>⟨false,c,κ,t,T,m,i,es,qs,ks,ps,ls⟩
    | .call c' hd _ _ k=>match hd with
      | none=>runG C S n or c' (.ret c k κ) (D (.ret c k κ) c') T m i es qs ks ps ls
      | some _=>⟨false,c,κ,t,T,m,i,es,qs,ks,ps,ls⟩
    | .stack k=>match Nat.blt (unC c + unB κ) 1000 with
      | false=>⟨false,c,κ,t,T,m,i,es,qs,ks,ps,ls⟩
      | true=>match or with
        | []=>⟨false,c,κ,t,T,m,i,es,qs,ks,ps,ls⟩
        | j :: or=>match Nat.beq j 7100 with
          | true=>runG C S n or c κ (k [(c,default)]) T m i es qs ((fun p r=>k ((c,p) :: r),fun _ _=>k [(c,default)]) :: ks) ps ls
          | false=>match Nat.beq j 7110 with
            | true=>runG C S n or c κ (k [(c,default)]) T m i es qs ((fun p r=>k ((c,p) :: r),fun p r=>roomF SL.s11780134324901847377x10 (k [(c,default)]) ((c,p) :: r)) :: ks) ps ls
            | false=>⟨false,c,κ,t,T,m,i,es,qs,ks,ps,ls⟩
    | _=>⟨false,c,κ,t,T,m,i,es,qs,ks,ps,ls⟩
noncomputable def ask1 (C:Cf) (or:List Nat) (c:Code) (κ:Kn) (k:Setting → Sem Fin) (T:BT) (m i:Nat):Option AskO:=match or with
  | []=>none
  | j :: or=>match Nat.beq j 7000 with
    | true=>some ⟨or,true,c,κ,k (C.setB C.b1 true),T,m,i,[],[(⟨c,κ,k (C.setB C.b1 true),T,m,i⟩,⟨c,κ,k (C.setB C.b1 false),T,m,i⟩)],[],[],[]⟩
    | false=>none
noncomputable def run1 (C:Cf):=runG C (ask1 C)
noncomputable def ask2 (C:Cf) (or:List Nat) (c:Code) (κ:Kn) (k:Setting → Sem Fin) (T:BT) (m i:Nat):Option AskO:=match or with
  | []=>none
  | j :: or=>match Nat.beq j 7000 with
    | true=>some ⟨or,true,c,κ,k (C.setB C.b1 true),T,m,i,[],[(⟨c,κ,k (C.setB C.b1 true),T,m,i⟩,⟨c,κ,k (C.setB C.b1 false),T,m,i⟩)],[],[],[]⟩
    | false=>match Nat.beq j 7001 with
      | false=>none
      | true=>match or with
        | n :: l :: or =>
          let o:=run1 C n (or.take l) c κ (k (C.setB false C.b2)) T m i [] [] [] [] []
          some ⟨or.drop l,{ o with c:=c,κ:=κ,t:=k (C.setB true C.b2),T:=T,m:=m,i:=i,qs:=(⟨c,κ,k (C.setB true C.b2),T,m,i⟩,o.pt) :: o.qs }⟩
        | _=>none
noncomputable def run (C:Cf) (n:Nat) (or:List Nat) (c:Code) (κ:Kn) (t:Sem Fin) (T:BT) (m i:Nat):Out:=runG C (ask2 C) n or c κ t T m i [] [] [] [] []
structure Ok (C:Cf) (hb:Heap) (mu:List Addr):Prop where
  len:C.pre.length = C.p
  nd:C.pre.Nodup
  lt:∀ a ∈ C.pre,a < C.N
  out:∀ a ∈ C.pre,a ∈ mu ∨ hb.objs.size ≤ a
  mono:hb.objs.size ≤ C.N
  free:∀ a ∈ C.pre,C.kt.get a = none
  low:∀ a o,C.kt.get a = some o → a < C.N
  ro:∀ q ∈ C.ro,q.1 ∉ C.pre ∧ q.1 < C.N
structure Rep (C:Cf) (hb:Heap) (mu:List Addr) (h:Heap) (T:BT) (m:Nat):Prop where
  size:h.objs.size = C.N + (m - C.p)
  le:C.p ≤ m
  own:∀ j o,T.get j = some o → j < m ∧ h.get? (C.addr j) = some o
  top:∀ a o,C.kt.get a = some o → h.get? a = some o
  ro:∀ q ∈ C.ro,h.get? q.1 = some q.2
  base:∀ b o,hb.get? b = some o → b ∉ mu → h.get? b = some o
section
variable {C:Cf} {hb h:Heap} {mu:List Addr} {T:BT} {m:Nat}
theorem Cf.addr_lo {j:Nat} (hj:j < C.p):C.addr j = C.pre.getD j 0:=by
  unfold Cf.addr; rw [show Nat.blt j C.p = true from Nat.ble_eq_true_of_le hj]
theorem Cf.addr_hi {j:Nat} (hj:C.p ≤ j):C.addr j = C.N + (j - C.p):=by
  unfold Cf.addr
  cases q:Nat.blt j C.p with
  | true=>exact absurd (Nat.le_of_ble_eq_true q:j < C.p) (by lia)
  | false=>rfl
theorem Ok.addr_mem (O:Ok C hb mu) {j:Nat} (hj:j < C.p):C.addr j ∈ C.pre:=by
  rw [Cf.addr_lo hj]
  have:j < C.pre.length:=by rw [O.len]; exact hj
  rw [List.getD_eq_getElem?_getD,List.getElem?_eq_getElem this]
  exact List.getElem_mem this
theorem nodup_inj {l:List Addr} (h:l.Nodup) {i j:Nat} (hi:i < l.length) (hj:j < l.length) (e:l[i] = l[j]):i = j:=by
  have p:=List.pairwise_iff_getElem.mp h
  rcases Nat.lt_trichotomy i j with q | q | q
  · exact absurd e (p i j hi hj q)
  · exact q
  · exact absurd e.symm (p j i hj hi q)
theorem Ok.addr_inj (O:Ok C hb mu) {i j:Nat} (h:C.addr i = C.addr j):i = j:=by
  by_cases hi:i < C.p
  · by_cases hj:j < C.p
    · rw [Cf.addr_lo hi,Cf.addr_lo hj] at h
      have li:i < C.pre.length:=by rw [O.len]; exact hi
      have lj:j < C.pre.length:=by rw [O.len]; exact hj
      rw [List.getD_eq_getElem?_getD,List.getD_eq_getElem?_getD,List.getElem?_eq_getElem li,List.getElem?_eq_getElem lj] at h
      exact nodup_inj O.nd li lj h
    · have:=O.lt _ (O.addr_mem hi)
      rw [h,Cf.addr_hi (by lia)] at this
      exact absurd this (Nat.not_lt.mpr (Nat.le_add_right _ _))
  · by_cases hj:j < C.p
    · have:=O.lt _ (O.addr_mem hj)
      rw [← h,Cf.addr_hi (by lia)] at this
      exact absurd this (Nat.not_lt.mpr (Nat.le_add_right _ _))
    · rw [Cf.addr_hi (by lia),Cf.addr_hi (by lia)] at h
      have:=Nat.add_left_cancel h
      omega
theorem Ok.addr_ne (O:Ok C hb mu) {j:Nat} {b:Addr} (hlt:b < C.N) (hn:b ∉ C.pre):b ≠ C.addr j:=fun x=>by
  by_cases hj:j < C.p
  · exact hn (x ▸ O.addr_mem hj)
  · rw [x,Cf.addr_hi (by lia)] at hlt
    exact absurd hlt (Nat.not_lt.mpr (Nat.le_add_right _ _))
theorem Ok.top_ne (O:Ok C hb mu) {j:Nat} {b:Addr} {o:Obj} (e:C.kt.get b = some o):b ≠ C.addr j :=
  O.addr_ne (O.low b o e) fun hm=>by rw [O.free b hm] at e; cases e
theorem Ok.base_ne (O:Ok C hb mu) {j:Nat} {b:Addr} {o:Obj} (e:hb.get? b = some o) (q:b ∉ mu):b ≠ C.addr j :=
  O.addr_ne (Nat.lt_of_lt_of_le (Heap.lt_size e) O.mono) fun hm=>by
    rcases O.out b hm with y | y
    · exact q y
    · exact absurd (Heap.lt_size e) (Nat.not_lt.mpr y)
theorem Rep.look (D:Rep C hb mu h T m) {j:Nat} {q:Addr × Obj} (e:C.look T j = some q):h.get? q.1 = some q.2:=by
  unfold Cf.look at e
  cases b1:Nat.blt j 1000 with
  | true =>
    rw [b1] at e
    dsimp only at e
    cases hk:C.kt.get j with
    | none=>rw [hk] at e; cases e
    | some o =>
      rw [hk] at e
      cases e
      exact D.top _ _ hk
  | false =>
    rw [b1] at e
    dsimp only at e
    cases b2:Nat.blt j 2000 with
    | true =>
      rw [b2] at e
      dsimp only at e
      cases hk:T.get (j - 1000) with
      | none=>rw [hk] at e; cases e
      | some o =>
        rw [hk] at e
        cases e
        exact (D.own _ _ hk).2
    | false =>
      rw [b2] at e
      have hm:=List.mem_of_getElem? (show C.ro[j - 2000]? = some q from e)
      exact D.ro q hm
theorem Rep.alloc (D:Rep C hb mu h T m) {o:Obj} (hf:o.isFreed = false) (hg:((T.ins m o).get m).isSome = true):Rep C hb mu (h.push o) (T.ins m o) (m + 1):=by
  have hle:=D.le
  refine ⟨by rw [Heap.size_push,D.size]; lia,by lia,fun j o' e=>?_,fun a o' e=>Heap.get?_push_of_some _ (D.top a o' e),fun q hq=>Heap.get?_push_of_some _ (D.ro q hq),fun b o' e q=>Heap.get?_push_of_some _ (D.base b o' e q)⟩
  rw [BT.get_ins o T m hg] at e
  by_cases hj:j = m
  · subst hj
    rw [if_pos rfl] at e
    cases e
    refine ⟨Nat.lt_succ_self _,?_⟩
    rw [Cf.addr_hi hle,← D.size]
    exact Heap.get?_push_size _ hf
  · rw [if_neg hj] at e
    have z:=D.own j o' e
    exact ⟨Nat.lt_succ_of_lt z.1,Heap.get?_push_of_some _ z.2⟩
theorem Rep.update (O:Ok C hb mu) (D:Rep C hb mu h T m) {j:Nat} {o:Obj} {f:Obj → Obj} (e:T.get j = some o) (hf:(f o).isFreed = false):Rep C hb mu (h.update (C.addr j) f) (T.set j f) m:=by
  have z:=D.own _ _ e
  have hs:Heap.SameBut (C.addr j) h (h.update (C.addr j) f):=Heap.SameBut.update ..
  refine ⟨by rw [hs.1,D.size],D.le,fun i o' e'=>?_,fun a o' e'=>(hs.2 a (O.top_ne e')).trans (D.top a o' e'),fun q hq=>(hs.2 _ (O.addr_ne (O.ro q hq).2 (O.ro q hq).1)).trans (D.ro q hq),
    fun b o' e' q=>(hs.2 b (O.base_ne e' q)).trans (D.base b o' e' q)⟩
  rw [BT.get_set] at e'
  by_cases hi:i = j
  · subst hi
    rw [if_pos rfl,e] at e'
    cases e'
    refine ⟨z.1,?_⟩
    first | exact Heap.get?_update_self f z.2 hf | exact Heap.get?_update_self _ z.2 hf
  · rw [if_neg hi] at e'
    have y:=D.own i o' e'
    exact ⟨y.1,(hs.2 _ fun x=>hi (O.addr_inj x)).trans y.2⟩
end
noncomputable def enR (prog:Program) (w:World) (A:Around) (R:Result → Shared → Prop):Kn → Result → Shared → Prop
  | .base=>R
  | .ret c k κ=>postR prog w (arA A κ) c (postC prog w (arA A κ) (enR prog w A R κ)) (postE (enR prog w A R κ)) k
noncomputable def Mn0 (prog:Program) (w:World) (A:Around) (R:Result → Shared → Prop) (c:Code) (κ:Kn) (t:Sem Fin) (s:Shared):Prop :=
  wpOwn (model prog w) (arA A κ) c t (postC prog w (arA A κ) (enR prog w A R κ)) (postE (enR prog w A R κ)) s
section
variable {prog:Program} {w:World} {A:Around} {R:Result → Shared → Prop} {c:Code} {κ:Kn} {s:Shared}
theorem Mn0.code (hA:A.depth ≤ 700) {c':Code} (h:Mn0 prog w A R c' κ (D κ c') s):codeAny (model prog w) (arA A κ) c' (enR prog w A R κ) s :=
  y_code prog w _ _ s c' ((D_im hA κ c').own h)
theorem Mn0.call_any {c':Code} {g:Bool} {l:List Value} {k:Result → Sem Fin} (h:codeAny (model prog w) (arA A (.ret c k κ)) c' (enR prog w A R (.ret c k κ)) s):Mn0 prog w A R c κ (.call c' none g l k) s :=
  y_call _ prog w _ c _ _ s c' none g l k (by intro x; cases x) h
theorem Mn0.call (hA:A.depth ≤ 700) {c':Code} {g:Bool} {l:List Value} {k:Result → Sem Fin} (h:Mn0 prog w A R c' (.ret c k κ) (D (.ret c k κ) c') s):Mn0 prog w A R c κ (.call c' none g l k) s :=
  Mn0.call_any (Mn0.code hA h)
end
structure Out.Met (o:Out):Prop where
  es:∀ q ∈ o.eqs,q.1 = q.2
  qs:∀ q ∈ o.qs,q.1 = q.2
  ks:∀ q ∈ o.ks,q.1 = q.2
  ps:∀ p ∈ o.ps,p
  ls:∀ q ∈ o.ls,q.1 = q.2
section
variable {es es':List (Addr × Addr)} {qs qs':List (Pt × Pt)} {ks ks':List (ActF × ActF)} {ps ps':List Prop} {ls ls':List ((Obj → Sem Fin) × (Obj → Sem Fin))}
noncomputable def Mt (es:List (Addr × Addr)) (qs:List (Pt × Pt)) (ks:List (ActF × ActF)) (ps:List Prop) (ls:List ((Obj → Sem Fin) × (Obj → Sem Fin))):Prop:=(∀ q ∈ es,q.1 = q.2) ∧ (∀ q ∈ qs,q.1 = q.2) ∧ (∀ q ∈ ks,q.1 = q.2) ∧ (∀ p ∈ ps,p) ∧ (∀ q ∈ ls,q.1 = q.2)
theorem Mt.e {x:Addr × Addr} (g:Mt (x :: es) qs ks ps ls):Mt es qs ks ps ls:=⟨fun q h=>g.1 q (.tail _ h),g.2⟩
theorem Mt.k {x:ActF × ActF} (g:Mt es qs (x :: ks) ps ls):Mt es qs ks ps ls:=⟨g.1,g.2.1,fun q h=>g.2.2.1 q (.tail _ h),g.2.2.2⟩
theorem Mt.p {x:Prop} (g:Mt es qs ks (x :: ps) ls):Mt es qs ks ps ls:=⟨g.1,g.2.1,g.2.2.1,fun q h=>g.2.2.2.1 q (.tail _ h),g.2.2.2.2⟩
theorem Mt.l {x:(Obj → Sem Fin) × (Obj → Sem Fin)} (g:Mt es qs ks ps (x :: ls)):Mt es qs ks ps ls:=⟨g.1,g.2.1,g.2.2.1,g.2.2.2.1,fun q h=>g.2.2.2.2 q (.tail _ h)⟩
theorem Mt.app (g:Mt (es' ++ es) (qs' ++ qs) (ks' ++ ks) (ps' ++ ps) (ls' ++ ls)):Mt es qs ks ps ls :=
  ⟨fun q h=>g.1 q (List.mem_append_right _ h),fun q h=>g.2.1 q (List.mem_append_right _ h),fun q h=>g.2.2.1 q (List.mem_append_right _ h),fun q h=>g.2.2.2.1 q (List.mem_append_right _ h),fun q h=>g.2.2.2.2 q (List.mem_append_right _ h)⟩
end
theorem Mt.fst {o:Out} {es:List (Addr × Addr)} {qs:List (Pt × Pt)} {ks:List (ActF × ActF)} {ps:List Prop} {ls:List ((Obj → Sem Fin) × (Obj → Sem Fin))} (g:Mt (o.eqs ++ es) (o.qs ++ qs) (o.ks ++ ks) (o.ps ++ ps) (o.ls ++ ls)):o.Met :=
  ⟨fun q h=>g.1 q (List.mem_append_left _ h),fun q h=>g.2.1 q (List.mem_append_left _ h),fun q h=>g.2.2.1 q (List.mem_append_left _ h),fun q h=>g.2.2.2.1 q (List.mem_append_left _ h),fun q h=>g.2.2.2.2 q (List.mem_append_left _ h)⟩
theorem cU_unC (c:Code) (h:Nat.blt (unC c) 1000 = true):c.cUnits ≤ unC c:=by
  cases c with
  | builtin id args =>
    have e:unC (.builtin id args) = match idOk id with | true=>1 | false=>1000:=rfl
    rw [e] at h ⊢
    cases q:idOk id with
    | false=>rw [q] at h; cases h
    | true =>
      show _ ≤ 1
      rcases idOk_is q with p | rfl
      · rw [plainId_units p args]; exact Nat.le_refl _
      · have hf:(Code.builtin "type.__call__" args).frames = 0:=by kernel_rfl
        simp [Code.cUnits,hf]
  | call f a=>show 1 ≤ 3; lia
  | body b e=>exact Nat.le_refl _
  | block b e=>exact Nat.zero_le _
  | handlers x hs e=>exact Nat.zero_le _
  | starHandlers=>exact Nat.zero_le _
  | func b e=>exact Nat.le_refl _
  | expr b e=>exact Nat.le_refl _
  | whileLoop=>exact Nat.zero_le _
  | forLoop=>exact Nat.zero_le _
  | asyncForLoop=>exact Nat.zero_le _
  | compStart e d i a env=>show 3 * (if (Code.compStart e d i a env).isFrame then 1 else 0) ≤ 3; split <;> lia
  | compLoop e d i a env=>show 3 * (if (Code.compLoop e d i a env).isFrame then 1 else 0) ≤ 3; split <;> lia
theorem unB_is (c:Code) (k:Result → Sem Fin) (κ:Kn):unB (.ret c k κ) = unC c + unB κ:=rfl
theorem arA_units (A:Around):∀ κ:Kn,unB κ < 1000 → (arA A κ).units ≤ A.units + unB κ
  | .base,_=>Nat.le_refl _
  | .ret c k κ,h=>by
    rw [unB_is] at h ⊢
    have:=arA_units A κ (by lia)
    have hw:=cU_unC c (Nat.ble_eq_true_of_le (by lia))
    show (arA A κ).units + c.cUnits ≤ _
    lia
theorem roomF_lt {what:String} {rest:Sem Fin} {acts:Acts} (h:unitsOf acts < cLine):roomF what rest acts = rest:=by
  unfold roomF
  rw [← Fast.te3755427657022040156,← Fast.te165980757501359005]
  refine if_neg ?_
  show ¬ (_ ≥ cLine)
  unfold unitsOf at h
  simp only [R.mapR_eq] at *
  lia
noncomputable def AskSound (prog:Program) (w:World) (A:Around) (R:Result → Shared → Prop) (C:Cf) (hb:Heap) (mu:List Addr) (g:Array GenState) (d:Drawn) (os:OsState)
    (S:List Nat → Code → Kn → (Setting → Sem Fin) → BT → Nat → Nat → Option AskO):Prop :=
  ∀ or c κ k T m i a h,S or c κ k T m i = some a → a.o.ok = true → a.o.Met → Rep C hb mu h T m →
    (∀ h',Rep C hb mu h' a.o.T a.o.m → Mn0 prog w A R a.o.c a.o.κ a.o.t ⟨h',g,d,C.T0 + a.o.i,os⟩) → Mn0 prog w A R c κ (.ask k) ⟨h,g,d,C.T0 + i,os⟩
section
variable {prog:Program} {w:World} {A:Around} {R:Result → Shared → Prop} {C:Cf} {hb:Heap} {mu:List Addr} {g:Array GenState} {d:Drawn} {os:OsState}
theorem Mn0.ask {c:Code} {κ:Kn} {k:Setting → Sem Fin} {s:Shared} (z:Mn0 prog w A R c κ (k ⟨prog,w.params⟩) s):Mn0 prog w A R c κ (.ask k) s :=
  wpOwn_bind (m:=PySem.ask) (f:=k) (wpOwn_of_wpAny (wpAny_askSetting z))
structure Fine (prog:Program) (w:World) (A:Around) (R:Result → Shared → Prop) (C:Cf) (hb:Heap) (mu:List Addr) (g:Array GenState) (d:Drawn) (os:OsState) (o:Out):Prop where
  ok:o.ok = true
  met:o.Met
  K:∀ h',Rep C hb mu h' o.T o.m → Mn0 prog w A R o.c o.κ o.t ⟨h',g,d,C.T0 + o.i,os⟩
theorem Fine.no {o:Out} {P:Prop} (H:Fine prog w A R C hb mu g d os o) (e:o.ok = false):P:=nomatch e.symm.trans H.ok
theorem runG_sound {S:List Nat → Code → Kn → (Setting → Sem Fin) → BT → Nat → Nat → Option AskO} (O:Ok C hb mu) (hset:C.set = ⟨prog,w.params⟩) (hA:A.depth ≤ 700 ∧ A.units ≤ 5000) (hh:A.handled = none) (hS:AskSound prog w A R C hb mu g d os S) :
    ∀ n or c κ t T m i es qs ks ps ls,Fine prog w A R C hb mu g d os (runG C S n or c κ t T m i es qs ks ps ls) →
      Mt es qs ks ps ls ∧ ∀ h,Rep C hb mu h T m → Mn0 prog w A R c κ t ⟨h,g,d,C.T0 + i,os⟩:=by
  intro n
  induction n with
  | zero=>intro or c κ t T m i es qs ks ps ls H; exact ⟨⟨H.met.es,H.met.qs,H.met.ks,H.met.ps,H.met.ls⟩,H.K⟩
  | succ n ih =>
    intro or c κ t T m i es qs ks ps ls H
    cases t with
    | pure fin =>
      cases fin with
      | done f =>
        cases κ with
        | base=>exact H.no rfl
        | ret c' k κ' =>
          cases or with
          | nil =>
            have z:=ih [] c' κ' (k (.ok f)) T m i es qs ks ps ls H
            exact ⟨z.1,fun h D=>y_pure _ prog w _ _ _ _ _ _ (z.2 h D)⟩
          | cons j or' =>
            cases hd:dec j with
            | none =>
              cases h3:Nat.beq j 7203 with
              | true =>
                cases f with
                | ret x =>
                  cases x with
                  | bool x =>
                    simp only [runG,hd,h3] at H
                    have z:=ih or' c' κ' (k (.ok (.ret (.bool x)))) T m i es qs ks ps ls H
                    exact ⟨z.1,fun h D=>y_pure _ prog w _ _ _ _ _ _ (z.2 h D)⟩
                  | _ =>
                    simp only [runG,hd,h3] at H
                    have z:=ih (j :: or') c' κ' _ T m i es qs ks ps ls H
                    exact ⟨z.1,fun h D=>y_pure _ prog w _ _ _ _ _ _ (z.2 h D)⟩
                | _ =>
                  simp only [runG,hd,h3] at H
                  have z:=ih (j :: or') c' κ' _ T m i es qs ks ps ls H
                  exact ⟨z.1,fun h D=>y_pure _ prog w _ _ _ _ _ _ (z.2 h D)⟩
              | false =>
                simp only [runG,hd,h3] at H
                have z:=ih (j :: or') c' κ' (k (.ok f)) T m i es qs ks ps ls H
                exact ⟨z.1,fun h D=>y_pure _ prog w _ _ _ _ _ _ (z.2 h D)⟩
            | some v =>
              cases f with
              | ret x =>
                cases x with
                | bool x =>
                  simp only [runG,hd] at H
                  have z:=ih or' c' κ' (k (.ok (.ret (.bool v)))) T m i es qs ks _ ls H
                  exact ⟨z.1.p,fun h D=>y_pure _ prog w _ _ _ _ _ _ (z.1.2.2.2.1 _ (.head _) ▸ z.2 h D)⟩
                | _ =>
                  simp only [runG,hd] at H
                  have z:=ih (j :: or') c' κ' _ T m i es qs ks ps ls H
                  exact ⟨z.1,fun h D=>y_pure _ prog w _ _ _ _ _ _ (z.2 h D)⟩
              | _ =>
                simp only [runG,hd] at H
                have z:=ih (j :: or') c' κ' _ T m i es qs ks ps ls H
                exact ⟨z.1,fun h D=>y_pure _ prog w _ _ _ _ _ _ (z.2 h D)⟩
      | again c' =>
        cases hq:quietB c' with
        | false=>simp only [runG,hq] at H; exact H.no rfl
        | true =>
          simp only [runG,hq] at H
          have z:=ih or c' κ (Mine.D κ c') T m i es qs ks ps ls H
          exact ⟨z.1,fun h D=>y_pure _ prog w _ _ _ _ _ _ (y_again prog w _ _ _ c' (quietB_quiet hq) (Mn0.code hA.1 (z.2 h D)))⟩
    | raise e =>
      cases κ with
      | base=>exact H.no rfl
      | ret c' k κ' =>
        have z:=ih or c' κ' (k (.error e)) T m i es qs ks ps ls H
        exact ⟨z.1,fun h D=>y_raise _ prog w _ _ _ _ _ _ (z.2 h D)⟩
    | rule tg k =>
      have z:=ih or c κ (k ()) T m i es qs ks ps ls H
      exact ⟨z.1,fun h D=>wpOwn_bind (m:=rule tg) (f:=k) (wpOwn_of_wpAny (wpAny_rule (z.2 h D)))⟩
    | «at» p k =>
      have z:=ih or c κ (k ()) T m i es qs ks ps ls H
      exact ⟨z.1,fun h D=>wpOwn_bind (m:=standAt p) (f:=k) (wpOwn_of_wpAny (wpAny_standAt (z.2 h D)))⟩
    | point l k =>
      have z:=ih or c κ (k ()) T m i es qs ks ps ls H
      exact ⟨z.1,fun h D Γ p hc hΓ=>z.2 h D Γ p hc hΓ⟩
    | ask k =>
      cases hs:S or c κ k T m i with
      | none =>
        simp only [runG,hs] at H
        have z:=ih or c κ (k C.set) T m i es qs ks ps ls H
        rw [hset] at z
        exact ⟨z.1,fun h D=>Mn0.ask (z.2 h D)⟩
      | some a =>
        cases ha:a.o.ok with
        | false=>simp only [runG,hs,ha] at H; exact H.no rfl
        | true =>
          simp only [runG,hs,ha] at H
          have z:=ih a.or a.o.c a.o.κ a.o.t a.o.T a.o.m a.o.i _ _ _ _ _ H
          exact ⟨z.1.app,fun h D=>hS or c κ k T m i a h hs ha z.1.fst D z.2⟩
    | load a p k =>
      cases or with
      | nil=>exact H.no rfl
      | cons j or =>
       cases h73:Nat.beq j 7300 with
       | true =>
        cases or with
        | nil=>simp only [runG,h73] at H; exact H.no rfl
        | cons j or =>
         cases hl:C.look T j with
         | none=>simp only [runG,h73,hl] at H; exact H.no rfl
         | some q =>
          simp only [runG,h73,hl] at H
          have z:=ih or c κ (k lk0) T m i _ qs ks _ _ H
          have e:a = q.1:=z.1.1 (a,q.1) (.head _)
          have e2:q.2.data.pastItsLine = none:=z.1.2.2.2.1 _ (.head _)
          have e3:k = lookF (k lk0):=z.1.2.2.2.2 (k,lookF (k lk0)) (.head _)
          have e4:k q.2 = k lk0:=(congrFun e3 q.2).trans (by unfold lookF; rw [e2])
          refine ⟨z.1.e.p.l,fun h D=>?_⟩
          have ho:=D.look hl
          rw [← e] at ho
          exact y_load _ prog w _ c _ _ h g d (C.T0 + i) os a p k q.2 ho (e4 ▸ z.2 h D)
       | false =>
        cases hl:C.look T j with
        | none=>simp only [runG,h73,hl] at H; exact H.no rfl
        | some q =>
          simp only [runG,h73,hl] at H
          have z:=ih or c κ (k q.2) T m i _ qs ks ps ls H
          have e:a = q.1:=z.1.1 (a,q.1) (.head _)
          refine ⟨z.1.e,fun h D=>?_⟩
          have ho:=D.look hl
          rw [← e] at ho
          exact y_load _ prog w _ c _ _ h g d (C.T0 + i) os a p k q.2 ho (z.2 h D)
    | alloc o k =>
      cases hf:o.isFreed with
      | true=>simp only [runG,hf] at H; exact H.no rfl
      | false =>
        cases hg:(T.ins m o).get m with
        | none=>simp only [runG,hf,hg] at H; exact H.no rfl
        | some x =>
          simp only [runG,hf,hg] at H
          have z:=ih or c κ (k (C.N + (m - C.p))) (T.ins m o) (m + 1) i es qs ks ps ls H
          refine ⟨z.1,fun h D=>?_⟩
          have z:=z.2 (h.push o) (D.alloc hf (by rw [hg]; rfl))
          rw [← D.size] at z
          exact wpOwn_bind (m:=alloc o) (f:=k) (wpOwn_of_wpAny (wpAny_alloc z))
    | update a p f k =>
      cases or with
      | nil=>exact H.no rfl
      | cons j or =>
        cases hl:T.get (j - 1000) with
        | none=>simp only [runG,hl] at H; exact H.no rfl
        | some o =>
          cases hf:(f o).isFreed with
          | true=>simp only [runG,hl,hf] at H; exact H.no rfl
          | false =>
            simp only [runG,hl,hf] at H
            have z:=ih or c κ (k ()) (T.set (j - 1000) f) m i _ qs ks ps ls H
            have e:a = C.addr (j - 1000):=z.1.1 (a,C.addr (j - 1000)) (.head _)
            refine ⟨z.1.e,fun h D=>?_⟩
            have z:=z.2 _ (D.update O hl hf)
            have ho:=(D.own _ _ hl).2
            rw [← e] at z ho
            exact wpOwn_bind (m:=updatePart a p f) (f:=k) (wpOwn_of_wpAny (wpAny_updatePart ho z))
    | fresh k =>
      have z:=ih or c κ (k (C.T0 + i)) T m (i + 1) es qs ks ps ls H
      exact ⟨z.1,fun h D=>y_fresh _ prog w _ c _ _ h g d (C.T0 + i) os k (z.2 h D)⟩
    | handled own k =>
      cases own with
      | true=>exact H.no rfl
      | false =>
        have z:=ih or c κ (k none) T m i es qs ks ps ls H
        refine ⟨z.1,fun h D=>y_handled _ prog w _ c _ _ _ k ?_⟩
        rw [arA_handled,hh]
        exact z.2 h D
    | call c' hd gd l k =>
      cases hd with
      | some v=>exact H.no rfl
      | none =>
        have z:=ih or c' (.ret c k κ) (Mine.D (.ret c k κ) c') T m i es qs ks ps ls H
        exact ⟨z.1,fun h D=>Mn0.call hA.1 (z.2 h D)⟩
    | stack k =>
      cases hu:Nat.blt (unC c + unB κ) 1000 with
      | false=>simp only [runG,hu] at H; exact H.no rfl
      | true =>
        cases or with
        | nil=>simp only [runG,hu] at H; exact H.no rfl
        | cons j or =>
          have go':∀ (h:Heap) (f:ActF),(∀ p r,unitsOf ((c,p) :: r) < cLine → f p r = k [(c,default)]) → (fun p r=>k ((c,p) :: r)) = f → Mn0 prog w A R c κ (k [(c,default)]) ⟨h,g,d,C.T0 + i,os⟩ → Mn0 prog w A R c κ (.stack k) ⟨h,g,d,C.T0 + i,os⟩:=fun h f hf hk z Γ p hc hΓ=>by
            rw [Sem.wp_stack]
            have hun:unitsOf ((Γ.code,p) :: Γ.below) < cLine:=by
              have h1:=hΓ.2.2.2.2
              have h3:unC c + unB κ < 1000:=Nat.le_of_ble_eq_true hu
              rw [unitsOf_cons,hc]
              show _ < 9900
              have h5:=cU_unC c (Nat.ble_eq_true_of_le (by lia))
              have:=arA_units A κ (by lia)
              have:=hA.2
              lia
            have e:=hf p Γ.below (by rw [← hc]; exact hun)
            have e':k ((c,p) :: Γ.below) = f p Γ.below:=congrFun (congrFun hk p) Γ.below
            rw [hc,e',e]
            exact z Γ p hc hΓ
          cases h1:Nat.beq j 7100 with
          | true =>
            simp only [runG,hu,h1] at H
            have z:=ih or c κ (k [(c,default)]) T m i es qs _ ps ls H
            exact ⟨z.1.k,fun h D=>go' h _ (fun _ _ _=>rfl) (z.1.2.2.1 _ (.head _)) (z.2 h D)⟩
          | false =>
            cases h2:Nat.beq j 7110 with
            | true =>
              simp only [runG,hu,h1,h2] at H
              have z:=ih or c κ (k [(c,default)]) T m i es qs _ ps ls H
              exact ⟨z.1.k,fun h D=>go' h _ (fun _ _ x=>roomF_lt x) (z.1.2.2.1 _ (.head _)) (z.2 h D)⟩
            | false=>simp only [runG,hu,h1,h2] at H; exact H.no rfl
    | unsupported x=>exact H.no rfl
    | finish e=>exact H.no rfl
    | register a k=>exact H.no rfl
    | choose a b k=>exact H.no rfl
    | os a b k=>exact H.no rfl
    | loadIfAlive a k=>exact H.no rfl
    | newGen a k=>exact H.no rfl
    | genState a k=>exact H.no rfl
    | resume a b l k=>exact H.no rfl
    | yield a b l k=>exact H.no rfl
    | fork a k=>exact H.no rfl
    | thread k=>exact H.no rfl
    | await a b l k=>exact H.no rfl
theorem set_par {b1 b2:Bool} (F:Follows w b1 b2) (hC:C.P = w.params ∧ C.prg = prog ∧ C.b1 = b1 ∧ C.b2 = b2):C.setB b1 b2 = ⟨prog,w.params⟩:=by
  unfold Cf.setB
  rw [hC.1,hC.2.1,follow2_eq F]
theorem ask1_sound (F:Follows w C.b1 C.b2) (hC:C.P = w.params ∧ C.prg = prog):AskSound prog w A R C hb mu g d os (ask1 C):=by
  intro or c κ k T m i a h e ok met D K
  cases or with
  | nil=>cases e
  | cons j or =>
    unfold ask1 at e
    cases hj:Nat.beq j 7000 with
    | false=>simp only [hj] at e; cases e
    | true =>
      simp only [hj] at e
      cases e
      have q:=met.qs _ (.head _)
      have q':k (C.setB C.b1 true) = k (C.setB C.b1 false):=congrArg Pt.t q
      refine Mn0.ask ?_
      have z:=K h D
      have s:=set_par F ⟨hC.1,hC.2,rfl,rfl⟩
      rw [← s]
      cases hb2:C.b2 with
      | true=>exact z
      | false=>rw [← q']; exact z
theorem ask2_sound (F:Follows w C.b1 C.b2) (hC:C.P = w.params ∧ C.prg = prog) (O:Ok C hb mu) (hset:C.set = ⟨prog,w.params⟩) (hA:A.depth ≤ 700 ∧ A.units ≤ 5000) (hh:A.handled = none):AskSound prog w A R C hb mu g d os (ask2 C):=by
  intro or c κ k T m i a h e ok met D K
  cases or with
  | nil=>cases e
  | cons j or =>
    unfold ask2 at e
    cases hj:Nat.beq j 7000 with
    | true =>
      simp only [hj] at e
      exact ask1_sound F hC (j :: or) c κ k T m i a h (by unfold ask1; simp only [hj]; exact e) ok met D K
    | false =>
      cases hj2:Nat.beq j 7001 with
      | false=>simp only [hj,hj2] at e; cases e
      | true =>
        simp only [hj,hj2] at e
        rcases or with _ | ⟨n,_ | ⟨l,or⟩⟩
        · cases e
        · cases e
        · simp only at e
          cases e
          have q:=met.qs _ (.head _)
          refine Mn0.ask ?_
          have s:=set_par F ⟨hC.1,hC.2,rfl,rfl⟩
          rw [← s]
          cases hb1:C.b1 with
          | true=>exact K h D
          | false =>
            refine (runG_sound O hset hA hh (ask1_sound F hC) n (or.take l) c κ _ T m i [] [] [] [] [] ⟨ok,⟨met.es,fun q hq=>met.qs q (.tail _ hq),met.ks,met.ps,met.ls⟩,fun h' D'=>?_⟩).2 h D
            have q1:c = _:=congrArg Pt.c q
            have q2:κ = _:=congrArg Pt.κ q
            have q3:k (C.setB true C.b2) = _:=congrArg Pt.t q
            have q4:T = _:=congrArg Pt.T q
            have q5:m = _:=congrArg Pt.m q
            have q6:i = _:=congrArg Pt.i q
            dsimp only [Out.pt,run1] at q1 q2 q3 q4 q5 q6
            rw [← q1,← q2,← q3,← q6]
            refine K h' ?_
            rw [← q4,← q5] at D'
            exact D'
theorem run_sound (F:Follows w C.b1 C.b2) (hC:C.P = w.params ∧ C.prg = prog) (O:Ok C hb mu) (hA:A.depth ≤ 700 ∧ A.units ≤ 5000) (hh:A.handled = none) :
    ∀ n or c κ t T m i h,Rep C hb mu h T m → (run C n or c κ t T m i).ok = true → (run C n or c κ t T m i).Met →
      (∀ h',Rep C hb mu h' (run C n or c κ t T m i).T (run C n or c κ t T m i).m →
        Mn0 prog w A R (run C n or c κ t T m i).c (run C n or c κ t T m i).κ (run C n or c κ t T m i).t ⟨h',g,d,C.T0 + (run C n or c κ t T m i).i,os⟩) →
      Mn0 prog w A R c κ t ⟨h,g,d,C.T0 + i,os⟩:=fun n or c κ t T m i h D ok met K =>
  have hset:=set_par F ⟨hC.1,hC.2,rfl,rfl⟩
  (runG_sound O hset hA hh (ask2_sound F hC O hset hA hh) n or c κ t T m i [] [] [] [] [] ⟨ok,met,K⟩).2 h D
end
end Mine
set_option genInjectivity false
set_option genSizeOf false
namespace Mine
open PySem PySem.W PySem.W.X
noncomputable def ktDel:KT → Nat → KT
  | .nil,_=>.nil
  | .node v l r,i=>match Nat.beq i 0 with
    | true=>.node none l r
    | false=>match Nat.beq (i % 2) 1 with
      | true=>.node v (ktDel l (i / 2)) r
      | false=>.node v l (ktDel r (i / 2 - 1))
theorem two_mod {i:Nat} (p:¬ i % 2 = 1):i % 2 = 0:=(Nat.mod_two_eq_zero_or_one i).resolve_right p
theorem odd_half {i j:Nat} (p:i % 2 = 1) (q:j % 2 = 1) (e:j / 2 = i / 2):j = i:=by
  rw [← Nat.div_add_mod j 2,← Nat.div_add_mod i 2,e,p,q]
theorem even_half {i j:Nat} (hi:i ≠ 0) (hj:j ≠ 0) (p:¬ i % 2 = 1) (q:¬ j % 2 = 1) (e:j / 2 - 1 = i / 2 - 1):j = i:=by
  have a:=two_mod p
  have b:=two_mod q
  have c:=Nat.div_add_mod j 2
  have d:=Nat.div_add_mod i 2
  rw [a] at d
  rw [b] at c
  generalize j / 2 = x at c e
  generalize i / 2 = y at d e
  clear a b p q
  lia
theorem ktDel_get:∀ (t:KT) (i j:Nat),(ktDel t i).get j = if j = i then none else t.get j
  | .nil,i,j=>by unfold ktDel; split <;> rfl
  | .node v l r,i,j=>by
    have ih1:=ktDel_get l
    have ih2:=ktDel_get r
    unfold ktDel
    rw [BT.beq_eq,BT.beq_eq]
    by_cases hi:i = 0
    · rw [decide_eq_true hi]
      show (KT.node none l r).get j = _
      rw [KT.get_node,KT.get_node]
      by_cases hj:j = 0
      · rw [if_pos hj,if_pos (show j = i from hj.trans hi.symm)]
      · rw [if_neg (show ¬ j = i from fun e=>hj (e.trans hi)),if_neg hj,if_neg hj]
    · rw [decide_eq_false hi]
      have ni:j = 0 → ¬ j = i:=fun hj e=>hi (e.symm.trans hj)
      by_cases p:i % 2 = 1
      · rw [decide_eq_true p]
        show (KT.node v (ktDel l (i / 2)) r).get j = _
        rw [KT.get_node,KT.get_node,ih1]
        by_cases hj:j = 0
        · rw [if_pos hj,if_pos hj,if_neg (ni hj)]
        · rw [if_neg hj,if_neg hj]
          by_cases q:j % 2 = 1
          · rw [if_pos q,if_pos q]
            by_cases e:j = i
            · rw [if_pos e,if_pos (congrArg (· / 2) e)]
            · rw [if_neg e,if_neg (fun x=>e (odd_half p q x))]
          · rw [if_neg q,if_neg q,if_neg (show ¬ j = i from fun e=>q (by rw [e]; exact p))]
      · rw [decide_eq_false p]
        show (KT.node v l (ktDel r (i / 2 - 1))).get j = _
        rw [KT.get_node,KT.get_node,ih2]
        by_cases hj:j = 0
        · rw [if_pos hj,if_pos hj,if_neg (ni hj)]
        · rw [if_neg hj,if_neg hj]
          by_cases q:j % 2 = 1
          · rw [if_pos q,if_pos q,if_neg (show ¬ j = i from fun e=>p (by rw [← e]; exact q))]
          · rw [if_neg q,if_neg q]
            by_cases e:j = i
            · rw [if_pos e,if_pos (congrArg (· / 2 - 1) e)]
            · rw [if_neg e,if_neg (fun x=>e (even_half hi hj p q x))]
noncomputable def kt (P:Params):KT:=ktDel (ktDel (ktDel (Mine.hd.ktop_431 P) 169) 176) 181
theorem kt_free (P:Params):(kt P).get 169 = none ∧ (kt P).get 176 = none ∧ (kt P).get 181 = none:=by
  unfold kt
  refine ⟨?_,?_,?_⟩ <;> simp [ktDel_get]
noncomputable def TopOk (w:World) (h:Heap):Prop:=∀ a o,(kt w.params).get a = some o → h.get? a = some o
noncomputable def Keeps (h h':Heap):Prop:=∀ b o,h.get? b = some o → h'.get? b = some o
noncomputable def KeepsBut (md:List Addr) (h h':Heap):Prop:=∀ b o,h.get? b = some o → b ∉ md → h'.get? b = some o
theorem Keeps.refl (h:Heap):Keeps h h:=fun _ _ e=>e
theorem Keeps.trans {a b c:Heap} (x:Keeps a b) (y:Keeps b c):Keeps a c:=fun _ _ e=>y _ _ (x _ _ e)
theorem TopOk.keeps {w:World} {h h':Heap} (t:TopOk w h) (k:Keeps h h'):TopOk w h':=fun a o e=>k a o (t a o e)
noncomputable abbrev prog:Program:=PySem.Challenge.pw_qh0009_01
noncomputable def cf (w:World) (b1 b2:Bool) (ro:List (Addr × Obj)) (pre:List Addr) (p N T0:Nat):Cf:=⟨prog,w.params,b1,b2,kt w.params,ro,pre,p,N,T0⟩
noncomputable def Lo (A:Around) (n:Nat):Prop:=A.depth ≤ 280 + n / 2 ∧ A.units ≤ 6 * n
theorem Lo.mono {A:Around} {n m:Nat} (h:Lo A n) (e:n ≤ m):Lo A m:=⟨Nat.le_trans h.1 (Nat.add_le_add_left (Nat.div_le_div_right e) _),Nat.le_trans h.2 (Nat.mul_le_mul_left 6 e)⟩
noncomputable def AllP:List Prop → Prop
  | []=>True
  | p :: r=>p ∧ AllP r
theorem AllP.mem:∀ {l:List Prop},AllP l → ∀ p ∈ l,p
  | [],_,_,h=>nomatch h
  | _ :: _,a,p,h=>by
    rcases List.mem_cons.mp h with rfl | h
    · exact a.1
    · exact AllP.mem a.2 p h
noncomputable def mkFrom:BT → Nat → List Obj → BT
  | T,_,[]=>T
  | T,i,o :: os=>mkFrom (T.ins i o) (i + 1) os
noncomputable def chkFrom:BT → Nat → List Obj → Bool
  | _,_,[]=>true
  | T,i,o :: os=>match (T.ins i o).get i with
    | some _=>chkFrom (T.ins i o) (i + 1) os
    | none=>false
noncomputable def mkT (os:List Obj):BT:=mkFrom .nil 0 os
theorem mkFrom_a1 {i j n:Nat} (h:j = i):¬ (i + 1 ≤ j ∧ j < i + 1 + n):=by lia
theorem mkFrom_a2 {i n:Nat}:i ≤ i ∧ i < i + (n + 1):=by lia
theorem mkFrom_a3 {i j n:Nat} (c:i + 1 ≤ j ∧ j < i + 1 + n):(i ≤ j ∧ j < i + (n + 1)) ∧ j - i = (j - (i + 1)) + 1:=by lia
theorem mkFrom_a4 {i j n:Nat} (c:¬ (i + 1 ≤ j ∧ j < i + 1 + n)) (e:j ≠ i):¬ (i ≤ j ∧ j < i + (n + 1)):=by lia
theorem mkFrom_get:∀ (os:List Obj) (T:BT) (i:Nat),chkFrom T i os = true → ∀ j,(mkFrom T i os).get j = if i ≤ j ∧ j < i + os.length then os[j - i]? else T.get j
  | [],T,i,_,j=>by
    show T.get j = _
    rw [if_neg (fun x=>Nat.lt_irrefl _ (Nat.lt_of_lt_of_le x.2 x.1))]
  | o :: os,T,i,h,j=>by
    unfold chkFrom at h
    cases q:(T.ins i o).get i with
    | none=>rw [q] at h; cases h
    | some x =>
      rw [q] at h
      show (mkFrom (T.ins i o) (i + 1) os).get j = if i ≤ j ∧ j < i + (os.length + 1) then _ else _
      rw [mkFrom_get os _ _ h j,BT.get_ins o T i (by rw [q]; rfl) j]
      by_cases e:j = i
      · rw [if_neg (mkFrom_a1 e),if_pos e,e,if_pos mkFrom_a2,Nat.sub_self]; rfl
      · by_cases c:i + 1 ≤ j ∧ j < i + 1 + os.length
        · rw [if_pos c,if_pos (mkFrom_a3 c).1,(mkFrom_a3 c).2,List.getElem?_cons_succ]
        · rw [if_neg c,if_neg e,if_neg (mkFrom_a4 c e)]
theorem mkT_get {os:List Obj} (h:chkFrom .nil 0 os = true) (j:Nat):(mkT os).get j = os[j]?:=by
  unfold mkT
  rw [mkFrom_get os .nil 0 h j]
  by_cases c:j < os.length
  · rw [if_pos (by lia)]; rfl
  · rw [if_neg (by lia),List.getElem?_eq_none (by lia)]; rfl
theorem start0 {w:World} {b1 b2:Bool} {ro:List (Addr × Obj)} {s:Shared} (tp:TopOk w s.heap) (hro:∀ q ∈ ro,s.heap.get? q.1 = some q.2) :
    Ok (cf w b1 b2 ro [] 0 s.heap.objs.size s.toks) s.heap [] ∧ Rep (cf w b1 b2 ro [] 0 s.heap.objs.size s.toks) s.heap [] s.heap .nil 0 :=
  ⟨⟨rfl,List.nodup_nil,fun _ h=>(nomatch h),fun _ h=>(nomatch h),Nat.le_refl _,fun _ h=>(nomatch h),fun a o e=>Heap.lt_size (tp a o e),fun q hq=>⟨fun h=>(nomatch h),Heap.lt_size (hro q hq)⟩⟩,
   ⟨rfl,Nat.le_refl _,fun _ _ e=>(nomatch e),fun a o e=>tp a o e,hro,fun _ _ e _=>e⟩⟩
theorem startM {w:World} {b1 b2:Bool} {ro:List (Addr × Obj)} {pre:List Addr} {os:List Obj} {s:Shared} (tp:TopOk w s.heap) (hro:∀ q ∈ ro,s.heap.get? q.1 = some q.2 ∧ q.1 ∉ pre)
    (hl:pre.length = os.length) (hn:pre.Nodup) (hf:∀ a ∈ pre,(kt w.params).get a = none) (hp:∀ q ∈ pre.zip os,s.heap.get? q.1 = some q.2) (hc:chkFrom .nil 0 os = true) {p:Nat} (e:pre.length = p) :
    Ok (cf w b1 b2 ro pre p s.heap.objs.size s.toks) s.heap pre ∧ Rep (cf w b1 b2 ro pre p s.heap.objs.size s.toks) s.heap pre s.heap (mkT os) p:=by
  subst e
  have at_:∀ j o,os[j]? = some o → ∃ a,pre[j]? = some a ∧ s.heap.get? a = some o:=fun j o ho=>by
    obtain ⟨lj,hj⟩:=List.getElem?_eq_some_iff.mp ho
    have lj':j < pre.length:=by rw [hl]; exact lj
    refine ⟨pre[j],List.getElem?_eq_getElem lj',?_⟩
    have:=hp (pre[j],os[j]) (by
      have lz:j < (pre.zip os).length:=by rw [List.length_zip]; lia
      have:(pre.zip os)[j] = (pre[j],os[j]):=List.getElem_zip
      rw [← this]; exact List.getElem_mem lz)
    rw [hj] at this; exact this
  have lts:∀ a ∈ pre,a < s.heap.objs.size:=fun a ha=>by
    obtain ⟨j,lj,rfl⟩:=List.getElem_of_mem ha
    obtain ⟨a',h1,h2⟩:=at_ j os[j] (List.getElem?_eq_getElem (by rw [← hl]; exact lj))
    rw [List.getElem?_eq_getElem lj] at h1
    cases h1
    exact Heap.lt_size h2
  refine ⟨⟨rfl,hn,lts,fun a ha=>.inl ha,Nat.le_refl _,hf,fun a o e=>Heap.lt_size (tp a o e),fun q hq=>⟨(hro q hq).2,Heap.lt_size (hro q hq).1⟩⟩,
    ⟨by show _ = _ + (pre.length - pre.length); rw [Nat.sub_self]; rfl,Nat.le_refl _,fun j o e=>?_,fun a o e=>tp a o e,fun q hq=>(hro q hq).1,fun _ _ e _=>e⟩⟩
  rw [mkT_get hc] at e
  obtain ⟨a,h1,h2⟩:=at_ j o e
  obtain ⟨lj,hj⟩:=List.getElem?_eq_some_iff.mp h1
  refine ⟨lj,?_⟩
  rw [Cf.addr_lo (C:=cf w b1 b2 ro pre pre.length s.heap.objs.size s.toks) lj]
  show s.heap.get? (pre.getD j 0) = _
  rw [List.getD_eq_getElem?_getD,h1]
  exact h2
noncomputable def upF (N k:Nat):List Addr:=(List.range k).map (N + ·)
theorem upF_get (N k j:Nat) (h:j < k):(upF N k)[j]? = some (N + j):=by
  unfold upF
  rw [List.getElem?_map,List.getElem?_range h]; rfl
noncomputable def Cf.re (C:Cf) (m:Nat) (ext:List Addr) (rx:List (Addr × Obj)) (N' t':Nat):Cf:={ C with ro:=C.ro ++ rx,pre:=C.pre ++ upF C.N (m - C.p) ++ ext,p:=m + ext.length,N:=N',T0:=t' }
section
variable {C:Cf} {hb h h':Heap} {mu:List Addr} {T T':BT} {m t':Nat}
theorem pre_own (O:Ok C hb mu) (D:Rep C hb mu h T m) {j:Nat} (hj:j < m) (ext:List Addr):(C.pre ++ upF C.N (m - C.p) ++ ext).getD j 0 = C.addr j:=by
  have hle:=D.le
  rw [List.getD_eq_getElem?_getD]
  by_cases q:j < C.p
  · have l1:j < C.pre.length:=by rw [O.len]; exact q
    rw [List.append_assoc,List.getElem?_append_left l1,Cf.addr_lo q,List.getD_eq_getElem?_getD]
  · have l1:¬ j < C.pre.length:=by rw [O.len]; exact q
    have l2:(upF C.N (m - C.p)).length = m - C.p:=by simp [upF]
    rw [List.append_assoc,List.getElem?_append_right (by lia),List.getElem?_append_left (by rw [l2,O.len]; lia),upF_get _ _ _ (by rw [O.len]; lia),Cf.addr_hi (by lia),O.len]
    rfl
theorem mem_own (D:Rep C hb mu h T m) {a:Addr} (ha:a ∈ upF C.N (m - C.p)):C.N ≤ a ∧ a < h.objs.size:=by
  have hle:=D.le
  unfold upF at ha
  obtain ⟨i,hi,rfl⟩:=List.mem_map.mp ha
  have:=List.mem_range.mp hi
  rw [D.size]
  exact ⟨Nat.le_add_right _ _,by show C.N + i < _; lia⟩
theorem rebase (O:Ok C hb mu) (D:Rep C hb mu h T m) {md ext:List Addr} {rx:List (Addr × Obj)} (K:KeepsBut md h h') (hs:h.objs.size ≤ h'.objs.size) (hmd:∀ b ∈ md,∃ j,b = C.addr j)
    (hext:∀ a ∈ ext,h.objs.size ≤ a ∧ a < h'.objs.size) (hxn:ext.Nodup) (hrx:∀ q ∈ rx,h'.get? q.1 = some q.2 ∧ q.1 ∉ C.pre ++ upF C.N (m - C.p) ++ ext)
    (hT:∀ j o,T'.get j = some o → j < m + ext.length ∧ h'.get? ((C.pre ++ upF C.N (m - C.p) ++ ext).getD j 0) = some o) :
    Ok (C.re m ext rx h'.objs.size t') hb mu ∧ Rep (C.re m ext rx h'.objs.size t') hb mu h' T' (m + ext.length):=by
  have hle:=D.le
  have hN:C.N ≤ h.objs.size:=by rw [D.size]; exact Nat.le_add_right _ _
  have hlow:∀ a,C.N ≤ a → C.kt.get a = none:=fun a ha=>by
    cases q:C.kt.get a with
    | none=>rfl
    | some o=>exact absurd (O.low a o q) (Nat.not_lt.mpr ha)
  have nd:∀ b,b < C.N → b ∉ C.pre → b ∉ md:=fun b hb1 hb2 hm=>by
    obtain ⟨j,rfl⟩:=hmd b hm
    exact O.addr_ne hb1 hb2 rfl
  have len:(C.pre ++ upF C.N (m - C.p) ++ ext).length = m + ext.length:=by
    simp only [List.length_append,upF,List.length_map,List.length_range,O.len]; lia
  refine ⟨⟨len,?_,fun a ha=>?_,fun a ha=>?_,Nat.le_trans O.mono (Nat.le_trans hN hs),fun a ha=>?_,fun a o e=>Nat.lt_of_lt_of_le (O.low a o e) (Nat.le_trans hN hs),fun q hq=>?_⟩,
    ⟨?_,Nat.le_refl _,fun j o e=>?_,fun a o e=>K a o (D.top a o e) (fun hm=>?_),fun q hq=>?_,fun b o e q=>K b o (D.base b o e q) fun hm=>?_⟩⟩
  · show (C.pre ++ upF C.N (m - C.p) ++ ext).Nodup
    rw [List.append_assoc]
    refine List.nodup_append.mpr ⟨O.nd,List.nodup_append.mpr ⟨?_,hxn,fun a ha b hb' e=>?_⟩,fun a ha b hb' e=>?_⟩
    · unfold upF
      refine List.Pairwise.map _ (fun a b (hab:a ≠ b)=>?_) List.nodup_range
      exact fun e=>hab (Nat.add_left_cancel e)
    · subst e
      exact absurd (mem_own D ha).2 (Nat.not_lt.mpr (hext a hb').1)
    · subst e
      have l:=O.lt a ha
      rcases List.mem_append.mp hb' with x | x
      · exact absurd l (Nat.not_lt.mpr (mem_own D x).1)
      · exact absurd l (Nat.not_lt.mpr (Nat.le_trans hN (hext a x).1))
  · rcases List.mem_append.mp ha with x | x
    · rcases List.mem_append.mp x with y | y
      · exact Nat.lt_of_lt_of_le (O.lt a y) (Nat.le_trans hN hs)
      · exact Nat.lt_of_lt_of_le (mem_own D y).2 hs
    · exact (hext a x).2
  · rcases List.mem_append.mp ha with x | x
    · rcases List.mem_append.mp x with y | y
      · exact O.out a y
      · exact .inr (Nat.le_trans O.mono (mem_own D y).1)
    · exact .inr (Nat.le_trans O.mono (Nat.le_trans hN (hext a x).1))
  · rcases List.mem_append.mp ha with x | x
    · rcases List.mem_append.mp x with y | y
      · exact O.free a y
      · exact hlow a (mem_own D y).1
    · exact hlow a (Nat.le_trans hN (hext a x).1)
  · rcases List.mem_append.mp hq with x | x
    · refine ⟨fun hm=>?_,Nat.lt_of_lt_of_le (O.ro q x).2 (Nat.le_trans hN hs)⟩
      rcases List.mem_append.mp hm with y | y
      · rcases List.mem_append.mp y with z | z
        · exact (O.ro q x).1 z
        · exact absurd (O.ro q x).2 (Nat.not_lt.mpr (mem_own D z).1)
      · exact absurd (O.ro q x).2 (Nat.not_lt.mpr (Nat.le_trans hN (hext _ y).1))
    · exact ⟨(hrx q x).2,Heap.lt_size (hrx q x).1⟩
  · show h'.objs.size = h'.objs.size + (m + ext.length - (m + ext.length))
    rw [Nat.sub_self]; rfl
  · have z:=hT j o e
    refine ⟨z.1,?_⟩
    rw [Cf.addr_lo (C:=C.re m ext rx h'.objs.size t') z.1]
    exact z.2
  · obtain ⟨j,e'⟩:=hmd a hm
    exact O.top_ne e e'
  · rcases List.mem_append.mp hq with x | x
    · exact K _ _ (D.ro q x) (nd _ (O.ro q x).2 (O.ro q x).1)
    · exact (hrx q x).1
  · obtain ⟨j,e'⟩:=hmd b hm
    exact O.base_ne e q e'
theorem re0 (O:Ok C hb mu) (D:Rep C hb mu h T m) (K:Keeps h h') (hs:h.objs.size ≤ h'.objs.size):Ok (C.re m [] [] h'.objs.size t') hb mu ∧ Rep (C.re m [] [] h'.objs.size t') hb mu h' T m :=
  rebase (ext:=[]) (md:=[]) (rx:=[]) O D (fun b o e _=>K b o e) hs (fun _ hm=>(nomatch hm)) (fun _ hm=>(nomatch hm)) List.nodup_nil (fun _ hm=>(nomatch hm))
    fun j o e=>⟨(D.own j o e).1,by rw [pre_own O D (D.own j o e).1]; exact K _ _ (D.own j o e).2⟩
theorem reR (O:Ok C hb mu) (D:Rep C hb mu h T m) {rx:List (Addr × Obj)} (K:Keeps h h') (hs:h.objs.size ≤ h'.objs.size) (hrx:∀ q ∈ rx,h'.get? q.1 = some q.2 ∧ h.objs.size ≤ q.1) :
    Ok (C.re m [] rx h'.objs.size t') hb mu ∧ Rep (C.re m [] rx h'.objs.size t') hb mu h' T m :=
  rebase (ext:=[]) (md:=[]) O D (fun b o e _=>K b o e) hs (fun _ hm=>(nomatch hm)) (fun _ hm=>(nomatch hm)) List.nodup_nil
    (fun q hq=>⟨(hrx q hq).1,fun hm=>by
      have hN:C.N ≤ h.objs.size:=by rw [D.size]; exact Nat.le_add_right _ _
      rw [List.append_nil] at hm
      rcases List.mem_append.mp hm with x | x
      · exact absurd (O.lt _ x) (Nat.not_lt.mpr (Nat.le_trans hN (hrx q hq).2))
      · exact absurd (mem_own D x).2 (Nat.not_lt.mpr (hrx q hq).2)⟩)
    fun j o e=>⟨(D.own j o e).1,by rw [pre_own O D (D.own j o e).1]; exact K _ _ (D.own j o e).2⟩
theorem re1 (O:Ok C hb mu) (D:Rep C hb mu h T m) {j:Nat} {o₀ o':Obj} (ho:T.get j = some o₀) (K:KeepsBut [C.addr j] h h') (hs:h.objs.size ≤ h'.objs.size) (hn:h'.get? (C.addr j) = some o') :
    Ok (C.re m [] [] h'.objs.size t') hb mu ∧ Rep (C.re m [] [] h'.objs.size t') hb mu h' (T.set j fun _=>o') m :=
  rebase (ext:=[]) (rx:=[]) O D K hs (fun b hm=>⟨j,by simpa using hm⟩) (fun _ hm=>(nomatch hm)) List.nodup_nil (fun _ hm=>(nomatch hm)) fun i o e=>by
    rw [BT.get_set] at e
    by_cases hi:i = j
    · subst hi
      rw [if_pos rfl,ho] at e
      cases e
      exact ⟨(D.own i _ ho).1,by rw [pre_own O D (D.own i _ ho).1]; exact hn⟩
    · rw [if_neg hi] at e
      have z:=D.own i o e
      refine ⟨z.1,?_⟩
      rw [pre_own O D z.1]
      exact K _ _ z.2 fun hm=>hi (O.addr_inj (by simpa using hm))
end
noncomputable def callC:Sem Fin → Option Code
  | .call c' none _ _ _=>some c'
  | _=>none
noncomputable def callK:Sem Fin → Result → Sem Fin
  | .call _ _ _ _ k=>k
  | t=>fun _=>t
section
variable {w:World} {A:Around} {R:Result → Shared → Prop} {c c':Code} {κ:Kn} {t:Sem Fin} {s:Shared}
theorem Mn0.stop (e:callC t = some c') (h:codeAny (model prog w) (arA A (.ret c (callK t) κ)) c' (fun r s'=>Mn0 prog w A R c κ (callK t r) s') s):Mn0 prog w A R c κ t s:=by
  cases t with
  | call c'' hd g l k =>
    cases hd with
    | some v=>cases e
    | none =>
      cases e
      exact Mn0.call_any h
  | _=>cases e
theorem Mn0.enter (hA:A.depth ≤ 700) (h:Mn0 prog w A R c .base (D .base c) s):codeAny (model prog w) A c R s:=Mn0.code (κ:=.base) hA h
theorem Mn0.done {f:Flow} (h:R (.ok f) s):Mn0 prog w A R c .base (.pure (.done f)) s:=y_pure _ prog w _ _ _ _ _ _ h
noncomputable def doneF:Sem Fin → Option Flow
  | .pure (.done f)=>some f
  | _=>none
noncomputable def isBase:Kn → Bool
  | .base=>true
  | _=>false
theorem Mn0.end {f:Flow} (e:doneF t = some f) (k:isBase κ = true) (h:R (.ok f) s):Mn0 prog w A R c κ t s:=by
  cases κ with
  | ret=>cases k
  | base =>
    cases t with
    | pure fin =>
      cases fin with
      | done f'=>cases e; exact Mn0.done h
      | again c'=>cases e
    | _=>cases e
end
theorem depth_ar {d e n:Nat} (a:d ≤ 280 + n / 2) (h:e < 50):d + e ≤ 280 + (n + 100) / 2:=by lia
theorem units_ar {u v n:Nat} (a:u ≤ 6 * n) (h:v < 600):u + v ≤ 6 * (n + 100):=by lia
theorem depth_ok {A:Around} {n:Nat} (hA:Lo A n) {κ:Kn} (e:(Nat.blt (depB κ) 50 && Nat.blt (unB κ) 600) = true):Lo (arA A κ) (n + 100):=by
  obtain ⟨e1,e2⟩:=Bool.and_eq_true_iff.mp e
  have h:depB κ < 50:=Nat.le_of_ble_eq_true e1
  have h2:unB κ < 600:=Nat.le_of_ble_eq_true e2
  exact ⟨Nat.le_trans (arA_depth A κ (Nat.lt_trans h (by decide))) (depth_ar hA.1 h),Nat.le_trans (arA_units A κ (Nat.lt_trans h2 (by decide))) (units_ar hA.2 h2)⟩
noncomputable def esF (o:Out):List Addr × List Pt × List ActF × List (Obj → Sem Fin):=(o.eqs.map (·.1),o.qs.map (·.1),o.ks.map (·.1),o.ls.map (·.1))
noncomputable def esS (o:Out):List Addr × List Pt × List ActF × List (Obj → Sem Fin):=(o.eqs.map (·.2),o.qs.map (·.2),o.ks.map (·.2),o.ls.map (·.2))
theorem map_pairs {α:Type} {l:List (α × α)} (e:l.map (·.1) = l.map (·.2)):∀ q ∈ l,q.1 = q.2:=fun q hq=>by
  obtain ⟨k,lk,rfl⟩:=List.getElem_of_mem hq
  have:=congrArg (fun l=>l[k]?) e
  simp only [List.getElem?_map,List.getElem?_eq_getElem lk,Option.map_some,Option.some.injEq] at this
  exact this
theorem go0 {w:World} {b1 b2:Bool} (F:Follows w b1 b2) {A:Around} {R:Result → Shared → Prop} {ro:List (Addr × Obj)} {pre:List Addr} {p N T0:Nat} {hb:Heap} {mu:List Addr} {g:Array GenState} {d:Drawn} {os:OsState}
    (n mm ii:Nat) (or:List Nat) (P:List Prop) {c:Code} {κ:Kn} {t:Sem Fin} {T:BT} {m i:Nat} {h:Heap}
    (OD:Ok (cf w b1 b2 ro pre p N T0) hb mu ∧ Rep (cf w b1 b2 ro pre p N T0) hb mu h T m) (hA:Lo A 700) (hh:A.handled = none)
    (e:((run (cf w b1 b2 ro pre p N T0) n or c κ t T m i).ok,(run (cf w b1 b2 ro pre p N T0) n or c κ t T m i).m,(run (cf w b1 b2 ro pre p N T0) n or c κ t T m i).i,esF (run (cf w b1 b2 ro pre p N T0) n or c κ t T m i),(run (cf w b1 b2 ro pre p N T0) n or c κ t T m i).ps) =
      (true,mm,ii,esS (run (cf w b1 b2 ro pre p N T0) n or c κ t T m i),P)) (hP:AllP P)
    (K:∀ h',Ok (cf w b1 b2 ro pre p N T0) hb mu ∧ Rep (cf w b1 b2 ro pre p N T0) hb mu h' (run (cf w b1 b2 ro pre p N T0) n or c κ t T m i).T mm →
        Mn0 prog w A R (run (cf w b1 b2 ro pre p N T0) n or c κ t T m i).c (run (cf w b1 b2 ro pre p N T0) n or c κ t T m i).κ (run (cf w b1 b2 ro pre p N T0) n or c κ t T m i).t ⟨h',g,d,T0 + ii,os⟩) :
    Mn0 prog w A R c κ t ⟨h,g,d,T0 + i,os⟩:=by
  have e1:=congrArg Prod.fst e
  have e2:=congrArg (fun x=>x.2.1) e
  have e3:=congrArg (fun x=>x.2.2.1) e
  have e4:=congrArg (fun x=>x.2.2.2.1.1) e
  have e5:=congrArg (fun x=>x.2.2.2.1.2.1) e
  have e6:=congrArg (fun x=>x.2.2.2.1.2.2.1) e
  have e8:=congrArg (fun x=>x.2.2.2.1.2.2.2) e
  have e7:=congrArg (fun x=>x.2.2.2.2) e
  dsimp only at e1 e2 e3 e7
  refine run_sound (C:=cf w b1 b2 ro pre p N T0) F ⟨rfl,rfl⟩ OD.1 ⟨Nat.le_trans hA.1 (by decide),by have:=hA.2; lia⟩ hh n or c κ t T m i h OD.2 e1 ⟨map_pairs e4,map_pairs e5,map_pairs e6,by rw [e7]; exact hP.mem,map_pairs e8⟩ (fun h' D=>?_)
  rw [e2] at D
  have z:=K h' ⟨OD.1,D⟩
  rw [← e3] at z
  exact z
section
variable {w:World} {b1 b2:Bool} {ro:List (Addr × Obj)} {pre:List Addr} {p N T0:Nat} {hb h h':Heap} {mu:List Addr} {T:BT} {m:Nat}
theorem cf_re (rx:List (Addr × Obj)) (N' t':Nat):(cf w b1 b2 ro pre p N T0).re m [] rx N' t' = cf w b1 b2 (ro ++ rx) (pre ++ upF N (m - p)) m N' t':=by
  unfold Cf.re cf
  simp only [List.append_nil,List.length_nil,Nat.add_zero]
theorem cf_re0 (N' t':Nat):(cf w b1 b2 ro pre p N T0).re m [] [] N' t' = cf w b1 b2 ro (pre ++ upF N (m - p)) m N' t':=by
  rw [cf_re,List.append_nil]
theorem cre0 (t':Nat) (OD:Ok (cf w b1 b2 ro pre p N T0) hb mu ∧ Rep (cf w b1 b2 ro pre p N T0) hb mu h T m) (K:Keeps h h') (hs:h.objs.size ≤ h'.objs.size) :
    Ok (cf w b1 b2 ro (pre ++ upF N (m - p)) m h'.objs.size t') hb mu ∧ Rep (cf w b1 b2 ro (pre ++ upF N (m - p)) m h'.objs.size t') hb mu h' T m:=by
  rw [← cf_re0 (T0:=T0)]; exact re0 OD.1 OD.2 K hs
theorem cre1 (t' j:Nat) (a:Addr) {o₀ o':Obj} (OD:Ok (cf w b1 b2 ro pre p N T0) hb mu ∧ Rep (cf w b1 b2 ro pre p N T0) hb mu h T m) (ho:T.get j = some o₀) (ea:(cf w b1 b2 ro pre p N T0).addr j = a) (K:KeepsBut [a] h h') (hs:h.objs.size ≤ h'.objs.size) (hn:h'.get? a = some o') :
    Ok (cf w b1 b2 ro (pre ++ upF N (m - p)) m h'.objs.size t') hb mu ∧ Rep (cf w b1 b2 ro (pre ++ upF N (m - p)) m h'.objs.size t') hb mu h' (T.set j fun _=>o') m:=by
  subst ea
  rw [← cf_re0 (T0:=T0)]; exact re1 OD.1 OD.2 ho K hs hn
theorem cre1R (t' j:Nat) (a:Addr) (rx:List (Addr × Obj)) {o₀ o':Obj} (OD:Ok (cf w b1 b2 ro pre p N T0) hb mu ∧ Rep (cf w b1 b2 ro pre p N T0) hb mu h T m) (ho:T.get j = some o₀) (ea:(cf w b1 b2 ro pre p N T0).addr j = a) (K:KeepsBut [a] h h') (hs:h.objs.size ≤ h'.objs.size) (hn:h'.get? a = some o')
    (hrx:∀ q ∈ rx,h'.get? q.1 = some q.2 ∧ h.objs.size ≤ q.1) :
    Ok (cf w b1 b2 (ro ++ rx) (pre ++ upF N (m - p)) m h'.objs.size t') hb mu ∧ Rep (cf w b1 b2 (ro ++ rx) (pre ++ upF N (m - p)) m h'.objs.size t') hb mu h' (T.set j fun _=>o') m:=by
  subst ea
  rw [← cf_re (T0:=T0)]
  have O:=OD.1
  have D:=OD.2
  refine rebase (ext:=[]) O D K hs (fun b hm=>⟨j,by simpa using hm⟩) (fun _ hm=>(nomatch hm)) List.nodup_nil (fun q hq=>⟨(hrx q hq).1,fun hm=>?_⟩) fun i o e=>?_
  · have hN:N ≤ h.objs.size:=by rw [D.size]; exact Nat.le_add_right _ _
    rw [List.append_nil] at hm
    rcases List.mem_append.mp hm with x | x
    · exact absurd (O.lt _ x) (Nat.not_lt.mpr (Nat.le_trans hN (hrx q hq).2))
    · exact absurd (mem_own D x).2 (Nat.not_lt.mpr (hrx q hq).2)
  · rw [BT.get_set] at e
    by_cases hi:i = j
    · subst hi
      rw [if_pos rfl,ho] at e
      cases e
      exact ⟨(D.own i _ ho).1,by rw [pre_own O D (D.own i _ ho).1]; exact hn⟩
    · rw [if_neg hi] at e
      have z:=D.own i o e
      refine ⟨z.1,?_⟩
      rw [pre_own O D z.1]
      exact K _ _ z.2 fun hm=>hi (O.addr_inj (by simpa using hm))
theorem Rep.obj {C:Cf} (D:Rep C hb mu h T m) {j:Nat} {o:Obj} {a:Addr} (e:T.get j = some o) (ea:C.addr j = a):h.get? a = some o:=ea ▸ (D.own j o e).2
theorem same_keepsBut {a:Addr} (hs:Heap.SameBut a h h'):KeepsBut [a] h h':=fun b o e hn=>(hs.2 b fun x=>hn (by rw [x]; exact .head _)).trans e
end
theorem Rep.ob {C:Cf} {hb h:Heap} {mu:List Addr} {T:BT} {m:Nat} (D:Rep C hb mu h T m) (j:Nat) {o:Obj} {a:Addr} (e:T.get j = some o:=by kernel_rfl) (ea:C.addr j = a:=by kernel_rfl):h.get? a = some o:=D.obj e ea
theorem Rep.tp {w:World} {b1 b2:Bool} {ro:List (Addr × Obj)} {pre:List Addr} {p N T0:Nat} {hb h:Heap} {mu:List Addr} {T:BT} {m:Nat} (D:Rep (cf w b1 b2 ro pre p N T0) hb mu h T m):TopOk w h:=fun a o e=>D.top a o e
theorem size_le {C:Cf} {hb h:Heap} {mu:List Addr} {T:BT} {m:Nat} (O:Ok C hb mu) (D:Rep C hb mu h T m):hb.objs.size ≤ h.objs.size:=by
  rw [D.size]; exact Nat.le_trans O.mono (Nat.le_add_right _ _)
noncomputable def againC:Sem Fin → Option Code
  | .pure (.again c)=>some c
  | _=>none
theorem Mn0.again {w:World} {A:Around} {R:Result → Shared → Prop} {c c':Code} {κ:Kn} {t:Sem Fin} {s:Shared} (e:againC t = some c') (q:quietB c' = true) (k:isBase κ = true) (h:codeAny (model prog w) A c' R s):Mn0 prog w A R c κ t s:=by
  cases κ with
  | ret=>cases k
  | base =>
    cases t with
    | pure fin =>
      cases fin with
      | done f'=>cases e
      | again c''=>cases e; exact y_pure _ prog w _ _ _ _ _ _ (y_again prog w _ _ _ c' (quietB_quiet q) h)
    | _=>cases e
structure Mn (prog:Program) (w:World) (A:Around) (R:Result → Shared → Prop) (c:Code) (κ:Kn) (t:Sem Fin) (s:Shared):Prop where
  out:Mn0 prog w A R c κ t s
theorem Mn_eq:@Mn = @Mn0:=by
  funext prog w A R c κ t s
  exact propext ⟨fun h=>h.out,fun h=>⟨h⟩⟩
section
variable {w:World} {A:Around} {R:Result → Shared → Prop} {c c':Code} {κ:Kn} {t:Sem Fin} {s:Shared}
theorem Mn.stop (e:callC t = some c') (h:codeAny (model prog w) (arA A (.ret c (callK t) κ)) c' (fun r s'=>Mn prog w A R c κ (callK t r) s') s):Mn prog w A R c κ t s:=by
  rw [Mn_eq] at h ⊢
  exact Mn0.stop e h
theorem Mn.st (c':Code) (h:codeAny (model prog w) (arA A (.ret c (callK t) κ)) c' (fun r s'=>Mn prog w A R c κ (callK t r) s') s) (e:callC t = some c':=by kernel_rfl):Mn prog w A R c κ t s:=Mn.stop e h
theorem Mn.en (f:Flow) (h:R (.ok f) s) (e:doneF t = some f:=by kernel_rfl) (k:isBase κ = true:=by kernel_rfl):Mn prog w A R c κ t s:=⟨Mn0.end e k h⟩
theorem aH (hh:A.handled = none):(arA A κ).handled = none:=(arA_handled A κ).trans hh
theorem dk {n m:Nat} (hA:Lo A n) (e:(Nat.blt (depB κ) 50 && Nat.blt (unB κ) 600) = true:=by kernel_rfl) (h:n + 100 ≤ m:=by decide):Lo (arA A κ) m:=(depth_ok hA e).mono h
theorem Mn.enter {nA:Nat} (hA:Lo A nA) (h:Mn prog w A R c .base (D .base c) s) (hn:nA ≤ 700:=by decide):codeAny (model prog w) A c R s:=Mn0.enter (Nat.le_trans (hA.mono hn).1 (by decide)) h.out
theorem Mn.end {f:Flow} (e:doneF t = some f) (k:isBase κ = true) (h:R (.ok f) s):Mn prog w A R c κ t s:=⟨Mn0.end e k h⟩
theorem Mn.again (e:againC t = some c') (q:quietB c' = true) (k:isBase κ = true) (h:codeAny (model prog w) A c' R s):Mn prog w A R c κ t s:=⟨Mn0.again e q k h⟩
end
theorem goP {w:World} {b1 b2:Bool} (F:Follows w b1 b2) {A:Around} {R:Result → Shared → Prop} {ro:List (Addr × Obj)} {pre:List Addr} {p N T0:Nat} {hb:Heap} {mu:List Addr} {g:Array GenState} {d:Drawn} {os:OsState}
    (n mm ii:Nat) (or:List Nat) (P:List Prop) {c:Code} {κ:Kn} {t:Sem Fin} {T:BT} {m i:Nat} {h:Heap}
    (OD:Ok (cf w b1 b2 ro pre p N T0) hb mu ∧ Rep (cf w b1 b2 ro pre p N T0) hb mu h T m) {nA:Nat} (hA:Lo A nA) (hh:A.handled = none)
    (hP:AllP P)
    (K:∀ h',let o:=run (cf w b1 b2 ro pre p N T0) n or c κ t T m i; (Ok (cf w b1 b2 ro pre p N T0) hb mu ∧ Rep (cf w b1 b2 ro pre p N T0) hb mu h' o.T mm →
        Mn prog w A R o.c o.κ o.t ⟨h',g,d,T0 + ii,os⟩))
    (e:((run (cf w b1 b2 ro pre p N T0) n or c κ t T m i).ok,(run (cf w b1 b2 ro pre p N T0) n or c κ t T m i).m,(run (cf w b1 b2 ro pre p N T0) n or c κ t T m i).i,esF (run (cf w b1 b2 ro pre p N T0) n or c κ t T m i),(run (cf w b1 b2 ro pre p N T0) n or c κ t T m i).ps) =
      (true,mm,ii,esS (run (cf w b1 b2 ro pre p N T0) n or c κ t T m i),P):=by kernel_rfl) (hn:nA ≤ 700:=by decide) :
    Mn prog w A R c κ t ⟨h,g,d,T0 + i,os⟩:=⟨go0 F n mm ii or P OD (hA.mono hn) hh e hP fun h' D=>(K h' D).out⟩
theorem go {w:World} {b1 b2:Bool} (F:Follows w b1 b2) {A:Around} {R:Result → Shared → Prop} {ro:List (Addr × Obj)} {pre:List Addr} {p N T0:Nat} {hb:Heap} {mu:List Addr} {g:Array GenState} {d:Drawn} {os:OsState}
    (n mm ii:Nat) (or:List Nat) {c:Code} {κ:Kn} {t:Sem Fin} {T:BT} {m i:Nat} {h:Heap}
    (OD:Ok (cf w b1 b2 ro pre p N T0) hb mu ∧ Rep (cf w b1 b2 ro pre p N T0) hb mu h T m) {nA:Nat} (hA:Lo A nA) (hh:A.handled = none)
    (K:∀ h',let o:=run (cf w b1 b2 ro pre p N T0) n or c κ t T m i; (Ok (cf w b1 b2 ro pre p N T0) hb mu ∧ Rep (cf w b1 b2 ro pre p N T0) hb mu h' o.T mm →
        Mn prog w A R o.c o.κ o.t ⟨h',g,d,T0 + ii,os⟩))
    (e:((run (cf w b1 b2 ro pre p N T0) n or c κ t T m i).ok,(run (cf w b1 b2 ro pre p N T0) n or c κ t T m i).m,(run (cf w b1 b2 ro pre p N T0) n or c κ t T m i).i,esF (run (cf w b1 b2 ro pre p N T0) n or c κ t T m i),(run (cf w b1 b2 ro pre p N T0) n or c κ t T m i).ps) =
      (true,mm,ii,esS (run (cf w b1 b2 ro pre p N T0) n or c κ t T m i),[]):=by kernel_rfl) (hn:nA ≤ 700:=by decide) :
    Mn prog w A R c κ t ⟨h,g,d,T0 + i,os⟩:=goP F n mm ii or [] OD hA hh trivial K e hn
theorem goX {w:World} {b1 b2:Bool} (F:Follows w b1 b2) {A:Around} {R:Result → Shared → Prop} {ro:List (Addr × Obj)} {pre:List Addr} {p N T0:Nat} {hb:Heap} {mu:List Addr} {g:Array GenState} {d:Drawn} {os:OsState}
    (n mm ii:Nat) (or:List Nat) {c:Code} {κ:Kn} {t:Sem Fin} {T:BT} {m i:Nat} {h:Heap}
    (OD:Ok (cf w b1 b2 ro pre p N T0) hb mu ∧ Rep (cf w b1 b2 ro pre p N T0) hb mu h T m) {nA:Nat} (hA:Lo A nA) (hh:A.handled = none)
    (e:((run (cf w b1 b2 ro pre p N T0) n or c κ t T m i).ok,(run (cf w b1 b2 ro pre p N T0) n or c κ t T m i).m,(run (cf w b1 b2 ro pre p N T0) n or c κ t T m i).i,esF (run (cf w b1 b2 ro pre p N T0) n or c κ t T m i),(run (cf w b1 b2 ro pre p N T0) n or c κ t T m i).ps) =
      (true,mm,ii,esS (run (cf w b1 b2 ro pre p N T0) n or c κ t T m i),[]))
    (K:∀ h',Ok (cf w b1 b2 ro pre p N T0) hb mu ∧ Rep (cf w b1 b2 ro pre p N T0) hb mu h' (run (cf w b1 b2 ro pre p N T0) n or c κ t T m i).T mm →
        Mn prog w A R (run (cf w b1 b2 ro pre p N T0) n or c κ t T m i).c (run (cf w b1 b2 ro pre p N T0) n or c κ t T m i).κ (run (cf w b1 b2 ro pre p N T0) n or c κ t T m i).t ⟨h',g,d,T0 + ii,os⟩) (hn:nA ≤ 700:=by decide) :
    Mn prog w A R c κ t ⟨h,g,d,T0 + i,os⟩:=⟨go0 F n mm ii or [] OD (hA.mono hn) hh e trivial fun h' D=>(K h' D).out⟩
end Mine
namespace Mine
open PySem PySem.W PySem.W.X
theorem int_fin {n:Nat} {x:Int} (h0:0 ≤ x) (h1:x < (n:Int)):∃ k:Fin n,x = ((k:Nat):Int) :=
  ⟨⟨x.toNat,by lia⟩,(Int.toNat_of_nonneg h0).symm⟩
theorem lt6 {k:Nat} (h:k < 6):k = 0 ∨ k = 1 ∨ k = 2 ∨ k = 3 ∨ k = 4 ∨ k = 5 :=
  have z:∀ k:Fin 6,k.val = 0 ∨ k.val = 1 ∨ k.val = 2 ∨ k.val = 3 ∨ k.val = 4 ∨ k.val = 5:=by decide
  z ⟨k,h⟩
theorem fmod_to {x:Int} {k:Int} (hk:0 < k):0 ≤ x.fmod k ∧ x.fmod k < k:=⟨Int.fmod_nonneg_of_pos x hk,Int.fmod_lt_of_pos x hk⟩
theorem fmod_nat {x:Int} {m:Nat} {k:Int} (hk:0 < k) (h:k = (m:Int)):(x.fmod k).toNat < m:=by
  have:=fmod_to (x:=x) hk
  omega
section
variable {w:World} {A:Around} {R:Result → Shared → Prop} {s:Shared}
theorem code_gives {T:String} {name:Str} {id:String} {B:Builtin} {self:Value} {rest:List Value} {m:Made} (slot:Slot T name id) (hT:s.TypeIs self T)
    (entry:entryFor table id = some B) (args:argsOk id ⟨self :: rest,[]⟩) (g:Gives (B ⟨self :: rest,[]⟩) m) (h:m.post (fun v s'=>R (.ok (.ret v)) s') s):codeAny (model prog w) A (.call (.builtin id) ⟨self :: rest,[]⟩) R s :=
  codeAny_call_builtin slot.plain entry (slot.check _ _ _ _ _ _ _ _ hT args (g prog w A R s h))
theorem code_meets {T:String} {name:Str} {id:String} {B:Builtin} {self:Value} {rest:List Value} {S:Spec} (slot:Slot T name id) (hT:s.TypeIs self T)
    (entry:entryFor table id = some B) (args:argsOk id ⟨self :: rest,[]⟩) (g:Meets (B ⟨self :: rest,[]⟩) S) (h:S A R s):codeAny (model prog w) A (.call (.builtin id) ⟨self :: rest,[]⟩) R s :=
  codeAny_call_builtin slot.plain entry (slot.check _ _ _ _ _ _ _ _ hT args (g prog w A R s h))
variable {a b:Int} {t u:Tok}
theorem c_ne (v:Bool) (e:(a != b) = v) (h:R (.ok (.ret (.bool v))) s):codeAny (model prog w) A (.call (.builtin "int.__ne__") ⟨[.int a t,.int b u],[]⟩) R s:=by
  subst e; exact code_gives F.slot_int_ne (typeIs_int s a t) F.entry_int_ne (F.args_int_ne_2 _ _) (gives_int_ne a b t u) h
theorem c_bool (v:Bool) (e:(a != 0) = v) (h:R (.ok (.ret (.bool v))) s):codeAny (model prog w) A (.call (.builtin "int.__bool__") ⟨[.int a t],[]⟩) R s:=by
  subst e; exact code_gives F.slot_int_bool (typeIs_int s a t) F.entry_int_bool (F.args_int_bool_1 _) (gives_int_bool a t) h
end
noncomputable def n_function:Str:=⟨#[102,117,110,99,116,105,111,110]⟩
noncomputable def n_sequence:Str:=⟨#[115,101,113,117,101,110,99,101]⟩
noncomputable def n_initial:Str:=⟨#[105,110,105,116,105,97,108]⟩
noncomputable def n_it:Str:=⟨#[105,116]⟩
noncomputable def n_value:Str:=⟨#[118,97,108,117,101]⟩
noncomputable def n_element:Str:=⟨#[101,108,101,109,101,110,116]⟩
noncomputable def n_powers:Str:=⟨#[112,111,119,101,114,115]⟩
noncomputable def n_known:Str:=⟨#[107,110,111,119,110]⟩
noncomputable def n_terms:Str:=⟨#[116,101,114,109,115]⟩
noncomputable def n_others:Str:=⟨#[111,116,104,101,114,115]⟩
noncomputable def n_over:Str:=⟨#[111,118,101,114]⟩
noncomputable def n_under:Str:=⟨#[117,110,100,101,114]⟩
noncomputable def n_point:Str:=⟨#[112,111,105,110,116]⟩
noncomputable def n_spot:Str:=⟨#[115,112,111,116]⟩
noncomputable def n_logs:Str:=⟨#[108,111,103,115]⟩
noncomputable def n_other:Str:=⟨#[111,116,104,101,114]⟩
noncomputable def n_figure:Str:=⟨#[102,105,103,117,114,101]⟩
noncomputable def n_line:Str:=⟨#[108,105,110,101]⟩
noncomputable def n_start:Str:=⟨#[115,116,97,114,116]⟩
noncomputable def n_tap:Str:=⟨#[116,97,112]⟩
noncomputable def n_unit:Str:=⟨#[117,110,105,116]⟩
noncomputable def n_step:Str:=⟨#[115,116,101,112]⟩
noncomputable def n_first:Str:=⟨#[102,105,114,115,116]⟩
noncomputable def n_script:Str:=⟨#[115,99,114,105,112,116]⟩
noncomputable def n_drawn:Str:=⟨#[100,114,97,119,110]⟩
noncomputable def n_numbers:Str:=⟨#[110,117,109,98,101,114,115]⟩
noncomputable def n_octets:Str:=⟨#[111,99,116,101,116,115]⟩
noncomputable def n_change:Str:=⟨#[99,104,97,110,103,101]⟩
noncomputable def n_place:Str:=⟨#[112,108,97,99,101]⟩
noncomputable def n_pairs:Str:=⟨#[112,97,105,114,115]⟩
noncomputable def n_order:Str:=⟨#[111,114,100,101,114]⟩
noncomputable def n_changed:Str:=⟨#[99,104,97,110,103,101,100]⟩
noncomputable def n_written:Str:=⟨#[119,114,105,116,116,101,110]⟩
noncomputable def n_text:Str:=⟨#[116,101,120,116]⟩
noncomputable def n_lexer:Str:=⟨#[108,101,120,101,114]⟩
noncomputable def n_words:Str:=⟨#[119,111,114,100,115]⟩
noncomputable def n_told:Str:=⟨#[116,111,108,100]⟩
noncomputable def n_mended:Str:=⟨#[109,101,110,100,101,100]⟩
noncomputable def n_number:Str:=⟨#[110,117,109,98,101,114]⟩
noncomputable def n_manner:Str:=⟨#[109,97,110,110,101,114]⟩
noncomputable def n_word:Str:=⟨#[119,111,114,100]⟩
noncomputable def n_k:Str:=⟨#[107]⟩
noncomputable def n_gone:Str:=⟨#[103,111,110,101]⟩
noncomputable def n_lineno:Str:=⟨#[108,105,110,101,110,111]⟩
noncomputable def n_instream:Str:=⟨#[105,110,115,116,114,101,97,109]⟩
noncomputable def n_whitespace:Str:=⟨#[119,104,105,116,101,115,112,97,99,101]⟩
noncomputable def n_pushback:Str:=⟨#[112,117,115,104,98,97,99,107]⟩
noncomputable def n_read:Str:=⟨#[114,101,97,100]⟩
noncomputable def n_cell:Str:=⟨#[99,101,108,108]⟩
noncomputable def n_power:Str:=⟨#[112,111,119,101,114]⟩
noncomputable def listO (vs:List Value) (e:Nat):Obj:={ cls:=.type "list",data:=.seq vs.toArray e }
noncomputable def tupO (vs:List Value):Obj:={ cls:=.type "tuple",data:=.seq vs.toArray }
noncomputable def cellO (v:Option Value):Obj:={ cls:=.type "cell",data:=.cell v }
noncomputable def dictO (es:Array DictEntry) (e:Nat):Obj:={ cls:=.type "dict",data:=.dict es e }
noncomputable def fnO (fd:FuncData):Obj:={ cls:=.type "function",data:=.func fd }
noncomputable def litO (l:Addr) (i:Nat):Obj:={ cls:=.type "list_iterator",data:=.fields #[.ref l,.int i 0] }
noncomputable def nhash (w:World) (n:Str):Int:=if n.cps.isEmpty = true then 0 else reduceHash (w.params.strHash n.cps)
noncomputable def entsO (w:World) (es:List (Str × Nat × Value)):Array DictEntry:=(es.map fun x=>⟨nhash w x.1,.str x.1 x.2.1,x.2.2⟩).toArray
noncomputable def frO (w:World) (es:List (Str × Nat × Value)) (e:Nat):Obj:={ cls:=.type "frame",data:=.dict (entsO w es) e }
noncomputable def intsV (xs:List (Int × Nat)):List Value:=xs.map fun x=>.int x.1 x.2
section
variable {w:World} {A:Around} {R:Result → Shared → Prop} {s:Shared}
theorem c_list_next {it l:Addr} {i:Nat} {vs:List Value} {e:Nat} {x:Value} (ho:s.heap.get? it = some (litO l i)) (hl:s.heap.get? l = some (listO vs e)) (hx:vs[i]? = some x)
    (h:∀ h',h'.get? it = some (litO l (i + 1)) → Heap.SameBut it s.heap h' → R (.ok (.ret x)) { s with heap:=h' }) :
    codeAny (model prog w) A (.call (.builtin "list_iterator.__next__") ⟨[.ref it],[]⟩) R s:=by
  have hT:s.TypeIs (.ref it) "list_iterator":=⟨_,ho,rfl⟩
  refine codeAny_call_builtin slot_listiter_next.plain entry_listiter_next (slot_listiter_next.check _ _ _ _ _ _ _ _ hT (args_listiter_next _) ?_)
  show wpAny _ _ (field (.ref it) 0 >>= _) _ _ s
  refine wpAny_bind (wpAny_field ho rfl (x:=.ref l) rfl ?_)
  show wpAny _ _ (if (Value.ref l == Value.none) = true then _ else _) _ _ s
  rw [if_neg (show ¬ ((Value.ref l == Value.none) = true) from Bool.false_ne_true)]
  show wpAny _ _ (field (.ref it) 1 >>= _) _ _ s
  refine wpAny_bind (wpAny_field ho rfl (x:=.int i 0) rfl ?_)
  show wpAny _ _ (seqItems? (.ref l) >>= _) _ _ s
  refine wpAny_bind (wpAny_seqItems hl rfl ?_)
  have hx':vs.toArray[i]? = some x:=by rw [List.getElem?_toArray]; exact hx
  simp only [Int.toNat_natCast,hx']
  refine wpAny_bind (wpAny_setField_rec (vs:=#[.ref l,.int i 0]) ho (by simp) fun h' h1 h2=>wpAny_pure (h h' ?_ h2))
  rw [h1]
  simp [litO,rawInt]
noncomputable def stopO (a:Addr):Obj:={ cls:=.type "StopIteration",data:=.fields #[.ref a,.none,.none,.none,.bool false,.none] }
noncomputable def litE (i:Nat):Obj:={ cls:=.type "list_iterator",data:=.fields #[.none,.int i 0] }
theorem c_list_end {it l:Addr} {i:Nat} {vs:List Value} {e:Nat} (hh:A.handled = none) (ho:s.heap.get? it = some (litO l i)) (hl:s.heap.get? l = some (listO vs e)) (hx:vs[i]? = none)
    (h:∀ h',h'.get? it = some (litE i) → KeepsBut [it] s.heap h' → h'.objs.size = s.heap.objs.size + 2 → h'.get? (s.heap.objs.size + 1) = some (stopO s.heap.objs.size) → R (.error (.ref (s.heap.objs.size + 1))) { s with heap:=h' }) :
    codeAny (model prog w) A (.call (.builtin "list_iterator.__next__") ⟨[.ref it],[]⟩) R s:=by
  have hT:s.TypeIs (.ref it) "list_iterator":=⟨_,ho,rfl⟩
  refine codeAny_call_builtin slot_listiter_next.plain entry_listiter_next (slot_listiter_next.check _ _ _ _ _ _ _ _ hT (args_listiter_next _) ?_)
  show wpAny _ _ (field (.ref it) 0 >>= _) _ _ s
  refine wpAny_bind (wpAny_field ho rfl (x:=.ref l) rfl ?_)
  show wpAny _ _ (if (Value.ref l == Value.none) = true then _ else _) _ _ s
  rw [if_neg (show ¬ ((Value.ref l == Value.none) = true) from Bool.false_ne_true)]
  show wpAny _ _ (field (.ref it) 1 >>= _) _ _ s
  refine wpAny_bind (wpAny_field ho rfl (x:=.int i 0) rfl ?_)
  show wpAny _ _ (seqItems? (.ref l) >>= _) _ _ s
  refine wpAny_bind (wpAny_seqItems hl rfl ?_)
  have hx':vs.toArray[i]? = none:=by rw [List.getElem?_toArray]; exact hx
  simp only [Int.toNat_natCast,hx']
  refine wpAny_bind (wpAny_rule (wpAny_bind (wpAny_setField_rec (vs:=#[.ref l,.int i 0]) ho (by simp) fun h' h1 h2=>?_)))
  show wpAny _ _ (newExc (.type "StopIteration") [] >>= _) _ _ _
  refine wpAny_bind ?_
  simp only [newExc,newTuple]
  refine wpAny_bind (wpAny_newObj_type ?_ (by size_fits))
  refine wpAny_bind (m:=firstArgMember _ _) (wpAny_of_eq (a:=Value.none) (by first | rfl | (simp only [firstArgMember]; rfl)) ?_)
  refine wpAny_newObj_type ?_ (by size_fits)
  simp only [raiseNew]
  refine wpAny_bind (wpAny_handled ?_)
  rw [show A.in1.handled = none from hh]
  refine wpAny_bind (wpAny_pure (wpAny_throw ?_))
  have e1:h'.objs.size = s.heap.objs.size:=h2.1
  have e2:(h'.push { cls:=.type "tuple",data:=.seq #[] }).objs.size = s.heap.objs.size + 1:=by rw [Heap.size_push,e1]
  have key:=h ((h'.push { cls:=.type "tuple",data:=.seq #[] }).push (stopO s.heap.objs.size)) (Heap.get?_push_of_some _ (Heap.get?_push_of_some _ (by rw [h1]; simp [litE])))
    (fun b o eb hn=>Heap.get?_push_of_some _ (Heap.get?_push_of_some _ (same_keepsBut h2 b o eb hn))) (by rw [Heap.size_push,e2]) (by rw [← e2]; exact Heap.get?_push_size _ rfl)
  rw [← e2] at key
  have e3:s.heap.objs.size = h'.objs.size:=e1.symm
  rw [e3] at key
  exact key
end
end Mine
namespace Mine
open PySem PySem.W PySem.W.X
noncomputable def noteT (env:Env) (x:Value):Sem Unit:=R.bindR (Fast.tw17872113653443481271 x env) fun _=>Fast.tw1623429502029203251 x
theorem noteT_eq (env:Env) (x:Value):noteT env x = (do noteFrame x env; theTreesLotGoes x):=by
  unfold noteT
  rw [← Fast.te17872113653443481271,← Fast.te1623429502029203251,← R.bindR_eq]
  rfl
noncomputable def turnEnd (c:Code) (f:Flow):Sem Fin:=match f with
  | .next=>.pure (.again c)
  | .cont=>.pure (.again c)
  | .brk=>.pure (.done .next)
  | .ret v=>.pure (.done (.ret v))
noncomputable def forRest (target:Expr) (it:Value) (body:List Stmt) (env:Env) (v:Value):Sem Fin :=
  R.onRaiseR (R.bindR (Fast.tw17772580674575903948 target env v) fun _=>R.bindR (Fast.tw12563942051412417395 body env) fun f=>turnEnd (.forLoop target it body [] env) f) (noteT env)
theorem forRest_eq (target:Expr) (it:Value) (body:List Stmt) (env:Env) (v:Value) :
    forRest target it body env v = Sem.onRaise ((assign target env v).bind fun _=>(execs body env).bind fun f=>turnEnd (.forLoop target it body [] env) f) (fun x=>do noteFrame x env; theTreesLotGoes x):=by
  unfold forRest
  rw [← Fast.te17772580674575903948,← Fast.te12563942051412417395,← R.bindR_eq,← R.onRaiseR_eq]
  congr 1
  funext x
  exact noteT_eq env x
theorem forTurn_is (target:Expr) (it:Value) (body:List Stmt) (env:Env):forTurn target it body [] env =
    (standAt target.pos).bind fun _=>((pyNext it).onRaise (fun _=>standAt { target.pos with line:=0 })).bind fun r=>match r with
      | none=>again (.block [] env)
      | some v=>(letOwnedTupleGo target it v).bind fun _=>(assign target env v).bind fun _=>(execs body env).bind fun f=>turnEnd (.forLoop target it body [] env) f:=by
  unfold forTurn
  refine congrArg (Sem.bind _) (funext fun _=>congrArg (Sem.bind _) (funext fun r=>?_))
  cases r with
  | none=>rfl
  | some v =>
    refine congrArg (Sem.bind _) (funext fun _=>congrArg (Sem.bind _) (funext fun _=>congrArg (Sem.bind _) (funext fun f=>?_)))
    cases f <;> rfl
section
variable {w:World} {A:Around} {R:Result → Shared → Prop} {s:Shared}
theorem block_nil {env:Env} (h:R (.ok .next) s):codeAny (model prog w) A (.block [] env) R s :=
  y_code prog w A R s _ (by
    show wpOwn _ _ _ (denote table (.block [] env)) _ _ s
    exact fun Γ p hc hΓ=>h)
theorem for_next {target:Expr} {it:Value} {body:List Stmt} {env:Env}
    (h:wpAny (model prog w) A (pyNext it) (fun r s₁=>match r with
      | none=>R (.ok .next) s₁
      | some v=>wpAny (model prog w) A (letOwnedTupleGo target it v) (fun _ s₂=>Mn prog w A R (.forLoop target it body [] env) .base (forRest target it body env v) s₂) (fun _ _=>False) s₁) (fun _ _=>False) s) :
    codeAny (model prog w) A (.forLoop target it body [] env) R s:=by
  refine y_code prog w A R s _ ?_
  show wpOwn _ A _ (Sem.onRaise (forTurn target it body [] env) (fun x=>do noteFrame x env; theTreesLotGoes x)) _ _ s
  intro Γ p hc hΓ
  have hΓ':Γ.In A:=by
    have:=hΓ.in
    rw [hc,Around.under_of_weight (show (Code.forLoop target it body [] env).weight = 0 from rfl)] at this
    exact this
  rw [Sem.wp_onRaise,forTurn_is]
  show Sem.wp _ Γ (standAt target.pos >>= _) _ _ p s
  rw [Sem.wp_bind']
  show Sem.wp _ Γ ((pyNext it).onRaise _ >>= _) _ _ _ s
  rw [Sem.wp_bind',Sem.wp_onRaise]
  refine Sem.wp_mono _ Γ _ (fun r p₁ s₁ hr=>?_) (fun _ _ _ hx=>hx.elim) _ s (h Γ _ hΓ')
  cases r with
  | none=>exact ⟨rfl,block_nil hr⟩
  | some v =>
    show Sem.wp _ Γ (letOwnedTupleGo target it v >>= _) _ _ _ s₁
    rw [Sem.wp_bind']
    refine Sem.wp_mono _ Γ _ (fun _ p₂ s₂ hm=>?_) (fun _ _ _ hx=>hx.elim) _ s₁ (hr Γ _ hΓ')
    have z:=hm.out Γ p₂ hc hΓ
    rw [forRest_eq,Sem.wp_onRaise] at z
    exact z
end
end Mine
namespace Mine
open PySem PySem.W PySem.W.X PyProof.Rows
noncomputable def oF2 (t:Bool) (a:Nat) (b:Value):Option (Nat × Value):=match t with
  | false=>none
  | true=>some (a,b)
theorem opt2 (x:Option (Nat × Value)):∃ t a b,x = oF2 t a b:=match x with
  | none=>⟨false,0,.none,rfl⟩
  | some p=>⟨true,p.1,p.2,rfl⟩
noncomputable def oF4 (t:Bool) (a:Nat) (b:Value) (c:Nat) (d:Value):Option (Nat × Value × Nat × Value):=match t with
  | false=>none
  | true=>some (a,b,c,d)
theorem opt4 (x:Option (Nat × Value × Nat × Value)):∃ t a b c d,x = oF4 t a b c d:=match x with
  | none=>⟨false,0,.none,0,.none,rfl⟩
  | some p=>⟨true,p.1,p.2.1,p.2.2.1,p.2.2.2,rfl⟩
noncomputable def fdAt (w:World) (a:Nat):FuncData:=match (kt w.params).get a with
  | some ⟨_,_,.func fd,_⟩=>fd
  | _=>default
noncomputable def stmtsOf (fd:FuncData):List Stmt:=match fd.body with
  | .stmts b=>b
  | _=>[]
noncomputable def forTgt:Stmt → Expr
  | .For t _ _ _ _=>t
  | _=>.Constant .none 0 default
noncomputable def forBody:Stmt → List Stmt
  | .For _ _ b _ _=>b
  | _=>[]
noncomputable def stAt (w:World) (a n:Nat):Stmt:=(stmtsOf (fdAt w a)).getD n (.Pass default)
noncomputable def envAt (w:World) (a:Nat) (qual:Str) (L:Addr) (cells:List (Str × Addr)):Env :=
  { scope:=(fdAt w a).scope,locals:=L,globals:=(fdAt w a).globals,cells:=cells,qual:=qual,func:=some a,code:=(fdAt w a).code,frame:=some L,builtins:=(fdAt w a).builtins }
noncomputable def FnOk (w:World) (dp:Nat) (h:Heap) (fv:Value) (P:Int → Prop) (Fn:Int → Int → Int):Prop :=
  ∀ (A:Around) (R:Result → Shared → Prop) (h₁:Heap) (g:Array GenState) (d:Drawn) (tk:Nat) (os:OsState) (x y:Int) (tx ty:Tok),P y → Lo A dp → A.handled = none → Keeps h h₁ →
    (∀ h' tk' t,Keeps h₁ h' → h₁.objs.size ≤ h'.objs.size → R (.ok (.ret (.int (Fn x y) t))) ⟨h',g,d,tk',os⟩) →
    codeAny (model prog w) A (.call fv ⟨[.int x tx,.int y ty],[]⟩) R ⟨h₁,g,d,tk,os⟩
noncomputable def redFor (w:World) (L it:Addr):Code:=.forLoop (forTgt (stAt w 47 2)) (.ref it) (forBody (stAt w 47 2)) [] (envAt w 47 ⟨#[114,101,100,117,99,101,46,60,108,111,99,97,108,115,62,46]⟩ L [])
noncomputable def redFr (w:World) (fv:Value) (la it:Addr) (x0:Int) (t0:Nat) (ks:List Nat) (x:Int) (tx:Nat) (el:Option (Nat × Value)) (e:Nat):Obj :=
  frO w ([(n_function,ks.getD 0 0,fv),(n_sequence,ks.getD 1 0,.ref la),(n_initial,ks.getD 2 0,.int x0 t0),(n_it,ks.getD 3 0,.ref it),(n_value,ks.getD 4 0,.int x tx)] ++ (match el with | none=>[] | some p=>[(n_element,p.1,p.2)])) e
section
variable {w:World} {b1 b2:Bool} {A:Around} {R:Result → Shared → Prop} {hb h:Heap} {g:Array GenState} {d:Drawn} {T0:Nat} {os:OsState}
  {fa la it L:Addr} {fd:FuncData} {P:Int → Prop} {Fn:Int → Int → Int} {vs:List Value} {ve i:Nat} {x0 x y:Int} {t0 tx ty:Nat} {ks:List Nat} {el:Option (Nat × Value)} {e:Nat}
theorem red_ne (nL:hb.get? L = none) (ni:hb.get? it = none):∀ b o,hb.get? b = some o → b ∉ [L,it]:=fun b o eb hm=>by
  rcases List.mem_cons.mp hm with rfl | hm
  · rw [nL] at eb; cases eb
  · rcases List.mem_cons.mp hm with rfl | hm
    · rw [ni] at eb; cases eb
    · cases hm
theorem red_start (tp:TopOk w hb) (hf:hb.get? fa = some (fnO fd)) (hl:hb.get? la = some (listO vs ve)) (hk:Keeps hb h) (nL:hb.get? L = none) (ni:hb.get? it = none) (nLi:L ≠ it)
    (hL:h.get? L = some (redFr w (.ref fa) la it x0 t0 ks x tx el e)) (hit:h.get? it = some (litO la i)) :
    Ok (cf w b1 b2 [(la,listO vs ve),(fa,fnO fd)] [L,it] 2 h.objs.size T0) h [L,it] ∧ Rep (cf w b1 b2 [(la,listO vs ve),(fa,fnO fd)] [L,it] 2 h.objs.size T0) h [L,it] h (mkT [redFr w (.ref fa) la it x0 t0 ks x tx el e,litO la i]) 2:=by
  have ne:=red_ne nL ni
  refine startM (s:=⟨h,#[],{},T0,{}⟩) (tp.keeps hk) (fun q hq=>?_) rfl (by simp [nLi]) (fun a ha=>?_) (fun q hq=>?_) (by kernel_rfl) rfl
  · rcases List.mem_cons.mp hq with rfl | hq
    · exact ⟨hk _ _ hl,ne _ _ hl⟩
    · rcases List.mem_cons.mp hq with rfl | hq
      · exact ⟨hk _ _ hf,ne _ _ hf⟩
      · cases hq
  · cases q:(kt w.params).get a with
    | none=>rfl
    | some o=>exact absurd ha (ne a o (tp a o q))
  · rcases List.mem_cons.mp hq with rfl | hq
    · exact hL
    · rcases List.mem_cons.mp hq with rfl | hq
      · exact hit
      · cases hq
theorem red_turn (F:Follows w b1 b2) (hA:Lo A 500) (hh:A.handled = none) (tp:TopOk w hb)
    (hfn:FnOk w 600 hb (.ref fa) P Fn) (hf:hb.get? fa = some (fnO fd)) (hl:hb.get? la = some (listO vs ve)) (hk:Keeps hb h) (nL:hb.get? L = none) (ni:hb.get? it = none) (nLi:L ≠ it)
    (hL:h.get? L = some (redFr w (.ref fa) la it x0 t0 ks x tx el e)) (hit:h.get? it = some (litO la i)) (hx:vs[i]? = some (.int y ty)) (hy:P y)
    (K:∀ h' tk' tx' el' e',Keeps hb h' → h.objs.size ≤ h'.objs.size → h'.get? L = some (redFr w (.ref fa) la it x0 t0 ks (Fn x y) tx' el' e') → h'.get? it = some (litO la (i + 1)) →
      codeAny (model prog w) A (redFor w L it) R ⟨h',g,d,tk',os⟩) :
    codeAny (model prog w) A (redFor w L it) R ⟨h,g,d,T0,os⟩:=by
  have ne:=red_ne nL ni
  obtain ⟨tg,p1,p2,rfl⟩:=opt2 el
  cases tg
  all_goals
    refine Mn.enter hA ?_
    have OD:=red_start (b1:=b1) (b2:=b2) (T0:=T0) tp hf hl hk nL ni nLi hL hit
    refine go F 2 2 0 [1001] (i:=0) OD hA hh fun h1=>?_
    intro o_h1 OD
    refine Mn.st (.call (.builtin "list_iterator.__next__") ⟨[.ref it],[]⟩) ?_
    refine c_list_next (OD.2.ob 1) (OD.2.ro (la,listO vs ve) (.head _)) hx fun h2 hit2 hs2=>?_
    replace OD:=cre1 T0 1 it OD (by kernel_rfl:_ = some (litO la i)) rfl (same_keepsBut hs2) (Nat.le_of_eq hs2.1.symm) hit2
    refine go F 16 2 1 [1000,1000,1000,1000,1000,2001] OD hA hh fun h3=>?_
    intro o_h3 OD
    have kb3:Keeps hb h3:=fun b o eb=>OD.2.base b o (hk b o eb) (ne b o eb)
    refine Mn.st (.call (.ref fa) ⟨[.int x tx,.int y ty],[]⟩) ?_
    refine hfn _ _ h3 g d _ os x y tx ty hy (depth_ok hA (by kernel_rfl)) (aH hh) kb3 fun h4 tk4 t4 K4 S4=>?_
    replace OD:=cre0 tk4 OD K4 S4
    refine go F 8 2 1 [1000,1000] (i:=0) OD hA hh fun h5=>?_
    intro o_h5 OD
    refine Mn.again (c':=redFor w L it) (by kernel_rfl) rfl (by kernel_rfl) ?_
    have kb5:Keeps hb h5:=fun b o eb=>OD.2.base b o (hk b o eb) (ne b o eb)
    have hi5:h5.get? it = some (litO la (i + 1)):=OD.2.ob 1
    first
    | exact K h5 _ t4 (some (T0 + 0,.int y ty)) (e + 1) kb5 (size_le OD.1 OD.2) (OD.2.obj (j:=0) (by kernel_rfl!) rfl) hi5
    | exact K h5 _ t4 (some (p1,.int y ty)) e kb5 (size_le OD.1 OD.2) (OD.2.obj (j:=0) (by kernel_rfl!) rfl) hi5
theorem red_end (F:Follows w b1 b2) (hA:Lo A 500) (hh:A.handled = none) (tp:TopOk w hb)
    (hf:hb.get? fa = some (fnO fd)) (hl:hb.get? la = some (listO vs ve)) (hk:Keeps hb h) (nL:hb.get? L = none) (ni:hb.get? it = none) (nLi:L ≠ it)
    (hL:h.get? L = some (redFr w (.ref fa) la it x0 t0 ks x tx el e)) (hit:h.get? it = some (litO la i)) (hx:vs[i]? = none)
    (K:∀ h' tk',Keeps hb h' → h.objs.size ≤ h'.objs.size → h'.get? L = some (redFr w (.ref fa) la it x0 t0 ks x tx el e) → R (.ok .next) ⟨h',g,d,tk',os⟩) :
    codeAny (model prog w) A (redFor w L it) R ⟨h,g,d,T0,os⟩:=by
  have ne:=red_ne nL ni
  obtain ⟨tg,p1,p2,rfl⟩:=opt2 el
  cases tg
  all_goals
    refine Mn.enter hA ?_
    have OD:=red_start (b1:=b1) (b2:=b2) (T0:=T0) tp hf hl hk nL ni nLi hL hit
    refine go F 2 2 0 [1001] (i:=0) OD hA hh fun h1=>?_
    intro o_h1 OD
    refine Mn.st (.call (.builtin "list_iterator.__next__") ⟨[.ref it],[]⟩) ?_
    refine c_list_end (aH hh) (OD.2.ob 1) (OD.2.ro (la,listO vs ve) (.head _)) hx fun h2 hit2 hs2 hz2 hx2=>?_
    replace OD:=cre1R T0 1 it [(h1.objs.size + 1,stopO h1.objs.size)] OD (by kernel_rfl:_ = some (litO la i)) rfl hs2 (by rw [hz2]; exact Nat.le_add_right _ _) hit2
      (fun q hq=>by
        rcases List.mem_cons.mp hq with rfl | hq
        · exact ⟨hx2,Nat.le_succ _⟩
        · cases hq)
    refine go F 2 2 0 [2002] OD hA hh fun h3=>?_
    intro o_h3 OD
    refine Mn.en (.next) ?_
    exact K h3 _ (fun b o eb=>OD.2.base b o (hk b o eb) (ne b o eb)) (size_le OD.1 OD.2) (OD.2.ob 0)
theorem red_loop (F:Follows w b1 b2) (hA:Lo A 500) (hh:A.handled = none) (tp:TopOk w hb)
    (hfn:FnOk w 600 hb (.ref fa) P Fn) (hf:hb.get? fa = some (fnO fd)) (nL:hb.get? L = none) (ni:hb.get? it = none) (nLi:L ≠ it) :
    ∀ (rest done:List (Int × Nat)) (h:Heap) (T0:Nat) (x:Int) (tx:Nat) (el:Option (Nat × Value)) (e:Nat),(∀ q ∈ rest,P q.1) → hb.get? la = some (listO (intsV (done ++ rest)) ve) → Keeps hb h →
      h.get? L = some (redFr w (.ref fa) la it x0 t0 ks x tx el e) → h.get? it = some (litO la done.length) →
      (∀ h' tk' tx' el' e',Keeps hb h' → h.objs.size ≤ h'.objs.size → h'.get? L = some (redFr w (.ref fa) la it x0 t0 ks ((rest.map (·.1)).foldl Fn x) tx' el' e') → R (.ok .next) ⟨h',g,d,tk',os⟩) →
      codeAny (model prog w) A (redFor w L it) R ⟨h,g,d,T0,os⟩
  | [],done,h,T0,x,tx,el,e,_,hl,hk,hL,hit,K =>
    red_end F hA hh tp hf hl hk nL ni nLi hL hit (by simp [intsV]) fun h' tk' k1 s1 hL'=>K h' tk' tx el e k1 s1 hL'
  | y :: rest,done,h,T0,x,tx,el,e,hy,hl,hk,hL,hit,K=>by
    refine red_turn F hA hh tp (y:=y.1) (ty:=y.2) hfn hf hl hk nL ni nLi hL hit (by simp [intsV]) (hy y (.head _)) fun h' tk' tx' el' e' k1 s1 hL' hit'=>?_
    refine red_loop F hA hh tp hfn hf nL ni nLi rest (done ++ [y]) h' tk' (Fn x y.1) tx' el' e' (fun q hq=>hy q (.tail _ hq)) (by rw [List.append_assoc]; exact hl) k1 hL' (by rw [List.length_append]; exact hit') fun h'' tk'' tx'' el'' e'' k2 s2 hL''=>?_
    exact K h'' tk'' tx'' el'' e'' k2 (Nat.le_trans s1 s2) hL''
theorem reduce_init (F:Follows w b1 b2) (hA:Lo A 400) (hh:A.handled = none) (tp:TopOk w h) {xs:List (Int × Nat)}
    (hfn:FnOk w 600 h (.ref fa) P Fn) (hf:h.get? fa = some (fnO fd)) (hl:h.get? la = some (listO (intsV xs) ve)) (hy:∀ q ∈ xs,P q.1)
    (K:∀ h' tk' tx,Keeps h h' → h.objs.size ≤ h'.objs.size → R (.ok (.ret (.int ((xs.map (·.1)).foldl Fn x0) tx))) ⟨h',g,d,tk',os⟩) :
    codeAny (model prog w) A (.call (.ref 47) ⟨[.ref fa,.ref la,.int x0 t0],[]⟩) R ⟨h,g,d,T0,os⟩:=by
  refine Mn.enter hA ?_
  have OD:=start0 (w:=w) (b1:=b1) (b2:=b2) (ro:=[(la,listO (intsV xs) ve),(fa,fnO fd)]) (s:=⟨h,g,d,T0,os⟩) tp (fun q hq=>by
    rcases List.mem_cons.mp hq with rfl | hq
    · exact hl
    · rcases List.mem_cons.mp hq with rfl | hq
      · exact hf
      · cases hq)
  refine go F 74 2 5 [47,46,40,1000,1000,1000,1000,1000,1000,2,3,0,1000,2000,2000,7000,2000,1001,1000,1000,1000,3,1000,1000,1000,1000,1001,1001,7000,1001,1001] (i:=0) OD hA hh fun h1=>?_
  intro o_h1 OD
  refine Mn.st (redFor w h.objs.size (h.objs.size + 1)) ?_
  have hN:∀ k,h.get? (h.objs.size + k) = none:=fun k=>by
    cases q:h.get? (h.objs.size + k) with
    | none=>rfl
    | some o=>exact absurd (Heap.lt_size q) (Nat.not_lt.mpr (Nat.le_add_right _ _))
  have kb1:Keeps h h1:=fun b o eb=>OD.2.base b o eb (fun hm=>(nomatch hm))
  refine red_loop F (depth_ok hA (by kernel_rfl)) (aH hh) tp hfn hf (hN 0) (hN 1) (Nat.ne_of_lt (Nat.lt_succ_self _)) (ve:=ve) (x0:=x0) (t0:=t0) (ks:=[T0 + 0,T0 + 1,T0 + 2,T0 + 3,T0 + 4]) xs [] h1 _ x0 t0 none 5 hy hl kb1
    (OD.2.ob 0) (OD.2.ob 1) fun h2 tk2 tx2 el2 e2 k2 s2 hL2=>?_
  have OD2:=startM (w:=w) (b1:=b1) (b2:=b2) (ro:=[]) (pre:=[h.objs.size]) (os:=[redFr w (.ref fa) la (h.objs.size + 1) x0 t0 [T0 + 0,T0 + 1,T0 + 2,T0 + 3,T0 + 4] ((xs.map (·.1)).foldl Fn x0) tx2 el2 e2]) (s:=⟨h2,#[],{},tk2,{}⟩) (tp.keeps k2)
    (fun q hq=>nomatch hq) rfl (by simp) (fun a ha=>by
      rcases List.mem_cons.mp ha with rfl | ha
      · cases q:(kt w.params).get h.objs.size with
        | none=>rfl
        | some o=>exact absurd (tp _ o q) (by rw [show h.get? h.objs.size = none from hN 0]; exact fun x=>nomatch x)
      · cases ha) (fun q hq=>by
      rcases List.mem_cons.mp hq with rfl | hq
      · exact hL2
      · cases hq) (by kernel_rfl) rfl
  refine go F 3 1 0 [1000] (i:=0) OD2 hA hh fun h3=>?_
  intro o_h3 OD3
  refine Mn.en (.ret (.int ((xs.map (·.1)).foldl Fn x0) tx2)) ?_
  refine K h3 _ tx2 (fun b o eb=>OD3.2.base b o (k2 b o eb) (fun hm=>?_)) (Nat.le_trans (Nat.le_trans (size_le OD.1 OD.2) s2) (size_le OD3.1 OD3.2))
  rcases List.mem_cons.mp hm with x | x
  · exact absurd eb (by rw [x,show h.get? h.objs.size = none from hN 0]; exact fun x=>nomatch x)
  · cases x
end
end Mine
namespace Mine
open PySem PySem.W PySem.W.X PyProof.Rows
noncomputable def someB {α:Type}:Option α → Bool
  | some _=>true
  | none=>false
noncomputable def ktAll:KT → Nat → Nat → Bool
  | .nil,_,_=>true
  | .node v l r,s,o=>match (match someB v with | true=>Nat.blt o 219 | false=>true) with
    | true=>match ktAll l (2 * s) (s + o) with
      | true=>ktAll r (2 * s) (2 * s + o)
      | false=>false
    | false=>false
theorem kt_odd {s j:Nat} (p:j % 2 = 1) (o:Nat):2 * s * (j / 2) + (s + o) = s * j + o:=by
  have:j = 2 * (j / 2) + 1:=by have:=Nat.div_add_mod j 2; rw [p] at this; exact this.symm
  conv=>rhs; rw [this]
  rw [Nat.mul_add,Nat.mul_one,← Nat.mul_assoc,Nat.mul_comm s 2,Nat.add_assoc]
theorem kt_even {s j:Nat} (hj:¬ j = 0) (p:¬ j % 2 = 1) (o:Nat):2 * s * (j / 2 - 1) + (2 * s + o) = s * j + o:=by
  have:j = 2 * (j / 2 - 1) + 2:=by
    have a:=Nat.div_add_mod j 2
    rw [two_mod p] at a
    clear p
    generalize j / 2 = x at a ⊢
    lia
  conv=>rhs; rw [this]
  rw [Nat.mul_add,← Nat.mul_assoc,Nat.mul_comm s 2,Nat.add_assoc]
theorem ktAll_lt:∀ (t:KT) (s o j:Nat) (x:Obj),ktAll t s o = true → t.get j = some x → s * j + o < 219
  | .nil,_,_,_,_,_,e=>by cases e
  | .node v l r,s,o,j,x,h,e=>by
    have ih1:=ktAll_lt l
    have ih2:=ktAll_lt r
    unfold ktAll at h
    rw [KT.get_node] at e
    cases h1:(match someB v with | true=>Nat.blt o 219 | false=>true) with
    | false=>rw [h1] at h; cases h
    | true =>
      rw [h1] at h
      cases h2:ktAll l (2 * s) (s + o) with
      | false=>rw [h2] at h; cases h
      | true =>
        rw [h2] at h
        by_cases hj:j = 0
        · rw [if_pos hj] at e
          rw [e] at h1
          have:o < 219:=Nat.le_of_ble_eq_true h1
          rw [hj,Nat.mul_zero,Nat.zero_add]
          exact this
        · rw [if_neg hj] at e
          by_cases p:j % 2 = 1
          · rw [if_pos p] at e
            rw [← kt_odd p]
            exact ih1 _ _ _ _ h2 e
          · rw [if_neg p] at e
            rw [← kt_even hj p]
            exact ih2 _ _ _ _ h e
theorem kt_all (P:Params):ktAll (kt P) 1 0 = true:=by kernel_rfl
theorem kt_lt {P:Params} {a:Addr} {o:Obj} (e:(kt P).get a = some o):a < 219:=by
  have:=ktAll_lt _ _ _ _ _ (kt_all P) e
  rw [Nat.one_mul] at this
  exact this
theorem kt_none {P:Params} {a:Addr} (h:219 ≤ a ∨ a = 169 ∨ a = 176 ∨ a = 181):(kt P).get a = none:=by
  rcases h with h | rfl | rfl | rfl
  · cases q:(kt P).get a with
    | none=>rfl
    | some o=>exact absurd (kt_lt q) (Nat.not_lt.mpr h)
  · exact (kt_free P).1
  · exact (kt_free P).2.1
  · exact (kt_free P).2.2
noncomputable def At (h:Heap):List (Addr × Obj) → Prop
  | []=>True
  | q :: r=>h.get? q.1 = some q.2 ∧ At h r
theorem At.mem {h:Heap}:∀ {l:List (Addr × Obj)},At h l → ∀ q ∈ l,h.get? q.1 = some q.2
  | [],_,_,hq=>by cases hq
  | p :: r,a,q,hq=>by
    rcases List.mem_cons.mp hq with rfl | hq
    · exact a.1
    · exact At.mem a.2 q hq
noncomputable def FreeL:List Addr → Prop
  | []=>True
  | a :: r=>(219 ≤ a ∨ a = 169 ∨ a = 176 ∨ a = 181) ∧ FreeL r
theorem FreeL.mem {P:Params}:∀ {l:List Addr},FreeL l → ∀ a ∈ l,(kt P).get a = none
  | [],_,_,hq=>by cases hq
  | p :: r,f,a,hq=>by
    rcases List.mem_cons.mp hq with rfl | hq
    · exact kt_none f.1
    · exact FreeL.mem f.2 a hq
noncomputable def NotIn (a:Addr):List Addr → Prop
  | []=>True
  | b :: r=>a ≠ b ∧ NotIn a r
theorem NotIn.mem {a:Addr}:∀ {l:List Addr},NotIn a l → a ∉ l
  | [],_,h=>by cases h
  | b :: r,n,h=>by
    rcases List.mem_cons.mp h with e | h
    · exact n.1 e
    · exact n.2.mem h
noncomputable def Apart:List Addr → Prop
  | []=>True
  | a :: r=>NotIn a r ∧ Apart r
theorem Apart.nodup:∀ {l:List Addr},Apart l → l.Nodup
  | [],_=>List.nodup_nil
  | _ :: _,h=>List.nodup_cons.mpr ⟨h.1.mem,h.2.nodup⟩
noncomputable def OutL (l:List Addr):List (Addr × Obj) → Prop
  | []=>True
  | q :: r=>NotIn q.1 l ∧ OutL l r
theorem OutL.mem {l:List Addr}:∀ {r:List (Addr × Obj)},OutL l r → ∀ q ∈ r,q.1 ∉ l
  | [],_,_,hq=>by cases hq
  | p :: r,o,q,hq=>by
    rcases List.mem_cons.mp hq with rfl | hq
    · exact o.1.mem
    · exact OutL.mem o.2 q hq
theorem startA {w:World} {b1 b2:Bool} {h:Heap} {T0:Nat} (ro:List (Addr × Obj)) (pre:List Addr) (os:List Obj) (p:Nat) (e:pre.length = p) (hl:pre.length = os.length) (hc:chkFrom .nil 0 os = true)
    (tp:TopOk w h) (hro:At h ro) (hp:At h (pre.zip os)) (hf:FreeL pre) (hn:Apart pre) (ho:OutL pre ro) :
    Ok (cf w b1 b2 ro pre p h.objs.size T0) h pre ∧ Rep (cf w b1 b2 ro pre p h.objs.size T0) h pre h (mkT os) p :=
  startM (s:=⟨h,#[],{},T0,{}⟩) tp (fun q hq=>⟨hro.mem q hq,ho.mem q hq⟩) hl hn.nodup hf.mem hp.mem hc e
theorem KeepsBut.refl (md:List Addr) (h:Heap):KeepsBut md h h:=fun _ _ e _=>e
theorem KeepsBut.trans {md:List Addr} {a b c:Heap} (x:KeepsBut md a b) (y:KeepsBut md b c):KeepsBut md a c:=fun _ _ e n=>y _ _ (x _ _ e n) n
theorem Keeps.but {md:List Addr} {a b:Heap} (x:Keeps a b):KeepsBut md a b:=fun _ _ e _=>x _ _ e
theorem KeepsBut.mono {m1 m2:List Addr} {a b:Heap} (x:KeepsBut m1 a b) (h:∀ q ∈ m1,q ∈ m2):KeepsBut m2 a b:=fun _ _ e n=>x _ _ e fun q=>n (h _ q)
theorem TopOk.keepsBut {w:World} {md:List Addr} {h h':Heap} (t:TopOk w h) (k:KeepsBut md h h') (f:FreeL md):TopOk w h':=fun a o e=>k a o (t a o e) fun hm=>by rw [f.mem a hm] at e; cases e
theorem Rep.kept {C:Cf} {hb h:Heap} {mu:List Addr} {T:BT} {m:Nat} (D:Rep C hb mu h T m):KeepsBut mu hb h:=fun b o e n=>D.base b o e n
theorem Rep.still {C:Cf} {hb h:Heap} {mu:List Addr} {T:BT} {m:Nat} (D:Rep C hb mu h T m) (k:Nat) {a:Addr} {o:Obj} (e:C.ro[k]? = some (a,o)):h.get? a = some o:=D.ro (a,o) (List.mem_of_getElem? e)
section
variable {w:World} {A:Around} {R:Result → Shared → Prop} {s:Shared}
theorem c_dict_get {l:Addr} {es:Array DictEntry} {ep:Nat} {k:Int} {t:Nat} {v:Value} (ho:s.heap.get? l = some (dictO es ep)) (hk:KeysOf (intKind prog w) es) (hv:findBy Value.isInt es k = some v)
    (h:R (.ok (.ret v)) { s with toks:=s.toks + 1 }):codeAny (model prog w) A (.call (.builtin "dict.__getitem__") ⟨[.ref l,.int k t],[]⟩) R s:=by
  have hm:s.heap.MapOf (intKind prog w) l (fun k=>findBy Value.isInt es k):=⟨_,es,ep,ho,⟨rfl,rfl,rfl⟩,rfl,hk,fun _=>rfl⟩
  exact codeAny_call_builtin F.slot_dict_getitem.plain F.entry_dict_getitem (F.slot_dict_getitem.check _ _ _ _ _ _ _ _ hm.typeIs (F.args_dict_getitem_2 _ _)
    (meets_dict_getitem (intKind prog w) (k:=k) (key:=.int k t) l (by show Value.isInt k (.int k t) = true; simp [Value.isInt]) A R s ⟨_,v,hm,hv,h⟩))
theorem isList_of {h:Heap} {l:Addr} {vs:List Value} {e:Nat} (ho:h.get? l = some (listO vs e)):h.IsList l vs.toArray:=⟨_,ho,rfl,e,rfl⟩
theorem c_list_get {l:Addr} {vs:List Value} {e:Nat} {k:Int} {t:Nat} {x:Value} (ho:s.heap.get? l = some (listO vs e)) (h0:0 ≤ k) (h1:k < 2 ^ 63) (hx:vs[k.toNat]? = some x)
    (h:R (.ok (.ret x)) s):codeAny (model prog w) A (.call (.builtin "list.__getitem__") ⟨[.ref l,.int k t],[]⟩) R s:=by
  refine codeAny_call_builtin slot_list_getitem.plain entry_list_getitem (slot_list_getitem.check _ _ _ _ _ _ _ _ (isList_of ho).typeIs (args_list_getitem _ _) ?_)
  show wpAny _ _ (Builtin.List.listSubscript? (.int k t) >>= _) _ _ s
  refine wpAny_bind (wpAny_listSubscript_int (fitsIndex_of h0 h1) ?_)
  obtain ⟨j,rfl⟩:=Int.eq_ofNat_of_zero_le h0
  have hx':vs.toArray[j]? = some x:=by rw [List.getElem?_toArray]; exact hx
  show wpAny _ _ ((seqItemAt l j >>= fun r=>pure (r.map (j,·))) >>= _) _ _ s
  refine wpAny_bind (wpAny_bind (wpAny_seqItemAt ho rfl (wpAny_pure ?_)))
  rw [hx']
  first
    | exact wpAny_bind (wpAny_pure (wpAny_pure h))
    | exact wpAny_pure h
theorem c_list_append {l:Addr} {vs:List Value} {e:Nat} {x:Value} (ho:s.heap.get? l = some (listO vs e)) (hz:vs.length ≤ 1000)
    (h:∀ h',h'.get? l = some (listO (vs ++ [x]) (e + 1)) → Heap.SameBut l s.heap h' → R (.ok (.ret .none)) { s with heap:=h' }):codeAny (model prog w) A (.call (.builtin "list.append") ⟨[.ref l,x],[]⟩) R s:=by
  refine code_meets F.slot_list_append (isList_of ho).typeIs F.entry_list_append (F.args_list_append_2 _ _) (AutoListH.list_append_list_val_0 l vs.toArray e x (by rw [List.size_toArray]; show _ ≤ 2 ^ 24; lia)) ⟨ho,?_⟩
  refine h _ ?_ (Heap.SameBut.update ..)
  rw [Heap.get?_update_self _ ho rfl]
  simp [listO,Obj.mapSeq]
end
end Mine
namespace Mine
open PySem PySem.W PySem.W.X PyProof.Rows
noncomputable def ifBody:Stmt → List Stmt
  | .If _ b _ _=>b
  | _=>[]
noncomputable def assignV:Stmt → Expr
  | .Assign _ v _=>v
  | _=>.Constant .none 0 default
noncomputable def retV:Stmt → Expr
  | .Return (some v) _=>v
  | _=>.Constant .none 0 default
noncomputable def callArg:Expr → Nat → Expr
  | .Call _ as _ _,n=>as.getD n (.Constant .none 0 default)
  | _,_=>.Constant .none 0 default
noncomputable def nthS (l:List Stmt) (n:Nat):Stmt:=l.getD n (.Pass default)
noncomputable def q_lambda:Str:=⟨#[60,108,97,109,98,100,97,62]⟩
noncomputable def q_toldL:Str:=⟨#[95,108,97,119,95,116,111,108,100,46,60,108,111,99,97,108,115,62,46]⟩
noncomputable def q_toldLam:Str:=⟨#[95,108,97,119,95,116,111,108,100,46,60,108,111,99,97,108,115,62,46,60,108,97,109,98,100,97,62]⟩
noncomputable def lamFd (w:World) (e:Expr) (clo:List (Str × Addr)) (code ct:Value):FuncData:=match e with
  | .Lambda a b s _=>{ name:=q_lambda,qualname:=q_toldLam,params:=a,body:=.expr b,scope:=s,globals:=(fdAt w 184).globals,closure:=clo,defaults:=.none,kwdefaults:=.none,pyModule:=(fdAt w 184).pyModule,code:=code,closureTuple:=ct,builtins:=(fdAt w 184).builtins }
  | _=>default
noncomputable def toldIf (w:World):List Stmt:=ifBody (nthS (forBody (stAt w 184 1)) 0)
noncomputable def eOver (w:World):Expr:=callArg (assignV (nthS (toldIf w) 1)) 0
noncomputable def eUnder (w:World):Expr:=callArg (assignV (nthS (toldIf w) 2)) 0
noncomputable def eXor (w:World):Expr:=callArg (retV (stAt w 184 2)) 0
noncomputable def codeO (q:Str) (v0:Value) (t:Nat) (r:List Value):Obj:={ cls:=.type "code",data:=.fields ⟨v0 :: .str q t :: r⟩ }
noncomputable def IsCode (h:Heap) (q:Str) (a:Addr):Prop:=∃ v0 t r,h.get? a = some (codeO q v0 t r)
noncomputable def Holds (es:Array DictEntry) (f:Int → Int) (k:Int):Prop:=∃ t,findBy Value.isInt es k = some (.int (f k) t)
section
variable {w:World} {b1 b2:Bool} {h:Heap} {fa ca cl cs l:Addr} {ct:Value} {sp:Int} {tsp:Nat} {es:Array DictEntry} {ep:Nat} {lg:Int → Int}
theorem lam_over (F:Follows w b1 b2) (tp:TopOk w h) (hfa:h.get? fa = some (fnO (lamFd w (eOver w) [(n_spot,cs),(n_logs,cl)] (.ref ca) ct))) (hca:IsCode h q_toldLam ca) (hcl:h.get? cl = some (cellO (some (.ref l)))) (hcs:h.get? cs = some (cellO (some (.int sp tsp))))
    (hl:h.get? l = some (dictO es ep)) (hk:KeysOf (intKind prog w) es):FnOk w 600 h (.ref fa) (fun y=>Holds es lg (Builtin.bitXor sp y)) (fun x y=>x + lg (Builtin.bitXor sp y)):=by
  intro A R h1 g d tk os x y tx ty hy hd hh hk1 K
  obtain ⟨v0,tc,r,hca⟩:=hca
  obtain ⟨tv,hv⟩:=hy
  refine Mn.enter hd ?_
  have OD:=start0 (w:=w) (b1:=b1) (b2:=b2) (ro:=[(fa,fnO (lamFd w (eOver w) [(n_spot,cs),(n_logs,cl)] (.ref ca) ct)),(ca,codeO q_toldLam v0 tc r),(cs,cellO (some (.int sp tsp))),(cl,cellO (some (.ref l))),(l,dictO es ep)]) (s:=⟨h1,g,d,tk,os⟩) (tp.keeps hk1)
    (At.mem ⟨hk1 _ _ hfa,hk1 _ _ hca,hk1 _ _ hcs,hk1 _ _ hcl,hk1 _ _ hl,trivial⟩)
  refine go F 31 1 3 [2000,2001,1000,1000,1000,1000,2,1000,2003,2002,1000,2004,2004,2004] (i:=0) OD hd hh fun h2=>?_
  intro o_h2 OD
  refine Mn.st (.call (.builtin "dict.__getitem__") ⟨[.ref l,.int (Builtin.bitXor sp y) (tk + 2)],[]⟩) ?_
  refine c_dict_get (OD.2.still 4 rfl) hk hv ?_
  refine go F 5 1 5 [] (i:=4) OD hd hh fun h3=>?_
  intro o_h3 OD
  refine Mn.en (.ret (.int (x + lg (Builtin.bitXor sp y)) (tk + 4))) ?_
  exact K h3 _ _ (fun b o eb=>OD.2.base b o eb (fun hm=>nomatch hm)) (size_le OD.1 OD.2)
theorem lam_under (F:Follows w b1 b2) (tp:TopOk w h) (hfa:h.get? fa = some (fnO (lamFd w (eUnder w) [(n_point,cs),(n_logs,cl)] (.ref ca) ct))) (hca:IsCode h q_toldLam ca) (hcl:h.get? cl = some (cellO (some (.ref l)))) (hcs:h.get? cs = some (cellO (some (.int sp tsp))))
    (hl:h.get? l = some (dictO es ep)) (hk:KeysOf (intKind prog w) es):FnOk w 600 h (.ref fa) (fun y=>Holds es lg (Builtin.bitXor sp y)) (fun x y=>x + lg (Builtin.bitXor sp y)):=by
  intro A R h1 g d tk os x y tx ty hy hd hh hk1 K
  obtain ⟨v0,tc,r,hca⟩:=hca
  obtain ⟨tv,hv⟩:=hy
  refine Mn.enter hd ?_
  have OD:=start0 (w:=w) (b1:=b1) (b2:=b2) (ro:=[(fa,fnO (lamFd w (eUnder w) [(n_point,cs),(n_logs,cl)] (.ref ca) ct)),(ca,codeO q_toldLam v0 tc r),(cs,cellO (some (.int sp tsp))),(cl,cellO (some (.ref l))),(l,dictO es ep)]) (s:=⟨h1,g,d,tk,os⟩) (tp.keeps hk1)
    (At.mem ⟨hk1 _ _ hfa,hk1 _ _ hca,hk1 _ _ hcs,hk1 _ _ hcl,hk1 _ _ hl,trivial⟩)
  refine go F 31 1 3 [2000,2001,1000,1000,1000,1000,2,1000,2003,2002,1000,2004,2004,2004] (i:=0) OD hd hh fun h2=>?_
  intro o_h2 OD
  refine Mn.st (.call (.builtin "dict.__getitem__") ⟨[.ref l,.int (Builtin.bitXor sp y) (tk + 2)],[]⟩) ?_
  refine c_dict_get (OD.2.still 4 rfl) hk hv ?_
  refine go F 5 1 5 [] (i:=4) OD hd hh fun h3=>?_
  intro o_h3 OD
  refine Mn.en (.ret (.int (x + lg (Builtin.bitXor sp y)) (tk + 4))) ?_
  exact K h3 _ _ (fun b o eb=>OD.2.base b o eb (fun hm=>nomatch hm)) (size_le OD.1 OD.2)
end
end Mine
set_option genInjectivity false
set_option genSizeOf false
namespace Mine
open PySem PySem.W PySem.W.X PyProof.Rows
noncomputable def compScope:Expr → Scope
  | .ListComp _ _ s _=>s
  | .DictComp _ _ _ s _=>s
  | _=>default
noncomputable def hasN (n:Str):List (Str × Addr) → Bool
  | []=>false
  | q :: r=>match decide (q.1 = n) with
    | true=>true
    | false=>hasN n r
noncomputable def cellScope (s:Scope) (own:List (Str × Addr)):Scope:={ s with names:=s.names.map fun q=>match hasN q.1 own with
  | true=>(q.1,.cell)
  | false=>q }
noncomputable def compEnv (w:World) (a:Nat) (qual:Str) (e:Expr) (own:List (Str × Addr)) (loc L:Addr):Env :=
  { scope:=cellScope (compScope e) own,locals:=loc,globals:=(fdAt w a).globals,cells:=own,qual:=qual,func:=none,code:=(fdAt w a).code,frame:=some L,builtins:=(fdAt w a).builtins }
noncomputable def othersE (w:World):Expr:=assignV (nthS (toldIf w) 0)
noncomputable def othEnv (w:World) (cp loc L:Addr):Env:=compEnv w 184 q_toldL (othersE w) [(n_point,cp)] loc L
noncomputable def locO (w:World) (es:List (Str × Nat × Value)) (e:Nat):Obj:={ cls:=.type "dict",data:=.dict (entsO w es) e }
noncomputable def othLoc (w:World):Option (Nat × Value × Nat × Value) → Obj
  | none=>locO w [] 0
  | some q=>locO w [(n_other,q.1,q.2.1),(n_figure,q.2.2.1,q.2.2.2)] 2
noncomputable def pairO (x:Int) (tx:Nat) (v:Int) (tv:Nat):Obj:=tupO [.int x tx,.int v tv]
noncomputable abbrev Pr:=Addr × (Int × Nat) × (Int × Nat)
noncomputable def prO (q:Pr):Obj:=pairO q.2.1.1 q.2.1.2 q.2.2.1 q.2.2.2
noncomputable def refsV (ps:List Pr):List Value:=ps.map fun q=>.ref q.1
inductive T4 where
  | a
  | b
  | c
  | d
noncomputable def shF (t:T4) (a b c:Int × Nat):List (Int × Nat):=match t with
  | .a=>[]
  | .b=>[a]
  | .c=>[a,b]
  | .d=>[a,b,c]
theorem shp3 {vs:List (Int × Nat)} (h:vs.length ≤ 3):∃ t a b c,vs = shF t a b c:=by
  match vs,h with
  | [],_=>exact ⟨.a,(0,0),(0,0),(0,0),rfl⟩
  | [a],_=>exact ⟨.b,a,a,a,rfl⟩
  | [a,b],_=>exact ⟨.c,a,b,b,rfl⟩
  | [a,b,c],_=>exact ⟨.d,a,b,c,rfl⟩
section
variable {w:World} {b1 b2:Bool} {A:Around} {R:Result → Shared → Prop} {hb h:Heap} {g:Array GenState} {d:Drawn} {T0:Nat} {os:OsState}
  {it acc loc L kn ta cp:Addr} {kv:List Value} {ke i e:Nat} {vs:List (Int × Nat)} {lo:Option (Nat × Value × Nat × Value)} {p x v:Int} {tp tx tv:Nat}
theorem oth_turn (F:Follows w b1 b2) (hA:Lo A 500) (hh:A.handled = none) (top:TopOk w h)
    (hkn:h.get? kn = some (listO kv ke)) (hta:h.get? ta = some (pairO x tx v tv)) (hcp:h.get? cp = some (cellO (some (.int p tp))))
    (hit:h.get? it = some (litO kn i)) (hacc:h.get? acc = some (listO (intsV vs) e)) (hloc:h.get? loc = some (othLoc w lo)) (hx:kv[i]? = some (.ref ta)) (hl:vs.length ≤ 3)
    (g1:219 ≤ it ∧ 219 ≤ acc ∧ 219 ≤ loc) (n1:it ≠ acc ∧ it ≠ loc ∧ acc ≠ loc) (n2:NotIn kn [it,acc,loc] ∧ NotIn ta [it,acc,loc] ∧ NotIn cp [it,acc,loc])
    (K:∀ h' tk' (lo':Nat × Value × Nat × Value) e',KeepsBut [it,acc,loc] h h' → h.objs.size ≤ h'.objs.size → h'.get? it = some (litO kn (i + 1)) → h'.get? acc = some (listO (intsV (if x = p then vs else vs ++ [(x,tx)])) e') → h'.get? loc = some (othLoc w (some lo')) →
      codeAny (model prog w) A (.compLoop (othersE w) 0 (.ref it) (.ref acc) (othEnv w cp loc L)) R ⟨h',g,d,tk',os⟩) :
    codeAny (model prog w) A (.compLoop (othersE w) 0 (.ref it) (.ref acc) (othEnv w cp loc L)) R ⟨h,g,d,T0,os⟩:=by
  refine Mn.enter hA ?_
  obtain ⟨tg,q1,q2,q3,q4,rfl⟩:=opt4 lo
  let lo0:=oF4 tg q1 q2 q3 q4
  cases tg
  all_goals
    have OD:=startA (b1:=b1) (b2:=b2) (T0:=T0) [(kn,listO kv ke),(ta,pairO x tx v tv),(cp,cellO (some (.int p tp)))] [it,acc,loc] [litO kn i,listO (intsV vs) e,othLoc w lo0] 3 rfl rfl (by kernel_rfl) top ⟨hkn,hta,hcp,trivial⟩ ⟨hit,hacc,hloc,trivial⟩
      ⟨.inl g1.1,.inl g1.2.1,.inl g1.2.2,trivial⟩ ⟨⟨n1.1,n1.2.1,trivial⟩,⟨n1.2.2,trivial⟩,trivial,trivial⟩ ⟨n2.1,n2.2.1,n2.2.2,trivial⟩
    refine go F 2 3 0 [1000] (i:=0) OD hA hh fun h1=>?_
    intro o_h1 OD
    refine Mn.st (.call (.builtin "list_iterator.__next__") ⟨[.ref it],[]⟩) ?_
    refine c_list_next (OD.2.ob 0) (OD.2.still 0 rfl) hx fun h2 hit2 hs2=>?_
    replace OD:=cre1 T0 0 it OD (by kernel_rfl:_ = some (litO kn i)) rfl (same_keepsBut hs2) (Nat.le_of_eq hs2.1.symm) hit2
    refine go F 67 6 2 [1000,2001,2001,2001,7000,2001,1003,1003,1003,1003,1003,2001,1003,1003,1003,1003,1003,1003,2001,1003,1003,1003,1003,1003,1003,2001,1003,1003,1005,1002,1002,1002,1002,1002,2002,7000] OD hA hh fun h3=>?_
    intro o_h3 OD
    refine Mn.st (.call (.builtin "int.__ne__") ⟨[.int x tx,.int p tp],[]⟩) ?_
    by_cases hxp:x = p
    · refine c_ne false (by simp [hxp]) ?_
      refine Mn.again (c':=.compLoop (othersE w) 0 (.ref it) (.ref acc) (othEnv w cp loc L)) (by kernel_rfl) rfl (by kernel_rfl) ?_
      rw [if_pos hxp] at K
      first
      | exact K h3 _ (T0 + 0,.int x tx,T0 + 1,.int v tv) e OD.2.kept (size_le OD.1 OD.2) (OD.2.ob 0) (OD.2.ob 1) (OD.2.obj (j:=2) (by kernel_rfl!) rfl)
      | exact K h3 _ (q1,.int x tx,q3,.int v tv) e OD.2.kept (size_le OD.1 OD.2) (OD.2.ob 0) (OD.2.ob 1) (OD.2.obj (j:=2) (by kernel_rfl!) rfl)
    · refine c_ne true (by simp [hxp]) ?_
      rw [if_neg hxp] at K
      obtain ⟨ts,a,b,c,rfl⟩:=shp3 hl
      cases ts
      all_goals
        refine go F 9 6 2 [1002,1001,1001,1001,1001] OD hA hh fun h4=>?_
        intro o_h4 OD
        refine Mn.again (c':=.compLoop (othersE w) 0 (.ref it) (.ref acc) (othEnv w cp loc L)) (by kernel_rfl) rfl (by kernel_rfl) ?_
        first
        | exact K h4 _ (T0 + 0,.int x tx,T0 + 1,.int v tv) (e + 1) OD.2.kept (size_le OD.1 OD.2) (OD.2.ob 0) (OD.2.ob 1) (OD.2.obj (j:=2) (by kernel_rfl!) rfl)
        | exact K h4 _ (q1,.int x tx,q3,.int v tv) (e + 1) OD.2.kept (size_le OD.1 OD.2) (OD.2.ob 0) (OD.2.ob 1) (OD.2.obj (j:=2) (by kernel_rfl!) rfl)
theorem At1 {h h':Heap} {a:Addr} {o:Obj} (x:h'.get? a = some o ∧ h.objs.size ≤ a):∀ q ∈ [(a,o)],h'.get? q.1 = some q.2 ∧ h.objs.size ≤ q.1:=fun q hq=>by
  rw [List.mem_singleton.mp hq]; exact x
theorem oth_end (F:Follows w b1 b2) (hA:Lo A 500) (hh:A.handled = none) (top:TopOk w h)
    (hkn:h.get? kn = some (listO kv ke)) (hit:h.get? it = some (litO kn i)) (hx:kv[i]? = none) (g1:219 ≤ it) (n2:kn ≠ it)
    (K:∀ h' tk',KeepsBut [it] h h' → h.objs.size ≤ h'.objs.size → h'.get? it = some (litE i) → R (.ok .next) ⟨h',g,d,tk',os⟩) :
    codeAny (model prog w) A (.compLoop (othersE w) 0 (.ref it) (.ref acc) (othEnv w cp loc L)) R ⟨h,g,d,T0,os⟩:=by
  refine Mn.enter hA ?_
  have OD:=startA (b1:=b1) (b2:=b2) (T0:=T0) [(kn,listO kv ke)] [it] [litO kn i] 1 rfl rfl (by kernel_rfl) top ⟨hkn,trivial⟩ ⟨hit,trivial⟩ ⟨.inl g1,trivial⟩ ⟨trivial,trivial⟩ ⟨⟨n2,trivial⟩,trivial⟩
  refine go F 2 1 0 [1000] (i:=0) OD hA hh fun h1=>?_
  intro o_h1 OD
  refine Mn.st (.call (.builtin "list_iterator.__next__") ⟨[.ref it],[]⟩) ?_
  refine c_list_end (aH hh) (OD.2.ob 0) (OD.2.still 0 rfl) hx fun h2 hit2 hs2 hz2 hx2=>?_
  replace OD:=cre1R T0 0 it [(h1.objs.size + 1,stopO h1.objs.size)] OD (by kernel_rfl:_ = some (litO kn i)) rfl hs2 (by rw [hz2]; exact Nat.le_add_right _ _) hit2
    (At1 ⟨hx2,Nat.le_succ _⟩)
  refine go F 1 1 0 [2001] OD hA hh fun h3=>?_
  intro o_h3 OD
  refine Mn.en (.next) ?_
  exact K h3 _ OD.2.kept (size_le OD.1 OD.2) (OD.2.ob 0)
noncomputable def othF (p:Int) (ps:List Pr):List (Int × Nat):=(ps.filter fun q=>decide (q.2.1.1 ≠ p)).map (·.2.1)
theorem oth_loop (F:Follows w b1 b2) (hA:Lo A 500) (hh:A.handled = none) (g1:219 ≤ it ∧ 219 ≤ acc ∧ 219 ≤ loc) (n1:it ≠ acc ∧ it ≠ loc ∧ acc ≠ loc) (n2:NotIn kn [it,acc,loc] ∧ NotIn cp [it,acc,loc]) :
    ∀ (rest done:List Pr) (h:Heap) (T0:Nat) (vs:List (Int × Nat)) (e:Nat) (lo:Option (Nat × Value × Nat × Value)),TopOk w h → h.get? kn = some (listO (refsV (done ++ rest)) ke) → h.get? cp = some (cellO (some (.int p tp))) →
      (∀ q ∈ rest,h.get? q.1 = some (prO q) ∧ NotIn q.1 [it,acc,loc]) → h.get? it = some (litO kn done.length) → h.get? acc = some (listO (intsV vs) e) → h.get? loc = some (othLoc w lo) → vs.length + rest.length ≤ 4 →
      (∀ h' tk' e' lo',KeepsBut [it,acc,loc] h h' → h.objs.size ≤ h'.objs.size → h'.get? it = some (litE (done.length + rest.length)) → h'.get? acc = some (listO (intsV (vs ++ othF p rest)) e') → h'.get? loc = some (othLoc w lo') → ((lo' = lo ∧ rest = []) ∨ ∃ z,lo' = some z) → R (.ok .next) ⟨h',g,d,tk',os⟩) →
      codeAny (model prog w) A (.compLoop (othersE w) 0 (.ref it) (.ref acc) (othEnv w cp loc L)) R ⟨h,g,d,T0,os⟩
  | [],done,h,T0,vs,e,lo,top,hkn,hcp,hq,hit,hacc,hloc,hl,K=>by
    refine oth_end F hA hh top hkn hit (by simp [refsV]) g1.1 n2.1.1 fun h' tk' k1 s1 hit'=>?_
    refine K h' tk' e lo (k1.mono fun q hq=>?_) s1 hit' ?_ ?_ (.inl ⟨rfl,rfl⟩)
    · rw [List.mem_singleton.mp hq]; exact .head _
    · rw [show vs ++ othF p [] = vs from List.append_nil _]
      exact k1 _ _ hacc fun hm=>n1.1 (List.mem_singleton.mp hm).symm
    · exact k1 _ _ hloc fun hm=>n1.2.1 (List.mem_singleton.mp hm).symm
  | q :: rest,done,h,T0,vs,e,lo,top,hkn,hcp,hq,hit,hacc,hloc,hl,K=>by
    have q1:=hq q (.head _)
    have fr:FreeL [it,acc,loc]:=⟨.inl g1.1,.inl g1.2.1,.inl g1.2.2,trivial⟩
    refine oth_turn F hA hh top hkn q1.1 hcp hit hacc hloc (by simp [refsV]) (by simp only [List.length_cons] at hl; lia) g1 n1 ⟨n2.1,q1.2,n2.2⟩ fun h' tk' lo' e' k1 s1 hit' hacc' hloc'=>?_
    refine oth_loop F hA hh g1 n1 n2 rest (done ++ [q]) h' tk' _ e' (some lo') (top.keepsBut k1 fr) ?_ (k1 _ _ hcp n2.2.mem) (fun r hr=>⟨k1 _ _ (hq r (.tail _ hr)).1 (hq r (.tail _ hr)).2.mem,(hq r (.tail _ hr)).2⟩) ?_ hacc' hloc' ?_ fun h2 tk2 e2 lo2 k2 s2 hit2 hacc2 hloc2 hlo2=>?_
    · rw [List.append_assoc]; exact k1 _ _ hkn n2.1.mem
    · rw [List.length_append]; exact hit'
    · simp only [List.length_cons] at hl
      split
      · lia
      · simp only [List.length_append,List.length_cons,List.length_nil]; lia
    · refine K h2 tk2 e2 lo2 (k1.trans k2) (Nat.le_trans s1 s2) ?_ ?_ hloc2 (.inr (hlo2.elim (fun z=>⟨lo',z.1⟩) id))
      · rw [hit2,List.length_append,List.length_cons,List.length_cons]; congr 2; simp only [List.length_nil]; lia
      · rw [hacc2]
        congr 2
        unfold othF
        by_cases hxp:q.2.1.1 = p
        · simp [hxp]
        · simp [hxp]
theorem oth_comp (F:Follows w b1 b2) (hA:Lo A 500) (hh:A.handled = none) (g1:219 ≤ it ∧ 219 ≤ acc ∧ 219 ≤ loc) (n1:it ≠ acc ∧ it ≠ loc ∧ acc ≠ loc) (n2:NotIn kn [it,acc,loc] ∧ NotIn cp [it,acc,loc])
    (ps:List Pr) (top:TopOk w h) (hkn:h.get? kn = some (listO (refsV ps) ke)) (hcp:h.get? cp = some (cellO (some (.int p tp)))) (hq:∀ q ∈ ps,h.get? q.1 = some (prO q) ∧ NotIn q.1 [it,acc,loc])
    (hit:h.get? it = some (litO kn 0)) (hacc:h.get? acc = some (listO [] e)) (hloc:h.get? loc = some (othLoc w none)) (hl:ps.length ≤ 4) (hne:ps ≠ [])
    (K:∀ h' tk' e' (lo':Nat × Value × Nat × Value),KeepsBut [it,acc,loc] h h' → h.objs.size ≤ h'.objs.size → h'.get? it = some (litE ps.length) → h'.get? acc = some (listO (intsV (othF p ps)) e') → h'.get? loc = some (othLoc w (some lo')) → R (.ok .next) ⟨h',g,d,tk',os⟩) :
    codeAny (model prog w) A (.compStart (othersE w) 0 (.ref it) (.ref acc) (othEnv w cp loc L)) R ⟨h,g,d,T0,os⟩:=by
  refine Mn.enter hA ?_
  have OD:=startA (b1:=b1) (b2:=b2) (T0:=T0) [(kn,listO (refsV ps) ke)] [it] [litO kn 0] 1 rfl rfl (by kernel_rfl) top ⟨hkn,trivial⟩ ⟨hit,trivial⟩ ⟨.inl g1.1,trivial⟩ ⟨trivial,trivial⟩ ⟨⟨n2.1.1,trivial⟩,trivial⟩
  refine go F 1 1 0 [7001,10,5,1000,1000,7000,1000,1000] (i:=0) OD hA hh fun h1=>?_
  intro o_h1 OD
  refine Mn.again (c':=.compLoop (othersE w) 0 (.ref it) (.ref acc) (othEnv w cp loc L)) (by kernel_rfl) rfl (by kernel_rfl) ?_
  have k1:KeepsBut [it] h h1:=OD.2.kept
  have s1:=size_le OD.1 OD.2
  have z:∀ a o,h.get? a = some o → a ≠ it → h1.get? a = some o:=fun a o x y=>k1 a o x fun hm=>y (List.mem_singleton.mp hm)
  have out:∀ {a},NotIn a [it,acc,loc] → a ≠ it:=fun x=>x.1
  refine oth_loop F hA hh g1 n1 n2 ps [] h1 _ [] e none (top.keepsBut k1 ⟨.inl g1.1,trivial⟩) (z _ _ hkn n2.1.1) (z _ _ hcp n2.2.1) (fun q hq'=>⟨z _ _ (hq q hq').1 (hq q hq').2.1,(hq q hq').2⟩) (OD.2.ob 0) (z _ _ hacc n1.1.symm) (z _ _ hloc n1.2.1.symm) (by simp only [List.length_nil]; lia) fun h' tk' e' lo' k2 s2 hit2 hacc2 hloc2 hlo2=>?_
  obtain ⟨z,rfl⟩:∃ z,lo' = some z:=hlo2.elim (fun z=>absurd z.2 hne) id
  refine K h' tk' e' z ((k1.mono fun q hq=>?_).trans k2) (Nat.le_trans s1 s2) (by rw [hit2]; simp) hacc2 hloc2
  rw [List.mem_singleton.mp hq]; exact .head _
end
end Mine
namespace Mine
open PySem PySem.W PySem.W.X PyProof.Rows
noncomputable def setL:BT → List (Nat × Addr × Obj) → BT
  | T,[]=>T
  | T,q :: r=>setL (T.set q.1 fun _=>q.2.2) r
section
variable {w:World} {b1 b2:Bool} {ro:List (Addr × Obj)} {pre:List Addr} {p N T0:Nat} {hb h h':Heap} {mu:List Addr} {T:BT} {m:Nat}
theorem setL_get:∀ (ch:List (Nat × Addr × Obj)) (T:BT) (j:Nat) (o:Obj),(setL T ch).get j = some o → (∃ o₀,T.get j = some o₀) ∧ ((∃ a,(j,a,o) ∈ ch) ∨ (T.get j = some o ∧ ∀ q ∈ ch,q.1 ≠ j))
  | [],T,j,o,e=>⟨⟨o,e⟩,.inr ⟨e,fun _ hq=>nomatch hq⟩⟩
  | q :: r,T,j,o,e=>by
    obtain ⟨⟨o₀,h1⟩,h2⟩:=setL_get r _ j o e
    rw [BT.get_set] at h1 h2
    by_cases hj:j = q.1
    · subst hj
      rw [if_pos rfl] at h1 h2
      cases hT:T.get q.1 with
      | none=>rw [hT] at h1; cases h1
      | some x =>
        refine ⟨⟨x,rfl⟩,.inl ?_⟩
        rcases h2 with ⟨a,ha⟩ | ⟨h3,_⟩
        · exact ⟨a,.tail _ ha⟩
        · rw [hT] at h3
          cases h3
          exact ⟨q.2.1,.head _⟩
    · rw [if_neg hj] at h1 h2
      refine ⟨⟨o₀,h1⟩,?_⟩
      rcases h2 with ⟨a,ha⟩ | ⟨h3,h4⟩
      · exact .inl ⟨a,.tail _ ha⟩
      · refine .inr ⟨h3,fun z hz=>?_⟩
        rcases List.mem_cons.mp hz with rfl | hz
        · exact fun e=>hj e.symm
        · exact h4 z hz
noncomputable def ChOk (C:Cf) (h':Heap):List (Nat × Addr × Obj) → Prop
  | []=>True
  | q :: r=>C.addr q.1 = q.2.1 ∧ h'.get? q.2.1 = some q.2.2 ∧ ChOk C h' r
theorem ChOk.mem {C:Cf}:∀ {l:List (Nat × Addr × Obj)},ChOk C h' l → ∀ q ∈ l,C.addr q.1 = q.2.1 ∧ h'.get? q.2.1 = some q.2.2
  | [],_,_,hq=>nomatch hq
  | _ :: _,c,q,hq=>by
    rcases List.mem_cons.mp hq with rfl | hq
    · exact ⟨c.1,c.2.1⟩
    · exact ChOk.mem c.2.2 q hq
noncomputable def RxOk (h h':Heap):List (Addr × Obj) → Prop
  | []=>True
  | q :: r=>(h'.get? q.1 = some q.2 ∧ h.objs.size ≤ q.1) ∧ RxOk h h' r
theorem RxOk.mem:∀ {l:List (Addr × Obj)},RxOk h h' l → ∀ q ∈ l,h'.get? q.1 = some q.2 ∧ h.objs.size ≤ q.1
  | [],_,_,hq=>nomatch hq
  | _ :: _,c,q,hq=>by
    rcases List.mem_cons.mp hq with rfl | hq
    · exact c.1
    · exact RxOk.mem c.2 q hq
theorem creL (t':Nat) (ch:List (Nat × Addr × Obj)) (rx:List (Addr × Obj)) (OD:Ok (cf w b1 b2 ro pre p N T0) hb mu ∧ Rep (cf w b1 b2 ro pre p N T0) hb mu h T m) (hch:ChOk (cf w b1 b2 ro pre p N T0) h' ch) (K:KeepsBut (ch.map (·.2.1)) h h') (hs:h.objs.size ≤ h'.objs.size)
    (hrx:RxOk h h' rx) :
    Ok (cf w b1 b2 (ro ++ rx) (pre ++ upF N (m - p)) m h'.objs.size t') hb mu ∧ Rep (cf w b1 b2 (ro ++ rx) (pre ++ upF N (m - p)) m h'.objs.size t') hb mu h' (setL T ch) m:=by
  rw [← cf_re (T0:=T0)]
  have O:=OD.1
  have D:=OD.2
  refine rebase (ext:=[]) O D K hs (fun b hm=>?_) (fun _ hm=>(nomatch hm)) List.nodup_nil (fun q hq=>⟨(hrx.mem q hq).1,fun hm=>?_⟩) fun i o e=>?_
  · obtain ⟨q,hq,rfl⟩:=List.mem_map.mp hm
    exact ⟨q.1,((hch.mem q hq).1).symm⟩
  · have hN:N ≤ h.objs.size:=by rw [D.size]; exact Nat.le_add_right _ _
    rw [List.append_nil] at hm
    rcases List.mem_append.mp hm with x | x
    · exact absurd (O.lt _ x) (Nat.not_lt.mpr (Nat.le_trans hN (hrx.mem q hq).2))
    · exact absurd (mem_own D x).2 (Nat.not_lt.mpr (hrx.mem q hq).2)
  · obtain ⟨⟨o₀,h1⟩,h2⟩:=setL_get ch T i o e
    have z:=D.own i o₀ h1
    refine ⟨z.1,?_⟩
    rw [pre_own O D z.1]
    rcases h2 with ⟨a,ha⟩ | ⟨h3,h4⟩
    · have:=hch.mem _ ha
      rw [this.1]; exact this.2
    · refine K _ _ (D.own i o h3).2 fun hm=>?_
      obtain ⟨q,hq,e'⟩:=List.mem_map.mp hm
      exact h4 q hq (O.addr_inj ((hch.mem q hq).1.trans e'))
end
theorem ne_cls {h:Heap} {a b:Addr} {o1 o2:Obj} (h1:h.get? a = some o1) (h2:h.get? b = some o2) (hc:o1.cls ≠ o2.cls):a ≠ b:=fun e=>by
  subst e
  rw [h1] at h2
  cases h2
  exact hc rfl
theorem ty_ne {a b:String} (h:a ≠ b):Value.type a ≠ Value.type b:=fun e=>by injection e with e; exact h e
section
variable {w:World} {A:Around} {R:Result → Shared → Prop} {c:Code} {κ:Kn} {t:Sem Fin} {s:Shared}
theorem Mn.stopV (f:Value) (args:List Value) (e:callC t = some (.call f ⟨args,[]⟩))
    (h:wpAny (model prog w) (arA A (.ret c (callK t) κ)) (call f args) (fun v s'=>Mn prog w A R c κ (callK t (.ok (.ret v))) s') (fun x s'=>Mn prog w A R c κ (callK t (.error x)) s') s):Mn prog w A R c κ t s:=by
  rw [Mn_eq] at h ⊢
  cases t with
  | call c'' hd g l k =>
    cases hd with
    | some v=>cases e
    | none =>
      cases e
      intro Γ p hc hΓ
      have z:=h Γ p (hc ▸ hΓ.in:Γ.In ((arA A κ).under c))
      have z':Sem.wp (model prog w) Γ (runValue (.call f ⟨args,[]⟩)) _ _ p s:=z
      rw [Sem.wp_runValue] at z'
      refine wpCode_mono (fun r s' q=>?_) z'
      cases r with
      | ok fl =>
        cases fl with
        | ret v=>exact q Γ p hc hΓ
        | _=>exact q.elim
      | error x=>exact q Γ p hc hΓ
  | _=>cases e
end
section
variable {w:World} {b1 b2:Bool} {ro:List (Addr × Obj)} {pre:List Addr} {p N T0:Nat} {hb h h':Heap} {mu:List Addr} {T:BT} {m:Nat}
noncomputable def BtwL (h h':Heap):List Addr → Prop
  | []=>True
  | a :: r=>(h.objs.size ≤ a ∧ a < h'.objs.size) ∧ BtwL h h' r
theorem BtwL.mem:∀ {l:List Addr},BtwL h h' l → ∀ a ∈ l,h.objs.size ≤ a ∧ a < h'.objs.size
  | [],_,_,hq=>nomatch hq
  | _ :: _,c,a,hq=>by
    rcases List.mem_cons.mp hq with rfl | hq
    · exact c.1
    · exact BtwL.mem c.2 a hq
theorem At.get {h:Heap}:∀ {xs:List Addr} {os:List Obj},At h (xs.zip os) → ∀ (j:Nat) (o:Obj),xs.length = os.length → os[j]? = some o → h.get? (xs.getD j 0) = some o
  | [],[],_,j,o,_,e=>by simp at e
  | [],_ :: _,_,j,o,l,e=>by simp at l
  | _ :: _,[],_,j,o,_,e=>by simp at e
  | a :: xs,x :: os,q,j,o,l,e=>by
    cases j with
    | zero =>
      simp only [List.getElem?_cons_zero,Option.some.injEq] at e
      subst e
      exact q.1
    | succ j =>
      simp only [List.getElem?_cons_succ] at e
      have:=At.get (xs:=xs) (os:=os) q.2 j o (by simpa using l) e
      simpa using this
theorem creG (t':Nat) (ch:List (Nat × Addr × Obj)) (rx:List (Addr × Obj)) (ext:List Addr) (eo:List Obj) (OD:Ok (cf w b1 b2 ro pre p N T0) hb mu ∧ Rep (cf w b1 b2 ro pre p N T0) hb mu h T m) (hch:ChOk (cf w b1 b2 ro pre p N T0) h' ch) (K:KeepsBut (ch.map (·.2.1)) h h') (hs:h.objs.size ≤ h'.objs.size)
    (hrx:RxOk h h' rx) (hout:OutL ext rx) (hbt:BtwL h h' ext) (hap:Apart ext) (hat:At h' (ext.zip eo)) (hle:ext.length = eo.length) (hck:chkFrom (setL T ch) m eo = true) {mm:Nat} (hm:m + ext.length = mm) :
    Ok (cf w b1 b2 (ro ++ rx) (pre ++ upF N (m - p) ++ ext) mm h'.objs.size t') hb mu ∧ Rep (cf w b1 b2 (ro ++ rx) (pre ++ upF N (m - p) ++ ext) mm h'.objs.size t') hb mu h' (mkFrom (setL T ch) m eo) mm:=by
  subst hm
  have O:=OD.1
  have D:=OD.2
  have hN:N ≤ h.objs.size:=by rw [D.size]; exact Nat.le_add_right _ _
  have z:=rebase (t':=t') (T':=mkFrom (setL T ch) m eo) (md:=ch.map (·.2.1)) (ext:=ext) (rx:=rx) O D K hs (fun b hm=>?_) hbt.mem hap.nodup (fun q hq=>⟨(hrx.mem q hq).1,fun hm=>?_⟩) fun i o e=>?_
  · exact z
  · obtain ⟨q,hq,rfl⟩:=List.mem_map.mp hm
    exact ⟨q.1,((hch.mem q hq).1).symm⟩
  · rcases List.mem_append.mp hm with hm | hm
    · rcases List.mem_append.mp hm with x | x
      · exact absurd (O.lt _ x) (Nat.not_lt.mpr (Nat.le_trans hN (hrx.mem q hq).2))
      · exact absurd (mem_own D x).2 (Nat.not_lt.mpr (hrx.mem q hq).2)
    · exact hout.mem q hq hm
  · rw [mkFrom_get eo (setL T ch) m hck] at e
    have hpl:pre.length = p:=O.len
    have hpm:p ≤ m:=D.le
    by_cases c:m ≤ i ∧ i < m + eo.length
    · rw [if_pos c] at e
      refine ⟨by rw [hle]; exact c.2,?_⟩
      have len:(pre ++ upF N (m - p)).length = m:=by
        simp only [List.length_append,upF,List.length_map,List.length_range]
        lia
      show h'.get? ((pre ++ upF N (m - p) ++ ext).getD i 0) = some o
      have y:=At.get hat (i - m) o hle e
      rw [List.getD_eq_getElem?_getD,List.getElem?_append_right (by rw [len]; exact c.1),len,← List.getD_eq_getElem?_getD]
      exact y
    · rw [if_neg c] at e
      obtain ⟨⟨o₀,h1⟩,h2⟩:=setL_get ch T i o e
      have z:=D.own i o₀ h1
      refine ⟨Nat.lt_of_lt_of_le z.1 (Nat.le_add_right _ _),?_⟩
      rw [pre_own O D z.1]
      rcases h2 with ⟨a,ha⟩ | ⟨h3,h4⟩
      · have:=hch.mem _ ha
        rw [this.1]; exact this.2
      · refine K _ _ (D.own i o h3).2 fun hm=>?_
        obtain ⟨q,hq,e'⟩:=List.mem_map.mp hm
        exact h4 q hq (O.addr_inj ((hch.mem q hq).1.trans e'))
end
theorem get_ints {ps:List (Int × Nat)} {k:Nat} {r:Int × Nat} (h:ps[k]? = some r):(intsV ps)[k]? = some (.int r.1 r.2):=by
  unfold intsV
  rw [List.getElem?_map,h]; rfl
theorem Rep.kept0 {C:Cf} {hb h:Heap} {T:BT} {m:Nat} (D:Rep C hb [] h T m):Keeps hb h:=fun b o e=>D.base b o e (fun hm=>nomatch hm)
theorem fresh {C:Cf} {hb h:Heap} {mu:List Addr} {T:BT} {m:Nat} (OD:Ok C hb mu ∧ Rep C hb mu h T m) (hp:C.p = m) (hN:C.N = h.objs.size):Ok C h C.pre ∧ Rep C h C.pre h T m :=
  ⟨⟨OD.1.len,OD.1.nd,OD.1.lt,fun a ha=>.inl ha,Nat.le_of_eq hN.symm,OD.1.free,OD.1.low,OD.1.ro⟩,⟨OD.2.size,OD.2.le,OD.2.own,OD.2.top,OD.2.ro,fun _ _ e _=>e⟩⟩
theorem back {C:Cf} {hb h h':Heap} {mu:List Addr} {T T':BT} {m m':Nat} (OD:Ok C hb mu ∧ Rep C hb mu h T m) (D':Rep C h C.pre h' T' m'):Ok C hb mu ∧ Rep C hb mu h' T' m' :=
  ⟨OD.1,D'.size,D'.le,D'.own,D'.top,D'.ro,fun b o e n=>D'.base b o (OD.2.base b o e n) fun hm=>by
    rcases OD.1.out b hm with x | x
    · exact n x
    · exact absurd (Heap.lt_size e) (Nat.not_lt.mpr x)⟩
theorem thru {C:Cf} {hb h h':Heap} {mu:List Addr} {T:BT} {m:Nat} (OD:Ok C hb mu ∧ Rep C hb mu h T m) (k:KeepsBut C.pre h h'):KeepsBut mu hb h':=fun b o e n=>k b o (OD.2.base b o e n) fun hm=>by
  rcases OD.1.out b hm with x | x
  · exact n x
  · exact absurd (Heap.lt_size e) (Nat.not_lt.mpr x)
section
variable {w:World} {A:Around} {R:Result → Shared → Prop} {s:Shared}
theorem eraseIdx_ints:∀ (vs:List (Int × Nat)) (j:Nat),(intsV vs).eraseIdx j = intsV (vs.eraseIdx j)
  | [],j=>by cases j <;> rfl
  | _ :: _,0=>rfl
  | v :: vs,j + 1=>by
    show Value.int v.1 v.2 :: (intsV vs).eraseIdx j = Value.int v.1 v.2 :: intsV (vs.eraseIdx j)
    rw [eraseIdx_ints vs j]
theorem c_list_pop {l:Addr} {vs:List (Int × Nat)} {e:Nat} {k:Int} {t:Nat} {y:Int × Nat} (ho:s.heap.get? l = some (listO (intsV vs) e)) (h0:0 ≤ k) (hy:vs[k.toNat]? = some y) (hz:vs.length ≤ 1000)
    (h:∀ h',h'.get? l = some (listO (intsV (vs.eraseIdx k.toNat)) (e + 1)) → Heap.SameBut l s.heap h' → R (.ok (.ret (.int y.1 y.2))) { s with heap:=h' }):codeAny (model prog w) A (.call (.builtin "list.pop") ⟨[.ref l,.int k t],[]⟩) R s:=by
  obtain ⟨j,rfl⟩:=Int.eq_ofNat_of_zero_le h0
  rw [Int.toNat_natCast] at hy h
  obtain ⟨lj,ej⟩:=List.getElem?_eq_some_iff.mp hy
  have hsz:(intsV vs).toArray.size = vs.length:=by simp [intsV]
  have m1:Builtin.List.listFitsIndex (j:Int) = true:=fitsIndex_of (Int.natCast_nonneg _) (by lia)
  have m2:seqIndex? (j:Int) (intsV vs).toArray.size = some j:=by rw [hsz]; exact (seqIndex_of (Int.natCast_nonneg _) (by lia)).trans (by rw [Int.toNat_natCast])
  have m3:(intsV vs).toArray[j]? = some (.int y.1 y.2):=by rw [List.getElem?_toArray]; exact get_ints hy
  have m4:(intsV vs).toArray.size ≤ sizeLine:=by rw [hsz,PySem.sizeLine_eq]; lia
  have M:=@MeetsSeq.list_pop_at l (intsV vs).toArray e (j:Int) t j (.int y.1 y.2) m1 m2 m3 m4
  refine codeAny_call_builtin F.slot_list_pop.plain F.entry_list_pop ?_
  refine F.slot_list_pop.check _ _ _ _ _ _ _ _ (isList_of ho).typeIs (F.args_list_pop_2 _ _) ?_
  refine @M prog w A R s ⟨ho,?_⟩
  refine h _ ?_ (Heap.SameBut.update ..)
  rw [Heap.get?_update_self _ ho rfl]
  have em:=eraseIdx_ints vs j
  unfold intsV at em
  simp only [listO,Obj.mapSeq,intsV,List.eraseIdxIfInBounds_toArray,List.size_toArray,List.length_map,em]
  simp [List.length_eraseIdx_of_lt lj]
  lia
noncomputable def rangeO (a:Int) (t:Nat) (b:Int) (u:Nat) (c:Int) (v:Nat):Obj:={ cls:=.type "range",data:=.fields #[.int a t,.int b u,.int c v] }
theorem ints_of_items {a c:Int}:∀ (n:Nat) (acc:Array Value),ItemsOf (fun i v=>∃ t,v = .int (a + i * c) t) acc n → ∃ xs:List (Int × Nat),acc = (intsV xs).toArray ∧ xs.map (·.1) = (List.range n).map fun i=>a + (i:Nat) * c:=by
  intro n acc hi
  have h:∀ j,j < n → ∃ t,acc[j]? = some (.int (a + j * c) t):=fun j hj=>by
    have hj':j < acc.size:=by rw [hi.1]; exact hj
    obtain ⟨t,ht⟩:=hi.2 j acc[j] (Array.getElem?_eq_getElem hj')
    exact ⟨t,by rw [Array.getElem?_eq_getElem hj',ht]⟩
  refine ⟨(List.range n).map fun j=>(a + (j:Nat) * c,match acc[j]? with | some (.int _ t)=>t | _=>0),?_,by simp⟩
  apply Array.ext_getElem?
  intro j
  unfold intsV
  simp only [List.getElem?_toArray,List.getElem?_map]
  by_cases hj:j < n
  · obtain ⟨t,ht⟩:=h j hj
    rw [List.getElem?_range hj,ht]
    simp [ht]
  · rw [List.getElem?_eq_none (by simp; lia:(List.range n).length ≤ j),Array.getElem?_eq_none (by rw [hi.1]; lia)]
    rfl
theorem v_list_range {E:Value → Shared → Prop} {Q:Value → Shared → Prop} {r:Addr} {a b c:Int} {t u v:Nat} {n:Nat} (hh:A.handled = none) (hr:s.heap.get? r = some (rangeO a t b u c v)) (hsmall:Builtin.Range.small a b c = true)
    (hn:Builtin.Range.rangeSize a b c = n) (hlen:n ≤ 2 ^ 24)
    (hQ:∀ h' tk xs e,Keeps s.heap h' → s.heap.objs.size < h'.objs.size → h'.get? s.heap.objs.size = some (listO (intsV xs) e) → xs.map (·.1) = ((List.range n).map fun i=>a + (i:Nat) * c) → Q (.ref s.heap.objs.size) { s with heap:=h',toks:=tk }) :
    wpAny (model prog w) A (call (.type "list") [.ref r]) Q E s:=by
  refine call_list_range hh (show IsRange s.heap r a b c t u v from hr) hsmall hn hlen fun h' tk acc' c' hk hS hi=>?_
  obtain ⟨xs,rfl,hx⟩:=ints_of_items n acc' hi
  exact hQ h' tk xs c' hk (Heap.lt_size hS) hS hx
end
end Mine
namespace Mine
open PySem PySem.W PySem.W.X PyProof.Rows
noncomputable def bitS:Bool → Str
  | true=>⟨#[49]⟩
  | false=>⟨#[48]⟩
noncomputable def bitI:Bool → Int
  | true=>1
  | false=>0
noncomputable def strsV (xs:List (Bool × Nat)):List Value:=xs.map fun x=>.str (bitS x.1) x.2
noncomputable def rngO (x left step:Int):Obj:={ cls:=.type "range_iterator",data:=.fields #[.int x 0,.int left 0,.int step 0] }
noncomputable def instO (c d:Addr):Obj:={ cls:=.ref c,dict:=some d,data:=.plain }
section
variable {w:World} {b1 b2:Bool} {A:Around} {R:Result → Shared → Prop} {h:Heap} {g:Array GenState} {d:Drawn} {T0:Nat} {os:OsState}
theorem c_int_bit (F:Follows w b1 b2) {n:Nat} (hA:Lo A n) (hh:A.handled = none) (top:TopOk w h) {b:Bool} {t:Nat}
    (K:∀ h',Keeps h h' → h.objs.size ≤ h'.objs.size → R (.ok (.ret (.int (bitI b) (T0 + 0)))) ⟨h',g,d,T0 + 1,os⟩) (hn:n ≤ 700:=by decide) :
    codeAny (model prog w) A (.call (.type "int") ⟨[.str (bitS b) t],[]⟩) R ⟨h,g,d,T0,os⟩:=by
  refine Mn.enter hA ?_ hn
  have OD:=start0 (w:=w) (b1:=b1) (b2:=b2) (ro:=[]) (s:=⟨h,g,d,T0,os⟩) top (fun q hq=>nomatch hq)
  refine goX F 8 0 1 [] (i:=0) OD hA hh (by cases b <;> kernel_rfl) (fun h1 OD=>?_) hn
  refine Mn.end (f:=.ret (.int (bitI b) (T0 + 0))) (by cases b <;> kernel_rfl) (by cases b <;> kernel_rfl) ?_
  exact K h1 OD.2.kept0 (size_le OD.1 OD.2)
theorem c_str_bit (F:Follows w b1 b2) {n:Nat} (hA:Lo A n) (hh:A.handled = none) (top:TopOk w h) {x:Int} {t:Nat} (b:Bool) (e:x = bitI b)
    (K:∀ h',Keeps h h' → h.objs.size ≤ h'.objs.size → R (.ok (.ret (.str (bitS b) (T0 + 0)))) ⟨h',g,d,T0 + 1,os⟩) (hn:n ≤ 700:=by decide) :
    codeAny (model prog w) A (.call (.type "str") ⟨[.int x t],[]⟩) R ⟨h,g,d,T0,os⟩:=by
  subst e
  refine Mn.enter hA ?_ hn
  have OD:=start0 (w:=w) (b1:=b1) (b2:=b2) (ro:=[]) (s:=⟨h,g,d,T0,os⟩) top (fun q hq=>nomatch hq)
  refine goX F 15 0 1 [7000] (i:=0) OD hA hh (by cases b <;> kernel_rfl) (fun h1 OD=>?_) hn
  refine Mn.end (f:=.ret (.str (bitS b) (T0 + 0))) (by cases b <;> kernel_rfl) (by cases b <;> kernel_rfl) ?_
  exact K h1 OD.2.kept0 (size_le OD.1 OD.2)
end
section
variable {w:World} {A:Around} {R:Result → Shared → Prop} {s:Shared}
theorem slot_ri_next:Slot "range_iterator" "__next__" "range_iterator.__next__":=F.slot_range_iterator_next
theorem c_range_next {it:Addr} {x left step:Int} (ho:s.heap.get? it = some (rngO x left step)) (hl:0 < left)
    (h:∀ h',h'.get? it = some (rngO (x + step) (left - 1) step) → Heap.SameBut it s.heap h' → R (.ok (.ret (.int x s.toks))) { s with heap:=h',toks:=s.toks + 1 }) :
    codeAny (model prog w) A (.call (.builtin "range_iterator.__next__") ⟨[.ref it],[]⟩) R s:=by
  have hT:s.TypeIs (.ref it) "range_iterator":=⟨_,ho,rfl⟩
  refine codeAny_call_builtin slot_ri_next.plain F.entry_range_iterator_next (slot_ri_next.check _ _ _ _ _ _ _ _ hT (F.args_range_iterator_next_1 _) ?_)
  show wpAny _ _ (field (.ref it) 0 >>= _) _ _ s
  refine wpAny_bind (wpAny_field ho rfl (x:=.int x 0) rfl ?_)
  show wpAny _ _ (field (.ref it) 1 >>= _) _ _ s
  refine wpAny_bind (wpAny_field ho rfl (x:=.int left 0) rfl ?_)
  show wpAny _ _ (field (.ref it) 2 >>= _) _ _ s
  refine wpAny_bind (wpAny_field ho rfl (x:=.int step 0) rfl ?_)
  show wpAny _ _ (if left ≤ 0 then _ else _) _ _ s
  rw [if_neg (by lia)]
  refine wpAny_bind (wpAny_setField_rec (vs:=#[.int x 0,.int left 0,.int step 0]) ho (by simp) fun h1 e1 k1=>?_)
  have e1':h1.get? it = some { cls:=.type "range_iterator",data:=.fields #[.int (x + step) 0,.int left 0,.int step 0] }:=by rw [e1]; simp [rngO,rawInt]
  refine wpAny_bind (wpAny_setField_rec (vs:=#[.int (x + step) 0,.int left 0,.int step 0]) e1' (by simp) fun h2 e2 k2=>?_)
  have e2':h2.get? it = some (rngO (x + step) (left - 1) step):=by rw [e2]; simp [rngO,rawInt]
  refine wpAny_bind (m:=mkInt x) ?_
  refine wpAny_bind (wpAny_fresh (wpAny_pure ?_))
  exact wpAny_pure (h h2 e2' ⟨k2.1.trans k1.1,fun b hb=>(k2.2 b hb).trans (k1.2 b hb)⟩)
end
end Mine
set_option genInjectivity false
set_option genSizeOf false
namespace Mine
open PySem PySem.W PySem.W.X PyProof.Rows
inductive FS where
  | a
  | b (k:Nat) (v:Value)
  | c (k1 k2 k3 k4:Nat) (v1 v2 v3 v4:Value)
noncomputable def FS.ents:FS → List (Str × Nat × Value)
  | .a=>[]
  | .b k v=>[(n_value,k,v)]
  | .c k1 k2 k3 k4 v1 v2 v3 v4=>[(n_value,k1,v1),(n_others,k2,v2),(n_over,k3,v3),(n_under,k4,v4)]
inductive T3 where
  | a
  | b
  | c
noncomputable def FS.mk3 (t:T3) (k1 k2 k3 k4:Nat) (v1 v2 v3 v4:Value):FS:=match t with
  | .a=>.a
  | .b=>.b k1 v1
  | .c=>.c k1 k2 k3 k4 v1 v2 v3 v4
theorem FS.form (f:FS):∃ t k1 k2 k3 k4 v1 v2 v3 v4,f = FS.mk3 t k1 k2 k3 k4 v1 v2 v3 v4:=match f with
  | .a=>⟨.a,0,0,0,0,.none,.none,.none,.none,rfl⟩
  | .b k v=>⟨.b,k,0,0,0,v,.none,.none,.none,rfl⟩
  | .c k1 k2 k3 k4 v1 v2 v3 v4=>⟨.c,k1,k2,k3,k4,v1,v2,v3,v4,rfl⟩
noncomputable def FS.k1 (f:FS) (d:Nat):Nat:=match f with | .a=>d | .b k _=>k | .c k _ _ _ _ _ _ _=>k
noncomputable def FS.k2 (f:FS) (d:Nat):Nat:=match f with | .c _ k _ _ _ _ _ _=>k | _=>d
noncomputable def FS.k3 (f:FS) (d:Nat):Nat:=match f with | .c _ _ k _ _ _ _ _=>k | _=>d
noncomputable def FS.k4 (f:FS) (d:Nat):Nat:=match f with | .c _ _ _ k _ _ _ _=>k | _=>d
noncomputable def toldFr (w:World) (pw kn te:Addr) (k0 k1 k2:Nat) (fs:FS):Obj:=frO w ([(n_powers,k0,.ref pw),(n_known,k1,.ref kn),(n_terms,k2,.ref te)] ++ fs.ents) (3 + fs.ents.length)
noncomputable def tabO (l:List Value):Obj:={ cls:=.none,data:=.fields l.toArray }
noncomputable def trip (l c:Int) (a:Addr):List Value:=[.int l 0,.int c 0,.ref a]
inductive TC where
  | e
  | x (cx:Addr)
noncomputable def TC.l:TC → List Value
  | .e=>[]
  | .x cx=>trip 180 18 cx
inductive TF where
  | ou (co cu:Addr)
  | oux (co cu cx:Addr)
  | xou (cx co cu:Addr)
noncomputable def TF.l:TF → List Value
  | .ou co cu=>trip 177 26 co ++ trip 178 27 cu
  | .oux co cu cx=>trip 177 26 co ++ trip 178 27 cu ++ trip 180 18 cx
  | .xou cx co cu=>trip 180 18 cx ++ trip 177 26 co ++ trip 178 27 cu
noncomputable def TF.co:TF → Addr
  | .ou co _=>co
  | .oux co _ _=>co
  | .xou _ co _=>co
noncomputable def TF.cu:TF → Addr
  | .ou _ cu=>cu
  | .oux _ cu _=>cu
  | .xou _ _ cu=>cu
noncomputable def TF.mk3 (t:T3) (co cu cx:Addr):TF:=match t with
  | .a=>.ou co cu
  | .b=>.oux co cu cx
  | .c=>.xou cx co cu
theorem TF.form (f:TF):∃ t co cu cx,f = TF.mk3 t co cu cx:=match f with
  | .ou co cu=>⟨.a,co,cu,co,rfl⟩
  | .oux co cu cx=>⟨.b,co,cu,cx,rfl⟩
  | .xou cx co cu=>⟨.c,co,cu,cx,rfl⟩
noncomputable def TC.mk2 (t:Bool) (cx:Addr):TC:=match t with
  | true=>.x cx
  | false=>.e
theorem TC.form (f:TC):∃ t cx,f = TC.mk2 t cx:=match f with
  | .e=>⟨false,(0:Nat),rfl⟩
  | .x cx=>⟨true,cx,rfl⟩
noncomputable def TC.put (t:TC) (co cu:Addr):TF:=match t with
  | .e=>.ou co cu
  | .x cx=>.xou cx co cu
noncomputable def toldEnv (w:World) (N:Addr):Env:=envAt w 184 q_toldL N [(n_point,N + 3),(n_spot,N + 2),(n_logs,N + 1)]
noncomputable def toldFor (w:World) (N:Addr):Code:=.forLoop (forTgt (stAt w 184 1)) (.ref (N + 5)) (forBody (stAt w 184 1)) [] (toldEnv w N)
noncomputable def pre7 (N:Addr):List Addr:=[181,N,N + 1,N + 2,N + 3,N + 4,N + 5]
noncomputable def os7 (w:World) (N pw l kn:Addr) (sp:Int) (tsp k0 k1 k2:Nat) (tb:List Value) (fs:FS) (pv:Option Value) (ts:List (Int × Nat)) (te i:Nat):List Obj :=
  [tabO tb,toldFr w pw kn (N + 4) k0 k1 k2 fs,cellO (some (.ref l)),cellO (some (.int sp tsp)),cellO pv,listO (intsV ts) te,litO kn i]
theorem free7 {N:Nat} (hN:219 ≤ N):FreeL (pre7 N) :=
  ⟨.inr (.inr (.inr rfl)),.inl hN,.inl (Nat.le_add_right_of_le hN),.inl (Nat.le_add_right_of_le hN),.inl (Nat.le_add_right_of_le hN),.inl (Nat.le_add_right_of_le hN),.inl (Nat.le_add_right_of_le hN),trivial⟩
theorem nlt {a b:Nat} (h:a < b):a ≠ b:=Nat.ne_of_lt h
theorem nltk {a N M k:Nat} (h:a < N) (hM:N + 6 ≤ M):a ≠ M + k:=Nat.ne_of_lt (by lia)
theorem oth_g {M N:Nat} (hN:219 ≤ N) (hM:N + 6 ≤ M):219 ≤ M + 3 ∧ 219 ≤ M + 4 ∧ 219 ≤ M + 5:=by lia
theorem oth_n (M:Nat):(M + 3:Addr) ≠ M + 4 ∧ (M + 3:Addr) ≠ M + 5 ∧ (M + 4:Addr) ≠ M + 5:=⟨nlt (Nat.add_lt_add_left (by decide) M),nlt (Nat.add_lt_add_left (by decide) M),nlt (Nat.add_lt_add_left (by decide) M)⟩
theorem oth_o {a N M:Nat} (h:a < N) (hM:N + 6 ≤ M):NotIn a [M + 3,M + 4,M + 5]:=⟨nltk h hM,nltk h hM,nltk h hM,trivial⟩
theorem oth_c {N M:Nat} (hM:N + 6 ≤ M):NotIn (N + 3) [M + 3,M + 4,M + 5]:=⟨nlt (by lia),nlt (by lia),nlt (by lia),trivial⟩
theorem intsV_le {ts:List (Int × Nat)} (h:ts.length ≤ 100):(intsV ts).length ≤ 1000:=by unfold intsV; rw [List.length_map]; exact Nat.le_trans h (by decide)
theorem add_ne {N i j:Nat} (h:i < j):(N + i:Addr) ≠ N + j:=nlt (Nat.add_lt_add_left h N)
theorem low_ne7 {N k:Nat} (i:Nat) (hN:219 ≤ N) (h:k < 219):(k:Addr) ≠ N + i:=nlt (Nat.lt_of_lt_of_le h (Nat.le_add_right_of_le hN))
theorem ltN7 {a N:Nat} (i:Nat) (h:a < N):(a:Addr) ≠ N + i:=nlt (Nat.lt_of_lt_of_le h (Nat.le_add_right _ _))
theorem apart7 {N:Nat} (hN:219 ≤ N):Apart (pre7 N) :=
  ⟨⟨low_ne7 0 hN (by decide),low_ne7 1 hN (by decide),low_ne7 2 hN (by decide),low_ne7 3 hN (by decide),low_ne7 4 hN (by decide),low_ne7 5 hN (by decide),trivial⟩,
   ⟨add_ne (i:=0) (by decide),add_ne (i:=0) (by decide),add_ne (i:=0) (by decide),add_ne (i:=0) (by decide),add_ne (i:=0) (by decide),trivial⟩,
   ⟨add_ne (i:=1) (by decide),add_ne (i:=1) (by decide),add_ne (i:=1) (by decide),add_ne (i:=1) (by decide),trivial⟩,
   ⟨add_ne (i:=2) (by decide),add_ne (i:=2) (by decide),add_ne (i:=2) (by decide),trivial⟩,
   ⟨add_ne (i:=3) (by decide),add_ne (i:=3) (by decide),trivial⟩,
   ⟨add_ne (i:=4) (by decide),trivial⟩,
   trivial,trivial⟩
theorem out7 {N a:Nat} (h1:219 ≤ a) (h2:a < N):NotIn a (pre7 N) :=
  ⟨(nlt (Nat.lt_of_lt_of_le (by decide) h1:181 < a)).symm,ltN7 0 h2,ltN7 1 h2,ltN7 2 h2,ltN7 3 h2,ltN7 4 h2,ltN7 5 h2,trivial⟩
noncomputable def cp0:Option Obj → Value
  | some ⟨_,_,.fields vs,_⟩=>vs.toList.getD 0 .none
  | _=>.none
noncomputable def cp1:Option Obj → Nat
  | some ⟨_,_,.fields vs,_⟩=>match vs.toList.getD 1 .none with | .str _ t=>t | _=>0
  | _=>0
noncomputable def cp2:Option Obj → List Value
  | some ⟨_,_,.fields vs,_⟩=>vs.toList.drop 2
  | _=>[]
theorem isCode_of {C:Cf} {hb h:Heap} {mu:List Addr} {T:BT} {m:Nat} {q:Str} {a:Addr} (D:Rep C hb mu h T m) (j:Nat) (e:T.get j = some (codeO q (cp0 (T.get j)) (cp1 (T.get j)) (cp2 (T.get j)))) (ea:C.addr j = a):IsCode h q a:=⟨_,_,_,D.obj e ea⟩
theorem IsCode.keep {h h':Heap} {q:Str} {a:Addr} {md:List Addr} (c:IsCode h q a) (k:KeepsBut md h h') (n:a ∉ md):IsCode h' q a :=
  let ⟨v0,t,r,e⟩:=c; ⟨v0,t,r,k a _ e n⟩
theorem code_out7 {w:World} {h:Heap} {q:Str} {a:Addr} {N pw l kn:Nat} {sp:Int} {tsp k0 k1 k2 te i:Nat} {tb:List Value} {fs:FS} {pv:Option Value} {ts:List (Int × Nat)} (c:IsCode h q a)
    (st:At h ((pre7 N).zip (os7 w N pw l kn sp tsp k0 k1 k2 tb fs pv ts te i))):NotIn a (pre7 N):=by
  obtain ⟨v0,t,r,e⟩:=c
  obtain ⟨s0,s1,s2,s3,s4,s5,s6,_⟩:=st
  exact ⟨ne_cls e s0 (fun x=>nomatch x),ne_cls e s1 (ty_ne (by decide)),ne_cls e s2 (ty_ne (by decide)),ne_cls e s3 (ty_ne (by decide)),ne_cls e s4 (ty_ne (by decide)),ne_cls e s5 (ty_ne (by decide)),ne_cls e s6 (ty_ne (by decide)),trivial⟩
section
variable {w:World} {b1 b2:Bool} {A:Around} {R:Result → Shared → Prop} {h:Heap} {g:Array GenState} {d:Drawn} {T0:Nat} {os:OsState}
  {N pw l kn:Nat} {sp:Int} {tsp k0 k1 k2 pe ep ke te i:Nat} {tf:TF} {fs:FS} {pv:Option Value} {ts ps:List (Int × Nat)} {kns:List Pr} {q:Pr} {es:Array DictEntry} {lg:Int → Int} {r:Int × Nat}
theorem told_nzF (F:Follows w b1 b2) (hA:Lo A 300) (hh:A.handled = none) (top:TopOk w h) (hN:219 ≤ N) (hNh:N + 6 ≤ h.objs.size)
    (st:At h ((pre7 N).zip (os7 w N pw l kn sp tsp k0 k1 k2 tf.l fs pv ts te i)))
    (hpw:h.get? pw = some (listO (intsV ps) pe)) (hl:h.get? l = some (dictO es ep)) (hkn:h.get? kn = some (listO (refsV kns) ke)) (bpw:219 ≤ pw ∧ pw < N) (bl:219 ≤ l ∧ l < N) (bkn:219 ≤ kn ∧ kn < N)
    (hq:∀ z ∈ kns,h.get? z.1 = some (prO z) ∧ 219 ≤ z.1 ∧ z.1 < N) (hi:kns[i]? = some q) (hv:q.2.2.1 ≠ 0) (hkl:kns.length ≤ 4) (htl:ts.length ≤ 100)
    (hco:IsCode h q_toldLam tf.co) (hcu:IsCode h q_toldLam tf.cu)
    (hk:KeysOf (intKind prog w) es) (hlv:Holds es lg q.2.2.1) (hlo:∀ z ∈ othF q.2.1.1 kns,Holds es lg (Builtin.bitXor sp z.1)) (hlu:∀ z ∈ othF q.2.1.1 kns,Holds es lg (Builtin.bitXor q.2.1.1 z.1))
    (hr:ps[((((othF q.2.1.1 kns).map (·.1)).foldl (fun x y=>x + lg (Builtin.bitXor sp y)) (lg q.2.2.1) - ((othF q.2.1.1 kns).map (·.1)).foldl (fun x y=>x + lg (Builtin.bitXor q.2.1.1 y)) 0).fmod 15).toNat]? = some r)
    (K:∀ h' tk' k1' k2' k3' k4' v1 v2 v3 v4 te',KeepsBut (pre7 N) h h' → h.objs.size ≤ h'.objs.size →
      At h' ((pre7 N).zip (os7 w N pw l kn sp tsp k0 k1 k2 tf.l (.c k1' k2' k3' k4' v1 v2 v3 v4) (some (.int q.2.1.1 q.2.1.2)) (ts ++ [r]) te' (i + 1))) → codeAny (model prog w) A (toldFor w N) R ⟨h',g,d,tk',os⟩) :
    codeAny (model prog w) A (toldFor w N) R ⟨h,g,d,T0,os⟩:=by
  refine Mn.enter hA ?_
  obtain ⟨ta,⟨x,tx⟩,v,tv⟩:=q
  have hta:=hq (ta,(x,tx),v,tv) (List.mem_of_getElem? hi)
  obtain ⟨tg,kk1,kk2,kk3,kk4,vv1,vv2,vv3,vv4,rfl⟩:=fs.form
  obtain ⟨tq,aco,acu,acx,rfl⟩:=tf.form
  let fs0:=FS.mk3 tg kk1 kk2 kk3 kk4 vv1 vv2 vv3 vv4
  let tf0:=TF.mk3 tq aco acu acx
  cases tg <;> cases tq
  all_goals
    have OD:=startA (b1:=b1) (b2:=b2) (T0:=T0) [(pw,listO (intsV ps) pe),(l,dictO es ep),(kn,listO (refsV kns) ke),(ta,pairO x tx v tv)] (pre7 N) (os7 w N pw l kn sp tsp k0 k1 k2 tf0.l fs0 pv ts te i) 7 rfl rfl (by kernel_rfl) top ⟨hpw,hl,hkn,hta.1,trivial⟩ st
      (free7 hN) (apart7 hN) ⟨out7 bpw.1 bpw.2,out7 bl.1 bl.2,out7 bkn.1 bkn.2,out7 hta.2.1 hta.2.2,trivial⟩
    refine go F 2 7 0 [1006] (i:=0) OD hA hh fun h1=>?_
    intro o_h1 OD
    have z1:h.objs.size ≤ h1.objs.size:=size_le OD.1 OD.2
    refine Mn.st (.call (.builtin "list_iterator.__next__") ⟨[.ref (N + 5)],[]⟩) ?_
    refine c_list_next (OD.2.ob 6) (OD.2.still 2 rfl) (by simp [refsV,hi]:(refsV kns)[i]? = some (.ref ta)) fun h2 hit2 hs2=>?_
    replace OD:=cre1 T0 6 (N + 5) OD ((by kernel_rfl):_ = some (litO kn i)) rfl (same_keepsBut hs2) (Nat.le_of_eq hs2.1.symm) hit2
    refine go F 63 10 1 [1006,2003,2003,2003,7000,2003,1007,1007,1007,1007,1007,2003,1007,1007,1007,1007,1007,1007,2003,1007,1007,1007,1007,1007,1007,2003,1007,1007,1009,1004,1004,1001,1001,1001] OD hA hh fun h3=>?_
    intro o_h3 OD
    refine Mn.st (.call (.builtin "int.__bool__") ⟨[.int v tv],[]⟩) ?_
    refine c_bool true (by simpa using hv) ?_
    refine go F 16 13 1 [1001,2002,2002,7000,2002,1010] OD hA hh fun h4=>?_
    intro o_h4 OD
    refine Mn.st (.compStart (othersE w) 0 (.ref (h2.objs.size + 3)) (.ref (h2.objs.size + 4)) (othEnv w (N + 3) (h2.objs.size + 5) N)) ?_
    have t4:TopOk w h4:=fun a o e=>OD.2.top a o e
    have e2:h2.objs.size = h1.objs.size:=hs2.1
    have hM:N + 6 ≤ h2.objs.size:=Nat.le_trans hNh (Nat.le_trans z1 (Nat.le_of_eq e2.symm))
    have k4:=OD.2.kept
    have z4:h.objs.size ≤ h4.objs.size:=size_le OD.1 OD.2
    refine oth_comp (p:=x) (tp:=tx) (ke:=ke) F (dk hA) (aH hh) (oth_g hN hM)
      (oth_n _) ⟨oth_o bkn.2 hM,oth_c hM⟩ kns t4 (OD.2.still 2 rfl) (OD.2.ob 4)
      (fun z hz=>have y:=hq z hz; ⟨k4 _ _ y.1 (out7 y.2.1 y.2.2).mem,oth_o y.2.2 hM⟩) (e:=0) (OD.2.ob 10) (OD.2.ob 11) (OD.2.ob 12) hkl (fun x=>by rw [x] at hi; cases hi) fun h5 tk5 e5 lo5 k5 s5 hit5 hacc5 hloc5=>?_
    replace OD:=creL tk5 [(10,h2.objs.size + 3,litE kns.length),(11,h2.objs.size + 4,listO (intsV (othF x kns)) e5),(12,h2.objs.size + 5,othLoc w (some lo5))] [] OD ⟨rfl,hit5,rfl,hacc5,rfl,hloc5,trivial⟩ k5 s5 trivial
    obtain ⟨tlv,hlv⟩:=hlv
    refine go F 38 15 1 [1001,1001,1012,1012,1012,1012,1012,1012,3,183,1000,3,4,3,1001,1002,1001,2001,2001,2001] (i:=0) OD hA hh fun h6=>?_
    intro o_h6 OD
    refine Mn.st (.call (.builtin "dict.__getitem__") ⟨[.ref l,.int v tv],[]⟩) ?_
    refine c_dict_get (OD.2.still 1 rfl) hk hlv ?_
    refine go F 2 15 2 [47] (i:=2) OD hA hh fun h7=>?_
    intro o_h7 OD
    have k7:=OD.2.kept
    have z7:h.objs.size ≤ h7.objs.size:=size_le OD.1 OD.2
    refine Mn.st (.call (.ref 47) ⟨[.ref (h5.objs.size + 1),.ref (h2.objs.size + 4),.int (lg v) tlv],[]⟩) ?_
    have t7:TopOk w h7:=fun a o e=>OD.2.top a o e
    have c7:IsCode h7 q_toldLam tf0.co:=hco.keep k7 (code_out7 hco st).mem
    have f7:h7.get? (h5.objs.size + 1) = some (fnO (lamFd w (eOver w) [(n_spot,N + 2),(n_logs,N + 1)] (.ref tf0.co) (.ref (h5.objs.size + 0)))):=OD.2.ob 14
    refine reduce_init (ve:=e5) (xs:=othF x kns) F (dk hA) (aH hh) t7
      (lam_over (sp:=sp) (tsp:=tsp) (lg:=lg) F t7 f7 c7 (OD.2.ob 2) (OD.2.ob 3) (OD.2.still 1 rfl) hk)
      f7 (OD.2.ob 11) hlo fun h8 tk8 tx8 k8 s8=>?_
    replace OD:=cre0 tk8 OD k8 s8
    refine go F 23 17 2 [1001,1001,3,183,1000,3,4,3,1001,47] (i:=0) OD hA hh fun h9=>?_
    intro o_h9 OD
    have k9:=OD.2.kept
    have t9:TopOk w h9:=fun a o e=>OD.2.top a o e
    have c9:IsCode h9 q_toldLam tf0.cu:=hcu.keep k9 (code_out7 hcu st).mem
    refine Mn.st (.call (.ref 47) ⟨[.ref (h8.objs.size + 1),.ref (h2.objs.size + 4),.int 0 (tk8 + 1)],[]⟩) ?_
    have f9:h9.get? (h8.objs.size + 1) = some (fnO (lamFd w (eUnder w) [(n_point,N + 3),(n_logs,N + 1)] (.ref tf0.cu) (.ref (h8.objs.size + 0)))):=OD.2.ob 16
    refine reduce_init (ve:=e5) (xs:=othF x kns) F (dk hA) (aH hh) t9
      (lam_under (sp:=x) (tsp:=tx) (lg:=lg) F t9 f9 c9 (OD.2.ob 2) (OD.2.ob 4) (OD.2.still 1 rfl) hk)
      f9 (OD.2.ob 11) hlu fun hA1 tkA txA kA sA=>?_
    replace OD:=cre0 tkA OD kA sA
    refine go F 38 17 4 [1001,1001,1001,1005,1005,1005,1005,1001,1001,1001,2000,2000,2000] (i:=0) OD hA hh fun hB=>?_
    intro o_hB OD
    refine Mn.st (.call (.builtin "list.__getitem__") ⟨[.ref pw,.int ((((othF x kns).map (·.1)).foldl (fun x y=>x + lg (Builtin.bitXor sp y)) (lg v) - ((othF x kns).map (·.1)).foldl (fun z y=>z + lg (Builtin.bitXor x y)) 0).fmod 15) (tkA + 3)],[]⟩) ?_
    refine c_list_get (OD.2.still 0 rfl) (Int.fmod_nonneg_of_pos _ (by decide)) (Int.lt_trans (Int.fmod_lt_of_pos _ (by decide)) (by decide)) (get_ints hr) ?_
    refine go F 1 17 4 [] OD hA hh fun hC=>?_
    intro o_hC OD
    refine Mn.st (.call (.builtin "list.append") ⟨[.ref (N + 4),.int r.1 r.2],[]⟩) ?_
    refine c_list_append (vs:=intsV ts) (e:=te) (OD.2.ob 5) (intsV_le htl) fun hD hte hsD=>?_
    replace OD:=cre1 (tkA + 4) 5 (N + 4) OD ((by kernel_rfl):_ = some (listO (intsV ts) te)) rfl (same_keepsBut hsD) (Nat.le_of_eq hsD.1.symm) hte
    refine go F 1 17 0 [] (i:=0) OD hA hh fun hE=>?_
    intro o_hE OD
    refine Mn.again (c':=toldFor w N) (by kernel_rfl) rfl (by kernel_rfl) ?_
    have eI:intsV ts ++ [Value.int r.1 r.2] = intsV (ts ++ [r]):=by simp [intsV]
    have e0:=OD.2.ob 0 (o:=(tabO tf0.l)) (ea:=rfl)
    have e5':=OD.2.ob 5 (o:=(listO (intsV ts ++ [Value.int r.1 r.2]) (te + 1))) (ea:=rfl)
    rw [eI] at e5'
    have e2:=OD.2.ob 2 (o:=(cellO (some (.ref l)))) (ea:=rfl)
    have e3:=OD.2.ob 3 (o:=(cellO (some (.int sp tsp)))) (ea:=rfl)
    have e4:=OD.2.ob 4 (o:=(cellO (some (.int x tx)))) (ea:=rfl)
    have e6:=OD.2.ob 6 (o:=(litO kn (i + 1))) (ea:=rfl)
    exact K hE _ (fs0.k1 (T0 + 0)) (fs0.k2 (tk5 + 0)) (fs0.k3 (tk8 + 0)) (fs0.k4 (tkA + 0)) _ _ _ _ (te + 1) OD.2.kept (size_le OD.1 OD.2) ⟨e0,(OD.2.ob 1 (o:=(toldFr w pw kn (N + 4) k0 k1 k2 (.c (fs0.k1 (T0 + 0)) (fs0.k2 (tk5 + 0)) (fs0.k3 (tk8 + 0)) (fs0.k4 (tkA + 0)) (.int v tv) (.ref (h2.objs.size + 4)) (.int (((othF x kns).map (·.1)).foldl (fun x y=>x + lg (Builtin.bitXor sp y)) (lg v)) tx8) (.int (((othF x kns).map (·.1)).foldl (fun z y=>z + lg (Builtin.bitXor x y)) 0) txA)))) (ea:=rfl)),e2,e3,e4,e5',e6,trivial⟩
end
end Mine
namespace Mine
open PySem PySem.W PySem.W.X PyProof.Rows
section
variable {w:World} {b1 b2:Bool} {A:Around} {R:Result → Shared → Prop} {h:Heap} {g:Array GenState} {d:Drawn} {T0:Nat} {os:OsState}
  {N pw l kn:Nat} {sp:Int} {tsp k0 k1 k2 pe ep ke te i:Nat} {tf:TC} {fs:FS} {pv:Option Value} {ts ps:List (Int × Nat)} {kns:List Pr} {q:Pr} {es:Array DictEntry} {lg:Int → Int} {r:Int × Nat}
theorem told_nzC (F:Follows w b1 b2) (hA:Lo A 300) (hh:A.handled = none) (top:TopOk w h) (hN:219 ≤ N) (hNh:N + 6 ≤ h.objs.size)
    (st:At h ((pre7 N).zip (os7 w N pw l kn sp tsp k0 k1 k2 tf.l fs pv ts te i)))
    (hpw:h.get? pw = some (listO (intsV ps) pe)) (hl:h.get? l = some (dictO es ep)) (hkn:h.get? kn = some (listO (refsV kns) ke)) (bpw:219 ≤ pw ∧ pw < N) (bl:219 ≤ l ∧ l < N) (bkn:219 ≤ kn ∧ kn < N)
    (hq:∀ z ∈ kns,h.get? z.1 = some (prO z) ∧ 219 ≤ z.1 ∧ z.1 < N) (hi:kns[i]? = some q) (hv:q.2.2.1 ≠ 0) (hkl:kns.length ≤ 4) (htl:ts.length ≤ 100)
    (hk:KeysOf (intKind prog w) es) (hlv:Holds es lg q.2.2.1) (hlo:∀ z ∈ othF q.2.1.1 kns,Holds es lg (Builtin.bitXor sp z.1)) (hlu:∀ z ∈ othF q.2.1.1 kns,Holds es lg (Builtin.bitXor q.2.1.1 z.1))
    (hr:ps[((((othF q.2.1.1 kns).map (·.1)).foldl (fun x y=>x + lg (Builtin.bitXor sp y)) (lg q.2.2.1) - ((othF q.2.1.1 kns).map (·.1)).foldl (fun x y=>x + lg (Builtin.bitXor q.2.1.1 y)) 0).fmod 15).toNat]? = some r)
    (K:∀ h' tk' co cu k1' k2' k3' k4' v1 v2 v3 v4 te',KeepsBut (pre7 N) h h' → h.objs.size ≤ h'.objs.size → IsCode h' q_toldLam co → IsCode h' q_toldLam cu → 219 ≤ co → 219 ≤ cu →
      At h' ((pre7 N).zip (os7 w N pw l kn sp tsp k0 k1 k2 (tf.put co cu).l (.c k1' k2' k3' k4' v1 v2 v3 v4) (some (.int q.2.1.1 q.2.1.2)) (ts ++ [r]) te' (i + 1))) → codeAny (model prog w) A (toldFor w N) R ⟨h',g,d,tk',os⟩) :
    codeAny (model prog w) A (toldFor w N) R ⟨h,g,d,T0,os⟩:=by
  refine Mn.enter hA ?_
  obtain ⟨ta,⟨x,tx⟩,v,tv⟩:=q
  have hta:=hq (ta,(x,tx),v,tv) (List.mem_of_getElem? hi)
  obtain ⟨tg,kk1,kk2,kk3,kk4,vv1,vv2,vv3,vv4,rfl⟩:=fs.form
  obtain ⟨tq,acx,rfl⟩:=tf.form
  let fs0:=FS.mk3 tg kk1 kk2 kk3 kk4 vv1 vv2 vv3 vv4
  let tf0:=TC.mk2 tq acx
  cases tg <;> cases tq
  all_goals
    have OD:=startA (b1:=b1) (b2:=b2) (T0:=T0) [(pw,listO (intsV ps) pe),(l,dictO es ep),(kn,listO (refsV kns) ke),(ta,pairO x tx v tv)] (pre7 N) (os7 w N pw l kn sp tsp k0 k1 k2 tf0.l fs0 pv ts te i) 7 rfl rfl (by kernel_rfl) top ⟨hpw,hl,hkn,hta.1,trivial⟩ st
      (free7 hN) (apart7 hN) ⟨out7 bpw.1 bpw.2,out7 bl.1 bl.2,out7 bkn.1 bkn.2,out7 hta.2.1 hta.2.2,trivial⟩
    refine go F 2 7 0 [1006] (i:=0) OD hA hh fun h1=>?_
    intro o_h1 OD
    have z1:h.objs.size ≤ h1.objs.size:=size_le OD.1 OD.2
    refine Mn.st (.call (.builtin "list_iterator.__next__") ⟨[.ref (N + 5)],[]⟩) ?_
    refine c_list_next (OD.2.ob 6) (OD.2.still 2 rfl) (by simp [refsV,hi]:(refsV kns)[i]? = some (.ref ta)) fun h2 hit2 hs2=>?_
    replace OD:=cre1 T0 6 (N + 5) OD ((by kernel_rfl):_ = some (litO kn i)) rfl (same_keepsBut hs2) (Nat.le_of_eq hs2.1.symm) hit2
    refine go F 63 10 1 [1006,2003,2003,2003,7000,2003,1007,1007,1007,1007,1007,2003,1007,1007,1007,1007,1007,1007,2003,1007,1007,1007,1007,1007,1007,2003,1007,1007,1009,1004,1004,1001,1001,1001] OD hA hh fun h3=>?_
    intro o_h3 OD
    refine Mn.st (.call (.builtin "int.__bool__") ⟨[.int v tv],[]⟩) ?_
    refine c_bool true (by simpa using hv) ?_
    refine go F 16 13 1 [1001,2002,2002,7000,2002,1010] OD hA hh fun h4=>?_
    intro o_h4 OD
    refine Mn.st (.compStart (othersE w) 0 (.ref (h2.objs.size + 3)) (.ref (h2.objs.size + 4)) (othEnv w (N + 3) (h2.objs.size + 5) N)) ?_
    have t4:TopOk w h4:=fun a o e=>OD.2.top a o e
    have e2:h2.objs.size = h1.objs.size:=hs2.1
    have hM:N + 6 ≤ h2.objs.size:=Nat.le_trans hNh (Nat.le_trans z1 (Nat.le_of_eq e2.symm))
    have k4:=OD.2.kept
    have z4:h.objs.size ≤ h4.objs.size:=size_le OD.1 OD.2
    refine oth_comp (p:=x) (tp:=tx) (ke:=ke) F (dk hA) (aH hh) (oth_g hN hM)
      (oth_n _) ⟨oth_o bkn.2 hM,oth_c hM⟩ kns t4 (OD.2.still 2 rfl) (OD.2.ob 4)
      (fun z hz=>have y:=hq z hz; ⟨k4 _ _ y.1 (out7 y.2.1 y.2.2).mem,oth_o y.2.2 hM⟩) (e:=0) (OD.2.ob 10) (OD.2.ob 11) (OD.2.ob 12) hkl (fun x=>by rw [x] at hi; cases hi) fun h5 tk5 e5 lo5 k5 s5 hit5 hacc5 hloc5=>?_
    replace OD:=creL tk5 [(10,h2.objs.size + 3,litE kns.length),(11,h2.objs.size + 4,listO (intsV (othF x kns)) e5),(12,h2.objs.size + 5,othLoc w (some lo5))] [] OD ⟨rfl,hit5,rfl,hacc5,rfl,hloc5,trivial⟩ k5 s5 trivial
    obtain ⟨tlv,hlv⟩:=hlv
    refine go F 56 21 10 [1001,1001,1012,1012,1012,1012,1012,1012,3,183,1000,1000,1000,1000,3,4,3,1001,1002,1001,2001,2001,2001] (i:=0) OD hA hh fun h6=>?_
    intro o_h6 OD
    refine Mn.st (.call (.builtin "dict.__getitem__") ⟨[.ref l,.int v tv],[]⟩) ?_
    refine c_dict_get (OD.2.still 1 rfl) hk hlv ?_
    refine go F 2 21 11 [47] (i:=11) OD hA hh fun h7=>?_
    intro o_h7 OD
    have k7:=OD.2.kept
    have z7:h.objs.size ≤ h7.objs.size:=size_le OD.1 OD.2
    refine Mn.st (.call (.ref 47) ⟨[.ref (h5.objs.size + 7),.ref (h2.objs.size + 4),.int (lg v) tlv],[]⟩) ?_
    have t7:TopOk w h7:=fun a o e=>OD.2.top a o e
    have c7:IsCode h7 q_toldLam (h5.objs.size + 6):=isCode_of OD.2 19 (by kernel_rfl) rfl
    have f7:h7.get? (h5.objs.size + 7) = some (fnO (lamFd w (eOver w) [(n_spot,N + 2),(n_logs,N + 1)] (.ref (h5.objs.size + 6)) (.ref (h5.objs.size + 0)))):=OD.2.ob 20
    refine reduce_init (ve:=e5) (xs:=othF x kns) F (dk hA) (aH hh) t7
      (lam_over (sp:=sp) (tsp:=tsp) (lg:=lg) F t7 f7 c7 (OD.2.ob 2) (OD.2.ob 3) (OD.2.still 1 rfl) hk)
      f7 (OD.2.ob 11) hlo fun h8 tk8 tx8 k8 s8=>?_
    replace OD:=cre0 tk8 OD k8 s8
    refine go F 41 29 11 [1001,1001,3,183,1000,1000,1000,1000,3,4,3,1001,47] (i:=0) OD hA hh fun h9=>?_
    intro o_h9 OD
    have k9:=OD.2.kept
    have t9:TopOk w h9:=fun a o e=>OD.2.top a o e
    have c9:IsCode h9 q_toldLam (h8.objs.size + 6):=isCode_of OD.2 27 (by kernel_rfl) rfl
    refine Mn.st (.call (.ref 47) ⟨[.ref (h8.objs.size + 7),.ref (h2.objs.size + 4),.int 0 (tk8 + 10)],[]⟩) ?_
    have f9:h9.get? (h8.objs.size + 7) = some (fnO (lamFd w (eUnder w) [(n_point,N + 3),(n_logs,N + 1)] (.ref (h8.objs.size + 6)) (.ref (h8.objs.size + 0)))):=OD.2.ob 28
    refine reduce_init (ve:=e5) (xs:=othF x kns) F (dk hA) (aH hh) t9
      (lam_under (sp:=x) (tsp:=tx) (lg:=lg) F t9 f9 c9 (OD.2.ob 2) (OD.2.ob 4) (OD.2.still 1 rfl) hk)
      f9 (OD.2.ob 11) hlu fun hA1 tkA txA kA sA=>?_
    replace OD:=cre0 tkA OD kA sA
    refine go F 38 29 4 [1001,1001,1001,1005,1005,1005,1005,1001,1001,1001,2000,2000,2000] (i:=0) OD hA hh fun hB=>?_
    intro o_hB OD
    refine Mn.st (.call (.builtin "list.__getitem__") ⟨[.ref pw,.int ((((othF x kns).map (·.1)).foldl (fun x y=>x + lg (Builtin.bitXor sp y)) (lg v) - ((othF x kns).map (·.1)).foldl (fun z y=>z + lg (Builtin.bitXor x y)) 0).fmod 15) (tkA + 3)],[]⟩) ?_
    refine c_list_get (OD.2.still 0 rfl) (Int.fmod_nonneg_of_pos _ (by decide)) (Int.lt_trans (Int.fmod_lt_of_pos _ (by decide)) (by decide)) (get_ints hr) ?_
    refine go F 1 29 4 [] OD hA hh fun hC=>?_
    intro o_hC OD
    refine Mn.st (.call (.builtin "list.append") ⟨[.ref (N + 4),.int r.1 r.2],[]⟩) ?_
    refine c_list_append (vs:=intsV ts) (e:=te) (OD.2.ob 5) (intsV_le htl) fun hD hte hsD=>?_
    replace OD:=cre1 (tkA + 4) 5 (N + 4) OD ((by kernel_rfl):_ = some (listO (intsV ts) te)) rfl (same_keepsBut hsD) (Nat.le_of_eq hsD.1.symm) hte
    refine go F 1 29 0 [] (i:=0) OD hA hh fun hE=>?_
    intro o_hE OD
    refine Mn.again (c':=toldFor w N) (by kernel_rfl) rfl (by kernel_rfl) ?_
    have eI:intsV ts ++ [Value.int r.1 r.2] = intsV (ts ++ [r]):=by simp [intsV]
    have e0:=OD.2.ob 0 (o:=(tabO (tf0.put (h5.objs.size + 6) (h8.objs.size + 6)).l)) (ea:=rfl)
    have e5':=OD.2.ob 5 (o:=(listO (intsV ts ++ [Value.int r.1 r.2]) (te + 1))) (ea:=rfl)
    rw [eI] at e5'
    have e2:=OD.2.ob 2 (o:=(cellO (some (.ref l)))) (ea:=rfl)
    have e3:=OD.2.ob 3 (o:=(cellO (some (.int sp tsp)))) (ea:=rfl)
    have e4:=OD.2.ob 4 (o:=(cellO (some (.int x tx)))) (ea:=rfl)
    have e6:=OD.2.ob 6 (o:=(litO kn (i + 1))) (ea:=rfl)
    have cA:IsCode hE q_toldLam (h5.objs.size + 6):=isCode_of OD.2 19 (by kernel_rfl) rfl
    have cB:IsCode hE q_toldLam (h8.objs.size + 6):=isCode_of OD.2 27 (by kernel_rfl) rfl
    exact K hE _ (h5.objs.size + 6) (h8.objs.size + 6) (fs0.k1 (T0 + 0)) (fs0.k2 (tk5 + 0)) (fs0.k3 (tk8 + 0)) (fs0.k4 (tkA + 0)) _ _ _ _ (te + 1) OD.2.kept (size_le OD.1 OD.2) cA cB (Nat.le_add_right_of_le (by lia)) (Nat.le_add_right_of_le (by lia)) ⟨e0,(OD.2.ob 1 (o:=(toldFr w pw kn (N + 4) k0 k1 k2 (.c (fs0.k1 (T0 + 0)) (fs0.k2 (tk5 + 0)) (fs0.k3 (tk8 + 0)) (fs0.k4 (tkA + 0)) (.int v tv) (.ref (h2.objs.size + 4)) (.int (((othF x kns).map (·.1)).foldl (fun x y=>x + lg (Builtin.bitXor sp y)) (lg v)) tx8) (.int (((othF x kns).map (·.1)).foldl (fun z y=>z + lg (Builtin.bitXor x y)) 0) txA)))) (ea:=rfl)),e2,e3,e4,e5',e6,trivial⟩
end
end Mine
set_option genInjectivity false
set_option genSizeOf false
namespace Mine
open PySem PySem.W PySem.W.X PyProof.Rows
noncomputable def FS.put (f:FS) (d:Nat) (v:Value):FS:=match f with
  | .a=>.b d v
  | .b k _=>.b k v
  | .c k1 k2 k3 k4 _ v2 v3 v4=>.c k1 k2 k3 k4 v v2 v3 v4
theorem lam_xor {w:World} {b1 b2:Bool} {h:Heap} {fa ca:Addr} (F:Follows w b1 b2) (tp:TopOk w h) (hfa:h.get? fa = some (fnO (lamFd w (eXor w) [] (.ref ca) .none))) (hca:IsCode h q_toldLam ca) :
    FnOk w 600 h (.ref fa) (fun _=>True) (fun x y=>Builtin.bitXor x y):=by
  intro A R h1 g d tk os x y tx ty hy hd hh hk1 K
  obtain ⟨v0,tc,r,hca⟩:=hca
  refine Mn.enter hd ?_
  have OD:=start0 (w:=w) (b1:=b1) (b2:=b2) (ro:=[(fa,fnO (lamFd w (eXor w) [] (.ref ca) .none)),(ca,codeO q_toldLam v0 tc r)]) (s:=⟨h1,g,d,tk,os⟩) (tp.keeps hk1) (At.mem ⟨hk1 _ _ hfa,hk1 _ _ hca,trivial⟩)
  refine go F 23 1 3 [2000,2001,1000,1000,1000,1000,2,1000,1000] (i:=0) OD hd hh fun h3=>?_
  intro o_h3 OD
  refine Mn.en (.ret (.int (Builtin.bitXor x y) (tk + 2))) ?_
  exact K h3 _ _ OD.2.kept0 (size_le OD.1 OD.2)
inductive TT where
  | c (t:TC)
  | f (t:TF)
noncomputable def TT.l:TT → List Value
  | .c t=>t.l
  | .f t=>t.l
noncomputable def TabOk (h:Heap):TT → Prop
  | .c .e=>True
  | .c (.x cx)=>IsCode h q_toldLam cx ∧ 219 ≤ cx
  | .f (.ou co cu)=>(IsCode h q_toldLam co ∧ 219 ≤ co) ∧ IsCode h q_toldLam cu ∧ 219 ≤ cu
  | .f (.oux co cu cx)=>((IsCode h q_toldLam co ∧ 219 ≤ co) ∧ IsCode h q_toldLam cu ∧ 219 ≤ cu) ∧ IsCode h q_toldLam cx ∧ 219 ≤ cx
  | .f (.xou cx co cu)=>((IsCode h q_toldLam co ∧ 219 ≤ co) ∧ IsCode h q_toldLam cu ∧ 219 ≤ cu) ∧ IsCode h q_toldLam cx ∧ 219 ≤ cx
theorem TabOk.map {h h':Heap} (H:∀ a,IsCode h q_toldLam a → IsCode h' q_toldLam a):∀ {t:TT},TabOk h t → TabOk h' t
  | .c .e,_=>trivial
  | .c (.x _),k=>⟨H _ k.1,k.2⟩
  | .f (.ou _ _),k=>⟨⟨H _ k.1.1,k.1.2⟩,H _ k.2.1,k.2.2⟩
  | .f (.oux _ _ _),k=>⟨⟨⟨H _ k.1.1.1,k.1.1.2⟩,H _ k.1.2.1,k.1.2.2⟩,H _ k.2.1,k.2.2⟩
  | .f (.xou _ _ _),k=>⟨⟨⟨H _ k.1.1.1,k.1.1.2⟩,H _ k.1.2.1,k.1.2.2⟩,H _ k.2.1,k.2.2⟩
theorem TabOk.co {h:Heap} {t:TF} (k:TabOk h (.f t)):IsCode h q_toldLam t.co:=by cases t <;> first | exact k.1.1 | exact k.1.1.1
theorem TabOk.cu {h:Heap} {t:TF} (k:TabOk h (.f t)):IsCode h q_toldLam t.cu:=by cases t <;> first | exact k.2.1 | exact k.1.2.1
theorem TabOk.put {h:Heap} {t:TC} {co cu:Addr} (k:TabOk h (.c t)) (k1:IsCode h q_toldLam co) (k2:IsCode h q_toldLam cu) (k3:219 ≤ co) (k4:219 ≤ cu):TabOk h (.f (t.put co cu)):=by
  cases t with
  | e=>exact ⟨⟨k1,k3⟩,k2,k4⟩
  | x cx=>exact ⟨⟨⟨k1,k3⟩,k2,k4⟩,k.1,k.2⟩
noncomputable def toldIdx (lg:Int → Int) (sp:Int) (kns:List Pr) (q:Pr):Nat :=
  ((((othF q.2.1.1 kns).map (·.1)).foldl (fun x y=>x + lg (Builtin.bitXor sp y)) (lg q.2.2.1) - ((othF q.2.1.1 kns).map (·.1)).foldl (fun x y=>x + lg (Builtin.bitXor q.2.1.1 y)) 0).fmod 15).toNat
theorem toldIdx_lt {lg:Int → Int} {sp:Int} {kns:List Pr} {q:Pr}:toldIdx lg sp kns q < 15:=by
  unfold toldIdx
  have a:=Int.fmod_nonneg_of_pos ((((othF q.2.1.1 kns).map (·.1)).foldl (fun x y=>x + lg (Builtin.bitXor sp y)) (lg q.2.2.1) - ((othF q.2.1.1 kns).map (·.1)).foldl (fun x y=>x + lg (Builtin.bitXor q.2.1.1 y)) 0)) (show (0:Int) < 15 by decide)
  have b:=Int.fmod_lt_of_pos ((((othF q.2.1.1 kns).map (·.1)).foldl (fun x y=>x + lg (Builtin.bitXor sp y)) (lg q.2.2.1) - ((othF q.2.1.1 kns).map (·.1)).foldl (fun x y=>x + lg (Builtin.bitXor q.2.1.1 y)) 0)) (show (0:Int) < 15 by decide)
  omega
noncomputable def toldTs (lg:Int → Int) (sp:Int) (ps:List Int) (kns:List Pr):List Pr → List Int
  | []=>[]
  | q :: r=>if q.2.2.1 = 0 then toldTs lg sp ps kns r else ps.getD (toldIdx lg sp kns q) 0 :: toldTs lg sp ps kns r
noncomputable def toldV (lg:Int → Int) (sp:Int) (ps:List Int) (kns:List Pr):Int:=(toldTs lg sp ps kns kns).foldl (fun x y=>Builtin.bitXor x y) 0
section
variable {w:World} {b1 b2:Bool} {A:Around} {R:Result → Shared → Prop} {h:Heap} {g:Array GenState} {d:Drawn} {T0:Nat} {os:OsState}
  {N pw l kn:Nat} {sp:Int} {tsp k0 k1 k2 pe ep ke te i:Nat} {tb:List Value} {fs:FS} {pv:Option Value} {ts ps:List (Int × Nat)} {kns:List Pr} {q:Pr} {es:Array DictEntry} {lg:Int → Int} {r:Int × Nat}
theorem told_z (F:Follows w b1 b2) (hA:Lo A 300) (hh:A.handled = none) (top:TopOk w h) (hN:219 ≤ N) (hNh:N + 6 ≤ h.objs.size)
    (st:At h ((pre7 N).zip (os7 w N pw l kn sp tsp k0 k1 k2 tb fs pv ts te i)))
    (hkn:h.get? kn = some (listO (refsV kns) ke)) (bkn:219 ≤ kn ∧ kn < N)
    (hq:∀ z ∈ kns,h.get? z.1 = some (prO z) ∧ 219 ≤ z.1 ∧ z.1 < N) (hi:kns[i]? = some q) (hv:q.2.2.1 = 0)
    (K:∀ h' tk' fs',KeepsBut (pre7 N) h h' → h.objs.size ≤ h'.objs.size →
      At h' ((pre7 N).zip (os7 w N pw l kn sp tsp k0 k1 k2 tb fs' (some (.int q.2.1.1 q.2.1.2)) ts te (i + 1))) → codeAny (model prog w) A (toldFor w N) R ⟨h',g,d,tk',os⟩) :
    codeAny (model prog w) A (toldFor w N) R ⟨h,g,d,T0,os⟩:=by
  refine Mn.enter hA ?_
  obtain ⟨ta,⟨x,tx⟩,v,tv⟩:=q
  have hta:=hq (ta,(x,tx),v,tv) (List.mem_of_getElem? hi)
  obtain ⟨tg,kk1,kk2,kk3,kk4,vv1,vv2,vv3,vv4,rfl⟩:=fs.form
  let fs0:=FS.mk3 tg kk1 kk2 kk3 kk4 vv1 vv2 vv3 vv4
  cases tg
  all_goals
    have OD:=startA (b1:=b1) (b2:=b2) (T0:=T0) [(kn,listO (refsV kns) ke),(ta,pairO x tx v tv)] (pre7 N) (os7 w N pw l kn sp tsp k0 k1 k2 tb fs0 pv ts te i) 7 rfl rfl (by kernel_rfl) top ⟨hkn,hta.1,trivial⟩ st
      (free7 hN) (apart7 hN) ⟨out7 bkn.1 bkn.2,out7 hta.2.1 hta.2.2,trivial⟩
    refine go F 2 7 0 [1006] (i:=0) OD hA hh fun h1=>?_
    intro o_h1 OD
    refine Mn.st (.call (.builtin "list_iterator.__next__") ⟨[.ref (N + 5)],[]⟩) ?_
    refine c_list_next (OD.2.ob 6) (OD.2.still 0 rfl) (by simp [refsV,hi]:(refsV kns)[i]? = some (.ref ta)) fun h2 hit2 hs2=>?_
    replace OD:=cre1 T0 6 (N + 5) OD ((by kernel_rfl):_ = some (litO kn i)) rfl (same_keepsBut hs2) (Nat.le_of_eq hs2.1.symm) hit2
    refine go F 63 10 1 [1006,2001,2001,2001,7000,2001,1007,1007,1007,1007,1007,2001,1007,1007,1007,1007,1007,1007,2001,1007,1007,1007,1007,1007,1007,2001,1007,1007,1009,1004,1004,1001,1001,1001] OD hA hh fun h3=>?_
    intro o_h3 OD
    refine Mn.st (.call (.builtin "int.__bool__") ⟨[.int v tv],[]⟩) ?_
    refine c_bool false (by simpa using hv) ?_
    refine Mn.again (c':=toldFor w N) (by kernel_rfl) rfl (by kernel_rfl) ?_
    have e0:=OD.2.ob 0 (o:=(tabO tb)) (ea:=rfl)
    have e2:=OD.2.ob 2 (o:=(cellO (some (.ref l)))) (ea:=rfl)
    have e3:=OD.2.ob 3 (o:=(cellO (some (.int sp tsp)))) (ea:=rfl)
    have e4:=OD.2.ob 4 (o:=(cellO (some (.int x tx)))) (ea:=rfl)
    have e5:=OD.2.ob 5 (o:=(listO (intsV ts) te)) (ea:=rfl)
    have e6:=OD.2.ob 6 (o:=(litO kn (i + 1))) (ea:=rfl)
    exact K h3 _ (fs0.put (T0 + 0) (.int v tv)) OD.2.kept (size_le OD.1 OD.2) ⟨e0,OD.2.ob 1,e2,e3,e4,e5,e6,trivial⟩
noncomputable def os7E (w:World) (N pw l kn:Addr) (sp:Int) (tsp k0 k1 k2:Nat) (tb:List Value) (fs:FS) (pv:Option Value) (ts:List (Int × Nat)) (te i:Nat):List Obj :=
  [tabO tb,toldFr w pw kn (N + 4) k0 k1 k2 fs,cellO (some (.ref l)),cellO (some (.int sp tsp)),cellO pv,listO (intsV ts) te,litE i]
theorem told_fin (F:Follows w b1 b2) (hA:Lo A 300) (hh:A.handled = none) (top:TopOk w h) (hN:219 ≤ N) (hNh:N + 6 ≤ h.objs.size)
    (st:At h ((pre7 N).zip (os7 w N pw l kn sp tsp k0 k1 k2 tb fs pv ts te i)))
    (hkn:h.get? kn = some (listO (refsV kns) ke)) (bkn:219 ≤ kn ∧ kn < N) (hi:kns[i]? = none)
    (K:∀ h' tk',KeepsBut (pre7 N) h h' → h.objs.size ≤ h'.objs.size →
      At h' ((pre7 N).zip (os7E w N pw l kn sp tsp k0 k1 k2 tb fs pv ts te i)) → R (.ok .next) ⟨h',g,d,tk',os⟩) :
    codeAny (model prog w) A (toldFor w N) R ⟨h,g,d,T0,os⟩:=by
  refine Mn.enter hA ?_
  obtain ⟨tg,kk1,kk2,kk3,kk4,vv1,vv2,vv3,vv4,rfl⟩:=fs.form
  let fs0:=FS.mk3 tg kk1 kk2 kk3 kk4 vv1 vv2 vv3 vv4
  cases tg
  all_goals
    have OD:=startA (b1:=b1) (b2:=b2) (T0:=T0) [(kn,listO (refsV kns) ke)] (pre7 N) (os7 w N pw l kn sp tsp k0 k1 k2 tb fs0 pv ts te i) 7 rfl rfl (by kernel_rfl) top ⟨hkn,trivial⟩ st
      (free7 hN) (apart7 hN) ⟨out7 bkn.1 bkn.2,trivial⟩
    refine go F 2 7 0 [1006] (i:=0) OD hA hh fun h1=>?_
    intro o_h1 OD
    refine Mn.st (.call (.builtin "list_iterator.__next__") ⟨[.ref (N + 5)],[]⟩) ?_
    refine c_list_end (aH hh) (OD.2.ob 6 (o:=(litO kn i)) (ea:=rfl)) (OD.2.still 0 rfl) (by simpa [refsV] using hi:(refsV kns)[i]? = none) fun h2 hit2 hs2 hz2 hx2=>?_
    replace OD:=cre1R T0 6 (N + 5) [(h1.objs.size + 1,stopO h1.objs.size)] OD ((by kernel_rfl):_ = some (litO kn i)) rfl hs2 (by rw [hz2]; exact Nat.le_add_right _ _) hit2
      (At1 ⟨hx2,Nat.le_succ _⟩)
    refine go F 2 7 0 [2001] OD hA hh fun h3=>?_
    intro o_h3 OD
    refine Mn.en (.next) ?_
    exact K h3 _ OD.2.kept (size_le OD.1 OD.2) ⟨OD.2.ob 0,OD.2.ob 1,OD.2.ob 2,OD.2.ob 3,OD.2.ob 4,OD.2.ob 5,OD.2.ob 6,trivial⟩
end
theorem st_tab {w:World} {h:Heap} {N pw l kn:Nat} {sp:Int} {tsp k0 k1 k2 te i:Nat} {tt:TT} {fs:FS} {pv:Option Value} {ts:List (Int × Nat)} {h':Heap} (k:TabOk h tt)
    (st:At h ((pre7 N).zip (os7 w N pw l kn sp tsp k0 k1 k2 tt.l fs pv ts te i))) (kb:KeepsBut (pre7 N) h h'):TabOk h' tt :=
  k.map fun a c=>c.keep kb (code_out7 c st).mem
section
variable {w:World} {b1 b2:Bool} {A:Around} {R:Result → Shared → Prop} {g:Array GenState} {d:Drawn} {os:OsState}
  {N pw l kn:Nat} {sp:Int} {tsp k0 k1 k2 pe ep ke:Nat} {ps:List (Int × Nat)} {kns:List Pr} {es:Array DictEntry} {lg:Int → Int}
theorem told_loop (F:Follows w b1 b2) (hA:Lo A 300) (hh:A.handled = none) (hN:219 ≤ N) (bpw:219 ≤ pw ∧ pw < N) (bl:219 ≤ l ∧ l < N) (bkn:219 ≤ kn ∧ kn < N) (bq:∀ z ∈ kns,219 ≤ z.1 ∧ z.1 < N) (hkl:kns.length ≤ 4) (hps:ps.length = 15)
    (hk:KeysOf (intKind prog w) es) (hlv:∀ q ∈ kns,q.2.2.1 ≠ 0 → Holds es lg q.2.2.1) (hlo:∀ z ∈ kns,Holds es lg (Builtin.bitXor sp z.2.1.1)) (hlu:∀ q ∈ kns,∀ z ∈ kns,z.2.1.1 ≠ q.2.1.1 → Holds es lg (Builtin.bitXor q.2.1.1 z.2.1.1)) :
    ∀ (rest done:List Pr) (h:Heap) (T0:Nat) (tt:TT) (fs:FS) (pv:Option Value) (ts:List (Int × Nat)) (te:Nat),kns = done ++ rest → TopOk w h → N + 6 ≤ h.objs.size → TabOk h tt →
      At h ((pre7 N).zip (os7 w N pw l kn sp tsp k0 k1 k2 tt.l fs pv ts te done.length)) → h.get? pw = some (listO (intsV ps) pe) → h.get? l = some (dictO es ep) → h.get? kn = some (listO (refsV kns) ke) → (∀ z ∈ kns,h.get? z.1 = some (prO z)) → ts.length + rest.length ≤ 50 →
      (∀ h' tk' tt' fs' pv' ts' te' i',KeepsBut (pre7 N) h h' → h.objs.size ≤ h'.objs.size → TabOk h' tt' → At h' ((pre7 N).zip (os7E w N pw l kn sp tsp k0 k1 k2 tt'.l fs' pv' ts' te' i')) → ts'.map (·.1) = ts.map (·.1) ++ toldTs lg sp (ps.map (·.1)) kns rest → R (.ok .next) ⟨h',g,d,tk',os⟩) →
      codeAny (model prog w) A (toldFor w N) R ⟨h,g,d,T0,os⟩
  | [],done,h,T0,tt,fs,pv,ts,te,he,top,hNh,tk,st,hpw,hl,hkn,hq,htl,K=>by
    refine told_fin F hA hh top hN hNh st hkn bkn (by rw [he,List.append_nil]; simp) fun h' tk' k1 s1 st'=>?_
    exact K h' tk' tt fs pv ts te _ k1 s1 (st_tab tk st k1) st' (by simp [toldTs])
  | q :: rest,done,h,T0,tt,fs,pv,ts,te,he,top,hNh,tk,st,hpw,hl,hkn,hq,htl,K=>by
    have hi:kns[done.length]? = some q:=by rw [he]; simp
    have hqm:q ∈ kns:=List.mem_of_getElem? hi
    have he':kns = (done ++ [q]) ++ rest:=by rw [he,List.append_assoc]; rfl
    have hqq:∀ z ∈ kns,h.get? z.1 = some (prO z) ∧ 219 ≤ z.1 ∧ z.1 < N:=fun z hz=>⟨hq z hz,bq z hz⟩
    have mv:∀ {h'},KeepsBut (pre7 N) h h' → h'.get? pw = some (listO (intsV ps) pe) ∧ h'.get? l = some (dictO es ep) ∧ h'.get? kn = some (listO (refsV kns) ke) ∧ (∀ z ∈ kns,h'.get? z.1 = some (prO z)):=fun kb =>
      ⟨kb _ _ hpw (out7 bpw.1 bpw.2).mem,kb _ _ hl (out7 bl.1 bl.2).mem,kb _ _ hkn (out7 bkn.1 bkn.2).mem,fun z hz=>kb _ _ (hq z hz) (out7 (bq z hz).1 (bq z hz).2).mem⟩
    by_cases hv:q.2.2.1 = 0
    · refine told_z F hA hh top hN hNh st hkn bkn hqq hi hv fun h' tk' fs' k1 s1 st'=>?_
      have m:=mv k1
      refine told_loop F hA hh hN bpw bl bkn bq hkl hps hk hlv hlo hlu rest (done ++ [q]) h' tk' tt fs' _ ts te he' (top.keepsBut k1 (free7 hN)) (Nat.le_trans hNh s1) (st_tab tk st k1) (by rw [List.length_append]; exact st') m.1 m.2.1 m.2.2.1 m.2.2.2 (by simp only [List.length_cons] at htl; lia)
        fun h2 tk2 tt2 fs2 pv2 ts2 te2 i2 k2 s2 tb2 st2 hts=>?_
      exact K h2 tk2 tt2 fs2 pv2 ts2 te2 i2 (k1.trans k2) (Nat.le_trans s1 s2) tb2 st2 (by rw [hts]; simp [toldTs,hv])
    · have hx:toldIdx lg sp kns q < ps.length:=by rw [hps]; exact toldIdx_lt
      have hr:ps[toldIdx lg sp kns q]? = some ps[toldIdx lg sp kns q]:=List.getElem?_eq_getElem hx
      have mo:∀ z ∈ othF q.2.1.1 kns,∃ y ∈ kns,y.2.1 = z ∧ y.2.1.1 ≠ q.2.1.1:=fun z hz=>by
        unfold othF at hz
        obtain ⟨y,hy,rfl⟩:=List.mem_map.mp hz
        exact ⟨y,(List.mem_filter.mp hy).1,rfl,by simpa using (List.mem_filter.mp hy).2⟩
      have go2:∀ h' tk' tt' fs' pv' te',KeepsBut (pre7 N) h h' → h.objs.size ≤ h'.objs.size → TabOk h' tt' → At h' ((pre7 N).zip (os7 w N pw l kn sp tsp k0 k1 k2 tt'.l fs' pv' (ts ++ [ps[toldIdx lg sp kns q]]) te' (done.length + 1))) → codeAny (model prog w) A (toldFor w N) R ⟨h',g,d,tk',os⟩:=fun h' tk' tt' fs' pv' te' k1 s1 tb' st'=>by
        have m:=mv k1
        refine told_loop F hA hh hN bpw bl bkn bq hkl hps hk hlv hlo hlu rest (done ++ [q]) h' tk' tt' fs' pv' (ts ++ [ps[toldIdx lg sp kns q]]) te' he' (top.keepsBut k1 (free7 hN)) (Nat.le_trans hNh s1) tb' (by rw [List.length_append]; exact st') m.1 m.2.1 m.2.2.1 m.2.2.2 (by simp only [List.length_cons,List.length_append,List.length_nil] at htl ⊢; lia)
          fun h2 tk2 tt2 fs2 pv2 ts2 te2 i2 k2 s2 tb2 st2 hts=>?_
        refine K h2 tk2 tt2 fs2 pv2 ts2 te2 i2 (k1.trans k2) (Nat.le_trans s1 s2) tb2 st2 ?_
        rw [hts]
        simp [toldTs,hv,hx]
      cases tt with
      | f tf =>
        refine told_nzF F hA hh top hN hNh st hpw hl hkn bpw bl bkn hqq hi hv hkl (by lia) tk.co tk.cu hk (hlv q hqm hv)
          (fun z hz=>by obtain ⟨y,hy,rfl,_⟩:=mo z hz; exact hlo y hy) (fun z hz=>by obtain ⟨y,hy,rfl,hne⟩:=mo z hz; exact hlu q hqm y hy hne) hr fun h' tk' a1 a2 a3 a4 v1 v2 v3 v4 te' k1 s1 st'=>?_
        exact go2 h' tk' (.f tf) _ _ te' k1 s1 (st_tab tk st k1) st'
      | c tc =>
        refine told_nzC F hA hh top hN hNh st hpw hl hkn bpw bl bkn hqq hi hv hkl (by lia) hk (hlv q hqm hv)
          (fun z hz=>by obtain ⟨y,hy,rfl,_⟩:=mo z hz; exact hlo y hy) (fun z hz=>by obtain ⟨y,hy,rfl,hne⟩:=mo z hz; exact hlu q hqm y hy hne) hr fun h' tk' co cu a1 a2 a3 a4 v1 v2 v3 v4 te' k1 s1 c1 c2 c3 c4 st'=>?_
        exact go2 h' tk' (.f (tc.put co cu)) _ _ te' k1 s1 ((st_tab tk st k1).put c1 c2 c3 c4) st'
end
end Mine
namespace Mine
open PySem PySem.W PySem.W.X PyProof.Rows
section
variable {w:World} {b1 b2:Bool} {A:Around} {R:Result → Shared → Prop} {h:Heap} {g:Array GenState} {d:Drawn} {T0:Nat} {os:OsState}
  {pw l kn:Nat} {sp:Int} {tsp pe ep ke:Nat} {tt:TT} {ps:List (Int × Nat)} {kns:List Pr} {es:Array DictEntry} {lg:Int → Int}
theorem told_call (F:Follows w b1 b2) (hA:Lo A 200) (hh:A.handled = none) (top:TopOk w h) (htb:h.get? 181 = some (tabO tt.l)) (tk:TabOk h tt)
    (hpw:h.get? pw = some (listO (intsV ps) pe)) (hl:h.get? l = some (dictO es ep)) (hkn:h.get? kn = some (listO (refsV kns) ke)) (bpw:219 ≤ pw) (bl:219 ≤ l) (bkn:219 ≤ kn)
    (hq:∀ z ∈ kns,h.get? z.1 = some (prO z)) (bq:∀ z ∈ kns,219 ≤ z.1) (hkl:kns.length ≤ 4) (hps:ps.length = 15)
    (hk:KeysOf (intKind prog w) es) (hlv:∀ q ∈ kns,q.2.2.1 ≠ 0 → Holds es lg q.2.2.1) (hlo:∀ z ∈ kns,Holds es lg (Builtin.bitXor sp z.2.1.1)) (hlu:∀ q ∈ kns,∀ z ∈ kns,z.2.1.1 ≠ q.2.1.1 → Holds es lg (Builtin.bitXor q.2.1.1 z.2.1.1))
    (K:∀ h' tk' tt' t,KeepsBut [181] h h' → h.objs.size ≤ h'.objs.size → h'.get? 181 = some (tabO (TT.l tt')) → TabOk h' tt' → R (.ok (.ret (.int (toldV lg sp (ps.map (·.1)) kns) t))) ⟨h',g,d,tk',os⟩) :
    codeAny (model prog w) A (.call (.ref 184) ⟨[.ref pw,.ref l,.ref kn,.int sp tsp],[]⟩) R ⟨h,g,d,T0,os⟩:=by
  refine Mn.enter hA ?_
  have top0:=top
  have hN:219 ≤ h.objs.size:=Nat.le_of_lt (Nat.lt_of_le_of_lt bpw (Heap.lt_size hpw))
  have OD:=startA (b1:=b1) (b2:=b2) (T0:=T0) [(pw,listO (intsV ps) pe),(l,dictO es ep),(kn,listO (refsV kns) ke)] [181] [tabO tt.l] 1 rfl rfl (by kernel_rfl) top ⟨hpw,hl,hkn,trivial⟩ ⟨htb,trivial⟩
    ⟨.inr (.inr (.inr rfl)),trivial⟩ ⟨trivial,trivial⟩ ⟨⟨(nlt (by lia:181 < pw)).symm,trivial⟩,⟨(nlt (by lia:181 < l)).symm,trivial⟩,⟨(nlt (by lia:181 < kn)).symm,trivial⟩,trivial⟩
  refine go F 44 7 3 [184,183,1001,1001,1002,1002,1001,1001,1003,1003,2,1001,1001,1001,2002,2002,7000,2002,1006] (i:=0) OD hA hh fun h1=>?_
  intro o_h1 OD
  refine Mn.st (toldFor w h.objs.size) ?_
  have k1:=OD.2.kept
  have n181:∀ {a},219 ≤ a → a ∉ [181]:=fun x hm=>by rw [List.mem_singleton.mp hm] at x; lia
  have hs1:h1.objs.size = h.objs.size + 6:=OD.2.size
  refine told_loop (k0:=T0 + 0) (k1:=T0 + 1) (k2:=T0 + 2) (sp:=sp) (tsp:=tsp) (pw:=pw) (l:=l) (kn:=kn) (ps:=ps) (kns:=kns) (lg:=lg) (es:=es) (pe:=pe) (ep:=ep) (ke:=ke) F (dk hA) (aH hh) hN ⟨bpw,Heap.lt_size hpw⟩ ⟨bl,Heap.lt_size hl⟩ ⟨bkn,Heap.lt_size hkn⟩ (fun z hz=>⟨bq z hz,Heap.lt_size (hq z hz)⟩) hkl hps hk hlv hlo hlu
    kns [] h1 _ tt .a none [] 0 rfl OD.2.tp (Nat.le_of_eq hs1.symm) (tk.map fun a c=>c.keep k1 (fun hm=>by
      rw [List.mem_singleton.mp hm] at c
      obtain ⟨v0,t0,r0,c⟩:=c
      rw [htb] at c
      exact absurd (congrArg Obj.cls (Option.some.inj c)) (fun x=>nomatch x)))
    ⟨OD.2.ob 0,OD.2.ob 1,OD.2.ob 2,OD.2.ob 3,OD.2.ob 4,OD.2.ob 5,OD.2.ob 6,trivial⟩
    (k1 _ _ hpw (n181 bpw)) (k1 _ _ hl (n181 bl)) (k1 _ _ hkn (n181 bkn)) (fun z hz=>k1 _ _ (hq z hz) (n181 (bq z hz))) (by simp only [List.length_nil]; lia) fun h2 tk2 tt2 fs2 pv2 ts2 te2 i2 k2 s2 tb2 st2 hts=>?_
  have hts':(ts2.map (·.1)).foldl (fun x y=>Builtin.bitXor x y) 0 = toldV lg sp (ps.map (·.1)) kns:=by rw [hts]; rfl
  obtain ⟨q0,q1,q2,q3,q4,q5,q6,_⟩:=st2
  replace OD:=creL tk2 [(0,181,tabO tt2.l),(1,h.objs.size,toldFr w pw kn (h.objs.size + 4) (T0 + 0) (T0 + 1) (T0 + 2) fs2),(2,h.objs.size + 1,cellO (some (.ref l))),(3,h.objs.size + 2,cellO (some (.int sp tsp))),(4,h.objs.size + 3,cellO pv2),(5,h.objs.size + 4,listO (intsV ts2) te2),(6,h.objs.size + 5,litE i2)] [] OD
    ⟨rfl,q0,rfl,q1,rfl,q2,rfl,q3,rfl,q4,rfl,q5,rfl,q6,trivial⟩ k2 s2 trivial
  have hz2:h.objs.size + 6 ≤ h2.objs.size:=by lia
  have kc2:∀ {h3:Heap},KeepsBut [181,h.objs.size,h.objs.size + 1,h.objs.size + 2,h.objs.size + 3,h.objs.size + 4,h.objs.size + 5] h2 h3 → ∀ a,IsCode h2 q_toldLam a → IsCode h3 q_toldLam a:=fun kb a c=>c.keep kb (by
    obtain ⟨v0,t0,r0,e⟩:=c
    exact NotIn.mem ⟨ne_cls e q0 (fun x=>nomatch x),ne_cls e q1 (ty_ne (by decide)),ne_cls e q2 (ty_ne (by decide)),ne_cls e q3 (ty_ne (by decide)),ne_cls e q4 (ty_ne (by decide)),ne_cls e q5 (ty_ne (by decide)),ne_cls e q6 (ty_ne (by decide)),trivial⟩)
  have kst:=OD.2.kept
  obtain ⟨tg,kk1,kk2,kk3,kk4,vv1,vv2,vv3,vv4,rfl⟩:=fs2.form
  cases tg
  all_goals
    cases tt2 with
    | c tc =>
      cases tc with
      | e =>
        have W2:=OD
        replace OD:=fresh OD rfl rfl
        refine go F 30 14 8 [3,183,1000,1000,1000,1000,3,4,3,1001,47] (i:=0) OD hA hh fun h3=>?_
        intro o_h3 OD
        have kc:∀ a,IsCode h2 q_toldLam a → IsCode h3 q_toldLam a:=kc2 (show KeepsBut ([181] ++ upF h.objs.size (7 - 1)) h2 h3 from OD.2.kept)
        refine Mn.st (.call (.ref 47) ⟨[.ref (h2.objs.size + 6),.ref (h.objs.size + 4),.int 0 (tk2 + 7)],[]⟩) ?_
        have t3:TopOk w h3:=fun a o e=>OD.2.top a o e
        have cN3:IsCode h3 q_toldLam (h2.objs.size + 5):=isCode_of OD.2 12 (by kernel_rfl) rfl
        have f3:h3.get? (h2.objs.size + 6) = some (fnO (lamFd w (eXor w) [] (.ref (h2.objs.size + 5)) .none)):=OD.2.ob 13
        have hcx:IsCode h3 q_toldLam (h2.objs.size + 5):=cN3
        refine reduce_init (ve:=te2) (xs:=ts2) F (dk hA) (aH hh) t3 (lam_xor F t3 f3 hcx) f3 (OD.2.ob 5) (fun _ _=>trivial) fun h4 tk4 tx4 k4 s4=>?_
        replace OD:=cre0 tk4 OD k4 s4
        refine go F 1 14 0 [] (i:=0) OD hA hh fun h5=>?_
        intro o_h5 OD
        refine Mn.en (.ret (.int ((ts2.map (·.1)).foldl (fun x y=>Builtin.bitXor x y) 0) tx4)) ?_
        rw [hts']
        have g0:h5.get? 181 = some (tabO (TT.l (.c (.x (h2.objs.size + 5))))):=OD.2.ob 0
        have kc5:∀ a,IsCode h2 q_toldLam a → IsCode h5 q_toldLam a:=kc2 (show KeepsBut ([181] ++ upF h.objs.size (7 - 1)) h2 h5 from OD.2.kept)
        have cN5:IsCode h5 q_toldLam (h2.objs.size + 5):=isCode_of OD.2 12 (by kernel_rfl) rfl
        have T5:TabOk h5 (.c (.x (h2.objs.size + 5))):=⟨cN5,Nat.le_add_right_of_le (by lia)⟩
        exact K h5 _ (.c (.x (h2.objs.size + 5))) tx4 (thru W2 OD.2.kept) (Nat.le_trans (Nat.le_trans (Nat.le_add_right _ 6) hz2) (size_le OD.1 OD.2)) g0 T5
      | x cx =>
        have W2:=OD
        replace OD:=fresh OD rfl rfl
        refine go F 14 8 1 [3,183,1000,3,4,3,1001,47] (i:=0) OD hA hh fun h3=>?_
        intro o_h3 OD
        have kc:∀ a,IsCode h2 q_toldLam a → IsCode h3 q_toldLam a:=kc2 (show KeepsBut ([181] ++ upF h.objs.size (7 - 1)) h2 h3 from OD.2.kept)
        refine Mn.st (.call (.ref 47) ⟨[.ref (h2.objs.size + 0),.ref (h.objs.size + 4),.int 0 (tk2 + 0)],[]⟩) ?_
        have t3:TopOk w h3:=fun a o e=>OD.2.top a o e
        have f3:h3.get? (h2.objs.size + 0) = some (fnO (lamFd w (eXor w) [] (.ref cx) .none)):=OD.2.ob 7
        have hcx:IsCode h3 q_toldLam cx:=(kc _ tb2.1)
        refine reduce_init (ve:=te2) (xs:=ts2) F (dk hA) (aH hh) t3 (lam_xor F t3 f3 hcx) f3 (OD.2.ob 5) (fun _ _=>trivial) fun h4 tk4 tx4 k4 s4=>?_
        replace OD:=cre0 tk4 OD k4 s4
        refine go F 1 8 0 [] (i:=0) OD hA hh fun h5=>?_
        intro o_h5 OD
        refine Mn.en (.ret (.int ((ts2.map (·.1)).foldl (fun x y=>Builtin.bitXor x y) 0) tx4)) ?_
        rw [hts']
        have g0:h5.get? 181 = some (tabO (TT.l (.c (.x cx)))):=OD.2.ob 0
        have kc5:∀ a,IsCode h2 q_toldLam a → IsCode h5 q_toldLam a:=kc2 (show KeepsBut ([181] ++ upF h.objs.size (7 - 1)) h2 h5 from OD.2.kept)
        have T5:TabOk h5 (.c (.x cx)):=⟨kc5 _ tb2.1,tb2.2⟩
        exact K h5 _ (.c (.x cx)) tx4 (thru W2 OD.2.kept) (Nat.le_trans (Nat.le_trans (Nat.le_add_right _ 6) hz2) (size_le OD.1 OD.2)) g0 T5
    | f tf =>
      cases tf with
      | ou co cu =>
        have W2:=OD
        replace OD:=fresh OD rfl rfl
        refine go F 30 14 8 [3,183,1000,1000,1000,1000,3,4,3,1001,47] (i:=0) OD hA hh fun h3=>?_
        intro o_h3 OD
        have kc:∀ a,IsCode h2 q_toldLam a → IsCode h3 q_toldLam a:=kc2 (show KeepsBut ([181] ++ upF h.objs.size (7 - 1)) h2 h3 from OD.2.kept)
        refine Mn.st (.call (.ref 47) ⟨[.ref (h2.objs.size + 6),.ref (h.objs.size + 4),.int 0 (tk2 + 7)],[]⟩) ?_
        have t3:TopOk w h3:=fun a o e=>OD.2.top a o e
        have cN3:IsCode h3 q_toldLam (h2.objs.size + 5):=isCode_of OD.2 12 (by kernel_rfl) rfl
        have f3:h3.get? (h2.objs.size + 6) = some (fnO (lamFd w (eXor w) [] (.ref (h2.objs.size + 5)) .none)):=OD.2.ob 13
        have hcx:IsCode h3 q_toldLam (h2.objs.size + 5):=cN3
        refine reduce_init (ve:=te2) (xs:=ts2) F (dk hA) (aH hh) t3 (lam_xor F t3 f3 hcx) f3 (OD.2.ob 5) (fun _ _=>trivial) fun h4 tk4 tx4 k4 s4=>?_
        replace OD:=cre0 tk4 OD k4 s4
        refine go F 1 14 0 [] (i:=0) OD hA hh fun h5=>?_
        intro o_h5 OD
        refine Mn.en (.ret (.int ((ts2.map (·.1)).foldl (fun x y=>Builtin.bitXor x y) 0) tx4)) ?_
        rw [hts']
        have g0:h5.get? 181 = some (tabO (TT.l (.f (.oux co cu (h2.objs.size + 5))))):=OD.2.ob 0
        have kc5:∀ a,IsCode h2 q_toldLam a → IsCode h5 q_toldLam a:=kc2 (show KeepsBut ([181] ++ upF h.objs.size (7 - 1)) h2 h5 from OD.2.kept)
        have cN5:IsCode h5 q_toldLam (h2.objs.size + 5):=isCode_of OD.2 12 (by kernel_rfl) rfl
        have T5:TabOk h5 (.f (.oux co cu (h2.objs.size + 5))):=⟨⟨⟨kc5 _ tb2.1.1,tb2.1.2⟩,kc5 _ tb2.2.1,tb2.2.2⟩,cN5,Nat.le_add_right_of_le (by lia)⟩
        exact K h5 _ (.f (.oux co cu (h2.objs.size + 5))) tx4 (thru W2 OD.2.kept) (Nat.le_trans (Nat.le_trans (Nat.le_add_right _ 6) hz2) (size_le OD.1 OD.2)) g0 T5
      | oux co cu cx =>
        have W2:=OD
        replace OD:=fresh OD rfl rfl
        refine go F 14 8 1 [3,183,1000,3,4,3,1001,47] (i:=0) OD hA hh fun h3=>?_
        intro o_h3 OD
        have kc:∀ a,IsCode h2 q_toldLam a → IsCode h3 q_toldLam a:=kc2 (show KeepsBut ([181] ++ upF h.objs.size (7 - 1)) h2 h3 from OD.2.kept)
        refine Mn.st (.call (.ref 47) ⟨[.ref (h2.objs.size + 0),.ref (h.objs.size + 4),.int 0 (tk2 + 0)],[]⟩) ?_
        have t3:TopOk w h3:=fun a o e=>OD.2.top a o e
        have f3:h3.get? (h2.objs.size + 0) = some (fnO (lamFd w (eXor w) [] (.ref cx) .none)):=OD.2.ob 7
        have hcx:IsCode h3 q_toldLam cx:=(kc _ tb2.2.1)
        refine reduce_init (ve:=te2) (xs:=ts2) F (dk hA) (aH hh) t3 (lam_xor F t3 f3 hcx) f3 (OD.2.ob 5) (fun _ _=>trivial) fun h4 tk4 tx4 k4 s4=>?_
        replace OD:=cre0 tk4 OD k4 s4
        refine go F 1 8 0 [] (i:=0) OD hA hh fun h5=>?_
        intro o_h5 OD
        refine Mn.en (.ret (.int ((ts2.map (·.1)).foldl (fun x y=>Builtin.bitXor x y) 0) tx4)) ?_
        rw [hts']
        have g0:h5.get? 181 = some (tabO (TT.l (.f (.oux co cu cx)))):=OD.2.ob 0
        have kc5:∀ a,IsCode h2 q_toldLam a → IsCode h5 q_toldLam a:=kc2 (show KeepsBut ([181] ++ upF h.objs.size (7 - 1)) h2 h5 from OD.2.kept)
        have T5:TabOk h5 (.f (.oux co cu cx)):=⟨⟨⟨kc5 _ tb2.1.1.1,tb2.1.1.2⟩,kc5 _ tb2.1.2.1,tb2.1.2.2⟩,kc5 _ tb2.2.1,tb2.2.2⟩
        exact K h5 _ (.f (.oux co cu cx)) tx4 (thru W2 OD.2.kept) (Nat.le_trans (Nat.le_trans (Nat.le_add_right _ 6) hz2) (size_le OD.1 OD.2)) g0 T5
      | xou cx co cu =>
        have W2:=OD
        replace OD:=fresh OD rfl rfl
        refine go F 14 8 1 [3,183,1000,3,4,3,1001,47] (i:=0) OD hA hh fun h3=>?_
        intro o_h3 OD
        have kc:∀ a,IsCode h2 q_toldLam a → IsCode h3 q_toldLam a:=kc2 (show KeepsBut ([181] ++ upF h.objs.size (7 - 1)) h2 h3 from OD.2.kept)
        refine Mn.st (.call (.ref 47) ⟨[.ref (h2.objs.size + 0),.ref (h.objs.size + 4),.int 0 (tk2 + 0)],[]⟩) ?_
        have t3:TopOk w h3:=fun a o e=>OD.2.top a o e
        have f3:h3.get? (h2.objs.size + 0) = some (fnO (lamFd w (eXor w) [] (.ref cx) .none)):=OD.2.ob 7
        have hcx:IsCode h3 q_toldLam cx:=(kc _ tb2.2.1)
        refine reduce_init (ve:=te2) (xs:=ts2) F (dk hA) (aH hh) t3 (lam_xor F t3 f3 hcx) f3 (OD.2.ob 5) (fun _ _=>trivial) fun h4 tk4 tx4 k4 s4=>?_
        replace OD:=cre0 tk4 OD k4 s4
        refine go F 1 8 0 [] (i:=0) OD hA hh fun h5=>?_
        intro o_h5 OD
        refine Mn.en (.ret (.int ((ts2.map (·.1)).foldl (fun x y=>Builtin.bitXor x y) 0) tx4)) ?_
        rw [hts']
        have g0:h5.get? 181 = some (tabO (TT.l (.f (.xou cx co cu)))):=OD.2.ob 0
        have kc5:∀ a,IsCode h2 q_toldLam a → IsCode h5 q_toldLam a:=kc2 (show KeepsBut ([181] ++ upF h.objs.size (7 - 1)) h2 h5 from OD.2.kept)
        have T5:TabOk h5 (.f (.xou cx co cu)):=⟨⟨⟨kc5 _ tb2.1.1.1,tb2.1.1.2⟩,kc5 _ tb2.1.2.1,tb2.1.2.2⟩,kc5 _ tb2.2.1,tb2.2.2⟩
        exact K h5 _ (.f (.xou cx co cu)) tx4 (thru W2 OD.2.kept) (Nat.le_trans (Nat.le_trans (Nat.le_add_right _ 6) hz2) (size_le OD.1 OD.2)) g0 T5
end
end Mine
namespace Mine
open PySem PySem.W PySem.W.X PyProof.Rows
noncomputable def q_regL:Str:=⟨#[95,108,97,119,95,114,101,103,105,115,116,101,114,46,60,108,111,99,97,108,115,62,46]⟩
noncomputable def q_regLam:Str:=⟨#[95,108,97,119,95,114,101,103,105,115,116,101,114,46,60,108,111,99,97,108,115,62,46,60,108,97,109,98,100,97,62]⟩
noncomputable def regFr (w:World) (k0 k1 k2 k3 k4:Nat) (st:Int) (ts:Nat) (tap:Int) (tt:Nat) (ln:Addr) (tu:Nat) (W:Addr) (o:Option (Nat × Value × Nat × Value)):Obj :=
  frO w ([(n_start,k0,.int st ts),(n_tap,k1,.int tap tt),(n_line,k2,.ref ln),(n_unit,k3,.int 1 tu),(n_powers,k4,.ref W)] ++ (match o with | none=>[] | some q=>[(n_step,q.1,q.2.1),(n_first,q.2.2.1,q.2.2.2)])) (match o with | none=>5 | some _=>7)
noncomputable def lexD (w:World) (a0 a1 a2 a3:Nat) (lno:Int) (tl:Nat) (ins:Value) (tw:Nat) (P:Addr):Obj :=
  locO w [(n_lineno,a0,.int lno tl),(n_instream,a1,ins),(n_whitespace,a2,.str ⟨#[10,9,13,32]⟩ tw),(n_pushback,a3,.ref P)] 4
noncomputable def regFor (w:World) (L I:Addr):Code:=.forLoop (forTgt (stAt w 179 3)) (.ref I) (forBody (stAt w 179 3)) [] (envAt w 179 q_regL L [])
noncomputable def preR (L P W I:Addr):List Addr:=[176,L,P,W,I]
noncomputable def wval (b0 b1 b2 b3:Bool):Int:=2 * (2 * (2 * bitI b0 + bitI b1) + bitI b2) + bitI b3
theorem bit_sum (a b:Bool):(bitI a + bitI b).fmod 2 = bitI (a ^^ b):=by cases a <;> cases b <;> rfl
section
variable {w:World} {b1 b2:Bool} {A:Around} {R:Result → Shared → Prop} {h:Heap} {g:Array GenState} {d:Drawn} {T0:Nat} {os:OsState}
  {L P W I ln ld cx:Addr} {k0 k1 k2 k3 k4:Nat} {st tap:Int} {ts tt tu:Nat} {o:Nat × Value × Nat × Value} {w0 w1 w2 w3 sel:Bool × Nat} {e pe:Nat} {ps:List (Int × Nat)} {k left:Int}
  {a0 a1 a2 a3:Nat} {lno:Int} {tl tw:Nat} {ins:Value}
theorem reg_turn1 (F:Follows w b1 b2) (hA:Lo A 300) (hh:A.handled = none) (top:TopOk w h) (hap:Apart (preR L P W I)) (hfr:FreeL (preR L P W I)) (nln:NotIn ln (preR L P W I)) (nld:NotIn ld (preR L P W I))
    (hs:At h ((preR L P W I).zip [tabO [],regFr w k0 k1 k2 k3 k4 st ts tap tt ln tu W none,listO (strsV [w0,w1,w2,w3]) e,listO (intsV ps) pe,rngO k left 1]))
    (hln:h.get? ln = some (instO 163 ld)) (hld:h.get? ld = some (lexD w a0 a1 a2 a3 lno tl ins tw P)) (hl:0 < left) (hpl:ps.length ≤ 100) (ht0:0 ≤ tap) (ht1:tap < 2 ^ 63) (hsel:[w1,w2,w3][tap.toNat]? = some sel)
    (K:∀ h' tk' (o':Nat × Value × Nat × Value) cx' tn e' tp,KeepsBut (preR L P W I) h h' → h.objs.size ≤ h'.objs.size → IsCode h' q_regLam cx' →
      At h' ((preR L P W I).zip [tabO (trip 168 29 cx'),regFr w k0 k1 k2 k3 k4 st ts tap tt ln tu W (some o'),listO (strsV [w1,w2,w3,(w0.1 ^^ sel.1,tn)]) e',listO (intsV (ps ++ [(wval w0.1 w1.1 w2.1 w3.1,tp)])) (pe + 1),rngO (k + 1) (left - 1) 1]) →
      codeAny (model prog w) A (regFor w L I) R ⟨h',g,d,tk',os⟩) :
    codeAny (model prog w) A (regFor w L I) R ⟨h,g,d,T0,os⟩:=by
  refine Mn.enter hA ?_
  have OD:=startA (b1:=b1) (b2:=b2) (T0:=T0) [(ln,instO 163 ld),(ld,lexD w a0 a1 a2 a3 lno tl ins tw P)] (preR L P W I) [tabO [],regFr w k0 k1 k2 k3 k4 st ts tap tt ln tu W none,listO (strsV [w0,w1,w2,w3]) e,listO (intsV ps) pe,rngO k left 1] 5 rfl rfl (by kernel_rfl) top ⟨hln,hld,trivial⟩ hs hfr hap ⟨nln,nld,trivial⟩
  refine go F 2 5 0 [1004] (i:=0) OD hA hh fun h1=>?_
  intro o_h1 OD
  refine Mn.st (.call (.builtin "range_iterator.__next__") ⟨[.ref I],[]⟩) ?_
  refine c_range_next (OD.2.ob 4 (o:=(rngO k left 1)) (ea:=rfl)) hl fun j0 hj0 sj0=>?_
  replace OD:=cre1 (T0 + 1) 4 I OD (by kernel_rfl:_ = some (rngO k left 1)) rfl (same_keepsBut sj0) (Nat.le_of_eq sj0.1.symm) hj0
  refine go F 98 15 10 [1001,1001,1001,1003,1003,1003,1003,3,178,1000,1000,1000,1000,3,4,3,1001,2000,163,163,162,2000,163,163,162,2000,2000,163,2001,1002,1002,7000,1002,1012,7001,10,5,1012,1012,7000,1012,1012,1012,1012,1012,1012,1002,1012,1012,1014,1014,3,0,1014] (i:=0) OD hA hh fun h2=>?_
  intro o_h2 OD
  refine Mn.st (.call (.type "int") ⟨[.str (bitS w0.1) w0.2],[]⟩) ?_
  refine c_int_bit (b:=w0.1) F (depth_ok hA (by kernel_rfl)) (aH hh) OD.2.tp fun j1 kj1 sj1=>?_
  replace OD:=cre0 ((T0 + 1) + 10 + 1) OD kj1 sj1
  refine go F 33 15 1 [1013,1013,1013,1013,1012,1012,1012,1012,1002,1012,1012,1014,1014,3,0,1014] (i:=0) OD hA hh fun h3=>?_
  intro o_h3 OD
  refine Mn.st (.call (.type "int") ⟨[.str (bitS w1.1) w1.2],[]⟩) ?_
  refine c_int_bit (b:=w1.1) F (depth_ok hA (by kernel_rfl)) (aH hh) OD.2.tp fun j2 kj2 sj2=>?_
  replace OD:=cre0 (((T0 + 1) + 10 + 1) + 1 + 1) OD kj2 sj2
  refine go F 33 15 1 [1013,1013,1013,1013,1012,1012,1012,1012,1002,1012,1012,1014,1014,3,0,1014] (i:=0) OD hA hh fun h4=>?_
  intro o_h4 OD
  refine Mn.st (.call (.type "int") ⟨[.str (bitS w2.1) w2.2],[]⟩) ?_
  refine c_int_bit (b:=w2.1) F (depth_ok hA (by kernel_rfl)) (aH hh) OD.2.tp fun j3 kj3 sj3=>?_
  replace OD:=cre0 ((((T0 + 1) + 10 + 1) + 1 + 1) + 1 + 1) OD kj3 sj3
  refine go F 33 15 1 [1013,1013,1013,1013,1012,1012,1012,1012,1002,1012,1012,1014,1014,3,0,1014] (i:=0) OD hA hh fun h5=>?_
  intro o_h5 OD
  refine Mn.st (.call (.type "int") ⟨[.str (bitS w3.1) w3.2],[]⟩) ?_
  refine c_int_bit (b:=w3.1) F (depth_ok hA (by kernel_rfl)) (aH hh) OD.2.tp fun j4 kj4 sj4=>?_
  replace OD:=cre0 (((((T0 + 1) + 10 + 1) + 1 + 1) + 1 + 1) + 1 + 1) OD kj4 sj4
  refine go F 355 24 26 [1013,1013,1013,1013,1012,1012,1012,1012,1002,1012,1012,1016,1014,1014,1014,47,47,46,40,1017,1017,1017,1017,1017,1017,2,3,0,1017,1013,1013,7000,1013,1018,1017,1017,1017,3,3,0,1017,1018,1018,1018,1018,1018,1013,1018,1018,1017,1017,1017,1018,1018,7000,1018,1018,1018,1018,1018,1018,1013,1018,1018,1017,1017,1017,1017,1017,1011,1011,1010,1019,1019,1019,1019,2,1019,1019,1017,1017,1018,1018,1018,1018,1013,1018,1018,1017,1017,1017,1017,1017,1011,1011,1010,1020,1020,1020,1020,2,1020,1020,1017,1017,1018,1018,1018,1018,1013,1018,1018,1017,1017,1017,1017,1017,1011,1011,1010,1021,1021,1021,1021,2,1021,1021,1017,1017,1018,1018,1018,1018,1013,1018,1018,1023,1017] (i:=0) OD hA hh fun h6=>?_
  intro o_h6 OD
  refine Mn.st (.call (.builtin "list.append") ⟨[.ref W,.int ((2 * ((2 * ((2 * (bitI w0.1)) + (bitI w1.1))) + (bitI w2.1))) + (bitI w3.1)) ((((((T0 + 1) + 10 + 1) + 1 + 1) + 1 + 1) + 1 + 1) + 24)],[]⟩) ?_
  refine c_list_append (vs:=intsV ps) (e:=pe) (OD.2.ob 3 (o:=(listO (intsV ps) pe)) (ea:=rfl)) (by unfold intsV; rw [List.length_map]; lia) fun j5 hj5 sj5=>?_
  replace OD:=cre1 ((((((T0 + 1) + 10 + 1) + 1 + 1) + 1 + 1) + 1 + 1) + 26) 3 W OD (by kernel_rfl:_ = some (listO (intsV ps) pe)) rfl (same_keepsBut sj5) (Nat.le_of_eq sj5.1.symm) hj5
  refine go F 143 25 7 [1001,2000,163,163,162,2000,163,163,162,2000,163,163,162,153,2000,2001,153,153,152,1024,1024,2,1024,2000,163,163,162,2000,163,163,162,2000,2000,163,2001,1002,1002,1002,1002,1002,1024,2000,163,163,162,2000,163,163,162,2000,2000,163,2001,1002,1002,1002,1002,1002,1002,1002,1002,1002,1001,1001,1001,2000,163,163,162,2000,163,163,162,2000,163,163,162,160,2000,2001,3,0,3,0,1001] (i:=0) OD hA hh fun h7=>?_
  intro o_h7 OD
  refine Mn.st (.call (.type "int") ⟨[.str (bitS w0.1) w0.2],[]⟩) ?_
  refine c_int_bit (b:=w0.1) F (depth_ok hA (by kernel_rfl)) (aH hh) OD.2.tp fun j6 kj6 sj6=>?_
  replace OD:=cre0 (((((((T0 + 1) + 10 + 1) + 1 + 1) + 1 + 1) + 1 + 1) + 26) + 7 + 1) OD kj6 sj6
  refine go F 29 25 1 [3,0,1001,2000,163,163,162,2000,163,163,162,2000,2000,163,2001,1001,1002,1002,1002] (i:=0) OD hA hh fun h8=>?_
  intro o_h8 OD
  refine Mn.st (.call (.builtin "list.__getitem__") ⟨[.ref P,.int tap tt],[]⟩) ?_
  refine c_list_get (vs:=strsV [w1,w2,w3]) (x:=.str (bitS sel.1) sel.2) (OD.2.ob 2 (o:=(listO (strsV [w1,w2,w3]) (e + 1))) (ea:=rfl)) ht0 ht1 (by unfold strsV; rw [List.getElem?_map,hsel]; rfl) ?_
  refine go F 3 25 1 [] (i:=1) OD hA hh fun h9=>?_
  intro o_h9 OD
  refine Mn.st (.call (.type "int") ⟨[.str (bitS sel.1) sel.2],[]⟩) ?_
  refine c_int_bit (b:=sel.1) F (depth_ok hA (by kernel_rfl)) (aH hh) OD.2.tp fun j8 kj8 sj8=>?_
  replace OD:=cre0 ((((((((T0 + 1) + 10 + 1) + 1 + 1) + 1 + 1) + 1 + 1) + 26) + 7 + 1) + 1 + 1) OD kj8 sj8
  refine go F 13 25 3 [] (i:=0) OD hA hh fun h10=>?_
  intro o_h10 OD
  refine Mn.st (.call (.type "str") ⟨[.int (((bitI w0.1) + (bitI sel.1)).fmod 2) (((((((((T0 + 1) + 10 + 1) + 1 + 1) + 1 + 1) + 1 + 1) + 26) + 7 + 1) + 1 + 1) + 2)],[]⟩) ?_
  refine c_str_bit F (depth_ok hA (by kernel_rfl)) (aH hh) OD.2.tp (w0.1 ^^ sel.1) (bit_sum _ _) fun j9 kj9 sj9=>?_
  replace OD:=cre0 (((((((((T0 + 1) + 10 + 1) + 1 + 1) + 1 + 1) + 1 + 1) + 26) + 7 + 1) + 1 + 1) + 3 + 1) OD kj9 sj9
  refine go F 57 26 3 [160,160,159,1025,1025,1025,1025,2,1025,2000,163,163,162,2000,163,163,162,2000,2000,163,2001,1002,1002,1002,1002,1025,1002,1002,1002,1002] (i:=0) OD hA hh fun h11=>?_
  intro o_h11 OD
  refine Mn.again (c':=regFor w L I) (by kernel_rfl) rfl (by kernel_rfl) ?_
  have e3:=(OD.2.ob 3 (o:=(listO (intsV ps ++ [.int (wval w0.1 w1.1 w2.1 w3.1) ((((((T0 + 1) + 10 + 1) + 1 + 1) + 1 + 1) + 1 + 1) + 24)]) (pe + 1))) (ea:=rfl))
  rw [show intsV ps ++ [Value.int (wval w0.1 w1.1 w2.1 w3.1) ((((((T0 + 1) + 10 + 1) + 1 + 1) + 1 + 1) + 1 + 1) + 24)] = intsV (ps ++ [(wval w0.1 w1.1 w2.1 w3.1,((((((T0 + 1) + 10 + 1) + 1 + 1) + 1 + 1) + 1 + 1) + 24))]) by simp [intsV]] at e3
  exact K _ _ (((T0 + 1) + 0),.int k (T0 + 0),(((((((T0 + 1) + 10 + 1) + 1 + 1) + 1 + 1) + 1 + 1) + 26) + 6),.str (bitS w0.1) w0.2) (j0.objs.size + 5) (((((((((T0 + 1) + 10 + 1) + 1 + 1) + 1 + 1) + 1 + 1) + 26) + 7 + 1) + 1 + 1) + 3 + 0) (e + 1 + 1) ((((((T0 + 1) + 10 + 1) + 1 + 1) + 1 + 1) + 1 + 1) + 24) OD.2.kept (size_le OD.1 OD.2) (isCode_of OD.2 10 (by kernel_rfl) rfl) ⟨OD.2.ob 0,OD.2.ob 1,OD.2.ob 2,e3,OD.2.ob 4,trivial⟩
theorem reg_turn2 (F:Follows w b1 b2) (hA:Lo A 300) (hh:A.handled = none) (top:TopOk w h) (hap:Apart (preR L P W I)) (hfr:FreeL (preR L P W I)) (nln:NotIn ln (preR L P W I)) (nld:NotIn ld (preR L P W I))
    (hs:At h ((preR L P W I).zip [tabO (trip 168 29 cx),regFr w k0 k1 k2 k3 k4 st ts tap tt ln tu W (some o),listO (strsV [w0,w1,w2,w3]) e,listO (intsV ps) pe,rngO k left 1]))
    (hln:h.get? ln = some (instO 163 ld)) (hld:h.get? ld = some (lexD w a0 a1 a2 a3 lno tl ins tw P)) (hcx:IsCode h q_regLam cx) (hl:0 < left) (hpl:ps.length ≤ 100) (ht0:0 ≤ tap) (ht1:tap < 2 ^ 63) (hsel:[w1,w2,w3][tap.toNat]? = some sel)
    (K:∀ h' tk' (o':Nat × Value × Nat × Value) cx' tn e' tp,KeepsBut (preR L P W I) h h' → h.objs.size ≤ h'.objs.size → IsCode h' q_regLam cx' →
      At h' ((preR L P W I).zip [tabO (trip 168 29 cx'),regFr w k0 k1 k2 k3 k4 st ts tap tt ln tu W (some o'),listO (strsV [w1,w2,w3,(w0.1 ^^ sel.1,tn)]) e',listO (intsV (ps ++ [(wval w0.1 w1.1 w2.1 w3.1,tp)])) (pe + 1),rngO (k + 1) (left - 1) 1]) →
      codeAny (model prog w) A (regFor w L I) R ⟨h',g,d,tk',os⟩) :
    codeAny (model prog w) A (regFor w L I) R ⟨h,g,d,T0,os⟩:=by
  obtain ⟨v0,tc,r,hcx⟩:=hcx
  have ncx:NotIn cx (preR L P W I):=by
    obtain ⟨s0,s1,s2,s3,s4,_⟩:=hs
    exact ⟨ne_cls hcx s0 (fun x=>nomatch x),ne_cls hcx s1 (ty_ne (by decide)),ne_cls hcx s2 (ty_ne (by decide)),ne_cls hcx s3 (ty_ne (by decide)),ne_cls hcx s4 (ty_ne (by decide)),trivial⟩
  refine Mn.enter hA ?_
  have OD:=startA (b1:=b1) (b2:=b2) (T0:=T0) [(ln,instO 163 ld),(ld,lexD w a0 a1 a2 a3 lno tl ins tw P),(cx,codeO q_regLam v0 tc r)] (preR L P W I) [tabO (trip 168 29 cx),regFr w k0 k1 k2 k3 k4 st ts tap tt ln tu W (some o),listO (strsV [w0,w1,w2,w3]) e,listO (intsV ps) pe,rngO k left 1] 5 rfl rfl (by kernel_rfl) top ⟨hln,hld,hcx,trivial⟩ hs hfr hap ⟨nln,nld,ncx,trivial⟩
  refine go F 2 5 0 [1004] (i:=0) OD hA hh fun h1=>?_
  intro o_h1 OD
  refine Mn.st (.call (.builtin "range_iterator.__next__") ⟨[.ref I],[]⟩) ?_
  refine c_range_next (OD.2.ob 4 (o:=(rngO k left 1)) (ea:=rfl)) hl fun j0 hj0 sj0=>?_
  replace OD:=cre1 (T0 + 1) 4 I OD (by kernel_rfl:_ = some (rngO k left 1)) rfl (same_keepsBut sj0) (Nat.le_of_eq sj0.1.symm) hj0
  refine go F 82 9 3 [1001,1001,1001,1003,1003,1003,1003,3,178,1000,3,4,3,1001,2000,163,163,162,2000,163,163,162,2000,2000,163,2001,1002,1002,7000,1002,1006,7001,10,5,1006,1006,7000,1006,1006,1006,1006,1006,1006,1002,1006,1006,1008,1008,3,0,1008] (i:=0) OD hA hh fun h2=>?_
  intro o_h2 OD
  refine Mn.st (.call (.type "int") ⟨[.str (bitS w0.1) w0.2],[]⟩) ?_
  refine c_int_bit (b:=w0.1) F (depth_ok hA (by kernel_rfl)) (aH hh) OD.2.tp fun j1 kj1 sj1=>?_
  replace OD:=cre0 ((T0 + 1) + 3 + 1) OD kj1 sj1
  refine go F 33 9 1 [1007,1007,1007,1007,1006,1006,1006,1006,1002,1006,1006,1008,1008,3,0,1008] (i:=0) OD hA hh fun h3=>?_
  intro o_h3 OD
  refine Mn.st (.call (.type "int") ⟨[.str (bitS w1.1) w1.2],[]⟩) ?_
  refine c_int_bit (b:=w1.1) F (depth_ok hA (by kernel_rfl)) (aH hh) OD.2.tp fun j2 kj2 sj2=>?_
  replace OD:=cre0 (((T0 + 1) + 3 + 1) + 1 + 1) OD kj2 sj2
  refine go F 33 9 1 [1007,1007,1007,1007,1006,1006,1006,1006,1002,1006,1006,1008,1008,3,0,1008] (i:=0) OD hA hh fun h4=>?_
  intro o_h4 OD
  refine Mn.st (.call (.type "int") ⟨[.str (bitS w2.1) w2.2],[]⟩) ?_
  refine c_int_bit (b:=w2.1) F (depth_ok hA (by kernel_rfl)) (aH hh) OD.2.tp fun j3 kj3 sj3=>?_
  replace OD:=cre0 ((((T0 + 1) + 3 + 1) + 1 + 1) + 1 + 1) OD kj3 sj3
  refine go F 33 9 1 [1007,1007,1007,1007,1006,1006,1006,1006,1002,1006,1006,1008,1008,3,0,1008] (i:=0) OD hA hh fun h5=>?_
  intro o_h5 OD
  refine Mn.st (.call (.type "int") ⟨[.str (bitS w3.1) w3.2],[]⟩) ?_
  refine c_int_bit (b:=w3.1) F (depth_ok hA (by kernel_rfl)) (aH hh) OD.2.tp fun j4 kj4 sj4=>?_
  replace OD:=cre0 (((((T0 + 1) + 3 + 1) + 1 + 1) + 1 + 1) + 1 + 1) OD kj4 sj4
  refine go F 355 18 26 [1007,1007,1007,1007,1006,1006,1006,1006,1002,1006,1006,1010,1008,1008,1008,47,47,46,40,1011,1011,1011,1011,1011,1011,2,3,0,1011,1007,1007,7000,1007,1012,1011,1011,1011,3,3,0,1011,1012,1012,1012,1012,1012,1007,1012,1012,1011,1011,1011,1012,1012,7000,1012,1012,1012,1012,1012,1012,1007,1012,1012,1011,1011,1011,1011,1011,1005,1005,2002,1013,1013,1013,1013,2,1013,1013,1011,1011,1012,1012,1012,1012,1007,1012,1012,1011,1011,1011,1011,1011,1005,1005,2002,1014,1014,1014,1014,2,1014,1014,1011,1011,1012,1012,1012,1012,1007,1012,1012,1011,1011,1011,1011,1011,1005,1005,2002,1015,1015,1015,1015,2,1015,1015,1011,1011,1012,1012,1012,1012,1007,1012,1012,1017,1011] (i:=0) OD hA hh fun h6=>?_
  intro o_h6 OD
  refine Mn.st (.call (.builtin "list.append") ⟨[.ref W,.int ((2 * ((2 * ((2 * (bitI w0.1)) + (bitI w1.1))) + (bitI w2.1))) + (bitI w3.1)) ((((((T0 + 1) + 3 + 1) + 1 + 1) + 1 + 1) + 1 + 1) + 24)],[]⟩) ?_
  refine c_list_append (vs:=intsV ps) (e:=pe) (OD.2.ob 3 (o:=(listO (intsV ps) pe)) (ea:=rfl)) (by unfold intsV; rw [List.length_map]; lia) fun j5 hj5 sj5=>?_
  replace OD:=cre1 ((((((T0 + 1) + 3 + 1) + 1 + 1) + 1 + 1) + 1 + 1) + 26) 3 W OD (by kernel_rfl:_ = some (listO (intsV ps) pe)) rfl (same_keepsBut sj5) (Nat.le_of_eq sj5.1.symm) hj5
  refine go F 143 19 7 [1001,2000,163,163,162,2000,163,163,162,2000,163,163,162,153,2000,2001,153,153,152,1018,1018,2,1018,2000,163,163,162,2000,163,163,162,2000,2000,163,2001,1002,1002,1002,1002,1002,1018,2000,163,163,162,2000,163,163,162,2000,2000,163,2001,1002,1002,1002,1002,1002,1002,1002,1002,1002,1001,1001,1001,2000,163,163,162,2000,163,163,162,2000,163,163,162,160,2000,2001,3,0,3,0,1001] (i:=0) OD hA hh fun h7=>?_
  intro o_h7 OD
  refine Mn.st (.call (.type "int") ⟨[.str (bitS w0.1) w0.2],[]⟩) ?_
  refine c_int_bit (b:=w0.1) F (depth_ok hA (by kernel_rfl)) (aH hh) OD.2.tp fun j6 kj6 sj6=>?_
  replace OD:=cre0 (((((((T0 + 1) + 3 + 1) + 1 + 1) + 1 + 1) + 1 + 1) + 26) + 7 + 1) OD kj6 sj6
  refine go F 29 19 1 [3,0,1001,2000,163,163,162,2000,163,163,162,2000,2000,163,2001,1001,1002,1002,1002] (i:=0) OD hA hh fun h8=>?_
  intro o_h8 OD
  refine Mn.st (.call (.builtin "list.__getitem__") ⟨[.ref P,.int tap tt],[]⟩) ?_
  refine c_list_get (vs:=strsV [w1,w2,w3]) (x:=.str (bitS sel.1) sel.2) (OD.2.ob 2 (o:=(listO (strsV [w1,w2,w3]) (e + 1))) (ea:=rfl)) ht0 ht1 (by unfold strsV; rw [List.getElem?_map,hsel]; rfl) ?_
  refine go F 3 19 1 [] (i:=1) OD hA hh fun h9=>?_
  intro o_h9 OD
  refine Mn.st (.call (.type "int") ⟨[.str (bitS sel.1) sel.2],[]⟩) ?_
  refine c_int_bit (b:=sel.1) F (depth_ok hA (by kernel_rfl)) (aH hh) OD.2.tp fun j8 kj8 sj8=>?_
  replace OD:=cre0 ((((((((T0 + 1) + 3 + 1) + 1 + 1) + 1 + 1) + 1 + 1) + 26) + 7 + 1) + 1 + 1) OD kj8 sj8
  refine go F 13 19 3 [] (i:=0) OD hA hh fun h10=>?_
  intro o_h10 OD
  refine Mn.st (.call (.type "str") ⟨[.int (((bitI w0.1) + (bitI sel.1)).fmod 2) (((((((((T0 + 1) + 3 + 1) + 1 + 1) + 1 + 1) + 1 + 1) + 26) + 7 + 1) + 1 + 1) + 2)],[]⟩) ?_
  refine c_str_bit F (depth_ok hA (by kernel_rfl)) (aH hh) OD.2.tp (w0.1 ^^ sel.1) (bit_sum _ _) fun j9 kj9 sj9=>?_
  replace OD:=cre0 (((((((((T0 + 1) + 3 + 1) + 1 + 1) + 1 + 1) + 1 + 1) + 26) + 7 + 1) + 1 + 1) + 3 + 1) OD kj9 sj9
  refine go F 57 20 3 [160,160,159,1019,1019,1019,1019,2,1019,2000,163,163,162,2000,163,163,162,2000,2000,163,2001,1002,1002,1002,1002,1019,1002,1002,1002,1002] (i:=0) OD hA hh fun h11=>?_
  intro o_h11 OD
  refine Mn.again (c':=regFor w L I) (by kernel_rfl) rfl (by kernel_rfl) ?_
  have e3:=(OD.2.ob 3 (o:=(listO (intsV ps ++ [.int (wval w0.1 w1.1 w2.1 w3.1) ((((((T0 + 1) + 3 + 1) + 1 + 1) + 1 + 1) + 1 + 1) + 24)]) (pe + 1))) (ea:=rfl))
  rw [show intsV ps ++ [Value.int (wval w0.1 w1.1 w2.1 w3.1) ((((((T0 + 1) + 3 + 1) + 1 + 1) + 1 + 1) + 1 + 1) + 24)] = intsV (ps ++ [(wval w0.1 w1.1 w2.1 w3.1,((((((T0 + 1) + 3 + 1) + 1 + 1) + 1 + 1) + 1 + 1) + 24))]) by simp [intsV]] at e3
  exact K _ _ (o.1,.int k (T0 + 0),o.2.2.1,.str (bitS w0.1) w0.2) cx (((((((((T0 + 1) + 3 + 1) + 1 + 1) + 1 + 1) + 1 + 1) + 26) + 7 + 1) + 1 + 1) + 3 + 0) (e + 1 + 1) ((((((T0 + 1) + 3 + 1) + 1 + 1) + 1 + 1) + 1 + 1) + 24) OD.2.kept (size_le OD.1 OD.2) ⟨v0,tc,r,OD.2.still 2 rfl⟩ ⟨OD.2.ob 0,OD.2.ob 1,OD.2.ob 2,e3,OD.2.ob 4,trivial⟩
end
end Mine
namespace Mine
open PySem PySem.W PySem.W.X PyProof.Rows
theorem ltN {h:Heap} {a:Addr} {o:Obj} (e:h.get? a = some o):@LT.lt Nat instLTNat a h.objs.size:=Heap.lt_size e
theorem len_app1 {α:Type} {l:List α} {x:α} {n m:Nat} (h:n + 1 + l.length ≤ m):n + (l ++ [x]).length ≤ m:=by
  rw [List.length_append]; exact Nat.le_trans (Nat.le_of_eq (by rw [Nat.add_right_comm]; rfl)) h
theorem low_lt {k a:Nat} (g:219 ≤ a) (h:Nat.blt k 219 = true:=by rfl):k < a:=Nat.lt_of_lt_of_le (Nat.le_of_ble_eq_true h) g
noncomputable def stepB (far:Bool) (b:Bool × Bool × Bool × Bool):Bool × Bool × Bool × Bool:=(b.2.1,b.2.2.1,b.2.2.2,b.1 ^^ (match far with | true=>b.2.2.2 | false=>b.2.1))
noncomputable def regV (far:Bool):Nat → Bool × Bool × Bool × Bool → List Int
  | 0,_=>[]
  | n + 1,b=>wval b.1 b.2.1 b.2.2.1 b.2.2.2 :: regV far n (stepB far b)
noncomputable def tapI:Bool → Int
  | true=>2
  | false=>0
theorem sel_eq {α:Type} (far:Bool) (w1 w2 w3:α):[w1,w2,w3][(tapI far).toNat]? = some (match far with | true=>w3 | false=>w1):=by cases far <;> rfl
theorem tap_b (far:Bool):0 ≤ tapI far ∧ tapI far < 2 ^ 63:=by cases far <;> decide
noncomputable def q_piece:Str:=⟨#[95,108,97,119,95,108,101,120,101,114,46,60,108,111,99,97,108,115,62,46,95,108,97,119,95,112,105,101,99,101]⟩
section
variable {w:World} {b1 b2:Bool} {A:Around} {R:Result → Shared → Prop} {g:Array GenState} {d:Drawn} {os:OsState}
  {L P W I ln ld:Addr} {k0 k1 k2 k3 k4:Nat} {st:Int} {ts tt tu:Nat} {far:Bool} {a0 a1 a2 a3:Nat} {lno:Int} {tl tw:Nat} {ins:Value}
theorem reg_end (F:Follows w b1 b2) (hA:Lo A 300) (hh:A.handled = none) {h:Heap} {T0:Nat} {k:Int} (top:TopOk w h) (hI:h.get? I = some (rngO k 0 1)) (fI:219 ≤ I)
    (K:∀ h' tk',Keeps h h' → h.objs.size ≤ h'.objs.size → R (.ok .next) ⟨h',g,d,tk',os⟩):codeAny (model prog w) A (regFor w L I) R ⟨h,g,d,T0,os⟩:=by
  refine Mn.enter hA ?_
  have OD:=startA (b1:=b1) (b2:=b2) (T0:=T0) [(I,rngO k 0 1)] [] [] 0 rfl rfl rfl top ⟨hI,trivial⟩ trivial trivial trivial ⟨trivial,trivial⟩
  refine go F 15 2 0 [2000,2000,2000,2000,2000,1001] (i:=0) OD hA hh fun h1=>?_
  intro o_h1 OD
  refine Mn.en (.next) ?_
  exact K _ _ OD.2.kept0 (size_le OD.1 OD.2)
theorem reg_loop (F:Follows w b1 b2) (hA:Lo A 300) (hh:A.handled = none) (hap:Apart (preR L P W I)) (hfr:FreeL (preR L P W I)) (nln:NotIn ln (preR L P W I)) (nld:NotIn ld (preR L P W I)) (fI:219 ≤ I) :
    ∀ (n:Nat) (h:Heap) (T0:Nat) (o:Nat × Value × Nat × Value) (cx:Addr) (w0 w1 w2 w3:Bool × Nat) (e pe:Nat) (ps:List (Int × Nat)) (k:Int),n + ps.length ≤ 50 → TopOk w h →
      At h ((preR L P W I).zip [tabO (trip 168 29 cx),regFr w k0 k1 k2 k3 k4 st ts (tapI far) tt ln tu W (some o),listO (strsV [w0,w1,w2,w3]) e,listO (intsV ps) pe,rngO k (n:Int) 1]) →
      h.get? ln = some (instO 163 ld) → h.get? ld = some (lexD w a0 a1 a2 a3 lno tl ins tw P) → IsCode h q_regLam cx →
      (∀ h' tk' ps' pe',KeepsBut (preR L P W I) h h' → h.objs.size ≤ h'.objs.size → (∃ o',h'.get? L = some (regFr w k0 k1 k2 k3 k4 st ts (tapI far) tt ln tu W (some o'))) → h'.get? W = some (listO (intsV ps') pe') → ps'.map (·.1) = ps.map (·.1) ++ regV far n (w0.1,w1.1,w2.1,w3.1) → (∃ l,h'.get? 176 = some (tabO l)) → R (.ok .next) ⟨h',g,d,tk',os⟩) →
      codeAny (model prog w) A (regFor w L I) R ⟨h,g,d,T0,os⟩
  | 0,h,T0,o,cx,w0,w1,w2,w3,e,pe,ps,k,hp,top,hs,hln,hld,hcx,K=>by
    obtain ⟨s0,s1,s2,s3,s4,_⟩:=hs
    refine reg_end F hA hh top s4 fI fun h' tk' k1 z1=>?_
    exact K h' tk' ps pe k1.but z1 ⟨o,k1 _ _ s1⟩ (k1 _ _ s3) (List.append_nil _).symm ⟨_,k1 _ _ s0⟩
  | n + 1,h,T0,o,cx,w0,w1,w2,w3,e,pe,ps,k,hp,top,hs,hln,hld,hcx,K=>by
    have hsel:=sel_eq far w1 w2 w3
    refine reg_turn2 F hA hh top hap hfr nln nld hs hln hld hcx (by omega) (by lia) (tap_b far).1 (tap_b far).2 hsel fun h' tk' o' cx' tn e' tp k1 z1 hcx' hs'=>?_
    have el:((n + 1:Nat):Int) - 1 = (n:Int):=by lia
    rw [el] at hs'
    refine reg_loop F hA hh hap hfr nln nld fI n h' tk' o' cx' w1 w2 w3 _ e' (pe + 1) _ (k + 1) (len_app1 hp) (top.keepsBut k1 hfr) hs' (k1 _ _ hln nln.mem) (k1 _ _ hld nld.mem) hcx' fun h2 tk2 ps2 pe2 k2 z2 hL hW hv h6=>?_
    refine K h2 tk2 ps2 pe2 (k1.trans k2) (Nat.le_trans z1 z2) hL hW ?_ h6
    rw [hv,List.map_append,List.append_assoc]
    cases far <;> rfl
theorem reg_all (F:Follows w b1 b2) (hA:Lo A 300) (hh:A.handled = none) (hap:Apart (preR L P W I)) (hfr:FreeL (preR L P W I)) (nln:NotIn ln (preR L P W I)) (nld:NotIn ld (preR L P W I)) (fI:219 ≤ I)
    {h:Heap} {T0:Nat} {w0 w1 w2 w3:Bool × Nat} {e pe:Nat} {k:Int} (top:TopOk w h)
    (hs:At h ((preR L P W I).zip [tabO [],regFr w k0 k1 k2 k3 k4 st ts (tapI far) tt ln tu W none,listO (strsV [w0,w1,w2,w3]) e,listO (intsV []) pe,rngO k 15 1]))
    (hln:h.get? ln = some (instO 163 ld)) (hld:h.get? ld = some (lexD w a0 a1 a2 a3 lno tl ins tw P))
    (K:∀ h' tk' ps' pe',KeepsBut (preR L P W I) h h' → h.objs.size ≤ h'.objs.size → (∃ o',h'.get? L = some (regFr w k0 k1 k2 k3 k4 st ts (tapI far) tt ln tu W (some o'))) → h'.get? W = some (listO (intsV ps') pe') → ps'.map (·.1) = regV far 15 (w0.1,w1.1,w2.1,w3.1) → (∃ l,h'.get? 176 = some (tabO l)) → R (.ok .next) ⟨h',g,d,tk',os⟩) :
    codeAny (model prog w) A (regFor w L I) R ⟨h,g,d,T0,os⟩:=by
  have hsel:=sel_eq far w1 w2 w3
  refine reg_turn1 F hA hh top hap hfr nln nld hs hln hld (by decide) (by simp) (tap_b far).1 (tap_b far).2 hsel fun h' tk' o' cx' tn e' tp k1 z1 hcx' hs'=>?_
  refine reg_loop F hA hh hap hfr nln nld fI 14 h' tk' o' cx' w1 w2 w3 _ e' (pe + 1) _ (k + 1) (by simp) (top.keepsBut k1 hfr) hs' (k1 _ _ hln nln.mem) (k1 _ _ hld nld.mem) hcx' fun h2 tk2 ps2 pe2 k2 z2 hL hW hv h6=>?_
  refine K h2 tk2 ps2 pe2 (k1.trans k2) (Nat.le_trans z1 z2) hL hW ?_ h6
  rw [hv]
  cases far <;> rfl
end
section
variable {w:World} {b1 b2:Bool} {A:Around} {R:Result → Shared → Prop} {h:Heap} {g:Array GenState} {d:Drawn} {T0:Nat} {os:OsState} {st:Int} {ts tt:Nat} {far c0 c1 c2 c3:Bool}
theorem reg_call (F:Follows w b1 b2) (hA:Lo A 100) (hh:A.handled = none) (top:TopOk w h) (hN:219 ≤ h.objs.size) (ht9:h.get? 169 = some (tabO [])) (ht6:h.get? 176 = some (tabO []))
    (e0:(st.fdiv 8).fmod 2 = bitI c0) (e1:(st.fdiv 4).fmod 2 = bitI c1) (e2:(st.fdiv 2).fmod 2 = bitI c2) (e3:(st.fdiv 1).fmod 2 = bitI c3)
    (K:∀ h' tk' W ps pe c9,KeepsBut [169,176] h h' → h.objs.size ≤ W → h.objs.size ≤ h'.objs.size → h'.get? W = some (listO (intsV ps) pe) → ps.map (·.1) = regV far 15 (c0,c1,c2,c3) → h'.get? 169 = some (tabO (trip 156 4 c9)) → IsCode h' q_piece c9 → 219 ≤ c9 → (∃ l,h'.get? 176 = some (tabO l)) → R (.ok (.ret (.ref W))) ⟨h',g,d,tk',os⟩) :
    codeAny (model prog w) A (.call (.ref 179) ⟨[.int st ts,.int (tapI far) tt],[]⟩) R ⟨h,g,d,T0,os⟩:=by
  refine Mn.enter hA ?_
  have OD:=startA (b1:=b1) (b2:=b2) (T0:=T0) [] [169,176] [tabO [],tabO []] 2 rfl rfl (by kernel_rfl) top trivial ⟨ht9,ht6,trivial⟩ ⟨.inr (.inl rfl),.inr (.inr (.inl rfl)),trivial⟩ ⟨⟨by decide,trivial⟩,trivial,trivial⟩ trivial
  refine go F 556 25 49 [179,178,1002,1002,1002,1002,2,3,174,174,173,1004,1004,2,3,163,163,163,163,163,163,163,163,163,163,163,163,163,163,163,163,163,163,163,163,163,163,163,163,163,162,163,163,1007,163,1007,163,163,162,139,139,138,1008,1008,1008,1008,2,1008,1007,163,163,162,1007,163,1007,163,1007,163,163,162,1007,163,1006,1006,1006,1008,1008,1007,163,163,162,1007,163,1007,163,1007,163,163,162,1007,163,1006,1006,1006,1008,1007,163,163,162,1007,163,1007,163,1007,163,163,162,1007,163,1006,1006,1006,1008,1007,163,163,162,1007,163,1007,163,1007,163,163,162,1007,163,1006,1006,1006,1003,1003,1005,1005,173,1000,1000,1000,1000,3,4,3,1003,1003,1003,1003,1007,163,163,162,1007,163,1007,163,1007,163,163,162,1007,163,1006,1006,1006,3,1003,163,163,163,163,163,163,163,163,163,163,163,163,163,163,163,163,163,163,163,163,163,163,163,163,163,162,163,163,1020,163,1020,163,163,162,139,139,138,1021,1021,1021,1021,2,1021,1020,163,163,162,1020,163,1020,163,1020,163,163,162,1020,163,1019,1019,1019,1021,1021,1020,163,163,162,1020,163,1020,163,1020,163,163,162,1020,163,1019,1019,1019,1021,1020,163,163,162,1020,163,1020,163,1020,163,163,162,1020,163,1019,1019,1019,1021,1020,163,163,162,1020,163,1020,163,1020,163,163,162,1020,163,1019,1019,1019,1002,1002,1023,1023,7000,1023,1024,1024,1024,1024,1024,1023,1024,1024,1002,1002,1002,1020,163,163,162,1020,163,163,162,1020,163,163,162,160,1020,1019,3,0,1002,1002] (i:=0) OD hA hh fun h1=>?_
  intro o_h1 OD
  have z0:h1.objs.size = h.objs.size + 23:=OD.2.size
  refine Mn.st (.call (.type "str") ⟨[.int ((st.fdiv 8).fmod 2) (T0 + 48)],[]⟩) ?_
  refine c_str_bit F (depth_ok hA (by kernel_rfl)) (aH hh) OD.2.tp c0 e0 fun j0 kj0 sj0=>?_
  replace OD:=cre0 (T0 + 49 + 1) OD kj0 sj0
  refine go F 115 26 7 [160,160,159,1025,1025,1025,1025,2,1025,1020,163,163,162,1020,163,163,162,1020,1020,163,1019,1022,1022,1022,1022,1025,1022,1022,1022,1022,1024,1024,1024,1024,1023,1024,1024,1002,1002,1002,1020,163,163,162,1020,163,163,162,1020,163,163,162,160,1020,1019,3,0,1002,1002] (i:=0) OD hA hh fun h2=>?_
  intro o_h2 OD
  have z1:h2.objs.size = j0.objs.size + 1:=OD.2.size
  refine Mn.st (.call (.type "str") ⟨[.int ((st.fdiv 4).fmod 2) ((T0 + 49 + 1) + 6)],[]⟩) ?_
  refine c_str_bit F (depth_ok hA (by kernel_rfl)) (aH hh) OD.2.tp c1 e1 fun j1 kj1 sj1=>?_
  replace OD:=cre0 ((T0 + 49 + 1) + 7 + 1) OD kj1 sj1
  refine go F 115 27 7 [160,160,159,1026,1026,1026,1026,2,1026,1020,163,163,162,1020,163,163,162,1020,1020,163,1019,1022,1022,1022,1022,1026,1022,1022,1022,1022,1024,1024,1024,1024,1023,1024,1024,1002,1002,1002,1020,163,163,162,1020,163,163,162,1020,163,163,162,160,1020,1019,3,0,1002,1002] (i:=0) OD hA hh fun h3=>?_
  intro o_h3 OD
  have z2:h3.objs.size = j1.objs.size + 1:=OD.2.size
  refine Mn.st (.call (.type "str") ⟨[.int ((st.fdiv 2).fmod 2) (((T0 + 49 + 1) + 7 + 1) + 6)],[]⟩) ?_
  refine c_str_bit F (depth_ok hA (by kernel_rfl)) (aH hh) OD.2.tp c2 e2 fun j2 kj2 sj2=>?_
  replace OD:=cre0 (((T0 + 49 + 1) + 7 + 1) + 7 + 1) OD kj2 sj2
  refine go F 115 28 7 [160,160,159,1027,1027,1027,1027,2,1027,1020,163,163,162,1020,163,163,162,1020,1020,163,1019,1022,1022,1022,1022,1027,1022,1022,1022,1022,1024,1024,1024,1024,1023,1024,1024,1002,1002,1002,1020,163,163,162,1020,163,163,162,1020,163,163,162,160,1020,1019,3,0,1002,1002] (i:=0) OD hA hh fun h4=>?_
  intro o_h4 OD
  have z3:h4.objs.size = j2.objs.size + 1:=OD.2.size
  refine Mn.st (.call (.type "str") ⟨[.int ((st.fdiv 1).fmod 2) ((((T0 + 49 + 1) + 7 + 1) + 7 + 1) + 6)],[]⟩) ?_
  refine c_str_bit F (depth_ok hA (by kernel_rfl)) (aH hh) OD.2.tp c3 e3 fun j3 kj3 sj3=>?_
  replace OD:=cre0 ((((T0 + 49 + 1) + 7 + 1) + 7 + 1) + 7 + 1) OD kj3 sj3
  refine go F 123 34 7 [160,160,159,1028,1028,1028,1028,2,1028,1020,163,163,162,1020,163,163,162,1020,1020,163,1019,1022,1022,1022,1022,1028,1022,1022,1022,1022,1024,1024,1024,1024,1023,1024,1024,1030,1002,1002,3,0,1032,1032,1032,1032,1032,1032,7000,1032,1032,1032,1032,1033] (i:=0) OD hA hh fun h5=>?_
  intro o_h5 OD
  have z4:h5.objs.size = j3.objs.size + 6:=OD.2.size
  refine Mn.st (regFor w (h.objs.size + 0) (j3.objs.size + 5)) ?_
  have W4:=OD
  have pL:h.objs.size ≤ (h.objs.size + 0):=Nat.le_add_right _ _
  have pP:(h.objs.size + 0) < (h.objs.size + 20):=Nat.add_lt_add_left (by decide) _
  have pW:(h.objs.size + 20) < (j3.objs.size + 3):=by show h.objs.size + 20 < j3.objs.size + 3; clear z4; lia
  have pI:(j3.objs.size + 3) < (j3.objs.size + 5):=Nat.add_lt_add_left (by decide) _
  have pn:(h.objs.size + 18) < (h.objs.size + 20) ∧ (h.objs.size + 0) < (h.objs.size + 18):=⟨Nat.add_lt_add_left (by decide) _,Nat.add_lt_add_left (by decide) _⟩
  have pd:(h.objs.size + 17) < (h.objs.size + 20) ∧ (h.objs.size + 0) < (h.objs.size + 17):=⟨Nat.add_lt_add_left (by decide) _,Nat.add_lt_add_left (by decide) _⟩
  obtain ⟨L,hLd⟩:∃ L,L = (h.objs.size + 0):=⟨_,rfl⟩
  obtain ⟨P,hPd⟩:∃ P,P = (h.objs.size + 20):=⟨_,rfl⟩
  obtain ⟨W,hWd⟩:∃ W,W = (j3.objs.size + 3):=⟨_,rfl⟩
  obtain ⟨I,hId⟩:∃ I,I = (j3.objs.size + 5):=⟨_,rfl⟩
  obtain ⟨ln,hnd⟩:∃ ln,ln = (h.objs.size + 18):=⟨_,rfl⟩
  obtain ⟨ld,hdd⟩:∃ ld,ld = (h.objs.size + 17):=⟨_,rfl⟩
  have q1:h5.get? L = some (regFr w (T0 + 0) (T0 + 1) (T0 + 40) (T0 + 45) (((((T0 + 49 + 1) + 7 + 1) + 7 + 1) + 7 + 1) + 3) st ts (tapI far) tt ln (T0 + 44) W none):=by rw [hLd,hnd,hWd]; exact OD.2.ob 2
  have q2:h5.get? P = some (listO (strsV [(c0,(T0 + 49 + 0)),(c1,((T0 + 49 + 1) + 7 + 0)),(c2,(((T0 + 49 + 1) + 7 + 1) + 7 + 0)),(c3,((((T0 + 49 + 1) + 7 + 1) + 7 + 1) + 7 + 0))]) 4):=by rw [hPd]; exact OD.2.ob 22
  have q3:h5.get? W = some (listO (intsV []) 0):=by rw [hWd]; exact OD.2.ob 31
  have q4:h5.get? I = some (rngO 0 15 1):=by rw [hId]; exact OD.2.ob 33
  have q5:h5.get? ln = some (instO 163 ld):=by rw [hnd,hdd]; exact OD.2.ob 20
  have q6:h5.get? ld = some (lexD w (T0 + 32) (T0 + 34) (T0 + 37) (T0 + 39) 1 (T0 + 30) (.ref (h.objs.size + 5)) (T0 + 35) P):=by rw [hdd,hPd]; exact OD.2.ob 19
  have q0:h5.get? 176 = some (tabO []):=OD.2.ob 1
  have q9:h5.get? 169 = some (tabO (trip 156 4 (h.objs.size + 15))):=OD.2.ob 0
  have qc:IsCode h5 q_piece (h.objs.size + 15):=isCode_of OD.2 17 (by kernel_rfl) rfl
  rw [← hLd,← hPd] at pP
  rw [← hPd,← hWd] at pW
  rw [← hWd,← hId] at pI
  rw [← hLd] at pL
  rw [← hnd,← hPd,← hLd] at pn
  rw [← hdd,← hPd,← hLd] at pd
  rw [← hLd,← hId]
  have gL:219 ≤ L:=Nat.le_trans hN pL
  have gP:219 ≤ P:=Nat.le_trans gL (Nat.le_of_lt pP)
  have gW:219 ≤ W:=Nat.le_trans gP (Nat.le_of_lt pW)
  have gI:219 ≤ I:=Nat.le_trans gW (Nat.le_of_lt pI)
  have lLW:L < W:=Nat.lt_trans pP pW
  have hap:Apart (preR L P W I):=⟨⟨nlt (low_lt gL),nlt (low_lt gP),nlt (low_lt gW),nlt (low_lt gI),trivial⟩,⟨nlt pP,nlt (Nat.lt_trans pP pW),nlt (Nat.lt_trans (Nat.lt_trans pP pW) pI),trivial⟩,⟨nlt pW,nlt (Nat.lt_trans pW pI),trivial⟩,⟨nlt pI,trivial⟩,trivial,trivial⟩
  have hfr:FreeL (preR L P W I):=⟨.inr (.inr (.inl rfl)),.inl gL,.inl gP,.inl gW,.inl gI,trivial⟩
  have nln:NotIn ln (preR L P W I):=⟨(nlt (low_lt (Nat.le_trans gL (Nat.le_of_lt pn.2)))).symm,(nlt pn.2).symm,nlt pn.1,nlt (Nat.lt_trans pn.1 pW),nlt (Nat.lt_trans (Nat.lt_trans pn.1 pW) pI),trivial⟩
  have nld:NotIn ld (preR L P W I):=⟨(nlt (low_lt (Nat.le_trans gL (Nat.le_of_lt pd.2)))).symm,(nlt pd.2).symm,nlt pd.1,nlt (Nat.lt_trans pd.1 pW),nlt (Nat.lt_trans (Nat.lt_trans pd.1 pW) pI),trivial⟩
  refine reg_all F (dk hA) (aH hh) hap hfr nln nld gI OD.2.tp ⟨q0,q1,q2,q3,q4,trivial⟩ q5 q6 fun h6 tk6 ps6 pe6 k6 s6 hL6 hW6 hv6 h176=>?_
  have kb5:=OD.2.kept
  have sz5:h.objs.size ≤ h5.objs.size:=size_le OD.1 OD.2
  have t6:TopOk w h6:=TopOk.keepsBut OD.2.tp k6 hfr
  obtain ⟨o6,hL6⟩:=hL6
  rw [hLd] at hL6
  have OD2:=startA (b1:=b1) (b2:=b2) (T0:=tk6) [] [h.objs.size + 0] [_] 1 rfl rfl (by kernel_rfl) t6 trivial ⟨hL6,trivial⟩ ⟨.inl (hLd ▸ gL),trivial⟩ ⟨trivial,trivial⟩ trivial
  refine go F 3 1 0 [1000] (i:=0) OD2 hA hh fun h7=>?_
  intro o_h7 OD2
  refine Mn.en (.ret (.ref W)) ?_
  have k7:KeepsBut [h.objs.size + 0] h6 h7:=OD2.2.kept
  rw [← hLd] at k7
  have s7:h6.objs.size ≤ h7.objs.size:=size_le OD2.1 OD2.2
  have nL:∀ {a},a < L → a ∉ preR L P W I → a ∉ [L]:=fun x _ hm=>by rw [List.mem_singleton.mp hm] at x; exact Nat.lt_irrefl _ x
  have n9:169 ∉ preR L P W I:=NotIn.mem ⟨by decide,nlt (low_lt gL),nlt (low_lt gP),nlt (low_lt gW),nlt (low_lt gI),trivial⟩
  have nc:NotIn (h.objs.size + 15) (preR L P W I):=by
    obtain ⟨v0,tc,r,qc⟩:=qc
    exact ⟨ne_cls qc q0 (fun x=>nomatch x),ne_cls qc q1 (ty_ne (by decide)),ne_cls qc q2 (ty_ne (by decide)),ne_cls qc q3 (ty_ne (by decide)),ne_cls qc q4 (ty_ne (by decide)),trivial⟩
  refine K h7 _ W ps6 pe6 (h.objs.size + 15) (fun b o eb hm=>?_) (Nat.le_trans pL (Nat.le_of_lt lLW)) (Nat.le_trans sz5 (Nat.le_trans s6 s7)) (k7 _ _ hW6 (fun hm=>(nlt lLW) (List.mem_singleton.mp hm).symm)) hv6 (k7 _ _ (k6 _ _ q9 n9) (nL (low_lt gL) n9)) ((qc.keep k6 nc.mem).keep k7 (fun hm=>nc.2.1 (List.mem_singleton.mp hm))) (Nat.le_add_right_of_le hN) (h176.imp fun l e=>k7 _ _ e (fun hm=>(nlt (low_lt gL)) (List.mem_singleton.mp hm)))
  have lbL:=Nat.lt_of_lt_of_le (ltN eb) pL
  have nb:b ∉ preR L P W I:=NotIn.mem ⟨fun x=>hm (by rw [x]; exact .tail _ (.head _)),nlt lbL,nlt (Nat.lt_trans lbL pP),nlt (Nat.lt_trans lbL lLW),nlt (Nat.lt_trans (Nat.lt_trans lbL lLW) pI),trivial⟩
  exact k7 _ _ (k6 _ _ (kb5 _ _ eb hm) nb) (nL lbL nb)
end
end Mine
namespace Mine
open PySem PySem.W PySem.W.X PyProof.Rows
noncomputable def signs:List Nat:=[10,32,34,92,48,49,50,51,52,53,54,55,56,57,65,66,67,68,69,70]
noncomputable def S1 (c:Nat):Str:=⟨#[c]⟩
noncomputable def S0:Str:=⟨#[]⟩
noncomputable def seqO (gs:Array Value) (e:Nat):Obj:={ cls:=.type "list",data:=.seq gs e }
noncomputable def sliceO (a:Int) (ta:Nat) (b:Int) (tb:Nat):Obj:={ cls:=.type "slice",data:=.fields #[.int a ta,.int b tb,.none] }
section
variable {w:World} {A:Around} {R:Result → Shared → Prop} {s:Shared}
theorem c_slice1 {x:Str} {t:Nat} {sl:Addr} {k c:Nat} {ta tb:Nat} (ho:s.heap.get? sl = some (sliceO (k:Int) ta ((k:Int) + 1) tb)) (hx:2 ≤ x.length) (hc:x.cps[k]? = some c)
    (h:R (.ok (.ret (.str (S1 c) s.toks))) { s with toks:=s.toks + 1 }):codeAny (model prog w) A (.call (.builtin "str.__getitem__") ⟨[.str x t,.ref sl],[]⟩) R s:=by
  have hk:k < x.length:=(Array.getElem?_eq_some_iff.mp hc).1
  have hp:slicePicked x (some ((k:Int),ta)) (some ((k:Int) + 1,tb)) none = [k]:=by
    show Builtin.Str.strSliceIndices (some (k:Int)) (some ((k:Int) + 1)) 1 x.length = _
    have:=StrLaws.strSliceIndices_plain (a:=k) (b:=k + 1) (len:=x.length) (by lia) (by lia)
    rw [show ((k + 1:Nat):Int) = (k:Int) + 1 by lia] at this
    rw [this,show k + 1 - k = 1 by lia]
    rfl
  refine code_meets F.slot_str_getitem rfl F.entry_str_getitem (F.args_str_getitem_2 _ _) (meets_str_getitem_slice x t sl (some ((k:Int),ta)) (some ((k:Int) + 1,tb)) none rfl) ⟨⟨_,ho,rfl,rfl⟩,?_⟩
  unfold sliceMade
  rw [hp]
  have h1:([k].length == x.length) = false:=by simp; lia
  rw [h1,Bool.and_false,if_neg (by decide)]
  simp only [List.filterMap_cons,hc,List.filterMap_nil]
  exact ⟨by show 1 ≤ sizeLine; rw [PySem.sizeLine_eq]; decide,h⟩
theorem c_slice0 {x:Str} {t:Nat} {sl:Addr} {k:Nat} {ta tb:Nat} (ho:s.heap.get? sl = some (sliceO (k:Int) ta ((k:Int) + 1) tb)) (hx:2 ≤ x.length) (hc:x.length ≤ k)
    (h:R (.ok (.ret (.str S0 s.toks))) { s with toks:=s.toks + 1 }):codeAny (model prog w) A (.call (.builtin "str.__getitem__") ⟨[.str x t,.ref sl],[]⟩) R s:=by
  have hp:slicePicked x (some ((k:Int),ta)) (some ((k:Int) + 1,tb)) none = []:=by
    show Builtin.Str.strSliceIndices (some (k:Int)) (some ((k:Int) + 1)) 1 x.length = _
    have h1:¬ ((k:Int) < 0):=by lia
    have h2:¬ ((k:Int) + 1 < 0):=by lia
    have e1:max (0:Int) (min (k:Int) (x.length:Int)) = x.length:=by lia
    have e2:max (0:Int) (min ((k:Int) + 1) (x.length:Int)) = x.length:=by lia
    simp [Builtin.Str.strSliceIndices,sliceRange,h1,h2,e1,e2]
  refine code_meets F.slot_str_getitem rfl F.entry_str_getitem (F.args_str_getitem_2 _ _) (meets_str_getitem_slice x t sl (some ((k:Int),ta)) (some ((k:Int) + 1,tb)) none rfl) ⟨⟨_,ho,rfl,rfl⟩,?_⟩
  unfold sliceMade
  rw [hp]
  have h1:(([]:List Nat).length == x.length) = false:=by simp; lia
  rw [h1,Bool.and_false,if_neg (by decide)]
  exact ⟨Nat.zero_le _,h⟩
end
theorem shiftW {prog:Program} {w:World} {A:Around} {I:Addr} {fp wr:List Addr} {G:Array GenState → Array GenState → Prop} {n:Nat} {P:Nat → Value → Prop} {St:Nat → Shared → Prop} (W:WalksS prog w A I fp wr G n P St) (m:Nat) :
    WalksS prog w A I fp wr G (m + n) (fun _ _=>True) (fun i s=>∃ j,i = m + j ∧ j ≤ n ∧ St j s) where
  sub:=W.sub
  grefl:=W.grefl
  gtrans:=W.gtrans
  frame:=fun i s h' tk st ht hf=>by
    obtain ⟨j,e,l,st⟩:=st
    exact ⟨j,e,l,W.frame j s h' tk st ht hf⟩
  item:=fun i s Q E hi st hQ=>by
    obtain ⟨j,e,l,st⟩:=st
    exact W.item j s Q E (by lia) st fun v s' _ st' hm=>hQ v s' trivial ⟨j + 1,by lia,by lia,st'⟩ hm
  done:=fun s Q E st hQ=>by
    obtain ⟨j,e,l,st⟩:=st
    have:j = n:=by lia
    subst this
    exact W.done s Q E st hQ
  self:=fun i s Q E st hQ=>by
    obtain ⟨j,e,l,st⟩:=st
    exact W.self j s Q E st hQ
section
variable {w:World} {A:Around} {R:Result → Shared → Prop} {s:Shared}
theorem c_ext {gn:Addr} {gs:Array Value} {e t:Nat} {x:Str} (hh:A.handled = none) (hg:s.heap.get? gn = some (seqO gs e)) (hz:gs.size + x.cps.size ≤ 5000)
    (K:∀ h' tk' gs' e',KeepsBut [gn] s.heap h' → h'.get? gn = some (seqO gs' e') → gs'.size = gs.size + x.cps.size → R (.ok (.ret .none)) { s with heap:=h',toks:=tk' }) :
    codeAny (model prog w) A (.call (.builtin "list.extend") ⟨[.ref gn,.str x t],[]⟩) R s:=by
  refine codeAny_call_builtin F.slot_list_extend.plain F.entry_list_extend (F.slot_list_extend.check _ _ _ _ _ _ _ _ (isList_of (vs:=gs.toList) (e:=e) (by rw [hg]; simp [seqO,listO])).typeIs (F.args_list_extend_2 _ _) ?_)
  show wpAny _ _ (Builtin.List.listExtendWith (.ref gn) (.str x t) .none) _ _ s
  have hSf:gn ∉ [s.heap.objs.size]:=fun hm=>absurd (Heap.lt_size hg) (by rw [List.mem_singleton.mp hm]; exact Nat.lt_irrefl _)
  have hsl:gs.size + x.cps.size ≤ sizeLine:=by rw [PySem.sizeLine_eq]; lia
  unfold Builtin.List.listExtendWith
  refine wpAny_bind (wpAny_typeOf (T:="str") (v:=.str x t) rfl ?_)
  have h1:Builtin.List.listSameRef (.ref gn) (.str x t) = false:=rfl
  have h2:(Value.type "str" == Value.type "list") = false:=by decide
  have h3:(Value.type "str" == Value.type "tuple") = false:=by decide
  simp only [h1,h2,h3,Bool.or_false,Bool.false_eq_true,if_false]
  refine wpAny_bind (wpAny_pyIter_str fun o St W hst=>?_)
  refine wpAny_bind (wpAny_holding ?_)
  unfold Builtin.List.listLengthHint
  refine wpAny_bind (wpAny_specialOf (T:="str") (v:=.str x t) rfl F.str_len ?_)
  wp_delta
  refine wpAny_bind (wpAny_isInstance (T:="str") (v:=.str x t) (b:=true) rfl (by rw [isSubtype_type]; kernel_rfl) ?_)
  show wpAny _ _ (typeOf (Value.str x t) >>= _) _ _ _
  refine wpAny_bind (wpAny_typeOf (T:="str") (v:=.str x t) rfl ?_)
  refine wpAny_pure ?_
  rw [if_neg (by decide)]
  refine wpAny_pure ⟨plainId_quiet F.plain_extend_loop _,codeAny_extend_loopS (shiftW (W A.in1 hh).toS gs.size) hsl _ hSf _ x.cps.size gs.size _ gs e (by omega) (by lia) ⟨0,rfl,Nat.zero_le _,hst⟩ (Heap.get?_push_of_some _ hg) ⟨rfl,fun _ _ _=>trivial⟩ fun s' acc' c' hm hS' hacc=>?_⟩
  rw [Moved.eq_with hm]
  refine K s'.heap s'.toks acc' c' (fun b ob eb hb=>hm.heap b ob (fun hmem=>?_) (Heap.get?_push_of_some _ eb)) hS' hacc.1
  rcases List.mem_cons.mp hmem with e' | hmem
  · exact hb (by rw [e']; exact .head _)
  · exact absurd (Heap.lt_size eb) (by rw [List.mem_singleton.mp hmem]; exact Nat.lt_irrefl _)
end
end Mine
set_option genInjectivity false
set_option genSizeOf false
namespace Mine
open PySem PySem.W PySem.W.X PyProof.Rows
noncomputable def pieceFd (w:World) (clo:List (Str × Addr)) (code ct:Value):FuncData:=match stAt w 174 2 with
  | .FunctionDef nm as b _ _ _ sc _ _ _=>{ name:=nm,qualname:=q_piece,params:=as,body:=.stmts b,scope:=sc,globals:=(fdAt w 174).globals,closure:=clo,defaults:=.none,kwdefaults:=.none,pyModule:=(fdAt w 174).pyModule,code:=code,closureTuple:=ct,builtins:=(fdAt w 174).builtins }
  | _=>default
structure LX where
  lx:Addr
  lxd:Addr
  sm:Addr
  smd:Addr
  pc:Addr
  c9:Addr
  ct:Addr
  cg:Addr
  gn:Addr
  pb:Addr
  pb0:Addr
  x:Str
  tx:Nat
  cup:Value
  a0:Nat
  a1:Nat
  a2:Nat
  a3:Nat
  tw:Nat
  s0:Nat
  s1:Nat
  s2:Nat
  s3:Nat
  s4:Nat
  s5:Nat
  s6:Nat
  pe:Nat
noncomputable def smD (w:World) (L:LX):Obj:=locO w [(n_lineno,L.s0,.int 1 L.s1),(n_instream,L.s2,.none),(n_whitespace,L.s3,.str ⟨#[10,9,13,32]⟩ L.s4),(n_pushback,L.s5,.ref L.pb0),(n_read,L.s6,.ref L.pc)] 5
noncomputable def lxD (w:World) (L:LX) (lno:Int) (tl:Nat):Obj:=lexD w L.a0 L.a1 L.a2 L.a3 lno tl (.ref L.sm) L.tw L.pb
noncomputable def LX.still (L:LX) (w:World) (v0:Value) (tc:Nat) (r:List Value):List (Addr × Obj) :=
  [(L.lx,instO 163 L.lxd),(L.sm,instO 163 L.smd),(L.smd,smD w L),(L.pc,fnO (pieceFd w [(n_text,L.ct),(n_gone,L.cg)] (.ref L.c9) L.cup)),(L.c9,codeO q_piece v0 tc r),(L.ct,cellO (some (.str L.x L.tx))),(L.cg,cellO (some (.ref L.gn)))]
noncomputable def LX.addrs (L:LX):List Addr:=[L.lx,L.sm,L.smd,L.pc,L.c9,L.ct,L.cg]
noncomputable def AllNot (l:List Addr):List Addr → Prop
  | []=>True
  | a :: r=>NotIn a l ∧ AllNot l r
structure LX.Good (L:LX):Prop where
  fr:FreeL [L.lxd,L.gn,L.pb]
  ap:Apart [L.lxd,L.gn,L.pb]
  ou:AllNot [L.lxd,L.gn,L.pb] L.addrs
  ln:2 ≤ L.x.length ∧ L.x.length ≤ 500
  fg:219 ≤ L.gn
structure LexSt (w:World) (L:LX) (h:Heap) (k:Nat) (lno:Int):Prop where
  gone:∃ gs e,h.get? L.gn = some (seqO gs e) ∧ gs.size = k
  lines:∃ tl,h.get? L.lxd = some (lxD w L lno tl)
  pb:h.get? L.pb = some (listO [] L.pe)
  still:∃ v0 tc r,At h (L.still w v0 tc r)
theorem LexSt.keep {w:World} {L:LX} {h h':Heap} {k:Nat} {lno:Int} (S:LexSt w L h k lno) {md:List Addr} (kb:KeepsBut md h h') (n1:L.gn ∉ md) (n2:L.lxd ∉ md) (n3:L.pb ∉ md) (n4:∀ a ∈ L.addrs,a ∉ md):LexSt w L h' k lno:=by
  obtain ⟨gs,e,g1,g2⟩:=S.gone
  obtain ⟨tl,l1⟩:=S.lines
  obtain ⟨v0,tc,r,s0,s1,s2,s3,s4,s5,s6,_⟩:=S.still
  have m:∀ a,a ∈ L.addrs → a ∉ md:=n4
  refine ⟨⟨gs,e,kb _ _ g1 n1,g2⟩,⟨tl,kb _ _ l1 n2⟩,kb _ _ S.pb n3,⟨v0,tc,r,kb _ _ s0 (m _ ?_),kb _ _ s1 (m _ ?_),kb _ _ s2 (m _ ?_),kb _ _ s3 (m _ ?_),kb _ _ s4 (m _ ?_),kb _ _ s5 (m _ ?_),kb _ _ s6 (m _ ?_),trivial⟩⟩ <;> simp [LX.addrs]
theorem LexSt.keeps {w:World} {L:LX} {h h':Heap} {k:Nat} {lno:Int} (S:LexSt w L h k lno) (kb:Keeps h h'):LexSt w L h' k lno:=S.keep (md:=[]) kb.but (fun x=>nomatch x) (fun x=>nomatch x) (fun x=>nomatch x) (fun _ _ x=>nomatch x)
noncomputable def methO (f lx:Addr):Obj:={ cls:=.type "method",data:=.fields #[.ref f,.ref lx] }
theorem not2 {a:Addr} {L:LX} (n:NotIn a [L.lxd,L.gn,L.pb]):NotIn a [L.lxd,L.gn]:=⟨n.1,n.2.1,trivial⟩
section
variable {w:World} {b1 b2:Bool} {A:Around} {R:Result → Shared → Prop} {h:Heap} {g:Array GenState} {d:Drawn} {T0:Nat} {os:OsState} {L:LX} {k c:Nat} {lno:Int} {bm:Addr}
theorem read_bm (F:Follows w b1 b2) (hA:Lo A 500) (hh:A.handled = none) (top:TopOk w h) (G:L.Good) (S:LexSt w L h k lno) (hbm:h.get? bm = some (methO 146 L.lx)) (nbm:NotIn bm [L.lxd,L.gn,L.pb]) (hc:L.x.cps[k]? = some c) (h10:c ≠ 10)
    (K:∀ h' tk' tc,KeepsBut [L.lxd,L.gn] h h' → h.objs.size ≤ h'.objs.size → LexSt w L h' (k + 1) lno → R (.ok (.ret (.str (S1 c) tc))) ⟨h',g,d,tk',os⟩) :
    codeAny (model prog w) A (.call (.ref bm) ⟨[],[]⟩) R ⟨h,g,d,T0,os⟩:=by
  obtain ⟨gs,e,hg,hgk⟩:=S.gone
  obtain ⟨tl,hl⟩:=S.lines
  obtain ⟨v0,tc,r,hst⟩:=S.still
  subst hgk
  obtain ⟨o0,o1,o2,o3,o4,o5,o6,_⟩:=G.ou
  refine Mn.enter hA ?_
  have hkl:gs.size < L.x.length:=(Array.getElem?_eq_some_iff.mp hc).1
  have hz:gs.size ≤ 1000:=by have:=G.ln.2; lia
  have OD:=startA (b1:=b1) (b2:=b2) (T0:=T0) (L.still w v0 tc r ++ [(bm,methO 146 L.lx)]) [L.lxd,L.gn] [lxD w L lno tl,seqO gs e] 2 rfl rfl (by kernel_rfl) top ⟨hst.1,hst.2.1,hst.2.2.1,hst.2.2.2.1,hst.2.2.2.2.1,hst.2.2.2.2.2.1,hst.2.2.2.2.2.2.1,hbm,trivial⟩ ⟨hl,hg,trivial⟩ ⟨G.fr.1,G.fr.2.1,trivial⟩ ⟨⟨G.ap.1.1,trivial⟩,trivial,trivial⟩ ⟨not2 o0,not2 o1,not2 o2,not2 o3,not2 o4,not2 o5,not2 o6,not2 nbm,trivial⟩
  refine go F 84 4 5 [2007,146,145,1002,1002,2,1002,2000,163,163,162,2000,163,163,162,2000,2000,163,1000,2001,163,163,162,2001,163,163,162,2001,163,163,162,2001,163,163,162,2001,163,163,162,2001,2001,163,2002,2003,2003,2004,1003,1003,2,2005,3,0,2006] (i:=0) OD hA hh fun h1=>?_
  intro o_h1 OD
  refine Mn.stopV (.builtin "len") [.ref L.gn] (by kernel_rfl) ?_
  refine Calls.call_len_list ⟨_,(OD.2.ob 1 (o:=(seqO gs e)) (ea:=rfl)),rfl,e,rfl⟩ (Int.lt_of_le_of_lt (Int.ofNat_le.mpr hz) (by decide)) ?_
  refine go F 7 4 7 [3,0,2006] (i:=7) OD hA hh fun h2=>?_
  intro o_h2 OD
  refine Mn.stopV (.builtin "len") [.ref L.gn] (by kernel_rfl) ?_
  refine Calls.call_len_list ⟨_,(OD.2.ob 1 (o:=(seqO gs e)) (ea:=rfl)),rfl,e,rfl⟩ (Int.lt_of_le_of_lt (Int.ofNat_le.mpr hz) (by decide)) ?_
  refine go F 10 5 10 [1003] (i:=9) OD hA hh fun h3=>?_
  intro o_h3 OD
  refine Mn.st (.call (.builtin "str.__getitem__") ⟨[.str L.x L.tx,.ref (h.objs.size + 2)],[]⟩) ?_
  refine c_slice1 (k:=gs.size) (OD.2.ob 4 (o:=(sliceO (gs.size:Int) (T0 + 6) ((gs.size:Int) + 1) (T0 + 9))) (ea:=rfl)) G.ln.1 hc ?_
  refine go F 19 5 12 [1003,1003,2006,1001,1001,1001,1001,1003] (i:=11) OD hA hh fun h4=>?_
  intro o_h4 OD
  refine Mn.st (.call (.builtin "list.extend") ⟨[.ref L.gn,.str (S1 c) (T0 + 10)],[]⟩) ?_
  have zz:h4.objs.size = h.objs.size + 3:=OD.2.size
  have zg:=ltN hg
  refine c_ext (aH hh) (OD.2.ob 1 (o:=(seqO gs e)) (ea:=rfl)) (show gs.size + (S1 c).cps.size ≤ 5000 by simp only [S1,S0,List.size_toArray,List.length_cons,List.length_nil]; lia) fun j1 tk1 gs2 e2 kj hj hz2=>?_
  have zl:=ltN (kj _ _ (OD.2.ob 4 (o:=(sliceO (gs.size:Int) (T0 + 6) ((gs.size:Int) + 1) (T0 + 9))) (ea:=rfl)) (fun hm=>absurd (List.mem_singleton.mp hm) (nlt (Nat.lt_of_lt_of_le zg (Nat.le_add_right _ _))).symm))
  replace zl:h4.objs.size ≤ j1.objs.size:=by rw [zz]; exact zl
  replace OD:=cre1 tk1 1 L.gn OD (by kernel_rfl:_ = some (seqO gs e)) rfl kj zl hj
  refine goP F 25 5 2 [1003,1002,1002,1002,7000,7200,1002] [(((S1 c)).cps.toList == ((⟨#[10]⟩:Str)).cps.toList) = false] (i:=0) OD hA hh ⟨(by simpa [S1] using h10),trivial⟩ fun h5=>?_
  intro o_h5 OD
  refine Mn.en (.ret (.str (S1 c) (T0 + 10))) ?_
  have kb:=OD.2.kept
  refine K _ _ _ kb (size_le OD.1 OD.2) ⟨⟨gs2,e2,OD.2.ob 1,hz2⟩,⟨tl,(OD.2.ob 0 (o:=(lxD w L lno tl)) (ea:=rfl))⟩,kb _ _ S.pb (NotIn.mem ⟨fun x=>G.ap.1.2.1 x.symm,fun x=>G.ap.2.1.1 x.symm,trivial⟩),⟨v0,tc,r,kb _ _ hst.1 (not2 o0).mem,kb _ _ hst.2.1 (not2 o1).mem,kb _ _ hst.2.2.1 (not2 o2).mem,kb _ _ hst.2.2.2.1 (not2 o3).mem,kb _ _ hst.2.2.2.2.1 (not2 o4).mem,kb _ _ hst.2.2.2.2.2.1 (not2 o5).mem,kb _ _ hst.2.2.2.2.2.2.1 (not2 o6).mem,trivial⟩⟩
theorem read_bm_nl (F:Follows w b1 b2) (hA:Lo A 500) (hh:A.handled = none) (top:TopOk w h) (G:L.Good) (S:LexSt w L h k lno) (hbm:h.get? bm = some (methO 146 L.lx)) (nbm:NotIn bm [L.lxd,L.gn,L.pb]) (hc:L.x.cps[k]? = some 10)
    (K:∀ h' tk' tc,KeepsBut [L.lxd,L.gn] h h' → h.objs.size ≤ h'.objs.size → LexSt w L h' (k + 1) (lno + 1) → R (.ok (.ret (.str (S1 10) tc))) ⟨h',g,d,tk',os⟩) :
    codeAny (model prog w) A (.call (.ref bm) ⟨[],[]⟩) R ⟨h,g,d,T0,os⟩:=by
  obtain ⟨gs,e,hg,hgk⟩:=S.gone
  obtain ⟨tl,hl⟩:=S.lines
  obtain ⟨v0,tc,r,hst⟩:=S.still
  subst hgk
  obtain ⟨o0,o1,o2,o3,o4,o5,o6,_⟩:=G.ou
  refine Mn.enter hA ?_
  have hkl:gs.size < L.x.length:=(Array.getElem?_eq_some_iff.mp hc).1
  have hz:gs.size ≤ 1000:=by have:=G.ln.2; lia
  have OD:=startA (b1:=b1) (b2:=b2) (T0:=T0) (L.still w v0 tc r ++ [(bm,methO 146 L.lx)]) [L.lxd,L.gn] [lxD w L lno tl,seqO gs e] 2 rfl rfl (by kernel_rfl) top ⟨hst.1,hst.2.1,hst.2.2.1,hst.2.2.2.1,hst.2.2.2.2.1,hst.2.2.2.2.2.1,hst.2.2.2.2.2.2.1,hbm,trivial⟩ ⟨hl,hg,trivial⟩ ⟨G.fr.1,G.fr.2.1,trivial⟩ ⟨⟨G.ap.1.1,trivial⟩,trivial,trivial⟩ ⟨not2 o0,not2 o1,not2 o2,not2 o3,not2 o4,not2 o5,not2 o6,not2 nbm,trivial⟩
  refine go F 84 4 5 [2007,146,145,1002,1002,2,1002,2000,163,163,162,2000,163,163,162,2000,2000,163,1000,2001,163,163,162,2001,163,163,162,2001,163,163,162,2001,163,163,162,2001,163,163,162,2001,2001,163,2002,2003,2003,2004,1003,1003,2,2005,3,0,2006] (i:=0) OD hA hh fun h1=>?_
  intro o_h1 OD
  refine Mn.stopV (.builtin "len") [.ref L.gn] (by kernel_rfl) ?_
  refine Calls.call_len_list ⟨_,(OD.2.ob 1 (o:=(seqO gs e)) (ea:=rfl)),rfl,e,rfl⟩ (Int.lt_of_le_of_lt (Int.ofNat_le.mpr hz) (by decide)) ?_
  refine go F 7 4 7 [3,0,2006] (i:=7) OD hA hh fun h2=>?_
  intro o_h2 OD
  refine Mn.stopV (.builtin "len") [.ref L.gn] (by kernel_rfl) ?_
  refine Calls.call_len_list ⟨_,(OD.2.ob 1 (o:=(seqO gs e)) (ea:=rfl)),rfl,e,rfl⟩ (Int.lt_of_le_of_lt (Int.ofNat_le.mpr hz) (by decide)) ?_
  refine go F 10 5 10 [1003] (i:=9) OD hA hh fun h3=>?_
  intro o_h3 OD
  refine Mn.st (.call (.builtin "str.__getitem__") ⟨[.str L.x L.tx,.ref (h.objs.size + 2)],[]⟩) ?_
  refine c_slice1 (k:=gs.size) (OD.2.ob 4 (o:=(sliceO (gs.size:Int) (T0 + 6) ((gs.size:Int) + 1) (T0 + 9))) (ea:=rfl)) G.ln.1 hc ?_
  refine go F 19 5 12 [1003,1003,2006,1001,1001,1001,1001,1003] (i:=11) OD hA hh fun h4=>?_
  intro o_h4 OD
  refine Mn.st (.call (.builtin "list.extend") ⟨[.ref L.gn,.str (S1 10) (T0 + 10)],[]⟩) ?_
  have zz:h4.objs.size = h.objs.size + 3:=OD.2.size
  have zg:=ltN hg
  refine c_ext (aH hh) (OD.2.ob 1 (o:=(seqO gs e)) (ea:=rfl)) (show gs.size + (S1 10).cps.size ≤ 5000 by simp only [S1,S0,List.size_toArray,List.length_cons,List.length_nil]; lia) fun j1 tk1 gs2 e2 kj hj hz2=>?_
  have zl:=ltN (kj _ _ (OD.2.ob 4 (o:=(sliceO (gs.size:Int) (T0 + 6) ((gs.size:Int) + 1) (T0 + 9))) (ea:=rfl)) (fun hm=>absurd (List.mem_singleton.mp hm) (nlt (Nat.lt_of_lt_of_le zg (Nat.le_add_right _ _))).symm))
  replace zl:h4.objs.size ≤ j1.objs.size:=by rw [zz]; exact zl
  replace OD:=cre1 tk1 1 L.gn OD (by kernel_rfl:_ = some (seqO gs e)) rfl kj zl hj
  refine goP F 75 5 7 [1003,1002,1002,1002,7000,7201,1002,2000,163,163,162,2000,163,163,162,2000,2000,163,1000,2000,163,163,162,2000,163,2000,163,2000,163,163,162,2000,163,1000,1000,1000,1002] [(((S1 10)).cps.toList == ((⟨#[10]⟩:Str)).cps.toList) = true] (i:=0) OD hA hh ⟨rfl,trivial⟩ fun h5=>?_
  intro o_h5 OD
  refine Mn.en (.ret (.str (S1 10) (T0 + 10))) ?_
  have kb:=OD.2.kept
  refine K _ _ _ kb (size_le OD.1 OD.2) ⟨⟨gs2,e2,OD.2.ob 1,hz2⟩,⟨(tk1 + 4),(OD.2.ob 0 (o:=(lxD w L (lno + 1) (tk1 + 4))) (ea:=rfl))⟩,kb _ _ S.pb (NotIn.mem ⟨fun x=>G.ap.1.2.1 x.symm,fun x=>G.ap.2.1.1 x.symm,trivial⟩),⟨v0,tc,r,kb _ _ hst.1 (not2 o0).mem,kb _ _ hst.2.1 (not2 o1).mem,kb _ _ hst.2.2.1 (not2 o2).mem,kb _ _ hst.2.2.2.1 (not2 o3).mem,kb _ _ hst.2.2.2.2.1 (not2 o4).mem,kb _ _ hst.2.2.2.2.2.1 (not2 o5).mem,kb _ _ hst.2.2.2.2.2.2.1 (not2 o6).mem,trivial⟩⟩
theorem read_bm_eof (F:Follows w b1 b2) (hA:Lo A 500) (hh:A.handled = none) (top:TopOk w h) (G:L.Good) (S:LexSt w L h k lno) (hbm:h.get? bm = some (methO 146 L.lx)) (nbm:NotIn bm [L.lxd,L.gn,L.pb]) (hc:L.x.length ≤ k) (hk:k ≤ 600)
    (K:∀ h' tk' tc,KeepsBut [L.lxd,L.gn] h h' → h.objs.size ≤ h'.objs.size → LexSt w L h' k lno → R (.ok (.ret (.str S0 tc))) ⟨h',g,d,tk',os⟩) :
    codeAny (model prog w) A (.call (.ref bm) ⟨[],[]⟩) R ⟨h,g,d,T0,os⟩:=by
  obtain ⟨gs,e,hg,hgk⟩:=S.gone
  obtain ⟨tl,hl⟩:=S.lines
  obtain ⟨v0,tc,r,hst⟩:=S.still
  subst hgk
  obtain ⟨o0,o1,o2,o3,o4,o5,o6,_⟩:=G.ou
  refine Mn.enter hA ?_
  have hz:gs.size ≤ 1000:=by have:=G.ln.2; lia
  have OD:=startA (b1:=b1) (b2:=b2) (T0:=T0) (L.still w v0 tc r ++ [(bm,methO 146 L.lx)]) [L.lxd,L.gn] [lxD w L lno tl,seqO gs e] 2 rfl rfl (by kernel_rfl) top ⟨hst.1,hst.2.1,hst.2.2.1,hst.2.2.2.1,hst.2.2.2.2.1,hst.2.2.2.2.2.1,hst.2.2.2.2.2.2.1,hbm,trivial⟩ ⟨hl,hg,trivial⟩ ⟨G.fr.1,G.fr.2.1,trivial⟩ ⟨⟨G.ap.1.1,trivial⟩,trivial,trivial⟩ ⟨not2 o0,not2 o1,not2 o2,not2 o3,not2 o4,not2 o5,not2 o6,not2 nbm,trivial⟩
  refine go F 84 4 5 [2007,146,145,1002,1002,2,1002,2000,163,163,162,2000,163,163,162,2000,2000,163,1000,2001,163,163,162,2001,163,163,162,2001,163,163,162,2001,163,163,162,2001,163,163,162,2001,2001,163,2002,2003,2003,2004,1003,1003,2,2005,3,0,2006] (i:=0) OD hA hh fun h1=>?_
  intro o_h1 OD
  refine Mn.stopV (.builtin "len") [.ref L.gn] (by kernel_rfl) ?_
  refine Calls.call_len_list ⟨_,(OD.2.ob 1 (o:=(seqO gs e)) (ea:=rfl)),rfl,e,rfl⟩ (Int.lt_of_le_of_lt (Int.ofNat_le.mpr hz) (by decide)) ?_
  refine go F 7 4 7 [3,0,2006] (i:=7) OD hA hh fun h2=>?_
  intro o_h2 OD
  refine Mn.stopV (.builtin "len") [.ref L.gn] (by kernel_rfl) ?_
  refine Calls.call_len_list ⟨_,(OD.2.ob 1 (o:=(seqO gs e)) (ea:=rfl)),rfl,e,rfl⟩ (Int.lt_of_le_of_lt (Int.ofNat_le.mpr hz) (by decide)) ?_
  refine go F 10 5 10 [1003] (i:=9) OD hA hh fun h3=>?_
  intro o_h3 OD
  refine Mn.st (.call (.builtin "str.__getitem__") ⟨[.str L.x L.tx,.ref (h.objs.size + 2)],[]⟩) ?_
  refine c_slice0 (k:=gs.size) (OD.2.ob 4 (o:=(sliceO (gs.size:Int) (T0 + 6) ((gs.size:Int) + 1) (T0 + 9))) (ea:=rfl)) G.ln.1 hc ?_
  refine go F 19 5 12 [1003,1003,2006,1001,1001,1001,1001,1003] (i:=11) OD hA hh fun h4=>?_
  intro o_h4 OD
  refine Mn.st (.call (.builtin "list.extend") ⟨[.ref L.gn,.str S0 (T0 + 10)],[]⟩) ?_
  have zz:h4.objs.size = h.objs.size + 3:=OD.2.size
  have zg:=ltN hg
  refine c_ext (aH hh) (OD.2.ob 1 (o:=(seqO gs e)) (ea:=rfl)) (show gs.size + (S0).cps.size ≤ 5000 by simp only [S1,S0,List.size_toArray,List.length_cons,List.length_nil]; lia) fun j1 tk1 gs2 e2 kj hj hz2=>?_
  have zl:=ltN (kj _ _ (OD.2.ob 4 (o:=(sliceO (gs.size:Int) (T0 + 6) ((gs.size:Int) + 1) (T0 + 9))) (ea:=rfl)) (fun hm=>absurd (List.mem_singleton.mp hm) (nlt (Nat.lt_of_lt_of_le zg (Nat.le_add_right _ _))).symm))
  replace zl:h4.objs.size ≤ j1.objs.size:=by rw [zz]; exact zl
  replace OD:=cre1 tk1 1 L.gn OD (by kernel_rfl:_ = some (seqO gs e)) rfl kj zl hj
  refine goP F 25 5 2 [1003,1002,1002,1002,7000,7200,1002] [((S0).cps.toList == ((⟨#[10]⟩:Str)).cps.toList) = false] (i:=0) OD hA hh ⟨rfl,trivial⟩ fun h5=>?_
  intro o_h5 OD
  refine Mn.en (.ret (.str S0 (T0 + 10))) ?_
  have kb:=OD.2.kept
  refine K _ _ _ kb (size_le OD.1 OD.2) ⟨⟨gs2,e2,OD.2.ob 1,hz2⟩,⟨tl,(OD.2.ob 0 (o:=(lxD w L lno tl)) (ea:=rfl))⟩,kb _ _ S.pb (NotIn.mem ⟨fun x=>G.ap.1.2.1 x.symm,fun x=>G.ap.2.1.1 x.symm,trivial⟩),⟨v0,tc,r,kb _ _ hst.1 (not2 o0).mem,kb _ _ hst.2.1 (not2 o1).mem,kb _ _ hst.2.2.1 (not2 o2).mem,kb _ _ hst.2.2.2.1 (not2 o3).mem,kb _ _ hst.2.2.2.2.1 (not2 o4).mem,kb _ _ hst.2.2.2.2.2.1 (not2 o5).mem,kb _ _ hst.2.2.2.2.2.2.1 (not2 o6).mem,trivial⟩⟩
theorem read_di (F:Follows w b1 b2) (hA:Lo A 500) (hh:A.handled = none) (top:TopOk w h) (G:L.Good) (S:LexSt w L h k lno) (hc:L.x.cps[k]? = some c) (h10:c ≠ 10)
    (K:∀ h' tk' tc,KeepsBut [L.lxd,L.gn] h h' → h.objs.size ≤ h'.objs.size → LexSt w L h' (k + 1) lno → R (.ok (.ret (.str (S1 c) tc))) ⟨h',g,d,tk',os⟩) :
    codeAny (model prog w) A (.call (.ref 146) ⟨[.ref L.lx],[]⟩) R ⟨h,g,d,T0,os⟩:=by
  obtain ⟨gs,e,hg,hgk⟩:=S.gone
  obtain ⟨tl,hl⟩:=S.lines
  obtain ⟨v0,tc,r,hst⟩:=S.still
  subst hgk
  obtain ⟨o0,o1,o2,o3,o4,o5,o6,_⟩:=G.ou
  refine Mn.enter hA ?_
  have hkl:gs.size < L.x.length:=(Array.getElem?_eq_some_iff.mp hc).1
  have hz:gs.size ≤ 1000:=by have:=G.ln.2; lia
  have OD:=startA (b1:=b1) (b2:=b2) (T0:=T0) (L.still w v0 tc r) [L.lxd,L.gn] [lxD w L lno tl,seqO gs e] 2 rfl rfl (by kernel_rfl) top hst ⟨hl,hg,trivial⟩ ⟨G.fr.1,G.fr.2.1,trivial⟩ ⟨⟨G.ap.1.1,trivial⟩,trivial,trivial⟩ ⟨not2 o0,not2 o1,not2 o2,not2 o3,not2 o4,not2 o5,not2 o6,trivial⟩
  refine go F 82 4 5 [146,145,1002,1002,2,1002,2000,163,163,162,2000,163,163,162,2000,2000,163,1000,2001,163,163,162,2001,163,163,162,2001,163,163,162,2001,163,163,162,2001,163,163,162,2001,2001,163,2002,2003,2003,2004,1003,1003,2,2005,3,0,2006] (i:=0) OD hA hh fun h1=>?_
  intro o_h1 OD
  refine Mn.stopV (.builtin "len") [.ref L.gn] (by kernel_rfl) ?_
  refine Calls.call_len_list ⟨_,(OD.2.ob 1 (o:=(seqO gs e)) (ea:=rfl)),rfl,e,rfl⟩ (Int.lt_of_le_of_lt (Int.ofNat_le.mpr hz) (by decide)) ?_
  refine go F 7 4 7 [3,0,2006] (i:=7) OD hA hh fun h2=>?_
  intro o_h2 OD
  refine Mn.stopV (.builtin "len") [.ref L.gn] (by kernel_rfl) ?_
  refine Calls.call_len_list ⟨_,(OD.2.ob 1 (o:=(seqO gs e)) (ea:=rfl)),rfl,e,rfl⟩ (Int.lt_of_le_of_lt (Int.ofNat_le.mpr hz) (by decide)) ?_
  refine go F 10 5 10 [1003] (i:=9) OD hA hh fun h3=>?_
  intro o_h3 OD
  refine Mn.st (.call (.builtin "str.__getitem__") ⟨[.str L.x L.tx,.ref (h.objs.size + 2)],[]⟩) ?_
  refine c_slice1 (k:=gs.size) (OD.2.ob 4 (o:=(sliceO (gs.size:Int) (T0 + 6) ((gs.size:Int) + 1) (T0 + 9))) (ea:=rfl)) G.ln.1 hc ?_
  refine go F 19 5 12 [1003,1003,2006,1001,1001,1001,1001,1003] (i:=11) OD hA hh fun h4=>?_
  intro o_h4 OD
  refine Mn.st (.call (.builtin "list.extend") ⟨[.ref L.gn,.str (S1 c) (T0 + 10)],[]⟩) ?_
  have zz:h4.objs.size = h.objs.size + 3:=OD.2.size
  have zg:=ltN hg
  refine c_ext (aH hh) (OD.2.ob 1 (o:=(seqO gs e)) (ea:=rfl)) (show gs.size + (S1 c).cps.size ≤ 5000 by simp only [S1,S0,List.size_toArray,List.length_cons,List.length_nil]; lia) fun j1 tk1 gs2 e2 kj hj hz2=>?_
  have zl:=ltN (kj _ _ (OD.2.ob 4 (o:=(sliceO (gs.size:Int) (T0 + 6) ((gs.size:Int) + 1) (T0 + 9))) (ea:=rfl)) (fun hm=>absurd (List.mem_singleton.mp hm) (nlt (Nat.lt_of_lt_of_le zg (Nat.le_add_right _ _))).symm))
  replace zl:h4.objs.size ≤ j1.objs.size:=by rw [zz]; exact zl
  replace OD:=cre1 tk1 1 L.gn OD (by kernel_rfl:_ = some (seqO gs e)) rfl kj zl hj
  refine goP F 25 5 2 [1003,1002,1002,1002,7000,7200,1002] [(((S1 c)).cps.toList == ((⟨#[10]⟩:Str)).cps.toList) = false] (i:=0) OD hA hh ⟨(by simpa [S1] using h10),trivial⟩ fun h5=>?_
  intro o_h5 OD
  refine Mn.en (.ret (.str (S1 c) (T0 + 10))) ?_
  have kb:=OD.2.kept
  refine K _ _ _ kb (size_le OD.1 OD.2) ⟨⟨gs2,e2,OD.2.ob 1,hz2⟩,⟨tl,(OD.2.ob 0 (o:=(lxD w L lno tl)) (ea:=rfl))⟩,kb _ _ S.pb (NotIn.mem ⟨fun x=>G.ap.1.2.1 x.symm,fun x=>G.ap.2.1.1 x.symm,trivial⟩),⟨v0,tc,r,kb _ _ hst.1 (not2 o0).mem,kb _ _ hst.2.1 (not2 o1).mem,kb _ _ hst.2.2.1 (not2 o2).mem,kb _ _ hst.2.2.2.1 (not2 o3).mem,kb _ _ hst.2.2.2.2.1 (not2 o4).mem,kb _ _ hst.2.2.2.2.2.1 (not2 o5).mem,kb _ _ hst.2.2.2.2.2.2.1 (not2 o6).mem,trivial⟩⟩
end
end Mine
set_option genInjectivity false
set_option genSizeOf false
namespace Mine
open PySem PySem.W PySem.W.X PyProof.Rows
structure Led (w:World) (b1 b2:Bool) (h0:Heap) (md:List Addr) (ro:List (Addr × Obj)) (pre:List Addr) (p T0:Nat) (T:BT) (h:Heap):Prop where
  ok:Ok (cf w b1 b2 ro pre p h.objs.size T0) h pre ∧ Rep (cf w b1 b2 ro pre p h.objs.size T0) h pre h T p
  ge:∀ a ∈ pre,h0.objs.size ≤ a
  kb:KeepsBut md h0 h
  sz:h0.objs.size ≤ h.objs.size
section
variable {w:World} {b1 b2:Bool} {h0 h h1 h2:Heap} {md:List Addr} {ro:List (Addr × Obj)} {pre:List Addr} {p T0 m:Nat} {T T1:BT}
noncomputable def LowL (n:Nat):List (Addr × Obj) → Prop
  | []=>True
  | q :: r=>@LT.lt Nat instLTNat q.1 n ∧ LowL n r
theorem LowL.mem {n:Nat}:∀ {l:List (Addr × Obj)},LowL n l → ∀ q ∈ l,q.1 < n
  | [],_,_,hq=>nomatch hq
  | _ :: _,c,q,hq=>by
    rcases List.mem_cons.mp hq with rfl | hq
    · exact c.1
    · exact LowL.mem c.2 q hq
theorem At.low:∀ {l:List (Addr × Obj)},At h l → LowL h.objs.size l
  | [],_=>trivial
  | _ :: _,a=>⟨Heap.lt_size a.1,At.low a.2⟩
theorem Led.start (md:List Addr) (ro:List (Addr × Obj)) (tp:TopOk w h) (hro:At h ro):Led w b1 b2 h md ro [] 0 T0 .nil h :=
  { ok:=start0 (s:=⟨h,#[],{},T0,{}⟩) tp hro.mem,ge:=fun _ hm=>(nomatch hm),kb:=KeepsBut.refl _ _,sz:=Nat.le_refl _ }
theorem Led.mid (L:Led w b1 b2 h0 md ro pre p T0 T h) (OD:Ok (cf w b1 b2 ro pre p h.objs.size T0) h pre ∧ Rep (cf w b1 b2 ro pre p h.objs.size T0) h pre h1 T1 m):KeepsBut md h0 h1 ∧ h0.objs.size ≤ h1.objs.size ∧ TopOk w h1 ∧ KeepsBut pre h h1 :=
  ⟨fun b o e n=>OD.2.kept b o (L.kb b o e n) fun hm=>absurd (Heap.lt_size e) (Nat.not_lt.mpr (L.ge b hm)),Nat.le_trans L.sz (size_le OD.1 OD.2),fun a o e=>OD.2.top a o e,OD.2.kept⟩
theorem Led.out (L:Led w b1 b2 h0 md ro pre p T0 T h) {a:Addr} (ha:a < h0.objs.size):a ∉ pre:=fun hm=>absurd ha (Nat.not_lt.mpr (L.ge a hm))
theorem Led.next {t2:Nat} (ro':List (Addr × Obj)) (L:Led w b1 b2 h0 md ro pre p T0 T h) (OD:Ok (cf w b1 b2 ro pre p h.objs.size T0) h pre ∧ Rep (cf w b1 b2 ro pre p h.objs.size T0) h pre h1 T1 m)
    (k:KeepsBut md h1 h2) (s:h1.objs.size ≤ h2.objs.size) (hro:At h2 ro') (lro:LowL h0.objs.size ro') (hmd:∀ a ∈ md,a < h0.objs.size) (fmd:FreeL md) :
    Led w b1 b2 h0 md ro' (pre ++ upF h.objs.size (m - p)) m t2 T1 h2:=by
  have M:=L.mid OD
  have hle:p ≤ m:=OD.2.le
  have hs1:h1.objs.size = h.objs.size + (m - p):=OD.2.size
  have hpl:pre.length = p:=OD.1.len
  have ge':∀ a ∈ pre ++ upF h.objs.size (m - p),h0.objs.size ≤ a:=fun a ha=>by
    rcases List.mem_append.mp ha with x | x
    · exact L.ge a x
    · exact Nat.le_trans L.sz (mem_own OD.2 x).1
  have lt':∀ a ∈ pre ++ upF h.objs.size (m - p),a < h1.objs.size:=fun a ha=>by
    rcases List.mem_append.mp ha with x | x
    · exact Nat.lt_of_lt_of_le (OD.1.lt a x) (by rw [hs1]; exact Nat.le_add_right _ _)
    · exact (mem_own OD.2 x).2
  have nmd:∀ a,h0.objs.size ≤ a → a ∉ md:=fun a ha hm=>absurd (hmd a hm) (Nat.not_lt.mpr ha)
  have tp2:TopOk w h2:=M.2.2.1.keepsBut k fmd
  refine ⟨⟨⟨?_,?_,fun a ha=>Nat.lt_of_lt_of_le (lt' a ha) s,fun a ha=>.inl ha,Nat.le_refl _,fun a ha=>?_,fun a o e=>Heap.lt_size (tp2 a o e),fun q hq=>⟨fun hm=>?_,Heap.lt_size (hro.mem q hq)⟩⟩,
    ⟨by show _ = _ + (m - m); rw [Nat.sub_self]; rfl,Nat.le_refl _,fun j o e=>?_,tp2,hro.mem,fun _ _ e _=>e⟩⟩,ge',M.1.trans k,Nat.le_trans M.2.1 s⟩
  · show (pre ++ upF h.objs.size (m - p)).length = m
    simp only [List.length_append,upF,List.length_map,List.length_range]; lia
  · refine List.nodup_append.mpr ⟨OD.1.nd,?_,fun a ha b hb e=>?_⟩
    · unfold upF
      exact List.Pairwise.map _ (fun a b (hab:a ≠ b) e=>hab (Nat.add_left_cancel e)) List.nodup_range
    · subst e
      exact absurd (OD.1.lt a ha) (Nat.not_lt.mpr (mem_own OD.2 hb).1)
  · rcases List.mem_append.mp ha with x | x
    · exact OD.1.free a x
    · cases q:(kt w.params).get a with
      | none=>exact q
      | some o=>exact absurd (OD.1.low a o q) (Nat.not_lt.mpr (mem_own OD.2 x).1)
  · exact absurd (lro.mem q hq) (Nat.not_lt.mpr (ge' _ hm))
  · have z:=OD.2.own j o e
    refine ⟨z.1,?_⟩
    rw [Cf.addr_lo (C:=cf w b1 b2 ro' (pre ++ upF h.objs.size (m - p)) m h2.objs.size t2) z.1]
    have e2:=pre_own OD.1 OD.2 z.1 []
    rw [List.append_nil] at e2
    have ha:(cf w b1 b2 ro pre p h.objs.size T0).addr j ∈ pre ++ upF h.objs.size (m - p):=by
      rw [← e2]
      show (pre ++ upF h.objs.size (m - p)).getD j 0 ∈ _
      have:j < (pre ++ upF h.objs.size (m - p)).length:=by simp only [List.length_append,upF,List.length_map,List.length_range]; lia
      rw [List.getD_eq_getElem?_getD,List.getElem?_eq_getElem this]
      exact List.getElem_mem this
    show h2.get? ((pre ++ upF h.objs.size (m - p)).getD j 0) = some o
    rw [show (pre ++ upF h.objs.size (m - p)).getD j 0 = (cf w b1 b2 ro pre p h.objs.size T0).addr j from e2]
    exact k _ _ z.2 (nmd _ (ge' _ ha))
end
noncomputable def hexs:List Nat:=[48,49,50,51,52,53,54,55,56,57,65,66,67,68,69,70]
theorem ws_hex:∀ c ∈ hexs,(!(Builtin.Str.occurrences (⟨#[10,9,13,32]⟩:Str) (S1 c) 0 (⟨#[10,9,13,32]⟩:Str).length 1).isEmpty) = false:=by decide +kernel
theorem ws_34:(!(Builtin.Str.occurrences (⟨#[10,9,13,32]⟩:Str) (S1 34) 0 (⟨#[10,9,13,32]⟩:Str).length 1).isEmpty) = false:=by decide +kernel
theorem ws_92:(!(Builtin.Str.occurrences (⟨#[10,9,13,32]⟩:Str) (S1 92) 0 (⟨#[10,9,13,32]⟩:Str).length 1).isEmpty) = false:=by decide +kernel
theorem ws_sep:∀ c ∈ [32,10],(!(Builtin.Str.occurrences (⟨#[10,9,13,32]⟩:Str) (S1 c) 0 (⟨#[10,9,13,32]⟩:Str).length 1).isEmpty) = true:=by decide +kernel
theorem eq_hex:∀ c ∈ hexs,((S1 c).cps.toList == (⟨#[34]⟩:Str).cps.toList) = false ∧ ((S1 c).cps.toList == (⟨#[92]⟩:Str).cps.toList) = false ∧ ((S1 c).cps.toList == (⟨#[]⟩:Str).cps.toList) = false:=by decide +kernel
section
variable {w:World} {b1 b2:Bool} {A:Around} {R:Result → Shared → Prop} {h:Heap} {g:Array GenState} {d:Drawn} {T0:Nat} {os:OsState} {L:LX} {k c:Nat} {lno:Int} {bm:Addr}
noncomputable def lnoF (c:Nat):Int:=if c = 10 then 1 else 0
theorem read_b (F:Follows w b1 b2) (hA:Lo A 500) (hh:A.handled = none) (top:TopOk w h) (G:L.Good) (S:LexSt w L h k lno) (hbm:h.get? bm = some (methO 146 L.lx)) (nbm:NotIn bm [L.lxd,L.gn,L.pb]) (hc:L.x.cps[k]? = some c)
    (K:∀ h' tk' tc,KeepsBut [L.lxd,L.gn] h h' → h.objs.size ≤ h'.objs.size → LexSt w L h' (k + 1) (lno + lnoF c) → R (.ok (.ret (.str (S1 c) tc))) ⟨h',g,d,tk',os⟩) :
    codeAny (model prog w) A (.call (.ref bm) ⟨[],[]⟩) R ⟨h,g,d,T0,os⟩:=by
  by_cases h10:c = 10
  · subst h10
    exact read_bm_nl F hA hh top G S hbm nbm hc K
  · have e:lno + lnoF c = lno:=by unfold lnoF; rw [if_neg h10]; lia
    rw [e] at K
    exact read_bm F hA hh top G S hbm nbm hc h10 K
end
end Mine
namespace Mine
open PySem PySem.W PySem.W.X PyProof.Rows
noncomputable def citO (bm:Addr) (t:Nat):Obj:={ cls:=.type "callable_iterator",data:=.fields #[.ref bm,.str S0 t,.bool false] }
noncomputable def citE:Obj:={ cls:=.type "callable_iterator",data:=.fields #[.none,.none,.bool true] }
theorem fn146 (P:Params):∃ c d fd sl,(kt P).get 146 = some ⟨c,d,.func fd,sl⟩:=⟨_,_,_,_,(by kernel_rfl:(kt P).get 146 = some ⟨.type "function",none,.func (match (kt P).get 146 with | some ⟨_,_,.func fd,_⟩=>fd | _=>default),#[]⟩)⟩
theorem slot_cit_next:Slot "callable_iterator" "__next__" "callable_iterator.__next__" :=
  .of (owner:="callable_iterator") (n:="__next__") (by rw [typeLookup_type,builtinLookup_eq_fast]; kernel_rfl) (by decide +kernel) (by decide +kernel) (by decide +kernel)
    (by first | exact .inl (by decide +kernel) | exact .inr (by decide +kernel)) (by rw [isSubtype_type]; kernel_rfl)
theorem entry_cit_next:entryFor table "callable_iterator.__next__" = some Builtin.«callable_iterator.__next__»:=entryFor_of_fast (by kernel_rfl)
theorem args_cit_next (a:Value):argsOk "callable_iterator.__next__" ⟨[a],[]⟩:=by unfold argsOk; kernel_rfl
section
variable {w:World} {A:Around} {R:Result → Shared → Prop} {s:Shared} {it bm lx:Addr} {t:Nat} {md:List Addr} {P:Heap → Prop}
theorem c_citer_end (hh:A.handled = none) (top:TopOk w s.heap) (fmd:FreeL md) (hit:s.heap.get? it = some (citO bm t)) (hbm:s.heap.get? bm = some (methO 146 lx)) (nit:it ∉ md) (nbm:bm ∉ md) (nib:it ≠ bm)
    (X:∀ (A':Around) (R':Result → Shared → Prop),A'.handled = none → A'.depth ≤ A.depth → A'.units ≤ A.units + 6 → (∀ h' tk' tc,KeepsBut md s.heap h' → s.heap.objs.size ≤ h'.objs.size → P h' → R' (.ok (.ret (.str S0 tc))) { s with heap:=h',toks:=tk' }) → codeAny (model prog w) A' (.call (.ref bm) ⟨[],[]⟩) R' s)
    (K:∀ h1 h' tk' e,KeepsBut md s.heap h1 → s.heap.objs.size ≤ h1.objs.size → P h1 → KeepsBut [it] h1 h' → h1.objs.size ≤ e → e < h'.objs.size → h'.get? it = some citE → h'.get? (e + 1) = some (stopO e) → R (.error (.ref (e + 1))) { s with heap:=h',toks:=tk' }) :
    codeAny (model prog w) A (.call (.builtin "callable_iterator.__next__") ⟨[.ref it],[]⟩) R s:=by
  have hT:s.TypeIs (.ref it) "callable_iterator":=⟨_,hit,rfl⟩
  obtain ⟨c,d,fd,sl,h146⟩:=fn146 w.params
  refine codeAny_call_builtin slot_cit_next.plain entry_cit_next (slot_cit_next.check _ _ _ _ _ _ _ _ hT (args_cit_next _) ?_)
  show wpAny _ _ (field (.ref it) 2 >>= _) _ _ s
  refine wpAny_bind (wpAny_field hit rfl (x:=.bool false) rfl ?_)
  show wpAny _ _ (if (Value.bool false == Value.bool true) = true then _ else _) _ _ s
  rw [if_neg (by decide)]
  show wpAny _ _ (field (.ref it) 0 >>= _) _ _ s
  refine wpAny_bind (wpAny_field hit rfl (x:=.ref bm) rfl ?_)
  refine wpAny_bind (m:=Sem.attempt _) (wpAny_attempt ?_)
  show wpAny _ _ (borrowsExactly (.ref bm) >>= fun b=>if b = true then callBorrowed (.ref bm) [] else call (.ref bm) []) _ _ s
  refine wpAny_bind ?_
  show wpAny _ _ (load bm >>= _) _ _ s
  refine wpAny_bind (wpAny_load hbm ?_)
  show wpAny _ _ (load 146 >>= _) _ _ s
  refine wpAny_bind (wpAny_load (top _ _ h146) ?_)
  refine wpAny_pure ?_
  show wpAny _ _ (callBorrowed (.ref bm) []) _ _ s
  refine x_call (X _ _ ?_ ?_ ?_ fun h1 tk1 tc k1 z1 p1=>?_) (by intro x; cases x)
  · exact hh
  · exact Nat.le_refl _
  · show A.units + 1 ≤ A.units + 6; lia
  have hit1:h1.get? it = some (citO bm t):=k1 _ _ hit nit
  have hbm1:h1.get? bm = some (methO 146 lx):=k1 _ _ hbm nbm
  have top1:TopOk w h1:=top.keepsBut k1 fmd
  refine wpAny_pure ?_
  show wpAny _ _ (field (.ref it) 2 >>= _) _ _ _
  refine wpAny_bind (wpAny_field hit1 rfl (x:=.bool false) rfl ?_)
  show wpAny _ _ (if (Value.bool false == Value.bool true) = true then _ else _) _ _ _
  rw [if_neg (by decide)]
  show wpAny _ _ (field (.ref it) 1 >>= _) _ _ _
  refine wpAny_bind (wpAny_field hit1 rfl (x:=.str S0 t) rfl ?_)
  refine wpAny_bind (wpAny_holding (wpAny_eqBool_str ?_))
  have e1:decide (S0 = S0) = true:=decide_eq_true rfl
  rw [e1]
  show wpAny _ _ (if (!true) = true then _ else _) _ _ _
  rw [if_neg (by decide)]
  refine wpAny_bind (wpAny_rule ?_)
  refine wpAny_bind ?_
  show wpAny _ _ (field (.ref it) 0 >>= _) _ _ _
  refine wpAny_bind (wpAny_field hit1 rfl (x:=.ref bm) rfl ?_)
  refine wpAny_bind ?_
  show wpAny _ _ (borrowsExactly (.ref bm) >>= _) _ _ _
  refine wpAny_bind ?_
  show wpAny _ _ (load bm >>= _) _ _ _
  refine wpAny_bind (wpAny_load hbm1 ?_)
  show wpAny _ _ (load 146 >>= _) _ _ _
  refine wpAny_bind (wpAny_load (top1 _ _ h146) ?_)
  refine wpAny_pure (wpAny_pure ?_)
  refine wpAny_bind (wpAny_setField_rec (vs:=#[.ref bm,.str S0 t,.bool false]) hit1 (by simp) fun h2 q2 m2=>?_)
  have q2':h2.get? it = some { cls:=.type "callable_iterator",data:=.fields #[.none,.str S0 t,.bool false] }:=by rw [q2]; simp
  refine wpAny_bind (wpAny_setField_rec (vs:=#[.none,.str S0 t,.bool false]) q2' (by simp) fun h3 q3 m3=>?_)
  have q3':h3.get? it = some { cls:=.type "callable_iterator",data:=.fields #[.none,.none,.bool false] }:=by rw [q3]; simp
  refine wpAny_setField_rec (vs:=#[.none,.none,.bool false]) q3' (by simp) fun h4 q4 m4=>?_
  have q4':h4.get? it = some citE:=by rw [q4]; simp [citE]
  have m:Heap.SameBut it h1 h4:=⟨m4.1.trans (m3.1.trans m2.1),fun b hb=>(m4.2 b hb).trans ((m3.2 b hb).trans (m2.2 b hb))⟩
  show wpAny _ _ (newExc (.type "StopIteration") [] >>= _) _ _ _
  refine wpAny_bind ?_
  simp only [newExc,newTuple]
  refine wpAny_bind (wpAny_newObj_type ?_ (by size_fits))
  refine wpAny_bind (m:=firstArgMember _ _) (wpAny_of_eq (a:=Value.none) (by first | rfl | (simp only [firstArgMember]; rfl)) ?_)
  refine wpAny_newObj_type ?_ (by size_fits)
  simp only [raiseNew]
  refine wpAny_bind (wpAny_handled ?_)
  rw [show A.in1.handled = none from hh]
  refine wpAny_bind (wpAny_pure (wpAny_throw ?_))
  have z4:h4.objs.size = h1.objs.size:=m.1
  have e2:(h4.push { cls:=.type "tuple",data:=.seq #[] }).objs.size = h4.objs.size + 1:=by rw [Heap.size_push]
  have key:=K h1 ((h4.push { cls:=.type "tuple",data:=.seq #[] }).push (stopO h4.objs.size)) tk1 h4.objs.size k1 z1 p1
    (fun b o eb hn=>Heap.get?_push_of_some _ (Heap.get?_push_of_some _ (same_keepsBut m b o eb hn))) (Nat.le_of_eq z4.symm) (by rw [Heap.size_push,e2]; lia) (Heap.get?_push_of_some _ (Heap.get?_push_of_some _ q4')) (by rw [← e2]; exact Heap.get?_push_size _ rfl)
  rw [← e2] at key
  exact key
end
end Mine
namespace Mine
open PySem PySem.W PySem.W.X PyProof.Rows
theorem LexSt.low {w:World} {L:LX} {h:Heap} {k:Nat} {lno:Int} (S:LexSt w L h k lno):(L.gn < h.objs.size ∧ L.lxd < h.objs.size ∧ L.pb < h.objs.size) ∧ ∀ a ∈ L.addrs,a < h.objs.size:=by
  obtain ⟨gs,e,g1,g2⟩:=S.gone
  obtain ⟨tl,l1⟩:=S.lines
  obtain ⟨v0,tc,r,s0,s1,s2,s3,s4,s5,s6,_⟩:=S.still
  refine ⟨⟨Heap.lt_size g1,Heap.lt_size l1,Heap.lt_size S.pb⟩,fun a ha=>?_⟩
  simp only [LX.addrs,List.mem_cons,List.not_mem_nil,or_false] at ha
  rcases ha with rfl | rfl | rfl | rfl | rfl | rfl | rfl
  · exact Heap.lt_size s0
  · exact Heap.lt_size s1
  · exact Heap.lt_size s2
  · exact Heap.lt_size s3
  · exact Heap.lt_size s4
  · exact Heap.lt_size s5
  · exact Heap.lt_size s6
theorem LexSt.led {w:World} {b1 b2:Bool} {L:LX} {h0 h h1:Heap} {k0 k:Nat} {l0 lno:Int} {md:List Addr} {ro:List (Addr × Obj)} {pre:List Addr} {p T0 m:Nat} {T T1:BT} (S:LexSt w L h k lno) (S0:LexSt w L h0 k0 l0) (D:Led w b1 b2 h0 md ro pre p T0 T h)
    (OD:Ok (cf w b1 b2 ro pre p h.objs.size T0) h pre ∧ Rep (cf w b1 b2 ro pre p h.objs.size T0) h pre h1 T1 m):LexSt w L h1 k lno :=
  S.keep (D.mid OD).2.2.2 (D.out S0.low.1.1) (D.out S0.low.1.2.1) (D.out S0.low.1.2.2) fun a ha=>D.out (S0.low.2 a ha)
theorem LexSt.nbm {w:World} {L:LX} {h:Heap} {k:Nat} {lno:Int} {bm:Addr} (S:LexSt w L h k lno) (hbm:h.get? bm = some (methO 146 L.lx)):NotIn bm [L.lxd,L.gn,L.pb]:=by
  obtain ⟨gs,e,g1,g2⟩:=S.gone
  obtain ⟨tl,l1⟩:=S.lines
  exact ⟨ne_cls hbm l1 (ty_ne (by decide)),ne_cls hbm g1 (ty_ne (by decide)),ne_cls hbm S.pb (ty_ne (by decide)),trivial⟩
theorem wsF {a b:Str} {l:Nat} {v:Bool} (h:(!(Builtin.Str.occurrences a b 0 l 1).isEmpty) = v):(!(Fast.tw15715988071286343644 a b 0 l 1).isEmpty) = v:=by rw [← Fast.te15715988071286343644]; exact h
theorem LexSt.nit {w:World} {L:LX} {h:Heap} {k:Nat} {lno:Int} {it bm:Addr} {t:Nat} (S:LexSt w L h k lno) (hit:h.get? it = some (citO bm t)):it ∉ [L.lxd,L.gn]:=by
  obtain ⟨gs,e,g1,g2⟩:=S.gone
  obtain ⟨tl,l1⟩:=S.lines
  exact NotIn.mem ⟨ne_cls hit l1 (ty_ne (by decide)),ne_cls hit g1 (ty_ne (by decide)),trivial⟩
theorem lo_in {A A':Around} (h:Lo A 400) (a:A'.depth ≤ A.depth) (b:A'.units ≤ A.units + 6):Lo A' 500:=⟨by have:=h.1; lia,by have:=h.2; lia⟩
theorem hex_ne10:∀ c ∈ hexs,c ≠ 10:=by decide
section
variable {w:World} {b1 b2:Bool} {A:Around} {R:Result → Shared → Prop} {h:Heap} {g:Array GenState} {d:Drawn} {T0:Nat} {os:OsState} {L:LX} {k c1 c2 sp s0:Nat} {lno:Int}
theorem tok0 (F:Follows w b1 b2) (hA:Lo A 400) (hh:A.handled = none) (top:TopOk w h) (G:L.Good) (S:LexSt w L h k lno) (q0:L.x.cps[k]? = some (c1 + 1)) (hhc1:(c1 + 1) ∈ hexs) (q1:L.x.cps[k + 1]? = some (c2 + 1)) (hhc2:(c2 + 1) ∈ hexs) (q2:L.x.cps[k + 1 + 1]? = some (sp + 1)) (hhsp:(sp + 1) ∈ [32,10])
    (K:∀ h' tk' tc,KeepsBut [L.lxd,L.gn] h h' → h.objs.size ≤ h'.objs.size → LexSt w L h' (k + 1 + 1 + 1) (lno + lnoF (sp + 1)) → R (.ok (.ret (.str (S1 (c1 + 1) ++ S1 (c2 + 1)) tc))) ⟨h',g,d,tk',os⟩) :
    codeAny (model prog w) A (.call (.ref 153) ⟨[.ref L.lx],[]⟩) R ⟨h,g,d,T0,os⟩:=by
  refine Mn.enter hA ?_
  have lo:=S.low
  have fmd:FreeL [L.lxd,L.gn]:=⟨G.fr.1,G.fr.2.1,trivial⟩
  have hmd:∀ a ∈ [L.lxd,L.gn],a < h.objs.size:=fun a ha=>by
    rcases List.mem_cons.mp ha with rfl | ha
    · exact lo.1.2.1
    · rw [List.mem_singleton.mp ha]; exact lo.1.1
  have lro:∀ {l:Int} {t:Nat},LowL h.objs.size [(L.lx,instO 163 L.lxd),(L.lxd,lxD w L l t),(L.pb,listO [] L.pe)]:=⟨lo.2 _ (by simp [LX.addrs]),lo.1.2.1,lo.1.2.2,trivial⟩
  obtain ⟨tl0,hl0⟩:=S.lines
  obtain ⟨v0,tc0,r0,hx0,_⟩:=S.still
  have D0:Led w b1 b2 h [L.lxd,L.gn] [(L.lx,instO 163 L.lxd),(L.lxd,lxD w L lno tl0),(L.pb,listO [] L.pe)] [] 0 T0 .nil h:=Led.start _ _ top ⟨hx0,hl0,S.pb,trivial⟩
  have Z0:=S
  have OD:=D0.ok
  refine go F 125 3 9 [153,152,1000,1000,2,1000,2000,163,163,162,2000,163,163,162,2000,2000,163,2001,2002,2002,2002,2002,2002,1000,1000,3,0,1000,2000,163,163,162,2000,163,163,162,146,146,146,2000,2000,163,2001,163,163,162,146,1001,1000,1000,1000,1002,1002,7000,1002,1002,1002,1002,1002,1002,1001,146] (i:=0) OD hA hh fun h1=>?_
  intro o_h1 OD
  have M0:=D0.mid OD
  have Z0':=Z0.led Z0 D0 OD
  refine Mn.st (.call (.ref (h.objs.size + 1)) ⟨[],[]⟩) ?_
  have hb0:h1.get? (h.objs.size + 1) = some (methO 146 L.lx):=OD.2.ob 1
  refine read_bm F (dk hA) (aH hh) M0.2.2.1 G Z0' hb0 (Z0'.nbm hb0) q0 (hex_ne10 _ hhc1) fun j1 tk1 tc1 kj sj Z1=>?_
  obtain ⟨tl1,hl1⟩:=Z1.lines
  obtain ⟨v1,tcc1,r1,hx1,_⟩:=Z1.still
  have D1:=D0.next (t2:=tk1) [(L.lx,instO 163 L.lxd),(L.lxd,lxD w L lno tl1),(L.pb,listO [] L.pe)] OD kj sj ⟨hx1,hl1,Z1.pb,trivial⟩ lro hmd fmd
  clear OD; have OD:=D1.ok
  refine goP F 97 3 5 [1002,1002,7000,7200,1000,1000,1000,1000,2000,163,163,162,2000,163,163,162,2000,2000,163,2001,7200,1000,7000,7200,1000,7000,7200,1000,1000,1000,1000,1000,1002,1002,7000,1002,1002,1002,1002,1002,1002,1001,146] [(((S1 (c1 + 1))).cps.toList == ((⟨#[92]⟩:Str)).cps.toList) = false,(((S1 (c1 + 1))).cps.toList == ((⟨#[34]⟩:Str)).cps.toList) = false,(!(Fast.tw15715988071286343644 (⟨#[10,9,13,32]⟩:Str) (S1 (c1 + 1)) 0 (⟨#[10,9,13,32]⟩:Str).length 1).isEmpty) = false,(((⟨#[]⟩:Str)).cps.toList == ((S1 (c1 + 1))).cps.toList) = false] (i:=0) OD hA hh ⟨(eq_hex _ hhc1).2.1,(eq_hex _ hhc1).1,(wsF (ws_hex _ hhc1)),rfl,trivial⟩ fun h2=>?_
  intro o_h2 OD
  have M1:=D1.mid OD
  have Z1':=Z1.led Z0 D1 OD
  refine Mn.st (.call (.ref (h.objs.size + 1)) ⟨[],[]⟩) ?_
  have hb1:h2.get? (h.objs.size + 1) = some (methO 146 L.lx):=OD.2.ob 1
  refine read_bm F (dk hA) (aH hh) M1.2.2.1 G Z1' hb1 (Z1'.nbm hb1) q1 (hex_ne10 _ hhc2) fun j2 tk2 tc2 kj sj Z2=>?_
  obtain ⟨tl2,hl2⟩:=Z2.lines
  obtain ⟨v2,tcc2,r2,hx2,_⟩:=Z2.still
  have D2:=D1.next (t2:=tk2) [(L.lx,instO 163 L.lxd),(L.lxd,lxD w L lno tl2),(L.pb,listO [] L.pe)] OD kj sj ⟨hx2,hl2,Z2.pb,trivial⟩ lro hmd fmd
  clear OD; have OD:=D2.ok
  refine goP F 76 3 5 [1002,1002,7000,7200,1000,1000,1000,1000,2000,163,163,162,2000,163,163,162,2000,2000,163,2001,7200,1000,7000,7200,1000,1000,1000,1000,1002,1002,1002,1002,1001,146] [(((S1 (c2 + 1))).cps.toList == ((⟨#[92]⟩:Str)).cps.toList) = false,(!(Fast.tw15715988071286343644 (⟨#[10,9,13,32]⟩:Str) (S1 (c2 + 1)) 0 (⟨#[10,9,13,32]⟩:Str).length 1).isEmpty) = false,(((⟨#[]⟩:Str)).cps.toList == ((S1 (c2 + 1))).cps.toList) = false] (i:=0) OD hA hh ⟨(eq_hex _ hhc2).2.1,(wsF (ws_hex _ hhc2)),rfl,trivial⟩ fun h3=>?_
  intro o_h3 OD
  have M2:=D2.mid OD
  have Z2':=Z2.led Z0 D2 OD
  refine Mn.st (.call (.ref (h.objs.size + 1)) ⟨[],[]⟩) ?_
  have hb2:h3.get? (h.objs.size + 1) = some (methO 146 L.lx):=OD.2.ob 1
  refine read_b F (dk hA) (aH hh) M2.2.2.1 G Z2' hb2 (Z2'.nbm hb2) q2 fun j3 tk3 tc3 kj sj Z3=>?_
  obtain ⟨tl3,hl3⟩:=Z3.lines
  obtain ⟨v3,tcc3,r3,hx3,_⟩:=Z3.still
  have D3:=D2.next (t2:=tk3) [(L.lx,instO 163 L.lxd),(L.lxd,lxD w L (lno + lnoF (sp + 1)) tl3),(L.pb,listO [] L.pe)] OD kj sj ⟨hx3,hl3,Z3.pb,trivial⟩ lro hmd fmd
  clear OD; have OD:=D3.ok
  refine goP F 45 3 2 [1002,1002,7000,7200,1000,1000,1000,1000,2000,163,163,162,2000,163,163,162,2000,2000,163,2001,7201,1000] [(!(Fast.tw15715988071286343644 (⟨#[10,9,13,32]⟩:Str) (S1 (sp + 1)) 0 (⟨#[10,9,13,32]⟩:Str).length 1).isEmpty) = true,(((⟨#[]⟩:Str)).cps.toList == ((S1 (sp + 1))).cps.toList) = false] (i:=0) OD hA hh ⟨(wsF (ws_sep _ hhsp)),rfl,trivial⟩ fun h4=>?_
  intro o_h4 OD
  have M3:=D3.mid OD
  refine Mn.en (.ret (.str ((S1 (c1 + 1)) ++ (S1 (c2 + 1))) (tk2 + 3))) ?_
  exact K _ _ _ M3.1 M3.2.1 (Z3.led Z0 D3 OD)
theorem tok1 (F:Follows w b1 b2) (hA:Lo A 400) (hh:A.handled = none) (top:TopOk w h) (G:L.Good) (S:LexSt w L h k lno) (q0:L.x.cps[k]? = some 34) (q1:L.x.cps[k + 1]? = some (c1 + 1)) (hhc1:(c1 + 1) ∈ hexs) (q2:L.x.cps[k + 1 + 1]? = some (c2 + 1)) (hhc2:(c2 + 1) ∈ hexs) (q3:L.x.cps[k + 1 + 1 + 1]? = some 34)
    (K:∀ h' tk' tc,KeepsBut [L.lxd,L.gn] h h' → h.objs.size ≤ h'.objs.size → LexSt w L h' (k + 1 + 1 + 1 + 1) lno → R (.ok (.ret (.str (S1 (c1 + 1) ++ S1 (c2 + 1)) tc))) ⟨h',g,d,tk',os⟩) :
    codeAny (model prog w) A (.call (.ref 153) ⟨[.ref L.lx],[]⟩) R ⟨h,g,d,T0,os⟩:=by
  refine Mn.enter hA ?_
  have lo:=S.low
  have fmd:FreeL [L.lxd,L.gn]:=⟨G.fr.1,G.fr.2.1,trivial⟩
  have hmd:∀ a ∈ [L.lxd,L.gn],a < h.objs.size:=fun a ha=>by
    rcases List.mem_cons.mp ha with rfl | ha
    · exact lo.1.2.1
    · rw [List.mem_singleton.mp ha]; exact lo.1.1
  have lro:∀ {l:Int} {t:Nat},LowL h.objs.size [(L.lx,instO 163 L.lxd),(L.lxd,lxD w L l t),(L.pb,listO [] L.pe)]:=⟨lo.2 _ (by simp [LX.addrs]),lo.1.2.1,lo.1.2.2,trivial⟩
  obtain ⟨tl0,hl0⟩:=S.lines
  obtain ⟨v0,tc0,r0,hx0,_⟩:=S.still
  have D0:Led w b1 b2 h [L.lxd,L.gn] [(L.lx,instO 163 L.lxd),(L.lxd,lxD w L lno tl0),(L.pb,listO [] L.pe)] [] 0 T0 .nil h:=Led.start _ _ top ⟨hx0,hl0,S.pb,trivial⟩
  have Z0:=S
  have OD:=D0.ok
  refine go F 125 3 9 [153,152,1000,1000,2,1000,2000,163,163,162,2000,163,163,162,2000,2000,163,2001,2002,2002,2002,2002,2002,1000,1000,3,0,1000,2000,163,163,162,2000,163,163,162,146,146,146,2000,2000,163,2001,163,163,162,146,1001,1000,1000,1000,1002,1002,7000,1002,1002,1002,1002,1002,1002,1001,146] (i:=0) OD hA hh fun h1=>?_
  intro o_h1 OD
  have M0:=D0.mid OD
  have Z0':=Z0.led Z0 D0 OD
  refine Mn.st (.call (.ref (h.objs.size + 1)) ⟨[],[]⟩) ?_
  have hb0:h1.get? (h.objs.size + 1) = some (methO 146 L.lx):=OD.2.ob 1
  refine read_bm F (dk hA) (aH hh) M0.2.2.1 G Z0' hb0 (Z0'.nbm hb0) q0 (by decide) fun j1 tk1 tc1 kj sj Z1=>?_
  obtain ⟨tl1,hl1⟩:=Z1.lines
  obtain ⟨v1,tcc1,r1,hx1,_⟩:=Z1.still
  have D1:=D0.next (t2:=tk1) [(L.lx,instO 163 L.lxd),(L.lxd,lxD w L lno tl1),(L.pb,listO [] L.pe)] OD kj sj ⟨hx1,hl1,Z1.pb,trivial⟩ lro hmd fmd
  clear OD; have OD:=D1.ok
  refine goP F 71 3 3 [1002,1002,7000,7200,1000,1000,1000,1000,2000,163,163,162,2000,163,163,162,2000,2000,163,2001,7200,1000,7000,7201,1000,1002,1002,7000,1002,1002,1002,1002,1002,1002,1001,146] [(((S1 34)).cps.toList == ((⟨#[34]⟩:Str)).cps.toList) = true,(!(Fast.tw15715988071286343644 (⟨#[10,9,13,32]⟩:Str) (S1 34) 0 (⟨#[10,9,13,32]⟩:Str).length 1).isEmpty) = false,(((⟨#[]⟩:Str)).cps.toList == ((S1 34)).cps.toList) = false] (i:=0) OD hA hh ⟨(by decide),(wsF ws_34),rfl,trivial⟩ fun h2=>?_
  intro o_h2 OD
  have M1:=D1.mid OD
  have Z1':=Z1.led Z0 D1 OD
  refine Mn.st (.call (.ref (h.objs.size + 1)) ⟨[],[]⟩) ?_
  have hb1:h2.get? (h.objs.size + 1) = some (methO 146 L.lx):=OD.2.ob 1
  refine read_bm F (dk hA) (aH hh) M1.2.2.1 G Z1' hb1 (Z1'.nbm hb1) q1 (hex_ne10 _ hhc1) fun j2 tk2 tc2 kj sj Z2=>?_
  obtain ⟨tl2,hl2⟩:=Z2.lines
  obtain ⟨v2,tcc2,r2,hx2,_⟩:=Z2.still
  have D2:=D1.next (t2:=tk2) [(L.lx,instO 163 L.lxd),(L.lxd,lxD w L lno tl2),(L.pb,listO [] L.pe)] OD kj sj ⟨hx2,hl2,Z2.pb,trivial⟩ lro hmd fmd
  clear OD; have OD:=D2.ok
  refine goP F 59 3 4 [1002,1002,7000,7200,1000,1000,1000,7000,7200,1000,7000,7200,1000,1000,1000,1000,1002,1002,1002,1002,1001,146] [(((S1 (c1 + 1))).cps.toList == ((⟨#[92]⟩:Str)).cps.toList) = false,(((S1 (c1 + 1))).cps.toList == ((⟨#[34]⟩:Str)).cps.toList) = false,(((⟨#[]⟩:Str)).cps.toList == ((S1 (c1 + 1))).cps.toList) = false] (i:=0) OD hA hh ⟨(eq_hex _ hhc1).2.1,(eq_hex _ hhc1).1,rfl,trivial⟩ fun h3=>?_
  intro o_h3 OD
  have M2:=D2.mid OD
  have Z2':=Z2.led Z0 D2 OD
  refine Mn.st (.call (.ref (h.objs.size + 1)) ⟨[],[]⟩) ?_
  have hb2:h3.get? (h.objs.size + 1) = some (methO 146 L.lx):=OD.2.ob 1
  refine read_bm F (dk hA) (aH hh) M2.2.2.1 G Z2' hb2 (Z2'.nbm hb2) q2 (hex_ne10 _ hhc2) fun j3 tk3 tc3 kj sj Z3=>?_
  obtain ⟨tl3,hl3⟩:=Z3.lines
  obtain ⟨v3,tcc3,r3,hx3,_⟩:=Z3.still
  have D3:=D2.next (t2:=tk3) [(L.lx,instO 163 L.lxd),(L.lxd,lxD w L lno tl3),(L.pb,listO [] L.pe)] OD kj sj ⟨hx3,hl3,Z3.pb,trivial⟩ lro hmd fmd
  clear OD; have OD:=D3.ok
  refine goP F 59 3 5 [1002,1002,7000,7200,1000,1000,1000,7000,7200,1000,7000,7200,1000,1000,1000,1000,1002,1002,1002,1002,1001,146] [(((S1 (c2 + 1))).cps.toList == ((⟨#[92]⟩:Str)).cps.toList) = false,(((S1 (c2 + 1))).cps.toList == ((⟨#[34]⟩:Str)).cps.toList) = false,(((⟨#[]⟩:Str)).cps.toList == ((S1 (c2 + 1))).cps.toList) = false] (i:=0) OD hA hh ⟨(eq_hex _ hhc2).2.1,(eq_hex _ hhc2).1,rfl,trivial⟩ fun h4=>?_
  intro o_h4 OD
  have M3:=D3.mid OD
  have Z3':=Z3.led Z0 D3 OD
  refine Mn.st (.call (.ref (h.objs.size + 1)) ⟨[],[]⟩) ?_
  have hb3:h4.get? (h.objs.size + 1) = some (methO 146 L.lx):=OD.2.ob 1
  refine read_bm F (dk hA) (aH hh) M3.2.2.1 G Z3' hb3 (Z3'.nbm hb3) q3 (by decide) fun j4 tk4 tc4 kj sj Z4=>?_
  obtain ⟨tl4,hl4⟩:=Z4.lines
  obtain ⟨v4,tcc4,r4,hx4,_⟩:=Z4.still
  have D4:=D3.next (t2:=tk4) [(L.lx,instO 163 L.lxd),(L.lxd,lxD w L lno tl4),(L.pb,listO [] L.pe)] OD kj sj ⟨hx4,hl4,Z4.pb,trivial⟩ lro hmd fmd
  clear OD; have OD:=D4.ok
  refine goP F 28 3 2 [1002,1002,7000,7200,1000,1000,1000,7000,7201,1000] [(((S1 34)).cps.toList == ((⟨#[34]⟩:Str)).cps.toList) = true,(((⟨#[]⟩:Str)).cps.toList == ((S1 34)).cps.toList) = false] (i:=0) OD hA hh ⟨(by decide),rfl,trivial⟩ fun h5=>?_
  intro o_h5 OD
  have M4:=D4.mid OD
  refine Mn.en (.ret (.str ((S1 (c1 + 1)) ++ (S1 (c2 + 1))) (tk3 + 3))) ?_
  exact K _ _ _ M4.1 M4.2.1 (Z4.led Z0 D4 OD)
theorem tok2 (F:Follows w b1 b2) (hA:Lo A 400) (hh:A.handled = none) (top:TopOk w h) (G:L.Good) (S:LexSt w L h k lno) (q0:L.x.cps[k]? = some 92) (q1:L.x.cps[k + 1]? = some (c1 + 1)) (hhc1:(c1 + 1) ∈ hexs) (q2:L.x.cps[k + 1 + 1]? = some 92) (q3:L.x.cps[k + 1 + 1 + 1]? = some (c2 + 1)) (hhc2:(c2 + 1) ∈ hexs) (q4:L.x.cps[k + 1 + 1 + 1 + 1]? = some (sp + 1)) (hhsp:(sp + 1) ∈ [32,10])
    (K:∀ h' tk' tc,KeepsBut [L.lxd,L.gn] h h' → h.objs.size ≤ h'.objs.size → LexSt w L h' (k + 1 + 1 + 1 + 1 + 1) (lno + lnoF (sp + 1)) → R (.ok (.ret (.str (S1 (c1 + 1) ++ S1 (c2 + 1)) tc))) ⟨h',g,d,tk',os⟩) :
    codeAny (model prog w) A (.call (.ref 153) ⟨[.ref L.lx],[]⟩) R ⟨h,g,d,T0,os⟩:=by
  refine Mn.enter hA ?_
  have lo:=S.low
  have fmd:FreeL [L.lxd,L.gn]:=⟨G.fr.1,G.fr.2.1,trivial⟩
  have hmd:∀ a ∈ [L.lxd,L.gn],a < h.objs.size:=fun a ha=>by
    rcases List.mem_cons.mp ha with rfl | ha
    · exact lo.1.2.1
    · rw [List.mem_singleton.mp ha]; exact lo.1.1
  have lro:∀ {l:Int} {t:Nat},LowL h.objs.size [(L.lx,instO 163 L.lxd),(L.lxd,lxD w L l t),(L.pb,listO [] L.pe)]:=⟨lo.2 _ (by simp [LX.addrs]),lo.1.2.1,lo.1.2.2,trivial⟩
  obtain ⟨tl0,hl0⟩:=S.lines
  obtain ⟨v0,tc0,r0,hx0,_⟩:=S.still
  have D0:Led w b1 b2 h [L.lxd,L.gn] [(L.lx,instO 163 L.lxd),(L.lxd,lxD w L lno tl0),(L.pb,listO [] L.pe)] [] 0 T0 .nil h:=Led.start _ _ top ⟨hx0,hl0,S.pb,trivial⟩
  have Z0:=S
  have OD:=D0.ok
  refine go F 125 3 9 [153,152,1000,1000,2,1000,2000,163,163,162,2000,163,163,162,2000,2000,163,2001,2002,2002,2002,2002,2002,1000,1000,3,0,1000,2000,163,163,162,2000,163,163,162,146,146,146,2000,2000,163,2001,163,163,162,146,1001,1000,1000,1000,1002,1002,7000,1002,1002,1002,1002,1002,1002,1001,146] (i:=0) OD hA hh fun h1=>?_
  intro o_h1 OD
  have M0:=D0.mid OD
  have Z0':=Z0.led Z0 D0 OD
  refine Mn.st (.call (.ref (h.objs.size + 1)) ⟨[],[]⟩) ?_
  have hb0:h1.get? (h.objs.size + 1) = some (methO 146 L.lx):=OD.2.ob 1
  refine read_bm F (dk hA) (aH hh) M0.2.2.1 G Z0' hb0 (Z0'.nbm hb0) q0 (by decide) fun j1 tk1 tc1 kj sj Z1=>?_
  obtain ⟨tl1,hl1⟩:=Z1.lines
  obtain ⟨v1,tcc1,r1,hx1,_⟩:=Z1.still
  have D1:=D0.next (t2:=tk1) [(L.lx,instO 163 L.lxd),(L.lxd,lxD w L lno tl1),(L.pb,listO [] L.pe)] OD kj sj ⟨hx1,hl1,Z1.pb,trivial⟩ lro hmd fmd
  clear OD; have OD:=D1.ok
  refine goP F 80 3 4 [1002,1002,7000,7200,1000,1000,1000,1000,2000,163,163,162,2000,163,163,162,2000,2000,163,2001,7200,1000,7000,7200,1000,7000,7201,1000,2000,163,163,162,2000,163,163,162,2000,163,163,162,146,2000,2001,146] [(((S1 92)).cps.toList == ((⟨#[92]⟩:Str)).cps.toList) = true,(((S1 92)).cps.toList == ((⟨#[34]⟩:Str)).cps.toList) = false,(!(Fast.tw15715988071286343644 (⟨#[10,9,13,32]⟩:Str) (S1 92) 0 (⟨#[10,9,13,32]⟩:Str).length 1).isEmpty) = false,(((⟨#[]⟩:Str)).cps.toList == ((S1 92)).cps.toList) = false] (i:=0) OD hA hh ⟨(by decide),(by decide),(wsF ws_92),rfl,trivial⟩ fun h2=>?_
  intro o_h2 OD
  have M1:=D1.mid OD
  have Z1':=Z1.led Z0 D1 OD
  refine Mn.st (.call (.ref 146) ⟨[.ref L.lx],[]⟩) ?_
  refine read_di F (dk hA) (aH hh) M1.2.2.1 G Z1' q1 (hex_ne10 _ hhc1) fun j2 tk2 tc2 kj sj Z2=>?_
  obtain ⟨tl2,hl2⟩:=Z2.lines
  obtain ⟨v2,tcc2,r2,hx2,_⟩:=Z2.still
  have D2:=D1.next (t2:=tk2) [(L.lx,instO 163 L.lxd),(L.lxd,lxD w L lno tl2),(L.pb,listO [] L.pe)] OD kj sj ⟨hx2,hl2,Z2.pb,trivial⟩ lro hmd fmd
  clear OD; have OD:=D2.ok
  refine go F 47 3 2 [1000,1000,1000,1000,1000,1000,1000,1002,1002,7000,1002,1002,1002,1002,1002,1002,1001,146] (i:=0) OD hA hh fun h3=>?_
  intro o_h3 OD
  have M2:=D2.mid OD
  have Z2':=Z2.led Z0 D2 OD
  refine Mn.st (.call (.ref (h.objs.size + 1)) ⟨[],[]⟩) ?_
  have hb2:h3.get? (h.objs.size + 1) = some (methO 146 L.lx):=OD.2.ob 1
  refine read_bm F (dk hA) (aH hh) M2.2.2.1 G Z2' hb2 (Z2'.nbm hb2) q2 (by decide) fun j3 tk3 tc3 kj sj Z3=>?_
  obtain ⟨tl3,hl3⟩:=Z3.lines
  obtain ⟨v3,tcc3,r3,hx3,_⟩:=Z3.still
  have D3:=D2.next (t2:=tk3) [(L.lx,instO 163 L.lxd),(L.lxd,lxD w L lno tl3),(L.pb,listO [] L.pe)] OD kj sj ⟨hx3,hl3,Z3.pb,trivial⟩ lro hmd fmd
  clear OD; have OD:=D3.ok
  refine goP F 71 3 3 [1002,1002,7000,7200,1000,1000,1000,1000,2000,163,163,162,2000,163,163,162,2000,2000,163,2001,7200,1000,7000,7201,1000,2000,163,163,162,2000,163,163,162,2000,163,163,162,146,2000,2001,146] [(((S1 92)).cps.toList == ((⟨#[92]⟩:Str)).cps.toList) = true,(!(Fast.tw15715988071286343644 (⟨#[10,9,13,32]⟩:Str) (S1 92) 0 (⟨#[10,9,13,32]⟩:Str).length 1).isEmpty) = false,(((⟨#[]⟩:Str)).cps.toList == ((S1 92)).cps.toList) = false] (i:=0) OD hA hh ⟨(by decide),(wsF ws_92),rfl,trivial⟩ fun h4=>?_
  intro o_h4 OD
  have M3:=D3.mid OD
  have Z3':=Z3.led Z0 D3 OD
  refine Mn.st (.call (.ref 146) ⟨[.ref L.lx],[]⟩) ?_
  refine read_di F (dk hA) (aH hh) M3.2.2.1 G Z3' q3 (hex_ne10 _ hhc2) fun j4 tk4 tc4 kj sj Z4=>?_
  obtain ⟨tl4,hl4⟩:=Z4.lines
  obtain ⟨v4,tcc4,r4,hx4,_⟩:=Z4.still
  have D4:=D3.next (t2:=tk4) [(L.lx,instO 163 L.lxd),(L.lxd,lxD w L lno tl4),(L.pb,listO [] L.pe)] OD kj sj ⟨hx4,hl4,Z4.pb,trivial⟩ lro hmd fmd
  clear OD; have OD:=D4.ok
  refine go F 35 3 3 [1000,1000,1000,1000,1000,1000,1002,1002,1002,1002,1001,146] (i:=0) OD hA hh fun h5=>?_
  intro o_h5 OD
  have M4:=D4.mid OD
  have Z4':=Z4.led Z0 D4 OD
  refine Mn.st (.call (.ref (h.objs.size + 1)) ⟨[],[]⟩) ?_
  have hb4:h5.get? (h.objs.size + 1) = some (methO 146 L.lx):=OD.2.ob 1
  refine read_b F (dk hA) (aH hh) M4.2.2.1 G Z4' hb4 (Z4'.nbm hb4) q4 fun j5 tk5 tc5 kj sj Z5=>?_
  obtain ⟨tl5,hl5⟩:=Z5.lines
  obtain ⟨v5,tcc5,r5,hx5,_⟩:=Z5.still
  have D5:=D4.next (t2:=tk5) [(L.lx,instO 163 L.lxd),(L.lxd,lxD w L (lno + lnoF (sp + 1)) tl5),(L.pb,listO [] L.pe)] OD kj sj ⟨hx5,hl5,Z5.pb,trivial⟩ lro hmd fmd
  clear OD; have OD:=D5.ok
  refine goP F 45 3 2 [1002,1002,7000,7200,1000,1000,1000,1000,2000,163,163,162,2000,163,163,162,2000,2000,163,2001,7201,1000] [(!(Fast.tw15715988071286343644 (⟨#[10,9,13,32]⟩:Str) (S1 (sp + 1)) 0 (⟨#[10,9,13,32]⟩:Str).length 1).isEmpty) = true,(((⟨#[]⟩:Str)).cps.toList == ((S1 (sp + 1))).cps.toList) = false] (i:=0) OD hA hh ⟨(wsF (ws_sep _ hhsp)),rfl,trivial⟩ fun h6=>?_
  intro o_h6 OD
  have M5:=D5.mid OD
  refine Mn.en (.ret (.str ((S1 (c1 + 1)) ++ (S1 (c2 + 1))) (tk4 + 1))) ?_
  exact K _ _ _ M5.1 M5.2.1 (Z5.led Z0 D5 OD)
theorem tok0p (F:Follows w b1 b2) (hA:Lo A 400) (hh:A.handled = none) (top:TopOk w h) (G:L.Good) (S:LexSt w L h k lno) (q0:L.x.cps[k]? = some (s0 + 1)) (hhs0:(s0 + 1) ∈ [32,10]) (q1:L.x.cps[k + 1]? = some (c1 + 1)) (hhc1:(c1 + 1) ∈ hexs) (q2:L.x.cps[k + 1 + 1]? = some (c2 + 1)) (hhc2:(c2 + 1) ∈ hexs) (q3:L.x.cps[k + 1 + 1 + 1]? = some (sp + 1)) (hhsp:(sp + 1) ∈ [32,10])
    (K:∀ h' tk' tc,KeepsBut [L.lxd,L.gn] h h' → h.objs.size ≤ h'.objs.size → LexSt w L h' (k + 1 + 1 + 1 + 1) ((lno + lnoF (s0 + 1)) + lnoF (sp + 1)) → R (.ok (.ret (.str (S1 (c1 + 1) ++ S1 (c2 + 1)) tc))) ⟨h',g,d,tk',os⟩) :
    codeAny (model prog w) A (.call (.ref 153) ⟨[.ref L.lx],[]⟩) R ⟨h,g,d,T0,os⟩:=by
  refine Mn.enter hA ?_
  have lo:=S.low
  have fmd:FreeL [L.lxd,L.gn]:=⟨G.fr.1,G.fr.2.1,trivial⟩
  have hmd:∀ a ∈ [L.lxd,L.gn],a < h.objs.size:=fun a ha=>by
    rcases List.mem_cons.mp ha with rfl | ha
    · exact lo.1.2.1
    · rw [List.mem_singleton.mp ha]; exact lo.1.1
  have lro:∀ {l:Int} {t:Nat},LowL h.objs.size [(L.lx,instO 163 L.lxd),(L.lxd,lxD w L l t),(L.pb,listO [] L.pe)]:=⟨lo.2 _ (by simp [LX.addrs]),lo.1.2.1,lo.1.2.2,trivial⟩
  obtain ⟨tl0,hl0⟩:=S.lines
  obtain ⟨v0,tc0,r0,hx0,_⟩:=S.still
  have D0:Led w b1 b2 h [L.lxd,L.gn] [(L.lx,instO 163 L.lxd),(L.lxd,lxD w L lno tl0),(L.pb,listO [] L.pe)] [] 0 T0 .nil h:=Led.start _ _ top ⟨hx0,hl0,S.pb,trivial⟩
  have Z0:=S
  have OD:=D0.ok
  refine go F 125 3 9 [153,152,1000,1000,2,1000,2000,163,163,162,2000,163,163,162,2000,2000,163,2001,2002,2002,2002,2002,2002,1000,1000,3,0,1000,2000,163,163,162,2000,163,163,162,146,146,146,2000,2000,163,2001,163,163,162,146,1001,1000,1000,1000,1002,1002,7000,1002,1002,1002,1002,1002,1002,1001,146] (i:=0) OD hA hh fun h1=>?_
  intro o_h1 OD
  have M0:=D0.mid OD
  have Z0':=Z0.led Z0 D0 OD
  refine Mn.st (.call (.ref (h.objs.size + 1)) ⟨[],[]⟩) ?_
  have hb0:h1.get? (h.objs.size + 1) = some (methO 146 L.lx):=OD.2.ob 1
  refine read_b F (dk hA) (aH hh) M0.2.2.1 G Z0' hb0 (Z0'.nbm hb0) q0 fun j1 tk1 tc1 kj sj Z1=>?_
  obtain ⟨tl1,hl1⟩:=Z1.lines
  obtain ⟨v1,tcc1,r1,hx1,_⟩:=Z1.still
  have D1:=D0.next (t2:=tk1) [(L.lx,instO 163 L.lxd),(L.lxd,lxD w L (lno + lnoF (s0 + 1)) tl1),(L.pb,listO [] L.pe)] OD kj sj ⟨hx1,hl1,Z1.pb,trivial⟩ lro hmd fmd
  clear OD; have OD:=D1.ok
  refine goP F 51 3 2 [1002,1002,7000,7200,1000,1000,1000,1000,2000,163,163,162,2000,163,163,162,2000,2000,163,2001,7201,1002,1002,1002,1002,1001,146] [(!(Fast.tw15715988071286343644 (⟨#[10,9,13,32]⟩:Str) (S1 (s0 + 1)) 0 (⟨#[10,9,13,32]⟩:Str).length 1).isEmpty) = true,(((⟨#[]⟩:Str)).cps.toList == ((S1 (s0 + 1))).cps.toList) = false] (i:=0) OD hA hh ⟨(wsF (ws_sep _ hhs0)),rfl,trivial⟩ fun h2=>?_
  intro o_h2 OD
  have M1:=D1.mid OD
  have Z1':=Z1.led Z0 D1 OD
  refine Mn.st (.call (.ref (h.objs.size + 1)) ⟨[],[]⟩) ?_
  have hb1:h2.get? (h.objs.size + 1) = some (methO 146 L.lx):=OD.2.ob 1
  refine read_bm F (dk hA) (aH hh) M1.2.2.1 G Z1' hb1 (Z1'.nbm hb1) q1 (hex_ne10 _ hhc1) fun j2 tk2 tc2 kj sj Z2=>?_
  obtain ⟨tl2,hl2⟩:=Z2.lines
  obtain ⟨v2,tcc2,r2,hx2,_⟩:=Z2.still
  have D2:=D1.next (t2:=tk2) [(L.lx,instO 163 L.lxd),(L.lxd,lxD w L (lno + lnoF (s0 + 1)) tl2),(L.pb,listO [] L.pe)] OD kj sj ⟨hx2,hl2,Z2.pb,trivial⟩ lro hmd fmd
  clear OD; have OD:=D2.ok
  refine goP F 97 3 5 [1002,1002,7000,7200,1000,1000,1000,1000,2000,163,163,162,2000,163,163,162,2000,2000,163,2001,7200,1000,7000,7200,1000,7000,7200,1000,1000,1000,1000,1000,1002,1002,7000,1002,1002,1002,1002,1002,1002,1001,146] [(((S1 (c1 + 1))).cps.toList == ((⟨#[92]⟩:Str)).cps.toList) = false,(((S1 (c1 + 1))).cps.toList == ((⟨#[34]⟩:Str)).cps.toList) = false,(!(Fast.tw15715988071286343644 (⟨#[10,9,13,32]⟩:Str) (S1 (c1 + 1)) 0 (⟨#[10,9,13,32]⟩:Str).length 1).isEmpty) = false,(((⟨#[]⟩:Str)).cps.toList == ((S1 (c1 + 1))).cps.toList) = false] (i:=0) OD hA hh ⟨(eq_hex _ hhc1).2.1,(eq_hex _ hhc1).1,(wsF (ws_hex _ hhc1)),rfl,trivial⟩ fun h3=>?_
  intro o_h3 OD
  have M2:=D2.mid OD
  have Z2':=Z2.led Z0 D2 OD
  refine Mn.st (.call (.ref (h.objs.size + 1)) ⟨[],[]⟩) ?_
  have hb2:h3.get? (h.objs.size + 1) = some (methO 146 L.lx):=OD.2.ob 1
  refine read_bm F (dk hA) (aH hh) M2.2.2.1 G Z2' hb2 (Z2'.nbm hb2) q2 (hex_ne10 _ hhc2) fun j3 tk3 tc3 kj sj Z3=>?_
  obtain ⟨tl3,hl3⟩:=Z3.lines
  obtain ⟨v3,tcc3,r3,hx3,_⟩:=Z3.still
  have D3:=D2.next (t2:=tk3) [(L.lx,instO 163 L.lxd),(L.lxd,lxD w L (lno + lnoF (s0 + 1)) tl3),(L.pb,listO [] L.pe)] OD kj sj ⟨hx3,hl3,Z3.pb,trivial⟩ lro hmd fmd
  clear OD; have OD:=D3.ok
  refine goP F 76 3 5 [1002,1002,7000,7200,1000,1000,1000,1000,2000,163,163,162,2000,163,163,162,2000,2000,163,2001,7200,1000,7000,7200,1000,1000,1000,1000,1002,1002,1002,1002,1001,146] [(((S1 (c2 + 1))).cps.toList == ((⟨#[92]⟩:Str)).cps.toList) = false,(!(Fast.tw15715988071286343644 (⟨#[10,9,13,32]⟩:Str) (S1 (c2 + 1)) 0 (⟨#[10,9,13,32]⟩:Str).length 1).isEmpty) = false,(((⟨#[]⟩:Str)).cps.toList == ((S1 (c2 + 1))).cps.toList) = false] (i:=0) OD hA hh ⟨(eq_hex _ hhc2).2.1,(wsF (ws_hex _ hhc2)),rfl,trivial⟩ fun h4=>?_
  intro o_h4 OD
  have M3:=D3.mid OD
  have Z3':=Z3.led Z0 D3 OD
  refine Mn.st (.call (.ref (h.objs.size + 1)) ⟨[],[]⟩) ?_
  have hb3:h4.get? (h.objs.size + 1) = some (methO 146 L.lx):=OD.2.ob 1
  refine read_b F (dk hA) (aH hh) M3.2.2.1 G Z3' hb3 (Z3'.nbm hb3) q3 fun j4 tk4 tc4 kj sj Z4=>?_
  obtain ⟨tl4,hl4⟩:=Z4.lines
  obtain ⟨v4,tcc4,r4,hx4,_⟩:=Z4.still
  have D4:=D3.next (t2:=tk4) [(L.lx,instO 163 L.lxd),(L.lxd,lxD w L ((lno + lnoF (s0 + 1)) + lnoF (sp + 1)) tl4),(L.pb,listO [] L.pe)] OD kj sj ⟨hx4,hl4,Z4.pb,trivial⟩ lro hmd fmd
  clear OD; have OD:=D4.ok
  refine goP F 45 3 2 [1002,1002,7000,7200,1000,1000,1000,1000,2000,163,163,162,2000,163,163,162,2000,2000,163,2001,7201,1000] [(!(Fast.tw15715988071286343644 (⟨#[10,9,13,32]⟩:Str) (S1 (sp + 1)) 0 (⟨#[10,9,13,32]⟩:Str).length 1).isEmpty) = true,(((⟨#[]⟩:Str)).cps.toList == ((S1 (sp + 1))).cps.toList) = false] (i:=0) OD hA hh ⟨(wsF (ws_sep _ hhsp)),rfl,trivial⟩ fun h5=>?_
  intro o_h5 OD
  have M4:=D4.mid OD
  refine Mn.en (.ret (.str ((S1 (c1 + 1)) ++ (S1 (c2 + 1))) (tk3 + 3))) ?_
  exact K _ _ _ M4.1 M4.2.1 (Z4.led Z0 D4 OD)
theorem tok1p (F:Follows w b1 b2) (hA:Lo A 400) (hh:A.handled = none) (top:TopOk w h) (G:L.Good) (S:LexSt w L h k lno) (q0:L.x.cps[k]? = some (s0 + 1)) (hhs0:(s0 + 1) ∈ [32,10]) (q1:L.x.cps[k + 1]? = some 34) (q2:L.x.cps[k + 1 + 1]? = some (c1 + 1)) (hhc1:(c1 + 1) ∈ hexs) (q3:L.x.cps[k + 1 + 1 + 1]? = some (c2 + 1)) (hhc2:(c2 + 1) ∈ hexs) (q4:L.x.cps[k + 1 + 1 + 1 + 1]? = some 34)
    (K:∀ h' tk' tc,KeepsBut [L.lxd,L.gn] h h' → h.objs.size ≤ h'.objs.size → LexSt w L h' (k + 1 + 1 + 1 + 1 + 1) (lno + lnoF (s0 + 1)) → R (.ok (.ret (.str (S1 (c1 + 1) ++ S1 (c2 + 1)) tc))) ⟨h',g,d,tk',os⟩) :
    codeAny (model prog w) A (.call (.ref 153) ⟨[.ref L.lx],[]⟩) R ⟨h,g,d,T0,os⟩:=by
  refine Mn.enter hA ?_
  have lo:=S.low
  have fmd:FreeL [L.lxd,L.gn]:=⟨G.fr.1,G.fr.2.1,trivial⟩
  have hmd:∀ a ∈ [L.lxd,L.gn],a < h.objs.size:=fun a ha=>by
    rcases List.mem_cons.mp ha with rfl | ha
    · exact lo.1.2.1
    · rw [List.mem_singleton.mp ha]; exact lo.1.1
  have lro:∀ {l:Int} {t:Nat},LowL h.objs.size [(L.lx,instO 163 L.lxd),(L.lxd,lxD w L l t),(L.pb,listO [] L.pe)]:=⟨lo.2 _ (by simp [LX.addrs]),lo.1.2.1,lo.1.2.2,trivial⟩
  obtain ⟨tl0,hl0⟩:=S.lines
  obtain ⟨v0,tc0,r0,hx0,_⟩:=S.still
  have D0:Led w b1 b2 h [L.lxd,L.gn] [(L.lx,instO 163 L.lxd),(L.lxd,lxD w L lno tl0),(L.pb,listO [] L.pe)] [] 0 T0 .nil h:=Led.start _ _ top ⟨hx0,hl0,S.pb,trivial⟩
  have Z0:=S
  have OD:=D0.ok
  refine go F 125 3 9 [153,152,1000,1000,2,1000,2000,163,163,162,2000,163,163,162,2000,2000,163,2001,2002,2002,2002,2002,2002,1000,1000,3,0,1000,2000,163,163,162,2000,163,163,162,146,146,146,2000,2000,163,2001,163,163,162,146,1001,1000,1000,1000,1002,1002,7000,1002,1002,1002,1002,1002,1002,1001,146] (i:=0) OD hA hh fun h1=>?_
  intro o_h1 OD
  have M0:=D0.mid OD
  have Z0':=Z0.led Z0 D0 OD
  refine Mn.st (.call (.ref (h.objs.size + 1)) ⟨[],[]⟩) ?_
  have hb0:h1.get? (h.objs.size + 1) = some (methO 146 L.lx):=OD.2.ob 1
  refine read_b F (dk hA) (aH hh) M0.2.2.1 G Z0' hb0 (Z0'.nbm hb0) q0 fun j1 tk1 tc1 kj sj Z1=>?_
  obtain ⟨tl1,hl1⟩:=Z1.lines
  obtain ⟨v1,tcc1,r1,hx1,_⟩:=Z1.still
  have D1:=D0.next (t2:=tk1) [(L.lx,instO 163 L.lxd),(L.lxd,lxD w L (lno + lnoF (s0 + 1)) tl1),(L.pb,listO [] L.pe)] OD kj sj ⟨hx1,hl1,Z1.pb,trivial⟩ lro hmd fmd
  clear OD; have OD:=D1.ok
  refine goP F 51 3 2 [1002,1002,7000,7200,1000,1000,1000,1000,2000,163,163,162,2000,163,163,162,2000,2000,163,2001,7201,1002,1002,1002,1002,1001,146] [(!(Fast.tw15715988071286343644 (⟨#[10,9,13,32]⟩:Str) (S1 (s0 + 1)) 0 (⟨#[10,9,13,32]⟩:Str).length 1).isEmpty) = true,(((⟨#[]⟩:Str)).cps.toList == ((S1 (s0 + 1))).cps.toList) = false] (i:=0) OD hA hh ⟨(wsF (ws_sep _ hhs0)),rfl,trivial⟩ fun h2=>?_
  intro o_h2 OD
  have M1:=D1.mid OD
  have Z1':=Z1.led Z0 D1 OD
  refine Mn.st (.call (.ref (h.objs.size + 1)) ⟨[],[]⟩) ?_
  have hb1:h2.get? (h.objs.size + 1) = some (methO 146 L.lx):=OD.2.ob 1
  refine read_bm F (dk hA) (aH hh) M1.2.2.1 G Z1' hb1 (Z1'.nbm hb1) q1 (by decide) fun j2 tk2 tc2 kj sj Z2=>?_
  obtain ⟨tl2,hl2⟩:=Z2.lines
  obtain ⟨v2,tcc2,r2,hx2,_⟩:=Z2.still
  have D2:=D1.next (t2:=tk2) [(L.lx,instO 163 L.lxd),(L.lxd,lxD w L (lno + lnoF (s0 + 1)) tl2),(L.pb,listO [] L.pe)] OD kj sj ⟨hx2,hl2,Z2.pb,trivial⟩ lro hmd fmd
  clear OD; have OD:=D2.ok
  refine goP F 71 3 3 [1002,1002,7000,7200,1000,1000,1000,1000,2000,163,163,162,2000,163,163,162,2000,2000,163,2001,7200,1000,7000,7201,1000,1002,1002,7000,1002,1002,1002,1002,1002,1002,1001,146] [(((S1 34)).cps.toList == ((⟨#[34]⟩:Str)).cps.toList) = true,(!(Fast.tw15715988071286343644 (⟨#[10,9,13,32]⟩:Str) (S1 34) 0 (⟨#[10,9,13,32]⟩:Str).length 1).isEmpty) = false,(((⟨#[]⟩:Str)).cps.toList == ((S1 34)).cps.toList) = false] (i:=0) OD hA hh ⟨(by decide),(wsF ws_34),rfl,trivial⟩ fun h3=>?_
  intro o_h3 OD
  have M2:=D2.mid OD
  have Z2':=Z2.led Z0 D2 OD
  refine Mn.st (.call (.ref (h.objs.size + 1)) ⟨[],[]⟩) ?_
  have hb2:h3.get? (h.objs.size + 1) = some (methO 146 L.lx):=OD.2.ob 1
  refine read_bm F (dk hA) (aH hh) M2.2.2.1 G Z2' hb2 (Z2'.nbm hb2) q2 (hex_ne10 _ hhc1) fun j3 tk3 tc3 kj sj Z3=>?_
  obtain ⟨tl3,hl3⟩:=Z3.lines
  obtain ⟨v3,tcc3,r3,hx3,_⟩:=Z3.still
  have D3:=D2.next (t2:=tk3) [(L.lx,instO 163 L.lxd),(L.lxd,lxD w L (lno + lnoF (s0 + 1)) tl3),(L.pb,listO [] L.pe)] OD kj sj ⟨hx3,hl3,Z3.pb,trivial⟩ lro hmd fmd
  clear OD; have OD:=D3.ok
  refine goP F 59 3 4 [1002,1002,7000,7200,1000,1000,1000,7000,7200,1000,7000,7200,1000,1000,1000,1000,1002,1002,1002,1002,1001,146] [(((S1 (c1 + 1))).cps.toList == ((⟨#[92]⟩:Str)).cps.toList) = false,(((S1 (c1 + 1))).cps.toList == ((⟨#[34]⟩:Str)).cps.toList) = false,(((⟨#[]⟩:Str)).cps.toList == ((S1 (c1 + 1))).cps.toList) = false] (i:=0) OD hA hh ⟨(eq_hex _ hhc1).2.1,(eq_hex _ hhc1).1,rfl,trivial⟩ fun h4=>?_
  intro o_h4 OD
  have M3:=D3.mid OD
  have Z3':=Z3.led Z0 D3 OD
  refine Mn.st (.call (.ref (h.objs.size + 1)) ⟨[],[]⟩) ?_
  have hb3:h4.get? (h.objs.size + 1) = some (methO 146 L.lx):=OD.2.ob 1
  refine read_bm F (dk hA) (aH hh) M3.2.2.1 G Z3' hb3 (Z3'.nbm hb3) q3 (hex_ne10 _ hhc2) fun j4 tk4 tc4 kj sj Z4=>?_
  obtain ⟨tl4,hl4⟩:=Z4.lines
  obtain ⟨v4,tcc4,r4,hx4,_⟩:=Z4.still
  have D4:=D3.next (t2:=tk4) [(L.lx,instO 163 L.lxd),(L.lxd,lxD w L (lno + lnoF (s0 + 1)) tl4),(L.pb,listO [] L.pe)] OD kj sj ⟨hx4,hl4,Z4.pb,trivial⟩ lro hmd fmd
  clear OD; have OD:=D4.ok
  refine goP F 59 3 5 [1002,1002,7000,7200,1000,1000,1000,7000,7200,1000,7000,7200,1000,1000,1000,1000,1002,1002,1002,1002,1001,146] [(((S1 (c2 + 1))).cps.toList == ((⟨#[92]⟩:Str)).cps.toList) = false,(((S1 (c2 + 1))).cps.toList == ((⟨#[34]⟩:Str)).cps.toList) = false,(((⟨#[]⟩:Str)).cps.toList == ((S1 (c2 + 1))).cps.toList) = false] (i:=0) OD hA hh ⟨(eq_hex _ hhc2).2.1,(eq_hex _ hhc2).1,rfl,trivial⟩ fun h5=>?_
  intro o_h5 OD
  have M4:=D4.mid OD
  have Z4':=Z4.led Z0 D4 OD
  refine Mn.st (.call (.ref (h.objs.size + 1)) ⟨[],[]⟩) ?_
  have hb4:h5.get? (h.objs.size + 1) = some (methO 146 L.lx):=OD.2.ob 1
  refine read_bm F (dk hA) (aH hh) M4.2.2.1 G Z4' hb4 (Z4'.nbm hb4) q4 (by decide) fun j5 tk5 tc5 kj sj Z5=>?_
  obtain ⟨tl5,hl5⟩:=Z5.lines
  obtain ⟨v5,tcc5,r5,hx5,_⟩:=Z5.still
  have D5:=D4.next (t2:=tk5) [(L.lx,instO 163 L.lxd),(L.lxd,lxD w L (lno + lnoF (s0 + 1)) tl5),(L.pb,listO [] L.pe)] OD kj sj ⟨hx5,hl5,Z5.pb,trivial⟩ lro hmd fmd
  clear OD; have OD:=D5.ok
  refine goP F 28 3 2 [1002,1002,7000,7200,1000,1000,1000,7000,7201,1000] [(((S1 34)).cps.toList == ((⟨#[34]⟩:Str)).cps.toList) = true,(((⟨#[]⟩:Str)).cps.toList == ((S1 34)).cps.toList) = false] (i:=0) OD hA hh ⟨(by decide),rfl,trivial⟩ fun h6=>?_
  intro o_h6 OD
  have M5:=D5.mid OD
  refine Mn.en (.ret (.str ((S1 (c1 + 1)) ++ (S1 (c2 + 1))) (tk4 + 3))) ?_
  exact K _ _ _ M5.1 M5.2.1 (Z5.led Z0 D5 OD)
theorem tok2p (F:Follows w b1 b2) (hA:Lo A 400) (hh:A.handled = none) (top:TopOk w h) (G:L.Good) (S:LexSt w L h k lno) (q0:L.x.cps[k]? = some (s0 + 1)) (hhs0:(s0 + 1) ∈ [32,10]) (q1:L.x.cps[k + 1]? = some 92) (q2:L.x.cps[k + 1 + 1]? = some (c1 + 1)) (hhc1:(c1 + 1) ∈ hexs) (q3:L.x.cps[k + 1 + 1 + 1]? = some 92) (q4:L.x.cps[k + 1 + 1 + 1 + 1]? = some (c2 + 1)) (hhc2:(c2 + 1) ∈ hexs) (q5:L.x.cps[k + 1 + 1 + 1 + 1 + 1]? = some (sp + 1)) (hhsp:(sp + 1) ∈ [32,10])
    (K:∀ h' tk' tc,KeepsBut [L.lxd,L.gn] h h' → h.objs.size ≤ h'.objs.size → LexSt w L h' (k + 1 + 1 + 1 + 1 + 1 + 1) ((lno + lnoF (s0 + 1)) + lnoF (sp + 1)) → R (.ok (.ret (.str (S1 (c1 + 1) ++ S1 (c2 + 1)) tc))) ⟨h',g,d,tk',os⟩) :
    codeAny (model prog w) A (.call (.ref 153) ⟨[.ref L.lx],[]⟩) R ⟨h,g,d,T0,os⟩:=by
  refine Mn.enter hA ?_
  have lo:=S.low
  have fmd:FreeL [L.lxd,L.gn]:=⟨G.fr.1,G.fr.2.1,trivial⟩
  have hmd:∀ a ∈ [L.lxd,L.gn],a < h.objs.size:=fun a ha=>by
    rcases List.mem_cons.mp ha with rfl | ha
    · exact lo.1.2.1
    · rw [List.mem_singleton.mp ha]; exact lo.1.1
  have lro:∀ {l:Int} {t:Nat},LowL h.objs.size [(L.lx,instO 163 L.lxd),(L.lxd,lxD w L l t),(L.pb,listO [] L.pe)]:=⟨lo.2 _ (by simp [LX.addrs]),lo.1.2.1,lo.1.2.2,trivial⟩
  obtain ⟨tl0,hl0⟩:=S.lines
  obtain ⟨v0,tc0,r0,hx0,_⟩:=S.still
  have D0:Led w b1 b2 h [L.lxd,L.gn] [(L.lx,instO 163 L.lxd),(L.lxd,lxD w L lno tl0),(L.pb,listO [] L.pe)] [] 0 T0 .nil h:=Led.start _ _ top ⟨hx0,hl0,S.pb,trivial⟩
  have Z0:=S
  have OD:=D0.ok
  refine go F 125 3 9 [153,152,1000,1000,2,1000,2000,163,163,162,2000,163,163,162,2000,2000,163,2001,2002,2002,2002,2002,2002,1000,1000,3,0,1000,2000,163,163,162,2000,163,163,162,146,146,146,2000,2000,163,2001,163,163,162,146,1001,1000,1000,1000,1002,1002,7000,1002,1002,1002,1002,1002,1002,1001,146] (i:=0) OD hA hh fun h1=>?_
  intro o_h1 OD
  have M0:=D0.mid OD
  have Z0':=Z0.led Z0 D0 OD
  refine Mn.st (.call (.ref (h.objs.size + 1)) ⟨[],[]⟩) ?_
  have hb0:h1.get? (h.objs.size + 1) = some (methO 146 L.lx):=OD.2.ob 1
  refine read_b F (dk hA) (aH hh) M0.2.2.1 G Z0' hb0 (Z0'.nbm hb0) q0 fun j1 tk1 tc1 kj sj Z1=>?_
  obtain ⟨tl1,hl1⟩:=Z1.lines
  obtain ⟨v1,tcc1,r1,hx1,_⟩:=Z1.still
  have D1:=D0.next (t2:=tk1) [(L.lx,instO 163 L.lxd),(L.lxd,lxD w L (lno + lnoF (s0 + 1)) tl1),(L.pb,listO [] L.pe)] OD kj sj ⟨hx1,hl1,Z1.pb,trivial⟩ lro hmd fmd
  clear OD; have OD:=D1.ok
  refine goP F 51 3 2 [1002,1002,7000,7200,1000,1000,1000,1000,2000,163,163,162,2000,163,163,162,2000,2000,163,2001,7201,1002,1002,1002,1002,1001,146] [(!(Fast.tw15715988071286343644 (⟨#[10,9,13,32]⟩:Str) (S1 (s0 + 1)) 0 (⟨#[10,9,13,32]⟩:Str).length 1).isEmpty) = true,(((⟨#[]⟩:Str)).cps.toList == ((S1 (s0 + 1))).cps.toList) = false] (i:=0) OD hA hh ⟨(wsF (ws_sep _ hhs0)),rfl,trivial⟩ fun h2=>?_
  intro o_h2 OD
  have M1:=D1.mid OD
  have Z1':=Z1.led Z0 D1 OD
  refine Mn.st (.call (.ref (h.objs.size + 1)) ⟨[],[]⟩) ?_
  have hb1:h2.get? (h.objs.size + 1) = some (methO 146 L.lx):=OD.2.ob 1
  refine read_bm F (dk hA) (aH hh) M1.2.2.1 G Z1' hb1 (Z1'.nbm hb1) q1 (by decide) fun j2 tk2 tc2 kj sj Z2=>?_
  obtain ⟨tl2,hl2⟩:=Z2.lines
  obtain ⟨v2,tcc2,r2,hx2,_⟩:=Z2.still
  have D2:=D1.next (t2:=tk2) [(L.lx,instO 163 L.lxd),(L.lxd,lxD w L (lno + lnoF (s0 + 1)) tl2),(L.pb,listO [] L.pe)] OD kj sj ⟨hx2,hl2,Z2.pb,trivial⟩ lro hmd fmd
  clear OD; have OD:=D2.ok
  refine goP F 80 3 4 [1002,1002,7000,7200,1000,1000,1000,1000,2000,163,163,162,2000,163,163,162,2000,2000,163,2001,7200,1000,7000,7200,1000,7000,7201,1000,2000,163,163,162,2000,163,163,162,2000,163,163,162,146,2000,2001,146] [(((S1 92)).cps.toList == ((⟨#[92]⟩:Str)).cps.toList) = true,(((S1 92)).cps.toList == ((⟨#[34]⟩:Str)).cps.toList) = false,(!(Fast.tw15715988071286343644 (⟨#[10,9,13,32]⟩:Str) (S1 92) 0 (⟨#[10,9,13,32]⟩:Str).length 1).isEmpty) = false,(((⟨#[]⟩:Str)).cps.toList == ((S1 92)).cps.toList) = false] (i:=0) OD hA hh ⟨(by decide),(by decide),(wsF ws_92),rfl,trivial⟩ fun h3=>?_
  intro o_h3 OD
  have M2:=D2.mid OD
  have Z2':=Z2.led Z0 D2 OD
  refine Mn.st (.call (.ref 146) ⟨[.ref L.lx],[]⟩) ?_
  refine read_di F (dk hA) (aH hh) M2.2.2.1 G Z2' q2 (hex_ne10 _ hhc1) fun j3 tk3 tc3 kj sj Z3=>?_
  obtain ⟨tl3,hl3⟩:=Z3.lines
  obtain ⟨v3,tcc3,r3,hx3,_⟩:=Z3.still
  have D3:=D2.next (t2:=tk3) [(L.lx,instO 163 L.lxd),(L.lxd,lxD w L (lno + lnoF (s0 + 1)) tl3),(L.pb,listO [] L.pe)] OD kj sj ⟨hx3,hl3,Z3.pb,trivial⟩ lro hmd fmd
  clear OD; have OD:=D3.ok
  refine go F 47 3 2 [1000,1000,1000,1000,1000,1000,1000,1002,1002,7000,1002,1002,1002,1002,1002,1002,1001,146] (i:=0) OD hA hh fun h4=>?_
  intro o_h4 OD
  have M3:=D3.mid OD
  have Z3':=Z3.led Z0 D3 OD
  refine Mn.st (.call (.ref (h.objs.size + 1)) ⟨[],[]⟩) ?_
  have hb3:h4.get? (h.objs.size + 1) = some (methO 146 L.lx):=OD.2.ob 1
  refine read_bm F (dk hA) (aH hh) M3.2.2.1 G Z3' hb3 (Z3'.nbm hb3) q3 (by decide) fun j4 tk4 tc4 kj sj Z4=>?_
  obtain ⟨tl4,hl4⟩:=Z4.lines
  obtain ⟨v4,tcc4,r4,hx4,_⟩:=Z4.still
  have D4:=D3.next (t2:=tk4) [(L.lx,instO 163 L.lxd),(L.lxd,lxD w L (lno + lnoF (s0 + 1)) tl4),(L.pb,listO [] L.pe)] OD kj sj ⟨hx4,hl4,Z4.pb,trivial⟩ lro hmd fmd
  clear OD; have OD:=D4.ok
  refine goP F 71 3 3 [1002,1002,7000,7200,1000,1000,1000,1000,2000,163,163,162,2000,163,163,162,2000,2000,163,2001,7200,1000,7000,7201,1000,2000,163,163,162,2000,163,163,162,2000,163,163,162,146,2000,2001,146] [(((S1 92)).cps.toList == ((⟨#[92]⟩:Str)).cps.toList) = true,(!(Fast.tw15715988071286343644 (⟨#[10,9,13,32]⟩:Str) (S1 92) 0 (⟨#[10,9,13,32]⟩:Str).length 1).isEmpty) = false,(((⟨#[]⟩:Str)).cps.toList == ((S1 92)).cps.toList) = false] (i:=0) OD hA hh ⟨(by decide),(wsF ws_92),rfl,trivial⟩ fun h5=>?_
  intro o_h5 OD
  have M4:=D4.mid OD
  have Z4':=Z4.led Z0 D4 OD
  refine Mn.st (.call (.ref 146) ⟨[.ref L.lx],[]⟩) ?_
  refine read_di F (dk hA) (aH hh) M4.2.2.1 G Z4' q4 (hex_ne10 _ hhc2) fun j5 tk5 tc5 kj sj Z5=>?_
  obtain ⟨tl5,hl5⟩:=Z5.lines
  obtain ⟨v5,tcc5,r5,hx5,_⟩:=Z5.still
  have D5:=D4.next (t2:=tk5) [(L.lx,instO 163 L.lxd),(L.lxd,lxD w L (lno + lnoF (s0 + 1)) tl5),(L.pb,listO [] L.pe)] OD kj sj ⟨hx5,hl5,Z5.pb,trivial⟩ lro hmd fmd
  clear OD; have OD:=D5.ok
  refine go F 35 3 3 [1000,1000,1000,1000,1000,1000,1002,1002,1002,1002,1001,146] (i:=0) OD hA hh fun h6=>?_
  intro o_h6 OD
  have M5:=D5.mid OD
  have Z5':=Z5.led Z0 D5 OD
  refine Mn.st (.call (.ref (h.objs.size + 1)) ⟨[],[]⟩) ?_
  have hb5:h6.get? (h.objs.size + 1) = some (methO 146 L.lx):=OD.2.ob 1
  refine read_b F (dk hA) (aH hh) M5.2.2.1 G Z5' hb5 (Z5'.nbm hb5) q5 fun j6 tk6 tc6 kj sj Z6=>?_
  obtain ⟨tl6,hl6⟩:=Z6.lines
  obtain ⟨v6,tcc6,r6,hx6,_⟩:=Z6.still
  have D6:=D5.next (t2:=tk6) [(L.lx,instO 163 L.lxd),(L.lxd,lxD w L ((lno + lnoF (s0 + 1)) + lnoF (sp + 1)) tl6),(L.pb,listO [] L.pe)] OD kj sj ⟨hx6,hl6,Z6.pb,trivial⟩ lro hmd fmd
  clear OD; have OD:=D6.ok
  refine goP F 45 3 2 [1002,1002,7000,7200,1000,1000,1000,1000,2000,163,163,162,2000,163,163,162,2000,2000,163,2001,7201,1000] [(!(Fast.tw15715988071286343644 (⟨#[10,9,13,32]⟩:Str) (S1 (sp + 1)) 0 (⟨#[10,9,13,32]⟩:Str).length 1).isEmpty) = true,(((⟨#[]⟩:Str)).cps.toList == ((S1 (sp + 1))).cps.toList) = false] (i:=0) OD hA hh ⟨(wsF (ws_sep _ hhsp)),rfl,trivial⟩ fun h7=>?_
  intro o_h7 OD
  have M6:=D6.mid OD
  refine Mn.en (.ret (.str ((S1 (c1 + 1)) ++ (S1 (c2 + 1))) (tk5 + 1))) ?_
  exact K _ _ _ M6.1 M6.2.1 (Z6.led Z0 D6 OD)
theorem tokE (F:Follows w b1 b2) (hA:Lo A 300) (hh:A.handled = none) (top:TopOk w h) (G:L.Good) (S:LexSt w L h k lno) (he:L.x.length ≤ k) (hk:k ≤ 600)
    (K:∀ h' tk' tc,KeepsBut [L.lxd,L.gn] h h' → h.objs.size ≤ h'.objs.size → LexSt w L h' (k) lno → R (.ok (.ret (.str S0 tc))) ⟨h',g,d,tk',os⟩) :
    codeAny (model prog w) A (.call (.ref 153) ⟨[.ref L.lx],[]⟩) R ⟨h,g,d,T0,os⟩:=by
  refine Mn.enter hA ?_
  have lo:=S.low
  have fmd:FreeL [L.lxd,L.gn]:=⟨G.fr.1,G.fr.2.1,trivial⟩
  have hmd:∀ a ∈ [L.lxd,L.gn],a < h.objs.size:=fun a ha=>by
    rcases List.mem_cons.mp ha with rfl | ha
    · exact lo.1.2.1
    · rw [List.mem_singleton.mp ha]; exact lo.1.1
  have lro:∀ {l:Int} {t:Nat},LowL h.objs.size [(L.lx,instO 163 L.lxd),(L.lxd,lxD w L l t),(L.pb,listO [] L.pe)]:=⟨lo.2 _ (by simp [LX.addrs]),lo.1.2.1,lo.1.2.2,trivial⟩
  obtain ⟨tl0,hl0⟩:=S.lines
  obtain ⟨v0,tc0,r0,hx0,_⟩:=S.still
  have D0:Led w b1 b2 h [L.lxd,L.gn] [(L.lx,instO 163 L.lxd),(L.lxd,lxD w L lno tl0),(L.pb,listO [] L.pe)] [] 0 T0 .nil h:=Led.start _ _ top ⟨hx0,hl0,S.pb,trivial⟩
  have Z0:=S
  have OD:=D0.ok
  refine go F 118 3 9 [153,152,1000,1000,2,1000,2000,163,163,162,2000,163,163,162,2000,2000,163,2001,2002,2002,2002,2002,2002,1000,1000,3,0,1000,2000,163,163,162,2000,163,163,162,146,146,146,2000,2000,163,2001,163,163,162,146,1001,1000,1000,1000,1002,1002,7000,1002,1002,1002] (i:=0) OD hA hh fun h1=>?_
  intro o_h1 OD
  have M0:=D0.mid OD
  have Z0':=Z0.led Z0 D0 OD
  refine Mn.st (.call (.builtin "callable_iterator.__next__") ⟨[.ref (h.objs.size + 2)],[]⟩) ?_
  have hb0:h1.get? (h.objs.size + 1) = some (methO 146 L.lx):=OD.2.ob 1
  have hi:h1.get? (h.objs.size + 2) = some (citO (h.objs.size + 1) (T0 + 7)):=OD.2.ob 2
  refine c_citer_end (md:=[L.lxd,L.gn]) (P:=fun h'=>LexSt w L h' (k) lno) (aH hh) M0.2.2.1 fmd hi hb0 (Z0'.nit hi) (not2 (Z0'.nbm hb0)).mem (ne_cls hi hb0 (ty_ne (by decide))) (fun A' R' a1 a2 a3 K'=>read_bm_eof F (lo_in (depth_ok hA (by kernel_rfl)) a2 a3) a1 M0.2.2.1 G Z0' hb0 (Z0'.nbm hb0) he hk K') fun y1 y2 tky e kj sj Z1 kb2 z2 z3 hi2 he2=>?_
  obtain ⟨tl1,hl1⟩:=Z1.lines
  obtain ⟨v1,tcc1,r1,hx1,_⟩:=Z1.still
  have D1:=D0.next (t2:=tky) [(L.lx,instO 163 L.lxd),(L.lxd,lxD w L lno tl1),(L.pb,listO [] L.pe)] OD kj sj ⟨hx1,hl1,Z1.pb,trivial⟩ lro hmd fmd
  clear OD; have OD:=D1.ok
  have zy:y1.objs.size ≤ y2.objs.size:=Nat.le_trans z2 (Nat.le_of_lt z3)
  replace OD:=creL tky [(2,(h.objs.size + 2),citE)] [(e + 1,stopO e)] OD ⟨rfl,hi2,trivial⟩ kb2 zy ⟨⟨he2,Nat.le_succ_of_le z2⟩,trivial⟩
  refine go F 6 3 0 [2003,1000] (i:=0) OD hA hh fun h2=>?_
  intro o_h2 OD
  have kf:=OD.2.kept
  refine Mn.en (.ret (.str ⟨#[]⟩ (T0 + 4))) ?_
  exact K _ _ _ (fun b o e n=>kf b o (D1.kb b o e n) (D1.out (Heap.lt_size e))) (Nat.le_trans D1.sz (size_le OD.1 OD.2)) (Z1.keep kf (D1.out Z0.low.1.1) (D1.out Z0.low.1.2.1) (D1.out Z0.low.1.2.2) fun a ha=>D1.out (Z0.low.2 a ha))
theorem tokEp (F:Follows w b1 b2) (hA:Lo A 300) (hh:A.handled = none) (top:TopOk w h) (G:L.Good) (S:LexSt w L h k lno) (q0:L.x.cps[k]? = some (s0 + 1)) (hhs0:(s0 + 1) ∈ [32,10]) (he:L.x.length ≤ k + 1) (hk:k + 1 ≤ 600)
    (K:∀ h' tk' tc,KeepsBut [L.lxd,L.gn] h h' → h.objs.size ≤ h'.objs.size → LexSt w L h' (k + 1) (lno + lnoF (s0 + 1)) → R (.ok (.ret (.str S0 tc))) ⟨h',g,d,tk',os⟩) :
    codeAny (model prog w) A (.call (.ref 153) ⟨[.ref L.lx],[]⟩) R ⟨h,g,d,T0,os⟩:=by
  refine Mn.enter hA ?_
  have lo:=S.low
  have fmd:FreeL [L.lxd,L.gn]:=⟨G.fr.1,G.fr.2.1,trivial⟩
  have hmd:∀ a ∈ [L.lxd,L.gn],a < h.objs.size:=fun a ha=>by
    rcases List.mem_cons.mp ha with rfl | ha
    · exact lo.1.2.1
    · rw [List.mem_singleton.mp ha]; exact lo.1.1
  have lro:∀ {l:Int} {t:Nat},LowL h.objs.size [(L.lx,instO 163 L.lxd),(L.lxd,lxD w L l t),(L.pb,listO [] L.pe)]:=⟨lo.2 _ (by simp [LX.addrs]),lo.1.2.1,lo.1.2.2,trivial⟩
  obtain ⟨tl0,hl0⟩:=S.lines
  obtain ⟨v0,tc0,r0,hx0,_⟩:=S.still
  have D0:Led w b1 b2 h [L.lxd,L.gn] [(L.lx,instO 163 L.lxd),(L.lxd,lxD w L lno tl0),(L.pb,listO [] L.pe)] [] 0 T0 .nil h:=Led.start _ _ top ⟨hx0,hl0,S.pb,trivial⟩
  have Z0:=S
  have OD:=D0.ok
  refine go F 125 3 9 [153,152,1000,1000,2,1000,2000,163,163,162,2000,163,163,162,2000,2000,163,2001,2002,2002,2002,2002,2002,1000,1000,3,0,1000,2000,163,163,162,2000,163,163,162,146,146,146,2000,2000,163,2001,163,163,162,146,1001,1000,1000,1000,1002,1002,7000,1002,1002,1002,1002,1002,1002,1001,146] (i:=0) OD hA hh fun h1=>?_
  intro o_h1 OD
  have M0:=D0.mid OD
  have Z0':=Z0.led Z0 D0 OD
  refine Mn.st (.call (.ref (h.objs.size + 1)) ⟨[],[]⟩) ?_
  have hb0:h1.get? (h.objs.size + 1) = some (methO 146 L.lx):=OD.2.ob 1
  refine read_b F (dk hA) (aH hh) M0.2.2.1 G Z0' hb0 (Z0'.nbm hb0) q0 fun j1 tk1 tc1 kj sj Z1=>?_
  obtain ⟨tl1,hl1⟩:=Z1.lines
  obtain ⟨v1,tcc1,r1,hx1,_⟩:=Z1.still
  have D1:=D0.next (t2:=tk1) [(L.lx,instO 163 L.lxd),(L.lxd,lxD w L (lno + lnoF (s0 + 1)) tl1),(L.pb,listO [] L.pe)] OD kj sj ⟨hx1,hl1,Z1.pb,trivial⟩ lro hmd fmd
  clear OD; have OD:=D1.ok
  refine goP F 44 3 2 [1002,1002,7000,7200,1000,1000,1000,1000,2000,163,163,162,2000,163,163,162,2000,2000,163,2001,7201,1002] [(!(Fast.tw15715988071286343644 (⟨#[10,9,13,32]⟩:Str) (S1 (s0 + 1)) 0 (⟨#[10,9,13,32]⟩:Str).length 1).isEmpty) = true,(((⟨#[]⟩:Str)).cps.toList == ((S1 (s0 + 1))).cps.toList) = false] (i:=0) OD hA hh ⟨(wsF (ws_sep _ hhs0)),rfl,trivial⟩ fun h2=>?_
  intro o_h2 OD
  have M1:=D1.mid OD
  have Z1':=Z1.led Z0 D1 OD
  refine Mn.st (.call (.builtin "callable_iterator.__next__") ⟨[.ref (h.objs.size + 2)],[]⟩) ?_
  have hb1:h2.get? (h.objs.size + 1) = some (methO 146 L.lx):=OD.2.ob 1
  have hi:h2.get? (h.objs.size + 2) = some (citO (h.objs.size + 1) (T0 + 7)):=OD.2.ob 2
  refine c_citer_end (md:=[L.lxd,L.gn]) (P:=fun h'=>LexSt w L h' (k + 1) (lno + lnoF (s0 + 1))) (aH hh) M1.2.2.1 fmd hi hb1 (Z1'.nit hi) (not2 (Z1'.nbm hb1)).mem (ne_cls hi hb1 (ty_ne (by decide))) (fun A' R' a1 a2 a3 K'=>read_bm_eof F (lo_in (depth_ok hA (by kernel_rfl)) a2 a3) a1 M1.2.2.1 G Z1' hb1 (Z1'.nbm hb1) he hk K') fun y1 y2 tky e kj sj Z2 kb2 z2 z3 hi2 he2=>?_
  obtain ⟨tl2,hl2⟩:=Z2.lines
  obtain ⟨v2,tcc2,r2,hx2,_⟩:=Z2.still
  have D2:=D1.next (t2:=tky) [(L.lx,instO 163 L.lxd),(L.lxd,lxD w L (lno + lnoF (s0 + 1)) tl2),(L.pb,listO [] L.pe)] OD kj sj ⟨hx2,hl2,Z2.pb,trivial⟩ lro hmd fmd
  clear OD; have OD:=D2.ok
  have zy:y1.objs.size ≤ y2.objs.size:=Nat.le_trans z2 (Nat.le_of_lt z3)
  replace OD:=creL tky [(2,(h.objs.size + 2),citE)] [(e + 1,stopO e)] OD ⟨rfl,hi2,trivial⟩ kb2 zy ⟨⟨he2,Nat.le_succ_of_le z2⟩,trivial⟩
  refine go F 6 3 0 [2003,1000] (i:=0) OD hA hh fun h3=>?_
  intro o_h3 OD
  have kf:=OD.2.kept
  refine Mn.en (.ret (.str ⟨#[]⟩ (T0 + 4))) ?_
  exact K _ _ _ (fun b o e n=>kf b o (D2.kb b o e n) (D2.out (Heap.lt_size e))) (Nat.le_trans D2.sz (size_le OD.1 OD.2)) (Z2.keep kf (D2.out Z0.low.1.1) (D2.out Z0.low.1.2.1) (D2.out Z0.low.1.2.2) fun a ha=>D2.out (Z0.low.2 a ha))
end
end Mine
namespace Mine
open PySem PySem.W PySem.W.X PyProof.Rows
noncomputable def wordT (m c1 c2:Nat):List Nat:=match m with
  | 0=>[c1,c2]
  | 1=>[34,c1,c2,34]
  | _=>[92,c1,92,c2]
theorem drop_cons {l:List Nat} {k a:Nat} {r:List Nat} (h:l.drop k = a :: r):l[k]? = some a ∧ l.drop (k + 1) = r:=by
  have h1:k < l.length:=by
    rcases Nat.lt_or_ge k l.length with x | x
    · exact x
    · rw [List.drop_eq_nil_of_le x] at h; cases h
  rw [List.drop_eq_getElem_cons h1] at h
  injection h with e1 e2
  exact ⟨by rw [List.getElem?_eq_getElem h1,e1],e2⟩
theorem hex_pos:∀ c ∈ hexs,c ≠ 0:=by decide
theorem pos_hex:∀ c ∈ hexs,∃ d,c = d + 1:=fun c hc=>⟨c - 1,by have:=hex_pos c hc; lia⟩
theorem pos_sep:∀ c ∈ [32,10],∃ d,c = d + 1:=fun c hc=>by
  rcases List.mem_cons.mp hc with rfl | hc
  · exact ⟨31,rfl⟩
  · rw [List.mem_singleton.mp hc]; exact ⟨9,rfl⟩
noncomputable def pdl:Option Nat → Int
  | none=>0
  | some s=>lnoF s
noncomputable def pdn (m sp:Nat):Option Nat:=match m with
  | 1=>some sp
  | _=>none
noncomputable def spl (m sp:Nat):Int:=match m with
  | 1=>0
  | _=>lnoF sp
section
variable {w:World} {b1 b2:Bool} {A:Around} {R:Result → Shared → Prop} {h:Heap} {g:Array GenState} {d:Drawn} {T0:Nat} {os:OsState} {L:LX} {k:Nat} {lno:Int}
theorem tok_step (F:Follows w b1 b2) (hA:Lo A 400) (hh:A.handled = none) (top:TopOk w h) (G:L.Good) (S:LexSt w L h k lno) {m c1 c2 sp:Nat} {pd:Option Nat} {rest:List Nat}
    (hd:L.x.cps.toList.drop k = pd.toList ++ (wordT m c1 c2 ++ sp :: rest)) (hm:m = 0 ∨ m = 1 ∨ m = 2) (hc1:c1 ∈ hexs) (hc2:c2 ∈ hexs) (hsp:sp ∈ [32,10]) (hpd:∀ s,pd = some s → s ∈ [32,10])
    (K:∀ h' tk' tc k',k' ≤ k + 6 → KeepsBut [L.lxd,L.gn] h h' → h.objs.size ≤ h'.objs.size → LexSt w L h' k' (lno + pdl pd + spl m sp) → L.x.cps.toList.drop k' = (pdn m sp).toList ++ rest → R (.ok (.ret (.str (S1 c1 ++ S1 c2) tc))) ⟨h',g,d,tk',os⟩) :
    codeAny (model prog w) A (.call (.ref 153) ⟨[.ref L.lx],[]⟩) R ⟨h,g,d,T0,os⟩:=by
  obtain ⟨d1,rfl⟩:=pos_hex _ hc1
  obtain ⟨d2,rfl⟩:=pos_hex _ hc2
  obtain ⟨dp,rfl⟩:=pos_sep _ hsp
  have ar:∀ {i a:Nat},L.x.cps.toList[i]? = some a → L.x.cps[i]? = some a:=fun e=>by rw [Array.getElem?_toList] at e; exact e
  cases pd with
  | none =>
    simp only [pdl,Option.toList,List.nil_append] at hd K
    rcases hm with rfl | rfl | rfl
    · obtain ⟨q0,r0⟩:=drop_cons hd
      obtain ⟨q1,r1⟩:=drop_cons r0
      obtain ⟨q2,r2⟩:=drop_cons r1
      refine tok0 F hA hh top G S (ar q0) hc1 (ar q1) hc2 (ar q2) hsp fun h' tk' tc kb sz S'=>K h' tk' tc _ (by lia) kb sz ?_ r2
      rw [show lno + 0 + spl 0 (dp + 1) = lno + lnoF (dp + 1) by simp [spl]]; exact S'
    · obtain ⟨q0,r0⟩:=drop_cons hd
      obtain ⟨q1,r1⟩:=drop_cons r0
      obtain ⟨q2,r2⟩:=drop_cons r1
      obtain ⟨q3,r3⟩:=drop_cons r2
      refine tok1 F hA hh top G S (ar q0) (ar q1) hc1 (ar q2) hc2 (ar q3) fun h' tk' tc kb sz S'=>K h' tk' tc _ (by lia) kb sz ?_ r3
      rw [show lno + 0 + spl 1 (dp + 1) = lno by simp [spl]]; exact S'
    · obtain ⟨q0,r0⟩:=drop_cons hd
      obtain ⟨q1,r1⟩:=drop_cons r0
      obtain ⟨q2,r2⟩:=drop_cons r1
      obtain ⟨q3,r3⟩:=drop_cons r2
      obtain ⟨q4,r4⟩:=drop_cons r3
      refine tok2 F hA hh top G S (ar q0) (ar q1) hc1 (ar q2) (ar q3) hc2 (ar q4) hsp fun h' tk' tc kb sz S'=>K h' tk' tc _ (by lia) kb sz ?_ r4
      rw [show lno + 0 + spl 2 (dp + 1) = lno + lnoF (dp + 1) by simp [spl]]; exact S'
  | some s =>
    have hs:=hpd s rfl
    obtain ⟨ds,rfl⟩:=pos_sep _ hs
    simp only [pdl,Option.toList,List.cons_append,List.nil_append] at hd K
    obtain ⟨q,r⟩:=drop_cons hd
    rcases hm with rfl | rfl | rfl
    · obtain ⟨q0,r0⟩:=drop_cons r
      obtain ⟨q1,r1⟩:=drop_cons r0
      obtain ⟨q2,r2⟩:=drop_cons r1
      refine tok0p F hA hh top G S (ar q) hs (ar q0) hc1 (ar q1) hc2 (ar q2) hsp fun h' tk' tc kb sz S'=>K h' tk' tc _ (by lia) kb sz ?_ r2
      exact S'
    · obtain ⟨q0,r0⟩:=drop_cons r
      obtain ⟨q1,r1⟩:=drop_cons r0
      obtain ⟨q2,r2⟩:=drop_cons r1
      obtain ⟨q3,r3⟩:=drop_cons r2
      refine tok1p F hA hh top G S (ar q) hs (ar q0) (ar q1) hc1 (ar q2) hc2 (ar q3) fun h' tk' tc kb sz S'=>K h' tk' tc _ (by lia) kb sz ?_ r3
      rw [show lno + lnoF (ds + 1) + spl 1 (dp + 1) = lno + lnoF (ds + 1) by simp [spl]]; exact S'
    · obtain ⟨q0,r0⟩:=drop_cons r
      obtain ⟨q1,r1⟩:=drop_cons r0
      obtain ⟨q2,r2⟩:=drop_cons r1
      obtain ⟨q3,r3⟩:=drop_cons r2
      obtain ⟨q4,r4⟩:=drop_cons r3
      refine tok2p F hA hh top G S (ar q) hs (ar q0) (ar q1) hc1 (ar q2) (ar q3) hc2 (ar q4) hsp fun h' tk' tc kb sz S'=>K h' tk' tc _ (by lia) kb sz ?_ r4
      exact S'
theorem tok_last (F:Follows w b1 b2) (hA:Lo A 300) (hh:A.handled = none) (top:TopOk w h) (G:L.Good) (S:LexSt w L h k lno) {pd:Option Nat}
    (hd:L.x.cps.toList.drop k = pd.toList) (hk:k ≤ 550) (hpd:∀ s,pd = some s → s ∈ [32,10])
    (K:∀ h' tk' tc k',KeepsBut [L.lxd,L.gn] h h' → h.objs.size ≤ h'.objs.size → LexSt w L h' k' (lno + pdl pd) → R (.ok (.ret (.str S0 tc))) ⟨h',g,d,tk',os⟩) :
    codeAny (model prog w) A (.call (.ref 153) ⟨[.ref L.lx],[]⟩) R ⟨h,g,d,T0,os⟩:=by
  have ar:∀ {i a:Nat},L.x.cps.toList[i]? = some a → L.x.cps[i]? = some a:=fun e=>by rw [Array.getElem?_toList] at e; exact e
  have lz:∀ {i:Nat},L.x.cps.toList.drop i = [] → L.x.length ≤ i:=fun e=>by
    have:=List.drop_eq_nil_iff.mp e
    rw [Array.length_toList] at this
    exact this
  cases pd with
  | none =>
    refine tokE F hA hh top G S (lz hd) (by lia) fun h' tk' tc kb sz S'=>K h' tk' tc k kb sz ?_
    rw [show lno + pdl none = lno by simp [pdl]]; exact S'
  | some s =>
    have hs:=hpd s rfl
    obtain ⟨ds,rfl⟩:=pos_sep _ hs
    obtain ⟨q,r⟩:=drop_cons hd
    exact tokEp F hA hh top G S (ar q) hs (lz r) (by lia) fun h' tk' tc kb sz S'=>K h' tk' tc _ kb sz S'
end
end Mine
namespace Mine
open PySem PySem.W PySem.W.X PyProof.Rows
noncomputable def sepN (k:Nat):Nat:=if k % 2 = 0 then 32 else 10
noncomputable def textT:Nat → List (Nat × Nat × Nat) → List Nat
  | _,[]=>[]
  | k,w :: r=>wordT w.1 w.2.1 w.2.2 ++ sepN k :: textT (k + 1) r
noncomputable def Man (m:Nat):Prop:=m = 0 ∨ m = 1 ∨ m = 2
theorem spl_pd {m s:Nat} (h:Man m):spl m s + pdl (pdn m s) = lnoF s:=by
  rcases h with rfl | rfl | rfl <;> simp [spl,pdl,pdn]
theorem pdn_sep {m s:Nat} (hs:s ∈ [32,10]):∀ z,pdn m s = some z → z ∈ [32,10]:=fun z e=>by
  unfold pdn at e
  split at e
  · injection e with e; rw [← e]; exact hs
  · cases e
section
variable {w:World} {b1 b2:Bool} {A:Around} {R:Result → Shared → Prop} {h:Heap} {g:Array GenState} {d:Drawn} {T0:Nat} {os:OsState} {L:LX} {lno:Int} {m0 ca0 cb0 m1 ca1 cb1 m2 ca2 cb2 m3 ca3 cb3 m4 ca4 cb4 m5 ca5 cb5:Nat}
theorem words_call (F:Follows w b1 b2) (hA:Lo A 200) (hh:A.handled = none) (top:TopOk w h) (G:L.Good) (S:LexSt w L h 0 lno)
    (hx:L.x.cps.toList = textT 0 [(m0,ca0,cb0),(m1,ca1,cb1),(m2,ca2,cb2),(m3,ca3,cb3),(m4,ca4,cb4),(m5,ca5,cb5)]) (hm0:Man m0) (ha0:ca0 ∈ hexs) (hb0:cb0 ∈ hexs) (hm1:Man m1) (ha1:ca1 ∈ hexs) (hb1:cb1 ∈ hexs) (hm2:Man m2) (ha2:ca2 ∈ hexs) (hb2:cb2 ∈ hexs) (hm3:Man m3) (ha3:ca3 ∈ hexs) (hb3:cb3 ∈ hexs) (hm4:Man m4) (ha4:ca4 ∈ hexs) (hb4:cb4 ∈ hexs) (hm5:Man m5) (ha5:ca5 ∈ hexs) (hb5:cb5 ∈ hexs)
    (K:∀ h' tk' W t0 t1 t2 t3 t4 t5 k',KeepsBut [L.lxd,L.gn] h h' → h.objs.size ≤ h'.objs.size → h.objs.size ≤ W → LexSt w L h' k' (lno + 3) →
      h'.get? W = some (listO [.str (S1 ca0 ++ S1 cb0) t0,.str (S1 ca1 ++ S1 cb1) t1,.str (S1 ca2 ++ S1 cb2) t2,.str (S1 ca3 ++ S1 cb3) t3,.str (S1 ca4 ++ S1 cb4) t4,.str (S1 ca5 ++ S1 cb5) t5] 6) → R (.ok (.ret (.ref W))) ⟨h',g,d,tk',os⟩) :
    codeAny (model prog w) A (.call (.ref 208) ⟨[.ref L.lx],[]⟩) R ⟨h,g,d,T0,os⟩:=by
  refine Mn.enter hA ?_
  have lo:=S.low
  have fmd:FreeL [L.lxd,L.gn]:=⟨G.fr.1,G.fr.2.1,trivial⟩
  have hmd:∀ a ∈ [L.lxd,L.gn],a < h.objs.size:=fun a ha=>by
    rcases List.mem_cons.mp ha with rfl | ha
    · exact lo.1.2.1
    · rw [List.mem_singleton.mp ha]; exact lo.1.1
  have lro:∀ {l:Int} {t:Nat},LowL h.objs.size [(L.lx,instO 163 L.lxd),(L.lxd,lxD w L l t),(L.pb,listO [] L.pe)]:=⟨lo.2 _ (by simp [LX.addrs]),lo.1.2.1,lo.1.2.2,trivial⟩
  obtain ⟨tl0,hl0⟩:=S.lines
  obtain ⟨v0,tcc0,r0,hx0,_⟩:=S.still
  have D0:Led w b1 b2 h [L.lxd,L.gn] [(L.lx,instO 163 L.lxd),(L.lxd,lxD w L lno tl0),(L.pb,listO [] L.pe)] [] 0 T0 .nil h:=Led.start _ _ top ⟨hx0,hl0,S.pb,trivial⟩
  have Z0:=S
  have OD:=D0.ok
  have rr0:L.x.cps.toList.drop 0 = (none:Option Nat).toList ++ textT 0 [(m0,ca0,cb0),(m1,ca1,cb1),(m2,ca2,cb2),(m3,ca3,cb3),(m4,ca4,cb4),(m5,ca5,cb5)]:=by rw [List.drop_zero,hx]; rfl
  refine go F 42 2 2 [208,207,1000,1000,2,1000,1000,1000,2000,163,163,162,2000,163,163,162,2000,163,163,162,153,2000,2001,153] (i:=0) OD hA hh fun h1=>?_
  intro o_h1 OD
  have M0:=D0.mid OD
  have Z0':=Z0.led Z0 D0 OD
  have zw:h.objs.size ≤ (h.objs.size + 1):=Nat.le_add_right _ _
  refine Mn.st (.call (.ref 153) ⟨[.ref L.lx],[]⟩) ?_
  refine tok_step (m:=m0) (c1:=ca0) (c2:=cb0) (sp:=32) (rest:=textT 1 [(m1,ca1,cb1),(m2,ca2,cb2),(m3,ca3,cb3),(m4,ca4,cb4),(m5,ca5,cb5)]) F (dk hA) (aH hh) M0.2.2.1 G Z0' rr0 hm0 ha0 hb0 (by decide) (fun s e=>nomatch e) fun j1 tk1 tc1 k1 kk1 kj sj Z1 rr1=>?_
  obtain ⟨tl1,hl1⟩:=Z1.lines
  obtain ⟨v1,tcc1,r1,hx1,_⟩:=Z1.still
  have D1:=D0.next (t2:=tk1) [(L.lx,instO 163 L.lxd),(L.lxd,lxD w L (lno + pdl none + spl m0 32) tl1),(L.pb,listO [] L.pe)] OD kj sj ⟨hx1,hl1,Z1.pb,trivial⟩ lro hmd fmd
  clear OD; have OD:=D1.ok
  refine goP F 60 2 2 [1000,1000,1000,7000,7201,1000,1001,1001,1001,1001,1000,1001,1001,1001,1001,1000,2000,163,163,162,2000,163,163,162,2000,163,163,162,153,2000,2001,153] [(((S1 ca0 ++ S1 cb0)).cps.toList != ((⟨#[]⟩:Str)).cps.toList) = true] (i:=0) OD hA hh ⟨rfl,trivial⟩ fun h2=>?_
  intro o_h2 OD
  have M1:=D1.mid OD
  have Z1':=Z1.led Z0 D1 OD
  refine Mn.st (.call (.ref 153) ⟨[.ref L.lx],[]⟩) ?_
  refine tok_step (m:=m1) (c1:=ca1) (c2:=cb1) (sp:=10) (rest:=textT 2 [(m2,ca2,cb2),(m3,ca3,cb3),(m4,ca4,cb4),(m5,ca5,cb5)]) F (dk hA) (aH hh) M1.2.2.1 G Z1' rr1 hm1 ha1 hb1 (by decide) (pdn_sep (by decide)) fun j2 tk2 tc2 k2 kk2 kj sj Z2 rr2=>?_
  obtain ⟨tl2,hl2⟩:=Z2.lines
  obtain ⟨v2,tcc2,r2,hx2,_⟩:=Z2.still
  have D2:=D1.next (t2:=tk2) [(L.lx,instO 163 L.lxd),(L.lxd,lxD w L ((lno + pdl none + spl m0 32) + pdl (pdn m0 32) + spl m1 10) tl2),(L.pb,listO [] L.pe)] OD kj sj ⟨hx2,hl2,Z2.pb,trivial⟩ lro hmd fmd
  clear OD; have OD:=D2.ok
  refine goP F 59 2 2 [1000,1000,1000,7000,7201,1000,1001,1001,1001,1001,1000,1001,1001,1001,1001,1000,2000,163,163,162,2000,163,163,162,2000,163,163,162,153,2000,2001,153] [(((S1 ca1 ++ S1 cb1)).cps.toList != ((⟨#[]⟩:Str)).cps.toList) = true] (i:=0) OD hA hh ⟨rfl,trivial⟩ fun h3=>?_
  intro o_h3 OD
  have M2:=D2.mid OD
  have Z2':=Z2.led Z0 D2 OD
  refine Mn.st (.call (.ref 153) ⟨[.ref L.lx],[]⟩) ?_
  refine tok_step (m:=m2) (c1:=ca2) (c2:=cb2) (sp:=32) (rest:=textT 3 [(m3,ca3,cb3),(m4,ca4,cb4),(m5,ca5,cb5)]) F (dk hA) (aH hh) M2.2.2.1 G Z2' rr2 hm2 ha2 hb2 (by decide) (pdn_sep (by decide)) fun j3 tk3 tc3 k3 kk3 kj sj Z3 rr3=>?_
  obtain ⟨tl3,hl3⟩:=Z3.lines
  obtain ⟨v3,tcc3,r3,hx3,_⟩:=Z3.still
  have D3:=D2.next (t2:=tk3) [(L.lx,instO 163 L.lxd),(L.lxd,lxD w L (((lno + pdl none + spl m0 32) + pdl (pdn m0 32) + spl m1 10) + pdl (pdn m1 10) + spl m2 32) tl3),(L.pb,listO [] L.pe)] OD kj sj ⟨hx3,hl3,Z3.pb,trivial⟩ lro hmd fmd
  clear OD; have OD:=D3.ok
  refine goP F 59 2 2 [1000,1000,1000,7000,7201,1000,1001,1001,1001,1001,1000,1001,1001,1001,1001,1000,2000,163,163,162,2000,163,163,162,2000,163,163,162,153,2000,2001,153] [(((S1 ca2 ++ S1 cb2)).cps.toList != ((⟨#[]⟩:Str)).cps.toList) = true] (i:=0) OD hA hh ⟨rfl,trivial⟩ fun h4=>?_
  intro o_h4 OD
  have M3:=D3.mid OD
  have Z3':=Z3.led Z0 D3 OD
  refine Mn.st (.call (.ref 153) ⟨[.ref L.lx],[]⟩) ?_
  refine tok_step (m:=m3) (c1:=ca3) (c2:=cb3) (sp:=10) (rest:=textT 4 [(m4,ca4,cb4),(m5,ca5,cb5)]) F (dk hA) (aH hh) M3.2.2.1 G Z3' rr3 hm3 ha3 hb3 (by decide) (pdn_sep (by decide)) fun j4 tk4 tc4 k4 kk4 kj sj Z4 rr4=>?_
  obtain ⟨tl4,hl4⟩:=Z4.lines
  obtain ⟨v4,tcc4,r4,hx4,_⟩:=Z4.still
  have D4:=D3.next (t2:=tk4) [(L.lx,instO 163 L.lxd),(L.lxd,lxD w L ((((lno + pdl none + spl m0 32) + pdl (pdn m0 32) + spl m1 10) + pdl (pdn m1 10) + spl m2 32) + pdl (pdn m2 32) + spl m3 10) tl4),(L.pb,listO [] L.pe)] OD kj sj ⟨hx4,hl4,Z4.pb,trivial⟩ lro hmd fmd
  clear OD; have OD:=D4.ok
  refine goP F 59 2 2 [1000,1000,1000,7000,7201,1000,1001,1001,1001,1001,1000,1001,1001,1001,1001,1000,2000,163,163,162,2000,163,163,162,2000,163,163,162,153,2000,2001,153] [(((S1 ca3 ++ S1 cb3)).cps.toList != ((⟨#[]⟩:Str)).cps.toList) = true] (i:=0) OD hA hh ⟨rfl,trivial⟩ fun h5=>?_
  intro o_h5 OD
  have M4:=D4.mid OD
  have Z4':=Z4.led Z0 D4 OD
  refine Mn.st (.call (.ref 153) ⟨[.ref L.lx],[]⟩) ?_
  refine tok_step (m:=m4) (c1:=ca4) (c2:=cb4) (sp:=32) (rest:=textT 5 [(m5,ca5,cb5)]) F (dk hA) (aH hh) M4.2.2.1 G Z4' rr4 hm4 ha4 hb4 (by decide) (pdn_sep (by decide)) fun j5 tk5 tc5 k5 kk5 kj sj Z5 rr5=>?_
  obtain ⟨tl5,hl5⟩:=Z5.lines
  obtain ⟨v5,tcc5,r5,hx5,_⟩:=Z5.still
  have D5:=D4.next (t2:=tk5) [(L.lx,instO 163 L.lxd),(L.lxd,lxD w L (((((lno + pdl none + spl m0 32) + pdl (pdn m0 32) + spl m1 10) + pdl (pdn m1 10) + spl m2 32) + pdl (pdn m2 32) + spl m3 10) + pdl (pdn m3 10) + spl m4 32) tl5),(L.pb,listO [] L.pe)] OD kj sj ⟨hx5,hl5,Z5.pb,trivial⟩ lro hmd fmd
  clear OD; have OD:=D5.ok
  refine goP F 59 2 2 [1000,1000,1000,7000,7201,1000,1001,1001,1001,1001,1000,1001,1001,1001,1001,1000,2000,163,163,162,2000,163,163,162,2000,163,163,162,153,2000,2001,153] [(((S1 ca4 ++ S1 cb4)).cps.toList != ((⟨#[]⟩:Str)).cps.toList) = true] (i:=0) OD hA hh ⟨rfl,trivial⟩ fun h6=>?_
  intro o_h6 OD
  have M5:=D5.mid OD
  have Z5':=Z5.led Z0 D5 OD
  refine Mn.st (.call (.ref 153) ⟨[.ref L.lx],[]⟩) ?_
  refine tok_step (m:=m5) (c1:=ca5) (c2:=cb5) (sp:=10) (rest:=textT 6 []) F (dk hA) (aH hh) M5.2.2.1 G Z5' rr5 hm5 ha5 hb5 (by decide) (pdn_sep (by decide)) fun j6 tk6 tc6 k6 kk6 kj sj Z6 rr6=>?_
  obtain ⟨tl6,hl6⟩:=Z6.lines
  obtain ⟨v6,tcc6,r6,hx6,_⟩:=Z6.still
  have D6:=D5.next (t2:=tk6) [(L.lx,instO 163 L.lxd),(L.lxd,lxD w L ((((((lno + pdl none + spl m0 32) + pdl (pdn m0 32) + spl m1 10) + pdl (pdn m1 10) + spl m2 32) + pdl (pdn m2 32) + spl m3 10) + pdl (pdn m3 10) + spl m4 32) + pdl (pdn m4 32) + spl m5 10) tl6),(L.pb,listO [] L.pe)] OD kj sj ⟨hx6,hl6,Z6.pb,trivial⟩ lro hmd fmd
  clear OD; have OD:=D6.ok
  refine goP F 59 2 2 [1000,1000,1000,7000,7201,1000,1001,1001,1001,1001,1000,1001,1001,1001,1001,1000,2000,163,163,162,2000,163,163,162,2000,163,163,162,153,2000,2001,153] [(((S1 ca5 ++ S1 cb5)).cps.toList != ((⟨#[]⟩:Str)).cps.toList) = true] (i:=0) OD hA hh ⟨rfl,trivial⟩ fun h7=>?_
  intro o_h7 OD
  have M6:=D6.mid OD
  have Z6':=Z6.led Z0 D6 OD
  refine Mn.st (.call (.ref 153) ⟨[.ref L.lx],[]⟩) ?_
  refine tok_last F (dk hA) (aH hh) M6.2.2.1 G Z6' (by rw [rr6]; exact List.append_nil _) (by lia) (pdn_sep (by decide)) fun j7 tk7 tc7 k7 kj sj Z7=>?_
  obtain ⟨tl7,hl7⟩:=Z7.lines
  obtain ⟨v7,tcc7,r7,hx7,_⟩:=Z7.still
  have D7:=D6.next (t2:=tk7) [(L.lx,instO 163 L.lxd),(L.lxd,lxD w L (((((((lno + pdl none + spl m0 32) + pdl (pdn m0 32) + spl m1 10) + pdl (pdn m1 10) + spl m2 32) + pdl (pdn m2 32) + spl m3 10) + pdl (pdn m3 10) + spl m4 32) + pdl (pdn m4 32) + spl m5 10) + pdl (pdn m5 10)) tl7),(L.pb,listO [] L.pe)] OD kj sj ⟨hx7,hl7,Z7.pb,trivial⟩ lro hmd fmd
  clear OD; have OD:=D7.ok
  refine goP F 21 2 2 [1000,1000,1000,7000,7200,1000] [((S0).cps.toList != ((⟨#[]⟩:Str)).cps.toList) = false] (i:=0) OD hA hh ⟨rfl,trivial⟩ fun h8=>?_
  intro o_h8 OD
  have M7:=D7.mid OD
  refine Mn.en (.ret (.ref (h.objs.size + 1))) ?_
  have Zf:=Z7.led Z0 D7 OD
  have el:(((((((lno + pdl none + spl m0 32) + pdl (pdn m0 32) + spl m1 10) + pdl (pdn m1 10) + spl m2 32) + pdl (pdn m2 32) + spl m3 10) + pdl (pdn m3 10) + spl m4 32) + pdl (pdn m4 32) + spl m5 10) + pdl (pdn m5 10)) = lno + 3:=by
    have e0:=spl_pd (s:=32) hm0; have e1:=spl_pd (s:=10) hm1; have e2:=spl_pd (s:=32) hm2; have e3:=spl_pd (s:=10) hm3; have e4:=spl_pd (s:=32) hm4; have e5:=spl_pd (s:=10) hm5
    have f1:lnoF 32 = 0:=rfl
    have f2:lnoF 10 = 1:=rfl
    have f3:pdl none = 0:=rfl
    lia
  rw [el] at Zf
  exact K _ _ (h.objs.size + 1) tc1 tc2 tc3 tc4 tc5 tc6 _ M7.1 M7.2.1 zw Zf (OD.2.ob 1)
end
end Mine
namespace Mine
open PySem PySem.W PySem.W.X PyProof.Rows
section
variable {w:World} {b1 b2:Bool} {A:Around} {R:Result → Shared → Prop} {h:Heap} {g:Array GenState} {d:Drawn} {T0:Nat} {os:OsState} {x:Str} {tx:Nat} {c9:Addr}
noncomputable def lexOf (N c9:Addr) (T0:Nat) (x:Str) (tx:Nat):LX :=
  { lx:=N + 11,lxd:=N + 10,sm:=N + 4,smd:=N + 3,pc:=N + 9,c9:=c9,ct:=N + 1,cg:=N + 2,gn:=N + 7,pb:=N + 13,pb0:=N + 6,x:=x,tx:=tx,cup:=.ref (N + 8),
    a0:=(T0 + 20),a1:=(T0 + 22),a2:=(T0 + 25),a3:=(T0 + 27),tw:=(T0 + 23),s0:=(T0 + 4),s1:=(T0 + 2),s2:=(T0 + 6),s3:=(T0 + 9),s4:=(T0 + 7),s5:=(T0 + 11),s6:=(T0 + 15),pe:=0 }
theorem addk {N a b:Nat} (h:a ≠ b):N + a ≠ N + b:=fun e=>h (Nat.add_left_cancel e)
theorem ltk {N a b:Nat} (h:a < N):a ≠ N + b:=Nat.ne_of_lt (Nat.lt_of_lt_of_le h (Nat.le_add_right _ _))
theorem lexer_call (F:Follows w b1 b2) (hA:Lo A 300) (hh:A.handled = none) (top:TopOk w h) (hN:219 ≤ h.objs.size) (h169:h.get? 169 = some (tabO (trip 156 4 c9))) (hc9:IsCode h q_piece c9) (hx:2 ≤ x.length ∧ x.length ≤ 500)
    (K:∀ h' tk' (L:LX),L.x = x → Keeps h h' → h.objs.size ≤ h'.objs.size → L.Good → LexSt w L h' 0 1 → h.objs.size ≤ L.lxd → h.objs.size ≤ L.gn → R (.ok (.ret (.ref L.lx))) ⟨h',g,d,tk',os⟩) :
    codeAny (model prog w) A (.call (.ref 174) ⟨[.str x tx],[]⟩) R ⟨h,g,d,T0,os⟩:=by
  obtain ⟨v0,tc,r,hc⟩:=hc9
  refine Mn.enter hA ?_
  have OD:=start0 (w:=w) (b1:=b1) (b2:=b2) (ro:=[(169,tabO (trip 156 4 c9)),(c9,codeO q_piece v0 tc r)]) (s:=⟨h,g,d,T0,os⟩) top (At.mem ⟨h169,hc,trivial⟩)
  have lc:c9 < h.objs.size:=Heap.lt_size hc
  refine go F 433 14 28 [174,173,1001,1001,2,3,163,163,163,163,163,163,163,163,163,163,163,163,163,163,163,163,163,163,163,163,163,163,163,163,163,162,163,163,1004,163,1004,163,163,162,139,139,138,1005,1005,1005,1005,2,1005,1004,163,163,162,1004,163,1004,163,1004,163,163,162,1004,163,1003,1003,1003,1005,1005,1004,163,163,162,1004,163,1004,163,1004,163,163,162,1004,163,1003,1003,1003,1005,1004,163,163,162,1004,163,1004,163,1004,163,163,162,1004,163,1003,1003,1003,1005,1004,163,163,162,1004,163,1004,163,1004,163,163,162,1004,163,1003,1003,1003,1000,1000,1002,1002,173,2000,3,4,3,1000,1000,1000,1000,1004,163,163,162,1004,163,1004,163,1004,163,163,162,1004,163,1003,1003,1003,3,1000,163,163,163,163,163,163,163,163,163,163,163,163,163,163,163,163,163,163,163,163,163,163,163,163,163,162,163,163,1011,163,1011,163,163,162,139,139,138,1012,1012,1012,1012,2,1012,1011,163,163,162,1011,163,1011,163,1011,163,163,162,1011,163,1010,1010,1010,1012,1012,1011,163,163,162,1011,163,1011,163,1011,163,163,162,1011,163,1010,1010,1010,1012,1011,163,163,162,1011,163,1011,163,1011,163,163,162,1011,163,1010,1010,1010,1012,1011,163,163,162,1011,163,1011,163,1011,163,163,162,1011,163,1010,1010,1010] (i:=0) OD hA hh fun h1=>?_
  intro o_h1 OD
  refine Mn.en (.ret (.ref (h.objs.size + 11))) ?_
  refine K h1 _ (lexOf h.objs.size c9 T0 x tx) rfl OD.2.kept0 (size_le OD.1 OD.2) ⟨⟨.inl (Nat.le_add_right_of_le hN),.inl (Nat.le_add_right_of_le hN),.inl (Nat.le_add_right_of_le hN),trivial⟩,⟨⟨addk (by decide),addk (by decide),trivial⟩,⟨addk (by decide),trivial⟩,trivial,trivial⟩,⟨⟨addk (by decide),addk (by decide),addk (by decide),trivial⟩,⟨addk (by decide),addk (by decide),addk (by decide),trivial⟩,⟨addk (by decide),addk (by decide),addk (by decide),trivial⟩,⟨addk (by decide),addk (by decide),addk (by decide),trivial⟩,⟨ltk lc,ltk lc,ltk lc,trivial⟩,⟨addk (by decide),addk (by decide),addk (by decide),trivial⟩,⟨addk (by decide),addk (by decide),addk (by decide),trivial⟩,trivial⟩,hx,Nat.le_add_right_of_le hN⟩ ⟨⟨#[],0,OD.2.ob 7,rfl⟩,⟨(T0 + 18),OD.2.ob 10⟩,OD.2.ob 13,⟨v0,tc,r,OD.2.ob 11,OD.2.ob 4,OD.2.ob 3,OD.2.ob 9,OD.2.still 1 rfl,OD.2.ob 1,OD.2.ob 2,trivial⟩⟩ (Nat.le_add_right _ _) (Nat.le_add_right _ _)
end
end Mine
namespace Mine
open PySem PySem.W PySem.W.X PyProof.Rows
noncomputable def saiO (x:Str) (t:Nat) (i:Int):Obj:={ cls:=.type "str_ascii_iterator",data:=.fields #[.str x t,.int i 0] }
section
variable {w:World} {A:Around} {R:Result → Shared → Prop} {s:Shared}
theorem c_str_add {x y:Str} {t u:Nat} (hy:y.length ≠ 0) (hz:x.length + y.length ≤ 5000) (h:∀ t' tk',R (.ok (.ret (.str (x ++ y) t'))) { s with toks:=tk' }) :
    codeAny (model prog w) A (.call (.builtin "str.__add__") ⟨[.str x t,.str y u],[]⟩) R s:=by
  refine code_gives F.slot_str_add rfl F.entry_str_add (F.args_str_add_2 _ _) (gives_str_add x y t u) ?_
  by_cases hx:x.length = 0
  · rw [if_pos (by simp [hx])]
    have e:x ++ y = y:=Str.ext' (by
      have:x.cps = #[]:=Array.eq_empty_of_size_eq_zero hx
      rw [Str.cps_append,this]; simp)
    have z:=h u s.toks
    rw [e] at z
    exact z
  · rw [if_neg (by simp [hx]),if_neg (by simp [hy])]
    exact ⟨by rw [Str.length_append,PySem.sizeLine_eq]; lia,h _ _⟩
theorem c_str_iter {x:Str} {t:Nat} (hx:x.cps.all (· < 128) = true) (h:∀ h',Keeps s.heap h' → h'.objs.size = s.heap.objs.size + 1 → h'.get? s.heap.objs.size = some (saiO x t 0) → R (.ok (.ret (.ref s.heap.objs.size))) { s with heap:=h' }) :
    codeAny (model prog w) A (.call (.builtin "str.__iter__") ⟨[.str x t],[]⟩) R s:=by
  refine codeAny_call_builtin F.slot_str_iter.plain F.entry_str_iter (F.slot_str_iter.check _ _ _ _ _ _ _ _ (show s.TypeIs (.str x t) "str" from rfl) (F.args_str_iter_1 _) ?_)
  show wpAny _ _ (newFields (if (true && x.cps.all (· < 128)) = true then "str_ascii_iterator" else "str_iterator") [.str x t,rawInt 0] >>= _) _ _ s
  rw [hx,if_pos (by decide)]
  refine wpAny_bind ?_
  unfold newFields
  refine wpAny_newObj_type ?_ (by size_fits)
  refine wpAny_pure (h _ (fun b o e=>Heap.get?_push_of_some _ e) (by rw [Heap.size_push]) (Heap.get?_push_size _ rfl))
end
end Mine
namespace Mine
open PySem PySem.W PySem.W.X PyProof.Rows
theorem foldl_bytes {C:Builtin._codecs.TextCodec} (hby:∀ y,C.bytesOf y = [y.toUInt8]) (l:List Nat) (acc:Array UInt8):l.foldl (fun acc y=>acc ++ (C.bytesOf y).toArray) acc = acc ++ (l.map Nat.toUInt8).toArray:=by
  induction l generalizing acc with
  | nil=>simp
  | cons x r ih=>rw [List.foldl_cons,ih,hby]; simp
open Builtin._codecs in
theorem enc_ascii (id:String) (self:Value) (cs:Array Nat) (hn:2 ≤ cs.size) (hn2:cs.size ≤ 1000) (hx:∀ c ∈ cs,c < 128):encodeNarrow id asciiCodec none self ⟨cs⟩ = pure (cs.map Nat.toUInt8):=by
  have hb:∀ c ∈ cs,asciiCodec.bad c = false:=fun c hc=>decide_eq_false (by have:=hx c hc; lia)
  have z:¬ ((#[]:Array UInt8).size > sizeLine):=by rw [PySem.sizeLine_eq]; decide
  have z2:¬ ((cs.map Nat.toUInt8).size > sizeLine):=by rw [PySem.sizeLine_eq,Array.size_map]; lia
  unfold encodeNarrow
  generalize hc:asciiCodec = C at *
  have hby:∀ y,C.bytesOf y = [y.toUInt8]:=fun y=>by rw [← hc]; rfl
  have hex:cs.extract 0 cs.size = cs:=by simp
  have hf:(cs.extract 0).findIdx? C.bad = none:=by
    rw [hex,Array.findIdx?_eq_none_iff]
    exact hb
  have hfo:Array.foldl (fun acc y=>acc ++ (C.bytesOf y).toArray) (#[]:Array UInt8) cs = cs.map Nat.toUInt8:=by
    rw [← Array.foldl_toList,foldl_bytes hby]
    apply Array.toList_inj.mp
    simp
  obtain ⟨k,hk⟩:∃ k,cs.size = k + 2:=⟨cs.size - 2,by lia⟩
  have e0:cs[0]? = some cs[0]:=Array.getElem?_eq_getElem (by lia)
  dsimp only
  rw [Std.Legacy.Range.forIn_eq_forIn_range',show List.range' ([: Str.length ⟨cs⟩]:Std.Legacy.Range).start ([: Str.length ⟨cs⟩]:Std.Legacy.Range).size ([: Str.length ⟨cs⟩]:Std.Legacy.Range).step = 0 :: 1 :: List.range' 2 k from by simp [Str.length,Std.Legacy.Range.size,hk,List.range'],List.forIn_cons]
  rw [if_neg z]
  dsimp only
  rw [e0]
  dsimp only
  rw [hb _ (Array.getElem_mem _)]
  rw [if_pos (by decide)]
  rw [hf,Option.getD_none,hex,hex,hfo]
  rw [pure_bind]
  dsimp only
  rw [List.forIn_cons]
  dsimp only
  rw [if_neg z2]
  have e1:cs[0 + cs.size]? = none:=Array.getElem?_eq_none (by lia)
  rw [e1]
  rfl
section
variable {w:World} {A:Around} {R:Result → Shared → Prop} {s:Shared}
noncomputable def asciiS:Str:=⟨#[97,115,99,105,105]⟩
open Builtin._codecs in
theorem road_ascii (id:String) (self:Value) (x:Str):encodeRoad id self x asciiS none = (do mkBytes (← encodeNarrow id asciiCodec none self x)):=by
  first | rfl | kernel_rfl
theorem c_encode {cs:Array Nat} {t u:Nat} (hn:2 ≤ cs.size) (hn2:cs.size ≤ 1000) (hx:∀ c ∈ cs,c < 128) (h:R (.ok (.ret (.bytes (cs.map Nat.toUInt8) s.toks))) { s with toks:=s.toks + 1 }) :
    codeAny (model prog w) A (.call (.builtin "str.encode") ⟨[.str ⟨cs⟩ t,.str asciiS u],[]⟩) R s:=by
  refine codeAny_call_builtin F.slot_str_encode.plain F.entry_str_encode (F.slot_str_encode.check _ _ _ _ _ _ _ _ (show s.TypeIs (.str ⟨cs⟩ t) "str" from rfl) (F.args_str_encode_2 _ _) ?_)
  have e:Builtin.«str.encode» ⟨[.str ⟨cs⟩ t,.str asciiS u],[]⟩ = (do ret (← Builtin._codecs.encodeRoad "str.encode" (.str ⟨cs⟩ t) ⟨cs⟩ asciiS none)):=by first | rfl | kernel_rfl
  rw [e,road_ascii,enc_ascii _ _ _ hn hn2 hx]
  have g:Gives (do ret (← (do mkBytes (← (pure (cs.map Nat.toUInt8):Sem (Array UInt8)))))) (.bytes (cs.map Nat.toUInt8)):=.of_eq rfl
  exact g prog w A R s ⟨by rw [Array.size_map,PySem.sizeLine_eq]; lia,h⟩
end
end Mine
namespace Mine
open PySem PySem.W PySem.W.X PyProof.Rows
open Builtin._codecs in
theorem find_ascii {b:Array UInt8} {p:Nat} {c:UInt8} (h:b[p]? = some c) (hc:c.toNat < 128) (f:Bool):asciiDecoder.find f b p = .text [c.toNat] (p + 1):=by
  have e:b.getD p 0 = c:=by
    rw [Array.getD_eq_getD_getElem?,h]; rfl
  show (let c:=(b.getD p 0).toNat; if c < 128 then Found.char c (p + 1) else _) = _
  rw [e]
  exact if_pos hc
theorem line_not {α:Type} {l:Array α} (h:l.size ≤ 4):¬ (l.size > sizeLine):=by rw [PySem.sizeLine_eq]; lia
open Builtin._codecs in
theorem run_ascii2 (id:String) (a b:UInt8) (ha:a.toNat < 128) (hb:b.toNat < 128):runDecoder id asciiDecoder none true #[a,b] 0 [] = pure (#[a.toNat,b.toNat],2):=by
  have f0:=find_ascii (b:=#[a,b]) (p:=0) (c:=a) rfl ha true
  have f1:=find_ascii (b:=#[a,b]) (p:=0 + 1) (c:=b) rfl hb true
  unfold runDecoder
  generalize asciiDecoder = D at *
  dsimp only
  rw [Std.Legacy.Range.forIn_eq_forIn_range',show List.range' ([0:(#[a,b]:Array UInt8).size]:Std.Legacy.Range).start ([0:(#[a,b]:Array UInt8).size]:Std.Legacy.Range).size ([0:(#[a,b]:Array UInt8).size]:Std.Legacy.Range).step = [0,1] from by simp [Std.Legacy.Range.size,List.range']]
  rw [List.forIn_cons,if_neg (line_not (by simp)),if_neg (by simp),f0]
  simp only [pure_bind]
  rw [List.forIn_cons,if_neg (line_not (by simp)),if_neg (by simp),f1]
  rfl
open Builtin._codecs in
theorem run_ascii4 (id:String) (a b c d:UInt8) (ha:a.toNat < 128) (hb:b.toNat < 128) (hc:c.toNat < 128) (hd:d.toNat < 128):runDecoder id asciiDecoder none true #[a,b,c,d] 0 [] = pure (#[a.toNat,b.toNat,c.toNat,d.toNat],4):=by
  have f0:=find_ascii (b:=#[a,b,c,d]) (p:=0) (c:=a) rfl ha true
  have f1:=find_ascii (b:=#[a,b,c,d]) (p:=0 + 1) (c:=b) rfl hb true
  have f2:=find_ascii (b:=#[a,b,c,d]) (p:=0 + 1 + 1) (c:=c) rfl hc true
  have f3:=find_ascii (b:=#[a,b,c,d]) (p:=0 + 1 + 1 + 1) (c:=d) rfl hd true
  unfold runDecoder
  generalize asciiDecoder = D at *
  dsimp only
  rw [Std.Legacy.Range.forIn_eq_forIn_range',show List.range' ([0:(#[a,b,c,d]:Array UInt8).size]:Std.Legacy.Range).start ([0:(#[a,b,c,d]:Array UInt8).size]:Std.Legacy.Range).size ([0:(#[a,b,c,d]:Array UInt8).size]:Std.Legacy.Range).step = [0,1,2,3] from by simp [Std.Legacy.Range.size,List.range']]
  rw [List.forIn_cons,if_neg (line_not (by simp)),if_neg (by simp),f0]
  simp only [pure_bind]
  rw [List.forIn_cons,if_neg (line_not (by simp)),if_neg (by simp),f1]
  simp only [pure_bind]
  rw [List.forIn_cons,if_neg (line_not (by simp)),if_neg (by simp),f2]
  simp only [pure_bind]
  rw [List.forIn_cons,if_neg (line_not (by simp)),if_neg (by simp),f3]
  rfl
section
variable {w:World} {A:Around} {R:Result → Shared → Prop} {s:Shared}
theorem road_dec {id:String} {b:Array UInt8}:Builtin._codecs.decodeRoad id b asciiS none [] = (Builtin._codecs.runDecoder id Builtin._codecs.asciiDecoder none true b 0 [] >>= fun r=>mkStr ⟨r.1⟩):=by kernel_rfl
theorem meets_text_ascii {b:Array UInt8} {x:Str} {n:Nat} {t t1 t2:Tok} {d:Str} (hd:∀ id,Builtin._codecs.runDecoder id Builtin._codecs.asciiDecoder none true b 0 [] = pure (x.cps,n)) :
    Meets (Builtin.«_codecs.decode.text» ⟨[.bytes b t,.str asciiS t1,.none,.str d t2],[]⟩) (fun _ R s=>x.length ≤ sizeLine ∧ R (.ok (.ret (.str x s.toks))) { s with toks:=s.toks + 1 }):=by
  refine .of_wp fun prog w A R s hS=>?_
  obtain ⟨hsz,h⟩:=hS
  show wpAny _ _ (Builtin.Bytes.bytesLike _ (.bytes b t) >>= fun r=>_) _ _ s
  refine wpAny_bind (wpAny_of_eq KBd.like_eq ?_)
  refine wpAny_bind (wpAny_of_eq KBd.held_eq ?_)
  show wpAny _ _ (Builtin._codecs.decodeRoad _ b asciiS none [] >>= fun v=>_) _ _ s
  rw [road_dec,hd]
  refine wpAny_bind (wpAny_bind (wpAny_pure ?_))
  exact wpAny_mkStr (wpAny_pure ⟨_,rfl,h⟩) hsz
theorem args_dec (a b:Value):argsOk "bytes.decode" ⟨[a,b],[]⟩:=by
  unfold argsOk; rw [signature?_of (id:="bytes.decode") (n:=['e','d','o','c','e','d']) (o:=['s','e','t','y','b']) (by kernel_rfl) FB.owner_bytes]; kernel_rfl
theorem dec_entry {c:UInt8} {cs:List UInt8} {t u:Tok}:Builtin.«bytes.decode» ⟨[.bytes (c :: cs).toArray t,.str asciiS u],[]⟩ = (mkStr (Str.ofString "utf-8") >>= fun _=>mkStr asciiS >>= fun e=>mkStr (Str.ofString "bytes.decode") >>= fun d =>
    call (.builtin "_codecs.decode.text") [.bytes (c :: cs).toArray t,e,.none,d] >>= fun v=>ret v):=by kernel_rfl
theorem meets_dec {c:UInt8} {cs:List UInt8} {x:Str} {n:Nat} {t u:Tok} (hd:∀ id,Builtin._codecs.runDecoder id Builtin._codecs.asciiDecoder none true (c :: cs).toArray 0 [] = pure (x.cps,n)) :
    Meets (Builtin.«bytes.decode» ⟨[.bytes (c :: cs).toArray t,.str asciiS u],[]⟩) (fun _ R s=>x.length ≤ sizeLine ∧ ∀ t' k,R (.ok (.ret (.str x t'))) { s with toks:=k }):=by
  refine .of_wp fun prog w A R s hS=>?_
  obtain ⟨hsz,h⟩:=hS
  rw [dec_entry]
  refine wpAny_bind (wpAny_mkStr ?_ (by decide))
  refine wpAny_bind (wpAny_mkStr ?_ (by decide))
  refine wpAny_bind (wpAny_mkStr ?_ (by decide))
  exact wpAny_bind (call_function_meets KBd.kind_text KBd.plain_text KBd.entry_text (KBd.args_text _ _ _ _) (meets_text_ascii hd) ⟨hsz,wpAny_pure ⟨_,rfl,h _ _⟩⟩)
end
noncomputable def reCode:Array Nat:=#[14,12,4,1,1,21,22,48,57,22,65,70,0,13,9,21,22,48,57,22,65,70,0,1]
theorem inSet_hex (seen:Sre.Seen):∀ c ∈ hexs,∃ seen',Sre.inSet reCode c reCode.size 5 true seen = .ok (false,seen'):=by
  intro c hc
  simp only [hexs,List.mem_cons,List.not_mem_nil,or_false] at hc
  rcases hc with rfl | rfl | rfl | rfl | rfl | rfl | rfl | rfl | rfl | rfl | rfl | rfl | rfl | rfl | rfl | rfl <;> exact ⟨_,rfl⟩
theorem admitted_hex {m:Sre.M} (hc:m.code = reCode) (ht:∀ s,s < m.lim → m.text.getD s 0 ∈ hexs):∀ fuel s seen,∃ seen',m.admitted fuel s seen = .ok (none,seen')
  | 0,s,seen=>⟨seen,rfl⟩
  | fuel + 1,s,seen=>by
    unfold Sre.M.admitted
    by_cases hs:s ≥ m.lim
    · exact ⟨seen,if_pos hs⟩
    · rw [if_neg hs,hc]
      obtain ⟨seen',e⟩:=inSet_hex seen _ (ht s (by lia))
      rw [e]
      exact admitted_hex hc ht fuel (s + 1) seen'
theorem forSearch_is {text:Array Nat} (h1:1 ≤ text.size):∃ m:Sre.M,Sre.forSearch reCode text 0 0 text.size false = m.attemptFrom 0 true ∧ m.code = reCode ∧ m.text = text ∧ m.lim = text.size ∧ m.frames = [] ∧ m.outcome = none:=by
  have e:(decide (0 > text.size) || decide (text.size - 0 < (Sre.header reCode).1)) = false:=by
    have e1:(Sre.header reCode).1 = 1:=rfl
    rw [e1,Bool.or_eq_false_iff,decide_eq_false_iff_not,decide_eq_false_iff_not]
    lia
  unfold Sre.forSearch
  dsimp only
  rw [if_neg (by rw [e]; decide)]
  exact ⟨_,rfl,rfl,rfl,rfl,rfl,rfl⟩
theorem search_hex {text:Array Nat} (ht:∀ s,s < text.size → text.getD s 0 ∈ hexs) (h1:1 ≤ text.size) :
    ∃ m,Sre.forSearch reCode text 0 0 text.size false = m ∧ m.answer = some false ∧ m.frames = [] ∧ m.outcome = none:=by
  obtain ⟨m,e,hc,hx,hl,hf,ho⟩:=forSearch_is h1
  refine ⟨_,e,?_⟩
  unfold Sre.M.attemptFrom
  have hs:m.hasFirstSet = true:=by
    unfold Sre.M.hasFirstSet
    rw [hc]
    rfl
  obtain ⟨seen',e⟩:=admitted_hex hc (fun s hs=>by rw [hx]; exact ht s (by rw [← hl]; exact hs)) (m.lim + 1 - 0) 0 m.seen
  rw [hs,if_neg (by decide),e]
  exact ⟨rfl,hf,ho⟩
open Builtin.Re in
theorem drive_hex {m:Sre.M} (h1:m.answer = some false) (h2:m.frames = []) (h3:m.outcome = none):reDrive (2 ^ 64) m = pure { m with outcome:=some .failed }:=by
  have e:m.step = { m with outcome:=some .failed }:=by
    unfold Sre.M.step
    rw [h1,h2,h3]
    rfl
  have e2:m.runFor reTurnSteps = { m with outcome:=some .failed }:=by
    show Sre.M.runFor 4 m = _
    unfold Sre.M.runFor
    rw [h3,if_neg (by decide),e]
    rfl
  rw [show (2:Nat) ^ 64 = (2 ^ 64 - 1) + 1 from rfl]
  unfold reDrive
  rw [e2]
  rfl
section
variable {w:World} {A:Around} {R:Result → Shared → Prop} {s:Shared} {E:Value → Shared → Prop}
theorem wp_rules {M:Model} {Q:PUnit → Shared → Prop} (b:Nat → Bool) (nm:Nat → String):∀ (l:List Nat) (s:Shared),Q ⟨⟩ s → wpAny M A (forIn (m:=Sem) l PUnit.unit fun i _=>(if b i = true then do rule (nm i); pure (ForInStep.yield PUnit.unit) else pure (ForInStep.yield PUnit.unit))) Q E s
  | [],s,h=>by rw [List.forIn_nil]; exact wpAny_pure h
  | i :: l,s,h=>by
    rw [List.forIn_cons]
    refine wpAny_bind ?_
    split
    · exact wpAny_bind (wpAny_rule (wpAny_pure (wp_rules b nm l s h)))
    · exact wpAny_pure (wp_rules b nm l s h)
open Builtin.Re in
theorem wp_toEnd {M:Model} {Q:Option Sre.M → Shared → Prop} {m:Sre.M} (h1:m.answer = some false) (h2:m.frames = []) (h3:m.outcome = none) (h:Q none s):wpAny M A (reRunToEnd m) Q E s:=by
  unfold reRunToEnd
  rw [drive_hex h1 h2 h3]
  refine wpAny_bind (wpAny_pure ?_)
  refine wpAny_bind ?_
  have z:=wp_rules (M:=M) (A:=A) (E:=E) (Q:=fun _ s=>wpAny M A (match ({ m with outcome:=some .failed }:Sre.M).outcome with
    | some .matched=>pure (some { m with outcome:=some .failed })
    | some .failed=>pure none
    | some (.stuck why)=>unsupported s!"_sre:{why}"
    | none=>unsupported "internal:sre:no-outcome") Q E s) (fun i=>({ m with outcome:=some .failed }:Sre.M).seen.has i) (fun i=>Sre.names.getD i "") (List.range Sre.names.size) s (wpAny_pure h)
  exact z
theorem slot_search:Slot "re.Pattern" "search" "re.Pattern.search" :=
  .of (owner:="re.Pattern") (n:="search") (by rw [typeLookup_type,builtinLookup_eq_fast]; kernel_rfl) (by decide +kernel) (by decide +kernel) (by decide +kernel)
    (by first | exact .inl (by decide +kernel) | exact .inr (by decide +kernel)) (by rw [isSubtype_type]; kernel_rfl)
theorem entry_search:entryFor table "re.Pattern.search" = some Builtin.«re.Pattern.search»:=by first | exact entryFor_of_tree (by kernel_rfl) | exact entryFor_of_fast (by kernel_rfl)
theorem args_search (a b:Value):argsOk "re.Pattern.search" ⟨[a,b],[]⟩:=by unfold argsOk; kernel_rfl
noncomputable def codeSeq:List Value:=[.int 14 0,.int 12 0,.int 4 0,.int 1 0,.int 1 0,.int 21 0,.int 22 0,.int 48 0,.int 57 0,.int 22 0,.int 65 0,.int 70 0,.int 0 0,.int 13 0,.int 9 0,.int 21 0,.int 22 0,.int 48 0,.int 57 0,.int 22 0,.int 65 0,.int 70 0,.int 0 0,.int 1 0]
noncomputable def patO (t1 t2:Nat):Obj:={ cls:=.type "re.Pattern",data:=.fields #[.bytes #[91,94,48,45,57,65,45,70,93] t1,.int 0 t2,.int 0 0,.none,.none,.ref 51,.int 1 0] }
theorem top52 (P:Params):∃ t1 t2,(kt P).get 52 = some (patO t1 t2):=⟨_,_,(by kernel_rfl:(kt P).get 52 = some (patO (match (kt P).get 52 with | some ⟨_,_,.fields vs,_⟩=>(match vs.toList.getD 0 .none with | .bytes _ t=>t | _=>0) | _=>0) (match (kt P).get 52 with | some ⟨_,_,.fields vs,_⟩=>(match vs.toList.getD 1 .none with | .int _ t=>t | _=>0) | _=>0)))⟩
theorem top51 (P:Params):(kt P).get 51 = some (tupO codeSeq):=by kernel_rfl
end
section
variable {w:World} {A:Around} {R:Result → Shared → Prop} {s:Shared}
theorem code_is:(codeSeq.toArray.map Builtin.Re.reRawOf).map (·.toNat) = reCode:=by decide +kernel
open Builtin.Re in
theorem wp_search {M:Model} {E:Value → Shared → Prop} {Q:Option Sre.M → Shared → Prop} {c x:Array Nat} {g p l:Nat} (hc:c = reCode) (hg:g = 0) (hp:p = 0) (hl:l = x.size) (ht:∀ s,s < x.size → x.getD s 0 ∈ hexs) (h1:1 ≤ x.size) (h:Q none s) :
    wpAny M A (reRunToEnd (Sre.forSearch c x g p l false)) Q E s:=by
  subst hc hg hp hl
  obtain ⟨m,em,m1,m2,m3⟩:=search_hex ht h1
  rw [em]
  exact wp_toEnd m1 m2 m3 h
open Builtin.Re in
theorem c_search {b:Array UInt8} {t:Nat} (top:TopOk w s.heap) (hb:∀ i,i < b.size → (b.map (·.toNat)).getD i 0 ∈ hexs) (h1:1 ≤ b.size) (h2:b.size ≤ 100) (h:R (.ok (.ret .none)) s) :
    codeAny (model prog w) A (.call (.builtin "re.Pattern.search") ⟨[.ref 52,.bytes b t],[]⟩) R s:=by
  obtain ⟨t1,t2,p52⟩:=top52 w.params
  have q52:=top _ _ p52
  have q51:=top _ _ (top51 w.params)
  have hT:s.TypeIs (.ref 52) "re.Pattern":=⟨_,q52,rfl⟩
  refine codeAny_call_builtin slot_search.plain entry_search (slot_search.check _ _ _ _ _ _ _ _ hT (args_search _ _) ?_)
  show wpAny _ _ (reTarget "re.Pattern.search" "search" ⟨[.ref 52,.bytes b t],[]⟩ >>= fun t=>reAnswer t (Sre.forSearch t.code t.text t.groups t.pos t.lim false)) _ _ s
  refine wpAny_bind ?_
  unfold reTarget
  dsimp only
  refine wpAny_bind (wpAny_of_eq (a:=[some (.bytes b t),none,none]) (by kernel_rfl) ?_)
  dsimp only
  refine wpAny_bind (wpAny_pure ?_)
  refine wpAny_bind (wpAny_pure ?_)
  refine wpAny_bind (wpAny_fieldsOf q52 rfl ?_)
  refine wpAny_bind ?_
  unfold reTextOf
  refine wpAny_bind (wpAny_of_eq (a:=none) rfl ?_)
  dsimp only
  refine wpAny_bind (wpAny_of_eq KBy.quiet_eq ?_)
  dsimp only
  refine wpAny_pure ?_
  dsimp only
  refine bm_if_false rfl ?_
  refine bm_if_false rfl ?_
  refine wpAny_bind ?_
  unfold reNoCollectionInside
  rw [if_pos (by decide)]
  refine wpAny_bind (wpAny_of_eq KBy.isInstance_eq ?_)
  rw [if_neg (by decide)]
  refine wpAny_pure ?_
  refine wpAny_bind ?_
  unfold reRawItems
  refine wpAny_bind ?_
  show wpAny _ _ (seqItems? (.ref 51)) _ _ s
  refine wpAny_seqItems q51 rfl ?_
  refine wpAny_pure ?_
  refine wpAny_pure ?_
  dsimp only
  refine wpAny_bind ?_
  refine wp_search code_is rfl (Nat.zero_min _) (Nat.min_eq_right ?_) (fun i hi=>hb i (by simpa using hi)) (by simpa using h1) (wpAny_pure h)
  rw [Array.size_map]
  exact Nat.le_trans h2 (by decide)
end
noncomputable def hx (n:Nat):Nat:=if n < 10 then 48 + n else 55 + n
theorem hx_hex:∀ n,n < 16 → hx n ∈ hexs:=by decide
theorem hx_lt:∀ n,n < 16 → hx n < 128:=by decide
theorem hx_up:∀ n,n < 16 → Builtin.Bytes.toUpper (Builtin.Bytes.hexDigit n).toUInt8 = (hx n).toUInt8:=by decide
theorem hd_lt:∀ n,n < 16 → Builtin.Bytes.hexDigit n < 128:=by decide
theorem u8_back:∀ n,n < 256 → n.toUInt8.toNat = n:=by decide
theorem b_hi (b:UInt8):b.toNat / 16 < 16:=by have:=b.toNat_lt; lia
theorem b_lo (b:UInt8):b.toNat % 16 < 16:=Nat.mod_lt _ (by decide)
noncomputable def hexS:Str:=⟨#[48,49,50,51,52,53,54,55,56,57,65,66,67,68,69,70]⟩
theorem occ_hex:∀ n,n < 16 → Builtin.Str.occurrences hexS (S1 (hx n)) 0 hexS.length 1 = [n]:=by decide +kernel
section
variable {w:World} {A:Around} {R:Result → Shared → Prop} {s:Shared}
theorem c_index {n:Nat} {t u:Nat} (hn:n < 16) (h:R (.ok (.ret (.int (n:Int) s.toks))) { s with toks:=s.toks + 1 }):codeAny (model prog w) A (.call (.builtin "str.index") ⟨[.str hexS t,.str (S1 (hx n)) u],[]⟩) R s :=
  code_gives F.slot_str_index rfl F.entry_str_index (F.args_str_index_2 _ _) (gives_str_index hexS (S1 (hx n)) t u n [] (occ_hex n hn)) h
theorem c_dec2 {a b:UInt8} {t u:Nat} (ha:a.toNat < 128) (hb:b.toNat < 128) (h:∀ t' k,R (.ok (.ret (.str ⟨#[a.toNat,b.toNat]⟩ t'))) { s with toks:=k }) :
    codeAny (model prog w) A (.call (.builtin "bytes.decode") ⟨[.bytes #[a,b] t,.str asciiS u],[]⟩) R s :=
  code_meets FB.slot_bytes_decode rfl FB.entry_bytes_decode (args_dec _ _) (meets_dec (c:=a) (cs:=[b]) (x:=⟨#[a.toNat,b.toNat]⟩) fun id=>run_ascii2 id a b ha hb) ⟨by rw [PySem.sizeLine_eq]; show 2 ≤ _; decide,h⟩
theorem c_dec4 {a b c d:UInt8} {t u:Nat} (ha:a.toNat < 128) (hb:b.toNat < 128) (hc:c.toNat < 128) (hd:d.toNat < 128) (h:∀ t' k,R (.ok (.ret (.str ⟨#[a.toNat,b.toNat,c.toNat,d.toNat]⟩ t'))) { s with toks:=k }) :
    codeAny (model prog w) A (.call (.builtin "bytes.decode") ⟨[.bytes #[a,b,c,d] t,.str asciiS u],[]⟩) R s :=
  code_meets FB.slot_bytes_decode rfl FB.entry_bytes_decode (args_dec _ _) (meets_dec (c:=a) (cs:=[b,c,d]) (x:=⟨#[a.toNat,b.toNat,c.toNat,d.toNat]⟩) fun id=>run_ascii4 id a b c d ha hb hc hd) ⟨by rw [PySem.sizeLine_eq]; show 4 ≤ _; decide,h⟩
theorem ints_are:∀ xs:List (Int × Nat),IntsAre (intsV xs) (xs.map (·.1))
  | []=>.nil
  | x :: xs=>.cons x.1 x.2 (ints_are xs)
theorem slot_lshift:Slot "int" "__lshift__" "int.__lshift__" :=
  .of (owner:="int") (n:="__lshift__") (by rw [typeLookup_type,builtinLookup_eq_fast]; kernel_rfl) (by decide +kernel) (by decide +kernel) (by decide +kernel)
    (by first | exact .inl (by decide +kernel) | exact .inr (by decide +kernel)) (by rw [isSubtype_type]; kernel_rfl)
theorem entry_lshift:entryFor table "int.__lshift__" = some Builtin.«int.__lshift__»:=by first | exact entryFor_of_tree (by kernel_rfl) | exact entryFor_of_fast (by kernel_rfl)
theorem args_lshift (a b:Value):argsOk "int.__lshift__" ⟨[a,b],[]⟩:=by unfold argsOk; kernel_rfl
theorem gives_shl4 (t u:Nat):∀ n:Nat,n < 16 → Gives (Builtin.«int.__lshift__» ⟨[.int (n:Int) t,.int 4 u],[]⟩) (.int ((16 * n:Nat):Int))
  | 0,_=>fun prog w A R s h=>by
    show wpAny _ _ (rule "int.lshift.zero" >>= fun _=>(do ret (← mkInt 0))) _ _ s
    exact wpAny_bind (wpAny_rule ((Gives.of_eq (m:=.int 0) rfl) prog w A R s h))
  | 1,_=>.of_eq rfl | 2,_=>.of_eq rfl | 3,_=>.of_eq rfl | 4,_=>.of_eq rfl | 5,_=>.of_eq rfl | 6,_=>.of_eq rfl | 7,_=>.of_eq rfl
  | 8,_=>.of_eq rfl | 9,_=>.of_eq rfl | 10,_=>.of_eq rfl | 11,_=>.of_eq rfl | 12,_=>.of_eq rfl | 13,_=>.of_eq rfl | 14,_=>.of_eq rfl | 15,_=>.of_eq rfl
  | n + 16,h=>absurd h (by lia)
theorem c_shl4 {n:Nat} {t u:Nat} (hn:n < 16) (h:R (.ok (.ret (.int ((16 * n:Nat):Int) s.toks))) { s with toks:=s.toks + 1 }):codeAny (model prog w) A (.call (.builtin "int.__lshift__") ⟨[.int (n:Int) t,.int 4 u],[]⟩) R s :=
  code_gives slot_lshift rfl entry_lshift (args_lshift _ _) (gives_shl4 t u n hn) h
theorem c_enc2 {a b:Nat} {t u:Nat} (ha:a < 128) (hb:b < 128) (h:R (.ok (.ret (.bytes #[a.toUInt8,b.toUInt8] s.toks))) { s with toks:=s.toks + 1 }) :
    codeAny (model prog w) A (.call (.builtin "str.encode") ⟨[.str ⟨#[a,b]⟩ t,.str asciiS u],[]⟩) R s :=
  c_encode (by simp) (by simp) (by simp [ha,hb]) (by simpa using h)
theorem c_enc4 {a b c d:Nat} {t u:Nat} (ha:a < 128) (hb:b < 128) (hc:c < 128) (hd:d < 128) (h:R (.ok (.ret (.bytes #[a.toUInt8,b.toUInt8,c.toUInt8,d.toUInt8] s.toks))) { s with toks:=s.toks + 1 }) :
    codeAny (model prog w) A (.call (.builtin "str.encode") ⟨[.str ⟨#[a,b,c,d]⟩ t,.str asciiS u],[]⟩) R s :=
  c_encode (by simp) (by simp) (by simp [ha,hb,hc,hd]) (by simpa using h)
end
end Mine
namespace Mine
open PySem PySem.W PySem.W.X PyProof.Rows
theorem ne_addr {C:Cf} {hb:Heap} {mu:List Addr} (O:Ok C hb mu) (i j:Nat) {a b:Addr} (ha:C.addr i = a) (hb':C.addr j = b) (n:i ≠ j):a ≠ b:=fun e=>n (O.addr_inj (ha.trans (e.trans hb'.symm)))
noncomputable def knOk:Kn → Bool
  | .ret ..=>true
  | .base=>false
noncomputable def knC:Kn → Code
  | .ret c _ _=>c
  | .base=>.block [] default
noncomputable def knK:Kn → Result → Sem Fin
  | .ret _ k _=>k
  | .base=>fun _=>.unsupported ""
noncomputable def knT:Kn → Kn
  | .ret _ _ κ=>κ
  | .base=>.base
section
variable {w:World} {A:Around} {R:Result → Shared → Prop} {c c':Code} {κ:Kn} {t:Sem Fin} {s:Shared}
theorem Mn.againK (e:againC t = some c') (q:quietB c' = true) (kk:knOk κ = true) (h:codeAny (model prog w) (arA A κ) c' (fun r s'=>Mn prog w A R (knC κ) (knT κ) (knK κ r) s') s):Mn prog w A R c κ t s:=by
  rw [Mn_eq] at h ⊢
  cases κ with
  | base=>cases kk
  | ret c₁ k κ =>
    cases t with
    | pure fin =>
      cases fin with
      | done f'=>cases e
      | again c'' =>
        cases e
        exact y_pure _ prog w _ _ _ _ _ _ (y_again prog w _ _ _ c' (quietB_quiet q) h)
    | _=>cases e
end
section
variable {w:World} {A:Around} {R:Result → Shared → Prop} {s:Shared} {E:Value → Shared → Prop}
theorem p_list_end {it l:Addr} {i:Nat} {vs:List Value} {e:Nat} {Q:Option Value → Shared → Prop} (hh:A.handled = none) (ho:s.heap.get? it = some (litO l i)) (hl:s.heap.get? l = some (listO vs e)) (hx:vs[i]? = none)
    (h:∀ h',h'.get? it = some (litE i) → KeepsBut [it] s.heap h' → h'.objs.size = s.heap.objs.size + 2 → Q none { s with heap:=h' }):wpAny (model prog w) A (pyNext (.ref it)) Q E s:=by
  have hT:s.TypeIs (.ref it) "list_iterator":=⟨_,ho,rfl⟩
  unfold pyNext
  refine wpAny_bind (wpAny_attempt (wpAny_callSpecial?_slot (name:=Str.ofString "__next__") hT slot_listiter_next ?_))
  refine wpAny_call (c_list_end (A:=A) hh ho hl hx fun h' h1 h2 h3 h4=>?_)
  refine wpAny_bind (wpAny_isInstance (T:="StopIteration") (b:=true) ⟨_,h4,rfl⟩ isSubtype_stop ?_)
  exact wpAny_pure (h h' h1 h2 h3)
theorem p_list_item {it l:Addr} {i:Nat} {vs:List Value} {e:Nat} {x:Value} {Q:Option Value → Shared → Prop} (ho:s.heap.get? it = some (litO l i)) (hl:s.heap.get? l = some (listO vs e)) (hx:vs[i]? = some x)
    (h:∀ h',h'.get? it = some (litO l (i + 1)) → Heap.SameBut it s.heap h' → Q (some x) { s with heap:=h' }):wpAny (model prog w) A (pyNext (.ref it)) Q E s:=by
  have hT:s.TypeIs (.ref it) "list_iterator":=⟨_,ho,rfl⟩
  unfold pyNext
  refine wpAny_bind (wpAny_attempt (wpAny_callSpecial?_slot (name:=Str.ofString "__next__") hT slot_listiter_next ?_))
  exact wpAny_call (c_list_next (A:=A) ho hl hx fun h' h1 h2=>wpAny_pure (h h' h1 h2))
noncomputable def barO (b:Array UInt8):Obj:={ cls:=.type "bytearray",data:=.bytearray b }
noncomputable def u8s (xs:List Int):List UInt8:=xs.map fun n=>n.toNat.toUInt8
theorem c_bytes_loop {l I S:Addr} {e:Nat} {all:List (Int × Nat)} (hh:A.handled = none) (nIS:I ≠ S) (nlI:l ≠ I) (nlS:l ≠ S) (hz:all.length ≤ 1000) (hr:∀ n ∈ all.map (·.1),0 ≤ n ∧ n < 256) :
    ∀ (rest done:List (Int × Nat)) (s:Shared),all = done ++ rest → s.heap.get? l = some (listO (intsV all) e) → s.heap.get? I = some (litO l done.length) → s.heap.get? S = some (barO (u8s (done.map (·.1))).toArray) →
      (∀ h' k t',KeepsBut [I,S] s.heap h' → s.heap.objs.size ≤ h'.objs.size → h'.get? I = some (litE all.length) → h'.get? S = some (barO (u8s (all.map (·.1))).toArray) → R (.ok (.ret (.bytes (u8s (all.map (·.1))).toArray t'))) { s with heap:=h',toks:=k }) →
      codeAny (model prog w) A (.builtin "bytes.__new__.loop" ⟨[.type "bytes",.ref I,.ref S],[]⟩) R s
  | [],done,s,ha,hl,hI,hS,K=>by
    rw [List.append_nil] at ha
    subst ha
    refine codeAny_builtin F.bm_entry_loop ?_
    rw [Around.under_plainId F.bm_plain_loop _]
    show wpAny _ A.in1 (pyNext (.ref I) >>= _) _ _ s
    refine wpAny_bind (p_list_end hh hI hl (by simp [intsV]) fun h' h1 h2 h3=>?_)
    have hS':h'.get? S = some (barO (u8s (all.map (·.1))).toArray):=h2 _ _ hS (by simp [Ne.symm nIS])
    refine wpAny_bind ?_
    unfold Builtin.Bytes.payload Builtin.Bytes.payload?
    refine wpAny_bind (wpAny_bind (wpAny_load hS' (wpAny_pure (wpAny_pure ?_))))
    refine wpAny_bind (wpAny_mkBytes ?_ (by rw [PySem.sizeLine_eq]; simp [u8s]; lia))
    refine bm_if_true (by decide) ?_
    have key:=K h' (s.toks + 1) s.toks (h2.mono fun q hq=>by simp at hq; simp [hq]) (by lia) h1 hS'
    first
      | exact wpAny_pure key
      | exact wpAny_bind (wpAny_pure (wpAny_pure key))
  | y :: rest,done,s,ha,hl,hI,hS,K=>by
    subst ha
    have hy:=hr y.1 (by simp)
    refine codeAny_builtin F.bm_entry_loop ?_
    rw [Around.under_plainId F.bm_plain_loop _]
    show wpAny _ A.in1 (pyNext (.ref I) >>= _) _ _ s
    refine wpAny_bind (p_list_item (x:=.int y.1 y.2) hI hl (by simp [intsV]) fun h' hit' hs=>?_)
    have hS':h'.get? S = some (barO (u8s (done.map (·.1))).toArray):=(hs.2 S (Ne.symm nIS)).trans hS
    refine wpAny_bind (wpAny_holding (wpAny_of_eq (rfl:asIndex (.int y.1 y.2) = pure y.1) ?_))
    refine wpAny_bind (wpAny_letGo ?_)
    refine bm_if_false (by simp only [Bool.or_eq_false_iff,decide_eq_false_iff_not]; lia) ?_
    refine wpAny_bind ?_
    show wpAny _ _ (updateBytearray S (·.push y.1.toNat.toUInt8)) _ _ _
    unfold updateBytearray
    refine wpAny_bind (wpAny_load hS' ?_)
    show wpAny _ _ (update S (Obj.mapBytearray (·.push y.1.toNat.toUInt8)) >>= fun _=>lookBehind S) _ _ _
    refine wpAny_bind (wpAny_update hS' ?_)
    have hu:Heap.SameBut S h' (h'.update S (Obj.mapBytearray (·.push y.1.toNat.toUInt8))):=Heap.SameBut.update ..
    have hS2:(h'.update S (Obj.mapBytearray (·.push y.1.toNat.toUInt8))).get? S = some (barO (u8s ((done ++ [y]).map (·.1))).toArray):=by
      rw [Heap.get?_update_self (Obj.mapBytearray (·.push y.1.toNat.toUInt8)) hS' rfl]
      simp [barO,Obj.mapBytearray,u8s]
    refine wpAny_lookBehind hS2 ?_ ?_
    · show (if (u8s ((done ++ [y]).map (·.1))).toArray.size > sizeLine then some "bytearray:memory" else none) = none
      rw [if_neg]
      rw [PySem.sizeLine_eq]
      simp [u8s] at hz ⊢
      lia
    · have hI2:(h'.update S (Obj.mapBytearray (·.push y.1.toNat.toUInt8))).get? I = some (litO l (done ++ [y]).length):=by
        rw [hu.2 I nIS,hit']; simp
      refine wpAny_pure ⟨plainId_quiet F.bm_plain_loop _,c_bytes_loop hh nIS nlI nlS hz hr rest (done ++ [y]) { s with heap:=h'.update S (Obj.mapBytearray (·.push y.1.toNat.toUInt8)) } (by simp) ((hu.2 l nlS).trans ((hs.2 l nlI).trans hl)) hI2 hS2 fun h3 k t' k3 z3 f1 f2=>?_⟩
      have q:KeepsBut [I,S] s.heap (h'.update S (Obj.mapBytearray (·.push y.1.toNat.toUInt8))):=fun b o eb hn=>(hu.2 b fun x=>hn (by simp [x])).trans ((hs.2 b fun x=>hn (by simp [x])).trans eb)
      exact K h3 k t' (q.trans k3) (Nat.le_trans (Nat.le_of_eq (hu.1.trans hs.1).symm) z3) f1 f2
theorem hx_u8 {n:Nat} (h:n < 16):(hx n).toUInt8.toNat ∈ hexs:=by
  rw [u8_back _ (Nat.lt_trans (hx_lt n h) (by decide))]; exact hx_hex n h
theorem c_search2 {p q t:Nat} (top:TopOk w s.heap) (lp:p < 16) (lq:q < 16) (h:R (.ok (.ret .none)) s) :
    codeAny (model prog w) A (.call (.builtin "re.Pattern.search") ⟨[.ref 52,.bytes #[(hx p).toUInt8,(hx q).toUInt8] t],[]⟩) R s :=
  c_search top (fun i hi=>by
    simp only [List.map_toArray,List.map_cons,List.map_nil,Array.getD_eq_getD_getElem?,List.getElem?_toArray]
    rcases i with _ | _ | i
    · exact hx_u8 lp
    · exact hx_u8 lq
    · simp at hi; lia) (by simp) (by simp) h
theorem c_search4 {p q r z t:Nat} (top:TopOk w s.heap) (lp:p < 16) (lq:q < 16) (lr:r < 16) (lz:z < 16) (h:R (.ok (.ret .none)) s) :
    codeAny (model prog w) A (.call (.builtin "re.Pattern.search") ⟨[.ref 52,.bytes #[(hx p).toUInt8,(hx q).toUInt8,(hx r).toUInt8,(hx z).toUInt8] t],[]⟩) R s :=
  c_search top (fun i hi=>by
    simp only [List.map_toArray,List.map_cons,List.map_nil,Array.getD_eq_getD_getElem?,List.getElem?_toArray]
    rcases i with _ | _ | _ | _ | i
    · exact hx_u8 lp
    · exact hx_u8 lq
    · exact hx_u8 lr
    · exact hx_u8 lz
    · simp at hi; lia) (by simp) (by simp) h
end
end Mine
namespace Mine
open PySem PySem.W PySem.W.X PyProof.Rows
section
variable {w:World} {b1 b2:Bool} {A:Around} {R:Result → Shared → Prop} {h:Heap} {g:Array GenState} {d:Drawn} {T0:Nat} {os:OsState}
theorem enc2_call (F:Follows w b1 b2) (hA:Lo A 300) (hh:A.handled = none) (top:TopOk w h) {a b:UInt8} {tb:Nat}
    (K:∀ h' tk' t',Keeps h h' → h.objs.size ≤ h'.objs.size → R (.ok (.ret (.bytes #[(hx (a.toNat / 16)).toUInt8,(hx (a.toNat % 16)).toUInt8,(hx (b.toNat / 16)).toUInt8,(hx (b.toNat % 16)).toUInt8] t'))) ⟨h',g,d,tk',os⟩) :
    codeAny (model prog w) A (.call (.ref 117) ⟨[.bytes #[a,b] tb],[]⟩) R ⟨h,g,d,T0,os⟩:=by
  refine Mn.enter hA ?_
  have OD:=start0 (w:=w) (b1:=b1) (b2:=b2) (ro:=[]) (s:=⟨h,g,d,T0,os⟩) top (fun q hq=>nomatch hq)
  refine go F 150 3 12 [117,116,1000,1000,2,3,1000,96,96,95,89,1001,1001,1001,1001,1001,1001,2,3,1001,87,87,86,1002,1002,2,3,0,1002,1002,1002,1002,3,0,1002,1001,1001,3,0,1001,3,0,1001,7000,7203,1001,7000,7203,1001,3,1001] (i:=0) OD hA hh fun h1=>?_
  intro o_h1 OD
  refine Mn.st (.call (.builtin "str.encode") ⟨[.str ⟨#[Builtin.Bytes.hexDigit (a.toNat / 16),Builtin.Bytes.hexDigit (a.toNat % 16),Builtin.Bytes.hexDigit (b.toNat / 16),Builtin.Bytes.hexDigit (b.toNat % 16)]⟩ (T0 + 10),.str ⟨#[97,115,99,105,105]⟩ (T0 + 11)],[]⟩) ?_
  refine c_enc4 (hd_lt _ (b_hi a)) (hd_lt _ (b_lo a)) (hd_lt _ (b_hi b)) (hd_lt _ (b_lo b)) ?_
  refine go F 11 3 14 [] (i:=13) OD hA hh fun h2=>?_
  intro o_h2 OD
  refine Mn.en (.ret (.bytes #[Builtin.Bytes.toUpper (Builtin.Bytes.hexDigit (a.toNat / 16)).toUInt8,Builtin.Bytes.toUpper (Builtin.Bytes.hexDigit (a.toNat % 16)).toUInt8,Builtin.Bytes.toUpper (Builtin.Bytes.hexDigit (b.toNat / 16)).toUInt8,Builtin.Bytes.toUpper (Builtin.Bytes.hexDigit (b.toNat % 16)).toUInt8] (T0 + 13))) ?_
  rw [hx_up _ (b_hi a),hx_up _ (b_lo a),hx_up _ (b_hi b),hx_up _ (b_lo b)]
  exact K _ _ _ OD.2.kept0 (size_le OD.1 OD.2)
theorem enc1_call (F:Follows w b1 b2) (hA:Lo A 300) (hh:A.handled = none) (top:TopOk w h) {a:UInt8} {tb:Nat}
    (K:∀ h' tk' t',Keeps h h' → h.objs.size ≤ h'.objs.size → R (.ok (.ret (.bytes #[(hx (a.toNat / 16)).toUInt8,(hx (a.toNat % 16)).toUInt8] t'))) ⟨h',g,d,tk',os⟩) :
    codeAny (model prog w) A (.call (.ref 117) ⟨[.bytes #[a] tb],[]⟩) R ⟨h,g,d,T0,os⟩:=by
  refine Mn.enter hA ?_
  have OD:=start0 (w:=w) (b1:=b1) (b2:=b2) (ro:=[]) (s:=⟨h,g,d,T0,os⟩) top (fun q hq=>nomatch hq)
  refine go F 150 3 12 [117,116,1000,1000,2,3,1000,96,96,95,89,1001,1001,1001,1001,1001,1001,2,3,1001,87,87,86,1002,1002,2,3,0,1002,1002,1002,1002,3,0,1002,1001,1001,3,0,1001,3,0,1001,7000,7203,1001,7000,7203,1001,3,1001] (i:=0) OD hA hh fun h1=>?_
  intro o_h1 OD
  refine Mn.st (.call (.builtin "str.encode") ⟨[.str ⟨#[Builtin.Bytes.hexDigit (a.toNat / 16),Builtin.Bytes.hexDigit (a.toNat % 16)]⟩ (T0 + 10),.str ⟨#[97,115,99,105,105]⟩ (T0 + 11)],[]⟩) ?_
  refine c_enc2 (hd_lt _ (b_hi a)) (hd_lt _ (b_lo a)) ?_
  refine go F 11 3 14 [] (i:=13) OD hA hh fun h2=>?_
  intro o_h2 OD
  refine Mn.en (.ret (.bytes #[Builtin.Bytes.toUpper (Builtin.Bytes.hexDigit (a.toNat / 16)).toUInt8,Builtin.Bytes.toUpper (Builtin.Bytes.hexDigit (a.toNat % 16)).toUInt8] (T0 + 13))) ?_
  rw [hx_up _ (b_hi a),hx_up _ (b_lo a)]
  exact K _ _ _ OD.2.kept0 (size_le OD.1 OD.2)
theorem fig_lo (F:Follows w b1 b2) (hA:Lo A 500) (hh:A.handled = none) (top:TopOk w h) {n tc:Nat} (hn:n < 10)
    (K:∀ h' tk' t',Keeps h h' → h.objs.size ≤ h'.objs.size → R (.ok (.ret (.int (n:Int) t'))) ⟨h',g,d,tk',os⟩) :
    codeAny (model prog w) A (.call (.ref 103) ⟨[.int ((48 + n:Nat):Int) tc],[]⟩) R ⟨h,g,d,T0,os⟩:=by
  refine Mn.enter hA ?_
  have OD:=start0 (w:=w) (b1:=b1) (b2:=b2) (ro:=[]) (s:=⟨h,g,d,T0,os⟩) top (fun q hq=>nomatch hq)
  refine goP F 34 1 5 [103,102,1000,1000,2,1000,7000,7201,7000,7201,1000] [decide (((48 + n:Nat):Int) ≤ 57) = true,decide (48 ≤ ((48 + n:Nat):Int)) = true] (i:=0) OD hA hh ⟨(decide_eq_true (by lia)),(decide_eq_true (by lia)),trivial⟩ fun h1=>?_
  intro o_h1 OD
  refine Mn.en (.ret (.int (((48 + n:Nat):Int) - 48) (T0 + 4))) ?_
  rw [show (((48 + n:Nat):Int) - 48) = (n:Int) by lia]
  exact K _ _ _ OD.2.kept0 (size_le OD.1 OD.2)
theorem fig_hi (F:Follows w b1 b2) (hA:Lo A 500) (hh:A.handled = none) (top:TopOk w h) {n tc:Nat} (h0:10 ≤ n) (hn:n < 16)
    (K:∀ h' tk' t',Keeps h h' → h.objs.size ≤ h'.objs.size → R (.ok (.ret (.int (n:Int) t'))) ⟨h',g,d,tk',os⟩) :
    codeAny (model prog w) A (.call (.ref 103) ⟨[.int ((55 + n:Nat):Int) tc],[]⟩) R ⟨h,g,d,T0,os⟩:=by
  refine Mn.enter hA ?_
  have OD:=start0 (w:=w) (b1:=b1) (b2:=b2) (ro:=[]) (s:=⟨h,g,d,T0,os⟩) top (fun q hq=>nomatch hq)
  refine goP F 49 1 7 [103,102,1000,1000,2,1000,7000,7201,7000,7200,1000,7000,7201,7000,7201,1000] [decide (((55 + n:Nat):Int) ≤ 70) = true,decide (65 ≤ ((55 + n:Nat):Int)) = true,decide (((55 + n:Nat):Int) ≤ 57) = false,decide (48 ≤ ((55 + n:Nat):Int)) = true] (i:=0) OD hA hh ⟨(decide_eq_true (by lia)),(decide_eq_true (by lia)),(decide_eq_false (by lia)),(decide_eq_true (by lia)),trivial⟩ fun h1=>?_
  intro o_h1 OD
  refine Mn.en (.ret (.int (((55 + n:Nat):Int) - 55) (T0 + 6))) ?_
  rw [show (((55 + n:Nat):Int) - 55) = (n:Int) by lia]
  exact K _ _ _ OD.2.kept0 (size_le OD.1 OD.2)
theorem fig_call (F:Follows w b1 b2) (hA:Lo A 500) (hh:A.handled = none) (top:TopOk w h) {n tc:Nat} {v:Int} (hn:n < 16) (e:v = (((hx n).toUInt8.toNat:Nat):Int))
    (K:∀ h' tk' t',Keeps h h' → h.objs.size ≤ h'.objs.size → R (.ok (.ret (.int (n:Int) t'))) ⟨h',g,d,tk',os⟩) :
    codeAny (model prog w) A (.call (.ref 103) ⟨[.int v tc],[]⟩) R ⟨h,g,d,T0,os⟩:=by
  rw [u8_back _ (Nat.lt_trans (hx_lt n hn) (by decide))] at e
  subst e
  unfold hx
  by_cases h10:n < 10
  · rw [if_pos h10]; exact fig_lo F hA hh top h10 K
  · rw [if_neg h10]; exact fig_hi F hA hh top (by lia) hn K
theorem dec2_call (F:Follows w b1 b2) (hA:Lo A 300) (hh:A.handled = none) (top:TopOk w h) {p q ts:Nat} (lp:p < 16) (lq:q < 16)
    (K:∀ h' tk' t',Keeps h h' → h.objs.size ≤ h'.objs.size → R (.ok (.ret (.bytes #[(16 * p + q).toUInt8] t'))) ⟨h',g,d,tk',os⟩) :
    codeAny (model prog w) A (.call (.ref 125) ⟨[.str ⟨#[hx p,hx q]⟩ ts],[]⟩) R ⟨h,g,d,T0,os⟩:=by
  refine Mn.enter hA ?_
  have OD:=start0 (w:=w) (b1:=b1) (b2:=b2) (ro:=[]) (s:=⟨h,g,d,T0,os⟩) top (fun q hq=>nomatch hq)
  refine go F 58 2 4 [125,124,118,1000,1000,1000,1000,2,3,1000,60,60,59,1001,1001,2,3,0,1001,3,0,7203,1001] (i:=0) OD hA hh fun h1=>?_
  intro o_h1 OD
  refine Mn.st (.call (.builtin "str.encode") ⟨[.str ⟨#[hx p,hx q]⟩ ts,.str ⟨#[97,115,99,105,105]⟩ (T0 + 3)],[]⟩) ?_
  refine c_enc2 (hx_lt _ lp) (hx_lt _ lq) ?_
  refine go F 26 2 6 [1000,1000,1000,3,52,52,52,52,1000] (i:=5) OD hA hh fun h2=>?_
  intro o_h2 OD
  refine Mn.st (.call (.builtin "re.Pattern.search") ⟨[.ref 52,.bytes #[(hx p).toUInt8,(hx q).toUInt8] (T0 + 4)],[]⟩) ?_
  refine c_search2 OD.2.tp lp lq ?_
  refine goP F 163 5 19 [3,1000,110,110,109,1002,1002,2,3,1002,80,80,79,1003,1003,2,3,0,1003,1003,1003,1003,3,0,1003,3,0,1003,1002,1002,3,0,1002,1002,1002,1002,7200,1002,1002,1002,1002,1002,1002,7000,7201,3,1002,1002,103] [decide (0 < (2:Int)) = true,(((2:Int).fmod 2) != 0) = false] (i:=6) OD hA hh ⟨(decide_eq_true (by lia)),rfl,trivial⟩ fun h3=>?_
  intro o_h3 OD
  refine Mn.st (.call (.ref 103) ⟨[.int (((hx p).toUInt8.toNat:Nat):Int) (T0 + 18)],[]⟩) ?_
  refine fig_call F (dk hA) (aH hh) OD.2.tp lp rfl fun j0 tk0 tf0 kj sj=>?_
  replace OD:=cre0 tk0 OD kj sj
  refine go F 28 5 4 [1002,1002,3,1002,1002,103] (i:=0) OD hA hh fun h4=>?_
  intro o_h4 OD
  refine Mn.st (.call (.ref 103) ⟨[.int (((hx q).toUInt8.toNat:Nat):Int) (tk0 + 3)],[]⟩) ?_
  refine fig_call F (dk hA) (aH hh) OD.2.tp lq rfl fun j1 tk1 tf1 kj sj=>?_
  replace OD:=cre0 tk1 OD kj sj
  refine goP F 38 5 4 [1002,1002,1002,7000,7200,1002,7000,7200,1002,1004,1004,1004,1004,1002] [decide ((q:Int) ≥ 16) = false,decide ((p:Int) ≥ 16) = false] (i:=0) OD hA hh ⟨(decide_eq_false (by lia)),(decide_eq_false (by lia)),trivial⟩ fun h5=>?_
  intro o_h5 OD
  refine Mn.st (.call (.builtin "int.__lshift__") ⟨[.int (p:Int) tf0,.int 4 (tk1 + 3)],[]⟩) ?_
  refine c_shl4 lp ?_
  refine goP F 71 7 9 [1002,1004,1004,1004,1004,1002,1002,1002,1002,1002,7000,7200,3,0,1002,1004,1004,1004,1004,1004,1004,1004,7000,1004,1005,1004,1004] [decide (2 < (2:Int)) = false] (i:=5) OD hA hh ⟨(decide_eq_false (by lia)),trivial⟩ fun h6=>?_
  intro o_h6 OD
  refine Mn.againK (c':=.builtin "bytes.__new__.loop" ⟨[.type "bytes",.ref (j1.objs.size + 0),.ref (j1.objs.size + 1)],[]⟩) (by kernel_rfl) (by kernel_rfl) (by kernel_rfl) ?_
  refine c_bytes_loop (l:=(h.objs.size + 4)) (e:=1) (all:=[(((16 * p:Nat):Int) + (q:Int),(tk1 + 5))]) (aH hh) (ne_addr OD.1 5 6 rfl rfl (by decide)) (ne_addr OD.1 4 5 rfl rfl (by decide)) (ne_addr OD.1 4 6 rfl rfl (by decide)) (by simp) (by simp only [List.map_cons,List.map_nil,List.forall_mem_cons,List.not_mem_nil,false_implies,implies_true,and_true]; first | lia | (refine ⟨by omega,by omega⟩)) [(((16 * p:Nat):Int) + (q:Int),(tk1 + 5))] [] _ rfl (OD.2.ob 4) (OD.2.ob 5) (OD.2.ob 6) fun jz6 kz6 tz6 hz6 sz6 iz6 bz6=>?_
  replace OD:=creL kz6 [(5,(j1.objs.size + 0),litE 1),(6,(j1.objs.size + 1),barO (u8s (List.map (·.1) [(((16 * p:Nat):Int) + (q:Int),(tk1 + 5))])).toArray)] [] OD ⟨rfl,iz6,rfl,bz6,trivial⟩ hz6 sz6 trivial
  refine go F 7 7 0 [] (i:=0) OD hA hh fun h7=>?_
  intro o_h7 OD
  refine Mn.en (.ret (.bytes (u8s [((16 * p:Nat):Int) + (q:Int)]).toArray tz6)) ?_
  have eb:(u8s [((16 * p:Nat):Int) + (q:Int)]).toArray = #[(16 * p + q).toUInt8]:=rfl
  rw [eb]
  exact K _ _ _ OD.2.kept0 (size_le OD.1 OD.2)
theorem dec4_call (F:Follows w b1 b2) (hA:Lo A 300) (hh:A.handled = none) (top:TopOk w h) {p q r z ts:Nat} (lp:p < 16) (lq:q < 16) (lr:r < 16) (lz:z < 16)
    (K:∀ h' tk' t',Keeps h h' → h.objs.size ≤ h'.objs.size → R (.ok (.ret (.bytes #[(16 * p + q).toUInt8,(16 * r + z).toUInt8] t'))) ⟨h',g,d,tk',os⟩) :
    codeAny (model prog w) A (.call (.ref 125) ⟨[.str ⟨#[hx p,hx q,hx r,hx z]⟩ ts],[]⟩) R ⟨h,g,d,T0,os⟩:=by
  refine Mn.enter hA ?_
  have OD:=start0 (w:=w) (b1:=b1) (b2:=b2) (ro:=[]) (s:=⟨h,g,d,T0,os⟩) top (fun q hq=>nomatch hq)
  refine go F 58 2 4 [125,124,118,1000,1000,1000,1000,2,3,1000,60,60,59,1001,1001,2,3,0,1001,3,0,7203,1001] (i:=0) OD hA hh fun h1=>?_
  intro o_h1 OD
  refine Mn.st (.call (.builtin "str.encode") ⟨[.str ⟨#[hx p,hx q,hx r,hx z]⟩ ts,.str ⟨#[97,115,99,105,105]⟩ (T0 + 3)],[]⟩) ?_
  refine c_enc4 (hx_lt _ lp) (hx_lt _ lq) (hx_lt _ lr) (hx_lt _ lz) ?_
  refine go F 26 2 6 [1000,1000,1000,3,52,52,52,52,1000] (i:=5) OD hA hh fun h2=>?_
  intro o_h2 OD
  refine Mn.st (.call (.builtin "re.Pattern.search") ⟨[.ref 52,.bytes #[(hx p).toUInt8,(hx q).toUInt8,(hx r).toUInt8,(hx z).toUInt8] (T0 + 4)],[]⟩) ?_
  refine c_search4 OD.2.tp lp lq lr lz ?_
  refine goP F 163 5 19 [3,1000,110,110,109,1002,1002,2,3,1002,80,80,79,1003,1003,2,3,0,1003,1003,1003,1003,3,0,1003,3,0,1003,1002,1002,3,0,1002,1002,1002,1002,7200,1002,1002,1002,1002,1002,1002,7000,7201,3,1002,1002,103] [decide (0 < (4:Int)) = true,(((4:Int).fmod 2) != 0) = false] (i:=6) OD hA hh ⟨(decide_eq_true (by lia)),rfl,trivial⟩ fun h3=>?_
  intro o_h3 OD
  refine Mn.st (.call (.ref 103) ⟨[.int (((hx p).toUInt8.toNat:Nat):Int) (T0 + 18)],[]⟩) ?_
  refine fig_call F (dk hA) (aH hh) OD.2.tp lp rfl fun j0 tk0 tf0 kj sj=>?_
  replace OD:=cre0 tk0 OD kj sj
  refine go F 28 5 4 [1002,1002,3,1002,1002,103] (i:=0) OD hA hh fun h4=>?_
  intro o_h4 OD
  refine Mn.st (.call (.ref 103) ⟨[.int (((hx q).toUInt8.toNat:Nat):Int) (tk0 + 3)],[]⟩) ?_
  refine fig_call F (dk hA) (aH hh) OD.2.tp lq rfl fun j1 tk1 tf1 kj sj=>?_
  replace OD:=cre0 tk1 OD kj sj
  refine goP F 38 5 4 [1002,1002,1002,7000,7200,1002,7000,7200,1002,1004,1004,1004,1004,1002] [decide ((q:Int) ≥ 16) = false,decide ((p:Int) ≥ 16) = false] (i:=0) OD hA hh ⟨(decide_eq_false (by lia)),(decide_eq_false (by lia)),trivial⟩ fun h5=>?_
  intro o_h5 OD
  refine Mn.st (.call (.builtin "int.__lshift__") ⟨[.int (p:Int) tf0,.int 4 (tk1 + 3)],[]⟩) ?_
  refine c_shl4 lp ?_
  refine goP F 56 5 10 [1002,1004,1004,1004,1004,1002,1002,1002,1002,1002,7000,7201,3,1002,1002,103] [decide (2 < (4:Int)) = true] (i:=5) OD hA hh ⟨(decide_eq_true (by lia)),trivial⟩ fun h6=>?_
  intro o_h6 OD
  refine Mn.st (.call (.ref 103) ⟨[.int (((hx r).toUInt8.toNat:Nat):Int) (tk1 + 9)],[]⟩) ?_
  refine fig_call F (dk hA) (aH hh) OD.2.tp lr rfl fun j2 tk2 tf2 kj sj=>?_
  replace OD:=cre0 tk2 OD kj sj
  refine go F 28 5 4 [1002,1002,3,1002,1002,103] (i:=0) OD hA hh fun h7=>?_
  intro o_h7 OD
  refine Mn.st (.call (.ref 103) ⟨[.int (((hx z).toUInt8.toNat:Nat):Int) (tk2 + 3)],[]⟩) ?_
  refine fig_call F (dk hA) (aH hh) OD.2.tp lz rfl fun j3 tk3 tf3 kj sj=>?_
  replace OD:=cre0 tk3 OD kj sj
  refine goP F 38 5 4 [1002,1002,1002,7000,7200,1002,7000,7200,1002,1004,1004,1004,1004,1002] [decide ((z:Int) ≥ 16) = false,decide ((r:Int) ≥ 16) = false] (i:=0) OD hA hh ⟨(decide_eq_false (by lia)),(decide_eq_false (by lia)),trivial⟩ fun h8=>?_
  intro o_h8 OD
  refine Mn.st (.call (.builtin "int.__lshift__") ⟨[.int (r:Int) tf2,.int 4 (tk3 + 3)],[]⟩) ?_
  refine c_shl4 lr ?_
  refine goP F 71 7 9 [1002,1004,1004,1004,1004,1002,1002,1002,1002,1002,7000,7200,3,0,1002,1004,1004,1004,1004,1004,1004,1004,7000,1004,1005,1004,1004] [decide (4 < (4:Int)) = false] (i:=5) OD hA hh ⟨(decide_eq_false (by lia)),trivial⟩ fun h9=>?_
  intro o_h9 OD
  refine Mn.againK (c':=.builtin "bytes.__new__.loop" ⟨[.type "bytes",.ref (j3.objs.size + 0),.ref (j3.objs.size + 1)],[]⟩) (by kernel_rfl) (by kernel_rfl) (by kernel_rfl) ?_
  refine c_bytes_loop (l:=(h.objs.size + 4)) (e:=2) (all:=[(((16 * p:Nat):Int) + (q:Int),(tk1 + 5)),(((16 * r:Nat):Int) + (z:Int),(tk3 + 5))]) (aH hh) (ne_addr OD.1 5 6 rfl rfl (by decide)) (ne_addr OD.1 4 5 rfl rfl (by decide)) (ne_addr OD.1 4 6 rfl rfl (by decide)) (by simp) (by simp only [List.map_cons,List.map_nil,List.forall_mem_cons,List.not_mem_nil,false_implies,implies_true,and_true]; first | lia | (refine ⟨by omega,by omega⟩)) [(((16 * p:Nat):Int) + (q:Int),(tk1 + 5)),(((16 * r:Nat):Int) + (z:Int),(tk3 + 5))] [] _ rfl (OD.2.ob 4) (OD.2.ob 5) (OD.2.ob 6) fun jz9 kz9 tz9 hz9 sz9 iz9 bz9=>?_
  replace OD:=creL kz9 [(5,(j3.objs.size + 0),litE 2),(6,(j3.objs.size + 1),barO (u8s (List.map (·.1) [(((16 * p:Nat):Int) + (q:Int),(tk1 + 5)),(((16 * r:Nat):Int) + (z:Int),(tk3 + 5))])).toArray)] [] OD ⟨rfl,iz9,rfl,bz9,trivial⟩ hz9 sz9 trivial
  refine go F 7 7 0 [] (i:=0) OD hA hh fun h10=>?_
  intro o_h10 OD
  refine Mn.en (.ret (.bytes (u8s [((16 * p:Nat):Int) + (q:Int),((16 * r:Nat):Int) + (z:Int)]).toArray tz9)) ?_
  have eb:(u8s [((16 * p:Nat):Int) + (q:Int),((16 * r:Nat):Int) + (z:Int)]).toArray = #[(16 * p + q).toUInt8,(16 * r + z).toUInt8]:=rfl
  rw [eb]
  exact K _ _ _ OD.2.kept0 (size_le OD.1 OD.2)
end
end Mine
set_option genInjectivity false
set_option genSizeOf false
namespace Mine
open PySem PySem.W PySem.W.X PyProof.Rows
noncomputable def In16 (a:Int):Prop:=0 ≤ a ∧ a ≤ 15
theorem d16 {n:Nat} (h:n < 16):In16 ((n:Nat):Int):=⟨by lia,by lia⟩
theorem in16 {a:Int} (h:In16 a):∃ x:Fin 16,a = ((x:Nat):Int):=⟨⟨a.toNat,by have:=h.1; have:=h.2; lia⟩,by have:=h.1; show a = ((a.toNat:Nat):Int); lia⟩
theorem bx_fin:∀ x y:Fin 16,(decide (0 ≤ Builtin.bitXor ((x:Nat):Int) ((y:Nat):Int)) && decide (Builtin.bitXor ((x:Nat):Int) ((y:Nat):Int) ≤ 15) && (decide (x = y) || decide (1 ≤ Builtin.bitXor ((x:Nat):Int) ((y:Nat):Int)))) = true:=by decide +kernel
theorem bx16 {a b:Int} (ha:In16 a) (hb:In16 b):In16 (Builtin.bitXor a b):=by
  obtain ⟨x,rfl⟩:=in16 ha
  obtain ⟨y,rfl⟩:=in16 hb
  have:=bx_fin x y
  simp only [Bool.and_eq_true,decide_eq_true_eq] at this
  exact this.1
theorem bx_pos {a b:Int} (ha:In16 a) (hb:In16 b) (n:a ≠ b):1 ≤ Builtin.bitXor a b:=by
  obtain ⟨x,rfl⟩:=in16 ha
  obtain ⟨y,rfl⟩:=in16 hb
  have:=bx_fin x y
  simp only [Bool.and_eq_true,Bool.or_eq_true,decide_eq_true_eq] at this
  rcases this.2 with e | e
  · subst e; exact absurd rfl n
  · exact e
theorem bx_fold16:∀ (l:List Int) (a:Int),In16 a → (∀ x ∈ l,In16 x) → In16 (l.foldl (fun x y=>Builtin.bitXor x y) a)
  | [],a,h,_=>h
  | x :: l,a,h,hl=>bx_fold16 l _ (bx16 h (hl x (.head _))) fun y hy=>hl y (.tail _ hy)
noncomputable def othN (p:Int) (kn:List (Int × Int)):List Int:=(kn.map (·.1)).filter fun x=>decide (x ≠ p)
noncomputable def toldIx (lg:Int → Int) (sp:Int) (kn:List (Int × Int)) (q:Int × Int):Nat :=
  (((othN q.1 kn).foldl (fun x y=>x + lg (Builtin.bitXor sp y)) (lg q.2) - (othN q.1 kn).foldl (fun x y=>x + lg (Builtin.bitXor q.1 y)) 0).fmod 15).toNat
noncomputable def toldTN (lg:Int → Int) (sp:Int) (ps:List Int) (kn:List (Int × Int)):List (Int × Int) → List Int
  | []=>[]
  | q :: r=>if q.2 = 0 then toldTN lg sp ps kn r else ps.getD (toldIx lg sp kn q) 0 :: toldTN lg sp ps kn r
noncomputable def toldN (lg:Int → Int) (sp:Int) (ps:List Int) (kn:List (Int × Int)):Int:=(toldTN lg sp ps kn kn).foldl (fun x y=>Builtin.bitXor x y) 0
noncomputable def bare (kns:List Pr):List (Int × Int):=kns.map fun z=>(z.2.1.1,z.2.2.1)
theorem oth_bare (p:Int):∀ kns:List Pr,(othF p kns).map (·.1) = othN p (bare kns)
  | []=>rfl
  | z :: r=>by
    have ih:=oth_bare p r
    unfold othF othN bare at ih ⊢
    simp only [List.map_cons,List.filter_cons]
    cases h:decide (z.2.1.1 ≠ p) with
    | true=>simp only [if_true,List.map_cons,ih]
    | false=>simp only [Bool.false_eq_true,if_false,ih]
theorem idx_bare (lg:Int → Int) (sp:Int) (kns:List Pr) (q:Pr):toldIdx lg sp kns q = toldIx lg sp (bare kns) (q.2.1.1,q.2.2.1):=by
  unfold toldIdx toldIx
  rw [oth_bare]
theorem ts_bare (lg:Int → Int) (sp:Int) (ps:List Int) (kns:List Pr):∀ r:List Pr,toldTs lg sp ps kns r = toldTN lg sp ps (bare kns) (bare r)
  | []=>rfl
  | q :: r=>by
    show (if q.2.2.1 = 0 then _ else _) = (if q.2.2.1 = 0 then _ else _)
    rw [ts_bare lg sp ps kns r,idx_bare]
    rfl
theorem told_bare (lg:Int → Int) (sp:Int) (ps:List Int) (kns:List Pr):toldV lg sp ps kns = toldN lg sp ps (bare kns):=by
  unfold toldV toldN
  rw [ts_bare]
theorem toldTN16 {lg:Int → Int} {sp:Int} {ps:List Int} (hp:∀ x ∈ ps,In16 x) (kn:List (Int × Int)):∀ r:List (Int × Int),∀ x ∈ toldTN lg sp ps kn r,In16 x
  | [],x,h=>nomatch h
  | q :: r,x,h=>by
    unfold toldTN at h
    split at h
    · exact toldTN16 hp kn r x h
    · rcases List.mem_cons.mp h with rfl | h
      · rw [List.getD_eq_getElem?_getD]
        cases e:ps[toldIx lg sp kn q]? with
        | none=>exact ⟨by decide,by decide⟩
        | some y=>exact hp y (List.mem_of_getElem? e)
      · exact toldTN16 hp kn r x h
theorem toldN16 {lg:Int → Int} {sp:Int} {ps:List Int} (hp:∀ x ∈ ps,In16 x) (kn:List (Int × Int)):In16 (toldN lg sp ps kn) :=
  bx_fold16 _ _ ⟨by decide,by decide⟩ (toldTN16 hp kn kn)
noncomputable def l15 (P:Nat → Int × Nat):List (Int × Nat):=[P 0,P 1,P 2,P 3,P 4,P 5,P 6,P 7,P 8,P 9,P 10,P 11,P 12,P 13,P 14]
theorem l15_eq (P:Nat → Int × Nat):l15 P = (List.range 15).map P:=rfl
theorem l15_mem (P:Nat → Int × Nat) {i:Nat} (h:i < 15):(P i).1 ∈ (l15 P).map (·.1):=by
  rw [l15_eq]
  exact List.mem_map_of_mem (List.mem_map_of_mem (List.mem_range.mpr h))
noncomputable def l14 (P:Nat → Int × Nat):List (Int × Nat):=[P 1,P 2,P 3,P 4,P 5,P 6,P 7,P 8,P 9,P 10,P 11,P 12,P 13,P 14]
noncomputable def l14' (P:Nat → Int × Nat):List (Int × Nat):=[P 0,P 1,P 2,P 3,P 4,P 5,P 6,P 7,P 8,P 9,P 10,P 11,P 12,P 13]
theorem l15_ne {P:Nat → Int × Nat} (nd:((l15 P).map (·.1)).Nodup) {i j:Nat} (hij:i < j) (hj:j < 15):(P i).1 ≠ (P j).1:=by
  rw [l15_eq,List.map_map] at nd
  have:=List.pairwise_iff_getElem.mp nd i j (by simp; lia) (by simp; omega) hij
  simpa using this
theorem l15_of {ps:List (Int × Nat)} (h:ps.length = 15):∃ P:Nat → Int × Nat,ps = l15 P:=by
  refine ⟨fun i=>ps.getD i (0,0),?_⟩
  rw [l15_eq]
  refine List.ext_getElem (by simpa using h) fun i h1 h2=>?_
  rw [List.getElem_map,List.getElem_range,List.getD_eq_getElem?_getD,List.getElem?_eq_getElem h1]
  rfl
structure LogsAt (w:World) (h:Heap) (pw l:Nat) (ps:List (Int × Nat)) (lg:Int → Int):Prop where
  ex:∃ pe es ep,h.get? pw = some (listO (intsV ps) pe) ∧ h.get? l = some (dictO es ep) ∧ KeysOf (intKind prog w) es ∧ ∀ k:Int,1 ≤ k → k ≤ 15 → Holds es lg k
  bpw:219 ≤ pw
  bl:219 ≤ l
  len:ps.length = 15
  rng:∀ x ∈ ps.map (·.1),1 ≤ x ∧ x ≤ 15
theorem not181 {a:Nat} (x:219 ≤ a):a ∉ [181]:=fun hm=>by rw [List.mem_singleton.mp hm] at x; lia
theorem LogsAt.keep {w:World} {h h':Heap} {pw l:Nat} {ps:List (Int × Nat)} {lg:Int → Int} (T:LogsAt w h pw l ps lg) (k:KeepsBut [181] h h'):LogsAt w h' pw l ps lg:=by
  obtain ⟨pe,es,ep,h1,h2,h3,h4⟩:=T.ex
  exact ⟨⟨pe,es,ep,k _ _ h1 (not181 T.bpw),k _ _ h2 (not181 T.bl),h3,h4⟩,T.bpw,T.bl,T.len,T.rng⟩
theorem LogsAt.r16 {w:World} {h:Heap} {pw l:Nat} {ps:List (Int × Nat)} {lg:Int → Int} (T:LogsAt w h pw l ps lg):∀ x ∈ ps.map (·.1),In16 x:=fun x hx=>⟨by have:=(T.rng x hx).1; lia,(T.rng x hx).2⟩
noncomputable def AllZ (P:Pr → Prop):List Pr → Prop
  | []=>True
  | z :: r=>P z ∧ AllZ P r
theorem AllZ.mem {P:Pr → Prop}:∀ {l:List Pr},AllZ P l → ∀ z ∈ l,P z
  | [],_,_,h=>nomatch h
  | _ :: _,a,z,h=>by
    rcases List.mem_cons.mp h with rfl | h
    · exact a.1
    · exact AllZ.mem a.2 z h
structure TabAt (h:Heap) (tt:TT):Prop where
  at_:h.get? 181 = some (tabO tt.l)
  ok:TabOk h tt
theorem TabOk.keep181 {h h':Heap} {tt:TT} (T:TabAt h tt) (k:KeepsBut [181] h h'):TabOk h' tt:=T.ok.map fun a c=>c.keep k fun hm=>by
  rw [List.mem_singleton.mp hm] at c
  obtain ⟨v0,t0,r0,c⟩:=c
  rw [T.at_] at c
  exact absurd (congrArg Obj.cls (Option.some.inj c)) (fun x=>nomatch x)
theorem TabAt.keeps {h h':Heap} {tt:TT} (T:TabAt h tt) (k:Keeps h h'):TabAt h' tt:=⟨k _ _ T.at_,TabOk.keep181 T k.but⟩
section
variable {w:World} {b1 b2:Bool} {A:Around} {R:Result → Shared → Prop} {h:Heap} {g:Array GenState} {d:Drawn} {T0:Nat} {os:OsState}
  {pw l kn:Nat} {sp:Int} {tsp ke:Nat} {tt:TT} {ps:List (Int × Nat)} {kns:List Pr} {lg:Int → Int}
theorem told_at (F:Follows w b1 b2) (hA:Lo A 200) (hh:A.handled = none) (top:TopOk w h) (tb:TabAt h tt) (T:LogsAt w h pw l ps lg)
    (hkn:h.get? kn = some (listO (refsV kns) ke)) (bkn:219 ≤ kn) (hkl:kns.length ≤ 4) (hs:In16 sp)
    (hz:AllZ (fun z=>(h.get? z.1 = some (prO z) ∧ 219 ≤ z.1) ∧ (In16 z.2.1.1 ∧ z.2.1.1 ≠ sp) ∧ In16 z.2.2.1) kns)
    (K:∀ h' tk' tt' v t,KeepsBut [181] h h' → h.objs.size ≤ h'.objs.size → TabAt h' tt' → v = toldN lg sp (ps.map (·.1)) (bare kns) → In16 v → R (.ok (.ret (.int v t))) ⟨h',g,d,tk',os⟩) :
    codeAny (model prog w) A (.call (.ref 184) ⟨[.ref pw,.ref l,.ref kn,.int sp tsp],[]⟩) R ⟨h,g,d,T0,os⟩:=by
  obtain ⟨pe,es,ep,h1,h2,h3,h4⟩:=T.ex
  have hol:∀ {a b:Int},In16 a → In16 b → a ≠ b → Holds es lg (Builtin.bitXor a b):=fun ha hb n=>h4 _ (bx_pos ha hb n) (bx16 ha hb).2
  have hq:∀ z ∈ kns,h.get? z.1 = some (prO z):=fun z hz'=>(hz.mem z hz').1.1
  have bq:∀ z ∈ kns,219 ≤ z.1:=fun z hz'=>(hz.mem z hz').1.2
  have hp:∀ z ∈ kns,In16 z.2.1.1 ∧ z.2.1.1 ≠ sp:=fun z hz'=>(hz.mem z hz').2.1
  have hv:∀ z ∈ kns,In16 z.2.2.1:=fun z hz'=>(hz.mem z hz').2.2
  refine told_call F hA hh top tb.at_ tb.ok h1 h2 hkn T.bpw T.bl bkn hq bq hkl T.len h3 (fun q hq' hn=>h4 _ (by have:=(hv q hq').1; lia) (hv q hq').2)
    (fun z hz=>hol hs (hp z hz).1 (Ne.symm (hp z hz).2)) (fun q hq' z hz n=>hol (hp q hq').1 (hp z hz).1 (Ne.symm n)) fun h' tk' tt' t k s e o=>?_
  rw [told_bare]
  exact K h' tk' tt' _ t k s ⟨e,o⟩ rfl (toldN16 T.r16 _)
end
section
variable {w:World} {b1 b2:Bool} {A:Around} {R:Result → Shared → Prop} {h:Heap} {g:Array GenState} {d:Drawn} {T0:Nat} {os:OsState}
  {pw l kn:Nat} {sp:Int} {tsp ke:Nat} {tt:TT} {ps:List (Int × Nat)} {kns:List Pr} {lg:Int → Int}
theorem told_as (Y:Int) (F:Follows w b1 b2) (hA:Lo A 200) (hh:A.handled = none) (top:TopOk w h) (tb:TabAt h tt) (T:LogsAt w h pw l ps lg)
    (hY:Y = toldN lg sp (ps.map (·.1)) (bare kns)) (hkn:h.get? kn = some (listO (refsV kns) ke)) (bkn:219 ≤ kn) (hkl:kns.length ≤ 4) (hs:In16 sp)
    (hz:AllZ (fun z=>(h.get? z.1 = some (prO z) ∧ 219 ≤ z.1) ∧ (In16 z.2.1.1 ∧ z.2.1.1 ≠ sp) ∧ In16 z.2.2.1) kns)
    (K:∀ h' tk' tt' t,KeepsBut [181] h h' → h.objs.size ≤ h'.objs.size → TabAt h' tt' → R (.ok (.ret (.int Y t))) ⟨h',g,d,tk',os⟩) :
    codeAny (model prog w) A (.call (.ref 184) ⟨[.ref pw,.ref l,.ref kn,.int sp tsp],[]⟩) R ⟨h,g,d,T0,os⟩ :=
  told_at F hA hh top tb T hkn bkn hkl hs hz fun h' tk' tt' v t k s tb' ev _=>by
    rw [ev,← hY]; exact K h' tk' tt' t k s tb'
end
theorem ge_addr {C:Cf} {hb:Heap} (O:Ok C hb [181]) (h219:219 ≤ hb.objs.size) (j:Nat) (h0:C.addr 0 = 181) (hj:j ≠ 0) {a:Addr} (e:C.addr j = a):219 ≤ a:=by
  by_cases hp:j < C.p
  · rcases O.out _ (O.addr_mem hp) with x | x
    · exact absurd (O.addr_inj ((List.mem_singleton.mp x).trans h0.symm)) hj
    · rw [← e]; exact Nat.le_trans h219 x
  · rw [← e,Cf.addr_hi (by lia)]
    exact Nat.le_trans h219 (Nat.le_trans O.mono (Nat.le_add_right _ _))
section
variable {w:World} {A:Around} {R:Result → Shared → Prop} {s:Shared}
theorem c_decH2 {p q t u:Nat} (lp:p < 16) (lq:q < 16) (h:∀ t' k,R (.ok (.ret (.str ⟨#[hx p,hx q]⟩ t'))) { s with toks:=k }) :
    codeAny (model prog w) A (.call (.builtin "bytes.decode") ⟨[.bytes #[(hx p).toUInt8,(hx q).toUInt8] t,.str asciiS u],[]⟩) R s:=by
  have ep:=u8_back _ (Nat.lt_trans (hx_lt p lp) (by decide))
  have eq:=u8_back _ (Nat.lt_trans (hx_lt q lq) (by decide))
  refine c_dec2 (by rw [ep]; exact hx_lt p lp) (by rw [eq]; exact hx_lt q lq) ?_
  rw [ep,eq]
  exact h
theorem c_decH4 {p q r z t u:Nat} (lp:p < 16) (lq:q < 16) (lr:r < 16) (lz:z < 16) (h:∀ t' k,R (.ok (.ret (.str ⟨#[hx p,hx q,hx r,hx z]⟩ t'))) { s with toks:=k }) :
    codeAny (model prog w) A (.call (.builtin "bytes.decode") ⟨[.bytes #[(hx p).toUInt8,(hx q).toUInt8,(hx r).toUInt8,(hx z).toUInt8] t,.str asciiS u],[]⟩) R s:=by
  have ep:=u8_back _ (Nat.lt_trans (hx_lt p lp) (by decide))
  have eq:=u8_back _ (Nat.lt_trans (hx_lt q lq) (by decide))
  have er:=u8_back _ (Nat.lt_trans (hx_lt r lr) (by decide))
  have ez:=u8_back _ (Nat.lt_trans (hx_lt z lz) (by decide))
  refine c_dec4 (by rw [ep]; exact hx_lt p lp) (by rw [eq]; exact hx_lt q lq) (by rw [er]; exact hx_lt r lr) (by rw [ez]; exact hx_lt z lz) ?_
  rw [ep,eq,er,ez]
  exact h
end
noncomputable def notCode:Value → Bool
  | .type s=>match Nat.beq (S.codeS s) (S.codeS "code") with
    | true=>false
    | false=>true
  | _=>true
noncomputable def codeFree (T:BT):Nat → Bool
  | 0=>true
  | n + 1=>match T.get n with
    | some o=>match notCode o.cls with
      | true=>codeFree T n
      | false=>false
    | none=>false
theorem codeFree_at {T:BT}:∀ {n j:Nat},codeFree T n = true → j < n → ∃ o,T.get j = some o ∧ notCode o.cls = true
  | n + 1,j,h,hj=>by
    unfold codeFree at h
    cases e:T.get n with
    | none=>rw [e] at h; cases h
    | some o =>
      rw [e] at h
      dsimp only at h
      cases q:notCode o.cls with
      | false=>rw [q] at h; cases h
      | true =>
        rw [q] at h
        by_cases hn:j = n
        · subst hn; exact ⟨o,e,q⟩
        · exact codeFree_at h (by lia)
theorem TabOk.run {C:Cf} {hb h h':Heap} {mu:List Addr} {T:BT} {m:Nat} {tt:TT} (W:Ok C hb mu ∧ Rep C hb mu h T m) (hp:C.p = m) (chk:codeFree T m = true) (k:KeepsBut C.pre h h') (o:TabOk h tt):TabOk h' tt:=o.map fun a c=>c.keep k fun hm=>by
  obtain ⟨v0,t0,r0,e⟩:=c
  obtain ⟨j,lj,rfl⟩:=List.getElem_of_mem hm
  have lp:j < C.p:=by rw [← W.1.len]; exact lj
  obtain ⟨o',e',q⟩:=codeFree_at chk (by rw [← hp]; exact lp)
  have z:=(W.2.own j o' e').2
  rw [Cf.addr_lo lp,List.getD_eq_getElem?_getD,List.getElem?_eq_getElem lj] at z
  have z':h.get? C.pre[j] = some o':=z
  rw [e] at z'
  cases z'
  have:notCode (.type "code") = true:=q
  unfold notCode at this
  dsimp only at this
  rw [Nat.beq_refl] at this
  cases this
end Mine
namespace Mine
open PySem PySem.W PySem.W.X PyProof.Rows
section
variable {w:World} {b1 b2:Bool} {A:Around} {R:Result → Shared → Prop} {h:Heap} {g:Array GenState} {d:Drawn} {T0:Nat} {os:OsState} {P:Nat → Int × Nat} {pw l:Nat} {lg:Int → Int} {tt:TT} {a b:UInt8} {to:Nat}
noncomputable def pairsN (lg:Int → Int) (ps:List Int) (p0 p1 p2 p3 p4 p5:Int) (a b:UInt8):List (Int × Int) :=
  [(p0,(((a.toNat / 16):Nat):Int)),(p1,(((a.toNat % 16):Nat):Int)),(p2,(((b.toNat / 16):Nat):Int)),(p3,(((b.toNat % 16):Nat):Int))] ++ [(p4,toldN lg p4 ps [(p0,(((a.toNat / 16):Nat):Int)),(p1,(((a.toNat % 16):Nat):Int)),(p2,(((b.toNat / 16):Nat):Int)),(p3,(((b.toNat % 16):Nat):Int))]),(p5,toldN lg p5 ps [(p0,(((a.toNat / 16):Nat):Int)),(p1,(((a.toNat % 16):Nat):Int)),(p2,(((b.toNat / 16):Nat):Int)),(p3,(((b.toNat % 16):Nat):Int))])]
theorem pairs_call (F:Follows w b1 b2) (hA:Lo A 100) (hh:A.handled = none) (top:TopOk w h) (hN:219 ≤ h.objs.size) (tb:TabAt h tt) (T:LogsAt w h pw l (l15 P) lg)
    (n4:((P 0).1 ≠ (P 4).1 ∧ (P 1).1 ≠ (P 4).1 ∧ (P 2).1 ≠ (P 4).1 ∧ (P 3).1 ≠ (P 4).1)) (n5:((P 0).1 ≠ (P 5).1 ∧ (P 1).1 ≠ (P 5).1 ∧ (P 2).1 ≠ (P 5).1 ∧ (P 3).1 ≠ (P 5).1))
    (K:∀ h' tk' tt' L e (Q:List Pr),KeepsBut [181] h h' → h.objs.size ≤ h'.objs.size → TabAt h' tt' → 219 ≤ L → h'.get? L = some (listO (refsV Q) e) → bare Q = pairsN lg ((l15 P).map (·.1)) (P 0).1 (P 1).1 (P 2).1 (P 3).1 (P 4).1 (P 5).1 a b → AllZ (fun z=>(h'.get? z.1 = some (prO z) ∧ 219 ≤ z.1) ∧ In16 z.2.1.1 ∧ In16 z.2.2.1) Q → R (.ok (.ret (.ref L))) ⟨h',g,d,tk',os⟩) :
    codeAny (model prog w) A (.call (.ref 189) ⟨[.bytes #[a,b] to,.ref pw,.ref l],[]⟩) R ⟨h,g,d,T0,os⟩:=by
  refine Mn.enter hA ?_
  obtain ⟨pe,es,ep,hpw,hl,_,_⟩:=T.ex
  have OD:=startA (b1:=b1) (b2:=b2) (T0:=T0) [(pw,listO (intsV (l15 P)) pe),(l,dictO es ep)] [181] [tabO tt.l] 1 rfl rfl (by kernel_rfl) top ⟨hpw,hl,trivial⟩ ⟨tb.at_,trivial⟩
    ⟨.inr (.inr (.inr rfl)),trivial⟩ ⟨trivial,trivial⟩ ⟨⟨(nlt (by have:=T.bpw; lia:181 < pw)).symm,trivial⟩,⟨(nlt (by have:=T.bl; lia:181 < l)).symm,trivial⟩,trivial⟩
  have r0:=T.r16 _ (l15_mem P (i:=0) (by decide))
  have r1:=T.r16 _ (l15_mem P (i:=1) (by decide))
  have r2:=T.r16 _ (l15_mem P (i:=2) (by decide))
  have r3:=T.r16 _ (l15_mem P (i:=3) (by decide))
  have r4:=T.r16 _ (l15_mem P (i:=4) (by decide))
  have r5:=T.r16 _ (l15_mem P (i:=5) (by decide))
  refine go F 25 6 1 [189,188,1001,1001,1002,1002,1003,1003,2,3,1001,117] (i:=0) OD hA hh fun h1=>?_
  intro o_h1 OD
  refine Mn.st (.call (.ref 117) ⟨[.bytes #[a,b] to],[]⟩) ?_
  refine enc2_call F (dk hA) (aH hh) OD.2.tp fun j1 tk1 te kj sj=>?_
  replace OD:=cre0 tk1 OD kj sj
  refine go F 5 6 1 [] (i:=0) OD hA hh fun h2=>?_
  intro o_h2 OD
  refine Mn.st (.call (.builtin "bytes.decode") ⟨[.bytes #[(hx (a.toNat / 16)).toUInt8,(hx (a.toNat % 16)).toUInt8,(hx (b.toNat / 16)).toUInt8,(hx (b.toNat % 16)).toUInt8] te,.str ⟨#[97,115,99,105,105]⟩ (tk1 + 0)],[]⟩) ?_
  refine c_decH4 (b_hi a) (b_lo a) (b_hi b) (b_lo b) fun tx tk2=>?_
  replace OD:=cre0 tk2 OD (Keeps.refl _) (Nat.le_refl _)
  refine go F 3 6 0 [7000] (i:=0) OD hA hh fun h3=>?_
  intro o_h3 OD
  refine Mn.st (.call (.builtin "str.__iter__") ⟨[.str ⟨#[hx (a.toNat / 16),hx (a.toNat % 16),hx (b.toNat / 16),hx (b.toNat % 16)]⟩ tx],[]⟩) ?_
  refine c_str_iter (by simp [hx_lt _ (b_hi a),hx_lt _ (b_lo a),hx_lt _ (b_hi b),hx_lt _ (b_lo b)]) fun j3 kj sj oj=>?_
  have zj:h3.objs.size < j3.objs.size:=by have:j3.objs.size = h3.objs.size + 1:=sj; lia
  replace OD:=creG (mm:=7) (tk2 + 0) [] [] [h3.objs.size] [saiO ⟨#[hx (a.toNat / 16),hx (a.toNat % 16),hx (b.toNat / 16),hx (b.toNat % 16)]⟩ tx 0] OD trivial kj.but (Nat.le_of_lt zj) trivial trivial ⟨⟨Nat.le_refl _,zj⟩,trivial⟩ ⟨trivial,trivial⟩ ⟨oj,trivial⟩ rfl (by kernel_rfl) rfl
  refine go F 30 9 3 [1006,7001,10,5,1006,1006,7000,1006,1006,1006,1006,1006,1006,1006,1006,1008,1008,1008] (i:=0) OD hA hh fun h4=>?_
  intro o_h4 OD
  refine Mn.st (.call (.builtin "str.index") ⟨[.str hexS ((tk2 + 0) + 2),.str (S1 (hx (a.toNat / 16))) ((tk2 + 0) + 0)],[]⟩) ?_
  refine c_index (b_hi a) ?_
  refine go F 33 9 7 [1007,1007,1007,1007,1006,1006,1006,1006,1006,1006,1008,1008,1008] (i:=4) OD hA hh fun h5=>?_
  intro o_h5 OD
  refine Mn.st (.call (.builtin "str.index") ⟨[.str hexS ((tk2 + 0) + 6),.str (S1 (hx (a.toNat % 16))) ((tk2 + 0) + 4)],[]⟩) ?_
  refine c_index (b_lo a) ?_
  refine go F 33 9 11 [1007,1007,1007,1007,1006,1006,1006,1006,1006,1006,1008,1008,1008] (i:=8) OD hA hh fun h6=>?_
  intro o_h6 OD
  refine Mn.st (.call (.builtin "str.index") ⟨[.str hexS ((tk2 + 0) + 10),.str (S1 (hx (b.toNat / 16))) ((tk2 + 0) + 8)],[]⟩) ?_
  refine c_index (b_hi b) ?_
  refine go F 33 9 15 [1007,1007,1007,1007,1006,1006,1006,1006,1006,1006,1008,1008,1008] (i:=12) OD hA hh fun h7=>?_
  intro o_h7 OD
  refine Mn.st (.call (.builtin "str.index") ⟨[.str hexS ((tk2 + 0) + 14),.str (S1 (hx (b.toNat % 16))) ((tk2 + 0) + 12)],[]⟩) ?_
  refine c_index (b_lo b) ?_
  refine go F 403 26 30 [1007,1007,1007,1007,1006,1006,1006,1006,1006,1006,1010,1008,1008,1008,1004,1004,3,0,1011,1011,1011,1011,1011,1011,7000,1011,1011,1011,1011,1012,7001,10,5,1012,1012,7000,1012,1012,1012,1012,1012,1012,1012,1012,1012,1012,1012,1014,1014,1002,1014,2000,2000,2000,2000,2000,1004,1014,1007,1007,1007,1007,1007,1013,1013,1013,1013,1012,1012,1012,1012,1012,1012,1012,1012,1012,1014,1014,1002,1014,2000,2000,2000,2000,2000,1004,1014,1007,1007,1007,1007,1007,1013,1013,1013,1013,1012,1012,1012,1012,1012,1012,1012,1012,1012,1014,1014,1002,1014,2000,2000,2000,2000,2000,1004,1014,1007,1007,1007,1007,1007,1013,1013,1013,1013,1012,1012,1012,1012,1012,1012,1012,1012,1012,1014,1014,1002,1014,2000,2000,2000,2000,2000,1004,1014,1007,1007,1007,1007,1007,1013,1013,1013,1013,1012,1012,1012,1012,1012,1020,1014,1014,1014,1005,1005,1005,1002,2000,2000,2000,2000,1021,1021,1021,1021,1021,2000,1022,1022,7000,1022,1023,7001,10,5,1023,1023,7000,1023,1023,1023,1023,1023,1023,1022,1023,1023,1025,1025,1025,3,1002,1003,1005,1025,184] (i:=16) OD hA hh fun h8=>?_
  intro o_h8 OD
  refine Mn.st (.call (.ref 184) ⟨[.ref pw,.ref l,.ref (j3.objs.size + 6),.int (P 4).1 (P 4).2],[]⟩) ?_
  refine told_at (tt:=tt) (kns:=[((j3.objs.size + 8),P 0,((((a.toNat / 16):Nat):Int),((tk2 + 0) + 3))),((j3.objs.size + 9),P 1,((((a.toNat % 16):Nat):Int),((tk2 + 0) + 7))),((j3.objs.size + 10),P 2,((((b.toNat / 16):Nat):Int),((tk2 + 0) + 11))),((j3.objs.size + 11),P 3,((((b.toNat % 16):Nat):Int),((tk2 + 0) + 15)))]) (ke:=4) F (dk hA) (aH hh) OD.2.tp ⟨(OD.2.ob 0),TabOk.keep181 tb OD.2.kept⟩ (T.keep OD.2.kept) (OD.2.ob 13) (ge_addr OD.1 hN 13 rfl (by decide) rfl) (by simp) r4 ⟨⟨⟨(OD.2.ob 15),ge_addr OD.1 hN 15 rfl (by decide) rfl⟩,⟨r0,n4.1⟩,d16 (b_hi a)⟩,⟨⟨(OD.2.ob 16),ge_addr OD.1 hN 16 rfl (by decide) rfl⟩,⟨r1,n4.2.1⟩,d16 (b_lo a)⟩,⟨⟨(OD.2.ob 17),ge_addr OD.1 hN 17 rfl (by decide) rfl⟩,⟨r2,n4.2.2.1⟩,d16 (b_hi b)⟩,⟨⟨(OD.2.ob 18),ge_addr OD.1 hN 18 rfl (by decide) rfl⟩,⟨r3,n4.2.2.2⟩,d16 (b_lo b)⟩,trivial⟩ fun j8 tk8 tt1 v4 tv4 kj sj tb1 ev4 rv4=>?_
  replace OD:=cre1 tk8 0 181 OD (by kernel_rfl:_ = some (tabO tt.l)) rfl kj sj tb1.at_
  have W1:=OD
  replace OD:=fresh OD rfl rfl
  refine go F 43 27 1 [1024,1024,1024,1024,1023,1023,1023,1023,1022,1023,1023,1025,1025,1025,3,1002,1003,1005,1025,184] (i:=0) OD hA hh fun h9=>?_
  intro o_h9 OD
  have tr1:TabAt h9 tt1:=⟨(OD.2.ob 0),TabOk.run W1 rfl (by kernel_rfl) OD.2.kept tb1.ok⟩
  replace OD:=back W1 OD.2
  refine Mn.st (.call (.ref 184) ⟨[.ref pw,.ref l,.ref (j3.objs.size + 6),.int (P 5).1 (P 5).2],[]⟩) ?_
  refine told_at (tt:=tt1) (kns:=[((j3.objs.size + 8),P 0,((((a.toNat / 16):Nat):Int),((tk2 + 0) + 3))),((j3.objs.size + 9),P 1,((((a.toNat % 16):Nat):Int),((tk2 + 0) + 7))),((j3.objs.size + 10),P 2,((((b.toNat / 16):Nat):Int),((tk2 + 0) + 11))),((j3.objs.size + 11),P 3,((((b.toNat % 16):Nat):Int),((tk2 + 0) + 15)))]) (ke:=4) F (dk hA) (aH hh) OD.2.tp tr1 (T.keep OD.2.kept) (OD.2.ob 13) (ge_addr OD.1 hN 13 rfl (by decide) rfl) (by simp) r5 ⟨⟨⟨(OD.2.ob 15),ge_addr OD.1 hN 15 rfl (by decide) rfl⟩,⟨r0,n5.1⟩,d16 (b_hi a)⟩,⟨⟨(OD.2.ob 16),ge_addr OD.1 hN 16 rfl (by decide) rfl⟩,⟨r1,n5.2.1⟩,d16 (b_lo a)⟩,⟨⟨(OD.2.ob 17),ge_addr OD.1 hN 17 rfl (by decide) rfl⟩,⟨r2,n5.2.2.1⟩,d16 (b_hi b)⟩,⟨⟨(OD.2.ob 18),ge_addr OD.1 hN 18 rfl (by decide) rfl⟩,⟨r3,n5.2.2.2⟩,d16 (b_lo b)⟩,trivial⟩ fun j9 tk9 tt2 v5 tv5 kj sj tb2 ev5 rv5=>?_
  replace OD:=cre1 tk9 0 181 OD (by kernel_rfl:_ = some (tabO tt1.l)) rfl kj sj tb2.at_
  have W2:=OD
  replace OD:=fresh OD rfl rfl
  refine go F 46 31 0 [1024,1024,1024,1024,1023,1023,1023,1023,1022,1023,1023,1029,1025,1025,1025,1013,1024,1013,1013,1024,1013,1024] (i:=0) OD hA hh fun h10=>?_
  intro o_h10 OD
  have tr2:TabAt h10 tt2:=⟨(OD.2.ob 0),TabOk.run W2 rfl (by kernel_rfl) OD.2.kept tb2.ok⟩
  replace OD:=back W2 OD.2
  refine Mn.en (.ret (.ref (j9.objs.size + 3))) ?_
  refine K _ _ tt2 (j9.objs.size + 3) 0 [((j3.objs.size + 8),P 0,((((a.toNat / 16):Nat):Int),((tk2 + 0) + 3))),((j3.objs.size + 9),P 1,((((a.toNat % 16):Nat):Int),((tk2 + 0) + 7))),((j3.objs.size + 10),P 2,((((b.toNat / 16):Nat):Int),((tk2 + 0) + 11))),((j3.objs.size + 11),P 3,((((b.toNat % 16):Nat):Int),((tk2 + 0) + 15))),((j8.objs.size + 0),P 4,(v4,tv4)),((j9.objs.size + 0),P 5,(v5,tv5))] OD.2.kept (size_le OD.1 OD.2) tr2 (ge_addr OD.1 hN 30 rfl (by decide) rfl) (OD.2.ob 30) ?_ ⟨⟨⟨(OD.2.ob 15),ge_addr OD.1 hN 15 rfl (by decide) rfl⟩,r0,d16 (b_hi a)⟩,⟨⟨(OD.2.ob 16),ge_addr OD.1 hN 16 rfl (by decide) rfl⟩,r1,d16 (b_lo a)⟩,⟨⟨(OD.2.ob 17),ge_addr OD.1 hN 17 rfl (by decide) rfl⟩,r2,d16 (b_hi b)⟩,⟨⟨(OD.2.ob 18),ge_addr OD.1 hN 18 rfl (by decide) rfl⟩,r3,d16 (b_lo b)⟩,⟨⟨(OD.2.ob 26),ge_addr OD.1 hN 26 rfl (by decide) rfl⟩,r4,rv4⟩,⟨⟨(OD.2.ob 27),ge_addr OD.1 hN 27 rfl (by decide) rfl⟩,r5,rv5⟩,trivial⟩
  rw [ev4,ev5]
  rfl
end
end Mine
set_option genInjectivity false
set_option genSizeOf false
namespace Mine
open PySem PySem.W PySem.W.X PyProof.Rows
noncomputable def dcK:Expr → Expr
  | .DictComp k _ _ _ _=>k
  | e=>e
noncomputable def dcV:Expr → Expr
  | .DictComp _ v _ _ _=>v
  | e=>e
noncomputable def dcG:Expr → Comprehension
  | .DictComp _ _ (g :: _) _ _=>g
  | _=>default
noncomputable def dcS:Expr → Scope
  | .DictComp _ _ _ s _=>s
  | _=>default
noncomputable def dcP:Expr → Pos
  | .DictComp _ _ _ _ p=>p
  | _=>default
structure IsDc (e:Expr):Prop where
  is:e = .DictComp (dcK e) (dcV e) [dcG e] (dcS e) (dcP e)
  na:(dcG e).is_async = 0
  ni:(dcG e).ifs = []
theorem compTurn_is (k v:Expr) (g:Comprehension) (sc:Scope) (ps:Pos) (h1:g.is_async = 0) (h2:g.ifs = []) (it:Value) (d:Addr) (env:Env):compTurn (.DictComp k v [g] sc ps) 0 it (.ref d) env =
    (standAt g.iter.pos).bind fun _=>(pyNext it).bind fun r=>match r with
      | none=>.pure (.done .next)
      | some x=>(letOwnedTupleGo g.target it x).bind fun _=>(assign g.target env x).bind fun _=>(eval k env).bind fun kv=>(holding [kv] (eval v env)).bind fun vv =>
        (standAt { k.pos with endLine:=v.pos.endLine,endCol:=v.pos.endCol }).bind fun _=>(holding [kv,vv] (dictSet d kv vv)).bind fun _=>again (.compLoop (.DictComp k v [g] sc ps) 0 it (.ref d) env):=by
  obtain ⟨t,i,fs,a⟩:=g
  cases h1
  cases h2
  unfold compTurn
  refine congrArg (Sem.bind _) (funext fun _=>congrArg (Sem.bind _) (funext fun r=>?_))
  cases r with
  | none=>rfl
  | some x =>
    refine congrArg (Sem.bind _) (funext fun _=>congrArg (Sem.bind _) (funext fun _=>?_))
    show ((eval k env).bind fun kv=>(holding [kv] (eval v env)).bind fun vv=>(standAt { k.pos with endLine:=v.pos.endLine,endCol:=v.pos.endCol }).bind fun _=>holding [kv,vv] (dictSet d kv vv)).bind (fun _=>again (.compLoop (.DictComp k v [⟨t,i,[],0⟩] sc ps) 0 it (.ref d) env)) = _
    exact (bind_assoc (m:=Sem) _ _ _).trans (congrArg (Sem.bind _) (funext fun kv=>(bind_assoc (m:=Sem) _ _ _).trans (congrArg (Sem.bind _) (funext fun vv=>bind_assoc (m:=Sem) _ _ _))))
noncomputable def dcT1 (e:Expr) (env:Env) (x:Value):Sem Fin:=R.bindR (Fast.tw17772580674575903948 (dcG e).target env x) fun _=>R.bindR (Fast.tw14044960220447912780 (dcK e) env) fun kv=>.pure (.done (.ret kv))
noncomputable def dcT2 (e:Expr) (env:Env):Sem Fin:=R.bindR (Fast.tw14044960220447912780 (dcV e) env) fun vv=>.pure (.done (.ret vv))
theorem dcT1_eq (e:Expr) (env:Env) (x:Value):dcT1 e env x = (assign (dcG e).target env x).bind fun _=>(eval (dcK e) env).bind fun kv=>.pure (.done (.ret kv)):=by
  unfold dcT1
  rw [← Fast.te17772580674575903948,← Fast.te14044960220447912780,← R.bindR_eq]
theorem dcT2_eq (e:Expr) (env:Env):dcT2 e env = (eval (dcV e) env).bind fun vv=>.pure (.done (.ret vv)):=by
  unfold dcT2
  rw [← Fast.te14044960220447912780,← R.bindR_eq]
noncomputable def retR (Q:Value → Shared → Prop):Result → Shared → Prop:=fun r s=>match r with
  | .ok (.ret v)=>Q v s
  | _=>False
section
variable {w:World} {A:Around} {R:Result → Shared → Prop} {s:Shared}
theorem comp_next {e:Expr} {it:Value} {d:Addr} {env:Env} (D:IsDc e)
    (h:wpAny (model prog w) A (pyNext it) (fun r s₁=>match r with
      | none=>R (.ok .next) s₁
      | some x=>wpAny (model prog w) A (letOwnedTupleGo (dcG e).target it x) (fun _ s₂ =>
          Mn prog w A (retR fun kv s₃=>Mn prog w A (retR fun vv s₄=>wpAny (model prog w) A (dictSet d kv vv) (fun _ s₅=>codeAny (model prog w) A (.compLoop e 0 it (.ref d) env) R s₅) (fun _ _=>False) s₄) (.compLoop e 0 it (.ref d) env) .base (dcT2 e env) s₃) (.compLoop e 0 it (.ref d) env) .base (dcT1 e env x) s₂) (fun _ _=>False) s₁) (fun _ _=>False) s) :
    codeAny (model prog w) A (.compLoop e 0 it (.ref d) env) R s:=by
  refine y_code prog w A R s _ ?_
  have hden:denote table (.compLoop e 0 it (.ref d) env) = Sem.onRaise (compTurn e 0 it (.ref d) env) (fun x=>do noteFrame x env; theTreesLotGoes x):=by
    rw [D.is]; rfl
  have hw0:(Code.compLoop e 0 it (.ref d) env).weight = 0:=by rw [D.is]; rfl
  have ht:compTurn e 0 it (.ref d) env = (standAt (dcG e).iter.pos).bind fun _=>(pyNext it).bind fun r=>match r with
      | none=>.pure (.done .next)
      | some x=>(letOwnedTupleGo (dcG e).target it x).bind fun _=>(assign (dcG e).target env x).bind fun _=>(eval (dcK e) env).bind fun kv=>(holding [kv] (eval (dcV e) env)).bind fun vv =>
        (standAt { (dcK e).pos with endLine:=(dcV e).pos.endLine,endCol:=(dcV e).pos.endCol }).bind fun _=>(holding [kv,vv] (dictSet d kv vv)).bind fun _=>again (.compLoop e 0 it (.ref d) env):=by
    have z:=compTurn_is (dcK e) (dcV e) (dcG e) (dcS e) (dcP e) D.na D.ni it d env
    rw [← D.is] at z
    exact z
  rw [hden]
  intro Γ p hc hΓ
  have hΓ':Γ.In A:=by
    have:=hΓ.in
    rw [hc,Around.under_of_weight hw0 (by rw [D.is]; rfl)] at this
    exact this
  rw [Sem.wp_onRaise,ht]
  show Sem.wp _ Γ (standAt (dcG e).iter.pos >>= _) _ _ p s
  rw [Sem.wp_bind']
  show Sem.wp _ Γ (pyNext it >>= _) _ _ _ s
  rw [Sem.wp_bind']
  refine Sem.wp_mono _ Γ _ (fun r p₁ s₁ hr=>?_) (fun _ _ _ hx=>hx.elim) _ s (h Γ _ hΓ')
  cases r with
  | none=>exact hr
  | some x =>
    show Sem.wp _ Γ (letOwnedTupleGo (dcG e).target it x >>= _) _ _ _ s₁
    rw [Sem.wp_bind']
    refine Sem.wp_mono _ Γ _ (fun _ p₂ s₂ hm=>?_) (fun _ _ _ hx=>hx.elim) _ s₁ (hr Γ _ hΓ')
    have z:=hm.out Γ p₂ hc hΓ
    rw [dcT1_eq] at z
    change Sem.wp _ Γ (assign (dcG e).target env x >>= fun _=>eval (dcK e) env >>= fun kv=>Sem.pure (Fin.done (.ret kv))) _ _ p₂ s₂ at z
    rw [Sem.wp_bind'] at z
    show Sem.wp _ Γ (assign (dcG e).target env x >>= _) _ _ p₂ s₂
    rw [Sem.wp_bind']
    refine Sem.wp_mono _ Γ _ (fun _ p₃ s₃ z=>?_) (fun _ _ _ hx=>hx.elim) _ s₂ z
    rw [Sem.wp_bind'] at z
    show Sem.wp _ Γ (eval (dcK e) env >>= _) _ _ p₃ s₃
    rw [Sem.wp_bind']
    refine Sem.wp_mono _ Γ _ (fun kv p₄ s₄ z=>?_) (fun _ _ _ hx=>hx.elim) _ s₃ z
    have z1:Mn prog w A _ _ .base (dcT2 e env) s₄:=z
    have z2:=z1.out Γ p₄ hc hΓ
    rw [dcT2_eq] at z2
    change Sem.wp _ Γ (eval (dcV e) env >>= fun kv=>Sem.pure (Fin.done (.ret kv))) _ _ p₄ s₄ at z2
    rw [Sem.wp_bind'] at z2
    show Sem.wp _ Γ (holding [kv] (eval (dcV e) env) >>= _) _ _ p₄ s₄
    rw [Sem.wp_bind',Sem.wp_holding]
    refine Sem.wp_mono _ Γ _ (fun vv p₅ s₅ z=>?_) (fun _ _ _ hx=>hx.elim) _ s₄ z2
    have z3:wpAny (model prog w) A (dictSet d kv vv) (fun _ s₅=>codeAny (model prog w) A (.compLoop e 0 it (.ref d) env) R s₅) (fun _ _=>False) s₅:=z
    show Sem.wp _ Γ (standAt _ >>= _) _ _ p₅ s₅
    rw [Sem.wp_bind']
    show Sem.wp _ Γ (holding [kv,vv] (dictSet d kv vv) >>= _) _ _ _ s₅
    rw [Sem.wp_bind',Sem.wp_holding]
    refine Sem.wp_mono _ Γ _ (fun _ p₆ s₆ z=>?_) (fun _ _ _ hx=>hx.elim) _ s₅ (z3 Γ _ hΓ')
    exact ⟨rfl,z⟩
end
end Mine
namespace Mine
open PySem PySem.W PySem.W.X PyProof.Rows
noncomputable def q_mendL:Str:=⟨#[95,108,97,119,95,109,101,110,100,101,100,46,60,108,111,99,97,108,115,62,46]⟩
noncomputable def mdE (w:World):Expr:=assignV (stAt w 213 3)
noncomputable def mdEnv (w:World) (loc L:Addr):Env:=compEnv w 213 q_mendL (mdE w) [] loc L
theorem mdE_is (w:World):IsDc (mdE w):=⟨by kernel_rfl,by kernel_rfl,by kernel_rfl⟩
noncomputable def dcLoc (w:World):Option (Nat × Value × Nat × Value) → Obj
  | none=>locO w [] 0
  | some q=>locO w [(n_point,q.1,q.2.1),(n_value,q.2.2.1,q.2.2.2)] 2
theorem mdTgt (w:World):∃ el x1 ps,(dcG (mdE w)).target = .Tuple el x1 ps:=⟨match (dcG (mdE w)).target with | .Tuple e _ _=>e | _=>[],match (dcG (mdE w)).target with | .Tuple _ x _=>x | _=>default,match (dcG (mdE w)).target with | .Tuple _ _ p=>p | _=>default,by kernel_rfl⟩
noncomputable abbrev DictAt (w:World) (h:Heap) (a:Addr) (kvs:List (Int × Value)):Prop:=h.DictOf (intKind prog w) a kvs
section
variable {w:World} {A:Around} {E':Value → Shared → Prop} {s:Shared}
theorem own_list {tgt:Expr} {it l a:Addr} {i:Nat} {Q:Unit → Shared → Prop} (ht:∃ el x1 ps,tgt = .Tuple el x1 ps) (hit:s.heap.get? it = some (litO l i)) (h:Q () s):wpAny (model prog w) A (letOwnedTupleGo tgt (.ref it) (.ref a)) Q E' s:=by
  obtain ⟨el,x1,ps,rfl⟩:=ht
  unfold letOwnedTupleGo
  dsimp only
  refine wpAny_bind (wpAny_load hit ?_)
  exact wpAny_pure h
end
section
variable {w:World} {b1 b2:Bool} {A:Around} {R:Result → Shared → Prop} {h:Heap} {g:Array GenState} {d:Drawn} {T0:Nat} {os:OsState} {it acc loc L rl:Addr} {kns:List Pr} {z:Pr} {ke i:Nat} {lo:Option (Nat × Value × Nat × Value)} {kvs:List (Int × Value)}
theorem md_turn (F:Follows w b1 b2) (hA:Lo A 500) (hh:A.handled = none) (top:TopOk w h)
    (hrl:h.get? rl = some (listO (refsV kns) ke)) (hz:h.get? z.1 = some (prO z)) (hit:h.get? it = some (litO rl i)) (hacc:DictAt w h acc kvs) (hloc:h.get? loc = some (dcLoc w lo)) (hx:kns[i]? = some z)
    (hl:kvs.length ≤ 100) (hnew:z.2.1.1 ∉ kvs.map (·.1)) (g1:219 ≤ it ∧ 219 ≤ acc ∧ 219 ≤ loc) (n1:it ≠ acc ∧ it ≠ loc ∧ acc ≠ loc) (n2:NotIn rl [it,acc,loc] ∧ NotIn z.1 [it,acc,loc])
    (K:∀ h' tk' (lo':Nat × Value × Nat × Value),KeepsBut [it,acc,loc] h h' → h.objs.size ≤ h'.objs.size → h'.get? it = some (litO rl (i + 1)) → DictAt w h' acc (kvs ++ [(z.2.1.1,.int z.2.2.1 z.2.2.2)]) → h'.get? loc = some (dcLoc w (some lo')) →
      codeAny (model prog w) A (.compLoop (mdE w) 0 (.ref it) (.ref acc) (mdEnv w loc L)) R ⟨h',g,d,tk',os⟩) :
    codeAny (model prog w) A (.compLoop (mdE w) 0 (.ref it) (.ref acc) (mdEnv w loc L)) R ⟨h,g,d,T0,os⟩:=by
  obtain ⟨ta,⟨x,tx⟩,v,tv⟩:=z
  refine comp_next (mdE_is w) ?_
  refine p_list_item (x:=.ref ta) hit hrl (by simp [refsV,hx]) fun h1 it1 s1=>?_
  refine own_list (mdTgt w) it1 ?_
  have kb1:KeepsBut [it] h h1:=same_keepsBut s1
  have top1:TopOk w h1:=top.keepsBut kb1 ⟨.inl g1.1,trivial⟩
  have hz1:h1.get? ta = some (pairO x tx v tv):=(s1.2 _ n2.2.1).trans hz
  have hl1:h1.get? loc = some (dcLoc w lo):=(s1.2 _ n1.2.1.symm).trans hloc
  obtain ⟨tg,q1,q2,q3,q4,rfl⟩:=opt4 lo
  let lo0:=oF4 tg q1 q2 q3 q4
  cases tg
  all_goals
    have OD:=startA (b1:=b1) (b2:=b2) (T0:=T0) [(ta,pairO x tx v tv)] [loc] [dcLoc w lo0] 1 rfl rfl (by kernel_rfl) top1 ⟨hz1,trivial⟩ ⟨hl1,trivial⟩ ⟨.inl g1.2.2,trivial⟩ ⟨trivial,trivial⟩ ⟨⟨n2.2.2.2.1,trivial⟩,trivial⟩
    refine go F 62 4 2 [2000,2000,2000,7000,2000,1001,1001,1001,1001,1001,2000,1001,1001,1001,1001,1001,1001,2000,1001,1001,1001,1001,1001,1001,2000,1001,1001,1003,1000,1000,1000,1000,1000] (i:=0) OD hA hh fun h2=>?_
    intro o_h2 OD
    refine Mn.en (.ret (.int x tx)) ?_
    show Mn _ _ _ _ _ _ (dcT2 (mdE w) (mdEnv w loc L)) _
    refine go F 2 4 2 [1000] (i:=2) OD hA hh fun h3=>?_
    intro o_h3 OD
    refine Mn.en (.ret (.int v tv)) ?_
    have k3:KeepsBut [loc] h1 h3:=OD.2.kept
    have z3:h1.objs.size ≤ h3.objs.size:=size_le OD.1 OD.2
    have hacc3:DictAt w h3 acc kvs:=by
      obtain ⟨o,es,ep,ho,r⟩:=hacc
      exact ⟨o,es,ep,k3 _ _ ((s1.2 _ n1.1.symm).trans ho) (NotIn.mem ⟨n1.2.2,trivial⟩),r⟩
    have hkey:(intKind prog w).is x (.int x tx) = true:=by show Value.isInt x (.int x tx) = true; simp [Value.isInt]
    refine wpAny_dictSet_pairs (knd:=intKind prog w) (k:=x) hkey hacc3 (fun h4 hd4 s4=>?_) (by rw [PySem.sizeLine_eq]; lia)
    have hst:stored kvs x (.int v tv) = kvs ++ [(x,.int v tv)]:=by
      unfold stored
      rw [if_neg]
      simp only [List.any_eq_true,decide_eq_true_eq,not_exists,not_and]
      intro q hq e
      exact hnew (List.mem_map.mpr ⟨q,hq,e⟩)
    rw [hst] at hd4
    have k4:KeepsBut [acc] h3 h4:=same_keepsBut s4
    have hlo:∃ lo':Nat × Value × Nat × Value,h3.get? loc = some (dcLoc w (some lo')):=by
      first
      | exact ⟨(T0 + 0,.int x tx,T0 + 1,.int v tv),OD.2.obj (j:=0) (by kernel_rfl!) rfl⟩
      | exact ⟨(q1,.int x tx,q3,.int v tv),OD.2.obj (j:=0) (by kernel_rfl!) rfl⟩
    obtain ⟨lo',hlo⟩:=hlo
    refine K h4 _ lo' ?_ ?_ ?_ hd4 ?_
    · exact (kb1.mono fun q hq=>by simp at hq; simp [hq]).trans ((k3.mono fun q hq=>by simp at hq; simp [hq]).trans (k4.mono fun q hq=>by simp at hq; simp [hq]))
    · rw [s4.1]; exact Nat.le_trans (Nat.le_of_eq s1.1.symm) z3
    · exact k4 _ _ (k3 _ _ it1 (NotIn.mem ⟨n1.2.1,trivial⟩)) (NotIn.mem ⟨n1.1,trivial⟩)
    · exact k4 _ _ hlo (NotIn.mem ⟨n1.2.2.symm,trivial⟩)
theorem md_loop (F:Follows w b1 b2) (hA:Lo A 500) (hh:A.handled = none) (g1:219 ≤ it ∧ 219 ≤ acc ∧ 219 ≤ loc) (n1:it ≠ acc ∧ it ≠ loc ∧ acc ≠ loc) (nrl:NotIn rl [it,acc,loc]) :
    ∀ (rest done:List Pr) (h:Heap) (T0:Nat) (kvs:List (Int × Value)) (lo:Option (Nat × Value × Nat × Value)),TopOk w h → h.get? rl = some (listO (refsV (done ++ rest)) ke) →
      (∀ q ∈ rest,h.get? q.1 = some (prO q) ∧ NotIn q.1 [it,acc,loc]) → h.get? it = some (litO rl done.length) → DictAt w h acc kvs → h.get? loc = some (dcLoc w lo) → kvs.length + rest.length ≤ 100 → (kvs.map (·.1) ++ rest.map (·.2.1.1)).Nodup →
      (∀ h' tk' lo',KeepsBut [it,acc,loc] h h' → h.objs.size ≤ h'.objs.size → h'.get? it = some (litE (done.length + rest.length)) → DictAt w h' acc (kvs ++ rest.map fun q=>(q.2.1.1,.int q.2.2.1 q.2.2.2)) → h'.get? loc = some (dcLoc w lo') → ((lo' = lo ∧ rest = []) ∨ ∃ z,lo' = some z) → R (.ok .next) ⟨h',g,d,tk',os⟩) →
      codeAny (model prog w) A (.compLoop (mdE w) 0 (.ref it) (.ref acc) (mdEnv w loc L)) R ⟨h,g,d,T0,os⟩
  | [],done,h,T0,kvs,lo,top,hrl,hq,hit,hacc,hloc,hl,hn,K=>by
    refine comp_next (mdE_is w) ?_
    refine p_list_end hh hit hrl (by simp [refsV]) fun h1 it1 k1 z1=>?_
    refine K h1 T0 lo (k1.mono fun q hq=>by simp at hq; simp [hq]) (by show h.objs.size ≤ _; rw [show h1.objs.size = h.objs.size + 2 from z1]; lia) it1 ?_ (k1 _ _ hloc (NotIn.mem ⟨n1.2.1.symm,trivial⟩)) (.inl ⟨rfl,rfl⟩)
    obtain ⟨o,es,ep,ho,r⟩:=hacc
    rw [List.map_nil,List.append_nil]
    exact ⟨o,es,ep,k1 _ _ ho (NotIn.mem ⟨n1.1.symm,trivial⟩),r⟩
  | q :: rest,done,h,T0,kvs,lo,top,hrl,hq,hit,hacc,hloc,hl,hn,K=>by
    have q1:=hq q (.head _)
    have fr:FreeL [it,acc,loc]:=⟨.inl g1.1,.inl g1.2.1,.inl g1.2.2,trivial⟩
    have hnq:q.2.1.1 ∉ kvs.map (·.1):=fun hm=>by
      have:=(List.nodup_append.mp hn).2.2 _ hm q.2.1.1 (by simp)
      exact this rfl
    refine md_turn F hA hh top hrl q1.1 hit hacc hloc (by simp) (by simp only [List.length_cons] at hl; lia) hnq g1 n1 ⟨nrl,q1.2⟩ fun h' tk' lo' k1 s1 hit' hacc' hloc'=>?_
    refine md_loop F hA hh g1 n1 nrl rest (done ++ [q]) h' tk' _ (some lo') (top.keepsBut k1 fr) ?_ (fun r hr=>⟨k1 _ _ (hq r (.tail _ hr)).1 (hq r (.tail _ hr)).2.mem,(hq r (.tail _ hr)).2⟩) ?_ hacc' hloc' ?_ ?_ fun h2 tk2 lo2 k2 s2 hit2 hacc2 hloc2 hlo2=>?_
    · rw [List.append_assoc]; exact k1 _ _ hrl nrl.mem
    · rw [List.length_append]; exact hit'
    · simp only [List.length_cons] at hl; simp only [List.length_append,List.length_cons,List.length_nil]; lia
    · rw [List.map_append,List.append_assoc]; exact hn
    · refine K h2 tk2 lo2 (k1.trans k2) (Nat.le_trans s1 s2) ?_ ?_ hloc2 (.inr (hlo2.elim (fun z=>⟨lo',z.1⟩) id))
      · rw [hit2,List.length_append,List.length_cons,List.length_cons]; congr 2; simp only [List.length_nil]; lia
      · rw [List.append_assoc] at hacc2; exact hacc2
theorem md_comp (F:Follows w b1 b2) (hA:Lo A 500) (hh:A.handled = none) (g1:219 ≤ it ∧ 219 ≤ acc ∧ 219 ≤ loc) (n1:it ≠ acc ∧ it ≠ loc ∧ acc ≠ loc) (nrl:NotIn rl [it,acc,loc])
    (ps:List Pr) (top:TopOk w h) (hrl:h.get? rl = some (listO (refsV ps) ke)) (hq:∀ q ∈ ps,h.get? q.1 = some (prO q) ∧ NotIn q.1 [it,acc,loc])
    (hit:h.get? it = some (litO rl 0)) (hacc:h.get? acc = some (dictO #[] 0)) (hloc:h.get? loc = some (dcLoc w none)) (hl:ps.length ≤ 50) (hne:ps ≠ []) (hnd:(ps.map (·.2.1.1)).Nodup)
    (K:∀ h' tk' es ep (lo':Nat × Value × Nat × Value),KeepsBut [it,acc,loc] h h' → h.objs.size ≤ h'.objs.size → h'.get? it = some (litE ps.length) → h'.get? acc = some (dictO es ep) → DictAt w h' acc (ps.map fun q=>(q.2.1.1,.int q.2.2.1 q.2.2.2)) → h'.get? loc = some (dcLoc w (some lo')) → R (.ok .next) ⟨h',g,d,tk',os⟩) :
    codeAny (model prog w) A (.compStart (mdE w) 0 (.ref it) (.ref acc) (mdEnv w loc L)) R ⟨h,g,d,T0,os⟩:=by
  refine Mn.enter hA ?_
  have OD:=startA (b1:=b1) (b2:=b2) (T0:=T0) [(rl,listO (refsV ps) ke)] [it] [litO rl 0] 1 rfl rfl (by kernel_rfl) top ⟨hrl,trivial⟩ ⟨hit,trivial⟩ ⟨.inl g1.1,trivial⟩ ⟨trivial,trivial⟩ ⟨⟨nrl.1,trivial⟩,trivial⟩
  refine go F 1 1 0 [7001,10,5,1000,1000,7000,1000,1000] (i:=0) OD hA hh fun h1=>?_
  intro o_h1 OD
  refine Mn.again (c':=.compLoop (mdE w) 0 (.ref it) (.ref acc) (mdEnv w loc L)) (by kernel_rfl) rfl (by kernel_rfl) ?_
  have k1:KeepsBut [it] h h1:=OD.2.kept
  have s1:=size_le OD.1 OD.2
  have z:∀ a o,h.get? a = some o → a ≠ it → h1.get? a = some o:=fun a o x y=>k1 a o x fun hm=>y (List.mem_singleton.mp hm)
  refine md_loop F hA hh g1 n1 nrl ps [] h1 _ [] none (top.keepsBut k1 ⟨.inl g1.1,trivial⟩) (z _ _ hrl nrl.1) (fun q hq'=>⟨z _ _ (hq q hq').1 (hq q hq').2.1,(hq q hq').2⟩) (OD.2.obj (j:=0) (by kernel_rfl) rfl) ?_ (z _ _ hloc n1.2.1.symm) (by simp only [List.length_nil]; lia) hnd fun h' tk' lo' k2 s2 hit2 hacc2 hloc2 hlo2=>?_
  · exact ⟨_,#[],0,z _ _ hacc n1.1.symm,⟨rfl,rfl,rfl⟩,rfl,fun _ he=>by simp at he,Pairs.nil,List.nodup_nil⟩
  obtain ⟨z,rfl⟩:∃ z,lo' = some z:=hlo2.elim (fun z=>absurd z.2 hne) id
  rw [List.nil_append] at hacc2
  obtain ⟨⟨c,dd,dt,sl⟩,es,ep,ho,⟨hc1,hc2,hc3⟩,hd,r⟩:=hacc2
  dsimp only at hc1 hc2 hc3 hd
  subst hc1 hc2 hc3 hd
  refine K h' tk' es ep z ((k1.mono fun q hq=>?_).trans k2) (Nat.le_trans s1 s2) (by rw [hit2]; simp) ho ⟨_,es,ep,ho,⟨rfl,rfl,rfl⟩,rfl,r⟩ hloc2
  rw [List.mem_singleton.mp hq]; exact .head _
end
end Mine
namespace Mine
open PySem PySem.W PySem.W.X PyProof.Rows
theorem ro_ne {C:Cf} {hb:Heap} {mu:List Addr} (O:Ok C hb mu) (k j:Nat) {a b:Addr} {o:Obj} (e:C.ro[k]? = some (b,o)) (ha:C.addr j = a):b ≠ a:=by
  have:=O.ro _ (List.mem_of_getElem? e)
  rw [← ha]
  exact O.addr_ne this.2 this.1
theorem backG {C C':Cf} {hb h h':Heap} {mu:List Addr} {T T':BT} {m m':Nat} (W:Ok C hb mu ∧ Rep C hb mu h T m) (D:Ok C' h C.pre ∧ Rep C' h C.pre h' T' m'):Ok C' hb mu ∧ Rep C' hb mu h' T' m' :=
  have sz:=size_le W.1 W.2
  have ou:∀ a,a ∈ C.pre ∨ h.objs.size ≤ a → a ∈ mu ∨ hb.objs.size ≤ a:=fun a x=>by
    rcases x with x | x
    · exact W.1.out a x
    · exact .inr (Nat.le_trans sz x)
  ⟨⟨D.1.len,D.1.nd,D.1.lt,fun a ha=>ou a (D.1.out a ha),Nat.le_trans sz D.1.mono,D.1.free,D.1.low,D.1.ro⟩,
   ⟨D.2.size,D.2.le,D.2.own,D.2.top,D.2.ro,fun b o e n=>D.2.base b o (W.2.base b o e n) fun hm=>by
    rcases W.1.out b hm with x | x
    · exact n x
    · exact absurd (Heap.lt_size e) (Nat.not_lt.mpr x)⟩⟩
noncomputable def lookN (kv:List (Int × Int)) (p:Int):Int:=match kv.find? (fun q=>decide (q.1 = p)) with
  | some q=>q.2
  | none=>0
theorem lookN16 {p:Int}:∀ {kv:List (Int × Int)},(∀ q ∈ kv,In16 q.2) → In16 (lookN kv p):=fun {kv} h=>by
  unfold lookN
  cases e:kv.find? (fun q=>decide (q.1 = p)) with
  | none=>exact ⟨by decide,by decide⟩
  | some q=>exact h q (List.mem_of_find?_eq_some e)
noncomputable def kvOf (ps:List Pr):List (Int × Value):=ps.map fun q=>(q.2.1.1,.int q.2.2.1 q.2.2.2)
theorem value_look {p:Int}:∀ {ps:List Pr},p ∈ ps.map (·.2.1.1) → ∃ t,valueAt (kvOf ps) p = some (.int (lookN (bare ps) p) t)
  | [],h=>nomatch h
  | q :: r,h=>by
    by_cases e:q.2.1.1 = p
    · refine ⟨q.2.2.2,?_⟩
      unfold valueAt lookN kvOf bare
      simp [e]
    · have hm:p ∈ r.map (·.2.1.1):=by
        rcases List.mem_cons.mp h with x | x
        · exact absurd x.symm e
        · exact x
      obtain ⟨t,ht⟩:=value_look hm
      refine ⟨t,?_⟩
      unfold valueAt lookN kvOf bare at *
      simp only [List.map_cons,List.find?_cons,decide_eq_false e] at ht ⊢
      exact ht
theorem DictAt.move {w:World} {h h':Heap} {d:Addr} {kvs:List (Int × Value)} {o:Obj} (D:DictAt w h d kvs) (e:h.get? d = some o) (e':h'.get? d = some o):DictAt w h' d kvs:=by
  obtain ⟨o',es,ep,ho,r⟩:=D
  rw [e] at ho
  cases ho
  exact ⟨_,_,_,e',r⟩
section
variable {w:World} {A:Around} {R:Result → Shared → Prop} {s:Shared}
theorem int_is (x:Int) (t:Nat):(intKind prog w).is x (.int x t) = true:=by show Value.isInt x (.int x t) = true; simp [Value.isInt]
theorem c_dict_set {d:Addr} {kvs:List (Int × Value)} {k:Int} {t:Nat} {v:Value} (hm:DictAt w s.heap d kvs) (hl:kvs.length ≤ 100) (hnew:k ∉ kvs.map (·.1))
    (h:∀ h' es ep,h'.get? d = some (dictO es ep) → DictAt w h' d (kvs ++ [(k,v)]) → Heap.SameBut d s.heap h' → R (.ok (.ret .none)) { s with heap:=h',toks:=s.toks + 1 }) :
    codeAny (model prog w) A (.call (.builtin "dict.__setitem__") ⟨[.ref d,.int k t,v],[]⟩) R s:=by
  refine codeAny_call_builtin F.slot_dict_setitem.plain F.entry_dict_setitem (F.slot_dict_setitem.check _ _ _ _ _ _ _ _ hm.typeIs (F.args_dict_setitem_3 _ _ _)
    (meets_dict_setitem_pairs (intKind prog w) (k:=k) (key:=.int k t) d (int_is k t) v A R s ⟨kvs,hm,by rw [PySem.sizeLine_eq]; lia,fun h' hd hs=>?_⟩))
  have hst:stored kvs k v = kvs ++ [(k,v)]:=by
    unfold stored
    rw [if_neg]
    simp only [List.any_eq_true,decide_eq_true_eq,not_exists,not_and]
    intro q hq e
    exact hnew (List.mem_map.mpr ⟨q,hq,e⟩)
  rw [hst] at hd
  obtain ⟨⟨c,dd,dt,sl⟩,es,ep,ho,⟨hc1,hc2,hc3⟩,hdd,r⟩:=hd
  dsimp only at hc1 hc2 hc3 hdd
  subst hc1 hc2 hc3 hdd
  exact h h' es ep ho ⟨_,es,ep,ho,⟨rfl,rfl,rfl⟩,rfl,r⟩ hs
theorem c_dict_look {d:Addr} {kvs:List (Int × Value)} {k:Int} {t:Nat} {v:Value} (hm:DictAt w s.heap d kvs) (hv:valueAt kvs k = some v)
    (h:R (.ok (.ret v)) { s with toks:=s.toks + 1 }):codeAny (model prog w) A (.call (.builtin "dict.__getitem__") ⟨[.ref d,.int k t],[]⟩) R s :=
  codeAny_call_builtin F.slot_dict_getitem.plain F.entry_dict_getitem (F.slot_dict_getitem.check _ _ _ _ _ _ _ _ hm.typeIs (F.args_dict_getitem_2 _ _)
    (meets_dict_getitem (intKind prog w) (k:=k) (key:=.int k t) d (int_is k t) A R s ⟨_,v,hm.mapOf,hv,h⟩))
theorem c_dict_val {d:Addr} {kvs:List (Int × Value)} {k x:Int} {t:Nat} (hm:DictAt w s.heap d kvs) (hv:∃ u,valueAt kvs k = some (.int x u))
    (h:∀ t',R (.ok (.ret (.int x t'))) { s with toks:=s.toks + 1 }):codeAny (model prog w) A (.call (.builtin "dict.__getitem__") ⟨[.ref d,.int k t],[]⟩) R s:=by
  obtain ⟨u,hu⟩:=hv
  exact c_dict_look hm hu (h u)
theorem sign_at:∀ n:Nat,n < 16 → (seqIndex? (n:Int) hexS.length).bind (hexS.cps[·]?) = some (hx n):=by decide
theorem c_sign {v:Int} {t u:Nat} (hv:In16 v) (h:∀ t' k,R (.ok (.ret (.str (S1 (hx v.toNat)) t'))) { s with toks:=k }) :
    codeAny (model prog w) A (.call (.builtin "str.__getitem__") ⟨[.str hexS t,.int v u],[]⟩) R s:=by
  have e:((v.toNat:Nat):Int) = v:=by have:=hv.1; lia
  have g:=gives_str_getitem hexS v t u (hx v.toNat) (by rw [Bool.or_eq_false_iff,decide_eq_false_iff_not,decide_eq_false_iff_not]; have:=hv.1; have:=hv.2; lia) (by have z:=sign_at v.toNat (by have:=hv.2; lia); rw [e] at z; exact z)
  refine code_gives F.slot_str_getitem rfl F.entry_str_getitem (F.args_str_getitem_2 _ _) g ?_
  first
    | exact h _ _
    | exact ⟨by rw [PySem.sizeLine_eq]; show 1 ≤ _; decide,h _ _⟩
theorem c_join4 {a:Addr} {c0 c1 c2 c3 t0 t1 t2 t3 e t:Nat} (ho:s.heap.get? a = some (listO [.str (S1 c0) t0,.str (S1 c1) t1,.str (S1 c2) t2,.str (S1 c3) t3] e)) (h:∀ t' k,R (.ok (.ret (.str ⟨#[c0,c1,c2,c3]⟩ t'))) { s with toks:=k }) :
    codeAny (model prog w) A (.call (.builtin "str.join") ⟨[.str S0 t,.ref a],[]⟩) R s:=by
  refine code_meets F.slot_str_join rfl F.entry_str_join (F.args_str_join_2 _ _) (meets_str_join_list S0 t a [(S1 c0,t0),(S1 c1,t1),(S1 c2,t2),(S1 c3,t3)] ?_) ⟨isList_of ho,?_⟩
  · show Builtin.Str.tooLong 4 = false
    unfold Builtin.Str.tooLong
    rw [PySem.sizeLine_eq]
    decide
  · have e:Builtin.Str.glued S0 [S1 c0,S1 c1,S1 c2,S1 c3] = ⟨#[c0,c1,c2,c3]⟩:=by simp [Builtin.Str.glued,S0,S1]
    show (Made.str (Builtin.Str.glued S0 [S1 c0,S1 c1,S1 c2,S1 c3])).post _ s
    rw [e]
    exact ⟨by rw [PySem.sizeLine_eq]; show 4 ≤ _; decide,h _ _⟩
end
noncomputable def slO (a b:Value):Obj:={ cls:=.type "slice",data:=.fields #[a,b,.none] }
section
variable {w:World} {b1 b2:Bool} {A:Around} {R:Result → Shared → Prop} {h:Heap} {g:Array GenState} {d:Drawn} {T0:Nat} {os:OsState} {l sl:Addr} {r0 r1 r2 r3 r4 r5:Value} {e k tk:Nat}
theorem c_slice_to (F:Follows w b1 b2) (hA:Lo A 300) (hh:A.handled = none) (top:TopOk w h) (hk:k < 6) (hl:h.get? l = some (listO [r0,r1,r2,r3,r4,r5] e)) (hs:h.get? sl = some (slO .none (.int (k:Int) tk)))
    (K:∀ h',Keeps h h' → h'.objs.size = h.objs.size + 1 → h'.get? h.objs.size = some (listO (([r0,r1,r2,r3,r4,r5]:List Value).take k) 0) → R (.ok (.ret (.ref h.objs.size))) ⟨h',g,d,T0,os⟩) :
    codeAny (model prog w) A (.call (.builtin "list.__getitem__") ⟨[.ref l,.ref sl],[]⟩) R ⟨h,g,d,T0,os⟩:=by
  have hc:=lt6 hk
  rcases hc with rfl | rfl | rfl | rfl | rfl | rfl
  all_goals
    refine Mn.enter hA ?_
    have OD:=start0 (w:=w) (b1:=b1) (b2:=b2) (ro:=[(l,listO [r0,r1,r2,r3,r4,r5] e),(sl,slO .none (.int _ tk))]) (s:=⟨h,g,d,T0,os⟩) top (At.mem ⟨hl,hs,trivial⟩)
    refine go F 9 1 0 [2000,2001,2001,2001,2001,2001,2000] (i:=0) OD hA hh fun h1=>?_
    intro o_h1 OD
    exact Mn.end (f:=.ret (.ref (h.objs.size + 0))) (by kernel_rfl) (by kernel_rfl) (K h1 OD.2.kept0 OD.2.size (OD.2.ob 0))
theorem c_slice_from (F:Follows w b1 b2) (hA:Lo A 300) (hh:A.handled = none) (top:TopOk w h) (hk:k < 6) (hl:h.get? l = some (listO [r0,r1,r2,r3,r4,r5] e)) (hs:h.get? sl = some (slO (.int ((k:Int) + 1) tk) .none))
    (K:∀ h',Keeps h h' → h'.objs.size = h.objs.size + 1 → h'.get? h.objs.size = some (listO (([r0,r1,r2,r3,r4,r5]:List Value).drop (k + 1)) 0) → R (.ok (.ret (.ref h.objs.size))) ⟨h',g,d,T0,os⟩) :
    codeAny (model prog w) A (.call (.builtin "list.__getitem__") ⟨[.ref l,.ref sl],[]⟩) R ⟨h,g,d,T0,os⟩:=by
  have hc:=lt6 hk
  rcases hc with rfl | rfl | rfl | rfl | rfl | rfl
  all_goals
    refine Mn.enter hA ?_
    have OD:=start0 (w:=w) (b1:=b1) (b2:=b2) (ro:=[(l,listO [r0,r1,r2,r3,r4,r5] e),(sl,slO (.int _ tk) .none)]) (s:=⟨h,g,d,T0,os⟩) top (At.mem ⟨hl,hs,trivial⟩)
    refine go F 9 1 0 [2000,2001,2001,2001,2001,2001,2000] (i:=0) OD hA hh fun h1=>?_
    intro o_h1 OD
    exact Mn.end (f:=.ret (.ref (h.objs.size + 0))) (by kernel_rfl) (by kernel_rfl) (K h1 OD.2.kept0 OD.2.size (OD.2.ob 0))
end
section
variable {w:World} {A:Around} {R:Result → Shared → Prop} {s:Shared}
theorem c_list_add {l m:Addr} {xs ys:List Value} {e f:Nat} (hl:s.heap.get? l = some (listO xs e)) (hm:s.heap.get? m = some (listO ys f)) (hz:xs.length + ys.length ≤ 1000)
    (h:∀ h',Keeps s.heap h' → h'.objs.size = s.heap.objs.size + 1 → h'.get? s.heap.objs.size = some (listO (xs ++ ys) 0) → R (.ok (.ret (.ref s.heap.objs.size))) { s with heap:=h' }) :
    codeAny (model prog w) A (.call (.builtin "list.__add__") ⟨[.ref l,.ref m],[]⟩) R s:=by
  have g:=list_addW l m xs.toArray ys.toArray e f none none #[] #[] (by rw [PySem.sizeLine_eq]; simp; lia)
  refine code_meets F.slot_list_add (isList_of hl).typeIs F.entry_list_add (F.args_list_add_2 _ _) g ⟨hl,hm,?_⟩
  refine h _ (fun b o eb=>Heap.get?_push_of_some _ eb) (Heap.size_push ..) ?_
  rw [Heap.get?_push_size _ rfl]
  simp [listO]
end
noncomputable def insP (k:Nat) (z:Pr) (l:List Pr):List Pr:=l.take k ++ z :: l.drop k
end Mine
namespace Mine
open PySem PySem.W PySem.W.X PyProof.Rows
section
variable {w:World} {b1 b2:Bool} {A:Around} {R:Result → Shared → Prop} {h:Heap} {g:Array GenState} {d:Drawn} {T0:Nat} {os:OsState} {P:Nat → Int × Nat} {pw l pr:Nat} {lg:Int → Int} {tt:TT} {tlf pre:Nat}
noncomputable def mendV (lg:Int → Int) (ps:List Int) (rest:List (Int × Int)) (xl:Int) (p:Int):Int:=lookN (rest ++ [(xl,toldN lg xl ps (rest.take 4))]) p
theorem nd_ne {α:Type} {l:List α} (h:l.Nodup) (i j:Nat) {x y:α} (hij:i < j) (hx:l[i]? = some x) (hy:l[j]? = some y):x ≠ y:=by
  obtain ⟨hi,rfl⟩:=List.getElem?_eq_some_iff.mp hx
  obtain ⟨hj,rfl⟩:=List.getElem?_eq_some_iff.mp hy
  exact List.pairwise_iff_getElem.mp h i j hi hj hij
theorem mend_one {lg:Int → Int} {ps:List Int} (hp:∀ x ∈ ps,In16 x) {zs:List Pr} {zl:Pr} (rv:∀ z ∈ zs,In16 z.2.2.1) {p:Int} (m:p ∈ (zs ++ [zl]).map (·.2.1.1)) {Y2:Int} (hY2:Y2 = toldN lg zl.2.1.1 ps ((bare zs).take 4)) :
    (∀ tv,∃ t,valueAt (kvOf (zs ++ [(zl.1,zl.2.1,(Y2,tv))])) p = some (.int (mendV lg ps (bare zs) zl.2.1.1 p) t)) ∧ In16 (mendV lg ps (bare zs) zl.2.1.1 p):=by
  unfold mendV
  rw [← hY2]
  refine ⟨fun tv=>?_,lookN16 fun q hq=>?_⟩
  · have:=value_look (p:=p) (ps:=zs ++ [(zl.1,zl.2.1,(Y2,tv))]) (by rw [List.map_append] at m ⊢; exact m)
    have e:bare (zs ++ [(zl.1,zl.2.1,(Y2,tv))]) = bare zs ++ [(zl.2.1.1,Y2)]:=by unfold bare; rw [List.map_append]; rfl
    rw [e] at this
    exact this
  · rcases List.mem_append.mp hq with h | h
    · obtain ⟨z,hz,rfl⟩:=List.mem_map.mp h
      exact rv z hz
    · rw [List.mem_singleton.mp h,hY2]; exact toldN16 hp _
theorem lt16 {x:Int} (h:In16 x):x.toNat < 16:=by have:=h.1; have:=h.2; lia
theorem ins6 {k:Nat} (hk:k < 6) (z0 z1 z2 z3 z4 zl:Pr):∃ q0 q1 q2 q3 q4 q5:Value,refsV (insP k zl [z0,z1,z2,z3,z4]) = [q0,q1,q2,q3,q4,q5] ∧ ([q0,q1,q2,q3,q4,q5]:List Value).take k ++ ([q0,q1,q2,q3,q4,q5]:List Value).drop (k + 1) = [.ref z0.1,.ref z1.1,.ref z2.1,.ref z3.1,.ref z4.1] ∧ ([q0,q1,q2,q3,q4,q5]:List Value)[k]? = some (.ref zl.1):=by
  rcases lt6 hk with rfl | rfl | rfl | rfl | rfl | rfl <;> exact ⟨_,_,_,_,_,_,rfl,rfl,rfl⟩
theorem mend_call (F:Follows w b1 b2) (hA:Lo A 100) (hh:A.handled = none) (top:TopOk w h) (hN:219 ≤ h.objs.size) (tb:TabAt h tt) (T:LogsAt w h pw l (l15 P) lg)
    {k:Nat} (hk:k < 6) {z0 z1 z2 z3 z4 zl:Pr} (hpr:h.get? pr = some (listO (refsV (insP k zl [z0,z1,z2,z3,z4])) pre)) (bpr:219 ≤ pr)
    (hz:AllZ (fun z=>(h.get? z.1 = some (prO z) ∧ 219 ≤ z.1) ∧ In16 z.2.1.1 ∧ In16 z.2.2.1) [z0,z1,z2,z3,z4,zl])
    (hnd:(([z0,z1,z2,z3,z4,zl]:List Pr).map (·.2.1.1)).Nodup) (hmem:∀ p ∈ [(P 0).1,(P 1).1,(P 2).1,(P 3).1],p ∈ ([z0,z1,z2,z3,z4,zl]:List Pr).map (·.2.1.1))
    (K1:∀ h' tk' tt',KeepsBut [181] h h' → h.objs.size ≤ h'.objs.size → TabAt h' tt' → toldN lg z4.2.1.1 ((l15 P).map (·.1)) (bare [z0,z1,z2,z3]) ≠ z4.2.2.1 → R (.ok (.ret .none)) ⟨h',g,d,tk',os⟩)
    (K2:∀ h' tk' tt' t',KeepsBut [181] h h' → h.objs.size ≤ h'.objs.size → TabAt h' tt' → toldN lg z4.2.1.1 ((l15 P).map (·.1)) (bare [z0,z1,z2,z3]) = z4.2.2.1 →
      R (.ok (.ret (.bytes #[(16 * (mendV lg ((l15 P).map (·.1)) (bare [z0,z1,z2,z3,z4]) zl.2.1.1 (P 0).1).toNat + (mendV lg ((l15 P).map (·.1)) (bare [z0,z1,z2,z3,z4]) zl.2.1.1 (P 1).1).toNat).toUInt8,(16 * (mendV lg ((l15 P).map (·.1)) (bare [z0,z1,z2,z3,z4]) zl.2.1.1 (P 2).1).toNat + (mendV lg ((l15 P).map (·.1)) (bare [z0,z1,z2,z3,z4]) zl.2.1.1 (P 3).1).toNat).toUInt8] t'))) ⟨h',g,d,tk',os⟩) :
    codeAny (model prog w) A (.call (.ref 213) ⟨[.ref pw,.ref l,.ref pr,.int (k:Int) tlf],[]⟩) R ⟨h,g,d,T0,os⟩:=by
  obtain ⟨⟨⟨hz0,bz0⟩,rx0,rv0⟩,⟨⟨hz1,bz1⟩,rx1,rv1⟩,⟨⟨hz2,bz2⟩,rx2,rv2⟩,⟨⟨hz3,bz3⟩,rx3,rv3⟩,⟨⟨hz4,bz4⟩,rx4,rv4⟩,⟨⟨hzl,bzl⟩,rxl,rvl⟩,_⟩:=hz
  obtain ⟨pe,es,ep,hpw,hl,_,_⟩:=T.ex
  have n4:z0.2.1.1 ≠ z4.2.1.1 ∧ z1.2.1.1 ≠ z4.2.1.1 ∧ z2.2.1.1 ≠ z4.2.1.1 ∧ z3.2.1.1 ≠ z4.2.1.1:=⟨nd_ne hnd 0 4 (by decide) rfl rfl,nd_ne hnd 1 4 (by decide) rfl rfl,nd_ne hnd 2 4 (by decide) rfl rfl,nd_ne hnd 3 4 (by decide) rfl rfl⟩
  have nl:z0.2.1.1 ≠ zl.2.1.1 ∧ z1.2.1.1 ≠ zl.2.1.1 ∧ z2.2.1.1 ≠ zl.2.1.1 ∧ z3.2.1.1 ≠ zl.2.1.1:=⟨nd_ne hnd 0 5 (by decide) rfl rfl,nd_ne hnd 1 5 (by decide) rfl rfl,nd_ne hnd 2 5 (by decide) rfl rfl,nd_ne hnd 3 5 (by decide) rfl rfl⟩
  have ndz:([z0.2.1.1,z1.2.1.1,z2.2.1.1,z3.2.1.1,z4.2.1.1]:List Int).Nodup:=(List.nodup_append (l₁:=[z0.2.1.1,z1.2.1.1,z2.2.1.1,z3.2.1.1,z4.2.1.1]) (l₂:=[zl.2.1.1])).mp hnd |>.1
  have nlz:zl.2.1.1 ∉ ([z0.2.1.1,z1.2.1.1,z2.2.1.1,z3.2.1.1,z4.2.1.1]:List Int):=fun hm=>((List.nodup_append (l₁:=[z0.2.1.1,z1.2.1.1,z2.2.1.1,z3.2.1.1,z4.2.1.1]) (l₂:=[zl.2.1.1])).mp hnd).2.2 _ hm _ (.head _) rfl
  obtain ⟨Y1,hY1⟩:∃ Y,Y = toldN lg z4.2.1.1 (List.map (·.1) (l15 P)) (bare [z0,z1,z2,z3]):=⟨_,rfl⟩
  obtain ⟨Y2,hY2⟩:∃ Y,Y = toldN lg zl.2.1.1 (List.map (·.1) (l15 P)) (bare [z0,z1,z2,z3]):=⟨_,rfl⟩
  have ry2:In16 Y2:=by rw [hY2]; exact toldN16 T.r16 _
  have rvz:∀ z ∈ [z0,z1,z2,z3,z4],In16 z.2.2.1:=List.forall_mem_cons.mpr ⟨rv0,List.forall_mem_cons.mpr ⟨rv1,List.forall_mem_cons.mpr ⟨rv2,List.forall_mem_cons.mpr ⟨rv3,List.forall_mem_cons.mpr ⟨rv4,fun _ hm=>nomatch hm⟩⟩⟩⟩⟩
  obtain ⟨hq0,rq0⟩:=mend_one (zs:=[z0,z1,z2,z3,z4]) (zl:=zl) T.r16 rvz (hmem _ (.head _)) hY2
  obtain ⟨d0,hd0⟩:∃ d,d = mendV lg (List.map (·.1) (l15 P)) (bare [z0,z1,z2,z3,z4]) zl.2.1.1 (P 0).1:=⟨_,rfl⟩
  rw [← hd0] at hq0 rq0
  obtain ⟨hq1,rq1⟩:=mend_one (zs:=[z0,z1,z2,z3,z4]) (zl:=zl) T.r16 rvz (hmem _ (.tail _ (.head _))) hY2
  obtain ⟨d1,hd1⟩:∃ d,d = mendV lg (List.map (·.1) (l15 P)) (bare [z0,z1,z2,z3,z4]) zl.2.1.1 (P 1).1:=⟨_,rfl⟩
  rw [← hd1] at hq1 rq1
  obtain ⟨hq2,rq2⟩:=mend_one (zs:=[z0,z1,z2,z3,z4]) (zl:=zl) T.r16 rvz (hmem _ (.tail _ (.tail _ (.head _)))) hY2
  obtain ⟨d2,hd2⟩:∃ d,d = mendV lg (List.map (·.1) (l15 P)) (bare [z0,z1,z2,z3,z4]) zl.2.1.1 (P 2).1:=⟨_,rfl⟩
  rw [← hd2] at hq2 rq2
  obtain ⟨hq3,rq3⟩:=mend_one (zs:=[z0,z1,z2,z3,z4]) (zl:=zl) T.r16 rvz (hmem _ (.tail _ (.tail _ (.tail _ (.head _))))) hY2
  obtain ⟨d3,hd3⟩:∃ d,d = mendV lg (List.map (·.1) (l15 P)) (bare [z0,z1,z2,z3,z4]) zl.2.1.1 (P 3).1:=⟨_,rfl⟩
  rw [← hd3] at hq3 rq3
  have K1':∀ h' tk' tt',KeepsBut [181] h h' → h.objs.size ≤ h'.objs.size → TabAt h' tt' → Y1 ≠ z4.2.2.1 → R (.ok (.ret .none)) ⟨h',g,d,tk',os⟩:=fun h' tk' tt' k1 k2 k3 k4=>K1 h' tk' tt' k1 k2 k3 (by rw [hY1] at k4; exact k4)
  have K2':∀ h' tk' tt' t',KeepsBut [181] h h' → h.objs.size ≤ h'.objs.size → TabAt h' tt' → Y1 = z4.2.2.1 → R (.ok (.ret (.bytes #[(16 * d0.toNat + d1.toNat).toUInt8,(16 * d2.toNat + d3.toNat).toUInt8] t'))) ⟨h',g,d,tk',os⟩:=fun h' tk' tt' t' k1 k2 k3 k4=>by
    have z:=K2 h' tk' tt' t' k1 k2 k3 (by rw [hY1] at k4; exact k4)
    rw [hd0,hd1,hd2,hd3]; exact z
  clear K1 K2 hd0 hd1 hd2 hd3
  obtain ⟨q0,q1,q2,q3,q4,q5,eL,eA,eI⟩:=ins6 hk z0 z1 z2 z3 z4 zl
  rw [eL] at hpr
  have nq:∀ {a:Nat},219 ≤ a → NotIn (a:Addr) [181]:=fun x=>⟨(nlt (low_lt x)).symm,trivial⟩
  refine Mn.enter hA ?_
  have OD:=startA (b1:=b1) (b2:=b2) (T0:=T0) [(pw,listO (intsV (l15 P)) pe),(l,dictO es ep),(pr,listO [q0,q1,q2,q3,q4,q5] pre),(z0.1,prO z0),(z1.1,prO z1),(z2.1,prO z2),(z3.1,prO z3),(z4.1,prO z4),(zl.1,prO zl)] [181] [tabO tt.l] 1 rfl rfl (by kernel_rfl) top ⟨hpw,hl,hpr,hz0,hz1,hz2,hz3,hz4,hzl,trivial⟩ ⟨tb.at_,trivial⟩
    ⟨.inr (.inr (.inr rfl)),trivial⟩ ⟨trivial,trivial⟩ ⟨nq T.bpw,nq T.bl,nq bpr,nq bz0,nq bz1,nq bz2,nq bz3,nq bz4,nq bzl,trivial⟩
  refine go F 33 4 4 [213,212,1001,1001,1001,1001,1001,1001,1001,1001,2,1001,1001,2002,2002,2002] (i:=0) OD hA hh fun h1=>?_
  intro o_h1 OD
  refine Mn.st (.call (.builtin "list.__getitem__") ⟨[.ref pr,.ref (h.objs.size + 2)],[]⟩) ?_
  refine c_slice_to F (dk hA) (aH hh) OD.2.tp hk (OD.2.still 2 rfl) (OD.2.ob 3 (o:=(slO .none (.int (k:Int) tlf)))) fun ja ka za oa=>?_
  replace OD:=creG (mm:=5) (T0 + 4) [] [] [h1.objs.size] [listO (([q0,q1,q2,q3,q4,q5]:List Value).take k) 0] OD trivial ka.but (by rw [za]; exact Nat.le_succ _) trivial trivial ⟨⟨Nat.le_refl _,by rw [za]; exact Nat.lt_succ_self _⟩,trivial⟩ ⟨trivial,trivial⟩ ⟨oa,trivial⟩ rfl (by kernel_rfl) rfl
  show Mn _ _ _ _ _ _ _ ⟨ja,g,d,(T0 + 4),os⟩
  refine go F 16 6 2 [1001,1001,2002,2002,2002] (i:=0) OD hA hh fun h2=>?_
  intro o_h2 OD
  refine Mn.st (.call (.builtin "list.__getitem__") ⟨[.ref pr,.ref (ja.objs.size + 0)],[]⟩) ?_
  refine c_slice_from F (dk hA) (aH hh) OD.2.tp hk (OD.2.still 2 rfl) (OD.2.ob 5 (o:=(slO (.int ((k:Int) + 1) ((T0 + 4) + 1)) .none))) fun jb kb zb ob=>?_
  replace OD:=creG (mm:=7) ((T0 + 4) + 2) [] [] [h2.objs.size] [listO (([q0,q1,q2,q3,q4,q5]:List Value).drop (k + 1)) 0] OD trivial kb.but (by rw [zb]; exact Nat.le_succ _) trivial trivial ⟨⟨Nat.le_refl _,by rw [zb]; exact Nat.lt_succ_self _⟩,trivial⟩ ⟨trivial,trivial⟩ ⟨ob,trivial⟩ rfl (by kernel_rfl) rfl
  show Mn _ _ _ _ _ _ _ ⟨jb,g,d,((T0 + 4) + 2),os⟩
  refine go F 6 7 0 [1004,1006,1004] (i:=0) OD hA hh fun h3=>?_
  intro o_h3 OD
  refine Mn.st (.call (.builtin "list.__add__") ⟨[.ref h1.objs.size,.ref h2.objs.size],[]⟩) ?_
  refine c_list_add (OD.2.ob 4 (o:=(listO (([q0,q1,q2,q3,q4,q5]:List Value).take k) 0))) (OD.2.ob 6 (o:=(listO (([q0,q1,q2,q3,q4,q5]:List Value).drop (k + 1)) 0))) (by simp; omega) fun jc kc zc oc=>?_
  rw [eA] at oc
  replace OD:=creG (mm:=8) (((T0 + 4) + 2) + 0) [] [] [h3.objs.size] [listO [.ref z0.1,.ref z1.1,.ref z2.1,.ref z3.1,.ref z4.1] 0] OD trivial kc.but (by rw [zc]; exact Nat.le_succ _) trivial trivial ⟨⟨Nat.le_refl _,by rw [zc]; exact Nat.lt_succ_self _⟩,trivial⟩ ⟨trivial,trivial⟩ ⟨oc,trivial⟩ rfl (by kernel_rfl) rfl
  show Mn _ _ _ _ _ _ _ ⟨jc,g,d,(((T0 + 4) + 2) + 0),os⟩
  refine go F 61 10 4 [1001,1001,3,1001,1001,1001,1007,1007,1007,1007,1008,1008,1008,1008,1008,1007,1001,1007,1007,1007,1007,1007,2007,2007,2007,2007,2007,184] (i:=0) OD hA hh fun h4=>?_
  intro o_h4 OD
  refine Mn.st (.call (.ref 184) ⟨[.ref pw,.ref l,.ref (jc.objs.size + 1),.int z4.2.1.1 z4.2.1.2],[]⟩) ?_
  refine told_as Y1 (tt:=tt) (kns:=[z0,z1,z2,z3]) (ke:=0) F (dk hA) (aH hh) OD.2.tp ⟨(OD.2.ob 0),TabOk.keep181 tb OD.2.kept⟩ (T.keep OD.2.kept) hY1 (OD.2.ob 9) (ge_addr OD.1 hN 9 (by kernel_rfl) (by decide) (by kernel_rfl)) (by simp) rx4 ⟨⟨⟨OD.2.still 3 rfl,bz0⟩,⟨rx0,n4.1⟩,rv0⟩,⟨⟨OD.2.still 4 rfl,bz1⟩,⟨rx1,n4.2.1⟩,rv1⟩,⟨⟨OD.2.still 5 rfl,bz2⟩,⟨rx2,n4.2.2.1⟩,rv2⟩,⟨⟨OD.2.still 6 rfl,bz3⟩,⟨rx3,n4.2.2.2⟩,rv3⟩,trivial⟩ fun j1 tk1 tt1 tv kj sj tb1=>?_
  replace OD:=cre1 tk1 0 181 OD (by kernel_rfl:_ = some (tabO tt.l)) (by kernel_rfl) kj sj tb1.at_
  have W1:=OD
  replace OD:=fresh OD rfl rfl
  by_cases hy:Y1 = z4.2.2.1
  · refine goP F 39 10 2 [1001,1007,1007,1007,1007,1007,2007,2007,2007,2007,2007,7000,7200,1001,1001,2002,2002,2002] [(Y1 != z4.2.2.1) = false] (i:=0) OD hA hh ⟨(by simp [hy]),trivial⟩ fun h5=>?_
    intro o_h5 OD
    refine Mn.st (.call (.builtin "list.__getitem__") ⟨[.ref pr,.int (k:Int) tlf],[]⟩) ?_
    refine c_list_get (k:=(k:Int)) (OD.2.still 2 rfl) (by lia) (by lia) (by rw [Int.toNat_natCast]; exact eI) ?_
    show Mn _ _ _ _ _ _ _ ⟨h5,g,d,tk1 + 2,os⟩
    refine go F 34 13 4 [2008,2008,2008,2008,2008,1001,1001,1001,1007,1007,7000,1007,1010] (i:=2) OD hA hh fun h6=>?_
    intro o_h6 OD
    refine Mn.st (.compStart (mdE w) 0 (.ref (j1.objs.size + 0)) (.ref (j1.objs.size + 1)) (mdEnv w (j1.objs.size + 2) (h.objs.size + 0))) ?_
    have hqs:∀ q ∈ ([z0,z1,z2,z3,z4]:List Pr),h6.get? q.1 = some (prO q) ∧ NotIn q.1 [(j1.objs.size + 0),(j1.objs.size + 1),(j1.objs.size + 2)]:=List.forall_mem_cons.mpr ⟨⟨OD.2.still 3 rfl,⟨ro_ne OD.1 3 10 rfl (by kernel_rfl),ro_ne OD.1 3 11 rfl (by kernel_rfl),ro_ne OD.1 3 12 rfl (by kernel_rfl),trivial⟩⟩,List.forall_mem_cons.mpr ⟨⟨OD.2.still 4 rfl,⟨ro_ne OD.1 4 10 rfl (by kernel_rfl),ro_ne OD.1 4 11 rfl (by kernel_rfl),ro_ne OD.1 4 12 rfl (by kernel_rfl),trivial⟩⟩,List.forall_mem_cons.mpr ⟨⟨OD.2.still 5 rfl,⟨ro_ne OD.1 5 10 rfl (by kernel_rfl),ro_ne OD.1 5 11 rfl (by kernel_rfl),ro_ne OD.1 5 12 rfl (by kernel_rfl),trivial⟩⟩,List.forall_mem_cons.mpr ⟨⟨OD.2.still 6 rfl,⟨ro_ne OD.1 6 10 rfl (by kernel_rfl),ro_ne OD.1 6 11 rfl (by kernel_rfl),ro_ne OD.1 6 12 rfl (by kernel_rfl),trivial⟩⟩,List.forall_mem_cons.mpr ⟨⟨OD.2.still 7 rfl,⟨ro_ne OD.1 7 10 rfl (by kernel_rfl),ro_ne OD.1 7 11 rfl (by kernel_rfl),ro_ne OD.1 7 12 rfl (by kernel_rfl),trivial⟩⟩,fun _ hm=>nomatch hm⟩⟩⟩⟩⟩
    refine md_comp F (dk hA) (aH hh) ⟨ge_addr (backG W1 OD).1 hN 10 (by kernel_rfl) (by decide) (by kernel_rfl),ge_addr (backG W1 OD).1 hN 11 (by kernel_rfl) (by decide) (by kernel_rfl),ge_addr (backG W1 OD).1 hN 12 (by kernel_rfl) (by decide) (by kernel_rfl)⟩ ⟨ne_addr OD.1 10 11 (by kernel_rfl) (by kernel_rfl) (by decide),ne_addr OD.1 10 12 (by kernel_rfl) (by kernel_rfl) (by decide),ne_addr OD.1 11 12 (by kernel_rfl) (by kernel_rfl) (by decide)⟩ (rl:=h3.objs.size) (ke:=0) ⟨ne_addr OD.1 7 10 (by kernel_rfl) (by kernel_rfl) (by decide),ne_addr OD.1 7 11 (by kernel_rfl) (by kernel_rfl) (by decide),ne_addr OD.1 7 12 (by kernel_rfl) (by kernel_rfl) (by decide),trivial⟩ [z0,z1,z2,z3,z4] OD.2.tp (OD.2.ob 7) hqs (OD.2.ob 10) (OD.2.ob 11) (OD.2.ob 12) (by simp) (by simp) ndz fun j3 tk3 des dep lo kb sb itE accE dE locE=>?_
    replace OD:=creL tk3 [(10,(j1.objs.size + 0),litE 5),(11,(j1.objs.size + 1),dictO des dep),(12,(j1.objs.size + 2),dcLoc w (some lo))] [] OD ⟨(by kernel_rfl),itE,(by kernel_rfl),accE,(by kernel_rfl),locE,trivial⟩ kb sb trivial
    refine go F 46 15 1 [1012,1012,1012,1012,1012,1012,1002,1002,3,1001,1001,1001,1007,1007,1007,1007,1013,1013,1013,1013,1013,1007,1001,184] (i:=0) OD hA hh fun h7=>?_
    intro o_h7 OD
    have tr1:TabAt h7 tt1:=⟨(OD.2.ob 0),TabOk.run W1 rfl (by kernel_rfl) OD.2.kept tb1.ok⟩
    replace dE:DictAt w h7 (j1.objs.size + 1) (kvOf [z0,z1,z2,z3,z4]):=DictAt.move dE accE (OD.2.ob 11 (o:=(dictO des dep)))
    replace OD:=backG W1 OD
    refine Mn.st (.call (.ref 184) ⟨[.ref pw,.ref l,.ref (j3.objs.size + 1),.int zl.2.1.1 zl.2.1.2],[]⟩) ?_
    refine told_as Y2 (tt:=tt1) (kns:=[z0,z1,z2,z3]) (ke:=0) F (dk hA) (aH hh) OD.2.tp tr1 (T.keep OD.2.kept) hY2 (OD.2.ob 14) (ge_addr OD.1 hN 14 (by kernel_rfl) (by decide) (by kernel_rfl)) (by simp) rxl ⟨⟨⟨OD.2.still 3 rfl,bz0⟩,⟨rx0,nl.1⟩,rv0⟩,⟨⟨OD.2.still 4 rfl,bz1⟩,⟨rx1,nl.2.1⟩,rv1⟩,⟨⟨OD.2.still 5 rfl,bz2⟩,⟨rx2,nl.2.2.1⟩,rv2⟩,⟨⟨OD.2.still 6 rfl,bz3⟩,⟨rx3,nl.2.2.2⟩,rv3⟩,trivial⟩ fun j4 tk4 tt2 tv2 kj sj tb2=>?_
    replace dE:DictAt w j4 (j1.objs.size + 1) (kvOf [z0,z1,z2,z3,z4]):=by
      obtain ⟨o,ess,epp,ho,r⟩:=dE
      exact ⟨_,_,_,kj _ _ ho (not181 (ge_addr OD.1 hN 11 (by kernel_rfl) (by decide) (by kernel_rfl))),r⟩
    replace OD:=cre1 tk4 0 181 OD (by kernel_rfl:_ = some (tabO tt1.l)) (by kernel_rfl) kj sj tb2.at_
    have W2:=OD
    replace OD:=fresh OD rfl rfl
    refine go F 8 15 0 [1002,1001,1011,1011] (i:=0) OD hA hh fun h8=>?_
    intro o_h8 OD
    have dE2:DictAt w h8 (j1.objs.size + 1) (kvOf [z0,z1,z2,z3,z4]):=DictAt.move dE (W2.2.ob 11 (o:=(dictO des dep))) (OD.2.ob 11 (o:=(dictO des dep)))
    refine Mn.st (.call (.builtin "dict.__setitem__") ⟨[.ref (j1.objs.size + 1),.int zl.2.1.1 zl.2.1.2,.int Y2 tv2],[]⟩) ?_
    refine c_dict_set dE2 (by simp [kvOf]) (by simpa [kvOf] using nlz) fun j5 des2 dep2 ho2 dE3 sb=>?_
    replace OD:=cre1 (tk4 + 0 + 1) 11 (j1.objs.size + 1) OD (by kernel_rfl:_ = some (dictO des dep)) (by kernel_rfl) (same_keepsBut sb) (Nat.le_of_eq sb.1.symm) ho2
    have dV:kvOf [z0,z1,z2,z3,z4] ++ [(zl.2.1.1,.int Y2 tv2)] = kvOf ([z0,z1,z2,z3,z4] ++ [(zl.1,zl.2.1,(Y2,tv2))]):=rfl
    rw [dV] at dE3
    show Mn _ _ _ _ _ _ _ ⟨j5,g,d,(tk4 + 0 + 1),os⟩
    refine go F 68 20 4 [3,1001,2000,2000,2000,2000,1015,1015,1015,1015,1015,2000,1016,1016,7000,1016,1017,7001,10,5,1017,1017,7000,1017,1017,1017,1017,1017,1017,1016,1017,1017,1019,1019,1002,1019,1011,1011,1011] (i:=0) OD hA hh fun h9=>?_
    intro o_h9 OD
    have dG0:DictAt w h9 (j1.objs.size + 1) (kvOf ([z0,z1,z2,z3,z4] ++ [(zl.1,zl.2.1,(Y2,tv2))])):=DictAt.move dE3 ho2 (OD.2.ob 11 (o:=(dictO des2 dep2)))
    refine Mn.st (.call (.builtin "dict.__getitem__") ⟨[.ref (j1.objs.size + 1),.int (P 0).1 (P 0).2],[]⟩) ?_
    refine c_dict_val dG0 (hq0 tv2) fun tq0=>?_
    show Mn _ _ _ _ _ _ _ ⟨h9,g,d,(tk4 + 0 + 1) + 5,os⟩
    refine go F 1 20 5 [] (i:=5) OD hA hh fun h10=>?_
    intro o_h10 OD
    refine Mn.st (.call (.builtin "str.__getitem__") ⟨[.str hexS ((tk4 + 0 + 1) + 3),.int d0 tq0],[]⟩) ?_
    refine c_sign rq0 fun tg0 kg0=>?_
    replace OD:=cre0 kg0 OD (Keeps.refl _) (Nat.le_refl _)
    show Mn _ _ _ _ _ _ _ ⟨h10,g,d,kg0,os⟩
    refine go F 35 20 2 [1018,1018,1018,1018,1017,1017,1017,1017,1016,1017,1017,1019,1019,1002,1019,1011,1011,1011] (i:=0) OD hA hh fun h11=>?_
    intro o_h11 OD
    have dG1:DictAt w h11 (j1.objs.size + 1) (kvOf ([z0,z1,z2,z3,z4] ++ [(zl.1,zl.2.1,(Y2,tv2))])):=DictAt.move dE3 ho2 (OD.2.ob 11 (o:=(dictO des2 dep2)))
    refine Mn.st (.call (.builtin "dict.__getitem__") ⟨[.ref (j1.objs.size + 1),.int (P 1).1 (P 1).2],[]⟩) ?_
    refine c_dict_val dG1 (hq1 tv2) fun tq1=>?_
    show Mn _ _ _ _ _ _ _ ⟨h11,g,d,kg0 + 3,os⟩
    refine go F 1 20 3 [] (i:=3) OD hA hh fun h12=>?_
    intro o_h12 OD
    refine Mn.st (.call (.builtin "str.__getitem__") ⟨[.str hexS (kg0 + 1),.int d1 tq1],[]⟩) ?_
    refine c_sign rq1 fun tg1 kg1=>?_
    replace OD:=cre0 kg1 OD (Keeps.refl _) (Nat.le_refl _)
    show Mn _ _ _ _ _ _ _ ⟨h12,g,d,kg1,os⟩
    refine go F 35 20 2 [1018,1018,1018,1018,1017,1017,1017,1017,1016,1017,1017,1019,1019,1002,1019,1011,1011,1011] (i:=0) OD hA hh fun h13=>?_
    intro o_h13 OD
    have dG2:DictAt w h13 (j1.objs.size + 1) (kvOf ([z0,z1,z2,z3,z4] ++ [(zl.1,zl.2.1,(Y2,tv2))])):=DictAt.move dE3 ho2 (OD.2.ob 11 (o:=(dictO des2 dep2)))
    refine Mn.st (.call (.builtin "dict.__getitem__") ⟨[.ref (j1.objs.size + 1),.int (P 2).1 (P 2).2],[]⟩) ?_
    refine c_dict_val dG2 (hq2 tv2) fun tq2=>?_
    show Mn _ _ _ _ _ _ _ ⟨h13,g,d,kg1 + 3,os⟩
    refine go F 1 20 3 [] (i:=3) OD hA hh fun h14=>?_
    intro o_h14 OD
    refine Mn.st (.call (.builtin "str.__getitem__") ⟨[.str hexS (kg1 + 1),.int d2 tq2],[]⟩) ?_
    refine c_sign rq2 fun tg2 kg2=>?_
    replace OD:=cre0 kg2 OD (Keeps.refl _) (Nat.le_refl _)
    show Mn _ _ _ _ _ _ _ ⟨h14,g,d,kg2,os⟩
    refine go F 35 20 2 [1018,1018,1018,1018,1017,1017,1017,1017,1016,1017,1017,1019,1019,1002,1019,1011,1011,1011] (i:=0) OD hA hh fun h15=>?_
    intro o_h15 OD
    have dG3:DictAt w h15 (j1.objs.size + 1) (kvOf ([z0,z1,z2,z3,z4] ++ [(zl.1,zl.2.1,(Y2,tv2))])):=DictAt.move dE3 ho2 (OD.2.ob 11 (o:=(dictO des2 dep2)))
    refine Mn.st (.call (.builtin "dict.__getitem__") ⟨[.ref (j1.objs.size + 1),.int (P 3).1 (P 3).2],[]⟩) ?_
    refine c_dict_val dG3 (hq3 tv2) fun tq3=>?_
    show Mn _ _ _ _ _ _ _ ⟨h15,g,d,kg2 + 3,os⟩
    refine go F 1 20 3 [] (i:=3) OD hA hh fun h16=>?_
    intro o_h16 OD
    refine Mn.st (.call (.builtin "str.__getitem__") ⟨[.str hexS (kg2 + 1),.int d3 tq3],[]⟩) ?_
    refine c_sign rq3 fun tg3 kg3=>?_
    replace OD:=cre0 kg3 OD (Keeps.refl _) (Nat.le_refl _)
    show Mn _ _ _ _ _ _ _ ⟨h16,g,d,kg3,os⟩
    refine go F 31 22 0 [1018,1018,1018,1018,1017,1017,1017,1017,1016,1017,1017,1021,1019,1019,1019] (i:=0) OD hA hh fun h17=>?_
    intro o_h17 OD
    refine Mn.st (.call (.builtin "str.join") ⟨[.str ⟨#[]⟩ ((tk4 + 0 + 1) + 0),.ref (j5.objs.size + 3)],[]⟩) ?_
    refine c_join4 (OD.2.ob 18 (o:=(listO [.str (S1 (hx d0.toNat)) tg0,.str (S1 (hx d1.toNat)) tg1,.str (S1 (hx d2.toNat)) tg2,.str (S1 (hx d3.toNat)) tg3] 4))) fun tj kj4=>?_
    replace OD:=cre0 kj4 OD (Keeps.refl _) (Nat.le_refl _)
    show Mn _ _ _ _ _ _ _ ⟨h17,g,d,kj4,os⟩
    refine go F 3 22 0 [125] (i:=0) OD hA hh fun h18=>?_
    intro o_h18 OD
    refine Mn.st (.call (.ref 125) ⟨[.str ⟨#[hx d0.toNat,hx d1.toNat,hx d2.toNat,hx d3.toNat]⟩ tj],[]⟩) ?_
    refine dec4_call F (dk hA) (aH hh) OD.2.tp (lt16 rq0) (lt16 rq1) (lt16 rq2) (lt16 rq3) fun j15 tk15 tby kj sj=>?_
    replace OD:=cre0 tk15 OD kj sj
    refine go F 1 22 0 [] (i:=0) OD hA hh fun h19=>?_
    intro o_h19 OD
    refine Mn.en (.ret (.bytes #[(16 * d0.toNat + d1.toNat).toUInt8,(16 * d2.toNat + d3.toNat).toUInt8] tby)) ?_
    have tr2:TabAt h19 tt2:=⟨(OD.2.ob 0),TabOk.run W2 rfl (by kernel_rfl) OD.2.kept tb2.ok⟩
    replace OD:=backG W2 OD
    exact K2' _ _ tt2 _ OD.2.kept (size_le OD.1 OD.2) tr2 hy
  · refine goP F 31 10 2 [1001,1007,1007,1007,1007,1007,2007,2007,2007,2007,2007,7000,7201] [(Y1 != z4.2.2.1) = true] (i:=0) OD hA hh ⟨(by simp [hy]),trivial⟩ fun h5=>?_
    intro o_h5 OD
    refine Mn.en (.ret .none) ?_
    have tr1:TabAt h5 tt1:=⟨(OD.2.ob 0),TabOk.run W1 rfl (by kernel_rfl) OD.2.kept tb1.ok⟩
    replace OD:=backG W1 OD
    exact K1' _ _ tt1 OD.2.kept (size_le OD.1 OD.2) tr1 hy
end
end Mine
set_option genInjectivity false
set_option genSizeOf false
namespace Mine
open PySem PySem.W PySem.W.X PyProof.Rows
noncomputable def q_lawL:Str:=⟨#[108,97,119,46,60,108,111,99,97,108,115,62,46]⟩
noncomputable def lawEnv (w:World) (N:Addr):Env:=envAt w 218 q_lawL N [(n_told,N + 8),(n_order,N + 7),(n_pairs,N + 6),(n_place,N + 5),(n_change,N + 4),(n_logs,N + 3),(n_powers,N + 2),(n_octets,N + 1)]
noncomputable def lawC (w:World) (N:Addr):Code:=.func (stmtsOf (fdAt w 218)) (lawEnv w N)
noncomputable def lawT (w:World) (j:Nat) (N:Addr):Sem Fin:=R.bindR (R.onRaiseR (Fast.tw12563942051412417395 ((stmtsOf (fdAt w 218)).drop j) (lawEnv w N)) (Fast.tw9442747609961115081 (lawEnv w N))) fun f=>match f with
  | .ret v=>.pure (.done (.ret v))
  | _=>.pure (.done (.ret .none))
structure LV where
  k0:Nat
  k1:Nat
  k2:Nat
  k3:Nat
  u3:Nat
  sc:Addr
  dr:Addr
noncomputable def fr4 (w:World) (V:LV) (nu:Addr) (st:Int):Obj:=frO w [(n_script,V.k0,.ref V.sc),(n_drawn,V.k1,.ref V.dr),(n_numbers,V.k2,.ref nu),(n_start,V.k3,.int st V.u3)] 4
noncomputable def fr5 (w:World) (V:LV) (nu:Addr) (st:Int) (k4:Nat) (Cl:Addr):Obj:=frO w [(n_script,V.k0,.ref V.sc),(n_drawn,V.k1,.ref V.dr),(n_numbers,V.k2,.ref nu),(n_start,V.k3,.int st V.u3),(n_changed,k4,.ref Cl)] 5
noncomputable def fr6 (w:World) (V:LV) (nu:Addr) (st:Int) (k4:Nat) (Cl:Addr) (k5:Nat) (Wr:Addr):Obj:=frO w [(n_script,V.k0,.ref V.sc),(n_drawn,V.k1,.ref V.dr),(n_numbers,V.k2,.ref nu),(n_start,V.k3,.int st V.u3),(n_changed,k4,.ref Cl),(n_written,k5,.ref Wr)] 6
noncomputable def fr7 (w:World) (V:LV) (nu:Addr) (st:Int) (k4:Nat) (Cl:Addr) (k5:Nat) (Wr:Addr) (k6:Nat) (tx:Str) (u6:Nat):Obj:=frO w [(n_script,V.k0,.ref V.sc),(n_drawn,V.k1,.ref V.dr),(n_numbers,V.k2,.ref nu),(n_start,V.k3,.int st V.u3),(n_changed,k4,.ref Cl),(n_written,k5,.ref Wr),(n_text,k6,.str tx u6)] 7
noncomputable def fr8 (w:World) (V:LV) (nu:Addr) (st:Int) (k4:Nat) (Cl:Addr) (k5:Nat) (Wr:Addr) (k6:Nat) (tx:Str) (u6 k7:Nat) (lx:Addr):Obj:=frO w [(n_script,V.k0,.ref V.sc),(n_drawn,V.k1,.ref V.dr),(n_numbers,V.k2,.ref nu),(n_start,V.k3,.int st V.u3),(n_changed,k4,.ref Cl),(n_written,k5,.ref Wr),(n_text,k6,.str tx u6),(n_lexer,k7,.ref lx)] 8
noncomputable def fr9 (w:World) (V:LV) (nu:Addr) (st:Int) (k4:Nat) (Cl:Addr) (k5:Nat) (Wr:Addr) (k6:Nat) (tx:Str) (u6 k7:Nat) (lx:Addr) (k8:Nat) (Wo:Addr):Obj:=frO w [(n_script,V.k0,.ref V.sc),(n_drawn,V.k1,.ref V.dr),(n_numbers,V.k2,.ref nu),(n_start,V.k3,.int st V.u3),(n_changed,k4,.ref Cl),(n_written,k5,.ref Wr),(n_text,k6,.str tx u6),(n_lexer,k7,.ref lx),(n_words,k8,.ref Wo)] 9
noncomputable def fr10 (w:World) (V:LV) (nu:Addr) (st:Int) (k4:Nat) (Cl:Addr) (k5:Nat) (Wr:Addr) (k6:Nat) (tx:Str) (u6 k7:Nat) (lx:Addr) (k8:Nat) (Wo:Addr) (k9:Nat) (Me:Addr):Obj:=frO w [(n_script,V.k0,.ref V.sc),(n_drawn,V.k1,.ref V.dr),(n_numbers,V.k2,.ref nu),(n_start,V.k3,.int st V.u3),(n_changed,k4,.ref Cl),(n_written,k5,.ref Wr),(n_text,k6,.str tx u6),(n_lexer,k7,.ref lx),(n_words,k8,.ref Wo),(n_mended,k9,.ref Me)] 10
theorem Mn.cast {w:World} {A:Around} {R:Result → Shared → Prop} {c c':Code} {κ κ':Kn} {t t':Sem Fin} {s:Shared} (e1:c = c') (e2:κ = κ') (e3:t = t') (h:Mn prog w A R c' κ' t' s):Mn prog w A R c κ t s:=by
  subst e1 e2 e3; exact h
end Mine
set_option genInjectivity false
set_option genSizeOf false
namespace Mine
open PySem PySem.W PySem.W.X PyProof.Rows
noncomputable def lcE:Expr → Expr
  | .ListComp e _ _ _=>e
  | e=>e
noncomputable def lcG:Expr → Comprehension
  | .ListComp _ (g :: _) _ _=>g
  | _=>default
noncomputable def lcS:Expr → Scope
  | .ListComp _ _ s _=>s
  | _=>default
noncomputable def lcP:Expr → Pos
  | .ListComp _ _ _ p=>p
  | _=>default
structure IsLc (e:Expr):Prop where
  is:e = .ListComp (lcE e) [lcG e] (lcS e) (lcP e)
  na:(lcG e).is_async = 0
  ni:(lcG e).ifs = []
theorem lcTurn_is (k:Expr) (g:Comprehension) (sc:Scope) (ps:Pos) (h1:g.is_async = 0) (h2:g.ifs = []) (it acc:Value) (env:Env):compTurn (.ListComp k [g] sc ps) 0 it acc env =
    (standAt g.iter.pos).bind fun _=>(pyNext it).bind fun r=>match r with
      | none=>.pure (.done .next)
      | some x=>(letOwnedTupleGo g.target it x).bind fun _=>(assign g.target env x).bind fun _=>(eval k env).bind fun kv=>(call (.builtin "list.append") [acc,kv]).bind fun _=>again (.compLoop (.ListComp k [g] sc ps) 0 it acc env):=by
  obtain ⟨t,i,fs,a⟩:=g
  cases h1
  cases h2
  unfold compTurn
  refine congrArg (Sem.bind _) (funext fun _=>congrArg (Sem.bind _) (funext fun r=>?_))
  cases r with
  | none=>rfl
  | some x =>
    refine congrArg (Sem.bind _) (funext fun _=>congrArg (Sem.bind _) (funext fun _=>?_))
    show ((eval k env).bind fun kv=>(call (.builtin "list.append") [acc,kv]).bind fun _=>Sem.pure PUnit.unit).bind (fun _=>again (.compLoop (.ListComp k [⟨t,i,[],0⟩] sc ps) 0 it acc env)) = _
    exact (bind_assoc (m:=Sem) _ _ _).trans (congrArg (Sem.bind _) (funext fun kv=>bind_assoc (m:=Sem) _ _ _))
noncomputable def lcT (e:Expr) (env:Env) (x:Value):Sem Fin:=R.bindR (Fast.tw17772580674575903948 (lcG e).target env x) fun _=>R.bindR (Fast.tw14044960220447912780 (lcE e) env) fun kv=>.pure (.done (.ret kv))
theorem lcT_eq (e:Expr) (env:Env) (x:Value):lcT e env x = (assign (lcG e).target env x).bind fun _=>(eval (lcE e) env).bind fun kv=>.pure (.done (.ret kv)):=by
  unfold lcT
  rw [← Fast.te17772580674575903948,← Fast.te14044960220447912780,← R.bindR_eq]
section
variable {w:World} {A:Around} {R:Result → Shared → Prop} {s:Shared}
theorem lc_next {e:Expr} {it acc:Value} {env:Env} (D:IsLc e)
    (h:wpAny (model prog w) A (pyNext it) (fun r s₁=>match r with
      | none=>R (.ok .next) s₁
      | some x=>wpAny (model prog w) A (letOwnedTupleGo (lcG e).target it x) (fun _ s₂ =>
          Mn prog w A (retR fun kv s₃=>wpAny (model prog w) A (call (.builtin "list.append") [acc,kv]) (fun _ s₅=>codeAny (model prog w) A (.compLoop e 0 it acc env) R s₅) (fun _ _=>False) s₃) (.compLoop e 0 it acc env) .base (lcT e env x) s₂) (fun _ _=>False) s₁) (fun _ _=>False) s) :
    codeAny (model prog w) A (.compLoop e 0 it acc env) R s:=by
  refine y_code prog w A R s _ ?_
  have hden:denote table (.compLoop e 0 it acc env) = Sem.onRaise (compTurn e 0 it acc env) (fun x=>do noteFrame x env; theTreesLotGoes x):=by
    rw [D.is]; rfl
  have hw0:(Code.compLoop e 0 it acc env).weight = 0:=by rw [D.is]; rfl
  have ht:compTurn e 0 it acc env = (standAt (lcG e).iter.pos).bind fun _=>(pyNext it).bind fun r=>match r with
      | none=>.pure (.done .next)
      | some x=>(letOwnedTupleGo (lcG e).target it x).bind fun _=>(assign (lcG e).target env x).bind fun _=>(eval (lcE e) env).bind fun kv=>(call (.builtin "list.append") [acc,kv]).bind fun _=>again (.compLoop e 0 it acc env):=by
    have z:=lcTurn_is (lcE e) (lcG e) (lcS e) (lcP e) D.na D.ni it acc env
    rw [← D.is] at z
    exact z
  rw [hden]
  intro Γ p hc hΓ
  have hΓ':Γ.In A:=by
    have:=hΓ.in
    rw [hc,Around.under_of_weight hw0 (by rw [D.is]; rfl)] at this
    exact this
  rw [Sem.wp_onRaise,ht]
  show Sem.wp _ Γ (standAt (lcG e).iter.pos >>= _) _ _ p s
  rw [Sem.wp_bind']
  show Sem.wp _ Γ (pyNext it >>= _) _ _ _ s
  rw [Sem.wp_bind']
  refine Sem.wp_mono _ Γ _ (fun r p₁ s₁ hr=>?_) (fun _ _ _ hx=>hx.elim) _ s (h Γ _ hΓ')
  cases r with
  | none=>exact hr
  | some x =>
    show Sem.wp _ Γ (letOwnedTupleGo (lcG e).target it x >>= _) _ _ _ s₁
    rw [Sem.wp_bind']
    refine Sem.wp_mono _ Γ _ (fun _ p₂ s₂ hm=>?_) (fun _ _ _ hx=>hx.elim) _ s₁ (hr Γ _ hΓ')
    have z:=hm.out Γ p₂ hc hΓ
    rw [lcT_eq] at z
    change Sem.wp _ Γ (assign (lcG e).target env x >>= fun _=>eval (lcE e) env >>= fun kv=>Sem.pure (Fin.done (.ret kv))) _ _ p₂ s₂ at z
    rw [Sem.wp_bind'] at z
    show Sem.wp _ Γ (assign (lcG e).target env x >>= _) _ _ p₂ s₂
    rw [Sem.wp_bind']
    refine Sem.wp_mono _ Γ _ (fun _ p₃ s₃ z=>?_) (fun _ _ _ hx=>hx.elim) _ s₂ z
    rw [Sem.wp_bind'] at z
    show Sem.wp _ Γ (eval (lcE e) env >>= _) _ _ p₃ s₃
    rw [Sem.wp_bind']
    refine Sem.wp_mono _ Γ _ (fun kv p₄ s₄ z=>?_) (fun _ _ _ hx=>hx.elim) _ s₃ z
    have z3:wpAny (model prog w) A (call (.builtin "list.append") [acc,kv]) (fun _ s₅=>codeAny (model prog w) A (.compLoop e 0 it acc env) R s₅) (fun _ _=>False) s₄:=z
    show Sem.wp _ Γ (call (.builtin "list.append") [acc,kv] >>= _) _ _ _ s₄
    rw [Sem.wp_bind']
    refine Sem.wp_mono _ Γ _ (fun _ p₆ s₆ z=>?_) (fun _ _ _ hx=>hx.elim) _ s₄ (z3 Γ _ hΓ')
    exact ⟨rfl,z⟩
end
end Mine
set_option genInjectivity false
set_option genSizeOf false
namespace Mine
open PySem PySem.W PySem.W.X PyProof.Rows
structure Iter (w:World) (it:Addr) (n:Nat) (I:Nat → Heap → Prop) (X:Nat → Value → Prop):Prop where
  next:∀ (A:Around) (Q:Option Value → Shared → Prop) (E:Value → Shared → Prop) (s:Shared) (i:Nat),i < n → I i s.heap →
    (∀ v h' tk,X i v → I (i + 1) h' → Heap.SameBut it s.heap h' → Q (some v) ⟨h',s.gens,s.drawn,tk,s.os⟩) → wpAny (model prog w) A (pyNext (.ref it)) Q E s
  stop:∀ (A:Around) (Q:Option Value → Shared → Prop) (E:Value → Shared → Prop) (s:Shared),A.handled = none → I n s.heap →
    (∀ h' o,KeepsBut [it] s.heap h' → s.heap.objs.size ≤ h'.objs.size → h'.get? it = some o → Q none ⟨h',s.gens,s.drawn,s.toks,s.os⟩) → wpAny (model prog w) A (pyNext (.ref it)) Q E s
  iter:∀ (A:Around) (Q:Value → Shared → Prop) (E:Value → Shared → Prop) (s:Shared),I 0 s.heap → Q (.ref it) s → wpAny (model prog w) A (pyIter (.ref it)) Q E s
  own:∀ (A:Around) (Q:Unit → Shared → Prop) (E:Value → Shared → Prop) (s:Shared) (i j:Nat) (tgt:Expr) (v:Value),I i s.heap → X j v → Q () s → wpAny (model prog w) A (letOwnedTupleGo tgt (.ref it) v) Q E s
theorem own_any {w:World} {A:Around} {E:Value → Shared → Prop} {s:Shared} {tgt:Expr} {it l:Addr} {v:Value} {i:Nat} {Q:Unit → Shared → Prop} (hit:s.heap.get? it = some (litO l i)) (h:Q () s):wpAny (model prog w) A (letOwnedTupleGo tgt (.ref it) v) Q E s:=by
  cases tgt
  case Tuple | List =>
    unfold letOwnedTupleGo
    cases v
    case ref a =>
      dsimp only
      refine wpAny_bind (wpAny_load hit ?_)
      exact wpAny_pure h
    all_goals exact wpAny_pure h
  all_goals exact wpAny_pure h
theorem own_int {w:World} {A:Around} {E:Value → Shared → Prop} {s:Shared} {tgt:Expr} {it:Addr} {x:Int} {t:Nat} {Q:Unit → Shared → Prop} (h:Q () s):wpAny (model prog w) A (letOwnedTupleGo tgt (.ref it) (.int x t)) Q E s:=by
  cases tgt <;> exact wpAny_pure h
theorem iter_list (w:World) (it l:Addr) (vs:List Value) (e:Nat):Iter w it vs.length (fun i h=>h.get? it = some (litO l i) ∧ h.get? l = some (listO vs e) ∧ l ≠ it) (fun i v=>vs[i]? = some v) where
  next:=fun A Q E s i hi hI K=>by
    obtain ⟨h1,h2,h3⟩:=hI
    refine p_list_item (x:=vs[i]) h1 h2 (List.getElem?_eq_getElem hi) fun h' it' sb=>?_
    exact K _ h' s.toks (List.getElem?_eq_getElem hi) ⟨it',(sb.2 l h3).trans h2,h3⟩ sb
  stop:=fun A Q E s hh hI K=>by
    obtain ⟨h1,h2,h3⟩:=hI
    refine p_list_end hh h1 h2 (List.getElem?_eq_none (Nat.le_refl _)) fun h' it' kb sz=>?_
    exact K h' _ kb (by lia) it'
  iter:=fun A Q E s hI h=>wpAny_pyIter_listiter (l:=l) (i:=0) ⟨_,hI.1,rfl,rfl⟩ h
  own:=fun A Q E s i j tgt v hI _ h=>own_any hI.1 h
section
variable {w:World} {A:Around} {R:Result → Shared → Prop} {s:Shared} {E:Value → Shared → Prop}
theorem c_range_end {it:Addr} {x left step:Int} (hh:A.handled = none) (ho:s.heap.get? it = some (rngO x left step)) (hl:left ≤ 0)
    (h:∀ h',Keeps s.heap h' → h'.objs.size = s.heap.objs.size + 2 → h'.get? (s.heap.objs.size + 1) = some (stopO s.heap.objs.size) → R (.error (.ref (s.heap.objs.size + 1))) { s with heap:=h' }) :
    codeAny (model prog w) A (.call (.builtin "range_iterator.__next__") ⟨[.ref it],[]⟩) R s:=by
  have hT:s.TypeIs (.ref it) "range_iterator":=⟨_,ho,rfl⟩
  refine codeAny_call_builtin slot_ri_next.plain F.entry_range_iterator_next (slot_ri_next.check _ _ _ _ _ _ _ _ hT (F.args_range_iterator_next_1 _) ?_)
  show wpAny _ _ (field (.ref it) 0 >>= _) _ _ s
  refine wpAny_bind (wpAny_field ho rfl (x:=.int x 0) rfl ?_)
  show wpAny _ _ (field (.ref it) 1 >>= _) _ _ s
  refine wpAny_bind (wpAny_field ho rfl (x:=.int left 0) rfl ?_)
  show wpAny _ _ (field (.ref it) 2 >>= _) _ _ s
  refine wpAny_bind (wpAny_field ho rfl (x:=.int step 0) rfl ?_)
  show wpAny _ _ (if left ≤ 0 then _ else _) _ _ s
  rw [if_pos hl]
  refine wpAny_bind (wpAny_rule (wpAny_bind ?_))
  show wpAny _ _ (newExc (.type "StopIteration") [] >>= _) _ _ _
  refine wpAny_bind ?_
  simp only [newExc,newTuple]
  refine wpAny_bind (wpAny_newObj_type ?_ (by size_fits))
  refine wpAny_bind (m:=firstArgMember _ _) (wpAny_of_eq (a:=Value.none) (by first | rfl | (simp only [firstArgMember]; rfl)) ?_)
  refine wpAny_newObj_type ?_ (by size_fits)
  simp only [raiseNew]
  refine wpAny_bind (wpAny_handled ?_)
  rw [show A.in1.handled = none from hh]
  refine wpAny_bind (wpAny_pure (wpAny_throw ?_))
  have e2:(s.heap.push { cls:=.type "tuple",data:=.seq #[] }).objs.size = s.heap.objs.size + 1:=Heap.size_push ..
  have key:=h ((s.heap.push { cls:=.type "tuple",data:=.seq #[] }).push (stopO s.heap.objs.size)) (fun b o eb=>Heap.get?_push_of_some _ (Heap.get?_push_of_some _ eb)) (by rw [Heap.size_push,e2]) (by rw [← e2]; exact Heap.get?_push_size _ rfl)
  rw [← e2] at key
  exact key
end
noncomputable def rIter (a:Int) (n:Nat) (i:Nat):Obj:=rngO (a + i) ((n:Int) - i) 1
theorem iter_range (w:World) (it:Addr) (a:Int) (n:Nat):Iter w it n (fun i h=>h.get? it = some (rIter a n i)) (fun i v=>∃ t,v = .int (a + i) t) where
  next:=fun A Q E s i hi hI K=>by
    have hT:s.TypeIs (.ref it) "range_iterator":=⟨_,hI,rfl⟩
    unfold pyNext
    refine wpAny_bind (wpAny_attempt (wpAny_callSpecial?_slot (name:=Str.ofString "__next__") hT slot_ri_next ?_))
    refine wpAny_call (c_range_next (A:=A) (x:=a + i) (left:=(n:Int) - i) (step:=1) hI (by lia) fun h' h1 h2=>wpAny_pure ?_)
    refine K _ h' (s.toks + 1) ⟨_,rfl⟩ ?_ h2
    show h'.get? it = some (rngO (a + ((i + 1:Nat):Int)) ((n:Int) - ((i + 1:Nat):Int)) 1)
    rw [h1]
    have e1:a + (i:Int) + 1 = a + ((i + 1:Nat):Int):=by lia
    have e2:(n:Int) - (i:Int) - 1 = (n:Int) - ((i + 1:Nat):Int):=by lia
    rw [e1,e2]
  stop:=fun A Q E s hh hI K=>by
    have hT:s.TypeIs (.ref it) "range_iterator":=⟨_,hI,rfl⟩
    unfold pyNext
    refine wpAny_bind (wpAny_attempt (wpAny_callSpecial?_slot (name:=Str.ofString "__next__") hT slot_ri_next ?_))
    refine wpAny_call (c_range_end (A:=A) (x:=a + n) (left:=(n:Int) - n) (step:=1) hh hI (by lia) fun h' h1 h2 h3=>?_)
    refine wpAny_bind (wpAny_isInstance (T:="StopIteration") (b:=true) ⟨_,h3,rfl⟩ isSubtype_stop ?_)
    exact wpAny_pure (K h' _ h1.but (by lia) (h1 _ _ hI))
  iter:=fun A Q E s hI h=>wpAny_pyIter_rangeiter (x:=a + (0:Nat)) (left:=(n:Int) - (0:Nat)) (step:=1) hI h
  own:=fun A Q E s i j tgt v hI hX h=>by
    obtain ⟨t,rfl⟩:=hX
    exact own_int h
structure LcFix (w:World) (e:Expr) (env:Env) (it acc loc:Addr) (n:Nat) (I:Nat → Heap → Prop) (X:Nat → Value → Prop) (md:List Addr) (Lok Lok2:Obj → Prop) (Inv:Heap → Prop) (P:Nat → Value → Heap → Prop) (g:Array GenState) (d:Drawn) (os:OsState) (nA:Nat):Prop where
  D:IsLc e
  V:Iter w it n I X
  nia:it ≠ acc
  nil:it ≠ loc
  nal:acc ≠ loc
  nim:it ∉ md
  nam:acc ∉ md
  fr:FreeL (it :: acc :: loc :: md)
  hn:n ≤ 900
  up:∀ o,Lok2 o → Lok o
  stI:∀ i h h',KeepsBut (acc :: loc :: md) h h' → I i h → I i h'
  stV:∀ h h',KeepsBut [it,acc] h h' → Inv h → Inv h'
  stP:∀ i v h h',KeepsBut (it :: acc :: loc :: md) h h' → P i v h → P i v h'
  turn:∀ (i:Nat) (x:Value) (A:Around) (R:Result → Shared → Prop) (h:Heap) (T0:Nat) (lo:Obj),i < n → X i x → Lo A nA → A.handled = none → TopOk w h → Inv h → h.get? loc = some lo → Lok lo → I (i + 1) h → (∃ vals ep,h.get? acc = some (listO vals ep)) →
    (∀ h' tk v lo',KeepsBut (loc :: md) h h' → h.objs.size ≤ h'.objs.size → Inv h' → P i v h' → h'.get? loc = some lo' → Lok2 lo' → R (.ok (.ret v)) ⟨h',g,d,tk,os⟩) →
    Mn prog w A R (.compLoop e 0 (.ref it) (.ref acc) env) .base (lcT e env x) ⟨h,g,d,T0,os⟩
section
variable {w:World} {A:Around} {R:Result → Shared → Prop} {g:Array GenState} {d:Drawn} {os:OsState} {e:Expr} {env:Env} {it acc loc:Addr} {n nA:Nat} {I:Nat → Heap → Prop} {X:Nat → Value → Prop} {md:List Addr} {Lok Lok2:Obj → Prop} {Inv:Heap → Prop} {P:Nat → Value → Heap → Prop}
theorem lc_loop (L:LcFix w e env it acc loc n I X md Lok Lok2 Inv P g d os nA) (hA:Lo A nA) (hh:A.handled = none) :
    ∀ (k i:Nat) (h:Heap) (T0:Nat) (vals:List Value) (ep:Nat) (lo:Obj),n - i = k → i ≤ n → TopOk w h → I i h → h.get? acc = some (listO vals ep) → vals.length = i → (∀ j v,vals[j]? = some v → P j v h) → Inv h → h.get? loc = some lo → Lok lo →
      (∀ h' tk vals' ep' lo' oi,KeepsBut (it :: acc :: loc :: md) h h' → h.objs.size ≤ h'.objs.size → h'.get? it = some oi → Inv h' → vals'.length = n → (∀ j v,vals'[j]? = some v → P j v h') → h'.get? acc = some (listO vals' ep') → h'.get? loc = some lo' → ((i = n ∧ lo' = lo) ∨ Lok2 lo') → R (.ok .next) ⟨h',g,d,tk,os⟩) →
      codeAny (model prog w) A (.compLoop e 0 (.ref it) (.ref acc) env) R ⟨h,g,d,T0,os⟩:=by
  have mem3:∀ b,b ∈ [it] → b ∈ it :: acc :: loc :: md:=fun b hb=>by simp at hb; simp [hb]
  have mem4:∀ b,b ∈ loc :: md → b ∈ it :: acc :: loc :: md:=fun b hb=>.tail _ (.tail _ hb)
  have mem5:∀ b,b ∈ [acc] → b ∈ it :: acc :: loc :: md:=fun b hb=>by simp at hb; simp [hb]
  have mem6:∀ b,b ∈ loc :: md → b ∈ acc :: loc :: md:=fun b hb=>.tail _ hb
  have mem7:∀ b,b ∈ [acc] → b ∈ acc :: loc :: md:=fun b hb=>by simp at hb; simp [hb]
  have frl:=L.fr
  intro k
  induction k with
  | zero =>
    intro i h T0 vals ep lo hk hi top hI hacc hlen hP hInv hloc hlok K
    have hin:i = n:=by lia
    subst hin
    refine lc_next L.D (L.V.stop A _ _ _ hh hI fun h' oi kb sz hoi=>?_)
    have kb3:=kb.mono mem3
    exact K h' T0 vals ep lo oi kb3 sz hoi (L.stV _ _ (kb.mono fun b hb=>by simp at hb; simp [hb]) hInv) hlen (fun j v e=>L.stP j v _ _ kb3 (hP j v e)) (kb _ _ hacc (by simp [Ne.symm L.nia])) (kb _ _ hloc (by simp [Ne.symm L.nil])) (.inl ⟨rfl,rfl⟩)
  | succ k ih =>
    intro i h T0 vals ep lo hk hi top hI hacc hlen hP hInv hloc hlok K
    have hlt:i < n:=by lia
    refine lc_next L.D (L.V.next A _ _ _ i hlt hI fun x h1 tk1 hx hI1 s1=>?_)
    have k1:KeepsBut [it] h h1:=same_keepsBut s1
    have top1:TopOk w h1:=top.keepsBut (k1.mono mem3) L.fr
    refine L.V.own A _ _ _ (i + 1) i _ x hI1 hx ?_
    have hInv1:Inv h1:=L.stV _ _ (k1.mono fun b hb=>by simp at hb; simp [hb]) hInv
    have hacc1:h1.get? acc = some (listO vals ep):=k1 _ _ hacc (by simp [Ne.symm L.nia])
    refine L.turn i x A _ h1 tk1 lo hlt hx hA hh top1 hInv1 (k1 _ _ hloc (by simp [Ne.symm L.nil])) hlok hI1 ⟨vals,ep,hacc1⟩ fun h2 tk2 v lo2 k2 s2 hInv2 hPv hloc2 hlok2=>?_
    have hacc2:h2.get? acc = some (listO vals ep):=k2 _ _ hacc1 (by
      intro hm
      rcases List.mem_cons.mp hm with q | q
      · exact L.nal q
      · exact L.nam q)
    show wpAny (model prog w) A (call (.builtin "list.append") [.ref acc,v]) _ _ ⟨h2,g,d,tk2,os⟩
    refine wpAny_call (c_list_append (A:=A) (x:=v) hacc2 (by have:=L.hn; lia) fun h3 ha3 s3=>?_)
    have k3:KeepsBut [acc] h2 h3:=same_keepsBut s3
    have kall:KeepsBut (it :: acc :: loc :: md) h h3:=(k1.mono mem3).trans ((k2.mono mem4).trans (k3.mono mem5))
    refine ih (i + 1) h3 tk2 (vals ++ [v]) (ep + 1) lo2 (by lia) hlt (top.keepsBut kall L.fr) (L.stI _ _ _ ((k2.mono mem6).trans (k3.mono mem7)) hI1) ha3 (by simp [hlen]) ?_ (L.stV _ _ (k3.mono fun b hb=>by simp at hb; simp [hb]) hInv2) (k3 _ _ hloc2 (by simp [Ne.symm L.nal])) (L.up _ hlok2) fun h' tk' vals' ep' lo' oi kk ss a0 a1 a2 a3 a4 a5 a6=>?_
    · intro j v' e
      by_cases hj:j < vals.length
      · rw [List.getElem?_append_left hj] at e
        exact L.stP j v' _ _ kall (hP j v' e)
      · rw [List.getElem?_append_right (by lia)] at e
        have:j - vals.length = 0:=by
          rcases Nat.eq_zero_or_pos (j - vals.length) with z | z
          · exact z
          · rw [List.getElem?_eq_none (by simp; lia)] at e; cases e
        rw [this] at e
        cases e
        have hji:j = i:=by lia
        subst hji
        exact L.stP j v _ _ (k3.mono mem5) hPv
    · refine K h' tk' vals' ep' lo' oi (kall.trans kk) ?_ a0 a1 a2 a3 a4 a5 (.inr (a6.elim (fun z=>by rw [z.2]; exact hlok2) id))
      have z1:h1.objs.size = h.objs.size:=s1.1
      have z3:h3.objs.size = h2.objs.size:=s3.1
      exact Nat.le_trans (Nat.le_of_eq z1.symm) (Nat.le_trans s2 (Nat.le_trans (Nat.le_of_eq z3.symm) ss))
theorem lc_start {it acc:Value} {s:Shared} (D:IsLc e) (h0:codeAny (model prog w) A (.compLoop e 0 it acc env) R s) (h:wpAny (model prog w) A (pyIter it) (fun v s'=>v = it ∧ codeAny (model prog w) A (.compLoop e 0 it acc env) R s') (fun _ _=>False) s) :
    codeAny (model prog w) A (.compStart e 0 it acc env) R s:=by
  have hg:lcG e = ⟨(lcG e).target,(lcG e).iter,(lcG e).ifs,0⟩:=by
    have:=D.na
    cases hx:lcG e with
    | mk t i f a=>rw [hx] at this; dsimp only at this ⊢; rw [this]
  have he:=D.is
  rw [hg] at he
  rw [he] at h0 h ⊢
  refine codeAny_compStart_list h0 (wpAny_mono h (fun v s' q=>?_) fun _ _ q=>q.elim)
  obtain ⟨rfl,q⟩:=q
  exact q
theorem lc_comp (L:LcFix w e env it acc loc n I X md Lok Lok2 Inv P g d os nA) (hA:Lo A nA) (hh:A.handled = none) {h:Heap} {T0 ep:Nat} {lo:Obj} (top:TopOk w h) (hI:I 0 h) (hacc:h.get? acc = some (listO [] ep)) (hInv:Inv h) (hloc:h.get? loc = some lo) (hlok:Lok lo)
    (K:∀ h' tk vals' ep' lo' oi,KeepsBut (it :: acc :: loc :: md) h h' → h.objs.size ≤ h'.objs.size → h'.get? it = some oi → Inv h' → vals'.length = n → (∀ j v,vals'[j]? = some v → P j v h') → h'.get? acc = some (listO vals' ep') → h'.get? loc = some lo' → ((0 = n ∧ lo' = lo) ∨ Lok2 lo') → R (.ok .next) ⟨h',g,d,tk,os⟩) :
    codeAny (model prog w) A (.compStart e 0 (.ref it) (.ref acc) env) R ⟨h,g,d,T0,os⟩ :=
  have go:=lc_loop L hA hh n 0 h T0 [] ep lo (by lia) (Nat.zero_le _) top hI hacc rfl (fun j v e=>by simp at e) hInv hloc hlok K
  lc_start L.D go (L.V.iter A _ _ _ hI ⟨rfl,go⟩)
end
end Mine
set_option genInjectivity false
set_option genSizeOf false
namespace Mine
open PySem PySem.W PySem.W.X PyProof.Rows
noncomputable def L1two (w:World) (nm:Str) (o:Obj):Prop:=∃ k v,o = locO w [(nm,k,v)] 1
noncomputable def L1ok (w:World) (nm:Str) (o:Obj):Prop:=o = locO w [] 0 ∨ ∃ k v,o = locO w [(nm,k,v)] 1
noncomputable def locT (w:World) (nm:Str) (t:Bool) (k:Nat) (v:Value):Obj:=match t with
  | false=>locO w [] 0
  | true=>locO w [(nm,k,v)] 1
theorem L1ok.form {w:World} {nm:Str} {o:Obj} (h:L1ok w nm o):∃ t k v,o = locT w nm t k v:=by
  rcases h with h | ⟨k,v,h⟩
  · exact ⟨false,0,.none,h⟩
  · exact ⟨true,k,v,h⟩
noncomputable def lawEnvC (w:World) (e:Expr) (own:List (Str × Addr)) (loc N:Addr):Env:=compEnv w 218 q_lawL e own loc N
structure TurnI (w:World) (e:Expr) (env:Env) (it acc loc:Addr) (nm:Str) (f:Int → Int) (g:Array GenState) (d:Drawn) (os:OsState):Prop where
  D:IsLc e
  t:∀ (x:Int) (tx:Nat) (A:Around) (R:Result → Shared → Prop) (h:Heap) (T0:Nat) (lo:Obj),Lo A 400 → A.handled = none → TopOk w h → h.get? loc = some lo → L1ok w nm lo → 219 ≤ loc →
    (∀ h' tk t lo',KeepsBut [loc] h h' → h.objs.size ≤ h'.objs.size → h'.get? loc = some lo' → L1two w nm lo' → R (.ok (.ret (.int (f x) t))) ⟨h',g,d,tk,os⟩) →
    Mn prog w A R (.compLoop e 0 (.ref it) (.ref acc) env) .base (lcT e env (.int x tx)) ⟨h,g,d,T0,os⟩
noncomputable def drE (w:World):Expr:=assignV (stAt w 218 0)
noncomputable def cmpL:Stmt → Expr
  | .If (.Compare l _ _ _) _ _ _=>l
  | _=>.Constant .none 0 default
noncomputable def cmpR:Stmt → Expr
  | .If (.Compare _ _ (r :: _) _) _ _ _=>r
  | _=>.Constant .none 0 default
noncomputable def haE (w:World):Expr:=cmpL (stAt w 218 6)
noncomputable def moE (w:World):Expr:=cmpR (stAt w 218 6)
theorem vals_ints {f:Int → Int}:∀ {vals:List Value} {xs:List (Int × Nat)},vals.length = xs.length → (∀ (j:Nat) (v:Value),vals[j]? = some v → ∃ t:Nat,∀ q:Int × Nat,xs[j]? = some q → v = Value.int (f q.1) t) → ∃ ys:List (Int × Nat),vals = intsV ys ∧ ys.map (·.1) = xs.map fun q=>f q.1
  | [],[],_,_=>⟨[],rfl,rfl⟩
  | [],_ :: _,h,_=>by simp at h
  | _ :: _,[],h,_=>by simp at h
  | v :: vals,x :: xs,h,k=>by
    obtain ⟨t,ht⟩:=k 0 v rfl
    have hv:=ht x rfl
    obtain ⟨ys,e1,e2⟩:=vals_ints (f:=f) (vals:=vals) (xs:=xs) (by simpa using h) fun j v hj=>k (j + 1) v (by simpa using hj)
    exact ⟨(f x.1,t) :: ys,by rw [hv,e1]; rfl,by simp [e2]⟩
section
variable {w:World} {b1 b2:Bool} {A:Around} {R:Result → Shared → Prop} {h:Heap} {g:Array GenState} {d:Drawn} {T0:Nat} {os:OsState} {it acc loc N l:Addr}
theorem turn_drawn (F:Follows w b1 b2):TurnI w (drE w) (lawEnvC w (drE w) [] loc N) it acc loc n_cell (fun x=>x.fmod 1000000) g d os where
  D:=⟨by kernel_rfl,by kernel_rfl,by kernel_rfl⟩
  t:=fun x tx A R h T0 lo hA hh top hlo ok gl K=>by
    obtain ⟨tg,k,v,rfl⟩:=L1ok.form ok
    cases tg
    · have OD:=startA (b1:=b1) (b2:=b2) (T0:=T0) [] [loc] [locO w [] 0] 1 rfl rfl (by kernel_rfl) top trivial ⟨hlo,trivial⟩ ⟨.inl gl,trivial⟩ ⟨trivial,trivial⟩ trivial
      refine go F 36 1 5 [1000,1000,3,0,1000] (i:=0) OD hA hh fun h1=>?_
      intro o_h1 OD
      refine Mn.en (.ret (.int (x.fmod 1000000) (T0 + 4))) ?_
      exact K h1 _ _ (locO w [(n_cell,T0 + 0,.int x tx)] 1) OD.2.kept (size_le OD.1 OD.2) (OD.2.ob 0) ⟨_,_,rfl⟩
    · have OD:=startA (b1:=b1) (b2:=b2) (T0:=T0) [] [loc] [locO w [(n_cell,k,v)] 1] 1 rfl rfl (by kernel_rfl) top trivial ⟨hlo,trivial⟩ ⟨.inl gl,trivial⟩ ⟨trivial,trivial⟩ trivial
      refine go F 36 1 5 [1000,1000,3,0,1000] (i:=0) OD hA hh fun h1=>?_
      intro o_h1 OD
      refine Mn.en (.ret (.int (x.fmod 1000000) (T0 + 4))) ?_
      exact K h1 _ _ (locO w [(n_cell,k,.int x tx)] 1) OD.2.kept (size_le OD.1 OD.2) (OD.2.ob 0) ⟨_,_,rfl⟩
theorem turn_half (F:Follows w b1 b2):TurnI w (haE w) (lawEnvC w (haE w) [] loc N) it acc loc n_power (fun x=>x.fdiv 2) g d os where
  D:=⟨by kernel_rfl,by kernel_rfl,by kernel_rfl⟩
  t:=fun x tx A R h T0 lo hA hh top hlo ok gl K=>by
    obtain ⟨tg,k,v,rfl⟩:=L1ok.form ok
    cases tg
    · have OD:=startA (b1:=b1) (b2:=b2) (T0:=T0) [] [loc] [locO w [] 0] 1 rfl rfl (by kernel_rfl) top trivial ⟨hlo,trivial⟩ ⟨.inl gl,trivial⟩ ⟨trivial,trivial⟩ trivial
      refine go F 15 1 3 [1000,1000,1000] (i:=0) OD hA hh fun h1=>?_
      intro o_h1 OD
      refine Mn.en (.ret (.int (x.fdiv 2) (T0 + 2))) ?_
      exact K h1 _ _ (locO w [(n_power,T0 + 0,.int x tx)] 1) OD.2.kept (size_le OD.1 OD.2) (OD.2.ob 0) ⟨_,_,rfl⟩
    · have OD:=startA (b1:=b1) (b2:=b2) (T0:=T0) [] [loc] [locO w [(n_power,k,v)] 1] 1 rfl rfl (by kernel_rfl) top trivial ⟨hlo,trivial⟩ ⟨.inl gl,trivial⟩ ⟨trivial,trivial⟩ trivial
      refine go F 15 1 3 [1000,1000,1000] (i:=0) OD hA hh fun h1=>?_
      intro o_h1 OD
      refine Mn.en (.ret (.int (x.fdiv 2) (T0 + 2))) ?_
      exact K h1 _ _ (locO w [(n_power,k,.int x tx)] 1) OD.2.kept (size_le OD.1 OD.2) (OD.2.ob 0) ⟨_,_,rfl⟩
theorem turn_mod (F:Follows w b1 b2):TurnI w (moE w) (lawEnvC w (moE w) [] loc N) it acc loc n_power (fun x=>x.fmod 8) g d os where
  D:=⟨by kernel_rfl,by kernel_rfl,by kernel_rfl⟩
  t:=fun x tx A R h T0 lo hA hh top hlo ok gl K=>by
    obtain ⟨tg,k,v,rfl⟩:=L1ok.form ok
    cases tg
    · have OD:=startA (b1:=b1) (b2:=b2) (T0:=T0) [] [loc] [locO w [] 0] 1 rfl rfl (by kernel_rfl) top trivial ⟨hlo,trivial⟩ ⟨.inl gl,trivial⟩ ⟨trivial,trivial⟩ trivial
      refine go F 15 1 3 [1000,1000,1000] (i:=0) OD hA hh fun h1=>?_
      intro o_h1 OD
      refine Mn.en (.ret (.int (x.fmod 8) (T0 + 2))) ?_
      exact K h1 _ _ (locO w [(n_power,T0 + 0,.int x tx)] 1) OD.2.kept (size_le OD.1 OD.2) (OD.2.ob 0) ⟨_,_,rfl⟩
    · have OD:=startA (b1:=b1) (b2:=b2) (T0:=T0) [] [loc] [locO w [(n_power,k,v)] 1] 1 rfl rfl (by kernel_rfl) top trivial ⟨hlo,trivial⟩ ⟨.inl gl,trivial⟩ ⟨trivial,trivial⟩ trivial
      refine go F 15 1 3 [1000,1000,1000] (i:=0) OD hA hh fun h1=>?_
      intro o_h1 OD
      refine Mn.en (.ret (.int (x.fmod 8) (T0 + 2))) ?_
      exact K h1 _ _ (locO w [(n_power,k,.int x tx)] 1) OD.2.kept (size_le OD.1 OD.2) (OD.2.ob 0) ⟨_,_,rfl⟩
theorem ints_comp {e:Expr} {env:Env} {nm:Str} {f:Int → Int} {xs:List (Int × Nat)} {le ep:Nat} (T:TurnI w e env it acc loc nm f g d os) (hA:Lo A 400) (hh:A.handled = none) (top:TopOk w h)
    (g1:219 ≤ it ∧ 219 ≤ acc ∧ 219 ≤ loc) (n1:it ≠ acc ∧ it ≠ loc ∧ acc ≠ loc) (nl:NotIn l [it,acc,loc]) (hn:xs.length ≤ 900)
    (hl:h.get? l = some (listO (intsV xs) le)) (hit:h.get? it = some (litO l 0)) (hacc:h.get? acc = some (listO [] ep)) (hloc:h.get? loc = some (locO w [] 0))
    (K:∀ h' tk ys ep' lo' oi,KeepsBut [it,acc,loc] h h' → h.objs.size ≤ h'.objs.size → h'.get? it = some oi → h'.get? acc = some (listO (intsV ys) ep') → ys.map (·.1) = xs.map (fun q=>f q.1) → h'.get? loc = some lo' → ((xs = [] ∧ lo' = locO w [] 0) ∨ L1two w nm lo') → R (.ok .next) ⟨h',g,d,tk,os⟩) :
    codeAny (model prog w) A (.compStart e 0 (.ref it) (.ref acc) env) R ⟨h,g,d,T0,os⟩:=by
  have hlen:(intsV xs).length = xs.length:=by simp [intsV]
  have L:LcFix w e env it acc loc (intsV xs).length (fun i h=>h.get? it = some (litO l i) ∧ h.get? l = some (listO (intsV xs) le) ∧ l ≠ it) (fun i v=>(intsV xs)[i]? = some v) [] (L1ok w nm) (L1two w nm) (fun _=>True) (fun i v _=>∃ t,∀ q,xs[i]? = some q → v = Value.int (f q.1) t) g d os 400 :=
    { D:=T.D,V:=iter_list w it l (intsV xs) le,nia:=n1.1,nil:=n1.2.1,nal:=n1.2.2,nim:=fun h=>(nomatch h),nam:=fun h=>(nomatch h),fr:=⟨.inl g1.1,.inl g1.2.1,.inl g1.2.2,trivial⟩,hn:=by rw [hlen]; exact hn
      up:=fun o h=>.inr h
      stI:=fun i h h' k hI=>⟨k _ _ hI.1 (by simp [n1.1,n1.2.1]),k _ _ hI.2.1 (NotIn.mem ⟨nl.2.1,nl.2.2.1,trivial⟩),hI.2.2⟩
      stV:=fun _ _ _ _=>trivial
      stP:=fun _ _ _ _ _ p=>p
      turn:=fun i x A R h T0 lo hi hx hA hh top _ hlo ok _ _ K=>by
        have hx':(intsV xs)[i]? = some x:=hx
        unfold intsV at hx'
        rw [List.getElem?_map] at hx'
        cases hq:xs[i]? with
        | none=>rw [hq] at hx'; cases hx'
        | some q =>
          rw [hq] at hx'
          cases hx'
          refine T.t q.1 q.2 A R h T0 lo hA hh top hlo ok g1.2.2 fun h' tk t lo' k s a b=>K h' tk _ lo' k s trivial ⟨t,fun q' e=>?_⟩ a b
          rw [hq] at e
          cases e
          rfl }
  refine lc_comp L hA hh top ⟨hit,hl,nl.1⟩ hacc trivial hloc (.inl rfl) fun h' tk vals ep' lo' oi k s hoi _ hlv hP hacc' hlo' ok'=>?_
  obtain ⟨ys,rfl,e2⟩:=vals_ints (f:=f) (hlv.trans hlen) hP
  exact K h' tk ys ep' lo' oi k s hoi hacc' e2 hlo' (ok'.elim (fun z=>.inl ⟨List.length_eq_zero_iff.mp (hlen.symm.trans z.1.symm),z.2⟩) .inr)
end
end Mine
namespace Mine
open PySem PySem.W PySem.W.X PyProof.Rows
section
variable {w:World} {A:Around} {R:Result → Shared → Prop} {s:Shared}
theorem c_slice {l sl:Addr} {vs:List Value} {e:Nat} {vl vu:Value} {lo hi:Option Int} (hl:s.heap.get? l = some (listO vs e)) (hs:s.heap.get? sl = some (slO vl vu)) (pl:IsPart vl lo) (pu:IsPart vu hi) (hz:vs.length ≤ 5000)
    (h:∀ h',Keeps s.heap h' → h'.objs.size = s.heap.objs.size + 1 → h'.get? s.heap.objs.size = some (listO (slicePick vs.toArray lo hi none).toList 0) → R (.ok (.ret (.ref s.heap.objs.size))) { s with heap:=h' }) :
    codeAny (model prog w) A (.call (.builtin "list.__getitem__") ⟨[.ref l,.ref sl],[]⟩) R s:=by
  have hTs:s.TypeIs (.ref sl) "slice":=⟨_,hs,rfl⟩
  have hle:(slicePick vs.toArray lo hi none).size ≤ sizeLine:=Nat.le_trans (slicePick_size_le _ _ _ _) (by rw [PySem.sizeLine_eq]; simp; lia)
  refine codeAny_call_builtin F.slot_list_getitem.plain F.entry_list_getitem (F.slot_list_getitem.check _ _ _ _ _ _ _ _ (isList_of hl).typeIs (F.args_list_getitem_2 _ _) ?_)
  show wpAny _ _ (Builtin.List.listSubscript? (.ref sl) >>= _) _ _ s
  refine wpAny_bind ?_
  unfold Builtin.List.listSubscript?
  refine wpAny_bind (wpAny_specialOf hTs slice_no_index ?_)
  refine wpAny_pure ?_
  show wpAny _ _ (typeOf (.ref sl) >>= _) _ _ s
  refine wpAny_bind (wpAny_typeOf hTs ?_)
  rw [if_neg (by decide),listSliceParts_eq]
  refine wpAny_bind (wpAny_bind (wpAny_field hs rfl (x:=.none) rfl (wpAny_bind (wpAny_listPart .none ?_))))
  rw [if_neg (by decide)]
  refine wpAny_bind (wpAny_field hs rfl (x:=vl) rfl (wpAny_bind (wpAny_listPart pl ?_)))
  refine wpAny_bind (wpAny_field hs rfl (x:=vu) rfl (wpAny_bind (wpAny_listPart pu (wpAny_pure ?_))))
  refine wpAny_bind (m:=Builtin.List.listItems (.ref l)) ?_
  unfold Builtin.List.listItems
  refine wpAny_bind (wpAny_seqItems hl rfl (wpAny_pure ?_))
  refine wpAny_bind (wpAny_of_eq (sliceIndices_raw lo hi none vs.toArray.size (by simp)) ?_)
  refine wpAny_bind (wpAny_newObj_type ?_ hle)
  have key:=h (s.heap.push { cls:=.type "list",data:=.seq (slicePick vs.toArray lo hi none) }) (fun b o eb=>Heap.get?_push_of_some _ eb) (Heap.size_push ..) (by rw [Heap.get?_push_size _ rfl]; unfold listO; rw [Array.toArray_toList])
  exact wpAny_pure key
theorem ints_of {vs:List Value} {ns:List Int} (h:IntsAre vs ns):∃ xs:List (Int × Nat),vs = intsV xs ∧ xs.map (·.1) = ns:=by
  induction h with
  | nil=>exact ⟨[],rfl,rfl⟩
  | cons n t _ ih =>
    obtain ⟨xs,e1,e2⟩:=ih
    exact ⟨(n,t) :: xs,by rw [e1]; rfl,by simp [e2]⟩
theorem v_len {E Q:Value → Shared → Prop} {l:Addr} {xs:List (Int × Nat)} {e:Nat} (hl:s.heap.get? l = some (listO (intsV xs) e)) (hz:xs.length ≤ 5000) (h:Q (.int (xs.length:Int) (s.toks + 1)) ⟨s.heap,s.gens,s.drawn,s.toks + 2,s.os⟩) :
    wpAny (model prog w) A (call (.builtin "len") [.ref l]) Q E s:=by
  have e1:(intsV xs).toArray.size = xs.length:=by simp [intsV]
  refine Calls.call_len_list (isList_of hl) (by rw [e1]; lia) ?_
  rw [e1]
  exact h
noncomputable def cellsN (N:Addr):List (Addr × Obj):=[(N + 1,cellO none),(N + 2,cellO none),(N + 3,cellO none),(N + 4,cellO none),(N + 5,cellO none),(N + 6,cellO none),(N + 7,cellO none),(N + 8,cellO none)]
theorem intsV_app (xs ys:List (Int × Nat)):intsV xs ++ intsV ys = intsV (xs ++ ys):=by simp [intsV]
noncomputable def fixN:List Int:=[6719,0,37,250,588]
noncomputable def numsN (sc:List Int):List Int:=(sc.take 5).map (fun x=>x.fmod 1000000) ++ fixN.drop (sc.take 5).length
theorem numsN_len (sc:List Int):(numsN sc).length = 5:=by
  unfold numsN fixN
  simp only [List.length_append,List.length_map,List.length_drop,List.length_take,List.length_cons,List.length_nil]
  lia
end
end Mine
namespace Mine
open PySem PySem.W PySem.W.X PyProof.Rows
section
variable {w:World} {b1 b2:Bool} {A:Around} {R:Result → Shared → Prop} {h:Heap} {g:Array GenState} {d:Drawn} {T0:Nat} {os:OsState} {xs:List (Int × Nat)} {sc se:Nat}
theorem law_p1 (F:Follows w b1 b2) (hA:Lo A 50) (hh:A.handled = none) (top:TopOk w h) (gN:219 ≤ h.objs.size) (hx:xs.length ≤ 900) (hsc:h.get? sc = some (listO (intsV xs) se)) (bsc:219 ≤ sc)
    (K:∀ h' tk' k0 k1 k2 dr nu ns,Keeps h h' → h.objs.size + 9 ≤ h'.objs.size → h.objs.size + 9 ≤ nu → h'.get? h.objs.size = some (frO w [(n_script,k0,.ref sc),(n_drawn,k1,.ref dr),(n_numbers,k2,.ref nu)] 3) → At h' (cellsN h.objs.size) →
      h'.get? nu = some (listO (intsV ns) 0) → ns.map (·.1) = numsN (xs.map (·.1)) → Mn prog w A R (lawC w h.objs.size) .base (lawT w 2 h.objs.size) ⟨h',g,d,tk',os⟩) :
    codeAny (model prog w) A (.call (.ref 218) ⟨[.ref sc],[]⟩) R ⟨h,g,d,T0,os⟩:=by
  refine Mn.enter hA ?_
  have OD:=start0 (w:=w) (b1:=b1) (b2:=b2) (ro:=[(sc,listO (intsV xs) se)]) (s:=⟨h,g,d,T0,os⟩) top (At.mem ⟨hsc,trivial⟩)
  have ge1:∀ {C:Cf} {j:Nat} {a:Addr},Ok C h [] → C.addr j = a → 219 ≤ a:=fun {C j a} O e=>by
    by_cases hp:j < C.p
    · rcases O.out _ (O.addr_mem hp) with x | x
      · exact (nomatch x)
      · rw [← e]; exact Nat.le_trans gN x
    · rw [← e,Cf.addr_hi (by lia)]
      exact Nat.le_trans gN (Nat.le_trans O.mono (Nat.le_add_right _ _))
  refine go F 27 10 2 [218,217,1000,1000,2,1000,2000,2000,2000] (i:=0) OD hA hh fun h1=>?_
  intro o_h1 OD
  have zh1:h1.objs.size = h.objs.size + 10:=OD.2.size
  refine Mn.st (.call (.builtin "list.__getitem__") ⟨[.ref sc,.ref (h.objs.size + 9)],[]⟩) ?_
  refine c_slice (OD.2.still 0 rfl) (OD.2.ob 9 (o:=(slO .none (.int 5 (T0 + 1))))) .none (.int _ _) (by simp [intsV]; lia) fun ja ka za oa=>?_
  obtain ⟨ys,ey,my⟩:=ints_of (slice_ints_uptoW (ints_are xs) (y:=5) (by decide))
  rw [ey] at oa
  rw [show (5:Int).toNat = 5 from rfl] at my
  have ly:ys.length ≤ 5:=by have:=congrArg List.length my; simp at this; lia
  replace OD:=creG (mm:=11) (T0 + 2) [] [] [h1.objs.size] [listO (intsV ys) 0] OD trivial ka.but (by rw [za]; exact Nat.le_succ _) trivial trivial ⟨⟨Nat.le_refl _,by rw [za]; exact Nat.lt_succ_self _⟩,trivial⟩ ⟨trivial,trivial⟩ ⟨oa,trivial⟩ rfl (by kernel_rfl) rfl
  show Mn _ _ _ _ _ _ _ ⟨ja,g,d,(T0 + 2),os⟩
  refine go F 14 14 0 [1010,1010,7000,1010,1011] (i:=0) OD hA hh fun h2=>?_
  intro o_h2 OD
  refine Mn.st (.compStart (drE w) 0 (.ref (ja.objs.size + 0)) (.ref (ja.objs.size + 1)) (lawEnvC w (drE w) [] (ja.objs.size + 2) h.objs.size)) ?_
  refine ints_comp (l:=h1.objs.size) (le:=0) (ep:=0) (xs:=ys) (turn_drawn F) (dk hA) (aH hh) OD.2.tp ⟨ge1 OD.1 (j:=11) (by kernel_rfl),ge1 OD.1 (j:=12) (by kernel_rfl),ge1 OD.1 (j:=13) (by kernel_rfl)⟩ ⟨ne_addr OD.1 11 12 (by kernel_rfl) (by kernel_rfl) (by decide),ne_addr OD.1 11 13 (by kernel_rfl) (by kernel_rfl) (by decide),ne_addr OD.1 12 13 (by kernel_rfl) (by kernel_rfl) (by decide)⟩ ⟨ne_addr OD.1 10 11 (by kernel_rfl) (by kernel_rfl) (by decide),ne_addr OD.1 10 12 (by kernel_rfl) (by kernel_rfl) (by decide),ne_addr OD.1 10 13 (by kernel_rfl) (by kernel_rfl) (by decide),trivial⟩ (by lia) (OD.2.ob 10) (OD.2.ob 11) (OD.2.ob 12) (OD.2.ob 13) fun jb kb ds de lo oi k2 s2 hoi hac hds hlo okl=>?_
  have ld:ds.length = ys.length:=by have:=congrArg List.length hds; simpa using this
  obtain ⟨tg,kc,vc,rfl⟩:=L1ok.form (okl.elim (fun z=>.inl z.2) .inr:L1ok w n_cell lo)
  cases tg
  · replace OD:=creL kb [(11,(ja.objs.size + 0),oi),(12,(ja.objs.size + 1),listO (intsV ds) de),(13,(ja.objs.size + 2),locO w [] 0)] [] OD ⟨(by kernel_rfl),hoi,(by kernel_rfl),hac,(by kernel_rfl),hlo,trivial⟩ k2 s2 trivial
    show Mn _ _ _ _ _ _ _ ⟨jb,g,d,kb,os⟩
    refine go F 25 15 6 [1000,1000,1013,1000,3,0,1000] (i:=0) OD hA hh fun h3=>?_
    intro o_h3 OD
    refine Mn.stopV (.builtin "len") [.ref (ja.objs.size + 1)] (by kernel_rfl) ?_
    refine v_len (xs:=ds) (e:=de) (OD.2.ob 12) (by lia) ?_
    show Mn _ _ _ _ _ _ _ ⟨h3,g,d,kb + 8,os⟩
    refine go F 6 16 8 [1014,1014,1014] (i:=8) OD hA hh fun h4=>?_
    intro o_h4 OD
    refine Mn.st (.call (.builtin "list.__getitem__") ⟨[.ref (jb.objs.size + 0),.ref (jb.objs.size + 1)],[]⟩) ?_
    refine c_slice (OD.2.ob 14 (o:=(listO (intsV [(6719,(kb + 1)),(0,(kb + 2)),(37,(kb + 3)),(250,(kb + 4)),(588,(kb + 5))]) 0))) (OD.2.ob 15 (o:=(slO (.int (ds.length:Int) (kb + 6 + 1)) .none))) (.int _ _) .none (by simp [intsV]) fun jc kc' zc oc=>?_
    obtain ⟨fs,ef,mf⟩:=ints_of (slice_ints_fromW (ints_are [(6719,(kb + 1)),(0,(kb + 2)),(37,(kb + 3)),(250,(kb + 4)),(588,(kb + 5))]) (x:=(ds.length:Int)) (by lia))
    rw [ef] at oc
    have lf:fs.length ≤ 5:=by have:=congrArg List.length mf; simp at this; lia
    replace OD:=creG (mm:=17) (kb + 8) [] [] [h4.objs.size] [listO (intsV fs) 0] OD trivial kc'.but (by rw [zc]; exact Nat.le_succ _) trivial trivial ⟨⟨Nat.le_refl _,by rw [zc]; exact Nat.lt_succ_self _⟩,trivial⟩ ⟨trivial,trivial⟩ ⟨oc,trivial⟩ rfl (by kernel_rfl) rfl
    show Mn _ _ _ _ _ _ _ ⟨jc,g,d,(kb + 8),os⟩
    refine go F 8 17 0 [1012,1016,1012] (i:=0) OD hA hh fun h5=>?_
    intro o_h5 OD
    have s17:h.objs.size + 9 ≤ h5.objs.size:=Nat.le_of_lt (Heap.lt_size (OD.2.ob 9 (o:=(slO .none (.int 5 (T0 + 1))))))
    refine Mn.st (.call (.builtin "list.__add__") ⟨[.ref (ja.objs.size + 1),.ref h4.objs.size],[]⟩) ?_
    refine c_list_add (OD.2.ob 12 (o:=(listO (intsV ds) de))) (OD.2.ob 16 (o:=(listO (intsV fs) 0))) (by simp [intsV]; lia) fun jd kd zd od=>?_
    rw [intsV_app] at od
    replace OD:=creG (mm:=18) ((kb + 8) + 0) [] [] [h5.objs.size] [listO (intsV (ds ++ fs)) 0] OD trivial kd.but (by rw [zd]; exact Nat.le_succ _) trivial trivial ⟨⟨Nat.le_refl _,by rw [zd]; exact Nat.lt_succ_self _⟩,trivial⟩ ⟨trivial,trivial⟩ ⟨od,trivial⟩ rfl (by kernel_rfl) rfl
    show Mn _ _ _ _ _ _ _ ⟨jd,g,d,((kb + 8) + 0),os⟩
    refine go F 8 18 1 [1000,1000] (i:=0) OD hA hh fun h6=>?_
    intro o_h6 OD
    refine Mn.cast (c':=lawC w h.objs.size) (κ':=.base) (t':=lawT w 2 h.objs.size) (by kernel_rfl) (by kernel_rfl) (by kernel_rfl) ?_
    have e5:(ds ++ fs).map (·.1) = numsN (xs.map (·.1)):=by
      rw [List.map_append,hds,mf,show (fun q:Int × Nat=>q.1.fmod 1000000) = (fun x:Int=>x.fmod 1000000) ∘ (fun q:Int × Nat=>q.1) from rfl,← List.map_map,my]
      unfold numsN fixN
      have e6:ds.length = (List.take 5 (xs.map (·.1))).length:=by rw [ld,← my,List.length_map]
      rw [e6]; rfl
    have s9:h.objs.size + 9 ≤ h6.objs.size:=Nat.le_of_lt (Heap.lt_size (OD.2.ob 9 (o:=(slO .none (.int 5 (T0 + 1))))))
    exact K _ _ (T0 + 0) (kb + 0) (((kb + 8) + 0) + 0) (ja.objs.size + 1) h5.objs.size (ds ++ fs) OD.2.kept0 s9 s17 (OD.2.ob 0) ⟨(OD.2.ob 1),(OD.2.ob 2),(OD.2.ob 3),(OD.2.ob 4),(OD.2.ob 5),(OD.2.ob 6),(OD.2.ob 7),(OD.2.ob 8),trivial⟩ (OD.2.ob 17) e5
  · replace OD:=creL kb [(11,(ja.objs.size + 0),oi),(12,(ja.objs.size + 1),listO (intsV ds) de),(13,(ja.objs.size + 2),locO w [(n_cell,kc,vc)] 1)] [] OD ⟨(by kernel_rfl),hoi,(by kernel_rfl),hac,(by kernel_rfl),hlo,trivial⟩ k2 s2 trivial
    show Mn _ _ _ _ _ _ _ ⟨jb,g,d,kb,os⟩
    refine go F 29 15 6 [1000,1000,1013,1013,1013,1000,3,0,1000] (i:=0) OD hA hh fun h3=>?_
    intro o_h3 OD
    refine Mn.stopV (.builtin "len") [.ref (ja.objs.size + 1)] (by kernel_rfl) ?_
    refine v_len (xs:=ds) (e:=de) (OD.2.ob 12) (by lia) ?_
    show Mn _ _ _ _ _ _ _ ⟨h3,g,d,kb + 8,os⟩
    refine go F 6 16 8 [1014,1014,1014] (i:=8) OD hA hh fun h4=>?_
    intro o_h4 OD
    refine Mn.st (.call (.builtin "list.__getitem__") ⟨[.ref (jb.objs.size + 0),.ref (jb.objs.size + 1)],[]⟩) ?_
    refine c_slice (OD.2.ob 14 (o:=(listO (intsV [(6719,(kb + 1)),(0,(kb + 2)),(37,(kb + 3)),(250,(kb + 4)),(588,(kb + 5))]) 0))) (OD.2.ob 15 (o:=(slO (.int (ds.length:Int) (kb + 6 + 1)) .none))) (.int _ _) .none (by simp [intsV]) fun jc kc' zc oc=>?_
    obtain ⟨fs,ef,mf⟩:=ints_of (slice_ints_fromW (ints_are [(6719,(kb + 1)),(0,(kb + 2)),(37,(kb + 3)),(250,(kb + 4)),(588,(kb + 5))]) (x:=(ds.length:Int)) (by lia))
    rw [ef] at oc
    have lf:fs.length ≤ 5:=by have:=congrArg List.length mf; simp at this; lia
    replace OD:=creG (mm:=17) (kb + 8) [] [] [h4.objs.size] [listO (intsV fs) 0] OD trivial kc'.but (by rw [zc]; exact Nat.le_succ _) trivial trivial ⟨⟨Nat.le_refl _,by rw [zc]; exact Nat.lt_succ_self _⟩,trivial⟩ ⟨trivial,trivial⟩ ⟨oc,trivial⟩ rfl (by kernel_rfl) rfl
    show Mn _ _ _ _ _ _ _ ⟨jc,g,d,(kb + 8),os⟩
    refine go F 8 17 0 [1012,1016,1012] (i:=0) OD hA hh fun h5=>?_
    intro o_h5 OD
    have s17:h.objs.size + 9 ≤ h5.objs.size:=Nat.le_of_lt (Heap.lt_size (OD.2.ob 9 (o:=(slO .none (.int 5 (T0 + 1))))))
    refine Mn.st (.call (.builtin "list.__add__") ⟨[.ref (ja.objs.size + 1),.ref h4.objs.size],[]⟩) ?_
    refine c_list_add (OD.2.ob 12 (o:=(listO (intsV ds) de))) (OD.2.ob 16 (o:=(listO (intsV fs) 0))) (by simp [intsV]; lia) fun jd kd zd od=>?_
    rw [intsV_app] at od
    replace OD:=creG (mm:=18) ((kb + 8) + 0) [] [] [h5.objs.size] [listO (intsV (ds ++ fs)) 0] OD trivial kd.but (by rw [zd]; exact Nat.le_succ _) trivial trivial ⟨⟨Nat.le_refl _,by rw [zd]; exact Nat.lt_succ_self _⟩,trivial⟩ ⟨trivial,trivial⟩ ⟨od,trivial⟩ rfl (by kernel_rfl) rfl
    show Mn _ _ _ _ _ _ _ ⟨jd,g,d,((kb + 8) + 0),os⟩
    refine go F 8 18 1 [1000,1000] (i:=0) OD hA hh fun h6=>?_
    intro o_h6 OD
    refine Mn.cast (c':=lawC w h.objs.size) (κ':=.base) (t':=lawT w 2 h.objs.size) (by kernel_rfl) (by kernel_rfl) (by kernel_rfl) ?_
    have e5:(ds ++ fs).map (·.1) = numsN (xs.map (·.1)):=by
      rw [List.map_append,hds,mf,show (fun q:Int × Nat=>q.1.fmod 1000000) = (fun x:Int=>x.fmod 1000000) ∘ (fun q:Int × Nat=>q.1) from rfl,← List.map_map,my]
      unfold numsN fixN
      have e6:ds.length = (List.take 5 (xs.map (·.1))).length:=by rw [ld,← my,List.length_map]
      rw [e6]; rfl
    have s9:h.objs.size + 9 ≤ h6.objs.size:=Nat.le_of_lt (Heap.lt_size (OD.2.ob 9 (o:=(slO .none (.int 5 (T0 + 1))))))
    exact K _ _ (T0 + 0) (kb + 0) (((kb + 8) + 0) + 0) (ja.objs.size + 1) h5.objs.size (ds ++ fs) OD.2.kept0 s9 s17 (OD.2.ob 0) ⟨(OD.2.ob 1),(OD.2.ob 2),(OD.2.ob 3),(OD.2.ob 4),(OD.2.ob 5),(OD.2.ob 6),(OD.2.ob 7),(OD.2.ob 8),trivial⟩ (OD.2.ob 17) e5
end
end Mine
namespace Mine
open PySem PySem.W PySem.W.X PyProof.Rows
section
variable {w:World} {b1 b2:Bool} {A:Around} {R:Result → Shared → Prop} {h:Heap} {g:Array GenState} {d:Drawn} {T0:Nat} {os:OsState} {n0 n1 n2 n3 n4:Int} {t0 t1 t2 t3 t4:Nat} {N nu sc dr:Nat} {k0 k1 k2:Nat}
theorem law_p2 (F:Follows w b1 b2) (hA:Lo A 50) (hh:A.handled = none) (top:TopOk w h) (gN:219 ≤ N) (hN:h.get? N = some (frO w [(n_script,k0,.ref sc),(n_drawn,k1,.ref dr),(n_numbers,k2,.ref nu)] 3)) (hN1:h.get? (N + 1) = some (cellO none))
    (hnu:h.get? nu = some (listO (intsV [(n0,t0),(n1,t1),(n2,t2),(n3,t3),(n4,t4)]) 0)) (nn:NotIn nu [N,N + 1])
    (K:∀ h' tk' k3 u3 tb,KeepsBut [N,N + 1] h h' → h.objs.size ≤ h'.objs.size → h'.get? N = some (frO w [(n_script,k0,.ref sc),(n_drawn,k1,.ref dr),(n_numbers,k2,.ref nu),(n_start,k3,.int (1 + n1.fmod 15) u3)] 4) →
      h'.get? (N + 1) = some (cellO (some (.bytes #[((n0.fdiv 256).fmod 256).toNat.toUInt8,(n0.fmod 256).toNat.toUInt8] tb))) → Mn prog w A R (lawC w N) .base (lawT w 4 N) ⟨h',g,d,tk',os⟩) :
    Mn prog w A R (lawC w N) .base (lawT w 2 N) ⟨h,g,d,T0,os⟩:=by
  have OD:=startA (b1:=b1) (b2:=b2) (T0:=T0) [(nu,listO (intsV [(n0,t0),(n1,t1),(n2,t2),(n3,t3),(n4,t4)]) 0)] [N,N + 1] [frO w [(n_script,k0,.ref sc),(n_drawn,k1,.ref dr),(n_numbers,k2,.ref nu)] 3,cellO none] 2 rfl rfl (by kernel_rfl) top ⟨hnu,trivial⟩ ⟨hN,hN1,trivial⟩
    ⟨.inl gN,.inl (Nat.le_succ_of_le gN),trivial⟩ ⟨⟨Nat.ne_of_lt (Nat.lt_succ_self _),trivial⟩,trivial,trivial⟩ ⟨nn,trivial⟩
  refine go F 70 5 8 [3,0,1000,2000,2000,2000,2000,2000,1000,2000,2000,2000,2000,2000,1002,1002,1002,1002,1002,1002,1002,7000,1002,1003,1002,1002] (i:=0) OD hA hh fun h1=>?_
  intro o_h1 OD
  refine Mn.againK (c':=.builtin "bytes.__new__.loop" ⟨[.type "bytes",.ref (h.objs.size + 1),.ref (h.objs.size + 2)],[]⟩) (by kernel_rfl) (by kernel_rfl) (by kernel_rfl) ?_
  refine c_bytes_loop (l:=(h.objs.size + 0)) (e:=0) (all:=[((n0.fdiv 256).fmod 256,(T0 + 4)),(n0.fmod 256,(T0 + 7))]) (aH hh) (ne_addr OD.1 3 4 rfl rfl (by decide)) (ne_addr OD.1 2 3 rfl rfl (by decide)) (ne_addr OD.1 2 4 rfl rfl (by decide)) (by simp) (by simp only [List.map_cons,List.map_nil,List.forall_mem_cons,List.not_mem_nil,false_implies,implies_true,and_true]; exact ⟨⟨Int.fmod_nonneg_of_pos _ (by decide),Int.fmod_lt_of_pos _ (by decide)⟩,⟨Int.fmod_nonneg_of_pos _ (by decide),Int.fmod_lt_of_pos _ (by decide)⟩⟩) [((n0.fdiv 256).fmod 256,(T0 + 4)),(n0.fmod 256,(T0 + 7))] [] _ rfl (OD.2.ob 2) (OD.2.ob 3) (OD.2.ob 4) fun jz1 kz1 tz1 hz1 sz1 iz1 bz1=>?_
  replace OD:=creL kz1 [(3,(h.objs.size + 1),litE 2),(4,(h.objs.size + 2),barO (u8s (List.map (·.1) [((n0.fdiv 256).fmod 256,(T0 + 4)),(n0.fmod 256,(T0 + 7))])).toArray)] [] OD ⟨rfl,iz1,rfl,bz1,trivial⟩ hz1 sz1 trivial
  show Mn _ _ _ _ _ _ _ ⟨jz1,g,d,kz1,os⟩
  refine go F 42 5 6 [1001,1001,1000,2000,2000,2000,2000,2000,1000,1000] (i:=0) OD hA hh fun h2=>?_
  intro o_h2 OD
  refine Mn.cast (c':=lawC w N) (κ':=.base) (t':=lawT w 4 N) (by kernel_rfl) (by kernel_rfl) (by kernel_rfl) ?_
  exact K _ _ (kz1 + 5) (kz1 + 4) tz1 OD.2.kept (size_le OD.1 OD.2) (OD.2.ob 0) (OD.2.ob 1)
end
end Mine
namespace Mine
open PySem PySem.W PySem.W.X PyProof.Rows
open PySem.SeqAt (EqAt RcAt)
section
variable {w:World} {A:Around} {R:Result → Shared → Prop} {s:Shared} {E:Value → Shared → Prop}
theorem all_true {n:Nat}:(List.range n).all (fun _=>true) = true:=by simp
theorem eqs_of {vs ws:List Value} (he:∀ (j:Nat) (x y:Value),vs[j]? = some x → ws[j]? = some y → EqAt A.in1 s x y true):∀ j (h1:j < vs.toArray.size) (h2:j < ws.toArray.size),EqAt A.in1 s vs.toArray[j] ws.toArray[j] true:=fun j h1 h2=>by
  refine he j _ _ ?_ ?_
  · rw [List.getElem_toArray]; exact List.getElem?_eq_getElem (by simpa using h1)
  · rw [List.getElem_toArray]; exact List.getElem?_eq_getElem (by simpa using h2)
theorem isTup_of {h:Heap} {l:Addr} {vs:List Value} (ho:h.get? l = some (tupO vs)):h.IsTuple l vs.toArray:=⟨_,ho,rfl,0,rfl⟩
theorem ints_eqs {B:Around} {t:Shared} {xs ys:List (Int × Nat)} (h:xs.map (·.1) = ys.map (·.1)):∀ (j:Nat) (x y:Value),(intsV xs)[j]? = some x → (intsV ys)[j]? = some y → EqAt B t x y true:=fun j x y hx hy=>by
  have hj:=congrArg (fun l=>l[j]?) h
  simp only [List.getElem?_map] at hj
  unfold intsV at hx hy
  rw [List.getElem?_map] at hx hy
  cases ex:xs[j]? with
  | none=>rw [ex] at hx; cases hx
  | some p =>
    cases ey:ys[j]? with
    | none=>rw [ey] at hy; cases hy
    | some q =>
      rw [ex] at hx hj
      rw [ey] at hy hj
      cases hx
      cases hy
      have e:p.1 = q.1:=by simpa using hj
      have z:=EqAt.int_int (A:=B) (s:=t) p.1 p.2 q.1 q.2
      rw [e,beq_self_eq_true] at z
      show EqAt B t (.int p.1 p.2) (.int q.1 q.2) true
      rw [e]
      exact z
theorem v_sorted {Q:Value → Shared → Prop} {l:Addr} {xs:List (Int × Nat)} {e:Nat} (hl:s.heap.get? l = some (listO (intsV xs) e)) (h64:xs.length < 64)
    (h:∀ h' out ep,Keeps s.heap h' → s.heap.objs.size + 2 ≤ h'.objs.size → h'.get? (s.heap.objs.size + 1) = some (listO (intsV out) ep) → (out.map (·.1)).Perm (xs.map (·.1)) → (out.map (·.1)).Pairwise (· ≤ ·) → Q (.ref (s.heap.objs.size + 1)) ⟨h',s.gens,s.drawn,s.toks,s.os⟩) :
    wpAny (model prog w) A (call (.builtin "sorted") [.ref l]) Q E s:=by
  refine sorted_ints (isList_of hl) (ints_are xs) (by simpa [intsV] using h64) fun out ns' h1 h2 h3=>?_
  obtain ⟨ys,e1,e2⟩:=ints_of h1
  obtain ⟨ep,hat⟩:=sortedAll_at s.heap (intsV xs) out
  have hat':(sortedAll s.heap (intsV xs) out).get? (s.heap.objs.size + 1) = some (listO (intsV ys) ep):=by
    rw [hat,← e1]; unfold listO seqObj; rw [Array.toArray_toList]
  refine h _ ys ep (fun b o eb=>sortedAll_old eb) (Heap.lt_size hat') hat' (by rw [e2]; exact h2) (by rw [e2]; exact h3)
end
end Mine
set_option genInjectivity false
set_option genSizeOf false
namespace Mine
open PySem PySem.W PySem.W.X PyProof.Rows
noncomputable def upTo15:List Int:=[1,2,3,4,5,6,7,8,9,10,11,12,13,14,15]
noncomputable def regOk (far c0 c1 c2 c3:Bool):Bool :=
  let P:=regV far 15 (c0,c1,c2,c3)
  !(c0 || c1 || c2 || c3) || (P.length == 15 && P.head? == some (wval c0 c1 c2 c3) && P.isPerm upTo15 && (P.drop 1).map (fun x=>x.fdiv 2) == (P.take 14).map (fun x=>x.fmod 8))
theorem regOk_all:∀ far c0 c1 c2 c3,regOk far c0 c1 c2 c3 = true:=by decide +kernel
structure RegP (P:List Int) (st:Int):Prop where
  len:P.length = 15
  hd:P.head? = some st
  perm:P.Perm upTo15
  half:(P.drop 1).map (fun x=>x.fdiv 2) = (P.take 14).map (fun x=>x.fmod 8)
theorem reg_p (far c0 c1 c2 c3:Bool) (h:(c0 || c1 || c2 || c3) = true):RegP (regV far 15 (c0,c1,c2,c3)) (wval c0 c1 c2 c3):=by
  have z:=regOk_all far c0 c1 c2 c3
  unfold regOk at z
  simp only [h,Bool.not_true,Bool.false_or,Bool.and_eq_true,beq_iff_eq] at z
  exact ⟨z.1.1.1,z.1.1.2,List.isPerm_iff.mp z.1.2,z.2⟩
theorem st_fin:∀ k:Fin 16,1 ≤ ((k:Nat):Int) → (((((k:Nat):Int).fdiv 8).fmod 2 = bitI (decide ((((k:Nat):Int).fdiv 8).fmod 2 = 1)) ∧ (((k:Nat):Int).fdiv 4).fmod 2 = bitI (decide ((((k:Nat):Int).fdiv 4).fmod 2 = 1)) ∧ (((k:Nat):Int).fdiv 2).fmod 2 = bitI (decide ((((k:Nat):Int).fdiv 2).fmod 2 = 1)) ∧ (((k:Nat):Int).fdiv 1).fmod 2 = bitI (decide ((((k:Nat):Int).fdiv 1).fmod 2 = 1))) ∧
    wval (decide ((((k:Nat):Int).fdiv 8).fmod 2 = 1)) (decide ((((k:Nat):Int).fdiv 4).fmod 2 = 1)) (decide ((((k:Nat):Int).fdiv 2).fmod 2 = 1)) (decide ((((k:Nat):Int).fdiv 1).fmod 2 = 1)) = ((k:Nat):Int) ∧
    (decide ((((k:Nat):Int).fdiv 8).fmod 2 = 1) || decide ((((k:Nat):Int).fdiv 4).fmod 2 = 1) || decide ((((k:Nat):Int).fdiv 2).fmod 2 = 1) || decide ((((k:Nat):Int).fdiv 1).fmod 2 = 1)) = true):=by decide +kernel
theorem st_bits {st:Int} (h1:1 ≤ st) (h2:st ≤ 15):∃ c0 c1 c2 c3,(st.fdiv 8).fmod 2 = bitI c0 ∧ (st.fdiv 4).fmod 2 = bitI c1 ∧ (st.fdiv 2).fmod 2 = bitI c2 ∧ (st.fdiv 1).fmod 2 = bitI c3 ∧ wval c0 c1 c2 c3 = st ∧ (c0 || c1 || c2 || c3) = true:=by
  obtain ⟨k,rfl⟩:=int_fin (n:=16) (Int.le_trans (by decide) h1) (Int.lt_of_le_of_lt h2 (by decide))
  have z:=st_fin k h1
  exact ⟨_,_,_,_,z.1.1,z.1.2.1,z.1.2.2.1,z.1.2.2.2,z.2.1,z.2.2⟩
theorem RegP.rng {P:List Int} {st:Int} (R:RegP P st):∀ x ∈ P,1 ≤ x ∧ x ≤ 15:=fun x hx=>by
  have:=R.perm.mem_iff.mp hx
  have h:∀ y ∈ upTo15,1 ≤ y ∧ y ≤ 15:=by decide
  exact h x this
theorem RegP.nd {P:List Int} {st:Int} (R:RegP P st):P.Nodup:=R.perm.nodup_iff.mpr (by decide)
theorem sorted_eq:∀ {l m:List Int},l.Perm m → l.Pairwise (· ≤ ·) → m.Pairwise (· ≤ ·) → l = m
  | [],m,h,_,_=>(List.nil_perm.mp h).symm
  | a :: l,[],h,_,_=>absurd h (by intro h; simp at h)
  | a :: l,b :: m,h,h1,h2=>by
    have e:a = b:=by
      have ha:a ∈ b :: m:=h.mem_iff.mp (.head _)
      have hb:b ∈ a :: l:=h.mem_iff.mpr (.head _)
      have x1:b ≤ a:=by
        rcases List.mem_cons.mp ha with q | q
        · lia
        · exact (List.pairwise_cons.mp h2).1 a q
      have x2:a ≤ b:=by
        rcases List.mem_cons.mp hb with q | q
        · lia
        · exact (List.pairwise_cons.mp h1).1 b q
      lia
    subst e
    rw [sorted_eq (List.perm_cons a |>.mp h) (List.pairwise_cons.mp h1).2 (List.pairwise_cons.mp h2).2]
theorem up_sorted:upTo15.Pairwise (· ≤ ·):=by decide
theorem bit_of (x:Int):∃ far,(x.fmod 2) * 2 = tapI far:=by
  have h0:=Int.fmod_nonneg_of_pos x (show (0:Int) < 2 by decide)
  have h1:=Int.fmod_lt_of_pos x (show (0:Int) < 2 by decide)
  have:x.fmod 2 = 0 ∨ x.fmod 2 = 1:=by lia
  rcases this with e | e
  · exact ⟨false,by rw [e]; rfl⟩
  · exact ⟨true,by rw [e]; rfl⟩
end Mine
namespace Mine
open PySem PySem.W PySem.W.X PyProof.Rows
section
variable {w:World} {b1 b2:Bool} {A:Around} {R:Result → Shared → Prop} {h:Heap} {g:Array GenState} {d:Drawn} {T0:Nat} {os:OsState} {st tp:Int} {ts tt:Nat} {far c0 c1 c2 c3:Bool}
theorem reg_as (htp:tp = tapI far) (F:Follows w b1 b2) (hA:Lo A 100) (hh:A.handled = none) (top:TopOk w h) (hN:219 ≤ h.objs.size) (ht9:h.get? 169 = some (tabO [])) (ht6:h.get? 176 = some (tabO []))
    (e0:(st.fdiv 8).fmod 2 = bitI c0) (e1:(st.fdiv 4).fmod 2 = bitI c1) (e2:(st.fdiv 2).fmod 2 = bitI c2) (e3:(st.fdiv 1).fmod 2 = bitI c3)
    (K:∀ h' tk' W ps pe c9,KeepsBut [169,176] h h' → h.objs.size ≤ W → h.objs.size ≤ h'.objs.size → h'.get? W = some (listO (intsV ps) pe) → ps.map (·.1) = regV far 15 (c0,c1,c2,c3) → h'.get? 169 = some (tabO (trip 156 4 c9)) → IsCode h' q_piece c9 → 219 ≤ c9 → (∃ l,h'.get? 176 = some (tabO l)) → R (.ok (.ret (.ref W))) ⟨h',g,d,tk',os⟩) :
    codeAny (model prog w) A (.call (.ref 179) ⟨[.int st ts,.int tp tt],[]⟩) R ⟨h,g,d,T0,os⟩:=by
  subst htp
  exact reg_call F hA hh top hN ht9 ht6 e0 e1 e2 e3 K
end
section
variable {w:World} {A:Around} {R:Result → Shared → Prop} {s:Shared}
theorem c_mul2 {x:Int} {t u:Nat} (h:R (.ok (.ret (.int (x.fmod 2 * 2) s.toks))) { s with toks:=s.toks + 1 }):codeAny (model prog w) A (.call (.builtin "int.__mul__") ⟨[.int (x.fmod 2) t,.int 2 u],[]⟩) R s:=by
  have h0:=Int.fmod_nonneg_of_pos x (show (0:Int) < 2 by decide)
  have h1:=Int.fmod_lt_of_pos x (show (0:Int) < 2 by decide)
  have e:x.fmod 2 = 0 ∨ x.fmod 2 = 1:=by lia
  have hm:IntMulOk (x.fmod 2) 2:=by
    generalize x.fmod 2 = y at e
    rcases e with rfl | rfl <;> exact .of_left (by decide)
  exact code_gives F.slot_int_mul rfl F.entry_int_mul (F.args_int_mul_2 _ _) (gives_int_mul _ _ _ _ hm) h
end
theorem depth_ar10 {d e n:Nat} (a:d ≤ 280 + n / 2) (h:e < 6):d + e ≤ 280 + (n + 10) / 2:=by lia
theorem units_ar10 {u v n:Nat} (a:u ≤ 6 * n) (h:v < 60):u + v ≤ 6 * (n + 10):=by lia
theorem depth_ok10 {A:Around} {n:Nat} (hA:Lo A n) {κ:Kn} (e:(Nat.blt (depB κ) 6 && Nat.blt (unB κ) 60) = true):Lo (arA A κ) (n + 10):=by
  obtain ⟨e1,e2⟩:=Bool.and_eq_true_iff.mp e
  have h:depB κ < 6:=Nat.le_of_ble_eq_true e1
  have h2:unB κ < 60:=Nat.le_of_ble_eq_true e2
  exact ⟨Nat.le_trans (arA_depth A κ (Nat.lt_trans h (by decide))) (depth_ar10 hA.1 h),Nat.le_trans (arA_units A κ (Nat.lt_trans h2 (by decide))) (units_ar10 hA.2 h2)⟩
theorem dk10 {A:Around} {n m:Nat} (hA:Lo A n) {κ:Kn} (e:(Nat.blt (depB κ) 6 && Nat.blt (unB κ) 60) = true:=by kernel_rfl) (h:n + 10 ≤ m:=by decide):Lo (arA A κ) m:=(depth_ok10 hA e).mono h
theorem ge_hi {C:Cf} {hb:Heap} {mu:List Addr} (O:Ok C hb mu) (h219:219 ≤ hb.objs.size) (hmu:∀ a ∈ mu,219 ≤ a) (j:Nat) {a:Addr} (e:C.addr j = a):219 ≤ a:=by
  by_cases hp:j < C.p
  · rcases O.out _ (O.addr_mem hp) with x | x
    · rw [← e]; exact hmu _ x
    · rw [← e]; exact Nat.le_trans h219 x
  · rw [← e,Cf.addr_hi (by lia)]
    exact Nat.le_trans h219 (Nat.le_trans O.mono (Nat.le_add_right _ _))
end Mine
namespace Mine
open PySem PySem.W PySem.W.X PyProof.Rows
noncomputable def evT (e:Expr) (env:Env):Sem Fin:=R.bindR (Fast.tw14044960220447912780 e env) fun v=>.pure (.done (.ret v))
theorem evT_eq (e:Expr) (env:Env):evT e env = (eval e env).bind fun v=>.pure (.done (.ret v)):=by
  unfold evT
  rw [← Fast.te14044960220447912780,← R.bindR_eq]
theorem lawT_eq (w:World) (k:Nat) (N:Addr):lawT w k N = ((execs ((stmtsOf (fdAt w 218)).drop k) (lawEnv w N)).onRaise (leaving (lawEnv w N))).bind (fun f=>match f with | .ret v=>.pure (.done (.ret v)) | _=>.pure (.done (.ret .none))):=by
  unfold lawT
  rw [← Fast.te12563942051412417395,← Fast.te9442747609961115081,← R.bindR_eq,← R.onRaiseR_eq] <;>
  exact congrArg (Sem.bind _) (funext fun f=>by cases f <;> rfl)
section
variable {w:World} {A:Around} {R:Result → Shared → Prop} {s:Shared} {c:Code}
theorem ev_own {Q:Value → Shared → Prop} {e:Expr} {env:Env} (h:Mn prog w A (retR Q) c .base (evT e env) s):wpOwn (model prog w) A c (eval e env) Q (fun _ _=>False) s:=fun Γ p hc hΓ=>by
  have z:=h.out Γ p hc hΓ
  rw [evT_eq] at z
  change Sem.wp _ Γ (eval e env >>= fun v=>Sem.pure (Fin.done (.ret v))) _ _ p s at z
  rw [Sem.wp_bind'] at z
  exact z
theorem cmp_test {Q:Bool → Shared → Prop} {l r:Expr} {op:CmpOp} {cp:Pos} {env:Env} {whole:Sem Value} {b:Bool} (hb:behindInMarks op r = false)
    (h:Mn prog w A (retR fun lv s₁=>Mn prog w A (retR fun rv s₂=>wpAny (model prog w) (A.under c) (compareOp op lv rv) (fun v s₃=>v = .bool b ∧ Q b s₃) (fun _ _=>False) s₂) c .base (evT r env) s₁) c .base (evT l env) s) :
    wpOwn (model prog w) A c (isTrue (.Compare l [op] [r] cp) env whole) Q (fun _ _=>False) s:=by
  have e1:isTrue (.Compare l [op] [r] cp) env whole = (eval l env >>= fun lv=>holding [lv] (eval r env) >>= fun rv=>standAt cp >>= fun _=>operate [lv,rv] (compareOp op lv rv) >>= fun c=>holding [c] (truthy c)):=by
    have hm:markedEach [op] [r] (evalEach [r] env) = [eval r env]:=by
      show [markedBehindIn op r (eval r env)] = _
      unfold markedBehindIn
      rw [hb]
    show (eval l env >>= fun lv=>testChain cp lv [op] (markedEach [op] [r] (evalEach [r] env))) = _
    rw [hm]
    rfl
  rw [e1]
  refine wpOwn_bind ?_
  intro Γ p hc hΓ
  refine Sem.wp_mono _ Γ _ (fun lv p₁ s₁ hl=>?_) (fun _ _ _ hx=>hx.elim) p s (ev_own h Γ p hc hΓ)
  intro Γ p hc hΓ
  rw [Sem.wp_bind',Sem.wp_holding]
  refine Sem.wp_mono _ Γ _ (fun rv p₂ s₂ hr=>?_) (fun _ _ _ hx=>hx.elim) p s₁ (ev_own hl Γ p hc hΓ)
  rw [Sem.wp_bind']
  show Sem.wp _ Γ (operate [lv,rv] (compareOp op lv rv) >>= _) _ _ _ s₂
  rw [Sem.wp_bind',Sem.wp_operate]
  refine Sem.wp_mono _ Γ _ (fun v p₃ s₃ hv=>?_) (fun _ _ _ hx=>hx.elim) _ s₂ (hr Γ _ (hc ▸ hΓ.in))
  obtain ⟨rfl,q⟩:=hv
  rw [Sem.wp_holding]
  exact q
theorem or_test {Q:Bool → Shared → Prop} {x y:Expr} {cp:Pos} {env:Env} {whole:Sem Value}
    (h:wpOwn (model prog w) A c (isTrue x env (eval x env)) (fun b s₁=>b = false ∧ wpOwn (model prog w) A c (isTrue y env (eval y env)) (fun b s₂=>b = false ∧ Q false s₂) (fun _ _=>False) s₁) (fun _ _=>False) s) :
    wpOwn (model prog w) A c (isTrue (.BoolOp .Or [x,y] cp) env whole) Q (fun _ _=>False) s:=by
  have e1:isTrue (.BoolOp .Or [x,y] cp) env whole = (isTrue x env (eval x env) >>= fun b=>match BoolOp.Or,b with
      | .And,false=>pure false
      | .Or,true=>pure true
      | _,_=>allTrue .Or [y] env):=rfl
  have e2:allTrue .Or [y] env = (isTrue y env (eval y env) >>= fun b=>match BoolOp.Or,b with
      | .And,false=>pure false
      | .Or,true=>pure true
      | _,_=>pure false):=rfl
  rw [e1]
  refine wpOwn_bind ?_
  intro Γ p hc hΓ
  refine Sem.wp_mono _ Γ _ (fun b p₁ s₁ hb=>?_) (fun _ _ _ hx=>hx.elim) p s (h Γ p hc hΓ)
  obtain ⟨rfl,hb⟩:=hb
  show wpOwn (model prog w) A c (allTrue .Or [y] env) Q _ s₁
  rw [e2]
  refine wpOwn_bind ?_
  intro Γ p hc hΓ
  refine Sem.wp_mono _ Γ _ (fun b p₂ s₂ hb=>?_) (fun _ _ _ hx=>hx.elim) p s₁ (hb Γ p hc hΓ)
  obtain ⟨rfl,hb⟩:=hb
  intro Γ p hc hΓ
  exact hb
theorem if_step {Q:Flow → Shared → Prop} {t:Expr} {body:List Stmt} {ps:Pos} {env:Env}
    (h:wpOwn (model prog w) A c (isTrue t env (eval t env)) (fun b s₁=>b = false ∧ Q .next s₁) (fun _ _=>False) s):wpOwn (model prog w) A c (exec (.If t body [] ps) env) Q (fun _ _=>False) s:=by
  have e1:exec (.If t body [] ps) env = (standAt ps >>= fun _=>isTrue t env (eval t env) >>= fun b=>if b = true then execs body env else execs [] env):=rfl
  rw [e1]
  intro Γ p hc hΓ
  rw [Sem.wp_bind']
  show Sem.wp _ Γ (isTrue t env (eval t env) >>= _) _ _ _ s
  rw [Sem.wp_bind']
  refine Sem.wp_mono _ Γ _ (fun b p₁ s₁ hb=>?_) (fun _ _ _ hx=>hx.elim) _ s (h Γ _ hc hΓ)
  obtain ⟨rfl,hb⟩:=hb
  exact hb
theorem law_step {N:Addr} {j:Nat} {st:Stmt} (hst:(stmtsOf (fdAt w 218)).drop j = st :: (stmtsOf (fdAt w 218)).drop (j + 1))
    (h:wpOwn (model prog w) A (lawC w N) (exec st (lawEnv w N)) (fun f s'=>f = .next ∧ Mn prog w A R (lawC w N) .base (lawT w (j + 1) N) s') (fun _ _=>False) s):Mn prog w A R (lawC w N) .base (lawT w j N) s:=by
  refine ⟨?_⟩
  intro Γ p hc hΓ
  rw [lawT_eq,hst]
  show Sem.wp _ Γ (((execs (st :: (stmtsOf (fdAt w 218)).drop (j + 1)) (lawEnv w N)).onRaise (leaving (lawEnv w N))) >>= _) _ _ p s
  rw [Sem.wp_bind',Sem.wp_onRaise]
  show Sem.wp _ Γ (exec st (lawEnv w N) >>= fun f=>match f with | .next=>execs ((stmtsOf (fdAt w 218)).drop (j + 1)) (lawEnv w N) | f=>pure f) _ _ p s
  rw [Sem.wp_bind']
  refine Sem.wp_mono _ Γ _ (fun f p₁ s₁ hf=>?_) (fun _ _ _ hx=>hx.elim) p s (h Γ p hc hΓ)
  obtain ⟨rfl,hm⟩:=hf
  have z:=hm.out Γ p₁ hc hΓ
  rw [lawT_eq] at z
  change Sem.wp _ Γ (((execs ((stmtsOf (fdAt w 218)).drop (j + 1)) (lawEnv w N)).onRaise (leaving (lawEnv w N))) >>= _) _ _ p₁ s₁ at z
  rw [Sem.wp_bind',Sem.wp_onRaise] at z
  exact z
end
end Mine
namespace Mine
open PySem PySem.W PySem.W.X PyProof.Rows
open PySem.SeqAt (EqAt RcAt RcNeAt)
noncomputable def RegV (P:List Int) (st:Int):Prop:=∃ far c0 c1 c2 c3,(c0 || c1 || c2 || c3) = true ∧ wval c0 c1 c2 c3 = st ∧ P = regV far 15 (c0,c1,c2,c3)
theorem RegV.reg {P:List Int} {st:Int} (h:RegV P st):RegP P st:=by
  obtain ⟨far,c0,c1,c2,c3,ec,ew,rfl⟩:=h
  have RP:=reg_p far c0 c1 c2 c3 ec
  rw [ew] at RP
  exact RP
noncomputable def bodyS:Stmt → List Stmt
  | .If _ b _ _=>b
  | _=>[]
noncomputable def posS:Stmt → Pos
  | .If _ _ _ p=>p
  | _=>default
noncomputable def testS:Stmt → Expr
  | .If e _ _ _=>e
  | .Return (some e) _=>e
  | _=>.Constant .none 0 default
noncomputable def orX:Expr → Expr
  | .BoolOp _ (x :: _) _=>x
  | e=>e
noncomputable def orY:Expr → Expr
  | .BoolOp _ (_ :: y :: _) _=>y
  | e=>e
noncomputable def posE:Expr → Pos
  | .BoolOp _ _ p=>p
  | .Compare _ _ _ p=>p
  | _=>default
noncomputable def cL:Expr → Expr
  | .Compare l _ _ _=>l
  | e=>e
noncomputable def cR:Expr → Expr
  | .Compare _ _ (r :: _) _=>r
  | e=>e
noncomputable def e5x (w:World):Expr:=orX (testS (stAt w 218 5))
noncomputable def e5y (w:World):Expr:=orY (testS (stAt w 218 5))
noncomputable def st5 (w:World):Stmt:=.If (.BoolOp .Or [.Compare (cL (e5x w)) [.NotEq] [cR (e5x w)] (posE (e5x w)),.Compare (cL (e5y w)) [.NotEq] [cR (e5y w)] (posE (e5y w))] (posE (testS (stAt w 218 5)))) (bodyS (stAt w 218 5)) [] (posS (stAt w 218 5))
noncomputable def e6 (w:World):Expr:=testS (stAt w 218 6)
noncomputable def st6 (w:World):Stmt:=.If (.Compare (cL (e6 w)) [.NotEq] [cR (e6 w)] (posE (e6 w))) (bodyS (stAt w 218 6)) [] (posS (stAt w 218 6))
noncomputable def e16 (w:World):Expr:=testS (stAt w 218 16)
noncomputable def st16 (w:World):Stmt:=.If (.Compare (cL (e16 w)) [.NotEq] [cR (e16 w)] (posE (e16 w))) (bodyS (stAt w 218 16)) [] (posS (stAt w 218 16))
theorem st5_at (w:World):(stmtsOf (fdAt w 218)).drop 5 = st5 w :: (stmtsOf (fdAt w 218)).drop 6:=by kernel_rfl
theorem st6_at (w:World):(stmtsOf (fdAt w 218)).drop 6 = st6 w :: (stmtsOf (fdAt w 218)).drop 7:=by kernel_rfl
theorem st16_at (w:World):(stmtsOf (fdAt w 218)).drop 16 = st16 w :: (stmtsOf (fdAt w 218)).drop 17:=by kernel_rfl
theorem own5x (w:World):behindInMarks .NotEq (cR (e5x w)) = false:=by kernel_rfl
theorem own5y (w:World):behindInMarks .NotEq (cR (e5y w)) = false:=by kernel_rfl
theorem own6 (w:World):behindInMarks .NotEq (cR (e6 w)) = false:=by kernel_rfl
theorem own16 (w:World):behindInMarks .NotEq (cR (e16 w)) = false:=by kernel_rfl
section
variable {w:World} {A:Around} {s:Shared} {E:Value → Shared → Prop} {N:Addr}
theorem under_units (hA:Lo A 600):(A.under (lawC w N)).units < cLine:=by
  have h:=hA.2
  show A.units + (lawC w N).cUnits < 9900
  have h2:(lawC w N).cUnits = 3:=by unfold lawC; rfl
  lia
theorem ne_ints_at {Q:Value → Shared → Prop} {x y:Int} {t u:Nat} (e:x = y) (h:Q (.bool false) s):wpAny (model prog w) A (compareOp .NotEq (.int x t) (.int y u)) Q E s:=by
  refine ne_int ?_
  rw [e,bne_self_eq_false]
  exact h
theorem ne_lists_at {Q:Value → Shared → Prop} {l m:Addr} {xs ys:List (Int × Nat)} {e f:Nat} (hl:s.heap.get? l = some (listO (intsV xs) e)) (hm:s.heap.get? m = some (listO (intsV ys) f)) (he:xs.map (·.1) = ys.map (·.1)) (hu:A.units < cLine)
    (h:Q (.bool false) s):wpAny (model prog w) A (compareOp .NotEq (.ref l) (.ref m)) Q E s:=by
  have hlen:(intsV xs).length = (intsV ys).length:=by
    have:=congrArg List.length he
    simpa [intsV] using this
  refine RcNeAt.lists (e:=fun _=>true) (isList_of hl) (isList_of hm) (by simpa using hlen) hu (eqs_of (ints_eqs he)) prog w E Q ?_
  rw [all_true]
  exact h
end
end Mine
namespace Mine
open PySem PySem.W PySem.W.X PyProof.Rows
section
variable {w:World} {V:LV} {b1 b2:Bool} {A:Around} {R:Result → Shared → Prop} {h:Heap} {g:Array GenState} {d:Drawn} {T0:Nat} {os:OsState} {n0 n1 n2 n3 n4:Int} {t0 t1 t2 t3 t4:Nat} {N nu sc dr:Nat} {k0 k1 k2 k3 u3:Nat}
theorem law_p3 (F:Follows w b1 b2) (hA:Lo A 50) (hh:A.handled = none) (top:TopOk w h) (gN:219 ≤ N) (sN:N + 9 ≤ h.objs.size) (hN:h.get? N = some (fr4 w V nu (1 + n1.fmod 15))) (hN2:h.get? (N + 2) = some (cellO none))
    (hnu:h.get? nu = some (listO (intsV [(n0,t0),(n1,t1),(n2,t2),(n3,t3),(n4,t4)]) 0)) (bnu:N + 9 ≤ nu) (h169:h.get? 169 = some (tabO [])) (h176:h.get? 176 = some (tabO []))
    (K:∀ h' tk' W ps pe c9,KeepsBut [169,176,N,N + 2] h h' → h.objs.size ≤ h'.objs.size → RegV ((ps:List (Int × Nat)).map (·.1)) (1 + n1.fmod 15) → h.objs.size ≤ W → h'.get? W = some (listO (intsV ps) pe) → h'.get? N = some (fr4 w V nu (1 + n1.fmod 15)) →
      h'.get? (N + 2) = some (cellO (some (.ref W))) → h'.get? 169 = some (tabO (trip 156 4 c9)) → IsCode h' q_piece c9 → 219 ≤ c9 → (∃ l,h'.get? 176 = some (tabO l)) → Mn prog w A R (lawC w N) .base (lawT w 5 N) ⟨h',g,d,tk',os⟩) :
    Mn prog w A R (lawC w N) .base (lawT w 4 N) ⟨h,g,d,T0,os⟩:=by
  have nnu:NotIn nu [N,N + 2]:=⟨(nlt (by lia:N < nu)).symm,(nlt (by lia:N + 2 < nu)).symm,trivial⟩
  have aNN:Apart [(N:Addr),N + 2]:=⟨⟨Nat.ne_of_lt (Nat.lt_add_of_pos_right (by decide)),trivial⟩,trivial,trivial⟩
  have fNN:FreeL [(N:Addr),N + 2]:=⟨.inl gN,.inl (Nat.le_add_right_of_le gN),trivial⟩
  have OD:=startA (b1:=b1) (b2:=b2) (T0:=T0) [(nu,listO (intsV [(n0,t0),(n1,t1),(n2,t2),(n3,t3),(n4,t4)]) 0)] [N,N + 2] [fr4 w V nu (1 + n1.fmod 15),cellO none] 2 rfl rfl (by kernel_rfl) top ⟨hnu,trivial⟩ ⟨hN,hN2,trivial⟩ fNN aNN ⟨nnu,trivial⟩
  obtain ⟨far,hfar⟩:=bit_of (n1.fdiv 15)
  have st1:1 ≤ 1 + n1.fmod 15:=by have:=Int.fmod_nonneg_of_pos n1 (show (0:Int) < 15 by decide); lia
  have st2:1 + n1.fmod 15 ≤ 15:=by have:=Int.fmod_lt_of_pos n1 (show (0:Int) < 15 by decide); lia
  obtain ⟨c0,c1,c2,c3,e0,e1,e2,e3,ew,ec⟩:=st_bits st1 st2
  refine go F 31 2 6 [3,1000,1000,2000,2000,2000,2000,2000] (i:=0) OD hA hh fun h1=>?_
  intro o_h1 OD
  refine Mn.st (.call (.builtin "int.__mul__") ⟨[.int ((n1.fdiv 15).fmod 2) (T0 + 4),.int 2 (T0 + 5)],[]⟩) ?_
  refine c_mul2 ?_
  show Mn _ _ _ _ _ _ _ ⟨h1,g,d,T0 + 7,os⟩
  refine go F 2 2 7 [179] (i:=7) OD hA hh fun h2=>?_
  intro o_h2 OD
  refine Mn.st (.call (.ref 179) ⟨[.int (1 + n1.fmod 15) V.u3,.int ((n1.fdiv 15).fmod 2 * 2) (T0 + 6)],[]⟩) ?_
  refine reg_as hfar F (dk10 hA) (aH hh) OD.2.tp (Nat.le_trans (Nat.le_add_right_of_le gN) (Nat.le_trans sN (size_le OD.1 OD.2))) (OD.2.kept _ _ h169 (NotIn.mem ⟨nlt (low_lt gN:169 < N),nlt (low_lt (Nat.le_add_right_of_le gN):169 < N + 2),trivial⟩)) (OD.2.kept _ _ h176 (NotIn.mem ⟨nlt (low_lt gN:176 < N),nlt (low_lt (Nat.le_add_right_of_le gN):176 < N + 2),trivial⟩)) e0 e1 e2 e3 fun j1 tk1 W ps pe c9 kj bW sj hW hps h9 hc9 g9 h6=>?_
  have ky:KeepsBut [169,176,N,N + 2] h j1:=(OD.2.kept.mono fun q hq=>.tail _ (.tail _ hq)).trans (kj.mono fun q hq=>List.mem_append_left [(N:Addr),N + 2] hq)
  have hsz:h.objs.size ≤ h2.objs.size:=size_le OD.1 OD.2
  have top1:TopOk w j1:=TopOk.keepsBut (h:=h2) OD.2.tp kj ⟨.inr (.inl rfl),.inr (.inr (.inl rfl)),trivial⟩
  have f1:j1.get? N = some (fr4 w V nu (1 + n1.fmod 15)):=kj _ _ (OD.2.ob 0) (NotIn.mem ⟨(nlt (low_lt gN:169 < N)).symm,(nlt (low_lt gN:176 < N)).symm,trivial⟩)
  have f2:j1.get? (N + 2) = some (cellO none):=kj _ _ (OD.2.ob 1) (NotIn.mem ⟨(nlt (low_lt (Nat.le_add_right_of_le gN):169 < N + 2)).symm,(nlt (low_lt (Nat.le_add_right_of_le gN):176 < N + 2)).symm,trivial⟩)
  have f3:j1.get? nu = some (listO (intsV [(n0,t0),(n1,t1),(n2,t2),(n3,t3),(n4,t4)]) 0):=kj _ _ (OD.2.still 0 rfl) (NotIn.mem ⟨(nlt (by lia:169 < nu)).symm,(nlt (by lia:176 < nu)).symm,trivial⟩)
  have RV:RegV (ps.map (·.1)) (1 + n1.fmod 15):=⟨far,c0,c1,c2,c3,ec,ew,hps⟩
  have bW':h.objs.size ≤ W:=Nat.le_trans hsz bW
  clear OD
  have OD:=startA (b1:=b1) (b2:=b2) (T0:=tk1) [(nu,listO (intsV [(n0,t0),(n1,t1),(n2,t2),(n3,t3),(n4,t4)]) 0)] [N,N + 2] [fr4 w V nu (1 + n1.fmod 15),cellO none] 2 rfl rfl (by kernel_rfl) top1 ⟨f3,trivial⟩ ⟨f1,f2,trivial⟩ fNN aNN ⟨nnu,trivial⟩
  show Mn _ _ _ _ _ _ _ ⟨j1,g,d,tk1,os⟩
  refine go F 6 2 0 [1001,1001] (i:=0) OD hA hh fun q1=>?_
  intro o_q1 OD
  refine Mn.cast (c':=lawC w N) (κ':=.base) (t':=lawT w 5 N) (by kernel_rfl) (by kernel_rfl) (by kernel_rfl) ?_
  have kf:KeepsBut [N,N + 2] j1 q1:=OD.2.kept
  have ok9:c9 ∉ [(N:Addr),N + 2]:=NotIn.mem ⟨ne_cls hc9.choose_spec.choose_spec.choose_spec f1 (ty_ne (by decide)),ne_cls hc9.choose_spec.choose_spec.choose_spec f2 (ty_ne (by decide)),trivial⟩
  have okW:W ∉ [(N:Addr),N + 2]:=NotIn.mem ⟨(nlt (Nat.lt_of_lt_of_le (by lia:N < h.objs.size) bW')).symm,(nlt (Nat.lt_of_lt_of_le (by lia:N + 2 < h.objs.size) bW')).symm,trivial⟩
  exact K _ _ W ps pe c9 (ky.trans (kf.mono fun q hq=>.tail _ (.tail _ hq))) (Nat.le_trans hsz (Nat.le_trans sj (size_le OD.1 OD.2))) RV bW' (kf _ _ hW okW) (OD.2.ob 0) (OD.2.ob 1) (kf _ _ h9 (NotIn.mem ⟨nlt (low_lt gN:169 < N),nlt (low_lt (Nat.le_add_right_of_le gN):169 < N + 2),trivial⟩)) (hc9.keep kf ok9) g9 (h6.imp fun l e=>kf _ _ e (NotIn.mem ⟨nlt (low_lt gN:176 < N),nlt (low_lt (Nat.le_add_right_of_le gN):176 < N + 2),trivial⟩))
end
end Mine
namespace Mine
open PySem PySem.W PySem.W.X PyProof.Rows
section
variable {w:World} {V:LV} {b1 b2:Bool} {A:Around} {R:Result → Shared → Prop} {h:Heap} {g:Array GenState} {d:Drawn} {T0:Nat} {os:OsState} {N W:Nat} {sc dr nu:Addr} {k0 k1 k2 k3 u3:Nat} {st:Int} {ps:List (Int × Nat)} {pe:Nat}
theorem law_s5 (F:Follows w b1 b2) (hA:Lo A 50) (hh:A.handled = none) (top:TopOk w h) (sN:219 ≤ h.objs.size) (hN:h.get? N = some (fr4 w V nu st)) (hN2:h.get? (N + 2) = some (cellO (some (.ref W)))) (hW:h.get? W = some (listO (intsV ps) pe)) (RP:RegP (ps.map (·.1)) st)
    (K:∀ h' tk',Keeps h h' → h.objs.size ≤ h'.objs.size → Mn prog w A R (lawC w N) .base (lawT w 6 N) ⟨h',g,d,tk',os⟩) :
    Mn prog w A R (lawC w N) .base (lawT w 5 N) ⟨h,g,d,T0,os⟩:=by
  have lW:ps.length = 15:=by have:=RP.len; simpa using this
  obtain ⟨P,rfl⟩:=l15_of lW
  have hp0:(P 0).1 = st:=Option.some.inj RP.hd
  have OD:=startA (b1:=b1) (b2:=b2) (T0:=T0) [(N,fr4 w V nu st),(N + 2,cellO (some (.ref W))),(W,listO (intsV (l15 P)) pe)] [] [] 0 rfl rfl (by kernel_rfl) top ⟨hN,hN2,hW,trivial⟩ trivial trivial trivial ⟨trivial,trivial,trivial,trivial⟩
  have gmu:∀ a ∈ ([]:List Addr),219 ≤ a:=fun a ha=>(nomatch ha)
  refine law_step (st5_at w) (if_step (or_test (cmp_test (b:=false) (own5x w) ?_)))
  refine go F 12 0 1 [2001,2002,2002,2002,2002,2002] (i:=0) OD hA hh fun h1=>?_
  intro o_h1 OD
  refine Mn.en (.ret (.int (P 0).1 (P 0).2)) ?_
  show Mn prog w A _ (lawC w N) .base (evT (cR (e5x w)) (lawEnv w N)) ⟨h1,g,d,T0 + 1,os⟩
  refine go F 2 0 1 [2000] (i:=1) OD hA hh fun h2=>?_
  intro o_h2 OD
  refine Mn.en (.ret (.int st V.u3)) ?_
  refine ne_ints_at hp0 ⟨rfl,rfl,cmp_test (b:=false) (own5y w) ?_⟩
  show Mn prog w A _ (lawC w N) .base (evT (cL (e5y w)) (lawEnv w N)) ⟨h2,g,d,T0 + 1,os⟩
  refine go F 6 0 1 [3,0,2001] (i:=1) OD hA hh fun h3=>?_
  intro o_h3 OD
  refine Mn.stopV (.builtin "sorted") [.ref W] (by kernel_rfl) ?_
  refine v_sorted (xs:=(l15 P)) (e:=pe) (OD.2.still 2 rfl) (by simp [l15]) fun js out ep ks zs os' hpm hpw=>?_
  replace OD:=creG (mm:=1) (T0 + 1) [] [] [(h3.objs.size + 1)] [listO (intsV out) ep] OD trivial ks.but (Nat.le_trans (Nat.le_add_right _ 2) zs) trivial trivial ⟨⟨Nat.le_add_right _ _,zs⟩,trivial⟩ ⟨trivial,trivial⟩ ⟨os',trivial⟩ rfl (by kernel_rfl) rfl
  show Mn _ _ _ _ _ _ _ ⟨js,g,d,(T0 + 1),os⟩
  have eS:out.map (·.1) = upTo15:=sorted_eq (hpm.trans RP.perm) hpw up_sorted
  refine go F 1 1 0 [] (i:=0) OD hA hh fun h4=>?_
  intro o_h4 OD
  refine Mn.en (.ret (.ref (h3.objs.size + 1))) ?_
  show Mn prog w A _ (lawC w N) .base (evT (cR (e5y w)) (lawEnv w N)) ⟨h4,g,d,(T0 + 1),os⟩
  refine go F 26 2 3 [3,0,3,0,1001,1001,1001,1001] (i:=0) OD hA hh fun h5=>?_
  intro o_h5 OD
  refine Mn.stopV (.type "list") [.ref (js.objs.size + 0)] (by kernel_rfl) ?_
  refine v_list_range (n:=15) (aH hh) (OD.2.ob 1 (o:=(rangeO 1 ((T0 + 1) + 0) 16 ((T0 + 1) + 1) 1 ((T0 + 1) + 2)))) (by kernel_rfl) (by kernel_rfl) (by lia) fun jr kr rs re kr1 zr hr ers=>?_
  have eR:rs.map (·.1) = upTo15:=ers.trans (by decide)
  replace OD:=creG (mm:=3) kr [] [] [h5.objs.size] [listO (intsV rs) re] OD trivial kr1.but (Nat.le_of_lt zr) trivial trivial ⟨⟨Nat.le_refl _,zr⟩,trivial⟩ ⟨trivial,trivial⟩ ⟨hr,trivial⟩ rfl (by kernel_rfl) rfl
  show Mn _ _ _ _ _ _ _ ⟨jr,g,d,kr,os⟩
  refine go F 1 3 0 [] (i:=0) OD hA hh fun h6=>?_
  intro o_h6 OD
  refine Mn.en (.ret (.ref h5.objs.size)) ?_
  refine ne_lists_at (OD.2.ob 0 (o:=(listO (intsV out) ep))) (OD.2.ob 2 (o:=(listO (intsV rs) re))) (eS.trans eR.symm) (under_units (hA.mono (by decide))) ⟨rfl,rfl,rfl,rfl,?_⟩
  exact K h6 _ (fun a o e=>OD.2.kept a o e (fun hm=>nomatch hm)) (size_le OD.1 OD.2)
end
end Mine
namespace Mine
open PySem PySem.W PySem.W.X PyProof.Rows
section
variable {w:World} {V:LV} {b1 b2:Bool} {A:Around} {R:Result → Shared → Prop} {h:Heap} {g:Array GenState} {d:Drawn} {T0:Nat} {os:OsState} {N W:Nat} {sc dr nu:Addr} {k0 k1 k2 k3 u3:Nat} {st:Int} {ps:List (Int × Nat)} {pe:Nat}
theorem law_s6 (F:Follows w b1 b2) (hA:Lo A 50) (hh:A.handled = none) (top:TopOk w h) (sN:219 ≤ h.objs.size) (hN:h.get? N = some (fr4 w V nu st)) (hN2:h.get? (N + 2) = some (cellO (some (.ref W)))) (hW:h.get? W = some (listO (intsV ps) pe)) (RP:RegP (ps.map (·.1)) st)
    (K:∀ h' tk',Keeps h h' → h.objs.size ≤ h'.objs.size → Mn prog w A R (lawC w N) .base (lawT w 7 N) ⟨h',g,d,tk',os⟩) :
    Mn prog w A R (lawC w N) .base (lawT w 6 N) ⟨h,g,d,T0,os⟩:=by
  have lW:ps.length = 15:=by have:=RP.len; simpa using this
  obtain ⟨P,rfl⟩:=l15_of lW
  have OD:=startA (b1:=b1) (b2:=b2) (T0:=T0) [(N,fr4 w V nu st),(N + 2,cellO (some (.ref W))),(W,listO (intsV (l15 P)) pe)] [] [] 0 rfl rfl (by kernel_rfl) top ⟨hN,hN2,hW,trivial⟩ trivial trivial trivial ⟨trivial,trivial,trivial,trivial⟩
  have gmu:∀ a ∈ ([]:List Addr),219 ≤ a:=fun a ha=>(nomatch ha)
  refine law_step (st6_at w) (if_step (cmp_test (b:=false) (own6 w) ?_))
  refine go F 32 5 1 [2001,2002,2002,2002,2002,1000,1000,1000,1000,1000,2002,1001,1001,7000,1001,1002] (i:=0) OD hA hh fun h1=>?_
  intro o_h1 OD
  refine Mn.st (.compStart (haE w) 0 (.ref (h.objs.size + 2)) (.ref (h.objs.size + 3)) (lawEnvC w (haE w) [] (h.objs.size + 4) N)) ?_
  refine ints_comp (l:=(h.objs.size + 1)) (le:=0) (ep:=0) (xs:=(l14 P)) (turn_half F) (dk10 hA) (aH hh) OD.2.tp ⟨ge_hi OD.1 sN gmu 2 (by kernel_rfl),ge_hi OD.1 sN gmu 3 (by kernel_rfl),ge_hi OD.1 sN gmu 4 (by kernel_rfl)⟩ ⟨ne_addr OD.1 2 3 (by kernel_rfl) (by kernel_rfl) (by decide),ne_addr OD.1 2 4 (by kernel_rfl) (by kernel_rfl) (by decide),ne_addr OD.1 3 4 (by kernel_rfl) (by kernel_rfl) (by decide)⟩ ⟨ne_addr OD.1 1 2 (by kernel_rfl) (by kernel_rfl) (by decide),ne_addr OD.1 1 3 (by kernel_rfl) (by kernel_rfl) (by decide),ne_addr OD.1 1 4 (by kernel_rfl) (by kernel_rfl) (by decide),trivial⟩ (by simp [l14,l14']) (OD.2.ob 1) (OD.2.ob 2) (OD.2.ob 3) (OD.2.ob 4) fun ja0 ka0 ys0 ye0 lo0 oi0 k20 s20 hoi0 hac0 hys0 hlo0 okl0=>?_
  obtain ⟨kc0,vc0,rfl⟩:∃ kc vc,lo0 = locO w [(n_power,kc,vc)] 1:=okl0.elim (fun z=>nomatch z.1) id
  replace OD:=creL ka0 [(2,(h.objs.size + 2),oi0),(3,(h.objs.size + 3),listO (intsV ys0) ye0),(4,(h.objs.size + 4),locO w [(n_power,kc0,vc0)] 1)] [] OD ⟨(by kernel_rfl),hoi0,(by kernel_rfl),hac0,(by kernel_rfl),hlo0,trivial⟩ k20 s20 trivial
  show Mn _ _ _ _ _ _ _ ⟨ja0,g,d,ka0,os⟩
  refine go F 5 5 0 [1004,1004,1004] (i:=0) OD hA hh fun h2=>?_
  intro o_h2 OD
  refine Mn.en (.ret (.ref (h.objs.size + 3))) ?_
  show Mn prog w A _ (lawC w N) .base (evT (cR (e6 w)) (lawEnv w N)) ⟨h2,g,d,ka0,os⟩
  refine go F 37 10 2 [2001,2002,2002,2002,2002,1005,1005,1005,1005,1005,2002,1006,1006,7000,1006,1007] (i:=0) OD hA hh fun h3=>?_
  intro o_h3 OD
  refine Mn.st (.compStart (moE w) 0 (.ref (ja0.objs.size + 2)) (.ref (ja0.objs.size + 3)) (lawEnvC w (moE w) [] (ja0.objs.size + 4) N)) ?_
  refine ints_comp (l:=(ja0.objs.size + 1)) (le:=0) (ep:=0) (xs:=(l14' P)) (turn_mod F) (dk10 hA) (aH hh) OD.2.tp ⟨ge_hi OD.1 sN gmu 7 (by kernel_rfl),ge_hi OD.1 sN gmu 8 (by kernel_rfl),ge_hi OD.1 sN gmu 9 (by kernel_rfl)⟩ ⟨ne_addr OD.1 7 8 (by kernel_rfl) (by kernel_rfl) (by decide),ne_addr OD.1 7 9 (by kernel_rfl) (by kernel_rfl) (by decide),ne_addr OD.1 8 9 (by kernel_rfl) (by kernel_rfl) (by decide)⟩ ⟨ne_addr OD.1 6 7 (by kernel_rfl) (by kernel_rfl) (by decide),ne_addr OD.1 6 8 (by kernel_rfl) (by kernel_rfl) (by decide),ne_addr OD.1 6 9 (by kernel_rfl) (by kernel_rfl) (by decide),trivial⟩ (by simp [l14,l14']) (OD.2.ob 6) (OD.2.ob 7) (OD.2.ob 8) (OD.2.ob 9) fun ja1 ka1 ys1 ye1 lo1 oi1 k21 s21 hoi1 hac1 hys1 hlo1 okl1=>?_
  obtain ⟨kc1,vc1,rfl⟩:∃ kc vc,lo1 = locO w [(n_power,kc,vc)] 1:=okl1.elim (fun z=>nomatch z.1) id
  replace OD:=creL ka1 [(7,(ja0.objs.size + 2),oi1),(8,(ja0.objs.size + 3),listO (intsV ys1) ye1),(9,(ja0.objs.size + 4),locO w [(n_power,kc1,vc1)] 1)] [] OD ⟨(by kernel_rfl),hoi1,(by kernel_rfl),hac1,(by kernel_rfl),hlo1,trivial⟩ k21 s21 trivial
  show Mn _ _ _ _ _ _ _ ⟨ja1,g,d,ka1,os⟩
  refine go F 5 10 0 [1009,1009,1009] (i:=0) OD hA hh fun h4=>?_
  intro o_h4 OD
  refine Mn.en (.ret (.ref (ja0.objs.size + 3))) ?_
  refine ne_lists_at (OD.2.ob 3 (o:=(listO (intsV ys0) ye0))) (OD.2.ob 8 (o:=(listO (intsV ys1) ye1))) ?_ (under_units (hA.mono (by decide))) ⟨rfl,rfl,rfl,?_⟩
  · rw [hys0,hys1]; exact RP.half
  exact K h4 _ (fun a o e=>OD.2.kept a o e (fun hm=>nomatch hm)) (size_le OD.1 OD.2)
end
end Mine
namespace Mine
open PySem PySem.W PySem.W.X PyProof.Rows
noncomputable def textFr (w:World) (q0 q1 q2:Nat) (ws:Addr) (n:Int) (tn:Nat) (x:Str) (tx:Nat) (o:Option (Nat × Value × Nat × Value × Nat × Value)):Obj :=
  frO w ([(n_words,q0,.ref ws),(n_number,q1,.int n tn),(n_text,q2,.str x tx)] ++ (match o with | none=>[] | some z=>[(n_k,z.1,z.2.1),(n_word,z.2.2.1,z.2.2.2.1),(n_manner,z.2.2.2.2.1,z.2.2.2.2.2)])) (match o with | none=>3 | some _=>6)
noncomputable def enumO (li:Addr) (k:Int) (v:Value):Obj:={ cls:=.type "enumerate",data:=.fields #[.none,.bool false,.ref li,.int k 0,.none,v] }
noncomputable def textFor (w:World) (L E:Addr):Code:=.forLoop (forTgt (stAt w 201 1)) (.ref E) (forBody (stAt w 201 1)) [] (envAt w 201 ⟨#[95,108,97,119,95,116,101,120,116,46,60,108,111,99,97,108,115,62,46]⟩ L [])
noncomputable def sgV (q:Nat × Nat × Nat):Value:=.str (S1 q.1 ++ S1 q.2.1) q.2.2
theorem hex_128:∀ c ∈ hexs,c < 128:=by decide
theorem all_128 {a b:Nat} (ha:a ∈ hexs) (hb:b ∈ hexs):(S1 a ++ S1 b).cps.all (· < 128) = true:=by
  have h1:=hex_128 a ha
  have h2:=hex_128 b hb
  show (#[a] ++ #[b]).all (fun x=>decide (x < 128)) = true
  simp [h1,h2]
theorem tgt201 (w:World):∃ el x1 ps,forTgt (stAt w 201 1) = .Tuple el x1 ps:=⟨match forTgt (stAt w 201 1) with | .Tuple e _ _=>e | _=>[],match forTgt (stAt w 201 1) with | .Tuple _ x _=>x | _=>default,match forTgt (stAt w 201 1) with | .Tuple _ _ p=>p | _=>default,by kernel_rfl⟩
theorem own_enum {w:World} {A:Around} {E':Value → Shared → Prop} {s:Shared} {tgt:Expr} {e it a:Addr} {i:Int} {item:Value} {Q:Unit → Shared → Prop} (ht:∃ el x1 ps,tgt = .Tuple el x1 ps) (he:IsEnumOut s.heap e it i item a)
    (hQ:∀ h',IsEnum h' e it i item → Heap.SameBut e s.heap h' → Q () { s with heap:=h' }):wpAny (model prog w) A (letOwnedTupleGo tgt (.ref e) (.ref a)) Q E' s:=by
  obtain ⟨el,x1,ps,rfl⟩:=ht
  exact wpAny_letOwnedTupleGo_enum he hQ
theorem lit_keep {h h':Heap} {md:List Addr} {a l:Addr} {i:Nat} (x:h.IsListIter a l i) (k:KeepsBut md h h') (n:a ∉ md):h'.IsListIter a l i:=let ⟨o,ho,r⟩:=x; ⟨o,k a o ho n,r⟩
section
variable {w:World} {b1 b2:Bool} {A:Around} {R:Result → Shared → Prop} {h:Heap} {g:Array GenState} {d:Drawn} {T0:Nat} {os:OsState}
  {L I E ws:Addr} {q0 q1 q2 tn tx we:Nat} {n:Int} {x:Str} {o:Nat × Value × Nat × Value × Nat × Value} {w0 w1 w2 w3 w4 w5:Nat × Nat × Nat} {v:Value}
theorem text_t00 (F:Follows w b1 b2) (hA:Lo A 300) (hh:A.handled = none) (top:TopOk w h) (fL:219 ≤ L) (hLI:L ≠ I) (hLE:L ≠ E) (hEI:E ≠ I) (hwL:ws ≠ L) (hwI:ws ≠ I) (hwE:ws ≠ E)
    (s0:h.get? L = some (textFr w q0 q1 q2 ws n tn x tx none)) (s1:h.IsListIter I ws 0) (s2:IsEnum h E I (0:Nat) .none) (fI:FreeL [I,E]) (hw:h.get? ws = some (listO [sgV w0,sgV w1,sgV w2,sgV w3,sgV w4,sgV w5] we)) (hm:((n.fdiv 1).fmod 3) = 0) (hz:x.length ≤ 1000) (ha:w0.1 ∈ hexs) (hb:w0.2.1 ∈ hexs)
    (K:∀ h' tk' tx' o' v',KeepsBut [L,I,E] h h' → h.objs.size ≤ h'.objs.size → h'.get? L = some (textFr w q0 q1 q2 ws n tn (x ++ ⟨#[w0.1,w0.2.1,32]⟩) tx' (some o')) → h'.IsListIter I ws 1 → IsEnum h' E I (1:Nat) v' → codeAny (model prog w) A (textFor w L E) R ⟨h',g,d,tk',os⟩) :
    codeAny (model prog w) A (textFor w L E) R ⟨h,g,d,T0,os⟩:=by
  have zL:L < h.objs.size:=Heap.lt_size s0
  have zw:ws < h.objs.size:=Heap.lt_size hw
  have zI:I < h.objs.size:=let ⟨_,ho,_⟩:=s1; Heap.lt_size ho
  have zE:E < h.objs.size:=Heap.lt_size s2
  have gN:219 ≤ h.objs.size:=Nat.le_of_lt (Nat.lt_of_le_of_lt fL zL)
  refine for_next (wpAny_pyNext_enum_item (s:=⟨h,g,d,T0,os⟩) (x:=sgV w0) s2 s1 (isList_of hw) rfl hEI fun h1 he1 hit1 ht1 hz1 hk1=>?_)
  refine own_enum (tgt201 w) he1 fun h2 he2 hs2=>?_
  have k02:KeepsBut [I,E] h h2:=fun b ob eb nb=>(hs2.2 b fun e=>nb (by rw [e]; exact .tail _ (.head _))).trans (hk1 b ob (fun e=>nb (by rw [e]; exact .tail _ (.head _))) (fun e=>nb (by rw [e]; exact .head _)) eb)
  have top2:TopOk w h2:=top.keepsBut k02 fI
  have sz2:h2.objs.size = h.objs.size + 1:=hs2.1.trans hz1
  have l2:h2.get? L = some (textFr w q0 q1 q2 ws n tn x tx none):=k02 _ _ s0 (NotIn.mem ⟨hLI,hLE,trivial⟩)
  have ww2:h2.get? ws = some (listO [sgV w0,sgV w1,sgV w2,sgV w3,sgV w4,sgV w5] we):=k02 _ _ hw (NotIn.mem ⟨hwI,hwE,trivial⟩)
  have t2:h2.get? h.objs.size = some (tupO [.int 0 T0,sgV w0]):=(hs2.2 _ (Nat.ne_of_gt zE)).trans ht1
  have OD:=startA (b1:=b1) (b2:=b2) (T0:=T0 + 1) [(ws,listO [sgV w0,sgV w1,sgV w2,sgV w3,sgV w4,sgV w5] we)] [L,h.objs.size] [textFr w q0 q1 q2 ws n tn x tx none,tupO [.int 0 T0,sgV w0]] 2 rfl rfl (by kernel_rfl) top2 ⟨ww2,trivial⟩ ⟨l2,t2,trivial⟩ ⟨.inl fL,.inl gN,trivial⟩ ⟨⟨Nat.ne_of_lt zL,trivial⟩,trivial,trivial⟩ ⟨⟨hwL,Nat.ne_of_lt zw,trivial⟩,trivial⟩
  refine goP F 133 5 15 [1001,1001,1001,7000,1001,1002,1002,1002,1002,1002,1001,1002,1002,1002,1002,1002,1002,1001,1002,1002,1002,1002,1002,1002,1001,1002,1002,1004,1000,1000,1000,1000,1000,1000,1000,1000,1000,7000,7200,1000,7000,7200,1000,1000,1000] [(((n.fdiv 1).fmod 3) == 2) = false,(((n.fdiv 1).fmod 3) == 1) = false] (i:=0) OD hA hh ⟨(by rw [hm]; rfl),(by rw [hm]; rfl),trivial⟩ fun h1=>?_
  intro o_h1 OD
  refine Mn.st (.call (.builtin "str.__add__") ⟨[.str x tx,.str (⟨#[w0.1,w0.2.1,32]⟩:Str) ((T0 + 1) + 14)],[]⟩) ?_
  refine c_str_add (x:=x) (y:=(⟨#[w0.1,w0.2.1,32]⟩:Str)) (fun e=>nomatch (show 3 = 0 from e)) (by show x.length + 3 ≤ 5000; lia) fun tx' tk'=>?_
  replace OD:=cre0 tk' OD (Keeps.refl _) (Nat.le_refl _)
  refine go F 7 5 1 [1000,1000] (i:=0) OD hA hh fun h2=>?_
  intro o_h2 OD
  refine Mn.again (c':=textFor w L E) (by kernel_rfl) rfl (by kernel_rfl) ?_
  have kf:=OD.2.kept
  have nIt:∀ {a},a ≠ L → a < h.objs.size → a ∉ [L,h.objs.size]:=fun p q=>NotIn.mem ⟨p,Nat.ne_of_lt q,trivial⟩
  refine K _ _ tx' (((T0 + 1) + 0),.int 0 T0,((T0 + 1) + 1),.str (S1 w0.1 ++ S1 w0.2.1) w0.2.2,((T0 + 1) + 7),.int ((n.fdiv 1).fmod 3) ((T0 + 1) + 6)) (sgV w0) (fun b ob eb nb=>kf _ _ (k02 _ _ eb (fun hm=>nb (.tail _ hm))) (nIt (fun e=>nb (by rw [e]; exact .head _)) (Heap.lt_size eb))) (Nat.le_trans (by rw [sz2]; exact Nat.le_succ _) (size_le OD.1 OD.2)) (OD.2.ob 0) (lit_keep (lit_keep hit1 (same_keepsBut hs2) (fun hm=>hEI (List.mem_singleton.mp hm).symm)) kf (nIt hLI.symm zI)) (kf _ _ he2 (nIt hLE.symm zE))
theorem text_t01 (F:Follows w b1 b2) (hA:Lo A 300) (hh:A.handled = none) (top:TopOk w h) (fL:219 ≤ L) (hLI:L ≠ I) (hLE:L ≠ E) (hEI:E ≠ I) (hwL:ws ≠ L) (hwI:ws ≠ I) (hwE:ws ≠ E)
    (s0:h.get? L = some (textFr w q0 q1 q2 ws n tn x tx none)) (s1:h.IsListIter I ws 0) (s2:IsEnum h E I (0:Nat) .none) (fI:FreeL [I,E]) (hw:h.get? ws = some (listO [sgV w0,sgV w1,sgV w2,sgV w3,sgV w4,sgV w5] we)) (hm:((n.fdiv 1).fmod 3) = 1) (hz:x.length ≤ 1000) (ha:w0.1 ∈ hexs) (hb:w0.2.1 ∈ hexs)
    (K:∀ h' tk' tx' o' v',KeepsBut [L,I,E] h h' → h.objs.size ≤ h'.objs.size → h'.get? L = some (textFr w q0 q1 q2 ws n tn (x ++ ⟨#[34,w0.1,w0.2.1,34,32]⟩) tx' (some o')) → h'.IsListIter I ws 1 → IsEnum h' E I (1:Nat) v' → codeAny (model prog w) A (textFor w L E) R ⟨h',g,d,tk',os⟩) :
    codeAny (model prog w) A (textFor w L E) R ⟨h,g,d,T0,os⟩:=by
  have zL:L < h.objs.size:=Heap.lt_size s0
  have zw:ws < h.objs.size:=Heap.lt_size hw
  have zI:I < h.objs.size:=let ⟨_,ho,_⟩:=s1; Heap.lt_size ho
  have zE:E < h.objs.size:=Heap.lt_size s2
  have gN:219 ≤ h.objs.size:=Nat.le_of_lt (Nat.lt_of_le_of_lt fL zL)
  refine for_next (wpAny_pyNext_enum_item (s:=⟨h,g,d,T0,os⟩) (x:=sgV w0) s2 s1 (isList_of hw) rfl hEI fun h1 he1 hit1 ht1 hz1 hk1=>?_)
  refine own_enum (tgt201 w) he1 fun h2 he2 hs2=>?_
  have k02:KeepsBut [I,E] h h2:=fun b ob eb nb=>(hs2.2 b fun e=>nb (by rw [e]; exact .tail _ (.head _))).trans (hk1 b ob (fun e=>nb (by rw [e]; exact .tail _ (.head _))) (fun e=>nb (by rw [e]; exact .head _)) eb)
  have top2:TopOk w h2:=top.keepsBut k02 fI
  have sz2:h2.objs.size = h.objs.size + 1:=hs2.1.trans hz1
  have l2:h2.get? L = some (textFr w q0 q1 q2 ws n tn x tx none):=k02 _ _ s0 (NotIn.mem ⟨hLI,hLE,trivial⟩)
  have ww2:h2.get? ws = some (listO [sgV w0,sgV w1,sgV w2,sgV w3,sgV w4,sgV w5] we):=k02 _ _ hw (NotIn.mem ⟨hwI,hwE,trivial⟩)
  have t2:h2.get? h.objs.size = some (tupO [.int 0 T0,sgV w0]):=(hs2.2 _ (Nat.ne_of_gt zE)).trans ht1
  have OD:=startA (b1:=b1) (b2:=b2) (T0:=T0 + 1) [(ws,listO [sgV w0,sgV w1,sgV w2,sgV w3,sgV w4,sgV w5] we)] [L,h.objs.size] [textFr w q0 q1 q2 ws n tn x tx none,tupO [.int 0 T0,sgV w0]] 2 rfl rfl (by kernel_rfl) top2 ⟨ww2,trivial⟩ ⟨l2,t2,trivial⟩ ⟨.inl fL,.inl gN,trivial⟩ ⟨⟨Nat.ne_of_lt zL,trivial⟩,trivial,trivial⟩ ⟨⟨hwL,Nat.ne_of_lt zw,trivial⟩,trivial⟩
  refine goP F 148 5 19 [1001,1001,1001,7000,1001,1002,1002,1002,1002,1002,1001,1002,1002,1002,1002,1002,1002,1001,1002,1002,1002,1002,1002,1002,1001,1002,1002,1004,1000,1000,1000,1000,1000,1000,1000,1000,1000,7000,7201,1000,1000,1000,1000,1000,1000] [(((n.fdiv 1).fmod 3) == 1) = true] (i:=0) OD hA hh ⟨(by rw [hm]; rfl),trivial⟩ fun h1=>?_
  intro o_h1 OD
  refine Mn.st (.call (.builtin "str.__add__") ⟨[.str x tx,.str (⟨#[34,w0.1,w0.2.1,34,32]⟩:Str) ((T0 + 1) + 18)],[]⟩) ?_
  refine c_str_add (x:=x) (y:=(⟨#[34,w0.1,w0.2.1,34,32]⟩:Str)) (fun e=>nomatch (show 5 = 0 from e)) (by show x.length + 5 ≤ 5000; lia) fun tx' tk'=>?_
  replace OD:=cre0 tk' OD (Keeps.refl _) (Nat.le_refl _)
  refine go F 7 5 1 [1000,1000] (i:=0) OD hA hh fun h2=>?_
  intro o_h2 OD
  refine Mn.again (c':=textFor w L E) (by kernel_rfl) rfl (by kernel_rfl) ?_
  have kf:=OD.2.kept
  have nIt:∀ {a},a ≠ L → a < h.objs.size → a ∉ [L,h.objs.size]:=fun p q=>NotIn.mem ⟨p,Nat.ne_of_lt q,trivial⟩
  refine K _ _ tx' (((T0 + 1) + 0),.int 0 T0,((T0 + 1) + 1),.str ⟨#[34,w0.1,w0.2.1,34]⟩ ((T0 + 1) + 12),((T0 + 1) + 7),.int ((n.fdiv 1).fmod 3) ((T0 + 1) + 6)) (sgV w0) (fun b ob eb nb=>kf _ _ (k02 _ _ eb (fun hm=>nb (.tail _ hm))) (nIt (fun e=>nb (by rw [e]; exact .head _)) (Heap.lt_size eb))) (Nat.le_trans (by rw [sz2]; exact Nat.le_succ _) (size_le OD.1 OD.2)) (OD.2.ob 0) (lit_keep (lit_keep hit1 (same_keepsBut hs2) (fun hm=>hEI (List.mem_singleton.mp hm).symm)) kf (nIt hLI.symm zI)) (kf _ _ he2 (nIt hLE.symm zE))
theorem text_t02 (F:Follows w b1 b2) (hA:Lo A 300) (hh:A.handled = none) (top:TopOk w h) (fL:219 ≤ L) (hLI:L ≠ I) (hLE:L ≠ E) (hEI:E ≠ I) (hwL:ws ≠ L) (hwI:ws ≠ I) (hwE:ws ≠ E)
    (s0:h.get? L = some (textFr w q0 q1 q2 ws n tn x tx none)) (s1:h.IsListIter I ws 0) (s2:IsEnum h E I (0:Nat) .none) (fI:FreeL [I,E]) (hw:h.get? ws = some (listO [sgV w0,sgV w1,sgV w2,sgV w3,sgV w4,sgV w5] we)) (hm:((n.fdiv 1).fmod 3) = 2) (hz:x.length ≤ 1000) (ha:w0.1 ∈ hexs) (hb:w0.2.1 ∈ hexs)
    (K:∀ h' tk' tx' o' v',KeepsBut [L,I,E] h h' → h.objs.size ≤ h'.objs.size → h'.get? L = some (textFr w q0 q1 q2 ws n tn (x ++ ⟨#[92,w0.1,92,w0.2.1,32]⟩) tx' (some o')) → h'.IsListIter I ws 1 → IsEnum h' E I (1:Nat) v' → codeAny (model prog w) A (textFor w L E) R ⟨h',g,d,tk',os⟩) :
    codeAny (model prog w) A (textFor w L E) R ⟨h,g,d,T0,os⟩:=by
  have zL:L < h.objs.size:=Heap.lt_size s0
  have zw:ws < h.objs.size:=Heap.lt_size hw
  have zI:I < h.objs.size:=let ⟨_,ho,_⟩:=s1; Heap.lt_size ho
  have zE:E < h.objs.size:=Heap.lt_size s2
  have gN:219 ≤ h.objs.size:=Nat.le_of_lt (Nat.lt_of_le_of_lt fL zL)
  refine for_next (wpAny_pyNext_enum_item (s:=⟨h,g,d,T0,os⟩) (x:=sgV w0) s2 s1 (isList_of hw) rfl hEI fun h1 he1 hit1 ht1 hz1 hk1=>?_)
  refine own_enum (tgt201 w) he1 fun h2 he2 hs2=>?_
  have k02:KeepsBut [I,E] h h2:=fun b ob eb nb=>(hs2.2 b fun e=>nb (by rw [e]; exact .tail _ (.head _))).trans (hk1 b ob (fun e=>nb (by rw [e]; exact .tail _ (.head _))) (fun e=>nb (by rw [e]; exact .head _)) eb)
  have top2:TopOk w h2:=top.keepsBut k02 fI
  have sz2:h2.objs.size = h.objs.size + 1:=hs2.1.trans hz1
  have l2:h2.get? L = some (textFr w q0 q1 q2 ws n tn x tx none):=k02 _ _ s0 (NotIn.mem ⟨hLI,hLE,trivial⟩)
  have ww2:h2.get? ws = some (listO [sgV w0,sgV w1,sgV w2,sgV w3,sgV w4,sgV w5] we):=k02 _ _ hw (NotIn.mem ⟨hwI,hwE,trivial⟩)
  have t2:h2.get? h.objs.size = some (tupO [.int 0 T0,sgV w0]):=(hs2.2 _ (Nat.ne_of_gt zE)).trans ht1
  have OD:=startA (b1:=b1) (b2:=b2) (T0:=T0 + 1) [(ws,listO [sgV w0,sgV w1,sgV w2,sgV w3,sgV w4,sgV w5] we)] [L,h.objs.size] [textFr w q0 q1 q2 ws n tn x tx none,tupO [.int 0 T0,sgV w0]] 2 rfl rfl (by kernel_rfl) top2 ⟨ww2,trivial⟩ ⟨l2,t2,trivial⟩ ⟨.inl fL,.inl gN,trivial⟩ ⟨⟨Nat.ne_of_lt zL,trivial⟩,trivial,trivial⟩ ⟨⟨hwL,Nat.ne_of_lt zw,trivial⟩,trivial⟩
  refine goP F 115 5 11 [1001,1001,1001,7000,1001,1002,1002,1002,1002,1002,1001,1002,1002,1002,1002,1002,1002,1001,1002,1002,1002,1002,1002,1002,1001,1002,1002,1004,1000,1000,1000,1000,1000,1000,1000,1000,1000,7000,7200,1000,7000,7201,1000,7000] [(((n.fdiv 1).fmod 3) == 2) = true,(((n.fdiv 1).fmod 3) == 1) = false] (i:=0) OD hA hh ⟨(by rw [hm]; rfl),(by rw [hm]; rfl),trivial⟩ fun h1=>?_
  intro o_h1 OD
  refine Mn.st (.call (.builtin "str.__iter__") ⟨[.str (S1 w0.1 ++ S1 w0.2.1) w0.2.2],[]⟩) ?_
  refine c_str_iter (all_128 ha hb) fun j1 kj sj hj=>?_
  have zj:h1.objs.size ≤ j1.objs.size:=Nat.le_of_lt (by rw [sj]; exact Nat.lt_succ_self _)
  replace OD:=creG (mm:=6) ((T0 + 1) + 11) [] [] [h1.objs.size] [saiO (S1 w0.1 ++ S1 w0.2.1) w0.2.2 0] OD trivial kj.but zj trivial trivial ⟨⟨Nat.le_refl _,by rw [sj]; exact Nat.lt_succ_self _⟩,trivial⟩ ⟨trivial,trivial⟩ ⟨hj,trivial⟩ rfl (by kernel_rfl) rfl
  refine go F 139 10 15 [1005,7001,10,5,1005,1005,7000,1005,1005,1005,1005,1005,1005,1005,1005,1007,1007,1007,1006,1006,1006,1006,1005,1005,1005,1005,1005,1005,1007,1007,1007,1006,1006,1006,1006,1005,1005,1005,1005,1005,1005,1009,1007,1007,1007,1006,1006,1000,1000,1000,1000,1000] (i:=0) OD hA hh fun h2=>?_
  intro o_h2 OD
  refine Mn.st (.call (.builtin "str.__add__") ⟨[.str x tx,.str (⟨#[92,w0.1,92,w0.2.1,32]⟩:Str) (((T0 + 1) + 11) + 14)],[]⟩) ?_
  refine c_str_add (x:=x) (y:=(⟨#[92,w0.1,92,w0.2.1,32]⟩:Str)) (fun e=>nomatch (show 5 = 0 from e)) (by show x.length + 5 ≤ 5000; lia) fun tx' tk'=>?_
  replace OD:=cre0 tk' OD (Keeps.refl _) (Nat.le_refl _)
  refine go F 7 10 1 [1000,1000] (i:=0) OD hA hh fun h3=>?_
  intro o_h3 OD
  refine Mn.again (c':=textFor w L E) (by kernel_rfl) rfl (by kernel_rfl) ?_
  have kf:=OD.2.kept
  have nIt:∀ {a},a ≠ L → a < h.objs.size → a ∉ [L,h.objs.size]:=fun p q=>NotIn.mem ⟨p,Nat.ne_of_lt q,trivial⟩
  refine K _ _ tx' (((T0 + 1) + 0),.int 0 T0,((T0 + 1) + 1),.str ⟨#[92,w0.1,92,w0.2.1]⟩ (((T0 + 1) + 11) + 8),((T0 + 1) + 7),.int ((n.fdiv 1).fmod 3) ((T0 + 1) + 6)) (sgV w0) (fun b ob eb nb=>kf _ _ (k02 _ _ eb (fun hm=>nb (.tail _ hm))) (nIt (fun e=>nb (by rw [e]; exact .head _)) (Heap.lt_size eb))) (Nat.le_trans (by rw [sz2]; exact Nat.le_succ _) (size_le OD.1 OD.2)) (OD.2.ob 0) (lit_keep (lit_keep hit1 (same_keepsBut hs2) (fun hm=>hEI (List.mem_singleton.mp hm).symm)) kf (nIt hLI.symm zI)) (kf _ _ he2 (nIt hLE.symm zE))
theorem text_t10 (F:Follows w b1 b2) (hA:Lo A 300) (hh:A.handled = none) (top:TopOk w h) (fL:219 ≤ L) (hLI:L ≠ I) (hLE:L ≠ E) (hEI:E ≠ I) (hwL:ws ≠ L) (hwI:ws ≠ I) (hwE:ws ≠ E)
    (s0:h.get? L = some (textFr w q0 q1 q2 ws n tn x tx (some o))) (s1:h.IsListIter I ws 1) (s2:IsEnum h E I (1:Nat) v) (fI:FreeL [I,E]) (hw:h.get? ws = some (listO [sgV w0,sgV w1,sgV w2,sgV w3,sgV w4,sgV w5] we)) (hm:((n.fdiv 3).fmod 3) = 0) (hz:x.length ≤ 1000) (ha:w1.1 ∈ hexs) (hb:w1.2.1 ∈ hexs)
    (K:∀ h' tk' tx' o' v',KeepsBut [L,I,E] h h' → h.objs.size ≤ h'.objs.size → h'.get? L = some (textFr w q0 q1 q2 ws n tn (x ++ ⟨#[w1.1,w1.2.1,10]⟩) tx' (some o')) → h'.IsListIter I ws 2 → IsEnum h' E I (2:Nat) v' → codeAny (model prog w) A (textFor w L E) R ⟨h',g,d,tk',os⟩) :
    codeAny (model prog w) A (textFor w L E) R ⟨h,g,d,T0,os⟩:=by
  have zL:L < h.objs.size:=Heap.lt_size s0
  have zw:ws < h.objs.size:=Heap.lt_size hw
  have zI:I < h.objs.size:=let ⟨_,ho,_⟩:=s1; Heap.lt_size ho
  have zE:E < h.objs.size:=Heap.lt_size s2
  have gN:219 ≤ h.objs.size:=Nat.le_of_lt (Nat.lt_of_le_of_lt fL zL)
  refine for_next (wpAny_pyNext_enum_item (s:=⟨h,g,d,T0,os⟩) (x:=sgV w1) s2 s1 (isList_of hw) rfl hEI fun h1 he1 hit1 ht1 hz1 hk1=>?_)
  refine own_enum (tgt201 w) he1 fun h2 he2 hs2=>?_
  have k02:KeepsBut [I,E] h h2:=fun b ob eb nb=>(hs2.2 b fun e=>nb (by rw [e]; exact .tail _ (.head _))).trans (hk1 b ob (fun e=>nb (by rw [e]; exact .tail _ (.head _))) (fun e=>nb (by rw [e]; exact .head _)) eb)
  have top2:TopOk w h2:=top.keepsBut k02 fI
  have sz2:h2.objs.size = h.objs.size + 1:=hs2.1.trans hz1
  have l2:h2.get? L = some (textFr w q0 q1 q2 ws n tn x tx (some o)):=k02 _ _ s0 (NotIn.mem ⟨hLI,hLE,trivial⟩)
  have ww2:h2.get? ws = some (listO [sgV w0,sgV w1,sgV w2,sgV w3,sgV w4,sgV w5] we):=k02 _ _ hw (NotIn.mem ⟨hwI,hwE,trivial⟩)
  have t2:h2.get? h.objs.size = some (tupO [.int 1 T0,sgV w1]):=(hs2.2 _ (Nat.ne_of_gt zE)).trans ht1
  have OD:=startA (b1:=b1) (b2:=b2) (T0:=T0 + 1) [(ws,listO [sgV w0,sgV w1,sgV w2,sgV w3,sgV w4,sgV w5] we)] [L,h.objs.size] [textFr w q0 q1 q2 ws n tn x tx (some o),tupO [.int 1 T0,sgV w1]] 2 rfl rfl (by kernel_rfl) top2 ⟨ww2,trivial⟩ ⟨l2,t2,trivial⟩ ⟨.inl fL,.inl gN,trivial⟩ ⟨⟨Nat.ne_of_lt zL,trivial⟩,trivial,trivial⟩ ⟨⟨hwL,Nat.ne_of_lt zw,trivial⟩,trivial⟩
  refine goP F 133 5 15 [1001,1001,1001,7000,1001,1002,1002,1002,1002,1002,1001,1002,1002,1002,1002,1002,1002,1001,1002,1002,1002,1002,1002,1002,1001,1002,1002,1004,1000,1000,1000,1000,1000,1000,1000,1000,1000,7000,7200,1000,7000,7200,1000,1000,1000] [(((n.fdiv 3).fmod 3) == 2) = false,(((n.fdiv 3).fmod 3) == 1) = false] (i:=0) OD hA hh ⟨(by rw [hm]; rfl),(by rw [hm]; rfl),trivial⟩ fun h1=>?_
  intro o_h1 OD
  refine Mn.st (.call (.builtin "str.__add__") ⟨[.str x tx,.str (⟨#[w1.1,w1.2.1,10]⟩:Str) ((T0 + 1) + 14)],[]⟩) ?_
  refine c_str_add (x:=x) (y:=(⟨#[w1.1,w1.2.1,10]⟩:Str)) (fun e=>nomatch (show 3 = 0 from e)) (by show x.length + 3 ≤ 5000; lia) fun tx' tk'=>?_
  replace OD:=cre0 tk' OD (Keeps.refl _) (Nat.le_refl _)
  refine go F 7 5 1 [1000,1000] (i:=0) OD hA hh fun h2=>?_
  intro o_h2 OD
  refine Mn.again (c':=textFor w L E) (by kernel_rfl) rfl (by kernel_rfl) ?_
  have kf:=OD.2.kept
  have nIt:∀ {a},a ≠ L → a < h.objs.size → a ∉ [L,h.objs.size]:=fun p q=>NotIn.mem ⟨p,Nat.ne_of_lt q,trivial⟩
  refine K _ _ tx' (o.1,.int 1 T0,o.2.2.1,.str (S1 w1.1 ++ S1 w1.2.1) w1.2.2,o.2.2.2.2.1,.int ((n.fdiv 3).fmod 3) ((T0 + 1) + 6)) (sgV w1) (fun b ob eb nb=>kf _ _ (k02 _ _ eb (fun hm=>nb (.tail _ hm))) (nIt (fun e=>nb (by rw [e]; exact .head _)) (Heap.lt_size eb))) (Nat.le_trans (by rw [sz2]; exact Nat.le_succ _) (size_le OD.1 OD.2)) (OD.2.ob 0) (lit_keep (lit_keep hit1 (same_keepsBut hs2) (fun hm=>hEI (List.mem_singleton.mp hm).symm)) kf (nIt hLI.symm zI)) (kf _ _ he2 (nIt hLE.symm zE))
theorem text_t11 (F:Follows w b1 b2) (hA:Lo A 300) (hh:A.handled = none) (top:TopOk w h) (fL:219 ≤ L) (hLI:L ≠ I) (hLE:L ≠ E) (hEI:E ≠ I) (hwL:ws ≠ L) (hwI:ws ≠ I) (hwE:ws ≠ E)
    (s0:h.get? L = some (textFr w q0 q1 q2 ws n tn x tx (some o))) (s1:h.IsListIter I ws 1) (s2:IsEnum h E I (1:Nat) v) (fI:FreeL [I,E]) (hw:h.get? ws = some (listO [sgV w0,sgV w1,sgV w2,sgV w3,sgV w4,sgV w5] we)) (hm:((n.fdiv 3).fmod 3) = 1) (hz:x.length ≤ 1000) (ha:w1.1 ∈ hexs) (hb:w1.2.1 ∈ hexs)
    (K:∀ h' tk' tx' o' v',KeepsBut [L,I,E] h h' → h.objs.size ≤ h'.objs.size → h'.get? L = some (textFr w q0 q1 q2 ws n tn (x ++ ⟨#[34,w1.1,w1.2.1,34,10]⟩) tx' (some o')) → h'.IsListIter I ws 2 → IsEnum h' E I (2:Nat) v' → codeAny (model prog w) A (textFor w L E) R ⟨h',g,d,tk',os⟩) :
    codeAny (model prog w) A (textFor w L E) R ⟨h,g,d,T0,os⟩:=by
  have zL:L < h.objs.size:=Heap.lt_size s0
  have zw:ws < h.objs.size:=Heap.lt_size hw
  have zI:I < h.objs.size:=let ⟨_,ho,_⟩:=s1; Heap.lt_size ho
  have zE:E < h.objs.size:=Heap.lt_size s2
  have gN:219 ≤ h.objs.size:=Nat.le_of_lt (Nat.lt_of_le_of_lt fL zL)
  refine for_next (wpAny_pyNext_enum_item (s:=⟨h,g,d,T0,os⟩) (x:=sgV w1) s2 s1 (isList_of hw) rfl hEI fun h1 he1 hit1 ht1 hz1 hk1=>?_)
  refine own_enum (tgt201 w) he1 fun h2 he2 hs2=>?_
  have k02:KeepsBut [I,E] h h2:=fun b ob eb nb=>(hs2.2 b fun e=>nb (by rw [e]; exact .tail _ (.head _))).trans (hk1 b ob (fun e=>nb (by rw [e]; exact .tail _ (.head _))) (fun e=>nb (by rw [e]; exact .head _)) eb)
  have top2:TopOk w h2:=top.keepsBut k02 fI
  have sz2:h2.objs.size = h.objs.size + 1:=hs2.1.trans hz1
  have l2:h2.get? L = some (textFr w q0 q1 q2 ws n tn x tx (some o)):=k02 _ _ s0 (NotIn.mem ⟨hLI,hLE,trivial⟩)
  have ww2:h2.get? ws = some (listO [sgV w0,sgV w1,sgV w2,sgV w3,sgV w4,sgV w5] we):=k02 _ _ hw (NotIn.mem ⟨hwI,hwE,trivial⟩)
  have t2:h2.get? h.objs.size = some (tupO [.int 1 T0,sgV w1]):=(hs2.2 _ (Nat.ne_of_gt zE)).trans ht1
  have OD:=startA (b1:=b1) (b2:=b2) (T0:=T0 + 1) [(ws,listO [sgV w0,sgV w1,sgV w2,sgV w3,sgV w4,sgV w5] we)] [L,h.objs.size] [textFr w q0 q1 q2 ws n tn x tx (some o),tupO [.int 1 T0,sgV w1]] 2 rfl rfl (by kernel_rfl) top2 ⟨ww2,trivial⟩ ⟨l2,t2,trivial⟩ ⟨.inl fL,.inl gN,trivial⟩ ⟨⟨Nat.ne_of_lt zL,trivial⟩,trivial,trivial⟩ ⟨⟨hwL,Nat.ne_of_lt zw,trivial⟩,trivial⟩
  refine goP F 148 5 19 [1001,1001,1001,7000,1001,1002,1002,1002,1002,1002,1001,1002,1002,1002,1002,1002,1002,1001,1002,1002,1002,1002,1002,1002,1001,1002,1002,1004,1000,1000,1000,1000,1000,1000,1000,1000,1000,7000,7201,1000,1000,1000,1000,1000,1000] [(((n.fdiv 3).fmod 3) == 1) = true] (i:=0) OD hA hh ⟨(by rw [hm]; rfl),trivial⟩ fun h1=>?_
  intro o_h1 OD
  refine Mn.st (.call (.builtin "str.__add__") ⟨[.str x tx,.str (⟨#[34,w1.1,w1.2.1,34,10]⟩:Str) ((T0 + 1) + 18)],[]⟩) ?_
  refine c_str_add (x:=x) (y:=(⟨#[34,w1.1,w1.2.1,34,10]⟩:Str)) (fun e=>nomatch (show 5 = 0 from e)) (by show x.length + 5 ≤ 5000; lia) fun tx' tk'=>?_
  replace OD:=cre0 tk' OD (Keeps.refl _) (Nat.le_refl _)
  refine go F 7 5 1 [1000,1000] (i:=0) OD hA hh fun h2=>?_
  intro o_h2 OD
  refine Mn.again (c':=textFor w L E) (by kernel_rfl) rfl (by kernel_rfl) ?_
  have kf:=OD.2.kept
  have nIt:∀ {a},a ≠ L → a < h.objs.size → a ∉ [L,h.objs.size]:=fun p q=>NotIn.mem ⟨p,Nat.ne_of_lt q,trivial⟩
  refine K _ _ tx' (o.1,.int 1 T0,o.2.2.1,.str ⟨#[34,w1.1,w1.2.1,34]⟩ ((T0 + 1) + 12),o.2.2.2.2.1,.int ((n.fdiv 3).fmod 3) ((T0 + 1) + 6)) (sgV w1) (fun b ob eb nb=>kf _ _ (k02 _ _ eb (fun hm=>nb (.tail _ hm))) (nIt (fun e=>nb (by rw [e]; exact .head _)) (Heap.lt_size eb))) (Nat.le_trans (by rw [sz2]; exact Nat.le_succ _) (size_le OD.1 OD.2)) (OD.2.ob 0) (lit_keep (lit_keep hit1 (same_keepsBut hs2) (fun hm=>hEI (List.mem_singleton.mp hm).symm)) kf (nIt hLI.symm zI)) (kf _ _ he2 (nIt hLE.symm zE))
theorem text_t12 (F:Follows w b1 b2) (hA:Lo A 300) (hh:A.handled = none) (top:TopOk w h) (fL:219 ≤ L) (hLI:L ≠ I) (hLE:L ≠ E) (hEI:E ≠ I) (hwL:ws ≠ L) (hwI:ws ≠ I) (hwE:ws ≠ E)
    (s0:h.get? L = some (textFr w q0 q1 q2 ws n tn x tx (some o))) (s1:h.IsListIter I ws 1) (s2:IsEnum h E I (1:Nat) v) (fI:FreeL [I,E]) (hw:h.get? ws = some (listO [sgV w0,sgV w1,sgV w2,sgV w3,sgV w4,sgV w5] we)) (hm:((n.fdiv 3).fmod 3) = 2) (hz:x.length ≤ 1000) (ha:w1.1 ∈ hexs) (hb:w1.2.1 ∈ hexs)
    (K:∀ h' tk' tx' o' v',KeepsBut [L,I,E] h h' → h.objs.size ≤ h'.objs.size → h'.get? L = some (textFr w q0 q1 q2 ws n tn (x ++ ⟨#[92,w1.1,92,w1.2.1,10]⟩) tx' (some o')) → h'.IsListIter I ws 2 → IsEnum h' E I (2:Nat) v' → codeAny (model prog w) A (textFor w L E) R ⟨h',g,d,tk',os⟩) :
    codeAny (model prog w) A (textFor w L E) R ⟨h,g,d,T0,os⟩:=by
  have zL:L < h.objs.size:=Heap.lt_size s0
  have zw:ws < h.objs.size:=Heap.lt_size hw
  have zI:I < h.objs.size:=let ⟨_,ho,_⟩:=s1; Heap.lt_size ho
  have zE:E < h.objs.size:=Heap.lt_size s2
  have gN:219 ≤ h.objs.size:=Nat.le_of_lt (Nat.lt_of_le_of_lt fL zL)
  refine for_next (wpAny_pyNext_enum_item (s:=⟨h,g,d,T0,os⟩) (x:=sgV w1) s2 s1 (isList_of hw) rfl hEI fun h1 he1 hit1 ht1 hz1 hk1=>?_)
  refine own_enum (tgt201 w) he1 fun h2 he2 hs2=>?_
  have k02:KeepsBut [I,E] h h2:=fun b ob eb nb=>(hs2.2 b fun e=>nb (by rw [e]; exact .tail _ (.head _))).trans (hk1 b ob (fun e=>nb (by rw [e]; exact .tail _ (.head _))) (fun e=>nb (by rw [e]; exact .head _)) eb)
  have top2:TopOk w h2:=top.keepsBut k02 fI
  have sz2:h2.objs.size = h.objs.size + 1:=hs2.1.trans hz1
  have l2:h2.get? L = some (textFr w q0 q1 q2 ws n tn x tx (some o)):=k02 _ _ s0 (NotIn.mem ⟨hLI,hLE,trivial⟩)
  have ww2:h2.get? ws = some (listO [sgV w0,sgV w1,sgV w2,sgV w3,sgV w4,sgV w5] we):=k02 _ _ hw (NotIn.mem ⟨hwI,hwE,trivial⟩)
  have t2:h2.get? h.objs.size = some (tupO [.int 1 T0,sgV w1]):=(hs2.2 _ (Nat.ne_of_gt zE)).trans ht1
  have OD:=startA (b1:=b1) (b2:=b2) (T0:=T0 + 1) [(ws,listO [sgV w0,sgV w1,sgV w2,sgV w3,sgV w4,sgV w5] we)] [L,h.objs.size] [textFr w q0 q1 q2 ws n tn x tx (some o),tupO [.int 1 T0,sgV w1]] 2 rfl rfl (by kernel_rfl) top2 ⟨ww2,trivial⟩ ⟨l2,t2,trivial⟩ ⟨.inl fL,.inl gN,trivial⟩ ⟨⟨Nat.ne_of_lt zL,trivial⟩,trivial,trivial⟩ ⟨⟨hwL,Nat.ne_of_lt zw,trivial⟩,trivial⟩
  refine goP F 115 5 11 [1001,1001,1001,7000,1001,1002,1002,1002,1002,1002,1001,1002,1002,1002,1002,1002,1002,1001,1002,1002,1002,1002,1002,1002,1001,1002,1002,1004,1000,1000,1000,1000,1000,1000,1000,1000,1000,7000,7200,1000,7000,7201,1000,7000] [(((n.fdiv 3).fmod 3) == 2) = true,(((n.fdiv 3).fmod 3) == 1) = false] (i:=0) OD hA hh ⟨(by rw [hm]; rfl),(by rw [hm]; rfl),trivial⟩ fun h1=>?_
  intro o_h1 OD
  refine Mn.st (.call (.builtin "str.__iter__") ⟨[.str (S1 w1.1 ++ S1 w1.2.1) w1.2.2],[]⟩) ?_
  refine c_str_iter (all_128 ha hb) fun j1 kj sj hj=>?_
  have zj:h1.objs.size ≤ j1.objs.size:=Nat.le_of_lt (by rw [sj]; exact Nat.lt_succ_self _)
  replace OD:=creG (mm:=6) ((T0 + 1) + 11) [] [] [h1.objs.size] [saiO (S1 w1.1 ++ S1 w1.2.1) w1.2.2 0] OD trivial kj.but zj trivial trivial ⟨⟨Nat.le_refl _,by rw [sj]; exact Nat.lt_succ_self _⟩,trivial⟩ ⟨trivial,trivial⟩ ⟨hj,trivial⟩ rfl (by kernel_rfl) rfl
  refine go F 139 10 15 [1005,7001,10,5,1005,1005,7000,1005,1005,1005,1005,1005,1005,1005,1005,1007,1007,1007,1006,1006,1006,1006,1005,1005,1005,1005,1005,1005,1007,1007,1007,1006,1006,1006,1006,1005,1005,1005,1005,1005,1005,1009,1007,1007,1007,1006,1006,1000,1000,1000,1000,1000] (i:=0) OD hA hh fun h2=>?_
  intro o_h2 OD
  refine Mn.st (.call (.builtin "str.__add__") ⟨[.str x tx,.str (⟨#[92,w1.1,92,w1.2.1,10]⟩:Str) (((T0 + 1) + 11) + 14)],[]⟩) ?_
  refine c_str_add (x:=x) (y:=(⟨#[92,w1.1,92,w1.2.1,10]⟩:Str)) (fun e=>nomatch (show 5 = 0 from e)) (by show x.length + 5 ≤ 5000; lia) fun tx' tk'=>?_
  replace OD:=cre0 tk' OD (Keeps.refl _) (Nat.le_refl _)
  refine go F 7 10 1 [1000,1000] (i:=0) OD hA hh fun h3=>?_
  intro o_h3 OD
  refine Mn.again (c':=textFor w L E) (by kernel_rfl) rfl (by kernel_rfl) ?_
  have kf:=OD.2.kept
  have nIt:∀ {a},a ≠ L → a < h.objs.size → a ∉ [L,h.objs.size]:=fun p q=>NotIn.mem ⟨p,Nat.ne_of_lt q,trivial⟩
  refine K _ _ tx' (o.1,.int 1 T0,o.2.2.1,.str ⟨#[92,w1.1,92,w1.2.1]⟩ (((T0 + 1) + 11) + 8),o.2.2.2.2.1,.int ((n.fdiv 3).fmod 3) ((T0 + 1) + 6)) (sgV w1) (fun b ob eb nb=>kf _ _ (k02 _ _ eb (fun hm=>nb (.tail _ hm))) (nIt (fun e=>nb (by rw [e]; exact .head _)) (Heap.lt_size eb))) (Nat.le_trans (by rw [sz2]; exact Nat.le_succ _) (size_le OD.1 OD.2)) (OD.2.ob 0) (lit_keep (lit_keep hit1 (same_keepsBut hs2) (fun hm=>hEI (List.mem_singleton.mp hm).symm)) kf (nIt hLI.symm zI)) (kf _ _ he2 (nIt hLE.symm zE))
theorem text_t20 (F:Follows w b1 b2) (hA:Lo A 300) (hh:A.handled = none) (top:TopOk w h) (fL:219 ≤ L) (hLI:L ≠ I) (hLE:L ≠ E) (hEI:E ≠ I) (hwL:ws ≠ L) (hwI:ws ≠ I) (hwE:ws ≠ E)
    (s0:h.get? L = some (textFr w q0 q1 q2 ws n tn x tx (some o))) (s1:h.IsListIter I ws 2) (s2:IsEnum h E I (2:Nat) v) (fI:FreeL [I,E]) (hw:h.get? ws = some (listO [sgV w0,sgV w1,sgV w2,sgV w3,sgV w4,sgV w5] we)) (hm:((n.fdiv 9).fmod 3) = 0) (hz:x.length ≤ 1000) (ha:w2.1 ∈ hexs) (hb:w2.2.1 ∈ hexs)
    (K:∀ h' tk' tx' o' v',KeepsBut [L,I,E] h h' → h.objs.size ≤ h'.objs.size → h'.get? L = some (textFr w q0 q1 q2 ws n tn (x ++ ⟨#[w2.1,w2.2.1,32]⟩) tx' (some o')) → h'.IsListIter I ws 3 → IsEnum h' E I (3:Nat) v' → codeAny (model prog w) A (textFor w L E) R ⟨h',g,d,tk',os⟩) :
    codeAny (model prog w) A (textFor w L E) R ⟨h,g,d,T0,os⟩:=by
  have zL:L < h.objs.size:=Heap.lt_size s0
  have zw:ws < h.objs.size:=Heap.lt_size hw
  have zI:I < h.objs.size:=let ⟨_,ho,_⟩:=s1; Heap.lt_size ho
  have zE:E < h.objs.size:=Heap.lt_size s2
  have gN:219 ≤ h.objs.size:=Nat.le_of_lt (Nat.lt_of_le_of_lt fL zL)
  refine for_next (wpAny_pyNext_enum_item (s:=⟨h,g,d,T0,os⟩) (x:=sgV w2) s2 s1 (isList_of hw) rfl hEI fun h1 he1 hit1 ht1 hz1 hk1=>?_)
  refine own_enum (tgt201 w) he1 fun h2 he2 hs2=>?_
  have k02:KeepsBut [I,E] h h2:=fun b ob eb nb=>(hs2.2 b fun e=>nb (by rw [e]; exact .tail _ (.head _))).trans (hk1 b ob (fun e=>nb (by rw [e]; exact .tail _ (.head _))) (fun e=>nb (by rw [e]; exact .head _)) eb)
  have top2:TopOk w h2:=top.keepsBut k02 fI
  have sz2:h2.objs.size = h.objs.size + 1:=hs2.1.trans hz1
  have l2:h2.get? L = some (textFr w q0 q1 q2 ws n tn x tx (some o)):=k02 _ _ s0 (NotIn.mem ⟨hLI,hLE,trivial⟩)
  have ww2:h2.get? ws = some (listO [sgV w0,sgV w1,sgV w2,sgV w3,sgV w4,sgV w5] we):=k02 _ _ hw (NotIn.mem ⟨hwI,hwE,trivial⟩)
  have t2:h2.get? h.objs.size = some (tupO [.int 2 T0,sgV w2]):=(hs2.2 _ (Nat.ne_of_gt zE)).trans ht1
  have OD:=startA (b1:=b1) (b2:=b2) (T0:=T0 + 1) [(ws,listO [sgV w0,sgV w1,sgV w2,sgV w3,sgV w4,sgV w5] we)] [L,h.objs.size] [textFr w q0 q1 q2 ws n tn x tx (some o),tupO [.int 2 T0,sgV w2]] 2 rfl rfl (by kernel_rfl) top2 ⟨ww2,trivial⟩ ⟨l2,t2,trivial⟩ ⟨.inl fL,.inl gN,trivial⟩ ⟨⟨Nat.ne_of_lt zL,trivial⟩,trivial,trivial⟩ ⟨⟨hwL,Nat.ne_of_lt zw,trivial⟩,trivial⟩
  refine goP F 133 5 15 [1001,1001,1001,7000,1001,1002,1002,1002,1002,1002,1001,1002,1002,1002,1002,1002,1002,1001,1002,1002,1002,1002,1002,1002,1001,1002,1002,1004,1000,1000,1000,1000,1000,1000,1000,1000,1000,7000,7200,1000,7000,7200,1000,1000,1000] [(((n.fdiv 9).fmod 3) == 2) = false,(((n.fdiv 9).fmod 3) == 1) = false] (i:=0) OD hA hh ⟨(by rw [hm]; rfl),(by rw [hm]; rfl),trivial⟩ fun h1=>?_
  intro o_h1 OD
  refine Mn.st (.call (.builtin "str.__add__") ⟨[.str x tx,.str (⟨#[w2.1,w2.2.1,32]⟩:Str) ((T0 + 1) + 14)],[]⟩) ?_
  refine c_str_add (x:=x) (y:=(⟨#[w2.1,w2.2.1,32]⟩:Str)) (fun e=>nomatch (show 3 = 0 from e)) (by show x.length + 3 ≤ 5000; lia) fun tx' tk'=>?_
  replace OD:=cre0 tk' OD (Keeps.refl _) (Nat.le_refl _)
  refine go F 7 5 1 [1000,1000] (i:=0) OD hA hh fun h2=>?_
  intro o_h2 OD
  refine Mn.again (c':=textFor w L E) (by kernel_rfl) rfl (by kernel_rfl) ?_
  have kf:=OD.2.kept
  have nIt:∀ {a},a ≠ L → a < h.objs.size → a ∉ [L,h.objs.size]:=fun p q=>NotIn.mem ⟨p,Nat.ne_of_lt q,trivial⟩
  refine K _ _ tx' (o.1,.int 2 T0,o.2.2.1,.str (S1 w2.1 ++ S1 w2.2.1) w2.2.2,o.2.2.2.2.1,.int ((n.fdiv 9).fmod 3) ((T0 + 1) + 6)) (sgV w2) (fun b ob eb nb=>kf _ _ (k02 _ _ eb (fun hm=>nb (.tail _ hm))) (nIt (fun e=>nb (by rw [e]; exact .head _)) (Heap.lt_size eb))) (Nat.le_trans (by rw [sz2]; exact Nat.le_succ _) (size_le OD.1 OD.2)) (OD.2.ob 0) (lit_keep (lit_keep hit1 (same_keepsBut hs2) (fun hm=>hEI (List.mem_singleton.mp hm).symm)) kf (nIt hLI.symm zI)) (kf _ _ he2 (nIt hLE.symm zE))
theorem text_t21 (F:Follows w b1 b2) (hA:Lo A 300) (hh:A.handled = none) (top:TopOk w h) (fL:219 ≤ L) (hLI:L ≠ I) (hLE:L ≠ E) (hEI:E ≠ I) (hwL:ws ≠ L) (hwI:ws ≠ I) (hwE:ws ≠ E)
    (s0:h.get? L = some (textFr w q0 q1 q2 ws n tn x tx (some o))) (s1:h.IsListIter I ws 2) (s2:IsEnum h E I (2:Nat) v) (fI:FreeL [I,E]) (hw:h.get? ws = some (listO [sgV w0,sgV w1,sgV w2,sgV w3,sgV w4,sgV w5] we)) (hm:((n.fdiv 9).fmod 3) = 1) (hz:x.length ≤ 1000) (ha:w2.1 ∈ hexs) (hb:w2.2.1 ∈ hexs)
    (K:∀ h' tk' tx' o' v',KeepsBut [L,I,E] h h' → h.objs.size ≤ h'.objs.size → h'.get? L = some (textFr w q0 q1 q2 ws n tn (x ++ ⟨#[34,w2.1,w2.2.1,34,32]⟩) tx' (some o')) → h'.IsListIter I ws 3 → IsEnum h' E I (3:Nat) v' → codeAny (model prog w) A (textFor w L E) R ⟨h',g,d,tk',os⟩) :
    codeAny (model prog w) A (textFor w L E) R ⟨h,g,d,T0,os⟩:=by
  have zL:L < h.objs.size:=Heap.lt_size s0
  have zw:ws < h.objs.size:=Heap.lt_size hw
  have zI:I < h.objs.size:=let ⟨_,ho,_⟩:=s1; Heap.lt_size ho
  have zE:E < h.objs.size:=Heap.lt_size s2
  have gN:219 ≤ h.objs.size:=Nat.le_of_lt (Nat.lt_of_le_of_lt fL zL)
  refine for_next (wpAny_pyNext_enum_item (s:=⟨h,g,d,T0,os⟩) (x:=sgV w2) s2 s1 (isList_of hw) rfl hEI fun h1 he1 hit1 ht1 hz1 hk1=>?_)
  refine own_enum (tgt201 w) he1 fun h2 he2 hs2=>?_
  have k02:KeepsBut [I,E] h h2:=fun b ob eb nb=>(hs2.2 b fun e=>nb (by rw [e]; exact .tail _ (.head _))).trans (hk1 b ob (fun e=>nb (by rw [e]; exact .tail _ (.head _))) (fun e=>nb (by rw [e]; exact .head _)) eb)
  have top2:TopOk w h2:=top.keepsBut k02 fI
  have sz2:h2.objs.size = h.objs.size + 1:=hs2.1.trans hz1
  have l2:h2.get? L = some (textFr w q0 q1 q2 ws n tn x tx (some o)):=k02 _ _ s0 (NotIn.mem ⟨hLI,hLE,trivial⟩)
  have ww2:h2.get? ws = some (listO [sgV w0,sgV w1,sgV w2,sgV w3,sgV w4,sgV w5] we):=k02 _ _ hw (NotIn.mem ⟨hwI,hwE,trivial⟩)
  have t2:h2.get? h.objs.size = some (tupO [.int 2 T0,sgV w2]):=(hs2.2 _ (Nat.ne_of_gt zE)).trans ht1
  have OD:=startA (b1:=b1) (b2:=b2) (T0:=T0 + 1) [(ws,listO [sgV w0,sgV w1,sgV w2,sgV w3,sgV w4,sgV w5] we)] [L,h.objs.size] [textFr w q0 q1 q2 ws n tn x tx (some o),tupO [.int 2 T0,sgV w2]] 2 rfl rfl (by kernel_rfl) top2 ⟨ww2,trivial⟩ ⟨l2,t2,trivial⟩ ⟨.inl fL,.inl gN,trivial⟩ ⟨⟨Nat.ne_of_lt zL,trivial⟩,trivial,trivial⟩ ⟨⟨hwL,Nat.ne_of_lt zw,trivial⟩,trivial⟩
  refine goP F 148 5 19 [1001,1001,1001,7000,1001,1002,1002,1002,1002,1002,1001,1002,1002,1002,1002,1002,1002,1001,1002,1002,1002,1002,1002,1002,1001,1002,1002,1004,1000,1000,1000,1000,1000,1000,1000,1000,1000,7000,7201,1000,1000,1000,1000,1000,1000] [(((n.fdiv 9).fmod 3) == 1) = true] (i:=0) OD hA hh ⟨(by rw [hm]; rfl),trivial⟩ fun h1=>?_
  intro o_h1 OD
  refine Mn.st (.call (.builtin "str.__add__") ⟨[.str x tx,.str (⟨#[34,w2.1,w2.2.1,34,32]⟩:Str) ((T0 + 1) + 18)],[]⟩) ?_
  refine c_str_add (x:=x) (y:=(⟨#[34,w2.1,w2.2.1,34,32]⟩:Str)) (fun e=>nomatch (show 5 = 0 from e)) (by show x.length + 5 ≤ 5000; lia) fun tx' tk'=>?_
  replace OD:=cre0 tk' OD (Keeps.refl _) (Nat.le_refl _)
  refine go F 7 5 1 [1000,1000] (i:=0) OD hA hh fun h2=>?_
  intro o_h2 OD
  refine Mn.again (c':=textFor w L E) (by kernel_rfl) rfl (by kernel_rfl) ?_
  have kf:=OD.2.kept
  have nIt:∀ {a},a ≠ L → a < h.objs.size → a ∉ [L,h.objs.size]:=fun p q=>NotIn.mem ⟨p,Nat.ne_of_lt q,trivial⟩
  refine K _ _ tx' (o.1,.int 2 T0,o.2.2.1,.str ⟨#[34,w2.1,w2.2.1,34]⟩ ((T0 + 1) + 12),o.2.2.2.2.1,.int ((n.fdiv 9).fmod 3) ((T0 + 1) + 6)) (sgV w2) (fun b ob eb nb=>kf _ _ (k02 _ _ eb (fun hm=>nb (.tail _ hm))) (nIt (fun e=>nb (by rw [e]; exact .head _)) (Heap.lt_size eb))) (Nat.le_trans (by rw [sz2]; exact Nat.le_succ _) (size_le OD.1 OD.2)) (OD.2.ob 0) (lit_keep (lit_keep hit1 (same_keepsBut hs2) (fun hm=>hEI (List.mem_singleton.mp hm).symm)) kf (nIt hLI.symm zI)) (kf _ _ he2 (nIt hLE.symm zE))
theorem text_t22 (F:Follows w b1 b2) (hA:Lo A 300) (hh:A.handled = none) (top:TopOk w h) (fL:219 ≤ L) (hLI:L ≠ I) (hLE:L ≠ E) (hEI:E ≠ I) (hwL:ws ≠ L) (hwI:ws ≠ I) (hwE:ws ≠ E)
    (s0:h.get? L = some (textFr w q0 q1 q2 ws n tn x tx (some o))) (s1:h.IsListIter I ws 2) (s2:IsEnum h E I (2:Nat) v) (fI:FreeL [I,E]) (hw:h.get? ws = some (listO [sgV w0,sgV w1,sgV w2,sgV w3,sgV w4,sgV w5] we)) (hm:((n.fdiv 9).fmod 3) = 2) (hz:x.length ≤ 1000) (ha:w2.1 ∈ hexs) (hb:w2.2.1 ∈ hexs)
    (K:∀ h' tk' tx' o' v',KeepsBut [L,I,E] h h' → h.objs.size ≤ h'.objs.size → h'.get? L = some (textFr w q0 q1 q2 ws n tn (x ++ ⟨#[92,w2.1,92,w2.2.1,32]⟩) tx' (some o')) → h'.IsListIter I ws 3 → IsEnum h' E I (3:Nat) v' → codeAny (model prog w) A (textFor w L E) R ⟨h',g,d,tk',os⟩) :
    codeAny (model prog w) A (textFor w L E) R ⟨h,g,d,T0,os⟩:=by
  have zL:L < h.objs.size:=Heap.lt_size s0
  have zw:ws < h.objs.size:=Heap.lt_size hw
  have zI:I < h.objs.size:=let ⟨_,ho,_⟩:=s1; Heap.lt_size ho
  have zE:E < h.objs.size:=Heap.lt_size s2
  have gN:219 ≤ h.objs.size:=Nat.le_of_lt (Nat.lt_of_le_of_lt fL zL)
  refine for_next (wpAny_pyNext_enum_item (s:=⟨h,g,d,T0,os⟩) (x:=sgV w2) s2 s1 (isList_of hw) rfl hEI fun h1 he1 hit1 ht1 hz1 hk1=>?_)
  refine own_enum (tgt201 w) he1 fun h2 he2 hs2=>?_
  have k02:KeepsBut [I,E] h h2:=fun b ob eb nb=>(hs2.2 b fun e=>nb (by rw [e]; exact .tail _ (.head _))).trans (hk1 b ob (fun e=>nb (by rw [e]; exact .tail _ (.head _))) (fun e=>nb (by rw [e]; exact .head _)) eb)
  have top2:TopOk w h2:=top.keepsBut k02 fI
  have sz2:h2.objs.size = h.objs.size + 1:=hs2.1.trans hz1
  have l2:h2.get? L = some (textFr w q0 q1 q2 ws n tn x tx (some o)):=k02 _ _ s0 (NotIn.mem ⟨hLI,hLE,trivial⟩)
  have ww2:h2.get? ws = some (listO [sgV w0,sgV w1,sgV w2,sgV w3,sgV w4,sgV w5] we):=k02 _ _ hw (NotIn.mem ⟨hwI,hwE,trivial⟩)
  have t2:h2.get? h.objs.size = some (tupO [.int 2 T0,sgV w2]):=(hs2.2 _ (Nat.ne_of_gt zE)).trans ht1
  have OD:=startA (b1:=b1) (b2:=b2) (T0:=T0 + 1) [(ws,listO [sgV w0,sgV w1,sgV w2,sgV w3,sgV w4,sgV w5] we)] [L,h.objs.size] [textFr w q0 q1 q2 ws n tn x tx (some o),tupO [.int 2 T0,sgV w2]] 2 rfl rfl (by kernel_rfl) top2 ⟨ww2,trivial⟩ ⟨l2,t2,trivial⟩ ⟨.inl fL,.inl gN,trivial⟩ ⟨⟨Nat.ne_of_lt zL,trivial⟩,trivial,trivial⟩ ⟨⟨hwL,Nat.ne_of_lt zw,trivial⟩,trivial⟩
  refine goP F 115 5 11 [1001,1001,1001,7000,1001,1002,1002,1002,1002,1002,1001,1002,1002,1002,1002,1002,1002,1001,1002,1002,1002,1002,1002,1002,1001,1002,1002,1004,1000,1000,1000,1000,1000,1000,1000,1000,1000,7000,7200,1000,7000,7201,1000,7000] [(((n.fdiv 9).fmod 3) == 2) = true,(((n.fdiv 9).fmod 3) == 1) = false] (i:=0) OD hA hh ⟨(by rw [hm]; rfl),(by rw [hm]; rfl),trivial⟩ fun h1=>?_
  intro o_h1 OD
  refine Mn.st (.call (.builtin "str.__iter__") ⟨[.str (S1 w2.1 ++ S1 w2.2.1) w2.2.2],[]⟩) ?_
  refine c_str_iter (all_128 ha hb) fun j1 kj sj hj=>?_
  have zj:h1.objs.size ≤ j1.objs.size:=Nat.le_of_lt (by rw [sj]; exact Nat.lt_succ_self _)
  replace OD:=creG (mm:=6) ((T0 + 1) + 11) [] [] [h1.objs.size] [saiO (S1 w2.1 ++ S1 w2.2.1) w2.2.2 0] OD trivial kj.but zj trivial trivial ⟨⟨Nat.le_refl _,by rw [sj]; exact Nat.lt_succ_self _⟩,trivial⟩ ⟨trivial,trivial⟩ ⟨hj,trivial⟩ rfl (by kernel_rfl) rfl
  refine go F 139 10 15 [1005,7001,10,5,1005,1005,7000,1005,1005,1005,1005,1005,1005,1005,1005,1007,1007,1007,1006,1006,1006,1006,1005,1005,1005,1005,1005,1005,1007,1007,1007,1006,1006,1006,1006,1005,1005,1005,1005,1005,1005,1009,1007,1007,1007,1006,1006,1000,1000,1000,1000,1000] (i:=0) OD hA hh fun h2=>?_
  intro o_h2 OD
  refine Mn.st (.call (.builtin "str.__add__") ⟨[.str x tx,.str (⟨#[92,w2.1,92,w2.2.1,32]⟩:Str) (((T0 + 1) + 11) + 14)],[]⟩) ?_
  refine c_str_add (x:=x) (y:=(⟨#[92,w2.1,92,w2.2.1,32]⟩:Str)) (fun e=>nomatch (show 5 = 0 from e)) (by show x.length + 5 ≤ 5000; lia) fun tx' tk'=>?_
  replace OD:=cre0 tk' OD (Keeps.refl _) (Nat.le_refl _)
  refine go F 7 10 1 [1000,1000] (i:=0) OD hA hh fun h3=>?_
  intro o_h3 OD
  refine Mn.again (c':=textFor w L E) (by kernel_rfl) rfl (by kernel_rfl) ?_
  have kf:=OD.2.kept
  have nIt:∀ {a},a ≠ L → a < h.objs.size → a ∉ [L,h.objs.size]:=fun p q=>NotIn.mem ⟨p,Nat.ne_of_lt q,trivial⟩
  refine K _ _ tx' (o.1,.int 2 T0,o.2.2.1,.str ⟨#[92,w2.1,92,w2.2.1]⟩ (((T0 + 1) + 11) + 8),o.2.2.2.2.1,.int ((n.fdiv 9).fmod 3) ((T0 + 1) + 6)) (sgV w2) (fun b ob eb nb=>kf _ _ (k02 _ _ eb (fun hm=>nb (.tail _ hm))) (nIt (fun e=>nb (by rw [e]; exact .head _)) (Heap.lt_size eb))) (Nat.le_trans (by rw [sz2]; exact Nat.le_succ _) (size_le OD.1 OD.2)) (OD.2.ob 0) (lit_keep (lit_keep hit1 (same_keepsBut hs2) (fun hm=>hEI (List.mem_singleton.mp hm).symm)) kf (nIt hLI.symm zI)) (kf _ _ he2 (nIt hLE.symm zE))
theorem text_t30 (F:Follows w b1 b2) (hA:Lo A 300) (hh:A.handled = none) (top:TopOk w h) (fL:219 ≤ L) (hLI:L ≠ I) (hLE:L ≠ E) (hEI:E ≠ I) (hwL:ws ≠ L) (hwI:ws ≠ I) (hwE:ws ≠ E)
    (s0:h.get? L = some (textFr w q0 q1 q2 ws n tn x tx (some o))) (s1:h.IsListIter I ws 3) (s2:IsEnum h E I (3:Nat) v) (fI:FreeL [I,E]) (hw:h.get? ws = some (listO [sgV w0,sgV w1,sgV w2,sgV w3,sgV w4,sgV w5] we)) (hm:((n.fdiv 27).fmod 3) = 0) (hz:x.length ≤ 1000) (ha:w3.1 ∈ hexs) (hb:w3.2.1 ∈ hexs)
    (K:∀ h' tk' tx' o' v',KeepsBut [L,I,E] h h' → h.objs.size ≤ h'.objs.size → h'.get? L = some (textFr w q0 q1 q2 ws n tn (x ++ ⟨#[w3.1,w3.2.1,10]⟩) tx' (some o')) → h'.IsListIter I ws 4 → IsEnum h' E I (4:Nat) v' → codeAny (model prog w) A (textFor w L E) R ⟨h',g,d,tk',os⟩) :
    codeAny (model prog w) A (textFor w L E) R ⟨h,g,d,T0,os⟩:=by
  have zL:L < h.objs.size:=Heap.lt_size s0
  have zw:ws < h.objs.size:=Heap.lt_size hw
  have zI:I < h.objs.size:=let ⟨_,ho,_⟩:=s1; Heap.lt_size ho
  have zE:E < h.objs.size:=Heap.lt_size s2
  have gN:219 ≤ h.objs.size:=Nat.le_of_lt (Nat.lt_of_le_of_lt fL zL)
  refine for_next (wpAny_pyNext_enum_item (s:=⟨h,g,d,T0,os⟩) (x:=sgV w3) s2 s1 (isList_of hw) rfl hEI fun h1 he1 hit1 ht1 hz1 hk1=>?_)
  refine own_enum (tgt201 w) he1 fun h2 he2 hs2=>?_
  have k02:KeepsBut [I,E] h h2:=fun b ob eb nb=>(hs2.2 b fun e=>nb (by rw [e]; exact .tail _ (.head _))).trans (hk1 b ob (fun e=>nb (by rw [e]; exact .tail _ (.head _))) (fun e=>nb (by rw [e]; exact .head _)) eb)
  have top2:TopOk w h2:=top.keepsBut k02 fI
  have sz2:h2.objs.size = h.objs.size + 1:=hs2.1.trans hz1
  have l2:h2.get? L = some (textFr w q0 q1 q2 ws n tn x tx (some o)):=k02 _ _ s0 (NotIn.mem ⟨hLI,hLE,trivial⟩)
  have ww2:h2.get? ws = some (listO [sgV w0,sgV w1,sgV w2,sgV w3,sgV w4,sgV w5] we):=k02 _ _ hw (NotIn.mem ⟨hwI,hwE,trivial⟩)
  have t2:h2.get? h.objs.size = some (tupO [.int 3 T0,sgV w3]):=(hs2.2 _ (Nat.ne_of_gt zE)).trans ht1
  have OD:=startA (b1:=b1) (b2:=b2) (T0:=T0 + 1) [(ws,listO [sgV w0,sgV w1,sgV w2,sgV w3,sgV w4,sgV w5] we)] [L,h.objs.size] [textFr w q0 q1 q2 ws n tn x tx (some o),tupO [.int 3 T0,sgV w3]] 2 rfl rfl (by kernel_rfl) top2 ⟨ww2,trivial⟩ ⟨l2,t2,trivial⟩ ⟨.inl fL,.inl gN,trivial⟩ ⟨⟨Nat.ne_of_lt zL,trivial⟩,trivial,trivial⟩ ⟨⟨hwL,Nat.ne_of_lt zw,trivial⟩,trivial⟩
  refine goP F 133 5 15 [1001,1001,1001,7000,1001,1002,1002,1002,1002,1002,1001,1002,1002,1002,1002,1002,1002,1001,1002,1002,1002,1002,1002,1002,1001,1002,1002,1004,1000,1000,1000,1000,1000,1000,1000,1000,1000,7000,7200,1000,7000,7200,1000,1000,1000] [(((n.fdiv 27).fmod 3) == 2) = false,(((n.fdiv 27).fmod 3) == 1) = false] (i:=0) OD hA hh ⟨(by rw [hm]; rfl),(by rw [hm]; rfl),trivial⟩ fun h1=>?_
  intro o_h1 OD
  refine Mn.st (.call (.builtin "str.__add__") ⟨[.str x tx,.str (⟨#[w3.1,w3.2.1,10]⟩:Str) ((T0 + 1) + 14)],[]⟩) ?_
  refine c_str_add (x:=x) (y:=(⟨#[w3.1,w3.2.1,10]⟩:Str)) (fun e=>nomatch (show 3 = 0 from e)) (by show x.length + 3 ≤ 5000; lia) fun tx' tk'=>?_
  replace OD:=cre0 tk' OD (Keeps.refl _) (Nat.le_refl _)
  refine go F 7 5 1 [1000,1000] (i:=0) OD hA hh fun h2=>?_
  intro o_h2 OD
  refine Mn.again (c':=textFor w L E) (by kernel_rfl) rfl (by kernel_rfl) ?_
  have kf:=OD.2.kept
  have nIt:∀ {a},a ≠ L → a < h.objs.size → a ∉ [L,h.objs.size]:=fun p q=>NotIn.mem ⟨p,Nat.ne_of_lt q,trivial⟩
  refine K _ _ tx' (o.1,.int 3 T0,o.2.2.1,.str (S1 w3.1 ++ S1 w3.2.1) w3.2.2,o.2.2.2.2.1,.int ((n.fdiv 27).fmod 3) ((T0 + 1) + 6)) (sgV w3) (fun b ob eb nb=>kf _ _ (k02 _ _ eb (fun hm=>nb (.tail _ hm))) (nIt (fun e=>nb (by rw [e]; exact .head _)) (Heap.lt_size eb))) (Nat.le_trans (by rw [sz2]; exact Nat.le_succ _) (size_le OD.1 OD.2)) (OD.2.ob 0) (lit_keep (lit_keep hit1 (same_keepsBut hs2) (fun hm=>hEI (List.mem_singleton.mp hm).symm)) kf (nIt hLI.symm zI)) (kf _ _ he2 (nIt hLE.symm zE))
theorem text_t31 (F:Follows w b1 b2) (hA:Lo A 300) (hh:A.handled = none) (top:TopOk w h) (fL:219 ≤ L) (hLI:L ≠ I) (hLE:L ≠ E) (hEI:E ≠ I) (hwL:ws ≠ L) (hwI:ws ≠ I) (hwE:ws ≠ E)
    (s0:h.get? L = some (textFr w q0 q1 q2 ws n tn x tx (some o))) (s1:h.IsListIter I ws 3) (s2:IsEnum h E I (3:Nat) v) (fI:FreeL [I,E]) (hw:h.get? ws = some (listO [sgV w0,sgV w1,sgV w2,sgV w3,sgV w4,sgV w5] we)) (hm:((n.fdiv 27).fmod 3) = 1) (hz:x.length ≤ 1000) (ha:w3.1 ∈ hexs) (hb:w3.2.1 ∈ hexs)
    (K:∀ h' tk' tx' o' v',KeepsBut [L,I,E] h h' → h.objs.size ≤ h'.objs.size → h'.get? L = some (textFr w q0 q1 q2 ws n tn (x ++ ⟨#[34,w3.1,w3.2.1,34,10]⟩) tx' (some o')) → h'.IsListIter I ws 4 → IsEnum h' E I (4:Nat) v' → codeAny (model prog w) A (textFor w L E) R ⟨h',g,d,tk',os⟩) :
    codeAny (model prog w) A (textFor w L E) R ⟨h,g,d,T0,os⟩:=by
  have zL:L < h.objs.size:=Heap.lt_size s0
  have zw:ws < h.objs.size:=Heap.lt_size hw
  have zI:I < h.objs.size:=let ⟨_,ho,_⟩:=s1; Heap.lt_size ho
  have zE:E < h.objs.size:=Heap.lt_size s2
  have gN:219 ≤ h.objs.size:=Nat.le_of_lt (Nat.lt_of_le_of_lt fL zL)
  refine for_next (wpAny_pyNext_enum_item (s:=⟨h,g,d,T0,os⟩) (x:=sgV w3) s2 s1 (isList_of hw) rfl hEI fun h1 he1 hit1 ht1 hz1 hk1=>?_)
  refine own_enum (tgt201 w) he1 fun h2 he2 hs2=>?_
  have k02:KeepsBut [I,E] h h2:=fun b ob eb nb=>(hs2.2 b fun e=>nb (by rw [e]; exact .tail _ (.head _))).trans (hk1 b ob (fun e=>nb (by rw [e]; exact .tail _ (.head _))) (fun e=>nb (by rw [e]; exact .head _)) eb)
  have top2:TopOk w h2:=top.keepsBut k02 fI
  have sz2:h2.objs.size = h.objs.size + 1:=hs2.1.trans hz1
  have l2:h2.get? L = some (textFr w q0 q1 q2 ws n tn x tx (some o)):=k02 _ _ s0 (NotIn.mem ⟨hLI,hLE,trivial⟩)
  have ww2:h2.get? ws = some (listO [sgV w0,sgV w1,sgV w2,sgV w3,sgV w4,sgV w5] we):=k02 _ _ hw (NotIn.mem ⟨hwI,hwE,trivial⟩)
  have t2:h2.get? h.objs.size = some (tupO [.int 3 T0,sgV w3]):=(hs2.2 _ (Nat.ne_of_gt zE)).trans ht1
  have OD:=startA (b1:=b1) (b2:=b2) (T0:=T0 + 1) [(ws,listO [sgV w0,sgV w1,sgV w2,sgV w3,sgV w4,sgV w5] we)] [L,h.objs.size] [textFr w q0 q1 q2 ws n tn x tx (some o),tupO [.int 3 T0,sgV w3]] 2 rfl rfl (by kernel_rfl) top2 ⟨ww2,trivial⟩ ⟨l2,t2,trivial⟩ ⟨.inl fL,.inl gN,trivial⟩ ⟨⟨Nat.ne_of_lt zL,trivial⟩,trivial,trivial⟩ ⟨⟨hwL,Nat.ne_of_lt zw,trivial⟩,trivial⟩
  refine goP F 148 5 19 [1001,1001,1001,7000,1001,1002,1002,1002,1002,1002,1001,1002,1002,1002,1002,1002,1002,1001,1002,1002,1002,1002,1002,1002,1001,1002,1002,1004,1000,1000,1000,1000,1000,1000,1000,1000,1000,7000,7201,1000,1000,1000,1000,1000,1000] [(((n.fdiv 27).fmod 3) == 1) = true] (i:=0) OD hA hh ⟨(by rw [hm]; rfl),trivial⟩ fun h1=>?_
  intro o_h1 OD
  refine Mn.st (.call (.builtin "str.__add__") ⟨[.str x tx,.str (⟨#[34,w3.1,w3.2.1,34,10]⟩:Str) ((T0 + 1) + 18)],[]⟩) ?_
  refine c_str_add (x:=x) (y:=(⟨#[34,w3.1,w3.2.1,34,10]⟩:Str)) (fun e=>nomatch (show 5 = 0 from e)) (by show x.length + 5 ≤ 5000; lia) fun tx' tk'=>?_
  replace OD:=cre0 tk' OD (Keeps.refl _) (Nat.le_refl _)
  refine go F 7 5 1 [1000,1000] (i:=0) OD hA hh fun h2=>?_
  intro o_h2 OD
  refine Mn.again (c':=textFor w L E) (by kernel_rfl) rfl (by kernel_rfl) ?_
  have kf:=OD.2.kept
  have nIt:∀ {a},a ≠ L → a < h.objs.size → a ∉ [L,h.objs.size]:=fun p q=>NotIn.mem ⟨p,Nat.ne_of_lt q,trivial⟩
  refine K _ _ tx' (o.1,.int 3 T0,o.2.2.1,.str ⟨#[34,w3.1,w3.2.1,34]⟩ ((T0 + 1) + 12),o.2.2.2.2.1,.int ((n.fdiv 27).fmod 3) ((T0 + 1) + 6)) (sgV w3) (fun b ob eb nb=>kf _ _ (k02 _ _ eb (fun hm=>nb (.tail _ hm))) (nIt (fun e=>nb (by rw [e]; exact .head _)) (Heap.lt_size eb))) (Nat.le_trans (by rw [sz2]; exact Nat.le_succ _) (size_le OD.1 OD.2)) (OD.2.ob 0) (lit_keep (lit_keep hit1 (same_keepsBut hs2) (fun hm=>hEI (List.mem_singleton.mp hm).symm)) kf (nIt hLI.symm zI)) (kf _ _ he2 (nIt hLE.symm zE))
theorem text_t32 (F:Follows w b1 b2) (hA:Lo A 300) (hh:A.handled = none) (top:TopOk w h) (fL:219 ≤ L) (hLI:L ≠ I) (hLE:L ≠ E) (hEI:E ≠ I) (hwL:ws ≠ L) (hwI:ws ≠ I) (hwE:ws ≠ E)
    (s0:h.get? L = some (textFr w q0 q1 q2 ws n tn x tx (some o))) (s1:h.IsListIter I ws 3) (s2:IsEnum h E I (3:Nat) v) (fI:FreeL [I,E]) (hw:h.get? ws = some (listO [sgV w0,sgV w1,sgV w2,sgV w3,sgV w4,sgV w5] we)) (hm:((n.fdiv 27).fmod 3) = 2) (hz:x.length ≤ 1000) (ha:w3.1 ∈ hexs) (hb:w3.2.1 ∈ hexs)
    (K:∀ h' tk' tx' o' v',KeepsBut [L,I,E] h h' → h.objs.size ≤ h'.objs.size → h'.get? L = some (textFr w q0 q1 q2 ws n tn (x ++ ⟨#[92,w3.1,92,w3.2.1,10]⟩) tx' (some o')) → h'.IsListIter I ws 4 → IsEnum h' E I (4:Nat) v' → codeAny (model prog w) A (textFor w L E) R ⟨h',g,d,tk',os⟩) :
    codeAny (model prog w) A (textFor w L E) R ⟨h,g,d,T0,os⟩:=by
  have zL:L < h.objs.size:=Heap.lt_size s0
  have zw:ws < h.objs.size:=Heap.lt_size hw
  have zI:I < h.objs.size:=let ⟨_,ho,_⟩:=s1; Heap.lt_size ho
  have zE:E < h.objs.size:=Heap.lt_size s2
  have gN:219 ≤ h.objs.size:=Nat.le_of_lt (Nat.lt_of_le_of_lt fL zL)
  refine for_next (wpAny_pyNext_enum_item (s:=⟨h,g,d,T0,os⟩) (x:=sgV w3) s2 s1 (isList_of hw) rfl hEI fun h1 he1 hit1 ht1 hz1 hk1=>?_)
  refine own_enum (tgt201 w) he1 fun h2 he2 hs2=>?_
  have k02:KeepsBut [I,E] h h2:=fun b ob eb nb=>(hs2.2 b fun e=>nb (by rw [e]; exact .tail _ (.head _))).trans (hk1 b ob (fun e=>nb (by rw [e]; exact .tail _ (.head _))) (fun e=>nb (by rw [e]; exact .head _)) eb)
  have top2:TopOk w h2:=top.keepsBut k02 fI
  have sz2:h2.objs.size = h.objs.size + 1:=hs2.1.trans hz1
  have l2:h2.get? L = some (textFr w q0 q1 q2 ws n tn x tx (some o)):=k02 _ _ s0 (NotIn.mem ⟨hLI,hLE,trivial⟩)
  have ww2:h2.get? ws = some (listO [sgV w0,sgV w1,sgV w2,sgV w3,sgV w4,sgV w5] we):=k02 _ _ hw (NotIn.mem ⟨hwI,hwE,trivial⟩)
  have t2:h2.get? h.objs.size = some (tupO [.int 3 T0,sgV w3]):=(hs2.2 _ (Nat.ne_of_gt zE)).trans ht1
  have OD:=startA (b1:=b1) (b2:=b2) (T0:=T0 + 1) [(ws,listO [sgV w0,sgV w1,sgV w2,sgV w3,sgV w4,sgV w5] we)] [L,h.objs.size] [textFr w q0 q1 q2 ws n tn x tx (some o),tupO [.int 3 T0,sgV w3]] 2 rfl rfl (by kernel_rfl) top2 ⟨ww2,trivial⟩ ⟨l2,t2,trivial⟩ ⟨.inl fL,.inl gN,trivial⟩ ⟨⟨Nat.ne_of_lt zL,trivial⟩,trivial,trivial⟩ ⟨⟨hwL,Nat.ne_of_lt zw,trivial⟩,trivial⟩
  refine goP F 115 5 11 [1001,1001,1001,7000,1001,1002,1002,1002,1002,1002,1001,1002,1002,1002,1002,1002,1002,1001,1002,1002,1002,1002,1002,1002,1001,1002,1002,1004,1000,1000,1000,1000,1000,1000,1000,1000,1000,7000,7200,1000,7000,7201,1000,7000] [(((n.fdiv 27).fmod 3) == 2) = true,(((n.fdiv 27).fmod 3) == 1) = false] (i:=0) OD hA hh ⟨(by rw [hm]; rfl),(by rw [hm]; rfl),trivial⟩ fun h1=>?_
  intro o_h1 OD
  refine Mn.st (.call (.builtin "str.__iter__") ⟨[.str (S1 w3.1 ++ S1 w3.2.1) w3.2.2],[]⟩) ?_
  refine c_str_iter (all_128 ha hb) fun j1 kj sj hj=>?_
  have zj:h1.objs.size ≤ j1.objs.size:=Nat.le_of_lt (by rw [sj]; exact Nat.lt_succ_self _)
  replace OD:=creG (mm:=6) ((T0 + 1) + 11) [] [] [h1.objs.size] [saiO (S1 w3.1 ++ S1 w3.2.1) w3.2.2 0] OD trivial kj.but zj trivial trivial ⟨⟨Nat.le_refl _,by rw [sj]; exact Nat.lt_succ_self _⟩,trivial⟩ ⟨trivial,trivial⟩ ⟨hj,trivial⟩ rfl (by kernel_rfl) rfl
  refine go F 139 10 15 [1005,7001,10,5,1005,1005,7000,1005,1005,1005,1005,1005,1005,1005,1005,1007,1007,1007,1006,1006,1006,1006,1005,1005,1005,1005,1005,1005,1007,1007,1007,1006,1006,1006,1006,1005,1005,1005,1005,1005,1005,1009,1007,1007,1007,1006,1006,1000,1000,1000,1000,1000] (i:=0) OD hA hh fun h2=>?_
  intro o_h2 OD
  refine Mn.st (.call (.builtin "str.__add__") ⟨[.str x tx,.str (⟨#[92,w3.1,92,w3.2.1,10]⟩:Str) (((T0 + 1) + 11) + 14)],[]⟩) ?_
  refine c_str_add (x:=x) (y:=(⟨#[92,w3.1,92,w3.2.1,10]⟩:Str)) (fun e=>nomatch (show 5 = 0 from e)) (by show x.length + 5 ≤ 5000; lia) fun tx' tk'=>?_
  replace OD:=cre0 tk' OD (Keeps.refl _) (Nat.le_refl _)
  refine go F 7 10 1 [1000,1000] (i:=0) OD hA hh fun h3=>?_
  intro o_h3 OD
  refine Mn.again (c':=textFor w L E) (by kernel_rfl) rfl (by kernel_rfl) ?_
  have kf:=OD.2.kept
  have nIt:∀ {a},a ≠ L → a < h.objs.size → a ∉ [L,h.objs.size]:=fun p q=>NotIn.mem ⟨p,Nat.ne_of_lt q,trivial⟩
  refine K _ _ tx' (o.1,.int 3 T0,o.2.2.1,.str ⟨#[92,w3.1,92,w3.2.1]⟩ (((T0 + 1) + 11) + 8),o.2.2.2.2.1,.int ((n.fdiv 27).fmod 3) ((T0 + 1) + 6)) (sgV w3) (fun b ob eb nb=>kf _ _ (k02 _ _ eb (fun hm=>nb (.tail _ hm))) (nIt (fun e=>nb (by rw [e]; exact .head _)) (Heap.lt_size eb))) (Nat.le_trans (by rw [sz2]; exact Nat.le_succ _) (size_le OD.1 OD.2)) (OD.2.ob 0) (lit_keep (lit_keep hit1 (same_keepsBut hs2) (fun hm=>hEI (List.mem_singleton.mp hm).symm)) kf (nIt hLI.symm zI)) (kf _ _ he2 (nIt hLE.symm zE))
theorem text_t40 (F:Follows w b1 b2) (hA:Lo A 300) (hh:A.handled = none) (top:TopOk w h) (fL:219 ≤ L) (hLI:L ≠ I) (hLE:L ≠ E) (hEI:E ≠ I) (hwL:ws ≠ L) (hwI:ws ≠ I) (hwE:ws ≠ E)
    (s0:h.get? L = some (textFr w q0 q1 q2 ws n tn x tx (some o))) (s1:h.IsListIter I ws 4) (s2:IsEnum h E I (4:Nat) v) (fI:FreeL [I,E]) (hw:h.get? ws = some (listO [sgV w0,sgV w1,sgV w2,sgV w3,sgV w4,sgV w5] we)) (hm:((n.fdiv 81).fmod 3) = 0) (hz:x.length ≤ 1000) (ha:w4.1 ∈ hexs) (hb:w4.2.1 ∈ hexs)
    (K:∀ h' tk' tx' o' v',KeepsBut [L,I,E] h h' → h.objs.size ≤ h'.objs.size → h'.get? L = some (textFr w q0 q1 q2 ws n tn (x ++ ⟨#[w4.1,w4.2.1,32]⟩) tx' (some o')) → h'.IsListIter I ws 5 → IsEnum h' E I (5:Nat) v' → codeAny (model prog w) A (textFor w L E) R ⟨h',g,d,tk',os⟩) :
    codeAny (model prog w) A (textFor w L E) R ⟨h,g,d,T0,os⟩:=by
  have zL:L < h.objs.size:=Heap.lt_size s0
  have zw:ws < h.objs.size:=Heap.lt_size hw
  have zI:I < h.objs.size:=let ⟨_,ho,_⟩:=s1; Heap.lt_size ho
  have zE:E < h.objs.size:=Heap.lt_size s2
  have gN:219 ≤ h.objs.size:=Nat.le_of_lt (Nat.lt_of_le_of_lt fL zL)
  refine for_next (wpAny_pyNext_enum_item (s:=⟨h,g,d,T0,os⟩) (x:=sgV w4) s2 s1 (isList_of hw) rfl hEI fun h1 he1 hit1 ht1 hz1 hk1=>?_)
  refine own_enum (tgt201 w) he1 fun h2 he2 hs2=>?_
  have k02:KeepsBut [I,E] h h2:=fun b ob eb nb=>(hs2.2 b fun e=>nb (by rw [e]; exact .tail _ (.head _))).trans (hk1 b ob (fun e=>nb (by rw [e]; exact .tail _ (.head _))) (fun e=>nb (by rw [e]; exact .head _)) eb)
  have top2:TopOk w h2:=top.keepsBut k02 fI
  have sz2:h2.objs.size = h.objs.size + 1:=hs2.1.trans hz1
  have l2:h2.get? L = some (textFr w q0 q1 q2 ws n tn x tx (some o)):=k02 _ _ s0 (NotIn.mem ⟨hLI,hLE,trivial⟩)
  have ww2:h2.get? ws = some (listO [sgV w0,sgV w1,sgV w2,sgV w3,sgV w4,sgV w5] we):=k02 _ _ hw (NotIn.mem ⟨hwI,hwE,trivial⟩)
  have t2:h2.get? h.objs.size = some (tupO [.int 4 T0,sgV w4]):=(hs2.2 _ (Nat.ne_of_gt zE)).trans ht1
  have OD:=startA (b1:=b1) (b2:=b2) (T0:=T0 + 1) [(ws,listO [sgV w0,sgV w1,sgV w2,sgV w3,sgV w4,sgV w5] we)] [L,h.objs.size] [textFr w q0 q1 q2 ws n tn x tx (some o),tupO [.int 4 T0,sgV w4]] 2 rfl rfl (by kernel_rfl) top2 ⟨ww2,trivial⟩ ⟨l2,t2,trivial⟩ ⟨.inl fL,.inl gN,trivial⟩ ⟨⟨Nat.ne_of_lt zL,trivial⟩,trivial,trivial⟩ ⟨⟨hwL,Nat.ne_of_lt zw,trivial⟩,trivial⟩
  refine goP F 133 5 15 [1001,1001,1001,7000,1001,1002,1002,1002,1002,1002,1001,1002,1002,1002,1002,1002,1002,1001,1002,1002,1002,1002,1002,1002,1001,1002,1002,1004,1000,1000,1000,1000,1000,1000,1000,1000,1000,7000,7200,1000,7000,7200,1000,1000,1000] [(((n.fdiv 81).fmod 3) == 2) = false,(((n.fdiv 81).fmod 3) == 1) = false] (i:=0) OD hA hh ⟨(by rw [hm]; rfl),(by rw [hm]; rfl),trivial⟩ fun h1=>?_
  intro o_h1 OD
  refine Mn.st (.call (.builtin "str.__add__") ⟨[.str x tx,.str (⟨#[w4.1,w4.2.1,32]⟩:Str) ((T0 + 1) + 14)],[]⟩) ?_
  refine c_str_add (x:=x) (y:=(⟨#[w4.1,w4.2.1,32]⟩:Str)) (fun e=>nomatch (show 3 = 0 from e)) (by show x.length + 3 ≤ 5000; lia) fun tx' tk'=>?_
  replace OD:=cre0 tk' OD (Keeps.refl _) (Nat.le_refl _)
  refine go F 7 5 1 [1000,1000] (i:=0) OD hA hh fun h2=>?_
  intro o_h2 OD
  refine Mn.again (c':=textFor w L E) (by kernel_rfl) rfl (by kernel_rfl) ?_
  have kf:=OD.2.kept
  have nIt:∀ {a},a ≠ L → a < h.objs.size → a ∉ [L,h.objs.size]:=fun p q=>NotIn.mem ⟨p,Nat.ne_of_lt q,trivial⟩
  refine K _ _ tx' (o.1,.int 4 T0,o.2.2.1,.str (S1 w4.1 ++ S1 w4.2.1) w4.2.2,o.2.2.2.2.1,.int ((n.fdiv 81).fmod 3) ((T0 + 1) + 6)) (sgV w4) (fun b ob eb nb=>kf _ _ (k02 _ _ eb (fun hm=>nb (.tail _ hm))) (nIt (fun e=>nb (by rw [e]; exact .head _)) (Heap.lt_size eb))) (Nat.le_trans (by rw [sz2]; exact Nat.le_succ _) (size_le OD.1 OD.2)) (OD.2.ob 0) (lit_keep (lit_keep hit1 (same_keepsBut hs2) (fun hm=>hEI (List.mem_singleton.mp hm).symm)) kf (nIt hLI.symm zI)) (kf _ _ he2 (nIt hLE.symm zE))
theorem text_t41 (F:Follows w b1 b2) (hA:Lo A 300) (hh:A.handled = none) (top:TopOk w h) (fL:219 ≤ L) (hLI:L ≠ I) (hLE:L ≠ E) (hEI:E ≠ I) (hwL:ws ≠ L) (hwI:ws ≠ I) (hwE:ws ≠ E)
    (s0:h.get? L = some (textFr w q0 q1 q2 ws n tn x tx (some o))) (s1:h.IsListIter I ws 4) (s2:IsEnum h E I (4:Nat) v) (fI:FreeL [I,E]) (hw:h.get? ws = some (listO [sgV w0,sgV w1,sgV w2,sgV w3,sgV w4,sgV w5] we)) (hm:((n.fdiv 81).fmod 3) = 1) (hz:x.length ≤ 1000) (ha:w4.1 ∈ hexs) (hb:w4.2.1 ∈ hexs)
    (K:∀ h' tk' tx' o' v',KeepsBut [L,I,E] h h' → h.objs.size ≤ h'.objs.size → h'.get? L = some (textFr w q0 q1 q2 ws n tn (x ++ ⟨#[34,w4.1,w4.2.1,34,32]⟩) tx' (some o')) → h'.IsListIter I ws 5 → IsEnum h' E I (5:Nat) v' → codeAny (model prog w) A (textFor w L E) R ⟨h',g,d,tk',os⟩) :
    codeAny (model prog w) A (textFor w L E) R ⟨h,g,d,T0,os⟩:=by
  have zL:L < h.objs.size:=Heap.lt_size s0
  have zw:ws < h.objs.size:=Heap.lt_size hw
  have zI:I < h.objs.size:=let ⟨_,ho,_⟩:=s1; Heap.lt_size ho
  have zE:E < h.objs.size:=Heap.lt_size s2
  have gN:219 ≤ h.objs.size:=Nat.le_of_lt (Nat.lt_of_le_of_lt fL zL)
  refine for_next (wpAny_pyNext_enum_item (s:=⟨h,g,d,T0,os⟩) (x:=sgV w4) s2 s1 (isList_of hw) rfl hEI fun h1 he1 hit1 ht1 hz1 hk1=>?_)
  refine own_enum (tgt201 w) he1 fun h2 he2 hs2=>?_
  have k02:KeepsBut [I,E] h h2:=fun b ob eb nb=>(hs2.2 b fun e=>nb (by rw [e]; exact .tail _ (.head _))).trans (hk1 b ob (fun e=>nb (by rw [e]; exact .tail _ (.head _))) (fun e=>nb (by rw [e]; exact .head _)) eb)
  have top2:TopOk w h2:=top.keepsBut k02 fI
  have sz2:h2.objs.size = h.objs.size + 1:=hs2.1.trans hz1
  have l2:h2.get? L = some (textFr w q0 q1 q2 ws n tn x tx (some o)):=k02 _ _ s0 (NotIn.mem ⟨hLI,hLE,trivial⟩)
  have ww2:h2.get? ws = some (listO [sgV w0,sgV w1,sgV w2,sgV w3,sgV w4,sgV w5] we):=k02 _ _ hw (NotIn.mem ⟨hwI,hwE,trivial⟩)
  have t2:h2.get? h.objs.size = some (tupO [.int 4 T0,sgV w4]):=(hs2.2 _ (Nat.ne_of_gt zE)).trans ht1
  have OD:=startA (b1:=b1) (b2:=b2) (T0:=T0 + 1) [(ws,listO [sgV w0,sgV w1,sgV w2,sgV w3,sgV w4,sgV w5] we)] [L,h.objs.size] [textFr w q0 q1 q2 ws n tn x tx (some o),tupO [.int 4 T0,sgV w4]] 2 rfl rfl (by kernel_rfl) top2 ⟨ww2,trivial⟩ ⟨l2,t2,trivial⟩ ⟨.inl fL,.inl gN,trivial⟩ ⟨⟨Nat.ne_of_lt zL,trivial⟩,trivial,trivial⟩ ⟨⟨hwL,Nat.ne_of_lt zw,trivial⟩,trivial⟩
  refine goP F 148 5 19 [1001,1001,1001,7000,1001,1002,1002,1002,1002,1002,1001,1002,1002,1002,1002,1002,1002,1001,1002,1002,1002,1002,1002,1002,1001,1002,1002,1004,1000,1000,1000,1000,1000,1000,1000,1000,1000,7000,7201,1000,1000,1000,1000,1000,1000] [(((n.fdiv 81).fmod 3) == 1) = true] (i:=0) OD hA hh ⟨(by rw [hm]; rfl),trivial⟩ fun h1=>?_
  intro o_h1 OD
  refine Mn.st (.call (.builtin "str.__add__") ⟨[.str x tx,.str (⟨#[34,w4.1,w4.2.1,34,32]⟩:Str) ((T0 + 1) + 18)],[]⟩) ?_
  refine c_str_add (x:=x) (y:=(⟨#[34,w4.1,w4.2.1,34,32]⟩:Str)) (fun e=>nomatch (show 5 = 0 from e)) (by show x.length + 5 ≤ 5000; lia) fun tx' tk'=>?_
  replace OD:=cre0 tk' OD (Keeps.refl _) (Nat.le_refl _)
  refine go F 7 5 1 [1000,1000] (i:=0) OD hA hh fun h2=>?_
  intro o_h2 OD
  refine Mn.again (c':=textFor w L E) (by kernel_rfl) rfl (by kernel_rfl) ?_
  have kf:=OD.2.kept
  have nIt:∀ {a},a ≠ L → a < h.objs.size → a ∉ [L,h.objs.size]:=fun p q=>NotIn.mem ⟨p,Nat.ne_of_lt q,trivial⟩
  refine K _ _ tx' (o.1,.int 4 T0,o.2.2.1,.str ⟨#[34,w4.1,w4.2.1,34]⟩ ((T0 + 1) + 12),o.2.2.2.2.1,.int ((n.fdiv 81).fmod 3) ((T0 + 1) + 6)) (sgV w4) (fun b ob eb nb=>kf _ _ (k02 _ _ eb (fun hm=>nb (.tail _ hm))) (nIt (fun e=>nb (by rw [e]; exact .head _)) (Heap.lt_size eb))) (Nat.le_trans (by rw [sz2]; exact Nat.le_succ _) (size_le OD.1 OD.2)) (OD.2.ob 0) (lit_keep (lit_keep hit1 (same_keepsBut hs2) (fun hm=>hEI (List.mem_singleton.mp hm).symm)) kf (nIt hLI.symm zI)) (kf _ _ he2 (nIt hLE.symm zE))
theorem text_t42 (F:Follows w b1 b2) (hA:Lo A 300) (hh:A.handled = none) (top:TopOk w h) (fL:219 ≤ L) (hLI:L ≠ I) (hLE:L ≠ E) (hEI:E ≠ I) (hwL:ws ≠ L) (hwI:ws ≠ I) (hwE:ws ≠ E)
    (s0:h.get? L = some (textFr w q0 q1 q2 ws n tn x tx (some o))) (s1:h.IsListIter I ws 4) (s2:IsEnum h E I (4:Nat) v) (fI:FreeL [I,E]) (hw:h.get? ws = some (listO [sgV w0,sgV w1,sgV w2,sgV w3,sgV w4,sgV w5] we)) (hm:((n.fdiv 81).fmod 3) = 2) (hz:x.length ≤ 1000) (ha:w4.1 ∈ hexs) (hb:w4.2.1 ∈ hexs)
    (K:∀ h' tk' tx' o' v',KeepsBut [L,I,E] h h' → h.objs.size ≤ h'.objs.size → h'.get? L = some (textFr w q0 q1 q2 ws n tn (x ++ ⟨#[92,w4.1,92,w4.2.1,32]⟩) tx' (some o')) → h'.IsListIter I ws 5 → IsEnum h' E I (5:Nat) v' → codeAny (model prog w) A (textFor w L E) R ⟨h',g,d,tk',os⟩) :
    codeAny (model prog w) A (textFor w L E) R ⟨h,g,d,T0,os⟩:=by
  have zL:L < h.objs.size:=Heap.lt_size s0
  have zw:ws < h.objs.size:=Heap.lt_size hw
  have zI:I < h.objs.size:=let ⟨_,ho,_⟩:=s1; Heap.lt_size ho
  have zE:E < h.objs.size:=Heap.lt_size s2
  have gN:219 ≤ h.objs.size:=Nat.le_of_lt (Nat.lt_of_le_of_lt fL zL)
  refine for_next (wpAny_pyNext_enum_item (s:=⟨h,g,d,T0,os⟩) (x:=sgV w4) s2 s1 (isList_of hw) rfl hEI fun h1 he1 hit1 ht1 hz1 hk1=>?_)
  refine own_enum (tgt201 w) he1 fun h2 he2 hs2=>?_
  have k02:KeepsBut [I,E] h h2:=fun b ob eb nb=>(hs2.2 b fun e=>nb (by rw [e]; exact .tail _ (.head _))).trans (hk1 b ob (fun e=>nb (by rw [e]; exact .tail _ (.head _))) (fun e=>nb (by rw [e]; exact .head _)) eb)
  have top2:TopOk w h2:=top.keepsBut k02 fI
  have sz2:h2.objs.size = h.objs.size + 1:=hs2.1.trans hz1
  have l2:h2.get? L = some (textFr w q0 q1 q2 ws n tn x tx (some o)):=k02 _ _ s0 (NotIn.mem ⟨hLI,hLE,trivial⟩)
  have ww2:h2.get? ws = some (listO [sgV w0,sgV w1,sgV w2,sgV w3,sgV w4,sgV w5] we):=k02 _ _ hw (NotIn.mem ⟨hwI,hwE,trivial⟩)
  have t2:h2.get? h.objs.size = some (tupO [.int 4 T0,sgV w4]):=(hs2.2 _ (Nat.ne_of_gt zE)).trans ht1
  have OD:=startA (b1:=b1) (b2:=b2) (T0:=T0 + 1) [(ws,listO [sgV w0,sgV w1,sgV w2,sgV w3,sgV w4,sgV w5] we)] [L,h.objs.size] [textFr w q0 q1 q2 ws n tn x tx (some o),tupO [.int 4 T0,sgV w4]] 2 rfl rfl (by kernel_rfl) top2 ⟨ww2,trivial⟩ ⟨l2,t2,trivial⟩ ⟨.inl fL,.inl gN,trivial⟩ ⟨⟨Nat.ne_of_lt zL,trivial⟩,trivial,trivial⟩ ⟨⟨hwL,Nat.ne_of_lt zw,trivial⟩,trivial⟩
  refine goP F 115 5 11 [1001,1001,1001,7000,1001,1002,1002,1002,1002,1002,1001,1002,1002,1002,1002,1002,1002,1001,1002,1002,1002,1002,1002,1002,1001,1002,1002,1004,1000,1000,1000,1000,1000,1000,1000,1000,1000,7000,7200,1000,7000,7201,1000,7000] [(((n.fdiv 81).fmod 3) == 2) = true,(((n.fdiv 81).fmod 3) == 1) = false] (i:=0) OD hA hh ⟨(by rw [hm]; rfl),(by rw [hm]; rfl),trivial⟩ fun h1=>?_
  intro o_h1 OD
  refine Mn.st (.call (.builtin "str.__iter__") ⟨[.str (S1 w4.1 ++ S1 w4.2.1) w4.2.2],[]⟩) ?_
  refine c_str_iter (all_128 ha hb) fun j1 kj sj hj=>?_
  have zj:h1.objs.size ≤ j1.objs.size:=Nat.le_of_lt (by rw [sj]; exact Nat.lt_succ_self _)
  replace OD:=creG (mm:=6) ((T0 + 1) + 11) [] [] [h1.objs.size] [saiO (S1 w4.1 ++ S1 w4.2.1) w4.2.2 0] OD trivial kj.but zj trivial trivial ⟨⟨Nat.le_refl _,by rw [sj]; exact Nat.lt_succ_self _⟩,trivial⟩ ⟨trivial,trivial⟩ ⟨hj,trivial⟩ rfl (by kernel_rfl) rfl
  refine go F 139 10 15 [1005,7001,10,5,1005,1005,7000,1005,1005,1005,1005,1005,1005,1005,1005,1007,1007,1007,1006,1006,1006,1006,1005,1005,1005,1005,1005,1005,1007,1007,1007,1006,1006,1006,1006,1005,1005,1005,1005,1005,1005,1009,1007,1007,1007,1006,1006,1000,1000,1000,1000,1000] (i:=0) OD hA hh fun h2=>?_
  intro o_h2 OD
  refine Mn.st (.call (.builtin "str.__add__") ⟨[.str x tx,.str (⟨#[92,w4.1,92,w4.2.1,32]⟩:Str) (((T0 + 1) + 11) + 14)],[]⟩) ?_
  refine c_str_add (x:=x) (y:=(⟨#[92,w4.1,92,w4.2.1,32]⟩:Str)) (fun e=>nomatch (show 5 = 0 from e)) (by show x.length + 5 ≤ 5000; lia) fun tx' tk'=>?_
  replace OD:=cre0 tk' OD (Keeps.refl _) (Nat.le_refl _)
  refine go F 7 10 1 [1000,1000] (i:=0) OD hA hh fun h3=>?_
  intro o_h3 OD
  refine Mn.again (c':=textFor w L E) (by kernel_rfl) rfl (by kernel_rfl) ?_
  have kf:=OD.2.kept
  have nIt:∀ {a},a ≠ L → a < h.objs.size → a ∉ [L,h.objs.size]:=fun p q=>NotIn.mem ⟨p,Nat.ne_of_lt q,trivial⟩
  refine K _ _ tx' (o.1,.int 4 T0,o.2.2.1,.str ⟨#[92,w4.1,92,w4.2.1]⟩ (((T0 + 1) + 11) + 8),o.2.2.2.2.1,.int ((n.fdiv 81).fmod 3) ((T0 + 1) + 6)) (sgV w4) (fun b ob eb nb=>kf _ _ (k02 _ _ eb (fun hm=>nb (.tail _ hm))) (nIt (fun e=>nb (by rw [e]; exact .head _)) (Heap.lt_size eb))) (Nat.le_trans (by rw [sz2]; exact Nat.le_succ _) (size_le OD.1 OD.2)) (OD.2.ob 0) (lit_keep (lit_keep hit1 (same_keepsBut hs2) (fun hm=>hEI (List.mem_singleton.mp hm).symm)) kf (nIt hLI.symm zI)) (kf _ _ he2 (nIt hLE.symm zE))
theorem text_t50 (F:Follows w b1 b2) (hA:Lo A 300) (hh:A.handled = none) (top:TopOk w h) (fL:219 ≤ L) (hLI:L ≠ I) (hLE:L ≠ E) (hEI:E ≠ I) (hwL:ws ≠ L) (hwI:ws ≠ I) (hwE:ws ≠ E)
    (s0:h.get? L = some (textFr w q0 q1 q2 ws n tn x tx (some o))) (s1:h.IsListIter I ws 5) (s2:IsEnum h E I (5:Nat) v) (fI:FreeL [I,E]) (hw:h.get? ws = some (listO [sgV w0,sgV w1,sgV w2,sgV w3,sgV w4,sgV w5] we)) (hm:((n.fdiv 243).fmod 3) = 0) (hz:x.length ≤ 1000) (ha:w5.1 ∈ hexs) (hb:w5.2.1 ∈ hexs)
    (K:∀ h' tk' tx' o' v',KeepsBut [L,I,E] h h' → h.objs.size ≤ h'.objs.size → h'.get? L = some (textFr w q0 q1 q2 ws n tn (x ++ ⟨#[w5.1,w5.2.1,10]⟩) tx' (some o')) → h'.IsListIter I ws 6 → IsEnum h' E I (6:Nat) v' → codeAny (model prog w) A (textFor w L E) R ⟨h',g,d,tk',os⟩) :
    codeAny (model prog w) A (textFor w L E) R ⟨h,g,d,T0,os⟩:=by
  have zL:L < h.objs.size:=Heap.lt_size s0
  have zw:ws < h.objs.size:=Heap.lt_size hw
  have zI:I < h.objs.size:=let ⟨_,ho,_⟩:=s1; Heap.lt_size ho
  have zE:E < h.objs.size:=Heap.lt_size s2
  have gN:219 ≤ h.objs.size:=Nat.le_of_lt (Nat.lt_of_le_of_lt fL zL)
  refine for_next (wpAny_pyNext_enum_item (s:=⟨h,g,d,T0,os⟩) (x:=sgV w5) s2 s1 (isList_of hw) rfl hEI fun h1 he1 hit1 ht1 hz1 hk1=>?_)
  refine own_enum (tgt201 w) he1 fun h2 he2 hs2=>?_
  have k02:KeepsBut [I,E] h h2:=fun b ob eb nb=>(hs2.2 b fun e=>nb (by rw [e]; exact .tail _ (.head _))).trans (hk1 b ob (fun e=>nb (by rw [e]; exact .tail _ (.head _))) (fun e=>nb (by rw [e]; exact .head _)) eb)
  have top2:TopOk w h2:=top.keepsBut k02 fI
  have sz2:h2.objs.size = h.objs.size + 1:=hs2.1.trans hz1
  have l2:h2.get? L = some (textFr w q0 q1 q2 ws n tn x tx (some o)):=k02 _ _ s0 (NotIn.mem ⟨hLI,hLE,trivial⟩)
  have ww2:h2.get? ws = some (listO [sgV w0,sgV w1,sgV w2,sgV w3,sgV w4,sgV w5] we):=k02 _ _ hw (NotIn.mem ⟨hwI,hwE,trivial⟩)
  have t2:h2.get? h.objs.size = some (tupO [.int 5 T0,sgV w5]):=(hs2.2 _ (Nat.ne_of_gt zE)).trans ht1
  have OD:=startA (b1:=b1) (b2:=b2) (T0:=T0 + 1) [(ws,listO [sgV w0,sgV w1,sgV w2,sgV w3,sgV w4,sgV w5] we)] [L,h.objs.size] [textFr w q0 q1 q2 ws n tn x tx (some o),tupO [.int 5 T0,sgV w5]] 2 rfl rfl (by kernel_rfl) top2 ⟨ww2,trivial⟩ ⟨l2,t2,trivial⟩ ⟨.inl fL,.inl gN,trivial⟩ ⟨⟨Nat.ne_of_lt zL,trivial⟩,trivial,trivial⟩ ⟨⟨hwL,Nat.ne_of_lt zw,trivial⟩,trivial⟩
  refine goP F 133 5 15 [1001,1001,1001,7000,1001,1002,1002,1002,1002,1002,1001,1002,1002,1002,1002,1002,1002,1001,1002,1002,1002,1002,1002,1002,1001,1002,1002,1004,1000,1000,1000,1000,1000,1000,1000,1000,1000,7000,7200,1000,7000,7200,1000,1000,1000] [(((n.fdiv 243).fmod 3) == 2) = false,(((n.fdiv 243).fmod 3) == 1) = false] (i:=0) OD hA hh ⟨(by rw [hm]; rfl),(by rw [hm]; rfl),trivial⟩ fun h1=>?_
  intro o_h1 OD
  refine Mn.st (.call (.builtin "str.__add__") ⟨[.str x tx,.str (⟨#[w5.1,w5.2.1,10]⟩:Str) ((T0 + 1) + 14)],[]⟩) ?_
  refine c_str_add (x:=x) (y:=(⟨#[w5.1,w5.2.1,10]⟩:Str)) (fun e=>nomatch (show 3 = 0 from e)) (by show x.length + 3 ≤ 5000; lia) fun tx' tk'=>?_
  replace OD:=cre0 tk' OD (Keeps.refl _) (Nat.le_refl _)
  refine go F 7 5 1 [1000,1000] (i:=0) OD hA hh fun h2=>?_
  intro o_h2 OD
  refine Mn.again (c':=textFor w L E) (by kernel_rfl) rfl (by kernel_rfl) ?_
  have kf:=OD.2.kept
  have nIt:∀ {a},a ≠ L → a < h.objs.size → a ∉ [L,h.objs.size]:=fun p q=>NotIn.mem ⟨p,Nat.ne_of_lt q,trivial⟩
  refine K _ _ tx' (o.1,.int 5 T0,o.2.2.1,.str (S1 w5.1 ++ S1 w5.2.1) w5.2.2,o.2.2.2.2.1,.int ((n.fdiv 243).fmod 3) ((T0 + 1) + 6)) (sgV w5) (fun b ob eb nb=>kf _ _ (k02 _ _ eb (fun hm=>nb (.tail _ hm))) (nIt (fun e=>nb (by rw [e]; exact .head _)) (Heap.lt_size eb))) (Nat.le_trans (by rw [sz2]; exact Nat.le_succ _) (size_le OD.1 OD.2)) (OD.2.ob 0) (lit_keep (lit_keep hit1 (same_keepsBut hs2) (fun hm=>hEI (List.mem_singleton.mp hm).symm)) kf (nIt hLI.symm zI)) (kf _ _ he2 (nIt hLE.symm zE))
theorem text_t51 (F:Follows w b1 b2) (hA:Lo A 300) (hh:A.handled = none) (top:TopOk w h) (fL:219 ≤ L) (hLI:L ≠ I) (hLE:L ≠ E) (hEI:E ≠ I) (hwL:ws ≠ L) (hwI:ws ≠ I) (hwE:ws ≠ E)
    (s0:h.get? L = some (textFr w q0 q1 q2 ws n tn x tx (some o))) (s1:h.IsListIter I ws 5) (s2:IsEnum h E I (5:Nat) v) (fI:FreeL [I,E]) (hw:h.get? ws = some (listO [sgV w0,sgV w1,sgV w2,sgV w3,sgV w4,sgV w5] we)) (hm:((n.fdiv 243).fmod 3) = 1) (hz:x.length ≤ 1000) (ha:w5.1 ∈ hexs) (hb:w5.2.1 ∈ hexs)
    (K:∀ h' tk' tx' o' v',KeepsBut [L,I,E] h h' → h.objs.size ≤ h'.objs.size → h'.get? L = some (textFr w q0 q1 q2 ws n tn (x ++ ⟨#[34,w5.1,w5.2.1,34,10]⟩) tx' (some o')) → h'.IsListIter I ws 6 → IsEnum h' E I (6:Nat) v' → codeAny (model prog w) A (textFor w L E) R ⟨h',g,d,tk',os⟩) :
    codeAny (model prog w) A (textFor w L E) R ⟨h,g,d,T0,os⟩:=by
  have zL:L < h.objs.size:=Heap.lt_size s0
  have zw:ws < h.objs.size:=Heap.lt_size hw
  have zI:I < h.objs.size:=let ⟨_,ho,_⟩:=s1; Heap.lt_size ho
  have zE:E < h.objs.size:=Heap.lt_size s2
  have gN:219 ≤ h.objs.size:=Nat.le_of_lt (Nat.lt_of_le_of_lt fL zL)
  refine for_next (wpAny_pyNext_enum_item (s:=⟨h,g,d,T0,os⟩) (x:=sgV w5) s2 s1 (isList_of hw) rfl hEI fun h1 he1 hit1 ht1 hz1 hk1=>?_)
  refine own_enum (tgt201 w) he1 fun h2 he2 hs2=>?_
  have k02:KeepsBut [I,E] h h2:=fun b ob eb nb=>(hs2.2 b fun e=>nb (by rw [e]; exact .tail _ (.head _))).trans (hk1 b ob (fun e=>nb (by rw [e]; exact .tail _ (.head _))) (fun e=>nb (by rw [e]; exact .head _)) eb)
  have top2:TopOk w h2:=top.keepsBut k02 fI
  have sz2:h2.objs.size = h.objs.size + 1:=hs2.1.trans hz1
  have l2:h2.get? L = some (textFr w q0 q1 q2 ws n tn x tx (some o)):=k02 _ _ s0 (NotIn.mem ⟨hLI,hLE,trivial⟩)
  have ww2:h2.get? ws = some (listO [sgV w0,sgV w1,sgV w2,sgV w3,sgV w4,sgV w5] we):=k02 _ _ hw (NotIn.mem ⟨hwI,hwE,trivial⟩)
  have t2:h2.get? h.objs.size = some (tupO [.int 5 T0,sgV w5]):=(hs2.2 _ (Nat.ne_of_gt zE)).trans ht1
  have OD:=startA (b1:=b1) (b2:=b2) (T0:=T0 + 1) [(ws,listO [sgV w0,sgV w1,sgV w2,sgV w3,sgV w4,sgV w5] we)] [L,h.objs.size] [textFr w q0 q1 q2 ws n tn x tx (some o),tupO [.int 5 T0,sgV w5]] 2 rfl rfl (by kernel_rfl) top2 ⟨ww2,trivial⟩ ⟨l2,t2,trivial⟩ ⟨.inl fL,.inl gN,trivial⟩ ⟨⟨Nat.ne_of_lt zL,trivial⟩,trivial,trivial⟩ ⟨⟨hwL,Nat.ne_of_lt zw,trivial⟩,trivial⟩
  refine goP F 148 5 19 [1001,1001,1001,7000,1001,1002,1002,1002,1002,1002,1001,1002,1002,1002,1002,1002,1002,1001,1002,1002,1002,1002,1002,1002,1001,1002,1002,1004,1000,1000,1000,1000,1000,1000,1000,1000,1000,7000,7201,1000,1000,1000,1000,1000,1000] [(((n.fdiv 243).fmod 3) == 1) = true] (i:=0) OD hA hh ⟨(by rw [hm]; rfl),trivial⟩ fun h1=>?_
  intro o_h1 OD
  refine Mn.st (.call (.builtin "str.__add__") ⟨[.str x tx,.str (⟨#[34,w5.1,w5.2.1,34,10]⟩:Str) ((T0 + 1) + 18)],[]⟩) ?_
  refine c_str_add (x:=x) (y:=(⟨#[34,w5.1,w5.2.1,34,10]⟩:Str)) (fun e=>nomatch (show 5 = 0 from e)) (by show x.length + 5 ≤ 5000; lia) fun tx' tk'=>?_
  replace OD:=cre0 tk' OD (Keeps.refl _) (Nat.le_refl _)
  refine go F 7 5 1 [1000,1000] (i:=0) OD hA hh fun h2=>?_
  intro o_h2 OD
  refine Mn.again (c':=textFor w L E) (by kernel_rfl) rfl (by kernel_rfl) ?_
  have kf:=OD.2.kept
  have nIt:∀ {a},a ≠ L → a < h.objs.size → a ∉ [L,h.objs.size]:=fun p q=>NotIn.mem ⟨p,Nat.ne_of_lt q,trivial⟩
  refine K _ _ tx' (o.1,.int 5 T0,o.2.2.1,.str ⟨#[34,w5.1,w5.2.1,34]⟩ ((T0 + 1) + 12),o.2.2.2.2.1,.int ((n.fdiv 243).fmod 3) ((T0 + 1) + 6)) (sgV w5) (fun b ob eb nb=>kf _ _ (k02 _ _ eb (fun hm=>nb (.tail _ hm))) (nIt (fun e=>nb (by rw [e]; exact .head _)) (Heap.lt_size eb))) (Nat.le_trans (by rw [sz2]; exact Nat.le_succ _) (size_le OD.1 OD.2)) (OD.2.ob 0) (lit_keep (lit_keep hit1 (same_keepsBut hs2) (fun hm=>hEI (List.mem_singleton.mp hm).symm)) kf (nIt hLI.symm zI)) (kf _ _ he2 (nIt hLE.symm zE))
theorem text_t52 (F:Follows w b1 b2) (hA:Lo A 300) (hh:A.handled = none) (top:TopOk w h) (fL:219 ≤ L) (hLI:L ≠ I) (hLE:L ≠ E) (hEI:E ≠ I) (hwL:ws ≠ L) (hwI:ws ≠ I) (hwE:ws ≠ E)
    (s0:h.get? L = some (textFr w q0 q1 q2 ws n tn x tx (some o))) (s1:h.IsListIter I ws 5) (s2:IsEnum h E I (5:Nat) v) (fI:FreeL [I,E]) (hw:h.get? ws = some (listO [sgV w0,sgV w1,sgV w2,sgV w3,sgV w4,sgV w5] we)) (hm:((n.fdiv 243).fmod 3) = 2) (hz:x.length ≤ 1000) (ha:w5.1 ∈ hexs) (hb:w5.2.1 ∈ hexs)
    (K:∀ h' tk' tx' o' v',KeepsBut [L,I,E] h h' → h.objs.size ≤ h'.objs.size → h'.get? L = some (textFr w q0 q1 q2 ws n tn (x ++ ⟨#[92,w5.1,92,w5.2.1,10]⟩) tx' (some o')) → h'.IsListIter I ws 6 → IsEnum h' E I (6:Nat) v' → codeAny (model prog w) A (textFor w L E) R ⟨h',g,d,tk',os⟩) :
    codeAny (model prog w) A (textFor w L E) R ⟨h,g,d,T0,os⟩:=by
  have zL:L < h.objs.size:=Heap.lt_size s0
  have zw:ws < h.objs.size:=Heap.lt_size hw
  have zI:I < h.objs.size:=let ⟨_,ho,_⟩:=s1; Heap.lt_size ho
  have zE:E < h.objs.size:=Heap.lt_size s2
  have gN:219 ≤ h.objs.size:=Nat.le_of_lt (Nat.lt_of_le_of_lt fL zL)
  refine for_next (wpAny_pyNext_enum_item (s:=⟨h,g,d,T0,os⟩) (x:=sgV w5) s2 s1 (isList_of hw) rfl hEI fun h1 he1 hit1 ht1 hz1 hk1=>?_)
  refine own_enum (tgt201 w) he1 fun h2 he2 hs2=>?_
  have k02:KeepsBut [I,E] h h2:=fun b ob eb nb=>(hs2.2 b fun e=>nb (by rw [e]; exact .tail _ (.head _))).trans (hk1 b ob (fun e=>nb (by rw [e]; exact .tail _ (.head _))) (fun e=>nb (by rw [e]; exact .head _)) eb)
  have top2:TopOk w h2:=top.keepsBut k02 fI
  have sz2:h2.objs.size = h.objs.size + 1:=hs2.1.trans hz1
  have l2:h2.get? L = some (textFr w q0 q1 q2 ws n tn x tx (some o)):=k02 _ _ s0 (NotIn.mem ⟨hLI,hLE,trivial⟩)
  have ww2:h2.get? ws = some (listO [sgV w0,sgV w1,sgV w2,sgV w3,sgV w4,sgV w5] we):=k02 _ _ hw (NotIn.mem ⟨hwI,hwE,trivial⟩)
  have t2:h2.get? h.objs.size = some (tupO [.int 5 T0,sgV w5]):=(hs2.2 _ (Nat.ne_of_gt zE)).trans ht1
  have OD:=startA (b1:=b1) (b2:=b2) (T0:=T0 + 1) [(ws,listO [sgV w0,sgV w1,sgV w2,sgV w3,sgV w4,sgV w5] we)] [L,h.objs.size] [textFr w q0 q1 q2 ws n tn x tx (some o),tupO [.int 5 T0,sgV w5]] 2 rfl rfl (by kernel_rfl) top2 ⟨ww2,trivial⟩ ⟨l2,t2,trivial⟩ ⟨.inl fL,.inl gN,trivial⟩ ⟨⟨Nat.ne_of_lt zL,trivial⟩,trivial,trivial⟩ ⟨⟨hwL,Nat.ne_of_lt zw,trivial⟩,trivial⟩
  refine goP F 115 5 11 [1001,1001,1001,7000,1001,1002,1002,1002,1002,1002,1001,1002,1002,1002,1002,1002,1002,1001,1002,1002,1002,1002,1002,1002,1001,1002,1002,1004,1000,1000,1000,1000,1000,1000,1000,1000,1000,7000,7200,1000,7000,7201,1000,7000] [(((n.fdiv 243).fmod 3) == 2) = true,(((n.fdiv 243).fmod 3) == 1) = false] (i:=0) OD hA hh ⟨(by rw [hm]; rfl),(by rw [hm]; rfl),trivial⟩ fun h1=>?_
  intro o_h1 OD
  refine Mn.st (.call (.builtin "str.__iter__") ⟨[.str (S1 w5.1 ++ S1 w5.2.1) w5.2.2],[]⟩) ?_
  refine c_str_iter (all_128 ha hb) fun j1 kj sj hj=>?_
  have zj:h1.objs.size ≤ j1.objs.size:=Nat.le_of_lt (by rw [sj]; exact Nat.lt_succ_self _)
  replace OD:=creG (mm:=6) ((T0 + 1) + 11) [] [] [h1.objs.size] [saiO (S1 w5.1 ++ S1 w5.2.1) w5.2.2 0] OD trivial kj.but zj trivial trivial ⟨⟨Nat.le_refl _,by rw [sj]; exact Nat.lt_succ_self _⟩,trivial⟩ ⟨trivial,trivial⟩ ⟨hj,trivial⟩ rfl (by kernel_rfl) rfl
  refine go F 139 10 15 [1005,7001,10,5,1005,1005,7000,1005,1005,1005,1005,1005,1005,1005,1005,1007,1007,1007,1006,1006,1006,1006,1005,1005,1005,1005,1005,1005,1007,1007,1007,1006,1006,1006,1006,1005,1005,1005,1005,1005,1005,1009,1007,1007,1007,1006,1006,1000,1000,1000,1000,1000] (i:=0) OD hA hh fun h2=>?_
  intro o_h2 OD
  refine Mn.st (.call (.builtin "str.__add__") ⟨[.str x tx,.str (⟨#[92,w5.1,92,w5.2.1,10]⟩:Str) (((T0 + 1) + 11) + 14)],[]⟩) ?_
  refine c_str_add (x:=x) (y:=(⟨#[92,w5.1,92,w5.2.1,10]⟩:Str)) (fun e=>nomatch (show 5 = 0 from e)) (by show x.length + 5 ≤ 5000; lia) fun tx' tk'=>?_
  replace OD:=cre0 tk' OD (Keeps.refl _) (Nat.le_refl _)
  refine go F 7 10 1 [1000,1000] (i:=0) OD hA hh fun h3=>?_
  intro o_h3 OD
  refine Mn.again (c':=textFor w L E) (by kernel_rfl) rfl (by kernel_rfl) ?_
  have kf:=OD.2.kept
  have nIt:∀ {a},a ≠ L → a < h.objs.size → a ∉ [L,h.objs.size]:=fun p q=>NotIn.mem ⟨p,Nat.ne_of_lt q,trivial⟩
  refine K _ _ tx' (o.1,.int 5 T0,o.2.2.1,.str ⟨#[92,w5.1,92,w5.2.1]⟩ (((T0 + 1) + 11) + 8),o.2.2.2.2.1,.int ((n.fdiv 243).fmod 3) ((T0 + 1) + 6)) (sgV w5) (fun b ob eb nb=>kf _ _ (k02 _ _ eb (fun hm=>nb (.tail _ hm))) (nIt (fun e=>nb (by rw [e]; exact .head _)) (Heap.lt_size eb))) (Nat.le_trans (by rw [sz2]; exact Nat.le_succ _) (size_le OD.1 OD.2)) (OD.2.ob 0) (lit_keep (lit_keep hit1 (same_keepsBut hs2) (fun hm=>hEI (List.mem_singleton.mp hm).symm)) kf (nIt hLI.symm zI)) (kf _ _ he2 (nIt hLE.symm zE))
end
end Mine
namespace Mine
open PySem PySem.W PySem.W.X PyProof.Rows
section
variable {w:World} {b1 b2:Bool} {A:Around} {R:Result → Shared → Prop} {h:Heap} {g:Array GenState} {d:Drawn} {T0:Nat} {os:OsState}
  {L I E ws:Addr} {q0 q1 q2 tn tx we:Nat} {n:Int} {x:Str} {o:Nat × Value × Nat × Value × Nat × Value} {w0 w1 w2 w3 w4 w5:Nat × Nat × Nat} {v:Value}
theorem app_len {x y x':Str} (e:x' = x ++ y):x'.cps.toList = x.cps.toList ++ y.cps.toList ∧ x'.length = x.length + y.length:=by
  subst e
  exact ⟨by rw [Str.cps_append,Array.toList_append],Str.length_append _ _⟩
theorem text_t0 (F:Follows w b1 b2) (hA:Lo A 300) (hh:A.handled = none) (top:TopOk w h) (fL:219 ≤ L) (hLI:L ≠ I) (hLE:L ≠ E) (hEI:E ≠ I) (hwL:ws ≠ L) (hwI:ws ≠ I) (hwE:ws ≠ E)
    (s0:h.get? L = some (textFr w q0 q1 q2 ws n tn x tx none)) (s1:h.IsListIter I ws 0) (s2:IsEnum h E I (0:Nat) .none) (fI:FreeL [I,E]) (hw:h.get? ws = some (listO [sgV w0,sgV w1,sgV w2,sgV w3,sgV w4,sgV w5] we)) {m:Nat} (hm:((n.fdiv 1).fmod 3) = (m:Int)) (hM:Man m) (hz:x.length ≤ 1000) (ha:w0.1 ∈ hexs) (hb:w0.2.1 ∈ hexs)
    (K:∀ h' tk' tx' o' v' x',x'.cps.toList = x.cps.toList ++ (wordT m w0.1 w0.2.1 ++ [sepN 0]) → x'.length ≤ x.length + 5 → KeepsBut [L,I,E] h h' → h.objs.size ≤ h'.objs.size → h'.get? L = some (textFr w q0 q1 q2 ws n tn x' tx' (some o')) → h'.IsListIter I ws 1 → IsEnum h' E I (1:Nat) v' → codeAny (model prog w) A (textFor w L E) R ⟨h',g,d,tk',os⟩) :
    codeAny (model prog w) A (textFor w L E) R ⟨h,g,d,T0,os⟩:=by
  rcases hM with rfl | rfl | rfl
  · exact text_t00 F hA hh top fL hLI hLE hEI hwL hwI hwE s0 s1 s2 fI hw hm hz ha hb fun h' tk' tx' o' v' k1 z1 l1 i1 e1=>K h' tk' tx' o' v' _ (app_len rfl).1 (by rw [(app_len rfl).2]; exact Nat.add_le_add_left (by show 3 ≤ 5; decide) _) k1 z1 l1 i1 e1
  · exact text_t01 F hA hh top fL hLI hLE hEI hwL hwI hwE s0 s1 s2 fI hw hm hz ha hb fun h' tk' tx' o' v' k1 z1 l1 i1 e1=>K h' tk' tx' o' v' _ (app_len rfl).1 (by rw [(app_len rfl).2]; exact Nat.add_le_add_left (by show 5 ≤ 5; decide) _) k1 z1 l1 i1 e1
  · exact text_t02 F hA hh top fL hLI hLE hEI hwL hwI hwE s0 s1 s2 fI hw hm hz ha hb fun h' tk' tx' o' v' k1 z1 l1 i1 e1=>K h' tk' tx' o' v' _ (app_len rfl).1 (by rw [(app_len rfl).2]; exact Nat.add_le_add_left (by show 5 ≤ 5; decide) _) k1 z1 l1 i1 e1
theorem text_t1 (F:Follows w b1 b2) (hA:Lo A 300) (hh:A.handled = none) (top:TopOk w h) (fL:219 ≤ L) (hLI:L ≠ I) (hLE:L ≠ E) (hEI:E ≠ I) (hwL:ws ≠ L) (hwI:ws ≠ I) (hwE:ws ≠ E)
    (s0:h.get? L = some (textFr w q0 q1 q2 ws n tn x tx (some o))) (s1:h.IsListIter I ws 1) (s2:IsEnum h E I (1:Nat) v) (fI:FreeL [I,E]) (hw:h.get? ws = some (listO [sgV w0,sgV w1,sgV w2,sgV w3,sgV w4,sgV w5] we)) {m:Nat} (hm:((n.fdiv 3).fmod 3) = (m:Int)) (hM:Man m) (hz:x.length ≤ 1000) (ha:w1.1 ∈ hexs) (hb:w1.2.1 ∈ hexs)
    (K:∀ h' tk' tx' o' v' x',x'.cps.toList = x.cps.toList ++ (wordT m w1.1 w1.2.1 ++ [sepN 1]) → x'.length ≤ x.length + 5 → KeepsBut [L,I,E] h h' → h.objs.size ≤ h'.objs.size → h'.get? L = some (textFr w q0 q1 q2 ws n tn x' tx' (some o')) → h'.IsListIter I ws 2 → IsEnum h' E I (2:Nat) v' → codeAny (model prog w) A (textFor w L E) R ⟨h',g,d,tk',os⟩) :
    codeAny (model prog w) A (textFor w L E) R ⟨h,g,d,T0,os⟩:=by
  rcases hM with rfl | rfl | rfl
  · exact text_t10 F hA hh top fL hLI hLE hEI hwL hwI hwE s0 s1 s2 fI hw hm hz ha hb fun h' tk' tx' o' v' k1 z1 l1 i1 e1=>K h' tk' tx' o' v' _ (app_len rfl).1 (by rw [(app_len rfl).2]; exact Nat.add_le_add_left (by show 3 ≤ 5; decide) _) k1 z1 l1 i1 e1
  · exact text_t11 F hA hh top fL hLI hLE hEI hwL hwI hwE s0 s1 s2 fI hw hm hz ha hb fun h' tk' tx' o' v' k1 z1 l1 i1 e1=>K h' tk' tx' o' v' _ (app_len rfl).1 (by rw [(app_len rfl).2]; exact Nat.add_le_add_left (by show 5 ≤ 5; decide) _) k1 z1 l1 i1 e1
  · exact text_t12 F hA hh top fL hLI hLE hEI hwL hwI hwE s0 s1 s2 fI hw hm hz ha hb fun h' tk' tx' o' v' k1 z1 l1 i1 e1=>K h' tk' tx' o' v' _ (app_len rfl).1 (by rw [(app_len rfl).2]; exact Nat.add_le_add_left (by show 5 ≤ 5; decide) _) k1 z1 l1 i1 e1
theorem text_t2 (F:Follows w b1 b2) (hA:Lo A 300) (hh:A.handled = none) (top:TopOk w h) (fL:219 ≤ L) (hLI:L ≠ I) (hLE:L ≠ E) (hEI:E ≠ I) (hwL:ws ≠ L) (hwI:ws ≠ I) (hwE:ws ≠ E)
    (s0:h.get? L = some (textFr w q0 q1 q2 ws n tn x tx (some o))) (s1:h.IsListIter I ws 2) (s2:IsEnum h E I (2:Nat) v) (fI:FreeL [I,E]) (hw:h.get? ws = some (listO [sgV w0,sgV w1,sgV w2,sgV w3,sgV w4,sgV w5] we)) {m:Nat} (hm:((n.fdiv 9).fmod 3) = (m:Int)) (hM:Man m) (hz:x.length ≤ 1000) (ha:w2.1 ∈ hexs) (hb:w2.2.1 ∈ hexs)
    (K:∀ h' tk' tx' o' v' x',x'.cps.toList = x.cps.toList ++ (wordT m w2.1 w2.2.1 ++ [sepN 2]) → x'.length ≤ x.length + 5 → KeepsBut [L,I,E] h h' → h.objs.size ≤ h'.objs.size → h'.get? L = some (textFr w q0 q1 q2 ws n tn x' tx' (some o')) → h'.IsListIter I ws 3 → IsEnum h' E I (3:Nat) v' → codeAny (model prog w) A (textFor w L E) R ⟨h',g,d,tk',os⟩) :
    codeAny (model prog w) A (textFor w L E) R ⟨h,g,d,T0,os⟩:=by
  rcases hM with rfl | rfl | rfl
  · exact text_t20 F hA hh top fL hLI hLE hEI hwL hwI hwE s0 s1 s2 fI hw hm hz ha hb fun h' tk' tx' o' v' k1 z1 l1 i1 e1=>K h' tk' tx' o' v' _ (app_len rfl).1 (by rw [(app_len rfl).2]; exact Nat.add_le_add_left (by show 3 ≤ 5; decide) _) k1 z1 l1 i1 e1
  · exact text_t21 F hA hh top fL hLI hLE hEI hwL hwI hwE s0 s1 s2 fI hw hm hz ha hb fun h' tk' tx' o' v' k1 z1 l1 i1 e1=>K h' tk' tx' o' v' _ (app_len rfl).1 (by rw [(app_len rfl).2]; exact Nat.add_le_add_left (by show 5 ≤ 5; decide) _) k1 z1 l1 i1 e1
  · exact text_t22 F hA hh top fL hLI hLE hEI hwL hwI hwE s0 s1 s2 fI hw hm hz ha hb fun h' tk' tx' o' v' k1 z1 l1 i1 e1=>K h' tk' tx' o' v' _ (app_len rfl).1 (by rw [(app_len rfl).2]; exact Nat.add_le_add_left (by show 5 ≤ 5; decide) _) k1 z1 l1 i1 e1
theorem text_t3 (F:Follows w b1 b2) (hA:Lo A 300) (hh:A.handled = none) (top:TopOk w h) (fL:219 ≤ L) (hLI:L ≠ I) (hLE:L ≠ E) (hEI:E ≠ I) (hwL:ws ≠ L) (hwI:ws ≠ I) (hwE:ws ≠ E)
    (s0:h.get? L = some (textFr w q0 q1 q2 ws n tn x tx (some o))) (s1:h.IsListIter I ws 3) (s2:IsEnum h E I (3:Nat) v) (fI:FreeL [I,E]) (hw:h.get? ws = some (listO [sgV w0,sgV w1,sgV w2,sgV w3,sgV w4,sgV w5] we)) {m:Nat} (hm:((n.fdiv 27).fmod 3) = (m:Int)) (hM:Man m) (hz:x.length ≤ 1000) (ha:w3.1 ∈ hexs) (hb:w3.2.1 ∈ hexs)
    (K:∀ h' tk' tx' o' v' x',x'.cps.toList = x.cps.toList ++ (wordT m w3.1 w3.2.1 ++ [sepN 3]) → x'.length ≤ x.length + 5 → KeepsBut [L,I,E] h h' → h.objs.size ≤ h'.objs.size → h'.get? L = some (textFr w q0 q1 q2 ws n tn x' tx' (some o')) → h'.IsListIter I ws 4 → IsEnum h' E I (4:Nat) v' → codeAny (model prog w) A (textFor w L E) R ⟨h',g,d,tk',os⟩) :
    codeAny (model prog w) A (textFor w L E) R ⟨h,g,d,T0,os⟩:=by
  rcases hM with rfl | rfl | rfl
  · exact text_t30 F hA hh top fL hLI hLE hEI hwL hwI hwE s0 s1 s2 fI hw hm hz ha hb fun h' tk' tx' o' v' k1 z1 l1 i1 e1=>K h' tk' tx' o' v' _ (app_len rfl).1 (by rw [(app_len rfl).2]; exact Nat.add_le_add_left (by show 3 ≤ 5; decide) _) k1 z1 l1 i1 e1
  · exact text_t31 F hA hh top fL hLI hLE hEI hwL hwI hwE s0 s1 s2 fI hw hm hz ha hb fun h' tk' tx' o' v' k1 z1 l1 i1 e1=>K h' tk' tx' o' v' _ (app_len rfl).1 (by rw [(app_len rfl).2]; exact Nat.add_le_add_left (by show 5 ≤ 5; decide) _) k1 z1 l1 i1 e1
  · exact text_t32 F hA hh top fL hLI hLE hEI hwL hwI hwE s0 s1 s2 fI hw hm hz ha hb fun h' tk' tx' o' v' k1 z1 l1 i1 e1=>K h' tk' tx' o' v' _ (app_len rfl).1 (by rw [(app_len rfl).2]; exact Nat.add_le_add_left (by show 5 ≤ 5; decide) _) k1 z1 l1 i1 e1
theorem text_t4 (F:Follows w b1 b2) (hA:Lo A 300) (hh:A.handled = none) (top:TopOk w h) (fL:219 ≤ L) (hLI:L ≠ I) (hLE:L ≠ E) (hEI:E ≠ I) (hwL:ws ≠ L) (hwI:ws ≠ I) (hwE:ws ≠ E)
    (s0:h.get? L = some (textFr w q0 q1 q2 ws n tn x tx (some o))) (s1:h.IsListIter I ws 4) (s2:IsEnum h E I (4:Nat) v) (fI:FreeL [I,E]) (hw:h.get? ws = some (listO [sgV w0,sgV w1,sgV w2,sgV w3,sgV w4,sgV w5] we)) {m:Nat} (hm:((n.fdiv 81).fmod 3) = (m:Int)) (hM:Man m) (hz:x.length ≤ 1000) (ha:w4.1 ∈ hexs) (hb:w4.2.1 ∈ hexs)
    (K:∀ h' tk' tx' o' v' x',x'.cps.toList = x.cps.toList ++ (wordT m w4.1 w4.2.1 ++ [sepN 4]) → x'.length ≤ x.length + 5 → KeepsBut [L,I,E] h h' → h.objs.size ≤ h'.objs.size → h'.get? L = some (textFr w q0 q1 q2 ws n tn x' tx' (some o')) → h'.IsListIter I ws 5 → IsEnum h' E I (5:Nat) v' → codeAny (model prog w) A (textFor w L E) R ⟨h',g,d,tk',os⟩) :
    codeAny (model prog w) A (textFor w L E) R ⟨h,g,d,T0,os⟩:=by
  rcases hM with rfl | rfl | rfl
  · exact text_t40 F hA hh top fL hLI hLE hEI hwL hwI hwE s0 s1 s2 fI hw hm hz ha hb fun h' tk' tx' o' v' k1 z1 l1 i1 e1=>K h' tk' tx' o' v' _ (app_len rfl).1 (by rw [(app_len rfl).2]; exact Nat.add_le_add_left (by show 3 ≤ 5; decide) _) k1 z1 l1 i1 e1
  · exact text_t41 F hA hh top fL hLI hLE hEI hwL hwI hwE s0 s1 s2 fI hw hm hz ha hb fun h' tk' tx' o' v' k1 z1 l1 i1 e1=>K h' tk' tx' o' v' _ (app_len rfl).1 (by rw [(app_len rfl).2]; exact Nat.add_le_add_left (by show 5 ≤ 5; decide) _) k1 z1 l1 i1 e1
  · exact text_t42 F hA hh top fL hLI hLE hEI hwL hwI hwE s0 s1 s2 fI hw hm hz ha hb fun h' tk' tx' o' v' k1 z1 l1 i1 e1=>K h' tk' tx' o' v' _ (app_len rfl).1 (by rw [(app_len rfl).2]; exact Nat.add_le_add_left (by show 5 ≤ 5; decide) _) k1 z1 l1 i1 e1
theorem text_t5 (F:Follows w b1 b2) (hA:Lo A 300) (hh:A.handled = none) (top:TopOk w h) (fL:219 ≤ L) (hLI:L ≠ I) (hLE:L ≠ E) (hEI:E ≠ I) (hwL:ws ≠ L) (hwI:ws ≠ I) (hwE:ws ≠ E)
    (s0:h.get? L = some (textFr w q0 q1 q2 ws n tn x tx (some o))) (s1:h.IsListIter I ws 5) (s2:IsEnum h E I (5:Nat) v) (fI:FreeL [I,E]) (hw:h.get? ws = some (listO [sgV w0,sgV w1,sgV w2,sgV w3,sgV w4,sgV w5] we)) {m:Nat} (hm:((n.fdiv 243).fmod 3) = (m:Int)) (hM:Man m) (hz:x.length ≤ 1000) (ha:w5.1 ∈ hexs) (hb:w5.2.1 ∈ hexs)
    (K:∀ h' tk' tx' o' v' x',x'.cps.toList = x.cps.toList ++ (wordT m w5.1 w5.2.1 ++ [sepN 5]) → x'.length ≤ x.length + 5 → KeepsBut [L,I,E] h h' → h.objs.size ≤ h'.objs.size → h'.get? L = some (textFr w q0 q1 q2 ws n tn x' tx' (some o')) → h'.IsListIter I ws 6 → IsEnum h' E I (6:Nat) v' → codeAny (model prog w) A (textFor w L E) R ⟨h',g,d,tk',os⟩) :
    codeAny (model prog w) A (textFor w L E) R ⟨h,g,d,T0,os⟩:=by
  rcases hM with rfl | rfl | rfl
  · exact text_t50 F hA hh top fL hLI hLE hEI hwL hwI hwE s0 s1 s2 fI hw hm hz ha hb fun h' tk' tx' o' v' k1 z1 l1 i1 e1=>K h' tk' tx' o' v' _ (app_len rfl).1 (by rw [(app_len rfl).2]; exact Nat.add_le_add_left (by show 3 ≤ 5; decide) _) k1 z1 l1 i1 e1
  · exact text_t51 F hA hh top fL hLI hLE hEI hwL hwI hwE s0 s1 s2 fI hw hm hz ha hb fun h' tk' tx' o' v' k1 z1 l1 i1 e1=>K h' tk' tx' o' v' _ (app_len rfl).1 (by rw [(app_len rfl).2]; exact Nat.add_le_add_left (by show 5 ≤ 5; decide) _) k1 z1 l1 i1 e1
  · exact text_t52 F hA hh top fL hLI hLE hEI hwL hwI hwE s0 s1 s2 fI hw hm hz ha hb fun h' tk' tx' o' v' k1 z1 l1 i1 e1=>K h' tk' tx' o' v' _ (app_len rfl).1 (by rw [(app_len rfl).2]; exact Nat.add_le_add_left (by show 5 ≤ 5; decide) _) k1 z1 l1 i1 e1
theorem text_call (F:Follows w b1 b2) (hA:Lo A 100) (hh:A.handled = none) (top:TopOk w h) (fw:219 ≤ ws) (hw:h.get? ws = some (listO [sgV w0,sgV w1,sgV w2,sgV w3,sgV w4,sgV w5] we)) {m0:Nat} {m1:Nat} {m2:Nat} {m3:Nat} {m4:Nat} {m5:Nat} (hm0:((n.fdiv 1).fmod 3) = (m0:Int)) (hM0:Man m0) (ha0:w0.1 ∈ hexs) (hb0:w0.2.1 ∈ hexs) (hm1:((n.fdiv 3).fmod 3) = (m1:Int)) (hM1:Man m1) (ha1:w1.1 ∈ hexs) (hb1:w1.2.1 ∈ hexs) (hm2:((n.fdiv 9).fmod 3) = (m2:Int)) (hM2:Man m2) (ha2:w2.1 ∈ hexs) (hb2:w2.2.1 ∈ hexs) (hm3:((n.fdiv 27).fmod 3) = (m3:Int)) (hM3:Man m3) (ha3:w3.1 ∈ hexs) (hb3:w3.2.1 ∈ hexs) (hm4:((n.fdiv 81).fmod 3) = (m4:Int)) (hM4:Man m4) (ha4:w4.1 ∈ hexs) (hb4:w4.2.1 ∈ hexs) (hm5:((n.fdiv 243).fmod 3) = (m5:Int)) (hM5:Man m5) (ha5:w5.1 ∈ hexs) (hb5:w5.2.1 ∈ hexs)
    (K:∀ h' tk' x' tx',Keeps h h' → h.objs.size ≤ h'.objs.size → x'.cps.toList = textT 0 [(m0,w0.1,w0.2.1),(m1,w1.1,w1.2.1),(m2,w2.1,w2.2.1),(m3,w3.1,w3.2.1),(m4,w4.1,w4.2.1),(m5,w5.1,w5.2.1)] → R (.ok (.ret (.str x' tx'))) ⟨h',g,d,tk',os⟩) :
    codeAny (model prog w) A (.call (.ref 201) ⟨[.ref ws,.int n tn],[]⟩) R ⟨h,g,d,T0,os⟩:=by
  refine Mn.enter hA ?_
  have lw:ws < h.objs.size:=Heap.lt_size hw
  have gN:219 ≤ h.objs.size:=Nat.le_of_lt (Nat.lt_of_le_of_lt fw lw)
  have OD:=start0 (w:=w) (b1:=b1) (b2:=b2) (ro:=[(ws,listO [sgV w0,sgV w1,sgV w2,sgV w3,sgV w4,sgV w5] we)]) (s:=⟨h,g,d,T0,os⟩) top (At.mem ⟨hw,trivial⟩)
  refine go F 30 1 4 [201,200,1000,1000,1000,1000,2,1000,1000,3,0,1000] (i:=0) OD hA hh fun h1=>?_
  intro o_h1 OD
  have z1:h1.objs.size = h.objs.size + 1:=OD.2.size
  have k1:=OD.2.kept0
  refine Mn.stopV (.type "enumerate") [.ref ws] (by kernel_rfl) ?_
  refine call_enumerate_list (isList_of (OD.2.still 0 rfl)) fun j1 he hi hs hk=>?_
  have zj:h1.objs.size + 1 < j1.objs.size:=by have:j1.objs.size = h1.objs.size + 2:=hs; lia
  replace OD:=creG (mm:=2) (T0 + 4) [] [] [h1.objs.size + 1] [enumO h1.objs.size 0 .none] OD trivial (show KeepsBut [] h1 j1 from fun b o e _=>hk b o e) (Nat.le_of_lt (Nat.lt_of_succ_lt zj)) trivial trivial ⟨⟨Nat.le_succ _,zj⟩,trivial⟩ ⟨trivial,trivial⟩ ⟨he,trivial⟩ rfl (by kernel_rfl) rfl
  have W:=OD
  replace OD:=fresh OD rfl rfl
  refine go F 10 2 0 [1001,1001,7000,1001,1001] (i:=0) OD hA hh fun h2=>?_
  intro o_h2 OD
  refine Mn.st (textFor w (h.objs.size + 0) (h1.objs.size + 1)) ?_
  have kf:KeepsBut ([] ++ upF h.objs.size (1 - 0) ++ [h1.objs.size + 1]) j1 h2:=OD.2.kept
  have nI:h1.objs.size ∉ ([] ++ upF h.objs.size (1 - 0) ++ [h1.objs.size + 1]):=NotIn.mem (show NotIn h1.objs.size [h.objs.size + 0,h1.objs.size + 1] from ⟨by rw [z1]; exact (Nat.ne_of_lt (Nat.lt_succ_self _)).symm,Nat.ne_of_lt (Nat.lt_succ_self _),trivial⟩)
  have kA:Keeps h h2:=fun b o e=>kf b o (hk b o (k1 b o e)) (NotIn.mem (show NotIn b [h.objs.size + 0,h1.objs.size + 1] from ⟨Nat.ne_of_lt (Heap.lt_size e),Nat.ne_of_lt (Nat.lt_of_lt_of_le (Heap.lt_size e) (by rw [z1]; exact Nat.le_add_right_of_le (Nat.le_succ _))),trivial⟩))
  have zA:h.objs.size ≤ h2.objs.size:=Nat.le_trans (by lia) (size_le OD.1 OD.2)
  have s0:h2.get? (h.objs.size + 0) = some (textFr w (T0 + 0) (T0 + 1) (T0 + 3) ws n tn S0 (T0 + 2) none):=OD.2.ob 0
  have s1:h2.IsListIter h1.objs.size ws 0:=lit_keep hi kf nI
  have s2:IsEnum h2 (h1.objs.size + 1) h1.objs.size ((0:Nat):Int) .none:=OD.2.ob 1 (o:=(enumO h1.objs.size 0 .none)) (ea:=rfl)
  have a1:(h.objs.size + 0) ≠ h1.objs.size:=by rw [z1]; exact addk (by decide)
  have a2:(h.objs.size + 0) ≠ (h1.objs.size + 1):=by rw [z1]; exact addk (a:=0) (b:=2) (by decide)
  have a3:(h1.objs.size + 1) ≠ h1.objs.size:=(Nat.ne_of_lt (Nat.lt_succ_self _)).symm
  have a4:ws ≠ (h.objs.size + 0):=ltk lw
  have a5:ws ≠ h1.objs.size:=by rw [z1]; exact ltk lw
  have a6:ws ≠ (h1.objs.size + 1):=by rw [z1]; exact ltk (b:=2) lw
  have fI:FreeL [h1.objs.size,(h1.objs.size + 1)]:=⟨.inl (by rw [z1]; exact Nat.le_add_right_of_le gN),.inl (by rw [z1]; exact Nat.le_add_right_of_le (Nat.le_add_right_of_le gN)),trivial⟩
  have fA:FreeL [(h.objs.size + 0),h1.objs.size,(h1.objs.size + 1)]:=⟨.inl (Nat.le_add_right_of_le gN),fI.1,fI.2.1,trivial⟩
  have fL:219 ≤ (h.objs.size + 0):=Nat.le_add_right_of_le gN
  have nw:ws ∉ [(h.objs.size + 0),h1.objs.size,(h1.objs.size + 1)]:=NotIn.mem ⟨a4,a5,a6,trivial⟩
  have tA:TopOk w h2:=fun a o e=>OD.2.top a o e
  have w0':=kA _ _ hw
  skip
  have x0l:S0.length ≤ 0:=Nat.le_refl _
  refine text_t0 F (dk hA) (aH hh) tA fL a1 a2 a3 a4 a5 a6 s0 s1 s2 fI w0' hm0 hM0 (Nat.le_trans x0l (by decide)) ha0 hb0 fun y0 tk0 tx0 o0 v0 x0 xe0 xq0 k0 z0 l0 i0 e0=>?_
  have tp0:TopOk w y0:=TopOk.keepsBut tA k0 fA
  have ww0:=k0 _ _ w0' nw
  have xl0:x0.length ≤ 5:=Nat.le_trans xq0 (Nat.add_le_add_right x0l 5)
  refine text_t1 F (dk hA) (aH hh) tp0 fL a1 a2 a3 a4 a5 a6 l0 i0 e0 fI ww0 hm1 hM1 (Nat.le_trans xl0 (by decide)) ha1 hb1 fun y1 tk1 tx1 o1 v1 x1 xe1 xq1 k1x z1x l1 i1 e1=>?_
  have tp1:TopOk w y1:=TopOk.keepsBut tp0 k1x fA
  have ww1:=k1x _ _ ww0 nw
  have xl1:x1.length ≤ 10:=Nat.le_trans xq1 (Nat.add_le_add_right xl0 5)
  refine text_t2 F (dk hA) (aH hh) tp1 fL a1 a2 a3 a4 a5 a6 l1 i1 e1 fI ww1 hm2 hM2 (Nat.le_trans xl1 (by decide)) ha2 hb2 fun y2 tk2 tx2 o2 v2 x2 xe2 xq2 k2 z2 l2 i2 e2=>?_
  have tp2:TopOk w y2:=TopOk.keepsBut tp1 k2 fA
  have ww2:=k2 _ _ ww1 nw
  have xl2:x2.length ≤ 15:=Nat.le_trans xq2 (Nat.add_le_add_right xl1 5)
  refine text_t3 F (dk hA) (aH hh) tp2 fL a1 a2 a3 a4 a5 a6 l2 i2 e2 fI ww2 hm3 hM3 (Nat.le_trans xl2 (by decide)) ha3 hb3 fun y3 tk3 tx3 o3 v3 x3 xe3 xq3 k3 z3 l3 i3 e3=>?_
  have tp3:TopOk w y3:=TopOk.keepsBut tp2 k3 fA
  have ww3:=k3 _ _ ww2 nw
  have xl3:x3.length ≤ 20:=Nat.le_trans xq3 (Nat.add_le_add_right xl2 5)
  refine text_t4 F (dk hA) (aH hh) tp3 fL a1 a2 a3 a4 a5 a6 l3 i3 e3 fI ww3 hm4 hM4 (Nat.le_trans xl3 (by decide)) ha4 hb4 fun y4 tk4 tx4 o4 v4 x4 xe4 xq4 k4 z4 l4 i4 e4=>?_
  have tp4:TopOk w y4:=TopOk.keepsBut tp3 k4 fA
  have ww4:=k4 _ _ ww3 nw
  have xl4:x4.length ≤ 25:=Nat.le_trans xq4 (Nat.add_le_add_right xl3 5)
  refine text_t5 F (dk hA) (aH hh) tp4 fL a1 a2 a3 a4 a5 a6 l4 i4 e4 fI ww4 hm5 hM5 (Nat.le_trans xl4 (by decide)) ha5 hb5 fun y5 tk5 tx5 o5 v5 x5 xe5 xq5 k5 z5 l5 i5 e5=>?_
  have tp5:TopOk w y5:=TopOk.keepsBut tp4 k5 fA
  have ww5:=k5 _ _ ww4 nw
  have xl5:x5.length ≤ 30:=Nat.le_trans xq5 (Nat.add_le_add_right xl4 5)
  refine for_next (wpAny_pyNext_enum_end (aH hh) e5 i5 (isList_of ww5) rfl fun y6 k6=>?_)
  have t6:TopOk w y6:=fun a o eo=>k6 a o (fun hm=>by rw [hm] at eo; have:=fI.1; rw [FreeL.mem fI _ (.head _)] at eo; cases eo) (tp5 a o eo)
  have l6:y6.get? (h.objs.size + 0) = _:=k6 _ _ a1 l5
  have OD2:=startA (b1:=b1) (b2:=b2) (T0:=tk5) [] [(h.objs.size + 0)] [_] 1 rfl rfl (by kernel_rfl) t6 trivial ⟨l6,trivial⟩ ⟨.inl fL,trivial⟩ ⟨trivial,trivial⟩ trivial
  refine go F 3 1 0 [1000] (i:=0) OD2 hA hh fun y7=>?_
  intro o_y7 OD2
  refine Mn.en (.ret (.str x5 tx5)) ?_
  have k7:=OD2.2.kept
  refine K _ _ x5 tx5 (fun b o eb=>?_) (Nat.le_trans (Nat.le_of_lt (Nat.lt_of_le_of_lt (show h.objs.size ≤ (h1.objs.size + 1) by lia) (Heap.lt_size (k6 _ _ a3 e5)))) (size_le OD2.1 OD2.2)) ?_
  · have n3:b ∉ [(h.objs.size + 0),h1.objs.size,(h1.objs.size + 1)]:=NotIn.mem ⟨ltk (Heap.lt_size eb),by rw [z1]; exact ltk (Heap.lt_size eb),by rw [z1]; exact ltk (b:=2) (Heap.lt_size eb),trivial⟩
    exact k7 _ _ (k6 _ _ (fun e=>n3 (by rw [e]; exact .tail _ (.head _))) (k5 _ _ (k4 _ _ (k3 _ _ (k2 _ _ (k1x _ _ (k0 _ _ (kA _ _ eb) n3) n3) n3) n3) n3) n3)) (fun hm=>n3 (by rw [List.mem_singleton.mp hm]; exact .head _))
  · rw [xe5,xe4,xe3,xe2,xe1,xe0]
    simp only [textT,List.append_assoc,List.cons_append,List.nil_append,List.append_nil,S0]
end
end Mine
namespace Mine
open PySem PySem.W PySem.W.X PyProof.Rows
noncomputable def popS:List Int → Int → List (Int × Nat) → List (Int × Nat)
  | [],_,_=>[]
  | k :: r,n,xs=>match xs[(n.fmod k).toNat]? with
    | none=>[]
    | some y=>y :: popS r (n.fdiv k) (xs.eraseIdx (n.fmod k).toNat)
section
variable {w:World} {b1 b2:Bool} {A:Around} {R:Result → Shared → Prop} {h:Heap} {g:Array GenState} {d:Drawn} {T0:Nat} {os:OsState} {n:Int} {tn:Nat}
theorem get_lt {α:Type} {l:List α} {k:Nat} (h:k < l.length):∃ y,l[k]? = some y:=⟨l[k],List.getElem?_eq_getElem h⟩
theorem len_lt {α:Type} {l:List α} {m:Nat} (h:l.length = m) {x k:Int} (hk:0 < k) (e:k = (m:Int)):(x.fmod k).toNat < l.length:=h ▸ fmod_nat hk e
theorem len_er {α:Type} {l:List α} {m:Nat} (h:l.length = m + 1) {x k:Int} (hk:0 < k) (e:k = ((m + 1:Nat):Int)):(l.eraseIdx (x.fmod k).toNat).length = m:=by
  rw [List.length_eraseIdx_of_lt (len_lt h hk e),h]; rfl
theorem order_call (F:Follows w b1 b2) (hA:Lo A 300) (hh:A.handled = none) (top:TopOk w h)
    (K:∀ h' tk' L xs ys e,Keeps h h' → h.objs.size ≤ L → h.objs.size ≤ h'.objs.size → h'.get? L = some (listO (intsV ys) e) → xs.map (·.1) = [0,1,2,3,4,5] → ys = popS [6,5,4,3,2,1] n xs → R (.ok (.ret (.ref L))) ⟨h',g,d,tk',os⟩) :
    codeAny (model prog w) A (.call (.ref 196) ⟨[.int n tn],[]⟩) R ⟨h,g,d,T0,os⟩:=by
  refine Mn.enter hA ?_
  have OD:=start0 (w:=w) (b1:=b1) (b2:=b2) (ro:=[]) (s:=⟨h,g,d,T0,os⟩) top (fun q hq=>nomatch hq)
  refine go F 39 2 4 [196,195,1000,1000,2,3,0,3,0,1001,1001,1001,1001] (i:=0) OD hA hh fun h1=>?_
  intro o_h1 OD
  have z1:h.objs.size ≤ h1.objs.size:=size_le OD.1 OD.2
  refine Mn.stopV (.type "list") [.ref (h.objs.size + 1)] (by kernel_rfl) ?_
  refine v_list_range (n:=6) (aH hh) (OD.2.ob 1 (o:=(rangeO 0 (T0 + 2) 6 (T0 + 1) 1 (T0 + 3))) (ea:=rfl)) (by kernel_rfl) (by kernel_rfl) (by lia) fun k1 tk1 xs e1 hk1 hs1 hx1 hxs=>?_
  replace OD:=creG (mm:=3) tk1 [] [] [h1.objs.size] [listO (intsV xs) e1] OD trivial hk1.but (Nat.le_of_lt hs1) trivial trivial ⟨⟨Nat.le_refl _,hs1⟩,trivial⟩ ⟨trivial,trivial⟩ ⟨hx1,trivial⟩ rfl (by kernel_rfl) rfl
  have l0:xs.length = 6:=by have:=congrArg List.length hxs; simpa using this
  refine go F 152 10 9 [1004,1004,1004,7000,1004,1005,1005,1005,1005,1005,1004,1005,1005,1005,1005,1005,1005,1004,1005,1005,1005,1005,1005,1005,1004,1005,1005,1007,1000,1000,1000,1000,3,0,1008,1008,1008,1008,1008,1008,7000,1008,1008,1008,1008,1009,1009,1009,1009,1009,1009,1009,1009,1009,1009,1000,1000,1000,1003,1003,1003,1003,1000,1002,1002,1002,1002,1000,1000] (i:=0) OD hA hh fun h2=>?_
  intro o_h2 OD
  refine Mn.st (.call (.builtin "list.pop") ⟨[.ref h1.objs.size,.int (n.fmod 6) (tk1 + 8)],[]⟩) ?_
  obtain ⟨y0,hy0⟩:=get_lt (l:=xs) (k:=(n.fmod 6).toNat) (len_lt l0 (by decide) rfl)
  refine c_list_pop (vs:=xs) (OD.2.ob 2 (o:=((listO (intsV xs) (e1)))) (ea:=rfl)) (Int.fmod_nonneg_of_pos _ (by decide)) hy0 (by lia) fun j0 ha0 hb0=>?_
  replace OD:=cre1 (tk1 + 9) 2 h1.objs.size OD (by kernel_rfl:_ = some (listO (intsV xs) (e1))) rfl (same_keepsBut hb0) (Nat.le_of_eq hb0.1.symm) ha0
  have l1:(xs.eraseIdx (n.fmod 6).toNat).length = 5:=len_er l0 (by decide) rfl
  refine go F 75 10 5 [1003,1003,1003,1003,1000,1000,1000,1000,1009,1009,1009,1009,1009,1009,1009,1009,1009,1000,1000,1000,1003,1003,1003,1003,1000,1002,1002,1002,1002,1000,1000] (i:=0) OD hA hh fun h3=>?_
  intro o_h3 OD
  refine Mn.st (.call (.builtin "list.pop") ⟨[.ref h1.objs.size,.int ((n.fdiv 6).fmod 5) ((tk1 + 9) + 4)],[]⟩) ?_
  obtain ⟨y1,hy1⟩:=get_lt (l:=(xs.eraseIdx (n.fmod 6).toNat)) (k:=((n.fdiv 6).fmod 5).toNat) (len_lt l1 (by decide) rfl)
  refine c_list_pop (vs:=(xs.eraseIdx (n.fmod 6).toNat)) (OD.2.ob 2 (o:=((listO (intsV (xs.eraseIdx (n.fmod 6).toNat)) (e1 + 1)))) (ea:=rfl)) (Int.fmod_nonneg_of_pos _ (by decide)) hy1 (by omega) fun j1 ha1 hb1=>?_
  replace OD:=cre1 ((tk1 + 9) + 5) 2 h1.objs.size OD (by kernel_rfl:_ = some (listO (intsV (xs.eraseIdx (n.fmod 6).toNat)) (e1 + 1))) rfl (same_keepsBut hb1) (Nat.le_of_eq hb1.1.symm) ha1
  have l2:((xs.eraseIdx (n.fmod 6).toNat).eraseIdx ((n.fdiv 6).fmod 5).toNat).length = 4:=len_er l1 (by decide) rfl
  refine go F 75 10 5 [1003,1003,1003,1003,1000,1000,1000,1000,1009,1009,1009,1009,1009,1009,1009,1009,1009,1000,1000,1000,1003,1003,1003,1003,1000,1002,1002,1002,1002,1000,1000] (i:=0) OD hA hh fun h4=>?_
  intro o_h4 OD
  refine Mn.st (.call (.builtin "list.pop") ⟨[.ref h1.objs.size,.int (((n.fdiv 6).fdiv 5).fmod 4) (((tk1 + 9) + 5) + 4)],[]⟩) ?_
  obtain ⟨y2,hy2⟩:=get_lt (l:=((xs.eraseIdx (n.fmod 6).toNat).eraseIdx ((n.fdiv 6).fmod 5).toNat)) (k:=(((n.fdiv 6).fdiv 5).fmod 4).toNat) (len_lt l2 (by decide) rfl)
  refine c_list_pop (vs:=((xs.eraseIdx (n.fmod 6).toNat).eraseIdx ((n.fdiv 6).fmod 5).toNat)) (OD.2.ob 2 (o:=((listO (intsV ((xs.eraseIdx (n.fmod 6).toNat).eraseIdx ((n.fdiv 6).fmod 5).toNat)) (e1 + 1 + 1)))) (ea:=rfl)) (Int.fmod_nonneg_of_pos _ (by decide)) hy2 (by omega) fun j2 ha2 hb2=>?_
  replace OD:=cre1 (((tk1 + 9) + 5) + 5) 2 h1.objs.size OD (by kernel_rfl:_ = some (listO (intsV ((xs.eraseIdx (n.fmod 6).toNat).eraseIdx ((n.fdiv 6).fmod 5).toNat)) (e1 + 1 + 1))) rfl (same_keepsBut hb2) (Nat.le_of_eq hb2.1.symm) ha2
  have l3:(((xs.eraseIdx (n.fmod 6).toNat).eraseIdx ((n.fdiv 6).fmod 5).toNat).eraseIdx (((n.fdiv 6).fdiv 5).fmod 4).toNat).length = 3:=len_er l2 (by decide) rfl
  refine go F 75 10 5 [1003,1003,1003,1003,1000,1000,1000,1000,1009,1009,1009,1009,1009,1009,1009,1009,1009,1000,1000,1000,1003,1003,1003,1003,1000,1002,1002,1002,1002,1000,1000] (i:=0) OD hA hh fun h5=>?_
  intro o_h5 OD
  refine Mn.st (.call (.builtin "list.pop") ⟨[.ref h1.objs.size,.int ((((n.fdiv 6).fdiv 5).fdiv 4).fmod 3) ((((tk1 + 9) + 5) + 5) + 4)],[]⟩) ?_
  obtain ⟨y3,hy3⟩:=get_lt (l:=(((xs.eraseIdx (n.fmod 6).toNat).eraseIdx ((n.fdiv 6).fmod 5).toNat).eraseIdx (((n.fdiv 6).fdiv 5).fmod 4).toNat)) (k:=((((n.fdiv 6).fdiv 5).fdiv 4).fmod 3).toNat) (len_lt l3 (by decide) rfl)
  refine c_list_pop (vs:=(((xs.eraseIdx (n.fmod 6).toNat).eraseIdx ((n.fdiv 6).fmod 5).toNat).eraseIdx (((n.fdiv 6).fdiv 5).fmod 4).toNat)) (OD.2.ob 2 (o:=((listO (intsV (((xs.eraseIdx (n.fmod 6).toNat).eraseIdx ((n.fdiv 6).fmod 5).toNat).eraseIdx (((n.fdiv 6).fdiv 5).fmod 4).toNat)) (e1 + 1 + 1 + 1)))) (ea:=rfl)) (Int.fmod_nonneg_of_pos _ (by decide)) hy3 (by omega) fun j3 ha3 hb3=>?_
  replace OD:=cre1 ((((tk1 + 9) + 5) + 5) + 5) 2 h1.objs.size OD (by kernel_rfl:_ = some (listO (intsV (((xs.eraseIdx (n.fmod 6).toNat).eraseIdx ((n.fdiv 6).fmod 5).toNat).eraseIdx (((n.fdiv 6).fdiv 5).fmod 4).toNat)) (e1 + 1 + 1 + 1))) rfl (same_keepsBut hb3) (Nat.le_of_eq hb3.1.symm) ha3
  have l4:((((xs.eraseIdx (n.fmod 6).toNat).eraseIdx ((n.fdiv 6).fmod 5).toNat).eraseIdx (((n.fdiv 6).fdiv 5).fmod 4).toNat).eraseIdx ((((n.fdiv 6).fdiv 5).fdiv 4).fmod 3).toNat).length = 2:=len_er l3 (by decide) rfl
  refine go F 75 10 5 [1003,1003,1003,1003,1000,1000,1000,1000,1009,1009,1009,1009,1009,1009,1009,1009,1009,1000,1000,1000,1003,1003,1003,1003,1000,1002,1002,1002,1002,1000,1000] (i:=0) OD hA hh fun h6=>?_
  intro o_h6 OD
  refine Mn.st (.call (.builtin "list.pop") ⟨[.ref h1.objs.size,.int (((((n.fdiv 6).fdiv 5).fdiv 4).fdiv 3).fmod 2) (((((tk1 + 9) + 5) + 5) + 5) + 4)],[]⟩) ?_
  obtain ⟨y4,hy4⟩:=get_lt (l:=((((xs.eraseIdx (n.fmod 6).toNat).eraseIdx ((n.fdiv 6).fmod 5).toNat).eraseIdx (((n.fdiv 6).fdiv 5).fmod 4).toNat).eraseIdx ((((n.fdiv 6).fdiv 5).fdiv 4).fmod 3).toNat)) (k:=(((((n.fdiv 6).fdiv 5).fdiv 4).fdiv 3).fmod 2).toNat) (len_lt l4 (by decide) rfl)
  refine c_list_pop (vs:=((((xs.eraseIdx (n.fmod 6).toNat).eraseIdx ((n.fdiv 6).fmod 5).toNat).eraseIdx (((n.fdiv 6).fdiv 5).fmod 4).toNat).eraseIdx ((((n.fdiv 6).fdiv 5).fdiv 4).fmod 3).toNat)) (OD.2.ob 2 (o:=((listO (intsV ((((xs.eraseIdx (n.fmod 6).toNat).eraseIdx ((n.fdiv 6).fmod 5).toNat).eraseIdx (((n.fdiv 6).fdiv 5).fmod 4).toNat).eraseIdx ((((n.fdiv 6).fdiv 5).fdiv 4).fmod 3).toNat)) (e1 + 1 + 1 + 1 + 1)))) (ea:=rfl)) (Int.fmod_nonneg_of_pos _ (by decide)) hy4 (by omega) fun j4 ha4 hb4=>?_
  replace OD:=cre1 (((((tk1 + 9) + 5) + 5) + 5) + 5) 2 h1.objs.size OD (by kernel_rfl:_ = some (listO (intsV ((((xs.eraseIdx (n.fmod 6).toNat).eraseIdx ((n.fdiv 6).fmod 5).toNat).eraseIdx (((n.fdiv 6).fdiv 5).fmod 4).toNat).eraseIdx ((((n.fdiv 6).fdiv 5).fdiv 4).fmod 3).toNat)) (e1 + 1 + 1 + 1 + 1))) rfl (same_keepsBut hb4) (Nat.le_of_eq hb4.1.symm) ha4
  have l5:(((((xs.eraseIdx (n.fmod 6).toNat).eraseIdx ((n.fdiv 6).fmod 5).toNat).eraseIdx (((n.fdiv 6).fdiv 5).fmod 4).toNat).eraseIdx ((((n.fdiv 6).fdiv 5).fdiv 4).fmod 3).toNat).eraseIdx (((((n.fdiv 6).fdiv 5).fdiv 4).fdiv 3).fmod 2).toNat).length = 1:=len_er l4 (by decide) rfl
  refine go F 75 10 5 [1003,1003,1003,1003,1000,1000,1000,1000,1009,1009,1009,1009,1009,1009,1009,1009,1009,1000,1000,1000,1003,1003,1003,1003,1000,1002,1002,1002,1002,1000,1000] (i:=0) OD hA hh fun h7=>?_
  intro o_h7 OD
  refine Mn.st (.call (.builtin "list.pop") ⟨[.ref h1.objs.size,.int ((((((n.fdiv 6).fdiv 5).fdiv 4).fdiv 3).fdiv 2).fmod 1) ((((((tk1 + 9) + 5) + 5) + 5) + 5) + 4)],[]⟩) ?_
  obtain ⟨y5,hy5⟩:=get_lt (l:=(((((xs.eraseIdx (n.fmod 6).toNat).eraseIdx ((n.fdiv 6).fmod 5).toNat).eraseIdx (((n.fdiv 6).fdiv 5).fmod 4).toNat).eraseIdx ((((n.fdiv 6).fdiv 5).fdiv 4).fmod 3).toNat).eraseIdx (((((n.fdiv 6).fdiv 5).fdiv 4).fdiv 3).fmod 2).toNat)) (k:=((((((n.fdiv 6).fdiv 5).fdiv 4).fdiv 3).fdiv 2).fmod 1).toNat) (len_lt l5 (by decide) rfl)
  refine c_list_pop (vs:=(((((xs.eraseIdx (n.fmod 6).toNat).eraseIdx ((n.fdiv 6).fmod 5).toNat).eraseIdx (((n.fdiv 6).fdiv 5).fmod 4).toNat).eraseIdx ((((n.fdiv 6).fdiv 5).fdiv 4).fmod 3).toNat).eraseIdx (((((n.fdiv 6).fdiv 5).fdiv 4).fdiv 3).fmod 2).toNat)) (OD.2.ob 2 (o:=((listO (intsV (((((xs.eraseIdx (n.fmod 6).toNat).eraseIdx ((n.fdiv 6).fmod 5).toNat).eraseIdx (((n.fdiv 6).fdiv 5).fmod 4).toNat).eraseIdx ((((n.fdiv 6).fdiv 5).fdiv 4).fmod 3).toNat).eraseIdx (((((n.fdiv 6).fdiv 5).fdiv 4).fdiv 3).fmod 2).toNat)) (e1 + 1 + 1 + 1 + 1 + 1)))) (ea:=rfl)) (Int.fmod_nonneg_of_pos _ (by decide)) hy5 (by omega) fun j5 ha5 hb5=>?_
  replace OD:=cre1 ((((((tk1 + 9) + 5) + 5) + 5) + 5) + 5) 2 h1.objs.size OD (by kernel_rfl:_ = some (listO (intsV (((((xs.eraseIdx (n.fmod 6).toNat).eraseIdx ((n.fdiv 6).fmod 5).toNat).eraseIdx (((n.fdiv 6).fdiv 5).fmod 4).toNat).eraseIdx ((((n.fdiv 6).fdiv 5).fdiv 4).fmod 3).toNat).eraseIdx (((((n.fdiv 6).fdiv 5).fdiv 4).fdiv 3).fmod 2).toNat)) (e1 + 1 + 1 + 1 + 1 + 1))) rfl (same_keepsBut hb5) (Nat.le_of_eq hb5.1.symm) ha5
  have l6:((((((xs.eraseIdx (n.fmod 6).toNat).eraseIdx ((n.fdiv 6).fmod 5).toNat).eraseIdx (((n.fdiv 6).fdiv 5).fmod 4).toNat).eraseIdx ((((n.fdiv 6).fdiv 5).fdiv 4).fmod 3).toNat).eraseIdx (((((n.fdiv 6).fdiv 5).fdiv 4).fdiv 3).fmod 2).toNat).eraseIdx ((((((n.fdiv 6).fdiv 5).fdiv 4).fdiv 3).fdiv 2).fmod 1).toNat).length = 0:=len_er l5 (by decide) rfl
  refine go F 46 12 2 [1003,1003,1003,1003,1000,1000,1000,1000,1009,1009,1009,1009,1009,1011,1000] (i:=0) OD hA hh fun h8=>?_
  intro o_h8 OD
  refine Mn.en (.ret (.ref (k1.objs.size + 0))) ?_
  refine K _ _ (k1.objs.size + 0) xs [y0,y1,y2,y3,y4,y5] 6 OD.2.kept0 ?_ (size_le OD.1 OD.2) (OD.2.ob 3) hxs ?_
  · exact Nat.le_trans (Nat.le_trans z1 (Nat.le_of_lt hs1)) (Nat.le_add_right _ _)
  simp only [popS,hy0,hy1,hy2,hy3,hy4,hy5]
end
end Mine
namespace Mine
open PySem PySem.W PySem.W.X PyProof.Rows
noncomputable def lgE (w:World):Expr:=assignV (stAt w 218 7)
theorem lgE_is (w:World):IsDc (lgE w):=⟨by kernel_rfl,by kernel_rfl,by kernel_rfl⟩
noncomputable def lgLoc (w:World):Option (Nat × Value × Nat × Value) → Obj
  | none=>locO w [] 0
  | some q=>locO w [(n_step,q.1,q.2.1),(n_power,q.2.2.1,q.2.2.2)] 2
theorem lgTgt (w:World):∃ el x1 ps,(dcG (lgE w)).target = .Tuple el x1 ps:=⟨match (dcG (lgE w)).target with | .Tuple e _ _=>e | _=>[],match (dcG (lgE w)).target with | .Tuple _ x _=>x | _=>default,match (dcG (lgE w)).target with | .Tuple _ _ p=>p | _=>default,by kernel_rfl⟩
theorem in_up_fin:∀ k:Fin 16,1 ≤ ((k:Nat):Int) → ((k:Nat):Int) ∈ upTo15:=by decide +kernel
theorem in_up {x:Int} (h1:1 ≤ x) (h2:x ≤ 15):x ∈ upTo15:=by
  obtain ⟨k,rfl⟩:=int_fin (n:=16) (Int.le_trans (by decide) h1) (Int.lt_of_le_of_lt h2 (by decide))
  exact in_up_fin k h1
theorem up_in {x:Int} (h:x ∈ upTo15):1 ≤ x ∧ x ≤ 15:=by
  have:∀ y ∈ upTo15,1 ≤ y ∧ y ≤ 15:=by decide
  exact this x h
noncomputable def placeIn:List Int → Int → Int
  | [],_=>0
  | x :: r,k=>if x = k then 0 else placeIn r k + 1
theorem placeIn_at:∀ {l:List Int} {k:Int},k ∈ l → ∃ j:Nat,l[j]? = some k ∧ placeIn l k = (j:Int)
  | [],_,h=>nomatch h
  | x :: r,k,h=>by
    by_cases e:x = k
    · exact ⟨0,by simp [e],by simp [placeIn,e]⟩
    · have hm:k ∈ r:=by
        rcases List.mem_cons.mp h with y | y
        · exact absurd y.symm e
        · exact y
      obtain ⟨j,h1,h2⟩:=placeIn_at hm
      exact ⟨j + 1,by simpa using h1,by simp [placeIn,e,h2]⟩
theorem dc_start {w:World} {A:Around} {R:Result → Shared → Prop} {e:Expr} {env:Env} {it acc:Value} {s:Shared} (D:IsDc e) (h0:codeAny (model prog w) A (.compLoop e 0 it acc env) R s) (h:wpAny (model prog w) A (pyIter it) (fun v s'=>v = it ∧ codeAny (model prog w) A (.compLoop e 0 it acc env) R s') (fun _ _=>False) s) :
    codeAny (model prog w) A (.compStart e 0 it acc env) R s:=by
  have hg:dcG e = ⟨(dcG e).target,(dcG e).iter,(dcG e).ifs,0⟩:=by
    have:=D.na
    cases hx:dcG e with
    | mk t i f a=>rw [hx] at this; dsimp only at this ⊢; rw [this]
  have he:=D.is
  rw [hg] at he
  rw [he] at h0 h ⊢
  refine codeAny_compStart_dict h0 (wpAny_mono h (fun v s' q=>?_) fun _ _ q=>q.elim)
  obtain ⟨rfl,q⟩:=q
  exact q
section
variable {w:World} {A:Around} {s:Shared} {E:Value → Shared → Prop}
theorem next_end {it l:Addr} {i:Nat} {items:Array Value} {Q:Value → Shared → Prop} (hh:A.handled = none)
    (hit:s.heap.IsListIter it l i) (hl:s.heap.IsList l items) (hx:items[i]? = none)
    (hE:∀ h' e,Heap.ExtBut it s.heap h' → s.heap.objs.size ≤ h'.objs.size → (∃ o,h'.get? e = some o ∧ o.cls = .type "StopIteration") → E (.ref e) { s with heap:=h' }) :
    wpAny (model prog w) A (Builtin.SmallTypes.nextOf (.ref it)) Q E s:=by
  obtain ⟨o,ho,hc,hd⟩:=id hit
  obtain ⟨ol,hol,_,nl,hdl⟩:=hl
  unfold Builtin.SmallTypes.nextOf
  refine wpAny_bind (wpAny_callSpecial?_slot (name:=Str.ofString "__next__") hit.typeIs slot_listiter_next
    (wpAny_call_entry slot_listiter_next hit.typeIs entry_listiter_next ?_ (args_listiter_next _)))
  show wpAny _ _ (field (.ref it) 0 >>= _) _ _ s
  refine wpAny_bind (wpAny_field ho hd (x:=.ref l) rfl ?_)
  show wpAny _ _ (if (Value.ref l == Value.none) = true then _ else _) _ _ s
  rw [if_neg (show ¬ ((Value.ref l == Value.none) = true) from Bool.false_ne_true)]
  show wpAny _ _ (field (.ref it) 1 >>= _) _ _ s
  refine wpAny_bind (wpAny_field ho hd (x:=.int i 0) rfl ?_)
  show wpAny _ _ (seqItems? (.ref l) >>= _) _ _ s
  refine wpAny_bind (wpAny_seqItems hol hdl ?_)
  simp only [Int.toNat_natCast,hx]
  refine wpAny_bind (wpAny_rule (wpAny_bind (wpAny_setField ho hd (by simp) ?_)))
  show wpAny _ _ (newExc (.type "StopIteration") [] >>= _) _ _ _
  refine wpAny_bind ?_
  simp only [newExc,newTuple]
  refine wpAny_bind (wpAny_newObj_type ?_ (by size_fits))
  refine wpAny_bind (m:=firstArgMember _ _) (wpAny_of_eq (a:=Value.none) (by first | rfl | (simp only [firstArgMember]; rfl)) ?_)
  refine wpAny_newObj_type ?_ (by size_fits)
  simp only [raiseNew]
  refine wpAny_bind (wpAny_handled ?_)
  first | rw [show A.in1.handled = none from hh] | rw [hh]
  refine wpAny_bind (wpAny_pure (wpAny_throw ?_))
  refine hE _ _ (((Heap.SameBut.update ..).extBut.push _).push _) ?_ ⟨_,Heap.get?_push_size _ rfl,rfl⟩
  rw [Heap.size_push,Heap.size_push,(Heap.SameBut.update _ it _).1]
  lia
theorem p_enum_end {e it l:Addr} {i:Nat} {items:Array Value} {old:Value} {Q:Option Value → Shared → Prop} (hh:A.handled = none)
    (he:IsEnum s.heap e it i old) (hit:s.heap.IsListIter it l i) (hl:s.heap.IsList l items) (hx:items[i]? = none)
    (hQ:∀ h',Heap.ExtBut it s.heap h' → s.heap.objs.size ≤ h'.objs.size → Q none { s with heap:=h' }):wpAny (model prog w) A (pyNext (.ref e)) Q E s:=by
  have hT:s.TypeIs (.ref e) "enumerate":=⟨_,he,rfl⟩
  unfold pyNext
  refine wpAny_bind (wpAny_attempt (wpAny_callSpecial?_slot (name:=Str.ofString "__next__") hT F.slot_enumerate_next
    (wpAny_call_entry F.slot_enumerate_next hT F.entry_enumerate_next ?_ (F.args_enumerate_next_1 _))))
  show wpAny _ _ (field (.ref e) 2 >>= _) _ _ _
  refine wpAny_bind (wpAny_field he rfl (x:=.ref it) rfl ?_)
  refine wpAny_bind (next_end hh hit hl hx fun h' x he' hs' hx'=>?_)
  obtain ⟨o,ho,hc⟩:=hx'
  refine wpAny_bind (wpAny_isInstance (T:="StopIteration") (b:=true) ⟨o,ho,hc⟩ isSubtype_stop ?_)
  exact wpAny_pure (hQ _ he' hs')
end
section
variable {w:World} {b1 b2:Bool} {A:Around} {R:Result → Shared → Prop} {h:Heap} {g:Array GenState} {d:Drawn} {T0:Nat} {os:OsState} {E I acc loc N W:Addr} {ps:List (Int × Nat)} {pe i:Nat} {q:Int × Nat} {lo:Option (Nat × Value × Nat × Value)} {kvs:List (Int × Value)} {old:Value}
theorem lg_turn (F:Follows w b1 b2) (hA:Lo A 500) (hh:A.handled = none) (top:TopOk w h)
    (hW:h.get? W = some (listO (intsV ps) pe)) (hE:IsEnum h E I (i:Nat) old) (hI:h.IsListIter I W i) (hacc:DictAt w h acc kvs) (hloc:h.get? loc = some (lgLoc w lo)) (hx:ps[i]? = some q)
    (hl:kvs.length ≤ 100) (hnew:q.1 ∉ kvs.map (·.1)) (g1:219 ≤ E ∧ 219 ≤ I ∧ 219 ≤ acc ∧ 219 ≤ loc) (nEI:E ≠ I) (nEl:E ≠ loc) (nIl:I ≠ loc) (nEa:E ≠ acc) (nIa:I ≠ acc) (nal:acc ≠ loc) (nW:NotIn W [E,I,acc,loc])
    (K:∀ h' tk' old' t (lo':Nat × Value × Nat × Value),KeepsBut [E,I,acc,loc] h h' → h.objs.size ≤ h'.objs.size → IsEnum h' E I ((i + 1:Nat):Int) old' → h'.IsListIter I W (i + 1) → DictAt w h' acc (kvs ++ [(q.1,.int (i:Nat) t)]) → h'.get? loc = some (lgLoc w (some lo')) →
      codeAny (model prog w) A (.compLoop (lgE w) 0 (.ref E) (.ref acc) (lawEnvC w (lgE w) [] loc N)) R ⟨h',g,d,tk',os⟩) :
    codeAny (model prog w) A (.compLoop (lgE w) 0 (.ref E) (.ref acc) (lawEnvC w (lgE w) [] loc N)) R ⟨h,g,d,T0,os⟩:=by
  obtain ⟨x,tx⟩:=q
  have zl:loc < h.objs.size:=Heap.lt_size hloc
  have zE:E < h.objs.size:=Heap.lt_size hE
  have zI:I < h.objs.size:=let ⟨_,ho,_⟩:=hI; Heap.lt_size ho
  have za:acc < h.objs.size:=let ⟨_,_,_,ho,_⟩:=hacc; Heap.lt_size ho
  have gh:219 ≤ h.objs.size:=Nat.le_of_lt (Nat.lt_of_le_of_lt g1.1 zE)
  refine comp_next (lgE_is w) ?_
  refine wpAny_pyNext_enum_item (s:=⟨h,g,d,T0,os⟩) (x:=.int x tx) hE hI (isList_of hW) (by simp [intsV,hx]) nEI fun h1 he1 hit1 ht1 hz1 hk1=>?_
  refine own_enum (lgTgt w) he1 fun h2 he2 hs2=>?_
  have k02:KeepsBut [E,I] h h2:=fun b ob eb nb=>(hs2.2 b fun e=>nb (by rw [e]; exact .head _)).trans (hk1 b ob (fun e=>nb (by rw [e]; exact .head _)) (fun e=>nb (by rw [e]; exact .tail _ (.head _))) eb)
  have top2:TopOk w h2:=top.keepsBut k02 ⟨.inl g1.1,.inl g1.2.1,trivial⟩
  have sz2:h2.objs.size = h.objs.size + 1:=hs2.1.trans hz1
  have l2:h2.get? loc = some (lgLoc w lo):=k02 _ _ hloc (NotIn.mem ⟨nEl.symm,nIl.symm,trivial⟩)
  have t2:h2.get? h.objs.size = some (pairO (i:Nat) T0 x tx):=(hs2.2 _ (Nat.ne_of_gt zE)).trans ht1
  obtain ⟨tg,q1,q2,q3,q4,rfl⟩:=opt4 lo
  let lo0:=oF4 tg q1 q2 q3 q4
  cases tg
  all_goals
    have OD:=startA (b1:=b1) (b2:=b2) (T0:=T0 + 1) [(h.objs.size,pairO (i:Nat) T0 x tx)] [loc] [lgLoc w lo0] 1 rfl rfl (by kernel_rfl) top2 ⟨t2,trivial⟩ ⟨l2,trivial⟩ ⟨.inl g1.2.2.2,trivial⟩ ⟨trivial,trivial⟩ ⟨⟨Nat.ne_of_gt zl,trivial⟩,trivial⟩
    refine go F 62 4 2 [2000,2000,2000,7000,2000,1001,1001,1001,1001,1001,2000,1001,1001,1001,1001,1001,1001,2000,1001,1001,1001,1001,1001,1001,2000,1001,1001,1003,1000,1000,1000,1000,1000] (i:=0) OD hA hh fun h3=>?_
    intro o_h3 OD
    refine Mn.en (.ret (.int x tx)) ?_
    show Mn _ _ _ _ _ _ (dcT2 (lgE w) (lawEnvC w (lgE w) [] loc N)) _
    refine go F 2 4 2 [1000] (i:=2) OD hA hh fun h3=>?_
    intro o_h3 OD
    refine Mn.en (.ret (.int (i:Nat) T0)) ?_
    have k3:KeepsBut [loc] h2 h3:=OD.2.kept
    have z3:h2.objs.size ≤ h3.objs.size:=size_le OD.1 OD.2
    have hacc3:DictAt w h3 acc kvs:=by
      obtain ⟨o,es,ep,ho,r⟩:=hacc
      exact ⟨o,es,ep,k3 _ _ (k02 _ _ ho (NotIn.mem ⟨nEa.symm,nIa.symm,trivial⟩)) (NotIn.mem ⟨nal,trivial⟩),r⟩
    have hkey:(intKind prog w).is x (.int x tx) = true:=int_is x tx
    refine wpAny_dictSet_pairs (knd:=intKind prog w) (k:=x) hkey hacc3 (fun h4 hd4 s4=>?_) (by rw [PySem.sizeLine_eq]; lia)
    have hst:stored kvs x (.int (i:Nat) T0) = kvs ++ [(x,.int (i:Nat) T0)]:=by
      unfold stored
      rw [if_neg]
      simp only [List.any_eq_true,decide_eq_true_eq,not_exists,not_and]
      intro q hq e
      exact hnew (List.mem_map.mpr ⟨q,hq,e⟩)
    rw [hst] at hd4
    have k4:KeepsBut [acc] h3 h4:=same_keepsBut s4
    have hlo:∃ lo':Nat × Value × Nat × Value,h3.get? loc = some (lgLoc w (some lo')):=by
      first
      | exact ⟨(T0 + 1 + 0,.int (i:Nat) T0,T0 + 1 + 1,.int x tx),OD.2.obj (j:=0) (by kernel_rfl!) (by kernel_rfl!)⟩
      | exact ⟨(q1,.int (i:Nat) T0,q3,.int x tx),OD.2.obj (j:=0) (by kernel_rfl!) (by kernel_rfl!)⟩
    obtain ⟨lo',hlo⟩:=hlo
    have kall:KeepsBut [E,I,acc,loc] h2 h4:=(k3.mono fun q hq=>by simp at hq; simp [hq]).trans (k4.mono fun q hq=>by simp at hq; simp [hq])
    have k34:KeepsBut [acc,loc] h2 h4:=(k3.mono fun q hq=>by simp at hq; simp [hq]).trans (k4.mono fun q hq=>by simp at hq; simp [hq])
    have hit2:h2.IsListIter I W (i + 1):=lit_keep hit1 (same_keepsBut hs2) (fun hm=>nEI (List.mem_singleton.mp hm).symm)
    refine K h4 _ (.int x tx) T0 lo' ((k02.mono fun q hq=>by simp at hq; rcases hq with e | e <;> simp [e]).trans kall) ?_ ?_ (lit_keep hit2 k34 (NotIn.mem ⟨nIa,nIl,trivial⟩)) hd4 (k4 _ _ hlo (NotIn.mem ⟨nal.symm,trivial⟩))
    · rw [s4.1]; exact Nat.le_trans (by rw [sz2]; exact Nat.le_succ _) z3
    · have e:((i + 1:Nat):Int) = (i:Int) + 1:=by lia
      rw [e]
      exact k34 _ _ he2 (NotIn.mem ⟨nEa,nEl,trivial⟩)
  def LgKv (ps:List (Int × Nat)) (kvs:List (Int × Value)):Prop:=∀ j (q:Int × Value),kvs[j]? = some q → ∃ z t,ps[j]? = some z ∧ q = (z.1,.int (j:Nat) t)
theorem LgKv.keys {ps:List (Int × Nat)} {kvs:List (Int × Value)} (h:LgKv ps kvs) (hl:kvs.length ≤ ps.length):kvs.map (·.1) = (ps.map (·.1)).take kvs.length:=by
  refine List.ext_getElem? fun j=>?_
  rw [List.getElem?_map,List.getElem?_take]
  cases e:kvs[j]? with
  | none =>
    have:kvs.length ≤ j:=by simpa using e
    rw [if_neg (by lia)]
    rfl
  | some q =>
    obtain ⟨z,t,h1,h2⟩:=h j q e
    have:j < kvs.length:=(List.getElem?_eq_some_iff.mp e).1
    rw [if_pos this,List.getElem?_map,h1,h2]
    rfl
theorem lg_a1 {a k n:Nat} (h:a + (k + 1) = n):a < n:=by lia
theorem lg_a2 {a k n:Nat} (h:a + (k + 1) = n):(a + 1) + k = n:=by lia
theorem lg_nd {l:List Int} (hnd:l.Nodup) {m:Nat} (hm:m < l.length):l[m] ∉ l.take m:=fun h=>by
  obtain ⟨j,hj,e⟩:=List.mem_take_iff_getElem.mp h
  have hj':j < m:=Nat.lt_of_lt_of_le hj (Nat.min_le_left _ _)
  exact Nat.ne_of_lt hj' ((List.getElem_inj hnd).mp e)
theorem kv_app {ps:List (Int × Nat)} {kvs:List (Int × Value)} {z:Int × Nat} {t:Nat} (hkv:LgKv ps kvs) (hx:ps[kvs.length]? = some z):LgKv ps (kvs ++ [(z.1,Value.int (kvs.length:Nat) t)]):=by
  intro j q e
  by_cases hj:j < kvs.length
  · rw [List.getElem?_append_left hj] at e
    exact hkv j q e
  · have hle:=Nat.le_of_not_lt hj
    rw [List.getElem?_append_right hle] at e
    obtain ⟨i,hi⟩:∃ i,j - kvs.length = i:=⟨_,rfl⟩
    rw [hi] at e
    match i,e with
    | 0,e =>
      cases e
      have hji:j = kvs.length:=Nat.le_antisymm (Nat.le_of_sub_eq_zero hi) hle
      subst hji
      exact ⟨_,t,hx,rfl⟩
theorem lg_loop (F:Follows w b1 b2) (hA:Lo A 500) (hh:A.handled = none) (g1:219 ≤ E ∧ 219 ≤ I ∧ 219 ≤ acc ∧ 219 ≤ loc) (nEI:E ≠ I) (nEl:E ≠ loc) (nIl:I ≠ loc) (nEa:E ≠ acc) (nIa:I ≠ acc) (nal:acc ≠ loc) (nW:NotIn W [E,I,acc,loc]) (hIE:I < E) (hlen:ps.length ≤ 50) (hnd:(ps.map (·.1)).Nodup) :
    ∀ (k:Nat) (h:Heap) (T0:Nat) (kvs:List (Int × Value)) (lo:Option (Nat × Value × Nat × Value)) (old:Value),kvs.length + k = ps.length → TopOk w h → h.get? W = some (listO (intsV ps) pe) → IsEnum h E I (kvs.length:Nat) old → h.IsListIter I W kvs.length → DictAt w h acc kvs → LgKv ps kvs → h.get? loc = some (lgLoc w lo) →
      (∀ h' tk' kvs' lo',KeepsBut [E,I,acc,loc] h h' → h.objs.size ≤ h'.objs.size → DictAt w h' acc kvs' → LgKv ps kvs' → kvs'.length = ps.length → h'.get? loc = some (lgLoc w lo') → ((lo' = lo ∧ k = 0) ∨ ∃ z,lo' = some z) → R (.ok .next) ⟨h',g,d,tk',os⟩) →
      codeAny (model prog w) A (.compLoop (lgE w) 0 (.ref E) (.ref acc) (lawEnvC w (lgE w) [] loc N)) R ⟨h,g,d,T0,os⟩
  | 0,h,T0,kvs,lo,old,hk,top,hW,hE,hI,hacc,hkv,hloc,K=>by
    refine comp_next (lgE_is w) ?_
    refine p_enum_end (s:=⟨h,g,d,T0,os⟩) hh hE hI (isList_of hW) (by simp [intsV]; lia) fun h1 hx1 zs=>?_
    have k1:KeepsBut [I] h h1:=fun b o eb nb=>hx1 b o (fun e=>nb (by rw [e]; exact .head _)) eb
    have hacc1:DictAt w h1 acc kvs:=by
      obtain ⟨o,es,ep,ho,r⟩:=hacc
      exact ⟨o,es,ep,k1 _ _ ho (NotIn.mem ⟨nIa.symm,trivial⟩),r⟩
    exact K h1 _ kvs lo (k1.mono fun q hq=>by simp at hq; simp [hq]) zs hacc1 hkv (by omega) (k1 _ _ hloc (NotIn.mem ⟨nIl.symm,trivial⟩)) (.inl ⟨rfl,rfl⟩)
  | k + 1,h,T0,kvs,lo,old,hk,top,hW,hE,hI,hacc,hkv,hloc,K=>by
    have hlt:kvs.length < ps.length:=lg_a1 hk
    have hx:ps[kvs.length]? = some ps[kvs.length]:=List.getElem?_eq_getElem hlt
    have hnew:(ps[kvs.length]).1 ∉ kvs.map (·.1):=by
      rw [hkv.keys (Nat.le_of_lt hlt)]
      have:=lg_nd hnd (m:=kvs.length) (by rw [List.length_map]; exact hlt)
      rw [List.getElem_map] at this
      exact this
    refine lg_turn F hA hh top hW hE hI hacc hloc hx (Nat.le_trans (Nat.le_of_lt hlt) (Nat.le_trans hlen (by decide))) hnew g1 nEI nEl nIl nEa nIa nal nW fun h' tk' old' t lo' k1 s1 hE' hI' hacc' hloc'=>?_
    have fr:FreeL [E,I,acc,loc]:=⟨.inl g1.1,.inl g1.2.1,.inl g1.2.2.1,.inl g1.2.2.2,trivial⟩
    have len':(kvs ++ [((ps[kvs.length]).1,Value.int (kvs.length:Nat) t)]).length = kvs.length + 1:=List.length_append
    refine lg_loop F hA hh g1 nEI nEl nIl nEa nIa nal nW hIE hlen hnd k h' tk' _ (some lo') old' (by rw [len']; exact lg_a2 hk) (top.keepsBut k1 fr) (k1 _ _ hW nW.mem) (by rw [len']; exact hE') (by rw [len']; exact hI') hacc' ?_ hloc' fun h2 tk2 kvs2 lo2 k2 s2 a1 a2 a3 a4 a5=>?_
    · exact kv_app hkv hx
    · exact K h2 tk2 kvs2 lo2 (k1.trans k2) (Nat.le_trans s1 s2) a1 a2 a3 a4 (.inr (a5.elim (fun z=>⟨lo',z.1⟩) id))
theorem lg_comp (F:Follows w b1 b2) (hA:Lo A 500) (hh:A.handled = none) (g1:219 ≤ E ∧ 219 ≤ I ∧ 219 ≤ acc ∧ 219 ≤ loc) (nEl:E ≠ loc) (nIl:I ≠ loc) (nEa:E ≠ acc) (nIa:I ≠ acc) (nal:acc ≠ loc) (nW:NotIn W [E,I,acc,loc]) (hIE:I < E) {st:Int} (RP:RegP (ps.map (·.1)) st)
    (top:TopOk w h) (hW:h.get? W = some (listO (intsV ps) pe)) (hE:IsEnum h E I 0 .none) (hI:h.IsListIter I W 0) (hacc:h.get? acc = some (dictO #[] 0)) (hloc:h.get? loc = some (lgLoc w none)) (bW:219 ≤ W)
    (K:∀ h' tk' es ep lo',KeepsBut [E,I,acc,loc] h h' → h.objs.size ≤ h'.objs.size → h'.get? acc = some (dictO es ep) → LogsAt w h' W acc ps (placeIn (ps.map (·.1))) → h'.get? loc = some (lgLoc w (some lo')) → R (.ok .next) ⟨h',g,d,tk',os⟩) :
    codeAny (model prog w) A (.compStart (lgE w) 0 (.ref E) (.ref acc) (lawEnvC w (lgE w) [] loc N)) R ⟨h,g,d,T0,os⟩:=by
  have lW:ps.length = 15:=by have:=RP.len; simpa using this
  have hnd:(ps.map (·.1)).Nodup:=RP.perm.nodup_iff.mpr (by decide)
  have hD:DictAt w h acc []:=⟨_,#[],0,hacc,⟨rfl,rfl,rfl⟩,rfl,fun _ he=>by simp at he,Pairs.nil,List.nodup_nil⟩
  have go:=lg_loop (R:=R) (N:=N) (g:=g) (d:=d) (os:=os) F hA hh g1 (Nat.ne_of_gt hIE) nEl nIl nEa nIa nal nW hIE (by lia) hnd 15 h T0 [] none .none (by simpa using lW.symm) top hW hE hI hD (fun j q e=>by simp at e) hloc fun h' tk' kvs lo' k s hD' hkv hlen hloc' hlo=>by
    obtain ⟨z,rfl⟩:∃ z,lo' = some z:=hlo.elim (fun z=>absurd z.2 (by decide)) id
    have hW':h'.get? W = some (listO (intsV ps) pe):=k _ _ hW nW.mem
    have hkeys:=hkv.keys (Nat.le_of_eq hlen)
    have hmap:=hD'.mapOf
    obtain ⟨⟨c,dd,dt,sl⟩,es,ep,ho,⟨hc1,hc2,hc3⟩,hdt,hko,hpr,hnd'⟩:=hD'
    obtain ⟨o2,es2,ep2,ho2,_,hdt2,_,hf⟩:=hmap
    rw [ho] at ho2
    cases ho2
    rw [hdt] at hdt2
    cases hdt2
    dsimp only at hc1 hc2 hc3 hdt
    subst hc1 hc2 hc3 hdt
    refine K h' tk' es ep z k s ho ⟨⟨pe,es,ep,hW',ho,hko,fun x h1 h2=>?_⟩,bW,g1.2.2.1,lW,?_⟩ hloc'
    · have hx:x ∈ ps.map (·.1):=RP.perm.mem_iff.mpr (in_up h1 h2)
      obtain ⟨j,e1,e2⟩:=placeIn_at hx
      have hj:j < kvs.length:=by have:=(List.getElem?_eq_some_iff.mp e1).1; simp at this; lia
      obtain ⟨zz,t,f1,f2⟩:=hkv j _ (List.getElem?_eq_getElem hj)
      have ez:zz.1 = x:=by
        rw [List.getElem?_map,f1] at e1
        simpa using e1
      refine ⟨t,?_⟩
      have hv:valueAt kvs x = some (.int (j:Nat) t):=valueAt_of_get hnd' (i:=j) (by rw [List.getElem?_eq_getElem hj,f2,ez])
      rw [e2]
      exact (hf x).trans hv
    · intro x hx
      have:=RP.perm.mem_iff.mp hx
      exact up_in this
  exact dc_start (lgE_is w) go (wpAny_pyIter_enum hE ⟨rfl,go⟩)
end
end Mine
namespace Mine
open PySem PySem.W PySem.W.X PyProof.Rows
theorem KeepsBut.beh {md md2:List Addr} {a b c:Heap} (x:KeepsBut md a b) (hm:∀ q ∈ md2,a.objs.size ≤ q ∨ q ∈ md) (y:KeepsBut md2 b c):KeepsBut md a c:=fun q o e n=>y _ _ (x _ _ e n) fun hq=>by
  rcases hm q hq with z | z
  · exact Nat.lt_irrefl _ (Nat.lt_of_lt_of_le (Heap.lt_size e) z)
  · exact n z
section
variable {w:World} {b1 b2:Bool} {A:Around} {R:Result → Shared → Prop} {h:Heap} {g:Array GenState} {d:Drawn} {T0:Nat} {os:OsState} {N W:Nat} {st:Int} {ps:List (Int × Nat)} {pe:Nat}
theorem law_s7 (F:Follows w b1 b2) (hA:Lo A 50) (hh:A.handled = none) (top:TopOk w h) (gN:219 ≤ N) (bW:219 ≤ W) (hWN:W ≠ N + 3) (hN2:h.get? (N + 2) = some (cellO (some (.ref W)))) (hN3:h.get? (N + 3) = some (cellO none)) (hW:h.get? W = some (listO (intsV ps) pe)) (RP:RegP (ps.map (·.1)) st)
    (K:∀ h' tk' l,KeepsBut [N + 3] h h' → h.objs.size ≤ h'.objs.size → h.objs.size ≤ l → h'.get? (N + 3) = some (cellO (some (.ref l))) → LogsAt w h' W l ps (placeIn (ps.map (·.1))) → Mn prog w A R (lawC w N) .base (lawT w 8 N) ⟨h',g,d,tk',os⟩) :
    Mn prog w A R (lawC w N) .base (lawT w 7 N) ⟨h,g,d,T0,os⟩:=by
  have zN:N + 3 < h.objs.size:=Heap.lt_size hN3
  have zW:W < h.objs.size:=Heap.lt_size hW
  have gh:219 ≤ h.objs.size:=Nat.le_trans gN (Nat.le_trans (Nat.le_add_right N 3) (Nat.le_of_lt zN))
  have OD:=startA (b1:=b1) (b2:=b2) (T0:=T0) [(N + 2,cellO (some (.ref W))),(W,listO (intsV ps) pe)] [N + 3] [cellO none] 1 rfl rfl (by kernel_rfl) top ⟨hN2,hW,trivial⟩ ⟨hN3,trivial⟩ ⟨.inl (Nat.le_add_right_of_le gN),trivial⟩ ⟨trivial,trivial⟩ ⟨⟨nlt (Nat.add_lt_add_left (by decide) _:N + 2 < N + 3),trivial⟩,⟨hWN,trivial⟩,trivial⟩
  refine go F 7 1 0 [3,0,2000] (i:=0) OD hA hh fun h1=>?_
  intro o_h1 OD
  have z1:h1.objs.size = h.objs.size:=OD.2.size
  have k1:KeepsBut [N + 3] h h1:=OD.2.kept
  refine Mn.stopV (.type "enumerate") [.ref W] (by kernel_rfl) ?_
  refine call_enumerate_list (isList_of (OD.2.still 1 rfl)) fun j1 he hi hs hk=>?_
  have hs':j1.objs.size = h1.objs.size + 2:=hs
  have zN1:N + 3 < h1.objs.size:=Nat.lt_of_lt_of_le zN (Nat.le_of_eq z1.symm)
  have zW1:W < h1.objs.size:=Nat.lt_of_lt_of_le zW (Nat.le_of_eq z1.symm)
  have gI:219 ≤ h1.objs.size:=Nat.le_trans gh (Nat.le_of_eq z1.symm)
  have zj:h1.objs.size + 1 < j1.objs.size:=Nat.le_of_eq hs'.symm
  have hj1:h1.objs.size ≤ j1.objs.size:=Nat.le_trans (Nat.le_add_right _ 1) (Nat.le_of_lt zj)
  have kj:KeepsBut [N + 3] h j1:=k1.beh (md2:=[]) (fun q hq=>nomatch hq) (show KeepsBut [] h1 j1 from fun b o e _=>hk b o e)
  have top1:TopOk w j1:=top.keepsBut kj ⟨.inl (Nat.le_add_right_of_le gN),trivial⟩
  have c2:j1.get? (N + 2) = some (cellO (some (.ref W))):=kj _ _ hN2 (NotIn.mem ⟨nlt (Nat.add_lt_add_left (by decide) _:N + 2 < N + 3),trivial⟩)
  have c3:j1.get? (N + 3) = some (cellO none):=hk _ _ (OD.2.ob 0)
  have cW:j1.get? W = some (listO (intsV ps) pe):=kj _ _ hW (NotIn.mem ⟨hWN,trivial⟩)
  have nNE:(N + 3:Addr) ≠ h1.objs.size + 1:=nlt (Nat.lt_succ_of_lt zN1)
  have nWE:(W:Addr) ≠ h1.objs.size + 1:=nlt (Nat.lt_succ_of_lt zW1)
  have n2E:(N + 2:Addr) ≠ h1.objs.size + 1:=nlt (Nat.lt_succ_of_lt (Nat.lt_trans (Nat.add_lt_add_left (by decide) N) zN1))
  have gE:219 ≤ h1.objs.size + 1:=Nat.le_succ_of_le gI
  have fNE:FreeL [(N + 3:Addr),h1.objs.size + 1]:=⟨.inl (Nat.le_add_right_of_le gN),.inl gE,trivial⟩
  have nIN:(h1.objs.size:Addr) ≠ N + 3:=(nlt zN1).symm
  have nIE:(h1.objs.size:Addr) ≠ h1.objs.size + 1:=nlt (Nat.add_lt_add_left (by decide) _:h1.objs.size + 0 < h1.objs.size + 1)
  have nj0:(j1.objs.size + 0:Addr) ≠ j1.objs.size + 1:=nlt (Nat.add_lt_add_left (by decide) _:j1.objs.size + 0 < j1.objs.size + 1)
  have lt0:∀ x:Nat,x < j1.objs.size → (x:Addr) ≠ j1.objs.size + 0:=fun x hx=>nlt hx
  have lt1:∀ x:Nat,x < j1.objs.size → (x:Addr) ≠ j1.objs.size + 1:=fun x hx=>nlt (Nat.lt_succ_of_lt hx)
  have zNj:N + 3 < j1.objs.size:=Nat.lt_of_lt_of_le zN1 hj1
  have zWj:W < j1.objs.size:=Nat.lt_of_lt_of_le zW1 hj1
  have zIj:h1.objs.size < j1.objs.size:=Nat.lt_of_succ_lt zj
  have gj:219 ≤ j1.objs.size:=Nat.le_trans gI hj1
  have bI:h.objs.size ≤ h1.objs.size:=Nat.le_of_eq z1.symm
  have bE:h.objs.size ≤ h1.objs.size + 1:=Nat.le_succ_of_le bI
  have bj:h.objs.size ≤ j1.objs.size:=Nat.le_trans bI hj1
  clear OD
  have OD:=startA (b1:=b1) (b2:=b2) (T0:=T0) [(N + 2,cellO (some (.ref W))),(W,listO (intsV ps) pe)] [N + 3,h1.objs.size + 1] [cellO none,enumO h1.objs.size 0 .none] 2 rfl rfl (by kernel_rfl) top1 ⟨c2,cW,trivial⟩ ⟨c3,he,trivial⟩ fNE ⟨⟨nNE,trivial⟩,trivial,trivial⟩ ⟨⟨nlt (Nat.add_lt_add_left (by decide) _:N + 2 < N + 3),n2E,trivial⟩,⟨hWN,nWE,trivial⟩,trivial⟩
  refine go F 12 4 0 [1001,1001,7000,1001,1001] (i:=0) OD hA hh fun h2=>?_
  intro o_h2 OD
  have k2:KeepsBut [N + 3,h1.objs.size + 1] j1 h2:=OD.2.kept
  have s2:j1.objs.size ≤ h2.objs.size:=size_le OD.1 OD.2
  refine Mn.st (.compStart (lgE w) 0 (.ref (h1.objs.size + 1)) (.ref (j1.objs.size + 0)) (lawEnvC w (lgE w) [] (j1.objs.size + 1) N)) ?_
  refine lg_comp (I:=h1.objs.size) F (dk10 hA) (aH hh) ⟨gE,gI,Nat.le_add_right_of_le gj,Nat.le_add_right_of_le gj⟩ (lt1 _ zj) (lt1 _ zIj) (lt0 _ zj) (lt0 _ zIj) nj0 ⟨nWE,nlt (by omega:W < h1.objs.size),lt0 _ zWj,lt1 _ zWj,trivial⟩ (Nat.lt_succ_self _) RP OD.2.tp
    (OD.2.still 1 rfl) (OD.2.ob 1 (o:=(enumO h1.objs.size 0 .none))) (lit_keep hi k2 (NotIn.mem ⟨nIN,nIE,trivial⟩)) (OD.2.ob 2) (OD.2.ob 3) bW fun j2 tk2 es ep lo' k3 s3 hacc LA hloc=>?_
  have kall:KeepsBut [N + 3] h j2:=(kj.beh (md2:=[N + 3,h1.objs.size + 1]) (fun q hq=>by
      rcases List.mem_cons.mp hq with e | hq
      · exact .inr (e ▸ .head _)
      · exact .inl (by rw [List.mem_singleton.mp hq]; exact bE)) k2).beh (fun q hq=>by
      simp only [List.mem_cons,List.not_mem_nil,or_false] at hq
      rcases hq with e | e | e | e
      · exact .inl (by rw [e]; exact bE)
      · exact .inl (by rw [e]; exact bI)
      · exact .inl (by rw [e]; exact Nat.le_add_right_of_le bj)
      · exact .inl (by rw [e]; exact Nat.le_add_right_of_le bj)) k3
  have d3:j2.get? (N + 3) = some (cellO none):=k3 _ _ (OD.2.ob 0) (NotIn.mem ⟨nNE,nIN.symm,lt0 _ zNj,lt1 _ zNj,trivial⟩)
  have top2:TopOk w j2:=top.keepsBut kall ⟨.inl (Nat.le_add_right_of_le gN),trivial⟩
  have s4:h.objs.size ≤ j2.objs.size:=Nat.le_trans bj (Nat.le_trans s2 s3)
  clear OD
  have OD:=startA (b1:=b1) (b2:=b2) (T0:=tk2) [] [N + 3,j1.objs.size + 0,j1.objs.size + 1] [cellO none,dictO es ep,lgLoc w (some lo')] 3 rfl rfl (by kernel_rfl) top2 trivial ⟨d3,hacc,hloc,trivial⟩ ⟨.inl (Nat.le_add_right_of_le gN),.inl (Nat.le_add_right_of_le gj),.inl (Nat.le_add_right_of_le gj),trivial⟩ ⟨⟨lt0 _ zNj,lt1 _ zNj,trivial⟩,⟨nj0,trivial⟩,trivial,trivial⟩ trivial
  show Mn _ _ _ _ _ _ _ ⟨j2,g,d,tk2,os⟩
  refine go F 15 3 0 [1002,1002,1002,1002,1002,1002,1000,1000] (i:=0) OD hA hh fun h3=>?_
  intro o_h3 OD
  refine Mn.cast (c':=lawC w N) (κ':=.base) (t':=lawT w 8 N) (by kernel_rfl) (by kernel_rfl) (by kernel_rfl) ?_
  have k4:KeepsBut [N + 3,j1.objs.size + 0,j1.objs.size + 1] j2 h3:=OD.2.kept
  refine K h3 _ (j1.objs.size + 0) (kall.beh (fun q hq=>?_) k4) (Nat.le_trans s4 (size_le OD.1 OD.2)) (Nat.le_add_right_of_le bj) (OD.2.ob 0) ?_
  · simp only [List.mem_cons,List.not_mem_nil,or_false] at hq
    rcases hq with e | e | e
    · exact .inr (e ▸ .head _)
    · exact .inl (by rw [e]; exact Nat.le_add_right_of_le bj)
    · exact .inl (by rw [e]; exact Nat.le_add_right_of_le bj)
  · obtain ⟨pe',es',ep',e1,e2,e3,e4⟩:=LA.ex
    exact ⟨⟨pe',es',ep',k4 _ _ e1 (NotIn.mem ⟨hWN,lt0 _ zWj,lt1 _ zWj,trivial⟩),OD.2.ob 1 (o:=(dictO es ep)) |>.trans (hacc.symm.trans e2),e3,e4⟩,LA.bpw,LA.bl,LA.len,LA.rng⟩
end
end Mine
namespace Mine
open PySem PySem.W PySem.W.X PyProof.Rows
noncomputable def CellsAt (h:Heap) (md:List Addr):Prop:=∀ q ∈ md,∃ v,h.get? q = some (cellO v)
theorem CellsAt.one {h:Heap} {a:Addr} {v:Option Value} (e:h.get? a = some (cellO v)):CellsAt h [a]:=fun q hq=>by rw [List.mem_singleton.mp hq]; exact ⟨v,e⟩
theorem CellsAt.nil {h:Heap}:CellsAt h []:=fun q hq=>nomatch hq
theorem KeepsBut.ob {h h':Heap} {md:List Addr} {a:Addr} {o:Obj} (k:KeepsBut md h h') (hm:CellsAt h md) (e:h.get? a = some o) (n:o.cls ≠ .type "cell"):h'.get? a = some o:=k _ _ e fun hq=>by
  obtain ⟨v,e2⟩:=hm a hq
  rw [e] at e2
  cases e2
  exact n rfl
theorem KeepsBut.code {h h':Heap} {md:List Addr} {q:Str} {a:Addr} (k:KeepsBut md h h') (hm:CellsAt h md) (c:IsCode h q a):IsCode h' q a :=
  let ⟨v0,t,r,e⟩:=c; ⟨v0,t,r,k.ob hm e (ty_ne (by decide))⟩
theorem KeepsBut.logs {w:World} {h h':Heap} {pw l:Nat} {ps:List (Int × Nat)} {lg:Int → Int} {md:List Addr} (k:KeepsBut md h h') (hm:CellsAt h md) (T:LogsAt w h pw l ps lg):LogsAt w h' pw l ps lg:=by
  obtain ⟨pe,es,ep,h1,h2,h3,h4⟩:=T.ex
  exact ⟨⟨pe,es,ep,k.ob hm h1 (ty_ne (by decide)),k.ob hm h2 (ty_ne (by decide)),h3,h4⟩,T.bpw,T.bl,T.len,T.rng⟩
theorem KeepsBut.tab {h h':Heap} {md:List Addr} {tt:TT} (k:KeepsBut md h h') (hm:CellsAt h md) (T:TabAt h tt):TabAt h' tt:=⟨k.ob hm T.at_ (fun x=>nomatch x),T.ok.map fun a c=>k.code hm c⟩
noncomputable def PrsAt (h:Heap) (Q:List Pr):Prop:=AllZ (fun z=>(h.get? z.1 = some (prO z) ∧ 219 ≤ z.1) ∧ In16 z.2.1.1 ∧ In16 z.2.2.1) Q
theorem AllZ.imp {P P':Pr → Prop} (f:∀ z,P z → P' z):∀ {l:List Pr},AllZ P l → AllZ P' l
  | [],_=>trivial
  | _ :: _,h=>⟨f _ h.1,AllZ.imp f h.2⟩
theorem KeepsBut.prs {h h':Heap} {md:List Addr} {Q:List Pr} (k:KeepsBut md h h') (hm:CellsAt h md) (T:PrsAt h Q):PrsAt h' Q:=AllZ.imp (fun z x=>⟨⟨k.ob hm x.1.1 (ty_ne (by decide)),x.1.2⟩,x.2⟩) T
end Mine
namespace Mine
open PySem PySem.W PySem.W.X PyProof.Rows
section
variable {w:World} {V:LV} {b1 b2:Bool} {A:Around} {R:Result → Shared → Prop} {h:Heap} {g:Array GenState} {d:Drawn} {T0:Nat} {os:OsState} {N nu W l:Nat} {sc dr:Addr} {k0 k1 k2 k3 u3:Nat} {st:Int} {ps:List (Int × Nat)} {pe:Nat} {n0 n1 n2 n3 n4:Int} {t0 t1 t2 t3 t4 to:Nat} {a b:UInt8} {tt:TT} {lg:Int → Int}
theorem law_s8 (F:Follows w b1 b2) (hA:Lo A 50) (hh:A.handled = none) (top:TopOk w h) (gN:219 ≤ N) (hN:h.get? N = some (fr4 w V nu st)) (hnu:h.get? nu = some (listO (intsV [(n0,t0),(n1,t1),(n2,t2),(n3,t3),(n4,t4)]) 0)) (hN4:h.get? (N + 4) = some (cellO none)) (hN5:h.get? (N + 5) = some (cellO none)) (nnu:NotIn nu [N + 4,N + 5])
    (K:∀ h' tk' u v,KeepsBut [N + 4,N + 5] h h' → h.objs.size ≤ h'.objs.size → h'.get? (N + 4) = some (cellO (some (.int (n2.fmod 16) u))) → h'.get? (N + 5) = some (cellO (some (.int ((n2.fdiv 16).fmod 6) v))) → Mn prog w A R (lawC w N) .base (lawT w 9 N) ⟨h',g,d,tk',os⟩) :
    Mn prog w A R (lawC w N) .base (lawT w 8 N) ⟨h,g,d,T0,os⟩:=by
  have OD:=startA (b1:=b1) (b2:=b2) (T0:=T0) [(N,fr4 w V nu st),(nu,listO (intsV [(n0,t0),(n1,t1),(n2,t2),(n3,t3),(n4,t4)]) 0)] [N + 4,N + 5] [cellO none,cellO none] 2 rfl rfl (by kernel_rfl) top ⟨hN,hnu,trivial⟩ ⟨hN4,hN5,trivial⟩ ⟨.inl (Nat.le_add_right_of_le gN),.inl (Nat.le_add_right_of_le gN),trivial⟩ ⟨⟨nlt (Nat.add_lt_add_left (by decide) _:N + 4 < N + 5),trivial⟩,trivial,trivial⟩ ⟨⟨nlt (Nat.add_lt_add_left (by decide) _:N + 0 < N + 4),nlt (Nat.add_lt_add_left (by decide) _:N + 0 < N + 5),trivial⟩,nnu,trivial⟩
  refine go F 101 6 8 [2000,2001,2001,2001,2001,2001,2000,2001,2001,2001,2001,2001,1002,1002,1002,7000,1002,1003,1003,1003,1003,1003,1002,1003,1003,1003,1003,1003,1003,1002,1003,1003,1003,1003,1003,1003,1002,1003,1003,1005,1000,1000,1001,1001] (i:=0) OD hA hh fun h1=>?_
  intro o_h1 OD
  refine Mn.cast (c':=lawC w N) (κ':=.base) (t':=lawT w 9 N) (by kernel_rfl) (by kernel_rfl) (by kernel_rfl) ?_
  exact K _ _ (T0 + 2) (T0 + 7) OD.2.kept (size_le OD.1 OD.2) (OD.2.ob 0) (OD.2.ob 1)
theorem law_s9 {P:Nat → Int × Nat} (F:Follows w b1 b2) (hA:Lo A 50) (hh:A.handled = none) (top:TopOk w h) (gN:219 ≤ N) (gh:219 ≤ h.objs.size) (hN1:h.get? (N + 1) = some (cellO (some (.bytes #[a,b] to)))) (hN2:h.get? (N + 2) = some (cellO (some (.ref W)))) (hN3:h.get? (N + 3) = some (cellO (some (.ref l)))) (hN6:h.get? (N + 6) = some (cellO none)) (tb:TabAt h tt) (LA:LogsAt w h W l (l15 P) lg)
    (n4:((P 0).1 ≠ (P 4).1 ∧ (P 1).1 ≠ (P 4).1 ∧ (P 2).1 ≠ (P 4).1 ∧ (P 3).1 ≠ (P 4).1)) (n5:((P 0).1 ≠ (P 5).1 ∧ (P 1).1 ≠ (P 5).1 ∧ (P 2).1 ≠ (P 5).1 ∧ (P 3).1 ≠ (P 5).1))
    (K:∀ h' tk' tt' L e (Q:List Pr),KeepsBut [181,N + 6] h h' → h.objs.size ≤ h'.objs.size → TabAt h' tt' → 219 ≤ L → h'.get? L = some (listO (refsV Q) e) → bare Q = pairsN lg ((l15 P).map (·.1)) (P 0).1 (P 1).1 (P 2).1 (P 3).1 (P 4).1 (P 5).1 a b → PrsAt h' Q → h'.get? (N + 6) = some (cellO (some (.ref L))) → Mn prog w A R (lawC w N) .base (lawT w 10 N) ⟨h',g,d,tk',os⟩) :
    Mn prog w A R (lawC w N) .base (lawT w 9 N) ⟨h,g,d,T0,os⟩:=by
  have OD:=startA (b1:=b1) (b2:=b2) (T0:=T0) [(N + 1,cellO (some (.bytes #[a,b] to))),(N + 2,cellO (some (.ref W))),(N + 3,cellO (some (.ref l)))] [N + 6] [cellO none] 1 rfl rfl (by kernel_rfl) top ⟨hN1,hN2,hN3,trivial⟩ ⟨hN6,trivial⟩ ⟨.inl (Nat.le_add_right_of_le gN),trivial⟩ ⟨trivial,trivial⟩ ⟨⟨nlt (Nat.add_lt_add_left (by decide) _:N + 1 < N + 6),trivial⟩,⟨nlt (Nat.add_lt_add_left (by decide) _:N + 2 < N + 6),trivial⟩,⟨nlt (Nat.add_lt_add_left (by decide) _:N + 3 < N + 6),trivial⟩,trivial⟩
  refine go F 11 1 0 [3,2000,2001,2002,189] (i:=0) OD hA hh fun h1=>?_
  intro o_h1 OD
  refine Mn.st (.call (.ref 189) ⟨[.bytes #[a,b] to,.ref W,.ref l],[]⟩) ?_
  have k1:KeepsBut [N + 6] h h1:=OD.2.kept
  have c6:=CellsAt.one hN6
  have hsz:h.objs.size ≤ h1.objs.size:=size_le OD.1 OD.2
  refine pairs_call F (dk10 hA) (aH hh) OD.2.tp (Nat.le_trans gh hsz) (k1.tab c6 tb) (k1.logs c6 LA) n4 n5 fun j1 tk1 tt1 L e Q kj sj tbj bL hL eQ zQ=>?_
  have top1:TopOk w j1:=TopOk.keepsBut (h:=h1) OD.2.tp kj ⟨.inr (.inr (.inr rfl)),trivial⟩
  have f1:j1.get? (N + 6) = some (cellO none):=kj _ _ (OD.2.ob 0) (NotIn.mem ⟨(nlt (low_lt (Nat.le_add_right_of_le gN):181 < N + 6)).symm,trivial⟩)
  have ky:KeepsBut [181,N + 6] h j1:=(k1.mono fun q hq=>.tail _ hq).trans (kj.mono fun q hq=>List.mem_append_left [(N + 6:Addr)] hq)
  clear OD
  have OD:=startA (b1:=b1) (b2:=b2) (T0:=tk1) [] [N + 6] [cellO none] 1 rfl rfl (by kernel_rfl) top1 trivial ⟨f1,trivial⟩ ⟨.inl (Nat.le_add_right_of_le gN),trivial⟩ ⟨trivial,trivial⟩ trivial
  show Mn _ _ _ _ _ _ _ ⟨j1,g,d,tk1,os⟩
  refine go F 6 1 0 [1000,1000] (i:=0) OD hA hh fun q1=>?_
  intro o_q1 OD
  refine Mn.cast (c':=lawC w N) (κ':=.base) (t':=lawT w 10 N) (by kernel_rfl) (by kernel_rfl) (by kernel_rfl) ?_
  have kf:KeepsBut [N + 6] j1 q1:=OD.2.kept
  have c7:=CellsAt.one f1
  exact K q1 _ tt1 L e Q (ky.trans (kf.mono fun q hq=>.tail _ hq)) (Nat.le_trans hsz (Nat.le_trans sj (size_le OD.1 OD.2))) (kf.tab c7 tbj) bL (kf.ob c7 hL (ty_ne (by decide))) eQ (kf.prs c7 zQ) (OD.2.ob 0)
theorem law_s10 (F:Follows w b1 b2) (hA:Lo A 50) (hh:A.handled = none) (top:TopOk w h) (gN:219 ≤ N) (hN:h.get? N = some (fr4 w V nu st)) (hnu:h.get? nu = some (listO (intsV [(n0,t0),(n1,t1),(n2,t2),(n3,t3),(n4,t4)]) 0)) (hN7:h.get? (N + 7) = some (cellO none)) (nnu:NotIn nu [N + 7])
    (K:∀ h' tk' O xs ys e,KeepsBut [N + 7] h h' → h.objs.size ≤ h'.objs.size → h.objs.size ≤ O → h'.get? O = some (listO (intsV ys) e) → xs.map (·.1) = [0,1,2,3,4,5] → ys = popS [6,5,4,3,2,1] n3 xs → h'.get? (N + 7) = some (cellO (some (.ref O))) → Mn prog w A R (lawC w N) .base (lawT w 11 N) ⟨h',g,d,tk',os⟩) :
    Mn prog w A R (lawC w N) .base (lawT w 10 N) ⟨h,g,d,T0,os⟩:=by
  have OD:=startA (b1:=b1) (b2:=b2) (T0:=T0) [(N,fr4 w V nu st),(nu,listO (intsV [(n0,t0),(n1,t1),(n2,t2),(n3,t3),(n4,t4)]) 0)] [N + 7] [cellO none] 1 rfl rfl (by kernel_rfl) top ⟨hN,hnu,trivial⟩ ⟨hN7,trivial⟩ ⟨.inl (Nat.le_add_right_of_le gN),trivial⟩ ⟨trivial,trivial⟩ ⟨⟨nlt (Nat.add_lt_add_left (by decide) _:N + 0 < N + 7),trivial⟩,nnu,trivial⟩
  refine go F 17 1 1 [3,2000,2001,2001,2001,2001,2001,196] (i:=0) OD hA hh fun h1=>?_
  intro o_h1 OD
  refine Mn.st (.call (.ref 196) ⟨[.int n3 t3],[]⟩) ?_
  have k1:KeepsBut [N + 7] h h1:=OD.2.kept
  have hsz:h.objs.size ≤ h1.objs.size:=size_le OD.1 OD.2
  refine order_call F (dk10 hA) (aH hh) OD.2.tp fun j1 tk1 O xs ys e kj bO sj hO hx hy=>?_
  have ky:KeepsBut [N + 7] h j1:=k1.trans kj.but
  have top1:TopOk w j1:=top.keepsBut ky ⟨.inl (Nat.le_add_right_of_le gN),trivial⟩
  have f1:j1.get? (N + 7) = some (cellO none):=kj _ _ (OD.2.ob 0)
  clear OD
  have OD:=startA (b1:=b1) (b2:=b2) (T0:=tk1) [] [N + 7] [cellO none] 1 rfl rfl (by kernel_rfl) top1 trivial ⟨f1,trivial⟩ ⟨.inl (Nat.le_add_right_of_le gN),trivial⟩ ⟨trivial,trivial⟩ trivial
  show Mn _ _ _ _ _ _ _ ⟨j1,g,d,tk1,os⟩
  refine go F 6 1 0 [1000,1000] (i:=0) OD hA hh fun q1=>?_
  intro o_q1 OD
  refine Mn.cast (c':=lawC w N) (κ':=.base) (t':=lawT w 11 N) (by kernel_rfl) (by kernel_rfl) (by kernel_rfl) ?_
  have kf:KeepsBut [N + 7] j1 q1:=OD.2.kept
  have c7:=CellsAt.one f1
  exact K q1 _ O xs ys e (ky.trans kf) (Nat.le_trans hsz (Nat.le_trans sj (size_le OD.1 OD.2))) (Nat.le_trans hsz bO) (kf.ob c7 hO (ty_ne (by decide))) hx hy (OD.2.ob 0)
end
end Mine
namespace Mine
open PySem PySem.W PySem.W.X PyProof.Rows
noncomputable def Stands (h:Heap) (fs:List (Addr × Obj)):Prop:=∀ q ∈ fs,h.get? q.1 = some q.2
noncomputable def Below (B:Nat) (fs:List (Addr × Obj)):Prop:=∀ q ∈ fs,q.1 < B
noncomputable def Beh (B:Nat) (md:List Addr):Prop:=∀ q ∈ md,B ≤ q
theorem below_out {B:Nat} {md:List Addr} {a:Addr} (b:Beh B md) (z:a < B):a ∉ md:=fun hm=>Nat.lt_irrefl _ (Nat.lt_of_lt_of_le z (b a hm))
theorem Stands.keep {h h':Heap} {fs:List (Addr × Obj)} {B:Nat} {md:List Addr} (S:Stands h fs) (z:Below B fs) (b:Beh B md) (k:KeepsBut md h h'):Stands h' fs:=fun q hq=>k _ _ (S q hq) (below_out b (z q hq))
theorem Beh.mono {B:Nat} {md md2:List Addr} (b:Beh B md) (s:∀ q ∈ md2,q ∈ md):Beh B md2:=fun q hq=>b q (s q hq)
theorem Stands.below {h:Heap} {fs:List (Addr × Obj)} (S:Stands h fs):Below h.objs.size fs:=fun q hq=>Heap.lt_size (S q hq)
theorem Stands.at_ {h:Heap}:∀ {fs:List (Addr × Obj)},Stands h fs → At h fs
  | [],_=>trivial
  | q :: r,S=>⟨S q (.head _),Stands.at_ (fun z hz=>S z (.tail _ hz))⟩
noncomputable def PrV (B:Nat) (f:Int × Int) (v:Value) (h:Heap):Prop:=∃ z:Pr,v = .ref z.1 ∧ h.get? z.1 = some (prO z) ∧ B ≤ z.1 ∧ (z.2.1.1,z.2.2.1) = f
theorem PrV.keep {B:Nat} {f:Int × Int} {v:Value} {h h':Heap} {md:List Addr} (p:PrV B f v h) (b:∀ q ∈ md,q < B) (k:KeepsBut md h h'):PrV B f v h':=by
  obtain ⟨z,e1,e2,e3,e4⟩:=p
  exact ⟨z,e1,k _ _ e2 (fun hm=>Nat.lt_irrefl _ (Nat.lt_of_lt_of_le (b _ hm) e3)),e3,e4⟩
theorem vals_prs {B:Nat} {h:Heap}:∀ {fs:List (Int × Int)} {vals:List Value},vals.length = fs.length → (∀ (j:Nat) v,vals[j]? = some v → ∃ f,fs[j]? = some f ∧ PrV B f v h) → ∃ C:List Pr,vals = refsV C ∧ (∀ z ∈ C,h.get? z.1 = some (prO z) ∧ B ≤ z.1) ∧ bare C = fs
  | [],[],_,_=>⟨[],rfl,(fun _ hz=>nomatch hz),rfl⟩
  | [],_ :: _,h,_=>by simp at h
  | _ :: _,[],h,_=>by simp at h
  | f :: fs,v :: vals,hl,k=>by
    obtain ⟨f',hf,z,e1,e2,e3,e4⟩:=k 0 v rfl
    cases hf
    obtain ⟨C,c1,c2,c3⟩:=vals_prs (B:=B) (h:=h) (fs:=fs) (vals:=vals) (by simpa using hl) fun j v hj=>k (j + 1) v (by simpa using hj)
    refine ⟨z :: C,by rw [e1,c1]; rfl,fun y hy=>?_,?_⟩
    · rcases List.mem_cons.mp hy with rfl | hy
      · exact ⟨e2,e3⟩
      · exact c2 y hy
    · show (z.2.1.1,z.2.2.1) :: bare C = f :: fs
      rw [e4,c3]
end Mine
namespace Mine
open PySem PySem.W PySem.W.X PyProof.Rows
noncomputable def chE (w:World):Expr:=assignV (stAt w 218 11)
noncomputable def chN (qs:List (Int × Int)) (ch pl k:Int):Int × Int:=match qs[k.toNat]? with
  | some q=>(q.1,Builtin.bitXor q.2 (if k = pl then ch else 0))
  | none=>(0,0)
noncomputable def chOwn (N:Addr):List (Str × Addr):=[(n_place,N + 5),(n_pairs,N + 6),(n_change,N + 4)]
noncomputable def prFs (Q:List Pr):List (Addr × Obj):=Q.map fun z=>(z.1,prO z)
noncomputable def chFs (N L:Addr) (ch pl:Int) (u v:Nat) (Q:List Pr) (e:Nat):List (Addr × Obj):=(N + 6,cellO (some (.ref L))) :: (N + 5,cellO (some (.int pl v))) :: (N + 4,cellO (some (.int ch u))) :: (L,listO (refsV Q) e) :: prFs Q
section
variable {w:World} {b1 b2:Bool} {A:Around} {R:Result → Shared → Prop} {h:Heap} {g:Array GenState} {d:Drawn} {T0:Nat} {os:OsState} {it acc loc N L:Addr} {ch pl:Int} {u v e:Nat} {Q:List Pr} {B:Nat} {x:Int} {tx:Nat} {lo:Obj}
theorem ch_turn (F:Follows w b1 b2) (hA:Lo A 400) (hh:A.handled = none) (top:TopOk w h) (S:Stands h (chFs N L ch pl u v Q e)) (Z:Below B (chFs N L ch pl u v Q e)) (bl:B ≤ loc) (gl:219 ≤ loc) (hlo:h.get? loc = some lo) (ok:L1ok w n_k lo) (h0:0 ≤ x) (h1:x < 6) (hq:Q.length = 6)
    (K:∀ h' tk val lo',KeepsBut [loc] h h' → h.objs.size ≤ h'.objs.size → PrV h.objs.size (chN (bare Q) ch pl x) val h' → h'.get? loc = some lo' → L1two w n_k lo' → R (.ok (.ret val)) ⟨h',g,d,tk,os⟩) :
    Mn prog w A R (.compLoop (chE w) 0 (.ref it) (.ref acc) (lawEnvC w (chE w) (chOwn N) loc N)) .base (lcT (chE w) (lawEnvC w (chE w) (chOwn N) loc N) (.int x tx)) ⟨h,g,d,T0,os⟩:=by
  have zl:loc < h.objs.size:=Heap.lt_size hlo
  have hlt:x.toNat < Q.length:=by lia
  obtain ⟨z,hz⟩:∃ z,Q[x.toNat]? = some z:=⟨_,List.getElem?_eq_getElem hlt⟩
  have hzm:z ∈ Q:=List.mem_of_getElem? hz
  have hv:(refsV Q)[x.toNat]? = some (.ref z.1):=by unfold refsV; rw [List.getElem?_map,hz]; rfl
  have eN:chN (bare Q) ch pl x = (z.2.1.1,Builtin.bitXor z.2.2.1 (if x = pl then ch else 0)):=by
    have:(bare Q)[x.toNat]? = some (z.2.1.1,z.2.2.1):=by unfold bare; rw [List.getElem?_map,hz]; rfl
    unfold chN
    rw [this]
  have m4:(z.1,prO z) ∈ chFs N L ch pl u v Q e:=.tail _ (.tail _ (.tail _ (.tail _ (List.mem_map.mpr ⟨z,hzm,rfl⟩))))
  have hz1:h.get? z.1 = some (prO z):=S _ m4
  have lz:z.1 < B:=Z _ m4
  have c0:h.get? (N + 6) = some (cellO (some (.ref L))):=S _ (.head _)
  have c1:h.get? (N + 5) = some (cellO (some (.int pl v))):=S _ (.tail _ (.head _))
  have c2:h.get? (N + 4) = some (cellO (some (.int ch u))):=S _ (.tail _ (.tail _ (.head _)))
  have c3:h.get? L = some (listO (refsV Q) e):=S _ (.tail _ (.tail _ (.tail _ (.head _))))
  have out:∀ a:Addr,a < B → NotIn a [loc]:=fun a ha=>⟨Nat.ne_of_lt (Nat.lt_of_lt_of_le ha bl),trivial⟩
  have o0:=out _ (Z _ (.head _))
  have o1:=out _ (Z _ (.tail _ (.head _)))
  have o2:=out _ (Z _ (.tail _ (.tail _ (.head _))))
  have o3:=out _ (Z _ (.tail _ (.tail _ (.tail _ (.head _)))))
  have o4:=out _ lz
  obtain ⟨za,⟨zx,zt⟩,zy,zu⟩:=z
  have hz1':h.get? za = some (pairO zx zt zy zu):=hz1
  have main:∀ (lb:Obj),L1ok w n_k lb → h.get? loc = some lb → Mn prog w A R (.compLoop (chE w) 0 (.ref it) (.ref acc) (lawEnvC w (chE w) (chOwn N) loc N)) .base (lcT (chE w) (lawEnvC w (chE w) (chOwn N) loc N) (.int x tx)) ⟨h,g,d,T0,os⟩:=by
    intro lb hb hlo
    obtain ⟨tg,k1,v1,rfl⟩:=L1ok.form hb
    cases tg
    · have OD:=startA (b1:=b1) (b2:=b2) (T0:=T0) [(N + 6,cellO (some (.ref L))),(N + 5,cellO (some (.int pl v))),(N + 4,cellO (some (.int ch u))),(L,listO (refsV Q) e),(za,pairO zx zt zy zu)] [loc] [locO w [] 0] 1 rfl rfl (by kernel_rfl) top ⟨c0,c1,c2,c3,hz1',trivial⟩ ⟨hlo,trivial⟩ ⟨.inl gl,trivial⟩ ⟨trivial,trivial⟩ ⟨o0,o1,o2,o3,o4,trivial⟩
      refine go F 16 1 1 [1000,1000,2000,1000,2003,2003,2003] (i:=0) OD hA hh fun h1=>?_
      intro o_h1 OD
      refine Mn.st (.call (.builtin "list.__getitem__") ⟨[.ref L,.int x tx],[]⟩) ?_
      refine c_list_get (OD.2.still 3 rfl) h0 (by lia) hv ?_
      refine go F 20 1 2 [2004,2004,2004,2004,2004,2000,1000,2003,2003,2003] (i:=1) OD hA hh fun h2=>?_
      intro o_h2 OD
      refine Mn.st (.call (.builtin "list.__getitem__") ⟨[.ref L,.int x tx],[]⟩) ?_
      refine c_list_get (OD.2.still 3 rfl) h0 (by lia) hv ?_
      by_cases hk:x = pl
      · rw [if_pos hk] at eN
        refine goP F 29 2 4 [2004,2004,2004,2004,2004,1000,2001,7000,7201,2002] [(x == pl) = true] (i:=2) OD hA hh ⟨(by rw [hk]; exact beq_self_eq_true _),trivial⟩ fun h3=>?_
        intro o_h3 OD
        refine Mn.en (.ret (.ref (h.objs.size + 0))) ?_
        exact K h3 _ _ (locO w [(n_k,T0 + 0,.int x tx)] 1) OD.2.kept (size_le OD.1 OD.2) ⟨(h.objs.size + 0,(zx,zt),Builtin.bitXor zy ch,T0 + 3),rfl,OD.2.ob 1,Nat.le_add_right _ _,eN.symm⟩ (OD.2.ob 0) ⟨_,_,rfl⟩
      · rw [if_neg hk] at eN
        refine goP F 28 2 5 [2004,2004,2004,2004,2004,1000,2001,7000,7200] [(x == pl) = false] (i:=2) OD hA hh ⟨beq_false_of_ne hk,trivial⟩ fun h3=>?_
        intro o_h3 OD
        refine Mn.en (.ret (.ref (h.objs.size + 0))) ?_
        exact K h3 _ _ (locO w [(n_k,T0 + 0,.int x tx)] 1) OD.2.kept (size_le OD.1 OD.2) ⟨(h.objs.size + 0,(zx,zt),Builtin.bitXor zy 0,T0 + 4),rfl,OD.2.ob 1,Nat.le_add_right _ _,eN.symm⟩ (OD.2.ob 0) ⟨_,_,rfl⟩
    · have OD:=startA (b1:=b1) (b2:=b2) (T0:=T0) [(N + 6,cellO (some (.ref L))),(N + 5,cellO (some (.int pl v))),(N + 4,cellO (some (.int ch u))),(L,listO (refsV Q) e),(za,pairO zx zt zy zu)] [loc] [locO w [(n_k,k1,v1)] 1] 1 rfl rfl (by kernel_rfl) top ⟨c0,c1,c2,c3,hz1',trivial⟩ ⟨hlo,trivial⟩ ⟨.inl gl,trivial⟩ ⟨trivial,trivial⟩ ⟨o0,o1,o2,o3,o4,trivial⟩
      refine go F 16 1 1 [1000,1000,2000,1000,2003,2003,2003] (i:=0) OD hA hh fun h1=>?_
      intro o_h1 OD
      refine Mn.st (.call (.builtin "list.__getitem__") ⟨[.ref L,.int x tx],[]⟩) ?_
      refine c_list_get (OD.2.still 3 rfl) h0 (by lia) hv ?_
      refine go F 20 1 2 [2004,2004,2004,2004,2004,2000,1000,2003,2003,2003] (i:=1) OD hA hh fun h2=>?_
      intro o_h2 OD
      refine Mn.st (.call (.builtin "list.__getitem__") ⟨[.ref L,.int x tx],[]⟩) ?_
      refine c_list_get (OD.2.still 3 rfl) h0 (by lia) hv ?_
      by_cases hk:x = pl
      · rw [if_pos hk] at eN
        refine goP F 29 2 4 [2004,2004,2004,2004,2004,1000,2001,7000,7201,2002] [(x == pl) = true] (i:=2) OD hA hh ⟨(by rw [hk]; exact beq_self_eq_true _),trivial⟩ fun h3=>?_
        intro o_h3 OD
        refine Mn.en (.ret (.ref (h.objs.size + 0))) ?_
        exact K h3 _ _ (locO w [(n_k,k1,.int x tx)] 1) OD.2.kept (size_le OD.1 OD.2) ⟨(h.objs.size + 0,(zx,zt),Builtin.bitXor zy ch,T0 + 3),rfl,OD.2.ob 1,Nat.le_add_right _ _,eN.symm⟩ (OD.2.ob 0) ⟨_,_,rfl⟩
      · rw [if_neg hk] at eN
        refine goP F 28 2 5 [2004,2004,2004,2004,2004,1000,2001,7000,7200] [(x == pl) = false] (i:=2) OD hA hh ⟨beq_false_of_ne hk,trivial⟩ fun h3=>?_
        intro o_h3 OD
        refine Mn.en (.ret (.ref (h.objs.size + 0))) ?_
        exact K h3 _ _ (locO w [(n_k,k1,.int x tx)] 1) OD.2.kept (size_le OD.1 OD.2) ⟨(h.objs.size + 0,(zx,zt),Builtin.bitXor zy 0,T0 + 4),rfl,OD.2.ob 1,Nat.le_add_right _ _,eN.symm⟩ (OD.2.ob 0) ⟨_,_,rfl⟩
  exact main lo ok hlo
theorem PrV.mono {B B':Nat} {f:Int × Int} {v:Value} {h:Heap} (p:PrV B f v h) (e:B' ≤ B):PrV B' f v h :=
  let ⟨z,e1,e2,e3,e4⟩:=p; ⟨z,e1,e2,Nat.le_trans e e3,e4⟩
theorem ch_comp {O oe ep:Nat} {ys:List (Int × Nat)} (F:Follows w b1 b2) (hA:Lo A 400) (hh:A.handled = none) (top:TopOk w h) (S:Stands h (chFs N L ch pl u v Q e)) (Z:Below B (chFs N L ch pl u v Q e)) (gB:219 ≤ B) (b1':B ≤ it) (b2':it < acc) (b3':acc < loc) (hq:Q.length = 6)
    (hO:h.get? O = some (listO (intsV ys) oe)) (zO:O < B) (hys:∀ y ∈ ys.map (·.1),0 ≤ y ∧ y < 6) (hl:ys.length = 6) (hit:h.get? it = some (litO O 0)) (hacc:h.get? acc = some (listO [] ep)) (hloc:h.get? loc = some (locO w [] 0))
    (K:∀ h' tk C ep' oi k1 v1,KeepsBut [it,acc,loc] h h' → h.objs.size ≤ h'.objs.size → h'.get? it = some oi → h'.get? acc = some (listO (refsV C) ep') → (∀ z ∈ C,h'.get? z.1 = some (prO z) ∧ loc + 1 ≤ z.1) → bare C = ys.map (fun q=>chN (bare Q) ch pl q.1) → h'.get? loc = some (locO w [(n_k,k1,v1)] 1) → R (.ok .next) ⟨h',g,d,tk,os⟩) :
    codeAny (model prog w) A (.compStart (chE w) 0 (.ref it) (.ref acc) (lawEnvC w (chE w) (chOwn N) loc N)) R ⟨h,g,d,T0,os⟩:=by
  have hlen:(intsV ys).length = ys.length:=by simp [intsV]
  have bacc:B ≤ acc:=Nat.le_trans b1' (Nat.le_of_lt b2')
  have bloc:B ≤ loc:=Nat.le_trans bacc (Nat.le_of_lt b3')
  have b4':it < loc:=Nat.lt_trans b2' b3'
  have beh:Beh B [it,acc,loc]:=fun q hq=>by
    simp only [List.mem_cons,List.not_mem_nil,or_false] at hq
    rcases hq with e | e | e <;> rw [e] <;> assumption
  have low:∀ q ∈ [it,acc,loc],q < loc + 1:=fun q hq=>by
    simp only [List.mem_cons,List.not_mem_nil,or_false] at hq
    rcases hq with e | e | e <;> rw [e]
    · exact Nat.lt_succ_of_lt b4'
    · exact Nat.lt_succ_of_lt b3'
    · exact Nat.lt_succ_self _
  have LF:LcFix w (chE w) (lawEnvC w (chE w) (chOwn N) loc N) it acc loc (intsV ys).length (fun i h=>h.get? it = some (litO O i) ∧ h.get? O = some (listO (intsV ys) oe) ∧ O ≠ it) (fun i v=>(intsV ys)[i]? = some v) [] (L1ok w n_k) (L1two w n_k) (fun h=>Stands h (chFs N L ch pl u v Q e)) (fun i val h=>∃ f,(ys.map (fun q=>chN (bare Q) ch pl q.1))[i]? = some f ∧ PrV (loc + 1) f val h) g d os 400 :=
    { D:=⟨by kernel_rfl,by kernel_rfl,by kernel_rfl⟩
      V:=iter_list w it O (intsV ys) oe
      nia:=Nat.ne_of_lt b2',nil:=Nat.ne_of_lt b4',nal:=Nat.ne_of_lt b3',nim:=fun h=>(nomatch h),nam:=fun h=>(nomatch h),fr:=⟨.inl (Nat.le_trans gB b1'),.inl (Nat.le_trans gB bacc),.inl (Nat.le_trans gB bloc),trivial⟩,hn:=by rw [hlen]; lia
      up:=fun o h=>.inr h
      stI:=fun i h h' k hI=>⟨k _ _ hI.1 (NotIn.mem ⟨Nat.ne_of_lt b2',Nat.ne_of_lt b4',trivial⟩),k _ _ hI.2.1 (below_out (beh.mono fun q hq=>.tail _ hq) zO),hI.2.2⟩
      stV:=fun h h' k S=>S.keep Z (beh.mono fun q hq=>by
        simp only [List.mem_cons,List.not_mem_nil,or_false] at hq
        rcases hq with e | e <;> simp [e]) k
      stP:=fun i v h h' k p=>let ⟨f,e,p⟩:=p; ⟨f,e,p.keep low k⟩
      turn:=fun i x A R h T0 lo hi hx hA hh top S hlo ok _ _ K=>by
        have hx':(intsV ys)[i]? = some x:=hx
        unfold intsV at hx'
        rw [List.getElem?_map] at hx'
        cases hq':ys[i]? with
        | none=>rw [hq'] at hx'; cases hx'
        | some q =>
          rw [hq'] at hx'
          cases hx'
          have hm:=hys q.1 (List.mem_map.mpr ⟨q,List.mem_of_getElem? hq',rfl⟩)
          refine ch_turn F hA hh top S Z bloc (Nat.le_trans gB bloc) hlo ok hm.1 hm.2 hq fun h' tk val lo' k s p hlo' ok'=>K h' tk val lo' k s (S.keep Z (beh.mono fun q hq=>by rw [List.mem_singleton.mp hq]; simp) k) ⟨_,by rw [List.getElem?_map,hq']; rfl,p.mono (Nat.succ_le_of_lt (Heap.lt_size hlo))⟩ hlo' ok' }
  refine lc_comp LF hA hh top ⟨hit,hO,Nat.ne_of_lt (Nat.lt_of_lt_of_le zO b1')⟩ hacc S hloc (.inl rfl) fun h' tk vals ep' lo' oi k s hoi _ hlv hP hacc' hlo' ok'=>?_
  obtain ⟨C,rfl,c2,c3⟩:=vals_prs (fs:=ys.map (fun q=>chN (bare Q) ch pl q.1)) (by rw [hlv,hlen,List.length_map]) hP
  obtain ⟨k1,v1,rfl⟩:∃ k1 v1,lo' = locO w [(n_k,k1,v1)] 1:=ok'.elim (fun z=>by rw [hlen,hl] at z; exact absurd z.1 (by decide)) id
  exact K h' tk C ep' oi k1 v1 k s hoi hacc' c2 c3 hlo'
end
end Mine
namespace Mine
open PySem PySem.W PySem.W.X PyProof.Rows
theorem KeepsBut.up {h a b:Heap} {md:List Addr} (x:KeepsBut md h a) (y:KeepsBut (md ++ [h.objs.size + 0,h.objs.size + 1,h.objs.size + 2]) a b):KeepsBut md h b:=x.beh (fun q hq=>by
  rcases List.mem_append.mp hq with e | e
  · exact .inr e
  · simp only [List.mem_cons,List.not_mem_nil,or_false] at e
    rcases e with e | e | e <;> (rw [e]; exact .inl (Nat.le_add_right _ _))) y
theorem Stands.but {h h':Heap} {fs:List (Addr × Obj)} {md:List Addr} (S:Stands h fs) (k:KeepsBut md h h') (hm:∀ a ∈ md,∃ o,h.get? a = some o ∧ ∀ q ∈ fs,q.2.cls ≠ o.cls):Stands h' fs:=fun q hq=>k _ _ (S q hq) fun ha=>by
  obtain ⟨o,e,n⟩:=hm _ ha
  rw [S q hq] at e
  exact n q hq (congrArg Obj.cls (Option.some.inj e))
theorem Stands.but1 {h h':Heap} {fs:List (Addr × Obj)} {a:Addr} {o:Obj} (S:Stands h fs) (k:KeepsBut [a] h h') (e:h.get? a = some o) (n:∀ q ∈ fs,q.2.cls ≠ o.cls):Stands h' fs:=S.but k fun a' ha=>by
  rw [List.mem_singleton.mp ha]
  exact ⟨o,e,n⟩
theorem up_out {z N s:Nat} (h1:s + 2 + 1 ≤ z) (h2:N < s):(z:Addr) ∉ [(N:Addr),s + 0,s + 1,s + 2]:=NotIn.mem ⟨(nlt (by lia:N < z)).symm,(nlt (by lia:s + 0 < z)).symm,(nlt (by lia:s + 1 < z)).symm,(nlt (by lia:s + 2 < z)).symm,trivial⟩
theorem chFs_cls {N L:Addr} {ch pl:Int} {u v e:Nat} {Q:List Pr}:∀ q ∈ chFs N L ch pl u v Q e,q.2.cls ≠ .type "frame":=fun q hq=>by
  unfold chFs at hq
  simp only [List.mem_cons] at hq
  rcases hq with e | e | e | e | e
  · rw [e]; exact ty_ne (by decide)
  · rw [e]; exact ty_ne (by decide)
  · rw [e]; exact ty_ne (by decide)
  · rw [e]; exact ty_ne (by decide)
  · obtain ⟨z,_,rfl⟩:=List.mem_map.mp e
    exact ty_ne (by decide)
end Mine
namespace Mine
open PySem PySem.W PySem.W.X PyProof.Rows
section
variable {w:World} {V:LV} {b1 b2:Bool} {A:Around} {R:Result → Shared → Prop} {h:Heap} {g:Array GenState} {d:Drawn} {T0:Nat} {os:OsState} {N nu W l L O Cl Wr:Nat} {sc dr lx Wo Me:Addr} {k0 k1 k2 k3 k4 k5 k6 k7 k8 k9 u3 u6:Nat} {tx:Str} {st:Int} {ps:List (Int × Nat)} {pe oe ce we:Nat} {n0 n1 n2 n3 n4:Int} {t0 t1 t2 t3 t4 to:Nat} {a b:UInt8} {tt:TT} {lg:Int → Int} {ch pl:Int} {u v e:Nat} {Q C:List Pr} {ys:List (Int × Nat)}
theorem law_s11 (F:Follows w b1 b2) (hA:Lo A 50) (hh:A.handled = none) (top:TopOk w h) (gN:219 ≤ N) (gh:219 ≤ h.objs.size) (hN:h.get? N = some (fr4 w V nu st)) (hN7:h.get? (N + 7) = some (cellO (some (.ref O)))) (hO:h.get? O = some (listO (intsV ys) oe)) (nON:O ≠ N) (hys:∀ y ∈ ys.map (·.1),0 ≤ y ∧ y < 6) (hl:ys.length = 6) (S:Stands h (chFs N L ch pl u v Q e)) (hq:Q.length = 6)
    (K:∀ h' tk' C Cl ce k4,KeepsBut [N] h h' → h.objs.size ≤ h'.objs.size → h.objs.size ≤ Cl → h'.get? Cl = some (listO (refsV C) ce) → (∀ z ∈ C,h'.get? z.1 = some (prO z) ∧ h.objs.size ≤ z.1) → bare C = ys.map (fun q=>chN (bare Q) ch pl q.1) → h'.get? N = some (fr5 w V nu st k4 Cl) → Mn prog w A R (lawC w N) .base (lawT w 12 N) ⟨h',g,d,tk',os⟩) :
    Mn prog w A R (lawC w N) .base (lawT w 11 N) ⟨h,g,d,T0,os⟩:=by
  have OD:=startA (b1:=b1) (b2:=b2) (T0:=T0) [(N + 7,cellO (some (.ref O))),(O,listO (intsV ys) oe)] [N] [fr4 w V nu st] 1 rfl rfl (by kernel_rfl) top ⟨hN7,hO,trivial⟩ ⟨hN,trivial⟩ ⟨.inl gN,trivial⟩ ⟨trivial,trivial⟩ ⟨⟨(nlt (Nat.add_lt_add_left (by decide) _:N + 0 < N + 7)).symm,trivial⟩,⟨nON,trivial⟩,trivial⟩
  refine go F 16 4 0 [2000,2001,2001,7000,2001,1001] (i:=0) OD hA hh fun h1=>?_
  intro o_h1 OD
  refine Mn.st (.compStart (chE w) 0 (.ref (h.objs.size + 0)) (.ref (h.objs.size + 1)) (lawEnvC w (chE w) (chOwn N) (h.objs.size + 2) N)) ?_
  have k1':KeepsBut [N] h h1:=OD.2.kept
  refine ch_comp (B:=h.objs.size) (ep:=0) F (dk10 hA) (aH hh) OD.2.tp (S.but1 k1' hN chFs_cls) S.below gh (Nat.le_add_right _ _) (Nat.add_lt_add_left (by decide) _) (Nat.add_lt_add_left (by decide) _) hq (OD.2.still 1 rfl) (Heap.lt_size hO) hys hl (OD.2.ob 1) (OD.2.ob 2) (OD.2.ob 3) fun ja ka C ep' oi kk vv kq sq hoi hac hC eC hlo=>?_
  replace OD:=creL ka [(1,(h.objs.size + 0),oi),(2,(h.objs.size + 1),listO (refsV C) ep'),(3,(h.objs.size + 2),locO w [(n_k,kk,vv)] 1)] [] OD ⟨(by kernel_rfl),hoi,(by kernel_rfl),hac,(by kernel_rfl),hlo,trivial⟩ kq sq trivial
  have kb:KeepsBut [N] h ja:=OD.2.kept
  have sb:h.objs.size ≤ ja.objs.size:=size_le OD.1 OD.2
  replace OD:=fresh OD rfl rfl
  show Mn _ _ _ _ _ _ _ ⟨ja,g,d,ka,os⟩
  refine go F 13 4 1 [1000,1000,1003,1003,1003] (i:=0) OD hA hh fun h2=>?_
  intro o_h2 OD
  refine Mn.cast (c':=lawC w N) (κ':=.base) (t':=lawT w 12 N) (by kernel_rfl) (by kernel_rfl) (by kernel_rfl) ?_
  have kf:KeepsBut [N,h.objs.size + 0,h.objs.size + 1,h.objs.size + 2] ja h2:=OD.2.kept
  refine K h2 _ C (h.objs.size + 1) ep' (ka + 0) (KeepsBut.up (md:=[N]) kb kf) (Nat.le_trans sb (size_le OD.1 OD.2)) (Nat.le_add_right _ _) (OD.2.ob 2 (o:=(listO (refsV C) ep'))) (fun z hz=>⟨kf _ _ (hC z hz).1 (up_out (hC z hz).2 (Heap.lt_size hN)),Nat.le_trans (Nat.le_add_right _ 3) (hC z hz).2⟩) eC (OD.2.ob 0)
end
end Mine
namespace Mine
open PySem PySem.W PySem.W.X PyProof.Rows
noncomputable def wrE (w:World):Expr:=assignV (stAt w 218 12)
noncomputable def L2two (w:World) (n1 n2:Str) (o:Obj):Prop:=∃ a b c d,o = locO w [(n1,a,b),(n2,c,d)] 2
noncomputable def L2ok (w:World) (n1 n2:Str) (o:Obj):Prop:=o = locO w [] 0 ∨ L2two w n1 n2 o
noncomputable def locT2 (w:World) (n1 n2:Str) (t:Bool) (a:Nat) (b:Value) (c:Nat) (d:Value):Obj:=match t with
  | false=>locO w [] 0
  | true=>locO w [(n1,a,b),(n2,c,d)] 2
theorem L2ok.form {w:World} {n1 n2:Str} {o:Obj} (h:L2ok w n1 n2 o):∃ t a b c d,o = locT2 w n1 n2 t a b c d:=by
  rcases h with h | ⟨a,b,c,d,h⟩
  · exact ⟨false,0,.none,0,.none,h⟩
  · exact ⟨true,a,b,c,d,h⟩
noncomputable def hexT (f:Int × Int):Str:=⟨#[hx f.1.toNat,hx f.2.toNat]⟩
section
variable {w:World} {b1 b2:Bool} {A:Around} {R:Result → Shared → Prop} {h:Heap} {g:Array GenState} {d:Drawn} {T0:Nat} {os:OsState} {it acc loc N za:Addr} {p v:Int} {tp tv:Nat} {lo:Obj}
theorem wr_turn (F:Follows w b1 b2) (hA:Lo A 200) (hh:A.handled = none) (top:TopOk w h) (hz:h.get? za = some (pairO p tp v tv)) (hp:In16 p) (hv:In16 v) (nz:za ≠ loc) (gl:219 ≤ loc) (hlo:h.get? loc = some lo) (ok:L2ok w n_point n_value lo)
    (K:∀ h' tk t lo',KeepsBut [loc] h h' → h.objs.size ≤ h'.objs.size → h'.get? loc = some lo' → L2two w n_point n_value lo' → R (.ok (.ret (.str (hexT (p,v)) t))) ⟨h',g,d,tk,os⟩) :
    Mn prog w A R (.compLoop (wrE w) 0 (.ref it) (.ref acc) (lawEnvC w (wrE w) [] loc N)) .base (lcT (wrE w) (lawEnvC w (wrE w) [] loc N) (.ref za)) ⟨h,g,d,T0,os⟩:=by
  obtain ⟨m,rfl⟩:∃ m:Nat,p = (m:Int):=⟨p.toNat,by have:=hp.1; lia⟩
  obtain ⟨k,rfl⟩:∃ k:Nat,v = (k:Int):=⟨v.toNat,by have:=hv.1; lia⟩
  have lm:m < 16:=by have:=hp.2; omega
  have lk:k < 16:=by have:=hv.2; lia
  have e0:((16 * (m:Int) + (k:Int)).toNat.toUInt8).toNat = 16 * m + k:=(u8_back _ (by lia)).trans (by lia)
  have e1:((16 * (m:Int) + (k:Int)).toNat.toUInt8).toNat / 16 = m:=by rw [e0]; lia
  have e2:((16 * (m:Int) + (k:Int)).toNat.toUInt8).toNat % 16 = k:=by rw [e0]; lia
  obtain ⟨tg,q1,q2,q3,q4,rfl⟩:=L2ok.form ok
  cases tg
  · have OD:=startA (b1:=b1) (b2:=b2) (T0:=T0) [(za,pairO (m:Int) tp (k:Int) tv)] [loc] [locO w [] 0] 1 rfl rfl (by kernel_rfl) top ⟨hz,trivial⟩ ⟨hlo,trivial⟩ ⟨.inl gl,trivial⟩ ⟨trivial,trivial⟩ ⟨⟨nz,trivial⟩,trivial⟩
    refine go F 104 7 5 [2000,2000,2000,7000,2000,1001,1001,1001,1001,1001,2000,1001,1001,1001,1001,1001,1001,2000,1001,1001,1001,1001,1001,1001,2000,1001,1001,1003,1000,1000,1000,1000,3,3,0,1000,1000,1004,1004,1004,1004,1004,1004,1004,7000,1004,1005,1004,1004] (i:=0) OD hA hh fun h1=>?_
    intro o_h1 OD
    refine Mn.againK (c':=.builtin "bytes.__new__.loop" ⟨[.type "bytes",.ref (h.objs.size + 4),.ref (h.objs.size + 5)],[]⟩) (by kernel_rfl) (by kernel_rfl) (by kernel_rfl) ?_
    refine c_bytes_loop (l:=(h.objs.size + 3)) (e:=0) (all:=[(16 * (m:Int) + (k:Int),(T0 + 4))]) (aH hh) (ne_addr OD.1 5 6 (by kernel_rfl) (by kernel_rfl) (by decide)) (ne_addr OD.1 4 5 (by kernel_rfl) (by kernel_rfl) (by decide)) (ne_addr OD.1 4 6 (by kernel_rfl) (by kernel_rfl) (by decide)) (by simp) (by simp only [List.map_cons,List.map_nil,List.forall_mem_cons,List.not_mem_nil,false_implies,implies_true,and_true]; lia) [(16 * (m:Int) + (k:Int),(T0 + 4))] [] _ rfl (OD.2.ob 4) (OD.2.ob 5) (OD.2.ob 6) fun jz kz tz hz' sz iz bz=>?_
    replace OD:=creL kz [(5,(h.objs.size + 4),litE 1),(6,(h.objs.size + 5),barO (u8s (List.map (·.1) [(16 * (m:Int) + (k:Int),(T0 + 4))])).toArray)] [] OD ⟨(by kernel_rfl),iz,(by kernel_rfl),bz,trivial⟩ hz' sz trivial
    show Mn _ _ _ _ _ _ _ ⟨jz,g,d,kz,os⟩
    refine go F 7 7 0 [117] (i:=0) OD hA hh fun h2=>?_
    intro o_h2 OD
    refine Mn.st (.call (.ref 117) ⟨[.bytes #[(16 * (m:Int) + (k:Int)).toNat.toUInt8] tz],[]⟩) ?_
    refine enc1_call F (dk hA) (aH hh) OD.2.tp fun j2 tk2 te k2 s2=>?_
    rw [e1,e2]
    replace OD:=creL tk2 [] [] OD trivial k2.but s2 trivial
    show Mn _ _ _ _ _ _ _ ⟨j2,g,d,tk2,os⟩
    refine go F 5 7 1 [] (i:=0) OD hA hh fun h3=>?_
    intro o_h3 OD
    refine Mn.st (.call (.builtin "bytes.decode") ⟨[.bytes #[(hx m).toUInt8,(hx k).toUInt8] te,.str ⟨#[97,115,99,105,105]⟩ (tk2 + 0)],[]⟩) ?_
    refine c_decH2 lm lk fun td kd=>?_
    replace OD:=cre0 kd OD (Keeps.refl _) (Nat.le_refl _)
    show Mn _ _ _ _ _ _ _ ⟨h3,g,d,kd,os⟩
    refine go F 1 7 0 [] (i:=0) OD hA hh fun h4=>?_
    intro o_h4 OD
    refine Mn.en (.ret (.str ⟨#[hx m,hx k]⟩ td)) ?_
    exact K h4 _ td (locO w [(n_point,T0 + 0,.int (m:Int) tp),(n_value,T0 + 1,.int (k:Int) tv)] 2) OD.2.kept (size_le OD.1 OD.2) (OD.2.ob 0) ⟨_,_,_,_,rfl⟩
  · have OD:=startA (b1:=b1) (b2:=b2) (T0:=T0) [(za,pairO (m:Int) tp (k:Int) tv)] [loc] [locO w [(n_point,q1,q2),(n_value,q3,q4)] 2] 1 rfl rfl (by kernel_rfl) top ⟨hz,trivial⟩ ⟨hlo,trivial⟩ ⟨.inl gl,trivial⟩ ⟨trivial,trivial⟩ ⟨⟨nz,trivial⟩,trivial⟩
    refine go F 104 7 5 [2000,2000,2000,7000,2000,1001,1001,1001,1001,1001,2000,1001,1001,1001,1001,1001,1001,2000,1001,1001,1001,1001,1001,1001,2000,1001,1001,1003,1000,1000,1000,1000,3,3,0,1000,1000,1004,1004,1004,1004,1004,1004,1004,7000,1004,1005,1004,1004] (i:=0) OD hA hh fun h1=>?_
    intro o_h1 OD
    refine Mn.againK (c':=.builtin "bytes.__new__.loop" ⟨[.type "bytes",.ref (h.objs.size + 4),.ref (h.objs.size + 5)],[]⟩) (by kernel_rfl) (by kernel_rfl) (by kernel_rfl) ?_
    refine c_bytes_loop (l:=(h.objs.size + 3)) (e:=0) (all:=[(16 * (m:Int) + (k:Int),(T0 + 4))]) (aH hh) (ne_addr OD.1 5 6 (by kernel_rfl) (by kernel_rfl) (by decide)) (ne_addr OD.1 4 5 (by kernel_rfl) (by kernel_rfl) (by decide)) (ne_addr OD.1 4 6 (by kernel_rfl) (by kernel_rfl) (by decide)) (by simp) (by simp only [List.map_cons,List.map_nil,List.forall_mem_cons,List.not_mem_nil,false_implies,implies_true,and_true]; lia) [(16 * (m:Int) + (k:Int),(T0 + 4))] [] _ rfl (OD.2.ob 4) (OD.2.ob 5) (OD.2.ob 6) fun jz kz tz hz' sz iz bz=>?_
    replace OD:=creL kz [(5,(h.objs.size + 4),litE 1),(6,(h.objs.size + 5),barO (u8s (List.map (·.1) [(16 * (m:Int) + (k:Int),(T0 + 4))])).toArray)] [] OD ⟨(by kernel_rfl),iz,(by kernel_rfl),bz,trivial⟩ hz' sz trivial
    show Mn _ _ _ _ _ _ _ ⟨jz,g,d,kz,os⟩
    refine go F 7 7 0 [117] (i:=0) OD hA hh fun h2=>?_
    intro o_h2 OD
    refine Mn.st (.call (.ref 117) ⟨[.bytes #[(16 * (m:Int) + (k:Int)).toNat.toUInt8] tz],[]⟩) ?_
    refine enc1_call F (dk hA) (aH hh) OD.2.tp fun j2 tk2 te k2 s2=>?_
    rw [e1,e2]
    replace OD:=creL tk2 [] [] OD trivial k2.but s2 trivial
    show Mn _ _ _ _ _ _ _ ⟨j2,g,d,tk2,os⟩
    refine go F 5 7 1 [] (i:=0) OD hA hh fun h3=>?_
    intro o_h3 OD
    refine Mn.st (.call (.builtin "bytes.decode") ⟨[.bytes #[(hx m).toUInt8,(hx k).toUInt8] te,.str ⟨#[97,115,99,105,105]⟩ (tk2 + 0)],[]⟩) ?_
    refine c_decH2 lm lk fun td kd=>?_
    replace OD:=cre0 kd OD (Keeps.refl _) (Nat.le_refl _)
    show Mn _ _ _ _ _ _ _ ⟨h3,g,d,kd,os⟩
    refine go F 1 7 0 [] (i:=0) OD hA hh fun h4=>?_
    intro o_h4 OD
    refine Mn.en (.ret (.str ⟨#[hx m,hx k]⟩ td)) ?_
    exact K h4 _ td (locO w [(n_point,q1,.int (m:Int) tp),(n_value,q3,.int (k:Int) tv)] 2) OD.2.kept (size_le OD.1 OD.2) (OD.2.ob 0) ⟨_,_,_,_,rfl⟩
noncomputable def wrV (ws:List ((Int × Int) × Nat)):List Value:=ws.map fun q=>.str (hexT q.1) q.2
theorem vals_wr:∀ {fs:List (Int × Int)} {vals:List Value},vals.length = fs.length → (∀ (j:Nat) v,vals[j]? = some v → ∃ f t,fs[j]? = some f ∧ v = Value.str (hexT f) t) → ∃ ws:List ((Int × Int) × Nat),vals = wrV ws ∧ ws.map (·.1) = fs
  | [],[],_,_=>⟨[],rfl,rfl⟩
  | [],_ :: _,h,_=>by simp at h
  | _ :: _,[],h,_=>by simp at h
  | f :: fs,v :: vals,hl,k=>by
    obtain ⟨f',t,hf,e⟩:=k 0 v rfl
    cases hf
    obtain ⟨ws,c1,c2⟩:=vals_wr (fs:=fs) (vals:=vals) (by simpa using hl) fun j v hj=>k (j + 1) v (by simpa using hj)
    exact ⟨(f,t) :: ws,by rw [e,c1]; rfl,by rw [List.map_cons,c2]⟩
theorem wr_comp {Cl ce ep B:Nat} {C:List Pr} (F:Follows w b1 b2) (hA:Lo A 200) (hh:A.handled = none) (top:TopOk w h) (hCl:h.get? Cl = some (listO (refsV C) ce)) (hC:Stands h (prFs C)) (ZC:Below B (prFs C)) (zC:Cl < B) (h16:∀ f ∈ bare C,In16 f.1 ∧ In16 f.2) (gB:219 ≤ B) (b1':B ≤ it) (b2':it < acc) (b3':acc < loc) (hl:C.length = 6)
    (hit:h.get? it = some (litO Cl 0)) (hacc:h.get? acc = some (listO [] ep)) (hloc:h.get? loc = some (locO w [] 0))
    (K:∀ h' tk ws ep' oi q1 q2 q3 q4,KeepsBut [it,acc,loc] h h' → h.objs.size ≤ h'.objs.size → h'.get? it = some oi → h'.get? acc = some (listO (wrV ws) ep') → ws.map (·.1) = bare C → h'.get? loc = some (locO w [(n_point,q1,q2),(n_value,q3,q4)] 2) → R (.ok .next) ⟨h',g,d,tk,os⟩) :
    codeAny (model prog w) A (.compStart (wrE w) 0 (.ref it) (.ref acc) (lawEnvC w (wrE w) [] loc N)) R ⟨h,g,d,T0,os⟩:=by
  have hlen:(refsV C).length = C.length:=by simp [refsV]
  have bacc:B ≤ acc:=Nat.le_trans b1' (Nat.le_of_lt b2')
  have bloc:B ≤ loc:=Nat.le_trans bacc (Nat.le_of_lt b3')
  have b4':it < loc:=Nat.lt_trans b2' b3'
  have beh:Beh B [it,acc,loc]:=fun q hq=>by
    simp only [List.mem_cons,List.not_mem_nil,or_false] at hq
    rcases hq with e | e | e <;> rw [e] <;> assumption
  have LF:LcFix w (wrE w) (lawEnvC w (wrE w) [] loc N) it acc loc (refsV C).length (fun i h=>h.get? it = some (litO Cl i) ∧ h.get? Cl = some (listO (refsV C) ce) ∧ Cl ≠ it) (fun i v=>(refsV C)[i]? = some v) [] (L2ok w n_point n_value) (L2two w n_point n_value) (fun h=>Stands h (prFs C)) (fun i val _=>∃ f t,(bare C)[i]? = some f ∧ val = Value.str (hexT f) t) g d os 200 :=
    { D:=⟨by kernel_rfl,by kernel_rfl,by kernel_rfl⟩
      V:=iter_list w it Cl (refsV C) ce
      nia:=Nat.ne_of_lt b2',nil:=Nat.ne_of_lt b4',nal:=Nat.ne_of_lt b3',nim:=fun h=>(nomatch h),nam:=fun h=>(nomatch h),fr:=⟨.inl (Nat.le_trans gB b1'),.inl (Nat.le_trans gB bacc),.inl (Nat.le_trans gB bloc),trivial⟩,hn:=by rw [hlen]; lia
      up:=fun o h=>.inr h
      stI:=fun i h h' k hI=>⟨k _ _ hI.1 (NotIn.mem ⟨Nat.ne_of_lt b2',Nat.ne_of_lt b4',trivial⟩),k _ _ hI.2.1 (below_out (beh.mono fun q hq=>.tail _ hq) zC),hI.2.2⟩
      stV:=fun h h' k S=>S.keep ZC (beh.mono fun q hq=>by
        simp only [List.mem_cons,List.not_mem_nil,or_false] at hq
        rcases hq with e | e <;> simp [e]) k
      stP:=fun i v h h' k p=>p
      turn:=fun i x A R h T0 lo hi hx hA hh top S hlo ok _ _ K=>by
        have hx':(refsV C)[i]? = some x:=hx
        unfold refsV at hx'
        rw [List.getElem?_map] at hx'
        cases hq':C[i]? with
        | none=>rw [hq'] at hx'; cases hx'
        | some q =>
          rw [hq'] at hx'
          cases hx'
          have hm:q ∈ C:=List.mem_of_getElem? hq'
          have mq:(q.1,prO q) ∈ prFs C:=List.mem_map.mpr ⟨q,hm,rfl⟩
          have f16:=h16 (q.2.1.1,q.2.2.1) (List.mem_map.mpr ⟨q,hm,rfl⟩)
          refine wr_turn F hA hh top (S _ mq) f16.1 f16.2 (Nat.ne_of_lt (Nat.lt_of_lt_of_le (ZC _ mq) bloc)) (Nat.le_trans gB bloc) hlo ok fun h' tk t lo' k s hlo' ok'=>K h' tk _ lo' k s (S.keep ZC (beh.mono fun q hq=>by rw [List.mem_singleton.mp hq]; simp) k) ⟨_,t,by unfold bare; rw [List.getElem?_map,hq']; rfl,rfl⟩ hlo' ok' }
  refine lc_comp LF hA hh top ⟨hit,hCl,Nat.ne_of_lt (Nat.lt_of_lt_of_le zC b1')⟩ hacc hC hloc (.inl rfl) fun h' tk vals ep' lo' oi k s hoi _ hlv hP hacc' hlo' ok'=>?_
  obtain ⟨ws,rfl,c2⟩:=vals_wr (fs:=bare C) (by rw [hlv,hlen]; simp [bare]) hP
  obtain ⟨q1,q2,q3,q4,rfl⟩:∃ q1 q2 q3 q4,lo' = locO w [(n_point,q1,q2),(n_value,q3,q4)] 2:=ok'.elim (fun z=>by rw [hlen,hl] at z; exact absurd z.1 (by decide)) id
  exact K h' tk ws ep' oi q1 q2 q3 q4 k s hoi hacc' c2 hlo'
end
end Mine
namespace Mine
open PySem PySem.W PySem.W.X PyProof.Rows
theorem KeepsBut.ob1 {h h':Heap} {N a:Addr} {oN o:Obj} (k:KeepsBut [N] h h') (hN:h.get? N = some oN) (e:h.get? a = some o) (n:o.cls ≠ oN.cls):h'.get? a = some o:=k _ _ e fun hq=>by
  rw [List.mem_singleton.mp hq,hN] at e
  cases e
  exact n rfl
theorem LexSt.frame {w:World} {L:LX} {h h':Heap} {k:Nat} {lno:Int} {N:Addr} {es:List (Str × Nat × Value)} {e0:Nat} (S:LexSt w L h k lno) (kb:KeepsBut [N] h h') (hN:h.get? N = some (frO w es e0)):LexSt w L h' k lno:=by
  obtain ⟨gs,e,g1,g2⟩:=S.gone
  obtain ⟨tl,l1⟩:=S.lines
  obtain ⟨v0,tc,r,s0,s1,s2,s3,s4,s5,s6,_⟩:=S.still
  exact ⟨⟨gs,e,kb.ob1 hN g1 (ty_ne (by decide)),g2⟩,⟨tl,kb.ob1 hN l1 (ty_ne (by decide))⟩,kb.ob1 hN S.pb (ty_ne (by decide)),⟨v0,tc,r,kb.ob1 hN s0 (fun x=>nomatch x),kb.ob1 hN s1 (fun x=>nomatch x),kb.ob1 hN s2 (ty_ne (by decide)),kb.ob1 hN s3 (ty_ne (by decide)),kb.ob1 hN s4 (ty_ne (by decide)),kb.ob1 hN s5 (ty_ne (by decide)),kb.ob1 hN s6 (ty_ne (by decide)),trivial⟩⟩
end Mine
namespace Mine
open PySem PySem.W PySem.W.X PyProof.Rows
section
variable {w:World} {V:LV} {b1 b2:Bool} {A:Around} {R:Result → Shared → Prop} {h:Heap} {g:Array GenState} {d:Drawn} {T0:Nat} {os:OsState} {N nu W l L O Cl Wr:Nat} {sc dr lx Wo Me:Addr} {k0 k1 k2 k3 k4 k5 k6 k7 k8 k9 u3 u6:Nat} {tx:Str} {st:Int} {ps:List (Int × Nat)} {pe oe ce we:Nat} {n0 n1 n2 n3 n4:Int} {t0 t1 t2 t3 t4 to:Nat} {a b:UInt8} {tt:TT} {lg:Int → Int} {ch pl:Int} {u v e:Nat} {Q C:List Pr} {ys:List (Int × Nat)} {f0 f1 f2 f3 f4 f5:Int × Int} {s0 s1 s2 s3 s4 s5 m0 m1 m2 m3 m4 m5:Nat} {c9:Addr}
theorem prFs_cls:∀ q ∈ prFs C,q.2.cls ≠ .type "frame":=fun q hq=>by
  obtain ⟨z,_,rfl⟩:=List.mem_map.mp hq
  exact ty_ne (by decide)
theorem law_s12 (F:Follows w b1 b2) (hA:Lo A 50) (hh:A.handled = none) (top:TopOk w h) (gN:219 ≤ N) (gh:219 ≤ h.objs.size) (hN:h.get? N = some (fr5 w V nu st k4 Cl)) (hCl:h.get? Cl = some (listO (refsV C) ce)) (nCN:Cl ≠ N) (SC:Stands h (prFs C)) (h16:∀ f ∈ bare C,In16 f.1 ∧ In16 f.2) (hl:C.length = 6)
    (K:∀ h' tk' ws Wr we k5,KeepsBut [N] h h' → h.objs.size ≤ h'.objs.size → h.objs.size ≤ Wr → h'.get? Wr = some (listO (wrV ws) we) → ws.map (·.1) = bare C → h'.get? N = some (fr6 w V nu st k4 Cl k5 Wr) → Mn prog w A R (lawC w N) .base (lawT w 13 N) ⟨h',g,d,tk',os⟩) :
    Mn prog w A R (lawC w N) .base (lawT w 12 N) ⟨h,g,d,T0,os⟩:=by
  have OD:=startA (b1:=b1) (b2:=b2) (T0:=T0) [(Cl,listO (refsV C) ce)] [N] [fr5 w V nu st k4 Cl] 1 rfl rfl (by kernel_rfl) top ⟨hCl,trivial⟩ ⟨hN,trivial⟩ ⟨.inl gN,trivial⟩ ⟨trivial,trivial⟩ ⟨⟨nCN,trivial⟩,trivial⟩
  refine go F 16 4 0 [1000,2000,2000,7000,2000,1001] (i:=0) OD hA hh fun h1=>?_
  intro o_h1 OD
  refine Mn.st (.compStart (wrE w) 0 (.ref (h.objs.size + 0)) (.ref (h.objs.size + 1)) (lawEnvC w (wrE w) [] (h.objs.size + 2) N)) ?_
  have k1':KeepsBut [N] h h1:=OD.2.kept
  refine wr_comp (B:=h.objs.size) (ep:=0) F (dk10 hA) (aH hh) OD.2.tp (OD.2.still 0 rfl) (SC.but1 k1' hN prFs_cls) SC.below (Heap.lt_size hCl) h16 gh (Nat.le_add_right _ _) (Nat.add_lt_add_left (by decide) _) (Nat.add_lt_add_left (by decide) _) hl (OD.2.ob 1) (OD.2.ob 2) (OD.2.ob 3) fun ja ka ws ep' oi q1 q2 q3 q4 kq sq hoi hac ews hlo=>?_
  replace OD:=creL ka [(1,(h.objs.size + 0),oi),(2,(h.objs.size + 1),listO (wrV ws) ep'),(3,(h.objs.size + 2),locO w [(n_point,q1,q2),(n_value,q3,q4)] 2)] [] OD ⟨(by kernel_rfl),hoi,(by kernel_rfl),hac,(by kernel_rfl),hlo,trivial⟩ kq sq trivial
  show Mn _ _ _ _ _ _ _ ⟨ja,g,d,ka,os⟩
  refine go F 18 4 1 [1000,1000,1003,1003,1003,1003,1003,1003] (i:=0) OD hA hh fun h2=>?_
  intro o_h2 OD
  refine Mn.cast (c':=lawC w N) (κ':=.base) (t':=lawT w 13 N) (by kernel_rfl) (by kernel_rfl) (by kernel_rfl) ?_
  exact K h2 _ ws (h.objs.size + 1) ep' (ka + 0) OD.2.kept (size_le OD.1 OD.2) (Nat.le_add_right _ _) (OD.2.ob 2 (o:=(listO (wrV ws) ep'))) ews (OD.2.ob 0)
theorem man_of (x:Int):∃ m:Nat,x.fmod 3 = (m:Int) ∧ Man m:=by
  have h1:=Int.fmod_nonneg_of_pos x (show (0:Int) < 3 by decide)
  have h2:=Int.fmod_lt_of_pos x (show (0:Int) < 3 by decide)
  refine ⟨(x.fmod 3).toNat,by lia,?_⟩
  unfold Man
  lia
theorem i16 {x:Int} (h:In16 x):x.toNat < 16:=by have:=h.1; have:=h.2; lia
theorem text_len {x:Str} {a0 a1 a2 a3 a4 a5 c0 c1 c2 c3 c4 c5:Nat} (h0:Man m0) (h1:Man m1) (h2:Man m2) (h3:Man m3) (h4:Man m4) (h5:Man m5) (e:x.cps.toList = textT 0 [(m0,a0,c0),(m1,a1,c1),(m2,a2,c2),(m3,a3,c3),(m4,a4,c4),(m5,a5,c5)]):2 ≤ x.length ∧ x.length ≤ 500:=by
  have l:x.length = (textT 0 [(m0,a0,c0),(m1,a1,c1),(m2,a2,c2),(m3,a3,c3),(m4,a4,c4),(m5,a5,c5)]).length:=by rw [← e]; rfl
  rw [l]
  have lw:∀ {m a c:Nat},Man m → 2 ≤ (wordT m a c).length ∧ (wordT m a c).length ≤ 4:=by
    intro m a c hm
    rcases hm with rfl | rfl | rfl <;> exact ⟨by simp [wordT],by simp [wordT]⟩
  simp only [textT,List.length_append,List.length_cons,List.length_nil]
  have:=@lw m0 a0 c0 h0
  have:=@lw m1 a1 c1 h1
  have:=@lw m2 a2 c2 h2
  have:=@lw m3 a3 c3 h3
  have:=@lw m4 a4 c4 h4
  have:=@lw m5 a5 c5 h5
  lia
theorem law_s13 (F:Follows w b1 b2) (hA:Lo A 50) (hh:A.handled = none) (top:TopOk w h) (gN:219 ≤ N) (hN:h.get? N = some (fr6 w V nu st k4 Cl k5 Wr)) (bWr:219 ≤ Wr) (hWr:h.get? Wr = some (listO (wrV [(f0,s0),(f1,s1),(f2,s2),(f3,s3),(f4,s4),(f5,s5)]) we)) (nWN:Wr ≠ N) (hnu:h.get? nu = some (listO (intsV [(n0,t0),(n1,t1),(n2,t2),(n3,t3),(n4,t4)]) 0)) (nnu:nu ≠ N) (h16:∀ f ∈ [f0,f1,f2,f3,f4,f5],In16 f.1 ∧ In16 f.2)
    (K:∀ h' tk' tx k6 u6 m0 m1 m2 m3 m4 m5,KeepsBut [N] h h' → h.objs.size ≤ h'.objs.size → Man m0 → Man m1 → Man m2 → Man m3 → Man m4 → Man m5 → tx.cps.toList = textT 0 [(m0,hx f0.1.toNat,hx f0.2.toNat),(m1,hx f1.1.toNat,hx f1.2.toNat),(m2,hx f2.1.toNat,hx f2.2.toNat),(m3,hx f3.1.toNat,hx f3.2.toNat),(m4,hx f4.1.toNat,hx f4.2.toNat),(m5,hx f5.1.toNat,hx f5.2.toNat)] → (2 ≤ tx.length ∧ tx.length ≤ 500) → h'.get? N = some (fr7 w V nu st k4 Cl k5 Wr k6 tx u6) → Mn prog w A R (lawC w N) .base (lawT w 14 N) ⟨h',g,d,tk',os⟩) :
    Mn prog w A R (lawC w N) .base (lawT w 13 N) ⟨h,g,d,T0,os⟩:=by
  have OD:=startA (b1:=b1) (b2:=b2) (T0:=T0) [(Wr,listO [sgV (hx f0.1.toNat,hx f0.2.toNat,s0),sgV (hx f1.1.toNat,hx f1.2.toNat,s1),sgV (hx f2.1.toNat,hx f2.2.toNat,s2),sgV (hx f3.1.toNat,hx f3.2.toNat,s3),sgV (hx f4.1.toNat,hx f4.2.toNat,s4),sgV (hx f5.1.toNat,hx f5.2.toNat,s5)] we),(nu,listO (intsV [(n0,t0),(n1,t1),(n2,t2),(n3,t3),(n4,t4)]) 0)] [N] [fr6 w V nu st k4 Cl k5 Wr] 1 rfl rfl (by kernel_rfl) top ⟨hWr,hnu,trivial⟩ ⟨hN,trivial⟩ ⟨.inl gN,trivial⟩ ⟨trivial,trivial⟩ ⟨⟨nWN,trivial⟩,⟨nnu,trivial⟩,trivial⟩
  obtain ⟨m5,hm5,hM5⟩:=man_of (n4.fdiv 243)
  obtain ⟨m4,hm4,hM4⟩:=man_of (n4.fdiv 81)
  obtain ⟨m3,hm3,hM3⟩:=man_of (n4.fdiv 27)
  obtain ⟨m2,hm2,hM2⟩:=man_of (n4.fdiv 9)
  obtain ⟨m1,hm1,hM1⟩:=man_of (n4.fdiv 3)
  obtain ⟨m0,hm0,hM0⟩:=man_of (n4.fdiv 1)
  refine go F 19 1 1 [3,1000,1000,2001,2001,2001,2001,2001,201] (i:=0) OD hA hh fun h1=>?_
  intro o_h1 OD
  refine Mn.st (.call (.ref 201) ⟨[.ref Wr,.int n4 t4],[]⟩) ?_
  refine text_call (w0:=(hx f0.1.toNat,hx f0.2.toNat,s0)) (w1:=(hx f1.1.toNat,hx f1.2.toNat,s1)) (w2:=(hx f2.1.toNat,hx f2.2.toNat,s2)) (w3:=(hx f3.1.toNat,hx f3.2.toNat,s3)) (w4:=(hx f4.1.toNat,hx f4.2.toNat,s4)) (w5:=(hx f5.1.toNat,hx f5.2.toNat,s5)) F (dk10 hA) (aH hh) OD.2.tp bWr (OD.2.still 0 rfl) hm0 hM0 (hx_hex _ (i16 (h16 f0 (.head _)).1)) (hx_hex _ (i16 (h16 f0 (.head _)).2)) hm1 hM1 (hx_hex _ (i16 (h16 f1 (.tail _ (.head _))).1)) (hx_hex _ (i16 (h16 f1 (.tail _ (.head _))).2)) hm2 hM2 (hx_hex _ (i16 (h16 f2 (.tail _ (.tail _ (.head _)))).1)) (hx_hex _ (i16 (h16 f2 (.tail _ (.tail _ (.head _)))).2)) hm3 hM3 (hx_hex _ (i16 (h16 f3 (.tail _ (.tail _ (.tail _ (.head _))))).1)) (hx_hex _ (i16 (h16 f3 (.tail _ (.tail _ (.tail _ (.head _))))).2)) hm4 hM4 (hx_hex _ (i16 (h16 f4 (.tail _ (.tail _ (.tail _ (.tail _ (.head _)))))).1)) (hx_hex _ (i16 (h16 f4 (.tail _ (.tail _ (.tail _ (.tail _ (.head _)))))).2)) hm5 hM5 (hx_hex _ (i16 (h16 f5 (.tail _ (.tail _ (.tail _ (.tail _ (.tail _ (.head _))))))).1)) (hx_hex _ (i16 (h16 f5 (.tail _ (.tail _ (.tail _ (.tail _ (.tail _ (.head _))))))).2)) fun j1 tk1 tx u6 kj sj ex=>?_
  replace OD:=creL tk1 [] [] OD trivial kj.but sj trivial
  show Mn _ _ _ _ _ _ _ ⟨j1,g,d,tk1,os⟩
  refine go F 8 1 1 [1000,1000] (i:=0) OD hA hh fun h2=>?_
  intro o_h2 OD
  refine Mn.cast (c':=lawC w N) (κ':=.base) (t':=lawT w 14 N) (by kernel_rfl) (by kernel_rfl) (by kernel_rfl) ?_
  exact K h2 _ tx (tk1 + 0) u6 m0 m1 m2 m3 m4 m5 OD.2.kept (size_le OD.1 OD.2) hM0 hM1 hM2 hM3 hM4 hM5 ex (text_len hM0 hM1 hM2 hM3 hM4 hM5 ex) (OD.2.ob 0)
end
end Mine
namespace Mine
open PySem PySem.W PySem.W.X PyProof.Rows
section
variable {w:World} {V:LV} {b1 b2:Bool} {A:Around} {R:Result → Shared → Prop} {h:Heap} {g:Array GenState} {d:Drawn} {T0:Nat} {os:OsState} {N nu W l L O Cl Wr:Nat} {sc dr lx Wo Me:Addr} {k0 k1 k2 k3 k4 k5 k6 k7 k8 k9 u3 u6:Nat} {tx:Str} {st:Int} {ps:List (Int × Nat)} {pe oe ce we:Nat} {n0 n1 n2 n3 n4:Int} {t0 t1 t2 t3 t4 to:Nat} {a b:UInt8} {tt:TT} {lg:Int → Int} {ch pl:Int} {u v e:Nat} {Q C:List Pr} {ys:List (Int × Nat)} {f0 f1 f2 f3 f4 f5:Int × Int} {s0 s1 s2 s3 s4 s5 m0 m1 m2 m3 m4 m5:Nat} {c9:Addr} {LL:LX}
theorem KeepsBut.code1 {h h':Heap} {N a:Addr} {q:Str} {es:List (Str × Nat × Value)} {e0:Nat} (k:KeepsBut [N] h h') (hN:h.get? N = some (frO w es e0)) (c:IsCode h q a):IsCode h' q a :=
  let ⟨v0,t,r,e⟩:=c; ⟨v0,t,r,k.ob1 hN e (ty_ne (by decide))⟩
theorem law_s14 (F:Follows w b1 b2) (hA:Lo A 50) (hh:A.handled = none) (top:TopOk w h) (gN:219 ≤ N) (gh:219 ≤ h.objs.size) (hN:h.get? N = some (fr7 w V nu st k4 Cl k5 Wr k6 tx u6)) (h169:h.get? 169 = some (tabO (trip 156 4 c9))) (hc9:IsCode h q_piece c9) (hx:2 ≤ tx.length ∧ tx.length ≤ 500)
    (K:∀ h' tk' (LL:LX) k7,KeepsBut [N] h h' → h.objs.size ≤ h'.objs.size → LL.Good → LexSt w LL h' 0 1 → LL.x = tx → h.objs.size ≤ LL.lxd → h.objs.size ≤ LL.gn → h'.get? N = some (fr8 w V nu st k4 Cl k5 Wr k6 tx u6 k7 LL.lx) → Mn prog w A R (lawC w N) .base (lawT w 15 N) ⟨h',g,d,tk',os⟩) :
    Mn prog w A R (lawC w N) .base (lawT w 14 N) ⟨h,g,d,T0,os⟩:=by
  have OD:=startA (b1:=b1) (b2:=b2) (T0:=T0) [] [N] [fr7 w V nu st k4 Cl k5 Wr k6 tx u6] 1 rfl rfl (by kernel_rfl) top trivial ⟨hN,trivial⟩ ⟨.inl gN,trivial⟩ ⟨trivial,trivial⟩ trivial
  refine go F 7 1 0 [3,1000,174] (i:=0) OD hA hh fun h1=>?_
  intro o_h1 OD
  refine Mn.st (.call (.ref 174) ⟨[.str tx u6],[]⟩) ?_
  have kk1:KeepsBut [N] h h1:=OD.2.kept
  have s1':h.objs.size ≤ h1.objs.size:=size_le OD.1 OD.2
  refine lexer_call F (dk10 hA) (aH hh) OD.2.tp (Nat.le_trans gh s1') (kk1.ob1 hN h169 (fun x=>nomatch x)) (kk1.code1 hN hc9) hx fun j1 tk1 LL exx kj sj GL SL b1' b2'=>?_
  replace OD:=creL tk1 [] [] OD trivial kj.but sj trivial
  have kh:KeepsBut [N] h j1:=OD.2.kept
  have fN:j1.get? N = some (fr7 w V nu st k4 Cl k5 Wr k6 tx u6):=(OD.2.ob 0)
  replace OD:=fresh OD rfl rfl
  show Mn _ _ _ _ _ _ _ ⟨j1,g,d,tk1,os⟩
  refine go F 8 1 1 [1000,1000] (i:=0) OD hA hh fun q1=>?_
  intro o_q1 OD
  have kf:KeepsBut [N] j1 q1:=OD.2.kept
  have SL1:=SL.frame kf fN
  have zh:h.objs.size ≤ q1.objs.size:=Nat.le_trans s1' (Nat.le_trans sj (size_le OD.1 OD.2))
  refine Mn.cast (c':=lawC w N) (κ':=.base) (t':=lawT w 15 N) (by kernel_rfl) (by kernel_rfl) (by kernel_rfl) ?_
  have top2:TopOk w q1:=fun a o e=>OD.2.top a o e
  have fN2:q1.get? N = some (fr8 w V nu st k4 Cl k5 Wr k6 tx u6 (tk1 + 0) LL.lx):=(OD.2.ob 0)
  exact K q1 _ LL (tk1 + 0) (kh.trans kf) zh GL SL1 exx (Nat.le_trans s1' b1') (Nat.le_trans s1' b2') fN2
theorem law_s15 (F:Follows w b1 b2) (hA:Lo A 50) (hh:A.handled = none) (top:TopOk w h) (gN:219 ≤ N) (hN:h.get? N = some (fr8 w V nu st k4 Cl k5 Wr k6 tx u6 k7 LL.lx)) (GL:LL.Good) (SL:LexSt w LL h 0 1) (exx:LL.x.cps.toList = tx.cps.toList) (ex:tx.cps.toList = textT 0 [(m0,hx f0.1.toNat,hx f0.2.toNat),(m1,hx f1.1.toNat,hx f1.2.toNat),(m2,hx f2.1.toNat,hx f2.2.toNat),(m3,hx f3.1.toNat,hx f3.2.toNat),(m4,hx f4.1.toNat,hx f4.2.toNat),(m5,hx f5.1.toNat,hx f5.2.toNat)]) (hM0:Man m0) (hM1:Man m1) (hM2:Man m2) (hM3:Man m3) (hM4:Man m4) (hM5:Man m5) (h16:∀ f ∈ [f0,f1,f2,f3,f4,f5],In16 f.1 ∧ In16 f.2) {B:Nat} (zN:N < B) (b1':B ≤ LL.lxd) (b2':B ≤ LL.gn)
    (K:∀ h' tk' Wo k8 s0 s1 s2 s3 s4 s5 k',KeepsBut [N,LL.lxd,LL.gn] h h' → h.objs.size ≤ h'.objs.size → h.objs.size ≤ Wo → h'.get? Wo = some (listO [.str (S1 (hx f0.1.toNat) ++ S1 (hx f0.2.toNat)) s0,.str (S1 (hx f1.1.toNat) ++ S1 (hx f1.2.toNat)) s1,.str (S1 (hx f2.1.toNat) ++ S1 (hx f2.2.toNat)) s2,.str (S1 (hx f3.1.toNat) ++ S1 (hx f3.2.toNat)) s3,.str (S1 (hx f4.1.toNat) ++ S1 (hx f4.2.toNat)) s4,.str (S1 (hx f5.1.toNat) ++ S1 (hx f5.2.toNat)) s5] 6) → LexSt w LL h' k' (1 + 3) → h'.get? N = some (fr9 w V nu st k4 Cl k5 Wr k6 tx u6 k7 LL.lx k8 Wo) → Mn prog w A R (lawC w N) .base (lawT w 16 N) ⟨h',g,d,tk',os⟩) :
    Mn prog w A R (lawC w N) .base (lawT w 15 N) ⟨h,g,d,T0,os⟩:=by
  have OD:=startA (b1:=b1) (b2:=b2) (T0:=T0) [] [N] [fr8 w V nu st k4 Cl k5 Wr k6 tx u6 k7 LL.lx] 1 rfl rfl (by kernel_rfl) top trivial ⟨hN,trivial⟩ ⟨.inl gN,trivial⟩ ⟨trivial,trivial⟩ trivial
  refine go F 7 1 0 [3,1000,208] (i:=0) OD hA hh fun h1=>?_
  intro o_h1 OD
  refine Mn.st (.call (.ref 208) ⟨[.ref LL.lx],[]⟩) ?_
  have kk1:KeepsBut [N] h h1:=OD.2.kept
  have s1':h.objs.size ≤ h1.objs.size:=size_le OD.1 OD.2
  have fr1:h1.get? N = some (fr8 w V nu st k4 Cl k5 Wr k6 tx u6 k7 LL.lx):=(OD.2.ob 0)
  refine words_call F (dk10 hA) (aH hh) OD.2.tp GL (SL.frame kk1 hN) (exx.trans ex) hM0 (hx_hex _ (i16 (h16 f0 (.head _)).1)) (hx_hex _ (i16 (h16 f0 (.head _)).2)) hM1 (hx_hex _ (i16 (h16 f1 (.tail _ (.head _))).1)) (hx_hex _ (i16 (h16 f1 (.tail _ (.head _))).2)) hM2 (hx_hex _ (i16 (h16 f2 (.tail _ (.tail _ (.head _)))).1)) (hx_hex _ (i16 (h16 f2 (.tail _ (.tail _ (.head _)))).2)) hM3 (hx_hex _ (i16 (h16 f3 (.tail _ (.tail _ (.tail _ (.head _))))).1)) (hx_hex _ (i16 (h16 f3 (.tail _ (.tail _ (.tail _ (.head _))))).2)) hM4 (hx_hex _ (i16 (h16 f4 (.tail _ (.tail _ (.tail _ (.tail _ (.head _)))))).1)) (hx_hex _ (i16 (h16 f4 (.tail _ (.tail _ (.tail _ (.tail _ (.head _)))))).2)) hM5 (hx_hex _ (i16 (h16 f5 (.tail _ (.tail _ (.tail _ (.tail _ (.tail _ (.head _))))))).1)) (hx_hex _ (i16 (h16 f5 (.tail _ (.tail _ (.tail _ (.tail _ (.tail _ (.head _))))))).2)) fun j1 tk1 Wo s0 s1 s2 s3 s4 s5 k' kj sj bWo SL2 hWo=>?_
  have nNl:N ≠ LL.lxd:=Nat.ne_of_lt (Nat.lt_of_lt_of_le zN b1')
  have nNg:N ≠ LL.gn:=Nat.ne_of_lt (Nat.lt_of_lt_of_le zN b2')
  have fN:j1.get? N = some (fr8 w V nu st k4 Cl k5 Wr k6 tx u6 k7 LL.lx):=kj _ _ fr1 (NotIn.mem ⟨nNl,nNg,trivial⟩)
  have kh:KeepsBut [N,LL.lxd,LL.gn] h j1:=(kk1.mono fun q hq=>by rw [List.mem_singleton.mp hq]; exact .head _).trans (kj.mono fun q hq=>.tail _ hq)
  have top1:TopOk w j1:=top.keepsBut kh ⟨.inl gN,GL.fr.1,GL.fr.2.1,trivial⟩
  clear OD
  have OD:=startA (b1:=b1) (b2:=b2) (T0:=tk1) [] [N] [fr8 w V nu st k4 Cl k5 Wr k6 tx u6 k7 LL.lx] 1 rfl rfl (by kernel_rfl) top1 trivial ⟨fN,trivial⟩ ⟨.inl gN,trivial⟩ ⟨trivial,trivial⟩ trivial
  show Mn _ _ _ _ _ _ _ ⟨j1,g,d,tk1,os⟩
  refine go F 8 1 1 [1000,1000] (i:=0) OD hA hh fun q1=>?_
  intro o_q1 OD
  have kf:KeepsBut [N] j1 q1:=OD.2.kept
  refine Mn.cast (c':=lawC w N) (κ':=.base) (t':=lawT w 16 N) (by kernel_rfl) (by kernel_rfl) (by kernel_rfl) ?_
  exact K q1 _ Wo (tk1 + 0) s0 s1 s2 s3 s4 s5 k' (kh.trans (kf.mono fun q hq=>by rw [List.mem_singleton.mp hq]; exact .head _)) (Nat.le_trans s1' (Nat.le_trans sj (size_le OD.1 OD.2))) (Nat.le_trans s1' bWo) (kf.ob1 fN hWo (ty_ne (by decide))) (SL2.frame kf fN) (OD.2.ob 0)
end
end Mine
namespace Mine
open PySem PySem.W PySem.W.X PyProof.Rows
noncomputable def occStep (x:Str) (c:Nat) (s:Array Nat × Nat) (i:Nat):Array Nat × Nat :=
  if (decide (s.1.size < x.length + 1) && decide (s.2 ≤ i) && decide (i + (S1 c).length ≤ x.length) && Builtin.Str.subAt x (S1 c) i) = true then (s.1.push i,i + (S1 c).length) else (s.1,s.2)
theorem sub_one (x:Str) (c i:Nat):Builtin.Str.subAt x (S1 c) i = decide (x.cps[i]? = some c):=by
  show (x.cps.extract i (i + 1) == #[c]) = _
  by_cases h:i < x.cps.size
  · have e:x.cps.extract i (i + 1) = #[x.cps[i]]:=by
      apply Array.ext
      · simp; lia
      · intro j h1 h2
        have:j = 0:=by simp at h2; omega
        subst this
        simp
    rw [e,Array.getElem?_eq_getElem h]
    by_cases hc:x.cps[i] = c
    · rw [hc]; simp
    · have:(#[x.cps[i]] == #[c]) = false:=by
        apply beq_false_of_ne
        intro q
        exact hc (by injection q with q; injection q)
      rw [this]
      simp [hc]
  · have e:x.cps.extract i (i + 1) = #[]:=by
      apply Array.ext
      · simp; lia
      · intro j h1 h2; simp at h2
    rw [e,Array.getElem?_eq_none (by lia)]
    simp
theorem occ_fold (x:Str) (c:Nat):∀ k,k ≤ x.length → let r:=(List.range k).foldl (occStep x c) (#[],0); r.1.size = (x.cps.toList.take k).count c ∧ r.2 ≤ k ∧ r.1.size ≤ k
  | 0,_=>by simp
  | k + 1,h=>by
    have ih:=occ_fold x c k (by lia)
    simp only at ih ⊢
    rw [List.range_succ,List.foldl_append,List.foldl_cons,List.foldl_nil]
    generalize (List.range k).foldl (occStep x c) (#[],0) = r at ih ⊢
    obtain ⟨h1,h2,h3⟩:=ih
    have hk:k < x.cps.toList.length:=by have:x.cps.toList.length = x.length:=rfl; lia
    have hk2:k < x.cps.size:=by simpa using hk
    have ht:(x.cps.toList.take (k + 1)).count c = (x.cps.toList.take k).count c + (if x.cps[k] = c then 1 else 0):=by
      rw [List.take_succ_eq_append_getElem hk,List.count_append]
      congr 1
      by_cases e:x.cps[k] = c
      · rw [if_pos e]; simp [e]
      · rw [if_neg e]; simp [e]
    rw [ht]
    unfold occStep
    have l1:(S1 c).length = 1:=rfl
    rw [sub_one,l1,Array.getElem?_eq_getElem hk2]
    have d1:decide (r.1.size < x.length + 1) = true:=by simp; lia
    have d2:decide (r.2 ≤ k) = true:=by simp; omega
    have d3:decide (k + 1 ≤ x.length) = true:=by simp; omega
    rw [d1,d2,d3]
    by_cases e:x.cps[k] = c
    · rw [if_pos e,if_pos (by simp [e])]
      refine ⟨by simp [h1],Nat.le_refl _,by simp; omega⟩
    · rw [if_neg e,if_neg (by simp [e])]
      exact ⟨by simp [h1],Nat.le_succ_of_le h2,Nat.le_succ_of_le h3⟩
theorem occ_count (x:Str) (c:Nat):(Builtin.Str.occurrences x (S1 c) 0 x.length (x.length + 1)).length = x.cps.toList.count c:=by
  have e:Builtin.Str.occurrences x (S1 c) 0 x.length (x.length + 1) = ((List.range (x.length + 1)).foldl (occStep x c) (#[],0)).1.toList:=by
    unfold Builtin.Str.occurrences
    simp only [Id.run,Std.Legacy.Range.forIn_eq_forIn_range',Std.Legacy.Range.size]
    simp only [← apply_ite,bind_pure_comp]
    rw [List.forIn_pure_yield_eq_foldl]
    have:List.range' 0 ((x.length + 1 - 0 + 1 - 1) / 1) 1 = List.range (x.length + 1):=by rw [List.range_eq_range']; simp
    rw [this]
    rfl
  rw [e,List.range_succ,List.foldl_append,List.foldl_cons,List.foldl_nil]
  have ih:=occ_fold x c x.length (Nat.le_refl _)
  simp only at ih
  generalize (List.range x.length).foldl (occStep x c) (#[],0) = r at ih ⊢
  unfold occStep
  have l1:(S1 c).length = 1:=rfl
  rw [l1]
  have d3:decide (x.length + 1 ≤ x.length) = false:=by simp
  rw [d3]
  simp only [Bool.and_false,Bool.false_and]
  rw [if_neg (by simp)]
  have:x.cps.toList.take x.length = x.cps.toList:=List.take_of_length_le (Nat.le_refl _)
  rw [this] at ih
  simpa using ih.1
theorem word_no {m a b:Nat} (hm:Man m) (ha:a ≠ 10) (hb:b ≠ 10):(wordT m a b).count 10 = 0:=by
  rcases hm with rfl | rfl | rfl <;> simp [wordT,ha,hb]
theorem text_count {m0 m1 m2 m3 m4 m5 a0 a1 a2 a3 a4 a5 c0 c1 c2 c3 c4 c5:Nat} (h0:Man m0) (h1:Man m1) (h2:Man m2) (h3:Man m3) (h4:Man m4) (h5:Man m5)
    (n0:a0 ≠ 10 ∧ c0 ≠ 10) (n1:a1 ≠ 10 ∧ c1 ≠ 10) (n2:a2 ≠ 10 ∧ c2 ≠ 10) (n3:a3 ≠ 10 ∧ c3 ≠ 10) (n4:a4 ≠ 10 ∧ c4 ≠ 10) (n5:a5 ≠ 10 ∧ c5 ≠ 10):(textT 0 [(m0,a0,c0),(m1,a1,c1),(m2,a2,c2),(m3,a3,c3),(m4,a4,c4),(m5,a5,c5)]).count 10 = 3:=by
  simp only [textT,List.count_append,List.count_cons,List.count_nil,word_no h0 n0.1 n0.2,word_no h1 n1.1 n1.2,word_no h2 n2.1 n2.2,word_no h3 n3.1 n3.2,word_no h4 n4.1 n4.2,word_no h5 n5.1 n5.2]
  decide
theorem hx_not10:∀ n,n < 16 → hx n ≠ 10:=by decide
section
variable {w:World} {A:Around} {R:Result → Shared → Prop} {s:Shared} {E:Value → Shared → Prop}
open PySem.SeqAt (EqAt RcAt RcNeAt)
theorem c_count {x:Str} {c:Nat} {t u:Nat} (h:R (.ok (.ret (.int ((x.cps.toList.count c:Nat):Int) s.toks))) { s with toks:=s.toks + 1 }):codeAny (model prog w) A (.call (.builtin "str.count") ⟨[.str x t,.str (S1 c) u],[]⟩) R s:=by
  refine code_gives F.slot_str_count rfl F.entry_str_count (F.args_str_count_2 _ _) (gives_str_count x (S1 c) t u) ?_
  rw [occ_count]
  exact h
theorem strs_eqs {B:Around} {t:Shared} {xs ys:List (Str × Nat)} (h:xs.map (·.1) = ys.map (·.1)):∀ (j:Nat) (x y:Value),(xs.map fun q=>Value.str q.1 q.2)[j]? = some x → (ys.map fun q=>Value.str q.1 q.2)[j]? = some y → EqAt B t x y true:=fun j x y hx hy=>by
  have hj:=congrArg (fun l=>l[j]?) h
  simp only [List.getElem?_map] at hj
  rw [List.getElem?_map] at hx hy
  cases ex:xs[j]? with
  | none=>rw [ex] at hx; cases hx
  | some p =>
    cases ey:ys[j]? with
    | none=>rw [ey] at hy; cases hy
    | some q =>
      rw [ex] at hx hj
      rw [ey] at hy hj
      cases hx
      cases hy
      have e:p.1 = q.1:=by simpa using hj
      show EqAt B t (.str p.1 p.2) (.str q.1 q.2) true
      have z:=EqAt.str_str (A:=B) (s:=t) p.1 p.2 q.1 q.2
      rw [e,beq_self_eq_true] at z
      rw [e]
      exact z
theorem ne_tups_at {Q:Value → Shared → Prop} {l m p q:Addr} {xs ys:List (Str × Nat)} {e f:Nat} {i:Int} {t u:Nat} (hl:s.heap.get? l = some (tupO [.ref p,.int i t])) (hm:s.heap.get? m = some (tupO [.ref q,.int i u])) (hp:s.heap.get? p = some (listO (xs.map fun q=>Value.str q.1 q.2) e)) (hq:s.heap.get? q = some (listO (ys.map fun q=>Value.str q.1 q.2) f)) (ne:p ≠ q) (he:xs.map (·.1) = ys.map (·.1)) (hu:A.units + 1 < cLine)
    (h:Q (.bool false) s):wpAny (model prog w) A (compareOp .NotEq (.ref l) (.ref m)) Q E s:=by
  have hlen:xs.length = ys.length:=by simpa using congrArg List.length he
  have lists:EqAt A.in1 s (.ref p) (.ref q) true:=by
    refine EqAt.of_refs ne ?_
    have z:=RcAt.lists (A:=A.in1) (s:=s) (e:=fun _=>true) (isList_of hp) (isList_of hq) (by simpa using hlen) hu (eqs_of (strs_eqs he))
    rw [all_true] at z
    exact z
  have two:∀ (j:Nat) (x y:Value),([.ref p,.int i t]:List Value)[j]? = some x → ([.ref q,.int i u]:List Value)[j]? = some y → EqAt A.in1 s x y true:=fun j x y hx hy=>by
    match j,hx,hy with
    | 0,hx,hy=>cases hx; cases hy; exact lists
    | 1,hx,hy =>
      cases hx; cases hy
      have z:=EqAt.int_int (A:=A.in1) (s:=s) i t i u
      rw [beq_self_eq_true] at z
      exact z
    | n + 2,hx,hy=>simp at hx
  have z:=RcNeAt.tuples (A:=A) (s:=s) (e:=fun _=>true) (isTup_of hl) (isTup_of hm) (by lia) (eqs_of two)
  have key:RcNeAt A s (.ref l) (.ref m) false:=by
    rw [all_true] at z
    simpa using z
  exact key prog w E Q h
end
end Mine
namespace Mine
open PySem PySem.W PySem.W.X PyProof.Rows
section
variable {w:World} {V:LV} {b1 b2:Bool} {A:Around} {R:Result → Shared → Prop} {h:Heap} {g:Array GenState} {d:Drawn} {T0:Nat} {os:OsState} {N nu W l L O Cl Wr:Nat} {sc dr lx Wo Me:Addr} {k0 k1 k2 k3 k4 k5 k6 k7 k8 k9 u3 u6:Nat} {tx:Str} {st:Int} {ps:List (Int × Nat)} {pe oe ce we:Nat} {n0 n1 n2 n3 n4:Int} {t0 t1 t2 t3 t4 to:Nat} {a b:UInt8} {tt:TT} {lg:Int → Int} {ch pl:Int} {u v e:Nat} {Q C:List Pr} {ys:List (Int × Nat)} {f0 f1 f2 f3 f4 f5:Int × Int} {s0 s1 s2 s3 s4 s5 r0 r1 r2 r3 r4 r5 m0 m1 m2 m3 m4 m5:Nat} {LL:LX} {k':Nat}
theorem under_units2 (hA:Lo A 600):(A.under (lawC w N)).units + 1 < cLine:=by
  have h:=hA.2
  show A.units + (lawC w N).cUnits + 1 < 9900
  have h2:(lawC w N).cUnits = 3:=by unfold lawC; rfl
  lia
theorem law_s16 (F:Follows w b1 b2) (hA:Lo A 50) (hh:A.handled = none) (top:TopOk w h) (hN:h.get? N = some (fr9 w V nu st k4 Cl k5 Wr k6 tx u6 k7 LL.lx k8 Wo)) (SL:LexSt w LL h k' (1 + 3)) (ex:tx.cps.toList = textT 0 [(m0,hx f0.1.toNat,hx f0.2.toNat),(m1,hx f1.1.toNat,hx f1.2.toNat),(m2,hx f2.1.toNat,hx f2.2.toNat),(m3,hx f3.1.toNat,hx f3.2.toNat),(m4,hx f4.1.toNat,hx f4.2.toNat),(m5,hx f5.1.toNat,hx f5.2.toNat)]) (hM0:Man m0) (hM1:Man m1) (hM2:Man m2) (hM3:Man m3) (hM4:Man m4) (hM5:Man m5) (h16:∀ f ∈ [f0,f1,f2,f3,f4,f5],In16 f.1 ∧ In16 f.2)
    (hWo:h.get? Wo = some (listO [.str (S1 (hx f0.1.toNat) ++ S1 (hx f0.2.toNat)) r0,.str (S1 (hx f1.1.toNat) ++ S1 (hx f1.2.toNat)) r1,.str (S1 (hx f2.1.toNat) ++ S1 (hx f2.2.toNat)) r2,.str (S1 (hx f3.1.toNat) ++ S1 (hx f3.2.toNat)) r3,.str (S1 (hx f4.1.toNat) ++ S1 (hx f4.2.toNat)) r4,.str (S1 (hx f5.1.toNat) ++ S1 (hx f5.2.toNat)) r5] 6)) (hWr:h.get? Wr = some (listO (wrV [(f0,s0),(f1,s1),(f2,s2),(f3,s3),(f4,s4),(f5,s5)]) we)) (nWW:Wo ≠ Wr)
    (K:∀ h' tk',Keeps h h' → h.objs.size ≤ h'.objs.size → Mn prog w A R (lawC w N) .base (lawT w 17 N) ⟨h',g,d,tk',os⟩) :
    Mn prog w A R (lawC w N) .base (lawT w 16 N) ⟨h,g,d,T0,os⟩:=by
  have n10:∀ {f:Int × Int},f ∈ [f0,f1,f2,f3,f4,f5] → hx f.1.toNat ≠ 10 ∧ hx f.2.toNat ≠ 10:=fun hf=>⟨hx_not10 _ (i16 (h16 _ hf).1),hx_not10 _ (i16 (h16 _ hf).2)⟩
  have ec:tx.cps.toList.count 10 = 3:=by rw [ex]; exact text_count hM0 hM1 hM2 hM3 hM4 hM5 (n10 (.head _)) (n10 (.tail _ (.head _))) (n10 (.tail _ (.tail _ (.head _)))) (n10 (.tail _ (.tail _ (.tail _ (.head _))))) (n10 (.tail _ (.tail _ (.tail _ (.tail _ (.head _)))))) (n10 (.tail _ (.tail _ (.tail _ (.tail _ (.tail _ (.head _)))))))
  obtain ⟨tl,hll⟩:=SL.lines
  obtain ⟨v0,tc,r,s0',_⟩:=SL.still
  have OD:=startA (b1:=b1) (b2:=b2) (T0:=T0) [(N,fr9 w V nu st k4 Cl k5 Wr k6 tx u6 k7 LL.lx k8 Wo),(LL.lx,instO 163 LL.lxd),(LL.lxd,lxD w LL (1 + 3) tl)] [] [] 0 rfl rfl (by kernel_rfl) top ⟨hN,s0',hll,trivial⟩ trivial trivial trivial ⟨trivial,trivial,trivial,trivial⟩
  refine law_step (st16_at w) (if_step (cmp_test (b:=false) (own16 w) ?_))
  refine go F 23 1 1 [2000,2000,2001,163,163,162,2001,163,163,162,2001,2001,163,2002] (i:=0) OD hA hh fun h1=>?_
  intro o_h1 OD
  refine Mn.en (.ret (.ref (h.objs.size + 0))) ?_
  show Mn prog w A _ (lawC w N) .base (evT (cR (e16 w)) (lawEnv w N)) ⟨h1,g,d,T0 + 1,os⟩
  refine go F 10 1 3 [2000,2000] (i:=1) OD hA hh fun h2=>?_
  intro o_h2 OD
  refine Mn.st (.call (.builtin "str.count") ⟨[.str tx u6,.str (S1 10) (T0 + 2)],[]⟩) ?_
  refine c_count ?_
  rw [ec]
  show Mn _ _ _ _ _ _ _ ⟨h2,g,d,T0 + 4,os⟩
  refine go F 7 2 5 [] (i:=4) OD hA hh fun h3=>?_
  intro o_h3 OD
  refine Mn.en (.ret (.ref (h.objs.size + 1))) ?_
  have kf:Keeps h h3:=fun a o e=>OD.2.kept a o e (fun hm=>nomatch hm)
  refine ne_tups_at (p:=Wo) (q:=Wr) (xs:=[(hexT f0,r0),(hexT f1,r1),(hexT f2,r2),(hexT f3,r3),(hexT f4,r4),(hexT f5,r5)]) (ys:=[(hexT f0,s0),(hexT f1,s1),(hexT f2,s2),(hexT f3,s3),(hexT f4,s4),(hexT f5,s5)]) (OD.2.ob 0 (o:=(tupO [.ref Wo,.int (1 + 3) tl]))) (OD.2.ob 1 (o:=(tupO [.ref Wr,.int (1 + 3) (T0 + 4)]))) (kf _ _ hWo) (kf _ _ hWr) nWW rfl (under_units2 (hA.mono (by decide))) ⟨rfl,rfl,rfl,?_⟩
  exact K h3 _ kf (size_le OD.1 OD.2)
end
end Mine
namespace Mine
open PySem PySem.W PySem.W.X PyProof.Rows
noncomputable def tdE (w:World):Expr:=assignV (stAt w 218 17)
section
variable {w:World} {b1 b2:Bool} {A:Around} {R:Result → Shared → Prop} {h:Heap} {g:Array GenState} {d:Drawn} {T0:Nat} {os:OsState} {it acc loc N:Addr} {f:Int × Int} {tf:Nat} {lo:Obj}
theorem td_turn (F:Follows w b1 b2) (hA:Lo A 200) (hh:A.handled = none) (top:TopOk w h) (hp:In16 f.1) (hv:In16 f.2) (gl:219 ≤ loc) (hlo:h.get? loc = some lo) (ok:L1ok w n_word lo)
    (K:∀ h' tk val lo',KeepsBut [loc] h h' → h.objs.size ≤ h'.objs.size → PrV h.objs.size f val h' → h'.get? loc = some lo' → L1two w n_word lo' → R (.ok (.ret val)) ⟨h',g,d,tk,os⟩) :
    Mn prog w A R (.compLoop (tdE w) 0 (.ref it) (.ref acc) (lawEnvC w (tdE w) [] loc N)) .base (lcT (tdE w) (lawEnvC w (tdE w) [] loc N) (.str (hexT f) tf)) ⟨h,g,d,T0,os⟩:=by
  obtain ⟨p,v⟩:=f
  obtain ⟨m,rfl⟩:∃ m:Nat,p = (m:Int):=⟨p.toNat,by have:=hp.1; dsimp only at this; lia⟩
  obtain ⟨k,rfl⟩:∃ k:Nat,v = (k:Int):=⟨v.toNat,by have:=hv.1; dsimp only at this; lia⟩
  have lm:m < 16:=by have:=hp.2; dsimp only at this; omega
  have lk:k < 16:=by have:=hv.2; dsimp only at this; lia
  have e0:(16 * m + k).toUInt8.toNat = 16 * m + k:=u8_back _ (by lia)
  have e1:((((16 * m + k:Nat):Int).fdiv 16,((16 * m + k:Nat):Int).fmod 16):Int × Int) = ((m:Int),(k:Int)):=by
    have d1:((16 * m + k:Nat):Int).fdiv 16 = (m:Int):=by rw [Int.fdiv_eq_ediv_of_nonneg _ (by decide)]; lia
    have d2:((16 * m + k:Nat):Int).fmod 16 = (k:Int):=by rw [Int.fmod_eq_emod_of_nonneg _ (by decide)]; lia
    rw [d1,d2]
  show Mn prog w A R (.compLoop (tdE w) 0 (.ref it) (.ref acc) (lawEnvC w (tdE w) [] loc N)) .base (lcT (tdE w) (lawEnvC w (tdE w) [] loc N) (.str ⟨#[hx m,hx k]⟩ tf)) ⟨h,g,d,T0,os⟩
  obtain ⟨tg,q1,q2,rfl⟩:=L1ok.form ok
  cases tg
  · have OD:=startA (b1:=b1) (b2:=b2) (T0:=T0) [] [loc] [locO w [] 0] 1 rfl rfl (by kernel_rfl) top trivial ⟨hlo,trivial⟩ ⟨.inl gl,trivial⟩ ⟨trivial,trivial⟩ trivial
    refine go F 16 1 1 [1000,1000,3,0,3,1000,125] (i:=0) OD hA hh fun h1=>?_
    intro o_h1 OD
    refine Mn.st (.call (.ref 125) ⟨[.str ⟨#[hx m,hx k]⟩ tf],[]⟩) ?_
    have s0':h.objs.size ≤ h1.objs.size:=size_le OD.1 OD.2
    refine dec2_call F (dk hA) (aH hh) OD.2.tp lm lk fun j2 tk2 te k2 s2=>?_
    have s0:h.objs.size ≤ j2.objs.size:=Nat.le_trans s0' s2
    replace OD:=creL tk2 [] [] OD trivial k2.but s2 trivial
    show Mn _ _ _ _ _ _ _ ⟨j2,g,d,tk2,os⟩
    refine go F 19 2 5 [] (i:=0) OD hA hh fun h2=>?_
    intro o_h2 OD
    refine Mn.en (.ret (.ref (j2.objs.size + 0))) ?_
    exact K h2 _ _ (locO w [(n_word,T0 + 0,.str ⟨#[hx m,hx k]⟩ tf)] 1) OD.2.kept (size_le OD.1 OD.2) ⟨((j2.objs.size + 0),((((16 * m + k).toUInt8.toNat:Nat):Int).fdiv 16,(tk2 + 3)),(((16 * m + k).toUInt8.toNat:Nat):Int).fmod 16,(tk2 + 4)),rfl,OD.2.ob 1,Nat.le_trans s0 (Nat.le_add_right _ _),by rw [e0]; exact e1⟩ (OD.2.ob 0) ⟨_,_,rfl⟩
  · have OD:=startA (b1:=b1) (b2:=b2) (T0:=T0) [] [loc] [locO w [(n_word,q1,q2)] 1] 1 rfl rfl (by kernel_rfl) top trivial ⟨hlo,trivial⟩ ⟨.inl gl,trivial⟩ ⟨trivial,trivial⟩ trivial
    refine go F 16 1 1 [1000,1000,3,0,3,1000,125] (i:=0) OD hA hh fun h1=>?_
    intro o_h1 OD
    refine Mn.st (.call (.ref 125) ⟨[.str ⟨#[hx m,hx k]⟩ tf],[]⟩) ?_
    have s0':h.objs.size ≤ h1.objs.size:=size_le OD.1 OD.2
    refine dec2_call F (dk hA) (aH hh) OD.2.tp lm lk fun j2 tk2 te k2 s2=>?_
    have s0:h.objs.size ≤ j2.objs.size:=Nat.le_trans s0' s2
    replace OD:=creL tk2 [] [] OD trivial k2.but s2 trivial
    show Mn _ _ _ _ _ _ _ ⟨j2,g,d,tk2,os⟩
    refine go F 19 2 5 [] (i:=0) OD hA hh fun h2=>?_
    intro o_h2 OD
    refine Mn.en (.ret (.ref (j2.objs.size + 0))) ?_
    exact K h2 _ _ (locO w [(n_word,q1,.str ⟨#[hx m,hx k]⟩ tf)] 1) OD.2.kept (size_le OD.1 OD.2) ⟨((j2.objs.size + 0),((((16 * m + k).toUInt8.toNat:Nat):Int).fdiv 16,(tk2 + 3)),(((16 * m + k).toUInt8.toNat:Nat):Int).fmod 16,(tk2 + 4)),rfl,OD.2.ob 1,Nat.le_trans s0 (Nat.le_add_right _ _),by rw [e0]; exact e1⟩ (OD.2.ob 0) ⟨_,_,rfl⟩
theorem td_comp {Wo we ep B:Nat} {ws:List ((Int × Int) × Nat)} (F:Follows w b1 b2) (hA:Lo A 200) (hh:A.handled = none) (top:TopOk w h) (hWo:h.get? Wo = some (listO (wrV ws) we)) (zW:Wo < B) (h16:∀ f ∈ ws.map (·.1),In16 f.1 ∧ In16 f.2) (gB:219 ≤ B) (b1':B ≤ it) (b2':it < acc) (b3':acc < loc) (hl:ws.length = 6)
    (hit:h.get? it = some (litO Wo 0)) (hacc:h.get? acc = some (listO [] ep)) (hloc:h.get? loc = some (locO w [] 0))
    (K:∀ h' tk C ep' oi k1 v1,KeepsBut [it,acc,loc] h h' → h.objs.size ≤ h'.objs.size → h'.get? it = some oi → h'.get? acc = some (listO (refsV C) ep') → (∀ z ∈ C,h'.get? z.1 = some (prO z) ∧ loc + 1 ≤ z.1) → bare C = ws.map (·.1) → h'.get? loc = some (locO w [(n_word,k1,v1)] 1) → R (.ok .next) ⟨h',g,d,tk,os⟩) :
    codeAny (model prog w) A (.compStart (tdE w) 0 (.ref it) (.ref acc) (lawEnvC w (tdE w) [] loc N)) R ⟨h,g,d,T0,os⟩:=by
  have hlen:(wrV ws).length = ws.length:=by simp [wrV]
  have bacc:B ≤ acc:=Nat.le_trans b1' (Nat.le_of_lt b2')
  have bloc:B ≤ loc:=Nat.le_trans bacc (Nat.le_of_lt b3')
  have b4':it < loc:=Nat.lt_trans b2' b3'
  have beh:Beh B [it,acc,loc]:=fun q hq=>by
    simp only [List.mem_cons,List.not_mem_nil,or_false] at hq
    rcases hq with e | e | e <;> rw [e] <;> assumption
  have low:∀ q ∈ [it,acc,loc],q < loc + 1:=fun q hq=>by
    simp only [List.mem_cons,List.not_mem_nil,or_false] at hq
    rcases hq with e | e | e <;> rw [e]
    · exact Nat.lt_succ_of_lt b4'
    · exact Nat.lt_succ_of_lt b3'
    · exact Nat.lt_succ_self _
  have LF:LcFix w (tdE w) (lawEnvC w (tdE w) [] loc N) it acc loc (wrV ws).length (fun i h=>h.get? it = some (litO Wo i) ∧ h.get? Wo = some (listO (wrV ws) we) ∧ Wo ≠ it) (fun i v=>(wrV ws)[i]? = some v) [] (L1ok w n_word) (L1two w n_word) (fun _=>True) (fun i val h=>∃ f,(ws.map (·.1))[i]? = some f ∧ PrV (loc + 1) f val h) g d os 200 :=
    { D:=⟨by kernel_rfl,by kernel_rfl,by kernel_rfl⟩
      V:=iter_list w it Wo (wrV ws) we
      nia:=Nat.ne_of_lt b2',nil:=Nat.ne_of_lt b4',nal:=Nat.ne_of_lt b3',nim:=fun h=>(nomatch h),nam:=fun h=>(nomatch h),fr:=⟨.inl (Nat.le_trans gB b1'),.inl (Nat.le_trans gB bacc),.inl (Nat.le_trans gB bloc),trivial⟩,hn:=by rw [hlen]; lia
      up:=fun o h=>.inr h
      stI:=fun i h h' k hI=>⟨k _ _ hI.1 (NotIn.mem ⟨Nat.ne_of_lt b2',Nat.ne_of_lt b4',trivial⟩),k _ _ hI.2.1 (below_out (beh.mono fun q hq=>.tail _ hq) zW),hI.2.2⟩
      stV:=fun _ _ _ _=>trivial
      stP:=fun i v h h' k p=>let ⟨f,e,p⟩:=p; ⟨f,e,p.keep low k⟩
      turn:=fun i x A R h T0 lo hi hx hA hh top _ hlo ok _ _ K=>by
        have hx':(wrV ws)[i]? = some x:=hx
        unfold wrV at hx'
        rw [List.getElem?_map] at hx'
        cases hq':ws[i]? with
        | none=>rw [hq'] at hx'; cases hx'
        | some q =>
          rw [hq'] at hx'
          cases hx'
          have hm:=h16 q.1 (List.mem_map.mpr ⟨q,List.mem_of_getElem? hq',rfl⟩)
          refine td_turn F hA hh top hm.1 hm.2 (Nat.le_trans gB bloc) hlo ok fun h' tk val lo' k s p hlo' ok'=>K h' tk val lo' k s trivial ⟨_,by rw [List.getElem?_map,hq']; rfl,p.mono (Nat.succ_le_of_lt (Heap.lt_size hlo))⟩ hlo' ok' }
  refine lc_comp LF hA hh top ⟨hit,hWo,Nat.ne_of_lt (Nat.lt_of_lt_of_le zW b1')⟩ hacc trivial hloc (.inl rfl) fun h' tk vals ep' lo' oi k s hoi _ hlv hP hacc' hlo' ok'=>?_
  obtain ⟨C,rfl,c2,c3⟩:=vals_prs (fs:=ws.map (·.1)) (by rw [hlv,hlen,List.length_map]) hP
  obtain ⟨k1,v1,rfl⟩:∃ k1 v1,lo' = locO w [(n_word,k1,v1)] 1:=ok'.elim (fun z=>by rw [hlen,hl] at z; exact absurd z.1 (by decide)) id
  exact K h' tk C ep' oi k1 v1 k s hoi hacc' c2 c3 hlo'
end
end Mine
namespace Mine
open PySem PySem.W PySem.W.X PyProof.Rows
section
variable {w:World} {V:LV} {b1 b2:Bool} {A:Around} {R:Result → Shared → Prop} {h:Heap} {g:Array GenState} {d:Drawn} {T0:Nat} {os:OsState} {N nu W l L O Cl Wr:Nat} {sc dr lx Wo Me:Addr} {k0 k1 k2 k3 k4 k5 k6 k7 k8 k9 u3 u6:Nat} {tx:Str} {st:Int} {ps:List (Int × Nat)} {pe oe ce we:Nat} {n0 n1 n2 n3 n4:Int} {t0 t1 t2 t3 t4 to:Nat} {a b:UInt8} {tt:TT} {lg:Int → Int} {ch pl:Int} {u v e:Nat} {Q C:List Pr} {ys:List (Int × Nat)}
theorem law_s17 {ws:List ((Int × Int) × Nat)} {Wo:Nat} (F:Follows w b1 b2) (hA:Lo A 50) (hh:A.handled = none) (top:TopOk w h) (gN:219 ≤ N) (gh:219 ≤ h.objs.size) (hN:h.get? N = some (fr9 w V nu st k4 Cl k5 Wr k6 tx u6 k7 lx k8 Wo)) (hN8:h.get? (N + 8) = some (cellO none)) (hWo:h.get? Wo = some (listO (wrV ws) we)) (nW8:Wo ≠ N + 8) (h16:∀ f ∈ ws.map (·.1),In16 f.1 ∧ In16 f.2) (hl:ws.length = 6)
    (K:∀ h' tk' C Tl te,KeepsBut [N + 8] h h' → h.objs.size ≤ h'.objs.size → h.objs.size ≤ Tl → h'.get? Tl = some (listO (refsV C) te) → (∀ z ∈ C,h'.get? z.1 = some (prO z) ∧ h.objs.size ≤ z.1) → bare C = ws.map (·.1) → h'.get? (N + 8) = some (cellO (some (.ref Tl))) → Mn prog w A R (lawC w N) .base (lawT w 18 N) ⟨h',g,d,tk',os⟩) :
    Mn prog w A R (lawC w N) .base (lawT w 17 N) ⟨h,g,d,T0,os⟩:=by
  have OD:=startA (b1:=b1) (b2:=b2) (T0:=T0) [(N,fr9 w V nu st k4 Cl k5 Wr k6 tx u6 k7 lx k8 Wo),(Wo,listO (wrV ws) we)] [N + 8] [cellO none] 1 rfl rfl (by kernel_rfl) top ⟨hN,hWo,trivial⟩ ⟨hN8,trivial⟩ ⟨.inl (Nat.le_add_right_of_le gN),trivial⟩ ⟨trivial,trivial⟩ ⟨⟨nlt (Nat.add_lt_add_left (by decide) _:N + 0 < N + 8),trivial⟩,⟨nW8,trivial⟩,trivial⟩
  refine go F 15 4 0 [2000,2001,2001,7000,2001,1001] (i:=0) OD hA hh fun h1=>?_
  intro o_h1 OD
  refine Mn.st (.compStart (tdE w) 0 (.ref (h.objs.size + 0)) (.ref (h.objs.size + 1)) (lawEnvC w (tdE w) [] (h.objs.size + 2) N)) ?_
  refine td_comp (B:=h.objs.size) (ep:=0) F (dk10 hA) (aH hh) OD.2.tp (OD.2.still 1 rfl) (Heap.lt_size hWo) h16 gh (Nat.le_add_right _ _) (Nat.add_lt_add_left (by decide) _) (Nat.add_lt_add_left (by decide) _) hl (OD.2.ob 1) (OD.2.ob 2) (OD.2.ob 3) fun ja ka C ep' oi q1 q2 kq sq hoi hac hC eC hlo=>?_
  replace OD:=creL ka [(1,(h.objs.size + 0),oi),(2,(h.objs.size + 1),listO (refsV C) ep'),(3,(h.objs.size + 2),locO w [(n_word,q1,q2)] 1)] [] OD ⟨(by kernel_rfl),hoi,(by kernel_rfl),hac,(by kernel_rfl),hlo,trivial⟩ kq sq trivial
  have kb:KeepsBut [N + 8] h ja:=OD.2.kept
  have sb:h.objs.size ≤ ja.objs.size:=size_le OD.1 OD.2
  replace OD:=fresh OD rfl rfl
  show Mn _ _ _ _ _ _ _ ⟨ja,g,d,ka,os⟩
  refine go F 10 4 0 [1003,1003,1003,1000,1000] (i:=0) OD hA hh fun h2=>?_
  intro o_h2 OD
  refine Mn.cast (c':=lawC w N) (κ':=.base) (t':=lawT w 18 N) (by kernel_rfl) (by kernel_rfl) (by kernel_rfl) ?_
  have kf:KeepsBut [N + 8,h.objs.size + 0,h.objs.size + 1,h.objs.size + 2] ja h2:=OD.2.kept
  exact K h2 _ C (h.objs.size + 1) ep' (KeepsBut.up (md:=[N + 8]) kb kf) (Nat.le_trans sb (size_le OD.1 OD.2)) (Nat.le_add_right _ _) (OD.2.ob 2 (o:=(listO (refsV C) ep'))) (fun z hz=>⟨kf _ _ (hC z hz).1 (up_out (hC z hz).2 (Heap.lt_size hN8)),Nat.le_trans (Nat.le_add_right _ 3) (hC z hz).2⟩) eC (OD.2.ob 0)
end
end Mine
namespace Mine
open PySem PySem.W PySem.W.X PyProof.Rows
noncomputable def optV (o:Option (UInt8 × UInt8)) (v:Value):Prop:=match o with
  | none=>v = .none
  | some q=>∃ t,v = .bytes #[q.1,q.2] t
theorem optV_no {p:Prop} [Decidable p] {q:Option (UInt8 × UInt8)} (n:¬ p):optV (if p then q else none) .none:=by rw [if_neg n]; exact rfl
theorem optV_yes {p:Prop} [Decidable p] {a b:UInt8} {t:Nat} (y:p):optV (if p then some (a,b) else none) (.bytes #[a,b] t):=by rw [if_pos y]; exact ⟨t,rfl⟩
noncomputable def mendR (lg:Int → Int) (ps:List Int) (p0 p1 p2 p3:Int) (cs:List (Int × Int)) (k:Nat):Option (UInt8 × UInt8) :=
  if toldN lg ((cs.eraseIdx k).getD 4 (0,0)).1 ps ((cs.eraseIdx k).take 4) = ((cs.eraseIdx k).getD 4 (0,0)).2 then
    some ((16 * (mendV lg ps (cs.eraseIdx k) (cs.getD k (0,0)).1 p0).toNat + (mendV lg ps (cs.eraseIdx k) (cs.getD k (0,0)).1 p1).toNat).toUInt8,(16 * (mendV lg ps (cs.eraseIdx k) (cs.getD k (0,0)).1 p2).toNat + (mendV lg ps (cs.eraseIdx k) (cs.getD k (0,0)).1 p3).toNat).toUInt8)
  else none
theorem list6 {α:Type} {l:List α} (h:l.length = 6):∃ a b c d e f,l = [a,b,c,d,e,f]:=by
  match l,h with
  | [a,b,c,d,e,f],_=>exact ⟨a,b,c,d,e,f,rfl⟩
theorem split6 {C:List Pr} (hl:C.length = 6) {k:Nat} (hk:k < 6):∃ z0 z1 z2 z3 z4 zl,C = insP k zl [z0,z1,z2,z3,z4] ∧ (bare C).eraseIdx k = bare [z0,z1,z2,z3,z4] ∧ (bare C).getD k (0,0) = (zl.2.1.1,zl.2.2.1):=by
  obtain ⟨a,b,c,d,e,f,rfl⟩:=list6 hl
  have:=lt6 hk
  rcases this with rfl | rfl | rfl | rfl | rfl | rfl
  · exact ⟨b,c,d,e,f,a,rfl,rfl,rfl⟩
  · exact ⟨a,c,d,e,f,b,rfl,rfl,rfl⟩
  · exact ⟨a,b,d,e,f,c,rfl,rfl,rfl⟩
  · exact ⟨a,b,c,e,f,d,rfl,rfl,rfl⟩
  · exact ⟨a,b,c,d,f,e,rfl,rfl,rfl⟩
  · exact ⟨a,b,c,d,e,f,rfl,rfl,rfl⟩
theorem insP_perm (k:Nat) (z:Pr) (l:List Pr):(insP k z l).Perm (l ++ [z]):=by
  unfold insP
  have e:l ++ [z] = (l.take k ++ l.drop k) ++ [z]:=by rw [List.take_append_drop]
  rw [e]
  exact List.perm_middle.trans (List.perm_append_singleton z _).symm
theorem AllZ.of_mem {P:Pr → Prop}:∀ {l:List Pr},(∀ z ∈ l,P z) → AllZ P l
  | [],_=>trivial
  | q :: _,h=>⟨h q (.head _),AllZ.of_mem fun z hz=>h z (.tail _ hz)⟩
section
variable {w:World} {b1 b2:Bool} {A:Around} {R:Result → Shared → Prop} {h:Heap} {g:Array GenState} {d:Drawn} {T0:Nat} {os:OsState} {pw l pr pre tlf:Nat} {tt:TT} {lg:Int → Int} {P:Nat → Int × Nat} {C:List Pr} {k:Nat}
theorem mend_k (F:Follows w b1 b2) (hA:Lo A 100) (hh:A.handled = none) (top:TopOk w h) (hN:219 ≤ h.objs.size) (tb:TabAt h tt) (T:LogsAt w h pw l (l15 P) lg) (hk:k < 6) (hl:C.length = 6)
    (hpr:h.get? pr = some (listO (refsV C) pre)) (bpr:219 ≤ pr) (hz:PrsAt h C) (hnd:(C.map (·.2.1.1)).Nodup) (hmem:∀ p ∈ [(P 0).1,(P 1).1,(P 2).1,(P 3).1],p ∈ C.map (·.2.1.1))
    (K:∀ h' tk' tt' v,KeepsBut [181] h h' → h.objs.size ≤ h'.objs.size → TabAt h' tt' → optV (mendR lg ((l15 P).map (·.1)) (P 0).1 (P 1).1 (P 2).1 (P 3).1 (bare C) k) v → R (.ok (.ret v)) ⟨h',g,d,tk',os⟩) :
    codeAny (model prog w) A (.call (.ref 213) ⟨[.ref pw,.ref l,.ref pr,.int (k:Int) tlf],[]⟩) R ⟨h,g,d,T0,os⟩:=by
  obtain ⟨z0,z1,z2,z3,z4,zl,eC,e1,e2⟩:=split6 hl hk
  have pm:C.Perm ([z0,z1,z2,z3,z4,zl]):=by rw [eC]; exact insP_perm k zl [z0,z1,z2,z3,z4]
  have hz':AllZ (fun z=>(h.get? z.1 = some (prO z) ∧ 219 ≤ z.1) ∧ In16 z.2.1.1 ∧ In16 z.2.2.1) [z0,z1,z2,z3,z4,zl]:=AllZ.of_mem fun z hm=>AllZ.mem hz z (pm.mem_iff.mpr hm)
  have hp:=hpr
  rw [eC] at hp
  unfold mendR at K
  rw [e1,e2] at K
  refine mend_call F hA hh top hN tb T hk hp bpr hz' ((pm.map _).nodup_iff.mp hnd) (fun p hm=>(pm.map _).mem_iff.mp (hmem p hm)) (fun h' tk' tt' k' s' tb' ne=>K h' tk' tt' _ k' s' tb' ?_) fun h' tk' tt' t' k' s' tb' eq=>K h' tk' tt' _ k' s' tb' ?_
  · exact optV_no ne
  · exact optV_yes eq
end
end Mine
namespace Mine
open PySem PySem.W PySem.W.X PyProof.Rows
noncomputable def meE (w:World):Expr:=assignV (stAt w 218 18)
noncomputable def meOwn (N:Addr):List (Str × Addr):=[(n_told,N + 8),(n_powers,N + 2),(n_logs,N + 3)]
noncomputable def meFs (N T W l:Addr) (te:Nat) (C:List Pr):List (Addr × Obj):=(N + 8,cellO (some (.ref T))) :: (N + 2,cellO (some (.ref W))) :: (N + 3,cellO (some (.ref l))) :: (T,listO (refsV C) te) :: prFs C
noncomputable def TabIn (h:Heap) (md:List Addr):Prop:=∃ tt,∀ h',KeepsBut md h h' → TabAt h' tt
theorem TabIn.keep {h h':Heap} {md md2:List Addr} (t:TabIn h md) (s:∀ q ∈ md2,q ∈ md) (k:KeepsBut md2 h h'):TabIn h' md:=let ⟨tt,f⟩:=t; ⟨tt,fun h2 k2=>f h2 ((k.mono s).trans k2)⟩
theorem TabIn.of {h:Heap} {tt:TT} {md:List Addr} (t:TabAt h tt) (n:∀ q ∈ md,∃ o,h.get? q = some o ∧ o.cls ≠ .type "code") (n181:181 ∉ md):TabIn h md:=⟨tt,fun h' k=>⟨k _ _ t.at_ n181,t.ok.map fun a c=>c.keep k fun hm=>by
  obtain ⟨o,e,nc⟩:=n a hm
  obtain ⟨v0,t0,r,e2⟩:=c
  rw [e] at e2
  cases e2
  exact nc rfl⟩⟩
theorem Stands.keep2 {h h':Heap} {fs:List (Addr × Obj)} {B:Nat} {loc:Addr} (S:Stands h fs) (z:Below B fs) (g:∀ q ∈ fs,219 ≤ q.1) (bl:B ≤ loc) (k:KeepsBut [loc,181] h h'):Stands h' fs:=fun q hq=>k _ _ (S q hq) (NotIn.mem ⟨Nat.ne_of_lt (Nat.lt_of_lt_of_le (z q hq) bl),fun e=>by have:=g q hq; rw [e] at this; exact absurd this (by decide),trivial⟩)
theorem LogsAt.keepN {w:World} {h h':Heap} {pw l:Nat} {ps:List (Int × Nat)} {lg:Int → Int} {md:List Addr} (T:LogsAt w h pw l ps lg) (k:KeepsBut md h h') (n1:pw ∉ md) (n2:l ∉ md):LogsAt w h' pw l ps lg:=by
  obtain ⟨pe,es,ep,h1,h2,h3,h4⟩:=T.ex
  exact ⟨⟨pe,es,ep,k _ _ h1 n1,k _ _ h2 n2,h3,h4⟩,T.bpw,T.bl,T.len,T.rng⟩
section
variable {w:World} {b1 b2:Bool} {A:Around} {R:Result → Shared → Prop} {h:Heap} {g:Array GenState} {d:Drawn} {T0:Nat} {os:OsState} {it acc loc N T W l:Nat} {te B k tk0:Nat} {lg:Int → Int} {P:Nat → Int × Nat} {C:List Pr} {lo oi oa:Obj}
theorem optV_cases {o:Option (UInt8 × UInt8)} {v:Value} (h:optV o v):v = .none ∨ ∃ a b t,v = .bytes #[a,b] t:=by
  cases o with
  | none=>exact .inl h
  | some q=>obtain ⟨t,e⟩:=h; exact .inr ⟨q.1,q.2,t,e⟩
noncomputable def MeIn (w:World) (N T W l te:Nat) (C:List Pr) (ps:List (Int × Nat)) (lg:Int → Int) (md:List Addr) (h:Heap):Prop:=Stands h (meFs N T W l te C) ∧ LogsAt w h W l ps lg ∧ TabIn h md
theorem me_turn (F:Follows w b1 b2) (hA:Lo A 80) (hh:A.handled = none) (top:TopOk w h) (I:MeIn w N T W l te C (l15 P) lg [it,acc,loc] h) (Z:Below B (meFs N T W l te C)) (G:∀ q ∈ meFs N T W l te C,219 ≤ q.1) (zW:W < B) (zl:l < B) (h16:∀ f ∈ bare C,In16 f.1 ∧ In16 f.2) (hl:C.length = 6) (hnd:(C.map (·.2.1.1)).Nodup) (hmem:∀ p ∈ [(P 0).1,(P 1).1,(P 2).1,(P 3).1],p ∈ C.map (·.2.1.1)) (hk:k < 6)
    (bl:B ≤ loc) (gB:219 ≤ B) (nil:it ≠ loc) (nal:acc ≠ loc) (g1:219 ≤ it) (g2:219 ≤ acc) (hit:h.get? it = some oi) (ci:oi.cls ≠ .type "code") (hac:h.get? acc = some oa) (ca:oa.cls ≠ .type "code") (hlo:h.get? loc = some lo) (ok:L1ok w n_k lo)
    (K:∀ h' tk val lo',KeepsBut [loc,181] h h' → h.objs.size ≤ h'.objs.size → MeIn w N T W l te C (l15 P) lg [it,acc,loc] h' → optV (mendR lg ((l15 P).map (·.1)) (P 0).1 (P 1).1 (P 2).1 (P 3).1 (bare C) k) val → h'.get? loc = some lo' → L1two w n_k lo' → R (.ok (.ret val)) ⟨h',g,d,tk,os⟩) :
    Mn prog w A R (.compLoop (meE w) 0 (.ref it) (.ref acc) (lawEnvC w (meE w) (meOwn N) loc N)) .base (lcT (meE w) (lawEnvC w (meE w) (meOwn N) loc N) (.int (k:Int) tk0)) ⟨h,g,d,T0,os⟩:=by
  obtain ⟨S,LA,TB⟩:=I
  have gl:219 ≤ loc:=Nat.le_trans gB bl
  have c0:h.get? (N + 8) = some (cellO (some (.ref T))):=S _ (.head _)
  have c1:h.get? (N + 2) = some (cellO (some (.ref W))):=S _ (.tail _ (.head _))
  have c2:h.get? (N + 3) = some (cellO (some (.ref l))):=S _ (.tail _ (.tail _ (.head _)))
  have c3:h.get? T = some (listO (refsV C) te):=S _ (.tail _ (.tail _ (.tail _ (.head _))))
  have out:∀ a:Addr,a < B → NotIn a [loc]:=fun a ha=>⟨Nat.ne_of_lt (Nat.lt_of_lt_of_le ha bl),trivial⟩
  have o0:=out _ (Z _ (.head _))
  have o1:=out _ (Z _ (.tail _ (.head _)))
  have o2:=out _ (Z _ (.tail _ (.tail _ (.head _))))
  have gT:219 ≤ T:=G _ (.tail _ (.tail _ (.tail _ (.head _))))
  have gh:219 ≤ h.objs.size:=Nat.le_of_lt (Nat.lt_of_le_of_lt gl (Heap.lt_size hlo))
  have n181:∀ x:Nat,219 ≤ x → (x:Addr) ≠ 181:=fun x hx e=>by rw [e] at hx; exact absurd hx (by decide)
  obtain ⟨tg,q1,q2,rfl⟩:=L1ok.form ok
  cases tg
  · have OD:=startA (b1:=b1) (b2:=b2) (T0:=T0) [(N + 8,cellO (some (.ref T))),(N + 2,cellO (some (.ref W))),(N + 3,cellO (some (.ref l)))] [loc] [locO w [] 0] 1 rfl rfl (by kernel_rfl) top ⟨c0,c1,c2,trivial⟩ ⟨hlo,trivial⟩ ⟨.inl gl,trivial⟩ ⟨trivial,trivial⟩ ⟨o0,o1,o2,trivial⟩
    refine go F 19 1 1 [1000,1000,3,2001,2002,2000,1000,213] (i:=0) OD hA hh fun h1=>?_
    intro o_h1 OD
    refine Mn.st (.call (.ref 213) ⟨[.ref W,.ref l,.ref T,.int (k:Int) tk0],[]⟩) ?_
    have k1:KeepsBut [loc] h h1:=OD.2.kept
    have s1:h.objs.size ≤ h1.objs.size:=size_le OD.1 OD.2
    have S1:Stands h1 (meFs N T W l te C):=S.keep Z (fun q hq=>by rw [List.mem_singleton.mp hq]; exact bl) k1
    obtain ⟨tt,ft⟩:=TB
    have P1:PrsAt h1 C:=AllZ.of_mem fun z hz=>⟨⟨S1 _ (.tail _ (.tail _ (.tail _ (.tail _ (List.mem_map.mpr ⟨z,hz,rfl⟩))))),G _ (.tail _ (.tail _ (.tail _ (.tail _ (List.mem_map.mpr ⟨z,hz,rfl⟩)))))⟩,h16 _ (List.mem_map.mpr ⟨z,hz,rfl⟩)⟩
    refine mend_k F (dk10 hA) (aH hh) OD.2.tp (Nat.le_trans gh s1) (ft h1 (k1.mono fun q hq=>by rw [List.mem_singleton.mp hq]; simp)) (LA.keepN k1 (NotIn.mem (out _ zW)) (NotIn.mem (out _ zl))) hk hl (S1 _ (.tail _ (.tail _ (.tail _ (.head _))))) gT P1 hnd hmem fun h2 tk2 tt2 val k2 s2 tb2 hv=>?_
    have lo1:h1.get? loc = some (locO w [(n_k,T0 + 0,.int (k:Int) tk0)] 1):=OD.2.ob 0
    have lo2:h2.get? loc = some (locO w [(n_k,T0 + 0,.int (k:Int) tk0)] 1):=k2 _ _ lo1 (NotIn.mem ⟨n181 _ gl,trivial⟩)
    have top2:TopOk w h2:=TopOk.keepsBut (h:=h1) OD.2.tp k2 ⟨.inr (.inr (.inr rfl)),trivial⟩
    have k12:KeepsBut [loc,181] h h2:=(k1.mono fun q hq=>by rw [List.mem_singleton.mp hq]; exact .head _).trans (k2.mono fun q hq=>.tail _ hq)
    have it2:h2.get? it = some oi:=k12 _ _ hit (NotIn.mem ⟨nil,n181 _ g1,trivial⟩)
    have ac2:h2.get? acc = some oa:=k12 _ _ hac (NotIn.mem ⟨nal,n181 _ g2,trivial⟩)
    have nlt181:(181:Addr) ∉ [it,acc,loc]:=NotIn.mem ⟨(n181 _ g1).symm,(n181 _ g2).symm,(n181 _ gl).symm,trivial⟩
    have TB2:TabIn h2 [it,acc,loc]:=TabIn.of tb2 (fun q hq=>by
      simp only [List.mem_cons,List.not_mem_nil,or_false] at hq
      rcases hq with e | e | e <;> rw [e]
      · exact ⟨_,it2,ci⟩
      · exact ⟨_,ac2,ca⟩
      · exact ⟨_,lo2,ty_ne (by decide)⟩) nlt181
    clear OD
    have OD:=startA (b1:=b1) (b2:=b2) (T0:=tk2) [] [loc] [locO w [(n_k,T0 + 0,.int (k:Int) tk0)] 1] 1 rfl rfl (by kernel_rfl) top2 trivial ⟨lo2,trivial⟩ ⟨.inl gl,trivial⟩ ⟨trivial,trivial⟩ trivial
    show Mn _ _ _ _ _ _ _ ⟨h2,g,d,tk2,os⟩
    have hv':val = .none ∨ ∃ a b t,val = .bytes #[a,b] t:=optV_cases hv
    rcases hv' with rfl | ⟨va,vb,vt,rfl⟩
    · refine go F 1 1 0 [] (i:=0) OD hA hh fun h3=>?_
      intro o_h3 OD
      refine Mn.en (.ret .none) ?_
      have k3:KeepsBut [loc] h2 h3:=OD.2.kept
      have k13:KeepsBut [loc,181] h h3:=k12.trans (k3.mono fun q hq=>by rw [List.mem_singleton.mp hq]; exact .head _)
      exact K h3 _ .none (locO w [(n_k,T0 + 0,.int (k:Int) tk0)] 1) k13 (Nat.le_trans s1 (Nat.le_trans s2 (size_le OD.1 OD.2))) ⟨S.keep2 Z G bl k13,LA.keepN k13 (NotIn.mem ⟨(out _ zW).1,n181 _ LA.bpw,trivial⟩) (NotIn.mem ⟨(out _ zl).1,n181 _ LA.bl,trivial⟩),TB2.keep (fun q hq=>by rw [List.mem_singleton.mp hq]; simp) k3⟩ hv (OD.2.ob 0) ⟨_,_,rfl⟩
    · refine go F 1 1 0 [] (i:=0) OD hA hh fun h3=>?_
      intro o_h3 OD
      refine Mn.en (.ret (.bytes #[va,vb] vt)) ?_
      have k3:KeepsBut [loc] h2 h3:=OD.2.kept
      have k13:KeepsBut [loc,181] h h3:=k12.trans (k3.mono fun q hq=>by rw [List.mem_singleton.mp hq]; exact .head _)
      exact K h3 _ (.bytes #[va,vb] vt) (locO w [(n_k,T0 + 0,.int (k:Int) tk0)] 1) k13 (Nat.le_trans s1 (Nat.le_trans s2 (size_le OD.1 OD.2))) ⟨S.keep2 Z G bl k13,LA.keepN k13 (NotIn.mem ⟨(out _ zW).1,n181 _ LA.bpw,trivial⟩) (NotIn.mem ⟨(out _ zl).1,n181 _ LA.bl,trivial⟩),TB2.keep (fun q hq=>by rw [List.mem_singleton.mp hq]; simp) k3⟩ hv (OD.2.ob 0) ⟨_,_,rfl⟩
  · have OD:=startA (b1:=b1) (b2:=b2) (T0:=T0) [(N + 8,cellO (some (.ref T))),(N + 2,cellO (some (.ref W))),(N + 3,cellO (some (.ref l)))] [loc] [locO w [(n_k,q1,q2)] 1] 1 rfl rfl (by kernel_rfl) top ⟨c0,c1,c2,trivial⟩ ⟨hlo,trivial⟩ ⟨.inl gl,trivial⟩ ⟨trivial,trivial⟩ ⟨o0,o1,o2,trivial⟩
    refine go F 19 1 1 [1000,1000,3,2001,2002,2000,1000,213] (i:=0) OD hA hh fun h1=>?_
    intro o_h1 OD
    refine Mn.st (.call (.ref 213) ⟨[.ref W,.ref l,.ref T,.int (k:Int) tk0],[]⟩) ?_
    have k1:KeepsBut [loc] h h1:=OD.2.kept
    have s1:h.objs.size ≤ h1.objs.size:=size_le OD.1 OD.2
    have S1:Stands h1 (meFs N T W l te C):=S.keep Z (fun q hq=>by rw [List.mem_singleton.mp hq]; exact bl) k1
    obtain ⟨tt,ft⟩:=TB
    have P1:PrsAt h1 C:=AllZ.of_mem fun z hz=>⟨⟨S1 _ (.tail _ (.tail _ (.tail _ (.tail _ (List.mem_map.mpr ⟨z,hz,rfl⟩))))),G _ (.tail _ (.tail _ (.tail _ (.tail _ (List.mem_map.mpr ⟨z,hz,rfl⟩)))))⟩,h16 _ (List.mem_map.mpr ⟨z,hz,rfl⟩)⟩
    refine mend_k F (dk10 hA) (aH hh) OD.2.tp (Nat.le_trans gh s1) (ft h1 (k1.mono fun q hq=>by rw [List.mem_singleton.mp hq]; simp)) (LA.keepN k1 (NotIn.mem (out _ zW)) (NotIn.mem (out _ zl))) hk hl (S1 _ (.tail _ (.tail _ (.tail _ (.head _))))) gT P1 hnd hmem fun h2 tk2 tt2 val k2 s2 tb2 hv=>?_
    have lo1:h1.get? loc = some (locO w [(n_k,q1,.int (k:Int) tk0)] 1):=OD.2.ob 0
    have lo2:h2.get? loc = some (locO w [(n_k,q1,.int (k:Int) tk0)] 1):=k2 _ _ lo1 (NotIn.mem ⟨n181 _ gl,trivial⟩)
    have top2:TopOk w h2:=TopOk.keepsBut (h:=h1) OD.2.tp k2 ⟨.inr (.inr (.inr rfl)),trivial⟩
    have k12:KeepsBut [loc,181] h h2:=(k1.mono fun q hq=>by rw [List.mem_singleton.mp hq]; exact .head _).trans (k2.mono fun q hq=>.tail _ hq)
    have it2:h2.get? it = some oi:=k12 _ _ hit (NotIn.mem ⟨nil,n181 _ g1,trivial⟩)
    have ac2:h2.get? acc = some oa:=k12 _ _ hac (NotIn.mem ⟨nal,n181 _ g2,trivial⟩)
    have nlt181:(181:Addr) ∉ [it,acc,loc]:=NotIn.mem ⟨(n181 _ g1).symm,(n181 _ g2).symm,(n181 _ gl).symm,trivial⟩
    have TB2:TabIn h2 [it,acc,loc]:=TabIn.of tb2 (fun q hq=>by
      simp only [List.mem_cons,List.not_mem_nil,or_false] at hq
      rcases hq with e | e | e <;> rw [e]
      · exact ⟨_,it2,ci⟩
      · exact ⟨_,ac2,ca⟩
      · exact ⟨_,lo2,ty_ne (by decide)⟩) nlt181
    clear OD
    have OD:=startA (b1:=b1) (b2:=b2) (T0:=tk2) [] [loc] [locO w [(n_k,q1,.int (k:Int) tk0)] 1] 1 rfl rfl (by kernel_rfl) top2 trivial ⟨lo2,trivial⟩ ⟨.inl gl,trivial⟩ ⟨trivial,trivial⟩ trivial
    show Mn _ _ _ _ _ _ _ ⟨h2,g,d,tk2,os⟩
    have hv':val = .none ∨ ∃ a b t,val = .bytes #[a,b] t:=optV_cases hv
    rcases hv' with rfl | ⟨va,vb,vt,rfl⟩
    · refine go F 1 1 0 [] (i:=0) OD hA hh fun h3=>?_
      intro o_h3 OD
      refine Mn.en (.ret .none) ?_
      have k3:KeepsBut [loc] h2 h3:=OD.2.kept
      have k13:KeepsBut [loc,181] h h3:=k12.trans (k3.mono fun q hq=>by rw [List.mem_singleton.mp hq]; exact .head _)
      exact K h3 _ .none (locO w [(n_k,q1,.int (k:Int) tk0)] 1) k13 (Nat.le_trans s1 (Nat.le_trans s2 (size_le OD.1 OD.2))) ⟨S.keep2 Z G bl k13,LA.keepN k13 (NotIn.mem ⟨(out _ zW).1,n181 _ LA.bpw,trivial⟩) (NotIn.mem ⟨(out _ zl).1,n181 _ LA.bl,trivial⟩),TB2.keep (fun q hq=>by rw [List.mem_singleton.mp hq]; simp) k3⟩ hv (OD.2.ob 0) ⟨_,_,rfl⟩
    · refine go F 1 1 0 [] (i:=0) OD hA hh fun h3=>?_
      intro o_h3 OD
      refine Mn.en (.ret (.bytes #[va,vb] vt)) ?_
      have k3:KeepsBut [loc] h2 h3:=OD.2.kept
      have k13:KeepsBut [loc,181] h h3:=k12.trans (k3.mono fun q hq=>by rw [List.mem_singleton.mp hq]; exact .head _)
      exact K h3 _ (.bytes #[va,vb] vt) (locO w [(n_k,q1,.int (k:Int) tk0)] 1) k13 (Nat.le_trans s1 (Nat.le_trans s2 (size_le OD.1 OD.2))) ⟨S.keep2 Z G bl k13,LA.keepN k13 (NotIn.mem ⟨(out _ zW).1,n181 _ LA.bpw,trivial⟩) (NotIn.mem ⟨(out _ zl).1,n181 _ LA.bl,trivial⟩),TB2.keep (fun q hq=>by rw [List.mem_singleton.mp hq]; simp) k3⟩ hv (OD.2.ob 0) ⟨_,_,rfl⟩
theorem me_comp {ep:Nat} (F:Follows w b1 b2) (hA:Lo A 80) (hh:A.handled = none) (top:TopOk w h) (S:Stands h (meFs N T W l te C)) (LA:LogsAt w h W l (l15 P) lg) {tt:TT} (tb:TabAt h tt) (Z:Below B (meFs N T W l te C)) (G:∀ q ∈ meFs N T W l te C,219 ≤ q.1) (zW:W < B) (zl:l < B) (h16:∀ f ∈ bare C,In16 f.1 ∧ In16 f.2) (hl:C.length = 6) (hnd:(C.map (·.2.1.1)).Nodup) (hmem:∀ p ∈ [(P 0).1,(P 1).1,(P 2).1,(P 3).1],p ∈ C.map (·.2.1.1))
    (gB:219 ≤ B) (b1':B ≤ it) (b2':it < acc) (b3':acc < loc) (hit:h.get? it = some (rngO 0 6 1)) (hacc:h.get? acc = some (listO [] ep)) (hloc:h.get? loc = some (locO w [] 0))
    (K:∀ h' tk vals ep' oi k1 v1,KeepsBut [it,acc,loc,181] h h' → h.objs.size ≤ h'.objs.size → h'.get? it = some oi → h'.get? acc = some (listO vals ep') → vals.length = 6 → (∀ (j:Nat) v,vals[j]? = some v → optV (mendR lg ((l15 P).map (·.1)) (P 0).1 (P 1).1 (P 2).1 (P 3).1 (bare C) j) v) → h'.get? loc = some (locO w [(n_k,k1,v1)] 1) → (∃ l,h'.get? 181 = some (tabO l)) → R (.ok .next) ⟨h',g,d,tk,os⟩) :
    codeAny (model prog w) A (.compStart (meE w) 0 (.ref it) (.ref acc) (lawEnvC w (meE w) (meOwn N) loc N)) R ⟨h,g,d,T0,os⟩:=by
  have bacc:B ≤ acc:=Nat.le_trans b1' (Nat.le_of_lt b2')
  have bloc:B ≤ loc:=Nat.le_trans bacc (Nat.le_of_lt b3')
  have b4':it < loc:=Nat.lt_trans b2' b3'
  have beh:Beh B [it,acc,loc]:=fun q hq=>by
    simp only [List.mem_cons,List.not_mem_nil,or_false] at hq
    rcases hq with e | e | e <;> rw [e] <;> assumption
  have n181:∀ x:Nat,219 ≤ x → (x:Addr) ≠ 181:=fun x hx e=>by rw [e] at hx; exact absurd hx (by decide)
  have git:219 ≤ it:=Nat.le_trans gB b1'
  have gac:219 ≤ acc:=Nat.le_trans gB bacc
  have glo:219 ≤ loc:=Nat.le_trans gB bloc
  have LF:LcFix w (meE w) (lawEnvC w (meE w) (meOwn N) loc N) it acc loc 6 (fun i h=>h.get? it = some (rIter 0 6 i)) (fun i v=>∃ t,v = .int (0 + i) t) [181] (L1ok w n_k) (L1two w n_k) (MeIn w N T W l te C (l15 P) lg [it,acc,loc]) (fun i val _=>optV (mendR lg ((l15 P).map (·.1)) (P 0).1 (P 1).1 (P 2).1 (P 3).1 (bare C) i) val) g d os 80 :=
    { D:=⟨by kernel_rfl,by kernel_rfl,by kernel_rfl⟩
      V:=iter_range w it 0 6
      nia:=Nat.ne_of_lt b2',nil:=Nat.ne_of_lt b4',nal:=Nat.ne_of_lt b3',nim:=NotIn.mem ⟨n181 _ git,trivial⟩,nam:=NotIn.mem ⟨n181 _ gac,trivial⟩,fr:=⟨.inl git,.inl gac,.inl glo,.inr (.inr (.inr rfl)),trivial⟩,hn:=by decide
      up:=fun o h=>.inr h
      stI:=fun i h h' k hI=>k _ _ hI (NotIn.mem ⟨Nat.ne_of_lt b2',Nat.ne_of_lt b4',n181 _ git,trivial⟩)
      stV:=fun h h' k I=>⟨I.1.keep Z (beh.mono fun q hq=>by
        simp only [List.mem_cons,List.not_mem_nil,or_false] at hq
        rcases hq with e | e <;> simp [e]) k,I.2.1.keepN k (below_out (beh.mono fun q hq=>by
        simp only [List.mem_cons,List.not_mem_nil,or_false] at hq
        rcases hq with e | e <;> simp [e]) zW) (below_out (beh.mono fun q hq=>by
        simp only [List.mem_cons,List.not_mem_nil,or_false] at hq
        rcases hq with e | e <;> simp [e]) zl),I.2.2.keep (fun q hq=>by
        simp only [List.mem_cons,List.not_mem_nil,or_false] at hq
        rcases hq with e | e <;> simp [e]) k⟩
      stP:=fun i v h h' k p=>p
      turn:=fun i x A R h T0 lo hi hx hA hh top I hlo ok hI hac K=>by
        obtain ⟨t,rfl⟩:=hx
        obtain ⟨vals,ep,hac⟩:=hac
        rw [Int.zero_add]
        exact me_turn F hA hh top I Z G zW zl h16 hl hnd hmem hi bloc gB (Nat.ne_of_lt b4') (Nat.ne_of_lt b3') git gac hI (ty_ne (by decide)) hac (ty_ne (by decide)) hlo ok fun h' tk val lo' k s I' p hlo' ok'=>K h' tk val lo' k s I' p hlo' ok' }
  have TB:TabIn h [it,acc,loc]:=TabIn.of tb (fun q hq=>by
    simp only [List.mem_cons,List.not_mem_nil,or_false] at hq
    rcases hq with e | e | e <;> rw [e]
    · exact ⟨_,hit,ty_ne (by decide)⟩
    · exact ⟨_,hacc,ty_ne (by decide)⟩
    · exact ⟨_,hloc,ty_ne (by decide)⟩) (NotIn.mem ⟨(n181 _ git).symm,(n181 _ gac).symm,(n181 _ glo).symm,trivial⟩)
  refine lc_comp LF hA hh top hit hacc ⟨S,LA,TB⟩ hloc (.inl rfl) fun h' tk vals ep' lo' oi k s hoi IV hlv hP hacc' hlo' ok'=>?_
  obtain ⟨k1,v1,rfl⟩:∃ k1 v1,lo' = locO w [(n_k,k1,v1)] 1:=ok'.elim (fun z=>absurd z.1 (by decide)) id
  obtain ⟨tt2,ft2⟩:=IV.2.2
  exact K h' tk vals ep' oi k1 v1 k s hoi hacc' hlv hP hlo' ⟨_,(ft2 h' (fun _ _ e _=>e)).at_⟩
end
end Mine
namespace Mine
open PySem PySem.W PySem.W.X PyProof.Rows
noncomputable def valR:Stmt → Expr
  | .Return (some e) _=>e
  | _=>.Constant .none 0 default
noncomputable def e19 (w:World):Expr:=valR (stAt w 218 19)
noncomputable def fiE (w:World):Expr:=cR (e19 w)
noncomputable def fiOwn (N:Addr):List (Str × Addr):=[(n_place,N + 5),(n_order,N + 7),(n_octets,N + 1),(n_change,N + 4)]
noncomputable def fiFs (N O:Nat) (a b:UInt8) (to:Nat) (ch pl:Int) (u v:Nat) (ys:List (Int × Nat)) (oe:Nat):List (Addr × Obj):=[(N + 1,cellO (some (.bytes #[a,b] to))),(N + 4,cellO (some (.int ch u))),(N + 5,cellO (some (.int pl v))),(N + 7,cellO (some (.ref O))),(O,listO (intsV ys) oe)]
noncomputable def finR (ch pl:Int) (ys:List Int) (a b:UInt8) (k:Nat):Option (UInt8 × UInt8):=if ch = 0 ∨ ys[k]? = some pl then some (a,b) else none
section
variable {w:World} {b1 b2:Bool} {A:Around} {R:Result → Shared → Prop} {h:Heap} {g:Array GenState} {d:Drawn} {T0:Nat} {os:OsState} {it acc loc N O:Nat} {a b:UInt8} {to u v oe B k tk0:Nat} {ch pl:Int} {ys:List (Int × Nat)} {lo:Obj}
theorem fi_turn (F:Follows w b1 b2) (hA:Lo A 80) (hh:A.handled = none) (top:TopOk w h) (S:Stands h (fiFs N O a b to ch pl u v ys oe)) (Z:Below B (fiFs N O a b to ch pl u v ys oe)) (bl:B ≤ loc) (gl:219 ≤ loc) (hl:ys.length = 6) (hk:k < 6) (hlo:h.get? loc = some lo) (ok:L1ok w n_k lo)
    (K:∀ h' tk val lo',KeepsBut [loc] h h' → h.objs.size ≤ h'.objs.size → optV (finR ch pl (ys.map (·.1)) a b k) val → h'.get? loc = some lo' → L1two w n_k lo' → R (.ok (.ret val)) ⟨h',g,d,tk,os⟩) :
    Mn prog w A R (.compLoop (fiE w) 0 (.ref it) (.ref acc) (lawEnvC w (fiE w) (fiOwn N) loc N)) .base (lcT (fiE w) (lawEnvC w (fiE w) (fiOwn N) loc N) (.int (k:Int) tk0)) ⟨h,g,d,T0,os⟩:=by
  have c0:=S _ (.head _)
  have c1:=S _ (.tail _ (.head _))
  have c2:=S _ (.tail _ (.tail _ (.head _)))
  have c3:=S _ (.tail _ (.tail _ (.tail _ (.head _))))
  have c4:=S _ (.tail _ (.tail _ (.tail _ (.tail _ (.head _)))))
  have out:∀ a:Addr,a < B → NotIn a [loc]:=fun a ha=>⟨Nat.ne_of_lt (Nat.lt_of_lt_of_le ha bl),trivial⟩
  have o0:=out _ (Z _ (.head _))
  have o1:=out _ (Z _ (.tail _ (.head _)))
  have o2:=out _ (Z _ (.tail _ (.tail _ (.head _))))
  have o3:=out _ (Z _ (.tail _ (.tail _ (.tail _ (.head _)))))
  have o4:=out _ (Z _ (.tail _ (.tail _ (.tail _ (.tail _ (.head _))))))
  obtain ⟨y,hy⟩:∃ y,ys[k]? = some y:=⟨_,List.getElem?_eq_getElem (by lia)⟩
  obtain ⟨y,ty⟩:=y
  have hv:(intsV ys)[((k:Int)).toNat]? = some (.int y ty):=by
    rw [Int.toNat_natCast]; unfold intsV; rw [List.getElem?_map,hy]; rfl
  have hm:(ys.map (·.1))[k]? = some y:=by rw [List.getElem?_map,hy]; rfl
  have r1:ch = 0 → optV (finR ch pl (ys.map (·.1)) a b k) (.bytes #[a,b] to):=fun e=>optV_yes (.inl e)
  have r2:y = pl → optV (finR ch pl (ys.map (·.1)) a b k) (.bytes #[a,b] to):=fun e=>optV_yes (.inr (by rw [hm,e]))
  have r3:ch ≠ 0 → y ≠ pl → optV (finR ch pl (ys.map (·.1)) a b k) .none:=fun e1 e2=>optV_no (fun z=>z.elim e1 fun q=>by
    rw [hm] at q
    exact e2 (Option.some.inj q))
  obtain ⟨tg,q1,q2,rfl⟩:=L1ok.form ok
  cases tg
  · have OD:=startA (b1:=b1) (b2:=b2) (T0:=T0) [(N + 1,cellO (some (.bytes #[a,b] to))),(N + 4,cellO (some (.int ch u))),(N + 5,cellO (some (.int pl v))),(N + 7,cellO (some (.ref O))),(O,listO (intsV ys) oe)] [loc] [locO w [] 0] 1 rfl rfl (by kernel_rfl) top ⟨c0,c1,c2,c3,c4,trivial⟩ ⟨hlo,trivial⟩ ⟨.inl gl,trivial⟩ ⟨trivial,trivial⟩ ⟨o0,o1,o2,o3,o4,trivial⟩
    by_cases h0:ch = 0
    · refine goP F 17 1 2 [1000,1000,2001,7000,7201,2000] [(ch == 0) = true] (i:=0) OD hA hh ⟨(by rw [h0]; rfl),trivial⟩ fun h1=>?_
      intro o_h1 OD
      refine Mn.en (.ret (.bytes #[a,b] to)) ?_
      exact K h1 _ _ (locO w [(n_k,T0 + 0,.int (k:Int) tk0)] 1) OD.2.kept (size_le OD.1 OD.2) (r1 h0) (OD.2.ob 0) ⟨_,_,rfl⟩
    · refine goP F 23 1 2 [1000,1000,2001,7000,7200,2003,1000,2004,2004,2004] [(ch == 0) = false] (i:=0) OD hA hh ⟨beq_false_of_ne h0,trivial⟩ fun h1=>?_
      intro o_h1 OD
      refine Mn.st (.call (.builtin "list.__getitem__") ⟨[.ref O,.int (k:Int) tk0],[]⟩) ?_
      refine c_list_get (OD.2.still 4 rfl) (by lia) (by lia) hv ?_
      by_cases hp:y = pl
      · refine goP F 9 1 2 [2002,7000,7201,2000] [(y == pl) = true] (i:=2) OD hA hh ⟨(by rw [hp]; exact beq_self_eq_true _),trivial⟩ fun h2=>?_
        intro o_h2 OD
        refine Mn.en (.ret (.bytes #[a,b] to)) ?_
        exact K h2 _ _ (locO w [(n_k,T0 + 0,.int (k:Int) tk0)] 1) OD.2.kept (size_le OD.1 OD.2) (r2 hp) (OD.2.ob 0) ⟨_,_,rfl⟩
      · refine goP F 7 1 2 [2002,7000,7200] [(y == pl) = false] (i:=2) OD hA hh ⟨beq_false_of_ne hp,trivial⟩ fun h2=>?_
        intro o_h2 OD
        refine Mn.en (.ret .none) ?_
        exact K h2 _ _ (locO w [(n_k,T0 + 0,.int (k:Int) tk0)] 1) OD.2.kept (size_le OD.1 OD.2) (r3 h0 hp) (OD.2.ob 0) ⟨_,_,rfl⟩
  · have OD:=startA (b1:=b1) (b2:=b2) (T0:=T0) [(N + 1,cellO (some (.bytes #[a,b] to))),(N + 4,cellO (some (.int ch u))),(N + 5,cellO (some (.int pl v))),(N + 7,cellO (some (.ref O))),(O,listO (intsV ys) oe)] [loc] [locO w [(n_k,q1,q2)] 1] 1 rfl rfl (by kernel_rfl) top ⟨c0,c1,c2,c3,c4,trivial⟩ ⟨hlo,trivial⟩ ⟨.inl gl,trivial⟩ ⟨trivial,trivial⟩ ⟨o0,o1,o2,o3,o4,trivial⟩
    by_cases h0:ch = 0
    · refine goP F 17 1 2 [1000,1000,2001,7000,7201,2000] [(ch == 0) = true] (i:=0) OD hA hh ⟨(by rw [h0]; rfl),trivial⟩ fun h1=>?_
      intro o_h1 OD
      refine Mn.en (.ret (.bytes #[a,b] to)) ?_
      exact K h1 _ _ (locO w [(n_k,q1,.int (k:Int) tk0)] 1) OD.2.kept (size_le OD.1 OD.2) (r1 h0) (OD.2.ob 0) ⟨_,_,rfl⟩
    · refine goP F 23 1 2 [1000,1000,2001,7000,7200,2003,1000,2004,2004,2004] [(ch == 0) = false] (i:=0) OD hA hh ⟨beq_false_of_ne h0,trivial⟩ fun h1=>?_
      intro o_h1 OD
      refine Mn.st (.call (.builtin "list.__getitem__") ⟨[.ref O,.int (k:Int) tk0],[]⟩) ?_
      refine c_list_get (OD.2.still 4 rfl) (by lia) (by lia) hv ?_
      by_cases hp:y = pl
      · refine goP F 9 1 2 [2002,7000,7201,2000] [(y == pl) = true] (i:=2) OD hA hh ⟨(by rw [hp]; exact beq_self_eq_true _),trivial⟩ fun h2=>?_
        intro o_h2 OD
        refine Mn.en (.ret (.bytes #[a,b] to)) ?_
        exact K h2 _ _ (locO w [(n_k,q1,.int (k:Int) tk0)] 1) OD.2.kept (size_le OD.1 OD.2) (r2 hp) (OD.2.ob 0) ⟨_,_,rfl⟩
      · refine goP F 7 1 2 [2002,7000,7200] [(y == pl) = false] (i:=2) OD hA hh ⟨beq_false_of_ne hp,trivial⟩ fun h2=>?_
        intro o_h2 OD
        refine Mn.en (.ret .none) ?_
        exact K h2 _ _ (locO w [(n_k,q1,.int (k:Int) tk0)] 1) OD.2.kept (size_le OD.1 OD.2) (r3 h0 hp) (OD.2.ob 0) ⟨_,_,rfl⟩
theorem fi_comp {ep:Nat} (F:Follows w b1 b2) (hA:Lo A 80) (hh:A.handled = none) (top:TopOk w h) (S:Stands h (fiFs N O a b to ch pl u v ys oe)) (Z:Below B (fiFs N O a b to ch pl u v ys oe)) (hl:ys.length = 6)
    (gB:219 ≤ B) (b1':B ≤ it) (b2':it < acc) (b3':acc < loc) (hit:h.get? it = some (rngO 0 6 1)) (hacc:h.get? acc = some (listO [] ep)) (hloc:h.get? loc = some (locO w [] 0))
    (K:∀ h' tk vals ep' oi k1 v1,KeepsBut [it,acc,loc] h h' → h.objs.size ≤ h'.objs.size → h'.get? it = some oi → h'.get? acc = some (listO vals ep') → vals.length = 6 → (∀ (j:Nat) v,vals[j]? = some v → optV (finR ch pl (ys.map (·.1)) a b j) v) → h'.get? loc = some (locO w [(n_k,k1,v1)] 1) → R (.ok .next) ⟨h',g,d,tk,os⟩) :
    codeAny (model prog w) A (.compStart (fiE w) 0 (.ref it) (.ref acc) (lawEnvC w (fiE w) (fiOwn N) loc N)) R ⟨h,g,d,T0,os⟩:=by
  have bacc:B ≤ acc:=Nat.le_trans b1' (Nat.le_of_lt b2')
  have bloc:B ≤ loc:=Nat.le_trans bacc (Nat.le_of_lt b3')
  have b4':it < loc:=Nat.lt_trans b2' b3'
  have beh:Beh B [it,acc,loc]:=fun q hq=>by
    simp only [List.mem_cons,List.not_mem_nil,or_false] at hq
    rcases hq with e | e | e <;> rw [e] <;> assumption
  have LF:LcFix w (fiE w) (lawEnvC w (fiE w) (fiOwn N) loc N) it acc loc 6 (fun i h=>h.get? it = some (rIter 0 6 i)) (fun i v=>∃ t,v = .int (0 + i) t) [] (L1ok w n_k) (L1two w n_k) (fun h=>Stands h (fiFs N O a b to ch pl u v ys oe)) (fun i val _=>optV (finR ch pl (ys.map (·.1)) a b i) val) g d os 80 :=
    { D:=⟨by kernel_rfl,by kernel_rfl,by kernel_rfl⟩
      V:=iter_range w it 0 6
      nia:=Nat.ne_of_lt b2',nil:=Nat.ne_of_lt b4',nal:=Nat.ne_of_lt b3',nim:=fun h=>(nomatch h),nam:=fun h=>(nomatch h),fr:=⟨.inl (Nat.le_trans gB b1'),.inl (Nat.le_trans gB bacc),.inl (Nat.le_trans gB bloc),trivial⟩,hn:=by decide
      up:=fun o h=>.inr h
      stI:=fun i h h' k hI=>k _ _ hI (NotIn.mem ⟨Nat.ne_of_lt b2',Nat.ne_of_lt b4',trivial⟩)
      stV:=fun h h' k S=>S.keep Z (beh.mono fun q hq=>by
        simp only [List.mem_cons,List.not_mem_nil,or_false] at hq
        rcases hq with e | e <;> simp [e]) k
      stP:=fun i v h h' k p=>p
      turn:=fun i x A R h T0 lo hi hx hA hh top S hlo ok _ _ K=>by
        obtain ⟨t,rfl⟩:=hx
        rw [Int.zero_add]
        exact fi_turn F hA hh top S Z bloc (Nat.le_trans gB bloc) hl hi hlo ok fun h' tk val lo' k s p hlo' ok'=>K h' tk val lo' k s (S.keep Z (beh.mono fun q hq=>by rw [List.mem_singleton.mp hq]; simp) k) p hlo' ok' }
  refine lc_comp LF hA hh top hit hacc S hloc (.inl rfl) fun h' tk vals ep' lo' oi k s hoi _ hlv hP hacc' hlo' ok'=>?_
  obtain ⟨k1,v1,rfl⟩:∃ k1 v1,lo' = locO w [(n_k,k1,v1)] 1:=ok'.elim (fun z=>absurd z.1 (by decide)) id
  exact K h' tk vals ep' oi k1 v1 k s hoi hacc' hlv hP hlo'
end
end Mine
namespace Mine
open PySem PySem.W PySem.W.X PyProof.Rows
section
variable {w:World} {V:LV} {b1 b2:Bool} {A:Around} {R:Result → Shared → Prop} {h:Heap} {g:Array GenState} {d:Drawn} {T0:Nat} {os:OsState} {N nu W l L O Cl Wr:Nat} {sc dr lx Wo Me:Addr} {k0 k1 k2 k3 k4 k5 k6 k7 k8 k9 u3 u6:Nat} {tx:Str} {st:Int} {ps:List (Int × Nat)} {pe oe ce we:Nat} {P:Nat → Int × Nat} {t0 t1 t2 t3 t4 t5 t6 t7 t8 t9 t10 t11 t12 t13 t14 to:Nat} {a b:UInt8} {tt:TT} {lg:Int → Int} {ch pl:Int} {u v e:Nat} {Q C:List Pr} {ys:List (Int × Nat)}
theorem meFs_cls {T te:Nat}:∀ q ∈ meFs N T W l te C,q.2.cls ≠ .type "frame":=fun q hq=>by
  unfold meFs at hq
  simp only [List.mem_cons] at hq
  rcases hq with e | e | e | e | e
  · rw [e]; exact ty_ne (by decide)
  · rw [e]; exact ty_ne (by decide)
  · rw [e]; exact ty_ne (by decide)
  · rw [e]; exact ty_ne (by decide)
  · obtain ⟨z,_,rfl⟩:=List.mem_map.mp e
    exact ty_ne (by decide)
theorem law_s18 {T te:Nat} {Wo:Addr} (F:Follows w b1 b2) (hA:Lo A 50) (hh:A.handled = none) (top:TopOk w h) (gN:219 ≤ N) (gh:219 ≤ h.objs.size) (hN:h.get? N = some (fr9 w V nu st k4 Cl k5 Wr k6 tx u6 k7 lx k8 Wo)) (tb:TabAt h tt) (SS:Stands h (meFs N T W l te C)) (G:∀ q ∈ meFs N T W l te C,219 ≤ q.1) (LA:LogsAt w h W l (l15 P) lg) (zW:W < h.objs.size) (zl:l < h.objs.size) (nWN:W ≠ N) (nlN:l ≠ N) (h16:∀ f ∈ bare C,In16 f.1 ∧ In16 f.2) (hl:C.length = 6) (hnd:(C.map (·.2.1.1)).Nodup) (hmem:∀ p ∈ [(P 0).1,(P 1).1,(P 2).1,(P 3).1],p ∈ C.map (·.2.1.1))
    (K:∀ h' tk' vals Me me k9,KeepsBut [N,181] h h' → h.objs.size ≤ h'.objs.size → h.objs.size ≤ Me → h'.get? Me = some (listO vals me) → vals.length = 6 → (∀ (j:Nat) v,vals[j]? = some v → optV (mendR lg ((l15 P).map (·.1)) (P 0).1 (P 1).1 (P 2).1 (P 3).1 (bare C) j) v) → h'.get? N = some (fr10 w V nu st k4 Cl k5 Wr k6 tx u6 k7 lx k8 Wo k9 Me) → (∃ l,h'.get? 181 = some (tabO l)) → Mn prog w A R (lawC w N) .base (lawT w 19 N) ⟨h',g,d,tk',os⟩) :
    Mn prog w A R (lawC w N) .base (lawT w 18 N) ⟨h,g,d,T0,os⟩:=by
  have OD:=startA (b1:=b1) (b2:=b2) (T0:=T0) [] [N] [fr9 w V nu st k4 Cl k5 Wr k6 tx u6 k7 lx k8 Wo] 1 rfl rfl (by kernel_rfl) top trivial ⟨hN,trivial⟩ ⟨.inl gN,trivial⟩ ⟨trivial,trivial⟩ trivial
  refine go F 40 5 3 [3,0,1001,1001,1001,1001,1001,1001,7000,1001,1001,1001,1001,1002] (i:=0) OD hA hh fun h1=>?_
  intro o_h1 OD
  refine Mn.st (.compStart (meE w) 0 (.ref (h.objs.size + 1)) (.ref (h.objs.size + 2)) (lawEnvC w (meE w) (meOwn N) (h.objs.size + 3) N)) ?_
  have kk1:KeepsBut [N] h h1:=OD.2.kept
  have s1:h.objs.size ≤ h1.objs.size:=size_le OD.1 OD.2
  have fN:h1.get? N = some (fr9 w V nu st k4 Cl k5 Wr k6 tx u6 k7 lx k8 Wo):=(OD.2.ob 0)
  have TB1:TabAt h1 tt:=⟨kk1.ob1 hN tb.at_ (fun x=>nomatch x),tb.ok.map fun a c=>kk1.code1 hN c⟩
  refine me_comp (B:=h.objs.size) (ep:=0) F (dk10 hA) (aH hh) OD.2.tp (SS.but1 kk1 hN meFs_cls) (LA.keepN kk1 (NotIn.mem ⟨nWN,trivial⟩) (NotIn.mem ⟨nlN,trivial⟩)) TB1 SS.below G zW zl h16 hl hnd hmem gh (Nat.le_add_right _ _) (Nat.add_lt_add_left (by decide) _) (Nat.add_lt_add_left (by decide) _) (OD.2.ob 2) (OD.2.ob 3) (OD.2.ob 4) fun ja ka vals ep' oi q1 q2 kq sq hoi hac hlv hv hlo h181=>?_
  have zN:N < h.objs.size:=Heap.lt_size hN
  have nI:(N:Addr) ≠ (h.objs.size + 1):=nlt (Nat.lt_of_lt_of_le zN (Nat.le_add_right _ _))
  have nS:(N:Addr) ≠ (h.objs.size + 2):=nlt (Nat.lt_of_lt_of_le zN (Nat.le_add_right _ _))
  have nL:(N:Addr) ≠ (h.objs.size + 3):=nlt (Nat.lt_of_lt_of_le zN (Nat.le_add_right _ _))
  have nN1:(N:Addr) ≠ 181:=(nlt (low_lt gN:181 < N)).symm
  have fN2:ja.get? N = some (fr9 w V nu st k4 Cl k5 Wr k6 tx u6 k7 lx k8 Wo):=kq _ _ fN (NotIn.mem ⟨nI,nS,nL,nN1,trivial⟩)
  have kall:KeepsBut [N,181] h ja:=(kk1.mono (fun q hq=>by rw [List.mem_singleton.mp hq]; exact .head _)).beh (fun q hq=>by
    simp only [List.mem_cons,List.not_mem_nil,or_false] at hq
    rcases hq with e | e | e | e
    · exact .inl (by rw [e]; exact Nat.le_add_right _ _)
    · exact .inl (by rw [e]; exact Nat.le_add_right _ _)
    · exact .inl (by rw [e]; exact Nat.le_add_right _ _)
    · exact .inr (by rw [e]; exact .tail _ (.head _))) kq
  have top2:TopOk w ja:=top.keepsBut kall ⟨.inl gN,.inr (.inr (.inr rfl)),trivial⟩
  have sj:h.objs.size ≤ ja.objs.size:=Nat.le_trans s1 sq
  have ge2:∀ k:Nat,219 ≤ h.objs.size + k:=fun k=>Nat.le_add_right_of_le gh
  have nSL:((h.objs.size + 2):Addr) ≠ (h.objs.size + 3):=nlt (Nat.add_lt_add_left (by decide) _)
  clear OD
  have OD:=startA (b1:=b1) (b2:=b2) (T0:=ka) [] [N,(h.objs.size + 2),(h.objs.size + 3)] [fr9 w V nu st k4 Cl k5 Wr k6 tx u6 k7 lx k8 Wo,listO vals ep',locO w [(n_k,q1,q2)] 1] 3 rfl rfl (by kernel_rfl) top2 trivial ⟨fN2,hac,hlo,trivial⟩ ⟨.inl gN,.inl (ge2 _),.inl (ge2 _),trivial⟩ ⟨⟨nS,nL,trivial⟩,⟨nSL,trivial⟩,trivial,trivial⟩ trivial
  show Mn _ _ _ _ _ _ _ ⟨ja,g,d,ka,os⟩
  refine go F 13 3 1 [1000,1000,1002,1002,1002] (i:=0) OD hA hh fun q1'=>?_
  intro o_q1' OD
  refine Mn.cast (c':=lawC w N) (κ':=.base) (t':=lawT w 19 N) (by kernel_rfl) (by kernel_rfl) (by kernel_rfl) ?_
  have kf:KeepsBut [N,(h.objs.size + 2),(h.objs.size + 3)] ja q1':=OD.2.kept
  exact K q1' _ vals (h.objs.size + 2) ep' (ka + 0) (kall.beh (fun q hq=>by
    simp only [List.mem_cons,List.not_mem_nil,or_false] at hq
    rcases hq with e | e | e
    · exact .inr (by rw [e]; exact .head _)
    · exact .inl (by rw [e]; exact Nat.le_add_right _ _)
    · exact .inl (by rw [e]; exact Nat.le_add_right _ _)) kf) (Nat.le_trans sj (size_le OD.1 OD.2)) (Nat.le_add_right _ _) (OD.2.ob 1) hlv hv (OD.2.ob 0) (h181.imp fun l e=>kf _ _ e (NotIn.mem ⟨nN1.symm,nlt (Nat.lt_of_lt_of_le (by decide) (ge2 2)),nlt (Nat.lt_of_lt_of_le (by decide) (ge2 3)),trivial⟩))
end
end Mine
namespace Mine
open PySem PySem.W PySem.W.X PyProof.Rows
open PySem.SeqAt (EqAt RcAt)
noncomputable def posR:Stmt → Pos
  | .Return _ p=>p
  | _=>default
noncomputable def st19 (w:World):Stmt:=.Return (some (.Compare (cL (e19 w)) [.Eq] [cR (e19 w)] (posE (e19 w)))) (posR (stAt w 218 19))
theorem st19_at (w:World):(stmtsOf (fdAt w 218)).drop 19 = [st19 w]:=by kernel_rfl
theorem own19 (w:World):behindInMarks .Eq (cR (e19 w)) = false:=by kernel_rfl
section
variable {w:World} {A:Around} {R:Result → Shared → Prop} {s:Shared} {c:Code}
theorem cmp_value {Q:Value → Shared → Prop} {l r:Expr} {op:CmpOp} {cp:Pos} {env:Env} (hb:behindInMarks op r = false)
    (h:Mn prog w A (retR fun lv s₁=>Mn prog w A (retR fun rv s₂=>wpAny (model prog w) (A.under c) (compareOp op lv rv) Q (fun _ _=>False) s₂) c .base (evT r env) s₁) c .base (evT l env) s) :
    wpOwn (model prog w) A c (eval (.Compare l [op] [r] cp) env) Q (fun _ _=>False) s:=by
  have e1:eval (.Compare l [op] [r] cp) env = (eval l env >>= fun lv=>holding [lv] (eval r env) >>= fun rv=>standAt cp >>= fun _=>operate [lv,rv] (compareOp op lv rv)):=by
    have hm:markedEach [op] [r] (evalEach [r] env) = [eval r env]:=by
      show [markedBehindIn op r (eval r env)] = _
      unfold markedBehindIn
      rw [hb]
    show (eval l env >>= fun lv=>compareChain cp lv [op] (markedEach [op] [r] (evalEach [r] env))) = _
    rw [hm]
    rfl
  rw [e1]
  refine wpOwn_bind ?_
  intro Γ p hc hΓ
  refine Sem.wp_mono _ Γ _ (fun lv p₁ s₁ hl=>?_) (fun _ _ _ hx=>hx.elim) p s (ev_own h Γ p hc hΓ)
  intro Γ p hc hΓ
  rw [Sem.wp_bind',Sem.wp_holding]
  refine Sem.wp_mono _ Γ _ (fun rv p₂ s₂ hr=>?_) (fun _ _ _ hx=>hx.elim) p s₁ (ev_own hl Γ p hc hΓ)
  rw [Sem.wp_bind']
  show Sem.wp _ Γ (operate [lv,rv] (compareOp op lv rv)) _ _ _ s₂
  rw [Sem.wp_operate]
  exact hr Γ _ (hc ▸ hΓ.in)
theorem law_ret {N:Addr} (h:wpOwn (model prog w) A (lawC w N) (eval (.Compare (cL (e19 w)) [.Eq] [cR (e19 w)] (posE (e19 w))) (lawEnv w N)) (fun v s'=>R (.ok (.ret v)) s') (fun _ _=>False) s):Mn prog w A R (lawC w N) .base (lawT w 19 N) s:=by
  refine ⟨?_⟩
  intro Γ p hc hΓ
  rw [lawT_eq,st19_at]
  show Sem.wp _ Γ (((execs [st19 w] (lawEnv w N)).onRaise (leaving (lawEnv w N))) >>= _) _ _ p s
  rw [Sem.wp_bind',Sem.wp_onRaise]
  have e1:execs [st19 w] (lawEnv w N) = (exec (st19 w) (lawEnv w N) >>= fun f=>match f with | .next=>execs [] (lawEnv w N) | f=>pure f):=rfl
  have e2:exec (st19 w) (lawEnv w N) = (standAt (posR (stAt w 218 19)) >>= fun _=>eval (.Compare (cL (e19 w)) [.Eq] [cR (e19 w)] (posE (e19 w))) (lawEnv w N) >>= fun v=>pure (.ret v)):=rfl
  rw [e1,e2,Sem.wp_bind',Sem.wp_bind']
  show Sem.wp _ Γ (eval (.Compare (cL (e19 w)) [.Eq] [cR (e19 w)] (posE (e19 w))) (lawEnv w N) >>= fun v=>pure (Flow.ret v)) _ _ (posR (stAt w 218 19)) s
  rw [Sem.wp_bind']
  refine Sem.wp_mono _ Γ _ (fun v p₁ s₁ hv=>?_) (fun _ _ _ hx=>hx.elim) _ s (h Γ _ hc hΓ)
  exact hv
theorem opt_eqs {B:Around} {t:Shared} {o:Option (UInt8 × UInt8)} {x y:Value} (hx:optV o x) (hy:optV o y):EqAt B t x y true:=by
  cases o with
  | none =>
    have e1:x = .none:=hx
    have e2:y = .none:=hy
    rw [e1,e2]
    exact EqAt.same .none
  | some q =>
    obtain ⟨t1,rfl⟩:=hx
    obtain ⟨t2,rfl⟩:=hy
    intro prog w E Q h
    exact eqBool_bytes (by simpa using h)
theorem eq_vals_at {Q:Value → Shared → Prop} {E:Value → Shared → Prop} {l m:Addr} {vs ws:List Value} {e f:Nat} {o:Nat → Option (UInt8 × UInt8)} (hl:s.heap.get? l = some (listO vs e)) (hm:s.heap.get? m = some (listO ws f)) (hlen:vs.length = ws.length) (h1:∀ j v,vs[j]? = some v → optV (o j) v) (h2:∀ j v,ws[j]? = some v → optV (o j) v) (hu:A.units < cLine)
    (h:Q (.bool true) s):wpAny (model prog w) A (compareOp .Eq (.ref l) (.ref m)) Q E s:=by
  refine PySem.SeqAt.eq_listAt (e:=fun _=>true) (isList_of hl) (isList_of hm) (by simpa using hlen) hu (eqs_of fun j x y hx hy=>opt_eqs (h1 j x hx) (h2 j y hy)) ?_
  rw [all_true]
  exact h
end
end Mine
namespace Mine
open PySem PySem.W PySem.W.X PyProof.Rows
section
variable {w:World} {V:LV} {b1 b2:Bool} {A:Around} {R:Result → Shared → Prop} {h:Heap} {g:Array GenState} {d:Drawn} {T0:Nat} {os:OsState} {N nu W l L O Cl Wr:Nat} {sc dr lx Wo Me:Addr} {k0 k1 k2 k3 k4 k5 k6 k7 k8 k9 u3 u6:Nat} {tx:Str} {st:Int} {ps:List (Int × Nat)} {pe oe ce we:Nat} {n0 n1 n2 n3 n4:Int} {t0 t1 t2 t3 t4 to:Nat} {a b:UInt8} {tt:TT} {lg:Int → Int} {ch pl:Int} {u v e:Nat} {Q C:List Pr} {ys:List (Int × Nat)}
theorem law_s19 {Me Wo:Nat} {me:Nat} {vals:List Value} {o:Nat → Option (UInt8 × UInt8)} (F:Follows w b1 b2) (hA:Lo A 50) (hh:A.handled = none) (top:TopOk w h) (gh:219 ≤ h.objs.size) (hN:h.get? N = some (fr10 w V nu st k4 Cl k5 Wr k6 tx u6 k7 lx k8 Wo k9 Me)) (hMe:h.get? Me = some (listO vals me)) (hlv:vals.length = 6) (hv:∀ (j:Nat) v,vals[j]? = some v → optV (o j) v) (SF:Stands h (fiFs N O a b to ch pl u v ys oe)) (hl:ys.length = 6) (hf:∀ j < 6,o j = finR ch pl (ys.map (·.1)) a b j)
    (K:∀ h' tk',Keeps h h' → R (.ok (.ret (.bool true))) ⟨h',g,d,tk',os⟩) :
    Mn prog w A R (lawC w N) .base (lawT w 19 N) ⟨h,g,d,T0,os⟩:=by
  have OD:=startA (b1:=b1) (b2:=b2) (T0:=T0) [(N,fr10 w V nu st k4 Cl k5 Wr k6 tx u6 k7 lx k8 Wo k9 Me),(Me,listO vals me)] [] [] 0 rfl rfl (by kernel_rfl) top ⟨hN,hMe,trivial⟩ trivial trivial trivial ⟨trivial,trivial,trivial⟩
  refine law_ret (cmp_value (own19 w) ?_)
  refine go F 2 0 0 [2000] (i:=0) OD hA hh fun h1=>?_
  intro o_h1 OD
  refine Mn.en (.ret (.ref Me)) ?_
  show Mn prog w A _ (lawC w N) .base (evT (cR (e19 w)) (lawEnv w N)) ⟨h1,g,d,T0,os⟩
  refine go F 38 4 3 [3,0,1000,1000,1000,1000,1000,1000,7000,1000,1000,1000,1000,1001] (i:=0) OD hA hh fun h2=>?_
  intro o_h2 OD
  refine Mn.st (.compStart (fiE w) 0 (.ref (h.objs.size + 1)) (.ref (h.objs.size + 2)) (lawEnvC w (fiE w) (fiOwn N) (h.objs.size + 3) N)) ?_
  have kk1:Keeps h h2:=fun a o e=>OD.2.kept a o e (fun hm=>nomatch hm)
  refine fi_comp (B:=h.objs.size) (ep:=0) F (dk10 hA) (aH hh) OD.2.tp (fun q hq=>kk1 _ _ (SF q hq)) SF.below hl gh (Nat.le_add_right _ _) (Nat.add_lt_add_left (by decide) _) (Nat.add_lt_add_left (by decide) _) (OD.2.ob 1) (OD.2.ob 2) (OD.2.ob 3) fun ja ka ws ep' oi q1 q2 kq sq hoi hac hlw hw hlo=>?_
  replace OD:=creL ka [(1,(h.objs.size + 1),oi),(2,(h.objs.size + 2),listO ws ep'),(3,(h.objs.size + 3),locO w [(n_k,q1,q2)] 1)] [] OD ⟨(by kernel_rfl),hoi,(by kernel_rfl),hac,(by kernel_rfl),hlo,trivial⟩ kq sq trivial
  show Mn _ _ _ _ _ _ _ ⟨ja,g,d,ka,os⟩
  refine go F 5 4 0 [1003,1003,1003] (i:=0) OD hA hh fun h3=>?_
  intro o_h3 OD
  refine Mn.en (.ret (.ref (h.objs.size + 2))) ?_
  exact eq_vals_at (OD.2.kept _ _ hMe (fun hm=>nomatch hm)) (OD.2.ob 2 (o:=(listO ws ep'))) (hlv.trans hlw.symm) hv (fun j v e=>by rw [hf j (by have:=(List.getElem?_eq_some_iff.mp e).1; lia)]; exact hw j v e) (under_units (hA.mono (by decide))) (K h3 _ (fun a o e=>OD.2.kept a o e (fun hm=>nomatch hm)))
end
end Mine
namespace Mine
open PySem PySem.W PySem.W.X PyProof.Rows
theorem erase_perm {α:Type}:∀ {l:List α} {j:Nat} {y:α},l[j]? = some y → (y :: l.eraseIdx j).Perm l
  | [],j,y,h=>by simp at h
  | x :: l,0,y,h=>by simp at h; subst h; exact List.Perm.refl _
  | x :: l,j + 1,y,h=>by
    have ih:=erase_perm (l:=l) (j:=j) (y:=y) (by simpa using h)
    exact (List.Perm.swap x y _).trans (ih.cons x)
theorem popS_perm:∀ (m:Nat) (ks:List Int) (n:Int) (xs:List (Int × Nat)),ks = ((List.range m).map fun (i:Nat)=>((m - i:Nat):Int)) → xs.length = m → (popS ks n xs).Perm xs
  | 0,ks,n,xs,hk,hl=>by
    have:xs = []:=List.length_eq_zero_iff.mp hl
    subst this hk
    exact List.Perm.refl _
  | m + 1,ks,n,xs,hk,hl=>by
    have e:ks = ((m + 1:Nat):Int) :: ((List.range m).map fun (i:Nat)=>((m - i:Nat):Int)):=by
      rw [hk,List.range_succ_eq_map,List.map_cons,List.map_map]
      congr 1
      refine List.map_congr_left fun i _=>?_
      show (((m + 1 - (i + 1):Nat)):Int) = _
      congr 1
      lia
    rw [e]
    unfold popS
    have h1:=Int.fmod_nonneg_of_pos n (show (0:Int) < ((m + 1:Nat):Int) by omega)
    have h2:=Int.fmod_lt_of_pos n (show (0:Int) < ((m + 1:Nat):Int) by lia)
    obtain ⟨y,hy⟩:∃ y,xs[(n.fmod ((m + 1:Nat):Int)).toNat]? = some y:=⟨_,List.getElem?_eq_getElem (by omega)⟩
    rw [hy]
    have hlt:(n.fmod ((m + 1:Nat):Int)).toNat < xs.length:=by omega
    have ih:=popS_perm m _ (n.fdiv ((m + 1:Nat):Int)) (xs.eraseIdx (n.fmod ((m + 1:Nat):Int)).toNat) rfl (by rw [List.length_eraseIdx,if_pos hlt]; lia)
    exact (ih.cons y).trans (erase_perm hy)
theorem pop6 {n:Int} {xs:List (Int × Nat)} (h:xs.map (·.1) = [0,1,2,3,4,5]):((popS [6,5,4,3,2,1] n xs).map (·.1)).Perm [0,1,2,3,4,5]:=by
  have hl:xs.length = 6:=by simpa using congrArg List.length h
  rw [← h]
  exact (popS_perm 6 _ n xs (by decide) hl).map _
end Mine
namespace Mine
open PySem PySem.W PySem.W.X PyProof.Rows
noncomputable def nget (T i:Nat):Nat:=(T >>> (4 * i)) % 16
noncomputable def mulT (E L c v:Nat):Nat:=match Nat.beq v 0 with
  | true=>0
  | false=>nget E ((nget L v + c) % 15)
@[irreducible] noncomputable def regsT:List (Nat × Nat):=[(634716957175944225,13577674746912456960),(111727403861424450,12347891808665153760),(667122972002463075,8658544024716381360),(151098150817194900,11118108870417854160),(780874541442201525,3806982759063861360),(257867967863937750,7428761086469139360),(818201823731568375,1347680765375649360),(932099277960331800,14807457620735250960),(297674010577786425,9888325932171533760),(964777617006754650,5036749204636748160),(409092629029777275,2577199820832286560),(1078530392083145100,16033018434331894560),(448462312219063725,6198978148473494160),(1115585208834463950,16181937462010278960),(555540772248718575,117897831154877760),(595210085666322225,3772475789174184960),(704450150381328450,7461824539490598960),(109258224392073075,2542692850926881760),(188143322474688900,6232041601243299360),(783335177251833525,13606252192226252160),(818211435590199750,11146950198538040160),(223001421138288375,1312909912679639760),(299989333806379800,5002258662996978960),(894908864639632425,8691606446945751360),(1004147789960866650,14836018637799138960),(409246418767879275,12376469253994677360),(483483778951955100,9917167260542394960),(1078385079484855725,15998247581635884960),(1113260207261833950,16147166609314269360),(518340747086638575,83126978458868160)]
noncomputable def eT (L x q y0 y1 y2:Nat):Nat:=(nget L (x ^^^ y0) + nget L (x ^^^ y1) + nget L (x ^^^ y2) + (45 - (nget L (q ^^^ y0) + nget L (q ^^^ y1) + nget L (q ^^^ y2)))) % 15
noncomputable def rowP (E:Nat):List Int:=(List.range 15).map fun i=>((nget E i:Nat):Int)
noncomputable def placesOk (E L:Nat):Bool:=(List.range 15).all fun v=>placeIn (rowP E) ((v + 1:Nat):Int) == ((nget L (v + 1):Nat):Int)
theorem reg_tab {P:List Int} {st:Int} (h:RegV P st):∃ E L,(regsT.contains (E,L)) = true ∧ P = rowP E ∧ placesOk E L = true:=by
  obtain ⟨far,c0,c1,c2,c3,ec,-,rfl⟩:=h
  cases far <;> cases c0 <;> cases c1 <;> cases c2 <;> cases c3
  · exact absurd ec (by decide)
  · exact ⟨634716957175944225,13577674746912456960,by decide +kernel,by decide +kernel,by decide +kernel⟩
  · exact ⟨111727403861424450,12347891808665153760,by decide +kernel,by decide +kernel,by decide +kernel⟩
  · exact ⟨667122972002463075,8658544024716381360,by decide +kernel,by decide +kernel,by decide +kernel⟩
  · exact ⟨151098150817194900,11118108870417854160,by decide +kernel,by decide +kernel,by decide +kernel⟩
  · exact ⟨780874541442201525,3806982759063861360,by decide +kernel,by decide +kernel,by decide +kernel⟩
  · exact ⟨257867967863937750,7428761086469139360,by decide +kernel,by decide +kernel,by decide +kernel⟩
  · exact ⟨818201823731568375,1347680765375649360,by decide +kernel,by decide +kernel,by decide +kernel⟩
  · exact ⟨932099277960331800,14807457620735250960,by decide +kernel,by decide +kernel,by decide +kernel⟩
  · exact ⟨297674010577786425,9888325932171533760,by decide +kernel,by decide +kernel,by decide +kernel⟩
  · exact ⟨964777617006754650,5036749204636748160,by decide +kernel,by decide +kernel,by decide +kernel⟩
  · exact ⟨409092629029777275,2577199820832286560,by decide +kernel,by decide +kernel,by decide +kernel⟩
  · exact ⟨1078530392083145100,16033018434331894560,by decide +kernel,by decide +kernel,by decide +kernel⟩
  · exact ⟨448462312219063725,6198978148473494160,by decide +kernel,by decide +kernel,by decide +kernel⟩
  · exact ⟨1115585208834463950,16181937462010278960,by decide +kernel,by decide +kernel,by decide +kernel⟩
  · exact ⟨555540772248718575,117897831154877760,by decide +kernel,by decide +kernel,by decide +kernel⟩
  · exact absurd ec (by decide)
  · exact ⟨595210085666322225,3772475789174184960,by decide +kernel,by decide +kernel,by decide +kernel⟩
  · exact ⟨704450150381328450,7461824539490598960,by decide +kernel,by decide +kernel,by decide +kernel⟩
  · exact ⟨109258224392073075,2542692850926881760,by decide +kernel,by decide +kernel,by decide +kernel⟩
  · exact ⟨188143322474688900,6232041601243299360,by decide +kernel,by decide +kernel,by decide +kernel⟩
  · exact ⟨783335177251833525,13606252192226252160,by decide +kernel,by decide +kernel,by decide +kernel⟩
  · exact ⟨818211435590199750,11146950198538040160,by decide +kernel,by decide +kernel,by decide +kernel⟩
  · exact ⟨223001421138288375,1312909912679639760,by decide +kernel,by decide +kernel,by decide +kernel⟩
  · exact ⟨299989333806379800,5002258662996978960,by decide +kernel,by decide +kernel,by decide +kernel⟩
  · exact ⟨894908864639632425,8691606446945751360,by decide +kernel,by decide +kernel,by decide +kernel⟩
  · exact ⟨1004147789960866650,14836018637799138960,by decide +kernel,by decide +kernel,by decide +kernel⟩
  · exact ⟨409246418767879275,12376469253994677360,by decide +kernel,by decide +kernel,by decide +kernel⟩
  · exact ⟨483483778951955100,9917167260542394960,by decide +kernel,by decide +kernel,by decide +kernel⟩
  · exact ⟨1078385079484855725,15998247581635884960,by decide +kernel,by decide +kernel,by decide +kernel⟩
  · exact ⟨1113260207261833950,16147166609314269360,by decide +kernel,by decide +kernel,by decide +kernel⟩
  · exact ⟨518340747086638575,83126978458868160,by decide +kernel,by decide +kernel,by decide +kernel⟩
noncomputable def all16 (f:Nat → Bool):Bool:=f 0 && (f 1 && (f 2 && (f 3 && (f 4 && (f 5 && (f 6 && (f 7 && (f 8 && (f 9 && (f 10 && (f 11 && (f 12 && (f 13 && (f 14 && f 15))))))))))))))
@[irreducible] noncomputable def addOk (E L:Nat):Bool:=((List.range 15).all fun i=>Nat.beq (nget L (nget E i)) i && (Nat.blt 0 (nget E i) && (Nat.beq (nget E (nget L (i + 1))) (i + 1) && Nat.blt (nget L (i + 1)) 15))) && all16 fun u=>all16 fun v=>Nat.beq (mulT E L 1 (u ^^^ v)) (mulT E L 1 u ^^^ mulT E L 1 v)
theorem add_all:regsT.all (fun t=>addOk t.1 t.2) = true:=by decide +kernel
end Mine
namespace Mine
open PySem PySem.W PySem.W.X PyProof.Rows
noncomputable def told4 (E L x q0 q1 q2 q3 v0 v1 v2 v3:Nat):Nat:=mulT E L (eT L x q0 q1 q2 q3) v0 ^^^ (mulT E L (eT L x q1 q0 q2 q3) v1 ^^^ (mulT E L (eT L x q2 q0 q1 q3) v2 ^^^ mulT E L (eT L x q3 q0 q1 q2) v3))
noncomputable def codeV (E L:Nat) (d0 d1 d2 d3:Nat):Nat → Nat
  | 0=>d0
  | 1=>d1
  | 2=>d2
  | 3=>d3
  | k=>told4 E L (nget E k) (nget E 0) (nget E 1) (nget E 2) (nget E 3) d0 d1 d2 d3
noncomputable def told4k (E L x a b c d v0 v1 v2 v3:Nat):Nat:=told4 E L (nget E x) (nget E a) (nget E b) (nget E c) (nget E d) v0 v1 v2 v3
noncomputable def oneOk (E L x a b c d d0 d1 d2 d3:Nat):Bool:=Nat.beq (told4k E L x a b c d (codeV E L d0 d1 d2 d3 a) (codeV E L d0 d1 d2 d3 b) (codeV E L d0 d1 d2 d3 c) (codeV E L d0 d1 d2 d3 d)) (codeV E L d0 d1 d2 d3 x)
@[irreducible] noncomputable def combos:List (Nat × Nat × Nat × Nat × Nat):=[(0,2,3,4,5),(0,1,3,4,5),(0,1,2,4,5),(0,1,2,3,5),(0,1,2,3,4),(1,2,3,4,5),(1,0,3,4,5),(1,0,2,4,5),(1,0,2,3,5),(1,0,2,3,4),(2,1,3,4,5),(2,0,3,4,5),(2,0,1,4,5),(2,0,1,3,5),(2,0,1,3,4),(3,1,2,4,5),(3,0,2,4,5),(3,0,1,4,5),(3,0,1,2,5),(3,0,1,2,4),(4,1,2,3,5),(4,0,2,3,5),(4,0,1,3,5),(4,0,1,2,5),(4,0,1,2,3),(5,1,2,3,4),(5,0,2,3,4),(5,0,1,3,4),(5,0,1,2,4),(5,0,1,2,3)]
@[irreducible] noncomputable def codeOk (E L:Nat):Bool:=combos.all fun q=>oneOk E L q.1 q.2.1 q.2.2.1 q.2.2.2.1 q.2.2.2.2 1 0 0 0 && (oneOk E L q.1 q.2.1 q.2.2.1 q.2.2.2.1 q.2.2.2.2 0 1 0 0 && (oneOk E L q.1 q.2.1 q.2.2.1 q.2.2.2.1 q.2.2.2.2 0 0 1 0 && oneOk E L q.1 q.2.1 q.2.2.1 q.2.2.2.1 q.2.2.2.2 0 0 0 1))
theorem code_all:regsT.all (fun t=>codeOk t.1 t.2) = true:=by decide +kernel
end Mine
set_option genInjectivity false
set_option genSizeOf false
namespace Mine
open PySem PySem.W PySem.W.X PyProof.Rows
theorem all16_at {f:Nat → Bool} (h:all16 f = true):∀ v,v < 16 → f v = true:=by
  unfold all16 at h
  simp only [Bool.and_eq_true] at h
  obtain ⟨a0,a1,a2,a3,a4,a5,a6,a7,a8,a9,a10,a11,a12,a13,a14,a15⟩:=h
  intro v hv
  match v,hv with
  | 0,_=>exact a0
  | 1,_=>exact a1
  | 2,_=>exact a2
  | 3,_=>exact a3
  | 4,_=>exact a4
  | 5,_=>exact a5
  | 6,_=>exact a6
  | 7,_=>exact a7
  | 8,_=>exact a8
  | 9,_=>exact a9
  | 10,_=>exact a10
  | 11,_=>exact a11
  | 12,_=>exact a12
  | 13,_=>exact a13
  | 14,_=>exact a14
  | 15,_=>exact a15
  | n + 16,h=>exact absurd h (by lia)
theorem all_at {α:Type} {f:α → Bool} {l:List α} (h:l.all f = true) {x:α} (hm:x ∈ l):f x = true:=List.all_eq_true.mp h x hm
theorem nget_lt (T i:Nat):nget T i < 16:=Nat.mod_lt _ (by decide)
theorem mulT_lt (E L c v:Nat):mulT E L c v < 16:=by
  unfold mulT
  split
  · decide
  · exact nget_lt _ _
theorem mulT_0 (E L c:Nat):mulT E L c 0 = 0:=rfl
theorem mulT_nz {E L c v:Nat} (h:v ≠ 0):mulT E L c v = nget E ((nget L v + c) % 15):=by
  unfold mulT
  have:Nat.beq v 0 = false:=by
    cases hb:Nat.beq v 0 with
    | false=>rfl
    | true=>exact absurd (Nat.eq_of_beq_eq_true hb) h
  rw [this]
structure Tb0 (E L:Nat):Prop where
  le:∀ i,i < 15 → nget L (nget E i) = i
  ep:∀ i,i < 15 → nget E i ≠ 0
  el:∀ v,v < 16 → v ≠ 0 → nget E (nget L v) = v ∧ nget L v < 15
  a1:∀ u v,u < 16 → v < 16 → mulT E L 1 (u ^^^ v) = mulT E L 1 u ^^^ mulT E L 1 v
theorem tb0_of {E L:Nat} (h:addOk E L = true):Tb0 E L:=by
  unfold addOk at h
  obtain ⟨h1,h2⟩:=Bool.and_eq_true_iff.mp h
  have z:∀ i,i < 15 → nget L (nget E i) = i ∧ 0 < nget E i ∧ nget E (nget L (i + 1)) = i + 1 ∧ nget L (i + 1) < 15:=fun i hi=>by
    have b:=all_at h1 (List.mem_range.mpr hi)
    simp only [Bool.and_eq_true] at b
    exact ⟨Nat.eq_of_beq_eq_true b.1,Nat.le_of_ble_eq_true b.2.1,Nat.eq_of_beq_eq_true b.2.2.1,Nat.le_of_ble_eq_true b.2.2.2⟩
  refine ⟨fun i hi=>(z i hi).1,fun i hi=>Nat.ne_of_gt (z i hi).2.1,fun v hv h0=>?_,fun u v hu hv=>Nat.eq_of_beq_eq_true (all16_at (all16_at h2 u hu) v hv)⟩
  have e:v - 1 + 1 = v:=by lia
  have y:=(z (v - 1) (by lia)).2.2
  rw [e] at y
  exact y
section
variable {E L:Nat} (Z:Tb0 E L)
include Z
theorem mulT_mulT {c k v:Nat} (hv:v ≠ 0):mulT E L c (mulT E L k v) = nget E ((nget L v + k + c) % 15):=by
  have l:(nget L v + k) % 15 < 15:=Nat.mod_lt _ (by decide)
  rw [mulT_nz hv,mulT_nz (Z.ep _ l),Z.le _ l,Nat.mod_add_mod]
theorem mulT_comm (c k v:Nat):mulT E L c (mulT E L k v) = mulT E L k (mulT E L c v):=by
  by_cases h:v = 0
  · subst h; rw [mulT_0,mulT_0,mulT_0]
  · rw [mulT_mulT Z h,mulT_mulT Z h,Nat.add_right_comm]
theorem mulT_id {v:Nat} (hv:v < 16):mulT E L 0 v = v:=by
  by_cases h:v = 0
  · subst h; rfl
  · have y:=Z.el v hv h
    rw [mulT_nz h,Nat.add_zero,Nat.mod_eq_of_lt y.2,y.1]
theorem mulT_succ (c v:Nat):mulT E L (c + 1) v = mulT E L 1 (mulT E L c v):=by
  by_cases h:v = 0
  · subst h; rw [mulT_0,mulT_0,mulT_0]
  · rw [mulT_mulT Z h,mulT_nz h,Nat.add_assoc]
theorem mulT_add:∀ (c u v:Nat),u < 16 → v < 16 → mulT E L c (u ^^^ v) = mulT E L c u ^^^ mulT E L c v
  | 0,u,v,hu,hv=>by rw [mulT_id Z hu,mulT_id Z hv,mulT_id Z (Nat.xor_lt_two_pow (n:=4) hu hv)]
  | c + 1,u,v,hu,hv=>by rw [mulT_succ Z c (u ^^^ v),mulT_succ Z c u,mulT_succ Z c v,mulT_add c u v hu hv,Z.a1 _ _ (mulT_lt ..) (mulT_lt ..)]
theorem mulT_one {v:Nat} (hv:v < 16) (h:v ≠ 0):∃ k,mulT E L k 1 = v:=by
  have y:=Z.el v hv h
  have o:=Z.el 1 (by decide) (by decide)
  refine ⟨nget L v + (15 - nget L 1),?_⟩
  rw [mulT_nz (by decide)]
  have:(nget L 1 + (nget L v + (15 - nget L 1))) % 15 = nget L v:=by lia
  rw [this,y.1]
end
structure Tb (E L:Nat):Prop where
  z:Tb0 E L
  code:codeOk E L = true
theorem Tb.add {E L:Nat} (T:Tb E L) (c u v:Nat) (_:c < 15) (hu:u < 16) (hv:v < 16):mulT E L c (u ^^^ v) = mulT E L c u ^^^ mulT E L c v:=mulT_add T.z c u v hu hv
theorem tb_of {E L:Nat} (h:regsT.contains (E,L) = true):Tb E L :=
  have hm:(E,L) ∈ regsT:=List.contains_iff_mem.mp h
  ⟨tb0_of (all_at (f:=fun t:Nat × Nat=>addOk t.1 t.2) add_all hm),all_at (f:=fun t:Nat × Nat=>codeOk t.1 t.2) code_all hm⟩
theorem eT_lt (L x q a b c:Nat):eT L x q a b c < 15:=Nat.mod_lt _ (by decide)
theorem x16 {a b:Nat} (ha:a < 16) (hb:b < 16):a ^^^ b < 16:=Nat.xor_lt_two_pow (n:=4) ha hb
theorem told4_lt (E L x a b c d v0 v1 v2 v3:Nat):told4 E L x a b c d v0 v1 v2 v3 < 16:=x16 (mulT_lt ..) (x16 (mulT_lt ..) (x16 (mulT_lt ..) (mulT_lt ..)))
section
variable {E L:Nat} (T:Tb E L) {x a b c d u0 u1 u2 u3 v0 v1 v2 v3:Nat}
include T
theorem told4_add (h0:u0 < 16) (h1:u1 < 16) (h2:u2 < 16) (h3:u3 < 16) (k0:v0 < 16) (k1:v1 < 16) (k2:v2 < 16) (k3:v3 < 16) :
    told4 E L x a b c d (u0 ^^^ v0) (u1 ^^^ v1) (u2 ^^^ v2) (u3 ^^^ v3) = told4 E L x a b c d u0 u1 u2 u3 ^^^ told4 E L x a b c d v0 v1 v2 v3:=by
  unfold told4
  rw [T.add _ _ _ (eT_lt ..) h0 k0,T.add _ _ _ (eT_lt ..) h1 k1,T.add _ _ _ (eT_lt ..) h2 k2,T.add _ _ _ (eT_lt ..) h3 k3]
  ac_rfl
theorem codeV_lt (h0:u0 < 16) (h1:u1 < 16) (h2:u2 < 16) (h3:u3 < 16):∀ k,codeV E L u0 u1 u2 u3 k < 16
  | 0=>h0
  | 1=>h1
  | 2=>h2
  | 3=>h3
  | k + 4=>told4_lt ..
theorem codeV_add (h0:u0 < 16) (h1:u1 < 16) (h2:u2 < 16) (h3:u3 < 16) (k0:v0 < 16) (k1:v1 < 16) (k2:v2 < 16) (k3:v3 < 16) :
    ∀ k,codeV E L (u0 ^^^ v0) (u1 ^^^ v1) (u2 ^^^ v2) (u3 ^^^ v3) k = codeV E L u0 u1 u2 u3 k ^^^ codeV E L v0 v1 v2 v3 k
  | 0=>rfl
  | 1=>rfl
  | 2=>rfl
  | 3=>rfl
  | k + 4=>told4_add T h0 h1 h2 h3 k0 k1 k2 k3
theorem one_add (h0:u0 < 16) (h1:u1 < 16) (h2:u2 < 16) (h3:u3 < 16) (k0:v0 < 16) (k1:v1 < 16) (k2:v2 < 16) (k3:v3 < 16) (p:oneOk E L x a b c d u0 u1 u2 u3 = true) (q:oneOk E L x a b c d v0 v1 v2 v3 = true):oneOk E L x a b c d (u0 ^^^ v0) (u1 ^^^ v1) (u2 ^^^ v2) (u3 ^^^ v3) = true:=by
  unfold oneOk at p q ⊢
  have p':=Nat.eq_of_beq_eq_true p
  have q':=Nat.eq_of_beq_eq_true q
  unfold told4k at p' q' ⊢
  have lu:=codeV_lt (E:=E) (L:=L) T h0 h1 h2 h3
  have lv:=codeV_lt (E:=E) (L:=L) T k0 k1 k2 k3
  rw [codeV_add T h0 h1 h2 h3 k0 k1 k2 k3 a,codeV_add T h0 h1 h2 h3 k0 k1 k2 k3 b,codeV_add T h0 h1 h2 h3 k0 k1 k2 k3 c,codeV_add T h0 h1 h2 h3 k0 k1 k2 k3 d,codeV_add T h0 h1 h2 h3 k0 k1 k2 k3 x]
  rw [told4_add T (lu a) (lu b) (lu c) (lu d) (lv a) (lv b) (lv c) (lv d),p',q']
  exact Nat.beq_refl _
theorem told4_mul (k:Nat):told4 E L x a b c d (mulT E L k u0) (mulT E L k u1) (mulT E L k u2) (mulT E L k u3) = mulT E L k (told4 E L x a b c d u0 u1 u2 u3):=by
  unfold told4
  rw [mulT_comm T.z _ k,mulT_comm T.z _ k,mulT_comm T.z _ k,mulT_comm T.z _ k]
  rw [mulT_add T.z k _ _ (mulT_lt ..) (x16 (mulT_lt ..) (x16 (mulT_lt ..) (mulT_lt ..))),mulT_add T.z k _ _ (mulT_lt ..) (x16 (mulT_lt ..) (mulT_lt ..)),mulT_add T.z k _ _ (mulT_lt ..) (mulT_lt ..)]
theorem codeV_mul (k:Nat):∀ j,codeV E L (mulT E L k u0) (mulT E L k u1) (mulT E L k u2) (mulT E L k u3) j = mulT E L k (codeV E L u0 u1 u2 u3 j)
  | 0=>rfl
  | 1=>rfl
  | 2=>rfl
  | 3=>rfl
  | j + 4=>told4_mul T k
theorem one_mul' (k:Nat) (p:oneOk E L x a b c d u0 u1 u2 u3 = true):oneOk E L x a b c d (mulT E L k u0) (mulT E L k u1) (mulT E L k u2) (mulT E L k u3) = true:=by
  unfold oneOk at p ⊢
  have p':=Nat.eq_of_beq_eq_true p
  unfold told4k at p' ⊢
  rw [codeV_mul T k a,codeV_mul T k b,codeV_mul T k c,codeV_mul T k d,codeV_mul T k x,told4_mul T k,p']
  exact Nat.beq_refl _
theorem one_all {P:Nat → Prop} (h1:P 1) (hx:∀ u v,u < 16 → v < 16 → P u → P v → P (u ^^^ v)) (hm:∀ k u,P u → P (mulT E L k u)) (v:Nat) (hv:v < 16):P v:=by
  by_cases h:v = 0
  · subst h; exact hx 1 1 (by decide) (by decide) h1 h1
  · obtain ⟨k,rfl⟩:=mulT_one T.z hv h
    exact hm k 1 h1
theorem code_ok (hm:(x,a,b,c,d) ∈ combos) (h0:u0 < 16) (h1:u1 < 16) (h2:u2 < 16) (h3:u3 < 16):told4k E L x a b c d (codeV E L u0 u1 u2 u3 a) (codeV E L u0 u1 u2 u3 b) (codeV E L u0 u1 u2 u3 c) (codeV E L u0 u1 u2 u3 d) = codeV E L u0 u1 u2 u3 x:=by
  have z0:=T.code
  unfold codeOk at z0
  have z:=List.all_eq_true.mp z0 _ hm
  simp only [Bool.and_eq_true] at z
  have o:(0:Nat) < 16:=by decide
  have w0:=one_all T (P:=fun v=>oneOk E L x a b c d v 0 0 0 = true) z.1 (fun u v hu hv p q=>one_add T hu o o o hv o o o p q) (fun k u p=>one_mul' T k p) u0 h0
  have w1:=one_all T (P:=fun v=>oneOk E L x a b c d 0 v 0 0 = true) z.2.1 (fun u v hu hv p q=>one_add T o hu o o o hv o o p q) (fun k u p=>one_mul' T k p) u1 h1
  have w2:=one_all T (P:=fun v=>oneOk E L x a b c d 0 0 v 0 = true) z.2.2.1 (fun u v hu hv p q=>one_add T o o hu o o o hv o p q) (fun k u p=>one_mul' T k p) u2 h2
  have w3:=one_all T (P:=fun v=>oneOk E L x a b c d 0 0 0 v = true) z.2.2.2 (fun u v hu hv p q=>one_add T o o o hu o o o hv p q) (fun k u p=>one_mul' T k p) u3 h3
  have e:oneOk E L x a b c d (u0 ^^^ 0 ^^^ (0 ^^^ 0)) (0 ^^^ u1 ^^^ (0 ^^^ 0)) (0 ^^^ 0 ^^^ (u2 ^^^ 0)) (0 ^^^ 0 ^^^ (0 ^^^ u3)) = true :=
    one_add T (x16 h0 o) (x16 o h1) (x16 o o) (x16 o o) (x16 o o) (x16 o o) (x16 h2 o) (x16 o h3) (one_add T h0 o o o o h1 o o w0 w1) (one_add T o o h2 o o o o h3 w2 w3)
  simp only [Nat.xor_zero,Nat.zero_xor] at e
  exact Nat.eq_of_beq_eq_true e
end
end Mine
set_option genInjectivity false
set_option genSizeOf false
namespace Mine
open PySem PySem.W PySem.W.X PyProof.Rows
theorem bxn_fin:∀ x y:Fin 16,Builtin.bitXor ((x:Nat):Int) ((y:Nat):Int) = (((x:Nat) ^^^ (y:Nat):Nat):Int):=by decide +kernel
theorem bxn {a b:Nat} (ha:a < 16) (hb:b < 16):Builtin.bitXor (a:Int) (b:Int) = ((a ^^^ b:Nat):Int):=bxn_fin ⟨a,ha⟩ ⟨b,hb⟩
theorem xne_fin:∀ x y:Fin 16,x ≠ y → ((x:Nat) ^^^ (y:Nat)) ≠ 0:=by decide +kernel
theorem xne {a b:Nat} (ha:a < 16) (hb:b < 16) (n:a ≠ b):a ^^^ b ≠ 0:=xne_fin ⟨a,ha⟩ ⟨b,hb⟩ (fun e=>n (congrArg Fin.val e))
theorem filt_ne {p x:Int} {l:List Int} (h:x ≠ p):(x :: l).filter (fun y=>decide (y ≠ p)) = x :: l.filter (fun y=>decide (y ≠ p)):=List.filter_cons_of_pos (decide_eq_true h)
theorem filt_eq {p:Int} {l:List Int}:(p :: l).filter (fun y=>decide (y ≠ p)) = l.filter (fun y=>decide (y ≠ p)):=List.filter_cons_of_neg (by rw [decide_eq_false (fun h=>h rfl)]; exact fun x=>nomatch x)
structure Tab2 (E L:Nat):Prop where
  pl:∀ v:Nat,v < 16 → v ≠ 0 → placeIn (rowP E) (v:Int) = ((nget L v:Nat):Int)
theorem tab2_of {E L:Nat} (h:placesOk E L = true):Tab2 E L:=⟨fun v hv h0=>by
  unfold placesOk at h
  have a:=all_at h (List.mem_range.mpr (show v - 1 < 15 by omega))
  have e:v - 1 + 1 = v:=by lia
  rw [e] at a
  exact eq_of_beq a⟩
theorem rowP_get (E i:Nat) (hi:i < 15):(rowP E).getD i 0 = ((nget E i:Nat):Int):=by
  unfold rowP
  rw [List.getD_eq_getElem?_getD,List.getElem?_map,List.getElem?_range hi]
  rfl
section
variable {E L:Nat} (T:Tab2 E L) {x q0 q1 q2 q3 v0 v1 v2 v3:Nat}
include T
theorem ix_nat {q a b c v:Nat} {kn:List (Int × Int)} (ho:othN (q:Int) kn = [(a:Int),(b:Int),(c:Int)]) (hx:x < 16) (hq:q < 16) (ha:a < 16) (hb:b < 16) (hc:c < 16) (na:x ≠ a) (nb:x ≠ b) (nc:x ≠ c) (ma:q ≠ a) (mb:q ≠ b) (mc:q ≠ c) (hv:v < 16) (h0:v ≠ 0) :
    toldIx (placeIn (rowP E)) (x:Int) kn ((q:Int),(v:Int)) = (nget L v + eT L x q a b c) % 15:=by
  unfold toldIx
  rw [ho]
  simp only [List.foldl_cons,List.foldl_nil]
  rw [bxn hx ha,bxn hx hb,bxn hx hc,bxn hq ha,bxn hq hb,bxn hq hc,T.pl _ hv h0,T.pl _ (x16 hx ha) (xne hx ha na),T.pl _ (x16 hx hb) (xne hx hb nb),T.pl _ (x16 hx hc) (xne hx hc nc),T.pl _ (x16 hq ha) (xne hq ha ma),T.pl _ (x16 hq hb) (xne hq hb mb),T.pl _ (x16 hq hc) (xne hq hc mc)]
  unfold eT
  have l1:=nget_lt L (q ^^^ a)
  have l2:=nget_lt L (q ^^^ b)
  have l3:=nget_lt L (q ^^^ c)
  rw [Int.fmod_eq_emod_of_nonneg _ (by decide)]
  lia
theorem step_nat {q a b c v A:Nat} {kn r:List (Int × Int)} (ho:othN (q:Int) kn = [(a:Int),(b:Int),(c:Int)]) (hx:x < 16) (hq:q < 16) (ha:a < 16) (hb:b < 16) (hc:c < 16) (na:x ≠ a) (nb:x ≠ b) (nc:x ≠ c) (ma:q ≠ a) (mb:q ≠ b) (mc:q ≠ c) (hv:v < 16) (hA:A < 16) :
    (toldTN (placeIn (rowP E)) (x:Int) (rowP E) kn (((q:Int),(v:Int)) :: r)).foldl (fun x y=>Builtin.bitXor x y) (A:Int) = (toldTN (placeIn (rowP E)) (x:Int) (rowP E) kn r).foldl (fun x y=>Builtin.bitXor x y) ((A ^^^ mulT E L (eT L x q a b c) v:Nat):Int):=by
  by_cases h0:v = 0
  · subst h0
    show (if ((0:Nat):Int) = 0 then _ else _:List Int).foldl _ _ = _
    rw [if_pos Int.natCast_zero,mulT_0,Nat.xor_zero]
  · show (if (v:Int) = 0 then _ else _:List Int).foldl _ _ = _
    rw [if_neg (by lia),List.foldl_cons,ix_nat T ho hx hq ha hb hc na nb nc ma mb mc hv h0,rowP_get _ _ (Nat.mod_lt _ (by decide)),bxn hA (nget_lt _ _)]
    have e:mulT E L (eT L x q a b c) v = nget E ((nget L v + eT L x q a b c) % 15):=by
      unfold mulT
      have:Nat.beq v 0 = false:=by
        cases hb:Nat.beq v 0 with
        | false=>rfl
        | true=>exact absurd (Nat.eq_of_beq_eq_true hb) h0
      rw [this]
    rw [e]
theorem told_nat (hx:x < 16) (h0:q0 < 16) (h1:q1 < 16) (h2:q2 < 16) (h3:q3 < 16) (n0:x ≠ q0) (n1:x ≠ q1) (n2:x ≠ q2) (n3:x ≠ q3) (m01:q0 ≠ q1) (m02:q0 ≠ q2) (m03:q0 ≠ q3) (m12:q1 ≠ q2) (m13:q1 ≠ q3) (m23:q2 ≠ q3) (k0:v0 < 16) (k1:v1 < 16) (k2:v2 < 16) (k3:v3 < 16) :
    toldN (placeIn (rowP E)) (x:Int) (rowP E) [((q0:Int),(v0:Int)),((q1:Int),(v1:Int)),((q2:Int),(v2:Int)),((q3:Int),(v3:Int))] = ((told4 E L x q0 q1 q2 q3 v0 v1 v2 v3:Nat):Int):=by
  have i10:(q1:Int) ≠ (q0:Int):=fun e=>m01 (Int.ofNat_inj.mp e).symm
  have i20:(q2:Int) ≠ (q0:Int):=fun e=>m02 (Int.ofNat_inj.mp e).symm
  have i30:(q3:Int) ≠ (q0:Int):=fun e=>m03 (Int.ofNat_inj.mp e).symm
  have i21:(q2:Int) ≠ (q1:Int):=fun e=>m12 (Int.ofNat_inj.mp e).symm
  have i31:(q3:Int) ≠ (q1:Int):=fun e=>m13 (Int.ofNat_inj.mp e).symm
  have i32:(q3:Int) ≠ (q2:Int):=fun e=>m23 (Int.ofNat_inj.mp e).symm
  have o0:othN (q0:Int) [((q0:Int),(v0:Int)),((q1:Int),(v1:Int)),((q2:Int),(v2:Int)),((q3:Int),(v3:Int))] = [(q1:Int),(q2:Int),(q3:Int)]:=by
    show [(q0:Int),(q1:Int),(q2:Int),(q3:Int)].filter _ = _
    rw [filt_eq,filt_ne i10,filt_ne i20,filt_ne i30]; rfl
  have o1:othN (q1:Int) [((q0:Int),(v0:Int)),((q1:Int),(v1:Int)),((q2:Int),(v2:Int)),((q3:Int),(v3:Int))] = [(q0:Int),(q2:Int),(q3:Int)]:=by
    show [(q0:Int),(q1:Int),(q2:Int),(q3:Int)].filter _ = _
    rw [filt_ne i10.symm,filt_eq,filt_ne i21,filt_ne i31]; rfl
  have o2:othN (q2:Int) [((q0:Int),(v0:Int)),((q1:Int),(v1:Int)),((q2:Int),(v2:Int)),((q3:Int),(v3:Int))] = [(q0:Int),(q1:Int),(q3:Int)]:=by
    show [(q0:Int),(q1:Int),(q2:Int),(q3:Int)].filter _ = _
    rw [filt_ne i20.symm,filt_ne i21.symm,filt_eq,filt_ne i32]; rfl
  have o3:othN (q3:Int) [((q0:Int),(v0:Int)),((q1:Int),(v1:Int)),((q2:Int),(v2:Int)),((q3:Int),(v3:Int))] = [(q0:Int),(q1:Int),(q2:Int)]:=by
    show [(q0:Int),(q1:Int),(q2:Int),(q3:Int)].filter _ = _
    rw [filt_ne i30.symm,filt_ne i31.symm,filt_ne i32.symm,filt_eq]; rfl
  unfold toldN
  have z:=step_nat T (v:=v0) (A:=0) (r:=[((q1:Int),(v1:Int)),((q2:Int),(v2:Int)),((q3:Int),(v3:Int))]) o0 hx h0 h1 h2 h3 n1 n2 n3 m01 m02 m03 k0 (by decide)
  refine z.trans ?_
  rw [step_nat T o1 hx h1 h0 h2 h3 n0 n2 n3 m01.symm m12 m13 k1 (x16 (by decide) (mulT_lt ..))]
  rw [step_nat T o2 hx h2 h0 h1 h3 n0 n1 n3 m02.symm m12.symm m23 k2 (x16 (x16 (by decide) (mulT_lt ..)) (mulT_lt ..))]
  rw [step_nat T o3 hx h3 h0 h1 h2 n0 n1 n2 m03.symm m13.symm m23.symm k3 (x16 (x16 (x16 (by decide) (mulT_lt ..)) (mulT_lt ..)) (mulT_lt ..))]
  show ((_:Nat):Int) = _
  congr 1
  unfold told4
  rw [Nat.zero_xor]
  ac_rfl
end
end Mine
namespace Mine
open PySem PySem.W PySem.W.X PyProof.Rows
theorem told4_s01 (E L x a b c d u v s t:Nat):told4 E L x a b c d u v s t = told4 E L x b a c d v u s t:=by
  unfold told4 eT
  have e1:nget L (x ^^^ a) + nget L (x ^^^ b) = nget L (x ^^^ b) + nget L (x ^^^ a):=Nat.add_comm _ _
  have e2:nget L (c ^^^ a) + nget L (c ^^^ b) = nget L (c ^^^ b) + nget L (c ^^^ a):=Nat.add_comm _ _
  have e3:nget L (d ^^^ a) + nget L (d ^^^ b) = nget L (d ^^^ b) + nget L (d ^^^ a):=Nat.add_comm _ _
  rw [e1,e2,e3]
  ac_rfl
theorem told4_s12 (E L x a b c d u v s t:Nat):told4 E L x a b c d u v s t = told4 E L x a c b d u s v t:=by
  unfold told4 eT
  have e1:nget L (x ^^^ b) + nget L (x ^^^ c) = nget L (x ^^^ c) + nget L (x ^^^ b):=Nat.add_comm _ _
  have e2:nget L (a ^^^ b) + nget L (a ^^^ c) = nget L (a ^^^ c) + nget L (a ^^^ b):=Nat.add_comm _ _
  have e3:nget L (d ^^^ a) + nget L (d ^^^ b) + nget L (d ^^^ c) = nget L (d ^^^ a) + nget L (d ^^^ c) + nget L (d ^^^ b):=Nat.add_right_comm _ _ _
  have e4:nget L (x ^^^ a) + nget L (x ^^^ b) + nget L (x ^^^ c) = nget L (x ^^^ a) + nget L (x ^^^ c) + nget L (x ^^^ b):=Nat.add_right_comm _ _ _
  rw [e1,e2,e3,e4]
  ac_rfl
theorem told4_s23 (E L x a b c d u v s t:Nat):told4 E L x a b c d u v s t = told4 E L x a b d c u v t s:=by
  unfold told4 eT
  have e1:nget L (x ^^^ b) + nget L (x ^^^ c) + nget L (x ^^^ d) = nget L (x ^^^ b) + nget L (x ^^^ d) + nget L (x ^^^ c):=Nat.add_right_comm _ _ _
  have e2:nget L (a ^^^ b) + nget L (a ^^^ c) + nget L (a ^^^ d) = nget L (a ^^^ b) + nget L (a ^^^ d) + nget L (a ^^^ c):=Nat.add_right_comm _ _ _
  have e3:nget L (x ^^^ a) + nget L (x ^^^ c) + nget L (x ^^^ d) = nget L (x ^^^ a) + nget L (x ^^^ d) + nget L (x ^^^ c):=Nat.add_right_comm _ _ _
  have e4:nget L (b ^^^ a) + nget L (b ^^^ c) + nget L (b ^^^ d) = nget L (b ^^^ a) + nget L (b ^^^ d) + nget L (b ^^^ c):=Nat.add_right_comm _ _ _
  rw [e1,e2,e3,e4]
  ac_rfl
noncomputable def GoodC (E L:Nat) (W:Nat → Nat) (x a b c d:Nat):Prop:=told4k E L x a b c d (W a) (W b) (W c) (W d) = W x
section
variable {E L:Nat} {W:Nat → Nat} {x a b c d:Nat}
theorem good_s01 (h:GoodC E L W x b a c d):GoodC E L W x a b c d:=(told4_s01 ..).trans h
theorem good_s12 (h:GoodC E L W x a c b d):GoodC E L W x a b c d:=(told4_s12 ..).trans h
theorem good_s23 (h:GoodC E L W x a b d c):GoodC E L W x a b c d:=(told4_s23 ..).trans h
noncomputable def ord1 (a b c d:Nat):Nat × Nat × Nat × Nat:=if b < a then (b,a,c,d) else (a,b,c,d)
noncomputable def ord2 (a b c d:Nat):Nat × Nat × Nat × Nat:=if c < b then (a,c,b,d) else (a,b,c,d)
noncomputable def ord3 (a b c d:Nat):Nat × Nat × Nat × Nat:=if d < c then (a,b,d,c) else (a,b,c,d)
noncomputable def GoodQ (E L:Nat) (W:Nat → Nat) (x:Nat) (q:Nat × Nat × Nat × Nat):Prop:=GoodC E L W x q.1 q.2.1 q.2.2.1 q.2.2.2
theorem good_o1 {q:Nat × Nat × Nat × Nat} (h:GoodQ E L W x (ord1 q.1 q.2.1 q.2.2.1 q.2.2.2)):GoodQ E L W x q:=by
  unfold ord1 at h
  split at h
  · exact good_s01 h
  · exact h
theorem good_o2 {q:Nat × Nat × Nat × Nat} (h:GoodQ E L W x (ord2 q.1 q.2.1 q.2.2.1 q.2.2.2)):GoodQ E L W x q:=by
  unfold ord2 at h
  split at h
  · exact good_s12 h
  · exact h
theorem good_o3 {q:Nat × Nat × Nat × Nat} (h:GoodQ E L W x (ord3 q.1 q.2.1 q.2.2.1 q.2.2.2)):GoodQ E L W x q:=by
  unfold ord3 at h
  split at h
  · exact good_s23 h
  · exact h
noncomputable def ap4 (f:Nat → Nat → Nat → Nat → Nat × Nat × Nat × Nat) (q:Nat × Nat × Nat × Nat):Nat × Nat × Nat × Nat:=f q.1 q.2.1 q.2.2.1 q.2.2.2
noncomputable def sort4 (q:Nat × Nat × Nat × Nat):Nat × Nat × Nat × Nat:=ap4 ord1 (ap4 ord2 (ap4 ord1 (ap4 ord3 (ap4 ord2 (ap4 ord1 q)))))
theorem good_sort {q:Nat × Nat × Nat × Nat} (h:GoodQ E L W x (sort4 q)):GoodQ E L W x q:=good_o1 (good_o2 (good_o3 (good_o1 (good_o2 (good_o1 h)))))
end
noncomputable def six:List Nat:=[0,1,2,3,4,5]
@[irreducible] noncomputable def distB (x a b c d:Nat):Bool:=x != a && x != b && x != c && x != d && a != b && a != c && a != d && b != c && b != d && c != d
theorem sorted_all:six.all (fun x=>six.all fun a=>six.all fun b=>six.all fun c=>six.all fun d=>!distB x a b c d || combos.contains (x,sort4 (a,b,c,d))) = true:=by decide +kernel
theorem good_any {E L:Nat} (T:Tb E L) {u0 u1 u2 u3:Nat} (h0:u0 < 16) (h1:u1 < 16) (h2:u2 < 16) (h3:u3 < 16) {x a b c d:Nat} (hx:x ∈ six) (ha:a ∈ six) (hb:b ∈ six) (hc:c ∈ six) (hd:d ∈ six) (hn:distB x a b c d = true) :
    GoodC E L (codeV E L u0 u1 u2 u3) x a b c d:=by
  have z0:=all_at (f:=fun x=>six.all fun a=>six.all fun b=>six.all fun c=>six.all fun d=>!distB x a b c d || combos.contains (x,sort4 (a,b,c,d))) sorted_all hx
  have z1:=all_at (f:=fun a=>six.all fun b=>six.all fun c=>six.all fun d=>!distB x a b c d || combos.contains (x,sort4 (a,b,c,d))) z0 ha
  have z2:=all_at (f:=fun b=>six.all fun c=>six.all fun d=>!distB x a b c d || combos.contains (x,sort4 (a,b,c,d))) z1 hb
  have z3:=all_at (f:=fun c=>six.all fun d=>!distB x a b c d || combos.contains (x,sort4 (a,b,c,d))) z2 hc
  have z:(!distB x a b c d || combos.contains (x,sort4 (a,b,c,d))) = true:=all_at (f:=fun d=>!distB x a b c d || combos.contains (x,sort4 (a,b,c,d))) z3 hd
  rw [hn,Bool.not_true,Bool.false_or] at z
  have hm:=List.contains_iff_mem.mp z
  have key:∀ r:Nat × Nat × Nat × Nat,(x,r) ∈ combos → GoodQ E L (codeV E L u0 u1 u2 u3) x r:=fun r hm=>by
    obtain ⟨a',b',c',d'⟩:=r
    exact code_ok T hm h0 h1 h2 h3
  exact good_sort (q:=(a,b,c,d)) (key _ hm)
end Mine
set_option genInjectivity false
set_option genSizeOf false
namespace Mine
open PySem PySem.W PySem.W.X PyProof.Rows
structure Rg (E L:Nat):Prop where
  tb:Tb E L
  t2:Tab2 E L
  inj:∀ i j,i < 15 → j < 15 → nget E i = nget E j → i = j
  pos:∀ i,i < 15 → nget E i ≠ 0
theorem rg_of {P:List Int} {st:Int} (h:RegV P st):∃ E L,Rg E L ∧ P = rowP E:=by
  obtain ⟨E,L,h1,h2,h3⟩:=reg_tab h
  have RP:=h.reg
  rw [h2] at RP
  have nd:(rowP E).Nodup:=RP.perm.nodup_iff.mpr (by decide)
  have lE:(rowP E).length = 15:=by simp [rowP]
  have gE:∀ i (hi:i < 15),(rowP E)[i]'(by rw [lE]; exact hi) = ((nget E i:Nat):Int):=fun i hi=>by simp [rowP]
  refine ⟨E,L,⟨tb_of h1,tab2_of h3,fun i j hi hj e=>?_,fun i hi e=>?_⟩,h2⟩
  · refine (List.getElem_inj (h₀:=by rw [lE]; exact hi) (h₁:=by rw [lE]; exact hj) nd).mp ?_
    rw [gE i hi,gE j hj,e]
  · have hm:((nget E i:Nat):Int) ∈ rowP E:=by rw [← gE i hi]; exact List.getElem_mem _
    have:=(up_in (RP.perm.mem_iff.mp hm)).1
    lia
theorem mulT_pos {E L c v:Nat} (R:Rg E L) (h:v ≠ 0):mulT E L c v ≠ 0:=by
  unfold mulT
  have:Nat.beq v 0 = false:=by
    cases hb:Nat.beq v 0 with
    | false=>rfl
    | true=>exact absurd (Nat.eq_of_beq_eq_true hb) h
  rw [this]
  exact R.pos _ (Nat.mod_lt _ (by decide))
theorem six_lt {k:Nat} (h:k ∈ six):k < 6:=by
  have z:∀ k ∈ six,k < 6:=by decide
  exact z k h
theorem lt_six {k:Nat} (h:k < 6):k ∈ six:=by
  have z:∀ k:Fin 6,k.val ∈ six:=by decide
  exact z ⟨k,h⟩
noncomputable def ptI (E k:Nat):Int:=((nget E k:Nat):Int)
section
variable {E L:Nat} (R:Rg E L) {d0 d1 d2 d3:Nat} (h0:d0 < 16) (h1:d1 < 16) (h2:d2 < 16) (h3:d3 < 16)
include R
theorem ng_ne {i j:Nat} (hi:i < 6) (hj:j < 6) (n:i ≠ j):nget E i ≠ nget E j:=fun e=>n (R.inj i j (by lia) (by lia) e)
theorem pt_ne {i j:Nat} (hi:i < 6) (hj:j < 6) (n:i ≠ j):ptI E i ≠ ptI E j:=fun e=>ng_ne R hi hj n (by unfold ptI at e; lia)
theorem told_six {x a b c d:Nat} {v0 v1 v2 v3:Nat} (hx:x < 6) (ha:a < 6) (hb:b < 6) (hc:c < 6) (hd:d < 6) (nd:[x,a,b,c,d].Nodup) (k0:v0 < 16) (k1:v1 < 16) (k2:v2 < 16) (k3:v3 < 16) :
    toldN (placeIn (rowP E)) (ptI E x) (rowP E) [(ptI E a,(v0:Int)),(ptI E b,(v1:Int)),(ptI E c,(v2:Int)),(ptI E d,(v3:Int))] = ((told4k E L x a b c d v0 v1 v2 v3:Nat):Int):=by
  simp only [List.nodup_cons,List.mem_cons,List.not_mem_nil,or_false,not_or,List.nodup_nil,and_true,not_false_eq_true] at nd
  obtain ⟨⟨xa,xb,xc,xd⟩,⟨ab,ac,ad⟩,⟨bc,bd⟩,cd⟩:=nd
  exact told_nat R.t2 (nget_lt _ _) (nget_lt _ _) (nget_lt _ _) (nget_lt _ _) (nget_lt _ _) (ng_ne R hx ha xa) (ng_ne R hx hb xb) (ng_ne R hx hc xc) (ng_ne R hx hd xd) (ng_ne R ha hb ab) (ng_ne R ha hc ac) (ng_ne R ha hd ad) (ng_ne R hb hc bc) (ng_ne R hb hd bd) (ng_ne R hc hd cd) k0 k1 k2 k3
end
end Mine
namespace Mine
open PySem PySem.W PySem.W.X PyProof.Rows
noncomputable def chgV (W:Nat → Nat) (c pl k:Nat):Nat:=if k = pl then W k ^^^ c else W k
noncomputable def ptV (E:Nat) (W:Nat → Nat) (k:Nat):Int × Int:=(ptI E k,(W k:Int))
theorem xor_back {a b:Nat} (h:a ^^^ b = a):b = 0:=by
  have:=congrArg (fun x=>a ^^^ x) h
  simpa [← Nat.xor_assoc] using this
theorem chgV_lt {W:Nat → Nat} (lW:∀ k,W k < 16) {c pl:Nat} (hc:c < 16) (k:Nat):chgV W c pl k < 16:=by
  unfold chgV
  split
  · exact x16 (lW k) hc
  · exact lW k
section
variable {E L:Nat} (R:Rg E L) {W:Nat → Nat}
include R
theorem look_six {i:Nat} (hi:i < 6):∀ {ks:List Nat},(∀ k ∈ ks,k < 6) → i ∈ ks → lookN (ks.map (ptV E W)) (ptI E i) = (W i:Int)
  | [],_,h=>nomatch h
  | k :: ks,hk,h=>by
    by_cases e:k = i
    · subst e
      unfold lookN
      rw [List.map_cons,List.find?_cons]
      have:decide ((ptV E W k).1 = ptI E k) = true:=decide_eq_true rfl
      rw [this]
      rfl
    · have n:¬ (ptV E W k).1 = ptI E i:=pt_ne R (hk k (.head _)) hi e
      have ih:=look_six hi (ks:=ks) (fun q hq=>hk q (.tail _ hq)) ((List.mem_cons.mp h).resolve_left (fun x=>e x.symm))
      unfold lookN at ih ⊢
      rw [List.map_cons,List.find?_cons]
      have:decide ((ptV E W k).1 = ptI E i) = false:=decide_eq_false n
      rw [this]
      exact ih
variable {d0 d1 d2 d3:Nat} (h0:d0 < 16) (h1:d1 < 16) (h2:d2 < 16) (h3:d3 < 16) {k0 k1 k2 k3 k4 xl c pl:Nat}
theorem told_V {V:Nat → Nat} (hV:∀ k,V k < 16) {x:Nat} (hx:x < 6) (l0:k0 < 6) (l1:k1 < 6) (l2:k2 < 6) (l3:k3 < 6) (nd:[x,k0,k1,k2,k3].Nodup) :
    toldN (placeIn (rowP E)) (ptI E x) (rowP E) ([k0,k1,k2,k3].map (ptV E V)) = ((told4k E L x k0 k1 k2 k3 (V k0) (V k1) (V k2) (V k3):Nat):Int) :=
  told_six R hx l0 l1 l2 l3 nd (hV _) (hV _) (hV _) (hV _)
include h0 h1 h2 h3
theorem good_six {x:Nat} (hx:x < 6) (l0:k0 < 6) (l1:k1 < 6) (l2:k2 < 6) (l3:k3 < 6) (nd:[x,k0,k1,k2,k3].Nodup) :
    told4k E L x k0 k1 k2 k3 (codeV E L d0 d1 d2 d3 k0) (codeV E L d0 d1 d2 d3 k1) (codeV E L d0 d1 d2 d3 k2) (codeV E L d0 d1 d2 d3 k3) = codeV E L d0 d1 d2 d3 x:=by
  refine good_any R.tb h0 h1 h2 h3 (lt_six hx) (lt_six l0) (lt_six l1) (lt_six l2) (lt_six l3) ?_
  simp only [List.nodup_cons,List.mem_cons,List.not_mem_nil,or_false,not_or,List.nodup_nil,and_true,not_false_eq_true] at nd
  obtain ⟨⟨xa,xb,xc,xd⟩,⟨ab,ac,ad⟩,⟨bc,bd⟩,cd⟩:=nd
  unfold distB
  simp only [Bool.and_eq_true,bne_iff_ne,ne_eq]
  exact ⟨⟨⟨⟨⟨⟨⟨⟨⟨xa,xb⟩,xc⟩,xd⟩,ab⟩,ac⟩,ad⟩,bc⟩,bd⟩,cd⟩
theorem mend_core (l0:k0 < 6) (l1:k1 < 6) (l2:k2 < 6) (l3:k3 < 6) (l4:k4 < 6) (lx:xl < 6) (nd:[xl,k4,k0,k1,k2,k3].Nodup) (al:∀ i,i < 6 → i ∈ [k0,k1,k2,k3,k4,xl]) (cv:c = 0 ∨ xl = pl) :
    toldN (placeIn (rowP E)) (ptI E k4) (rowP E) ([k0,k1,k2,k3].map (ptV E (chgV (codeV E L d0 d1 d2 d3) c pl))) = ((chgV (codeV E L d0 d1 d2 d3) c pl k4:Nat):Int) ∧
    ∀ i,i < 6 → mendV (placeIn (rowP E)) (rowP E) ([k0,k1,k2,k3,k4].map (ptV E (chgV (codeV E L d0 d1 d2 d3) c pl))) (ptI E xl) (ptI E i) = ((codeV E L d0 d1 d2 d3 i:Nat):Int):=by
  have nx:∀ k ∈ [k0,k1,k2,k3,k4],k ≠ xl:=fun k hk e=>(List.nodup_cons.mp nd).1 (by rw [← e]; exact (List.perm_append_singleton k4 [k0,k1,k2,k3]).mem_iff.mp hk)
  have eV:∀ k ∈ [k0,k1,k2,k3,k4],chgV (codeV E L d0 d1 d2 d3) c pl k = codeV E L d0 d1 d2 d3 k:=fun k hk=>by
    unfold chgV
    split
    · next e =>
      rcases cv with z | z
      · rw [z,Nat.xor_zero]
      · exact absurd (e.trans z.symm) (nx k hk)
    · rfl
  have lW:∀ k,codeV E L d0 d1 d2 d3 k < 16:=codeV_lt R.tb h0 h1 h2 h3
  have em:∀ ks:List Nat,(∀ k ∈ ks,k ∈ [k0,k1,k2,k3,k4]) → ks.map (ptV E (chgV (codeV E L d0 d1 d2 d3) c pl)) = ks.map (ptV E (codeV E L d0 d1 d2 d3)):=fun ks hk=>List.map_congr_left fun k hm=>by
    unfold ptV
    rw [eV k (hk k hm)]
  have nd4:[k4,k0,k1,k2,k3].Nodup:=(List.nodup_cons.mp nd).2
  have ndx:[xl,k0,k1,k2,k3].Nodup:=by
    refine List.nodup_cons.mpr ⟨fun hm=>(List.nodup_cons.mp nd).1 (.tail _ hm),(List.nodup_cons.mp nd4).2⟩
  have e4:=em [k0,k1,k2,k3] (fun k hk=>List.mem_append_left [k4] hk)
  have e5:=em [k0,k1,k2,k3,k4] (fun k hk=>hk)
  refine ⟨?_,fun i hi=>?_⟩
  · rw [e4,eV k4 (by simp),told_V R lW l4 l0 l1 l2 l3 nd4,good_six R h0 h1 h2 h3 l4 l0 l1 l2 l3 nd4]
  · unfold mendV
    rw [e5]
    have et:([k0,k1,k2,k3,k4].map (ptV E (codeV E L d0 d1 d2 d3))).take 4 = [k0,k1,k2,k3].map (ptV E (codeV E L d0 d1 d2 d3)):=rfl
    rw [et,told_V R lW lx l0 l1 l2 l3 ndx,good_six R h0 h1 h2 h3 lx l0 l1 l2 l3 ndx]
    have ea:[k0,k1,k2,k3,k4].map (ptV E (codeV E L d0 d1 d2 d3)) ++ [(ptI E xl,((codeV E L d0 d1 d2 d3 xl:Nat):Int))] = [k0,k1,k2,k3,k4,xl].map (ptV E (codeV E L d0 d1 d2 d3)):=rfl
    rw [ea]
    refine look_six R hi (fun k hk=>?_) ?_
    · simp only [List.mem_cons,List.not_mem_nil,or_false] at hk
      rcases hk with e | e | e | e | e | e <;> (rw [e]; assumption)
    · exact al i hi
omit h0 h1 h2 h3 in
theorem mend_none' (lW:∀ k,W k < 16) (l0:k0 < 6) (l1:k1 < 6) (l2:k2 < 6) (l3:k3 < 6) (l4:k4 < 6) (lx:xl < 6) (nd:[xl,k4,k0,k1,k2,k3].Nodup) (al:∀ i,i < 6 → i ∈ [k0,k1,k2,k3,k4,xl]) (hc:c < 16) (hp:pl < 6) (c0:c ≠ 0) (nx:xl ≠ pl)
    (G:told4k E L k4 k0 k1 k2 k3 (W k0) (W k1) (W k2) (W k3) = W k4) :
    toldN (placeIn (rowP E)) (ptI E k4) (rowP E) ([k0,k1,k2,k3].map (ptV E (chgV W c pl))) ≠ ((chgV W c pl k4:Nat):Int):=by
  have nd4:[k4,k0,k1,k2,k3].Nodup:=(List.nodup_cons.mp nd).2
  rw [told_V R (chgV_lt lW hc) l4 l0 l1 l2 l3 nd4]
  have hpl:pl = k4 ∨ pl = k0 ∨ pl = k1 ∨ pl = k2 ∨ pl = k3:=by
    have:=al pl hp
    simp only [List.mem_cons,List.not_mem_nil,or_false] at this
    rcases this with e | e | e | e | e | e
    · exact .inr (.inl e)
    · exact .inr (.inr (.inl e))
    · exact .inr (.inr (.inr (.inl e)))
    · exact .inr (.inr (.inr (.inr e)))
    · exact .inl e
    · exact absurd e.symm nx
  have ev:∀ k,k ≠ pl → chgV W c pl k = W k:=fun k n=>if_neg n
  have ep:chgV W c pl pl = W pl ^^^ c:=if_pos rfl
  simp only [List.nodup_cons,List.mem_cons,List.not_mem_nil,or_false,not_or,List.nodup_nil,and_true,not_false_eq_true] at nd4
  obtain ⟨⟨xa,xb,xc,xd⟩,⟨ab,ac,ad⟩,⟨bc,bd⟩,cd⟩:=nd4
  intro h
  have h':=Int.ofNat_inj.mp h
  clear h nd
  have z16:(0:Nat) < 16:=by decide
  rcases hpl with e | e | e | e | e
  · subst e
    rw [ep,ev k0 (Ne.symm xa),ev k1 (Ne.symm xb),ev k2 (Ne.symm xc),ev k3 (Ne.symm xd),G] at h'
    exact c0 (xor_back h'.symm)
  · subst e
    rw [ep,ev k4 xa,ev k1 (Ne.symm ab),ev k2 (Ne.symm ac),ev k3 (Ne.symm ad)] at h'
    have A:=told4_add R.tb (x:=nget E k4) (a:=nget E pl) (b:=nget E k1) (c:=nget E k2) (d:=nget E k3) (lW pl) (lW k1) (lW k2) (lW k3) hc z16 z16 z16
    simp only [Nat.xor_zero] at A
    unfold told4k at h' G
    rw [A,G] at h'
    have z:=xor_back h'
    unfold told4 at z
    rw [mulT_0,mulT_0,mulT_0,Nat.xor_zero,Nat.xor_zero,Nat.xor_zero] at z
    exact mulT_pos R c0 z
  · subst e
    rw [ep,ev k4 xb,ev k0 ab,ev k2 (Ne.symm bc),ev k3 (Ne.symm bd)] at h'
    have A:=told4_add R.tb (x:=nget E k4) (a:=nget E k0) (b:=nget E pl) (c:=nget E k2) (d:=nget E k3) (lW k0) (lW pl) (lW k2) (lW k3) z16 hc z16 z16
    simp only [Nat.xor_zero] at A
    unfold told4k at h' G
    rw [A,G] at h'
    have z:=xor_back h'
    unfold told4 at z
    rw [mulT_0,mulT_0,mulT_0,Nat.xor_zero,Nat.xor_zero,Nat.zero_xor] at z
    exact mulT_pos R c0 z
  · subst e
    rw [ep,ev k4 xc,ev k0 ac,ev k1 bc,ev k3 (Ne.symm cd)] at h'
    have A:=told4_add R.tb (x:=nget E k4) (a:=nget E k0) (b:=nget E k1) (c:=nget E pl) (d:=nget E k3) (lW k0) (lW k1) (lW pl) (lW k3) z16 z16 hc z16
    simp only [Nat.xor_zero] at A
    unfold told4k at h' G
    rw [A,G] at h'
    have z:=xor_back h'
    unfold told4 at z
    rw [mulT_0,mulT_0,mulT_0,Nat.xor_zero,Nat.zero_xor,Nat.zero_xor] at z
    exact mulT_pos R c0 z
  · subst e
    rw [ep,ev k4 xd,ev k0 ad,ev k1 bd,ev k2 cd] at h'
    have A:=told4_add R.tb (x:=nget E k4) (a:=nget E k0) (b:=nget E k1) (c:=nget E k2) (d:=nget E pl) (lW k0) (lW k1) (lW k2) (lW pl) z16 z16 z16 hc
    simp only [Nat.xor_zero] at A
    unfold told4k at h' G
    rw [A,G] at h'
    have z:=xor_back h'
    unfold told4 at z
    rw [mulT_0,mulT_0,mulT_0,Nat.zero_xor,Nat.zero_xor,Nat.zero_xor] at z
    exact mulT_pos R c0 z
theorem mend_none (l0:k0 < 6) (l1:k1 < 6) (l2:k2 < 6) (l3:k3 < 6) (l4:k4 < 6) (lx:xl < 6) (nd:[xl,k4,k0,k1,k2,k3].Nodup) (al:∀ i,i < 6 → i ∈ [k0,k1,k2,k3,k4,xl]) (hc:c < 16) (hp:pl < 6) (c0:c ≠ 0) (nx:xl ≠ pl) :
    toldN (placeIn (rowP E)) (ptI E k4) (rowP E) ([k0,k1,k2,k3].map (ptV E (chgV (codeV E L d0 d1 d2 d3) c pl))) ≠ ((chgV (codeV E L d0 d1 d2 d3) c pl k4:Nat):Int) :=
  mend_none' R (codeV_lt R.tb h0 h1 h2 h3) l0 l1 l2 l3 l4 lx nd al hc hp c0 nx (good_six R h0 h1 h2 h3 l4 l0 l1 l2 l3 (List.nodup_cons.mp nd).2)
end
end Mine
set_option genInjectivity false
set_option genSizeOf false
namespace Mine
open PySem PySem.W PySem.W.X PyProof.Rows
theorem nodup_pick {l:List Nat} (h:l.Nodup) {n:Nat} (e:l.length = n) {s:List Nat} (hs:s.Nodup) (hb':∀ i ∈ s,i < n):(s.map fun i=>l.getD i 0).Nodup :=
  have hb:∀ i ∈ s,i < l.length:=fun i hi=>e ▸ hb' i hi
  List.pairwise_map.mpr (List.Pairwise.imp_of_mem (fun {x y} hx hy n e=>n (by
    rw [List.getD_eq_getElem?_getD,List.getD_eq_getElem?_getD,List.getElem?_eq_getElem (hb x hx),List.getElem?_eq_getElem (hb y hy)] at e
    exact (List.getElem_inj (h₀:=hb x hx) (h₁:=hb y hy) h).mp e)) hs)
theorem mem_pick {l:List Nat} {s:List Nat} {x:Nat} (hx:x ∈ l) {n:Nat} (el:l.length = n) (hc:∀ i,i < n → i ∈ s):x ∈ s.map fun i=>l.getD i 0:=by
  obtain ⟨i,hi,rfl⟩:=List.getElem_of_mem hx
  exact List.mem_map.mpr ⟨i,hc i (el ▸ hi),by rw [List.getD_eq_getElem?_getD,List.getElem?_eq_getElem hi]; rfl⟩
theorem nats_of {ys:List Int} (h:ys.Perm [0,1,2,3,4,5]):∃ ks:List Nat,ys = ks.map (fun k:Nat=>(k:Int)) ∧ ks.Perm six:=by
  refine ⟨ys.map Int.toNat,?_,h.map Int.toNat⟩
  rw [List.map_map]
  have:∀ x ∈ ys,0 ≤ x:=fun x hx=>by
    have:=h.mem_iff.mp hx
    simp only [List.mem_cons,List.not_mem_nil,or_false] at this
    lia
  calc ys = ys.map id:=(List.map_id ys).symm
    _ = _:=List.map_congr_left fun x hx=>by
      show x = ((x.toNat:Nat):Int)
      have:=this x hx
      lia
theorem chg_int {W:Nat → Nat} (hW:∀ k,W k < 16) {c pl:Nat} (hc:c < 16) (k:Nat):Builtin.bitXor (W k:Int) (if (k:Int) = (pl:Int) then (c:Int) else 0) = ((chgV W c pl k:Nat):Int):=by
  unfold chgV
  by_cases e:k = pl
  · rw [if_pos (congrArg _ e),if_pos e]
    exact bxn (hW k) hc
  · rw [if_neg (fun x=>e (by lia)),if_neg e]
    exact (bxn (hW k) (show 0 < 16 by decide)).trans (by rw [Nat.xor_zero])
theorem chN_six {E:Nat} {W:Nat → Nat} (hW:∀ k,W k < 16) {c pl:Nat} (hc:c < 16) {k:Nat} (hk:k < 6):chN (six.map (ptV E W)) (c:Int) (pl:Int) (k:Int) = ptV E (chgV W c pl) k:=by
  have e:(six.map (ptV E W))[(k:Int).toNat]? = some (ptV E W k):=by
    rw [Int.toNat_natCast]
    have:=lt6 hk
    rcases this with rfl | rfl | rfl | rfl | rfl | rfl <;> rfl
  unfold chN
  rw [e]
  show (ptI E k,_) = _
  unfold ptV
  rw [chg_int hW hc]
theorem oct_back (a:UInt8) {x y:Nat} (hx:x = a.toNat / 16) (hy:y = a.toNat % 16):(16 * ((x:Nat):Int).toNat + ((y:Nat):Int).toNat).toUInt8 = a:=by
  have:16 * ((x:Nat):Int).toNat + ((y:Nat):Int).toNat = a.toNat:=by
    rw [Int.toNat_natCast,Int.toNat_natCast]
    lia
  rw [this]
  exact UInt8.ofNat_toNat
structure Plain (P:List Int) (p0 p1 p2 p3:Int) (cs:List (Int × Int)) (ch pl:Int) (ys:List Int) (a b:UInt8):Prop where
  r16:∀ f ∈ cs,In16 f.1 ∧ In16 f.2
  nd:(cs.map (·.1)).Nodup
  mem:∀ p ∈ [p0,p1,p2,p3],p ∈ cs.map (·.1)
  fin:∀ j < 6,mendR (placeIn P) P p0 p1 p2 p3 cs j = finR ch pl ys a b j
section
variable {E L:Nat} (R:Rg E L)
include R
theorem fin_one {a b:UInt8} {c pl:Nat} (hc:c < 16) (hp:pl < 6) {k0 k1 k2 k3 k4 xl:Nat} (l0:k0 < 6) (l1:k1 < 6) (l2:k2 < 6) (l3:k3 < 6) (l4:k4 < 6) (lx:xl < 6) (nd:[xl,k4,k0,k1,k2,k3].Nodup) (al:∀ i,i < 6 → i ∈ [k0,k1,k2,k3,k4,xl]) {ys:List Int} {j:Nat} (hy:ys[j]? = some (xl:Int)) {W:Nat → Nat} (eW:W = codeV E L (a.toNat / 16) (a.toNat % 16) (b.toNat / 16) (b.toNat % 16)) :
    (if toldN (placeIn (rowP E)) (ptI E k4) (rowP E) ([k0,k1,k2,k3].map (ptV E (chgV W c pl))) = ((chgV W c pl k4:Nat):Int) then
      some ((16 * (mendV (placeIn (rowP E)) (rowP E) ([k0,k1,k2,k3,k4].map (ptV E (chgV W c pl))) (ptI E xl) (ptI E 0)).toNat + (mendV (placeIn (rowP E)) (rowP E) ([k0,k1,k2,k3,k4].map (ptV E (chgV W c pl))) (ptI E xl) (ptI E 1)).toNat).toUInt8,
        (16 * (mendV (placeIn (rowP E)) (rowP E) ([k0,k1,k2,k3,k4].map (ptV E (chgV W c pl))) (ptI E xl) (ptI E 2)).toNat + (mendV (placeIn (rowP E)) (rowP E) ([k0,k1,k2,k3,k4].map (ptV E (chgV W c pl))) (ptI E xl) (ptI E 3)).toNat).toUInt8)
      else none) = finR (c:Int) (pl:Int) ys a b j:=by
  have ha:=a.toNat_lt
  have hb:=b.toNat_lt
  have h0:a.toNat / 16 < 16:=by lia
  have h1:a.toNat % 16 < 16:=by lia
  have h2:b.toNat / 16 < 16:=by lia
  have h3:b.toNat % 16 < 16:=by lia
  unfold finR
  by_cases cv:c = 0 ∨ xl = pl
  · have M:=mend_core R h0 h1 h2 h3 l0 l1 l2 l3 l4 lx nd al cv
    rw [← eW] at M
    rw [if_pos M.1,M.2 0 (by decide),M.2 1 (by decide),M.2 2 (by decide),M.2 3 (by decide)]
    rw [if_pos (cv.elim (fun e=>.inl (by lia)) fun e=>.inr (by rw [hy,e]))]
    rw [oct_back a (by rw [eW]; rfl) (by rw [eW]; rfl),oct_back b (by rw [eW]; rfl) (by rw [eW]; rfl)]
  · have c0:c ≠ 0:=fun e=>cv (.inl e)
    have nx:xl ≠ pl:=fun e=>cv (.inr e)
    have M:=mend_none R h0 h1 h2 h3 l0 l1 l2 l3 l4 lx nd al hc hp c0 nx
    rw [← eW] at M
    rw [if_neg M,if_neg]
    rintro (e | e)
    · lia
    · rw [hy] at e
      have:=Option.some.inj e
      lia
end
theorem plain_six {P:Nat → Int × Nat} {st:Int} (RV:RegV ((l15 P).map (·.1)) st) (a b:UInt8) {ch pl:Int} (hc:0 ≤ ch ∧ ch < 16) (hp:0 ≤ pl ∧ pl < 6) {ys:List Int} (hy:ys.Perm [0,1,2,3,4,5])
    {cs:List (Int × Int)} (hcs:cs = ys.map (chN (pairsN (placeIn ((l15 P).map (·.1))) ((l15 P).map (·.1)) (P 0).1 (P 1).1 (P 2).1 (P 3).1 (P 4).1 (P 5).1 a b) ch pl)) :
    Plain ((l15 P).map (·.1)) (P 0).1 (P 1).1 (P 2).1 (P 3).1 cs ch pl ys a b:=by
  obtain ⟨E,L,R,eP⟩:=rg_of RV
  rw [eP] at hcs ⊢
  have ei:∀ i,i < 15 → (P i).1 = ptI E i:=fun i hi=>by
    have:=congrArg (fun l:List Int=>l[i]?) eP
    rw [l15_eq,List.map_map] at this
    unfold rowP at this
    simp only [List.getElem?_map,List.getElem?_range hi,Option.map_some] at this
    exact Option.some.inj this
  have e0:=ei 0 (by decide)
  have e1:=ei 1 (by decide)
  have e2:=ei 2 (by decide)
  have e3:=ei 3 (by decide)
  have e4:=ei 4 (by decide)
  have e5:=ei 5 (by decide)
  rw [e0,e1,e2,e3,e4,e5] at hcs
  rw [e0,e1,e2,e3]
  clear e0 e1 e2 e3 e4 e5 ei RV
  obtain ⟨c,rfl⟩:∃ c:Nat,ch = (c:Int):=⟨ch.toNat,by lia⟩
  obtain ⟨q,rfl⟩:∃ q:Nat,pl = (q:Int):=⟨pl.toNat,by lia⟩
  have hc':c < 16:=by omega
  have hq':q < 6:=by omega
  have ha:=a.toNat_lt
  have hb:=b.toNat_lt
  have h0:a.toNat / 16 < 16:=by lia
  have h1:a.toNat % 16 < 16:=by lia
  have h2:b.toNat / 16 < 16:=by lia
  have h3:b.toNat % 16 < 16:=by lia
  obtain ⟨W,eW⟩:∃ W,W = codeV E L (a.toNat / 16) (a.toNat % 16) (b.toNat / 16) (b.toNat % 16):=⟨_,rfl⟩
  have lW:∀ k,W k < 16:=by rw [eW]; exact codeV_lt R.tb h0 h1 h2 h3
  have eQ:pairsN (placeIn (rowP E)) (rowP E) (ptI E 0) (ptI E 1) (ptI E 2) (ptI E 3) (ptI E 4) (ptI E 5) a b = six.map (ptV E W):=by
    have t4:=told_V R lW (k0:=0) (k1:=1) (k2:=2) (k3:=3) (show 4 < 6 by decide) (by decide) (by decide) (by decide) (by decide) (by decide)
    have t5:=told_V R lW (k0:=0) (k1:=1) (k2:=2) (k3:=3) (show 5 < 6 by decide) (by decide) (by decide) (by decide) (by decide) (by decide)
    have em:[0,1,2,3].map (ptV E W) = [(ptI E 0,(((a.toNat / 16):Nat):Int)),(ptI E 1,(((a.toNat % 16):Nat):Int)),(ptI E 2,(((b.toNat / 16):Nat):Int)),(ptI E 3,(((b.toNat % 16):Nat):Int))]:=by rw [eW]; rfl
    rw [em] at t4 t5
    unfold pairsN
    rw [t4,t5,eW]
    rfl
  rw [eQ] at hcs
  obtain ⟨ks,eks,pks⟩:=nats_of hy
  have lk:∀ k ∈ ks,k < 6:=fun k hk=>six_lt (pks.mem_iff.mp hk)
  have nk:ks.Nodup:=pks.nodup_iff.mpr (by decide)
  have ecs:cs = ks.map (ptV E (chgV W c q)):=by
    rw [hcs,eks,List.map_map]
    exact List.map_congr_left fun k hk=>chN_six lW hc' (lk k hk)
  have efs:cs.map (·.1) = ks.map (ptI E):=by
    rw [ecs,List.map_map]; rfl
  have lV:∀ k,chgV W c q k < 16:=fun k=>by
    unfold chgV
    split
    · exact x16 (lW k) hc'
    · exact lW k
  refine ⟨fun f hf=>?_,?_,fun p hp=>?_,fun j hj=>?_⟩
  · rw [ecs] at hf
    obtain ⟨k,_,rfl⟩:=List.mem_map.mp hf
    exact ⟨d16 (nget_lt _ _),d16 (lV k)⟩
  · rw [efs]
    refine List.pairwise_map.mpr (List.Pairwise.imp_of_mem (fun {x y} hx hy n=>?_) nk)
    exact pt_ne R (lk x hx) (lk y hy) n
  · rw [efs]
    have key:∀ i,i < 6 → ptI E i ∈ ks.map (ptI E):=fun i hi=>List.mem_map_of_mem (pks.mem_iff.mpr (lt_six hi))
    simp only [List.mem_cons,List.not_mem_nil,or_false] at hp
    rcases hp with e | e | e | e <;> (rw [e]; exact key _ (by decide))
  · have l6:ks.length = 6:=pks.length_eq
    obtain ⟨y0,y1,y2,y3,y4,y5,rfl⟩:=list6 l6
    have b0:=lk y0 (by simp)
    have b1:=lk y1 (by simp)
    have b2:=lk y2 (by simp)
    have b3:=lk y3 (by simp)
    have b4:=lk y4 (by simp)
    have b5:=lk y5 (by simp)
    have hj6:=lt6 hj
    rw [ecs,eks]
    have al0:∀ i,i < 6 → i ∈ [y0,y1,y2,y3,y4,y5]:=fun i hi=>pks.mem_iff.mpr (lt_six hi)
    rcases hj6 with rfl | rfl | rfl | rfl | rfl | rfl
    · exact fin_one R hc' hq' b1 b2 b3 b4 b5 b0 (nodup_pick nk (n:=6) rfl (s:=[0,5,1,2,3,4]) (by decide) (by decide)) (fun i hi=>mem_pick (s:=[1,2,3,4,5,0]) (al0 i hi) (n:=6) rfl (by decide)) rfl eW
    · exact fin_one R hc' hq' b0 b2 b3 b4 b5 b1 (nodup_pick nk (n:=6) rfl (s:=[1,5,0,2,3,4]) (by decide) (by decide)) (fun i hi=>mem_pick (s:=[0,2,3,4,5,1]) (al0 i hi) (n:=6) rfl (by decide)) rfl eW
    · exact fin_one R hc' hq' b0 b1 b3 b4 b5 b2 (nodup_pick nk (n:=6) rfl (s:=[2,5,0,1,3,4]) (by decide) (by decide)) (fun i hi=>mem_pick (s:=[0,1,3,4,5,2]) (al0 i hi) (n:=6) rfl (by decide)) rfl eW
    · exact fin_one R hc' hq' b0 b1 b2 b4 b5 b3 (nodup_pick nk (n:=6) rfl (s:=[3,5,0,1,2,4]) (by decide) (by decide)) (fun i hi=>mem_pick (s:=[0,1,2,4,5,3]) (al0 i hi) (n:=6) rfl (by decide)) rfl eW
    · exact fin_one R hc' hq' b0 b1 b2 b3 b5 b4 (nodup_pick nk (n:=6) rfl (s:=[4,5,0,1,2,3]) (by decide) (by decide)) (fun i hi=>mem_pick (s:=[0,1,2,3,5,4]) (al0 i hi) (n:=6) rfl (by decide)) rfl eW
    · exact fin_one R hc' hq' b0 b1 b2 b3 b4 b5 (nodup_pick nk (n:=6) rfl (s:=[5,4,0,1,2,3]) (by decide) (by decide)) (fun i hi=>mem_pick (s:=[0,1,2,3,4,5]) (al0 i hi) (n:=6) rfl (by decide)) rfl eW
end Mine
namespace Mine
open PySem PySem.W PySem.W.X PyProof.Rows
noncomputable def Far (N a:Nat):Prop:=a < N ∨ N + 9 ≤ a
theorem Far.ne {N a i:Nat} (f:Far N a) (h:i < 9):(a:Addr) ≠ N + i:=fun e=>by
  have e':(a:Nat) = N + i:=e
  rcases f with x | x <;> lia
theorem Far.ne0 {N a:Nat} (f:Far N a):(a:Addr) ≠ N:=f.ne (i:=0) (by decide)
theorem cell_ne {N i j:Nat} (h:i ≠ j):(N + i:Addr) ≠ N + j:=fun e=>h (Nat.add_left_cancel e)
theorem cell_ne0 {N i:Nat} (h:i ≠ 0):(N + i:Addr) ≠ N:=cell_ne (j:=0) h
theorem ne_cell0 {N i:Nat} (h:i ≠ 0):(N:Addr) ≠ N + i:=(cell_ne0 h).symm
theorem low_ne {N k i:Nat} (g:219 ≤ N) (h:k < 219):(N + i:Addr) ≠ k:=fun e=>by
  have e':N + i = k:=e
  lia
theorem lows_ne {a b:Nat} (h:a ≠ b):(a:Addr) ≠ b:=h
theorem hi_ne {a k:Nat} (g:219 ≤ a) (h:k < 219):(a:Addr) ≠ k:=fun e=>by
  have e':a = k:=e
  lia
theorem nn {a b:Nat} (h:a < b ∨ b < a):(a:Addr) ≠ b:=h.elim Nat.ne_of_lt fun x=>(Nat.ne_of_lt x).symm
noncomputable def OutO (B:Nat):List Addr → Prop
  | []=>True
  | a :: r=>(B ≤ a ∨ a ∈ [169,176,181]) ∧ OutO B r
theorem OutO.mem {B:Nat}:∀ {l:List Addr},OutO B l → ∀ q ∈ l,B ≤ q ∨ q ∈ [169,176,181]
  | [],_,_,h=>nomatch h
  | _ :: _,o,q,h=>by
    rcases List.mem_cons.mp h with rfl | h
    · exact o.1
    · exact OutO.mem o.2 q h
theorem KeepsBut.grow {md:List Addr} {a b c:Heap} (x:KeepsBut [169,176,181] a b) (y:KeepsBut md b c) (o:OutO a.objs.size md):KeepsBut [169,176,181] a c:=x.beh o.mem y
theorem KeepsBut.exTab {w:World} {h h':Heap} {N a:Addr} {es:List (Str × Nat × Value)} {e0:Nat} (k:KeepsBut [N] h h') (hN:h.get? N = some (frO w es e0)) (e:∃ l,h.get? a = some (tabO l)):∃ l,h'.get? a = some (tabO l) :=
  let ⟨l,x⟩:=e; ⟨l,k.ob1 hN x (fun y=>nomatch y)⟩
theorem list5 {α:Type} {l:List α} (h:l.length = 5):∃ a b c d e,l = [a,b,c,d,e]:=by
  match l,h with
  | [a,b,c,d,e],_=>exact ⟨a,b,c,d,e,rfl⟩
theorem six_rng:∀ y ∈ ([0,1,2,3,4,5]:List Int),0 ≤ y ∧ y < 6:=by decide
theorem code_cell {h:Heap} {q:Str} {a b:Addr} {v:Option Value} (c:IsCode h q a) (e:h.get? b = some (cellO v)):a ≠ b:=fun x=>by
  obtain ⟨v0,t,r,e2⟩:=c
  rw [x,e] at e2
  exact absurd (congrArg Obj.cls (Option.some.inj e2)) (ty_ne (by decide))
theorem CellsAt.two {h:Heap} {a b:Addr} {v u:Option Value} (e:h.get? a = some (cellO v)) (e2:h.get? b = some (cellO u)):CellsAt h [a,b]:=fun q hq=>by
  simp only [List.mem_cons,List.not_mem_nil,or_false] at hq
  rcases hq with x | x
  · exact ⟨v,x ▸ e⟩
  · exact ⟨u,x ▸ e2⟩
theorem TabAt.frame {w:World} {h h':Heap} {N:Addr} {es:List (Str × Nat × Value)} {e0:Nat} {tt:TT} (T:TabAt h tt) (k:KeepsBut [N] h h') (hN:h.get? N = some (frO w es e0)):TabAt h' tt:=⟨k.ob1 hN T.at_ (fun x=>nomatch x),T.ok.map fun _ c=>k.code1 hN c⟩
section
variable {w:World} {b1 b2:Bool} {A:Around} {R:Result → Shared → Prop} {h:Heap} {g:Array GenState} {d:Drawn} {T0:Nat} {os:OsState} {xs:List (Int × Nat)} {sc se:Nat}
theorem law_call (F:Follows w b1 b2) (hA:Lo A 50) (hh:A.handled = none) (top:TopOk w h) (gS:219 ≤ h.objs.size) (hx:xs.length ≤ 900) (hsc:h.get? sc = some (listO (intsV xs) se)) (bsc:219 ≤ sc) (e9:h.get? 169 = some (tabO [])) (e6:h.get? 176 = some (tabO [])) (e1:h.get? 181 = some (tabO []))
    (K:∀ h' tk',KeepsBut [169,176,181] h h' → (∃ l,h'.get? 169 = some (tabO l)) → (∃ l,h'.get? 176 = some (tabO l)) → (∃ l,h'.get? 181 = some (tabO l)) → R (.ok (.ret (.bool true))) ⟨h',g,d,tk',os⟩) :
    codeAny (model prog w) A (.call (.ref 218) ⟨[.ref sc],[]⟩) R ⟨h,g,d,T0,os⟩:=by
  have fr3:FreeL [169,176,181]:=⟨.inr (.inl rfl),.inr (.inr (.inl rfl)),.inr (.inr (.inr rfl)),trivial⟩
  obtain ⟨N,eN⟩:∃ N,N = h.objs.size:=⟨_,rfl⟩
  refine law_p1 F hA hh top gS hx hsc bsc fun ha tka k0 k1 k2 dr nu ns ka sa bnu f ca hnu en=>?_
  rw [← eN] at sa bnu f ca ⊢
  have gh0:h.objs.size ≤ N:=Nat.le_of_eq eN.symm
  have gN:219 ≤ N:=Nat.le_trans gS gh0
  have gN9:219 ≤ N + 9:=Nat.le_add_right_of_le gN
  have f169:Far N 169:=.inl (Nat.lt_of_lt_of_le (by decide) gN)
  have f176:Far N 176:=.inl (Nat.lt_of_lt_of_le (by decide) gN)
  have f181:Far N 181:=.inl (Nat.lt_of_lt_of_le (by decide) gN)
  have fnu:Far N nu:=.inr bnu
  have gnu:219 ≤ nu:=Nat.le_trans gN9 bnu
  have l5:ns.length = 5:=by
    have:=congrArg List.length en
    rw [List.length_map,numsN_len] at this
    exact this
  obtain ⟨⟨n0,t0⟩,⟨n1,t1⟩,⟨n2,t2⟩,⟨n3,t3⟩,⟨n4,t4⟩,rfl⟩:=list5 l5
  clear en l5
  obtain ⟨c1,c2,c3,c4,c5,c6,c7,c8,-⟩:=ca
  have kall:KeepsBut [169,176,181] h ha:=ka.but
  have tp:=top.keepsBut kall fr3
  replace e9:=ka _ _ e9
  replace e6:=ka _ _ e6
  replace e1:=ka _ _ e1
  refine law_p2 F hA hh tp gN f c1 hnu ⟨fnu.ne0,fnu.ne (by decide),trivial⟩ fun hb tkb k3 u3 tb1 kb sb f' c1'=>?_
  clear f
  obtain ⟨V,eV⟩:∃ V:LV,V = ⟨k0,k1,k2,k3,u3,sc,dr⟩:=⟨_,rfl⟩
  have f:hb.get? N = some (fr4 w V nu (1 + n1.fmod 15)):=by rw [eV]; exact f'
  replace c1:=c1'
  clear f' c1' eV
  replace c2:=kb _ _ c2 (NotIn.mem ⟨cell_ne0 (by decide),cell_ne (by decide),trivial⟩)
  replace c3:=kb _ _ c3 (NotIn.mem ⟨cell_ne0 (by decide),cell_ne (by decide),trivial⟩)
  replace c4:=kb _ _ c4 (NotIn.mem ⟨cell_ne0 (by decide),cell_ne (by decide),trivial⟩)
  replace c5:=kb _ _ c5 (NotIn.mem ⟨cell_ne0 (by decide),cell_ne (by decide),trivial⟩)
  replace c6:=kb _ _ c6 (NotIn.mem ⟨cell_ne0 (by decide),cell_ne (by decide),trivial⟩)
  replace c7:=kb _ _ c7 (NotIn.mem ⟨cell_ne0 (by decide),cell_ne (by decide),trivial⟩)
  replace c8:=kb _ _ c8 (NotIn.mem ⟨cell_ne0 (by decide),cell_ne (by decide),trivial⟩)
  replace hnu:=kb _ _ hnu (NotIn.mem ⟨fnu.ne0,fnu.ne (by decide),trivial⟩)
  replace e9:=kb _ _ e9 (NotIn.mem ⟨f169.ne0,f169.ne (by decide),trivial⟩)
  replace e6:=kb _ _ e6 (NotIn.mem ⟨f176.ne0,f176.ne (by decide),trivial⟩)
  replace e1:=kb _ _ e1 (NotIn.mem ⟨f181.ne0,f181.ne (by decide),trivial⟩)
  replace kall:KeepsBut [169,176,181] h _:=kall.grow kb ⟨.inl gh0,.inl (Nat.le_add_right_of_le gh0),trivial⟩
  replace tp:=top.keepsBut kall fr3
  obtain ⟨a,ea⟩:∃ a,a = ((n0.fdiv 256).fmod 256).toNat.toUInt8:=⟨_,rfl⟩
  obtain ⟨b,eb⟩:∃ b,b = (n0.fmod 256).toNat.toUInt8:=⟨_,rfl⟩
  rw [← ea,← eb] at c1
  have sNb:N + 9 ≤ hb.objs.size:=Nat.le_trans sa sb
  refine law_p3 F hA hh tp gN sNb f c2 hnu bnu e9 e6 fun hc tkc W ps pe c9 kc sc' RV bW hW f' c2' e9' i9 g9 e6'=>?_
  replace f:=f'
  replace c2:=c2'
  clear f' c2'
  replace c1:=kc _ _ c1 (NotIn.mem ⟨low_ne (i:=1) gN (by decide),low_ne (i:=1) gN (by decide),cell_ne0 (by decide),cell_ne (by decide),trivial⟩)
  replace c3:=kc _ _ c3 (NotIn.mem ⟨low_ne (i:=3) gN (by decide),low_ne (i:=3) gN (by decide),cell_ne0 (by decide),cell_ne (by decide),trivial⟩)
  replace c4:=kc _ _ c4 (NotIn.mem ⟨low_ne (i:=4) gN (by decide),low_ne (i:=4) gN (by decide),cell_ne0 (by decide),cell_ne (by decide),trivial⟩)
  replace c5:=kc _ _ c5 (NotIn.mem ⟨low_ne (i:=5) gN (by decide),low_ne (i:=5) gN (by decide),cell_ne0 (by decide),cell_ne (by decide),trivial⟩)
  replace c6:=kc _ _ c6 (NotIn.mem ⟨low_ne (i:=6) gN (by decide),low_ne (i:=6) gN (by decide),cell_ne0 (by decide),cell_ne (by decide),trivial⟩)
  replace c7:=kc _ _ c7 (NotIn.mem ⟨low_ne (i:=7) gN (by decide),low_ne (i:=7) gN (by decide),cell_ne0 (by decide),cell_ne (by decide),trivial⟩)
  replace c8:=kc _ _ c8 (NotIn.mem ⟨low_ne (i:=8) gN (by decide),low_ne (i:=8) gN (by decide),cell_ne0 (by decide),cell_ne (by decide),trivial⟩)
  replace hnu:=kc _ _ hnu (NotIn.mem ⟨hi_ne gnu (by decide),hi_ne gnu (by decide),fnu.ne0,fnu.ne (by decide),trivial⟩)
  replace e1:=kc _ _ e1 (NotIn.mem ⟨lows_ne (by decide),lows_ne (by decide),f181.ne0,f181.ne (by decide),trivial⟩)
  clear e9 e6
  have e9:=e9'
  have e6:=e6'
  clear e9' e6'
  replace kall:KeepsBut [169,176,181] h _:=kall.grow kc ⟨.inr (by decide),.inr (by decide),.inl gh0,.inl (Nat.le_add_right_of_le gh0),trivial⟩
  replace tp:=top.keepsBut kall fr3
  have RP:=RV.reg
  have lW:ps.length = 15:=by have:=RP.len; simpa using this
  obtain ⟨Pw,eps⟩:=l15_of lW
  have zc:N + 9 ≤ hc.objs.size:=Nat.le_trans sNb sc'
  have fW:Far N W:=.inr (Nat.le_trans sNb bW)
  have gW:219 ≤ W:=Nat.le_trans gN9 (Nat.le_trans sNb bW)
  refine law_s5 F hA hh tp (Nat.le_trans gN9 zc) f c2 hW RP fun hd tkd kd sd=>?_
  replace f:=kd _ _ f
  replace c1:=kd _ _ c1
  replace c2:=kd _ _ c2
  replace c3:=kd _ _ c3
  replace c4:=kd _ _ c4
  replace c5:=kd _ _ c5
  replace c6:=kd _ _ c6
  replace c7:=kd _ _ c7
  replace c8:=kd _ _ c8
  replace hnu:=kd _ _ hnu
  replace hW:=kd _ _ hW
  replace e9:=kd _ _ e9
  replace e6:=e6.imp fun l e=>kd _ _ e
  replace e1:=kd _ _ e1
  replace i9:=i9.keep (md:=[]) kd.but (fun hm=>nomatch hm)
  replace kall:KeepsBut [169,176,181] h _:=kall.trans kd.but
  replace tp:=top.keepsBut kall fr3
  have zd:N + 9 ≤ hd.objs.size:=Nat.le_trans zc sd
  refine law_s6 F hA hh tp (Nat.le_trans gN9 zd) f c2 hW RP fun he tke ke se'=>?_
  replace f:=ke _ _ f
  replace c1:=ke _ _ c1
  replace c2:=ke _ _ c2
  replace c3:=ke _ _ c3
  replace c4:=ke _ _ c4
  replace c5:=ke _ _ c5
  replace c6:=ke _ _ c6
  replace c7:=ke _ _ c7
  replace c8:=ke _ _ c8
  replace hnu:=ke _ _ hnu
  replace hW:=ke _ _ hW
  replace e9:=ke _ _ e9
  replace e6:=e6.imp fun l e=>ke _ _ e
  replace e1:=ke _ _ e1
  replace i9:=i9.keep (md:=[]) ke.but (fun hm=>nomatch hm)
  replace kall:KeepsBut [169,176,181] h _:=kall.trans ke.but
  replace tp:=top.keepsBut kall fr3
  have ze:N + 9 ≤ he.objs.size:=Nat.le_trans zd se'
  refine law_s7 F hA hh tp gN gW (fW.ne (by decide)) c2 c3 hW RP fun hf tkf l kf sf bl c3' LA=>?_
  have zf:N + 9 ≤ hf.objs.size:=Nat.le_trans ze sf
  have fl:Far N l:=.inr (Nat.le_trans ze bl)
  have gl:219 ≤ l:=Nat.le_trans gN9 (Nat.le_trans ze bl)
  replace i9:=kf.code (CellsAt.one c3) i9
  replace f:=kf _ _ f (NotIn.mem ⟨ne_cell0 (by decide),trivial⟩)
  replace c1:=kf _ _ c1 (NotIn.mem ⟨cell_ne (by decide),trivial⟩)
  replace c2:=kf _ _ c2 (NotIn.mem ⟨cell_ne (by decide),trivial⟩)
  replace c4:=kf _ _ c4 (NotIn.mem ⟨cell_ne (by decide),trivial⟩)
  replace c5:=kf _ _ c5 (NotIn.mem ⟨cell_ne (by decide),trivial⟩)
  replace c6:=kf _ _ c6 (NotIn.mem ⟨cell_ne (by decide),trivial⟩)
  replace c7:=kf _ _ c7 (NotIn.mem ⟨cell_ne (by decide),trivial⟩)
  replace c8:=kf _ _ c8 (NotIn.mem ⟨cell_ne (by decide),trivial⟩)
  replace hnu:=kf _ _ hnu (NotIn.mem ⟨fnu.ne (by decide),trivial⟩)
  replace e9:=kf _ _ e9 (NotIn.mem ⟨f169.ne (by decide),trivial⟩)
  replace e6:=e6.imp fun l e=>kf _ _ e (NotIn.mem ⟨f176.ne (by decide),trivial⟩)
  replace e1:=kf _ _ e1 (NotIn.mem ⟨f181.ne (by decide),trivial⟩)
  replace c3:=c3'
  clear c3'
  replace kall:KeepsBut [169,176,181] h _:=kall.grow kf ⟨.inl (Nat.le_add_right_of_le gh0),trivial⟩
  replace tp:=top.keepsBut kall fr3
  obtain ⟨ch,ech⟩:∃ ch,ch = n2.fmod 16:=⟨_,rfl⟩
  obtain ⟨pl,epl⟩:∃ pl,pl = (n2.fdiv 16).fmod 6:=⟨_,rfl⟩
  refine law_s8 F hA hh tp gN f hnu c4 c5 ⟨fnu.ne (by decide),fnu.ne (by decide),trivial⟩ fun hg tkg u v kg sg c4' c5'=>?_
  replace i9:=kg.code (CellsAt.two c4 c5) i9
  replace LA:=kg.logs (CellsAt.two c4 c5) LA
  replace f:=kg _ _ f (NotIn.mem ⟨ne_cell0 (by decide),ne_cell0 (by decide),trivial⟩)
  replace c1:=kg _ _ c1 (NotIn.mem ⟨cell_ne (by decide),cell_ne (by decide),trivial⟩)
  replace c2:=kg _ _ c2 (NotIn.mem ⟨cell_ne (by decide),cell_ne (by decide),trivial⟩)
  replace c3:=kg _ _ c3 (NotIn.mem ⟨cell_ne (by decide),cell_ne (by decide),trivial⟩)
  replace c6:=kg _ _ c6 (NotIn.mem ⟨cell_ne (by decide),cell_ne (by decide),trivial⟩)
  replace c7:=kg _ _ c7 (NotIn.mem ⟨cell_ne (by decide),cell_ne (by decide),trivial⟩)
  replace c8:=kg _ _ c8 (NotIn.mem ⟨cell_ne (by decide),cell_ne (by decide),trivial⟩)
  replace hnu:=kg _ _ hnu (NotIn.mem ⟨fnu.ne (by decide),fnu.ne (by decide),trivial⟩)
  replace e9:=kg _ _ e9 (NotIn.mem ⟨f169.ne (by decide),f169.ne (by decide),trivial⟩)
  replace e6:=e6.imp fun l e=>kg _ _ e (NotIn.mem ⟨f176.ne (by decide),f176.ne (by decide),trivial⟩)
  replace e1:=kg _ _ e1 (NotIn.mem ⟨f181.ne (by decide),f181.ne (by decide),trivial⟩)
  replace c4:=c4'
  replace c5:=c5'
  clear c4' c5'
  rw [← ech] at c4
  rw [← epl] at c5
  replace kall:KeepsBut [169,176,181] h _:=kall.grow kg ⟨.inl (Nat.le_add_right_of_le gh0),.inl (Nat.le_add_right_of_le gh0),trivial⟩
  replace tp:=top.keepsBut kall fr3
  have tb:TabAt hg (.c .e):=⟨e1,trivial⟩
  obtain ⟨lg,elg⟩:∃ lg,lg = placeIn (ps.map (·.1)):=⟨_,rfl⟩
  rw [← elg] at LA
  subst eps
  have ne:∀ (i j:Nat),i < j → j < 15 → (Pw i).1 ≠ (Pw j).1:=fun i j hij hj=>l15_ne (RP.perm.nodup_iff.mpr (by decide)) hij hj
  have zg:N + 9 ≤ hg.objs.size:=Nat.le_trans zf sg
  refine law_s9 F hA hh tp gN (Nat.le_trans gN9 zg) c1 c2 c3 c6 tb LA ⟨ne 0 4 (by decide) (by decide),ne 1 4 (by decide) (by decide),ne 2 4 (by decide) (by decide),ne 3 4 (by decide) (by decide)⟩ ⟨ne 0 5 (by decide) (by decide),ne 1 5 (by decide) (by decide),ne 2 5 (by decide) (by decide),ne 3 5 (by decide) (by decide)⟩ fun hi tki tt L e Q ki si tb' bL hL eQ zQ c6'=>?_
  have zi:N + 9 ≤ hi.objs.size:=Nat.le_trans zg si
  clear ne tb e1
  replace LA:=LA.keepN ki (NotIn.mem ⟨hi_ne gW (by decide),fW.ne (by decide),trivial⟩) (NotIn.mem ⟨hi_ne gl (by decide),fl.ne (by decide),trivial⟩)
  replace i9:=i9.keep ki (NotIn.mem ⟨nn (.inr (Nat.lt_of_lt_of_le (by decide) g9)),code_cell i9 c6,trivial⟩)
  replace f:=ki _ _ f (NotIn.mem ⟨low_ne (i:=0) gN (by decide),ne_cell0 (by decide),trivial⟩)
  replace c1:=ki _ _ c1 (NotIn.mem ⟨low_ne (i:=1) gN (by decide),cell_ne (by decide),trivial⟩)
  replace c2:=ki _ _ c2 (NotIn.mem ⟨low_ne (i:=2) gN (by decide),cell_ne (by decide),trivial⟩)
  replace c3:=ki _ _ c3 (NotIn.mem ⟨low_ne (i:=3) gN (by decide),cell_ne (by decide),trivial⟩)
  replace c4:=ki _ _ c4 (NotIn.mem ⟨low_ne (i:=4) gN (by decide),cell_ne (by decide),trivial⟩)
  replace c5:=ki _ _ c5 (NotIn.mem ⟨low_ne (i:=5) gN (by decide),cell_ne (by decide),trivial⟩)
  replace c7:=ki _ _ c7 (NotIn.mem ⟨low_ne (i:=7) gN (by decide),cell_ne (by decide),trivial⟩)
  replace c8:=ki _ _ c8 (NotIn.mem ⟨low_ne (i:=8) gN (by decide),cell_ne (by decide),trivial⟩)
  replace hnu:=ki _ _ hnu (NotIn.mem ⟨hi_ne gnu (by decide),fnu.ne (by decide),trivial⟩)
  replace e9:=ki _ _ e9 (NotIn.mem ⟨lows_ne (by decide),f169.ne (by decide),trivial⟩)
  replace e6:=e6.imp fun l e=>ki _ _ e (NotIn.mem ⟨lows_ne (by decide),f176.ne (by decide),trivial⟩)
  replace c6:=c6'
  clear c6'
  replace kall:KeepsBut [169,176,181] h _:=kall.grow ki ⟨.inr (by decide),.inl (Nat.le_add_right_of_le gh0),trivial⟩
  replace tp:=top.keepsBut kall fr3
  refine law_s10 F hA hh tp gN f hnu c7 ⟨fnu.ne (by decide),trivial⟩ fun hj tkj O xs' ys oe kj sj bO hO hx' hy c7'=>?_
  replace i9:=kj.code (CellsAt.one c7) i9
  replace LA:=kj.logs (CellsAt.one c7) LA
  have tb2:=kj.tab (CellsAt.one c7) tb'
  replace hL:=kj.ob (CellsAt.one c7) hL (ty_ne (by decide))
  replace zQ:=kj.prs (CellsAt.one c7) zQ
  replace f:=kj _ _ f (NotIn.mem ⟨ne_cell0 (by decide),trivial⟩)
  replace c1:=kj _ _ c1 (NotIn.mem ⟨cell_ne (by decide),trivial⟩)
  replace c2:=kj _ _ c2 (NotIn.mem ⟨cell_ne (by decide),trivial⟩)
  replace c3:=kj _ _ c3 (NotIn.mem ⟨cell_ne (by decide),trivial⟩)
  replace c4:=kj _ _ c4 (NotIn.mem ⟨cell_ne (by decide),trivial⟩)
  replace c5:=kj _ _ c5 (NotIn.mem ⟨cell_ne (by decide),trivial⟩)
  replace c6:=kj _ _ c6 (NotIn.mem ⟨cell_ne (by decide),trivial⟩)
  replace c8:=kj _ _ c8 (NotIn.mem ⟨cell_ne (by decide),trivial⟩)
  replace hnu:=kj _ _ hnu (NotIn.mem ⟨fnu.ne (by decide),trivial⟩)
  replace e9:=kj _ _ e9 (NotIn.mem ⟨f169.ne (by decide),trivial⟩)
  replace e6:=e6.imp fun l e=>kj _ _ e (NotIn.mem ⟨f176.ne (by decide),trivial⟩)
  replace c7:=c7'
  clear c7' tb'
  have tb:=tb2
  clear tb2
  replace kall:KeepsBut [169,176,181] h _:=kall.grow kj ⟨.inl (Nat.le_add_right_of_le gh0),trivial⟩
  replace tp:=top.keepsBut kall fr3
  have zj:N + 9 ≤ hj.objs.size:=Nat.le_trans zi sj
  have fO:Far N O:=.inr (Nat.le_trans zi bO)
  have gO:219 ≤ O:=Nat.le_trans gN9 (Nat.le_trans zi bO)
  have pm:(ys.map (·.1)).Perm [0,1,2,3,4,5]:=by rw [hy]; exact pop6 hx'
  have ly:ys.length = 6:=by have:=pm.length_eq; simpa using this
  have hys:∀ y ∈ ys.map (·.1),0 ≤ y ∧ y < 6:=fun y hm=>by
    exact six_rng y (pm.mem_iff.mp hm)
  have lQ:Q.length = 6:=by have:=congrArg List.length eQ; simpa [bare,pairsN] using this
  have SQ:Stands hj (chFs N L ch pl u v Q e):=fun q hq=>by
    unfold chFs at hq
    simp only [List.mem_cons] at hq
    rcases hq with x | x | x | x | x
    · rw [x]; exact c6
    · rw [x]; exact c5
    · rw [x]; exact c4
    · rw [x]; exact hL
    · obtain ⟨z,hz,rfl⟩:=List.mem_map.mp x
      exact (zQ.mem z hz).1.1
  have hch:0 ≤ ch ∧ ch < 16:=by
    rw [ech]
    exact ⟨Int.fmod_nonneg_of_pos n2 (by decide),Int.fmod_lt_of_pos n2 (by decide)⟩
  have hpl:0 ≤ pl ∧ pl < 6:=by
    rw [epl]
    exact ⟨Int.fmod_nonneg_of_pos _ (by decide),Int.fmod_lt_of_pos _ (by decide)⟩
  have nO:O ≠ N:=fO.ne0
  refine law_s11 F hA hh tp gN (Nat.le_trans gN9 zj) f c7 hO nO hys ly SQ lQ fun hk tkk C Cl ce k4 kk sk bCl hCl hC eC f'=>?_
  have zO:O < hj.objs.size:=Heap.lt_size hO
  have znu:nu < hj.objs.size:=Heap.lt_size hnu
  replace c1:=kk.ob1 f c1 (ty_ne (by decide))
  replace c2:=kk.ob1 f c2 (ty_ne (by decide))
  replace c3:=kk.ob1 f c3 (ty_ne (by decide))
  replace c4:=kk.ob1 f c4 (ty_ne (by decide))
  replace c5:=kk.ob1 f c5 (ty_ne (by decide))
  replace c7:=kk.ob1 f c7 (ty_ne (by decide))
  replace c8:=kk.ob1 f c8 (ty_ne (by decide))
  replace hnu:=kk.ob1 f hnu (ty_ne (by decide))
  replace hO:=kk.ob1 f hO (ty_ne (by decide))
  replace e9:=kk.ob1 f e9 (fun x=>nomatch x)
  replace e6:=kk.exTab f e6
  replace LA:=LA.keepN kk (NotIn.mem ⟨fW.ne0,trivial⟩) (NotIn.mem ⟨fl.ne0,trivial⟩)
  replace i9:=kk.code1 f i9
  replace tb:=tb.frame kk f
  replace f:=f'
  clear f' SQ zQ hL c6
  replace kall:KeepsBut [169,176,181] h _:=kall.grow kk ⟨.inl gh0,trivial⟩
  replace tp:=top.keepsBut kall fr3
  rw [eQ] at eC
  have PL:=plain_six (P:=Pw) (a:=a) (b:=b) (ys:=ys.map (·.1)) RV hch hpl pm (cs:=bare C) (by rw [eC,List.map_map,elg]; rfl)
  have lC:C.length = 6:=by have:=congrArg List.length eC; simpa [bare,ly] using this
  have fCl:Far N Cl:=.inr (Nat.le_trans zj bCl)
  have zk:N + 9 ≤ hk.objs.size:=Nat.le_trans zj sk
  have nC:Cl ≠ N:=fCl.ne0
  have SC:Stands hk (prFs C):=fun q hq=>by
    obtain ⟨z,hz,rfl⟩:=List.mem_map.mp hq
    exact (hC z hz).1
  refine law_s12 F hA hh tp gN (Nat.le_trans gN9 zk) f hCl nC SC PL.r16 lC fun hm tkm ws Wr we k5 km sm bWr hWr ews f'=>?_
  replace c1:=km.ob1 f c1 (ty_ne (by decide))
  replace c2:=km.ob1 f c2 (ty_ne (by decide))
  replace c3:=km.ob1 f c3 (ty_ne (by decide))
  replace c4:=km.ob1 f c4 (ty_ne (by decide))
  replace c5:=km.ob1 f c5 (ty_ne (by decide))
  replace c7:=km.ob1 f c7 (ty_ne (by decide))
  replace c8:=km.ob1 f c8 (ty_ne (by decide))
  replace hnu:=km.ob1 f hnu (ty_ne (by decide))
  replace hO:=km.ob1 f hO (ty_ne (by decide))
  replace e9:=km.ob1 f e9 (fun x=>nomatch x)
  replace e6:=km.exTab f e6
  replace LA:=LA.keepN km (NotIn.mem ⟨fW.ne0,trivial⟩) (NotIn.mem ⟨fl.ne0,trivial⟩)
  replace i9:=km.code1 f i9
  replace tb:=tb.frame km f
  replace f:=f'
  clear f' SC hCl hC
  replace kall:KeepsBut [169,176,181] h _:=kall.grow km ⟨.inl gh0,trivial⟩
  replace tp:=top.keepsBut kall fr3
  have lws:ws.length = 6:=by have:=congrArg List.length ews; simpa [bare,lC] using this
  obtain ⟨⟨f0,s0⟩,⟨f1,s1⟩,⟨f2,s2⟩,⟨f3,s3⟩,⟨f4,s4⟩,⟨f5,s5⟩,rfl⟩:=list6 lws
  have e6f:[f0,f1,f2,f3,f4,f5] = bare C:=ews
  have h16:∀ f ∈ [f0,f1,f2,f3,f4,f5],In16 f.1 ∧ In16 f.2:=fun f hf=>PL.r16 f (e6f ▸ hf)
  have fWr:Far N Wr:=.inr (Nat.le_trans zk bWr)
  have zm:N + 9 ≤ hm.objs.size:=Nat.le_trans zk sm
  have nWr:Wr ≠ N:=fWr.ne0
  have nnu:nu ≠ N:=fnu.ne0
  refine law_s13 F hA hh tp gN f (Nat.le_trans gN9 (Nat.le_trans zk bWr)) hWr nWr hnu nnu h16 fun hn tkn tx k6 u6 m0 m1 m2 m3 m4 m5 kn sn M0 M1 M2 M3 M4 M5 ex lx f'=>?_
  have zWr:Wr < hm.objs.size:=Heap.lt_size hWr
  replace c1:=kn.ob1 f c1 (ty_ne (by decide))
  replace c2:=kn.ob1 f c2 (ty_ne (by decide))
  replace c3:=kn.ob1 f c3 (ty_ne (by decide))
  replace c4:=kn.ob1 f c4 (ty_ne (by decide))
  replace c5:=kn.ob1 f c5 (ty_ne (by decide))
  replace c7:=kn.ob1 f c7 (ty_ne (by decide))
  replace c8:=kn.ob1 f c8 (ty_ne (by decide))
  replace hO:=kn.ob1 f hO (ty_ne (by decide))
  replace hWr:=kn.ob1 f hWr (ty_ne (by decide))
  replace e9:=kn.ob1 f e9 (fun x=>nomatch x)
  replace e6:=kn.exTab f e6
  replace LA:=LA.keepN kn (NotIn.mem ⟨fW.ne0,trivial⟩) (NotIn.mem ⟨fl.ne0,trivial⟩)
  replace i9:=kn.code1 f i9
  replace tb:=tb.frame kn f
  replace f:=f'
  clear f' hnu
  replace kall:KeepsBut [169,176,181] h _:=kall.grow kn ⟨.inl gh0,trivial⟩
  replace tp:=top.keepsBut kall fr3
  have zn:N + 9 ≤ hn.objs.size:=Nat.le_trans zm sn
  refine law_s14 F hA hh tp gN (Nat.le_trans gN9 zn) f e9 i9 lx fun ho tko LL k7 ko so GL SL exx b1' b2' f'=>?_
  have f14:=f
  replace f:=f'
  clear f'
  have kall14:KeepsBut [169,176,181] h ho:=kall.grow ko ⟨.inl gh0,trivial⟩
  have tp14:=top.keepsBut kall14 fr3
  refine law_s15 F hA hh tp14 gN f GL SL (congrArg (fun x=>x.cps.toList) exx) ex M0 M1 M2 M3 M4 M5 h16 (B:=hn.objs.size) (Nat.lt_of_lt_of_le (Nat.lt_add_of_pos_right (by decide)) zn) b1' b2' fun hp tkp Wo k8 r0 r1 r2 r3 r4 r5 k' kp sp bWo hWo SL2 f'=>?_
  have kq:KeepsBut [N] hn hp:=ko.beh (fun q hq=>by
    simp only [List.mem_cons,List.not_mem_nil,or_false] at hq
    rcases hq with x | x | x
    · exact .inr (by rw [x]; exact .head _)
    · exact .inl (by rw [x]; exact b1')
    · exact .inl (by rw [x]; exact b2')) kp
  clear f SL kall14 tp14
  have f:=f14
  clear f14
  replace c1:=kq.ob1 f c1 (ty_ne (by decide))
  replace c2:=kq.ob1 f c2 (ty_ne (by decide))
  replace c3:=kq.ob1 f c3 (ty_ne (by decide))
  replace c4:=kq.ob1 f c4 (ty_ne (by decide))
  replace c5:=kq.ob1 f c5 (ty_ne (by decide))
  replace c7:=kq.ob1 f c7 (ty_ne (by decide))
  replace c8:=kq.ob1 f c8 (ty_ne (by decide))
  replace hO:=kq.ob1 f hO (ty_ne (by decide))
  replace hWr:=kq.ob1 f hWr (ty_ne (by decide))
  replace e9:=kq.ob1 f e9 (fun x=>nomatch x)
  replace e6:=kq.exTab f e6
  replace LA:=LA.keepN kq (NotIn.mem ⟨fW.ne0,trivial⟩) (NotIn.mem ⟨fl.ne0,trivial⟩)
  replace tb:=tb.frame kq f
  replace f:=f'
  clear f' i9
  replace kall:KeepsBut [169,176,181] h _:=kall.grow kq ⟨.inl gh0,trivial⟩
  replace tp:=top.keepsBut kall fr3
  have zo:N + 9 ≤ ho.objs.size:=Nat.le_trans zn so
  have fWo:Far N Wo:=.inr (Nat.le_trans zo bWo)
  have zp:N + 9 ≤ hp.objs.size:=Nat.le_trans zo sp
  have nWW:Wo ≠ Wr:=(nlt (Nat.lt_of_lt_of_le zWr (Nat.le_trans sn (Nat.le_trans so bWo)))).symm
  refine law_s16 F hA hh tp f SL2 ex M0 M1 M2 M3 M4 M5 h16 hWo hWr nWW fun hq tkq kr sq=>?_
  have hWo':hq.get? Wo = some (listO (wrV [(f0,r0),(f1,r1),(f2,r2),(f3,r3),(f4,r4),(f5,r5)]) 6):=kr _ _ hWo
  replace f:=kr _ _ f
  replace c1:=kr _ _ c1
  replace c2:=kr _ _ c2
  replace c3:=kr _ _ c3
  replace c4:=kr _ _ c4
  replace c5:=kr _ _ c5
  replace c7:=kr _ _ c7
  replace c8:=kr _ _ c8
  replace hO:=kr _ _ hO
  replace e9:=kr _ _ e9
  replace e6:=e6.imp fun l e=>kr _ _ e
  replace LA:=LA.keepN kr.but (md:=[]) (fun hm=>nomatch hm) (fun hm=>nomatch hm)
  replace tb:=tb.keeps kr
  clear hWo hWr SL2
  replace kall:KeepsBut [169,176,181] h _:=kall.trans kr.but
  replace tp:=top.keepsBut kall fr3
  have nW8:Wo ≠ N + 8:=fWo.ne (by decide)
  have zq:N + 9 ≤ hq.objs.size:=Nat.le_trans zp sq
  refine law_s17 F hA hh tp gN (Nat.le_trans gN9 zq) f c8 hWo' nW8 h16 rfl fun hr tkr C' Tl te ks ss bTl hTl hC' eC' c8'=>?_
  have k1c:=CellsAt.one c8
  replace LA:=ks.logs k1c LA
  replace tb:=ks.tab k1c tb
  replace f:=ks _ _ f (NotIn.mem ⟨ne_cell0 (by decide),trivial⟩)
  replace c1:=ks _ _ c1 (NotIn.mem ⟨cell_ne (by decide),trivial⟩)
  replace c2:=ks _ _ c2 (NotIn.mem ⟨cell_ne (by decide),trivial⟩)
  replace c3:=ks _ _ c3 (NotIn.mem ⟨cell_ne (by decide),trivial⟩)
  replace c4:=ks _ _ c4 (NotIn.mem ⟨cell_ne (by decide),trivial⟩)
  replace c5:=ks _ _ c5 (NotIn.mem ⟨cell_ne (by decide),trivial⟩)
  replace c7:=ks _ _ c7 (NotIn.mem ⟨cell_ne (by decide),trivial⟩)
  replace hO:=ks _ _ hO (NotIn.mem ⟨fO.ne (by decide),trivial⟩)
  replace e9:=ks _ _ e9 (NotIn.mem ⟨f169.ne (by decide),trivial⟩)
  replace e6:=e6.imp fun l e=>ks _ _ e (NotIn.mem ⟨f176.ne (by decide),trivial⟩)
  replace c8:=c8'
  clear c8' k1c
  replace kall:KeepsBut [169,176,181] h _:=kall.grow ks ⟨.inl (Nat.le_add_right_of_le gh0),trivial⟩
  replace tp:=top.keepsBut kall fr3
  have eCC:bare C' = bare C:=eC'.trans e6f
  rw [← eCC] at PL
  have efst:C'.map (·.2.1.1) = (bare C').map (·.1):=by unfold bare; rw [List.map_map]; rfl
  have lC':C'.length = 6:=by have:=congrArg List.length eC'; simpa [bare] using this
  obtain ⟨pe',es',ep',hW',hl',-,-⟩:=LA.ex
  have zW:W < hr.objs.size:=Heap.lt_size hW'
  have zl:l < hr.objs.size:=Heap.lt_size hl'
  have SM:Stands hr (meFs N Tl W l te C'):=fun q hq=>by
    unfold meFs at hq
    simp only [List.mem_cons] at hq
    rcases hq with x | x | x | x | x
    · rw [x]; exact c8
    · rw [x]; exact c2
    · rw [x]; exact c3
    · rw [x]; exact hTl
    · obtain ⟨z,hz,rfl⟩:=List.mem_map.mp x
      exact (hC' z hz).1
  have GM:∀ q ∈ meFs N Tl W l te C',219 ≤ q.1:=fun q hq=>by
    unfold meFs at hq
    simp only [List.mem_cons] at hq
    rcases hq with x | x | x | x | x
    · rw [x]; exact Nat.le_add_right_of_le gN
    · rw [x]; exact Nat.le_add_right_of_le gN
    · rw [x]; exact Nat.le_add_right_of_le gN
    · rw [x]; exact Nat.le_trans (Nat.le_trans gN9 zq) bTl
    · obtain ⟨z,hz,rfl⟩:=List.mem_map.mp x
      exact Nat.le_trans (Nat.le_trans gN9 zq) (hC' z hz).2
  have nWN:W ≠ N:=fW.ne0
  have nlN:l ≠ N:=fl.ne0
  have zr:N + 9 ≤ hr.objs.size:=Nat.le_trans zq ss
  refine law_s18 F hA hh tp gN (Nat.le_trans gN9 zr) f tb SM GM LA zW zl nWN nlN PL.r16 lC' (by rw [efst]; exact PL.nd) (by rw [efst]; exact PL.mem) fun hs tks vals Me me k9 kt st bMe hMe hlv hv f' e1=>?_
  replace c1:=kt _ _ c1 (NotIn.mem ⟨cell_ne0 (by decide),low_ne (i:=1) gN (by decide),trivial⟩)
  replace c4:=kt _ _ c4 (NotIn.mem ⟨cell_ne0 (by decide),low_ne (i:=4) gN (by decide),trivial⟩)
  replace c5:=kt _ _ c5 (NotIn.mem ⟨cell_ne0 (by decide),low_ne (i:=5) gN (by decide),trivial⟩)
  replace c7:=kt _ _ c7 (NotIn.mem ⟨cell_ne0 (by decide),low_ne (i:=7) gN (by decide),trivial⟩)
  replace hO:=kt _ _ hO (NotIn.mem ⟨fO.ne0,hi_ne gO (by decide),trivial⟩)
  replace e9:=kt _ _ e9 (NotIn.mem ⟨f169.ne0,lows_ne (by decide),trivial⟩)
  replace e6:=e6.imp fun l e=>kt _ _ e (NotIn.mem ⟨f176.ne0,lows_ne (by decide),trivial⟩)
  replace f:=f'
  clear f'
  replace kall:KeepsBut [169,176,181] h _:=kall.grow kt ⟨.inl gh0,.inr (by decide),trivial⟩
  replace tp:=top.keepsBut kall fr3
  have SF:Stands hs (fiFs N O a b tb1 ch pl u v ys oe):=fun q hq=>by
    unfold fiFs at hq
    simp only [List.mem_cons,List.not_mem_nil,or_false] at hq
    rcases hq with x | x | x | x | x
    · rw [x]; exact c1
    · rw [x]; exact c4
    · rw [x]; exact c5
    · rw [x]; exact c7
    · rw [x]; exact hO
  refine law_s19 F hA hh tp (Nat.le_trans gN9 (Nat.le_trans zr st)) f hMe hlv hv SF ly (by rw [elg]; exact PL.fin) fun ht tkt ku=>?_
  exact K ht tkt (kall.trans ku.but) ⟨_,ku _ _ e9⟩ (e6.imp fun l e=>ku _ _ e) (e1.imp fun l e=>ku _ _ e)
end
end Mine
namespace Mine
open PySem PySem.W PySem.W.X PySem.W.ZRun PyProof.Rows
theorem top_gen {K:Params → Frag} {T:Params → KT} {n t:Nat} {w:World} {as:List Addr} {s:Shared} {h:Heap} (eT:∀ P,KT.of (K P) = T P) (e:∀ P,as = (K P).map (·.1)) (y:obsZ as s = valZ K n t w) (keeps:∀ b o,s.heap.get? b = some o → h.get? b = some o) :
    (∀ a o,(T w.params).get a = some o → h.get? a = some o) ∧ Frag.In (K w.params) h ∧ s.heap.objs.size = n:=by
  have f:=z_facts e y
  refine ⟨?_,InK.keeps w s.heap h f.2.1 keeps,f.2.2.1⟩
  rw [← eT]
  intro a o q
  exact kt_at (KT.Holds.keeps keeps (holds_of f.1)) q
theorem ktop_of (P:Params):KT.of (Mine.hd.heap_221 P) = Mine.hd.ktop_431 P:=by kernel_rfl
theorem top_ok {w:World} {h:Heap} (H:∀ a o,(Mine.hd.ktop_431 w.params).get a = some o → h.get? a = some o):TopOk w h ∧ h.get? 169 = some (tabO []) ∧ h.get? 176 = some (tabO []) ∧ h.get? 181 = some (tabO []):=by
  refine ⟨fun a o e=>H a o ?_,H _ _ (by kernel_rfl),H _ _ (by kernel_rfl),H _ _ (by kernel_rfl)⟩
  unfold kt at e
  rw [ktDel_get,ktDel_get,ktDel_get] at e
  split at e
  · cases e
  · split at e
    · cases e
    · split at e
      · cases e
      · exact e
noncomputable def obOf (x:Option Obj):Obj:=x.getD { cls:=.none,data:=.fields #[] }
noncomputable def fsOf (o:Obj):Array Value:=match o.data with
  | .fields vs=>vs
  | _=>#[]
theorem codeTab {w:World} {h:Heap} (H:∀ a o,(Mine.hd.ktop_431 w.params).get a = some o → h.get? a = some o):isCodeTable h 169 ∧ isCodeTable h 176 ∧ isCodeTable h 181 :=
  ⟨⟨173,obOf ((Mine.hd.ktop_431 w.params).get 173),fsOf (obOf ((Mine.hd.ktop_431 w.params).get 173)),H _ _ (by kernel_rfl),by kernel_rfl,by kernel_rfl,by kernel_rfl⟩,
   ⟨178,obOf ((Mine.hd.ktop_431 w.params).get 178),fsOf (obOf ((Mine.hd.ktop_431 w.params).get 178)),H _ _ (by kernel_rfl),by kernel_rfl,by kernel_rfl,by kernel_rfl⟩,
   ⟨183,obOf ((Mine.hd.ktop_431 w.params).get 183),fsOf (obOf ((Mine.hd.ktop_431 w.params).get 183)),H _ _ (by kernel_rfl),by kernel_rfl,by kernel_rfl,by kernel_rfl⟩⟩
theorem asTab {h h':Heap} {b:Addr} {o:Obj} (c:isCodeTable h b) (e0:h.get? b = some (tabO [])) (e:h.get? b = some o) (e':∃ l,h'.get? b = some (tabO l)):asItWas h h' b o ∧ ∃ o',h'.get? b = some o':=by
  have:o = tabO []:=Option.some.inj (e.symm.trans e0)
  subst this
  obtain ⟨l,x⟩:=e'
  exact ⟨.inr (.inl ⟨c,rfl,#[],l.toArray,rfl,by rw [x,Array.empty_append]; rfl⟩),_,x⟩
theorem old_of {h h':Heap} (c:isCodeTable h 169 ∧ isCodeTable h 176 ∧ isCodeTable h 181) (t9:h.get? 169 = some (tabO [])) (t6:h.get? 176 = some (tabO [])) (t1:h.get? 181 = some (tabO [])) (k:KeepsBut [169,176,181] h h')
    (e9:∃ l,h'.get? 169 = some (tabO l)) (e6:∃ l,h'.get? 176 = some (tabO l)) (e1:∃ l,h'.get? 181 = some (tabO l)):OldK h h':=by
  have z:∀ b o,h.get? b = some o → asItWas h h' b o ∧ ∃ o',h'.get? b = some o':=fun b o e=>by
    by_cases n9:b = 169
    · subst n9; exact asTab c.1 t9 e e9
    · by_cases n6:b = 176
      · subst n6; exact asTab c.2.1 t6 e e6
      · by_cases n1:b = 181
        · subst n1; exact asTab c.2.2 t1 e e1
        · have y:=k _ _ e (NotIn.mem ⟨n9,n6,n1,trivial⟩)
          exact ⟨.inl y,o,y⟩
  exact ⟨fun b o e=>(z b o e).1,fun b o e=>(z b o e).2⟩
end Mine
open PySem PySem.W PySem.W.X PySem.W.ZRun PyProof.Rows
theorem PySem.Challenge.cw_qh0009_01_holds : PySem.Challenge.rw_qh0009_01.Holds := by
  refine Mine.hd ?_
  k_fill
  intro w s₀ s₁ mg mb G y fa o pm cd doc dV kV ho hd hcd hD hmg hg args vals as L hpre hlay hrd hwl hlo
  have zf:=Mine.top_gen Mine.ktop_of (fun _=>by kernel_rfl) y L.keeps
  have ZT:=Mine.top_ok zf.1
  have ZC:=Mine.codeTab zf.1
  have KX:=zf.2.1
  have ZN:=zf.2.2
  clear zf
  refine Ground.open G ?_
  intro T B D TE TW
  wrow_args hpre hlay hrd hwl hlo
  obtain ⟨hat,hsz⟩:=script_at L
  rw [ZN] at hat hsz
  subst hat
  x_fa T KX hmg
  all_lens
  z_lists L
  clear TE TW ho hd hcd hD hmg KX y G T B D
  rename IntsAre _ _=>hi9
  rename ¬ _=>h63
  obtain ⟨xs,rfl,rfl⟩:=Mine.ints_of hi9
  have hol9:s₁.heap.get? 219 = some (Mine.listO (Mine.intsV xs) 0):=by assumption
  have hx:xs.length ≤ 900:=by simp only [List.length_map] at h63; lia
  refine wpAny_call ?_
  refine Mine.law_call (h:=s₁.heap) (g:=s₁.gens) (d:=s₁.drawn) (T0:=s₁.toks) (os:=s₁.os) (xs:=xs) (se:=0) ⟨rfl,rfl⟩ ⟨by decide,by decide⟩ rfl ZT.1 (by rw [hsz]; decide) hx hol9 (by decide) ZT.2.1 ZT.2.2.1 ZT.2.2.2 fun h' tk' kb e9 e6 e1=>?_
  refine ⟨.inl ⟨_,_,[],rfl,fun _=>rfl,ReadsW.bool true,?_,fun _=>⟨List.nodup_nil,fun _ hm=>(nomatch hm)⟩⟩,Mine.old_of ZC ZT.2.1 ZT.2.2.1 ZT.2.2.2 kb e9 e6 e1,rfl,by rw [hg]; exact AllBare.empty⟩
  first | rfl | wrow_post
