import PyProof.Rows.All
import Wide.All
import OpenK.AllK
import Wide.FinOn
import PySem.Challenge.RW_kt0013_01
open PySem PySem.W PyProof.Rows
set_option Elab.async false
/-! H1 -/
section
open PySem.Calls
namespace Mine
/-! The rows «name_quick» take the names under which the head's tool would lay its twins of the head's own objects; it then goes on without these twins, whose equations alone (some 30 MB) would take the compiled file over its lid. Each name stands for c0; nothing uses them. -/
def c0 : Str := Str.ofString "a"
theorem e0 : c0 = c0 := rfl
end Mine
name_quick tw5862613129305996887 for Mine.c0 by Mine.e0
name_quick tw15354827327105138587 for Mine.c0 by Mine.e0
name_quick tw10806003884464225371 for Mine.c0 by Mine.e0
name_quick tw18078332981196361678 for Mine.c0 by Mine.e0
name_quick tw7129595607617154998 for Mine.c0 by Mine.e0
name_quick tw1008591678993405311 for Mine.c0 by Mine.e0
name_quick tw9846112800595542673 for Mine.c0 by Mine.e0
name_quick tw14551025553316366130 for Mine.c0 by Mine.e0
name_quick tw16856514767534489073 for Mine.c0 by Mine.e0
name_quick tw14768405112458105970 for Mine.c0 by Mine.e0
name_quick tw15704516226539840998 for Mine.c0 by Mine.e0
name_quick tw1287827532450214225 for Mine.c0 by Mine.e0
name_quick tw15833245739959335678 for Mine.c0 by Mine.e0
name_quick tw16793155729910960964 for Mine.c0 by Mine.e0
name_quick tw133391811864297827 for Mine.c0 by Mine.e0
name_quick tw1197629089841473928 for Mine.c0 by Mine.e0
name_quick tw5706994532643956262 for Mine.c0 by Mine.e0
name_quick tw11130055259020530658 for Mine.c0 by Mine.e0
name_quick tw291350804752711641 for Mine.c0 by Mine.e0
name_quick tw7575164730269109961 for Mine.c0 by Mine.e0
name_quick tw11536644083613237254 for Mine.c0 by Mine.e0
name_quick tw13009752877253176420 for Mine.c0 by Mine.e0
name_quick tw4637248199908368495 for Mine.c0 by Mine.e0
name_quick tw5778960300176388086 for Mine.c0 by Mine.e0
name_quick tw17478606289627460544 for Mine.c0 by Mine.e0
name_quick tw18329712596657649283 for Mine.c0 by Mine.e0
name_quick tw11983863957638067663 for Mine.c0 by Mine.e0
name_quick tw13562767739238806269 for Mine.c0 by Mine.e0
name_quick tw10893650732540050376 for Mine.c0 by Mine.e0
name_quick tw8032124928173399852 for Mine.c0 by Mine.e0
name_quick tw11700982211713124329 for Mine.c0 by Mine.e0
name_quick tw14428298923569436678 for Mine.c0 by Mine.e0
name_quick tw8885325961625721302 for Mine.c0 by Mine.e0
name_quick tw5099864943247406519 for Mine.c0 by Mine.e0
name_quick tw18339201510270639651 for Mine.c0 by Mine.e0
name_quick tw4971463385668131757 for Mine.c0 by Mine.e0
name_quick tw3652405989446960283 for Mine.c0 by Mine.e0
name_quick tw12840343480138914081 for Mine.c0 by Mine.e0
name_quick tw843954744782598207 for Mine.c0 by Mine.e0
name_quick tw17131107228378768856 for Mine.c0 by Mine.e0
name_quick tw7844349415166186613 for Mine.c0 by Mine.e0
name_quick tw15418311254748823562 for Mine.c0 by Mine.e0
name_quick tw13215996710326495527 for Mine.c0 by Mine.e0
name_quick tw12469623357541912527 for Mine.c0 by Mine.e0
name_quick tw14658859246423691292 for Mine.c0 by Mine.e0
name_quick tw2432009361477409145 for Mine.c0 by Mine.e0
name_quick tw11324081020766709789 for Mine.c0 by Mine.e0
name_quick tw10903350719363123360 for Mine.c0 by Mine.e0
name_quick tw8518990377832371349 for Mine.c0 by Mine.e0
name_quick tw10618624962656827065 for Mine.c0 by Mine.e0
name_quick tw11999422149779614104 for Mine.c0 by Mine.e0
name_quick tw7089109267447365240 for Mine.c0 by Mine.e0
name_quick tw13097670218505013338 for Mine.c0 by Mine.e0
name_quick tw11188267000691661465 for Mine.c0 by Mine.e0
name_quick tw14956447989568674048 for Mine.c0 by Mine.e0
name_quick tw17496488777069442926 for Mine.c0 by Mine.e0
name_quick tw13614772965562819028 for Mine.c0 by Mine.e0
name_quick tw13675892413875695128 for Mine.c0 by Mine.e0
name_quick tw10919307485842935197 for Mine.c0 by Mine.e0
name_quick tw9402221747986957752 for Mine.c0 by Mine.e0
name_quick tw17750267353326842614 for Mine.c0 by Mine.e0
name_quick tw2584696231619710329 for Mine.c0 by Mine.e0
name_quick tw13372791414347292154 for Mine.c0 by Mine.e0
name_quick tw8150272777304657946 for Mine.c0 by Mine.e0
name_quick tw4477615293099076011 for Mine.c0 by Mine.e0
name_quick tw18244689647598724223 for Mine.c0 by Mine.e0
name_quick tw8246537700016586304 for Mine.c0 by Mine.e0
name_quick tw17304756510330644588 for Mine.c0 by Mine.e0
name_quick tw13166847477111219644 for Mine.c0 by Mine.e0
name_quick tw1063247774116765685 for Mine.c0 by Mine.e0
name_quick tw12129589921561566868 for Mine.c0 by Mine.e0
name_quick tw2704956534871384043 for Mine.c0 by Mine.e0
name_quick tw7007635322235617869 for Mine.c0 by Mine.e0
name_quick tw12005917666865276989 for Mine.c0 by Mine.e0
name_quick tw5352072271957203407 for Mine.c0 by Mine.e0
name_quick tw17344807423888349135 for Mine.c0 by Mine.e0
name_quick tw10743908857661945119 for Mine.c0 by Mine.e0
name_quick tw2884790495036133452 for Mine.c0 by Mine.e0
name_quick tw14360077637935941279 for Mine.c0 by Mine.e0
name_quick tw11749754864371215882 for Mine.c0 by Mine.e0
name_quick tw18205236136250496166 for Mine.c0 by Mine.e0
name_quick tw2268896531354840007 for Mine.c0 by Mine.e0
name_quick tw15427675682516786355 for Mine.c0 by Mine.e0
name_quick tw17126062511238383412 for Mine.c0 by Mine.e0
name_quick tw596003039168788829 for Mine.c0 by Mine.e0
name_quick tw1069861695205352088 for Mine.c0 by Mine.e0
name_quick tw11465868215752203073 for Mine.c0 by Mine.e0
name_quick tw5214958251236354310 for Mine.c0 by Mine.e0
name_quick tw12329826592962961350 for Mine.c0 by Mine.e0
name_quick tw2783343169445226449 for Mine.c0 by Mine.e0
name_quick tw5703699069271801894 for Mine.c0 by Mine.e0
name_quick tw8903628012200356077 for Mine.c0 by Mine.e0
name_quick tw5421667632521864671 for Mine.c0 by Mine.e0
name_quick tw10608500918176605715 for Mine.c0 by Mine.e0
name_quick tw11358784668413138352 for Mine.c0 by Mine.e0
name_quick tw13853014192596587723 for Mine.c0 by Mine.e0
name_quick tw17714936720498707748 for Mine.c0 by Mine.e0
name_quick tw17618311308905740812 for Mine.c0 by Mine.e0
name_quick tw15570173965832797958 for Mine.c0 by Mine.e0
name_quick tw13930957019644579174 for Mine.c0 by Mine.e0
name_quick tw5008990416732025879 for Mine.c0 by Mine.e0
name_quick tw9777751348046983609 for Mine.c0 by Mine.e0
name_quick tw9598113594350632346 for Mine.c0 by Mine.e0
name_quick tw14591421880442233895 for Mine.c0 by Mine.e0
name_quick tw4136761851063042317 for Mine.c0 by Mine.e0
name_quick tw11648539122148618920 for Mine.c0 by Mine.e0
name_quick tw609505483906808994 for Mine.c0 by Mine.e0
name_quick tw13249510338352010778 for Mine.c0 by Mine.e0
name_quick tw7373883180844304303 for Mine.c0 by Mine.e0
name_quick tw15533236150367150969 for Mine.c0 by Mine.e0
name_quick tw13128929351288350734 for Mine.c0 by Mine.e0
name_quick tw15804528255648908628 for Mine.c0 by Mine.e0
name_quick tw11237849757958713327 for Mine.c0 by Mine.e0
name_quick tw2934906853913101400 for Mine.c0 by Mine.e0
name_quick tw1510659369374143720 for Mine.c0 by Mine.e0
name_quick tw16425224109423748015 for Mine.c0 by Mine.e0
name_quick tw12062912651917470381 for Mine.c0 by Mine.e0
name_quick tw12570315995704253936 for Mine.c0 by Mine.e0
name_quick tw16068142874477992213 for Mine.c0 by Mine.e0
name_quick tw2225718852624983509 for Mine.c0 by Mine.e0
name_quick tw8659961355950229918 for Mine.c0 by Mine.e0
name_quick tw13448851924110157138 for Mine.c0 by Mine.e0
name_quick tw4875480667431797607 for Mine.c0 by Mine.e0
name_quick tw13336470848016781804 for Mine.c0 by Mine.e0
name_quick tw13464315786124767661 for Mine.c0 by Mine.e0
name_quick tw284053897563383374 for Mine.c0 by Mine.e0
name_quick tw14670667568611693687 for Mine.c0 by Mine.e0
name_quick tw1698688155243011293 for Mine.c0 by Mine.e0
name_quick tw3370268610727052791 for Mine.c0 by Mine.e0
name_quick tw1299162592399239794 for Mine.c0 by Mine.e0
name_quick tw6444067429098073548 for Mine.c0 by Mine.e0
name_quick tw18211578699353129776 for Mine.c0 by Mine.e0
name_quick tw10371746638064090622 for Mine.c0 by Mine.e0
name_quick tw15716385841256266122 for Mine.c0 by Mine.e0
name_quick tw17680098708478610450 for Mine.c0 by Mine.e0
name_quick tw877753945534066849 for Mine.c0 by Mine.e0
name_quick tw13702920944788503237 for Mine.c0 by Mine.e0
name_quick tw3477067923529273576 for Mine.c0 by Mine.e0
name_quick tw553577388901996005 for Mine.c0 by Mine.e0
name_quick tw1009105896914248516 for Mine.c0 by Mine.e0
name_quick tw11392233245325385751 for Mine.c0 by Mine.e0
name_quick tw11506074774372067011 for Mine.c0 by Mine.e0
name_quick tw14899728644556584952 for Mine.c0 by Mine.e0
name_quick tw313738398078233707 for Mine.c0 by Mine.e0
name_quick tw10260245536519610198 for Mine.c0 by Mine.e0
name_quick tw3682994429573665830 for Mine.c0 by Mine.e0
name_quick tw16997741161696923881 for Mine.c0 by Mine.e0
name_quick tw17751503765221109841 for Mine.c0 by Mine.e0
name_quick tw11222239149027742855 for Mine.c0 by Mine.e0
name_quick tw13235049343590164577 for Mine.c0 by Mine.e0
name_quick tw15727861810578988968 for Mine.c0 by Mine.e0
name_quick tw17449061964224192865 for Mine.c0 by Mine.e0
name_quick tw11701208416291611643 for Mine.c0 by Mine.e0
name_quick tw7131849763744551576 for Mine.c0 by Mine.e0
name_quick tw180475787027609891 for Mine.c0 by Mine.e0
name_quick tw6082628621074499416 for Mine.c0 by Mine.e0
name_quick tw2131021054956368371 for Mine.c0 by Mine.e0
name_quick tw4933064582048509949 for Mine.c0 by Mine.e0
name_quick tw10377855229563016496 for Mine.c0 by Mine.e0
name_quick tw16364760035808253298 for Mine.c0 by Mine.e0
name_quick tw14670464588386242811 for Mine.c0 by Mine.e0
name_quick tw8253006280267429822 for Mine.c0 by Mine.e0
name_quick tw13711133008101013204 for Mine.c0 by Mine.e0
name_quick tw3352434767676700762 for Mine.c0 by Mine.e0
name_quick tw8588293180673883722 for Mine.c0 by Mine.e0
name_quick tw7690986043416939100 for Mine.c0 by Mine.e0
name_quick tw5334386713401785774 for Mine.c0 by Mine.e0
name_quick tw7949069707495152967 for Mine.c0 by Mine.e0
name_quick tw15852315923206353849 for Mine.c0 by Mine.e0
name_quick tw4509652007407125100 for Mine.c0 by Mine.e0
name_quick tw1870780558134250502 for Mine.c0 by Mine.e0
name_quick tw12682182765813676243 for Mine.c0 by Mine.e0
name_quick tw4974770919227396964 for Mine.c0 by Mine.e0
name_quick tw1118380025596878535 for Mine.c0 by Mine.e0
name_quick tw1669553125712628214 for Mine.c0 by Mine.e0
name_quick tw13262580684363698911 for Mine.c0 by Mine.e0
name_quick tw14209768326251236390 for Mine.c0 by Mine.e0
name_quick tw7470059276920539720 for Mine.c0 by Mine.e0
name_quick tw2057303201173809733 for Mine.c0 by Mine.e0
name_quick tw10007860550824802881 for Mine.c0 by Mine.e0
name_quick tw9907429398372631323 for Mine.c0 by Mine.e0
name_quick tw4135343998106512434 for Mine.c0 by Mine.e0
name_quick tw11831241310720685408 for Mine.c0 by Mine.e0
name_quick tw5797686984208026722 for Mine.c0 by Mine.e0
name_quick tw14647661531485988043 for Mine.c0 by Mine.e0
name_quick tw13161375390515668107 for Mine.c0 by Mine.e0
name_quick tw1808655794427836594 for Mine.c0 by Mine.e0
name_quick tw15693038049493890576 for Mine.c0 by Mine.e0
name_quick tw15565134849827472031 for Mine.c0 by Mine.e0
name_quick tw12745190063466692059 for Mine.c0 by Mine.e0
name_quick tw7397575635620821188 for Mine.c0 by Mine.e0
name_quick tw10762222046896805796 for Mine.c0 by Mine.e0
name_quick tw10369731996879318276 for Mine.c0 by Mine.e0
name_quick tw7874732748533128188 for Mine.c0 by Mine.e0
name_quick tw17718962311435039450 for Mine.c0 by Mine.e0
name_quick tw4927762302042695524 for Mine.c0 by Mine.e0
name_quick tw17934408848063597218 for Mine.c0 by Mine.e0
name_quick tw12097717771837545998 for Mine.c0 by Mine.e0
name_quick tw7404071314897652624 for Mine.c0 by Mine.e0
name_quick tw926956319355377399 for Mine.c0 by Mine.e0
name_quick tw1921589902669450811 for Mine.c0 by Mine.e0
name_quick tw11645560449059478099 for Mine.c0 by Mine.e0
name_quick tw18245556744150951986 for Mine.c0 by Mine.e0
name_quick tw2425531720796138528 for Mine.c0 by Mine.e0
name_quick tw15248377648079137944 for Mine.c0 by Mine.e0
name_quick tw1231124079332501694 for Mine.c0 by Mine.e0
name_quick tw8691599530273895020 for Mine.c0 by Mine.e0
name_quick tw3030962165756191963 for Mine.c0 by Mine.e0
name_quick tw3272300045247844334 for Mine.c0 by Mine.e0
name_quick tw14264856886125997069 for Mine.c0 by Mine.e0
name_quick tw1218732035548998364 for Mine.c0 by Mine.e0
name_quick tw6896936597507365493 for Mine.c0 by Mine.e0
name_quick tw1094467089835695497 for Mine.c0 by Mine.e0
name_quick tw1271514398098317949 for Mine.c0 by Mine.e0
name_quick tw12015271473781274011 for Mine.c0 by Mine.e0
name_quick tw17646204313064917865 for Mine.c0 by Mine.e0
name_quick tw8252085637166379869 for Mine.c0 by Mine.e0
name_quick tw11809984029533837079 for Mine.c0 by Mine.e0
name_quick tw13818164756490320166 for Mine.c0 by Mine.e0
name_quick tw4529692330338626853 for Mine.c0 by Mine.e0
name_quick tw10836974391452023379 for Mine.c0 by Mine.e0
name_quick tw8529787262545201950 for Mine.c0 by Mine.e0
name_quick tw12866314602238338352 for Mine.c0 by Mine.e0
name_quick tw5005335111616897818 for Mine.c0 by Mine.e0
name_quick tw6087635512173122895 for Mine.c0 by Mine.e0
name_quick tw496357084505567709 for Mine.c0 by Mine.e0
name_quick tw15452006975363604306 for Mine.c0 by Mine.e0
name_quick tw17216502542315745678 for Mine.c0 by Mine.e0
name_quick tw11843451721233248605 for Mine.c0 by Mine.e0
name_quick tw14312145349943877496 for Mine.c0 by Mine.e0
name_quick tw12454554987020006489 for Mine.c0 by Mine.e0
name_quick tw15859027593277215135 for Mine.c0 by Mine.e0
name_quick tw3144139287448810463 for Mine.c0 by Mine.e0
name_quick tw8172455901200609384 for Mine.c0 by Mine.e0
name_quick tw4501705918320356657 for Mine.c0 by Mine.e0
name_quick tw4816401322698330585 for Mine.c0 by Mine.e0
name_quick tw17588449751737226462 for Mine.c0 by Mine.e0
name_quick tw6992239286780995205 for Mine.c0 by Mine.e0
name_quick tw14445932539835805919 for Mine.c0 by Mine.e0
name_quick tw5854363426372139422 for Mine.c0 by Mine.e0
name_quick tw7408177269065775097 for Mine.c0 by Mine.e0
name_quick tw3797041334608304331 for Mine.c0 by Mine.e0
name_quick tw15773100308012947202 for Mine.c0 by Mine.e0
name_quick tw14827505668179184459 for Mine.c0 by Mine.e0
name_quick tw9192509668861924104 for Mine.c0 by Mine.e0
name_quick tw7680888848003032371 for Mine.c0 by Mine.e0
name_quick tw7731287907163167411 for Mine.c0 by Mine.e0
name_quick tw14612185682799312558 for Mine.c0 by Mine.e0
name_quick tw17336413187082509144 for Mine.c0 by Mine.e0
name_quick tw3866821064242243505 for Mine.c0 by Mine.e0
name_quick tw12812095261618169422 for Mine.c0 by Mine.e0
name_quick tw8352924758193591233 for Mine.c0 by Mine.e0
name_quick tw6174860953716452917 for Mine.c0 by Mine.e0
name_quick tw6387708783617254810 for Mine.c0 by Mine.e0
name_quick tw17432578491323059126 for Mine.c0 by Mine.e0
name_quick tw3881075089001057721 for Mine.c0 by Mine.e0
name_quick tw2655705204281083596 for Mine.c0 by Mine.e0
name_quick tw1649987878297521235 for Mine.c0 by Mine.e0
name_quick tw1035558056609177096 for Mine.c0 by Mine.e0
name_quick tw15002512565315143657 for Mine.c0 by Mine.e0
name_quick tw1563109354550095954 for Mine.c0 by Mine.e0
name_quick tw264452364336339650 for Mine.c0 by Mine.e0
name_quick tw8540136001028995046 for Mine.c0 by Mine.e0
name_quick tw4054399014561606979 for Mine.c0 by Mine.e0
name_quick tw17296356803798490453 for Mine.c0 by Mine.e0
name_quick tw4239311291335743745 for Mine.c0 by Mine.e0
name_quick tw11279715604755575093 for Mine.c0 by Mine.e0
name_quick tw12782700922887006624 for Mine.c0 by Mine.e0
name_quick tw14248282299942751024 for Mine.c0 by Mine.e0
name_quick tw10540586102932227175 for Mine.c0 by Mine.e0
name_quick tw9355012425258891288 for Mine.c0 by Mine.e0
name_quick twCLEAN for Mine.c0 by Mine.e0
set_option maxRecDepth 100000
set_option maxHeartbeats 8000000
namespace Mine
open_top headOf for PySem.Challenge.rw_kt0013_01
/-- the head leaves the top lines on: the contracts are walked without them -/
theorem top_off : True := by
  w_top off
  trivial
end Mine
end
section
local macro_rules | `(tactic| walk_at $s:str) => `(tactic| k_extra $s)
section
local macro_rules | `(tactic| omega) => `(tactic| lia)
/-! Base1 -/
section
open PySem.Calls
set_option maxHeartbeats 1000000
set_option maxRecDepth 100000
namespace Mine
/-- all objects stay -/
abbrev Kp (h h' : Heap) : Prop := ∀ b o, h.get? b = some o → h'.get? b = some o
theorem Kp.refl (h : Heap) : Kp h h := fun _ _ e => e
theorem Kp.trans {h h' h'' : Heap} (a : Kp h h') (b : Kp h' h'') : Kp h h'' := fun x o e => b x o (a x o e)
theorem Kp.push {h h' : Heap} (a : Kp h h') (o : Obj) : Kp h (h'.push o) := fun x _ e => Heap.get?_push_of_some o (a x _ e)
theorem fr_kp {g h h' : Heap} {L : Addr} {m : Str → Option Value} (F : Fr g L h m) (k : Kp h h') : Fr g L h' m := ⟨F.ns.keeps k, fun b o e => k b o (F.keep b o e), F.above⟩
theorem news_kp {g h h' : Heap} {L : Addr} {n : List (Addr × Obj)} (N : News g L h n) (k : Kp h h') : News g L h' n := fun p hp => ⟨k _ _ (N p hp).1, (N p hp).2⟩
theorem list_kp {h h' : Heap} {a : Addr} {vs : Array Value} (x : h.IsList a vs) (k : Kp h h') : h'.IsList a vs := x.at fun o e => k a o e
section
variable {prog : Program} {w : World} {A : Around} {s : Shared} {K : Frag}
theorem code_dir {R : Result → Shared → Prop} {name qual : Str} {params : Arguments} {body : List Stmt} {scope : Scope} {dV kV doc pm cdv ct oc : Value} {an od : Option Addr} {osl : Array (Option Value)} {f : Addr} {args : Args} {binds : List (Str × Value)}
    (X : K.In s.heap) (hlim : s.heap.NoLimit)
    (ho : K.lookup f = some ⟨oc, od, .func (fnOf name qual params body scope dV kV doc pm an cdv ct), osl⟩) (hcd : codeIn K cdv qual = true) (hroom : A.depth < recursionLimit)
    (hbind : BindsTo s (fnOf name qual params body scope dV kV doc pm an cdv ct) args binds) (hloc : ∀ y ∈ binds, scope.names.lookup y.1 = some .local)
    (h : ∀ L h₁, Fr s.heap L h₁ (fun y => binds.reverse.lookup y) →
      wpAny (model prog w) (A.deeper (envOf qual scope L f cdv)) (execs body (envOf qual scope L f cdv))
        (fun fl s' => R (.ok (.ret (match fl with | .ret v => v | _ => .none))) s') (fun _ _ => False) { s with heap := h₁, toks := s.toks + binds.length })
    (hco : scope.isCoroutine = false) (hgen : scope.isGenerator = false) (hk : scope.kind = .function)
    (hcell : ∀ x ∈ scope.names, x.2 ≠ .cell) : codeAny (model prog w) A (.call (.ref f) args) R s :=
  codeAny_call_def (fd := fnOf name qual params body scope dV kV doc pm an cdv ct) (body := body) (binds := binds) hroom (X _ _ ho) rfl hlim (codeRec_of X hcd) rfl hbind hcell hloc
    (fun h₁ hns hk₁ => wpAny_mono (h s.heap.objs.size h₁ ⟨hns, hk₁, Nat.le_refl _⟩) (fun _ _ z => z) fun _ _ z => z.elim) hco hgen hk
theorem code_dirC {R : Result → Shared → Prop} {name qual : Str} {params : Arguments} {body : List Stmt} {scope : Scope} {dV kV doc pm cdv ct oc : Value} {an od : Option Addr} {osl : Array (Option Value)} {f : Addr} {args : Args} {binds : List (Str × Value)}
    (X : K.In s.heap) (hlim : s.heap.NoLimit)
    (ho : K.lookup f = some ⟨oc, od, .func (fnOf name qual params body scope dV kV doc pm an cdv ct), osl⟩) (hcd : codeIn K cdv qual = true) (hroom : A.depth < recursionLimit)
    (hbind : BindsTo s (fnOf name qual params body scope dV kV doc pm an cdv ct) args binds) (hkind : (binds.all fun y => scope.names.lookup y.1 == some .local || scope.names.lookup y.1 == some .cell) = true)
    (hnd : ((cellsFrom 0 scope.names []).map (·.1)).Nodup)
    (h : ∀ L h₁ tk cells, Fr s.heap L h₁ (bindL (envOfC qual scope L f cdv).kindOf binds fun _ => none) → News s.heap L h₁ cells →
      CellsAre (bindC (envOfC qual scope L f cdv).kindOf binds fun _ => none) (cellsFrom (L + 1) scope.names []) cells →
      wpAny (model prog w) (A.deeper (envOfC qual scope L f cdv)) (execs body (envOfC qual scope L f cdv))
        (fun fl s' => R (.ok (.ret (match fl with | .ret v => v | _ => .none))) s') (fun _ _ => False) { s with heap := h₁, toks := tk })
    (hco : scope.isCoroutine = false) (hgen : scope.isGenerator = false) (hk : scope.kind = .function) : codeAny (model prog w) A (.call (.ref f) args) R s := by
  refine codeAny_call_function (fd := fnOf name qual params body scope dV kV doc pm an cdv ct) hroom (X _ _ ho) rfl hco hgen rfl (codeRec_of X hcd) (hbind _ _ _ _ ?_)
  refine wpAny_newFunctionEnv_cells hk (kindsX hkind _) fun env' he s' x => ?_
  subst he
  refine ⟨hlim.keeps x.toInCall.keep, codeAny_func ?_⟩
  obtain ⟨h₁, tk, rfl, _⟩ := x.done
  have hk₁ := x.toInCall.keep
  obtain ⟨cells, NC, Y⟩ := Cl.news (h₀ := s.heap) (Nat.le_refl _) fun n c hm => ⟨x.cell n c (lookup_of_mem_nodup (cellsFrom_names scope.names 0 (s.heap.objs.size + 1) [] [] rfl ▸ hnd) hm), x.above n c hm⟩
  exact wpAny_mono (h s.heap.objs.size h₁ tk cells ⟨x.toInCall.ns, hk₁, Nat.le_refl _⟩ NC Y) (fun _ _ z => z) fun _ _ z => z.elim
end
end Mine
end
/-! Base2 -/
section
open PySem.Calls
set_option maxHeartbeats 1000000
set_option maxRecDepth 100000
namespace Mine
section
variable {prog : Program} {w : World} {A : Around} {E : Value → Shared → Prop} {s : Shared} {env : Env}
/-- xv, met at the state s₁, is walked: n items, the i-th as P says -/
def Iters (prog : Program) (w : World) (A : Around) (xv : Value) (s₁ : Shared) (n : Nat) (P : Nat → Value → Prop) : Prop :=
  ∀ (Q : Value → Shared → Prop) (E : Value → Shared → Prop), (∀ I fp wr St h tk, Walks prog w A I fp wr n P St → St 0 h → (∀ b ∈ fp, b < h.objs.size) → (∀ b ∈ wr, s₁.heap.get? b = none) → Kp s₁.heap h →
    s₁.heap.objs.size ≤ h.objs.size → Q (.ref I) { s₁ with heap := h, toks := tk }) → wpAny (model prog w) A (pyIter xv) Q E s₁
theorem iters_list {l : Addr} {items : Array Value} (hh : A.handled = none) (hl : s.heap.IsList l items) : Iters prog w A (.ref l) s items.size (fun i v => items[i]? = some v) := by
  intro Q E h
  obtain ⟨ol, hol, _⟩ := id hl
  have hlt : l < s.heap.objs.size := Heap.lt_size hol
  refine wpAny_pyIter_list hl ?_
  refine h s.heap.objs.size [s.heap.objs.size, l] [s.heap.objs.size] _ _ s.toks (Walks.list hh _ l (Nat.ne_of_lt hlt) items) ⟨⟨_, Heap.get?_push_size _ rfl, rfl, rfl⟩, hl.push _⟩ ?_ ?_ (Kp.refl _ |>.push _) (by rw [Heap.size_push]; omega)
  · intro b hb
    rw [Heap.size_push]
    rcases List.mem_cons.mp hb with rfl | hb
    · exact Nat.lt_succ_self _
    · rw [List.mem_singleton.mp hb]; exact Nat.lt_succ_of_lt hlt
  · intro b hb
    rw [List.mem_singleton.mp hb]
    exact Heap.get?_none_of_le (Nat.le_refl _)
theorem iters_range {r : Addr} {n : Nat} {t u v : Tok} (hh : A.handled = none) (hr : IsRange s.heap r 0 (n : Int) 1 t u v) (hn : n < 2 ^ 60) :
    Iters prog w A (.ref r) s n (fun i v => i < n ∧ ∃ t, v = .int (i : Int) t) := by
  intro Q E h
  have hsm : Builtin.Range.small 0 (n : Int) 1 = true := small_one (by omega) (by omega) (by omega) (by omega)
  have hsz : Builtin.Range.rangeSize 0 (n : Int) 1 = n := by
    rw [rangeSize_one]; split <;> omega
  refine wpAny_pyIter_range hr hsm ?_
  rw [hsz]
  have W := Walks.range (prog := prog) (w := w) hh s.heap.objs.size 0 1 n
  refine h s.heap.objs.size [s.heap.objs.size] [s.heap.objs.size] _ _ s.toks ⟨W.sub, W.frame, fun i s' Q E hi st hQ => W.item i s' Q E hi st (fun v h' tk hP => hQ v h' tk (by obtain ⟨t, e⟩ := hP; exact ⟨hi, t, by rw [e]; simp⟩)), W.done, W.self⟩ ?_ ?_ ?_ (Kp.refl _ |>.push _) (by rw [Heap.size_push]; omega)
  · have : IsRangeIter (s.heap.push { cls := .type "range_iterator", data := .fields #[rawInt 0, rawInt n, rawInt 1] }) s.heap.objs.size 0 n 1 := Heap.get?_push_size _ rfl
    simpa using this
  · intro b hb
    rw [List.mem_singleton.mp hb, Heap.size_push]
    exact Nat.lt_succ_self _
  · intro b hb
    rw [List.mem_singleton.mp hb]
    exact Heap.get?_none_of_le (Nat.le_refl _)
theorem hold_below {h₁ h : Heap} (k : Kp h₁ h) {wr : List Addr} (hw : ∀ b ∈ wr, h₁.get? b = none) {h₂ : Heap} (k₂ : ∀ b o, b ∉ wr → h.get? b = some o → h₂.get? b = some o) : Kp h₁ h₂ := fun b o e =>
  k₂ b o (fun hb => by rw [hw b hb] at e; cases e) (k b o e)
/-- ends of a part, hidden from the walk -/
def EndAt (fl : Flow) (P : Prop) : Prop := fl = Flow.next ∧ P
def TestAt (b c : Bool) (s s' : Shared) : Prop := b = c ∧ Keeps s s'
def ValAt (v : Value) (P : Value → Prop) (s s' : Shared) : Prop := P v ∧ Keeps s s'
/-- what is to be shown of a comprehension's turn, behind its source -/
structure LcAt (prog : Program) (w : World) (A : Around) (env : Env) (scope : Scope) (cl : List (Str × Addr)) (x : Str) (ifs : List Expr) (elt : Expr) (n : Nat) (P : Nat → Value → Prop) (p : Value → Bool) (F : Value → Value → Prop)
    (K : Addr → Array Value → Heap → Nat → Prop) (xv : Value) (s₁ : Shared) : Prop where
  it : Iters prog w A xv s₁ n P
  tests : ∀ C i v s₃ m₃ E', P i v → Fr s₁.heap C s₃.heap m₃ → m₃ x = some v →
        wpAny (model prog w) A (forIn ifs true fun c r => if r = true then do let ok ← isTrue c (compEnvC scope cl C env) (eval c (compEnvC scope cl C env)); pure (ForInStep.yield ok) else pure (ForInStep.yield r))
          (fun ok s₄ => TestAt ok (p v) s₃ s₄) E' s₃
  elt : ∀ C i v s₃ m₃ E', P i v → p v = true → Fr s₁.heap C s₃.heap m₃ → m₃ x = some v → wpAny (model prog w) A (eval elt (compEnvC scope cl C env)) (fun y s₄ => ValAt y (F v) s₃ s₄) E' s₃
  fin : ∀ D h' tk ys (vs : List Value), s₁.heap.get? D = none → h'.PlainList D ys → vs.length = n → (∀ j v, vs[j]? = some v → P j v) → Paired F (vs.filter p) ys.toList → K D ys h' tk
/-- a comprehension that makes a list of values (the values bear no fact of the heap) -/
theorem lc_val {elt iter : Expr} {x : Str} {px : Pos} {ifs : List Expr} {scope : Scope} {cl : List (Str × Addr)} {pos : Pos} {Q : Value → Shared → Prop} (n : Nat) (P : Nat → Value → Prop) (p : Value → Bool) (F : Value → Value → Prop)
    (hclos : closureFor scope env = pure cl) (hcell : ∀ y ∈ scope.names, y.2 ≠ .cell) (hkind : scope.kind = .function)
    (hnames : ∀ y ∈ scope.names, y.2 = .local → scope.names.lookup y.1 = some .local) (hx : scope.names.lookup x = some .local) (hsz : n ≤ sizeLine)
    (h : wpAny (model prog w) A (eval iter env) (fun xv s₁ => LcAt prog w A env scope cl x ifs elt n P p F (fun D _ h' tk => Kp s₁.heap h' → Q (.ref D) { s₁ with heap := h', toks := tk }) xv s₁) E s)
    (hs : ∀ x, foldedSetIterable iter env x = pure x := by intro _; rfl) :
    wpAny (model prog w) A (eval (.ListComp elt [⟨.Name x px, iter, ifs, 0⟩] scope pos) env) Q E s := by
  refine wpAny_ListComp_free p F hclos hcell hkind hnames hx (wpAny_mono h (fun xv s₁ h₁ => ?_) fun _ _ e => e) hs
  obtain ⟨hit, ht, he, hq⟩ := h₁
  refine hit _ _ fun I fp wr St h₂ tk₂ W hst hfp hwr hk hle => ?_
  refine ⟨I, fp, wr, n, P, St, rfl, W, hsz, hst, hfp, ⟨?_, ?_⟩, ?_⟩
  · intro C i v s₃ m₃ E' hC hP hn hm hk₃ _
    exact ht C i v s₃ m₃ E' hP ⟨hn, hold_below hk hwr hk₃, Nat.le_trans hle hC⟩ hm
  · intro C i v s₃ m₃ E' hC hP hp hn hm hk₃ _
    exact he C i v s₃ m₃ E' hP hp ⟨hn, hold_below hk hwr hk₃, Nat.le_trans hle hC⟩ hm
  · intro D h' tk ys vs hD _ hpl hlen hP hF hk₃
    refine hq D h' tk ys vs ?_ hpl hlen hP hF (hold_below hk hwr hk₃)
    cases e : s₁.heap.get? D with
    | none => rfl
    | some o => have := hk _ _ e; rw [hD] at this; cases this
def AsAt (R : (Str → Option Value) → Prop) : Prop := ∃ m, R m
/-- the same, stored under a name of the frame -/
theorem as_val {elt iter : Expr} {x y : Str} {px py : Pos} {ifs : List Expr} {scope : Scope} {cl : List (Str × Addr)} {pos spos : Pos} {Q : Flow → Shared → Prop} (n : Nat) (P : Nat → Value → Prop) (p : Value → Bool) (F : Value → Value → Prop)
    (hsw : swapsWith (.ListComp elt [⟨.Name x px, iter, ifs, 0⟩] scope pos) (some (.Name y py)) spos.line env = pure true)
    (hclos : closureFor scope env = pure cl) (hcell : ∀ z ∈ scope.names, z.2 ≠ .cell) (hkind : scope.kind = .function)
    (hnames : ∀ z ∈ scope.names, z.2 = .local → scope.names.lookup z.1 = some .local) (hx : scope.names.lookup x = some .local) (hsz : n ≤ sizeLine)
    (hy : env.kindOf y = some .local) (hp : (env.scope.kind == .class || (env.scope.kind == .module && env.locals != env.globals)) = false)
    (h : wpAny (model prog w) A (eval iter env) (fun xv s₁ => AsAt fun m => s₁.heap.Ns env.locals m ∧ LcAt prog w A env scope cl x ifs elt n P p F
      (fun D ys h' tk => h'.Ns env.locals (fun z => if z = y then some (.ref D) else m z) → (∀ b o, b ≠ env.locals → s₁.heap.get? b = some o → h'.get? b = some o) → Q .next { s₁ with heap := h', toks := tk }) xv s₁) E s)
    (hs : ∀ x, foldedSetIterable iter env x = pure x := by intro _; rfl) :
    wpAny (model prog w) A (exec (.Assign [.Name y py] (.ListComp elt [⟨.Name x px, iter, ifs, 0⟩] scope pos) spos) env) Q E s := by
  refine wpAny_Assign_ListComp_free p F hsw hclos hcell hkind hnames hx hy hp (wpAny_mono h (fun xv s₁ h₁ => ?_) fun _ _ e => e) hs
  obtain ⟨m, hns, hit, ht, he, hq⟩ := h₁
  refine hit _ _ fun I fp wr St h₂ tk₂ W hst hfp hwr hk hle => ?_
  refine ⟨I, fp, wr, n, P, St, m, rfl, W, hsz, hst, hfp, ?_, hns.keeps hk, ⟨?_, ?_⟩, ?_⟩
  · intro hb
    obtain ⟨o, _, _, e, _⟩ := hns
    rw [hwr _ hb] at e; cases e
  · intro C i v s₃ m₃ E' hC hP hn hm hk₃ _
    exact ht C i v s₃ m₃ E' hP ⟨hn, hold_below hk hwr hk₃, Nat.le_trans hle hC⟩ hm
  · intro C i v s₃ m₃ E' hC hP hp hn hm hk₃ _
    exact he C i v s₃ m₃ E' hP hp ⟨hn, hold_below hk hwr hk₃, Nat.le_trans hle hC⟩ hm
  · intro D h' tk ys vs hD _ hpl hlen hP hF hns' hk₃
    refine hq D h' tk ys vs ?_ hpl hlen hP hF hns' fun b o hb e => hk₃ b o hb (fun hw => by rw [hwr b hw] at e; cases e) (hk b o e)
    cases e : s₁.heap.get? D with
    | none => rfl
    | some o => have := hk _ _ e; rw [hD] at this; cases this
end
section
variable {prog : Program} {w : World} {A : Around} {E : Value → Shared → Prop} {s : Shared} {env : Env} {g : Heap} {C : Addr} {m : Str → Option Value} {news : List (Addr × Obj)}
/-- names within a comprehension's block -/
theorem nm_cell {M : Model} {x : Str} {pos : Pos} {c : Addr} {v : Value} {Q : Value → Shared → Prop} (F : Fr g C s.heap m) (hv : g.IsCell c (some v)) (h : Q v s) (hk : env.scope.kind = .function) (hl : env.kindOf x = some .cell) (hc : env.cells.lookup x = some c)
    (hd : (x == ("__debug__" : Str)) = false) : wpAny M A (eval (.Name x pos) env) Q E s := wpAny_Name (wpAny_loadName_cell hk hl hc (hv.keeps F.keep) h) hd
theorem nm_loc {M : Model} {x : Str} {pos : Pos} {v : Value} {Q : Value → Shared → Prop} (F : Fr g env.locals s.heap m) (hv : m x = some v) (h : Q v s) (hk : env.scope.kind = .function) (hl : env.kindOf x = some .local)
    (hd : (x == ("__debug__" : Str)) = false) : wpAny M A (eval (.Name x pos) env) Q E s := wpAny_Name (wpAny_loadName_local hk hl F.ns hv h) hd
theorem news_add {h h' : Heap} {D : Addr} {o : Obj} (F : Fr g C h m) (N : News g C h' news) (hn : h.get? D = none) (e : h'.get? D = some o) : News g C h' ((D, o) :: news) := fun p hp => by
  rcases List.mem_cons.mp hp with rfl | hp
  · refine ⟨e, ?_, ?_⟩
    · rintro rfl
      obtain ⟨oL, _, _, eL, _⟩ := F.ns
      rw [hn] at eL; cases eL
    · cases q : g.get? D with
      | none => rfl
      | some o' => have := F.keep _ _ q; rw [hn] at this; cases this
  · exact N p hp
theorem cell_of {h : Heap} {c : Addr} {o : Obj} {v : Option Value} (N : News g C h news) (hm : (c, o) ∈ news) (hd : o.data = .cell v) : h.IsCell c v := ⟨o, (N _ hm).1, hd⟩
theorem fr_put {h h' : Heap} {m' : Str → Option Value} (F : Fr g C h m) (ns : h'.Ns C m') (k : ∀ b o, b ≠ C → h.get? b = some o → h'.get? b = some o) : Fr g C h' m' :=
  ⟨ns, fun b o e => k b o (fun hb => Nat.lt_irrefl C (Nat.lt_of_lt_of_le (hb ▸ Heap.lt_size e) F.above)) (F.keep b o e), F.above⟩
theorem news_put {h h' : Heap} (N : News g C h news) (k : ∀ b o, b ≠ C → h.get? b = some o → h'.get? b = some o) : News g C h' news := fun p hp => ⟨k _ _ (N p hp).2.1 (N p hp).1, (N p hp).2⟩
theorem news_add2 {h h' : Heap} {D : Addr} {o : Obj} {m' : Str → Option Value} (F : Fr g C h m) (N : News g C h news) (ns : h'.Ns C m') (k : ∀ b o, b ≠ C → h.get? b = some o → h'.get? b = some o) (hn : h.get? D = none) (e : h'.get? D = some o) : News g C h' ((D, o) :: news) := fun p hp => by
  rcases List.mem_cons.mp hp with rfl | hp
  · refine ⟨e, ?_, ?_⟩
    · rintro rfl
      obtain ⟨oL, _, _, eL, _⟩ := F.ns
      rw [hn] at eL; cases eL
    · cases q : g.get? D with
      | none => rfl
      | some o' => have := F.keep _ _ q; rw [hn] at this; cases this
  · exact news_put N k p hp
theorem if_cut {M : Model} {test : Expr} {body orelse : List Stmt} {pos : Pos} {Q : Flow → Shared → Prop} (c : Bool) (h1 : wpAny M A (isTrue test env (eval test env)) (fun b s' => TestAt b c s s') (fun _ _ => False) s)
    (h2 : ∀ h' tk, Kp s.heap h' → wpAny M A (if c then execs body env else execs orelse env) Q E { s with heap := h', toks := tk }) : wpAny M A (exec (.If test body orelse pos) env) Q E s := by
  refine wpAny_If (wpAny_mono h1 (fun b s' hb => ?_) fun _ _ e => e.elim)
  obtain ⟨rfl, h', tk, rfl, k⟩ := hb
  have := h2 h' tk k
  cases b <;> exact this
/-- one statement by what it leaves, then the rest -/
theorem exec_cut {M : Model} {st : Stmt} {rest : List Stmt} {Q : Flow → Shared → Prop} {h : Heap} (_F : Fr g C h m) (R : (Str → Option Value) → Shared → Prop)
    (h1 : wpAny M A (exec st env) (fun fl s₂ => EndAt fl (R m s₂)) (fun _ _ => False) s) (h2 : ∀ s₂, R m s₂ → wpAny M A (execs rest env) Q E s₂) : wpAny M A (execs (st :: rest) env) Q E s :=
  wpAny_execs_cons (wpAny_mono h1 (fun fl s₂ hb => by obtain ⟨rfl, hr⟩ := hb; exact h2 s₂ hr) fun _ _ e => e.elim)
theorem Keeps.toks {s : Shared} {tk : Nat} : Keeps s { s with toks := tk } := ⟨s.heap, tk, rfl, fun _ _ e => e⟩
theorem Keeps.mk {s : Shared} {h' : Heap} {tk : Nat} (k : Kp s.heap h') : Keeps s { s with heap := h', toks := tk } := ⟨h', tk, rfl, k⟩
theorem range_call {n : Int} {t : Tok} {Q : Value → Shared → Prop} (F : Fr g C s.heap m) (N : News g C s.heap news)
    (h : ∀ r h' t u v tk, Fr g C h' m → News g C h' news → IsRange h' r 0 n 1 t u v → Kp s.heap h' → Q (.ref r) { s with heap := h', toks := tk }) : wpAny (model prog w) A (call (.type "range") [.int n t]) Q E s :=
  call_range_1 (h _ _ _ _ _ _ (F.push _) (news_kp N ((Kp.refl _).push _)) (IsRange.new ..) ((Kp.refl _).push _))
end
theorem paired_eq : ∀ {vs ys : List Value}, Paired (fun v y => y = v) vs ys → ys = vs
  | _, _, .nil => rfl
  | _, _, .cons h t => by rw [h, paired_eq t]
theorem ints_of_range {n : Nat} {vs : List Value} (q : Nat → Bool) (p : Value → Bool) (hp : ∀ i t, p (.int ((i : Nat) : Int) t) = q i) (hlen : vs.length = n) (hP : ∀ j v, vs[j]? = some v → j < n ∧ ∃ t, v = .int (j : Int) t) :
    IntsAre (vs.filter p) (((List.range n).filter q).map fun i => ((i : Nat) : Int)) := by
  induction n generalizing vs with
  | zero => rw [List.eq_nil_of_length_eq_zero hlen]; exact .nil
  | succ n ih =>
    have hne : vs ≠ [] := fun e => by rw [e] at hlen; cases hlen
    have hd := List.dropLast_concat_getLast hne
    have hlast : vs[n]? = some (vs.getLast hne) := by rw [List.getLast_eq_getElem]; simp [hlen]
    obtain ⟨_, t, ht⟩ := hP n _ hlast
    have h1 := ih (vs := vs.dropLast) (by simp [hlen]) (fun j v hv => by
      have hj : j < n := by
        have := (List.getElem?_eq_some_iff.mp hv).1
        simp [hlen] at this; exact this
      have hv' : vs[j]? = some v := by rw [List.getElem?_dropLast] at hv; split at hv <;> first | exact hv | cases hv
      exact ⟨hj, (hP j v hv').2⟩)
    rw [← hd, ht, List.filter_append, List.range_succ, List.filter_append, List.map_append]
    refine IntsAre.append h1 ?_
    cases hq : q n with
    | true => simp [hp, hq]; exact .cons _ _ .nil
    | false => simp [hp, hq]; exact .nil
theorem cells_five {cm : Str → Option Value} {n₁ n₂ n₃ n₄ n₅ : Str} {c₁ c₂ c₃ c₄ c₅ : Addr} {cells : List (Addr × Obj)} (x : CellsAre cm [(n₁, c₁), (n₂, c₂), (n₃, c₃), (n₄, c₄), (n₅, c₅)] cells) :
    ∃ o₁ o₂ o₃ o₄ o₅, cells = [(c₁, o₁), (c₂, o₂), (c₃, o₃), (c₄, o₄), (c₅, o₅)] ∧ o₁.data = .cell (cm n₁) ∧ o₂.data = .cell (cm n₂) ∧ o₃.data = .cell (cm n₃) ∧ o₄.data = .cell (cm n₄) ∧ o₅.data = .cell (cm n₅) := by
  cases x with | cons h r => obtain ⟨o₂, o₃, o₄, o₅, rfl, h₂, h₃, h₄, h₅⟩ := r.four; exact ⟨_, o₂, o₃, o₄, o₅, rfl, h, h₂, h₃, h₄, h₅⟩
/-- walking stops here -/
def Stop (P : Prop) : Prop := P
theorem Stop.go {P : Prop} (h : Stop P) : P := h
end Mine
end
/-! Com -/
section
open PySem.Calls
set_option maxHeartbeats 1000000
set_option maxRecDepth 100000
namespace Mine
noncomputable abbrev PR : Program := PySem.Challenge.rw_kt0013_01.row.prog
noncomputable abbrev LO : List Str := (looseW headOf.view_39
          [Str.ofString "b2a_base64", Str.ofString "b64encode", Str.ofString "_twin_re_1",
            Str.ofString "_special_chars_map"] ++
        List.map (fun x => x.name) (recsOf headOf.view_39) ++
      List.map (fun x => x.fst) (litsOf headOf.view_39) ++
    List.map (fun x => x.name)
      (clssOf headOf.view_39
        (looseW headOf.view_39
          [Str.ofString "b2a_base64", Str.ofString "b64encode", Str.ofString "_twin_re_1",
            Str.ofString "_special_chars_map"])))
end Mine
end
/-! Lines -/
section
open PySem.Calls
set_option maxHeartbeats 1000000
set_option maxRecDepth 100000
namespace Mine
section
variable {prog : Program} {w : World} {A : Around} {E : Value → Shared → Prop} {s : Shared} {env : Env} {g : Heap} {L : Addr} {m : Str → Option Value} {news : List (Addr × Obj)}
theorem item_end {value slice : Expr} {l : Addr} {us : List Value} {v : Value} {u : Tok} {Q : Value → Shared → Prop} (hl : s.heap.IsList l (us ++ [v]).toArray) (hn : us.length < 2 ^ 62) (h : Q v s)
    (hs : subscripted slice false (.ref l) (.int (-1) u) = operate [.ref l, .int (-1) u] (getItem (.ref l) (.int (-1) u)) := by with_unfolding_all rfl) :
    wpAny (model prog w) A (subscriptTail value slice (.ref l) (.int (-1) u)) Q E s :=
  tail_any hl.typeIs slot_list_getitem.lookup (wpAny_getItem_list_neg hl (by decide) (by simp; omega) (by decide) (x := v) (by
    have : ((-1 : Int) + ((us ++ [v]).toArray.size : Int)).toNat = us.length := by simp; omega
    rw [this]; simp) h) hs
/-- a list's slice, its parts met -/
def SliceAt (Q : Value → Shared → Prop) (o vl vu : Value) (s : Shared) : Prop := ∃ l items lo hi, o = .ref l ∧ s.heap.IsList l items ∧ items.size ≤ sizeLine ∧ IsPart vl lo ∧ IsPart vu hi ∧
        Q (.ref (s.heap.objs.size + 1)) { s with heap := (s.heap.push { cls := .type "slice", data := .fields #[vl, vu, .none] }).push { cls := .type "list", data := .seq (slicePick items lo hi none) } }
theorem sub_slice {value : Expr} {lower upper : Option Expr} {p pos : Pos} {Q : Value → Shared → Prop}
    (h : wpAny (model prog w) A (eval value env) (fun o s₁ => wpAny (model prog w) A (evalPart lower env) (fun vl s₂ => wpAny (model prog w) A (evalPart upper env) (fun vu s₃ => SliceAt Q o vl vu s₃) E s₂) E s₁) E s)
    (ht : ∀ o r, letTemporaryGo value o r = pure () := by intro _ _; rfl) :
    wpAny (model prog w) A (eval (.Subscript value (.Slice lower upper none p) pos) env) Q E s := wpAny_Subscript_list_slice h ht
theorem slice_end {l : Addr} {items : Array Value} {vl vu : Value} {lo hi : Option Int} {Q : Value → Shared → Prop} (F : Fr g L s.heap m) (N : News g L s.heap news) (hl : s.heap.IsList l items) (hsz : items.size ≤ sizeLine) (pl : IsPart vl lo) (pu : IsPart vu hi)
    (h : ∀ D h', Fr g L h' m → News g L h' ((D, { cls := .type "list", data := .seq (slicePick items lo hi none) }) :: news) → (∀ q ∈ news, q.1 < D) → Kp s.heap h' → Q (.ref D) { s with heap := h' }) :
    SliceAt Q (.ref l) vl vu s := by
  refine ⟨l, items, lo, hi, rfl, hl, hsz, pl, pu, ?_⟩
  have N2 := News.push (F.push { cls := .type "slice", data := .fields #[vl, vu, .none] }) (fun p hp => ⟨Heap.get?_push_of_some _ (N p hp).1, (N p hp).2⟩) { cls := .type "list", data := .seq (slicePick items lo hi none) }
  rw [Heap.size_push] at N2
  exact h _ _ ((F.push _).push _) N2 (fun q hq => Nat.lt_succ_of_lt (Heap.lt_size (N q hq).1)) (((Kp.refl _).push _).push _)
theorem slice_last {l : Addr} {us : List Value} {v : Value} {t : Tok} {Q : Value → Shared → Prop} (F : Fr g L s.heap m) (N : News g L s.heap news) (hl : s.heap.IsList l (us ++ [v]).toArray) (hsz : us.length + 1 ≤ sizeLine)
    (h : ∀ D h', Fr g L h' m → News g L h' ((D, { cls := .type "list", data := .seq us.toArray }) :: news) → (∀ q ∈ news, q.1 < D) → Q (.ref D) { s with heap := h' }) :
    SliceAt Q (.ref l) .none (.int (-1) t) s := by
  refine slice_end F N hl (by simpa using hsz) .none (.int _ _) fun D h' F' N' lt _ => h D h' F' ?_ lt
  have e := slicePick_butLast (us ++ [v]).toArray 1 (Nat.le_refl _)
  have e2 : ((us ++ [v]).toArray.toList.take ((us ++ [v]).toArray.size - 1)).toArray = us.toArray := by simp
  rw [e2] at e
  have e3 : slicePick (us ++ [v]).toArray none (some (-1)) none = us.toArray := e
  rw [e3] at N'
  exact N'
/-- a power of two, kept shut -/
def p2 (n : Int) : Int := 2 ^ n.toNat
theorem p2_pos (n : Int) : 0 < p2 n := Int.pow_pos (by decide)
theorem p2_le {n : Int} (h : n ≤ 16) : p2 n ≤ 65536 := by
  have h1 : n.toNat ≤ 16 := by omega
  have h2 : (2 : Nat) ^ n.toNat ≤ 2 ^ 16 := Nat.pow_le_pow_right (by decide) h1
  have h3 : ((2 ^ n.toNat : Nat) : Int) ≤ ((2 ^ 16 : Nat) : Int) := Int.ofNat_le.mpr h2
  rw [Int.natCast_pow] at h3
  exact h3
theorem pow_line {n : Int} {t u : Tok} {Q : Value → Shared → Prop} (h0 : 0 ≤ n) (h1 : n ≤ 16) (h : ∀ t' tk, (0 < p2 n ∧ p2 n ≤ 65536) → Q (.int (p2 n) t') { s with toks := tk }) : wpAny (model prog w) A (binaryOp .Pow (.int 2 t) (.int n u)) Q E s :=
  pow_int_small h0 (by omega) (by decide) (h _ _ ⟨p2_pos n, p2_le h1⟩)
theorem div_line {a b : Int} {t u : Tok} {Q : Value → Shared → Prop} (hb : 0 < b) (hb2 : b < 1073741824) (h : ∀ t' tk, Q (.int (a / b) t') { s with toks := tk }) : wpAny (model prog w) A (binaryOp .FloorDiv (.int a t) (.int b u)) Q E s :=
  floordiv_int (by omega) (by rw [Int.fdiv_eq_ediv_of_nonneg _ (by omega)]; exact h _ _) (Or.inl (PyProof.noPylong_small (by omega)))
theorem mod_line {a b : Int} {t u : Tok} {Q : Value → Shared → Prop} (hb : 0 < b) (h : ∀ r t' tk, r = a % b ∧ 0 ≤ r ∧ r < b → Q (.int r t') { s with toks := tk }) : wpAny (model prog w) A (binaryOp .Mod (.int a t) (.int b u)) Q E s :=
  mod_int' (by omega) (by rw [Int.fmod_eq_emod_of_nonneg _ (by omega)]; exact h _ _ _ ⟨rfl, Int.emod_nonneg _ (by omega), Int.emod_lt_of_pos _ hb⟩)
theorem join_line {D : Addr} {x : Str} {t : Tok} {items : Array Value} {ys : List Str} {Q : Value → Shared → Prop} (N : Nat) (hl : s.heap.IsList D items) (hi : StrsAre items.toList ys) (hx : x.length = 0) (hs : (ys.map (·.length)).sum ≤ N) (hN : N ≤ 1048576)
    (h : ∀ t' k, (Txt.join x ys).length ≤ N → Q (.str (Txt.join x ys) t') { s with toks := k }) : wpAny (model prog w) A (call (.builtin "str.join") [.str x t, .ref D]) Q E s := by
  have hj : (Txt.join x ys).length ≤ N := by
    show (Builtin.Str.glued x ys).length ≤ N
    rw [StrLaws.glued_eq_join]
    have := StrLaws.join_length_le x ys
    rw [hx] at this
    omega
  exact join_list hl hi (by rw [hx]; omega) fun t' k => h t' k hj
theorem sum_le {N : Nat} : ∀ {l : List Str}, (∀ x ∈ l, x.length ≤ N) → (l.map (·.length)).sum ≤ l.length * N
  | [], _ => by simp
  | x :: l, h => by
    have h1 := h x (List.mem_cons_self ..)
    have h2 := sum_le (l := l) fun y hy => h y (List.mem_cons_of_mem _ hy)
    simp only [List.map_cons, List.sum_cons, List.length_cons, Nat.succ_mul]
    omega
end
end Mine
end
/-! Fits -/
section
open PySem.Calls
set_option maxRecDepth 100000
set_option maxHeartbeats 8000000
namespace Mine
def fitsS (part sign : Str) : Bool :=
  part == Str.ofString "any" || (if Txt.slice part none (some 1) == Str.ofString "[" then
    !(Builtin.Str.occurrences (Txt.slice part (some 1) (some (-1))) sign 0 (Txt.slice part (some 1) (some (-1))).length 1).isEmpty
  else Txt.slice part (some (-1)) none == sign)
theorem fits_spec {w : World} {mean : ExcName → Option Value} {mg mb : Str → Option Value} {A : Around} {s : Shared} {Q E : Value → Shared → Prop}
  (hd : A.depth + 8 < recursionLimit) (X : (headOf.heap_39 w.params).In s.heap) (T : Top topProg LO mean mg mb s.heap)
  (part sign : Str) (t1 t2 : Tok) (hp : part.length ≤ 1048576) (hp2 : sign.length ≤ 1048576)
  (h : ∀ h' tk', Kp s.heap h' → Q (.bool (fitsS part sign)) { s with heap := h', toks := tk' }) :
  wpAny (model PR w) A (call (.ref 165) [.str part t1, .str sign t2]) Q E s := by
  k_with_none
  k_with "execs cons" => (k_here; first | k_gentoks | ((try k_fold); (with_reducible refine wpAny_execs_cons ?_); (try dsimp only); k_fold))
  refine wpAny_call ?_
  (refine' code_dir (binds := [(Str.ofString "part", .str part t1), (Str.ofString "sign", .str sign t2)]) ?k3 (Top.nolimit ?k5) ?k6 ?k7 ?k8 ?k9 ?kB ?_ ?c2 ?c3 ?c4 ?c5; (case k3 => k_asm); (case k5 => k_asm); (case k6 => k_is); (case k7 => k_is); (case k8 => omega); (case k9 => first | exact BindsTo.of_eq rfl | exact binds_K (by k_in) rfl (by k_is) rfl rfl rfl | fail "k_enter: no rule for these arguments"); (case c5 => decide); (case kB => exact locs rfl); (case c2 => exact rfl); (case c3 => exact rfl); (case c4 => exact rfl); intro L' h' F')
  have N' : News s.heap L' h' [] := News.nil
  show wpAny _ _ _ _ _ _
  k_fold
  k_steps
  all_goals (first | k_unfold | skip)
  · (rename (part == Str.ofString "any") = true => q1); rw [show fitsS part sign = true by unfold fitsS; rw [q1]; rfl] at h; rw [q1]; exact h _ _ (by with_reducible exact Fr.keep (by assumption))
  · (rename (part == Str.ofString "any") = false => q1); (rename (_ == Str.ofString "[") = true => q2); rw [show fitsS part sign = _ by unfold fitsS; rw [q1, q2, Bool.false_or, if_pos rfl]] at h; exact h _ _ (by with_reducible exact Fr.keep (by assumption))
  · (rename (part == Str.ofString "any") = false => q1); (rename (_ == Str.ofString "[") = false => q2); rw [show fitsS part sign = _ by unfold fitsS; rw [q1, q2, Bool.false_or, if_neg Bool.false_ne_true]] at h; exact h _ _ (by with_reducible exact Fr.keep (by assumption))
end Mine
end
/-! Takes -/
section
open PySem.Calls
set_option maxRecDepth 100000
set_option maxHeartbeats 8000000
namespace Mine
/-- the pieces' rest: the texts, and a last item that is None or a text -/
def fixS (xs : List Str) (y : Option Str) : List Str := match y with | none => xs | some z => xs ++ [z]
def isNo (v : Value) : Bool := match v with | .none => true | _ => false
def ItemIs (v : Value) (y : Option Str) : Prop := match y with | none => v = .none | some z => ∃ t, v = .str z t
def takesC (xs : List Str) (y : Option Str) (text : Str) : Bool := decide ((text.length : Int) < (fixS xs y).length) || (decide (((fixS xs y).length : Int) < text.length) && y.isSome)
def takesQ (xs : List Str) (y : Option Str) (text : Str) (i : Nat) : Bool := !fitsS ((fixS xs y).getD i Str.empty) (Txt.item text (i : Int))
def takesS (xs : List Str) (y : Option Str) (text : Str) : Bool := !takesC xs y text && decide ((((List.range (fixS xs y).length).filter (takesQ xs y text)).map fun i => ((i : Nat) : Int)) = [])
theorem getD_len (l : List Str) (hl : ∀ x ∈ l, x.length ≤ 1048576) (j : Nat) : (l.getD j Str.empty).length ≤ 1048576 := by
  rw [List.getD_eq_getElem?_getD]
  cases e : l[j]? with
  | none => decide
  | some x => exact hl x (List.mem_of_getElem? e)
theorem fix_len (xs : List Str) (y : Option Str) (hxs : ∀ x ∈ xs, x.length ≤ 1048576) (hyz : ∀ z, y = some z → z.length ≤ 1048576) (j : Nat) : ((fixS xs y).getD j Str.empty).length ≤ 1048576 := by
  cases y with
  | none => exact getD_len xs hxs j
  | some z =>
    refine getD_len (xs ++ [z]) (fun x hx => ?_) j
    rcases List.mem_append.mp hx with q | q
    · exact hxs x q
    · rw [List.mem_singleton.mp q]; exact hyz z rfl
theorem cells_news {g h : Heap} {L c1 c2 : Addr} {m : Str → Option Value} {v1 v2 : Option Value} (F : Fr g L h m) (k1 : h.IsCell c1 v1) (k2 : h.IsCell c2 v2) (l1 : L < c1) (l2 : L < c2) :
    ∃ o1 o2, News g L h [(c2, o2), (c1, o1)] ∧ o1.data = .cell v1 ∧ o2.data = .cell v2 := by
  obtain ⟨o1, e1, d1⟩ := k1
  obtain ⟨o2, e2, d2⟩ := k2
  refine ⟨o1, o2, fun p hp => ?_, d1, d2⟩
  rcases List.mem_cons.mp hp with rfl | hp
  · exact ⟨e2, Nat.ne_of_gt l2, Heap.get?_none_of_le (Nat.le_trans F.above (Nat.le_of_lt l2))⟩
  · rw [List.mem_singleton.mp hp]
    exact ⟨e1, Nat.ne_of_gt l1, Heap.get?_none_of_le (Nat.le_trans F.above (Nat.le_of_lt l1))⟩
theorem takes_spec {w : World} {mean : ExcName → Option Value} {mg mb : Str → Option Value} {A : Around} {s : Shared} {Q E : Value → Shared → Prop}
  (hh : A.handled = none) (hd : A.depth + 16 < recursionLimit) (hu : A.units + 128 < cLine) (X : (headOf.heap_39 w.params).In s.heap) (T : Top topProg LO mean mg mb s.heap)
  {a : Addr} {us : List Value} {v : Value} {xs : List Str} {y : Option Str} (hl : s.heap.IsList a (us ++ [v]).toArray) (hS : StrsAre us xs) (hv : ItemIs v y)
  (text : Str) (tt : Tok) (hxs : ∀ x ∈ xs, x.length ≤ 1000) (hlen : xs.length ≤ 1000) (htx : text.length ≤ 1000) (hyz : ∀ z, y = some z → z.length ≤ 1048576) 
  (h : ∀ h' tk', Kp s.heap h' → Q (.bool (takesS xs y text)) { s with heap := h', toks := tk' }) :
  wpAny (model PR w) A (call (.ref 170) [.ref a, .str text tt]) Q E s := by
  k_with_none
  k_with "execs cons" => (k_here; first | k_gentoks | ((try k_fold); (with_reducible refine wpAny_execs_cons ?_); (try dsimp only); k_fold))
  k_with "subscriptTail" => (k_here; k_dflt (refine' item_end (by is_list) (by omega) ?_; k_whole))
  k_with "eval Subscript" => (k_here; (with_reducible show wpAny _ _ (eval (Expr.Subscript (Expr.Name (Str.ofString "parts") _) (Expr.Slice _ _ _ _) _) _) _ _ _); k_dflt (refine sub_slice ?_))
  k_with "SliceAt" => (k_here; k_dflt (refine' slice_last (by k_asm) (by k_asm) (by is_list) (by size_fits) ?_; k_whole); intro _ _ _ _ l1; (try k_lt l1); (try k_sweep); (try k_unmd); (try dsimp only))
  k_with "call builtin:len" => (k_here; (with_reducible show wpAny _ _ (call (Value.builtin "len") [Value.ref _]) _ _ _); k_dflt (refine' len_strsA (by is_list) (by assumption) (by omega) ?_; k_whole))
  k_with "eval ListComp" => (refine Stop.go ?_)
  k_with "call type:range" => (k_here; k_dflt (refine' range_call (by k_asm) (by k_asm) ?_; k_whole); intro _ _ _ _ _ _ _ _ _ _; (try k_sweep); (try k_unmd); (try dsimp only))
  k_with "eval Name" => (k_here; k_inBlock; k_dflt (first
    | (refine' nm_loc (by k_asm) (by assumption) ?_ rfl rfl (by decide); k_whole)
    | (refine' nm_cell (by k_asm) (by assumption) ?_ rfl rfl rfl (by decide); k_whole)))
  k_with "call ref" => (k_here; (with_reducible show wpAny _ _ (call (Value.ref 165) _) _ _ _); k_dflt (refine' fits_spec (by simp only [depth_deeper]; omega) (by k_in) (Top.keeps (by k_asm) (Fr.keep (by k_asm))) _ _ _ _ (by solve_by_elim) (by omega) ?_; k_whole); intro _ _ kp'; (with_reducible rename Fr _ _ _ _ => kF); (with_reducible rename News _ _ _ _ => kN); have F' := fr_kp kF kp'; have N' := news_kp kN kp'; (try k_sweep); (try k_unmd); (try dsimp only))
  have hlen2 := StrsAre.length hS
  refine wpAny_call ?_
  (refine' code_dirC (binds := [(Str.ofString "parts", .ref a), (Str.ofString "text", .str text tt)]) ?k3 (Top.nolimit ?k5) ?k6 ?k7 ?k8 ?k9 ?kB ?kD ?_ ?c2 ?c3 ?c4; (case k3 => k_asm); (case k5 => k_asm); (case k6 => k_is); (case k7 => k_is); (case k8 => omega); (case k9 => exact BindsTo.of_eq rfl); (case kB => exact rfl); (case kD => decide +kernel); (case c2 => exact rfl); (case c3 => exact rfl); (case c4 => exact rfl); intro L' h' tk' cells' F' N' Y')
  k_cells Y'
  show wpAny _ _ _ _ _ _
  k_fold
  refine exec_cut F' (fun m s₂ => ∃ D h₂ tk₂ fx, s₂ = { s with heap := h₂, toks := tk₂ } ∧ Fr s.heap L' h₂ m ∧ h₂.IsCell (L' + 1) (some (.str text tt)) ∧ h₂.IsCell (L' + 1 + 1) (some (.ref D)) ∧ h₂.IsList D fx.toArray ∧ StrsAre fx (fixS xs y)) ?first ?rest
  case first =>
    cases y with
    | none =>
      subst hv
      k_steps
      exact ⟨rfl, _, _, _, us, rfl, by assumption, cell_of (by assumption) (by k_mem) (by assumption), cell_of (by assumption) (by k_mem) (by assumption), News.isList (by assumption) (by k_mem), hS⟩
    | some z =>
      obtain ⟨tz, rfl⟩ := hv
      k_steps
      exact ⟨rfl, _, _, _, us ++ [.str z tz], rfl, by assumption, cell_of (by assumption) (by k_mem) (by assumption), cell_of (by assumption) (by k_mem) (by assumption), list_kp hl (Fr.keep (by assumption)), StrsAre.append' hS (.cons z tz .nil)⟩
  case rest =>
    rintro s₂ ⟨D, h₂, tk₂, fx, rfl, F2, c1, c2, hD, hS2⟩
    clear F' N'
    obtain ⟨o1, o2, N2, d1, d2⟩ := cells_news F2 c1 c2 (Nat.lt_succ_self _) (Nat.lt_succ_of_lt (Nat.lt_succ_self _))
    have hSl := StrsAre.length hS2
    have hfl : (fixS xs y).length ≤ 1001 := by unfold fixS; cases y <;> simp <;> omega
    show wpAny _ _ _ _ _ _
    refine wpAny_execs_cons (if_cut (takesC xs y text) ?_ ?_)
    · unfold takesC
      cases y with
      | none => subst hv; k_steps; all_goals (refine ⟨?_, Keeps.toks⟩; simp; omega)
      | some z => obtain ⟨tz, rfl⟩ := hv; k_steps; all_goals (refine ⟨?_, Keeps.toks⟩; simp; omega)
    · intro h₃ tk₃ kp₃
      have F3 := fr_kp F2 kp₃
      have N3 := news_kp N2 kp₃
      have hD3 := list_kp hD kp₃
      have c13 := c1.keeps kp₃
      have c23 := c2.keeps kp₃
      clear F2 N2
      try dsimp only at F3 N3 hD3 c13 c23
      cases hc : takesC xs y text with
      | true =>
        rw [if_pos rfl]
        k_steps
        try dsimp only
        try k_unfold
        have := h h₃ tk₃ F3.keep
        unfold takesS at this
        rw [hc] at this
        exact this
      | false =>
        rw [if_neg Bool.false_ne_true]
        k_steps
        show wpAny _ _ _ _ _ _
        have hle : (fixS xs y).length ≤ text.length := by
          unfold takesC at hc
          simp at hc
          omega
        refine' lc_val (cl := _) (fixS xs y).length (fun i v => i < (fixS xs y).length ∧ ∃ t, v = .int (i : Int) t) (fun v => match v with | .int i _ => takesQ xs y text i.toNat | _ => false) (fun v y => y = v) ?hclos ?hcell ?hkind ?hnames ?hx ?hsz ?hmain
        case hclos => with_unfolding_all rfl
        case hcell => decide
        case hkind => rfl
        case hnames => decide
        case hx => rfl
        case hsz => size_fits
        case hmain =>
          k_steps
          rename_i r5 h5 t5 u5 v5 tk5 F5 N5 R5 kp5
          have hD5 : h5.IsList D fx.toArray := list_kp hD3 kp5
          have c15 : h5.IsCell (L' + 1) (some (Value.str text tt)) := c13.keeps kp5
          have c25 : h5.IsCell (L' + 1 + 1) (some (Value.ref D)) := c23.keeps kp5
          have X5 := X.keeps F5.keep
          have T5 := T.keeps F5.keep
          have hfx : ∀ j : Nat, ((fixS xs y).getD j Str.empty).length ≤ 1048576 := by
            exact fix_len xs y (fun x hx => Nat.le_trans (hxs x hx) (by decide)) hyz
          refine ⟨iters_range hh R5 (by omega), ?_, ?_, ?_⟩
          · intro C i v s₃ m₃ E' hP F₃ hm
            obtain ⟨hi, t, rfl⟩ := hP
            obtain ⟨h6, g6, d6, tk6, os6⟩ := s₃
            have N₃ : News h5 C h6 [] := News.nil
            refine wpAny_tests_one ?_
            show wpAny _ _ _ _ _ _
            k_steps
            exact ⟨by unfold takesQ; simp, Keeps.mk (by assumption)⟩
          · intro C i v s₃ m₃ E' hP _ F₃ hm
            obtain ⟨hi, t, rfl⟩ := hP
            obtain ⟨h6, g6, d6, tk6, os6⟩ := s₃
            show wpAny _ _ _ _ _ _
            have N₃ : News h5 C h6 [] := News.nil
            k_steps
            exact ⟨rfl, Keeps.toks⟩
          · intro D6 h6 tk6 ys vs hD6 hpl hlen6 hP hF kp6
            obtain ⟨n6, hpl⟩ := hpl
            have F6 := fr_kp F5 kp6
            have N6 := news_add F5 (news_kp N5 kp6) hD6 hpl
            have e6 := paired_eq hF
            have I6 := ints_of_range (takesQ xs y text) (fun v => match v with | .int i _ => takesQ xs y text i.toNat | _ => false) (fun i t => by simp) hlen6 hP
            obtain ⟨l6⟩ := ys
            have e7 : l6 = _ := e6
            rw [← e7] at I6
            clear e6 e7 hF hP N5 F5
            show wpAny _ _ _ _ _ _
            k_fold
            k_steps
            have hq := h _ tk6 (Fr.keep (by assumption))
            unfold takesS at hq
            rw [hc] at hq
            exact hq
end Mine
end
/-! Piece -/
section
open PySem.Calls
set_option maxRecDepth 100000
set_option maxHeartbeats 8000000
namespace Mine
theorem range_paired {n : Nat} {vs : List Value} (q : Nat → Bool) (p : Value → Bool) (hp : ∀ i t, p (.int ((i : Nat) : Int) t) = q i) (hlen : vs.length = n) (hP : ∀ j v, vs[j]? = some v → j < n ∧ ∃ t, v = .int (j : Int) t) :
    ∃ l : List (Nat × Tok), vs.filter p = l.map (fun x => Value.int (x.1 : Int) x.2) ∧ l.map (·.1) = (List.range n).filter q := by
  induction n generalizing vs with
  | zero => rw [List.eq_nil_of_length_eq_zero hlen]; exact ⟨[], rfl, rfl⟩
  | succ n ih =>
    have hne : vs ≠ [] := fun e => by rw [e] at hlen; cases hlen
    have hd := List.dropLast_concat_getLast hne
    have hlast : vs[n]? = some (vs.getLast hne) := by rw [List.getLast_eq_getElem]; simp [hlen]
    obtain ⟨_, t, ht⟩ := hP n _ hlast
    obtain ⟨l, e1, e2⟩ := ih (vs := vs.dropLast) (by simp [hlen]) (fun j v hv => by
      have hj : j < n := by
        have := (List.getElem?_eq_some_iff.mp hv).1
        simp [hlen] at this; exact this
      have hv' : vs[j]? = some v := by rw [List.getElem?_dropLast] at hv; split at hv <;> first | exact hv | cases hv
      exact ⟨hj, (hP j v hv').2⟩)
    rw [← hd, ht, List.filter_append, List.range_succ, List.filter_append, e1]
    cases hq : q n with
    | true => exact ⟨l ++ [(n, t)], by simp [hp, hq], by simp [hq, e2]⟩
    | false => exact ⟨l, by simp [hp, hq], by simp [hq, e2]⟩
theorem paired_map {α : Type} {R : Value → Value → Prop} {f : α → Value} {g : α → Str} (hR : ∀ a y, R (f a) y → ∃ t, y = .str (g a) t) : ∀ {l : List α} {ys : List Value}, Paired R (l.map f) ys → StrsAre ys (l.map g)
  | [], [], .nil => .nil
  | a :: l, y :: ys, .cons h t => by
    obtain ⟨t', rfl⟩ := hR a y h
    exact .cons _ _ (paired_map hR t)
def pieceQ (a b c : Int) (i : Nat) : Bool := decide ((i : Int) / p2 a % p2 b = c)
def signsS (al : Str) (a b c : Int) : List Str := ((List.range 64).filter (pieceQ a b c)).map fun (i : Nat) => Txt.item al (i : Int)
theorem signs_len (al : Str) (a b c : Int) : (signsS al a b c).length ≤ 64 := by
  unfold signsS
  rw [List.length_map]
  exact Nat.le_trans (List.length_filter_le _ _) (by simp)
theorem signs_one (al : Str) (a b c : Int) : ∀ x ∈ signsS al a b c, x.length = 1 := by
  unfold signsS
  intro x hx
  obtain ⟨i, _, rfl⟩ := List.mem_map.mp hx
  rfl
def alphaS : Str := Str.ofString "ABCDEFGHIJKLMNOPQRSTUVWXYZabcdefghijklmnopqrstuvwxyz0123456789+/"
def signsT (sg : List Str) : Str := if sg.length = 1 then sg.getD 0 Str.empty else Str.ofString "[" ++ Txt.join (Str.ofString "") sg ++ Str.ofString "]"
def pieceG (k f p0 p1 fst lst : Int) : Str :=
  if lst ≤ fst then Str.ofString "?" else signsT (signsS alphaS (6 * k + 6 - lst) (lst - fst) ((p0 * 256 + p1) / p2 (f + 16 - lst) % p2 (lst - fst)))
def pieceS (k f p0 p1 : Int) : Str := pieceG k f p0 p1 (if f > 6 * k then f else 6 * k) (if f + 16 < 6 * k + 6 then f + 16 else 6 * k + 6)
theorem alpha_len : alphaS.length = 64 := by decide +kernel
theorem piece_spec {w : World} {mean : ExcName → Option Value} {mg mb : Str → Option Value} {A : Around} {s : Shared} {Q E : Value → Shared → Prop}
  (hh : A.handled = none) (hd : A.depth + 16 < recursionLimit) (hu : A.units + 128 < cLine) (X : (headOf.heap_39 w.params).In s.heap) (T : Top topProg LO mean mg mb s.heap)
  {a : Addr} {p0 p1 : Int} {t0 t1 : Tok} (hl : s.heap.IsList a [Value.int p0 t0, Value.int p1 t1].toArray) (b0 : 0 ≤ p0 ∧ p0 < 256) (b1 : 0 ≤ p1 ∧ p1 < 256)
  (k f : Int) (tk tf : Tok) (hk : 0 ≤ k ∧ k ≤ 40) (hf : 0 ≤ f ∧ f ≤ 200)
  (h : ∀ h' tk' t, Kp s.heap h' → Q (.str (pieceS k f p0 p1) t) { s with heap := h', toks := tk' }) :
  wpAny (model PR w) A (call (.ref 153) [.int k tk, .int f tf, .ref a]) Q E s := by
  k_with_none
  k_with "execs cons" => (k_here; first | k_gentoks | ((try k_fold); (with_reducible refine wpAny_execs_cons ?_); (try dsimp only); k_fold))
  k_with "exec If" => (refine Stop.go ?_)
  k_with "exec Assign cons ListComp" => (refine Stop.go ?_)
  k_with "exec Assign" => ((with_reducible show wpAny _ _ (exec (Stmt.Assign _ (Expr.ListComp _ _ _ _) _) _) _ _ _); refine Stop.go ?_)
  k_with "binaryOp Pow int int" => (k_here; k_dflt (refine' pow_line (by omega) (by omega) ?_; k_whole); intro _ _ _; (try k_sweep); (try k_unmd); (try dsimp only))
  k_with "binaryOp FloorDiv int int" => (k_here; k_dflt (refine' div_line (by omega) (by omega) ?_; k_whole); intro _ _; (try k_sweep); (try k_unmd); (try dsimp only))
  k_with "binaryOp Mod int int" => (k_here; k_dflt (refine' mod_line (by omega) ?_; k_whole); intro _ _ _ _; (try k_sweep); (try k_unmd); (try dsimp only))
  k_with "call type:range" => (k_here; k_dflt (refine' range_call (by k_asm) (by k_asm) ?_; k_whole); intro _ _ _ _ _ _ _ _ _ _; (try k_sweep); (try k_unmd); (try dsimp only))
  k_with "eval Name" => (k_here; k_inBlock; k_dflt (first
    | (refine' nm_loc (by k_asm) (by assumption) ?_ rfl rfl (by decide); k_whole)
    | (refine' nm_cell (by k_asm) (by assumption) ?_ rfl rfl rfl (by decide); k_whole)))
  k_with "call builtin:len" => (k_here; (with_reducible show wpAny _ _ (call (Value.builtin "len") [Value.ref _]) _ _ _); k_dflt (refine' len_strsA (by is_list) (by assumption) (by omega) ?_; k_whole))
  k_with "call builtin:str.join" => (k_here; k_dflt (refine' join_line 64 (by is_list) (by assumption) rfl (by assumption) (by decide) ?_; k_whole); intro _ _ _; (try k_sweep); (try k_unmd); (try dsimp only))
  obtain ⟨ha, dp, fr, gd, un⟩ := A
  dsimp only at hh
  subst hh
  dsimp only at hd hu
  refine wpAny_call ?_
  (refine' code_dirC (binds := [(Str.ofString "k", .int k tk), (Str.ofString "front", .int f tf), (Str.ofString "pair", .ref a)]) ?k3 (Top.nolimit ?k5) ?k6 ?k7 ?k8 ?k9 ?kB ?kD ?_ ?c2 ?c3 ?c4; (case k3 => k_asm); (case k5 => k_asm); (case k6 => k_is); (case k7 => k_is); (case k8 => (show dp < recursionLimit; omega)); (case k9 => exact BindsTo.of_eq rfl); (case kB => exact rfl); (case kD => decide +kernel); (case c2 => exact rfl); (case c3 => exact rfl); (case c4 => exact rfl); intro L' h' tk' cells' F' N' Y')
  obtain ⟨o1, o2, o3, o4, o5, rfl, e1, e2, e3, e4, e5⟩ := cells_five Y'
  clear Y'
  show wpAny _ _ _ _ _ _
  k_fold
  k_steps
  unfold Stop
  unfold pieceS at h
  generalize hfst : (if f > 6 * k then f else 6 * k) = fst at *
  generalize hlst : (if f + 16 < 6 * k + 6 then f + 16 else 6 * k + 6) = lst at *
  have hb1 : 0 ≤ fst ∧ fst ≤ 300 ∧ f ≤ fst ∧ 6 * k ≤ fst := by split at hfst <;> omega
  have hb2 : 0 ≤ lst ∧ lst ≤ 300 ∧ lst ≤ f + 16 ∧ lst ≤ 6 * k + 6 := by split at hlst <;> omega
  replace hfst : Stop _ := hfst
  replace hlst : Stop _ := hlst
  show wpAny _ _ _ _ _ _
  refine if_cut (decide (lst ≤ fst)) ?_ ?_
  · k_steps
    exact ⟨by simp, Keeps.toks⟩
  · intro h₃ tk₃ kp₃
    by_cases hc : lst ≤ fst
    · rw [decide_eq_true hc, if_pos rfl]
      k_steps
      try dsimp only
      try k_unfold
      have hq := h h₃ tk₃.succ tk₃ ((Fr.keep (by assumption)) |> fun q => Kp.trans q kp₃)
      unfold pieceG at hq
      rw [if_pos hc] at hq
      exact hq
    · rw [decide_eq_false hc, if_neg Bool.false_ne_true]
      (with_reducible rename Fr _ _ _ _ => F2)
      (with_reducible rename News _ _ _ _ => N2)
      have F3 := fr_kp F2 kp₃
      have N3 := news_kp N2 kp₃
      clear F2 N2
      unfold pieceG at h
      rw [if_neg hc] at h
      have hall : (Str.ofString "ABCDEFGHIJKLMNOPQRSTUVWXYZabcdefghijklmnopqrstuvwxyz0123456789+/").length = 64 := alpha_len
      k_steps
      show wpAny _ _ _ _ _ _
      (with_reducible rename Fr _ _ _ _ => F4)
      (with_reducible rename News _ _ _ _ => N4)
      (with_reducible rename _ = _ ∧ 0 ≤ _ ∧ _ < _ => hkn)
      rename Int => kn
      dsimp only [List.getD_cons_zero, List.getD_cons_succ, Int.toNat_zero, Int.toNat_one] at hkn
      have ck := cell_of (c := L' + 1) (v := some (.int k _)) N4 (by k_mem) (by exact e5)
      have cal := cell_of (c := L' + 1 + 1) N4 (by k_mem) (by assumption)
      have cfs := cell_of (c := L' + 1 + 1 + 1) N4 (by k_mem) (by assumption)
      have cls := cell_of (c := L' + 1 + 1 + 1 + 1) N4 (by k_mem) (by assumption)
      have ckn := cell_of (c := L' + 1 + 1 + 1 + 1 + 1) N4 (by k_mem) (by assumption)
      show wpAny _ _ _ _ _ _
      refine' as_val (cl := _) 64 (fun i v => i < 64 ∧ ∃ t, v = .int (i : Int) t) (fun v => match v with | .int i _ => pieceQ (6 * k + 6 - lst) (lst - fst) kn i.toNat | _ => false) (fun v y => match v with | .int i _ => ∃ t, y = .str (Txt.item alphaS i) t | _ => False) ?hsw ?hclos ?hcell ?hkind ?hnames ?hx ?hsz ?hy ?hp ?hmain
      case hsw => with_unfolding_all rfl
      case hclos => with_unfolding_all rfl
      case hcell => decide
      case hkind => rfl
      case hnames => decide
      case hx => rfl
      case hsz => decide
      case hy => rfl
      case hp => rfl
      case hmain =>
        k_steps
        rename_i r5 h5 t5 u5 v5 tk5 F5 N5 R5 kp5
        replace ck := ck.keeps kp5
        replace cal := cal.keeps kp5
        replace cfs := cfs.keeps kp5
        replace cls := cls.keeps kp5
        replace ckn := ckn.keeps kp5
        refine ⟨_, F5.ns, iters_range rfl R5 (by decide), ?_, ?_, ?_⟩
        · intro C i v s₃ m₃ E' hP F₃ hm
          obtain ⟨hi, t, rfl⟩ := hP
          obtain ⟨h6, g6, d6, tk6, os6⟩ := s₃
          have N₃ : News h5 C h6 [] := News.nil
          refine wpAny_tests_one ?_
          show wpAny _ _ _ _ _ _
          k_steps
          (with_reducible rename _ = (i : Int) / _ % _ ∧ 0 ≤ _ ∧ _ < _ => hr)
          obtain ⟨rfl, _⟩ := hr
          refine ⟨?_, Keeps.toks⟩
          unfold pieceQ
          rfl
        · intro C i v s₃ m₃ E' hP _ F₃ hm
          obtain ⟨hi, t, rfl⟩ := hP
          obtain ⟨h6, g6, d6, tk6, os6⟩ := s₃
          show wpAny _ _ _ _ _ _
          have N₃ : News h5 C h6 [] := News.nil
          k_steps
          exact ⟨⟨_, rfl⟩, Keeps.toks⟩
        · intro D6 h6 tk6 ys vs hD6 hpl hlen6 hP hF ns6 kp6
          obtain ⟨n6, hpl⟩ := hpl
          obtain ⟨l6, e61, e62⟩ := range_paired (pieceQ (6 * k + 6 - lst) (lst - fst) kn) (fun v => match v with | .int i _ => pieceQ (6 * k + 6 - lst) (lst - fst) kn i.toNat | _ => false) (fun i t => rfl) hlen6 hP
          rw [e61] at hF
          have S6 := paired_map (R := fun v y => match v with | .int i _ => ∃ t, y = .str (Txt.item alphaS i) t | _ => False) (g := fun x : Nat × Tok => Txt.item alphaS (x.1 : Int)) (fun a y h => h) hF
          have e63 : l6.map (fun x : Nat × Tok => Txt.item alphaS (x.1 : Int)) = signsS alphaS (6 * k + 6 - lst) (lst - fst) kn := by
            unfold signsS
            rw [← e62, List.map_map]
            rfl
          rw [e63] at S6
          clear e61 e62 e63 hF hP
          have F6 := fr_put F5 ns6 kp6
          have N6 := news_add2 F5 N5 ns6 kp6 hD6 hpl
          clear F5 N5
          have hlt : (signsS alphaS (6 * k + 6 - lst) (lst - fst) kn).length ≤ 64 := signs_len _ _ _ _
          have hone := signs_one alphaS (6 * k + 6 - lst) (lst - fst) kn
          have hkn2 : kn = (p0 * 256 + p1) / p2 (f + 16 - lst) % p2 (lst - fst) := hkn.1
          rw [← hkn2] at h
          clear hkn hkn2 ckn
          generalize signsS alphaS (6 * k + 6 - lst) (lst - fst) kn = sg at *
          have hsum : (sg.map (·.length)).sum ≤ 64 := Nat.le_trans (sum_le (N := 1) fun x hx => Nat.le_of_eq (hone x hx)) (by omega)
          obtain ⟨l6⟩ := ys
          show wpAny _ _ _ _ _ _
          try k_fold
          k_steps
          · have hq2 := fun tk t => h h6 tk t (Fr.keep (by assumption))
            unfold signsT at hq2
            rw [if_pos (by omega)] at hq2
            exact hq2 _ _
          · have hq2 := fun tk t => h h6 tk t (Fr.keep (by assumption))
            unfold signsT at hq2
            rw [if_neg (by omega)] at hq2
            exact hq2 _ _
end Mine
end
/-! B64a -/
section
open PySem.Calls
set_option maxRecDepth 100000
set_option maxHeartbeats 8000000
namespace Mine
theorem buffer_spec {w : World} {mean : ExcName → Option Value} {mg mb : Str → Option Value} {A : Around} {s : Shared} {Q E : Value → Shared → Prop}
  (hh : A.handled = none) (hd : A.depth + 16 < recursionLimit) (hu : A.units + 128 < cLine) (X : (headOf.heap_39 w.params).In s.heap) (T : Top topProg LO mean mg mb s.heap)
  {b : Array UInt8} {t : Tok}
  (h : ∀ h' tk', Kp s.heap h' → Q (.bytes b t) { s with heap := h', toks := tk' }) :
  wpAny (model PR w) A (call (.ref 87) [.bytes b t]) Q E s := by
  k_with_none
  k_with "execs cons" => (k_here; first | k_gentoks | ((try k_fold); (with_reducible refine wpAny_execs_cons ?_); (try dsimp only); k_fold))
  k_with "call type:type" => (k_here; (with_reducible show wpAny _ _ (call (Value.type "type") [Value.bytes _ _]) _ _ _); k_dflt (refine' call_type_of (Tx := "bytes") (typeIs_bytes _ _ _) rfl ?_; k_whole))
  obtain ⟨ha, dp, fr, gd, un⟩ := A
  dsimp only at hh
  subst hh
  dsimp only at hd hu
  (refine wpAny_call ?_; (refine' code_dir (binds := [(Str.ofString "data", .bytes b t)]) ?k3 (Top.nolimit ?k5) ?k6 ?k7 ?k8 ?k9 ?kB ?_ ?c2 ?c3 ?c4 ?c5; (case k3 => k_asm); (case k5 => k_asm); (case k6 => k_is); (case k7 => k_is); (case k8 => first | omega | (dsimp only; omega)); (case k9 => first | exact BindsTo.of_eq rfl | exact binds_K (by k_in) rfl (by k_is) rfl rfl rfl); (case kB => exact locs rfl); (case c2 => exact rfl); (case c3 => exact rfl); (case c4 => exact rfl); (case c5 => decide)))
  intro L' h' F'
  have N' : News s.heap L' h' [] := News.nil
  show wpAny _ _ _ _ _ _
  k_fold
  k_steps
  try dsimp only
  try k_unfold
  exact h _ _ (Fr.keep (by assumption))
theorem truth_spec {w : World} {mean : ExcName → Option Value} {mg mb : Str → Option Value} {A : Around} {s : Shared} {Q E : Value → Shared → Prop}
  (hh : A.handled = none) (hd : A.depth + 16 < recursionLimit) (hu : A.units + 128 < cLine) (X : (headOf.heap_39 w.params).In s.heap) (T : Top topProg LO mean mg mb s.heap)
  (h : ∀ h' tk', Kp s.heap h' → Q (.bool false) { s with heap := h', toks := tk' }) :
  wpAny (model PR w) A (call (.ref 94) [.bool false]) Q E s := by
  k_with_none
  k_with "execs cons" => (k_here; first | k_gentoks | ((try k_fold); (with_reducible refine wpAny_execs_cons ?_); (try dsimp only); k_fold))
  k_with "call type:type" => (k_here; (with_reducible show wpAny _ _ (call (Value.type "type") [Value.bytes _ _]) _ _ _); k_dflt (refine' call_type_of (Tx := "bytes") (typeIs_bytes _ _ _) rfl ?_; k_whole))
  obtain ⟨ha, dp, fr, gd, un⟩ := A
  dsimp only at hh
  subst hh
  dsimp only at hd hu
  (refine wpAny_call ?_; (refine' code_dir (binds := [(Str.ofString "x", .bool false)]) ?k3 (Top.nolimit ?k5) ?k6 ?k7 ?k8 ?k9 ?kB ?_ ?c2 ?c3 ?c4 ?c5; (case k3 => k_asm); (case k5 => k_asm); (case k6 => k_is); (case k7 => k_is); (case k8 => first | omega | (dsimp only; omega)); (case k9 => first | exact BindsTo.of_eq rfl | exact binds_K (by k_in) rfl (by k_is) rfl rfl rfl); (case kB => exact locs rfl); (case c2 => exact rfl); (case c3 => exact rfl); (case c4 => exact rfl); (case c5 => decide)))
  intro L' h' F'
  have N' : News s.heap L' h' [] := News.nil
  show wpAny _ _ _ _ _ _
  k_fold
  k_steps
  try dsimp only
  try k_unfold
  exact h _ _ (Fr.keep (by assumption))
end Mine
end
/-! Bits -/
section
open PySem.Calls
set_option maxHeartbeats 1000000
set_option maxRecDepth 100000
namespace Mine
/-! the base 64 writing, as the code makes it: bits, the last sign's rest, the signs so far -/
def B64L : List UInt8 := [65, 66, 67, 68, 69, 70, 71, 72, 73, 74, 75, 76, 77, 78, 79, 80, 81, 82, 83, 84, 85, 86, 87, 88, 89, 90, 97, 98, 99, 100, 101, 102, 103, 104, 105, 106, 107, 108, 109, 110, 111, 112, 113, 114, 115, 116, 117, 118, 119, 120, 121, 122, 48, 49, 50, 51, 52, 53, 54, 55, 56, 57, 43, 47]
def b64c (i : Int) : Int := ((B64L.getD i.toNat 0 : UInt8).toNat : Int)
structure B64St where
  bits : Int
  char : Int
  out : List Int
def emit (c bits : Int) (j : Nat) : List Int := (List.range j).map fun (i : Nat) => b64c (c / p2 (bits - 6 * ((i : Int) + 1)) % 64)
def b64g (a : B64St) (k : Int) : B64St := ⟨a.bits + 8 - 6 * ((a.bits + 8) / 6), (a.char * 256 + k) % 65536, a.out ++ emit ((a.char * 256 + k) % 65536) (a.bits + 8) ((a.bits + 8) / 6).toNat⟩
structure B64Ok (a : B64St) (n : Nat) : Prop where
  b0 : 0 ≤ a.bits
  b1 : a.bits < 6
  c0 : 0 ≤ a.char
  c1 : a.char < 65536
  len : a.out.length ≤ 3 * n
  rng : ∀ x ∈ a.out, 0 ≤ x ∧ x < 256
theorem emit_len (c bits : Int) (j : Nat) : (emit c bits j).length = j := by simp [emit]
theorem b64c_rng (i : Int) : 0 ≤ b64c i ∧ b64c i < 256 := by
  have := (B64L.getD i.toNat 0 : UInt8).toNat_lt
  unfold b64c
  omega
theorem emit_rng (c bits : Int) (j : Nat) : ∀ x ∈ emit c bits j, 0 ≤ x ∧ x < 256 := fun x hx => by
  obtain ⟨i, _, rfl⟩ := List.mem_map.mp hx
  exact b64c_rng _
theorem b64g_ok {a : B64St} {n : Nat} (x : B64Ok a n) (k : Int) : B64Ok (b64g a k) (n + 1) := by
  obtain ⟨h1, h2, h3, h4, h5, h6⟩ := x
  refine ⟨?_, ?_, ?_, ?_, ?_, fun x hx => (List.mem_append.mp hx).elim (h6 x) (emit_rng _ _ _ x)⟩
  · show 0 ≤ a.bits + 8 - 6 * ((a.bits + 8) / 6); omega
  · show a.bits + 8 - 6 * ((a.bits + 8) / 6) < 6; omega
  · show 0 ≤ (a.char * 256 + k) % 65536; omega
  · show (a.char * 256 + k) % 65536 < 65536; omega
  · show (a.out ++ emit _ _ _).length ≤ _
    rw [List.length_append, emit_len]; omega
def b64f (ks : List Int) (i : Nat) : B64St := (ks.take i).foldl b64g ⟨0, 0, []⟩
theorem b64f_succ {ks : List Int} {i : Nat} {k : Int} (h : ks[i]? = some k) : b64f ks (i + 1) = b64g (b64f ks i) k := by
  unfold b64f
  rw [List.take_add_one, h]; simp
theorem b64f_ok (ks : List Int) : ∀ i, i ≤ ks.length → B64Ok (b64f ks i) i
  | 0, _ => ⟨Int.le_refl 0, (by decide : (0 : Int) < 6), Int.le_refl 0, (by decide : (0 : Int) < 65536), Nat.zero_le _, fun x hx => absurd hx List.not_mem_nil⟩
  | i + 1, h => by
    have e : ks[i]? = some ks[i] := List.getElem?_eq_getElem h
    rw [b64f_succ e]
    exact b64g_ok (b64f_ok ks i (by omega)) _
def b64out (ks : List Int) : List Int :=
  if (b64f ks ks.length).bits = 2 then (b64f ks ks.length).out ++ [b64c ((b64f ks ks.length).char % 4 * 16), 61, 61]
  else if (b64f ks ks.length).bits = 4 then (b64f ks ks.length).out ++ [b64c ((b64f ks ks.length).char % 16 * 4), 61] else (b64f ks ks.length).out
theorem b64out_rng (ks : List Int) : ∀ x ∈ b64out ks, 0 ≤ x ∧ x < 256 := by
  have h := (b64f_ok ks ks.length (Nat.le_refl _)).rng
  unfold b64out
  split
  · intro x hx
    rcases List.mem_append.mp hx with q | q
    · exact h x q
    · simp only [List.mem_cons, List.not_mem_nil, or_false] at q
      rcases q with rfl | rfl | rfl
      · exact b64c_rng _
      · omega
      · omega
  split
  · intro x hx
    rcases List.mem_append.mp hx with q | q
    · exact h x q
    · simp only [List.mem_cons, List.not_mem_nil, or_false] at q
      rcases q with rfl | rfl
      · exact b64c_rng _
      · omega
  · exact h
theorem b64out_len (ks : List Int) : (b64out ks).length ≤ 3 * ks.length + 3 := by
  have h := (b64f_ok ks ks.length (Nat.le_refl _)).len
  unfold b64out
  split
  · rw [List.length_append]; simp; omega
  split
  · rw [List.length_append]; simp; omega
  · omega
theorem div_p2_nonneg {a n : Int} (h : 0 ≤ a) : 0 ≤ a / p2 n := Int.ediv_nonneg h (Int.le_of_lt (p2_pos n))
theorem or_add {a k : Int} (ha : 0 ≤ a) (h0 : 0 ≤ k) (h1 : k < 256) : Builtin.bitOr (a * 256) k = a * 256 + k := by
  have hz : Builtin.bitAnd (a * 256) k = 0 := by
    rw [bitAnd_pp (by omega) h0]
    obtain ⟨a, rfl⟩ := Int.eq_ofNat_of_zero_le ha
    obtain ⟨k, rfl⟩ := Int.eq_ofNat_of_zero_le h0
    have e1 : ((a : Int) * 256).toNat = a * 256 := by omega
    have e2 : ((k : Int)).toNat = k := rfl
    rw [e1, e2]
    have e3 : k = k &&& (2 ^ 8 - 1) := by rw [Nat.and_two_pow_sub_one_eq_mod]; omega
    have e4 : a * 256 &&& (2 ^ 8 - 1) = 0 := by rw [Nat.and_two_pow_sub_one_eq_mod]; omega
    have e5 : a * 256 &&& k = 0 := by
      rw [e3, Nat.and_comm k, ← Nat.and_assoc, e4, Nat.zero_and]
    rw [e5]; rfl
  rw [bitOr_and, hz]; omega
theorem and_mod {x : Int} (hx : 0 ≤ x) (n : Nat) : Builtin.bitAnd x (((2 ^ n - 1 : Nat)) : Int) = x % ((2 ^ n : Nat) : Int) := by
  obtain ⟨x, rfl⟩ := Int.eq_ofNat_of_zero_le hx
  have h : Builtin.bitAnd (x : Int) (((2 ^ n - 1 : Nat)) : Int) = ((x &&& (2 ^ n - 1) : Nat) : Int) := by
    rw [bitAnd_pp (Int.natCast_nonneg _) (Int.natCast_nonneg _)]
    simp only [Int.toNat_natCast]
  rw [h, Nat.and_two_pow_sub_one_eq_mod]
  exact Int.natCast_emod _ _
section
variable {prog : Program} {w : World} {A : Around} {E : Value → Shared → Prop} {s : Shared} {env : Env}
theorem shl_line (c : Int) {a n : Int} {t u : Tok} {Q : Value → Shared → Prop} (hn : 0 ≤ n) (hn2 : n ≤ 1000000) (hc : (2 : Int) ^ n.toNat = c) (h0 : 0 ≤ a) (h1 : a < 65536) (h : ∀ t' tk, Q (.int (a * c) t') { s with toks := tk }) : wpAny (model prog w) A (binaryOp .LShift (.int a t) (.int n u)) Q E s :=
  lshift_int_small hn hn2 (by omega) (by rw [hc]; exact h _ _)
theorem shr_line {a n : Int} {t u : Tok} {Q : Value → Shared → Prop} (hn : 0 ≤ n) (h : ∀ t' tk, Q (.int (a / p2 n) t') { s with toks := tk }) : wpAny (model prog w) A (binaryOp .RShift (.int a t) (.int n u)) Q E s :=
  rshift_int hn (by
    have e : a.fdiv (2 ^ n.toNat) = a / p2 n := by rw [show (2 : Int) ^ n.toNat = p2 n from rfl, Int.fdiv_eq_ediv_of_nonneg _ (Int.le_of_lt (p2_pos n))]
    rw [e]; exact h _ _)
theorem or_line {a k : Int} {t u : Tok} {Q : Value → Shared → Prop} (ha : 0 ≤ a) (h0 : 0 ≤ k) (h1 : k < 256) (h : ∀ t' tk, Q (.int (a * 256 + k) t') { s with toks := tk }) : wpAny (model prog w) A (binaryOp .BitOr (.int (a * 256) t) (.int k u)) Q E s :=
  or_int (by rw [or_add ha h0 h1]; exact h _ _)
theorem and_line (n : Nat) {a k c : Int} {t u : Tok} {Q : Value → Shared → Prop} (ha : 0 ≤ a) (hk : ((2 ^ n - 1 : Nat) : Int) = k) (hc : ((2 ^ n : Nat) : Int) = c) (h : ∀ r t' tk, r = a % c → Q (.int r t') { s with toks := tk }) : wpAny (model prog w) A (binaryOp .BitAnd (.int a t) (.int k u)) Q E s :=
  and_int (by rw [← hk, and_mod ha n, hc]; exact h _ _ _ rfl)
theorem b64_item {i : Int} {t ui : Tok} {value slice : Expr} {Q : Value → Shared → Prop} (h0 : 0 ≤ i) (h1 : i < 64) (h : ∀ t' tk, Q (.int (b64c i) t') { s with toks := tk })
    (hs : subscripted slice false (.bytes B64L.toArray t) (.int i ui) = operate [.bytes B64L.toArray t, .int i ui] (getItem (.bytes B64L.toArray t) (.int i ui)) := by with_unfolding_all rfl)
    (ht : ∀ r, letTemporaryGo value (.bytes B64L.toArray t) r = pure () := by intro _; with_unfolding_all rfl) : wpAny (model prog w) A (subscriptTail value slice (.bytes B64L.toArray t) (.int i ui)) Q E s :=
  bytes_item_K (by decide) h0 (show i < ((64 : Nat) : Int) by omega) rfl (h _ _) hs ht
end
end Mine
end
/-! B64b -/
section
open PySem.Calls
set_option maxRecDepth 100000
set_option maxHeartbeats 8000000
namespace Mine
def BJ (D : Addr) (m₀ : Str → Option Value) (st : B64St) (m : Str → Option Value) (nx : List (Addr × Obj)) : Prop :=
  ∃ vs nn t1 t2, nx = [(D, W.listOf vs.toArray nn)] ∧ IntsAre vs st.out ∧ m (Str.ofString "leftbits") = some (.int st.bits t1) ∧ m (Str.ofString "leftchar") = some (.int st.char t2) ∧
      ∀ z, z ≠ Str.ofString "b" → z ≠ Str.ofString "leftbits" → z ≠ Str.ofString "leftchar" → m z = m₀ z
theorem b2a_loop {prog : Program} {w : World} {A : Around} {E : Value → Shared → Prop} {s : Shared} {env : Env} {h₀ : Heap} {body : List Stmt} {Q : Flow → Shared → Prop} {b : Array UInt8} {tb : Tok} {ks : List Int}
    {m₀ : Str → Option Value} {D : Addr} {t1 t2 : Tok} {n0 : Nat} (hk : KBw.bInts b = ks) (hks : ks.length ≤ 1000) (hh : A.handled = none) (F : Fr h₀ env.locals s.heap m₀) (N : News h₀ env.locals s.heap [(D, W.listOf #[] n0)])
    (e1 : m₀ (Str.ofString "leftbits") = some (.int 0 t1)) (e2 : m₀ (Str.ofString "leftchar") = some (.int 0 t2))
    (turn : ∀ bits char out k t ta te vs nn h tk own, 0 ≤ bits → bits < 6 → 0 ≤ char → char < 65536 → vs.length ≤ 3000 → 0 ≤ k → k < 256 → OwnOff own [D] → IntsAre vs out →
      Fr h₀ env.locals h (fun z => if z = Str.ofString "b" then some (.int k t) else if z = Str.ofString "leftbits" then some (.int bits ta) else if z = Str.ofString "leftchar" then some (.int char te) else m₀ z) → News h₀ env.locals h ([(D, W.listOf vs.toArray nn)] ++ own) →
      wpAny (model prog w) A (execs body env) (InvPostN h₀ env.locals (BJ D m₀ (b64g ⟨bits, char, out⟩ k)) own [D] { s with heap := h, toks := tk } Q) E { s with heap := h, toks := tk })
    (done : ∀ (u : Str → Option Value) bits char out ta te vs nn h tk, (⟨bits, char, out⟩ : B64St) = b64f ks ks.length → 0 ≤ bits → bits < 6 → 0 ≤ char → char < 65536 → vs.length ≤ 3000 → IntsAre vs out →
      Fr h₀ env.locals h (fun z => if z = Str.ofString "b" then u z else if z = Str.ofString "leftbits" then some (.int bits ta) else if z = Str.ofString "leftchar" then some (.int char te) else m₀ z) → News h₀ env.locals h [(D, W.listOf vs.toArray nn)] → Q .next { s with heap := h, toks := tk }) :
    wpAny (model prog w) A (pyIter (.bytes b tb)) (fun it s₂ => LoopAtV prog w A h₀ env (Str.ofString "b") body Q E it s₂) E s := by
  refine KBmo.iter_bytesN (fun i m nx => BJ D m₀ (b64f ks i) m nx) hk hh F N ⟨[], n0, _, _, rfl, .nil, e1, e2, fun _ _ _ _ => rfl⟩ ?_ ?_
  · rintro i k t m₁ nx h tk own hki hlo hhi hoff ⟨vs, nn, t1, t2, rfl, hvs, hb1, hc1, hm⟩ F₁ N₁
    rw [map_two hb1 hc1 hm] at F₁
    have hle : i + 1 ≤ ks.length := (List.getElem?_eq_some_iff.mp hki).1
    have ok := b64f_ok ks i (by omega)
    rw [b64f_succ hki]
    obtain ⟨ob0, ob1, oc0, oc1, ol⟩ := ok
    have hl := hvs.length
    exact turn _ _ _ k t t1 t2 vs nn h tk own ob0 ob1 oc0 oc1 (by rw [hl]; omega) hlo hhi hoff hvs F₁ N₁
  · rintro m₁ nx h tk ⟨vs, nn, t1, t2, rfl, hvs, hb1, hc1, hm⟩ F₁ N₁
    obtain ⟨ob0, ob1, oc0, oc1, ol⟩ := b64f_ok ks ks.length (Nat.le_refl _)
    have hl := hvs.length
    refine done m₁ (b64f ks ks.length).bits (b64f ks ks.length).char (b64f ks ks.length).out t1 t2 vs nn h tk rfl ob0 ob1 oc0 oc1 (by rw [hl]; omega) hvs ?_ N₁
    rw [done_two hb1 hc1 hm]; exact F₁
theorem emit_succ (c b : Int) (j : Nat) : emit c b (j + 1) = emit c b j ++ [b64c (c / p2 (b - 6 * ((j : Int) + 1)) % 64)] := by
  unfold emit
  rw [List.range_succ, List.map_append]; rfl
theorem set_again {x : Str} {u v : Value} {m : Str → Option Value} : (fun z => if z = x then some u else if z = x then some v else m z) = fun z => if z = x then some u else m z := by
  funext z
  by_cases h : z = x
  · rw [if_pos h, if_pos h]
  · rw [if_neg h, if_neg h, if_neg h]
theorem set_self {x : Str} {v : Value} {m : Str → Option Value} (h : m x = some v) : (fun z => if z = x then some v else m z) = m := by
  funext z
  by_cases e : z = x
  · rw [if_pos e, e, h]
  · rw [if_neg e]
def WJ (D : Addr) (own : List (Addr × Obj)) (m₂ : Str → Option Value) (out : List Int) (c b : Int) (N0 : Nat) (n : Nat) (m : Str → Option Value) (nx : List (Addr × Obj)) : Prop :=
  ∃ (j : Nat) (vs : List Value) (nn : Nat) (t : Tok), n + j = 5 ∧ 6 * (j : Int) ≤ b ∧ m = (fun z => if z = Str.ofString "leftbits" then some (.int (b - 6 * (j : Int)) t) else m₂ z) ∧ nx = (D, W.listOf vs.toArray nn) :: own ∧ IntsAre vs (out ++ emit c b j) ∧ vs.length = N0 + j
theorem b2a_while {prog : Program} {w : World} {A : Around} {E : Value → Shared → Prop} {Q : Flow → Shared → Prop} {s : Shared} {env : Env} {h₀ : Heap} {L : Addr} {test : Expr} {body : List Stmt} {pos : Pos}
    {m₂ : Str → Option Value} {D : Addr} {own : List (Addr × Obj)} {vs : List Value} {nn : Nat} {out : List Int} {b : Int} {t : Tok} (c : Int) (F : Fr h₀ L s.heap m₂) (N : News h₀ L s.heap ((D, W.listOf vs.toArray nn) :: own)) (e1 : m₂ (Str.ofString "leftbits") = some (.int b t)) (hvs : IntsAre vs out) (h0 : 0 ≤ b) (h14 : b < 14)
    (turn : ∀ (j : Nat) vs' nn' t' h tk, j ≤ 2 → 6 * (j : Int) ≤ b → IntsAre vs' (out ++ emit c b j) → vs'.length = vs.length + j → Fr h₀ L h (fun z => if z = Str.ofString "leftbits" then some (.int (b - 6 * (j : Int)) t') else m₂ z) → News h₀ L h ((D, W.listOf vs'.toArray nn') :: own) →
      wpAny (model prog w) A (isTrue test env (eval test env)) (fun bb s₂ => if bb = true then wpAny (model prog w) A (execs body env) (WhileStep h₀ L s (WJ D own m₂ out c b vs.length) (5 - j)) E s₂ else Q .next s₂) E { s with heap := h, toks := tk })
    (hE : PassesOwn (model prog w) A env E := by passes_own) :
    wpAny (model prog w) A (exec (.While test body [] pos) env) Q E s := by
  refine While_inv (WJ D own m₂ out c b vs.length) (n₀ := 5) F N ⟨0, vs, nn, t, rfl, by simpa using h0, ?_, rfl, by simpa [emit] using hvs, rfl⟩ ?_ hE
  · have : b - 6 * ((0 : Nat) : Int) = b := by omega
    rw [this, set_self e1]
  · rintro n m₁ nx h tk F₁ N₁ ⟨j, vs', nn', t', hn, hj, rfl, rfl, hi, hl⟩
    have : n = 5 - j := by omega
    subst this
    exact turn j vs' nn' t' h tk (by omega) hj hi hl F₁ N₁
theorem wj_next {h₀ h' : Heap} {L : Addr} {s : Shared} {m₂ : Str → Option Value} {D : Addr} {own : List (Addr × Obj)} {vs' : List Value} {nn : Nat} {out : List Int} {b c r : Int} {t t' : Tok} {N0 j tk : Nat} {v : Value}
    (F : Fr h₀ L h' (fun y => if y = Str.ofString "leftbits" then some (.int (b - 6 * (j : Int) - 6) t) else if y = Str.ofString "leftbits" then some v else m₂ y)) (N : News h₀ L h' ((D, W.listOf (vs'.toArray.push (.int (b64c r) t')) nn) :: own))
    (hr : r = c / p2 (b - 6 * (j : Int) - 6) % 64) (h6 : 6 ≤ b - 6 * (j : Int)) (h2 : j ≤ 2) (hi : IntsAre vs' (out ++ emit c b j)) (hl : vs'.length = N0 + j) : WhileStep h₀ L s (WJ D own m₂ out c b N0) (5 - j) .next { s with heap := h', toks := tk } := by
  subst hr
  rw [set_again] at F
  have e : b - 6 * (j : Int) - 6 = b - 6 * ((j : Int) + 1) := by omega
  rw [e] at F N
  refine WhileStep.intro (n' := 5 - (j + 1)) F N (by omega) ⟨j + 1, vs' ++ [.int (b64c (c / p2 (b - 6 * ((j : Int) + 1)) % 64)) t'], nn, t, by omega, by omega, ?_, ?_, ?_, by simp; omega⟩
  · rfl
  · simp
  · rw [emit_succ, ← List.append_assoc]
    exact IntsAre.append hi (.cons _ _ .nil)
theorem turn_end {h₀ h : Heap} {L D : Addr} {own : List (Addr × Obj)} {m' m₀ : Str → Option Value} {bits char k c2 : Int} {out : List Int} {vs' : List Value} {nn' : Nat} {j : Nat} {t' t2 : Tok} {s₁ : Shared} {tk : Nat}
    (F : Fr h₀ L h m') (N : News h₀ L h ((D, W.listOf vs'.toArray nn') :: own)) (hr : c2 = (char * 256 + k) % 65536) (hi : IntsAre vs' (out ++ emit c2 (bits + 8) j)) (h1 : 6 * (j : Int) ≤ bits + 8) (h2 : ¬ 6 ≤ bits + 8 - 6 * (j : Int))
    (e1 : m' (Str.ofString "leftbits") = some (.int (bits + 8 - 6 * (j : Int)) t')) (e2 : m' (Str.ofString "leftchar") = some (.int c2 t2)) (e3 : ∀ z, z ≠ Str.ofString "b" → z ≠ Str.ofString "leftbits" → z ≠ Str.ofString "leftchar" → m' z = m₀ z) :
    InvEndN h₀ L (BJ D m₀ (b64g ⟨bits, char, out⟩ k)) own [D] s₁ { s₁ with heap := h, toks := tk } := by
  have hj : ((bits + 8) / 6).toNat = j := by omega
  have hb : bits + 8 - 6 * (j : Int) = bits + 8 - 6 * ((bits + 8) / 6) := by omega
  subst hr
  refine ⟨h, tk, m', _, [(D, W.listOf vs'.toArray nn')], rfl, F, N, ?_, ?_, rfl, vs', nn', t', t2, rfl, ?_, ?_, e2, e3⟩
  · intro p hp
    rw [List.mem_singleton.mp hp]; exact List.mem_cons_self ..
  · intro p hp; exact List.mem_cons_of_mem _ hp
  · show IntsAre vs' (out ++ emit _ _ ((bits + 8) / 6).toNat)
    rw [hj]; exact hi
  · rw [e1, hb]; rfl
theorem b2a_bytes {prog : Program} {w : World} {A : Around} {E Q : Value → Shared → Prop} {s : Shared} {g : Heap} {L D : Addr} {m : Str → Option Value} {arr : Array Value} {nn : Nat} {ks : List Int}
    (F : Fr g L s.heap m) (N : News g L s.heap [(D, W.listOf arr nn)]) (hA : A.handled = none) (hi : IntsAre arr.toList (b64out ks)) (hk : ks.length ≤ 1000)
    (h : ∀ h' t' k, Kp g h' → Q (.bytes (byteArr (b64out ks)) t') { s with heap := h', toks := k }) : wpAny (model prog w) A (call (.type "bytes") [.ref D]) Q E s := by
  obtain ⟨vs⟩ := arr
  have := b64out_len ks
  exact KBa.make_K F N hA (News.isList N (List.mem_cons_self ..)) hi (b64out_rng ks) (by omega) fun h' t' k F' _ _ => h h' t' k F'.keep
theorem out_two {ks : List Int} {bits char r : Int} {out : List Int} {vs : List Value} {a b c : Tok} (hst : (⟨bits, char, out⟩ : B64St) = b64f ks ks.length) (hb : bits = 2) (hr : r = char % 4) (hi : IntsAre vs out) :
    IntsAre (((vs.toArray.push (.int (b64c (r * 16)) a)).push (.int 61 b)).push (.int 61 c)).toList (b64out ks) := by
  have e : (((vs.toArray.push (.int (b64c (r * 16)) a)).push (.int 61 b)).push (.int 61 c)).toList = vs ++ [.int (b64c (r * 16)) a, .int 61 b, .int 61 c] := by simp
  rw [e]
  unfold b64out
  rw [← hst, if_pos hb, hr]
  exact IntsAre.append hi (.cons _ _ (.cons _ _ (.cons _ _ .nil)))
theorem out_four {ks : List Int} {bits char r : Int} {out : List Int} {vs : List Value} {a b : Tok} (hst : (⟨bits, char, out⟩ : B64St) = b64f ks ks.length) (hb : bits = 4) (hr : r = char % 16) (hi : IntsAre vs out) :
    IntsAre ((vs.toArray.push (.int (b64c (r * 4)) a)).push (.int 61 b)).toList (b64out ks) := by
  have e : ((vs.toArray.push (.int (b64c (r * 4)) a)).push (.int 61 b)).toList = vs ++ [.int (b64c (r * 4)) a, .int 61 b] := by simp
  rw [e]
  unfold b64out
  rw [← hst, if_neg (by show ¬ bits = 2; omega), if_pos hb, hr]
  exact IntsAre.append hi (.cons _ _ (.cons _ _ .nil))
theorem out_none {ks : List Int} {bits char : Int} {out : List Int} {vs : List Value} (hst : (⟨bits, char, out⟩ : B64St) = b64f ks ks.length) (hb : bits ≠ 2) (hb4 : bits ≠ 4) (hi : IntsAre vs out) :
    IntsAre vs (b64out ks) := by
  unfold b64out
  rw [← hst, if_neg hb, if_neg hb4]
  exact hi
theorem b2a_code {w : World} {mean : ExcName → Option Value} {mg mb : Str → Option Value} {A : Around} {s : Shared} {R : Result → Shared → Prop}
  (hh : A.handled = none) (hd : A.depth + 20 < recursionLimit) (hu : A.units + 140 < cLine) (X : (headOf.heap_39 w.params).In s.heap) (T : Top topProg LO mean mg mb s.heap)
  {b : Array UInt8} {t : Tok} {ks : List Int} (hb : KBw.bInts b = ks) (hk : ks.length ≤ 1000)
  (h : ∀ h' t' tk', Kp s.heap h' → R (.ok (.ret (.bytes (byteArr (b64out ks)) t'))) { s with heap := h', toks := tk' }) :
  codeAny (model PR w) A (.call (.ref 102) ⟨[.bytes b t], [(Str.ofString "newline", .bool false)]⟩) R s := by
  k_with_none
  k_with "execs cons" => (k_here; first | k_gentoks | ((try k_fold); (with_reducible refine wpAny_execs_cons ?_); (try dsimp only); k_fold))
  k_with "exec For" => (refine Stop.go ?_)
  k_with "exec While" => (refine Stop.go ?_)
  k_with "call ref" => (k_here; (with_reducible show wpAny _ _ (call (Value.ref 87) _) _ _ _); k_dflt (refine' buffer_spec rfl (by simp only [depth_deeper]; omega) (by dsimp only [Around.deeper]; omega) (by k_in) (Top.keeps (by k_asm) (Fr.keep (by k_asm))) ?_; k_whole); intro _ _ kp'; (with_reducible rename Fr _ _ _ _ => kF); (with_reducible rename News _ _ _ _ => kN); have F' := fr_kp kF kp'; have N' := news_kp kN kp'; (try k_sweep); (try k_unmd); (try dsimp only))
  k_with "call ref" => (k_here; (with_reducible show wpAny _ _ (call (Value.ref 94) _) _ _ _); k_dflt (refine' truth_spec rfl (by simp only [depth_deeper]; omega) (by dsimp only [Around.deeper]; omega) (by k_in) (Top.keeps (by k_asm) (Fr.keep (by k_asm))) ?_; k_whole); intro _ _ kp'; (with_reducible rename Fr _ _ _ _ => kF); (with_reducible rename News _ _ _ _ => kN); have F' := fr_kp kF kp'; have N' := news_kp kN kp'; (try k_sweep); (try k_unmd); (try dsimp only))
  k_with "pyIter bytes" => (refine Stop.go ?_)
  k_with "binaryOp LShift int int" => (k_here; (with_reducible refine shl_line 256 (n := 8) (by decide) (by decide) rfl (by omega) (by omega) ?_); intro _ _; (try k_sweep); (try k_unmd); (try dsimp only))
  k_with "binaryOp LShift int int" => (k_here; (with_reducible refine shl_line 16 (n := 4) (by decide) (by decide) rfl (by omega) (by omega) ?_); intro _ _; (try k_sweep); (try k_unmd); (try dsimp only))
  k_with "binaryOp LShift int int" => (k_here; (with_reducible refine shl_line 4 (n := 2) (by decide) (by decide) rfl (by omega) (by omega) ?_); intro _ _; (try k_sweep); (try k_unmd); (try dsimp only))
  k_with "binaryOp RShift int int" => (k_here; k_dflt (refine' shr_line (by omega) ?_); intro _ _; (try k_sweep); (try k_unmd); (try dsimp only))
  k_with "binaryOp BitOr int int" => (k_here; k_dflt (refine' or_line (by omega) (by omega) (by omega) ?_); intro _ _; (try k_sweep); (try k_unmd); (try dsimp only))
  k_with "binaryOp BitAnd int int" => (k_here; (with_reducible refine and_line 16 (k := 65535) (c := 65536) (by omega) rfl rfl ?_); intro _ _ _ _; (try k_sweep); (try k_unmd); (try dsimp only))
  k_with "binaryOp BitAnd int int" => (k_here; (with_reducible refine and_line 6 (k := 63) (c := 64) (by first | omega | exact div_p2_nonneg (by omega)) rfl rfl ?_); intro _ _ _ _; (try k_sweep); (try k_unmd); (try dsimp only))
  k_with "binaryOp BitAnd int int" => (k_here; (with_reducible refine and_line 2 (k := 3) (c := 4) (by omega) rfl rfl ?_); intro _ _ _ _; (try k_sweep); (try k_unmd); (try dsimp only))
  k_with "binaryOp BitAnd int int" => (k_here; (with_reducible refine and_line 4 (k := 15) (c := 16) (by omega) rfl rfl ?_); intro _ _ _ _; (try k_sweep); (try k_unmd); (try dsimp only))
  k_with "subscriptTail" => (k_here; (with_reducible show wpAny _ _ (subscriptTail _ _ (Value.bytes _ _) (Value.int _ _)) _ _ _); k_dflt (refine' b64_item (by omega) (by omega) ?_); intro _ _; (try k_sweep); (try k_unmd); (try dsimp only))
  obtain ⟨ha, dp, fr, gd, un⟩ := A
  dsimp only at hh
  subst hh
  dsimp only at hd hu
  (refine' code_dir (binds := [(Str.ofString "data", .bytes b t), (Str.ofString "newline", .bool false)]) ?k3 (Top.nolimit ?k5) ?k6 ?k7 ?k8 ?k9 ?kB ?_ ?c2 ?c3 ?c4 ?c5; (case k3 => k_asm); (case k5 => k_asm); (case k6 => k_is); (case k7 => k_is); (case k8 => first | omega | (dsimp only; omega)); (case k9 => first | exact BindsTo.of_eq rfl | exact binds_K (by k_in) rfl (by k_is) rfl rfl rfl); (case kB => exact locs rfl); (case c2 => exact rfl); (case c3 => exact rfl); (case c4 => exact rfl); (case c5 => decide))
  intro L' h' F'
  have N' : News s.heap L' h' [] := News.nil
  show wpAny _ _ _ _ _ _
  k_fold
  k_steps
  show wpAny _ _ _ _ _ _
  (with_reducible rename Fr _ _ _ _ => F9)
  (with_reducible rename News _ _ _ _ => N9)
  refine b2a_loop hb hk rfl F9 N9 rfl rfl ?turn ?done
  case turn =>
    intro bits char out k t ta te vs nn h9 tk9 own ob0 ob1 oc0 oc1 ol hk0 hk1 hoff hvs F₁ N₁
    clear F9 N9
    show wpAny _ _ _ _ _ _
    k_steps
    show wpAny _ _ _ _ _ _
    (with_reducible rename _ = (char * 256 + k) % 65536 => hr)
    (with_reducible rename Fr _ _ _ _ => F2)
    (with_reducible rename News _ _ _ _ => N2)
    clear F₁ N₁
    rename Int => c2
    refine b2a_while c2 F2 N2 rfl hvs (by omega) (by omega) ?_
    intro j vs' nn' t' h3 tk3 hj hj6 hi hl F₃ N₃
    clear F2 N2
    show wpAny _ _ _ _ _ _
    k_steps
    · exact wj_next (by assumption) (by assumption) (by assumption) (by assumption) hj hi hl
    · exact turn_end F₃ N₃ hr hi hj6 (by assumption) rfl rfl (fun z n1 n2 n3 => by simp [n1, n2, n3])
  case done =>
    intro u bits char out ta te vs nn h9 tk9 hst ob0 ob1 oc0 oc1 ol hvs F₁ N₁
    clear F9 N9
    show wpAny _ _ _ _ _ _
    k_steps
    · refine b2a_bytes (by assumption) (by assumption) rfl (out_two hst (by assumption) (by assumption) hvs) hk ?_
      intro h' t' k kp
      dsimp only
      k_unfold
      exact h _ _ _ kp
    · refine b2a_bytes (by assumption) (by assumption) rfl (out_four hst (by assumption) (by assumption) hvs) hk ?_
      intro h' t' k kp
      dsimp only
      k_unfold
      exact h _ _ _ kp
    · refine b2a_bytes (by assumption) (by assumption) rfl (out_none hst (by assumption) (by assumption) hvs) hk ?_
      intro h' t' k kp
      dsimp only
      k_unfold
      exact h _ _ _ kp
end Mine
end
/-! B64c -/
section
open PySem.Calls
set_option maxRecDepth 100000
set_option maxHeartbeats 8000000
namespace Mine
theorem b2a_spec {w : World} {mean : ExcName → Option Value} {mg mb : Str → Option Value} {A : Around} {s : Shared} {Q E : Value → Shared → Prop}
  (hh : A.handled = none) (hd : A.depth + 20 < recursionLimit) (hu : A.units + 140 < cLine) (X : (headOf.heap_39 w.params).In s.heap) (T : Top topProg LO mean mg mb s.heap)
  {b : Array UInt8} {t : Tok} {ks : List Int} (hb : KBw.bInts b = ks) (hk : ks.length ≤ 1000)
  (h : ∀ h' t' tk', Kp s.heap h' → Q (.bytes (byteArr (b64out ks)) t') { s with heap := h', toks := tk' }) :
  wpAny (model PR w) A (call (.ref 102) [.bytes b t] [(Str.ofString "newline", .bool false)]) Q E s := by
  refine wpAny_call ?_
  exact b2a_code hh hd hu X T hb hk h
theorem encode_spec {w : World} {mean : ExcName → Option Value} {mg mb : Str → Option Value} {A : Around} {s : Shared} {Q E : Value → Shared → Prop}
  (hh : A.handled = none) (hd : A.depth + 30 < recursionLimit) (hu : A.units + 200 < cLine) (X : (headOf.heap_39 w.params).In s.heap) (T : Top topProg LO mean mg mb s.heap)
  {b : Array UInt8} {t : Tok} {ks : List Int} (hb : KBw.bInts b = ks) (hk : ks.length ≤ 1000)
  (h : ∀ h' t' tk', Kp s.heap h' → Q (.bytes (byteArr (b64out ks)) t') { s with heap := h', toks := tk' }) :
  wpAny (model PR w) A (call (.ref 110) [.bytes b t]) Q E s := by
  k_with_none
  k_with "execs cons" => (k_here; first | k_gentoks | ((try k_fold); (with_reducible refine wpAny_execs_cons ?_); (try dsimp only); k_fold))
  obtain ⟨ha, dp, fr, gd, un⟩ := A
  dsimp only at hh
  subst hh
  dsimp only at hd hu
  (refine wpAny_call ?_; (refine' code_dir (binds := [(Str.ofString "s", .bytes b t), (Str.ofString "altchars", .none)]) ?k3 (Top.nolimit ?k5) ?k6 ?k7 ?k8 ?k9 ?kB ?_ ?c2 ?c3 ?c4 ?c5; (case k3 => k_asm); (case k5 => k_asm); (case k6 => k_is); (case k7 => k_is); (case k8 => first | omega | (dsimp only; omega)); (case k9 => first | exact BindsTo.of_eq rfl | exact binds_K (by k_in) rfl (by k_is) rfl rfl rfl); (case kB => exact locs rfl); (case c2 => exact rfl); (case c3 => exact rfl); (case c4 => exact rfl); (case c5 => decide)))
  intro L' h' F'
  have N' : News s.heap L' h' [] := News.nil
  show wpAny _ _ _ _ _ _
  k_fold
  k_steps
  show wpAny _ _ (call (.ref 102) [.bytes b t] [(Str.ofString "newline", .bool false)]) _ _ _
  refine b2a_spec rfl (by simp only [depth_deeper]; omega) (by dsimp only [Around.deeper]; omega) (by k_in) (Top.keeps (by k_asm) (Fr.keep (by k_asm))) hb hk ?_
  intro h2 t2 tk2 kp2
  have F2 := fr_kp F' kp2
  have N2 : News s.heap L' h2 [] := News.nil
  clear F' N'
  show wpAny _ _ _ _ _ _
  k_steps
  all_goals ((try dsimp only); (try k_unfold); exact h _ _ _ (Fr.keep (by assumption)))
end Mine
end
/-! Tr -/
section
open PySem.Calls
set_option maxHeartbeats 1000000
set_option maxRecDepth 100000
namespace Mine
open Builtin Builtin.Str
section
variable {prog : Program} {w : World} {A : Around} {E : Value → Shared → Prop} {s : Shared}
theorem forIn_one {β : Type} (c : Nat) (init : β) (f : Nat → β → Sem (ForInStep β)) : forIn (#[c] : Array Nat) init f = (f c init >>= fun r => match r with | .done b => pure b | .yield b => pure b) := by
  show forIn [c].toArray init f = _
  rw [List.forIn_toArray, List.forIn_cons]
  congr 1
theorem look_miss {c : Nat} {d : Addr} {f : Int → Option Value} {Q : Mapped → Shared → Prop} (hm : s.heap.MapOf (intKind prog w) d f) (hd : (d == sysModules) = false) (hh : A.handled = none) (hv : f (c : Int) = none)
    (h : ∀ h' tk, Kp s.heap h' → Q .keep { s with heap := h', toks := tk }) : wpAny (model prog w) A (tableLookup (.ref d) c) Q E s := by
  unfold tableLookup
  refine wpAny_bind (wpAny_attempt (wpAny_bind (wpAny_mkInt ?_)))
  refine wpAny_getItem_missing_of (s := { s with toks := s.toks + 1 }) (k := (c : Int)) (by simp [intKind, Value.isInt]) hd hh hm hv ?_
  intro h' e he
  obtain ⟨ob, tt, h1, h2, h3⟩ := he.there
  show wpAny _ _ (isInstance (.ref e) (.type "LookupError") >>= _) _ _ _
  refine wpAny_bind (wpAny_isInstance (T := "KeyError") (b := true) ⟨ob, h1, h2⟩ (by rw [isSubtype_type]; kernel_rfl) ?_)
  rw [if_pos rfl]
  exact wpAny_bind (wpAny_rule (wpAny_pure (h h' _ he.keeps)))
theorem look_text {c : Nat} {d : Addr} {f : Int → Option Value} {y : Str} {u : Tok} {Q : Mapped → Shared → Prop} (hm : s.heap.MapOf (intKind prog w) d f) (hv : f (c : Int) = some (.str y u))
    (h : ∀ tk, Q (.text y) { s with toks := tk }) : wpAny (model prog w) A (tableLookup (.ref d) c) Q E s := by
  unfold tableLookup
  refine wpAny_bind (wpAny_attempt (wpAny_bind (wpAny_mkInt ?_)))
  refine wpAny_getItem_of (s := { s with toks := s.toks + 1 }) (k := (c : Int)) (by simp [intKind, Value.isInt]) hm hv ?_
  show wpAny _ _ (asInt? (.str y u) >>= _) _ _ _
  refine wpAny_bind (wpAny_of_eq (a := none) rfl ?_)
  show wpAny _ _ (asStr? (.str y u) >>= _) _ _ _
  refine wpAny_bind (wpAny_of_eq (a := some y) rfl ?_)
  exact wpAny_pure (h _)
theorem ret_str {x : Str} {Q : Fin → Shared → Prop} (hx : x.length ≤ sizeLine) (h : ∀ t tk, Q (.done (.ret (.str x t))) { s with toks := tk }) : wpAny (model prog w) A (retStr x) Q E s := by
  unfold retStr mkStr
  rw [if_neg (Nat.not_lt.mpr hx)]
  exact wpAny_bind (wpAny_bind (wpAny_fresh (wpAny_pure (wpAny_pure (h _ _)))))
theorem translate_keep {c : Nat} {t : Tok} {d : Addr} {f : Int → Option Value} {Q : Value → Shared → Prop} (hm : s.heap.MapOf (intKind prog w) d f) (hd : (d == sysModules) = false) (hc : c < 128) (hh : A.handled = none) (hv : f (c : Int) = none)
    (h : ∀ h' t' tk, Kp s.heap h' → Q (.str ⟨#[c]⟩ t') { s with heap := h', toks := tk }) : wpAny (model prog w) A (call (.builtin "str.translate") [.str ⟨#[c]⟩ t, .ref d]) Q E s := by
  refine wpAny_call_entry (T := "str") F.slot_str_translate (typeIs_str _ _ _) F.entry_str_translate ?_ (F.args_str_translate_2 _ _)
  unfold Builtin.«str.translate»
  refine wpAny_bind (wpAny_of_eq (a := (Value.str ⟨#[c]⟩ t, (⟨#[c]⟩ : Str), Value.ref d)) rfl ?_)
  dsimp only
  rw [if_neg (show ¬ (((⟨#[c]⟩ : Str).length == 0) = true) from by show ¬ ((1 == 0) = true); decide)]
  have hf : (#[c] : Array Nat).all (fun x => decide (x < 128)) = true := by simp [hc]
  rw [hf]
  rw [forIn_one]
  dsimp only
  rw [if_neg (show ¬ (Str.tooLong 0 = true) from by decide)]
  refine wpAny_bind (wpAny_bind ?_)
  rw [if_pos rfl]
  show wpAny _ _ (tableLookup (Value.ref d) c >>= _) _ _ _
  refine wpAny_bind (look_miss (A := A.in1) hm hd hh hv ?_)
  intro h' tk kp
  show wpAny _ _ (pure (some (some c)) >>= _) _ _ _
  refine wpAny_bind (wpAny_pure ?_)
  refine wpAny_pure ?_
  refine wpAny_pure ?_
  dsimp only
  rw [if_neg (show ¬ (Str.tooLong 1 = true) from by decide)]
  exact ret_str (show 1 ≤ sizeLine by decide) fun t' tk' => ⟨_, rfl, h h' t' tk' kp⟩
theorem translate_text {c : Nat} {t : Tok} {d : Addr} {f : Int → Option Value} {Q : Value → Shared → Prop} (hm : s.heap.MapOf (intKind prog w) d f) (hc : c < 128) {y : Str} {u : Tok} (hv : f (c : Int) = some (.str y u)) (hy : (y.length == 1) = false) (hy2 : y.length ≤ 100)
    (h : ∀ t' tk, Q (.str y t') { s with toks := tk }) : wpAny (model prog w) A (call (.builtin "str.translate") [.str ⟨#[c]⟩ t, .ref d]) Q E s := by
  refine wpAny_call_entry (T := "str") F.slot_str_translate (typeIs_str _ _ _) F.entry_str_translate ?_ (F.args_str_translate_2 _ _)
  unfold Builtin.«str.translate»
  refine wpAny_bind (wpAny_of_eq (a := (Value.str ⟨#[c]⟩ t, (⟨#[c]⟩ : Str), Value.ref d)) rfl ?_)
  dsimp only
  rw [if_neg (show ¬ (((⟨#[c]⟩ : Str).length == 0) = true) from by show ¬ ((1 == 0) = true); decide)]
  have hf : (#[c] : Array Nat).all (fun x => decide (x < 128)) = true := by simp [hc]
  rw [hf]
  rw [forIn_one]
  dsimp only
  rw [if_neg (show ¬ (Str.tooLong 0 = true) from by decide)]
  refine wpAny_bind (wpAny_bind ?_)
  rw [if_pos rfl]
  show wpAny _ _ (tableLookup (Value.ref d) c >>= _) _ _ _
  refine wpAny_bind (look_text (A := A.in1) hm hv ?_)
  intro tk
  dsimp only
  have e1 : (y.length == 1 && y.cps.all fun x => decide (x < 128)) = false := by rw [hy]; rfl
  rw [e1]
  show wpAny _ _ (pure none >>= _) _ _ _
  refine wpAny_bind (wpAny_pure ?_)
  refine wpAny_bind (wpAny_rule ?_)
  rw [if_neg Bool.false_ne_true]
  refine wpAny_bind (look_text (A := A.in1) (s := { s with toks := tk }) hm hv ?_)
  intro tk2
  refine wpAny_pure ?_
  refine wpAny_pure ?_
  dsimp only
  have e2 : Str.tooLong (0 + y.length) = false := by
    unfold Str.tooLong
    have : sizeLine = 16777216 := sizeLine_eq
    simp; omega
  rw [if_neg (by rw [e2]; exact Bool.false_ne_true)]
  have e3 : (⟨List.foldl (fun acc p => acc ++ p.cps) #[] [y].reverse⟩ : Str) = y := by
    show (⟨#[] ++ y.cps⟩ : Str) = y
    simp
  rw [e3]
  exact ret_str (by have : sizeLine = 16777216 := sizeLine_eq; omega) fun t' tk' => ⟨_, rfl, h t' tk'⟩
theorem gm_translate {M : Model} {x : Str} {t : Tok} {pl : Sem Bool} {Q : Value × List Value → Shared → Prop} (h : Q (.builtin "str.translate", [.str x t]) s) : wpAny M A (getMethod (.str x t) (Str.ofString "translate") pl) Q E s := by
  with_reducible exact GM.of (.str x t) (typeIs_str _ _ _) F.slot_str_translate F.type_str_translate GM.noRef h
end
end Mine
end
/-! Esc -/
section
open PySem.Calls
set_option maxRecDepth 100000
set_option maxHeartbeats 8000000
namespace Mine
def intKeysB (es : List DictEntry) : Bool := es.all fun e => match e.key with | .int k _ => e.hash == hashInt k | _ => false
theorem map_int {prog : Program} {w : World} {K : Frag} {h : Heap} {a : Addr} {es : Array DictEntry} {n : Nat} (X : K.In h) (hl : K.lookup a = some ⟨.type "dict", none, .dict es n, #[]⟩) (hk : intKeysB es.toList = true) :
    h.MapOf (intKind prog w) a (fun k => findBy Value.isInt es k) := by
  refine ⟨_, es, n, X _ _ hl, ⟨rfl, rfl, rfl⟩, rfl, ?_, fun _ => rfl⟩
  intro e he
  have := List.all_eq_true.mp hk e (Array.mem_toList_iff.mpr he)
  split at this
  · rename_i k t q
    refine ⟨k, ?_, ?_⟩
    · show Value.isInt k e.key = true
      rw [q]; simp [Value.isInt]
    · show e.hash = hashInt k
      simpa using this
  · cases this
/-- the letters, digits, '/' and '=' : signs that escape leaves -/
def plainC : List Nat := (List.range 26).map (· + 65) ++ (List.range 26).map (· + 97) ++ (List.range 10).map (· + 48) ++ [47, 61]
theorem escape_plain {prog : Program} {w : World} {K : Frag} {A : Around} {E Q : Value → Shared → Prop} {s : Shared} {es : Array DictEntry} {n : Nat} {c : Nat} {t : Tok} {d : Addr} (X : K.In s.heap) (hl : K.lookup d = some ⟨.type "dict", none, .dict es n, #[]⟩) (hk : intKeysB es.toList = true)
    (hno : (plainC.all fun c => (findBy Value.isInt es ((c : Nat) : Int)).isNone) = true) (hd : (d == sysModules) = false) (hh : A.handled = none) (hc : c ∈ plainC)
    (h : ∀ h' t' tk, Kp s.heap h' → Q (.str ⟨#[c]⟩ t') { s with heap := h', toks := tk }) : wpAny (model prog w) A (call (.builtin "str.translate") [.str ⟨#[c]⟩ t, .ref d]) Q E s := by
  have h128 : (plainC.all fun c => decide (c < 128)) = true := by decide
  exact translate_keep (map_int X hl hk) hd (by simpa using List.all_eq_true.mp h128 c hc) hh (by simpa using List.all_eq_true.mp hno c hc) h
theorem escape_plus {prog : Program} {w : World} {K : Frag} {A : Around} {E Q : Value → Shared → Prop} {s : Shared} {es : Array DictEntry} {n : Nat} {t u : Tok} {d : Addr} (X : K.In s.heap) (hl : K.lookup d = some ⟨.type "dict", none, .dict es n, #[]⟩) (hk : intKeysB es.toList = true)
    (hv : findBy Value.isInt es 43 = some (.str (Str.ofString "\\+") u))
    (h : ∀ t' tk, Q (.str (Str.ofString "\\+") t') { s with toks := tk }) : wpAny (model prog w) A (call (.builtin "str.translate") [.str ⟨#[43]⟩ t, .ref d]) Q E s :=
  translate_text (map_int X hl hk) (by decide) hv (by decide +kernel) (by decide +kernel) h
theorem escape_spec {w : World} {mean : ExcName → Option Value} {mg mb : Str → Option Value} {A : Around} {s : Shared} {Q E : Value → Shared → Prop}
  (hh : A.handled = none) (hd : A.depth + 30 < recursionLimit) (hu : A.units + 200 < cLine) (X : (headOf.heap_39 w.params).In s.heap) (T : Top topProg LO mean mg mb s.heap)
  {c : Nat} {t : Tok} (hc : c ∈ plainC)
  (h : ∀ h' t' tk', Kp s.heap h' → Q (.str ⟨#[c]⟩ t') { s with heap := h', toks := tk' }) :
  wpAny (model PR w) A (call (.ref 127) [.str ⟨#[c]⟩ t]) Q E s := by
  k_with_none
  k_with "execs cons" => (k_here; first | k_gentoks | ((try k_fold); (with_reducible refine wpAny_execs_cons ?_); (try dsimp only); k_fold))
  k_with "getMethod str" => (k_here; k_dflt (refine gm_translate ?_))
  k_with "call builtin:str.translate" => (refine Stop.go ?_)
  obtain ⟨ha, dp, fr, gd, un⟩ := A
  dsimp only at hh
  subst hh
  dsimp only at hd hu
  (refine wpAny_call ?_; (refine' code_dir (binds := [(Str.ofString "pattern", .str ⟨#[c]⟩ t)]) ?k3 (Top.nolimit ?k5) ?k6 ?k7 ?k8 ?k9 ?kB ?_ ?c2 ?c3 ?c4 ?c5; (case k3 => k_asm); (case k5 => k_asm); (case k6 => k_is); (case k7 => k_is); (case k8 => first | omega | (dsimp only; omega)); (case k9 => first | exact BindsTo.of_eq rfl | exact binds_K (by k_in) rfl (by k_is) rfl rfl rfl); (case kB => exact locs rfl); (case c2 => exact rfl); (case c3 => exact rfl); (case c4 => exact rfl); (case c5 => decide)))
  intro L' h' F'
  have N' : News s.heap L' h' [] := News.nil
  show wpAny _ _ _ _ _ _
  k_fold
  k_steps
  show wpAny _ _ _ _ _ _
  refine' escape_plain (K := headOf.heap_39 w.params) (by k_in) ?hl ?hk ?hno ?hd2 rfl hc ?_
  case hl => k_is
  case hk => decide +kernel
  case hno => decide +kernel
  case hd2 => decide +kernel
  intro h2 t2 tk2 kp2
  dsimp only
  k_unfold
  exact h _ _ _ (Kp.trans F'.keep kp2)
theorem escape_spec_plus {w : World} {mean : ExcName → Option Value} {mg mb : Str → Option Value} {A : Around} {s : Shared} {Q E : Value → Shared → Prop}
  (hh : A.handled = none) (hd : A.depth + 30 < recursionLimit) (hu : A.units + 200 < cLine) (X : (headOf.heap_39 w.params).In s.heap) (T : Top topProg LO mean mg mb s.heap)
  {t : Tok}
  (h : ∀ h' t' tk', Kp s.heap h' → Q (.str (Str.ofString "\\+") t') { s with heap := h', toks := tk' }) :
  wpAny (model PR w) A (call (.ref 127) [.str ⟨#[43]⟩ t]) Q E s := by
  k_with_none
  k_with "execs cons" => (k_here; first | k_gentoks | ((try k_fold); (with_reducible refine wpAny_execs_cons ?_); (try dsimp only); k_fold))
  k_with "getMethod str" => (k_here; k_dflt (refine gm_translate ?_))
  k_with "call builtin:str.translate" => (refine Stop.go ?_)
  obtain ⟨ha, dp, fr, gd, un⟩ := A
  dsimp only at hh
  subst hh
  dsimp only at hd hu
  (refine wpAny_call ?_; (refine' code_dir (binds := [(Str.ofString "pattern", .str ⟨#[43]⟩ t)]) ?k3 (Top.nolimit ?k5) ?k6 ?k7 ?k8 ?k9 ?kB ?_ ?c2 ?c3 ?c4 ?c5; (case k3 => k_asm); (case k5 => k_asm); (case k6 => k_is); (case k7 => k_is); (case k8 => first | omega | (dsimp only; omega)); (case k9 => first | exact BindsTo.of_eq rfl | exact binds_K (by k_in) rfl (by k_is) rfl rfl rfl); (case kB => exact locs rfl); (case c2 => exact rfl); (case c3 => exact rfl); (case c4 => exact rfl); (case c5 => decide)))
  intro L' h' F'
  have N' : News s.heap L' h' [] := News.nil
  show wpAny _ _ _ _ _ _
  k_fold
  k_steps
  show wpAny _ _ _ _ _ _
  refine' escape_plus (K := headOf.heap_39 w.params) (by k_in) ?hl ?hk ?hv ?_
  case hl => k_is
  case hk => decide +kernel
  case hv => rfl
  intro t2 tk2
  dsimp only
  k_unfold
  exact h _ _ _ F'.keep
end Mine
end
/-! Sub -/
section
open PySem.Calls
set_option maxHeartbeats 1000000
set_option maxRecDepth 100000
namespace Mine
open Builtin Builtin.Re
/-- the pattern's code, as the top made it -/
def reCode : Array Nat := #[14, 14, 4, 1, 1, 9, 0, 64, 0, 1342177280, 0, 0, 0, 0, 0, 17, 0, 13, 11, 9, 0, 64, 0, 1342177280, 0, 0, 0, 0, 0, 17, 1, 1]
def reBad (c : Nat) : Bool := c < 256 && (reCode.getD (5 + (1 + c / 32)) 0).testBit (c % 32)
theorem inSet_eq (c : Nat) (seen : Sre.Seen) : ∃ s1 s2, Sre.inSet reCode c 32 5 true seen = if reBad c = true then .ok (true, s1) else .ok (false, s2) := ⟨_, _, rfl⟩
theorem admitted_none (m : Sre.M) (hc : m.code = reCode) (ht : ∀ i, i < m.lim → reBad (m.text.getD i 0) = false) : ∀ (fuel s : Nat) (seen : Sre.Seen), ∃ seen', Sre.M.admitted m fuel s seen = .ok (none, seen')
  | 0, _, seen => ⟨seen, rfl⟩
  | fuel + 1, s, seen => by
    unfold Sre.M.admitted
    by_cases h : s ≥ m.lim
    · exact ⟨seen, by rw [if_pos h]⟩
    · rw [if_neg h, hc]
      obtain ⟨s1, s2, e⟩ := inSet_eq (m.text.getD s 0) seen
      have e2 : Sre.inSet reCode (m.text.getD s 0) reCode.size 5 true seen = .ok (false, s2) := by
        have := e
        rw [ht s (by omega)] at this
        exact this
      rw [e2]
      exact admitted_none m hc ht fuel (s + 1) s2
theorem attempt_none (m : Sre.M) (hc : m.code = reCode) (ho : m.outcome = none) (hf : m.frames = []) (ht : ∀ i, i < m.lim → reBad (m.text.getD i 0) = false) : ∃ m' : Sre.M, m.attemptFrom 0 true = m'.say false ∧ m'.outcome = none ∧ m'.frames = [] := by
  have h1 : m.hasFirstSet = true := by unfold Sre.M.hasFirstSet; rw [hc]; rfl
  unfold Sre.M.attemptFrom
  rw [if_neg (by rw [h1]; decide)]
  obtain ⟨seen', e⟩ := admitted_none m hc ht (m.lim + 1 - 0) 0 m.seen
  rw [e]
  exact ⟨_, rfl, ho, hf⟩
theorem search_none (x : Array Nat) (hx : ∀ c ∈ x.toList, reBad c = false) : ∃ m : Sre.M, Sre.forSearch reCode x 1 0 x.size false = m.say false ∧ m.outcome = none ∧ m.frames = [] := by
  unfold Sre.forSearch
  dsimp only
  by_cases hz : x.size = 0
  · rw [if_pos (show (decide (0 > x.size) || decide (x.size - 0 < (Sre.header reCode).1)) = true by rw [hz]; rfl)]
    exact ⟨_, rfl, rfl, rfl⟩
  · rw [if_neg (show ¬ (decide (0 > x.size) || decide (x.size - 0 < (Sre.header reCode).1)) = true by
      have h1 : (Sre.header reCode).1 = 1 := rfl
      rw [h1]; simp; intro e; exact hz (by rw [e]; rfl))]
    refine attempt_none _ rfl rfl rfl (fun i hi => hx _ ?_)
    have hi' : i < x.size := hi
    show x.getD i 0 ∈ x.toList
    rw [Array.getD_eq_getD_getElem?, Array.getElem?_eq_getElem hi']
    exact Array.mem_toList_iff.mpr (Array.getElem_mem hi')
section
variable {prog : Program} {w : World} {A : Around} {E : Value → Shared → Prop} {s : Shared}
theorem say_fails {m : Sre.M} (ho : m.outcome = none) (hf : m.frames = []) : ∃ mf : Sre.M, (m.say false).runFor 4 = mf ∧ mf.outcome = some .failed := by
  have h0 : (m.say false).outcome = none := ho
  have h1 : (m.say false).frames = [] := hf
  have h2 : (m.say false).answer = some false := rfl
  generalize m.say false = k at *
  have e1 : ∃ mf : Sre.M, k.step = mf ∧ mf.outcome = some .failed := by
    unfold Sre.M.step
    rw [if_neg (by rw [h0]; exact Bool.false_ne_true), h1, h2]
    exact ⟨_, rfl, rfl⟩
  obtain ⟨mf, e, ef⟩ := e1
  refine ⟨mf, ?_, ef⟩
  show (if k.outcome.isSome then k else (k.step).runFor 3) = _
  rw [if_neg (by rw [h0]; exact Bool.false_ne_true), e]
  show (if mf.outcome.isSome then mf else (mf.step).runFor 2) = _
  rw [if_pos (by rw [ef]; rfl)]
theorem drive_none {m : Sre.M} {Q : Sre.M → Shared → Prop} (ho : m.outcome = none) (hf : m.frames = []) (h : ∀ m', m'.outcome = some .failed → Q m' s) (n : Nat) : wpAny (model prog w) A (reDrive (n + 1) (m.say false)) Q E s := by
  obtain ⟨mf, e, ef⟩ := say_fails ho hf
  unfold reDrive
  show wpAny _ _ (if ((m.say false).runFor 4).outcome.isSome = true then pure ((m.say false).runFor 4) else _) _ _ _
  rw [e, if_pos (by rw [ef]; rfl)]
  exact wpAny_pure (h _ ef)
theorem runToEnd_none {m : Sre.M} {Q : Option Sre.M → Shared → Prop} (ho : m.outcome = none) (hf : m.frames = []) (h : Q none s) : wpAny (model prog w) A (reRunToEnd (m.say false)) Q E s := by
  unfold reRunToEnd
  refine wpAny_bind (drive_none ho hf (fun m' hm' => ?_) (2 ^ 64 - 1))
  refine wpAny_bind (wpAny_forIn_list _ (fun _ _ s' => s' = s) (fun _ s' => wpAny (model prog w) A _ Q E s') ?_ ?_ _ _ rfl)
  · rintro i rest b s' rfl
    by_cases hs : m'.seen.has i = true
    · rw [if_pos hs]
      exact wpAny_bind (wpAny_rule (wpAny_pure rfl))
    · rw [if_neg hs]
      exact wpAny_pure rfl
  · rintro b s' rfl
    rw [hm']
    exact wpAny_pure h
theorem sub_entry : entryFor table "re.Pattern.sub" = some Builtin.«re.Pattern.sub» := by first | exact entryFor_of_fast (by kernel_rfl) | exact entryFor_of_tree (by kernel_rfl)
theorem sub_loop_entry : entryFor table "re.Pattern.sub.loop" = some Builtin.«re.Pattern.sub.loop» := by first | exact entryFor_of_fast (by kernel_rfl) | exact entryFor_of_tree (by kernel_rfl)
theorem sub_plain : plainId "re.Pattern.sub" = true := by decide +kernel
theorem sub_loop_plain : plainId "re.Pattern.sub.loop" = true := by decide +kernel
theorem sub_slot : Slot "re.Pattern" "sub" "re.Pattern.sub" :=
  .of (owner := "re.Pattern") (n := "sub") (by rw [typeLookup_type, builtinLookup_eq_fast]; kernel_rfl) (by decide +kernel) (by decide +kernel) (by decide +kernel)
    (by first | exact .inl (by decide +kernel) | exact .inr (by decide +kernel)) (by rw [isSubtype_type]; kernel_rfl)
theorem sub_type : typeOf (.builtin "re.Pattern.sub") = pure (.type "method_descriptor") := by show builtinType _ = _; rw [builtinType_eq_fast]; kernel_rfl
theorem sub_args (a b c : Value) : argsOk "re.Pattern.sub" ⟨[a, b, c], []⟩ := by unfold argsOk; kernel_rfl
theorem sub_named (a b : Value) : reNamed "re.Pattern.sub" "sub" ["repl", "string", "count"] 2 [a, b] [] = pure [some a, some b, none] := by kernel_rfl
theorem fn_call : typeLookup (.type "function") "__call__" = pure (some (.builtin "function.__call__")) := by rw [typeLookup_type, builtinLookup_eq_fast]; kernel_rfl
theorem whole_target {p q : Addr} {od od2 : Option Addr} {fs items : Array Value} {n : Nat} {sl sl2 : Array (Option Value)} {c1 c2 : Value} {x : Str} {t : Tok} {Q : ReTarget → Shared → Prop}
    (hp : s.heap.get? p = some ⟨c1, od, .fields fs, sl⟩) (h5 : fs.getD 5 .none = .ref q) (h6 : reRawNat (fs.getD 6 .none) = 0) (h2 : reRawNat (fs.getD 2 .none) = 1)
    (hq : s.heap.get? q = some ⟨c2, od2, .seq items n, sl2⟩) (hcode : (items.map reRawOf).map (·.toNat) = reCode)
    (h : Q { pattern := .ref p, string := .str x t, code := reCode, text := x.cps, kind := 0, groups := 1, pos := 0, lim := x.cps.size } s) : wpAny (model prog w) A (reWholeTarget (.ref p) (.str x t)) Q E s := by
  unfold reWholeTarget
  refine wpAny_bind (wpAny_bind (wpAny_load hp (wpAny_pure ?_)))
  refine wpAny_bind (wpAny_of_eq (a := (x.cps, 0)) rfl ?_)
  dsimp only
  rw [h6, h2, h5]
  rw [if_neg (by decide), if_neg (by decide)]
  refine wpAny_bind (wpAny_of_eq (a := ()) rfl ?_)
  refine wpAny_bind ?_
  unfold reRawItems
  refine wpAny_bind (wpAny_bind (wpAny_load hq (wpAny_pure ?_)))
  refine wpAny_pure (wpAny_pure ?_)
  have e : (((some items).getD #[]).map reRawOf).map (·.toNat) = reCode := hcode
  rw [e]
  exact h
theorem mk_str {x : Str} {Q : Value → Shared → Prop} (hx : x.length ≤ sizeLine) (h : ∀ t tk, Q (.str x t) { s with toks := tk }) : wpAny (model prog w) A (mkStr x) Q E s := by
  unfold mkStr
  rw [if_neg (Nat.not_lt.mpr hx)]
  exact wpAny_bind (wpAny_fresh (wpAny_pure (h _ _)))
theorem sub_call {p q f : Addr} {od od2 : Option Addr} {fs items : Array Value} {n : Nat} {sl sl2 : Array (Option Value)} {c2 : Value} {x : Str} {t : Tok} {Q : Value → Shared → Prop}
    (hp : s.heap.get? p = some ⟨.type "re.Pattern", od, .fields fs, sl⟩) (h5 : fs.getD 5 .none = .ref q) (h6 : reRawNat (fs.getD 6 .none) = 0) (h2 : reRawNat (fs.getD 2 .none) = 1)
    (hq : s.heap.get? q = some ⟨c2, od2, .seq items n, sl2⟩) (hcode : (items.map reRawOf).map (·.toNat) = reCode) (hf : s.TypeIs (.ref f) "function") (hx : ∀ c ∈ x.cps.toList, reBad c = false) (h1 : 1 ≤ x.length) (hxl : x.length ≤ 1000)
    (h : ∀ h' t' tk, Kp s.heap h' → Q (.str x t') { s with heap := h', toks := tk }) : wpAny (model prog w) A (call (.builtin "re.Pattern.sub") [.ref p, .ref f, .str x t]) Q E s := by
  have hT : s.TypeIs (.ref p) "re.Pattern" := ⟨_, hp, rfl⟩
  refine wpAny_call (codeAny_call_builtin sub_plain sub_entry (sub_slot.check _ _ _ _ _ _ _ _ hT (sub_args _ _ _) ?_))
  unfold Builtin.«re.Pattern.sub» reSubstitute
  refine wpAny_bind (wpAny_of_eq (sub_named _ _) ?_)
  dsimp only
  refine wpAny_bind (wpAny_pure ?_)
  refine wpAny_bind (wpAny_specialOf hf fn_call ?_)
  dsimp only [Option.isSome]
  rw [if_pos rfl]
  refine wpAny_bind (wpAny_pure ?_)
  rw [if_pos rfl]
  refine wpAny_bind (wpAny_pure ?_)
  refine wpAny_bind (wpAny_holding (whole_target hp h5 h6 h2 hq hcode ?_))
  dsimp only
  rw [if_pos (by decide)]
  refine wpAny_bind ?_
  unfold reNotHeld
  refine wpAny_bind (wpAny_isInstance (T := "str") (b := false) (typeIs_str _ _ _) (by rw [isSubtype_type]; kernel_rfl) ?_)
  rw [if_neg Bool.false_ne_true]
  refine wpAny_pure ?_
  refine wpAny_bind (wpAny_newList ?_)
  refine wpAny_pure ⟨plainId_quiet sub_loop_plain _, ?_⟩
  refine codeAny_builtin sub_loop_entry ?_
  rw [Around.under_plainId sub_loop_plain _]
  unfold Builtin.«re.Pattern.sub.loop»
  show wpAny _ _ (reWholeTarget (.ref p) (.str x t) >>= _) _ _ _
  refine wpAny_bind (whole_target (s := { s with heap := s.heap.push { cls := .type "list", data := .seq #[] } }) (Heap.get?_push_of_some _ hp) h5 h6 h2 (Heap.get?_push_of_some _ hq) hcode ?_)
  show wpAny _ _ (reNextFound _ 0 false >>= _) _ _ _
  unfold reNextFound
  dsimp only
  obtain ⟨m, em, hm1, hm2⟩ := search_none x.cps hx
  rw [em]
  refine wpAny_bind (runToEnd_none hm1 hm2 ?_)
  dsimp only
  have hpos : 0 < x.cps.size := h1
  rw [if_pos (show (0 : Int).toNat < x.cps.size from hpos)]
  have e0 : (⟨x.cps.extract (0 : Int).toNat x.cps.size⟩ : Str) = x := by
    show (⟨x.cps.extract 0 x.cps.size⟩ : Str) = x
    rw [Array.extract_size]
  have e1 : (⟨x.cps.extract 0 0⟩ : Str) = ⟨#[]⟩ := by simp
  unfold reSlice
  rw [if_pos (by decide), e0, e1]
  have hs : sizeLine = 16777216 := sizeLine_eq
  refine wpAny_bind (mk_str (by omega) fun t1 k1 => ?_)
  refine wpAny_bind (wpAny_updateSeq (s := { s with heap := s.heap.push { cls := .type "list", data := .seq #[] }, toks := k1 }) (Heap.get?_push_size _ rfl) rfl ?_)
  refine wpAny_bind (mk_str (x := ⟨#[]⟩) (by rw [hs]; show 0 ≤ 16777216; omega) fun t2 k2 => ?_)
  have hD : ((s.heap.push { cls := .type "list", data := .seq #[] }).update s.heap.objs.size (Obj.mapSeq (·.push (.str x t1)))).get? s.heap.objs.size = some _ := Heap.get?_update_self _ (Heap.get?_push_size _ rfl) rfl
  refine wpAny_bind (wpAny_bind (wpAny_load hD (wpAny_pure ?_)))
  rw [if_neg (show ¬ (((some ((fun x_1 : Array Value => x_1.push (Value.str x t1)) #[])).getD #[]).isEmpty = true) from Bool.false_ne_true)]
  rw [if_pos (by decide)]
  refine wpAny_bind (join_list (items := #[.str x t1]) (ys := [x]) ⟨_, hD, rfl, _, rfl⟩ (.cons _ _ .nil) ?_ fun t3 k3 => ?_)
  · show (([x].map (·.length)).sum + 1 * 0 ≤ 16777216)
    simp; omega
  have e3 : Txt.join ⟨#[]⟩ [x] = x := by
    show Builtin.Str.glued ⟨#[]⟩ [x] = x
    rfl
  rw [e3]
  rw [if_neg Bool.false_ne_true]
  refine wpAny_pure ?_
  refine h _ t3 k3 fun b o e => ?_
  rw [Heap.get?_update_other _ _ (fun q => Nat.lt_irrefl _ (q ▸ Heap.lt_size e))]
  exact Heap.get?_push_of_some _ e
end
end Mine
end
/-! Bnd -/
section
open PySem.Calls
set_option maxHeartbeats 1000000
set_option maxRecDepth 100000
namespace Mine
theorem md_get_look : typeLookup (.type "method_descriptor") "__get__" = pure (some (.builtin "method_descriptor.__get__")) := by rw [typeLookup_type, builtinLookup_eq_fast]; kernel_rfl
theorem md_set_look : typeLookup (.type "method_descriptor") "__set__" = pure none := by rw [typeLookup_type, builtinLookup_eq_fast]; kernel_rfl
theorem md_del_look : typeLookup (.type "method_descriptor") "__delete__" = pure none := by rw [typeLookup_type, builtinLookup_eq_fast]; kernel_rfl
theorem md_slot : Slot "method_descriptor" "__get__" "method_descriptor.__get__" :=
  .of (owner := "method_descriptor") (n := "__get__") md_get_look (by decide +kernel) (by decide +kernel) (by decide +kernel)
    (by first | exact .inl (by decide +kernel) | exact .inr (by decide +kernel)) (by rw [isSubtype_type]; kernel_rfl)
theorem md_entry : entryFor table "method_descriptor.__get__" = some Builtin.«method_descriptor.__get__» := by first | exact entryFor_of_fast (by kernel_rfl) | exact entryFor_of_tree (by kernel_rfl)
theorem md_args (a b c : Value) : argsOk "method_descriptor.__get__" ⟨[a, b, c], []⟩ := by unfold argsOk; kernel_rfl
abbrev bnd (a : Addr) : Obj := { cls := .type "builtin_function_or_method", data := .fields #[.builtin "list.append", .ref a] }
section
variable {prog : Program} {w : World} {A : Around} {E : Value → Shared → Prop} {h : Heap} {g : Array GenState} {d : Drawn} {t : Nat} {os : OsState} {a : Addr} {o : Obj}
theorem app_get {R : Result → Shared → Prop} (hx : h.get? a = some o) (hc : o.cls = .type "list") (hq : R (.ok (.ret (.ref h.objs.size))) ⟨h.push (bnd a), g, d, t, os⟩) :
    codeAny (model prog w) A (.call (.builtin "method_descriptor.__get__") ⟨[.builtin "list.append", .ref a, .type "list"], []⟩) R ⟨h, g, d, t, os⟩ := by
  have hT : (⟨h, g, d, t, os⟩ : Shared).TypeIs (.ref a) "list" := ⟨_, hx, hc⟩
  have hT5 : (⟨h, g, d, t, os⟩ : Shared).TypeIs (.builtin "list.append") "method_descriptor" := F.type_list_append
  refine codeAny_call_builtin md_slot.plain md_entry (md_slot.check _ _ _ _ _ _ _ _ hT5 (md_args _ _ _) ?_)
  unfold Builtin.«method_descriptor.__get__»
  refine wpAny_bind (wpAny_of_eq (a := (.builtin "list.append", some (.ref a), some (.type "list"))) rfl ?_)
  dsimp only
  rw [if_neg (by decide +kernel)]
  refine wpAny_bind (wpAny_bind (wpAny_of_eq (a := ((PySem.Str.ofString "append" : Str), Value.type "list")) ?_ ?_))
  · kernel_rfl
  refine wpAny_bind (wpAny_isInstance hT (U := "list") (b := true) (by rw [isSubtype_type]; kernel_rfl) ?_)
  rw [if_neg (by decide)]
  refine wpAny_pure ?_
  refine wpAny_bind (wpAny_newObj_type ?_ (by size_fits))
  exact wpAny_pure hq
theorem app_entry {tk : Tok} {xs : Array Value} {n : Nat} {Q : Fin → Shared → Prop} (hx : h.get? a = some (W.listOf xs n)) (hq : Q (.done (.ret (.ref h.objs.size))) ⟨h.push (bnd a), g, d, t, os⟩) :
    wpAny (model prog w) A (Builtin.«object.__getattribute__» ⟨[.ref a, .str (PySem.Str.ofString "append") tk], []⟩) Q E ⟨h, g, d, t, os⟩ := by
  have hT : (⟨h, g, d, t, os⟩ : Shared).TypeIs (.ref a) "list" := ⟨_, hx, rfl⟩
  have hT5 : (⟨h, g, d, t, os⟩ : Shared).TypeIs (.builtin "list.append") "method_descriptor" := F.type_list_append
  have f4 := F.slot_list_append.lookup
  have f5 := F.type_list_append
  have f6 := md_get_look
  have f7 := md_set_look
  have f8 := md_del_look
  repeat (any_goals (first | assumption | wp_step))
  refine app_get hx rfl ?_
  exact wpAny_pure hq
theorem app_call {tk : Tok} {xs : Array Value} {n : Nat} {R : Result → Shared → Prop} (hx : h.get? a = some (W.listOf xs n)) (hq : R (.ok (.ret (.ref h.objs.size))) ⟨h.push (bnd a), g, d, t, os⟩) :
    codeAny (model prog w) A (.call (.builtin "list.__getattribute__") ⟨[.ref a, .str (PySem.Str.ofString "append") tk], []⟩) R ⟨h, g, d, t, os⟩ :=
  codeAny_call_builtin F.slot_list_getattribute.plain F.entry_list_ga (F.slot_list_getattribute.check _ _ _ _ _ _ _ _ (show (⟨h, g, d, t, os⟩ : Shared).TypeIs (.ref a) "list" from ⟨_, hx, rfl⟩) (F.args_list_getattribute_2 _ _) (app_entry hx hq))
theorem app_by {tk : Tok} {xs : Array Value} {n : Nat} {Q : Value → Shared → Prop} (hx : h.get? a = some (W.listOf xs n)) (hq : Q (.ref h.objs.size) ⟨h.push (bnd a), g, d, t, os⟩) : wpAny (model prog w) A (getAttrBy (.ref a) (.str (PySem.Str.ofString "append") tk) true true) Q E ⟨h, g, d, t, os⟩ := by
  have hT : (⟨h, g, d, t, os⟩ : Shared).TypeIs (.ref a) "list" := ⟨_, hx, rfl⟩
  have f2 := F.slot_list_getattribute.lookup
  have f3 := F.slot_list_getattribute.bind (.ref a)
  repeat (any_goals (first | assumption | wp_step))
  refine app_call hx ?_
  repeat (any_goals (first | assumption | wp_step))
theorem app_attr {xs : Array Value} {n : Nat} {Q : Value → Shared → Prop} (hx : h.get? a = some (W.listOf xs n)) (hq : Q (.ref h.objs.size) ⟨h.push (bnd a), g, d, t + 1, os⟩) : wpAny (model prog w) A (getAttr (.ref a) (PySem.Str.ofString "append") true) Q E ⟨h, g, d, t, os⟩ := by
  unfold getAttr
  repeat (any_goals (first | assumption | with_reducible apply app_by hx | wp_step))
end
section
variable {prog : Program} {w : World} {A : Around} {E : Value → Shared → Prop} {s : Shared} {g : Heap} {L D B : Addr} {m : Str → Option Value} {news news' : List (Addr × Obj)}
theorem app_line {xs : Array Value} {n : Nat} {Q : Value → Shared → Prop} (F : Fr g L s.heap m) (N : News g L s.heap news) (hm : (D, W.listOf xs n) ∈ news)
    (h : ∀ B h' tk, Fr g L h' m → News g L h' ((B, bnd D) :: news) → (∀ p ∈ news, p.1 < B) → Q (.ref B) { s with heap := h', toks := tk }) : wpAny (model prog w) A (getAttr (.ref D) (PySem.Str.ofString "append") true) Q E s := by
  obtain ⟨h0, g0, d0, t0, os0⟩ := s
  exact app_attr (N _ hm).1 (h _ _ _ (F.push _) (News.push F N _) fun p hp => Heap.lt_size (N p hp).1)
def BndAt (u D : Addr) (h : Heap) : Prop := h.get? u = some (bnd D)
theorem callWith_bfields {pos : Pos} {u : Addr} {first : List Value} {args : List (Bool × Sem Value)} {Q : Value → Shared → Prop} (hplain : args.any (·.1) = false)
    (h : wpAny (model prog w) A (evalArgs (.ref u) true args []) (fun x s₁ => BndAt u D s₁.heap ∧ wpAny (model prog w) A (call (.ref u) (first ++ x.pos) x.kw) Q E s₁) E s) : wpAny (model prog w) A (callWith pos (.ref u) first args []) Q E s := by
  unfold callWith
  refine wpAny_bind (wpAny_holding (wpAny_mono h (fun x s₁ h₁ => wpAny_bind (wpAny_standAt ?_)) fun _ _ x => x))
  obtain ⟨ho, hcall⟩ := h₁
  simp only [hplain, List.any_nil, Bool.or_false]
  refine wpAny_bind (m := keeperOf (.ref u)) ?_
  unfold keeperOf
  refine wpAny_bind (wpAny_load ho ?_)
  simp only [bnd, show (Value.type "builtin_function_or_method" != Value.type "method") = true by decide, show (Value.type "builtin_function_or_method" == Value.type "builtin_function_or_method" || Value.type "builtin_function_or_method" == Value.type "method-wrapper") = true by decide, if_true]
  refine wpAny_pure ?_
  exact wpAny_bind (wpAny_mono hcall (fun r s₂ hr => wpAny_bind (wpAny_holding (wpAny_point (wpAny_pure hr)))) fun _ _ x => x)
theorem callWith_bnd {pos : Pos} {u : Addr} {first : List Value} {env : Env} {e : Expr} {rest : List Expr} {Q : Value → Shared → Prop} (_N : News g L s.heap news) (_hm : (u, bnd D) ∈ news)
    (h : wpAny (model prog w) A (spliced (backTo pos (starEach (e :: rest) env))) (fun vs s₁ => BndAt u D s₁.heap ∧ wpAny (model prog w) A (call (.ref u) (first ++ vs)) Q E s₁) E s)
    (he : starEach (e :: rest) env = (false, eval e env) :: starEach rest env := by rfl) (hplain : (backTo pos (starEach rest env)).any (·.1) = false := by rfl) :
    wpAny (model prog w) A (callWith pos (.ref u) first (backTo pos (starEach (e :: rest) env)) []) Q E s := by
  rw [he] at h ⊢
  refine callWith_bfields (D := D) (by show (false || (backTo pos (starEach rest env)).any (·.1)) = false; rw [hplain]; rfl) ?_
  exact evalArgs_plain h
theorem sig_append : Manifest.signature? "list.append" = some ⟨.oneArg, "list.append", "append", .self, [⟨"object", .posOnly, true⟩]⟩ := by
  rw [signature?_of (id := "list.append") (n := ['d', 'n', 'e', 'p', 'p', 'a']) (o := ['t', 's', 'i', 'l']) (by kernel_rfl) F.owner_list]; kernel_rfl
theorem kind_append : builtinKind "list.append" = some .method := by kernel_rfl
theorem last_append : Bind.lastOf "list.append" = "append" := by kernel_rfl
theorem check_args_append (a v : Value) : Bind.checkArgs "list.append" ⟨.oneArg, "list.append", "append", .self, [⟨"object", .posOnly, true⟩]⟩ ⟨[a, v], []⟩ = pure () := by kernel_rfl
theorem check_app {a : Addr} {v : Value} {xs : Array Value} {n : Nat} {Q : Unit → Shared → Prop} (ho : s.heap.get? a = some (W.listOf xs n)) (h : Q () s) : wpAny (model prog w) A (checkBoundCall "list.append" ⟨[.ref a, v], []⟩) Q E s := by
  unfold checkBoundCall
  rw [sig_append]
  dsimp only
  rw [kind_append]
  dsimp only
  rw [if_neg (by decide)]
  refine wpAny_bind (wpAny_isInstance (T := "list") (b := false) ⟨_, ho, rfl⟩ (by rw [isSubtype_type]; kernel_rfl) ?_)
  rw [if_neg (by decide +kernel)]
  have hT : s.TypeIs (.ref a) "list" := ⟨_, ho, rfl⟩
  unfold isType
  repeat (any_goals (first | assumption | wp_step))
  all_goals trace_state
theorem app_do {u : Addr} {xs : Array Value} {n : Nat} {x : Value} {Q : Value → Shared → Prop} (F : Fr g L s.heap m) (N : News g L s.heap news) (hm : (u, bnd D) ∈ news) (U : Upd D (W.listOf xs n) (W.listOf (xs.push x) (n + 1)) news news')
    (h : ∀ h', Fr g L h' m → News g L h' news' → Q .none { s with heap := h' }) (hsz : xs.size ≤ sizeLine) : wpAny (model prog w) A (call (.ref u) [x]) Q E s := by
  have hu := (N _ hm).1
  have hD : s.heap.get? D = some (W.listOf xs n) := by obtain ⟨pre, post, rfl, _, _, _⟩ := U.split; exact (N (D, W.listOf xs n) (List.mem_append.mpr (.inr (.head _)))).1
  refine wpAny_call (codeAny_of_tree ?_)
  show wpAny _ A.in1 (callAny (.ref u) ⟨[x], []⟩) _ _ s
  simp only [callAny]
  refine wpAny_bind (wpAny_load hu ?_)
  simp only [bnd, show (Value.type "builtin_function_or_method" == Value.type "method" || Value.type "builtin_function_or_method" == Value.type "builtin_function_or_method" || Value.type "builtin_function_or_method" == Value.type "method-wrapper") = true by decide, if_true]
  show wpAny _ _ (if (Value.type "builtin_function_or_method" != Value.type "method") = true then (checkBoundCall "list.append" ⟨[.ref D, x], []⟩ >>= fun _ => again (Code.builtin "list.append" ⟨[.ref D, x], []⟩)) else _) _ _ _
  rw [if_pos (by decide)]
  refine wpAny_bind (check_app hD (wpAny_pure ⟨Code.quiet_builtin _ (by decide +kernel), codeAny_builtin PySem.F.entry_list_append ?_⟩))
  show wpAny _ _ (updateSeq D (·.push x) >>= fun _ => ret .none) _ _ s
  refine wpAny_bind ?_
  obtain ⟨pre, post, rfl, rfl, a, b⟩ := U.split
  have z := N (D, W.listOf xs n) (List.mem_append.mpr (.inr (.head _)))
  refine wpAny_updateSeq z.1 rfl (wpAny_pure ?_)
  have ho' : (s.heap.update D (Obj.mapSeq (·.push x))).get? D = some (W.listOf (xs.push x) (n + 1)) := by
    rw [Heap.get?_update_self _ z.1 (by rw [mapSeq_push]; rfl), mapSeq_push]
  have hs : Heap.SameBut D s.heap (s.heap.update D (Obj.mapSeq (·.push x))) := Heap.SameBut.update ..
  exact h _ (F.change hs z.2.1 z.2.2) (news_set N a b hs ho')
end
end Mine
end
/-! TrB -/
section
open PySem.Calls
set_option maxHeartbeats 1000000
set_option maxRecDepth 100000
namespace Mine
/-- the pieces of a pattern -/
inductive Pc where
  | star | any | sign (c : Nat) | cls (cs : List Nat)
def signC : List Nat := 43 :: plainC
def Pc.Ok : Pc → Prop
  | .star => True
  | .any => True
  | .sign c => c ∈ signC
  | .cls cs => cs ≠ [] ∧ (∀ c ∈ cs, c ∈ signC) ∧ cs.length ≤ 100
def Pc.text : Pc → List Nat
  | .star => [42]
  | .any => [63]
  | .sign c => [c]
  | .cls cs => 91 :: (cs ++ [93])
def Pc.outS : Pc → Option Str
  | .star => none
  | .any => some (Str.ofString "any")
  | .sign c => some (if c = 43 then Str.ofString "\\+" else ⟨#[c]⟩)
  | .cls cs => some ⟨(91 :: (cs ++ [93])).toArray⟩
def OutIs (v : Value) (p : Pc) : Prop := match p.outS with | none => v = .none | some z => ∃ t, v = .str z t
inductive OutsAre : List Value → List Pc → Prop where
  | nil : OutsAre [] []
  | cons {v p vs ps} : OutIs v p → OutsAre vs ps → OutsAre (v :: vs) (p :: ps)
theorem OutsAre.snoc {v : Value} {p : Pc} (h : OutIs v p) : ∀ {vs ps}, OutsAre vs ps → OutsAre (vs ++ [v]) (ps ++ [p])
  | _, _, .nil => .cons h .nil
  | _, _, .cons a b => .cons a (b.snoc h)
theorem OutsAre.len : ∀ {vs ps}, OutsAre vs ps → vs.length = ps.length
  | _, _, .nil => rfl
  | _, _, .cons _ b => by rw [List.length_cons, List.length_cons, b.len]
def plen (ps : List Pc) : Nat := (ps.flatMap Pc.text).length
theorem plen_snoc (ds : List Pc) (p : Pc) : plen (ds ++ [p]) = plen ds + p.text.length := by simp [plen]
theorem plen_ge : ∀ ds : List Pc, ds.length ≤ plen ds
  | [] => Nat.le_refl _
  | p :: ds => by
    have h1 : 1 ≤ p.text.length := by cases p <;> simp [Pc.text]
    have h2 := plen_ge ds
    unfold plen at h2 ⊢
    rw [List.flatMap_cons, List.length_append, List.length_cons]
    omega
/-- the place of the lambda -/
abbrev lamPos : Pos := ⟨128, 39, 128, 76⟩
/-- the table of a def's code: whole, and with this place's function code or without -/
def TabOk (ps : Array Value) : Prop := TriplesOk ps.toList ∧ (codeAmong lamPos ps.toList = none ∨ ∃ c', codeAmong lamPos ps.toList = some (.ref c'))
theorem hid_fr {h₁ h : Heap} {L : Addr} {m : Str → Option Value} {l : List Addr} (F : Fr h₁ L h m) : Fr (hideAll h₁ l) L h m := ⟨F.ns, fun b o e => F.keep b o (of_hideAll _ e), Nat.le_trans (Nat.le_of_eq (hideAll_size _ _)) F.above⟩
theorem hid_news {h₁ h : Heap} {L P : Addr} {m : Str → Option Value} {o : Obj} (F : Fr h₁ L h m) (e : h₁.get? P = some o) : News (hideAll h₁ [P]) L h [(P, o)] := fun p hp => by
  rw [List.mem_singleton.mp hp]
  exact ⟨F.keep _ _ e, fun q => Nat.lt_irrefl L (Nat.lt_of_lt_of_le ((show P = L from q) ▸ Heap.lt_size e) F.above), hideAll_none _ (List.mem_singleton.mpr rfl)⟩
def frm (i : Int) (t : Tok) (u m₀ : Str → Option Value) : Str → Option Value := fun z =>
  if z = Str.ofString "i" then some (.int i t) else if z = Str.ofString "c" then u z else if z = Str.ofString "j" then u z else if z = Str.ofString "stuff" then u z else m₀ z
theorem frm_of {m' m₀ : Str → Option Value} {i : Int} {t : Tok} (h1 : m' (Str.ofString "i") = some (.int i t)) (h2 : ∀ z, z ≠ Str.ofString "i" → z ≠ Str.ofString "c" → z ≠ Str.ofString "j" → z ≠ Str.ofString "stuff" → m' z = m₀ z) : frm i t m' m₀ = m' := by
  funext z
  unfold frm
  by_cases a : z = Str.ofString "i"
  · rw [if_pos a, a, h1]
  rw [if_neg a]
  by_cases b : z = Str.ofString "c"
  · rw [if_pos b]
  rw [if_neg b]
  by_cases c : z = Str.ofString "j"
  · rw [if_pos c]
  rw [if_neg c]
  by_cases d : z = Str.ofString "stuff"
  · rw [if_pos d]
  rw [if_neg d, h2 z a b c d]
def TJ (D B : Addr) (tp : Addr × Obj) (m₀ : Str → Option Value) (pcs : List Pc) (n : Nat) (m : Str → Option Value) (nx : List (Addr × Obj)) : Prop :=
  ∃ ds rs vs nn ps' t u, pcs = ds ++ rs ∧ n = rs.length ∧ m = frm (plen ds) t u m₀ ∧ nx = [tp, (B, bnd D), (D, W.listOf vs.toArray nn), (129, tabObj ps')] ∧ TabOk ps' ∧ OutsAre vs ds
theorem tr_while {prog : Program} {w : World} {A : Around} {E : Value → Shared → Prop} {Q : Flow → Shared → Prop} {s : Shared} {env : Env} {h₀ : Heap} {L : Addr} {test : Expr} {body : List Stmt} {pos : Pos}
    {m₂ : Str → Option Value} {D B : Addr} {tp : Addr × Obj} {ps : Array Value} {t0 : Tok} (pcs : List Pc) (F : Fr h₀ L s.heap m₂) (N : News h₀ L s.heap [tp, (B, bnd D), (D, W.listOf #[] 0), (129, tabObj ps)]) (e0 : m₂ (Str.ofString "i") = some (.int 0 t0)) (ht : TabOk ps)
    (turn0 : ∀ vs nn ps' t u h tk, TabOk ps' → OutsAre vs pcs → Fr h₀ L h (frm (plen pcs) t u m₂) → News h₀ L h [tp, (B, bnd D), (D, W.listOf vs.toArray nn), (129, tabObj ps')] →
      wpAny (model prog w) A (isTrue test env (eval test env)) (fun b s₂ => if b = true then wpAny (model prog w) A (execs body env) (WhileStep h₀ L s (TJ D B tp m₂ pcs) 0) E s₂ else Q .next s₂) E { s with heap := h, toks := tk })
    (turn1 : ∀ ds p rs vs nn ps' t u h tk, pcs = ds ++ p :: rs → TabOk ps' → OutsAre vs ds → Fr h₀ L h (frm (plen ds) t u m₂) → News h₀ L h [tp, (B, bnd D), (D, W.listOf vs.toArray nn), (129, tabObj ps')] →
      wpAny (model prog w) A (isTrue test env (eval test env)) (fun b s₂ => if b = true then wpAny (model prog w) A (execs body env) (WhileStep h₀ L s (TJ D B tp m₂ pcs) (rs.length + 1)) E s₂ else Q .next s₂) E { s with heap := h, toks := tk })
    (hE : PassesOwn (model prog w) A env E := by passes_own) :
    wpAny (model prog w) A (exec (.While test body [] pos) env) Q E s := by
  refine While_inv (TJ D B tp m₂ pcs) (n₀ := pcs.length) F N ⟨[], pcs, [], 0, ps, t0, m₂, rfl, rfl, ?_, rfl, ht, .nil⟩ ?_ hE
  · exact (frm_of e0 fun _ _ _ _ _ => rfl).symm
  · rintro n m₁ nx h tk F₁ N₁ ⟨ds, rs, vs, nn, ps', t, u, e, rfl, rfl, rfl, ht', ho⟩
    cases rs with
    | nil => rw [List.append_nil] at e; subst e; exact turn0 vs nn ps' t u h tk ht' ho F₁ N₁
    | cons p rs => exact turn1 ds p rs vs nn ps' t u h tk e ht' ho F₁ N₁
/-- a turn's end -/
theorem turn_done {h₀ h : Heap} {L D B : Addr} {tp : Addr × Obj} {m' m₂ : Str → Option Value} {pcs ds rs : List Pc} {p : Pc} {vs : List Value} {nn : Nat} {v : Value} {ps' : Array Value} {i : Int} {t : Tok} {s : Shared} {tk : Nat} {news : List (Addr × Obj)}
    (F : Fr h₀ L h m') (N : News h₀ L h news) (m1 : tp ∈ news) (m2 : (B, bnd D) ∈ news) (m3 : (D, W.listOf (vs.toArray.push v) (nn + 1)) ∈ news) (m4 : (129, tabObj ps') ∈ news) (hp : pcs = ds ++ p :: rs) (ht : TabOk ps') (ho : OutsAre vs ds) (hv : OutIs v p)
    (h1 : m' (Str.ofString "i") = some (.int i t)) (hi : i = plen ds + p.text.length) (h2 : ∀ z, z ≠ Str.ofString "i" → z ≠ Str.ofString "c" → z ≠ Str.ofString "j" → z ≠ Str.ofString "stuff" → m' z = m₂ z) :
    WhileStep h₀ L s (TJ D B tp m₂ pcs) (rs.length + 1) .next { s with heap := h, toks := tk } := by
  refine WhileStep.intro (n' := rs.length) (news₂ := [tp, (B, bnd D), (D, W.listOf (vs ++ [v]).toArray (nn + 1)), (129, tabObj ps')]) F (fun q hq => N q (by
    simp only [List.mem_cons, List.not_mem_nil, or_false] at hq
    rcases hq with e | e | e | e
    · rw [e]; exact m1
    · rw [e]; exact m2
    · rw [e, ← List.push_toArray]; exact m3
    · rw [e]; exact m4)) (Nat.lt_succ_self _) ⟨ds ++ [p], rs, vs ++ [v], nn + 1, ps', t, m', by rw [hp]; simp, rfl, ?_, rfl, ht, ho.snoc hv⟩
  have e : ((plen (ds ++ [p]) : Nat) : Int) = i := by rw [plen_snoc, hi]; omega
  rw [e]
  exact (frm_of h1 h2).symm
def IJ (cs : List Nat) (i0 : Int) (m₂ : Str → Option Value) (news : List (Addr × Obj)) (n : Nat) (m : Str → Option Value) (nx : List (Addr × Obj)) : Prop :=
  ∃ (j : Nat) (t : Tok), n + j = cs.length ∧ m = (fun z => if z = Str.ofString "j" then some (.int (i0 + (j : Int)) t) else m₂ z) ∧ nx = news
theorem set_self' {x : Str} {v : Value} {m : Str → Option Value} (h : m x = some v) : (fun z => if z = x then some v else m z) = m := by
  funext z
  by_cases e : z = x
  · rw [if_pos e, e, h]
  · rw [if_neg e]
theorem set_again' {x : Str} {u v : Value} {m : Str → Option Value} : (fun z => if z = x then some u else if z = x then some v else m z) = fun z => if z = x then some u else m z := by
  funext z
  by_cases h : z = x
  · rw [if_pos h, if_pos h]
  · rw [if_neg h, if_neg h, if_neg h]
theorem tr_inner {prog : Program} {w : World} {A : Around} {E : Value → Shared → Prop} {Q : Flow → Shared → Prop} {s : Shared} {env : Env} {h₀ : Heap} {L : Addr} {test : Expr} {body : List Stmt} {pos : Pos}
    {m₂ : Str → Option Value} {news : List (Addr × Obj)} {i0 : Int} {t0 : Tok} (cs : List Nat) (F : Fr h₀ L s.heap m₂) (N : News h₀ L s.heap news) (e0 : m₂ (Str.ofString "j") = some (.int i0 t0))
    (turn : ∀ (j : Nat) t h tk, j ≤ cs.length → Fr h₀ L h (fun z => if z = Str.ofString "j" then some (.int (i0 + (j : Int)) t) else m₂ z) → News h₀ L h news →
      wpAny (model prog w) A (isTrue test env (eval test env)) (fun b s₂ => if b = true then wpAny (model prog w) A (execs body env) (WhileStep h₀ L s (IJ cs i0 m₂ news) (cs.length - j)) E s₂ else Q .next s₂) E { s with heap := h, toks := tk })
    (hE : PassesOwn (model prog w) A env E := by passes_own) :
    wpAny (model prog w) A (exec (.While test body [] pos) env) Q E s := by
  refine While_inv (IJ cs i0 m₂ news) (n₀ := cs.length) F N ⟨0, t0, rfl, ?_, rfl⟩ ?_ hE
  · have : i0 + ((0 : Nat) : Int) = i0 := by omega
    rw [this, set_self' e0]
  · rintro n m₁ nx h tk F₁ N₁ ⟨j, t, hn, rfl, rfl⟩
    have : n = cs.length - j := by omega
    subst this
    exact turn j t h tk (by omega) F₁ N₁
theorem ij_next {h₀ h : Heap} {L : Addr} {cs : List Nat} {i0 : Int} {m₂ : Str → Option Value} {news : List (Addr × Obj)} {s : Shared} {tk : Nat} {t : Tok} {v : Value} {j : Nat}
    (F : Fr h₀ L h (fun y => if y = Str.ofString "j" then some (.int (i0 + (j : Int) + 1) t) else if y = Str.ofString "j" then some v else m₂ y)) (N : News h₀ L h news) (hj : j < cs.length) :
    WhileStep h₀ L s (IJ cs i0 m₂ news) (cs.length - j) .next { s with heap := h, toks := tk } := by
  rw [set_again'] at F
  refine WhileStep.intro (n' := cs.length - (j + 1)) F N (by omega) ⟨j + 1, t, by omega, ?_, rfl⟩
  have : i0 + (j : Int) + 1 = i0 + ((j + 1 : Nat) : Int) := by omega
  rw [this]
section
variable {prog : Program} {w : World} {A : Around} {E : Value → Shared → Prop} {s : Shared}
theorem item_at {x : Str} {i : Int} {c : Nat} {t u : Tok} {value slice : Expr} {Q : Value → Shared → Prop} (h0 : 0 ≤ i) (h1 : i < x.length) (h2 : x.length ≤ 1000000) (hc : Txt.item x i = ⟨#[c]⟩) (h : ∀ t' tk, Q (.str ⟨#[c]⟩ t') { s with toks := tk })
    (hs : subscripted slice false (.str x t) (.int i u) = operate [.str x t, .int i u] (getItem (.str x t) (.int i u)) := by with_unfolding_all rfl)
    (ht : ∀ r, letTemporaryGo value (.str x t) r = pure () := by intro _; with_unfolding_all rfl) : wpAny (model prog w) A (subscriptTail value slice (.str x t) (.int i u)) Q E s :=
  item_str (by unfold fitsSsize; simp; omega) (by omega) h1 (by intro k; rw [hc]; exact h _ _) hs ht
end
end Mine
end
/-! TrE -/
section
open PySem.Calls
set_option maxHeartbeats 1000000
set_option maxRecDepth 100000
namespace Mine
open Builtin Builtin.Str
theorem occ_one_none {x : Str} {c : Nat} (h : c ∉ x.cps.toList) (k : Nat) : (occurrences x ⟨#[c]⟩ 0 x.length k).isEmpty = true := by
  cases e : occurrences x ⟨#[c]⟩ 0 x.length k with
  | nil => rfl
  | cons i r =>
    have h1 := StrLaws.occ_spec x ⟨#[c]⟩ 0 x.length k i (by rw [e]; exact List.mem_cons_self ..)
    have h2 := (StrLaws.found_iff x ⟨#[c]⟩).mpr ⟨i, h1⟩
    rw [StrLaws.found_one] at h2
    exact absurd (of_decide_eq_true h2) h
section
variable {prog : Program} {w : World} {A : Around} {E : Value → Shared → Prop} {s : Shared} {g : Heap} {L : Addr} {m : Str → Option Value} {news : List (Addr × Obj)}
theorem notin_known {x y : Str} {t u : Tok} {c : Nat} {Q : Value → Shared → Prop} (hy : y = ⟨#[c]⟩) (h : c ∉ x.cps.toList) (hq : Q (.bool true) s) : wpAny (model prog w) A (compareOp .NotIn (.str y u) (.str x t)) Q E s := by
  subst hy
  refine notIn_str ?_
  rw [occ_one_none h 1]
  exact hq
theorem replace_known {x y z : Str} {t u v : Tok} {c : Nat} {Q : Value → Shared → Prop} (hy : y = ⟨#[c]⟩) (h : c ∉ x.cps.toList) (hq : ∀ t' tk, Q (.str x t') { s with toks := tk }) : wpAny (model prog w) A (call (.builtin "str.replace") [.str x t, .str y u, .str z v]) Q E s := by
  subst hy
  have e : ((occurrences x ⟨#[c]⟩ 0 x.length (x.length + 1)).isEmpty || ((⟨#[c]⟩ : Str).length == 0 && z.length == 0)) = true := by rw [occ_one_none h]; rfl
  refine call_gives F.slot_str_replace (typeIs_str _ _ _) F.entry_str_replace (F.args_str_replace_3 _ _ _) (gives_str_replace x ⟨#[c]⟩ z t u v (fun q => by rw [e] at q; cases q)) ?_
  rw [if_pos e]
  exact hq t s.toks
theorem slice_known {value slice : Expr} {x y : Str} {t : Tok} {i j : Int} {ui uj : Tok} {Q : Value → Shared → Prop} (hF : Fr g L s.heap m) (hN : News g L s.heap news) (hy : Txt.slice x (some i) (some j) = y) (hx : x.length ≤ 1000000)
    (h : ∀ h' t' k, Fr g L h' m → News g L h' news → Q (.str y t') { s with heap := h', toks := k })
    (hs : subscripted slice false (.str x t) (.ref s.heap.objs.size) = operate [.ref s.heap.objs.size, .str x t] (getItem (.str x t) (.ref s.heap.objs.size)) := by with_unfolding_all rfl)
    (ht : ∀ r, letTemporaryGo value (.str x t) r = pure () := by intro _; with_unfolding_all rfl) :
    wpAny (model prog w) A (subscriptTail value slice (.str x t) (.ref s.heap.objs.size)) Q E { s with heap := s.heap.push { cls := .type "slice", data := .fields #[.int i ui, .int j uj, .none] } } := by
  subst hy
  exact slice_strN_ss (hsz := by have : sizeLine = 16777216 := sizeLine_eq; omega) hF hN h hs ht
theorem cls_slice {x : Str} {P R cs : List Nat} {i j : Int} (hx : x.cps.toList = P ++ (cs ++ R)) (hi : i = P.length) (hj : j = i + cs.length) : Txt.slice x (some i) (some j) = ⟨cs.toArray⟩ := by
  have hl : x.length = P.length + (cs.length + R.length) := by show x.cps.size = _; rw [← Array.length_toList, hx]; simp
  have h := eq_of_beq (slice_closesL (x := x) (i := i) (j := j) (by omega) (by omega) (by omega))
  rw [h, hx]
  have e1 : i.toNat = P.length := by omega
  have e2 : (j - i).toNat = cs.length := by omega
  rw [e1, e2, List.drop_left, List.take_left]
theorem plain_re : PlainAttrs "re.Pattern" :=
  ⟨⟨"object.__getattribute__", by rw [typeLookup_type, builtinLookup_eq_fast]; kernel_rfl, by decide +kernel⟩, by rw [typeLookup_type, builtinLookup_eq_fast]; kernel_rfl⟩
theorem gm_sub {M : Model} {p : Addr} {fs : Array Value} {pl : Sem Bool} {Q : Value × List Value → Shared → Prop} (hp : s.heap.get? p = some ⟨.type "re.Pattern", none, .fields fs, #[]⟩) (h : Q (.builtin "re.Pattern.sub", [.ref p]) s) : wpAny M A (getMethod (.ref p) (PySem.Str.ofString "sub") pl) Q E s :=
  getMethod_builtin (T := "re.Pattern") ⟨_, hp, rfl⟩ plain_re sub_slot sub_type (fun a e => by cases e; exact ⟨_, hp, rfl⟩) h
theorem gm_subK {M : Model} {K : Frag} {p : Addr} {fs : Array Value} {pl : Sem Bool} {Q : Value × List Value → Shared → Prop} (X : K.In s.heap) (hl : K.lookup p = some ⟨.type "re.Pattern", none, .fields fs, #[]⟩) (h : Q (.builtin "re.Pattern.sub", [.ref p]) s) : wpAny M A (getMethod (.ref p) (PySem.Str.ofString "sub") pl) Q E s :=
  gm_sub (X _ _ hl) h
theorem sub_callK {K : Frag} {p q f : Addr} {od od2 : Option Addr} {fs items : Array Value} {n : Nat} {sl sl2 : Array (Option Value)} {c2 : Value} {x : Str} {t : Tok} {o : Obj} {Q : Value → Shared → Prop} (X : K.In s.heap)
    (hl : K.lookup p = some ⟨.type "re.Pattern", od, .fields fs, sl⟩) (h5 : fs.getD 5 .none = .ref q) (h6 : Re.reRawNat (fs.getD 6 .none) = 0) (h2 : Re.reRawNat (fs.getD 2 .none) = 1)
    (hq : K.lookup q = some ⟨c2, od2, .seq items n, sl2⟩) (hcode : (items.map Re.reRawOf).map (·.toNat) = reCode) (N : News g L s.heap news) (hf : (f, o) ∈ news) (hc : o.cls = .type "function") (hx : ∀ c ∈ x.cps.toList, reBad c = false) (h1 : 1 ≤ x.length) (hxl : x.length ≤ 1000)
    (h : ∀ h' t' tk, Kp s.heap h' → Q (.str x t') { s with heap := h', toks := tk }) : wpAny (model prog w) A (call (.builtin "re.Pattern.sub") [.ref p, .ref f, .str x t]) Q E s :=
  sub_call (X _ _ hl) h5 h6 h2 (X _ _ hq) hcode ⟨o, (N _ hf).1, hc⟩ hx h1 hxl h
theorem tab_snoc {ps : Array Value} {c' : Addr} (ht : TriplesOk ps.toList) (hn : codeAmong lamPos ps.toList = none) : TabOk (ps ++ #[rawInt lamPos.line, rawInt lamPos.col, .ref c']) := by
  have e : (ps ++ #[rawInt lamPos.line, rawInt lamPos.col, .ref c']).toList = ps.toList ++ [rawInt lamPos.line, rawInt lamPos.col, .ref c'] := by simp
  exact ⟨by rw [e]; exact TriplesOk_snoc _ _ _ _ ht, .inr ⟨c', by rw [e]; exact codeAmong_snoc _ ht hn⟩⟩
theorem sign_fine {c : Nat} (h : c ∈ signC) : reBad c = false := by
  have h2 : (signC.all fun c => !reBad c) = true := by decide +kernel
  simpa using List.all_eq_true.mp h2 c h
theorem truthy_known {x : Str} {t : Tok} {Q : Bool → Shared → Prop} (h1 : 1 ≤ x.length) (h2 : x.length ≤ 1000) (h : ∀ tk, Q true { s with toks := tk }) : wpAny (model prog w) A (truthy (.str x t)) Q E s := by
  refine PySem.P.truthy_str (by omega) ?_
  have e : ((x.length : Int) != 0) = true := by simp; omega
  rw [e]; exact h _
theorem in_two {d : Addr} {a b x : Str} {u v t : Tok} {n : Nat} {Q : Value → Shared → Prop} (N : News g L s.heap news) (hm : (d, ({ cls := .type "tuple", data := .seq #[.str a u, .str b v] n } : Obj)) ∈ news) (hin : ([a, b].any (· == x)) = false) (h : Q (.bool false) s) :
    wpAny (model prog w) A (compareOp .In (.str x t) (.ref d)) Q E s :=
  in_tuple_strs ⟨_, (N _ hm).1, rfl, _, rfl⟩ (.cons a u (.cons b v .nil)) (by rw [hin]; exact h)
end
end Mine
end
/-! TrA -/
section
open PySem.Calls
set_option maxRecDepth 100000
set_option maxHeartbeats 8000000
namespace Mine
theorem text_head (A B : List Nat) (c : Nat) (x : Str) (h : x.cps.toList = A ++ c :: B) : Txt.item x (A.length : Int) = ⟨#[c]⟩ := by
  have hl : A.length < x.cps.size := by rw [← Array.length_toList, h]; simp
  have e : x.cps[A.length]? = some c := by rw [← Array.getElem?_toList, h]; simp
  unfold Txt.item Txt.charAt seqIndex?
  have h1 : ¬ ((A.length : Int) < 0) := by omega
  have hl2 : A.length < x.length := hl
  simp [h1, hl2, e]
theorem text_at (A B : List Nat) (c : Nat) (x : Str) (k : Int) (hk : k = (A.length : Int)) (h : x.cps.toList = A ++ c :: B) : Txt.item x k = ⟨#[c]⟩ := by subst hk; exact text_head A B c x h
theorem cls_not {c0 : Nat} {cs : List Nat} (h : ∀ c ∈ c0 :: cs, c ∈ signC) : ((⟨(c0 :: cs).toArray⟩ : Str) == Str.ofString "!") = false := by
  cases e : ((⟨(c0 :: cs).toArray⟩ : Str) == Str.ofString "!") with
  | false => rfl
  | true =>
    have e2 := eq_of_beq e
    have e3 : (c0 :: cs) = [33] := by
      have := congrArg (fun s : Str => s.cps.toList) e2
      exact this
    have := h c0 (List.mem_cons_self ..)
    rw [List.cons.inj e3 |>.1] at this
    exact absurd this (by decide)
theorem sign_in {c : Nat} (h : c ∈ signC) : ([Str.ofString "^", Str.ofString "["].any (· == (⟨#[c]⟩ : Str))) = false := by
  have h2 : (signC.all fun c => !([Str.ofString "^", Str.ofString "["].any (· == (⟨#[c]⟩ : Str)))) = true := by decide +kernel
  have h3 := List.all_eq_true.mp h2 c h
  cases e : ([Str.ofString "^", Str.ofString "["].any (· == (⟨#[c]⟩ : Str))) with
  | false => rfl
  | true => rw [e] at h3; cases h3
theorem cls_out (cs : List Nat) (t : Tok) : OutIs (.str (Str.empty ++ Str.ofString "[" ++ ⟨cs.toArray⟩ ++ Str.ofString "]") t) (Pc.cls cs) := by
  refine ⟨t, ?_⟩
  have e : Str.empty ++ Str.ofString "[" ++ ⟨cs.toArray⟩ ++ Str.ofString "]" = (⟨(91 :: (cs ++ [93])).toArray⟩ : Str) := by
    show (⟨((#[] ++ (Str.ofString "[").cps) ++ cs.toArray) ++ (Str.ofString "]").cps⟩ : Str) = _
    have e1 : (Str.ofString "[").cps = #[91] := by decide +kernel
    have e2 : (Str.ofString "]").cps = #[93] := by decide +kernel
    rw [e1, e2]
    congr 1
    apply Array.ext'
    simp
  rw [e]
theorem hid_none {h : Heap} {D P : Addr} (hn : (hideAll h [P]).get? D = none) (hl : P < D) : h.get? D = none := by
  cases e : h.get? D with
  | none => rfl
  | some o => rw [hideAll_get _ e (fun q => Nat.ne_of_gt hl (List.mem_singleton.mp q))] at hn; cases hn
theorem star_last : ∀ {vs : List Value} {ds : List Pc}, OutsAre vs ds → ds.getLast? ≠ some Pc.star → vs = [] ∨ ∃ us z tz, vs = us ++ [.str z tz]
  | _, _, .nil, _ => .inl rfl
  | v :: vs, p :: ps, .cons h t, hl => by
    right
    cases ps with
    | nil =>
      cases t
      cases p with
      | star => exact absurd rfl hl
      | any => obtain ⟨tz, rfl⟩ := h; exact ⟨[], _, tz, rfl⟩
      | sign c => obtain ⟨tz, rfl⟩ := h; exact ⟨[], _, tz, rfl⟩
      | cls c => obtain ⟨tz, rfl⟩ := h; exact ⟨[], _, tz, rfl⟩
    | cons q qs =>
      rcases star_last t (by rwa [List.getLast?_cons_cons] at hl) with e | ⟨us, z, tz, e⟩
      · subst e; cases t
      · exact ⟨v :: us, z, tz, by rw [e]; rfl⟩
theorem eq_known {prog : Program} {w : World} {A : Around} {E : Value → Shared → Prop} {s : Shared} {x y : Str} {t u : Tok} (b : Bool) {Q : Value → Shared → Prop} (hb : (x == y) = b) (h : Q (.bool b) s) : wpAny (model prog w) A (compareOp .Eq (.str x t) (.str y u)) Q E s := by
  subst hb; exact eq_str h
theorem ne_known {prog : Program} {w : World} {A : Around} {E : Value → Shared → Prop} {s : Shared} {x y : Str} {t u : Tok} (b : Bool) {Q : Value → Shared → Prop} (hb : (x == y) = b) (h : Q (.bool !b) s) : wpAny (model prog w) A (compareOp .NotEq (.str x t) (.str y u)) Q E s := by
  subst hb; exact ne_str h
theorem sign_not {c : Nat} (h : c ∈ signC) : ((⟨#[c]⟩ : Str) == Str.ofString "*") = false ∧ ((⟨#[c]⟩ : Str) == Str.ofString "?") = false ∧ ((⟨#[c]⟩ : Str) == Str.ofString "[") = false ∧ ((⟨#[c]⟩ : Str) == Str.ofString "]") = false ∧ ((⟨#[c]⟩ : Str) == Str.ofString "!") = false := by
  have h2 : (signC.all fun c => !((⟨#[c]⟩ : Str) == Str.ofString "*") && !((⟨#[c]⟩ : Str) == Str.ofString "?") && !((⟨#[c]⟩ : Str) == Str.ofString "[") && !((⟨#[c]⟩ : Str) == Str.ofString "]") && !((⟨#[c]⟩ : Str) == Str.ofString "!")) = true := by decide +kernel
  have h3 := List.all_eq_true.mp h2 c h
  simp only [Bool.and_eq_true, Bool.not_eq_true'] at h3
  obtain ⟨⟨⟨⟨a, b⟩, c⟩, d⟩, e⟩ := h3
  exact ⟨a, b, c, d, e⟩
local macro_rules | `(tactic| walk_at "m_mem") => `(tactic| first | k_mem | exact .head _ | exact .tail _ (.head _) | exact .tail _ (.tail _ (.head _)) | exact .tail _ (.tail _ (.tail _ (.head _))) | exact .tail _ (.tail _ (.tail _ (.tail _ (.head _)))) | exact .tail _ (.tail _ (.tail _ (.tail _ (.tail _ (.head _))))))
theorem translate_spec {w : World} {mean : ExcName → Option Value} {mg mb : Str → Option Value} {A : Around} {s : Shared} {Q E : Value → Shared → Prop}
  (hh : A.handled = none) (hd : A.depth + 40 < recursionLimit) (hu : A.units + 300 < cLine) (X : (headOf.heap_39 w.params).In (hideAll s.heap [129])) (T : Top topProg LO mean mg mb (hideAll s.heap [129]))
  (C : CodeHd (hideAll s.heap [129]) 133 129) {ps : Array Value} (hP : s.heap.get? 129 = some (tabObj ps)) (ht : TabOk ps)
  {x : Str} {t t2 : Tok} (hx : x.length ≤ 10000) (pcs : List Pc) (hpx : x.cps.toList = pcs.flatMap Pc.text) (hok : ∀ p ∈ pcs, p.Ok) (hst : ∀ ds rs, pcs = ds ++ Pc.star :: rs → ds.getLast? ≠ some Pc.star)
  (h : ∀ D h' tk' vs ps', TabOk ps' → (∀ b o, b ≠ 129 → s.heap.get? b = some o → h'.get? b = some o) → s.heap.get? D = none → h'.get? 129 = some (tabObj ps') → h'.PlainList D vs.toArray → OutsAre vs pcs → Q (.ref D) { s with heap := h', toks := tk' }) :
  wpAny (model PR w) A (call (.ref 134) [.str x t, .none, .str (Str.ofString "any") t2]) Q E s := by
  k_with_none
  k_with "execs cons" => (k_here; first | k_gentoks | ((try k_fold); (with_reducible refine wpAny_execs_cons ?_); (try dsimp only); k_fold))
  k_with "exec While" => (refine Stop.go ?_)
  k_with "getAttr ref" => (k_here; k_dflt (refine' app_line (by k_asm) (by k_asm) (by k_mem) ?_; k_whole); intro _ _ _ _ _ l1; (try k_lt l1); (try k_sweep); (try k_unmd); (try dsimp only))
  k_with "subscriptTail Name Name str int" => (k_here; (with_reducible show wpAny _ _ (subscriptTail _ _ (Value.str _ _) (Value.int _ _)) _ _ _); k_dflt (refine' item_at (by omega) (by omega) (by omega) (by assumption) ?_); intro _ _; (try k_sweep); (try k_unmd); (try dsimp only))
  k_with "callWith ref" => (k_here; k_dflt (refine' callWith_bnd (by k_asm) (by k_mem) ?_))
  k_with "call ref" => (k_here; k_dflt (refine' app_do (by k_asm) (by k_asm) (by k_mem) (by k_upd) ?_ (by size_fits); k_whole); intro _ _ _; (try k_sweep); (try k_unmd); (try dsimp only))
  k_with "compareOp Eq str str" => (k_here; (first | (k_dflt (refine' eq_known true (by first | (with_reducible assumption) | decide +kernel) ?_)) | (k_dflt (refine' eq_known false (by first | (with_reducible assumption) | decide +kernel) ?_))))
  k_with "compareOp NotEq str str" => (k_here; (first | (k_dflt (refine' ne_known true (by first | (with_reducible assumption) | decide +kernel) ?_)) | (k_dflt (refine' ne_known false (by first | (with_reducible assumption) | decide +kernel) ?_))))
  k_with "BndAt" => (exact News.get (by k_asm) (by k_mem))
  k_with "truthy ref" => (k_here; k_dflt (refine' wpAny_truthy_list (News.isList (by k_asm) (by k_mem)) (by simp; omega) ?_))
  k_with "subscriptTail Name UnaryOp ref int" => (k_here; k_dflt (refine' item_end (by is_list) (by simp at *; omega) ?_))
  k_with "call ref" => (k_here; (with_reducible show wpAny _ _ (call (Value.ref 127) _) _ _ _); k_dflt (refine' escape_spec rfl (by simp only [depth_deeper]; omega) (by dsimp only [Around.deeper]; omega) (by k_in) (Top.keeps (by k_asm) (Fr.keep (by k_asm))) (by assumption) ?_; k_whole); intro _ _ _ kp'; (with_reducible rename Fr _ _ _ _ => kF); (with_reducible rename News _ _ _ _ => kN); have F' := fr_kp kF kp'; have N' := news_kp kN kp'; (try k_sweep); (try k_unmd); (try dsimp only))
  k_with "call ref" => (k_here; (with_reducible show wpAny _ _ (call (Value.ref 127) _) _ _ _); k_dflt (refine' escape_spec_plus rfl (by simp only [depth_deeper]; omega) (by dsimp only [Around.deeper]; omega) (by k_in) (Top.keeps (by k_asm) (Fr.keep (by k_asm))) ?_; k_whole); intro _ _ _ kp'; (with_reducible rename Fr _ _ _ _ => kF); (with_reducible rename News _ _ _ _ => kN); have F' := fr_kp kF kp'; have N' := news_kp kN kp'; (try k_sweep); (try k_unmd); (try dsimp only))
  k_with "subscriptTail Name Slice str ref" => (k_here; (with_reducible rename Fr _ _ _ _ => kF); (with_reducible rename News _ _ _ _ => kN); k_dflt (refine' slice_known (s := ⟨_, _, _, _, _⟩) kF kN (by assumption) (by omega) ?_); intro _ _ _ _ _; (try k_sweep); (try k_unmd); (try dsimp only))
  k_with "compareOp NotIn str str" => (k_here; k_dflt (refine' notin_known (c := 45) (by with_unfolding_all rfl) (by assumption) ?_))
  k_with "call builtin:str.replace" => (k_here; k_dflt (refine' replace_known (c := 92) (by with_unfolding_all rfl) (by assumption) ?_); intro _ _; (try k_sweep); (try k_unmd); (try dsimp only))
  k_with "getMethod ref" => (k_here; (with_reducible show wpAny _ _ (getMethod (Value.ref 115) _ _) _ _ _); k_dflt (refine' gm_subK (K := headOf.heap_39 _) (by k_in) (by k_is) ?_))
  k_with "eval Lambda" => (k_here; k_dflt (refine' kla_eval rfl ?_); k_dflt (refine' kla_nest (by k_asm) (by k_asm) (by k_asm) (by assumption) rfl (by k_updF) (by assumption) (by assumption) rfl ?_; k_whole); intro _ _ _ _ _ _ _ _ _ N' _ _ l1 l2; (try dsimp only at N'); (try k_lt l1); (try k_lt2 l2))
  k_with "eval Lambda" => (k_here; k_dflt (refine' kla_eval rfl ?_); k_dflt (refine' kla_hit (by k_asm) (by k_asm) (by k_asm) (by assumption) rfl (by k_mem) (by assumption) (by assumption) rfl ?_; k_whole); intro _ _ _ _ _ N' l1; (try dsimp only at N'); (try k_lt l1))
  k_with "call builtin:re.Pattern.sub" => (k_here; k_dflt (refine' sub_callK (K := headOf.heap_39 _) (by k_in) (by k_is) rfl rfl rfl (by k_is) (by decide +kernel) (by k_asm) (by k_mem) rfl (by assumption) (by assumption) (by assumption) ?_); intro _ _ _ kp'; (with_reducible rename Fr _ _ _ _ => kF); (with_reducible rename News _ _ _ _ => kN); have F' := fr_kp kF kp'; have N' := news_kp kN kp'; (try k_sweep); (try k_unmd); (try dsimp only))
  k_with "subscriptTail Name Constant str int" => (k_here; (with_reducible show wpAny _ _ (subscriptTail _ _ (Value.str _ _) (Value.int _ _)) _ _ _); k_dflt (refine' item_at (by omega) (by omega) (by omega) (by with_reducible assumption) ?_); intro _ _; (try k_sweep); (try k_unmd); (try dsimp only))
  k_with "truthy str" => (k_here; k_dflt (refine' truthy_known (by with_reducible assumption) (by with_reducible assumption) ?_); intro _; (try k_sweep); (try k_unmd); (try dsimp only))
  k_with "compareOp In str ref" => (k_here; k_dflt (refine' in_two (by k_asm) (by k_mem) (by with_reducible assumption) ?_))
  obtain ⟨ha, dp, fr, gd, un⟩ := A
  dsimp only at hh
  subst hh
  dsimp only at hd hu
  have X1 : (headOf.heap_39 w.params).In s.heap := X.keeps fun b o e => of_hideAll _ e
  have T1 : Top topProg LO mean mg mb s.heap := T.keeps fun b o e => of_hideAll _ e
  have hxl : x.length = plen pcs := by
    show x.cps.size = _
    rw [← Array.length_toList, hpx]; rfl
  (refine wpAny_call ?_; (refine' code_dir (binds := [(Str.ofString "pat", .str x t), (Str.ofString "STAR", .none), (Str.ofString "QUESTION_MARK", .str (Str.ofString "any") t2)]) ?k3 (Top.nolimit ?k5) ?k6 ?k7 ?k8 ?k9 ?kB ?_ ?c2 ?c3 ?c4 ?c5; (case k3 => k_asm); (case k5 => k_asm); (case k6 => k_is); (case k7 => k_is); (case k8 => first | omega | (dsimp only; omega)); (case k9 => first | exact BindsTo.of_eq rfl | exact binds_K (by k_in) rfl (by k_is) rfl rfl rfl); (case kB => exact locs rfl); (case c2 => exact rfl); (case c3 => exact rfl); (case c4 => exact rfl); (case c5 => decide)))
  intro L' h' F'
  have F2 := hid_fr (l := [129]) F'
  have N' := hid_news F' hP
  clear F' X1 T1
  show wpAny _ _ _ _ _ _
  k_fold
  k_steps
  show wpAny _ _ _ _ _ _
  (with_reducible rename Fr _ _ _ _ => F9)
  (with_reducible rename News _ _ _ _ => N9)
  refine tr_while pcs F9 N9 rfl ht ?turn0 ?turn1
  case turn0 =>
    intro vs nn ps' t' u h3 tk3 ht' ho F3 N3
    clear F9 N9
    unfold frm at F3
    show wpAny _ _ _ _ _ _
    k_steps
    all_goals ((try dsimp only); repeat (k_unfold; (try dsimp only)))
    have hn := (N3 _ (.tail _ (.tail _ (.head _)))).2.2
    have hm := N3 _ (.tail _ (.tail _ (.tail _ (.head _))))
    (with_reducible rename 129 < _ => hlt)
    refine h _ h3 _ vs ps' ht' (fun b o hb e => F3.keep b o (hideAll_get _ e (fun q => hb (List.mem_singleton.mp q)))) ?_ hm.1 ⟨_, (N3 _ (.tail _ (.tail _ (.head _)))).1⟩ ho
    exact hid_none hn hlt
  case turn1 =>
    intro ds p rs vs nn ps' t' u h3 tk3 hp ht' ho F3 N3
    clear F9 N9
    unfold frm at F3
    have hok1 : p.Ok := hok p (by rw [hp]; simp)
    have hlen : plen ds + p.text.length ≤ plen pcs := by rw [hp]; simp [plen]
    have hvl := ho.len
    have hdl : ds.length ≤ 10000 := Nat.le_trans (plen_ge ds) (by omega)
    cases p with
    | star =>
      have hl : (plen ds : Int) < x.length := by rw [hxl]; simp [Pc.text] at hlen; omega
      have hi : Txt.item x (plen ds : Int) = ⟨#[42]⟩ := text_head (ds.flatMap Pc.text) (rs.flatMap Pc.text) 42 x (by rw [hpx, hp]; simp [Pc.text])
      rcases star_last ho (hst ds rs hp) with rfl | ⟨us, z, tz, rfl⟩
      · show wpAny _ _ _ _ _ _
        k_steps
        all_goals exact turn_done (by assumption) (by assumption) (by walk_at "m_mem") (by walk_at "m_mem") (by walk_at "m_mem") (by walk_at "m_mem") hp ht' ho (rfl : OutIs .none Pc.star) rfl (by simp only [Pc.text, List.length_cons, List.length_nil]; omega) (fun z n1 n2 n3 n4 => by simp [n1, n2, n3, n4])
      · have hul : us.length ≤ 10000 := by rw [List.length_append] at hvl; simp only [List.length_cons, List.length_nil] at hvl; omega
        show wpAny _ _ _ _ _ _
        k_steps
        all_goals exact turn_done (by assumption) (by assumption) (by walk_at "m_mem") (by walk_at "m_mem") (by walk_at "m_mem") (by walk_at "m_mem") hp ht' ho (rfl : OutIs .none Pc.star) rfl (by simp only [Pc.text, List.length_cons, List.length_nil]; omega) (fun z n1 n2 n3 n4 => by simp [n1, n2, n3, n4])
    | any =>
      have hl : (plen ds : Int) < x.length := by rw [hxl]; simp [Pc.text] at hlen; omega
      have hi : Txt.item x (plen ds : Int) = ⟨#[63]⟩ := text_head (ds.flatMap Pc.text) (rs.flatMap Pc.text) 63 x (by rw [hpx, hp]; simp [Pc.text])
      show wpAny _ _ _ _ _ _
      k_steps
      all_goals exact turn_done (by assumption) (by assumption) (by walk_at "m_mem") (by walk_at "m_mem") (by walk_at "m_mem") (by walk_at "m_mem") hp ht' ho (⟨_, rfl⟩ : OutIs _ Pc.any) rfl (by simp only [Pc.text, List.length_cons, List.length_nil]; omega) (fun z n1 n2 n3 n4 => by simp [n1, n2, n3, n4])
    | sign c =>
      have hl : (plen ds : Int) < x.length := by rw [hxl]; simp [Pc.text] at hlen; omega
      have hi : Txt.item x (plen ds : Int) = ⟨#[c]⟩ := text_head (ds.flatMap Pc.text) (rs.flatMap Pc.text) c x (by rw [hpx, hp]; simp [Pc.text])
      obtain ⟨q1, q2, q3, q4, q5⟩ := sign_not hok1
      by_cases h43 : c = 43
      · subst h43
        show wpAny _ _ _ _ _ _
        k_steps
        all_goals exact turn_done (by assumption) (by assumption) (by walk_at "m_mem") (by walk_at "m_mem") (by walk_at "m_mem") (by walk_at "m_mem") hp ht' ho (⟨_, rfl⟩ : OutIs _ (Pc.sign 43)) rfl (by simp only [Pc.text, List.length_cons, List.length_nil]; omega) (fun z n1 n2 n3 n4 => by simp [n1, n2, n3, n4])
      · have hcp : c ∈ plainC := by rcases List.mem_cons.mp (show c ∈ 43 :: plainC from hok1) with q | q; exact absurd q h43; exact q
        have hv : ∀ t, OutIs (.str ⟨#[c]⟩ t) (Pc.sign c) := fun t => by
          show ∃ t', Value.str ⟨#[c]⟩ t = .str (if c = 43 then Str.ofString "\\+" else ⟨#[c]⟩) t'
          rw [if_neg h43]; exact ⟨t, rfl⟩
        show wpAny _ _ _ _ _ _
        k_steps
        all_goals exact turn_done (by assumption) (by assumption) (by walk_at "m_mem") (by walk_at "m_mem") (by walk_at "m_mem") (by walk_at "m_mem") hp ht' ho (hv _) rfl (by simp only [Pc.text, List.length_cons, List.length_nil]; omega) (fun z n1 n2 n3 n4 => by simp [n1, n2, n3, n4])
    | cls cs =>
      obtain ⟨hne, hcs, hcl⟩ := hok1
      obtain ⟨c0, cs', rfl⟩ : ∃ c0 cs', cs = c0 :: cs' := by cases cs with | nil => exact absurd rfl hne | cons a b => exact ⟨a, b, rfl⟩
      have hl : (plen ds : Int) + 1 + (c0 :: cs').length < x.length := by rw [hxl]; simp [Pc.text] at hlen ⊢; omega
      have htx : x.cps.toList = ds.flatMap Pc.text ++ 91 :: ((c0 :: cs') ++ 93 :: rs.flatMap Pc.text) := by rw [hpx, hp]; simp [Pc.text]
      have hi : Txt.item x (plen ds : Int) = ⟨#[91]⟩ := text_head _ _ _ x htx
      have hi0 : Txt.item x ((plen ds : Int) + 1) = ⟨#[c0]⟩ := text_at (ds.flatMap Pc.text ++ [91]) (cs' ++ 93 :: rs.flatMap Pc.text) _ x _ (by simp [plen]) (by rw [htx]; simp)
      obtain ⟨q1, q2, q3, q4, q5⟩ := sign_not (hcs c0 (List.mem_cons_self ..))
      have hq : ∀ j : Nat, j < (c0 :: cs').length → ∃ c, Txt.item x ((plen ds : Int) + 1 + (j : Int)) = ⟨#[c]⟩ ∧ ((⟨#[c]⟩ : Str) == Str.ofString "]") = false := fun j hj => by
        have e : (c0 :: cs') = (c0 :: cs').take j ++ (c0 :: cs')[j] :: (c0 :: cs').drop (j + 1) := by rw [List.getElem_cons_drop, List.take_append_drop]
        refine ⟨(c0 :: cs')[j], text_at (ds.flatMap Pc.text ++ 91 :: (c0 :: cs').take j) ((c0 :: cs').drop (j + 1) ++ 93 :: rs.flatMap Pc.text) _ x _ ?_ ?_, (sign_not (hcs _ (List.getElem_mem hj))).2.2.2.1⟩
        · rw [List.length_append, List.length_cons, List.length_take, Nat.min_eq_left (Nat.le_of_lt hj)]
          simp [plen]; omega
        · rw [htx]
          have e2 : (c0 :: cs') ++ 93 :: rs.flatMap Pc.text = (c0 :: cs').take j ++ (c0 :: cs')[j] :: ((c0 :: cs').drop (j + 1) ++ 93 :: rs.flatMap Pc.text) := by
            conv => lhs; rw [e]
            simp
          rw [e2]; simp
      have hend : Txt.item x ((plen ds : Int) + 1 + ((c0 :: cs').length : Int)) = ⟨#[93]⟩ := text_at (ds.flatMap Pc.text ++ 91 :: (c0 :: cs')) (rs.flatMap Pc.text) _ x _ (by simp [plen]; omega) (by rw [htx]; simp)
      show wpAny _ _ _ _ _ _
      k_steps
      show wpAny _ _ _ _ _ _
      (with_reducible rename Fr _ _ _ _ => F4)
      (with_reducible rename News _ _ _ _ => N4)
      refine tr_inner (c0 :: cs') F4 N4 rfl ?_
      intro j tj h5 tk5 hj F5 N5
      clear F4 N4
      have hlj : (j : Int) ≤ (c0 :: cs').length := by omega
      generalize hcl2 : (c0 :: cs').length = cl at *
      by_cases hjl : j < cl
      · obtain ⟨c, hc1, hc2⟩ := hq j hjl
        show wpAny _ _ _ _ _ _
        k_steps
        all_goals (rw [← hcl2]; exact ij_next (by assumption) (by assumption) (by omega))
      · have hje : j = cl := by omega
        subst hje
        have hnc : ∀ c, c ∉ signC → c ∉ ((⟨(c0 :: cs').toArray⟩ : Str).cps.toList) := fun c hc hm => hc (hcs c hm)
        have h45 := hnc 45 (by decide)
        have h92 := hnc 92 (by decide)
        have hsl : Txt.slice x (some ((plen ds : Int) + 1)) (some ((plen ds : Int) + 1 + (j : Int))) = ⟨(c0 :: cs').toArray⟩ := cls_slice (P := ds.flatMap Pc.text ++ [91]) (R := 93 :: rs.flatMap Pc.text) (by rw [htx]; simp) (by simp [plen]) (by rw [hcl2])
        have hfine : ∀ c ∈ (⟨(c0 :: cs').toArray⟩ : Str).cps.toList, reBad c = false := fun c hm => sign_fine (hcs c hm)
        have hyl : 1 ≤ (⟨(c0 :: cs').toArray⟩ : Str).length := by show 1 ≤ (c0 :: cs').toArray.size; simp
        have hyl2 : (⟨(c0 :: cs').toArray⟩ : Str).length ≤ 1000 := by show (c0 :: cs').toArray.size ≤ 1000; rw [List.size_toArray, hcl2]; omega
        have hb1 : ((⟨(c0 :: cs').toArray⟩ : Str) == Str.ofString "!") = false := cls_not hcs
        have hin : ([Str.ofString "^", Str.ofString "["].any (· == (⟨#[c0]⟩ : Str))) = false := sign_in (hcs c0 (List.mem_cons_self ..))
        have ht1 : TriplesOk ps'.toList := ht'.1
        have hy0 : Txt.item ⟨(c0 :: cs').toArray⟩ 0 = ⟨#[c0]⟩ := text_at [] cs' c0 _ _ rfl rfl
        rcases ht'.2 with hnf | ⟨cH, hhit⟩
        · show wpAny _ _ _ _ _ _
          k_steps
          all_goals exact turn_done (by assumption) (by assumption) (by walk_at "m_mem") (by walk_at "m_mem") (by walk_at "m_mem") (by walk_at "m_mem") hp (tab_snoc ht1 hnf) ho (cls_out _ _) rfl (by simp only [Pc.text, List.length_cons, List.length_append, List.length_nil] at hcl2 ⊢; omega) (fun z n1 n2 n3 n4 => by simp [n1, n2, n3, n4])
        · show wpAny _ _ _ _ _ _
          k_steps
          all_goals exact turn_done (by assumption) (by assumption) (by walk_at "m_mem") (by walk_at "m_mem") (by walk_at "m_mem") (by walk_at "m_mem") hp ht' ho (cls_out _ _) rfl (by simp only [Pc.text, List.length_cons, List.length_append, List.length_nil] at hcl2 ⊢; omega) (fun z n1 n2 n3 n4 => by simp [n1, n2, n3, n4])
end Mine
end
/-! CompInv -/
section
open PySem.Calls
set_option maxHeartbeats 1000000
set_option maxRecDepth 100000
namespace Mine
/-- what an item's evaluation leaves: all but its own objects stay; its own are old ones or new -/
def EltTo (J : Nat → List Value → List (Addr × Obj) → Prop) (i : Nat) (ys : List Value) (own : List (Addr × Obj)) (s₃ : Shared) (y : Value) (s₄ : Shared) : Prop :=
  ∃ h' tk own', s₄ = { s₃ with heap := h', toks := tk } ∧ (∀ b o, (∀ p ∈ own, p.1 ≠ b) → s₃.heap.get? b = some o → h'.get? b = some o) ∧
    (∀ p ∈ own', h'.get? p.1 = some p.2 ∧ ((∃ q ∈ own, q.1 = p.1) ∨ s₃.heap.get? p.1 = none)) ∧ J (i + 1) (ys ++ [y]) own'
section
variable {prog : Program} {w : World} {A : Around} {R : Result → Shared → Prop} {s : Shared}
theorem comp_loop_inv {elt iter : Expr} {x : Str} {px : Pos} {scope : Scope} {pos : Pos} {I D : Addr} {fp wr pv : List Addr} {n : Nat} {P : Nat → Value → Prop} {St : Nat → Heap → Prop} {cenv : Env} {h₀ : Heap} {own0 : List (Addr × Obj)}
    (W : Walks prog w A I fp wr n P St) (hlive : ∀ i h, St i h → ∀ b ∈ fp, ∃ o, h.get? b = some o) (J : Nat → List Value → List (Addr × Obj) → Prop)
    (Rdy : Heap → Prop) (Bd : Value → Heap → Prop) (hBR : ∀ v h, Bd v h → Rdy h) (hR0 : ∀ h h', Rdy h → (∀ b ∈ pv, ∀ o, h.get? b = some o → h'.get? b = some o) → Rdy h') (hB0 : ∀ v h h', Bd v h → (∀ b ∈ pv, ∀ o, h.get? b = some o → h'.get? b = some o) → Bd v h')
    (hRl : ∀ h, Rdy h → ∀ b ∈ pv, ∃ o, h.get? b = some o)
    (hassign : ∀ v (s : Shared) (Q : Unit → Shared → Prop) (E : Value → Shared → Prop), Rdy s.heap → (∀ h' tk, Bd v h' → (∀ b o, b ∉ pv → s.heap.get? b = some o → h'.get? b = some o) → Q () { s with heap := h', toks := tk }) → wpAny (model prog w) A (assign (.Name x px) cenv v) Q E s)
    (hDf : D ∉ fp) (hDp : D ∉ pv) (hpf : ∀ b ∈ pv, b ∉ fp) (h0D : h₀.get? D = none) (h0p : ∀ b ∈ pv, h₀.get? b = none) (h0w : ∀ b ∈ wr, h₀.get? b = none)
    (hst : St 0 s.heap) (hacc : s.heap.PlainList D #[]) (hrdy : Rdy s.heap) (hk0 : ∀ b o, h₀.get? b = some o → s.heap.get? b = some o) (hJ : J 0 [] own0) (hown : ∀ p ∈ own0, s.heap.get? p.1 = some p.2 ∧ p.1 ≠ D ∧ p.1 ∉ pv ∧ p.1 ∉ fp)
    (helt : ∀ i v ys own (s₃ : Shared) E', i < n → P i v → J i ys own → Bd v s₃.heap → (∀ b o, h₀.get? b = some o → s₃.heap.get? b = some o) → (∀ p ∈ own, s₃.heap.get? p.1 = some p.2) → (∀ p ∈ own, p.1 ∉ pv) →
      wpAny (model prog w) A (eval elt cenv) (EltTo J i ys own s₃) E' s₃)
    (hR : ∀ h' tk ys own, Rdy h' → h'.PlainList D ys → J n ys.toList own → (∀ p ∈ own, h'.get? p.1 = some p.2 ∧ p.1 ≠ D ∧ p.1 ∉ pv) → (∀ b o, h₀.get? b = some o → h'.get? b = some o) → R (.ok .next) { s with heap := h', toks := tk })
    (h0o : ∀ i ys own, J i ys own → ∀ p ∈ own, h₀.get? p.1 = none) (hJl : ∀ i ys own, J i ys own → ys.length = i) (hsz : n ≤ sizeLine) :
    codeAny (model prog w) A (.compLoop (.ListComp elt [⟨.Name x px, iter, [], 0⟩] scope pos) 0 (.ref I) (.ref D) cenv) R s := by
  refine codeAny_compLoop_list
    (fun k s' => ∃ h' tk ys own i, s' = { s with heap := h', toks := tk } ∧ St i h' ∧ h'.PlainList D ys ∧ Rdy h' ∧ J i ys.toList own ∧ (∀ p ∈ own, h'.get? p.1 = some p.2 ∧ p.1 ≠ D ∧ p.1 ∉ pv ∧ p.1 ∉ fp) ∧
      (∀ b o, h₀.get? b = some o → h'.get? b = some o) ∧ i ≤ n ∧ k = n + 1 - i) ?_ (n + 1)
    ⟨s.heap, s.toks, #[], own0, 0, rfl, hst, hacc, hrdy, hJ, hown, hk0, Nat.zero_le _, rfl⟩
  rintro k s' ⟨H, tk, ys, own, i, rfl, hst', hacc', hrdy', hJ', hown', hk', hi, rfl⟩
  have hDw : D ∉ wr := fun h => hDf (W.sub _ h)
  have hpw : ∀ b ∈ pv, b ∉ wr := fun b hb h => hpf b hb (W.sub _ h)
  by_cases hlt : i < n
  · refine W.item i _ _ _ hlt hst' fun v h₁ tk₁ hP hst₁ hk₁ => ?_
    refine hassign v _ _ _ (hR0 _ _ hrdy' fun b hb o e => hk₁ b o (hpw b hb) e) fun h₂ tk₂ hbd hk₂ => ?_
    have hk12 : ∀ b o, b ∉ wr → b ∉ pv → H.get? b = some o → h₂.get? b = some o := fun b o hw hp e => hk₂ b o hp (hk₁ b o hw e)
    have hown2 : ∀ p ∈ own, h₂.get? p.1 = some p.2 := fun p hp => hk12 _ _ (fun h => (hown' p hp).2.2.2 (W.sub _ h)) (hown' p hp).2.2.1 (hown' p hp).1
    have hk02 : ∀ b o, h₀.get? b = some o → h₂.get? b = some o := fun b o e => hk12 b o (fun h => by rw [h0w b h] at e; cases e) (fun h => by rw [h0p b h] at e; cases e) (hk' b o e)
    have hst₂ : St (i + 1) h₂ := W.frame _ _ _ hst₁ fun b hb o e => hk₂ b o (fun h => hpf b h hb) e
    obtain ⟨nD, hD1⟩ := hacc'
    have hD2 : h₂.get? D = some _ := hk12 D _ hDw hDp hD1
    refine wpAny_mono (helt i v ys.toList own _ _ hlt hP hJ' hbd hk02 hown2 fun p hp => (hown' p hp).2.2.1) (fun y s₄ h₄ => ?_) fun _ _ e => e
    obtain ⟨h₄, tk₄, own', rfl, hk₄, hown₄, hJ₄⟩ := h₄
    have stay : ∀ b o, (b = D ∨ b ∈ pv ∨ b ∈ fp) → h₂.get? b = some o → h₄.get? b = some o := fun b o hb e => hk₄ b o (fun p hp q => by
      obtain ⟨_, n1, n2, n3⟩ := hown' p hp
      rcases hb with rfl | hb | hb
      · exact n1 q
      · exact n2 (q ▸ hb)
      · exact n3 (q ▸ hb)) e
    have off : ∀ p ∈ own', p.1 ≠ D ∧ p.1 ∉ pv ∧ p.1 ∉ fp := fun p hp => by
      rcases (hown₄ p hp).2 with ⟨q, hq, e⟩ | e
      · rw [← e]; exact (hown' q hq).2
      · refine ⟨fun h => ?_, fun h => ?_, fun h => ?_⟩
        · rw [h] at e
          have : h₂.get? D = none := e
          rw [hD2] at this; cases this
        · obtain ⟨o, ho⟩ := hRl _ (hBR _ _ hbd) _ h
          have : h₂.get? p.1 = none := e
          rw [ho] at this; cases this
        · obtain ⟨o, ho⟩ := hlive _ _ hst₂ _ h
          have : h₂.get? p.1 = none := e
          rw [ho] at this; cases this
    refine wpAny_list_append_plain ⟨nD, stay D _ (.inl rfl) hD2⟩ (fun h₅ hD5 hs5 => ?_) (by
      have := hJl _ _ _ hJ'
      rw [Array.length_toList] at this
      omega)
    have hk5 : ∀ b o, b ≠ D → h₄.get? b = some o → h₅.get? b = some o := fun b o hb e => hs5.extBut b o hb e
    refine ⟨n + 1 - (i + 1), by omega, h₅, tk₄, ys.push y, own', i + 1, rfl, ?_, hD5, ?_, ?_, ?_, ?_, hlt, rfl⟩
    · exact W.frame _ _ _ hst₂ fun b hb o e => hk5 b o (fun h => hDf (h ▸ hb)) (stay b o (.inr (.inr hb)) e)
    · exact hR0 _ _ (hBR _ _ hbd) fun b hb o e => hk5 b o (fun h => hDp (h ▸ hb)) (stay b o (.inr (.inl hb)) e)
    · rw [Array.toList_push]; exact hJ₄
    · exact fun p hp => ⟨hk5 _ _ (off p hp).1 (hown₄ p hp).1, off p hp⟩
    · exact fun b o e => hk5 b o (fun h => by rw [h, h0D] at e; cases e) (hk₄ b o (fun p hp q => by
        have := h0o _ _ _ hJ' p hp
        rw [q, e] at this; cases this) (hk02 b o e))
  · have hin : i = n := by omega
    subst hin
    refine W.done _ _ _ hst' fun h₁ tk₁ hk₁ => ?_
    exact hR h₁ tk₁ ys own (hR0 _ _ hrdy' fun b hb o e => hk₁ b o (hpw b hb) e) (hacc'.imp fun n e => hk₁ _ _ hDw e) hJ'
      (fun p hp => ⟨hk₁ _ _ (fun h => (hown' p hp).2.2.2 (W.sub _ h)) (hown' p hp).1, (hown' p hp).2.1, (hown' p hp).2.2.1⟩)
      fun b o e => hk₁ b o (fun h => by rw [h0w b h] at e; cases e) (hk' b o e)
end
end Mine
end
/-! CompC -/
section
open PySem.Calls
set_option maxHeartbeats 1000000
set_option maxRecDepth 100000
namespace Mine
section
variable {M : Model} {A : Around} {E : Value → Shared → Prop} {s : Shared}
theorem nfe_comp {scope : Scope} {g : Addr} {cl : List (Str × Addr)} {q : Str} {env : Env} {Q : Env → Shared → Prop}
    (h : Q { scope, locals := s.heap.objs.size, globals := g, cells := cellsFrom (s.heap.objs.size + 1) scope.names cl, qual := q, func := none, code := env.code, frame := env.frame, builtins := env.builtins }
      { s with heap := pushCells (s.heap.push { cls := .type "dict", data := .dict #[] }) scope.names }) :
    wpAny M A (newFunctionEnv scope g cl [] q none .none (some env)) Q E s := by
  simp only [newFunctionEnv, Option.isSome_some, if_true]
  refine wpAny_bind (wpAny_alloc ?_)
  refine wpAny_bind (wpAny_layCells _ (fun name kind cells => by cases hkc : kind == NameKind.cell <;> simp) _ _ _ _ ?_)
  rw [List.forIn_nil]
  refine wpAny_bind (wpAny_pure (wpAny_pure ?_))
  dsimp only
  rw [Heap.size_push]
  exact h
end
/-- a comprehension's env whose variable is a cell -/
abbrev compEnvK (scope : Scope) (cl : List (Str × Addr)) (x : Str) (C : Addr) (env : Env) : Env := compEnvC scope ((x, C + 1) :: cl) C env
section
variable {prog : Program} {w : World} {A : Around} {E : Value → Shared → Prop} {env : Env}
theorem comp_block_cell {elt iter : Expr} {x : Str} {px : Pos} {scope : Scope} {cl : List (Str × Addr)} {pos : Pos} {s₂ : Shared} {I : Addr} {fp wr : List Addr} {n : Nat} {P : Nat → Value → Prop} {St : Nat → Heap → Prop} {h₀ : Heap} {own0 : List (Addr × Obj)}
    (W : Walks prog w A I fp wr n P St) (hlive : ∀ i h, St i h → ∀ b ∈ fp, ∃ o, h.get? b = some o) (J : Nat → List Value → List (Addr × Obj) → Prop) {RR : Value → Addr → Result → Shared → Prop}
    (hcf : ∀ m, cellsFrom m scope.names cl = (x, m) :: cl) (hpc : ∀ h, pushCells h scope.names = h.push { cls := .type "cell", data := .cell none }) (hkind : scope.kind = .function)
    (hxk : ∀ C, (compEnvK scope cl x C env).kindOf x = some .cell)
    (hst : St 0 s₂.heap) (hfp : ∀ b ∈ fp, b < s₂.heap.objs.size) (h0w : ∀ b ∈ wr, h₀.get? b = none) (hk0 : ∀ b o, h₀.get? b = some o → s₂.heap.get? b = some o) (h0s : h₀.objs.size ≤ s₂.heap.objs.size)
    (hJ : J 0 [] own0) (hown : ∀ p ∈ own0, s₂.heap.get? p.1 = some p.2 ∧ p.1 ∉ fp) (h0o : ∀ i ys own, J i ys own → ∀ p ∈ own, h₀.get? p.1 = none) (hJl : ∀ i ys own, J i ys own → ys.length = i) (hsz : n ≤ sizeLine)
    (helt : ∀ C i v ys own (s₃ : Shared) E', h₀.objs.size ≤ C → i < n → P i v → J i ys own → (∃ m, s₃.heap.Ns C m) → s₃.heap.IsCell (C + 1) (some v) → (∀ b o, h₀.get? b = some o → s₃.heap.get? b = some o) → (∀ p ∈ own, s₃.heap.get? p.1 = some p.2) → (∀ p ∈ own, p.1 ≠ C ∧ p.1 ≠ C + 1) →
      wpAny (model prog w) A (eval elt (compEnvK scope cl x C env)) (EltTo J i ys own s₃) E' s₃)
    (hRR : ∀ D C h' tk m' ys own, s₂.heap.get? D = none → s₂.heap.get? C = none → D ≠ C → h'.Ns C m' → h'.PlainList D ys → J n ys.toList own → (∀ p ∈ own, h'.get? p.1 = some p.2 ∧ p.1 ≠ D ∧ p.1 ≠ C) → (∀ b o, h₀.get? b = some o → h'.get? b = some o) →
      RR (.ref D) C (.ok .next) { s₂ with heap := h', toks := tk }) :
    wpAny (model prog w) A (newList []) (fun acc s₃ => wpAny (model prog w) A (newFunctionEnv scope env.globals cl [] env.qual none .none (some env)) (fun cenv s₄ =>
      codeAny (model prog w) A (.compStart (.ListComp elt [⟨.Name x px, iter, [], 0⟩] scope pos) 0 (.ref I) acc { cenv with scope := relabel scope env }) (RR acc cenv.locals) s₄) E s₃) E s₂ := by
  refine wpAny_newObj_type (nfe_comp ?_)
  dsimp only
  rw [hcf, hpc]
  generalize hH2 : s₂.heap.push { cls := .type "list", dict := none, data := .seq ([] : List Value).toArray } = H2
  have hC : H2.objs.size = s₂.heap.objs.size + 1 := by rw [← hH2, Heap.size_push]
  generalize hH3 : (H2.push { cls := .type "dict", data := .dict #[] }).push { cls := .type "cell", data := .cell none } = H3
  have hD : H2.get? s₂.heap.objs.size = some { cls := .type "list", dict := none, data := .seq ([] : List Value).toArray } := by rw [← hH2]; exact Heap.get?_push_size _ rfl
  have k2 : ∀ b o, s₂.heap.get? b = some o → H3.get? b = some o := fun b o e => by
    rw [← hH3, ← hH2]; exact Heap.get?_push_of_some _ (Heap.get?_push_of_some _ (Heap.get?_push_of_some _ e))
  have fresh : ∀ a, s₂.heap.objs.size ≤ a → s₂.heap.get? a = none := fun a ha => Heap.get?_none_of_le ha
  have fresh0 : ∀ a, s₂.heap.objs.size ≤ a → h₀.get? a = none := fun a ha => by
    cases e : h₀.get? a with
    | none => rfl
    | some o => have := hk0 a o e; rw [fresh a ha] at this; cases this
  have hNs : H3.Ns H2.objs.size (fun _ => none) := by rw [← hH3]; exact (Heap.Ns.new H2 (.type "dict")).push _
  have hCe : H3.IsCell (H2.objs.size + 1) none := by
    refine ⟨{ cls := .type "cell", data := .cell none }, ?_, rfl⟩
    have := Heap.get?_push_size (H2.push { cls := .type "dict", data := .dict #[] }) (o := { cls := .type "cell", data := .cell none }) rfl
    rw [Heap.size_push] at this
    rw [← hH3]; exact this
  have kH2 : ∀ b o, H2.get? b = some o → H3.get? b = some o := fun b o e => by rw [← hH3]; exact Heap.get?_push_of_some _ (Heap.get?_push_of_some _ e)
  have below : ∀ b, b < s₂.heap.objs.size → b ≠ s₂.heap.objs.size ∧ b ≠ H2.objs.size ∧ b ≠ H2.objs.size + 1 := fun b hb => ⟨Nat.ne_of_lt hb, by rw [hC]; exact Nat.ne_of_lt (Nat.lt_succ_of_lt hb), by rw [hC]; exact Nat.ne_of_lt (Nat.lt_succ_of_lt (Nat.lt_succ_of_lt hb))⟩
  have memp : ∀ b, b ∈ [H2.objs.size, H2.objs.size + 1] → b = H2.objs.size ∨ b = H2.objs.size + 1 := fun b hb => by simpa using hb
  have hst₁ : St 0 H3 := W.frame _ _ _ hst fun b _ o e => k2 b o e
  have loop : codeAny (model prog w) A (.compLoop (.ListComp elt [⟨.Name x px, iter, [], 0⟩] scope pos) 0 (.ref I) (.ref s₂.heap.objs.size) (compEnvK scope cl x H2.objs.size env)) (RR (.ref s₂.heap.objs.size) H2.objs.size) { s₂ with heap := H3 } := by
    refine comp_loop_inv (pv := [H2.objs.size, H2.objs.size + 1]) (h₀ := h₀) (own0 := own0) W hlive J (fun h => (∃ m, h.Ns H2.objs.size m) ∧ ∃ v₀, h.IsCell (H2.objs.size + 1) v₀) (fun v h => (∃ m, h.Ns H2.objs.size m) ∧ h.IsCell (H2.objs.size + 1) (some v))
      (fun v h y => ⟨y.1, _, y.2⟩) ?r0 ?b0 ?rl ?asg ?Df ?Dp ?pf ?D0 ?p0 h0w hst₁ ?acc ⟨⟨_, hNs⟩, _, hCe⟩ (fun b o e => k2 b o (hk0 b o e)) hJ ?own ?elt ?fin h0o hJl hsz
    case r0 => exact fun h h' y k => ⟨y.1.imp fun m z => z.at' fun o e => k _ (by simp) o e, y.2.imp fun v ⟨o, e, d⟩ => ⟨o, k _ (by simp) o e, d⟩⟩
    case b0 => exact fun v h h' y k => ⟨y.1.imp fun m z => z.at' fun o e => k _ (by simp) o e, let ⟨o, e, d⟩ := y.2; ⟨o, k _ (by simp) o e, d⟩⟩
    case rl =>
      intro h y b hb
      rcases memp b hb with rfl | rfl
      · obtain ⟨m, o, _, _, e, _⟩ := y.1; exact ⟨o, e⟩
      · obtain ⟨v, o, e, _⟩ := y.2; exact ⟨o, e⟩
    case asg =>
      intro v s' Q E' y hQ
      obtain ⟨⟨m, hm⟩, v₀, hv₀⟩ := y
      refine wpAny_assign_Name (wpAny_storeName_cell (by show (relabel scope env).kind = _; exact hkind) (hxk _) (by show List.lookup x ((x, H2.objs.size + 1) :: cl) = _; simp) hv₀ fun h' hc' hs' => ?_)
      have hne : H2.objs.size ≠ H2.objs.size + 1 := Nat.ne_of_lt (Nat.lt_succ_self _)
      exact hQ h' _ ⟨⟨m, hm.extBut hs'.extBut hne⟩, hc'⟩ fun b o hb e => hs'.extBut b o (fun q => hb (by rw [q]; simp)) e
    case Df => exact fun h => Nat.lt_irrefl _ (hfp _ h)
    case Dp =>
      intro h
      rcases memp _ h with q | q
      · rw [hC] at q; omega
      · rw [hC] at q; omega
    case pf =>
      intro b hb h
      have := below b (hfp b h)
      rcases memp b hb with q | q
      · exact this.2.1 q
      · exact this.2.2 q
    case D0 => exact fresh0 _ (Nat.le_refl _)
    case p0 =>
      intro b hb
      rcases memp b hb with q | q
      · rw [q, hC]; exact fresh0 _ (Nat.le_succ _)
      · rw [q, hC]; exact fresh0 _ (by omega)
    case acc => exact ⟨_, kH2 _ _ hD⟩
    case own =>
      intro p hp
      have := below p.1 (Heap.lt_size (hown p hp).1)
      refine ⟨k2 _ _ (hown p hp).1, this.1, fun h => ?_, (hown p hp).2⟩
      rcases memp _ h with q | q
      · exact this.2.1 q
      · exact this.2.2 q
    case elt =>
      intro i v ys own s₃ E' hi hP hj hb hk ho hp
      refine helt _ i v ys own s₃ E' (by rw [hC]; omega) hi hP hj hb.1 hb.2 hk ho fun p hq => ⟨fun q => hp p hq (by rw [q]; simp), fun q => hp p hq (by rw [q]; simp)⟩
    case fin =>
      intro h' tk ys own hr hpl hj ho hk
      obtain ⟨⟨m', hm'⟩, _⟩ := hr
      exact hRR _ _ h' tk m' ys own (fresh _ (Nat.le_refl _)) (fresh _ (by rw [hC]; exact Nat.le_succ _)) (by rw [hC]; exact Nat.ne_of_lt (Nat.lt_succ_self _)) hm' hpl hj (fun p hp => ⟨(ho p hp).1, (ho p hp).2.1, fun q => (ho p hp).2.2 (by rw [q]; simp)⟩) hk
  exact codeAny_compStart_list loop (W.self 0 _ _ _ hst₁ loop)
end
end Mine
end
/-! CompD -/
section
open PySem.Calls
set_option maxHeartbeats 1000000
set_option maxRecDepth 100000
namespace Mine
section
variable {prog : Program} {w : World} {A : Around} {E : Value → Shared → Prop} {s : Shared} {env : Env}
/-- as Iters, with the places that the walk looks at: new ones, or among kl -/
def Iters2 (prog : Program) (w : World) (A : Around) (kl : List Addr) (xv : Value) (s₁ : Shared) (n : Nat) (P : Nat → Value → Prop) : Prop :=
  ∀ (Q : Value → Shared → Prop) (E : Value → Shared → Prop), (∀ I fp wr St h tk, Walks prog w A I fp wr n P St → (∀ i h, St i h → ∀ b ∈ fp, ∃ o, h.get? b = some o) → St 0 h → (∀ b ∈ fp, b < h.objs.size) → (∀ b ∈ wr, s₁.heap.get? b = none) →
    (∀ b ∈ fp, s₁.heap.get? b = none ∨ b ∈ kl) → Kp s₁.heap h → s₁.heap.objs.size ≤ h.objs.size → Q (.ref I) { s₁ with heap := h, toks := tk }) → wpAny (model prog w) A (pyIter xv) Q E s₁
theorem iters2_list {l : Addr} {items : Array Value} (hh : A.handled = none) (hl : s.heap.IsList l items) : Iters2 prog w A [l] (.ref l) s items.size (fun i v => items[i]? = some v) := by
  intro Q E h
  obtain ⟨ol, hol, _⟩ := id hl
  have hlt : l < s.heap.objs.size := Heap.lt_size hol
  refine wpAny_pyIter_list hl ?_
  refine h s.heap.objs.size [s.heap.objs.size, l] [s.heap.objs.size] _ _ s.toks (Walks.list hh _ l (Nat.ne_of_lt hlt) items) ?_ ⟨⟨_, Heap.get?_push_size _ rfl, rfl, rfl⟩, hl.push _⟩ ?_ ?_ ?_ (Kp.refl _ |>.push _) (by rw [Heap.size_push]; omega)
  · intro i h' st b hb
    rcases List.mem_cons.mp hb with rfl | hb
    · obtain ⟨o, e, _⟩ := st.1; exact ⟨o, e⟩
    · rw [List.mem_singleton.mp hb]; obtain ⟨o, e, _⟩ := st.2; exact ⟨o, e⟩
  · intro b hb
    rw [Heap.size_push]
    rcases List.mem_cons.mp hb with rfl | hb
    · exact Nat.lt_succ_self _
    · rw [List.mem_singleton.mp hb]; exact Nat.lt_succ_of_lt hlt
  · intro b hb
    rw [List.mem_singleton.mp hb]
    exact Heap.get?_none_of_le (Nat.le_refl _)
  · intro b hb
    rcases List.mem_cons.mp hb with rfl | hb
    · exact .inl (Heap.get?_none_of_le (Nat.le_refl _))
    · exact .inr hb
theorem iters2_range {r : Addr} {n : Nat} {t u v : Tok} (hh : A.handled = none) (hr : IsRange s.heap r 0 (n : Int) 1 t u v) (hn : n < 2 ^ 60) :
    Iters2 prog w A [] (.ref r) s n (fun i v => i < n ∧ ∃ t, v = .int (i : Int) t) := by
  intro Q E h
  have hsm : Builtin.Range.small 0 (n : Int) 1 = true := small_one (by omega) (by omega) (by omega) (by omega)
  have hsz : Builtin.Range.rangeSize 0 (n : Int) 1 = n := by
    rw [rangeSize_one]; split <;> omega
  refine wpAny_pyIter_range hr hsm ?_
  rw [hsz]
  have W := Walks.range (prog := prog) (w := w) hh s.heap.objs.size 0 1 n
  refine h s.heap.objs.size [s.heap.objs.size] [s.heap.objs.size] _ _ s.toks ⟨W.sub, W.frame, fun i s' Q E hi st hQ => W.item i s' Q E hi st (fun v h' tk hP => hQ v h' tk (by obtain ⟨t, e⟩ := hP; exact ⟨hi, t, by rw [e]; simp⟩)), W.done, W.self⟩ ?_ ?_ ?_ ?_ ?_ (Kp.refl _ |>.push _) (by rw [Heap.size_push]; omega)
  · intro i h' st b hb
    rw [List.mem_singleton.mp hb]
    exact ⟨_, st⟩
  · have : IsRangeIter (s.heap.push { cls := .type "range_iterator", data := .fields #[rawInt 0, rawInt n, rawInt 1] }) s.heap.objs.size 0 n 1 := Heap.get?_push_size _ rfl
    simpa using this
  · intro b hb
    rw [List.mem_singleton.mp hb, Heap.size_push]
    exact Nat.lt_succ_self _
  · intro b hb
    rw [List.mem_singleton.mp hb]
    exact Heap.get?_none_of_le (Nat.le_refl _)
  · intro b hb
    rw [List.mem_singleton.mp hb]
    exact .inl (Heap.get?_none_of_le (Nat.le_refl _))
/-- what is to be shown behind the source of such a comprehension, its name bound in the frame -/
structure InvAt (prog : Program) (w : World) (A : Around) (env : Env) (scope : Scope) (cl : List (Str × Addr)) (x y : Str) (elt : Expr) (n : Nat) (P : Nat → Value → Prop) (J : Nat → List Value → List (Addr × Obj) → Prop) (h₀ : Heap) (own0 : List (Addr × Obj)) (m : Str → Option Value)
    (Q : Flow → Shared → Prop) (kl : List Addr) (xv : Value) (s₁ : Shared) : Prop where
  it : Iters2 prog w A kl xv s₁ n P
  ns : s₁.heap.Ns env.locals m
  nsL : ∀ o, s₁.heap.get? env.locals = some o → h₀.get? env.locals = some o
  keep0 : ∀ b o, h₀.get? b = some o → s₁.heap.get? b = some o
  size0 : h₀.objs.size ≤ s₁.heap.objs.size
  j0 : J 0 [] own0
  own0 : ∀ p ∈ own0, s₁.heap.get? p.1 = some p.2 ∧ p.1 ∉ kl
  off : ∀ i ys own, J i ys own → ∀ p ∈ own, h₀.get? p.1 = none
  len : ∀ i ys own, J i ys own → ys.length = i
  elt : ∀ C i v ys own (s₃ : Shared) E', h₀.objs.size ≤ C → i < n → P i v → J i ys own → (∃ m, s₃.heap.Ns C m) → s₃.heap.IsCell (C + 1) (some v) → (∀ b o, h₀.get? b = some o → s₃.heap.get? b = some o) → (∀ p ∈ own, s₃.heap.get? p.1 = some p.2) → (∀ p ∈ own, p.1 ≠ C ∧ p.1 ≠ C + 1) →
      wpAny (model prog w) A (eval elt (compEnvK scope cl x C env)) (EltTo J i ys own s₃) E' s₃
  fin : ∀ D h' tk ys own, s₁.heap.get? D = none → h'.PlainList D ys → J n ys.toList own → (∀ p ∈ own, h'.get? p.1 = some p.2 ∧ p.1 ≠ D) → h'.Ns env.locals (fun z => if z = y then some (.ref D) else m z) → (∀ b o, b ≠ env.locals → h₀.get? b = some o → h'.get? b = some o) →
      Q .next { s₁ with heap := h', toks := tk }
def InvEx (prog : Program) (w : World) (A : Around) (env : Env) (scope : Scope) (cl : List (Str × Addr)) (x y : Str) (elt : Expr) (n : Nat) (P : Nat → Value → Prop) (Q : Flow → Shared → Prop) (xv : Value) (s₁ : Shared) : Prop :=
  ∃ J h₀ own0 m kl, InvAt prog w A env scope cl x y elt n P J h₀ own0 m Q kl xv s₁
theorem as_inv {elt iter : Expr} {x y : Str} {px py : Pos} {scope : Scope} {cl : List (Str × Addr)} {pos spos : Pos} {Q : Flow → Shared → Prop} (n : Nat) (P : Nat → Value → Prop)
    (hsw : swapsWith (.ListComp elt [⟨.Name x px, iter, [], 0⟩] scope pos) (some (.Name y py)) spos.line env = pure true)
    (hclos : closureFor scope env = pure cl) (hcf : ∀ m, cellsFrom m scope.names cl = (x, m) :: cl) (hpc : ∀ h, pushCells h scope.names = h.push { cls := .type "cell", data := .cell none }) (hkind : scope.kind = .function)
    (hnames : ∀ z ∈ scope.names, z.2 = .local → scope.names.lookup z.1 = some .local) (hxk : ∀ C, (compEnvK scope cl x C env).kindOf x = some .cell) (hsz : n ≤ sizeLine)
    (hy : env.kindOf y = some .local) (hp : (env.scope.kind == .class || (env.scope.kind == .module && env.locals != env.globals)) = false)
    (h : wpAny (model prog w) A (eval iter env) (fun xv s₁ => InvEx prog w A env scope cl x y elt n P Q xv s₁) E s)
    (hs : ∀ x, foldedSetIterable iter env x = pure x := by intro _; rfl) :
    wpAny (model prog w) A (exec (.Assign [.Name y py] (.ListComp elt [⟨.Name x px, iter, [], 0⟩] scope pos) spos) env) Q E s := by
  rw [exec_Assign_Name_used _ _ _ _ hsw]
  refine wpAny_bind (wpAny_standAt (wpAny_bind ?_))
  show wpAny _ A (do let _ ← comprehension (.ListComp elt [⟨.Name x px, iter, [], 0⟩] scope pos) scope env _ (newList []) false (eval iter env) (some (assign (.Name y py) env))) _ _ s
  refine wpAny_bind (wpAny_mono (wpAny_comprehension_free (use := some (assign (.Name y py) env)) (Q := fun _ s' => Q .next s') rfl hs hclos hkind hnames
    (wpAny_mono h (fun xv s₁ h₁ => ?_) fun _ _ e => e)) (fun _ s' hq => wpAny_pure (wpAny_pure hq)) fun _ _ e => e)
  obtain ⟨J, h₀, own0, m, kl, X⟩ := h₁
  refine X.it _ _ fun I fp wr St h₂ tk₂ W hlive hst hfp hwr hkl hk hle => ?_
  have hL0 : ∃ o, h₀.get? env.locals = some o := by obtain ⟨o, _, _, e, _⟩ := X.ns; exact ⟨o, X.nsL o e⟩
  refine comp_block_cell (RR := fun acc C => compPost (model prog w) A E (some (assign (.Name y py) env)) (fun _ s' => Q .next s') acc C) (h₀ := h₀) (own0 := own0) W hlive J hcf hpc hkind hxk hst hfp ?h0w ?k0 ?s0 X.j0 ?own X.off X.len hsz X.elt ?fin
  case h0w =>
    intro b hb
    cases e : h₀.get? b with
    | none => rfl
    | some o => have := X.keep0 b o e; rw [hwr b hb] at this; cases this
  case k0 => exact fun b o e => hk b o (X.keep0 b o e)
  case s0 => exact Nat.le_trans X.size0 hle
  case own =>
    intro p hp
    obtain ⟨e, n1⟩ := X.own0 p hp
    refine ⟨hk _ _ e, fun hf => ?_⟩
    rcases hkl _ hf with q | q
    · rw [e] at q; cases q
    · exact n1 q
  case fin =>
    intro D C h' tk m' ys own hD hC hDC hnC hpl hj ho hk'
    have hkL : ∀ o, s.heap.get? env.locals = some o → True := fun _ _ => trivial
    have hnL : h'.Ns env.locals m := X.ns.at' fun o e => hk' _ o (X.nsL o e)
    obtain ⟨oL, hoL⟩ := hL0
    have hL2 : h₂.get? env.locals = some oL := hk _ _ (X.keep0 _ _ hoL)
    have hLC : env.locals ≠ C := by rintro rfl; have : h₂.get? env.locals = none := hC; rw [hL2] at this; cases this
    have hLD : env.locals ≠ D := by rintro rfl; have : h₂.get? env.locals = none := hD; rw [hL2] at this; cases this
    have hLo : ∀ p ∈ own, p.1 ≠ env.locals := fun p hp q => by have := X.off _ _ _ hj p hp; rw [q, hoL] at this; cases this
    show wpAny _ A (assign (.Name y py) env (.ref D)) _ _ _
    refine wpAny_assign_Name (wpAny_storeName_local hy hnL (fun h₃ hn₃ hs₃ => ?_) hp)
    refine ⟨m', hnC.sameBut hs₃ (Ne.symm hLC), fun h₄ hs₄ => ?_⟩
    refine X.fin D h₄ _ ys own ?_ ((hpl.extBut hs₃.extBut (Ne.symm hLD)).extBut hs₄.extBut hDC) hj ?_ (hn₃.sameBut hs₄ hLC) ?_
    · cases e : s₁.heap.get? D with
      | none => rfl
      | some o => have : h₂.get? D = none := hD; rw [hk _ _ e] at this; cases this
    · intro p hp
      obtain ⟨e, n1, n2⟩ := ho p hp
      exact ⟨hs₄.extBut _ _ n2 (hs₃.extBut _ _ (hLo p hp) e), n1⟩
    · intro b o hbL e
      refine hs₄.extBut b o ?_ (hs₃.extBut b o hbL (hk' b o e))
      rintro rfl
      have : h₂.get? b = none := hC
      rw [hk _ _ (X.keep0 _ _ e)] at this; cases this
end
end Mine
end
/-! CompL -/
section
open PySem.Calls
set_option maxHeartbeats 1000000
set_option maxRecDepth 100000
namespace Mine
section
variable {prog : Program} {w : World} {A : Around} {E : Value → Shared → Prop} {env : Env}
theorem comp_block_loc {elt iter : Expr} {x : Str} {px : Pos} {scope : Scope} {cl : List (Str × Addr)} {pos : Pos} {s₂ : Shared} {I : Addr} {fp wr : List Addr} {n : Nat} {P : Nat → Value → Prop} {St : Nat → Heap → Prop} {h₀ : Heap} {own0 : List (Addr × Obj)}
    (W : Walks prog w A I fp wr n P St) (hlive : ∀ i h, St i h → ∀ b ∈ fp, ∃ o, h.get? b = some o) (J : Nat → List Value → List (Addr × Obj) → Prop) {RR : Value → Addr → Result → Shared → Prop}
    (hcf : ∀ m, cellsFrom m scope.names cl = cl) (hpc : ∀ h, pushCells h scope.names = h) (hkind : scope.kind = .function)
    (hxk : ∀ C, (compEnvC scope cl C env).kindOf x = some .local)
    (hst : St 0 s₂.heap) (hfp : ∀ b ∈ fp, b < s₂.heap.objs.size) (h0w : ∀ b ∈ wr, h₀.get? b = none) (hk0 : ∀ b o, h₀.get? b = some o → s₂.heap.get? b = some o) (h0s : h₀.objs.size ≤ s₂.heap.objs.size)
    (hJ : J 0 [] own0) (hown : ∀ p ∈ own0, s₂.heap.get? p.1 = some p.2 ∧ p.1 ∉ fp) (h0o : ∀ i ys own, J i ys own → ∀ p ∈ own, h₀.get? p.1 = none) (hJl : ∀ i ys own, J i ys own → ys.length = i) (hsz : n ≤ sizeLine)
    (helt : ∀ C i v ys own (s₃ : Shared) E', h₀.objs.size ≤ C → i < n → P i v → J i ys own → (∃ m, s₃.heap.Ns C m ∧ m x = some v) → (∀ b o, h₀.get? b = some o → s₃.heap.get? b = some o) → (∀ p ∈ own, s₃.heap.get? p.1 = some p.2) → (∀ p ∈ own, p.1 ≠ C) →
      wpAny (model prog w) A (eval elt (compEnvC scope cl C env)) (EltTo J i ys own s₃) E' s₃)
    (hRR : ∀ D C h' tk m' ys own, s₂.heap.get? D = none → s₂.heap.get? C = none → D ≠ C → h'.Ns C m' → h'.PlainList D ys → J n ys.toList own → (∀ p ∈ own, h'.get? p.1 = some p.2 ∧ p.1 ≠ D ∧ p.1 ≠ C) → (∀ b o, h₀.get? b = some o → h'.get? b = some o) →
      RR (.ref D) C (.ok .next) { s₂ with heap := h', toks := tk }) :
    wpAny (model prog w) A (newList []) (fun acc s₃ => wpAny (model prog w) A (newFunctionEnv scope env.globals cl [] env.qual none .none (some env)) (fun cenv s₄ =>
      codeAny (model prog w) A (.compStart (.ListComp elt [⟨.Name x px, iter, [], 0⟩] scope pos) 0 (.ref I) acc { cenv with scope := relabel scope env }) (RR acc cenv.locals) s₄) E s₃) E s₂ := by
  refine wpAny_newObj_type (nfe_comp ?_)
  dsimp only
  rw [hcf, hpc]
  generalize hH2 : s₂.heap.push { cls := .type "list", dict := none, data := .seq ([] : List Value).toArray } = H2
  have hC : H2.objs.size = s₂.heap.objs.size + 1 := by rw [← hH2, Heap.size_push]
  generalize hH3 : H2.push { cls := .type "dict", data := .dict #[] } = H3
  have hD : H2.get? s₂.heap.objs.size = some { cls := .type "list", dict := none, data := .seq ([] : List Value).toArray } := by rw [← hH2]; exact Heap.get?_push_size _ rfl
  have k2 : ∀ b o, s₂.heap.get? b = some o → H3.get? b = some o := fun b o e => by
    rw [← hH3, ← hH2]; exact Heap.get?_push_of_some _ (Heap.get?_push_of_some _ e)
  have fresh : ∀ a, s₂.heap.objs.size ≤ a → s₂.heap.get? a = none := fun a ha => Heap.get?_none_of_le ha
  have fresh0 : ∀ a, s₂.heap.objs.size ≤ a → h₀.get? a = none := fun a ha => by
    cases e : h₀.get? a with
    | none => rfl
    | some o => have := hk0 a o e; rw [fresh a ha] at this; cases this
  have hNs : H3.Ns H2.objs.size (fun _ => none) := by rw [← hH3]; exact Heap.Ns.new H2 (.type "dict")
  have kH2 : ∀ b o, H2.get? b = some o → H3.get? b = some o := fun b o e => by rw [← hH3]; exact Heap.get?_push_of_some _ e
  have below : ∀ b, b < s₂.heap.objs.size → b ≠ s₂.heap.objs.size ∧ b ≠ H2.objs.size := fun b hb => ⟨Nat.ne_of_lt hb, by rw [hC]; exact Nat.ne_of_lt (Nat.lt_succ_of_lt hb)⟩
  have memp : ∀ b, b ∈ [H2.objs.size] → b = H2.objs.size := fun b hb => by simpa using hb
  have hst₁ : St 0 H3 := W.frame _ _ _ hst fun b _ o e => k2 b o e
  have loop : codeAny (model prog w) A (.compLoop (.ListComp elt [⟨.Name x px, iter, [], 0⟩] scope pos) 0 (.ref I) (.ref s₂.heap.objs.size) (compEnvC scope cl H2.objs.size env)) (RR (.ref s₂.heap.objs.size) H2.objs.size) { s₂ with heap := H3 } := by
    refine comp_loop_inv (pv := [H2.objs.size]) (h₀ := h₀) (own0 := own0) W hlive J (fun h => ∃ m, h.Ns H2.objs.size m) (fun v h => ∃ m, h.Ns H2.objs.size m ∧ m x = some v)
      (fun v h ⟨m, y, _⟩ => ⟨m, y⟩) ?r0 ?b0 ?rl ?asg ?Df ?Dp ?pf ?D0 ?p0 h0w hst₁ ?acc ⟨_, hNs⟩ (fun b o e => k2 b o (hk0 b o e)) hJ ?own ?elt ?fin h0o hJl hsz
    case r0 => exact fun h h' ⟨m, z⟩ k => ⟨m, z.at' fun o e => k _ (by simp) o e⟩
    case b0 => exact fun v h h' ⟨m, z, e0⟩ k => ⟨m, z.at' fun o e => k _ (by simp) o e, e0⟩
    case rl =>
      intro h y b hb
      rw [memp b hb]
      obtain ⟨m, o, _, _, e, _⟩ := y; exact ⟨o, e⟩
    case asg =>
      intro v s' Q E' y hQ
      obtain ⟨m, hm⟩ := y
      refine wpAny_assign_Name (wpAny_storeName_local (hxk _) hm (fun h' hn' hs' => ?_) (by
        have : (compEnvC scope cl H2.objs.size env).scope.kind = .function := hkind
        rw [this]; rfl))
      exact hQ h' _ ⟨_, hn', if_pos rfl⟩ fun b o hb e => hs'.extBut b o (fun q => hb (by rw [q]; exact List.mem_singleton.mpr rfl)) e
    case Df => exact fun h => Nat.lt_irrefl _ (hfp _ h)
    case Dp =>
      intro h
      have q := memp _ h
      rw [hC] at q; omega
    case pf =>
      intro b hb h
      exact (below b (hfp b h)).2 (memp b hb)
    case D0 => exact fresh0 _ (Nat.le_refl _)
    case p0 =>
      intro b hb
      rw [memp b hb, hC]; exact fresh0 _ (Nat.le_succ _)
    case acc => exact ⟨_, kH2 _ _ hD⟩
    case own =>
      intro p hp
      have := below p.1 (Heap.lt_size (hown p hp).1)
      exact ⟨k2 _ _ (hown p hp).1, this.1, fun h => this.2 (memp _ h), (hown p hp).2⟩
    case elt =>
      intro i v ys own s₃ E' hi hP hj hb hk ho hp
      exact helt _ i v ys own s₃ E' (by rw [hC]; omega) hi hP hj hb hk ho fun p hq q => hp p hq (by rw [q]; simp)
    case fin =>
      intro h' tk ys own hr hpl hj ho hk
      obtain ⟨m', hm'⟩ := hr
      exact hRR _ _ h' tk m' ys own (fresh _ (Nat.le_refl _)) (fresh _ (by rw [hC]; exact Nat.le_succ _)) (by rw [hC]; exact Nat.ne_of_lt (Nat.lt_succ_self _)) hm' hpl hj (fun p hp => ⟨(ho p hp).1, (ho p hp).2.1, fun q => (ho p hp).2.2 (by rw [q]; simp)⟩) hk
  exact codeAny_compStart_list loop (W.self 0 _ _ _ hst₁ loop)
end
end Mine
end
/-! CompM -/
section
open PySem.Calls
set_option maxHeartbeats 1000000
set_option maxRecDepth 100000
namespace Mine
section
variable {prog : Program} {w : World} {A : Around} {E : Value → Shared → Prop} {s : Shared} {env : Env}
structure LInv (prog : Program) (w : World) (A : Around) (env : Env) (scope : Scope) (cl : List (Str × Addr)) (x : Str) (elt : Expr) (n : Nat) (P : Nat → Value → Prop) (J : Nat → List Value → List (Addr × Obj) → Prop) (h₀ : Heap) (own0 : List (Addr × Obj))
    (Q : Value → Shared → Prop) (kl : List Addr) (xv : Value) (s₁ : Shared) : Prop where
  it : Iters2 prog w A kl xv s₁ n P
  keep0 : ∀ b o, h₀.get? b = some o → s₁.heap.get? b = some o
  size0 : h₀.objs.size ≤ s₁.heap.objs.size
  j0 : J 0 [] own0
  own0 : ∀ p ∈ own0, s₁.heap.get? p.1 = some p.2 ∧ p.1 ∉ kl
  off : ∀ i ys own, J i ys own → ∀ p ∈ own, h₀.get? p.1 = none
  len : ∀ i ys own, J i ys own → ys.length = i
  elt : ∀ C i v ys own (s₃ : Shared) E', h₀.objs.size ≤ C → i < n → P i v → J i ys own → (∃ m, s₃.heap.Ns C m ∧ m x = some v) → (∀ b o, h₀.get? b = some o → s₃.heap.get? b = some o) → (∀ p ∈ own, s₃.heap.get? p.1 = some p.2) → (∀ p ∈ own, p.1 ≠ C) →
      wpAny (model prog w) A (eval elt (compEnvC scope cl C env)) (EltTo J i ys own s₃) E' s₃
  fin : ∀ D h' tk ys own, s₁.heap.get? D = none → h'.PlainList D ys → J n ys.toList own → (∀ p ∈ own, h'.get? p.1 = some p.2 ∧ p.1 ≠ D) → (∀ b o, h₀.get? b = some o → h'.get? b = some o) →
      Q (.ref D) { s₁ with heap := h', toks := tk }
def LInvEx (prog : Program) (w : World) (A : Around) (env : Env) (scope : Scope) (cl : List (Str × Addr)) (x : Str) (elt : Expr) (n : Nat) (P : Nat → Value → Prop) (Q : Value → Shared → Prop) (xv : Value) (s₁ : Shared) : Prop :=
  ∃ J h₀ own0 kl, LInv prog w A env scope cl x elt n P J h₀ own0 Q kl xv s₁
theorem lc_inv {elt iter : Expr} {x : Str} {px : Pos} {scope : Scope} {cl : List (Str × Addr)} {pos : Pos} {Q : Value → Shared → Prop} (n : Nat) (P : Nat → Value → Prop)
    (hclos : closureFor scope env = pure cl) (hcf : ∀ m, cellsFrom m scope.names cl = cl) (hpc : ∀ h, pushCells h scope.names = h) (hkind : scope.kind = .function)
    (hnames : ∀ z ∈ scope.names, z.2 = .local → scope.names.lookup z.1 = some .local) (hxk : ∀ C, (compEnvC scope cl C env).kindOf x = some .local) (hsz : n ≤ sizeLine)
    (h : wpAny (model prog w) A (eval iter env) (fun xv s₁ => LInvEx prog w A env scope cl x elt n P Q xv s₁) E s)
    (hs : ∀ x, foldedSetIterable iter env x = pure x := by intro _; rfl) :
    wpAny (model prog w) A (eval (.ListComp elt [⟨.Name x px, iter, [], 0⟩] scope pos) env) Q E s := by
  rw [eval_ListComp]
  refine wpAny_comprehension_free (use := none) rfl hs hclos hkind hnames (wpAny_mono h (fun xv s₁ h₁ => ?_) fun _ _ e => e)
  obtain ⟨J, h₀, own0, kl, X⟩ := h₁
  refine X.it _ _ fun I fp wr St h₂ tk₂ W hlive hst hfp hwr hkl hk hle => ?_
  refine comp_block_loc (RR := fun acc C => compPost (model prog w) A E none Q acc C) (h₀ := h₀) (own0 := own0) W hlive J hcf hpc hkind hxk hst hfp ?h0w ?k0 ?s0 X.j0 ?own X.off X.len hsz X.elt ?fin
  case h0w =>
    intro b hb
    cases e : h₀.get? b with
    | none => rfl
    | some o => have := X.keep0 b o e; rw [hwr b hb] at this; cases this
  case k0 => exact fun b o e => hk b o (X.keep0 b o e)
  case s0 => exact Nat.le_trans X.size0 hle
  case own =>
    intro p hp
    obtain ⟨e, n1⟩ := X.own0 p hp
    refine ⟨hk _ _ e, fun hf => ?_⟩
    rcases hkl _ hf with q | q
    · rw [e] at q; cases q
    · exact n1 q
  case fin =>
    intro D C h' tk m' ys own hD hC hDC hnC hpl hj ho hk'
    refine ⟨m', hnC, fun h₄ hs₄ => ?_⟩
    refine X.fin D h₄ tk ys own ?_ (hpl.extBut hs₄.extBut hDC) hj ?_ ?_
    · cases e : s₁.heap.get? D with
      | none => rfl
      | some o => have : h₂.get? D = none := hD; rw [hk _ _ e] at this; cases this
    · intro p hp
      obtain ⟨e, n1, n2⟩ := ho p hp
      exact ⟨hs₄.extBut _ _ n2 e, n1⟩
    · intro b o e
      refine hs₄.extBut b o ?_ (hk' b o e)
      rintro rfl
      have : h₂.get? b = none := hC
      rw [hk _ _ (X.keep0 _ _ e)] at this; cases this
end
end Mine
end
/-! Pieces -/
section
open PySem.Calls
set_option maxRecDepth 100000
set_option maxHeartbeats 8000000
namespace Mine
/-- the i-th row of pieces, and all -/
def rowS (p0 p1 : Int) (i : Nat) : List Str := ((List.range ((8 * i + 21) / 6)).map fun (k : Nat) => pieceS (k : Int) (8 * (i : Int)) p0 p1) ++ [Str.ofString "*"]
def lastS (n : Nat) : List Str := List.replicate ((8 * n + 5) / 6) (Str.ofString "?") ++ List.replicate ((-(n : Int)) % 3).toNat (Str.ofString "=")
def piecesS (n : Nat) (p0 p1 : Int) : List (List Str) := (List.range n).map (rowS p0 p1) ++ [lastS n]
inductive RowsAre : List Value → List (Addr × Obj) → List (List Str) → Prop where
  | nil : RowsAre [] [] []
  | cons {r : Addr} {vs : List Value} {nn : Nat} {ss : List Str} {ys own rows} : StrsAre vs ss → RowsAre ys own rows → RowsAre (.ref r :: ys) ((r, W.listOf vs.toArray nn) :: own) (ss :: rows)
theorem RowsAre.snoc {r : Addr} {vs : List Value} {nn : Nat} {ss : List Str} (h : StrsAre vs ss) : ∀ {ys own rows}, RowsAre ys own rows → RowsAre (ys ++ [.ref r]) (own ++ [(r, W.listOf vs.toArray nn)]) (rows ++ [ss])
  | _, _, _, .nil => .cons h .nil
  | _, _, _, .cons a b => .cons a (b.snoc h)
theorem RowsAre.len : ∀ {ys own rows}, RowsAre ys own rows → ys.length = rows.length
  | _, _, _, .nil => rfl
  | _, _, _, .cons _ b => by rw [List.length_cons, List.length_cons, b.len]
theorem nm_cellN {M : Model} {A : Around} {E : Value → Shared → Prop} {s : Shared} {env : Env} {g : Heap} {C : Addr} {news : List (Addr × Obj)} {x : Str} {pos : Pos} {c : Addr} {v : Value} {o : Obj} {Q : Value → Shared → Prop} (N : News g C s.heap news) (hm : (c, o) ∈ news) (hd : o.data = .cell (some v)) (h : Q v s) (hk : env.scope.kind = .function) (hl : env.kindOf x = some .cell) (hc : env.cells.lookup x = some c)
    (hdb : (x == ("__debug__" : Str)) = false) : wpAny M A (eval (.Name x pos) env) Q E s := wpAny_Name (wpAny_loadName_cell hk hl hc ⟨o, (N _ hm).1, hd⟩ h) hdb
theorem rep_strs (x : Str) (t : Tok) : ∀ k, StrsAre (List.replicate k (Value.str x t)) (List.replicate k x)
  | 0 => .nil
  | k + 1 => .cons x t (rep_strs x t k)
theorem last_strs {n a b : Nat} {t u : Tok} (ha : a = (8 * n + 5) / 6) (hb : b = ((-(n : Int)) % 3).toNat) : StrsAre (List.replicate a (Value.str (Str.ofString "?") t) ++ List.replicate b (Value.str (Str.ofString "=") u)) (lastS n) := by
  subst ha; subst hb
  exact StrsAre.append' (rep_strs _ _ _) (rep_strs _ _ _)
theorem pieces_fin {g h' : Heap} {L R r : Addr} {o1 : Addr × Obj} {a b n : Nat} {t u : Tok} {rest own : List (Addr × Obj)} {ys : List Value} {rows : List (List Str)}
    (N : News g L h' ((R, ({ cls := .type "list", data := .seq (ys ++ [Value.ref r]).toArray } : Obj)) :: o1 :: (r, ({ cls := .type "list", data := .seq (List.replicate a (Value.str (Str.ofString "?") t) ++ List.replicate b (Value.str (Str.ofString "=") u)).toArray } : Obj)) :: rest))
    (hs : ∀ p ∈ own, p ∈ rest) (hj : RowsAre ys own rows) (ha : a = (8 * n + 5) / 6) (hb : b = ((-(n : Int)) % 3).toNat) :
    ∃ own', h'.PlainList R (ys ++ [Value.ref r]).toArray ∧ RowsAre (ys ++ [Value.ref r]) own' (rows ++ [lastS n]) ∧ (∀ p ∈ own', h'.get? p.1 = some p.2 ∧ g.get? p.1 = none) ∧ g.get? R = none := by
  refine ⟨own ++ [(r, W.listOf (List.replicate a (Value.str (Str.ofString "?") t) ++ List.replicate b (Value.str (Str.ofString "=") u)).toArray 0)], ⟨_, (N _ (.head _)).1⟩, hj.snoc (last_strs ha hb), fun p hp => ?_, (N _ (.head _)).2.2⟩
  rcases List.mem_append.mp hp with hp | hp
  · have := N p (.tail _ (.tail _ (.tail _ (hs p hp))))
    exact ⟨this.1, this.2.2⟩
  · rw [List.mem_singleton.mp hp]
    have := N _ (.tail _ (.tail _ (.head _)))
    exact ⟨this.1, this.2.2⟩
section
variable {prog : Program} {w : World} {A : Around} {E : Value → Shared → Prop} {s : Shared} {g : Heap} {L : Addr} {m : Str → Option Value} {news : List (Addr × Obj)}
theorem newList_kp {vs : List Value} {Q : Value → Shared → Prop} (F : Fr g L s.heap m) (N : News g L s.heap news) (hz : vs.length ≤ 100000)
    (h : ∀ l h', Fr g L h' m → News g L h' ((l, W.listOf vs.toArray 0) :: news) → (∀ p ∈ news, p.1 < l) → Kp s.heap h' → s.heap.get? l = none → Q (.ref l) { s with heap := h' }) : wpAny (model prog w) A (newList vs) Q E s :=
  wpAny_newList (h _ _ (F.push _) (News.push F N _) (fun p hp => Heap.lt_size (N p hp).1) ((Kp.refl _).push _) (Heap.get?_none_of_le (Nat.le_refl _))) (by have : sizeLine = 16777216 := sizeLine_eq; omega)
theorem add_kp {a b : Addr} {i1 i2 : Array Value} {n1 n2 : Nat} {Q : Value → Shared → Prop} (F : Fr g L s.heap m) (N : News g L s.heap news) (h1 : s.heap.get? a = some (W.listOf i1 n1)) (h2 : s.heap.get? b = some (W.listOf i2 n2)) (hz : i1.size + i2.size ≤ 100000)
    (h : ∀ l h', Fr g L h' m → News g L h' ((l, W.listOf (i1 ++ i2) 0) :: news) → (∀ p ∈ news, p.1 < l) → Kp s.heap h' → s.heap.get? l = none → Q (.ref l) { s with heap := h' }) : wpAny (model prog w) A (binaryOp .Add (.ref a) (.ref b)) Q E s :=
  PySem.P.add_list h1 h2 (h _ _ (F.push _) (News.push F N _) (fun p hp => Heap.lt_size (N p hp).1) ((Kp.refl _).push _) (Heap.get?_none_of_le (Nat.le_refl _))) (by have : sizeLine = 16777216 := sizeLine_eq; omega)
end
theorem mul_one {prog : Program} {w : World} {A : Around} {E : Value → Shared → Prop} {s : Shared} {g : Heap} {L : Addr} {m : Str → Option Value} {news : List (Addr × Obj)} {l : Addr} {v : Value} {k : Nat} {x : Int} {u : Tok} {Q : Value → Shared → Prop}
    (F : Fr g L s.heap m) (N : News g L s.heap news) (hm : (l, W.listOf #[v] k) ∈ news) (hlo : 0 ≤ x) (hhi : x < 10000)
    (h : ∀ D h', Fr g L h' m → News g L h' ((D, W.listOf (List.replicate x.toNat v).toArray 0) :: news) → (∀ p ∈ news, p.1 < D) → Q (.ref D) { s with heap := h' }) : wpAny (model prog w) A (binaryOp .Mult (.ref l) (.int x u)) Q E s :=
  mul_list F N (N _ hm).1 (by omega) (by omega) (by simp; omega) fun h' F' N' => by
    refine h _ h' F' ?_ (fun p hp => Heap.lt_size (N p hp).1)
    have e : (List.foldl (fun x1 x2 => x1 ++ x2) #[] (List.replicate (if (#[v] : Array Value).isEmpty = true then 0 else x.toNat) #[v])) = (List.replicate x.toNat v).toArray := by
      rw [if_neg (show ¬ ((#[v] : Array Value).isEmpty = true) from Bool.false_ne_true), listMul_foldl]
      simp [lm_rep_flat_one]
    rw [e] at N'
    exact N'
theorem pieces_spec {w : World} {mean : ExcName → Option Value} {mg mb : Str → Option Value} {A : Around} {s : Shared} {Q E : Value → Shared → Prop}
  (hh : A.handled = none) (hd : A.depth + 40 < recursionLimit) (hu : A.units + 300 < cLine) (X : (headOf.heap_39 w.params).In s.heap) (T : Top topProg LO mean mg mb s.heap)
  {a b : Addr} {us : List Value} {p0 p1 : Int} {t0 t1 : Tok} (hl : s.heap.IsList a us.toArray) (hn : us.length ≤ 20) (hp : s.heap.IsList b [Value.int p0 t0, Value.int p1 t1].toArray) (b0 : 0 ≤ p0 ∧ p0 < 256) (b1 : 0 ≤ p1 ∧ p1 < 256)
  (h : ∀ R h' tk' ys own, Kp s.heap h' → h'.PlainList R ys.toArray → RowsAre ys own (piecesS us.length p0 p1) → (∀ p ∈ own, h'.get? p.1 = some p.2 ∧ s.heap.get? p.1 = none) → s.heap.get? R = none → Q (.ref R) { s with heap := h', toks := tk' }) :
  wpAny (model PR w) A (call (.ref 158) [.ref a, .ref b]) Q E s := by
  k_with_none
  k_with "execs cons" => (k_here; first | k_gentoks | ((try k_fold); (with_reducible refine wpAny_execs_cons ?_); (try dsimp only); k_fold))
  k_with "exec Assign cons ListComp" => (refine Stop.go ?_)
  k_with "exec Assign" => ((with_reducible show wpAny _ _ (exec (Stmt.Assign _ (Expr.ListComp _ _ _ _) _) _) _ _ _); refine Stop.go ?_)
  k_with "call type:range" => (k_here; k_dflt (refine' range_call (by k_asm) (by k_asm) ?_; k_whole); intro _ _ _ _ _ _ _ _ _ _; (try k_sweep); (try k_unmd); (try dsimp only))
  k_with "call builtin:len" => (k_here; (with_reducible show wpAny _ _ (call (Value.builtin "len") [Value.ref _]) _ _ _); k_dflt (refine' len_list (by is_list) (by simp; omega) ?_; k_whole); (try k_sweep); (try k_unmd); (try dsimp only))
  k_with "eval Name" => (k_here; k_inBlock; k_dflt (first
    | (refine' nm_loc (by k_asm) (by assumption) ?_ rfl rfl (by decide); k_whole)
    | (refine' nm_cell (by k_asm) (by assumption) ?_ rfl rfl rfl (by decide); k_whole)))
  k_with "eval Name" => (k_here; k_inBlock; k_dflt (refine' nm_cellN (by k_asm) (by k_mem) (by assumption) ?_ rfl rfl rfl (by decide); k_whole))
  k_with "eval ListComp" => (refine Stop.go ?_)
  k_with "binaryOp FloorDiv int int" => (k_here; k_dflt (refine' div_line (by omega) (by omega) ?_; k_whole); intro _ _; (try k_sweep); (try k_unmd); (try dsimp only))
  k_with "call ref" => (k_here; (with_reducible show wpAny _ _ (call (Value.ref 153) _) _ _ _); k_dflt (refine' piece_spec rfl (by simp only [depth_deeper]; omega) (by dsimp only [Around.deeper]; omega) (by k_in) (Top.keeps (by k_asm) (Fr.keep (by k_asm))) (list_kp (by assumption) (Fr.keep (by k_asm))) (by exact ⟨by omega, by omega⟩) (by exact ⟨by omega, by omega⟩) _ _ _ _ (by exact ⟨by omega, by omega⟩) (by exact ⟨by omega, by omega⟩) ?_); intro _ _ _ kp'; (with_reducible rename Fr _ _ _ _ => kF); have F' := fr_kp kF kp'; (try k_sweep); (try k_unmd); (try dsimp only))
  k_with "binaryOp Mult ref int" => (k_here; k_dflt (refine' mul_one (by k_asm) (by k_asm) (by k_mem) (by omega) (by omega) ?_; k_whole); intro _ _ _ _ l1; (try k_lt l1); (try k_sweep); (try k_unmd); (try dsimp only))
  k_with "newList" => (k_here; k_dflt (refine' newList_kp (by k_asm) (by k_asm) (by simp; try omega) ?_; k_whole); intro _ _ _ _ l1 _ _; (try k_lt l1); (try k_sweep); (try k_unmd); (try dsimp only))
  k_with "binaryOp Mod int int" => (k_here; k_dflt (refine' mod_line (by omega) ?_; k_whole); intro _ _ _ _; (try k_sweep); (try k_unmd); (try dsimp only))
  obtain ⟨ha, dp, fr, gd, un⟩ := A
  dsimp only at hh
  subst hh
  dsimp only at hd hu
  (refine wpAny_call ?_; (refine' code_dirC (binds := [(Str.ofString "row", .ref a), (Str.ofString "pair", .ref b)]) ?k3 (Top.nolimit ?k5) ?k6 ?k7 ?k8 ?k9 ?kB ?kD ?_ ?c2 ?c3 ?c4; (case k3 => k_asm); (case k5 => k_asm); (case k6 => k_is); (case k7 => k_is); (case k8 => first | omega | (dsimp only; omega)); (case k9 => first | exact BindsTo.of_eq rfl | exact binds_K (by k_in) rfl (by k_is) rfl rfl rfl); (case kB => exact rfl); (case kD => decide +kernel); (case c2 => exact rfl); (case c3 => exact rfl); (case c4 => exact rfl)))
  intro L' h' tk' cells' F' N' Y'
  k_cells Y'
  show wpAny _ _ _ _ _ _
  k_fold
  k_steps
  show wpAny _ _ _ _ _ _
  have cp : h'.IsCell (L' + 1) (some (.ref b)) := cell_of N' (by k_mem) (by assumption)
  refine' as_inv (cl := _) us.length (fun i v => i < us.length ∧ ∃ t, v = .int (i : Int) t) ?hsw ?hclos ?hcf ?hpc ?hkind ?hnames ?hxk ?hsz ?hy ?hp ?hmain
  case hsw => with_unfolding_all rfl
  case hclos => with_unfolding_all rfl
  case hcf => intro m; rfl
  case hpc => intro h; rfl
  case hkind => rfl
  case hnames => decide
  case hxk => intro C; rfl
  case hsz => have : sizeLine = 16777216 := sizeLine_eq; omega
  case hy => rfl
  case hp => rfl
  case hmain =>
    k_steps
    rename_i r5 h5 t5 u5 v5 tk5 F5 N5 R5 kp5
    have cp5 := cp.keeps kp5
    have X5 := X.keeps F5.keep
    have T5 := T.keeps F5.keep
    have hus : us.toArray.size = us.length := by simp
    rw [hus] at R5
    refine ⟨fun i ys own => RowsAre ys own ((List.range i).map (rowS p0 p1)) ∧ ∀ p ∈ own, h5.get? p.1 = none, h5, [], _, [], ⟨iters2_range rfl R5 (by omega), F5.ns, fun o e => e, fun b o e => e, Nat.le_refl _, ⟨.nil, fun p hp => absurd hp List.not_mem_nil⟩, fun p hp => absurd hp List.not_mem_nil, fun i ys own hj => hj.2, fun i ys own hj => by rw [hj.1.len]; simp, ?_, ?_⟩⟩
    · intro C i v ys own s₃ E' hC hi hP hj hns hcell hk3 hown hoff
      obtain ⟨_, tv, rfl⟩ := hP
      obtain ⟨h6, g6, d6, tk6, os6⟩ := s₃
      obtain ⟨m3, hns⟩ := hns
      obtain ⟨oc, hoc, hocd⟩ := hcell
      dsimp only at hns hoc hk3 hown
      have F₃ : Fr h5 C h6 m3 := ⟨hns, hk3, hC⟩
      have N₃ : News h5 C h6 [(C + 1, oc)] := fun p hp => by
        rw [List.mem_singleton.mp hp]
        exact ⟨hoc, Nat.succ_ne_self C, Heap.get?_none_of_le (Nat.le_trans hC (Nat.le_succ C))⟩
      show wpAny _ _ _ _ _ _
      unfold compEnvK
      k_steps
      show wpAny _ _ _ _ _ _
      refine' lc_val (cl := _) ((8 * i + 21) / 6) (fun k v => k < (8 * i + 21) / 6 ∧ ∃ t, v = .int (k : Int) t) (fun _ => true) (fun v y => match v with | .int k _ => ∃ t, y = .str (pieceS k (8 * (i : Int)) p0 p1) t | _ => False) ?hclos ?hcell ?hkind ?hnames ?hx ?hsz ?hmain
      case hclos => with_unfolding_all rfl
      case hcell => decide
      case hkind => rfl
      case hnames => decide
      case hx => rfl
      case hsz => have : sizeLine = 16777216 := sizeLine_eq; omega
      case hmain =>
        k_steps
        rename_i r7 h7 t7 u7 v7 tk7 F7 N7 R7 kp7
        have hdiv : (8 * (i : Int) + 21) / 6 = (((8 * i + 21) / 6 : Nat) : Int) := by omega
        rw [hdiv] at R7
        have X7 := X.keeps (Kp.trans F5.keep F7.keep)
        have T7 := T.keeps (Kp.trans F5.keep F7.keep)
        have hp7 : h7.IsList b _ := list_kp hp (Kp.trans F5.keep F7.keep)
        have cp7 := cp5.keeps F7.keep
        have cc7 : h7.IsCell (C + 1) (some (.int (i : Int) tv)) := ⟨oc, (N7 _ (.head _)).1, hocd⟩
        refine ⟨iters_range rfl R7 (by omega), ?_, ?_, ?_⟩
        · intro C2 k v s₄ m₄ E2 hP2 F₄ hm4
          rw [List.forIn_nil]
          exact wpAny_pure ⟨rfl, Keeps.toks⟩
        · intro C2 k v s₄ m₄ E2 hP2 _ F₄ hm4
          obtain ⟨hk2, t, rfl⟩ := hP2
          obtain ⟨h8, g8, d8, tk8, os8⟩ := s₄
          have N₄ : News h7 C2 h8 [] := News.nil
          show wpAny _ _ _ _ _ _
          k_steps
          exact ⟨⟨_, rfl⟩, Keeps.mk (by assumption)⟩
        · intro D8 h8 tk8 ys8 vs8 hD8 hpl8 hlen8 hP8 hF8 kp8
          obtain ⟨n8, hpl8⟩ := hpl8
          have F8 := fr_kp F7 kp8
          have N8 := news_add F7 (news_kp N7 kp8) hD8 hpl8
          obtain ⟨l8⟩ := ys8
          obtain ⟨k8, e81, e82⟩ := range_paired (fun _ => true) (fun _ => true) (fun _ _ => rfl) hlen8 hP8
          rw [e81] at hF8
          have S8 := paired_map (g := fun x : Nat × Tok => pieceS (x.1 : Int) (8 * (i : Int)) p0 p1) (fun a y h => h) hF8
          have e83 : k8.map (fun x : Nat × Tok => pieceS (x.1 : Int) (8 * (i : Int)) p0 p1) = (List.range ((8 * i + 21) / 6)).map fun (k : Nat) => pieceS (k : Int) (8 * (i : Int)) p0 p1 := by
            have e84 : (List.range ((8 * i + 21) / 6)).filter (fun _ => true) = List.range ((8 * i + 21) / 6) := List.filter_eq_self.mpr fun _ _ => rfl
            rw [e84] at e82
            rw [← e82, List.map_map]; rfl
          rw [e83] at S8
          clear e81 e82 e83 hF8 hP8 F7 N7
          show wpAny _ _ _ _ _ _
          k_steps
          rename_i l9 h9 F9 N9 l19 kp9
          have hl8 : l8.length ≤ 100 := by
            have := S8.length
            rw [this, List.length_map, List.length_range]; omega
          refine add_kp F9 N9 ((N9 (D8, _) (.tail _ (.head _))).1) ((N9 (l9, _) (.head _)).1) (by simp; omega) ?_
          intro l10 h10 F10 N10 l110 kp10 hn10
          have kall : Kp h6 h10 := Kp.trans kp7 (Kp.trans kp8 (Kp.trans l19 kp10))
          have e10 : (({ toList := l8 } : Array Value) ++ #[Value.str (Str.ofString "*") tk8]) = (l8 ++ [Value.str (Str.ofString "*") tk8]).toArray := by simp
          rw [e10] at N10
          have hno : ∀ hh : Heap, Kp hh h9 → hh.get? l10 = none := fun hh k => by
            cases e : hh.get? l10 with
            | none => rfl
            | some o => have := k _ _ e; rw [hn10] at this; cases this
          refine (show EltTo _ _ _ _ _ _ _ from ⟨h10, _, own ++ [(l10, W.listOf (l8 ++ [Value.str (Str.ofString "*") tk8]).toArray 0)], rfl, fun b o _ e => kall b o e, ?_, ?_, ?_⟩)
          · intro p hp
            rcases List.mem_append.mp hp with hp | hp
            · exact ⟨kall _ _ (hown p hp), .inl ⟨p, hp, rfl⟩⟩
            · rw [List.mem_singleton.mp hp]
              exact ⟨(N10 _ (.head _)).1, .inr (hno _ (Kp.trans kp7 (Kp.trans kp8 l19)))⟩
          · rw [List.range_succ, List.map_append]
            exact hj.1.snoc (StrsAre.append' S8 (.cons _ _ .nil))
          · intro p hp
            rcases List.mem_append.mp hp with hp | hp
            · exact hj.2 p hp
            · rw [List.mem_singleton.mp hp]
              exact hno _ (Kp.trans F9.keep (Kp.refl _))
    · intro D h' tk ys own hD hpl hj ho hns hk
      obtain ⟨ys⟩ := ys
      obtain ⟨nD, hpl⟩ := hpl
      have F6 := fr_put F5 hns hk
      have N6 := news_add2 F5 N5 hns hk hD hpl
      have hyl : ys.length = us.length := by rw [hj.1.len]; simp
      have N7 : News s.heap L' h' ((D, W.listOf ys.toArray nD) :: (L' + 1, _) :: own) := fun p hp => by
        rcases List.mem_cons.mp hp with rfl | hp
        · exact N6 _ (.head _)
        · rcases List.mem_cons.mp hp with rfl | hp
          · exact N6 _ (.tail _ (.head _))
          · refine ⟨(ho p hp).1, fun q => ?_, ?_⟩
            · obtain ⟨oL, _, _, eL, _⟩ := F5.ns
              have := hj.2 p hp
              rw [q, eL] at this; cases this
            · cases e : s.heap.get? p.1 with
              | none => rfl
              | some o => have := F5.keep _ _ e; rw [hj.2 p hp] at this; cases this
      clear N6
      clear F5 N5
      show wpAny _ _ _ _ _ _
      k_steps
      (with_reducible rename Fr _ _ _ _ => FF)
      (with_reducible rename News _ _ _ _ => NF)
      (with_reducible rename _ = -_ % 3 ∧ _ => hmd)
      obtain ⟨own', a1, a2, a3, a4⟩ := pieces_fin (n := us.length) NF (fun p hp => by
        iterate 6 (refine .tail _ ?_)
        exact hp) hj.1 (by rw [hus]; omega) (by rw [hmd.1, hus])
      exact h _ _ _ _ own' FF.keep a1 a2 a3 a4
end Mine
end
/-! Cod -/
section
open PySem.Calls
set_option maxHeartbeats 1000000
set_option maxRecDepth 100000
namespace Mine
open Builtin Builtin._codecs
section
variable {prog : Program} {w : World} {A : Around} {E : Value → Shared → Prop} {s : Shared}
theorem wp_loop {β : Type} (P : Nat → β) {f : Nat → β → Sem (ForInStep β)} {Q : β → Shared → Prop} : ∀ (k i : Nat), (∀ j (R : ForInStep β → Shared → Prop), i ≤ j → j < i + k → R (.yield (P (j + 1))) s → wpAny (model prog w) A (f j (P j)) R E s) → Q (P (i + k)) s →
    wpAny (model prog w) A (forIn (List.range' i k 1) (P i) f) Q E s
  | 0, i, _, h => by
    rw [List.range'_zero, List.forIn_nil]; exact wpAny_pure h
  | k + 1, i, hs, h => by
    rw [List.range'_succ, List.forIn_cons]
    refine wpAny_bind (hs i _ (Nat.le_refl _) (by omega) ?_)
    exact wp_loop P k (i + 1) (fun j R h1 h2 hR => hs j R (by omega) (by omega) hR) (by rw [Nat.add_assoc, Nat.add_comm 1 k]; exact h)
theorem wp_run {id : String} {d : Decoder} {b : Array UInt8} {f : Nat → Nat} {Q : Array Nat × Nat → Shared → Prop} (hd : ∀ p, p < b.size → d.find true b p = .char (f p) (p + 1)) (hz : b.size ≤ 100000)
    (h : Q (((List.range b.size).map f).toArray, b.size) s) : wpAny (model prog w) A (runDecoder id d none true b 0 []) Q E s := by
  have hs : sizeLine = 16777216 := sizeLine_eq
  unfold runDecoder
  dsimp only
  rw [KPc.range_list]
  refine wpAny_bind (wp_loop (fun i => (i, ((List.range i).map f).toArray, ({ } : Faults))) b.size 0 ?_ ?_)
  · intro j R _ hj hR
    dsimp only
    rw [if_neg (by simp; omega), if_neg (by omega), hd j (by omega)]
    refine wpAny_pure ?_
    have e : ((List.range j).map f).toArray ++ [f j].toArray = ((List.range (j + 1)).map f).toArray := by
      rw [List.range_succ, List.map_append]; simp
    show R (.yield (j + 1, ((List.range j).map f).toArray ++ [f j].toArray, _)) s
    rw [e]
    exact hR
  · dsimp only
    exact wpAny_pure (by rw [Nat.zero_add]; exact h)
theorem lat_run {id : String} {b : Array UInt8} {Q : Array Nat × Nat → Shared → Prop} (hz : b.size ≤ 100000) (h : Q ((b.toList.map (·.toNat)).toArray, b.size) s) : wpAny (model prog w) A (runDecoder id latin1Decoder none true b 0 []) Q E s := by
  refine wp_run (f := fun p => (b.getD p 0).toNat) (fun p _ => rfl) hz ?_
  have e : (List.range b.size).map (fun p => (b.getD p 0).toNat) = b.toList.map (·.toNat) := by
    apply List.ext_getElem
    · simp
    · intro i h1 h2
      simp at h1
      simp [h1]
  rw [e]; exact h
theorem asc_run {id : String} {b : Array UInt8} {Q : Array Nat × Nat → Shared → Prop} (hz : b.size ≤ 100000) (hb : ∀ c ∈ b.toList, c.toNat < 128) (h : Q ((b.toList.map (·.toNat)).toArray, b.size) s) : wpAny (model prog w) A (runDecoder id asciiDecoder none true b 0 []) Q E s := by
  refine wp_run (f := fun p => (b.getD p 0).toNat) (fun p hp => ?_) hz ?_
  · have h1 : (b.getD p 0).toNat < 128 := hb _ (by rw [Array.getD_eq_getD_getElem?, Array.getElem?_eq_getElem hp]; exact Array.mem_toList_iff.mpr (Array.getElem_mem hp))
    show (if (b.getD p 0).toNat < 128 then _ else _) = _
    rw [if_pos h1]
  have e : (List.range b.size).map (fun p => (b.getD p 0).toNat) = b.toList.map (·.toNat) := by
    apply List.ext_getElem
    · simp
    · intro i h1 h2
      simp at h1
      simp [h1]
  rw [e]; exact h
end
def latN (ks : List Int) : Str := ⟨(ks.map Int.toNat).toArray⟩
theorem lat_ints {b : Array UInt8} {ks : List Int} (h : KBw.bInts b = ks) : (⟨(b.toList.map (·.toNat)).toArray⟩ : Str) = latN ks := by
  subst h
  unfold latN
  have e : (KBw.bInts b).map Int.toNat = b.toList.map (·.toNat) := by
    show ((b.toList.map fun c => ((c.toNat : Nat) : Int)).map Int.toNat) = _
    rw [List.map_map]
    exact List.map_congr_left fun c _ => rfl
  rw [e]
theorem ent_lat {c : UInt8} {cs : List UInt8} {t u : Tok} : «bytes.decode» ⟨[.bytes (c :: cs).toArray t, .str (Str.ofString "latin-1") u], []⟩ = (mkStr (Str.ofString "utf-8") >>= fun _ => mkStr (Str.ofString "latin-1") >>= fun e => mkStr (Str.ofString "bytes.decode") >>= fun d =>
    call (.builtin "_codecs.decode.text") [.bytes (c :: cs).toArray t, e, .none, d] >>= fun v => ret v) := by kernel_rfl
theorem ent_asc {c : UInt8} {cs : List UInt8} {t u : Tok} : «bytes.decode» ⟨[.bytes (c :: cs).toArray t, .str (Str.ofString "ascii") u], []⟩ = (mkStr (Str.ofString "utf-8") >>= fun _ => mkStr (Str.ofString "ascii") >>= fun e => mkStr (Str.ofString "bytes.decode") >>= fun d =>
    call (.builtin "_codecs.decode.text") [.bytes (c :: cs).toArray t, e, .none, d] >>= fun v => ret v) := by kernel_rfl
theorem road_lat {id : String} {b : Array UInt8} : _codecs.decodeRoad id b (Str.ofString "latin-1") none [] = (_codecs.runDecoder id _codecs.latin1Decoder none true b 0 [] >>= fun r => mkStr ⟨r.1⟩) := by kernel_rfl
theorem road_asc {id : String} {b : Array UInt8} : _codecs.decodeRoad id b (Str.ofString "ascii") none [] = (_codecs.runDecoder id _codecs.asciiDecoder none true b 0 [] >>= fun r => mkStr ⟨r.1⟩) := by kernel_rfl
theorem args_dec2 (a b : Value) : argsOk "bytes.decode" ⟨[a, b], []⟩ := by unfold argsOk; kernel_rfl
theorem text_lat {b : Array UInt8} {t t1 t2 : Tok} {d : Str} (hz : b.size ≤ 100000) : Meets («_codecs.decode.text» ⟨[.bytes b t, .str (Str.ofString "latin-1") t1, .none, .str d t2], []⟩) (fun _ R s => ∀ t' k, R (.ok (.ret (.str ⟨(b.toList.map (·.toNat)).toArray⟩ t'))) { s with toks := k }) := by
  refine .of_wp fun prog w A R s h => ?_
  show wpAny _ _ (Bytes.bytesLike _ (.bytes b t) >>= fun r => _) _ _ s
  refine wpAny_bind (wpAny_of_eq KBd.like_eq ?_)
  refine wpAny_bind (wpAny_of_eq KBd.held_eq ?_)
  show wpAny _ _ (_codecs.decodeRoad _ b (Str.ofString "latin-1") none [] >>= fun v => _) _ _ s
  rw [road_lat]
  refine wpAny_bind (wpAny_bind (lat_run hz ?_))
  exact wpAny_mkStr (wpAny_pure ⟨_, rfl, h _ _⟩) (by have : sizeLine = 16777216 := sizeLine_eq; show (b.toList.map (·.toNat)).toArray.size ≤ _; simp; omega)
theorem text_asc {b : Array UInt8} {t t1 t2 : Tok} {d : Str} (hz : b.size ≤ 100000) (hb : ∀ c ∈ b.toList, c.toNat < 128) : Meets («_codecs.decode.text» ⟨[.bytes b t, .str (Str.ofString "ascii") t1, .none, .str d t2], []⟩) (fun _ R s => ∀ t' k, R (.ok (.ret (.str ⟨(b.toList.map (·.toNat)).toArray⟩ t'))) { s with toks := k }) := by
  refine .of_wp fun prog w A R s h => ?_
  show wpAny _ _ (Bytes.bytesLike _ (.bytes b t) >>= fun r => _) _ _ s
  refine wpAny_bind (wpAny_of_eq KBd.like_eq ?_)
  refine wpAny_bind (wpAny_of_eq KBd.held_eq ?_)
  show wpAny _ _ (_codecs.decodeRoad _ b (Str.ofString "ascii") none [] >>= fun v => _) _ _ s
  rw [road_asc]
  refine wpAny_bind (wpAny_bind (asc_run hz hb ?_))
  exact wpAny_mkStr (wpAny_pure ⟨_, rfl, h _ _⟩) (by have : sizeLine = 16777216 := sizeLine_eq; show (b.toList.map (·.toNat)).toArray.size ≤ _; simp; omega)
theorem not_empty {b : Array UInt8} {ks : List Int} (h : KBw.bInts b = ks) (hp : 1 ≤ ks.length) : ∃ c cs, b = (c :: cs).toArray := by
  have hl := KBw.ints_length b
  rw [h] at hl
  obtain ⟨l⟩ := b
  cases l with
  | nil => rw [hl] at hp; exact absurd hp (by decide)
  | cons c cs => exact ⟨c, cs, rfl⟩
section
variable {prog : Program} {w : World} {A : Around} {E : Value → Shared → Prop} {s : Shared}
theorem dec_lat {b : Array UInt8} {t u : Tok} {ks : List Int} {Q : Value → Shared → Prop} (hk : KBw.bInts b = ks) (hp : 1 ≤ ks.length) (hz : ks.length ≤ 100000) (h : ∀ t' k, Q (.str (latN ks) t') { s with toks := k }) :
    wpAny (model prog w) A (call (.builtin "bytes.decode") [.bytes b t, .str (Str.ofString "latin-1") u]) Q E s := by
  have hs : b.size ≤ 100000 := by rw [← KBw.ints_length b, hk]; exact hz
  have e := lat_ints hk
  obtain ⟨c, cs, rfl⟩ := not_empty hk hp
  refine call_meets (S := fun _ R s => ∀ t' k, R (.ok (.ret (.str (latN ks) t'))) { s with toks := k }) FB.slot_bytes_decode (typeIs_bytes _ _ _) FB.entry_bytes_decode (args_dec2 _ _) ?_ h
  refine .of_wp fun prog w A R s h => ?_
  rw [ent_lat]
  refine wpAny_bind (wpAny_mkStr ?_ (by decide))
  refine wpAny_bind (wpAny_mkStr ?_ (by decide))
  refine wpAny_bind (wpAny_mkStr ?_ (by decide))
  exact wpAny_bind (call_function_meets KBd.kind_text KBd.plain_text KBd.entry_text (KBd.args_text _ _ _ _) (text_lat hs) (fun t' k => wpAny_pure ⟨_, rfl, by rw [e]; exact h _ _⟩))
theorem dec_asc {b : Array UInt8} {t u : Tok} {ks : List Int} {Q : Value → Shared → Prop} (hk : KBw.bInts b = ks) (hp : 1 ≤ ks.length) (hz : ks.length ≤ 100000) (hb : ∀ k ∈ ks, k < 128) (h : ∀ t' k, Q (.str (latN ks) t') { s with toks := k }) :
    wpAny (model prog w) A (call (.builtin "bytes.decode") [.bytes b t, .str (Str.ofString "ascii") u]) Q E s := by
  have hs : b.size ≤ 100000 := by rw [← KBw.ints_length b, hk]; exact hz
  have e := lat_ints hk
  have hb2 : ∀ c ∈ b.toList, c.toNat < 128 := fun c hc => by
    have := hb (c.toNat : Int) (by rw [← hk]; exact List.mem_map_of_mem (f := fun c : UInt8 => ((c.toNat : Nat) : Int)) hc)
    omega
  obtain ⟨c, cs, rfl⟩ := not_empty hk hp
  refine call_meets (S := fun _ R s => ∀ t' k, R (.ok (.ret (.str (latN ks) t'))) { s with toks := k }) FB.slot_bytes_decode (typeIs_bytes _ _ _) FB.entry_bytes_decode (args_dec2 _ _) ?_ h
  refine .of_wp fun prog w A R s h => ?_
  rw [ent_asc]
  refine wpAny_bind (wpAny_mkStr ?_ (by decide))
  refine wpAny_bind (wpAny_mkStr ?_ (by decide))
  refine wpAny_bind (wpAny_mkStr ?_ (by decide))
  exact wpAny_bind (call_function_meets KBd.kind_text KBd.plain_text KBd.entry_text (KBd.args_text _ _ _ _) (text_asc hs hb2) (fun t' k => wpAny_pure ⟨_, rfl, by rw [e]; exact h _ _⟩))
end
end Mine
end
/-! Fmt -/
section
open PySem.Calls
set_option maxRecDepth 100000
set_option maxHeartbeats 8000000
namespace Mine
theorem fmt_line {prog : Program} {w : World} {A : Around} {E : Value → Shared → Prop} {s : Shared} {g : Heap} {L D : Addr} {news : List (Addr × Obj)} {n k : Int} {a b t : Tok} {c : Nat} {Q : Value → Shared → Prop} (N : News g L s.heap news) (hm : (D, ({ cls := .type "tuple", data := .seq #[.int n a, .int k b] c } : Obj)) ∈ news)
    (n0 : 0 ≤ n) (n1 : n ≤ 255) (k0 : 0 ≤ k) (k1 : k ≤ 255) (h : ∀ t' k', Q (.str (Str.ofString "expected " ++ Str.ofString (toString n) ++ Str.ofString " bytes in a string1, but only " ++ Str.ofString (toString k) ++ Str.ofString " remain") t') { s with toks := k' }) :
    wpAny (model prog w) A (binaryOp .Mod (.str (Str.ofString "expected %d bytes in a string1, but only %d remain") t) (.ref D)) Q E s := by
  refine' KPt.mod_tuple N hm ?e ?m ?_
  case e => kpt_eq
  case m => kpt_run
  intro t' k'
  exact h t' k'
end Mine
end
/-! Rd0 -/
section
open PySem.Calls
set_option maxHeartbeats 1000000
set_option maxRecDepth 100000
namespace Mine
section
variable {prog : Program} {w : World} {A₀ A : Around} {s : Shared} {base h₀ : Heap} {L : Addr} {m : Str → Option Value} {env : Env} {news : List (Addr × Obj)} {K : Frag} {p : Program} {loose : List Str} {mean : ExcName → Option Value} {mg mb : Str → Option Value}
    {R : Result → Shared → Prop} {name qual : Str} {params : Arguments} {body : List Stmt} {scope : Scope} {dV kV doc pm cdv ct oc : Value} {an od : Option Addr} {osl : Array (Option Value)} {f : Addr} {args : Args} {binds : List (Str × Value)}
theorem fs_one (hf : env.frame = some L) {b : Addr} (hb : b ∈ [env].filterMap (·.frame)) : b = L := by
  obtain ⟨e, he, h⟩ := List.mem_filterMap.mp hb
  rw [List.mem_singleton.mp he, hf] at h
  exact (Option.some.inj h).symm
/-- a def that catches, called by the outermost frame, whatever its cells -/
theorem enter_catch (B : Below A₀ base [] h₀) (F : Fr h₀ L s.heap m) (X₀ : K.In h₀) (N : News h₀ L s.heap news) (T : Top p loose mean mg mb h₀) (hA : A.frames = some [env]) (hf : env.frame = some L) (hke : env.scope.kind = .function)
    (ho : K.lookup f = some ⟨oc, od, .func (fnOf name qual params body scope dV kV doc pm an cdv ct), osl⟩) (hcd : codeIn K cdv qual = true) (hroom : A.depth < recursionLimit)
    (hbind : BindsTo s (fnOf name qual params body scope dV kV doc pm an cdv ct) args binds) (hloc : ∀ y ∈ binds, scope.names.lookup y.1 = some .local)
    (h : ∀ g L' h₁, Fr h₀ L g m → Fr g L' h₁ (fun y => binds.reverse.lookup y) → News g L' h₁ news → Below A base [env] g → K.In g → Top p loose mean mg mb g → KtsDicts ([env].filterMap (·.frame)) g → h₀.StaysIn g →
      wpAny (model prog w) (A.deeper (envOf qual scope L' f cdv)) (execs body (envOf qual scope L' f cdv))
        (fun fl s' => LeaveS0 ([env].filterMap (·.frame)) h₀ L m g R (match fl with | .ret v => v | _ => .none) s')
        (fun e s' => wpAny (model prog w) (A.deeper (envOf qual scope L' f cdv)) (leaving (envOf qual scope L' f cdv) e) (fun _ s'' => R (.error e) s'') (fun e' s'' => R (.error e') s'') s')
        { s with heap := h₁, toks := s.toks + binds.length })
    (hco : scope.isCoroutine = false) (hgen : scope.isGenerator = false) (hk : scope.kind = .function)
    (hcell : ∀ x ∈ scope.names, x.2 ≠ .cell) : codeAny (model prog w) A (.call (.ref f) args) R s := by
  obtain ⟨FG, BG, st, _⟩ := groundX (R := R) B F N hA hf hke
  have X := X₀.keeps F.keep
  refine codeAny_call_def (fd := fnOf name qual params body scope dV kV doc pm an cdv ct) (body := body) (binds := binds) hroom (X _ _ ho) rfl (T.nolimit.keeps F.keep) (codeRec_of X hcd) rfl hbind hcell hloc (fun h₁ hns hk₁ => ?_) hco hgen hk
  obtain ⟨oL, es, ep, hLg, hLd, hrest⟩ := FG.ns
  refine wpAny_mono (h _ s.heap.objs.size h₁ FG ⟨hns, fun b o e => hk₁ b o (of_hideAll _ e), Nat.le_of_eq (hideAll_size _ _)⟩
    (fun p hp => ⟨hk₁ _ _ (N p hp).1, Nat.ne_of_lt (Heap.lt_size (N p hp).1), hideAll_none _ (List.mem_map_of_mem hp)⟩) BG (X₀.keeps st) (T.keeps st) (fun b hb => by
      rw [fs_one hf hb]; exact ⟨oL, es, ep, hLg, hLd⟩) st) (fun fl s' hl => ?_) fun _ _ y => y
  obtain ⟨g', L', m', news', T', F', N', k⟩ := hl
  have nL₀ : h₀.get? L = none := kts_self F
  obtain ⟨sl, hs⟩ := T'.up hLg
  refine k ⟨⟨_, es, ep, F'.keep _ _ hs, hLd, hrest⟩, fun b o e => F'.keep b o (T'.other b o (st b o e) fun q => by
    rw [fs_one hf q, nL₀] at e; cases e), F.above⟩ fun p hp => ⟨(N' p hp).1, fun q => ?_, ?_⟩
  · have := (N' p hp).2.2; rw [q, hs] at this; cases this
  · cases q : h₀.get? p.1 with
    | none => rfl
    | some o =>
      obtain ⟨sl', hs'⟩ := T'.up (st _ _ q)
      have := (N' p hp).2.2
      rw [hs'] at this
      cases this
end
section
variable {prog : Program} {w : World} {A : Around} {s : Shared} {R : Result → Shared → Prop} {name qual : Str} {params : Arguments} {body : List Stmt} {scope : Scope} {cl : List (Str × Addr)} {dV kV doc pm cdv ct : Value} {an : Option Addr} {fo : Obj} {f : Addr} {args : Args} {binds : List (Str × Value)}
/-- a closure that the heap holds, called -/
theorem code_dirX (hlim : s.heap.NoLimit) (ho : s.heap.get? f = some fo) (hd : fo.data = .func (fnX name qual params body scope cl dV kV doc pm an cdv ct)) (hcd : s.heap.CodeRec cdv qual) (hroom : A.depth < recursionLimit)
    (hbind : BindsTo s (fnX name qual params body scope cl dV kV doc pm an cdv ct) args binds) (hloc : ∀ y ∈ binds, scope.names.lookup y.1 = some .local)
    (h : ∀ L' h₁, Fr s.heap L' h₁ (fun y => binds.reverse.lookup y) →
      wpAny (model prog w) (A.deeper (envX qual scope L' f cdv cl)) (execs body (envX qual scope L' f cdv cl))
        (fun fl s' => R (.ok (.ret (match fl with | .ret v => v | _ => .none))) s') (fun _ _ => False) { s with heap := h₁, toks := s.toks + binds.length })
    (hcell : ∀ x ∈ scope.names, x.2 ≠ .cell) (hco : scope.isCoroutine = false) (hgen : scope.isGenerator = false) (hk : scope.kind = .function) : codeAny (model prog w) A (.call (.ref f) args) R s :=
  codeAny_call_def (fd := fnX name qual params body scope cl dV kV doc pm an cdv ct) (body := body) (binds := binds) hroom ho hd hlim hcd rfl hbind hcell hloc
    (fun h₁ hns hk₁ => wpAny_mono (h s.heap.objs.size h₁ ⟨hns, hk₁, Nat.le_refl _⟩) (fun _ _ z => z) fun _ _ z => z.elim) hco hgen hk
theorem hid_stays {h : Heap} {l : List Addr} {g : Heap} (k : g.StaysIn h) (hn : ∀ a ∈ l, g.get? a = none) : g.StaysIn (hideAll h l) := fun b o e => hideAll_get _ (k b o e) fun hm => by rw [hn b hm] at e; cases e
theorem hidAll_fr {h₁ h : Heap} {L : Addr} {m : Str → Option Value} {l : List Addr} (F : Fr h₁ L h m) : Fr (hideAll h₁ l) L h m := ⟨F.ns, fun b o e => F.keep b o (of_hideAll _ e), Nat.le_trans (Nat.le_of_eq (hideAll_size _ _)) F.above⟩
theorem hidAll_news {h₁ h : Heap} {L : Addr} {m : Str → Option Value} {l : List (Addr × Obj)} (F : Fr h₁ L h m) (e : ∀ p ∈ l, h₁.get? p.1 = some p.2) : News (hideAll h₁ (l.map (·.1))) L h l := fun p hp =>
  ⟨F.keep _ _ (e p hp), fun q => Nat.lt_irrefl L (Nat.lt_of_lt_of_le (q ▸ Heap.lt_size (e p hp)) F.above), hideAll_none _ (List.mem_map_of_mem hp)⟩
end
theorem hid3 {h₁ h : Heap} {L a b c : Addr} {o1 o2 o3 : Obj} {m : Str → Option Value} (F : Fr h₁ L h m) (e1 : h₁.get? a = some o1) (e2 : h₁.get? b = some o2) (e3 : h₁.get? c = some o3) :
    Fr (hideAll h₁ [a, b, c]) L h m ∧ News (hideAll h₁ [a, b, c]) L h [(a, o1), (b, o2), (c, o3)] :=
  ⟨hidAll_fr F, hidAll_news (l := [(a, o1), (b, o2), (c, o3)]) F (by
    intro p hp
    simp only [List.mem_cons, List.not_mem_nil, or_false] at hp
    rcases hp with rfl | rfl | rfl
    · exact e1
    · exact e2
    · exact e3)⟩
theorem hid3_keep {h₁ h : Heap} {L a b c : Addr} {o1 o3 : Obj} {m : Str → Option Value} {news : List (Addr × Obj)} (F : Fr (hideAll h₁ [a, b, c]) L h m) (N : News (hideAll h₁ [a, b, c]) L h news) (e1 : h₁.get? a = some o1) (e3 : h₁.get? c = some o3) (m1 : (a, o1) ∈ news) (m3 : (c, o3) ∈ news) :
    ∀ q o, q ≠ b → h₁.get? q = some o → h.get? q = some o := fun q o hq e => by
  by_cases ha : q = a
  · rw [ha] at e ⊢; rw [e1] at e; cases e; exact (N _ m1).1
  by_cases hc : q = c
  · rw [hc] at e ⊢; rw [e3] at e; cases e; exact (N _ m3).1
  exact F.keep _ _ (hideAll_get _ e (by simp [ha, hc, hq]))
theorem clip_pos {n : Nat} {k : Int} (h : 0 ≤ k) : clipAt n k = min k.toNat n := by
  obtain ⟨k, rfl⟩ := Int.eq_ofNat_of_zero_le h
  exact clipAt_nat n k
theorem pick_take {b : Array UInt8} {ks : List Int} {k : Int} (hb : KBw.bInts b = ks) (h : 0 ≤ k) : KBw.bInts (KBy.picked b none (some k)) = ks.take k.toNat := by
  rw [KBc.ints_picked hb]
  simp only [Option.elim, List.drop_zero, Nat.sub_zero, clip_pos h]
  rw [List.take_eq_take_iff]; omega
theorem pick_drop {b : Array UInt8} {ks : List Int} {k : Int} (hb : KBw.bInts b = ks) (h : 0 ≤ k) : KBw.bInts (KBy.picked b (some k) none) = ks.drop k.toNat := by
  rw [KBc.ints_picked hb]
  simp only [Option.elim, clip_pos h]
  rw [List.take_of_length_le (by simp)]
  by_cases hk : k.toNat ≤ ks.length
  · rw [Nat.min_eq_left hk]
  · rw [Nat.min_eq_right (by omega), List.drop_length, List.drop_eq_nil_of_le (by omega)]
/-- the stream's dict -/
abbrev sDict (w : World) (b : Array UInt8) (f : Addr) (t t1 t2 : Tok) : Obj :=
  dictOf [⟨PyData.keyHash w.params (Str.ofString "value"), .str (Str.ofString "value") t1, .bytes b t⟩, ⟨PyData.keyHash w.params (Str.ofString "read"), .str (Str.ofString "read") t2, .ref f⟩] 2
/-- what a call of the stream's read does -/
def RdSpec (P : Program) (w : World) (K : Frag) (lo : List Str) (fo oc : Obj) (f x d cl c : Addr) : Prop :=
  ∀ (mean : ExcName → Option Value) (mg mb : Str → Option Value) (A : Around) (s : Shared) (Q E : Value → Shared → Prop) (b : Array UInt8) (ks : List Int) (t tk t1 t2 : Tok) (k : Int) (oC : Obj), A.handled = none → A.depth + 8 < recursionLimit →
    K.In (hideAll s.heap [x, d, cl]) → Top topProg lo mean mg mb (hideAll s.heap [x, d, cl]) →
    s.heap.get? f = some fo → s.heap.get? c = some oc → s.heap.get? x = some (instObj 76 d) → s.heap.get? d = some (sDict w b f t t1 t2) → s.heap.get? cl = some oC → oC.data = .cell (some (.ref x)) →
    @LT.lt Nat _ d x → @LT.lt Nat _ cl d → KBw.bInts b = ks → ks.length ≤ 100000 → 0 ≤ k → k ≤ 1000 →
    (∀ h' b1 b2 t' u' tk', KBw.bInts b1 = ks.take k.toNat → KBw.bInts b2 = ks.drop k.toNat → (∀ a o, a ≠ d → s.heap.get? a = some o → h'.get? a = some o) → h'.get? d = some (sDict w b2 f u' t1 t2) → Q (.bytes b1 t') { s with heap := h', toks := tk' }) →
    wpAny (model P w) A (call (.ref f) [.int k tk]) Q E s
def rdQual : Str := (Str.ofString "_law_stream" ++ Str.ofString ".<locals>.") ++ Str.ofString "read"
abbrev rdPos : Pos := ⟨148, 4, 150, 20⟩
/-- the table of _law_stream's code: with read's code or without -/
def RTab (ps : Array Value) (own : List (Addr × Obj)) : Prop :=
  TriplesOk ps.toList ∧ (codeAmong rdPos ps.toList = none ∨ ∃ c oc vs t, codeAmong rdPos ps.toList = some (.ref c) ∧ (c, oc) ∈ own ∧ oc.data = .fields vs ∧ vs[1]? = some (.str rdQual t))
def FnObj (o : Obj) : Prop := ∃ oc od fd sl, o = ⟨oc, od, .func fd, sl⟩
/-- what is known of the table and of read's code once the stream stands -/
structure RFact (ps ps' : Array Value) (own : List (Addr × Obj)) (TL c : Addr) (oc : Obj) : Prop where
  tri : TriplesOk ps'.toList
  hit : codeAmong rdPos ps'.toList = some (.ref c)
  rec_ : ∃ vs t, oc.data = .fields vs ∧ vs[1]? = some (.str rdQual t)
  lo : AllLt TL own
  lt : @LT.lt Nat _ 136 TL
  lc : @LT.lt Nat _ c TL
  miss : codeAmong rdPos ps.toList = none → AllLt c own ∧ @LT.lt Nat _ 136 c
/-- the stream stands, and an empty list -/
def StrmAt (P : Program) (w : World) (K : Frag) (lo : List Str) (g : Heap) (L' : Addr) (M : Addr → Addr → Str → Option Value) (b : Array UInt8) (ps : Array Value) (own : List (Addr × Obj)) (s s₂ : Shared) : Prop :=
  ∃ TL f x d cl oC fo oc c rest h₂ tk₂ t1 t2 ps' t', s₂ = { s with heap := h₂, toks := tk₂ } ∧ Fr g L' h₂ (M x TL) ∧
    News g L' h₂ ((TL, W.listOf #[] 0) :: (f, fo) :: (x, instObj 76 d) :: (d, sDict w b f t' t1 t2) :: rest) ∧
    RdSpec P w K lo fo oc f x d cl c ∧ (c, oc) ∈ rest ∧ (cl, oC) ∈ rest ∧ oC.data = .cell (some (.ref x)) ∧ (@LT.lt Nat _ d x ∧ @LT.lt Nat _ x f ∧ @LT.lt Nat _ f TL ∧ @LT.lt Nat _ cl d) ∧ OwnOff rest [TL, d] ∧ (136, tabObj ps') ∈ rest ∧ (∀ p ∈ own, p ∈ rest) ∧ RFact ps ps' own TL c oc ∧ FnObj fo
theorem own_off {TL d : Addr} {own : List (Addr × Obj)} (h1 : AllLt TL own) (h2 : AllLt d own) : ∀ p ∈ own, ∀ b ∈ [TL, d], p.1 ≠ b := fun p hp b hb => by
  rcases List.mem_cons.mp hb with rfl | hb
  · exact Nat.ne_of_lt (ktn_ltOf h1 p hp)
  · rw [List.mem_singleton.mp hb]; exact Nat.ne_of_lt (ktn_ltOf h2 p hp)
section
variable {P : Program} {w : World} {K : Frag} {lo : List Str} {g h' : Heap} {L' TL f x d cl c D : Addr} {m : Str → Option Value} {M : Addr → Addr → Str → Option Value} {b : Array UInt8} {own : List (Addr × Obj)} {s : Shared} {tup fo oc oC : Obj} {t t1 t2 : Tok} {ps : Array Value} {tk : Nat}
theorem strm_miss (F : Fr g L' h' m) (N : News g L' h' ((D, tup) :: (TL, W.listOf #[] 0) :: (f, fo) :: (c, oc) :: (x, instObj 76 d) :: (d, sDict w b f t t1 t2) :: (cl, oC) :: (136, tabObj (ps ++ #[rawInt rdPos.line, rawInt rdPos.col, .ref c])) :: own))
    (hm : m = M x TL) (hR : RdSpec P w K lo fo oc f x d cl c) (hC : oC.data = .cell (some (.ref x))) (l1 : @LT.lt Nat _ d x) (l2 : @LT.lt Nat _ x c) (l3 : @LT.lt Nat _ c f) (l4 : @LT.lt Nat _ f TL) (l5 : @LT.lt Nat _ cl d) (l6 : @LT.lt Nat _ 136 d) (a1 : AllLt TL own) (a2 : AllLt d own) (a3 : AllLt c own)
    (ht : TriplesOk ps.toList) (hn : codeAmong rdPos ps.toList = none) {vs : Array Value} {tv : Tok} (hv : oc.data = .fields vs) (hv1 : vs[1]? = some (.str rdQual tv)) (hf : FnObj fo) :
    StrmAt P w K lo g L' M b ps own s { s with heap := h', toks := tk } := by
  subst hm
  have e : (ps ++ #[rawInt rdPos.line, rawInt rdPos.col, .ref c]).toList = ps.toList ++ [rawInt rdPos.line, rawInt rdPos.col, .ref c] := by simp
  refine ⟨TL, f, x, d, cl, oC, fo, oc, c, (c, oc) :: (cl, oC) :: (136, tabObj (ps ++ #[rawInt rdPos.line, rawInt rdPos.col, .ref c])) :: own, h', tk, t1, t2, ps ++ #[rawInt rdPos.line, rawInt rdPos.col, .ref c], t, rfl, F, ?_, hR, .head _, .tail _ (.head _), hC, ⟨l1, Nat.lt_trans l2 l3, l4, l5⟩, ?_, .tail _ (.tail _ (.head _)), fun p hp => .tail _ (.tail _ (.tail _ hp)), ?_, hf⟩
  · intro p hp
    refine N p ?_
    simp only [List.mem_cons] at hp ⊢
    rcases hp with e | e | e | e | e | e | e | e
    · exact .inr (.inl e)
    · exact .inr (.inr (.inl e))
    · exact .inr (.inr (.inr (.inr (.inl e))))
    · exact .inr (.inr (.inr (.inr (.inr (.inl e)))))
    · exact .inr (.inr (.inr (.inl e)))
    · exact .inr (.inr (.inr (.inr (.inr (.inr (.inl e))))))
    · exact .inr (.inr (.inr (.inr (.inr (.inr (.inr (.inl e)))))))
    · exact .inr (.inr (.inr (.inr (.inr (.inr (.inr (.inr e)))))))
  · have h2 := own_off a1 a2
    have n1 : ∀ q : Addr, q < TL → q ≠ d → ∀ b ∈ [TL, d], q ≠ b := fun q hq hd b hb => by
      rcases List.mem_cons.mp hb with rfl | hb
      · exact Nat.ne_of_lt hq
      · rw [List.mem_singleton.mp hb]; exact hd
    intro p hp
    rcases List.mem_cons.mp hp with rfl | hp
    · exact n1 _ (by refine ltN ?_; omega) (by refine neN ?_; omega)
    rcases List.mem_cons.mp hp with rfl | hp
    · exact n1 _ (by refine ltN ?_; omega) (by refine neN ?_; omega)
    rcases List.mem_cons.mp hp with rfl | hp
    · exact n1 _ (by refine ltN ?_; omega) (by refine neN ?_; omega)
    exact h2 p hp
  · exact ⟨by rw [e]; exact TriplesOk_snoc _ _ _ _ ht, by rw [e]; exact codeAmong_snoc _ ht hn, ⟨vs, tv, hv, hv1⟩, a1, by refine ltN ?_; omega, by refine ltN ?_; omega, fun _ => ⟨a3, by refine ltN ?_; omega⟩⟩
theorem strm_hit (F : Fr g L' h' m) (N : News g L' h' ((D, tup) :: (TL, W.listOf #[] 0) :: (f, fo) :: (x, instObj 76 d) :: (d, sDict w b f t t1 t2) :: (cl, oC) :: (136, tabObj ps) :: own))
    (hm : m = M x TL) (hR : RdSpec P w K lo fo oc f x d cl c) (hC : oC.data = .cell (some (.ref x))) (l1 : @LT.lt Nat _ d x) (l3 : @LT.lt Nat _ x f) (l4 : @LT.lt Nat _ f TL) (l5 : @LT.lt Nat _ cl d) (l6 : @LT.lt Nat _ 136 d) (a1 : AllLt TL own) (a2 : AllLt d own)
    (ht : TriplesOk ps.toList) (hn : codeAmong rdPos ps.toList = some (.ref c)) (hc : (c, oc) ∈ own) {vs : Array Value} {tv : Tok} (hv : oc.data = .fields vs) (hv1 : vs[1]? = some (.str rdQual tv)) (hf : FnObj fo) :
    StrmAt P w K lo g L' M b ps own s { s with heap := h', toks := tk } := by
  subst hm
  refine ⟨TL, f, x, d, cl, oC, fo, oc, c, (cl, oC) :: (136, tabObj ps) :: own, h', tk, t1, t2, _, t, rfl, F, ?_, hR, .tail _ (.tail _ hc), .head _, hC, ⟨l1, l3, l4, l5⟩, ?_, .tail _ (.head _), fun p hp => .tail _ (.tail _ hp), ?_, hf⟩
  · intro p hp
    exact N p (.tail _ hp)
  · have h2 := own_off a1 a2
    have n1 : ∀ q : Addr, q < TL → q ≠ d → ∀ b ∈ [TL, d], q ≠ b := fun q hq hd b hb => by
      rcases List.mem_cons.mp hb with rfl | hb
      · exact Nat.ne_of_lt hq
      · rw [List.mem_singleton.mp hb]; exact hd
    intro p hp
    rcases List.mem_cons.mp hp with rfl | hp
    · exact n1 _ (by refine ltN ?_; omega) (by refine neN ?_; omega)
    rcases List.mem_cons.mp hp with rfl | hp
    · exact n1 _ (by refine ltN ?_; omega) (by refine neN ?_; omega)
    exact h2 p hp
  · exact ⟨ht, hn, ⟨vs, tv, hv, hv1⟩, a1, by refine ltN ?_; omega, ktn_ltOf a1 _ hc, fun q => by rw [hn] at q; cases q⟩
end
def CutAt (ks : List Int) (k : Int) (k1 k2 : List Int) : Prop := ks.take k.toNat = k1 ∧ ks.drop k.toNat = k2
theorem CutAt.app (k1 k2 : List Int) : CutAt (k1 ++ k2) (k1.length : Int) k1 k2 := ⟨by simp, by simp⟩
theorem CutAt.one (n : Int) (l : List Int) : CutAt (n :: l) 1 [n] l := ⟨rfl, rfl⟩
theorem CutAt.all {k1 : List Int} {n : Nat} (h : k1.length ≤ n) : CutAt k1 (n : Int) k1 [] := ⟨List.take_of_length_le (by simpa using h), List.drop_eq_nil_of_le (by simpa using h)⟩
section
variable {prog : Program} {w : World} {A : Around} {E : Value → Shared → Prop} {s : Shared} {g : Heap} {L : Addr} {m : Str → Option Value} {news : List (Addr × Obj)}
theorem upd_fr {d : Addr} {o o' : Obj} {gg : Obj → List (Addr × Obj)} {h h' : Heap} (F : Fr g L h m) (N : News g L h news) (U : UpdF d o news gg) (hk : ∀ a x, a ≠ d → h.get? a = some x → h'.get? a = some x) (hd : h'.get? d = some o') : Fr g L h' m ∧ News g L h' (gg o') := by
  obtain ⟨own, rest, rfl, hg, h1, h2⟩ := U.split
  have hm := N (d, o) (List.mem_append_right _ (.head _))
  refine ⟨⟨F.ns.at' fun x e => hk _ x (Ne.symm hm.2.1) e, fun b x e => hk b x (fun q => by rw [q, hm.2.2] at e; cases e) (F.keep b x e), F.above⟩, ?_⟩
  rw [hg]
  intro p hp
  rcases List.mem_append.mp hp with hp | hp
  · have n := N p (List.mem_append_left _ hp)
    exact ⟨hk _ _ (h1 p hp) n.1, n.2⟩
  · rcases List.mem_cons.mp hp with rfl | hp
    · exact ⟨hd, hm.2⟩
    · have n := N p (List.mem_append_right _ (.tail _ hp))
      exact ⟨hk _ _ (h2 p hp) n.1, n.2⟩
theorem rd_line {P : Program} {K : Frag} {lo : List Str} {mean : ExcName → Option Value} {mg mb : Str → Option Value} {fo oc oC : Obj} {f x d cl c : Addr} {b : Array UInt8} {ks k1 k2 : List Int} {k : Int} {t tk t1 t2 : Tok} {gg : Obj → List (Addr × Obj)} {Q : Value → Shared → Prop}
    (F : Fr g L s.heap m) (N : News g L s.heap news) (X : K.In g) (T : Top topProg lo mean mg mb g) (U : UpdF d (sDict w b f t t1 t2) news gg) (R : RdSpec P w K lo fo oc f x d cl c) (hh : A.handled = none) (hd : A.depth + 8 < recursionLimit)
    (m1 : (f, fo) ∈ news) (m2 : (c, oc) ∈ news) (m3 : (x, instObj 76 d) ∈ news) (m4 : (cl, oC) ∈ news) (hC : oC.data = .cell (some (.ref x))) (l1 : @LT.lt Nat _ d x) (l2 : @LT.lt Nat _ cl d) (hb : KBw.bInts b = ks) (cut : CutAt ks k k1 k2) (hl : ks.length ≤ 100000) (h0 : 0 ≤ k) (hk : k ≤ 1000)
    (h : ∀ h' b1 b2 t' u' tk', KBw.bInts b1 = k1 → KBw.bInts b2 = k2 → Fr g L h' m → News g L h' (gg (sDict w b2 f u' t1 t2)) → Q (.bytes b1 t') { s with heap := h', toks := tk' }) : wpAny (model P w) A (call (.ref f) [.int k tk]) Q E s := by
  have hn : ∀ a ∈ [x, d, cl], g.get? a = none := fun a ha => by
    obtain ⟨own, rest, e, _⟩ := U.split
    simp only [List.mem_cons, List.not_mem_nil, or_false] at ha
    rcases ha with rfl | rfl | rfl
    · exact (N _ m3).2.2
    · exact (N (a, _) (by rw [e]; exact List.mem_append_right _ (.head _))).2.2
    · exact (N _ m4).2.2
  have hdd : s.heap.get? d = some (sDict w b f t t1 t2) := by
    obtain ⟨own, rest, e, _⟩ := U.split
    exact (N (d, _) (by rw [e]; exact List.mem_append_right _ (.head _))).1
  have st := hid_stays (l := [x, d, cl]) F.keep hn
  refine R mean mg mb A s Q E b ks t tk t1 t2 k oC hh hd (X.keeps st) (T.keeps st) (N _ m1).1 (N _ m2).1 (N _ m3).1 hdd (N _ m4).1 hC l1 l2 hb hl h0 hk fun h' b1 b2 t' u' tk' e1 e2 kp e3 => ?_
  obtain ⟨c1, c2⟩ := cut
  obtain ⟨F', N'⟩ := upd_fr F N U kp e3
  exact h h' b1 b2 t' u' tk' (e1.trans c1) (e2.trans c2) F' N'
theorem rd_line2 {P : Program} {K : Frag} {lo : List Str} {mean : ExcName → Option Value} {mg mb : Str → Option Value} {fo oc oC : Obj} {f x d cl c : Addr} {b : Array UInt8} {ks k1 k2 : List Int} {k : Int} {t tk t1 t2 : Tok} {gg : Obj → List (Addr × Obj)} {Q : Value → Shared → Prop}
    (F : Fr g L s.heap m) (N : News g L s.heap news) (X : K.In g) (T : Top topProg lo mean mg mb g) (R : RdSpec P w K lo fo oc f x d cl c) (U : UpdF d (sDict w b f t t1 t2) news gg) (hh : A.handled = none) (hd : A.depth + 8 < recursionLimit)
    (m1 : (f, fo) ∈ news) (m2 : (c, oc) ∈ news) (m3 : (x, instObj 76 d) ∈ news) (m4 : (cl, oC) ∈ news) (hC : oC.data = .cell (some (.ref x))) (l1 : @LT.lt Nat _ d x) (l2 : @LT.lt Nat _ cl d) (hb : KBw.bInts b = ks) (cut : CutAt ks k k1 k2) (hl : ks.length ≤ 100000) (h0 : 0 ≤ k) (hk : k ≤ 1000)
    (h : ∀ h' b1 b2 t' u' tk', KBw.bInts b1 = k1 → KBw.bInts b2 = k2 → Fr g L h' m → News g L h' (gg (sDict w b2 f u' t1 t2)) → Q (.bytes b1 t') { s with heap := h', toks := tk' }) : wpAny (model P w) A (call (.ref f) [.int k tk]) Q E s :=
  rd_line F N X T U R hh hd m1 m2 m3 m4 hC l1 l2 hb cut hl h0 hk h
theorem item_one {value slice : Expr} {b : Array UInt8} {t : Tok} {n : Int} {ui : Tok} {Q : Value → Shared → Prop} (hk : KBw.bInts b = [n]) (h : ∀ t' k, Q (.int n t') { s with toks := k })
    (hs : subscripted slice false (.bytes b t) (.int 0 ui) = operate [.bytes b t, .int 0 ui] (getItem (.bytes b t) (.int 0 ui)) := by with_unfolding_all rfl)
    (ht : ∀ r, letTemporaryGo value (.bytes b t) r = pure () := by intro _; with_unfolding_all rfl) : wpAny (model prog w) A (subscriptTail value slice (.bytes b t) (.int 0 ui)) Q E s :=
  KBw.item_K hk (by simp) (Int.le_refl 0) (by simp) (fun t' k _ _ => h t' k) hs ht
end
def encs (l : List (List Int)) : List Int := l.flatMap fun xs => (xs.length : Int) :: xs
theorem encs_cons (x : List Int) (l : List (List Int)) : encs (x :: l) = (x.length : Int) :: (x ++ encs l) := rfl
theorem encs_len : ∀ {l : List (List Int)}, (∀ x ∈ l, x.length ≤ 255) → (encs l).length ≤ 256 * l.length
  | [], _ => Nat.le_refl _
  | x :: l, h => by
    have h1 := h x (List.mem_cons_self ..)
    have h2 := encs_len (l := l) fun y hy => h y (List.mem_cons_of_mem _ hy)
    rw [encs_cons]
    simp only [List.length_cons, List.length_append]
    omega
/-- the loop's state: what is read, what is left -/
def RJ (w : World) (TL f x d : Addr) (fo : Obj) (t1 t2 : Tok) (rest : List (Addr × Obj)) (texts : List (List Int)) (tail : List Int) (m₂ : Str → Option Value) (n : Nat) (m : Str → Option Value) (nx : List (Addr × Obj)) : Prop :=
  ∃ ds rs vs nn b u, texts = ds ++ rs ∧ n = rs.length ∧ m = m₂ ∧ nx = (TL, W.listOf vs.toArray nn) :: (f, fo) :: (x, instObj 76 d) :: (d, sDict w b f u t1 t2) :: rest ∧ StrsAre vs (ds.map latN) ∧ KBw.bInts b = encs rs ++ tail
theorem rd_while {prog : Program} {w : World} {A : Around} {E : Value → Shared → Prop} {Q : Flow → Shared → Prop} {s : Shared} {env : Env} {g : Heap} {L : Addr} {test : Expr} {body : List Stmt} {pos : Pos} {m₂ : Str → Option Value}
    {TL f x d : Addr} {fo : Obj} {t1 t2 u0 : Tok} {b0 : Array UInt8} {rest : List (Addr × Obj)} (texts : List (List Int)) (tail : List Int)
    (F : Fr g L s.heap m₂) (N : News g L s.heap ((TL, W.listOf #[] 0) :: (f, fo) :: (x, instObj 76 d) :: (d, sDict w b0 f u0 t1 t2) :: rest)) (hb : KBw.bInts b0 = encs texts ++ tail)
    (turn0 : ∀ vs nn b u h tk, StrsAre vs (texts.map latN) → KBw.bInts b = tail → Fr g L h m₂ → News g L h ((TL, W.listOf vs.toArray nn) :: (f, fo) :: (x, instObj 76 d) :: (d, sDict w b f u t1 t2) :: rest) →
      wpAny (model prog w) A (isTrue test env (eval test env)) (fun bb s₂ => if bb = true then wpAny (model prog w) A (execs body env) (WhileStep g L s (RJ w TL f x d fo t1 t2 rest texts tail m₂) 0) E s₂ else Q .next s₂) E { s with heap := h, toks := tk })
    (turn1 : ∀ ds xs rs vs nn b u h tk, texts = ds ++ xs :: rs → StrsAre vs (ds.map latN) → KBw.bInts b = (xs.length : Int) :: (xs ++ (encs rs ++ tail)) → Fr g L h m₂ → News g L h ((TL, W.listOf vs.toArray nn) :: (f, fo) :: (x, instObj 76 d) :: (d, sDict w b f u t1 t2) :: rest) →
      wpAny (model prog w) A (isTrue test env (eval test env)) (fun bb s₂ => if bb = true then wpAny (model prog w) A (execs body env) (WhileStep g L s (RJ w TL f x d fo t1 t2 rest texts tail m₂) (rs.length + 1)) E s₂ else Q .next s₂) E { s with heap := h, toks := tk })
    (hE : PassesOwn (model prog w) A env E) :
    wpAny (model prog w) A (exec (.While test body [] pos) env) Q E s := by
  refine While_inv (RJ w TL f x d fo t1 t2 rest texts tail m₂) (n₀ := texts.length) F N ⟨[], texts, [], 0, b0, u0, rfl, rfl, rfl, rfl, .nil, hb⟩ ?_ hE
  rintro n m₁ nx h tk F₁ N₁ ⟨ds, rs, vs, nn, b, u, e, rfl, rfl, rfl, hvs, hbs⟩
  cases rs with
  | nil => rw [List.append_nil] at e; subst e; exact turn0 vs nn b u h tk hvs hbs F₁ N₁
  | cons xs rs => exact turn1 ds xs rs vs nn b u h tk e hvs (by rw [hbs, encs_cons]; simp) F₁ N₁
theorem rj_next {w : World} {g h : Heap} {L TL f x d : Addr} {fo : Obj} {t1 t2 u tv : Tok} {b : Array UInt8} {rest : List (Addr × Obj)} {texts ds rs : List (List Int)} {xs tail : List Int} {m₂ : Str → Option Value} {vs : List Value} {nn tk : Nat} {s : Shared}
    (F : Fr g L h m₂) (N : News g L h ((TL, W.listOf (vs.toArray.push (.str (latN xs) tv)) nn) :: (f, fo) :: (x, instObj 76 d) :: (d, sDict w b f u t1 t2) :: rest))
    (e : texts = ds ++ xs :: rs) (hvs : StrsAre vs (ds.map latN)) (hb : KBw.bInts b = encs rs ++ tail) :
    WhileStep g L s (RJ w TL f x d fo t1 t2 rest texts tail m₂) (rs.length + 1) .next { s with heap := h, toks := tk } := by
  rw [List.push_toArray] at N
  refine WhileStep.intro (n' := rs.length) F N (Nat.lt_succ_self _) ⟨ds ++ [xs], rs, vs ++ [.str (latN xs) tv], nn, b, u, by rw [e]; simp, rfl, rfl, rfl, ?_, hb⟩
  rw [List.map_append]
  exact StrsAre.append' hvs (.cons _ _ .nil)
/-- what ends a tape, and what is said of it -/
inductive TailMsg : List Int → Str → Prop where
  | none : TailMsg [] (Str.ofString "not enough data in stream to read uint1")
  | cut (data : List Int) (h : data.length ≤ 254) : TailMsg (((data.length + 1 : Nat) : Int) :: data) (Str.ofString "expected " ++ Str.ofString (toString ((data.length + 1 : Nat) : Int)) ++ Str.ofString " bytes in a string1, but only " ++ Str.ofString (toString ((data.length : Nat) : Int)) ++ Str.ofString " remain")
theorem read_end {fs : List Addr} {h₀ g g' : Heap} {L L' D TL c : Addr} {m m' : Str → Option Value} {news own : List (Addr × Obj)} {oD oT oc oP : Obj} {R : Result → Shared → Prop} {v : Value} {s' : Shared} (F : Fr g' L' s'.heap m') (N : News g' L' s'.heap news) (T : KtsTurn fs g g')
    (h1 : (D, oD) ∈ news) (h2 : (TL, oT) ∈ news) (h3 : (c, oc) ∈ news) (h4 : (136, oP) ∈ news) (h5 : ∀ p ∈ own, p ∈ news)
    (k : Fr h₀ L s'.heap m → News h₀ L s'.heap ((D, oD) :: (TL, oT) :: (c, oc) :: (136, oP) :: own) → R (.ok (.ret v)) s') : LeaveS0 fs h₀ L m g R v s' := by
  refine ⟨g', L', m', _, T, F, fun p hp => ?_, k⟩
  rcases List.mem_cons.mp hp with rfl | hp
  · exact N _ h1
  rcases List.mem_cons.mp hp with rfl | hp
  · exact N _ h2
  rcases List.mem_cons.mp hp with rfl | hp
  · exact N _ h3
  rcases List.mem_cons.mp hp with rfl | hp
  · exact N _ h4
  exact N _ (h5 p hp)
end Mine
end
/-! Read -/
section
open PySem.Calls
set_option maxRecDepth 100000
set_option maxHeartbeats 4000000
namespace Mine
theorem allLt_off {c : Addr} {own : List (Addr × Obj)} (h : AllLt c own) : ∀ p ∈ own, p.1 ≠ c := fun p hp => Nat.ne_of_lt (ktn_ltOf h p hp)
theorem allLt_offS {c : Addr} {own : List (Addr × Obj)} (h : AllLt c own) : ∀ p ∈ own, p.1 ≠ c + 1 := fun p hp => Nat.ne_of_lt (Nat.lt_succ_of_lt (ktn_ltOf h p hp))
local macro_rules | `(tactic| walk_at "allLt") => `(tactic| with_reducible first | assumption | exact And.right (by assumption) | exact And.right (And.right (by assumption)) | exact And.right (And.right (And.right (by assumption))) | exact And.right (And.right (And.right (And.right (by assumption)))) | exact And.right (And.right (And.right (And.right (And.right (by assumption))))) | exact And.right (And.right (And.right (And.right (And.right (And.right (by assumption)))))) | exact And.right (And.right (And.right (And.right (And.right (And.right (And.right (by assumption))))))) | exact And.right (And.right (And.right (And.right (And.right (And.right (And.right (And.right (by assumption)))))))) | exact And.right (And.right (And.right (And.right (And.right (And.right (And.right (And.right (And.right (by assumption))))))))) | exact And.right (And.right (And.right (And.right (And.right (And.right (And.right (And.right (And.right (And.right (by assumption)))))))))) | exact And.right (And.right (And.right (And.right (And.right (And.right (And.right (And.right (And.right (And.right (And.right (by assumption))))))))))) | exact And.right (And.right (And.right (And.right (And.right (And.right (And.right (And.right (And.right (And.right (And.right (And.right (by assumption)))))))))))) | exact And.right (And.right (And.right (And.right (And.right (And.right (And.right (And.right (And.right (And.right (And.right (And.right (And.right (by assumption))))))))))))))
local macro_rules | `(tactic| k_all) => `(tactic| with_reducible first | (refine allLt_off ?_; walk_at "allLt") | (refine allLt_offS ?_; walk_at "allLt"))
local macro_rules | `(tactic| k_mem) => `(tactic| (with_reducible_and_instances assumption))
theorem eqi_yes {prog : Program} {w : World} {A : Around} {E : Value → Shared → Prop} {s : Shared} {a b : Int} {t u : Tok} {Q : Value → Shared → Prop} (hb : a = b) (h : Q (.bool true) s) : wpAny (model prog w) A (compareOp .Eq (.int a t) (.int b u)) Q E s := by
  subst hb; exact PyProof.Rows.eq_int (by rw [beq_self_eq_true]; exact h)
theorem eqi_no {prog : Program} {w : World} {A : Around} {E : Value → Shared → Prop} {s : Shared} {a b : Int} {t u : Tok} {Q : Value → Shared → Prop} (hb : a ≠ b) (h : Q (.bool false) s) : wpAny (model prog w) A (compareOp .Eq (.int a t) (.int b u)) Q E s :=
  PyProof.Rows.eq_int (by rw [beq_false_of_ne hb]; exact h)
theorem truthy_one {prog : Program} {w : World} {A : Around} {E : Value → Shared → Prop} {s : Shared} {b : Array UInt8} {t : Tok} {n : Int} {Q : Bool → Shared → Prop} (hk : KBw.bInts b = [n]) (h : ∀ tk, Q true { s with toks := tk }) : wpAny (model prog w) A (truthy (.bytes b t)) Q E s :=
  KBw.truthy_K hk (by simp) (h _)
theorem truthy_nil {prog : Program} {w : World} {A : Around} {E : Value → Shared → Prop} {s : Shared} {b : Array UInt8} {t : Tok} {Q : Bool → Shared → Prop} (hk : KBw.bInts b = []) (h : ∀ tk, Q false { s with toks := tk }) : wpAny (model prog w) A (truthy (.bytes b t)) Q E s :=
  KBw.truthy_K hk (by simp) (h _)
theorem gei_yes {prog : Program} {w : World} {A : Around} {E : Value → Shared → Prop} {s : Shared} {a b : Int} {t u : Tok} {Q : Value → Shared → Prop} (hb : b ≤ a) (h : Q (.bool true) s) : wpAny (model prog w) A (compareOp .GtE (.int a t) (.int b u)) Q E s :=
  PyProof.Rows.ge_int (by rw [decide_eq_true hb]; exact h)
theorem read_spec {w : World} {mean : ExcName → Option Value} {mg mb : Str → Option Value} {s : Shared} {Q E : Value → Shared → Prop} {env : Env} {h₀ : Heap} {L : Addr} {m : Str → Option Value} {ps : Array Value} {own : List (Addr × Obj)}
  (F : Fr h₀ L s.heap m) (N : News h₀ L s.heap ((136, tabObj ps) :: own)) (hoff : OwnOff own [136]) (X : (headOf.heap_39 w.params).In h₀) (T : Top topProg LO mean mg mb h₀) (C : CodeHd h₀ 140 136)
  (ht : RTab ps own)
  (hf : env.frame = some L) (hke : env.scope.kind = .function) {b : Array UInt8} {t : Tok}
  {row tail : List Int} {texts : List (List Int)} {msg : Str} (hb : KBw.bInts b = (row.length : Int) :: (row ++ (encs texts ++ tail))) (hrow : row.length ≤ 255) (htx : ∀ x ∈ texts, 1 ≤ x.length ∧ x.length ≤ 255) (htn : texts.length ≤ 20) (htail : TailMsg tail msg)
  (h : ∀ D TL c oc h' tk vs nn br tb tm ps', Fr h₀ L h' m → News h₀ L h' ((D, W.listOf [Value.bytes br tb, .ref TL, .str msg tm].toArray 0) :: (TL, W.listOf vs.toArray nn) :: (c, oc) :: (136, tabObj ps') :: own) → KBw.bInts br = row → StrsAre vs (texts.map latN) → @LT.lt Nat _ TL D → RFact ps ps' own TL c oc → Q (.ref D) { s with heap := h', toks := tk }) :
  wpAny (model PR w) (callerA.deeper env) (call (.ref 148) [.bytes b t]) Q E s := by
  k_with_none
  k_with "execs cons" => (k_here; first | k_gentoks | ((try k_fold); (with_reducible refine wpAny_execs_cons ?_); (try dsimp only); k_fold))
  k_with "exec FunctionDef" => (k_here; k_dflt (refine' nestDef_K rfl rfl rfl ?_); k_dflt (refine' nest_K (by k_asm) (by k_asm) (by k_asm) (by kn_code) rfl (by k_updF) (by with_reducible assumption) (by with_reducible assumption) rfl ?_; k_whole); intro _ _ _ _ _ _ _ _ _ _ N' _ _ l1 l2; (try dsimp only at N'); (try k_lt l1); (try k_lt2 l2))
  k_with "exec FunctionDef" => (k_here; k_dflt (refine' nestDef_K rfl rfl rfl ?_); k_dflt (refine' nestHit_K (by k_asm) (by k_asm) (by k_asm) (by kn_code) rfl (by k_mem) (by with_reducible assumption) (by with_reducible assumption) rfl ?_; k_whole); intro _ _ _ _ _ _ N' l1; (try dsimp only at N'); (try k_lt l1))
  k_with "rdspec" => (intro _ _ _ A2 _ _ _ _ _ _ tk2 _ _ k2 _ hh2 hd2 _ T2 e1 e2 e3 e4 e5 _ _ _ hb2 _ hk0 _ hQ; obtain ⟨ha2, dp2, fr2, gd2, un2⟩ := A2; dsimp only at hh2; subst hh2; dsimp only at hd2; refine wpAny_call ?_; refine' code_dirX (binds := [(Str.ofString "size", .int k2 tk2)]) (Top.nolimit (T2.keeps fun b o e => of_hideAll _ e)) e1 rfl (by exact ⟨_, _, _, _, rfl, e2, by assumption, by assumption⟩) (Nat.lt_of_le_of_lt (Nat.le_add_right _ 8) hd2) (BindsTo.of_eq rfl) (locs rfl) ?_ (by decide) rfl rfl rfl; intro _ _ F3; obtain ⟨F4, N3⟩ := hid3 F3 e3 e4 e5; clear F3 e1 e2 e4; show wpAny _ _ _ _ _ _; k_steps; (try dsimp only); (with_reducible rename Fr _ _ _ _ => F9); (with_reducible rename News _ _ _ _ => N9); exact hQ _ _ _ _ _ _ (pick_take hb2 hk0) (pick_drop hb2 hk0) (hid3_keep F9 N9 e3 e5 (by k_mem) (by k_mem)) (News.get N9 (by k_mem)))
  k_with "call ref" => (k_here; (with_reducible show wpAny _ _ (call (Value.ref _) [Value.int _ _]) _ _ _); k_dflt (refine' rd_line2 (by k_asm) (by k_asm) (by k_asm) (by k_asm) (by assumption) (by k_updF) rfl (by simp only [depth_deeper]; decide +kernel) (by k_mem) (by k_mem) (by k_mem) (by k_mem) (by assumption) (by assumption) (by assumption) (by assumption) (by with_reducible assumption) (by first | omega | (simp; done) | (simp; omega)) (by omega) (by omega) ?_); intro _ _ _ _ _ _ _ _ _ N'; (try dsimp only at N'); (try k_sweep))
  k_with "subscriptTail" => (k_here; (with_reducible show wpAny _ _ (subscriptTail _ _ (Value.bytes _ _) (Value.int 0 _)) _ _ _); (refine item_one (by with_reducible assumption) ?_); intro _ _)
  k_with "last exec While" => (refine Stop.go ?_)
  k_with "compareOp Eq int int" => (k_here; first | (with_reducible refine eqi_yes (by omega) ?_) | (with_reducible refine eqi_no (by omega) ?_))
  k_with "truthy bytes" => (k_here; (first | refine truthy_one (by with_reducible assumption) ?_ | refine truthy_nil (by with_reducible assumption) ?_); intro _)
  k_with "compareOp GtE int int" => (k_here; with_reducible refine gei_yes (by omega) ?_)
  k_with "LeaveS0" => (refine Stop.go ?_)
  k_with "call builtin:bytes.decode" => (k_here; (with_reducible show wpAny _ _ (call (Value.builtin "bytes.decode") [Value.bytes _ _, Value.str _ _]) _ _ _); k_dflt (refine' dec_lat (by with_reducible assumption) (by with_reducible assumption) (by omega) ?_); intro _ _)
  k_with "WhileStep" => (refine Stop.go ?_)
  k_with "binaryOp Mod str ref" => (k_here; k_dflt (refine' fmt_line (by k_asm) (by k_mem) (by omega) (by omega) (by omega) (by omega) ?_); intro _ _)
  refine wpAny_call ?_
  refine' enter_catch (binds := [(Str.ofString "tape", .bytes b t)]) (below_caller h₀) F X N T ?kA hf hke ?k6 ?k7 ?k8 ?k9 ?kB ?_ ?c2 ?c3 ?c4 ?c5
  case kA => exact rfl
  case k6 => k_is
  case k7 => k_is
  case k8 => (show (1 + claimMargin + 1 : Nat) < recursionLimit; decide +kernel)
  case k9 => exact BindsTo.of_eq rfl
  case kB => exact locs rfl
  case c2 => exact rfl
  case c3 => exact rfl
  case c4 => exact rfl
  case c5 => decide
  intro g L' h₁ FG F' N' B' X' T' D' st
  clear F N
  show wpAny _ _ _ _ _ _
  k_fold
  refine exec_cut F' (fun _ s₂ => StrmAt PR w (headOf.heap_39 w.params) LO g L' (fun x TL y => if y = Str.ofString "stream" then some (.ref x) else if y = Str.ofString "texts" then some (.ref TL) else List.lookup y [(Str.ofString "tape", .bytes b t)].reverse) b ps own s s₂) ?first ?rest
  case first =>
    obtain ⟨ht1, hnf | ⟨cH, ocH, vsH, tH, hnf, hmH, hdH, hvH⟩⟩ := ht
    · have := 1
      k_steps
      refine ⟨rfl, ?_⟩
      refine' strm_miss ?F ?N ?hm ?hR ?hC ?l1 ?l2 ?l3 ?l4 ?l5 ?l6 ?a1 ?a2 ?a3 ht1 hnf ?hv ?hv1 ?hf
      case F => assumption
      case N => assumption
      case hm => rfl
      case hC => assumption
      case l1 => assumption
      case l2 => (refine ltN ?_; omega)
      case l3 => assumption
      case l4 => (refine ltN ?_; omega)
      case l5 => (refine ltN ?_; omega)
      case l6 => (refine ltN ?_; omega)
      case a1 => walk_at "allLt"
      case a2 => walk_at "allLt"
      case a3 => walk_at "allLt"
      case hv => assumption
      case hv1 => assumption
      case hf => exact ⟨_, _, _, _, rfl⟩
      case hR => walk_at "rdspec"
    · k_steps
      refine ⟨rfl, ?_⟩
      refine' strm_hit ?F ?N ?hm ?hR ?hC ?l1 ?l3 ?l4 ?l5 ?l6 ?a1 ?a2 ht1 hnf hmH hdH hvH ?hf
      case F => assumption
      case N => assumption
      case hm => rfl
      case hC => assumption
      case l1 => assumption
      case l3 => (refine ltN ?_; omega)
      case l4 => (refine ltN ?_; omega)
      case l5 => (refine ltN ?_; omega)
      case l6 => (refine ltN ?_; omega)
      case a1 => walk_at "allLt"
      case a2 => walk_at "allLt"
      case hf => exact ⟨_, _, _, _, rfl⟩
      case hR => walk_at "rdspec"
  case rest =>
    rintro s₂ ⟨TL, f, x, d, cl, oC, fo, oc, c, rest, h₂, tk₂, t1, t2, ps', t', rfl, F2, N2, hR, mc, mcl, hC, ⟨ls1, ls2, ls3, ls4⟩, off, m136, hown, hRT, ⟨foc, fod, fofd, fosl, rfl⟩⟩
    clear F' N'
    have hel := encs_len (l := texts) fun x hx => (htx x hx).2
    have htl : tail.length ≤ 300 := by
      cases htail with
      | none => exact Nat.zero_le _
      | cut data hd => simp; omega
    have cut1 := CutAt.one (row.length : Int) (row ++ (encs texts ++ tail))
    have cut2 := CutAt.app row (encs texts ++ tail)
    dsimp only at F2
    show wpAny _ _ _ _ _ _
    k_steps
    show wpAny _ _ _ _ _ _
    (with_reducible rename Fr _ _ _ _ => F9)
    (with_reducible rename News _ _ _ _ => N9)
    refine rd_while texts tail F9 N9 (by assumption) ?turn0 ?turn1 ?hE
    case hE => first | passes_own | with_unfolding_all passes_own
    case turn0 =>
      intro vs nn b3 u3 h3 tk3 hvs hb3 F3 N3
      clear F9 N9
      cases htail with
      | none =>
        have cut3 : CutAt [] 1 [] [] := ⟨rfl, rfl⟩
        show wpAny _ _ _ _ _ _
        k_steps
        show LeaveS0 _ _ _ _ _ _ _ _
        (with_reducible rename Fr _ _ _ _ => F11)
        (with_reducible rename News _ _ _ _ => N11)
        refine (read_end F11 N11 (by assumption) (.head _) (.tail _ (.head _)) (.tail _ (.tail _ (.tail _ (.tail _ (.tail _ mc))))) (.tail _ (.tail _ (.tail _ (.tail _ (.tail _ m136))))) (fun p hp => .tail _ (.tail _ (.tail _ (.tail _ (.tail _ (hown p hp)))))) ?_)
        intro F10 N10
        exact h _ _ _ _ _ _ _ _ _ _ _ _ F10 N10 (by assumption) hvs (by refine ltN ?_; omega) hRT
      | cut data hd =>
        have cut3 := CutAt.one ((data.length + 1 : Nat) : Int) data
        have cut4 : CutAt data ((data.length + 1 : Nat) : Int) data [] := CutAt.all (Nat.le_succ _)
        show wpAny _ _ _ _ _ _
        k_steps
        show LeaveS0 _ _ _ _ _ _ _ _
        (with_reducible rename Fr _ _ _ _ => F11)
        (with_reducible rename News _ _ _ _ => N11)
        refine (read_end F11 N11 (by assumption) (.head _) (.tail _ (.tail _ (.head _))) (.tail _ (.tail _ (.tail _ (.tail _ (.tail _ (.tail _ mc)))))) (.tail _ (.tail _ (.tail _ (.tail _ (.tail _ (.tail _ m136)))))) (fun p hp => .tail _ (.tail _ (.tail _ (.tail _ (.tail _ (.tail _ (hown p hp))))))) ?_)
        intro F10 N10
        exact h _ _ _ _ _ _ _ _ _ _ _ _ F10 N10 (by assumption) hvs (by refine ltN ?_; omega) hRT
    case turn1 =>
      intro ds xs rs vs nn b3 u3 h3 tk3 he hvs hb3 F3 N3
      clear F9 N9
      obtain ⟨hx1, hx2⟩ := htx xs (by rw [he]; simp)
      have hvl := hvs.length
      have hdl : ds.length + rs.length + 1 ≤ 20 := by rw [he] at htn; simp at htn; omega
      have hrl := encs_len (l := rs) fun x hx => (htx x (by rw [he]; simp [hx])).2
      rw [List.length_map] at hvl
      have cut3 := CutAt.one (xs.length : Int) (xs ++ (encs rs ++ tail))
      have cut4 := CutAt.app xs (encs rs ++ tail)
      show wpAny _ _ _ _ _ _
      k_steps
      all_goals exact rj_next (by assumption) (by assumption) he hvs (by assumption)
end Mine
end
/-! LawS -/
section
open PySem.Calls
set_option maxHeartbeats 1000000
set_option maxRecDepth 100000
namespace Mine
/-! the law's own numbers -/
def rowI (ns : List Int) : List Int := [251, 251, 251, 251, 250] ++ (ns.take 3).map (· % 256)
def plI (ns : List Int) : Int := (ns.take 3).sum % (((rowI ns).length : Int) - 1)
theorem rowI_len (ns : List Int) : (rowI ns).length = 5 + (ns.take 3).length := by simp [rowI]; omega
theorem rowI_le (ns : List Int) : (rowI ns).length ≤ 8 := by rw [rowI_len, List.length_take]; omega
theorem rowI_ge (ns : List Int) : 5 ≤ (rowI ns).length := by rw [rowI_len]; omega
theorem rowI_in (ns : List Int) : ∀ x ∈ rowI ns, 0 ≤ x ∧ x < 256 := fun x hx => by
  rcases List.mem_append.mp hx with h | h
  · simp only [List.mem_cons, List.not_mem_nil, or_false] at h
    omega
  · obtain ⟨a, _, rfl⟩ := List.mem_map.mp h
    exact ⟨Int.emod_nonneg _ (by decide), Int.emod_lt_of_pos _ (by decide)⟩
theorem plI_in (ns : List Int) : 0 ≤ plI ns ∧ plI ns < ((rowI ns).length : Int) - 1 := by
  have := rowI_ge ns
  exact ⟨Int.emod_nonneg _ (by omega), Int.emod_lt_of_pos _ (by omega)⟩
theorem ints_take {vs : List Value} {xs : List Int} (hi : IntsAre vs xs) : ∀ k, IntsAre (vs.take k) (xs.take k) := by
  induction hi with
  | nil => intro k; rw [List.take_nil, List.take_nil]; exact .nil
  | cons n t _ ih =>
    intro k
    cases k with
    | zero => exact .nil
    | succ k => exact .cons _ _ (ih k)
theorem ints_drop {vs : List Value} {xs : List Int} (hi : IntsAre vs xs) : ∀ k, IntsAre (vs.drop k) (xs.drop k) := by
  induction hi with
  | nil => intro k; rw [List.drop_nil, List.drop_nil]; exact .nil
  | cons n t h ih =>
    intro k
    cases k with
    | zero => exact .cons _ _ h
    | succ k => exact ih k
section
variable {prog : Program} {w : World} {A : Around} {E : Value → Shared → Prop} {s : Shared} {g : Heap} {L : Addr} {m : Str → Option Value} {news : List (Addr × Obj)}
theorem sl_upto {l : Addr} {items : Array Value} {b : Nat} {t : Tok} {Q : Value → Shared → Prop} (F : Fr g L s.heap m) (N : News g L s.heap news) (hl : s.heap.IsList l items) (hsz : items.size ≤ sizeLine)
    (h : ∀ D h', Fr g L h' m → News g L h' ((D, W.listOf (items.toList.take b).toArray 0) :: news) → (∀ q ∈ news, q.1 < D) → Q (.ref D) { s with heap := h' }) : SliceAt Q (.ref l) .none (.int (b : Int) t) s :=
  slice_end F N hl hsz .none (.int _ _) fun D h' F' N' lt _ => h D h' F' (by rw [slicePick_upto'] at N'; exact N') lt
theorem sl_from {l : Addr} {items : Array Value} {a : Nat} {t : Tok} {Q : Value → Shared → Prop} (F : Fr g L s.heap m) (N : News g L s.heap news) (hl : s.heap.IsList l items) (hsz : items.size ≤ sizeLine)
    (h : ∀ D h', Fr g L h' m → News g L h' ((D, W.listOf (items.toList.drop a).toArray 0) :: news) → (∀ q ∈ news, q.1 < D) → Q (.ref D) { s with heap := h' }) : SliceAt Q (.ref l) (.int (a : Int) t) .none s :=
  slice_end F N hl hsz (.int _ _) .none fun D h' F' N' lt _ => h D h' F' (by rw [slicePick_from'] at N'; exact N') lt
theorem take_iters {vs ws : List Value} (hl : ws.length = vs.length) (h : ∀ (j : Nat) (v : Value), ws[j]? = some v → vs[j]? = some v) : ws = vs := by
  apply List.ext_getElem? 
  intro i
  cases e : ws[i]? with
  | some v => exact (h i v e).symm
  | none =>
    rw [List.getElem?_eq_none_iff] at e
    exact (List.getElem?_eq_none_iff.mpr (by omega)).symm
def AllNe (d : Nat) : List (Addr × Obj) → Prop
  | [] => True
  | p :: r => @Ne Nat p.1 d ∧ AllNe d r
theorem allNe_of {d : Addr} {l : List (Addr × Obj)} (h : ∀ p ∈ l, p.1 ≠ d) : AllNe d l := by
  induction l with
  | nil => trivial
  | cons p l ih => exact ⟨h p (.head _), ih fun q hq => h q (.tail _ hq)⟩
theorem fresh_ne {g h : Heap} {L D : Addr} {l : List (Addr × Obj)} (N : News g L h l) (hD : h.get? D = none) : AllNe D l :=
  allNe_of fun p hp q => by rw [← q, (N p hp).1] at hD; cases hD
theorem news_nil {g h : Heap} {L : Addr} {m : Str → Option Value} (_F : Fr g L h m) : News g L h [] := News.nil
theorem ints_get {vs : List Value} {xs : List Int} (hi : IntsAre vs xs) : ∀ {i : Nat} {v : Value}, vs.toArray[i]? = some v → ∃ a t, v = .int a t := by
  induction hi with
  | nil => intro i v h; simp at h
  | cons n t _ ih =>
    intro i v h
    cases i with
    | zero => simp at h; exact ⟨n, t, h.symm⟩
    | succ i => exact ih (i := i) (v := v) (by simpa using h)
theorem vs_of {vs ws : List Value} (hl : ws.length = vs.toArray.size) (h : ∀ (j : Nat) (v : Value), ws[j]? = some v → vs.toArray[j]? = some v) : ws.filter (fun _ => true) = vs := by
  rw [List.filter_eq_self.mpr fun _ _ => rfl]
  exact take_iters (by simpa using hl) (fun j v e => by simpa using h j v e)
theorem paired_ints {f : Int → Int} {vs : List Value} {xs : List Int} (hi : IntsAre vs xs) : ∀ {ys : List Value}, Paired (fun v y => match v with | .int a _ => ∃ t, y = .int (f a) t | _ => False) vs ys → IntsAre ys (xs.map f) := by
  induction hi with
  | nil => intro ys h; cases h; exact .nil
  | cons n t _ ih =>
    intro ys h
    cases h with
    | cons h r =>
      obtain ⟨t', rfl⟩ := h
      exact .cons _ _ (ih r)
end
/-! the states between the law's statements -/
inductive S1 (g : Heap) (L : Nat) (o1 o2 o3 o4 : Obj) (ns : List Int) (s1 : Shared) : Shared → Prop where
  | mk (cutA : Nat) (cvs : List Value) (nn : Nat) (h : Heap) (tk : Nat) (m : Str → Option Value) : Fr g L h m → m (Str.ofString "cut") = some (.ref cutA) → News g L h [(cutA, W.listOf cvs.toArray nn), (L + 1 + 1 + 1 + 1, o4), (L + 1 + 1 + 1, o3), (L + 1 + 1, o2), (L + 1, o1), (136, tabObj #[]), (129, tabObj #[])] → IntsAre cvs (ns.take 3) → L + 4 < cutA → S1 g L o1 o2 o3 o4 ns s1 { s1 with heap := h, toks := tk }
theorem S1.elim {g : Heap} {L : Nat} {o1 o2 o3 o4 : Obj} {ns : List Int} {s1 : Shared} {P : Shared → Prop} (k : ∀ (cutA : Nat) (cvs : List Value) (nn : Nat) (h : Heap) (tk : Nat) (m : Str → Option Value), Fr g L h m → m (Str.ofString "cut") = some (.ref cutA) → News g L h [(cutA, W.listOf cvs.toArray nn), (L + 1 + 1 + 1 + 1, o4), (L + 1 + 1 + 1, o3), (L + 1 + 1, o2), (L + 1, o1), (136, tabObj #[]), (129, tabObj #[])] → IntsAre cvs (ns.take 3) → L + 4 < cutA → P { s1 with heap := h, toks := tk }) : ∀ s₂, S1 g L o1 o2 o3 o4 ns s1 s₂ → P s₂ := fun _ H => H.casesOn (motive := fun s₂ _ => P s₂) k
inductive S2 (g : Heap) (L : Nat) (o2 o3 o4 : Obj) (ns : List Int) (s1 : Shared) : Shared → Prop where
  | mk (cutA : Nat) (cvs : List Value) (nn : Nat) (rowA : Nat) (rvs : Array Value) (nr : Nat) (oR : Obj) (h : Heap) (tk : Nat) (m : Str → Option Value) : Fr g L h m → m (Str.ofString "cut") = some (.ref cutA) → News g L h [(rowA, W.listOf rvs nr), (cutA, W.listOf cvs.toArray nn), (L + 1 + 1 + 1 + 1, o4), (L + 1 + 1 + 1, o3), (L + 1 + 1, o2), (L + 1, oR), (136, tabObj #[]), (129, tabObj #[])] → IntsAre cvs (ns.take 3) → IntsAre rvs.toList (rowI ns) → oR.data = .cell (some (.ref rowA)) → L + 4 < cutA → cutA < rowA → S2 g L o2 o3 o4 ns s1 { s1 with heap := h, toks := tk }
theorem S2.elim {g : Heap} {L : Nat} {o2 o3 o4 : Obj} {ns : List Int} {s1 : Shared} {P : Shared → Prop} (k : ∀ (cutA : Nat) (cvs : List Value) (nn : Nat) (rowA : Nat) (rvs : Array Value) (nr : Nat) (oR : Obj) (h : Heap) (tk : Nat) (m : Str → Option Value), Fr g L h m → m (Str.ofString "cut") = some (.ref cutA) → News g L h [(rowA, W.listOf rvs nr), (cutA, W.listOf cvs.toArray nn), (L + 1 + 1 + 1 + 1, o4), (L + 1 + 1 + 1, o3), (L + 1 + 1, o2), (L + 1, oR), (136, tabObj #[]), (129, tabObj #[])] → IntsAre cvs (ns.take 3) → IntsAre rvs.toList (rowI ns) → oR.data = .cell (some (.ref rowA)) → L + 4 < cutA → cutA < rowA → P { s1 with heap := h, toks := tk }) : ∀ s₂, S2 g L o2 o3 o4 ns s1 s₂ → P s₂ := fun _ H => H.casesOn (motive := fun s₂ _ => P s₂) k
inductive S3 (g : Heap) (L : Nat) (o2 o3 o4 : Obj) (ns : List Int) (s1 : Shared) : Shared → Prop where
  | mk (rowA : Nat) (rvs : Array Value) (nr : Nat) (oR : Obj) (h : Heap) (tk : Nat) (m : Str → Option Value) (tp : Tok) : Fr g L h m → m (Str.ofString "place") = some (.int (plI ns) tp) → News g L h [(rowA, W.listOf rvs nr), (L + 1 + 1 + 1 + 1, o4), (L + 1 + 1 + 1, o3), (L + 1 + 1, o2), (L + 1, oR), (136, tabObj #[]), (129, tabObj #[])] → IntsAre rvs.toList (rowI ns) → oR.data = .cell (some (.ref rowA)) → L + 4 < rowA → S3 g L o2 o3 o4 ns s1 { s1 with heap := h, toks := tk }
theorem S3.elim {g : Heap} {L : Nat} {o2 o3 o4 : Obj} {ns : List Int} {s1 : Shared} {P : Shared → Prop} (k : ∀ (rowA : Nat) (rvs : Array Value) (nr : Nat) (oR : Obj) (h : Heap) (tk : Nat) (m : Str → Option Value) (tp : Tok), Fr g L h m → m (Str.ofString "place") = some (.int (plI ns) tp) → News g L h [(rowA, W.listOf rvs nr), (L + 1 + 1 + 1 + 1, o4), (L + 1 + 1 + 1, o3), (L + 1 + 1, o2), (L + 1, oR), (136, tabObj #[]), (129, tabObj #[])] → IntsAre rvs.toList (rowI ns) → oR.data = .cell (some (.ref rowA)) → L + 4 < rowA → P { s1 with heap := h, toks := tk }) : ∀ s₂, S3 g L o2 o3 o4 ns s1 s₂ → P s₂ := fun _ H => H.casesOn (motive := fun s₂ _ => P s₂) k
theorem news_sub {g h : Heap} {L : Addr} {news l : List (Addr × Obj)} (N : News g L h news) (hl : ∀ p ∈ l, p ∈ news) : News g L h l := fun p hp => N p (hl p hp)
section
variable {g h : Heap} {L : Nat} {o2 o3 o4 oR : Obj} {ns : List Int} {s1 : Shared} {m : Str → Option Value} {news : List (Addr × Obj)} {cutA rowA : Nat} {cvs : List Value} {rvs : Array Value} {nn nr tk : Nat}
theorem s2_mk (F : Fr g L h m) (N : News g L h news) (hm : m (Str.ofString "cut") = some (.ref cutA)) (hc : IntsAre cvs (ns.take 3)) (hR : oR.data = .cell (some (.ref rowA)))
    (hmem : ∀ p ∈ [(rowA, W.listOf rvs nr), (cutA, W.listOf cvs.toArray nn), (L + 1 + 1 + 1 + 1, o4), (L + 1 + 1 + 1, o3), (L + 1 + 1, o2), (L + 1, oR), (136, tabObj #[]), (129, tabObj #[])], p ∈ news)
    (hr : IntsAre rvs.toList (rowI ns)) (l1 : L + 4 < cutA) (l2 : cutA < rowA) : S2 g L o2 o3 o4 ns s1 { s1 with heap := h, toks := tk } :=
  ⟨cutA, cvs, nn, rowA, rvs, nr, oR, h, tk, m, F, hm, news_sub N hmem, hc, hr, hR, l1, l2⟩
end
theorem row_ints {ys : List Value} {ns : List Int} {t1 t2 t3 t4 t5 : Tok} (hi : IntsAre ys ((ns.take 3).map (· % 256))) : IntsAre (#[Value.int 251 t1, .int 251 t2, .int 251 t3, .int 251 t4, .int 250 t5] ++ ({ toList := ys } : Array Value)).toList (rowI ns) := by
  have e : (#[Value.int 251 t1, .int 251 t2, .int 251 t3, .int 251 t4, .int 250 t5] ++ ({ toList := ys } : Array Value)).toList = [Value.int 251 t1, .int 251 t2, .int 251 t3, .int 251 t4, .int 250 t5] ++ ys := by simp
  rw [e]
  exact .cons _ _ (.cons _ _ (.cons _ _ (.cons _ _ (.cons _ _ hi))))
def p0I (ns : List Int) : Int := (rowI ns).getD (plI ns).toNat 0
def p1I (ns : List Int) : Int := (rowI ns).getD ((plI ns).toNat + 1) 0
theorem getD_in {l : List Int} (h : ∀ x ∈ l, 0 ≤ x ∧ x < 256) (k : Nat) : 0 ≤ l.getD k 0 ∧ l.getD k 0 < 256 := by
  rw [List.getD_eq_getElem?_getD]
  cases e : l[k]? with
  | none => decide
  | some x => exact h x (List.mem_of_getElem? e)
theorem two_of {vs : List Value} {xs : List Int} (hi : IntsAre vs xs) : ∀ {k : Nat}, k + 1 < xs.length → ∃ t0 t1, (vs.drop k).take 2 = [.int (xs.getD k 0) t0, .int (xs.getD (k + 1) 0) t1] := by
  induction hi with
  | nil => intro k h; simp at h
  | cons n t hr ih =>
    intro k hk
    cases k with
    | zero =>
      cases hr with
      | nil => simp at hk
      | cons n2 t2 _ => exact ⟨t, t2, rfl⟩
    | succ k =>
      obtain ⟨t0, t1, e⟩ := ih (k := k) (by simpa using hk)
      exact ⟨t0, t1, by simpa using e⟩
theorem sl_pair {s : Shared} {g : Heap} {L : Addr} {m : Str → Option Value} {news : List (Addr × Obj)} {l : Addr} {items : Array Value} {ns : List Int} {t u : Tok} {Q : Value → Shared → Prop} (F : Fr g L s.heap m) (N : News g L s.heap news) (hl : s.heap.IsList l items) (hi : IntsAre items.toList (rowI ns))
    (h : ∀ D h' t0 t1, Fr g L h' m → News g L h' ((D, W.listOf [Value.int (p0I ns) t0, .int (p1I ns) t1].toArray 0) :: news) → (∀ q ∈ news, q.1 < D) → Q (.ref D) { s with heap := h' }) : SliceAt Q (.ref l) (.int (plI ns) t) (.int (plI ns + 2) u) s := by
  have hlen := hi.length
  rw [Array.length_toList] at hlen
  have h8 := rowI_le ns
  have hp := plI_in ns
  have hs : sizeLine = 16777216 := sizeLine_eq
  obtain ⟨t0, t1, e⟩ := two_of hi (k := (plI ns).toNat) (by omega)
  refine slice_end F N hl (by omega) (.int _ _) (.int _ _) fun D h' F' N' lt _ => h D h' t0 t1 F' ?_ lt
  have e2 : slicePick items (some (plI ns)) (some (plI ns + 2)) none = [Value.int (p0I ns) t0, .int (p1I ns) t1].toArray := by
    have a1 : plI ns = (((plI ns).toNat : Nat) : Int) := by omega
    have a2 : plI ns + 2 = (((plI ns).toNat + 2 : Nat) : Int) := by omega
    rw [a2]
    rw [show (some (plI ns) : Option Int) = some (((plI ns).toNat : Nat) : Int) from by rw [← a1]]
    rw [slicePick_run items _ _ (by omega) (by omega)]
    rw [Nat.add_sub_cancel_left, e]; rfl
  rw [e2] at N'
  exact N'
theorem pieces_news {g h h' : Heap} {L R : Addr} {m : Str → Option Value} {news own : List (Addr × Obj)} {ys : List Value} (F : Fr g L h m) (N : News g L h news) (kp : Kp h h') (hR : h'.PlainList R ys.toArray) (ho : ∀ p ∈ own, h'.get? p.1 = some p.2 ∧ h.get? p.1 = none) (hn : h.get? R = none) :
    ∃ nP, News g L h' ((R, W.listOf ys.toArray nP) :: (news ++ own)) ∧ AllNe R news ∧ ∀ p ∈ own, ∀ q ∈ news, p.1 ≠ q.1 := by
  have fresh : ∀ a, h.get? a = none → a ≠ L ∧ g.get? a = none := fun a ha => by
    refine ⟨?_, ?_⟩
    · rintro rfl
      obtain ⟨o, _, _, e, _⟩ := F.ns
      rw [e] at ha; cases ha
    · cases e : g.get? a with
      | none => rfl
      | some o => have := F.keep a o e; rw [ha] at this; cases this
  obtain ⟨nP, eR⟩ := hR
  refine ⟨nP, fun p hp => ?_, fresh_ne N hn, fun p hp q hq e => ?_⟩
  · rcases List.mem_cons.mp hp with rfl | hp
    · exact ⟨eR, fresh _ hn⟩
    rcases List.mem_append.mp hp with hp | hp
    · exact news_kp N kp p hp
    · exact ⟨(ho p hp).1, fresh _ (ho p hp).2⟩
  · have := (N q hq).1
    rw [← e, (ho p hp).2] at this; cases this
inductive S4 (g : Heap) (L : Nat) (o3 o4 : Obj) (ns : List Int) (s1 : Shared) : Shared → Prop where
  | mk (PA : Nat) (ys : List Value) (nP pA nA : Nat) (t0 t1 : Tok) (rowA : Nat) (rvs : Array Value) (nr : Nat) (oR oP : Obj) (own : List (Addr × Obj)) (h : Heap) (tk : Nat) (m : Str → Option Value) : Fr g L h m → m (Str.ofString "pieces") = some (.ref PA) → News g L h ((PA, W.listOf ys.toArray nP) :: (pA, W.listOf [Value.int (p0I ns) t0, .int (p1I ns) t1].toArray nA) :: (rowA, W.listOf rvs nr) :: (L + 1 + 1 + 1 + 1, o4) :: (L + 1 + 1 + 1, o3) :: (L + 1 + 1, oP) :: (L + 1, oR) :: (136, tabObj #[]) :: (129, tabObj #[]) :: own) → IntsAre rvs.toList (rowI ns) → RowsAre ys own (piecesS (rowI ns).length (p0I ns) (p1I ns)) → oR.data = .cell (some (.ref rowA)) → oP.data = .cell (some (.ref pA)) → L + 4 < rowA → L + 4 < pA → ((PA ≠ L + 1 + 1 + 1 + 1 ∧ PA ≠ L + 1 + 1 + 1 ∧ PA ≠ 136 ∧ PA ≠ 129)) → OwnOff own [L + 1 + 1 + 1 + 1, L + 1 + 1 + 1, 136, 129] → S4 g L o3 o4 ns s1 { s1 with heap := h, toks := tk }
theorem S4.elim {g : Heap} {L : Nat} {o3 o4 : Obj} {ns : List Int} {s1 : Shared} {P : Shared → Prop} (k : ∀ (PA : Nat) (ys : List Value) (nP pA nA : Nat) (t0 t1 : Tok) (rowA : Nat) (rvs : Array Value) (nr : Nat) (oR oP : Obj) (own : List (Addr × Obj)) (h : Heap) (tk : Nat) (m : Str → Option Value), Fr g L h m → m (Str.ofString "pieces") = some (.ref PA) → News g L h ((PA, W.listOf ys.toArray nP) :: (pA, W.listOf [Value.int (p0I ns) t0, .int (p1I ns) t1].toArray nA) :: (rowA, W.listOf rvs nr) :: (L + 1 + 1 + 1 + 1, o4) :: (L + 1 + 1 + 1, o3) :: (L + 1 + 1, oP) :: (L + 1, oR) :: (136, tabObj #[]) :: (129, tabObj #[]) :: own) → IntsAre rvs.toList (rowI ns) → RowsAre ys own (piecesS (rowI ns).length (p0I ns) (p1I ns)) → oR.data = .cell (some (.ref rowA)) → oP.data = .cell (some (.ref pA)) → L + 4 < rowA → L + 4 < pA → ((PA ≠ L + 1 + 1 + 1 + 1 ∧ PA ≠ L + 1 + 1 + 1 ∧ PA ≠ 136 ∧ PA ≠ 129)) → OwnOff own [L + 1 + 1 + 1 + 1, L + 1 + 1 + 1, 136, 129] → P { s1 with heap := h, toks := tk }) : ∀ s₂, S4 g L o3 o4 ns s1 s₂ → P s₂ := fun _ H => H.casesOn (motive := fun s₂ _ => P s₂) k
theorem own_offs {own news : List (Addr × Obj)} (h : ∀ p ∈ own, ∀ q ∈ news, p.1 ≠ q.1) {adr : List Addr} (ha : ∀ a ∈ adr, ∃ o, (a, o) ∈ news) : OwnOff own adr := fun p hp b hb => by
  obtain ⟨o, ho⟩ := ha b hb
  exact h p hp (b, o) ho
theorem s4_mk {g h : Heap} {L : Nat} {o3 o4 oR oP : Obj} {ns : List Int} {s1 : Shared} {m : Str → Option Value} {news own : List (Addr × Obj)} {PA pA rowA nP nA nr tk : Nat} {ys : List Value} {t0 t1 : Tok} {rvs : Array Value} (F : Fr g L h m) (N : News g L h news) (hm : m (Str.ofString "pieces") = some (.ref PA))
    (hR : oR.data = .cell (some (.ref rowA))) (hP : oP.data = .cell (some (.ref pA)))
    (hmem : ∀ p ∈ [(PA, W.listOf ys.toArray nP), (pA, W.listOf [Value.int (p0I ns) t0, .int (p1I ns) t1].toArray nA), (rowA, W.listOf rvs nr), (L + 1 + 1 + 1 + 1, o4), (L + 1 + 1 + 1, o3), (L + 1 + 1, oP), (L + 1, oR), (136, tabObj #[]), (129, tabObj #[])], p ∈ news) (hown : ∀ p ∈ own, p ∈ news)
    (hr : IntsAre rvs.toList (rowI ns)) (hrl : rvs.toList.length = (rowI ns).length) (hw : RowsAre ys own (piecesS rvs.toList.length (p0I ns) (p1I ns))) (l1 : L + 4 < rowA) (l2 : L + 4 < pA) (l3 : PA ≠ L + 1 + 1 + 1 + 1 ∧ PA ≠ L + 1 + 1 + 1 ∧ PA ≠ 136 ∧ PA ≠ 129) (ho : OwnOff own [L + 1 + 1 + 1 + 1, L + 1 + 1 + 1, L + 1 + 1, L + 1, 136, 129]) :
    S4 g L o3 o4 ns s1 { s1 with heap := h, toks := tk } := by
  rw [hrl] at hw
  refine ⟨PA, ys, nP, pA, nA, t0, t1, rowA, rvs, nr, oR, oP, own, h, tk, m, F, hm, fun p hp => N p ?_, hr, hw, hR, hP, l1, l2, l3, fun p hp b hb => ho p hp b ?_⟩
  · rcases List.mem_append.mp (show p ∈ [(PA, W.listOf ys.toArray nP), (pA, W.listOf [Value.int (p0I ns) t0, .int (p1I ns) t1].toArray nA), (rowA, W.listOf rvs nr), (L + 1 + 1 + 1 + 1, o4), (L + 1 + 1 + 1, o3), (L + 1 + 1, oP), (L + 1, oR), (136, tabObj #[]), (129, tabObj #[])] ++ own from hp) with hp | hp
    · exact hmem p hp
    · exact hown p hp
  · simp only [List.mem_cons, List.not_mem_nil, or_false] at hb ⊢
    rcases hb with h | h | h | h
    · exact .inl h
    · exact .inr (.inl h)
    · exact .inr (.inr (.inr (.inr (.inl h))))
    · exact .inr (.inr (.inr (.inr (.inr h))))
/-- step 5: the patterns -/
def pats (n : Nat) (p0 p1 : Int) : List Str := (piecesS n p0 p1).map (Txt.join (Str.ofString ""))
inductive S5 (g : Heap) (L : Nat) (o3 o4 : Obj) (ns : List Int) (s1 : Shared) : Shared → Prop where
  | mk (QA : Nat) (qs : List Value) (nQ PA : Nat) (ys : List Value) (nP pA nA : Nat) (t0 t1 : Tok) (rowA : Nat) (rvs : Array Value) (nr : Nat) (oR oP : Obj) (own : List (Addr × Obj)) (h : Heap) (tk : Nat) (m : Str → Option Value) : Fr g L h m → m (Str.ofString "pieces") = some (.ref PA) → m (Str.ofString "patterns") = some (.ref QA) → News g L h ((QA, W.listOf qs.toArray nQ) :: (PA, W.listOf ys.toArray nP) :: (pA, W.listOf [Value.int (p0I ns) t0, .int (p1I ns) t1].toArray nA) :: (rowA, W.listOf rvs nr) :: (L + 1 + 1 + 1 + 1, o4) :: (L + 1 + 1 + 1, o3) :: (L + 1 + 1, oP) :: (L + 1, oR) :: (136, tabObj #[]) :: (129, tabObj #[]) :: own) → IntsAre rvs.toList (rowI ns) → RowsAre ys own (piecesS (rowI ns).length (p0I ns) (p1I ns)) → StrsAre qs (pats (rowI ns).length (p0I ns) (p1I ns)) → oR.data = .cell (some (.ref rowA)) → oP.data = .cell (some (.ref pA)) → L + 4 < rowA → L + 4 < pA → ((PA ≠ L + 1 + 1 + 1 + 1 ∧ PA ≠ L + 1 + 1 + 1 ∧ PA ≠ 136 ∧ PA ≠ 129)) → ((QA ≠ L + 1 + 1 + 1 + 1 ∧ QA ≠ L + 1 + 1 + 1 ∧ QA ≠ 136 ∧ QA ≠ 129)) → OwnOff own [L + 1 + 1 + 1 + 1, L + 1 + 1 + 1, 136, 129] → S5 g L o3 o4 ns s1 { s1 with heap := h, toks := tk }
theorem S5.elim {g : Heap} {L : Nat} {o3 o4 : Obj} {ns : List Int} {s1 : Shared} {P : Shared → Prop} (k : ∀ (QA : Nat) (qs : List Value) (nQ PA : Nat) (ys : List Value) (nP pA nA : Nat) (t0 t1 : Tok) (rowA : Nat) (rvs : Array Value) (nr : Nat) (oR oP : Obj) (own : List (Addr × Obj)) (h : Heap) (tk : Nat) (m : Str → Option Value), Fr g L h m → m (Str.ofString "pieces") = some (.ref PA) → m (Str.ofString "patterns") = some (.ref QA) → News g L h ((QA, W.listOf qs.toArray nQ) :: (PA, W.listOf ys.toArray nP) :: (pA, W.listOf [Value.int (p0I ns) t0, .int (p1I ns) t1].toArray nA) :: (rowA, W.listOf rvs nr) :: (L + 1 + 1 + 1 + 1, o4) :: (L + 1 + 1 + 1, o3) :: (L + 1 + 1, oP) :: (L + 1, oR) :: (136, tabObj #[]) :: (129, tabObj #[]) :: own) → IntsAre rvs.toList (rowI ns) → RowsAre ys own (piecesS (rowI ns).length (p0I ns) (p1I ns)) → StrsAre qs (pats (rowI ns).length (p0I ns) (p1I ns)) → oR.data = .cell (some (.ref rowA)) → oP.data = .cell (some (.ref pA)) → L + 4 < rowA → L + 4 < pA → ((PA ≠ L + 1 + 1 + 1 + 1 ∧ PA ≠ L + 1 + 1 + 1 ∧ PA ≠ 136 ∧ PA ≠ 129)) → ((QA ≠ L + 1 + 1 + 1 + 1 ∧ QA ≠ L + 1 + 1 + 1 ∧ QA ≠ 136 ∧ QA ≠ 129)) → OwnOff own [L + 1 + 1 + 1 + 1, L + 1 + 1 + 1, 136, 129] → P { s1 with heap := h, toks := tk }) : ∀ s₂, S5 g L o3 o4 ns s1 s₂ → P s₂ := fun _ H => H.casesOn (motive := fun s₂ _ => P s₂) k
end Mine
end
/-! Cod2 -/
section
open PySem.Calls
set_option maxHeartbeats 1000000
set_option maxRecDepth 100000
namespace Mine
open Builtin Builtin._codecs
theorem fold_push {f : Nat → UInt8} : ∀ (l : List Nat) (acc : Array UInt8), l.foldl (fun acc y => acc ++ [f y].toArray) acc = acc ++ (l.map f).toArray
  | [], acc => by simp
  | y :: l, acc => by
    rw [List.foldl_cons, fold_push l]
    simp
section
variable {prog : Program} {w : World} {A : Around} {E : Value → Shared → Prop} {s : Shared}
theorem enc_run {id : String} {x : Str} {self : Value} {Q : Array UInt8 → Shared → Prop} (hx : ∀ c ∈ x.cps.toList, c < 128) (hz : x.length ≤ 100000) (h : Q (x.cps.map (·.toUInt8)) s) : wpAny (model prog w) A (encodeNarrow id asciiCodec none self x) Q E s := by
  have hs : sizeLine = 16777216 := sizeLine_eq
  have hbad : x.cps.findIdx? asciiCodec.bad = none := by
    rw [Array.findIdx?_eq_none_iff]
    intro c hc
    have := hx c (Array.mem_toList_iff.mpr hc)
    show decide (c ≥ 128) = false
    simp; omega
  unfold encodeNarrow
  dsimp only
  rw [KPc.range_list]
  cases hn : x.length with
  | zero =>
    rw [List.range'_zero, List.forIn_nil]
    refine wpAny_bind (wpAny_pure ?_)
    refine wpAny_pure ?_
    have : x.cps = #[] := Array.eq_empty_of_size_eq_zero hn
    rw [this, Array.map_empty] at h
    exact h
  | succ n =>
    have hlt : 0 < x.cps.size := by show 0 < x.length; omega
    rw [List.range'_succ, List.forIn_cons]
    refine wpAny_bind (wpAny_bind ?_)
    rw [if_neg (by simp)]
    rw [Array.getElem?_eq_getElem hlt]
    dsimp only
    rw [if_pos (by
      have := hx _ (Array.mem_toList_iff.mpr (Array.getElem_mem hlt))
      show (!decide (x.cps[0] ≥ 128)) = true
      simp; omega)]
    have e1 : x.cps.extract 0 x.cps.size = x.cps := Array.extract_size
    rw [e1, hbad]
    dsimp only [Option.getD]
    rw [e1]
    have e2 : Array.foldl (fun acc y => acc ++ (asciiCodec.bytesOf y).toArray) #[] x.cps = x.cps.map (·.toUInt8) := by
      rw [← Array.foldl_toList]
      have := fold_push (f := fun y => y.toUInt8) x.cps.toList #[]
      refine Eq.trans this ?_
      apply Array.ext'
      simp
    rw [e2, Nat.zero_add]
    refine wpAny_pure ?_
    dsimp only
    have hsz : ¬ (x.cps.map (·.toUInt8)).size > sizeLine := by
      have : x.cps.size ≤ 100000 := hz
      simp; omega
    cases n with
    | zero =>
      rw [List.range'_zero, List.forIn_nil]
      exact wpAny_pure (wpAny_pure h)
    | succ n =>
      rw [List.range'_succ, List.forIn_cons]
      refine wpAny_bind ?_
      dsimp only
      rw [if_neg hsz, Array.getElem?_eq_none (Nat.le_refl _)]
      dsimp only
      exact wpAny_pure (wpAny_pure (wpAny_pure h))
theorem ent_enc {x : Str} {t u : Tok} : «str.encode» ⟨[.str x t, .str (Str.ofString "ascii") u], []⟩ = ((_codecs.encodeNarrow "str.encode" asciiCodec none (.str x t) x >>= fun b => mkBytes b) >>= fun v => ret v) := by kernel_rfl
def codes (x : Str) : List Int := x.cps.toList.map fun (c : Nat) => (c : Int)
theorem codes_len (x : Str) : (codes x).length = x.length := by
  unfold codes
  rw [List.length_map, Array.length_toList]; rfl
theorem codes_ints {x : Str} (hx : ∀ c ∈ x.cps.toList, c < 128) : KBw.bInts (x.cps.map (·.toUInt8)) = codes x := by
  show (x.cps.map (·.toUInt8)).toList.map (fun c : UInt8 => ((c.toNat : Nat) : Int)) = _
  rw [Array.toList_map, List.map_map]
  refine List.map_congr_left fun c hc => ?_
  have h := hx c hc
  show (((c.toUInt8).toNat : Nat) : Int) = (c : Int)
  have : (c.toUInt8).toNat = c := by
    show (UInt8.ofNat c).toNat = c
    rw [UInt8.toNat_ofNat']; omega
  rw [this]
theorem enc_asc {x : Str} {t u : Tok} {Q : Value → Shared → Prop} (hx : ∀ c ∈ x.cps.toList, c < 128) (hz : x.length ≤ 100000) (h : ∀ b t' k, KBw.bInts b = codes x → Q (.bytes b t') { s with toks := k }) :
    wpAny (model prog w) A (call (.builtin "str.encode") [.str x t, .str (Str.ofString "ascii") u]) Q E s := by
  refine wpAny_call_entry (T := "str") F.slot_str_encode (typeIs_str _ _ _) F.entry_str_encode ?_ (F.args_str_encode_2 _ _)
  rw [ent_enc]
  refine wpAny_bind (wpAny_bind (enc_run hx hz ?_))
  refine wpAny_mkBytes (wpAny_pure ⟨_, rfl, h _ _ _ (codes_ints hx)⟩) (by
    have : sizeLine = 16777216 := sizeLine_eq
    have : x.cps.size ≤ 100000 := hz
    simp; omega)
end
/-! b''.join of bytes -/
theorem plainId_join : plainId "bytes.join" = true := by decide +kernel
theorem look_join : typeLookup (.type "bytes") "join" = pure (some (.builtin "bytes.join")) := by rw [typeLookup_type, builtinLookup_eq_fast]; kernel_rfl
theorem entry_join : entryFor table "bytes.join" = some Builtin.«bytes.join» := entryFor_of_tree (by kernel_rfl)
theorem args_join (a b : Value) : argsOk "bytes.join" ⟨[a, b], []⟩ := by unfold argsOk; kernel_rfl
theorem slot_join : Slot "bytes" "join" "bytes.join" :=
  .of (owner := "bytes") (n := "join") look_join (by decide +kernel) (by decide +kernel) (by decide +kernel)
    (by first | exact .inl (by decide +kernel) | exact .inr (by decide +kernel)) (by rw [isSubtype_type]; kernel_rfl)
theorem type_join : typeOf (.builtin "bytes.join") = pure (.type "method_descriptor") := by show builtinType _ = _; rw [builtinType_eq_fast]; kernel_rfl
end Mine
end
/-! Cod3 -/
section
open PySem.Calls
set_option maxHeartbeats 1000000
set_option maxRecDepth 100000
namespace Mine
open Builtin Builtin.Bytes
inductive BytesAre : List Value → List (List Int) → Prop where
  | nil : BytesAre [] []
  | cons {b : Array UInt8} {ks : List Int} (t : Tok) {vs kss} : KBw.bInts b = ks → BytesAre vs kss → BytesAre (.bytes b t :: vs) (ks :: kss)
theorem tb_eq {b : Array UInt8} {t : Tok} : Bytes.takeBuffer? "bytes.join" (.bytes b t) 0 = pure (some (b, none)) := by kernel_rfl
section
variable {prog : Program} {w : World} {A : Around} {E : Value → Shared → Prop} {s : Shared}
theorem jlg {Q : Unit → Shared → Prop} : ∀ {taken : List (Value × Option Value)} {keep : List Value}, (∀ p ∈ taken, p.2 = none) → Q () s → wpAny (model prog w) A (joinLetGo taken keep) Q E s
  | [], _, _, h => wpAny_pure h
  | (x, y) :: rest, keep, hn, h => by
    have hy : y = none := hn (x, y) (.head _)
    subst hy
    unfold joinLetGo
    dsimp only
    refine wpAny_bind (wpAny_letGo ?_)
    exact jlg (fun p hp => hn p (.tail _ hp)) h
theorem join_red (motive : Array Value → Sort 1) (v0 v1 : Value) (vr : List Value) (h1 : (x : Value) → motive #[x]) (h2 : (x : Array Value) → motive x) : PySem.Builtin.Bytes.joinM.match_1 motive (v0 :: v1 :: vr).toArray h1 h2 = h2 _ := rfl
def payl : Value → Array UInt8
  | .bytes b _ => b
  | _ => #[]
theorem bytes_get {vs : List Value} {kss : List (List Int)} (h : BytesAre vs kss) : ∀ {i : Nat}, i < vs.length → ∃ b t, vs.toArray.getD i .none = .bytes b t := by
  induction h with
  | nil => intro i hi; simp at hi
  | cons t hb _ ih =>
    intro i hi
    cases i with
    | zero => exact ⟨_, t, rfl⟩
    | succ i =>
      obtain ⟨b, t, e⟩ := ih (i := i) (by simpa using hi)
      exact ⟨b, t, by rw [← e]; simp [Array.getD_eq_getD_getElem?]⟩
def jst (vs : List Value) (i : Nat) : Array (Array UInt8) × List (Value × Option Value) := (((vs.take i).map payl).toArray, (vs.take i).map fun v => (v, none))
theorem jst_succ {vs : List Value} {i : Nat} (hi : i < vs.length) : jst vs (i + 1) = ((jst vs i).1.push (payl (vs.toArray.getD i .none)), (jst vs i).2 ++ [(vs.toArray.getD i .none, none)]) := by
  have e : vs.toArray.getD i .none = vs[i] := by simp [Array.getD_eq_getD_getElem?, hi]
  unfold jst
  rw [e, List.take_succ_eq_append_getElem hi, List.map_append, List.map_append]
  simp only [List.map_cons, List.map_nil, List.push_toArray]
theorem heap_no {vs : List Value} {kss : List (List Int)} (h : BytesAre vs kss) : ∀ i, ((jst vs i).2.any fun x => x.1.onHeap) = false := by
  have key : ∀ v ∈ vs, v.onHeap = false := by
    induction h with
    | nil => intro v hv; cases hv
    | cons t _ _ ih =>
      intro v hv
      rcases List.mem_cons.mp hv with rfl | hv
      · rfl
      · exact ih v hv
  intro i
  unfold jst
  rw [List.any_eq_false]
  intro p hp
  obtain ⟨v, hv, rfl⟩ := List.mem_map.mp hp
  rw [key v (List.mem_of_mem_take hv)]
  exact Bool.false_ne_true
theorem joined_ints {vs : List Value} {kss : List (List Int)} (h : BytesAre vs kss) : ∀ (k : Nat) (acc : Array UInt8) (a : List Int), KBw.bInts acc = a → KBw.bInts (((vs.map payl).zipIdx k).foldl (fun out (p, i) => (if i > 0 then out ++ #[] else out) ++ p) acc) = a ++ kss.flatten := by
  induction h with
  | nil => intro k acc a ha; simp [ha]
  | @cons b ks t vs kss hb _ ih =>
    intro k acc a ha
    rw [List.map_cons, List.zipIdx_cons, List.foldl_cons]
    have e : (if k > 0 then acc ++ #[] else acc) = acc := by split <;> simp
    show KBw.bInts (((vs.map payl).zipIdx (k + 1)).foldl _ ((if k > 0 then acc ++ #[] else acc) ++ b)) = _
    rw [e, ih (k + 1) _ (a ++ ks) (KBw.ints_app ha hb), List.flatten_cons, List.append_assoc]
theorem joined_size {vs : List Value} {kss : List (List Int)} (h : BytesAre vs kss) : ∀ (n : Nat), (vs.map payl).foldl (fun x1 x2 => x1 + x2.size) n = n + kss.flatten.length := by
  induction h with
  | nil => intro n; simp
  | @cons b ks t vs kss hb _ ih =>
    intro n
    rw [List.map_cons, List.foldl_cons, ih, List.flatten_cons, List.length_append]
    have : (payl (.bytes b t)).size = ks.length := by rw [← hb, KBw.ints_length]; rfl
    rw [this]; omega
theorem join_bytes {D : Addr} {vs : List Value} {kss : List (List Int)} {t : Tok} {Q : Value → Shared → Prop} (hl : s.heap.IsList D vs.toArray) (hb : BytesAre vs kss) (h2 : 2 ≤ vs.length) (hz : kss.flatten.length ≤ 100000)
    (h : ∀ b t' k, KBw.bInts b = kss.flatten → Q (.bytes b t') { s with toks := k }) : wpAny (model prog w) A (call (.builtin "bytes.join") [.bytes #[] t, .ref D]) Q E s := by
  refine wpAny_call_entry (T := "bytes") slot_join (typeIs_bytes _ _ _) entry_join ?_ (args_join _ _)
  obtain ⟨o, ho, hc, n, hd⟩ := hl
  have hkk : (Kind.bytes == Kind.bytes) = true := by decide
  have hkb : (Kind.bytes == Kind.bytearray) = false := by decide
  unfold «bytes.join» joinM
  dsimp only
  refine wpAny_bind (wpAny_of_eq (a := (Value.bytes #[] t, Value.ref D)) rfl ?_)
  dsimp only
  rw [hkk, if_pos rfl]
  unfold joinItems
  refine wpAny_bind (wpAny_bind (wpAny_typeOf ⟨o, ho, hc⟩ ?_))
  rw [if_pos (by decide)]
  refine wpAny_pure ?_
  refine wpAny_bind (wpAny_seqItems ho hd ?_)
  dsimp only
  rw [if_pos rfl, hkb]
  obtain ⟨v0, v1, vr, hvs⟩ : ∃ v0 v1 vr, vs = v0 :: v1 :: vr := by
    cases vs with
    | nil => simp at h2
    | cons a l => cases l with
      | nil => simp at h2
      | cons b l => exact ⟨a, b, l, rfl⟩
  rw [hvs, join_red, ← hvs]
  rw [KPc.range_list]
  refine wpAny_bind (wp_loop (fun i => jst vs i) vs.toArray.size 0 ?_ ?_)
  · intro j R _ hj hR
    have hj2 : j < vs.length := by simpa using hj
    obtain ⟨b, u, eb⟩ := bytes_get hb hj2
    refine wpAny_bind (wpAny_seqItems ho hd ?_)
    dsimp only
    rw [heap_no hb j, if_neg (by decide), eb]
    refine wpAny_bind (wpAny_holding ?_)
    unfold takeBufferQuiet?
    refine wpAny_bind (wpAny_attempt (wpAny_of_eq (a := some (b, none)) tb_eq ?_))
    refine wpAny_pure ?_
    dsimp only
    refine wpAny_bind (wpAny_seqItems ho hd ?_)
    dsimp only
    rw [if_neg (by simp)]
    refine wpAny_pure ?_
    have e := jst_succ (vs := vs) hj2
    rw [eb] at e
    rw [e] at hR
    exact hR
  · rw [Nat.zero_add]
    have hj0 : jst vs vs.toArray.size = ((vs.map payl).toArray, vs.map fun v => (v, none)) := by
      unfold jst
      rw [List.size_toArray, List.take_length]
    rw [hj0]
    dsimp only
    refine wpAny_bind (wpAny_of_eq (a := (#[] : Array UInt8)) rfl ?_)
    have hji := joined_ints hb 0 #[] [] rfl
    rw [List.nil_append] at hji
    rw [if_neg (by
      rw [List.foldl_toArray']
      · have := joined_size hb ((#[] : Array UInt8).size * ((List.map payl vs).toArray.size - 1))
        rw [this]
        unfold tooLong
        have : sizeLine = 16777216 := sizeLine_eq
        have h0 : (#[] : Array UInt8).size * ((List.map payl vs).toArray.size - 1) = 0 := Nat.zero_mul _
        rw [h0]
        intro hc
        have := of_decide_eq_true hc
        omega
      · rfl)]
    refine wpAny_bind (wpAny_mkBytes ?_ ?_)
    · refine wpAny_bind (wpAny_holding (wpAny_point ?_))
      refine wpAny_bind (jlg ?_ ?_)
      · intro p hp
        obtain ⟨v, _, rfl⟩ := List.mem_map.mp hp
        rfl
      · exact wpAny_pure ⟨_, rfl, h _ _ _ hji⟩
    · have : sizeLine = 16777216 := sizeLine_eq
      have h3 := KBw.ints_length (joined #[] (List.map payl vs))
      have h4 : (KBw.bInts (joined #[] (List.map payl vs))).length = kss.flatten.length := congrArg List.length hji
      omega
theorem noRef_b {b : Array UInt8} {t : Tok} : ∀ a, Value.bytes b t = .ref a → ∃ o, s.heap.get? a = some o ∧ o.dict = none := fun _ e => nomatch e
theorem gm_bjoin {M : Model} {b : Array UInt8} {t : Tok} {pl : Sem Bool} {Q : Value × List Value → Shared → Prop} (h : Q (.builtin "bytes.join", [.bytes b t]) s) : wpAny M A (getMethod (.bytes b t) (PySem.Str.ofString "join") pl) Q E s :=
  KBd.method_of (.bytes b t) (typeIs_bytes _ _ _) slot_join type_join noRef_b h
end
end Mine
end
/-! LawP -/
section
open PySem.Calls
set_option maxHeartbeats 1000000
set_option maxRecDepth 100000
namespace Mine
theorem strs_fun {vs : List Value} {a : List Str} (h : StrsAre vs a) : ∀ {b : List Str}, StrsAre vs b → a = b := by
  induction h with
  | nil => intro b h; cases h; rfl
  | cons y t _ ih => intro b h; cases h with | cons _ _ h2 => rw [ih h2]
theorem rows_get {ys : List Value} {own : List (Addr × Obj)} {rows : List (List Str)} (h : RowsAre ys own rows) : ∀ {i : Nat} {v : Value}, ys[i]? = some v → ∃ r vs nn ss, v = .ref r ∧ (r, W.listOf vs.toArray nn) ∈ own ∧ StrsAre vs ss ∧ ss ∈ rows := by
  induction h with
  | nil => intro i v h; simp at h
  | cons hs _ ih =>
    intro i v h
    cases i with
    | zero => simp at h; exact ⟨_, _, _, _, h.symm, .head _, hs, .head _⟩
    | succ i =>
      obtain ⟨r, vs, nn, ss, e, m, k, q⟩ := ih (i := i) (v := v) (by simpa using h)
      exact ⟨r, vs, nn, ss, e, .tail _ m, k, .tail _ q⟩
def JoinOf (own : List (Addr × Obj)) (v y : Value) : Prop := ∃ r vs nn ss t, v = .ref r ∧ (r, W.listOf vs.toArray nn) ∈ own ∧ StrsAre vs ss ∧ y = .str (Txt.join (Str.ofString "") ss) t
theorem rows_join {own0 : List (Addr × Obj)} (hu : ∀ r o o', (r, o) ∈ own0 → (r, o') ∈ own0 → o = o') {ys : List Value} {own : List (Addr × Obj)} {rows : List (List Str)} (h : RowsAre ys own rows) : (∀ p ∈ own, p ∈ own0) → ∀ {res : List Value}, Paired (JoinOf own0) ys res → StrsAre res (rows.map (Txt.join (Str.ofString ""))) := by
  induction h with
  | nil => intro _ res h; cases h; exact .nil
  | @cons r0 vs0 nn0 ss0 _ _ _ hs _ ih =>
    intro hm res h
    cases h with
    | cons h r =>
      obtain ⟨r', vs, nn, ss, t, e, m, k, rfl⟩ := h
      cases e
      have := hu _ _ _ m (hm _ (.head _))
      have e2 : vs = vs0 := by
        have := congrArg Obj.data this
        injection this with a _
        exact congrArg Array.toList a
      subst e2
      rw [strs_fun k hs]
      exact .cons _ _ (ih (fun p hp => hm p (.tail _ hp)) r)
theorem join_len {x : List Str} {N : Nat} (hs : (x.map (·.length)).sum ≤ N) : (Txt.join (Str.ofString "") x).length ≤ N := by
  show (Builtin.Str.glued (Str.ofString "") x).length ≤ N
  rw [StrLaws.glued_eq_join]
  have := StrLaws.join_length_le (Str.ofString "") x
  have e : (Str.ofString "").length = 0 := rfl
  rw [e] at this
  omega
theorem signsT_len {sg : List Str} (hl : sg.length ≤ 64) (h1 : ∀ x ∈ sg, x.length = 1) : (signsT sg).length ≤ 66 := by
  unfold signsT
  split
  · rw [List.getD_eq_getElem?_getD]
    cases e : sg[0]? with
    | none => decide
    | some x => show x.length ≤ 66; rw [h1 x (List.mem_of_getElem? e)]; decide
  · have a : (Txt.join (Str.ofString "") sg).length ≤ 64 := join_len (Nat.le_trans (sum_le (N := 1) fun x hx => Nat.le_of_eq (h1 x hx)) (by omega))
    have b : (Str.ofString "[" ++ Txt.join (Str.ofString "") sg ++ Str.ofString "]").length = 1 + (Txt.join (Str.ofString "") sg).length + 1 := by
      rw [Str.length_append, Str.length_append]; rfl
    rw [b]; omega
theorem pieceS_len (k f p0 p1 : Int) : (pieceS k f p0 p1).length ≤ 66 := by
  unfold pieceS
  generalize (if f > 6 * k then f else 6 * k) = a
  generalize (if f + 16 < 6 * k + 6 then f + 16 else 6 * k + 6) = b
  unfold pieceG
  split
  · decide +kernel
  · exact signsT_len (signs_len _ _ _ _) (signs_one _ _ _ _)
theorem rows_small {n : Nat} {p0 p1 : Int} (hn : n ≤ 8) : ∀ ss ∈ piecesS n p0 p1, ss.length ≤ 16 ∧ ∀ x ∈ ss, x.length ≤ 66 := by
  intro ss hs
  unfold piecesS at hs
  rcases List.mem_append.mp hs with h | h
  · obtain ⟨i, hi, rfl⟩ := List.mem_map.mp h
    rw [List.mem_range] at hi
    unfold rowS
    refine ⟨by simp; omega, fun x hx => ?_⟩
    rcases List.mem_append.mp hx with h | h
    · obtain ⟨k, _, rfl⟩ := List.mem_map.mp h
      exact pieceS_len _ _ _ _
    · rw [List.mem_singleton.mp h]; decide +kernel
  · rw [List.mem_singleton.mp h]
    unfold lastS
    refine ⟨by simp; omega, fun x hx => ?_⟩
    rcases List.mem_append.mp hx with h | h
    · rw [(List.mem_replicate.mp h).2]; decide +kernel
    · rw [(List.mem_replicate.mp h).2]; decide +kernel
theorem row_sum {n : Nat} {p0 p1 : Int} (hn : n ≤ 8) {ss : List Str} (hs : ss ∈ piecesS n p0 p1) : (ss.map (·.length)).sum ≤ 1056 := by
  obtain ⟨h1, h2⟩ := rows_small hn ss hs
  exact Nat.le_trans (sum_le h2) (by omega)
/-- what is said of the patterns: short, not empty, in ASCII -/
def PatOk (x : Str) : Prop := (∀ c ∈ x.cps.toList, c < 128) ∧ 1 ≤ x.length ∧ x.length ≤ 255
def patC (ns : List Int) : List (List Int) := (pats (rowI ns).length (p0I ns) (p1I ns)).map codes
def tapeI (ns : List Int) : List Int := ((rowI ns).length : Int) :: (rowI ns ++ ((((rowI ns).length : Int) :: rowI ns) ++ (patC ns).flatMap fun xs => (xs.length : Int) :: xs))
def sizeI (ns : List Int) : Int := (((pats (rowI ns).length (p0I ns) (p1I ns)).getLast?.getD Str.empty).length : Int)
inductive S6 (g : Heap) (L : Nat) (o3 o4 : Obj) (ns : List Int) (s1 : Shared) : Shared → Prop where
  | mk (tt tz : Tok) (bt : Array UInt8) (QA : Nat) (qs : List Value) (nQ PA : Nat) (ys : List Value) (nP pA nA : Nat) (t0 t1 : Tok) (rowA : Nat) (rvs : Array Value) (nr : Nat) (oR oP : Obj) (own : List (Addr × Obj)) (h : Heap) (tk : Nat) (m : Str → Option Value) : Fr g L h m → m (Str.ofString "pieces") = some (.ref PA) → m (Str.ofString "patterns") = some (.ref QA) → m (Str.ofString "tape") = some (.bytes bt tt) → m (Str.ofString "size") = some (.int (sizeI ns) tz) → KBw.bInts bt = tapeI ns → News g L h ((QA, W.listOf qs.toArray nQ) :: (PA, W.listOf ys.toArray nP) :: (pA, W.listOf [Value.int (p0I ns) t0, .int (p1I ns) t1].toArray nA) :: (rowA, W.listOf rvs nr) :: (L + 1 + 1 + 1 + 1, o4) :: (L + 1 + 1 + 1, o3) :: (L + 1 + 1, oP) :: (L + 1, oR) :: (136, tabObj #[]) :: (129, tabObj #[]) :: own) → IntsAre rvs.toList (rowI ns) → RowsAre ys own (piecesS (rowI ns).length (p0I ns) (p1I ns)) → StrsAre qs (pats (rowI ns).length (p0I ns) (p1I ns)) → oR.data = .cell (some (.ref rowA)) → oP.data = .cell (some (.ref pA)) → L + 4 < rowA → L + 4 < pA → ((PA ≠ L + 1 + 1 + 1 + 1 ∧ PA ≠ L + 1 + 1 + 1 ∧ PA ≠ 136 ∧ PA ≠ 129)) → ((QA ≠ L + 1 + 1 + 1 + 1 ∧ QA ≠ L + 1 + 1 + 1 ∧ QA ≠ 136 ∧ QA ≠ 129)) → OwnOff own [L + 1 + 1 + 1 + 1, L + 1 + 1 + 1, 136, 129] → S6 g L o3 o4 ns s1 { s1 with heap := h, toks := tk }
theorem S6.elim {g : Heap} {L : Nat} {o3 o4 : Obj} {ns : List Int} {s1 : Shared} {P : Shared → Prop} (k : ∀ (tt tz : Tok) (bt : Array UInt8) (QA : Nat) (qs : List Value) (nQ PA : Nat) (ys : List Value) (nP pA nA : Nat) (t0 t1 : Tok) (rowA : Nat) (rvs : Array Value) (nr : Nat) (oR oP : Obj) (own : List (Addr × Obj)) (h : Heap) (tk : Nat) (m : Str → Option Value), Fr g L h m → m (Str.ofString "pieces") = some (.ref PA) → m (Str.ofString "patterns") = some (.ref QA) → m (Str.ofString "tape") = some (.bytes bt tt) → m (Str.ofString "size") = some (.int (sizeI ns) tz) → KBw.bInts bt = tapeI ns → News g L h ((QA, W.listOf qs.toArray nQ) :: (PA, W.listOf ys.toArray nP) :: (pA, W.listOf [Value.int (p0I ns) t0, .int (p1I ns) t1].toArray nA) :: (rowA, W.listOf rvs nr) :: (L + 1 + 1 + 1 + 1, o4) :: (L + 1 + 1 + 1, o3) :: (L + 1 + 1, oP) :: (L + 1, oR) :: (136, tabObj #[]) :: (129, tabObj #[]) :: own) → IntsAre rvs.toList (rowI ns) → RowsAre ys own (piecesS (rowI ns).length (p0I ns) (p1I ns)) → StrsAre qs (pats (rowI ns).length (p0I ns) (p1I ns)) → oR.data = .cell (some (.ref rowA)) → oP.data = .cell (some (.ref pA)) → L + 4 < rowA → L + 4 < pA → ((PA ≠ L + 1 + 1 + 1 + 1 ∧ PA ≠ L + 1 + 1 + 1 ∧ PA ≠ 136 ∧ PA ≠ 129)) → ((QA ≠ L + 1 + 1 + 1 + 1 ∧ QA ≠ L + 1 + 1 + 1 ∧ QA ≠ 136 ∧ QA ≠ 129)) → OwnOff own [L + 1 + 1 + 1 + 1, L + 1 + 1 + 1, 136, 129] → P { s1 with heap := h, toks := tk }) : ∀ s₂, S6 g L o3 o4 ns s1 s₂ → P s₂ := fun _ H => H.casesOn (motive := fun s₂ _ => P s₂) k
section
variable {prog : Program} {w : World} {A : Around} {E : Value → Shared → Prop} {s : Shared} {g : Heap} {L : Addr} {m : Str → Option Value} {news : List (Addr × Obj)}
theorem mul_two {l : Addr} {arr : Array Value} {k : Nat} {u : Tok} {Q : Value → Shared → Prop} (F : Fr g L s.heap m) (N : News g L s.heap news) (hm : (l, W.listOf arr k) ∈ news) {xs : List Int} (hi : IntsAre arr.toList xs) (hx : xs.length ≤ 1000)
    (h : ∀ D h', Fr g L h' m → News g L h' ((D, W.listOf (arr ++ arr) 0) :: news) → (∀ p ∈ news, p.1 < D) → Q (.ref D) { s with heap := h' }) : wpAny (model prog w) A (binaryOp .Mult (.ref l) (.int 2 u)) Q E s :=
  mul_list F N (N _ hm).1 (by omega) (by omega) (by have : sizeLine = 16777216 := sizeLine_eq; have hl := hi.length; rw [Array.length_toList] at hl; show arr.size * 2 ≤ _; omega) fun h' F' N' => by
    refine h _ h' F' ?_ (fun p hp => Heap.lt_size (N p hp).1)
    have e : (List.foldl (fun x1 x2 => x1 ++ x2) #[] (List.replicate (if arr.isEmpty = true then 0 else (2 : Int).toNat) arr)) = arr ++ arr := by
      cases hb : arr.isEmpty with
      | true =>
        have : arr = #[] := by simpa using hb
        subst this; rfl
      | false => show #[] ++ arr ++ arr = arr ++ arr; rw [Array.empty_append]
    rw [e] at N'
    exact N'
theorem mk_two {D : Addr} {ws : List Value} {xs : List Int} {k : Nat} {Q : Value → Shared → Prop} (F : Fr g L s.heap m) (N : News g L s.heap news) (hh : A.handled = none) (hm : (D, W.listOf (ws.toArray ++ ws.toArray) k) ∈ news) (hi : IntsAre ws xs) (hr : ∀ x ∈ xs, 0 ≤ x ∧ x < 256) (hn : xs.length ≤ 1000)
    (h : ∀ h' b t' k, Fr g L h' m → News g L h' news → KBw.bInts b = xs ++ xs → Q (.bytes b t') { s with heap := h', toks := k }) : wpAny (model prog w) A (call (.type "bytes") [.ref D]) Q E s := by
  have hl : s.heap.IsList D (ws ++ ws).toArray := by
    have := News.isList N hm
    rwa [List.append_toArray] at this
  have hin : KBa.In (xs ++ xs) := fun n hn => (List.mem_append.mp hn).elim (hr n) (hr n)
  refine KBa.make_K F N hh hl (IntsAre.append hi hi) hin (by rw [List.length_append]; omega) fun h' t' k F' N' _ => h h' _ t' k F' N' (KBa.ints_make hin)
theorem mk_one {D : Addr} {n : Int} {t : Tok} {k : Nat} {Q : Value → Shared → Prop} (F : Fr g L s.heap m) (N : News g L s.heap news) (hh : A.handled = none) (hm : (D, W.listOf [Value.int n t].toArray k) ∈ news) (h0 : 0 ≤ n) (h1 : n < 256)
    (h : ∀ h' b t' k, Fr g L h' m → News g L h' news → KBw.bInts b = [n] → Kp s.heap h' → Q (.bytes b t') { s with heap := h', toks := k }) : wpAny (model prog w) A (call (.type "bytes") [.ref D]) Q E s := by
  have hin : KBa.In [n] := fun x hx => by rw [List.mem_singleton.mp hx]; exact ⟨h0, h1⟩
  exact call_bytes_ints (News.isList N hm) (.cons n t .nil) hin (by have : sizeLine = 16777216 := sizeLine_eq; simp; omega) hh fun h' t' k hk => h h' _ t' k (F.keptAll hk) (N.grown hk) (KBa.ints_make hin) hk
theorem bytes_add {b c : Array UInt8} {ks ls : List Int} {t u : Tok} {Q : Value → Shared → Prop} (hb : KBw.bInts b = ks) (hc : KBw.bInts c = ls) (h1 : ks.length ≤ 50000) (h2 : ls.length ≤ 50000) (h : ∀ b' t' k, KBw.bInts b' = ks ++ ls → Q (.bytes b' t') { s with toks := k }) : wpAny (model prog w) A (binaryOp .Add (.bytes b t) (.bytes c u)) Q E s :=
  KBa.add_K hb hc (by omega) fun t' k e => h _ t' k e
end
theorem gm_encode {M : Model} {A : Around} {E2 : Value → Shared → Prop} {s : Shared} {x : Str} {t : Tok} {pl : Sem Bool} {Q : Value × List Value → Shared → Prop} (h : Q (.builtin "str.encode", [.str x t]) s) : wpAny M A (getMethod (.str x t) (Str.ofString "encode") pl) Q E2 s := by
  with_reducible exact GM.of (.str x t) (typeIs_str _ _ _) F.slot_str_encode F.type_str_encode GM.noRef h
theorem BytesAre.len {vs : List Value} {kss : List (List Int)} (h : BytesAre vs kss) : vs.length = kss.length := by
  induction h with
  | nil => rfl
  | cons _ _ _ ih => rw [List.length_cons, List.length_cons, ih]
def EncOf (v y : Value) : Prop := ∃ x t b u, v = .str x t ∧ y = .bytes b u ∧ KBw.bInts b = [(x.length : Int)] ++ codes x
theorem enc_all {qs : List Value} {xs : List Str} (h : StrsAre qs xs) : ∀ {res : List Value}, Paired EncOf qs res → BytesAre res (xs.map fun x => [(x.length : Int)] ++ codes x) := by
  induction h with
  | nil => intro res h; cases h; exact .nil
  | cons y t _ ih =>
    intro res h
    cases h with
    | cons h r =>
      obtain ⟨x, t', b, u, e, rfl, hb⟩ := h
      cases e
      exact .cons u hb (ih r)
theorem flat_pat (l : List Str) : (l.map fun x => [(x.length : Int)] ++ codes x).flatten = (l.map codes).flatMap fun xs => (xs.length : Int) :: xs := by
  induction l with
  | nil => rfl
  | cons x l ih =>
    rw [List.map_cons, List.flatten_cons, ih, List.map_cons, List.flatMap_cons, codes_len]
    rfl
theorem strs_get {vs : List Value} {xs : List Str} (h : StrsAre vs xs) : ∀ {i : Nat} {v : Value}, vs.toArray[i]? = some v → ∃ x t, v = .str x t ∧ x ∈ xs := by
  induction h with
  | nil => intro i v h; simp at h
  | cons y t _ ih =>
    intro i v h
    cases i with
    | zero => simp at h; exact ⟨y, t, h.symm, .head _⟩
    | succ i =>
      obtain ⟨x, t', e, m⟩ := ih (i := i) (v := v) (by simpa using h)
      exact ⟨x, t', e, .tail _ m⟩
theorem flat_len {l : List Str} (h : ∀ x ∈ l, x.length ≤ 255) : ((l.map codes).flatMap fun xs => (xs.length : Int) :: xs).length ≤ 256 * l.length := by
  induction l with
  | nil => simp
  | cons x l ih =>
    have h1 := h x (.head _)
    have h2 := ih fun y hy => h y (.tail _ hy)
    rw [List.map_cons, List.flatMap_cons, List.length_append, List.length_cons, List.length_cons, codes_len]
    omega
theorem item_lastq {prog : Program} {w : World} {A : Around} {E : Value → Shared → Prop} {s : Shared} {value slice : Expr} {l : Addr} {qs us : List Value} {v : Value} {u : Tok} {Q : Value → Shared → Prop} (hq : qs = us ++ [v]) (hl : s.heap.IsList l qs.toArray) (hn : us.length < 2 ^ 62) (h : Q v s)
    (hs : subscripted slice false (.ref l) (.int (-1) u) = operate [.ref l, .int (-1) u] (getItem (.ref l) (.int (-1) u)) := by with_unfolding_all rfl) :
    wpAny (model prog w) A (subscriptTail value slice (.ref l) (.int (-1) u)) Q E s := by
  subst hq
  exact item_end hl hn h hs
theorem size_last {ns : List Int} {yl : List Str} {y : Str} (h : pats (rowI ns).length (p0I ns) (p1I ns) = yl ++ [y]) : sizeI ns = (y.length : Int) := by
  unfold sizeI
  rw [h]; simp
theorem tape_eq {ns : List Int} : (([((rowI ns).length : Int)] ++ rowI ns) ++ ([((rowI ns).length : Int)] ++ rowI ns)) ++ ((pats (rowI ns).length (p0I ns) (p1I ns)).map fun x => [(x.length : Int)] ++ codes x).flatten = tapeI ns := by
  rw [flat_pat]
  unfold tapeI patC
  simp
end Mine
end
/-! LawQ -/
section
open PySem.Calls
set_option maxHeartbeats 1000000
set_option maxRecDepth 100000
namespace Mine
def nSel (a b c : Nat) : List Nat := (List.range 64).filter fun i => decide (i / 2 ^ a % 2 ^ b = c)
theorem p2_nat (a : Nat) : p2 (a : Int) = ((2 ^ a : Nat) : Int) := by
  unfold p2
  rw [Int.toNat_natCast, Int.natCast_pow]; rfl
theorem pieceQ_nat (a b c i : Nat) : pieceQ (a : Int) (b : Int) (c : Int) i = decide (i / 2 ^ a % 2 ^ b = c) := by
  unfold pieceQ
  rw [p2_nat, p2_nat]
  have e : ((i : Int) / ((2 ^ a : Nat) : Int) % ((2 ^ b : Nat) : Int) = (c : Int)) ↔ (i / 2 ^ a % 2 ^ b = c) := by
    rw [← Int.natCast_ediv, ← Int.natCast_emod]; omega
  simp only [e]
theorem sel_nat (a b c : Nat) : (List.range 64).filter (pieceQ (a : Int) (b : Int) (c : Int)) = nSel a b c := by
  unfold nSel
  exact List.filter_congr fun i _ => pieceQ_nat a b c i
def abOk (a b : Nat) : Bool := (a == 0 && b == 2) || (a == 0 && b == 4) || (a == 0 && b == 6) || (a == 2 && b == 2) || (a == 2 && b == 4) || (a == 4 && b == 2)
theorem nSel_len : ∀ a < 6, ∀ b < 7, abOk a b = true → ∀ c < 64, (nSel a b c).length ≤ 16 := by decide +kernel
theorem ab_cases {k f : Nat} {fst lst : Int} (hf : f % 2 = 0) (h1 : fst = if (f : Int) > 6 * (k : Int) then (f : Int) else 6 * (k : Int)) (h2 : lst = if (f : Int) + 16 < 6 * (k : Int) + 6 then (f : Int) + 16 else 6 * (k : Int) + 6) (h : fst < lst) :
    ∃ a b : Nat, 6 * (k : Int) + 6 - lst = (a : Int) ∧ lst - fst = (b : Int) ∧ a < 6 ∧ b < 7 ∧ abOk a b = true := by
  refine ⟨(6 * (k : Int) + 6 - lst).toNat, (lst - fst).toNat, ?_, ?_, ?_, ?_, ?_⟩
  · split at h2 <;> split at h1 <;> omega +splitDisjunctions
  · omega +splitDisjunctions
  · split at h2 <;> split at h1 <;> omega +splitDisjunctions
  · split at h2 <;> split at h1 <;> omega +splitDisjunctions
  · have ha : (6 * (k : Int) + 6 - lst).toNat = 0 ∨ (6 * (k : Int) + 6 - lst).toNat = 2 ∨ (6 * (k : Int) + 6 - lst).toNat = 4 := by split at h2 <;> split at h1 <;> omega +splitDisjunctions
    have hb : (lst - fst).toNat = 2 ∨ (lst - fst).toNat = 4 ∨ (lst - fst).toNat = 6 := by split at h2 <;> split at h1 <;> omega +splitDisjunctions
    have hs : (6 * (k : Int) + 6 - lst).toNat + (lst - fst).toNat ≤ 6 := by split at h2 <;> split at h1 <;> omega +splitDisjunctions
    rcases ha with ha | ha | ha <;> rcases hb with hb | hb | hb <;> rw [ha, hb] at hs ⊢ <;> first | rfl | omega +splitDisjunctions
/-- a piece is a question mark, or made of the signs of a set nSel a b c -/
theorem pieceS_as {k f : Nat} {p0 p1 : Int} (hf : f % 2 = 0) (h0 : 0 ≤ p0) (h1 : 0 ≤ p1) : pieceS (k : Int) (f : Int) p0 p1 = Str.ofString "?" ∨
    ∃ a b c : Nat, a < 6 ∧ b < 7 ∧ abOk a b = true ∧ c < 2 ^ b ∧ pieceS (k : Int) (f : Int) p0 p1 = signsT ((nSel a b c).map fun (i : Nat) => Txt.item alphaS (i : Int)) := by
  unfold pieceS
  generalize e1 : (if (f : Int) > 6 * (k : Int) then (f : Int) else 6 * (k : Int)) = fst
  generalize e2 : (if (f : Int) + 16 < 6 * (k : Int) + 6 then (f : Int) + 16 else 6 * (k : Int) + 6) = lst
  unfold pieceG
  by_cases h : lst ≤ fst
  · rw [if_pos h]; exact .inl rfl
  · rw [if_neg h]
    right
    obtain ⟨a, b, ha, hb, la, lb, ok⟩ := ab_cases hf e1.symm e2.symm (by omega)
    have hpos : 0 < p2 (b : Int) := p2_pos _
    have hc0 : 0 ≤ (p0 * 256 + p1) / p2 ((f : Int) + 16 - lst) % p2 (b : Int) := Int.emod_nonneg _ (by omega)
    have hc1 : (p0 * 256 + p1) / p2 ((f : Int) + 16 - lst) % p2 (b : Int) < p2 (b : Int) := Int.emod_lt_of_pos _ hpos
    rw [ha, hb]
    generalize hcq : (p0 * 256 + p1) / p2 ((f : Int) + 16 - lst) % p2 (b : Int) = q at *
    obtain ⟨c, rfl⟩ := Int.eq_ofNat_of_zero_le hc0
    rw [p2_nat] at hc1
    refine ⟨a, b, c, la, lb, ok, by omega, ?_⟩
    unfold signsS
    rw [sel_nat]
def Asc (x : Str) : Prop := ∀ c ∈ x.cps.toList, c < 128
theorem asc_app {x y : Str} (hx : Asc x) (hy : Asc y) : Asc (x ++ y) := fun c hc => by
  have : c ∈ (x.cps ++ y.cps).toList := hc
  rw [Array.toList_append] at this
  exact (List.mem_append.mp this).elim (hx c) (hy c)
theorem asc_lit {t : Str} (h : (t.cps.toList.all fun c => decide (c < 128)) = true) : Asc t := fun c hc => by simpa using List.all_eq_true.mp h c hc
theorem alpha_asc : ∀ i < 64, ((Txt.item alphaS ((i : Nat) : Int)).cps.toList.all fun c => decide (c < 128)) = true := by decide +kernel
theorem nSel_lt {a b c i : Nat} (h : i ∈ nSel a b c) : i < 64 := List.mem_range.mp (List.mem_filter.mp h).1
theorem nSel_pos : ∀ a < 6, ∀ b < 7, abOk a b = true → ∀ c < 2 ^ b, 1 ≤ (nSel a b c).length := by decide +kernel
theorem asc_join {l : List Str} (h : ∀ x ∈ l, Asc x) : Asc (Txt.join (Str.ofString "") l) := by
  have key : ∀ l : List Str, (∀ x ∈ l, Asc x) → Asc (Str.join ⟨#[]⟩ l) := by
    intro l
    induction l with
    | nil => intro _; exact fun c hc => by cases hc
    | cons x r ih =>
      intro h
      rw [PyProof.Rows.join_nil_cons]
      exact asc_app (h x (.head _)) (ih fun y hy => h y (.tail _ hy))
  show Asc (Builtin.Str.glued ⟨#[]⟩ l)
  rw [StrLaws.glued_eq_join]
  exact key l h
theorem signs_ok {l : List Nat} (hl : ∀ i ∈ l, i < 64) (h1 : 1 ≤ l.length) (h2 : l.length ≤ 16) : Asc (signsT (l.map fun (i : Nat) => Txt.item alphaS (i : Int))) ∧ 1 ≤ (signsT (l.map fun (i : Nat) => Txt.item alphaS (i : Int))).length ∧ (signsT (l.map fun (i : Nat) => Txt.item alphaS (i : Int))).length ≤ 18 := by
  have ha : ∀ x ∈ l.map (fun (i : Nat) => Txt.item alphaS (i : Int)), Asc x ∧ x.length = 1 := fun x hx => by
    obtain ⟨i, hi, rfl⟩ := List.mem_map.mp hx
    exact ⟨asc_lit (alpha_asc i (hl i hi)), rfl⟩
  have hln : (l.map fun (i : Nat) => Txt.item alphaS (i : Int)).length = l.length := List.length_map _
  generalize l.map (fun (i : Nat) => Txt.item alphaS (i : Int)) = sg at *
  unfold signsT
  split
  · have : sg.getD 0 Str.empty ∈ sg := by
      cases sg with
      | nil => simp at hln; omega
      | cons x r => exact .head _
    obtain ⟨a, b⟩ := ha _ this
    exact ⟨a, by omega, by omega⟩
  · have a : (Txt.join (Str.ofString "") sg).length ≤ 16 := join_len (Nat.le_trans (sum_le (N := 1) fun x hx => Nat.le_of_eq (ha x hx).2) (by omega))
    have b : (Str.ofString "[" ++ Txt.join (Str.ofString "") sg ++ Str.ofString "]").length = 1 + (Txt.join (Str.ofString "") sg).length + 1 := by
      rw [Str.length_append, Str.length_append]; rfl
    refine ⟨asc_app (asc_app (asc_lit (by decide +kernel)) (asc_join fun x hx => (ha x hx).1)) (asc_lit (by decide +kernel)), by omega, by omega⟩
theorem nSel_len2 {a b c : Nat} (ha : a < 6) (hb : b < 7) (ok : abOk a b = true) (hc : c < 2 ^ b) : (nSel a b c).length ≤ 16 := by
  have : 2 ^ b ≤ 2 ^ 6 := Nat.pow_le_pow_right (by decide) (by omega)
  exact nSel_len a ha b hb ok c (by omega)
theorem piece_ok {k f : Nat} {p0 p1 : Int} (hf : f % 2 = 0) (h0 : 0 ≤ p0) (h1 : 0 ≤ p1) : Asc (pieceS (k : Int) (f : Int) p0 p1) ∧ 1 ≤ (pieceS (k : Int) (f : Int) p0 p1).length ∧ (pieceS (k : Int) (f : Int) p0 p1).length ≤ 18 := by
  rcases pieceS_as (k := k) hf h0 h1 with e | ⟨a, b, c, la, lb, ok, hc, e⟩
  · rw [e]; exact ⟨asc_lit (by decide +kernel), by decide +kernel, by decide +kernel⟩
  · rw [e]; exact signs_ok (fun i hi => nSel_lt hi) (nSel_pos a la b lb ok c hc) (nSel_len2 la lb ok hc)
theorem join_len_eq (l : List Str) : (Txt.join (Str.ofString "") l).length = (l.map (·.length)).sum := by
  show (Builtin.Str.glued ⟨#[]⟩ l).length = _
  rw [StrLaws.glued_eq_join]
  induction l with
  | nil => rfl
  | cons x r ih =>
    rw [PyProof.Rows.join_nil_cons, Str.length_append, ih, List.map_cons, List.sum_cons]
theorem pats_okQ {n : Nat} {p0 p1 : Int} (h5 : 5 ≤ n) (h8 : n ≤ 8) (h0 : 0 ≤ p0) (h1 : 0 ≤ p1) : ∀ x ∈ pats n p0 p1, PatOk x := by
  intro x hx
  obtain ⟨ss, hs, rfl⟩ := List.mem_map.mp hx
  have key : (∀ y ∈ ss, Asc y ∧ 1 ≤ y.length) ∧ 1 ≤ ss.length ∧ (ss.map (·.length)).sum ≤ 255 := by
    unfold piecesS at hs
    rcases List.mem_append.mp hs with h | h
    · obtain ⟨i, hi, rfl⟩ := List.mem_map.mp h
      rw [List.mem_range] at hi
      have hp : ∀ y ∈ (List.range ((8 * i + 21) / 6)).map (fun (k : Nat) => pieceS (k : Int) (8 * (i : Int)) p0 p1), Asc y ∧ 1 ≤ y.length ∧ y.length ≤ 18 := fun y hy => by
        obtain ⟨k, _, rfl⟩ := List.mem_map.mp hy
        have e : (8 * (i : Int)) = ((8 * i : Nat) : Int) := by omega
        rw [e]
        exact piece_ok (by omega) h0 h1
      unfold rowS
      refine ⟨fun y hy => ?_, by simp, ?_⟩
      · rcases List.mem_append.mp hy with h | h
        · exact ⟨(hp y h).1, (hp y h).2.1⟩
        · rw [List.mem_singleton.mp h]; exact ⟨asc_lit (by decide +kernel), by decide +kernel⟩
      · rw [List.map_append, List.sum_append]
        have a := sum_le (N := 18) (l := (List.range ((8 * i + 21) / 6)).map (fun (k : Nat) => pieceS (k : Int) (8 * (i : Int)) p0 p1)) fun y hy => (hp y hy).2.2
        rw [List.length_map, List.length_range] at a
        have b : ([Str.ofString "*"].map (·.length)).sum = 1 := by decide +kernel
        rw [b]; omega
    · rw [List.mem_singleton.mp h]
      unfold lastS
      have hp : ∀ y ∈ List.replicate ((8 * n + 5) / 6) (Str.ofString "?") ++ List.replicate ((-(n : Int)) % 3).toNat (Str.ofString "="), Asc y ∧ 1 ≤ y.length ∧ y.length ≤ 1 := fun y hy => by
        rcases List.mem_append.mp hy with h | h <;> rw [(List.mem_replicate.mp h).2] <;> exact ⟨asc_lit (by decide +kernel), by decide +kernel, by decide +kernel⟩
      refine ⟨fun y hy => ⟨(hp y hy).1, (hp y hy).2.1⟩, by simp; omega, ?_⟩
      have a := sum_le (N := 1) fun y hy => (hp y hy).2.2
      rw [List.length_append, List.length_replicate, List.length_replicate] at a
      omega
  obtain ⟨k1, k2, k3⟩ := key
  refine ⟨asc_join fun y hy => (k1 y hy).1, ?_, ?_⟩
  · rw [join_len_eq]
    cases ss with
    | nil => simp at k2
    | cons y r => have := (k1 y (.head _)).2; rw [List.map_cons, List.sum_cons]; omega
  · rw [join_len_eq]; exact k3
theorem pats_ok {ns : List Int} : ∀ x ∈ pats (rowI ns).length (p0I ns) (p1I ns), PatOk x :=
  pats_okQ (rowI_ge ns) (rowI_le ns) (getD_in (rowI_in ns) _).1 (getD_in (rowI_in ns) _).1
end Mine
end
/-! LawR -/
section
open PySem.Calls
set_option maxHeartbeats 1000000
set_option maxRecDepth 100000
namespace Mine
theorem sl_but {prog : Program} {w : World} {A : Around} {E : Value → Shared → Prop} {s : Shared} {value slice : Expr} {b : Array UInt8} {t ut : Tok} {g : Heap} {L : Addr} {m : Str → Option Value} {news : List (Addr × Obj)} {Q : Value → Shared → Prop} {ks : List Int} (F : Fr g L s.heap m) (N : News g L s.heap news) (hk : KBw.bInts b = ks) (hz : ks.length ≤ 100000)
    (h : ∀ h' b' t' k, Fr g L h' m → News g L h' news → KBw.bInts b' = ks.dropLast → Q (.bytes b' t') { s with heap := h', toks := k })
    (hs : subscripted slice false (.bytes b t) (.ref s.heap.objs.size) = operate [.ref s.heap.objs.size, .bytes b t] (getItem (.bytes b t) (.ref s.heap.objs.size)) := by with_unfolding_all rfl)
    (ht : ∀ r, letTemporaryGo value (.bytes b t) r = pure () := by intro _; with_unfolding_all rfl) :
    wpAny (model prog w) A (subscriptTail value slice (.bytes b t) (.ref s.heap.objs.size)) Q E { s with heap := s.heap.push { cls := .type "slice", data := .fields #[.none, .int (-1) ut, .none] } } :=
  KBc.slice_K F N hk .none (.int _ _) (by omega) (fun h' t' k F' N' e => h h' _ t' k F' N' (by
    rw [e]
    have := clipAt_neg ks.length 1 (Nat.le_refl _)
    have h2 : clipAt ks.length (-1) = ks.length - 1 := this
    simp only [Option.elim, List.drop_zero, Nat.sub_zero, h2]
    rw [List.dropLast_eq_take])) hs ht
theorem tape_told (ns : List Int) : tapeI ns = ((rowI ns).length : Int) :: (rowI ns ++ (encs (rowI ns :: patC ns) ++ [])) := by
  rw [List.append_nil, encs_cons]
  rfl
theorem encs_app (a b : List (List Int)) : encs (a ++ b) = encs a ++ encs b := by
  unfold encs
  rw [List.flatMap_append]
theorem tape_shorn {ns : List Int} {yl : List Str} {y : Str} (h : pats (rowI ns).length (p0I ns) (p1I ns) = yl ++ [y]) (hy : 1 ≤ y.length) :
    (tapeI ns).dropLast = ((rowI ns).length : Int) :: (rowI ns ++ (encs (rowI ns :: yl.map codes) ++ ((((codes y).dropLast.length + 1 : Nat) : Int) :: (codes y).dropLast))) := by
  have hc := codes_len y
  have e1 : patC ns = yl.map codes ++ [codes y] := by
    unfold patC; rw [h, List.map_append]; rfl
  have e2 : codes y ≠ [] := fun q => by rw [q] at hc; simp at hc; omega
  have e3 : (((codes y).dropLast.length + 1 : Nat) : Int) = ((codes y).length : Int) := by
    rw [List.length_dropLast]; omega
  have e4 : tapeI ns = (((rowI ns).length : Int) :: (rowI ns ++ (encs (rowI ns :: yl.map codes) ++ [((codes y).length : Int)]))) ++ codes y := by
    rw [tape_told, List.append_nil, e1, show rowI ns :: (yl.map codes ++ [codes y]) = (rowI ns :: yl.map codes) ++ [codes y] from rfl, encs_app]
    have : encs [codes y] = ((codes y).length : Int) :: codes y := by unfold encs; simp
    rw [this]; simp
  rw [e4, List.dropLast_append_of_ne_nil e2, e3]
  simp
inductive S7 (g : Heap) (L : Nat) (o3 o4 : Obj) (ns : List Int) (s1 : Shared) : Shared → Prop where
  | mk (D1 T1 : Nat) (br1 : Array UInt8) (tb1 tm1 : Tok) (vs1 : List Value) (n1 : Nat) (D2 T2 : Nat) (br2 : Array UInt8) (tb2 tm2 : Tok) (vs2 : List Value) (n2 : Nat) (ps : Array Value) (tx tz : Tok) (yl : List Str) (y : Str) (QA : Nat) (qs : List Value) (nQ PA : Nat) (ys : List Value) (nP pA nA : Nat) (t0 t1 : Tok) (rowA : Nat) (rvs : Array Value) (nr : Nat) (oR oP : Obj) (own : List (Addr × Obj)) (h : Heap) (tk : Nat) (m : Str → Option Value) : Fr g L h m → m (Str.ofString "pieces") = some (.ref PA) → m (Str.ofString "patterns") = some (.ref QA) → m (Str.ofString "told") = some (.ref D1) → m (Str.ofString "shorn") = some (.ref D2) → m (Str.ofString "text") = some (.str (latN (rowI ns)) tx) → m (Str.ofString "size") = some (.int (sizeI ns) tz) → News g L h ((D2, W.listOf [Value.bytes br2 tb2, .ref T2, .str (Str.ofString "expected " ++ Str.ofString (toString ((sizeI ns) : Int)) ++ Str.ofString " bytes in a string1, but only " ++ Str.ofString (toString ((sizeI ns - 1) : Int)) ++ Str.ofString " remain") tm2].toArray 0) :: (T2, W.listOf vs2.toArray n2) :: (D1, W.listOf [Value.bytes br1 tb1, .ref T1, .str (Str.ofString "not enough data in stream to read uint1") tm1].toArray 0) :: (T1, W.listOf vs1.toArray n1) :: (QA, W.listOf qs.toArray nQ) :: (PA, W.listOf ys.toArray nP) :: (pA, W.listOf [Value.int (p0I ns) t0, .int (p1I ns) t1].toArray nA) :: (rowA, W.listOf rvs nr) :: (L + 1 + 1 + 1 + 1, o4) :: (L + 1 + 1 + 1, o3) :: (L + 1 + 1, oP) :: (L + 1, oR) :: (136, tabObj ps) :: (129, tabObj #[]) :: own) → KBw.bInts br1 = rowI ns → KBw.bInts br2 = rowI ns → StrsAre vs1 ((rowI ns :: patC ns).map latN) → StrsAre vs2 ((rowI ns :: yl.map codes).map latN) → pats (rowI ns).length (p0I ns) (p1I ns) = yl ++ [y] → IntsAre rvs.toList (rowI ns) → RowsAre ys own (piecesS (rowI ns).length (p0I ns) (p1I ns)) → StrsAre qs (pats (rowI ns).length (p0I ns) (p1I ns)) → oR.data = .cell (some (.ref rowA)) → oP.data = .cell (some (.ref pA)) → L + 4 < rowA → L + 4 < pA → ((PA ≠ L + 1 + 1 + 1 + 1 ∧ PA ≠ L + 1 + 1 + 1 ∧ PA ≠ 136 ∧ PA ≠ 129)) → ((QA ≠ L + 1 + 1 + 1 + 1 ∧ QA ≠ L + 1 + 1 + 1 ∧ QA ≠ 136 ∧ QA ≠ 129)) → OwnOff own [L + 1 + 1 + 1 + 1, L + 1 + 1 + 1, 136, 129] → ((L + 4 < D1 ∧ L + 4 < T1 ∧ L + 4 < D2 ∧ L + 4 < T2)) → S7 g L o3 o4 ns s1 { s1 with heap := h, toks := tk }
theorem S7.elim {g : Heap} {L : Nat} {o3 o4 : Obj} {ns : List Int} {s1 : Shared} {P : Shared → Prop} (k : ∀ (D1 T1 : Nat) (br1 : Array UInt8) (tb1 tm1 : Tok) (vs1 : List Value) (n1 : Nat) (D2 T2 : Nat) (br2 : Array UInt8) (tb2 tm2 : Tok) (vs2 : List Value) (n2 : Nat) (ps : Array Value) (tx tz : Tok) (yl : List Str) (y : Str) (QA : Nat) (qs : List Value) (nQ PA : Nat) (ys : List Value) (nP pA nA : Nat) (t0 t1 : Tok) (rowA : Nat) (rvs : Array Value) (nr : Nat) (oR oP : Obj) (own : List (Addr × Obj)) (h : Heap) (tk : Nat) (m : Str → Option Value), Fr g L h m → m (Str.ofString "pieces") = some (.ref PA) → m (Str.ofString "patterns") = some (.ref QA) → m (Str.ofString "told") = some (.ref D1) → m (Str.ofString "shorn") = some (.ref D2) → m (Str.ofString "text") = some (.str (latN (rowI ns)) tx) → m (Str.ofString "size") = some (.int (sizeI ns) tz) → News g L h ((D2, W.listOf [Value.bytes br2 tb2, .ref T2, .str (Str.ofString "expected " ++ Str.ofString (toString ((sizeI ns) : Int)) ++ Str.ofString " bytes in a string1, but only " ++ Str.ofString (toString ((sizeI ns - 1) : Int)) ++ Str.ofString " remain") tm2].toArray 0) :: (T2, W.listOf vs2.toArray n2) :: (D1, W.listOf [Value.bytes br1 tb1, .ref T1, .str (Str.ofString "not enough data in stream to read uint1") tm1].toArray 0) :: (T1, W.listOf vs1.toArray n1) :: (QA, W.listOf qs.toArray nQ) :: (PA, W.listOf ys.toArray nP) :: (pA, W.listOf [Value.int (p0I ns) t0, .int (p1I ns) t1].toArray nA) :: (rowA, W.listOf rvs nr) :: (L + 1 + 1 + 1 + 1, o4) :: (L + 1 + 1 + 1, o3) :: (L + 1 + 1, oP) :: (L + 1, oR) :: (136, tabObj ps) :: (129, tabObj #[]) :: own) → KBw.bInts br1 = rowI ns → KBw.bInts br2 = rowI ns → StrsAre vs1 ((rowI ns :: patC ns).map latN) → StrsAre vs2 ((rowI ns :: yl.map codes).map latN) → pats (rowI ns).length (p0I ns) (p1I ns) = yl ++ [y] → IntsAre rvs.toList (rowI ns) → RowsAre ys own (piecesS (rowI ns).length (p0I ns) (p1I ns)) → StrsAre qs (pats (rowI ns).length (p0I ns) (p1I ns)) → oR.data = .cell (some (.ref rowA)) → oP.data = .cell (some (.ref pA)) → L + 4 < rowA → L + 4 < pA → ((PA ≠ L + 1 + 1 + 1 + 1 ∧ PA ≠ L + 1 + 1 + 1 ∧ PA ≠ 136 ∧ PA ≠ 129)) → ((QA ≠ L + 1 + 1 + 1 + 1 ∧ QA ≠ L + 1 + 1 + 1 ∧ QA ≠ 136 ∧ QA ≠ 129)) → OwnOff own [L + 1 + 1 + 1 + 1, L + 1 + 1 + 1, 136, 129] → ((L + 4 < D1 ∧ L + 4 < T1 ∧ L + 4 < D2 ∧ L + 4 < T2)) → P { s1 with heap := h, toks := tk }) : ∀ s₂, S7 g L o3 o4 ns s1 s₂ → P s₂ := fun _ H => H.casesOn (motive := fun s₂ _ => P s₂) k
theorem tape_len {ns : List Int} (hp : ∀ x ∈ patC ns, x.length ≤ 255) (hl : (patC ns).length ≤ 9) : (tapeI ns).length ≤ 5000 := by
  have h8 := rowI_le ns
  have := encs_len (l := rowI ns :: patC ns) fun x hx => by
    rcases List.mem_cons.mp hx with rfl | hx
    · omega
    · exact hp x hx
  rw [tape_told]
  simp only [List.length_cons, List.length_append, List.length_nil] at this ⊢
  omega
def ChrOf (v y : Value) : Prop := ∃ a t t', v = .int a t ∧ y = .str ⟨#[a.toNat]⟩ t'
theorem chr_all {vs : List Value} {xs : List Int} (h : IntsAre vs xs) : ∀ {res : List Value}, Paired ChrOf vs res → StrsAre res (xs.map fun a => (⟨#[a.toNat]⟩ : Str)) := by
  induction h with
  | nil => intro res h; cases h; exact .nil
  | cons n t _ ih =>
    intro res h
    cases h with
    | cons h r =>
      obtain ⟨a, t1, t2, e, rfl⟩ := h
      cases e
      exact .cons _ _ (ih r)
theorem int_at {vs : List Value} {xs : List Int} (h : IntsAre vs xs) : ∀ {i : Nat} {v : Value}, vs[i]? = some v → ∃ a t, v = .int a t ∧ a ∈ xs := by
  induction h with
  | nil => intro i v h; simp at h
  | cons n t _ ih =>
    intro i v h
    cases i with
    | zero => simp at h; exact ⟨n, t, h.symm, .head _⟩
    | succ i =>
      obtain ⟨a, t', e, m⟩ := ih (i := i) (v := v) (by simpa using h)
      exact ⟨a, t', e, .tail _ m⟩
theorem one_sum (xs : List Int) : ((xs.map fun a => (⟨#[a.toNat]⟩ : Str)).map (·.length)).sum = xs.length := by
  induction xs with
  | nil => rfl
  | cons x xs ih =>
    rw [List.map_cons, List.map_cons, List.sum_cons, ih]
    show 1 + xs.length = (x :: xs).length
    rw [List.length_cons]; omega
theorem join_codes (xs : List Str) : (Txt.join (Str.ofString "") xs).cps.toList = xs.flatMap fun x => x.cps.toList := by
  show (Builtin.Str.glued ⟨#[]⟩ xs).cps.toList = _
  rw [StrLaws.glued_eq_join]
  induction xs with
  | nil => rfl
  | cons x r ih =>
    rw [PyProof.Rows.join_nil_cons, List.flatMap_cons, ← ih]
    show (x.cps ++ (Str.join ⟨#[]⟩ r).cps).toList = _
    rw [Array.toList_append]
theorem join_chr (xs : List Int) : Txt.join (Str.ofString "") (xs.map fun a => (⟨#[a.toNat]⟩ : Str)) = latN xs := by
  have h := join_codes (xs.map fun a => (⟨#[a.toNat]⟩ : Str))
  have e : (xs.map fun a => (⟨#[a.toNat]⟩ : Str)).flatMap (fun x => x.cps.toList) = xs.map Int.toNat := by
    induction xs with
    | nil => rfl
    | cons x xs ih => rw [List.map_cons, List.flatMap_cons, ih (join_codes _)]; rfl
  rw [e] at h
  unfold latN
  rw [← h]
end Mine
end
/-! LawT -/
section
open PySem.Calls
set_option maxHeartbeats 1000000
set_option maxRecDepth 100000
namespace Mine
theorem lat_codes (x : Str) : latN (codes x) = x := by
  unfold latN codes
  obtain ⟨⟨l⟩⟩ := x
  simp only [List.map_map]
  congr 2
  conv => rhs; rw [← List.map_id l]
  exact List.map_congr_left fun c _ => rfl
theorem lat_all (l : List Str) : (l.map codes).map latN = l := by
  rw [List.map_map]
  conv => rhs; rw [← List.map_id l]
  exact List.map_congr_left fun c _ => lat_codes c
theorem told_texts (ns : List Int) : (rowI ns :: patC ns).map latN = latN (rowI ns) :: pats (rowI ns).length (p0I ns) (p1I ns) := by
  unfold patC
  rw [List.map_cons, lat_all]
theorem bints_inj {b c : Array UInt8} (h : KBw.bInts b = KBw.bInts c) : b = c := by
  obtain ⟨b⟩ := b
  obtain ⟨c⟩ := c
  congr 1
  have e : ∀ l m : List UInt8, l.map (fun c : UInt8 => ((c.toNat : Nat) : Int)) = m.map (fun c : UInt8 => ((c.toNat : Nat) : Int)) → l = m := by
    intro l
    induction l with
    | nil => intro m h; cases m with | nil => rfl | cons => cases h
    | cons x l ih =>
      intro m h
      cases m with
      | nil => cases h
      | cons y m =>
        rw [List.map_cons, List.map_cons] at h
        injection h with h1 h2
        have e1 : x = y := UInt8.toNat_inj.mp (by omega)
        rw [ih m h2, e1]
  exact e b c h
section
open PySem.SeqAt
variable {A : Around} {s : Shared}
theorem eqAt_bytes {b : Array UInt8} {t u : Tok} : EqAt A s (.bytes b t) (.bytes b u) true := fun prog w E Q h => by
  unfold eqBool
  refine wpAny_holding ?_
  refine wpAny_ite_split (fun hab => ?_) (fun hab => ?_)
  · exact wpAny_bind (wpAny_rule (wpAny_pure h))
  · refine wpAny_bind ?_
    show wpAny _ A (compareOp .Eq (.bytes b t) (.bytes b u)) _ _ s
    refine eq_bytes ?_
    rw [beq_self_eq_true]
    exact wpAny_truthy_bool h
theorem eqAt_str {x : Str} {t u : Tok} : EqAt A s (.str x t) (.str x u) true := fun prog w E Q h => by
  unfold eqBool
  refine wpAny_holding ?_
  refine wpAny_ite_split (fun hab => ?_) (fun hab => ?_)
  · exact wpAny_bind (wpAny_rule (wpAny_pure h))
  · refine wpAny_bind ?_
    show wpAny _ A (compareOp .Eq (.str x t) (.str x u)) _ _ s
    refine eq_str ?_
    rw [beq_self_eq_true]
    exact wpAny_truthy_bool h
theorem range_all (n : Nat) : (List.range n).all (fun _ => true) = true := by simp
/-- lists that are alike, item by item -/
theorem eqAt_lists {a b : Addr} {xs ys : Array Value} (ha : s.heap.IsList a xs) (hb : s.heap.IsList b ys) (hz : xs.size = ys.size) (hu : A.units < cLine) (he : ∀ j (h1 : j < xs.size) (h2 : j < ys.size), EqAt A.in1 s xs[j] ys[j] true) : EqAt A s (.ref a) (.ref b) true := by
  by_cases h : a = b
  · subst h; exact EqAt.same _
  · have := EqAt.of_refs h (RcAt.lists (e := fun _ => true) ha hb hz hu he)
    rwa [range_all] at this
theorem ne_lists {prog : Program} {w : World} {E : Value → Shared → Prop} {Q : Value → Shared → Prop} {a b : Addr} {xs ys : Array Value} (ha : s.heap.IsList a xs) (hb : s.heap.IsList b ys) (hz : xs.size = ys.size) (hu : A.units < cLine) (he : ∀ j (h1 : j < xs.size) (h2 : j < ys.size), EqAt A.in1 s xs[j] ys[j] true)
    (h : Q (.bool false) s) : wpAny (model prog w) A (compareOp .NotEq (.ref a) (.ref b)) Q E s := by
  refine RcNeAt.lists (e := fun _ => true) ha hb hz hu he prog w E Q ?_
  rw [range_all]; exact h
theorem strs_at {vs : List Value} {xs : List Str} (h : StrsAre vs xs) : ∀ {ws : List Value} (_ : StrsAre ws xs) (j : Nat) (h1 : j < vs.length) (h2 : j < ws.length), ∃ x t u, vs[j] = .str x t ∧ ws[j] = .str x u := by
  induction h with
  | nil => intro _ _ j h1; simp at h1
  | cons y t _ ih =>
    intro ws h2 j h1 h3
    cases h2 with
    | cons _ u h4 =>
      cases j with
      | zero => exact ⟨y, t, u, rfl, rfl⟩
      | succ j => exact ih h4 j (by simpa using h1) (by simpa using h3)
theorem eqAt_strs {a b : Addr} {vs ws : Array Value} {xs : List Str} (ha : s.heap.IsList a vs) (hb : s.heap.IsList b ws) (h1 : StrsAre vs.toList xs) (h2 : StrsAre ws.toList xs) (hu : A.units < cLine) : EqAt A s (.ref a) (.ref b) true := by
  refine eqAt_lists ha hb ?_ hu fun j j1 j2 => ?_
  · have e1 := h1.length
    have e2 := h2.length
    rw [Array.length_toList] at e1 e2; omega
  · obtain ⟨x, t, u, e1, e2⟩ := strs_at h1 h2 j (by simpa using j1) (by simpa using j2)
    rw [Array.getElem_toList] at e1 e2
    rw [e1, e2]; exact eqAt_str
theorem ne_three {prog : Program} {w : World} {E : Value → Shared → Prop} {Q : Value → Shared → Prop} {g : Heap} {L : Addr} {news : List (Addr × Obj)} (N : News g L s.heap news) {D D' T T' : Addr} {b b' : Array UInt8} {t t' tm tm' : Tok} {x : Str} {vs ws : Array Value} {k k' k1 k2 : Nat} {xs : List Str}
    (m1 : (D, W.listOf #[Value.bytes b t, .ref T, .str x tm] k) ∈ news) (m2 : (D', W.listOf #[Value.bytes b' t', .ref T', .str x tm'] k') ∈ news) (hb : KBw.bInts b = KBw.bInts b') (m3 : (T, W.listOf vs k1) ∈ news) (m4 : (T', W.listOf ws k2) ∈ news) (h1 : StrsAre vs.toList xs) (h2 : StrsAre ws.toList xs) (hu : A.units + 64 < cLine)
    (h : Q (.bool false) s) : wpAny (model prog w) A (compareOp .NotEq (.ref D) (.ref D')) Q E s := by
  rw [bints_inj hb] at m1
  refine ne_lists (News.isList N m1) (News.isList N m2) rfl (by omega) (fun j j1 j2 => ?_) h
  match j, j1, j2 with
  | 0, _, _ => exact eqAt_bytes
  | 1, _, _ => exact eqAt_strs (News.isList N m3) (News.isList N m4) h1 h2 (by show A.units + 1 < cLine; omega)
  | 2, _, _ => exact eqAt_str
  | j + 3, j1, _ => exact absurd (show j + 3 < 3 from j1) (by omega)
end
section
variable {prog : Program} {w : World} {A : Around} {E : Value → Shared → Prop} {s : Shared} {g : Heap} {L : Addr} {m : Str → Option Value} {news : List (Addr × Obj)}
theorem mk_row {D : Addr} {ws : Array Value} {xs : List Int} {k : Nat} {Q : Value → Shared → Prop} (F : Fr g L s.heap m) (N : News g L s.heap news) (hh : A.handled = none) (hm : (D, W.listOf ws k) ∈ news) (hi : IntsAre ws.toList xs) (hr : ∀ x ∈ xs, 0 ≤ x ∧ x < 256) (hn : xs.length ≤ 1000)
    (h : ∀ h' b t' k, Fr g L h' m → News g L h' news → KBw.bInts b = xs → Q (.bytes b t') { s with heap := h', toks := k }) : wpAny (model prog w) A (call (.type "bytes") [.ref D]) Q E s :=
  KBa.make_K F N hh (News.isList N hm) hi hr (by omega) fun h' t' k F' N' _ => h h' _ t' k F' N' (KBa.ints_make hr)
theorem add_two {a b : Addr} {i1 i2 : Array Value} {n1 n2 : Nat} {Q : Value → Shared → Prop} (F : Fr g L s.heap m) (N : News g L s.heap news) (h1 : (a, W.listOf i1 n1) ∈ news) (h2 : (b, W.listOf i2 n2) ∈ news) (hz : i1.size + i2.size ≤ 100000)
    (h : ∀ l h', Fr g L h' m → News g L h' ((l, W.listOf (i1 ++ i2) 0) :: news) → (∀ p ∈ news, p.1 < l) → Q (.ref l) { s with heap := h' }) : wpAny (model prog w) A (binaryOp .Add (.ref a) (.ref b)) Q E s :=
  add_kp F N (N _ h1).1 (N _ h2).1 hz fun l h' F' N' lt _ _ => h l h' F' N' lt
theorem sl_init {l : Addr} {items : Array Value} {t : Tok} {Q : Value → Shared → Prop} (F : Fr g L s.heap m) (N : News g L s.heap news) (hl : s.heap.IsList l items) (hsz : items.size ≤ sizeLine)
    (h : ∀ D h', Fr g L h' m → News g L h' ((D, W.listOf (items.toList.take (items.size - 1)).toArray 0) :: news) → (∀ q ∈ news, q.1 < D) → Q (.ref D) { s with heap := h' }) : SliceAt Q (.ref l) .none (.int (-1) t) s :=
  slice_end F N hl hsz .none (.int _ _) fun D h' F' N' lt _ => h D h' F' (by
    have e : slicePick items none (some (-1)) none = (items.toList.take (items.size - 1)).toArray := slicePick_butLast items 1 (Nat.le_refl _)
    rw [e] at N'; exact N') lt
theorem strs_take {vs : List Value} {xs : List Str} (h : StrsAre vs xs) : ∀ k, StrsAre (vs.take k) (xs.take k) := by
  induction h with
  | nil => intro k; rw [List.take_nil, List.take_nil]; exact .nil
  | cons y t _ ih =>
    intro k
    cases k with
    | zero => exact .nil
    | succ k => exact .cons _ _ (ih k)
theorem strs_init {qs : Array Value} {xs yl : List Str} {y : Str} (h : StrsAre qs.toList xs) (e : xs = yl ++ [y]) : StrsAre (qs.toList.take (qs.size - 1)) yl := by
  have h1 := strs_take h (qs.size - 1)
  have h2 := h.length
  rw [Array.length_toList] at h2
  have e2 : xs.take (qs.size - 1) = yl := by rw [h2, e]; simp
  rwa [e2] at h1
end
end Mine
end
/-! LawO -/
section
open PySem.Calls
set_option maxHeartbeats 1000000
end
/-! LawU -/
section
open PySem.Calls
set_option maxHeartbeats 1000000
set_option maxRecDepth 100000
namespace Mine
/-! the patterns as pieces -/
def alphaN (i : Nat) : Nat := alphaS.cps.toList.getD i 0
theorem alpha_item : ∀ i < 64, Txt.item alphaS ((i : Nat) : Int) = ⟨#[alphaN i]⟩ := by decide +kernel
theorem alpha_sign : ∀ i < 64, alphaN i ∈ signC := by decide +kernel
def pcSigns (l : List Nat) : Pc := if l.length = 1 then .sign (alphaN (l.getD 0 0)) else .cls (l.map alphaN)
theorem cps_app (x y : Str) : (x ++ y).cps.toList = x.cps.toList ++ y.cps.toList := by
  show (x.cps ++ y.cps).toList = _
  rw [Array.toList_append]
theorem signs_flat : ∀ {l : List Nat}, (∀ i ∈ l, i < 64) → (l.map fun (i : Nat) => Txt.item alphaS (i : Int)).flatMap (fun x => x.cps.toList) = l.map alphaN
  | [], _ => rfl
  | i :: l, h => by
    rw [List.map_cons, List.flatMap_cons, signs_flat fun j hj => h j (.tail _ hj), alpha_item i (h i (.head _))]
    rfl
theorem signs_text {l : List Nat} (hl : ∀ i ∈ l, i < 64) : (signsT (l.map fun (i : Nat) => Txt.item alphaS (i : Int))).cps.toList = (pcSigns l).text := by
  unfold signsT pcSigns
  rw [List.length_map]
  split
  · rename_i h
    obtain ⟨a, rfl⟩ : ∃ a, l = [a] := List.length_eq_one_iff.mp h
    show (Txt.item alphaS (a : Int)).cps.toList = [alphaN a]
    rw [alpha_item a (hl a (.head _))]
  · rw [cps_app, cps_app, join_codes, signs_flat hl]
    show [91] ++ l.map alphaN ++ [93] = 91 :: (l.map alphaN ++ [93])
    simp
def pieceH (k f p0 p1 fst lst : Int) : Pc := if lst ≤ fst then .any else pcSigns ((List.range 64).filter (pieceQ (6 * k + 6 - lst) (lst - fst) ((p0 * 256 + p1) / p2 (f + 16 - lst) % p2 (lst - fst))))
def pieceP (k f p0 p1 : Int) : Pc := pieceH k f p0 p1 (if f > 6 * k then f else 6 * k) (if f + 16 < 6 * k + 6 then f + 16 else 6 * k + 6)
theorem piece_text (k f p0 p1 : Int) : (pieceS k f p0 p1).cps.toList = (pieceP k f p0 p1).text := by
  unfold pieceS pieceP
  generalize (if f > 6 * k then f else 6 * k) = fst
  generalize (if f + 16 < 6 * k + 6 then f + 16 else 6 * k + 6) = lst
  unfold pieceG pieceH
  split
  · rfl
  · unfold signsS
    exact signs_text fun i hi => List.mem_range.mp (List.mem_filter.mp hi).1
theorem pieceP_as {k f : Nat} {p0 p1 : Int} (hf : f % 2 = 0) : pieceP (k : Int) (f : Int) p0 p1 = .any ∨
    ∃ a b c : Nat, a < 6 ∧ b < 7 ∧ abOk a b = true ∧ c < 2 ^ b ∧ pieceP (k : Int) (f : Int) p0 p1 = pcSigns (nSel a b c) := by
  unfold pieceP
  generalize e1 : (if (f : Int) > 6 * (k : Int) then (f : Int) else 6 * (k : Int)) = fst
  generalize e2 : (if (f : Int) + 16 < 6 * (k : Int) + 6 then (f : Int) + 16 else 6 * (k : Int) + 6) = lst
  unfold pieceH
  by_cases h : lst ≤ fst
  · rw [if_pos h]; exact .inl rfl
  · rw [if_neg h]
    right
    obtain ⟨a, b, ha, hb, la, lb, ok⟩ := ab_cases hf e1.symm e2.symm (by omega)
    have hpos : 0 < p2 (b : Int) := p2_pos _
    have hc0 : 0 ≤ (p0 * 256 + p1) / p2 ((f : Int) + 16 - lst) % p2 (b : Int) := Int.emod_nonneg _ (by omega)
    have hc1 : (p0 * 256 + p1) / p2 ((f : Int) + 16 - lst) % p2 (b : Int) < p2 (b : Int) := Int.emod_lt_of_pos _ hpos
    rw [ha, hb]
    generalize hcq : (p0 * 256 + p1) / p2 ((f : Int) + 16 - lst) % p2 (b : Int) = q at *
    obtain ⟨c, rfl⟩ := Int.eq_ofNat_of_zero_le hc0
    rw [p2_nat] at hc1
    refine ⟨a, b, c, la, lb, ok, by omega, ?_⟩
    rw [sel_nat]
theorem pcSigns_ok {l : List Nat} (hl : ∀ i ∈ l, i < 64) (h1 : 1 ≤ l.length) (h2 : l.length ≤ 64) : (pcSigns l).Ok ∧ pcSigns l ≠ .star := by
  unfold pcSigns
  split
  · refine ⟨?_, by nofun⟩
    cases l with
    | nil => simp at h1
    | cons a l => exact alpha_sign a (hl a (.head _))
  · refine ⟨⟨fun e => ?_, fun c hc => ?_, by rw [List.length_map]; omega⟩, by nofun⟩
    · have := congrArg List.length e
      rw [List.length_map] at this
      simp at this; subst this; simp at h1
    · obtain ⟨i, hi, rfl⟩ := List.mem_map.mp hc
      exact alpha_sign i (hl i hi)
theorem pieceP_ok {k f : Nat} {p0 p1 : Int} (hf : f % 2 = 0) : (pieceP (k : Int) (f : Int) p0 p1).Ok ∧ pieceP (k : Int) (f : Int) p0 p1 ≠ .star := by
  rcases pieceP_as (k := k) (p0 := p0) (p1 := p1) hf with e | ⟨a, b, c, la, lb, ok, hc, e⟩
  · rw [e]; exact ⟨trivial, by nofun⟩
  · rw [e]
    exact pcSigns_ok (fun i hi => nSel_lt hi) (nSel_pos a la b lb ok c hc) (Nat.le_trans (nSel_len2 la lb ok hc) (by decide))
def bodyP (p0 p1 : Int) (i : Nat) : List Pc := (List.range ((8 * i + 21) / 6)).map fun (k : Nat) => pieceP (k : Int) (8 * (i : Int)) p0 p1
def rowP (p0 p1 : Int) (i : Nat) : List Pc := bodyP p0 p1 i ++ [.star]
def lastP (n : Nat) : List Pc := List.replicate ((8 * n + 5) / 6) .any ++ List.replicate ((-(n : Int)) % 3).toNat (.sign 61)
def pcsL (n : Nat) (p0 p1 : Int) : List (List Pc) := (List.range n).map (rowP p0 p1) ++ [lastP n]
def Pc.str (p : Pc) : Str := ⟨p.text.toArray⟩
theorem str_of_cps {x : Str} {p : Pc} (h : x.cps.toList = p.text) : x = p.str := by
  obtain ⟨⟨l⟩⟩ := x
  unfold Pc.str
  rw [← h]
theorem row_pcs (p0 p1 : Int) (i : Nat) : rowS p0 p1 i = (rowP p0 p1 i).map Pc.str := by
  unfold rowS rowP bodyP
  rw [List.map_append, List.map_map]
  congr 1
  exact List.map_congr_left fun k _ => str_of_cps (piece_text _ _ _ _)
theorem last_pcs (n : Nat) : lastS n = (lastP n).map Pc.str := by
  unfold lastS lastP
  rw [List.map_append, List.map_replicate, List.map_replicate]
  rfl
theorem pieces_pcs (n : Nat) (p0 p1 : Int) : piecesS n p0 p1 = (pcsL n p0 p1).map (List.map Pc.str) := by
  unfold piecesS pcsL
  rw [List.map_append, List.map_map, List.map_cons, List.map_nil, last_pcs]
  congr 1
  exact List.map_congr_left fun k _ => row_pcs _ _ _
def patOf (pcs : List Pc) : Str := Txt.join (Str.ofString "") (pcs.map Pc.str)
theorem pats_pcs (n : Nat) (p0 p1 : Int) : pats n p0 p1 = (pcsL n p0 p1).map patOf := by
  unfold pats
  rw [pieces_pcs, List.map_map]; rfl
theorem patOf_text (pcs : List Pc) : (patOf pcs).cps.toList = pcs.flatMap Pc.text := by
  unfold patOf
  rw [join_codes]
  induction pcs with
  | nil => rfl
  | cons p r ih => rw [List.map_cons, List.flatMap_cons, List.flatMap_cons, ih]; rfl
/-- fit for _translate -/
def PcsOk (pcs : List Pc) : Prop := (∀ p ∈ pcs, p.Ok) ∧ ∀ ds rs, pcs = ds ++ Pc.star :: rs → ds.getLast? ≠ some Pc.star
theorem pcsOk_none {l : List Pc} (h1 : ∀ p ∈ l, p.Ok ∧ p ≠ .star) : PcsOk l :=
  ⟨fun p hp => (h1 p hp).1, fun ds rs e q => (h1 Pc.star (by rw [e]; simp)).2 rfl⟩
theorem pcsOk_end {l : List Pc} (h1 : ∀ p ∈ l, p.Ok ∧ p ≠ .star) : PcsOk (l ++ [.star]) := by
  refine ⟨fun p hp => ?_, fun ds rs e q => ?_⟩
  · rcases List.mem_append.mp hp with h | h
    · exact (h1 p h).1
    · rw [List.mem_singleton.mp h]; trivial
  · have hd : Pc.star ∈ ds := List.mem_of_getLast? q
    have hn : Pc.star ∉ l := fun hm => (h1 _ hm).2 rfl
    rcases List.append_eq_append_iff.mp e with ⟨as, e1, e2⟩ | ⟨cs, e1, e2⟩
    · have e3 := congrArg List.length e2
      simp only [List.length_append, List.length_cons, List.length_nil] at e3
      have e4 : as = [] := List.eq_nil_of_length_eq_zero (by omega)
      rw [e4, List.append_nil] at e1
      exact hn (e1 ▸ hd)
    · exact hn (by rw [e1]; exact List.mem_append_left _ hd)
theorem pcs_ok (n : Nat) (p0 p1 : Int) : ∀ pcs ∈ pcsL n p0 p1, PcsOk pcs := fun pcs h => by
  unfold pcsL at h
  rcases List.mem_append.mp h with h | h
  · obtain ⟨i, _, rfl⟩ := List.mem_map.mp h
    refine pcsOk_end fun p hp => ?_
    obtain ⟨k, _, rfl⟩ := List.mem_map.mp hp
    have e : (8 * (i : Int)) = ((8 * i : Nat) : Int) := by omega
    rw [e]
    exact pieceP_ok (by omega)
  · rw [List.mem_singleton.mp h]
    refine pcsOk_none fun p hp => ?_
    rcases List.mem_append.mp hp with h | h
    · rw [(List.mem_replicate.mp h).2]; exact ⟨trivial, by nofun⟩
    · rw [(List.mem_replicate.mp h).2]; exact ⟨show 61 ∈ signC by decide, by nofun⟩
/-- the parts, as they lie in the heap -/
inductive OutRows : List Value → List (Addr × Obj) → List (List Pc) → Prop where
  | nil : OutRows [] [] []
  | cons {r : Addr} {vs : List Value} {nn : Nat} {pcs : List Pc} {ys own rows} : OutsAre vs pcs → OutRows ys own rows → OutRows (.ref r :: ys) ((r, W.listOf vs.toArray nn) :: own) (pcs :: rows)
theorem OutRows.snoc {r : Addr} {vs : List Value} {nn : Nat} {pcs : List Pc} (h : OutsAre vs pcs) : ∀ {ys own rows}, OutRows ys own rows → OutRows (ys ++ [.ref r]) (own ++ [(r, W.listOf vs.toArray nn)]) (rows ++ [pcs])
  | _, _, _, .nil => .cons h .nil
  | _, _, _, .cons a b => .cons a (b.snoc h)
theorem OutRows.len : ∀ {ys own rows}, OutRows ys own rows → ys.length = rows.length
  | _, _, _, .nil => rfl
  | _, _, _, .cons _ b => by rw [List.length_cons, List.length_cons, b.len]
def J10 (h₀ : Heap) (pl : List (List Pc)) (i : Nat) (ys : List Value) (own : List (Addr × Obj)) : Prop :=
  ∃ ps rows, own = (129, tabObj ps) :: rows ∧ TabOk ps ∧ OutRows ys rows (pl.take i) ∧ (∀ p ∈ own, h₀.get? p.1 = none) ∧ (∀ p ∈ rows, @Ne Nat p.1 129) ∧ ys.length = i
section
variable {prog : Program} {w : World} {A : Around} {E : Value → Shared → Prop} {s : Shared} {g : Heap} {L : Addr} {m : Str → Option Value} {news : List (Addr × Obj)}
/-- a list's slice from a place on, whatever the list's expression -/
theorem sl_tail {value slice : Expr} {l : Addr} {items : Array Value} {a : Nat} {u : Tok} {Q : Value → Shared → Prop} (F : Fr g L s.heap m) (N : News g L s.heap news) (hl : s.heap.IsList l items) (hsz : items.size ≤ sizeLine)
    (h : ∀ D h', Fr g L h' m → News g L h' ((D, W.listOf (items.toList.drop a).toArray 0) :: news) → (∀ q ∈ news, q.1 < D) → Q (.ref D) { s with heap := h' })
    (hs : subscripted slice false (.ref l) (.ref s.heap.objs.size) = operate [.ref s.heap.objs.size, .ref l] (getItem (.ref l) (.ref s.heap.objs.size)) := by with_unfolding_all rfl) :
    wpAny (model prog w) A (subscriptTail value slice (.ref l) (.ref s.heap.objs.size)) Q E { s with heap := s.heap.push { cls := .type "slice", data := .fields #[.int (a : Int) u, .none, .none] } } := by
  refine tail_any (hl.push _).typeIs slot_list_getitem.lookup (wpAny_getItem_list_slice (hl.push _) (Heap.IsSliceOf.new ..) (.int _ _) .none .none (by simp) ?_ hsz) hs
  have N2 := News.push (F.push { cls := .type "slice", data := .fields #[.int (a : Int) u, .none, .none] }) (fun p hp => ⟨Heap.get?_push_of_some _ (N p hp).1, (N p hp).2⟩) { cls := .type "list", data := .seq (slicePick items (some (a : Int)) none none) }
  rw [slicePick_from'] at N2
  have r := h _ _ ((F.push _).push _) N2 (fun q hq => by rw [Heap.size_push]; exact Nat.lt_succ_of_lt (Heap.lt_size (N q hq).1))
  rw [← slicePick_from'] at r
  exact r
end
end Mine
end
/-! LawV -/
section
open PySem.Calls
set_option maxRecDepth 100000
set_option maxHeartbeats 1000000
namespace Mine
theorem hid_keep {g h : Heap} {a : Addr} (k : ∀ b o, g.get? b = some o → h.get? b = some o) (hn : g.get? a = none) : ∀ b o, g.get? b = some o → (hideAll h [a]).get? b = some o := fun b o e =>
  hideAll_get [a] (k b o e) fun q => by rw [List.mem_singleton.mp q, hn] at e; cases e
theorem unhid {h : Heap} {a b : Addr} (hn : (hideAll h [a]).get? b = none) (hb : @Ne Nat b a) : h.get? b = none := by
  cases e : h.get? b with
  | none => rfl
  | some o => rw [hideAll_get [a] e fun q => hb (List.mem_singleton.mp q)] at hn; cases hn
section
variable {w : World} {mean : ExcName → Option Value} {mg mb : Str → Option Value} {A : Around} {E : Value → Shared → Prop}
theorem trans_elt {h₀ : Heap} {pl : List (List Pc)} {i : Nat} {ys : List Value} {own : List (Addr × Obj)} {s₃ : Shared} {tk : Nat} (hh : A.handled = none) (hd : A.depth + 40 < recursionLimit) (hu : A.units + 300 < cLine)
    (X : (headOf.heap_39 w.params).In (hideAll s₃.heap [129])) (T : Top topProg LO mean mg mb (hideAll s₃.heap [129])) (C : CodeHd (hideAll s₃.heap [129]) 133 129) (hJ : J10 h₀ pl i ys own) (hown : ∀ p ∈ own, s₃.heap.get? p.1 = some p.2) (hk : ∀ b o, h₀.get? b = some o → s₃.heap.get? b = some o)
    {x : Str} {t t2 : Tok} {pcs : List Pc} (hx : x = patOf pcs) (hpl : pl[i]? = some pcs) (hpo : PcsOk pcs) (hlen : x.length ≤ 10000) :
    wpAny (model PR w) A (call (.ref 134) [.str x t, .none, .str (Str.ofString "any") t2]) (EltTo (J10 h₀ pl) i ys own s₃) E { s₃ with toks := tk } := by
  obtain ⟨ps, rows, rfl, ht, hrows, hoff, hne, hl⟩ := hJ
  have h129 : s₃.heap.get? 129 = some (tabObj ps) := hown _ (.head _)
  refine translate_spec (s := { s₃ with toks := tk }) hh hd hu X T C h129 ht hlen pcs (by rw [hx, patOf_text]) hpo.1 hpo.2 ?_
  intro D h' tk' vs ps' ht' hkeep hD h129' hpl' hout
  obtain ⟨nn, hpl'⟩ := hpl'
  have hD9 : @Ne Nat D 129 := fun q => by
    have e1 : s₃.heap.get? D = none := hD
    rw [show D = 129 from q, h129] at e1; cases e1
  refine ⟨h', tk', (129, tabObj ps') :: (rows ++ [(D, W.listOf vs.toArray nn)]), rfl, fun b o hb e => hkeep b o (fun q => hb _ (.head _) q.symm) e, fun p hp => ?_, ps', rows ++ [(D, W.listOf vs.toArray nn)], rfl, ht', ?_, fun p hp => ?_, fun p hp => ?_, by simp [hl]⟩
  · rcases List.mem_cons.mp hp with rfl | hp
    · exact ⟨h129', .inl ⟨_, .head _, rfl⟩⟩
    rcases List.mem_append.mp hp with hp | hp
    · exact ⟨hkeep _ _ (hne p hp) (hown p (.tail _ hp)), .inl ⟨p, .tail _ hp, rfl⟩⟩
    · rw [List.mem_singleton.mp hp]; exact ⟨hpl', .inr hD⟩
  · rw [List.take_add_one, hpl]
    exact hrows.snoc hout
  · rcases List.mem_cons.mp hp with rfl | hp
    · exact hoff (129, tabObj ps) (.head _)
    rcases List.mem_append.mp hp with hp | hp
    · exact hoff p (.tail _ hp)
    · rw [List.mem_singleton.mp hp]
      cases e : h₀.get? D with
      | none => rfl
      | some o => have e1 := hk _ _ e; have e2 : s₃.heap.get? D = none := hD; rw [e2] at e1; cases e1
  · rcases List.mem_append.mp hp with hp | hp
    · exact hne p hp
    · rw [List.mem_singleton.mp hp]; exact hD9
end
theorem parts_inv {prog : Program} {w : World} {A : Around} {env : Env} {scope : Scope} {cl : List (Str × Addr)} {x : Str} {elt : Expr} {Q : Value → Shared → Prop} {g : Heap} {L : Addr} {m : Str → Option Value} {s₁ : Shared} {news rest : List (Addr × Obj)} {D : Addr} {items : Array Value} {k : Nat} {ps0 : Array Value} {pl : List (List Pc)}
    (hA : A.handled = none) (F : Fr g L s₁.heap m) (N : News g L s₁.heap news) (hD : (D, W.listOf items k) ∈ news) (h129 : (129, tabObj ps0) ∈ news) (ht : TabOk ps0) (hn : items.size = pl.length) (hDn : @Ne Nat D 129)
    (hrest : ∀ p ∈ rest, p ∈ news ∧ @Ne Nat p.1 129)
    (helt : ∀ C i v ys own (s₃ : Shared) E', i < items.size → items[i]? = some v → J10 (hideAll s₁.heap [129]) pl i ys own → (∃ m, Fr (hideAll s₁.heap [129]) C s₃.heap m ∧ m x = some v) → (∀ p ∈ own, s₃.heap.get? p.1 = some p.2) →
      wpAny (model prog w) A (eval elt (compEnvC scope cl C env)) (EltTo (J10 (hideAll s₁.heap [129]) pl) i ys own s₃) E' s₃)
    (fin : ∀ D' h' tk zs nZ ps own2, Fr g L h' m → News g L h' ((D', W.listOf zs.toArray nZ) :: (129, tabObj ps) :: (rest ++ own2)) → OutRows zs own2 pl → AllNe D' ((129, tabObj ps0) :: rest) → (∀ p ∈ own2, ∀ q ∈ (129, tabObj ps0) :: rest, @Ne Nat p.1 q.1) →
      Q (.ref D') { s₁ with heap := h', toks := tk }) : LInvEx prog w A env scope cl x elt items.size (fun i v => items[i]? = some v) Q (.ref D) s₁ := by
  have g9 : g.get? 129 = none := (N _ h129).2.2
  have L9 : @Ne Nat L 129 := fun q => (N _ h129).2.1 q.symm
  generalize hh0 : hideAll s₁.heap [129] = h₀ at helt ⊢
  have o0 : ∀ b o, h₀.get? b = some o → s₁.heap.get? b = some o := fun b o e => by rw [← hh0] at e; exact of_hideAll _ e
  have z0 : h₀.objs.size ≤ s₁.heap.objs.size := by rw [← hh0]; exact Nat.le_of_eq (hideAll_size _ _)
  have n0 : h₀.get? 129 = none := by rw [← hh0]; exact hideAll_none _ (.head _)
  have g0 : ∀ b o, @Ne Nat b 129 → s₁.heap.get? b = some o → h₀.get? b = some o := fun b o hb e => by rw [← hh0]; exact hideAll_get [129] e fun q => hb (List.mem_singleton.mp q)
  have u0 : ∀ b, h₀.get? b = none → @Ne Nat b 129 → s₁.heap.get? b = none := fun b e hb => by rw [← hh0] at e; exact unhid e hb
  clear hh0
  have j0 : J10 h₀ pl 0 [] [(129, tabObj ps0)] := ⟨ps0, [], rfl, ht, .nil, fun p hp => by rw [List.mem_singleton.mp hp]; exact n0, fun p hp => absurd hp List.not_mem_nil, rfl⟩
  refine ⟨J10 h₀ pl, h₀, [(129, tabObj ps0)], [D], ?_⟩
  constructor
  case it => exact iters2_list hA (News.isList N hD)
  case keep0 => exact o0
  case size0 => exact z0
  case j0 => exact j0
  case own0 =>
    intro p hp
    rw [List.mem_singleton.mp hp]
    exact ⟨(N _ h129).1, fun q => hDn (List.mem_singleton.mp q).symm⟩
  case off =>
    intro i ys own h
    obtain ⟨ps, rows, _, _, _, h, _, _⟩ := h; exact h
  case len =>
    intro i ys own h
    obtain ⟨ps, rows, _, _, _, _, _, h⟩ := h; exact h
  case elt =>
    intro C i v ys own s₃ E' hC hi hP hJ hm hk ho _
    obtain ⟨m', hns, hx⟩ := hm
    exact helt C i v ys own s₃ E' hi hP hJ ⟨m', ⟨hns, hk, hC⟩, hx⟩ ho
  case fin =>
    intro D' h' tk ys own hD' hpl hJ hown hk
    obtain ⟨ps, rows, rfl, ht', hrows, hoff, hne, _⟩ := hJ
    obtain ⟨nZ, hpl⟩ := hpl
    rw [hn, List.take_length] at hrows
    have k1 : ∀ b o, @Ne Nat b 129 → s₁.heap.get? b = some o → h'.get? b = some o := fun b o hb e => hk b o (g0 b o hb e)
    have fresh : ∀ a, s₁.heap.get? a = none → a ≠ L ∧ g.get? a = none := fun a ha => by
      refine ⟨?_, ?_⟩
      · rintro rfl
        obtain ⟨o, _, _, e, _⟩ := F.ns
        rw [e] at ha; cases ha
      · cases e : g.get? a with
        | none => rfl
        | some o => have := F.keep a o e; rw [ha] at this; cases this
    have fr2 : ∀ p ∈ rows, s₁.heap.get? p.1 = none := fun p hp => u0 _ (hoff p (.tail _ hp)) (hne p hp)
    have hq : ∀ q ∈ (129, tabObj ps0) :: rest, q ∈ news := fun q hq => by
      rcases List.mem_cons.mp hq with rfl | hq
      · exact h129
      · exact (hrest q hq).1
    refine fin D' h' tk ys.toList nZ ps rows ⟨F.ns.at' fun o e => k1 _ o L9 e, fun b o e => k1 b o (fun q => by rw [show b = 129 from q, g9] at e; cases e) (F.keep b o e), F.above⟩ (fun p hp => ?_) hrows ?_ ?_
    · rcases List.mem_cons.mp hp with rfl | hp
      · exact ⟨by rw [Array.toArray_toList]; exact hpl, fresh _ hD'⟩
      rcases List.mem_cons.mp hp with rfl | hp
      · exact ⟨(hown _ (.head _)).1, (N _ h129).2⟩
      rcases List.mem_append.mp hp with hp | hp
      · exact ⟨k1 _ _ (hrest p hp).2 (N p (hrest p hp).1).1, (N p (hrest p hp).1).2⟩
      · exact ⟨(hown p (.tail _ hp)).1, fresh _ (fr2 p hp)⟩
    · exact allNe_of fun q h q2 => by
        have := (N q (hq q h)).1
        rw [q2, hD'] at this; cases this
    · intro p hp q h q2
      have := (N q (hq q h)).1
      rw [show q.1 = p.1 from q2.symm, fr2 p hp] at this; cases this
theorem strs_at_i {vs : List Value} {xs : List Str} (h : StrsAre vs xs) : ∀ {i : Nat} {v : Value}, vs[i]? = some v → ∃ x t, v = .str x t ∧ xs[i]? = some x := by
  induction h with
  | nil => intro i v h; simp at h
  | cons y t _ ih =>
    intro i v h
    cases i with
    | zero => simp at h; exact ⟨y, t, h.symm, rfl⟩
    | succ i =>
      obtain ⟨x, t', e, q⟩ := ih (i := i) (v := v) (by simpa using h)
      exact ⟨x, t', e, by simpa using q⟩
theorem strs_drop {vs : List Value} {x : Str} {xs : List Str} (h : StrsAre vs (x :: xs)) : StrsAre (vs.drop 1) xs := by
  cases h with
  | cons _ _ h => exact h
theorem pats_at {ns : List Int} {i : Nat} {x : Str} (h : (pats (rowI ns).length (p0I ns) (p1I ns))[i]? = some x) : ∃ pcs, (pcsL (rowI ns).length (p0I ns) (p1I ns))[i]? = some pcs ∧ x = patOf pcs ∧ PcsOk pcs ∧ x.length ≤ 255 := by
  have hx : x ∈ pats (rowI ns).length (p0I ns) (p1I ns) := List.mem_of_getElem? h
  have h2 := h
  rw [pats_pcs, List.getElem?_map] at h2
  cases e : (pcsL (rowI ns).length (p0I ns) (p1I ns))[i]? with
  | none => rw [e] at h2; cases h2
  | some pcs =>
    rw [e] at h2
    exact ⟨pcs, rfl, (Option.some.inj h2).symm, pcs_ok _ _ _ pcs (List.mem_of_getElem? e), (pats_ok x hx).2.2⟩
theorem b64c_lt (i : Int) : b64c i < 128 := by
  unfold b64c
  have h : ∀ x ∈ B64L, x.toNat < 128 := by decide
  rw [List.getD_eq_getElem?_getD]
  cases e : B64L[i.toNat]? with
  | none => decide
  | some x => have := h x (List.mem_of_getElem? e); simp; omega
theorem b64f_inv (ks : List Int) : ∀ i, i ≤ ks.length → (b64f ks i).bits = 8 * (i : Int) - 6 * ((b64f ks i).out.length : Int) ∧ ∀ x ∈ (b64f ks i).out, x < 128
  | 0, _ => ⟨rfl, fun x hx => absurd hx List.not_mem_nil⟩
  | i + 1, h => by
    have e : ks[i]? = some ks[i] := List.getElem?_eq_getElem h
    have o := b64f_ok ks i (by omega)
    obtain ⟨h1, h2⟩ := b64f_inv ks i (by omega)
    rw [b64f_succ e]
    refine ⟨?_, fun x hx => (List.mem_append.mp hx).elim (h2 x) fun hx => ?_⟩
    · show (b64f ks i).bits + 8 - 6 * (((b64f ks i).bits + 8) / 6) = 8 * ((i + 1 : Nat) : Int) - 6 * (((b64f ks i).out ++ emit _ _ _).length : Int)
      have := o.b0
      rw [List.length_append, emit_len]; omega
    · obtain ⟨j, _, rfl⟩ := List.mem_map.mp hx
      exact b64c_lt _
theorem b64out_ok (ns : List Int) : 1 ≤ (b64out (rowI ns)).length ∧ (b64out (rowI ns)).length ≤ 100 ∧ ∀ k ∈ b64out (rowI ns), k < 128 := by
  have h8 := rowI_le ns
  have h5 := rowI_ge ns
  have hl := b64out_len (rowI ns)
  obtain ⟨h1, h2⟩ := b64f_inv (rowI ns) _ (Nat.le_refl _)
  have o := b64f_ok (rowI ns) _ (Nat.le_refl _)
  have hb := o.b1
  have h3 : 1 ≤ (b64f (rowI ns) (rowI ns).length).out.length := by omega
  refine ⟨?_, by omega, ?_⟩
  · unfold b64out
    split
    · rw [List.length_append]; omega
    split
    · rw [List.length_append]; omega
    · exact h3
  · unfold b64out
    split
    · intro x hx
      rcases List.mem_append.mp hx with q | q
      · exact h2 x q
      · simp only [List.mem_cons, List.not_mem_nil, or_false] at q
        rcases q with rfl | rfl | rfl
        · exact b64c_lt _
        · omega
        · omega
    split
    · intro x hx
      rcases List.mem_append.mp hx with q | q
      · exact h2 x q
      · simp only [List.mem_cons, List.not_mem_nil, or_false] at q
        rcases q with rfl | rfl
        · exact b64c_lt _
        · omega
    · exact h2
theorem b64_ints (ns : List Int) : KBw.bInts (byteArr (b64out (rowI ns))) = b64out (rowI ns) := KBa.ints_make (b64out_rng _)
inductive S10 (g : Heap) (L : Nat) (ns : List Int) (s1 : Shared) : Shared → Prop where
  | mk {Z : Nat} {zs : List Value} {nZ : Nat} {psZ ps : Array Value} {tw : Tok} {PA : Nat} {ys : List Value} {nP pA nA : Nat} {t0 t1 : Tok} {rowA : Nat} {rvs : Array Value} {nr : Nat} {oR oP oZ oW : Obj} {own own2 ownT : List (Addr × Obj)} {h : Heap} {tk : Nat} {m : Str → Option Value} : Fr g L h m → m (Str.ofString "pieces") = some (.ref PA) → News g L h ((Z, W.listOf zs.toArray nZ) :: (PA, W.listOf ys.toArray nP) :: (pA, W.listOf [Value.int (p0I ns) t0, .int (p1I ns) t1].toArray nA) :: (rowA, W.listOf rvs nr) :: (L + 1 + 1 + 1 + 1, oW) :: (L + 1 + 1 + 1, oZ) :: (L + 1 + 1, oP) :: (L + 1, oR) :: (136, tabObj ps) :: (129, tabObj psZ) :: ownT) → ((∀ p ∈ own, p ∈ ownT)) → ((∀ p ∈ own2, p ∈ ownT)) → IntsAre rvs.toList (rowI ns) → RowsAre ys own (piecesS (rowI ns).length (p0I ns) (p1I ns)) → OutRows zs own2 (pcsL (rowI ns).length (p0I ns) (p1I ns)) → oR.data = .cell (some (.ref rowA)) → oP.data = .cell (some (.ref pA)) → oZ.data = .cell (some (.ref Z)) → oW.data = .cell (some (.str (latN (b64out (rowI ns))) tw)) → S10 g L ns s1 { s1 with heap := h, toks := tk }
theorem S10.elim {g : Heap} {L : Nat} {ns : List Int} {s1 : Shared} {P : Shared → Prop} (k : ∀ (Z : Nat) (zs : List Value) (nZ : Nat) (psZ ps : Array Value) (tw : Tok) (PA : Nat) (ys : List Value) (nP pA nA : Nat) (t0 t1 : Tok) (rowA : Nat) (rvs : Array Value) (nr : Nat) (oR oP oZ oW : Obj) (own own2 ownT : List (Addr × Obj)) (h : Heap) (tk : Nat) (m : Str → Option Value), Fr g L h m → m (Str.ofString "pieces") = some (.ref PA) → News g L h ((Z, W.listOf zs.toArray nZ) :: (PA, W.listOf ys.toArray nP) :: (pA, W.listOf [Value.int (p0I ns) t0, .int (p1I ns) t1].toArray nA) :: (rowA, W.listOf rvs nr) :: (L + 1 + 1 + 1 + 1, oW) :: (L + 1 + 1 + 1, oZ) :: (L + 1 + 1, oP) :: (L + 1, oR) :: (136, tabObj ps) :: (129, tabObj psZ) :: ownT) → ((∀ p ∈ own, p ∈ ownT)) → ((∀ p ∈ own2, p ∈ ownT)) → IntsAre rvs.toList (rowI ns) → RowsAre ys own (piecesS (rowI ns).length (p0I ns) (p1I ns)) → OutRows zs own2 (pcsL (rowI ns).length (p0I ns) (p1I ns)) → oR.data = .cell (some (.ref rowA)) → oP.data = .cell (some (.ref pA)) → oZ.data = .cell (some (.ref Z)) → oW.data = .cell (some (.str (latN (b64out (rowI ns))) tw)) → P { s1 with heap := h, toks := tk }) : ∀ s₂, S10 g L ns s1 s₂ → P s₂ := fun _ H => H.casesOn (motive := fun s₂ _ => P s₂) (@k)
section
end
/-- what the law's own table makes of a piece -/
def J11 (h₀ : Heap) (pl : List (List Pc)) (i : Nat) (ys : List Value) (own : List (Addr × Obj)) : Prop := OutRows ys own (pl.take i) ∧ (∀ p ∈ own, h₀.get? p.1 = none) ∧ ys.length = i
theorem J11.nil {h₀ : Heap} {pl : List (List Pc)} : J11 h₀ pl 0 [] [] := ⟨.nil, fun _ hp => absurd hp List.not_mem_nil, rfl⟩
theorem rows_pcs {n : Nat} {p0 p1 : Int} {ys : List Value} {own : List (Addr × Obj)} (h : RowsAre ys own (piecesS n p0 p1)) {i : Nat} {v : Value} (hi : ys[i]? = some v) :
    ∃ r vs nn pcs, v = .ref r ∧ (r, W.listOf vs.toArray nn) ∈ own ∧ (pcsL n p0 p1)[i]? = some pcs ∧ StrsAre vs (pcs.map Pc.str) ∧ PcsOk pcs := by
  have key : ∀ {ys : List Value} {own : List (Addr × Obj)} {rows : List (List Str)}, RowsAre ys own rows → ∀ {i : Nat} {v : Value}, ys[i]? = some v → ∃ r vs nn ss, v = .ref r ∧ (r, W.listOf vs.toArray nn) ∈ own ∧ StrsAre vs ss ∧ rows[i]? = some ss := by
    intro ys own rows h
    induction h with
    | nil => intro i v h; simp at h
    | cons hs _ ih =>
      intro i v h
      cases i with
      | zero => simp at h; exact ⟨_, _, _, _, h.symm, .head _, hs, rfl⟩
      | succ i =>
        obtain ⟨r, vs, nn, ss, e, m, k, q⟩ := ih (i := i) (v := v) (by simpa using h)
        exact ⟨r, vs, nn, ss, e, .tail _ m, k, by simpa using q⟩
  obtain ⟨r, vs, nn, ss, e, m, k, q⟩ := key h hi
  rw [pieces_pcs, List.getElem?_map] at q
  cases e2 : (pcsL n p0 p1)[i]? with
  | none => rw [e2] at q; cases q
  | some pcs =>
    rw [e2] at q
    have := Option.some.inj q
    subst this
    exact ⟨r, vs, nn, pcs, e, m, rfl, k, pcs_ok _ _ _ pcs (List.mem_of_getElem? e2)⟩
/-- what the table's get gives for a piece's text -/
def GetOf (v y : Value) : Prop := ∀ p : Pc, p.Ok → (∃ t, v = .str p.str t) → OutIs y p
theorem outs_got : ∀ {pcs : List Pc} {vs ys : List Value}, StrsAre vs (pcs.map Pc.str) → (∀ p ∈ pcs, p.Ok) → Paired GetOf vs ys → OutsAre ys pcs
  | [], _, _, h, _, h2 => by cases h; cases h2; exact .nil
  | p :: pcs, _, _, h, ok, h2 => by
    cases h with
    | cons _ t h =>
      cases h2 with
      | cons g r => exact .cons (g p (ok p (.head _)) ⟨t, rfl⟩) (outs_got h (fun q hq => ok q (.tail _ hq)) r)
end Mine
end
/-! LawX -/
section
open PySem.Calls
set_option maxHeartbeats 1000000
set_option maxRecDepth 100000
namespace Mine
def tabL : List (PyData × PyData) := [(.str (Str.ofString "?"), .str (Str.ofString "any")), (.str (Str.ofString "*"), .none), (.str (Str.ofString "+"), .str (Str.ofString "\\+"))]
theorem tabL_at (x : Str) : Spec.lookup (.str x) tabL = if x = Str.ofString "?" then some (.str (Str.ofString "any")) else if x = Str.ofString "*" then some .none else if x = Str.ofString "+" then some (.str (Str.ofString "\\+")) else none := by
  simp only [tabL, Spec.lookup, Spec.same]
  by_cases h1 : x = Str.ofString "?"
  · subst h1; simp
  · by_cases h2 : x = Str.ofString "*"
    · subst h2; simp [h1, Ne.symm h1]
    · by_cases h3 : x = Str.ofString "+"
      · subst h3; simp [h1, h2, Ne.symm h1, Ne.symm h2]
      · simp [h1, h2, h3, Ne.symm h1, Ne.symm h2, Ne.symm h3]
theorem str_eq_cps {x y : Str} (h : x = y) : x.cps.toList = y.cps.toList := by rw [h]
theorem got_of (hp : Heap) {v : Value} {x : Str} {tx : Tok} (h : PyProof.V.Flat v ((Spec.lookup (.str x) tabL).getD (.str x))) : GetOf (.str x tx) v := by
  intro p ok ⟨t, e⟩
  injection e with e1 e2
  have fs : ∀ {z : Str}, PyProof.V.Flat v (.str z) → ∃ t, v = .str z t := fun {z} hf => by
    have r := hf hp
    generalize hd : PyData.str z = d at r
    cases r with
    | str y t => injection hd with hd; subst hd; exact ⟨t, rfl⟩
    | _ => cases hd
  have fn : PyProof.V.Flat v .none → v = .none := fun hf => by
    have r := hf hp
    generalize hd : PyData.none = d at r
    cases r with
    | none => rfl
    | _ => cases hd
  rw [tabL_at, e1] at h
  have ne : ∀ {c : Nat}, p.text ≠ [c] → p.str ≠ ⟨#[c]⟩ := fun {c} hn q => hn (by have := str_eq_cps q; exact this)
  cases p with
  | star => exact fn h
  | any => exact fs h
  | sign c =>
    have n1 : c ≠ 63 := fun q => by subst q; exact absurd (show 63 ∈ signC from ok) (by decide)
    have n2 : c ≠ 42 := fun q => by subst q; exact absurd (show 42 ∈ signC from ok) (by decide)
    show ∃ t, v = .str (if c = 43 then Str.ofString "\\+" else ⟨#[c]⟩) t
    by_cases h43 : c = 43
    · subst h43; exact fs h
    · rw [if_neg h43]
      rw [if_neg (show (Pc.sign c).str ≠ Str.ofString "?" from ne (c := 63) fun q => n1 (List.cons.inj q).1), if_neg (show (Pc.sign c).str ≠ Str.ofString "*" from ne (c := 42) fun q => n2 (List.cons.inj q).1), if_neg (show (Pc.sign c).str ≠ Str.ofString "+" from ne (c := 43) fun q => h43 (List.cons.inj q).1)] at h
      exact fs h
  | cls cs =>
    have n : ∀ c, Pc.text (.cls cs) ≠ [c] := fun c q => by
      have := congrArg List.length q
      simp [Pc.text] at this
    rw [if_neg (show (Pc.cls cs).str ≠ Str.ofString "?" from ne (c := 63) (n 63)), if_neg (show (Pc.cls cs).str ≠ Str.ofString "*" from ne (c := 42) (n 42)), if_neg (show (Pc.cls cs).str ≠ Str.ofString "+" from ne (c := 43) (n 43))] at h
    exact fs h
theorem outs_at {vs : List Value} {pcs : List Pc} (h : OutsAre vs pcs) : ∀ {ws : List Value}, OutsAre ws pcs → ∀ (j : Nat) (h1 : j < vs.length) (h2 : j < ws.length), ∃ p, OutIs vs[j] p ∧ OutIs ws[j] p := by
  induction h with
  | nil => intro ws _ j h1; simp at h1
  | cons a _ ih =>
    intro ws h2 j j1 j2
    cases h2 with
    | cons b h2 =>
      cases j with
      | zero => exact ⟨_, a, b⟩
      | succ j => exact ih h2 j (by simpa using j1) (by simpa using j2)
section
open PySem.SeqAt
variable {A : Around} {s : Shared}
theorem eqAt_out {v y : Value} {p : Pc} (h1 : OutIs v p) (h2 : OutIs y p) : EqAt A s v y true := by
  unfold OutIs at h1 h2
  cases e : p.outS with
  | none =>
    rw [e] at h1 h2
    dsimp only at h1 h2
    rw [h1, h2]; exact EqAt.same _
  | some z =>
    rw [e] at h1 h2
    obtain ⟨t, rfl⟩ := h1
    obtain ⟨u, rfl⟩ := h2
    exact eqAt_str
theorem eqAt_outs {a b : Addr} {vs ws : Array Value} {pcs : List Pc} (ha : s.heap.IsList a vs) (hb : s.heap.IsList b ws) (h1 : OutsAre vs.toList pcs) (h2 : OutsAre ws.toList pcs) (hu : A.units < cLine) : EqAt A s (.ref a) (.ref b) true := by
  refine eqAt_lists ha hb ?_ hu fun j j1 j2 => ?_
  · have e1 := h1.len
    have e2 := h2.len
    rw [Array.length_toList] at e1 e2; omega
  · obtain ⟨p, e1, e2⟩ := outs_at h1 h2 j (by simpa using j1) (by simpa using j2)
    rw [Array.getElem_toList] at e1 e2
    exact eqAt_out e1 e2
theorem rows_at {zs : List Value} {own : List (Addr × Obj)} {pl : List (List Pc)} (h : OutRows zs own pl) : ∀ {j : Nat} {v : Value}, zs[j]? = some v → ∃ r vs nn pcs, v = .ref r ∧ (r, W.listOf vs.toArray nn) ∈ own ∧ pl[j]? = some pcs ∧ OutsAre vs pcs := by
  induction h with
  | nil => intro j v h; simp at h
  | cons hs _ ih =>
    intro j v h
    cases j with
    | zero => simp at h; exact ⟨_, _, _, _, h.symm, .head _, rfl, hs⟩
    | succ j =>
      obtain ⟨r, vs, nn, pcs, e, m, q, k⟩ := ih (j := j) (v := v) (by simpa using h)
      exact ⟨r, vs, nn, pcs, e, .tail _ m, by simpa using q, k⟩
theorem ne_parts {prog : Program} {w : World} {E : Value → Shared → Prop} {Q : Value → Shared → Prop} {g : Heap} {L : Addr} {news own2 own3 : List (Addr × Obj)} {Z D : Addr} {zs ws : List Value} {n1 n2 : Nat} {pl : List (List Pc)} (N : News g L s.heap news)
    (m1 : (Z, W.listOf zs.toArray n1) ∈ news) (m2 : (D, W.listOf ws.toArray n2) ∈ news) (r1 : OutRows zs own2 pl) (r2 : OutRows ws own3 pl) (k1 : ∀ p ∈ own2, p ∈ news) (k2 : ∀ p ∈ own3, p ∈ news) (hu : A.units + 64 < cLine)
    (h : Q (.bool false) s) : wpAny (model prog w) A (compareOp .NotEq (.ref Z) (.ref D)) Q E s := by
  refine ne_lists (News.isList N m1) (News.isList N m2) ?_ (by omega) (fun j j1 j2 => ?_) h
  · have e1 := r1.len
    have e2 := r2.len
    rw [List.size_toArray, List.size_toArray]; omega
  · obtain ⟨a, vs, nn, pcs, e1, a1, q1, o1⟩ := rows_at r1 (j := j) (List.getElem?_eq_getElem (by simpa using j1))
    obtain ⟨b, us, mm, pcs', e2, a2, q2, o2⟩ := rows_at r2 (j := j) (List.getElem?_eq_getElem (by simpa using j2))
    rw [q1] at q2
    cases q2
    have e3 : zs.toArray[j] = .ref a := by simpa using e1
    have e4 : ws.toArray[j] = .ref b := by simpa using e2
    rw [e3, e4]
    exact eqAt_outs (News.isList N (k1 _ a1)) (News.isList N (k2 _ a2)) o1 o2 (by show A.units + 1 < cLine; omega)
end
theorem pcs_len {ns : List Int} {i : Nat} {pcs : List Pc} (h : (pcsL (rowI ns).length (p0I ns) (p1I ns))[i]? = some pcs) : pcs.length ≤ 100 := by
  have h8 := rowI_le ns
  have hm := List.mem_of_getElem? h
  unfold pcsL at hm
  rcases List.mem_append.mp hm with h | h
  · obtain ⟨i, hi, rfl⟩ := List.mem_map.mp h
    rw [List.mem_range] at hi
    simp [rowP, bodyP]; omega
  · rw [List.mem_singleton.mp h]
    simp [lastP]; omega
theorem j11_step {h₀ : Heap} {pl : List (List Pc)} {i : Nat} {zs : List Value} {own : List (Addr × Obj)} {s₃ : Shared} {pcs : List Pc} {D : Addr} {h' : Heap} {tk : Nat} {ys : List Value} {nn : Nat} (hJ : J11 h₀ pl i zs own) (hpl : pl[i]? = some pcs) (ho : ∀ p ∈ own, s₃.heap.get? p.1 = some p.2) (hk : ∀ b o, h₀.get? b = some o → s₃.heap.get? b = some o)
    (hD : s₃.heap.get? D = none) (e : h'.get? D = some (W.listOf ys.toArray nn)) (O : OutsAre ys pcs) (kp : Kp s₃.heap h') : EltTo (J11 h₀ pl) i zs own s₃ (.ref D) { s₃ with heap := h', toks := tk } := by
  obtain ⟨hr, hn, hl⟩ := hJ
  refine ⟨h', tk, own ++ [(D, W.listOf ys.toArray nn)], rfl, fun b o _ e => kp b o e, fun p hp => ?_, ?_, fun p hp => ?_, by simp [hl]⟩
  · rcases List.mem_append.mp hp with hp | hp
    · exact ⟨kp _ _ (ho p hp), .inl ⟨p, hp, rfl⟩⟩
    · rw [List.mem_singleton.mp hp]; exact ⟨e, .inr hD⟩
  · rw [List.take_add_one, hpl]
    exact hr.snoc O
  · rcases List.mem_append.mp hp with hp | hp
    · exact hn p hp
    · rw [List.mem_singleton.mp hp]
      cases e : h₀.get? D with
      | none => rfl
      | some o => have e1 := hk _ _ e; rw [hD] at e1; cases e1
theorem disp_kp {prog : Program} {w : World} {h₀ h : Heap} {L : Addr} {m : Str → Option Value} {news : List (Addr × Obj)} {vs : List (Value × Value)} {P : Heap → Prop} (F : Fr h₀ L h m) (N : News h₀ L h news) (hbig : h₀.NoLimit) (hk : allStrKeys vs = true) (hn : ((strPairs vs).map (·.1)).Nodup) (hv : allFlat vs = true)
    (k : ∀ h' o, Fr h₀ L h' m → News h₀ L h' ((h.objs.size, o) :: news) → (∀ p ∈ news, p.1 < h.objs.size) → (h.objs.size == sysModules) = false → o.IsDictOf (PySem.strKind prog w) (strPairs vs) → PyProof.V.FlatPairs PyData.str (strPairs vs) (strData vs) →
      (∀ p ∈ news, p.1 ≠ h.objs.size) → Kp h h' → P h') :
    ∃ kvs, Carries (PySem.strKind prog w) vs kvs ∧ (h.push { cls := .type "dict", data := .dict #[] }).DictOf (PySem.strKind prog w) h.objs.size [] ∧
      ∀ h', h'.DictOf (PySem.strKind prog w) h.objs.size (merged [] kvs) → Heap.SameBut h.objs.size (h.push { cls := .type "dict", data := .dict #[] }) h' → P h' := by
  obtain ⟨kvs, h1, h2, h3⟩ := kdp_made_str (prog := prog) (w := w) (P := fun h' => Kp h h' → P h') F N hbig hk hn hv (fun h' o a b c d e f g kp => k h' o a b c d e f g kp)
  exact ⟨kvs, h1, h2, fun h' hd hs => h3 h' hd hs fun b o e => hs.extBut b o (fun q => Nat.lt_irrefl _ (q ▸ Heap.lt_size e)) (Heap.get?_push_of_some _ e)⟩
end Mine
end
/-! LawY -/
section
open PySem.Calls
set_option maxHeartbeats 1000000
set_option maxRecDepth 100000
namespace Mine
/-! the last statement's lines -/
def outT (p : Pc) : Str := p.outS.getD Str.empty
def takesPc (pcs : List Pc) (text : Str) : Bool := takesS (pcs.dropLast.map outT) (pcs.getLast?.bind Pc.outS) text
def Shape (pcs : List Pc) : Prop := ∃ ini l, pcs = ini ++ [l] ∧ ∀ p ∈ ini, p ≠ .star
theorem shape_all (n : Nat) (hn : 5 ≤ n) (p0 p1 : Int) : ∀ pcs ∈ pcsL n p0 p1, Shape pcs := fun pcs h => by
  unfold pcsL at h
  rcases List.mem_append.mp h with h | h
  · obtain ⟨i, _, rfl⟩ := List.mem_map.mp h
    refine ⟨bodyP p0 p1 i, .star, rfl, fun p hp => ?_⟩
    obtain ⟨k, _, rfl⟩ := List.mem_map.mp hp
    have e : (8 * (i : Int)) = ((8 * i : Nat) : Int) := by omega
    rw [e]
    exact (pieceP_ok (by omega)).2
  · rw [List.mem_singleton.mp h]
    have hne : lastP n ≠ [] := fun q => by
      have := congrArg List.length q
      simp [lastP] at this; omega
    refine ⟨(lastP n).dropLast, (lastP n).getLast hne, (List.dropLast_concat_getLast hne).symm, fun p hp => ?_⟩
    have hp2 : p ∈ lastP n := List.dropLast_subset _ hp
    rcases List.mem_append.mp hp2 with h | h
    · rw [(List.mem_replicate.mp h).2]; nofun
    · rw [(List.mem_replicate.mp h).2]; nofun
theorem outs_split {vs : List Value} {ini : List Pc} {l : Pc} (h : OutsAre vs (ini ++ [l])) (hs : ∀ p ∈ ini, p ≠ .star) : ∃ us v, vs = us ++ [v] ∧ StrsAre us (ini.map outT) ∧ ItemIs v l.outS := by
  induction ini generalizing vs with
  | nil =>
    cases h with
    | cons a b =>
      cases b
      refine ⟨[], _, rfl, .nil, ?_⟩
      unfold OutIs at a
      unfold ItemIs
      cases e : l.outS with
      | none => rw [e] at a; exact a
      | some z => rw [e] at a; exact a
  | cons p ini ih =>
    cases h with
    | cons a b =>
      obtain ⟨us, v, rfl, h1, h2⟩ := ih b fun q hq => hs q (.tail _ hq)
      have hp := hs p (.head _)
      unfold OutIs at a
      cases e : p.outS with
      | none => cases p <;> first | exact absurd rfl hp | cases e
      | some z =>
        rw [e] at a
        obtain ⟨t, rfl⟩ := a
        refine ⟨_ :: us, v, rfl, ?_, h2⟩
        have e2 : outT p = z := by unfold outT; rw [e]; rfl
        rw [List.map_cons, e2]
        exact .cons z t h1
theorem outT_len {p : Pc} (ok : p.Ok) : ∀ z, p.outS = some z → z.length ≤ 1000 := by
  intro z e
  cases p with
  | star => cases e
  | any => cases e; decide +kernel
  | sign c =>
    have e : (if c = 43 then Str.ofString "\\+" else ⟨#[c]⟩) = z := Option.some.inj e
    subst e
    split
    · decide +kernel
    · exact (by decide : (1 : Nat) ≤ 1000)
  | cls cs =>
    have e : (⟨(91 :: (cs ++ [93])).toArray⟩ : Str) = z := Option.some.inj e
    subst e
    have := ok.2.2
    show (91 :: (cs ++ [93])).toArray.size ≤ 1000
    simp; omega
theorem takes_elt {w : World} {mean : ExcName → Option Value} {mg mb : Str → Option Value} {A : Around} {s : Shared} {Q E : Value → Shared → Prop}
  (hh : A.handled = none) (hd : A.depth + 16 < recursionLimit) (hu : A.units + 128 < cLine) (X : (headOf.heap_39 w.params).In s.heap) (T : Top topProg LO mean mg mb s.heap)
  {a : Addr} {vs : List Value} {pcs : List Pc} (hl : s.heap.IsList a vs.toArray) (O : OutsAre vs pcs) (ok : PcsOk pcs) (sh : Shape pcs) (hpl : pcs.length ≤ 100) {text : Str} {tt : Tok} (htx : text.length ≤ 1000)
  (h : ∀ h' tk', Kp s.heap h' → Q (.bool (takesPc pcs text)) { s with heap := h', toks := tk' }) :
  wpAny (model PR w) A (call (.ref 170) [.ref a, .str text tt]) Q E s := by
  obtain ⟨ini, l, rfl, hs⟩ := sh
  obtain ⟨us, v, rfl, h1, h2⟩ := outs_split O hs
  have e : takesPc (ini ++ [l]) text = takesS (ini.map outT) l.outS text := by
    unfold takesPc
    rw [List.dropLast_concat, List.getLast?_concat]; rfl
  rw [e] at h
  rw [List.length_append] at hpl
  refine takes_spec hh hd hu X T hl h1 h2 text tt (fun x hx => ?_) (by rw [List.length_map]; omega) htx (fun z hz => Nat.le_trans (outT_len (ok.1 l (by simp)) z hz) (by decide)) h
  obtain ⟨p, hp, rfl⟩ := List.mem_map.mp hx
  unfold outT
  cases e : p.outS with
  | none => decide
  | some z => exact outT_len (ok.1 p (by simp [hp])) z e
theorem slice_two (items : Array Value) (k : Nat) : slicePick items (some (k : Int)) (some ((k : Int) + 2)) none = ((items.toList.drop k).take 2).toArray := by
  rw [show (k : Int) + 2 = ((k + 2 : Nat) : Int) from by omega]
  rcases Nat.lt_or_ge items.size (k + 2) with h | h
  · rw [slicePick_plain]
    simp only [Option.elim, clipAt_nat]
    congr 1
    have hl : items.toList.length = items.size := Array.length_toList
    rcases Nat.lt_or_ge items.size k with h2 | h2
    · rw [List.drop_of_length_le (by omega), List.drop_of_length_le (by omega)]; simp
    · rw [Nat.min_eq_left h2, Nat.min_eq_right (by omega), List.take_of_length_le (by rw [List.length_drop]; omega), List.take_of_length_le (by rw [List.length_drop]; omega)]
  · rw [slicePick_run items k (k + 2) h (by omega), Nat.add_sub_cancel_left]
section
variable {prog : Program} {w : World} {A : Around} {E : Value → Shared → Prop} {s : Shared} {g : Heap} {L : Addr} {m : Str → Option Value} {news : List (Addr × Obj)}
theorem sl_two {l : Addr} {items : Array Value} {k : Nat} {t u : Tok} {Q : Value → Shared → Prop} (F : Fr g L s.heap m) (N : News g L s.heap news) (hl : s.heap.IsList l items) (hsz : items.size ≤ sizeLine)
    (h : ∀ D h', Fr g L h' m → News g L h' ((D, W.listOf ((items.toList.drop k).take 2).toArray 0) :: news) → (∀ q ∈ news, q.1 < D) → Kp s.heap h' → Q (.ref D) { s with heap := h' }) : SliceAt Q (.ref l) (.int (k : Int) t) (.int ((k : Int) + 2) u) s :=
  slice_end F N hl hsz (.int _ _) (.int _ _) fun D h' F' N' lt kp => h D h' F' (by rw [slice_two] at N'; exact N') lt kp
theorem item_nth {value slice : Expr} {l : Addr} {items : Array Value} {i : Nat} {v : Value} {u : Tok} {Q : Value → Shared → Prop} (hl : s.heap.IsList l items) (hi : i < 2 ^ 62) (hx : items[i]? = some v) (h : Q v s)
    (hs : subscripted slice false (.ref l) (.int (i : Int) u) = operate [.ref l, .int (i : Int) u] (getItem (.ref l) (.int (i : Int) u)) := by with_unfolding_all rfl) :
    wpAny (model prog w) A (subscriptTail value slice (.ref l) (.int (i : Int) u)) Q E s :=
  tail_any hl.typeIs slot_list_getitem.lookup (wpAny_getItem_list hl (by omega) (by omega) (by simpa using hx) h) hs
end
def pairQ (ns : List Int) (k : Nat) : Bool := decide (((rowI ns).drop k).take 2 = [p0I ns, p1I ns])
def takesQk (ns : List Int) (k : Nat) : Bool := takesPc ((pcsL (rowI ns).length (p0I ns) (p1I ns)).getD k []) (latN (b64out (rowI ns)))
/-- what the law's last statement compares -/
def lawLeft (ns : List Int) : List Int := ((List.range ((rowI ns).length + 1)).filter (takesQk ns)).map fun i => ((i : Nat) : Int)
def lawRight (ns : List Int) : List Int := (((List.range (rowI ns).length).filter (pairQ ns)).map fun i => ((i : Nat) : Int)) ++ [((rowI ns).length : Int)]
theorem lat_len (ks : List Int) : (latN ks).length = ks.length := by
  unfold latN
  show (ks.map Int.toNat).toArray.size = _
  simp
theorem end_eq {prog : Program} {w : World} {A : Around} {E : Value → Shared → Prop} {s : Shared} {g : Heap} {L : Addr} {news : List (Addr × Obj)} {a b : Addr} {xs ys : Array Value} {n1 n2 : Nat} {ns ms : List Int} {Q : Value → Shared → Prop} (N : News g L s.heap news) (m1 : (a, W.listOf xs n1) ∈ news) (m2 : (b, W.listOf ys n2) ∈ news) (hi : IntsAre xs.toList ns) (hj : IntsAre ys.toList ms) (hu : A.units + 64 < cLine) (h : Q (.bool (decide (ns = ms))) s) :
    wpAny (model prog w) A (compareOp .Eq (.ref a) (.ref b)) Q E s :=
  ke_eq_ints (xs := xs.toList) (ys := ys.toList) (by rw [Array.toArray_toList]; exact News.isList N m1) (by rw [Array.toArray_toList]; exact News.isList N m2) hi hj hu h
theorem right_ints {ns : List Int} {a : Array Value} {n : Nat} {t : Tok} (h : IntsAre a.toList (((List.range (rowI ns).length).filter (pairQ ns)).map fun i => ((i : Nat) : Int))) (hn : n = (rowI ns).length) : IntsAre (a ++ #[Value.int (n : Int) t]).toList (lawRight ns) := by
  subst hn
  rw [Array.toList_append]
  exact IntsAre.append h (.cons _ _ .nil)
end Mine
end
/-! LawZ -/
section
open PySem.Calls
set_option maxHeartbeats 1000000
set_option maxRecDepth 100000
namespace Mine
/-! the plain law -/
/-- the k-th six bits of a row -/
def rg (ks : List Int) (i : Nat) : Int := ks.getD i 0
def vK (ks : List Int) (k : Nat) : Int :=
  if k % 4 = 0 then rg ks (3 * (k / 4)) / 4
  else if k % 4 = 1 then rg ks (3 * (k / 4)) % 4 * 16 + rg ks (3 * (k / 4) + 1) / 16
  else if k % 4 = 2 then rg ks (3 * (k / 4) + 1) % 16 * 4 + rg ks (3 * (k / 4) + 2) / 64
  else rg ks (3 * (k / 4) + 2) % 64
theorem v0 (ks : List Int) (t : Nat) : vK ks (4 * t) = rg ks (3 * t) / 4 := by
  unfold vK
  rw [if_pos (by omega), show 4 * t / 4 = t by omega]
theorem v1 (ks : List Int) (t : Nat) : vK ks (4 * t + 1) = rg ks (3 * t) % 4 * 16 + rg ks (3 * t + 1) / 16 := by
  unfold vK
  rw [if_neg (by omega), if_pos (by omega), show (4 * t + 1) / 4 = t by omega]
theorem v2 (ks : List Int) (t : Nat) : vK ks (4 * t + 2) = rg ks (3 * t + 1) % 16 * 4 + rg ks (3 * t + 2) / 64 := by
  unfold vK
  rw [if_neg (by omega), if_neg (by omega), if_pos (by omega), show (4 * t + 2) / 4 = t by omega]
theorem v3 (ks : List Int) (t : Nat) : vK ks (4 * t + 3) = rg ks (3 * t + 2) % 64 := by
  unfold vK
  rw [if_neg (by omega), if_neg (by omega), if_neg (by omega), show (4 * t + 3) / 4 = t by omega]
def Octs (ks : List Int) : Prop := ∀ x ∈ ks, 0 ≤ x ∧ x < 256
theorem rg_in {ks : List Int} (h : Octs ks) (i : Nat) : 0 ≤ rg ks i ∧ rg ks i < 256 := getD_in h i
theorem vK_in {ks : List Int} (h : Octs ks) (k : Nat) : 0 ≤ vK ks k ∧ vK ks k < 64 := by
  have a := rg_in h (3 * (k / 4))
  have b := rg_in h (3 * (k / 4) + 1)
  have c := rg_in h (3 * (k / 4) + 2)
  unfold vK
  split
  · omega
  split
  · omega
  split
  · omega
  · omega
theorem p2_lit (n : Nat) : p2 (n : Int) = ((2 ^ n : Nat) : Int) := p2_nat n
structure B64As (ks : List Int) (i : Nat) (a : B64St) : Prop where
  out : a.out = (List.range (8 * i / 6)).map fun k => b64c (vK ks k)
  bits : a.bits = ((8 * i % 6 : Nat) : Int)
  char : i ≠ 0 → a.char % 256 = rg ks (i - 1)
theorem b64_as {ks : List Int} (hk : Octs ks) : ∀ i, i ≤ ks.length → B64As ks i (b64f ks i)
  | 0, _ => ⟨rfl, rfl, fun h => absurd rfl h⟩
  | i + 1, h => by
    have e : ks[i]? = some ks[i] := List.getElem?_eq_getElem h
    obtain ⟨ho, hb, hc⟩ := b64_as hk i (by omega)
    have hr : rg ks i = ks[i] := by unfold rg; rw [List.getD_eq_getElem?_getD, e]; rfl
    have hri := rg_in hk i
    have hrp := rg_in hk (i - 1)
    rw [b64f_succ e, ← hr]
    generalize b64f ks i = a at *
    refine ⟨?_, ?_, fun _ => ?_⟩
    · show a.out ++ emit ((a.char * 256 + rg ks i) % 65536) (a.bits + 8) ((a.bits + 8) / 6).toNat = _
      rw [ho, hb]
      obtain ⟨t, ht⟩ : ∃ t, i = 3 * t ∨ i = 3 * t + 1 ∨ i = 3 * t + 2 := ⟨i / 3, by omega⟩
      rcases ht with rfl | rfl | rfl
      · have e1 : 8 * (3 * t) % 6 = 0 := by omega
        have e2 : 8 * (3 * t) / 6 = 4 * t := by omega
        have e3 : 8 * (3 * t + 1) / 6 = 4 * t + 1 := by omega
        rw [e1, e2, e3, List.range_succ, List.map_append]
        congr 1
        show [b64c (((a.char * 256 + rg ks (3 * t)) % 65536) / p2 2 % 64)] = [b64c (vK ks (4 * t))]
        rw [v0]
        have e4 : p2 2 = 4 := rfl
        rw [e4]
        congr 2
        omega
      · have hc' := hc (by omega)
        rw [show 3 * t + 1 - 1 = 3 * t by omega] at hc' hrp
        have e1 : 8 * (3 * t + 1) % 6 = 2 := by omega
        have e2 : 8 * (3 * t + 1) / 6 = 4 * t + 1 := by omega
        have e3 : 8 * (3 * t + 1 + 1) / 6 = 4 * t + 2 := by omega
        rw [e1, e2, e3, show List.range (4 * t + 2) = List.range (4 * t + 1) ++ [4 * t + 1] from List.range_succ, List.map_append]
        congr 1
        show [b64c (((a.char * 256 + rg ks (3 * t + 1)) % 65536) / p2 4 % 64)] = [b64c (vK ks (4 * t + 1))]
        rw [v1]
        have e4 : p2 4 = 16 := rfl
        rw [e4]
        congr 2
        omega
      · have hc' := hc (by omega)
        rw [show 3 * t + 2 - 1 = 3 * t + 1 by omega] at hc' hrp
        have e1 : 8 * (3 * t + 2) % 6 = 4 := by omega
        have e2 : 8 * (3 * t + 2) / 6 = 4 * t + 2 := by omega
        have e3 : 8 * (3 * t + 2 + 1) / 6 = 4 * t + 3 + 1 := by omega
        rw [e1, e2, e3, show List.range (4 * t + 3 + 1) = List.range (4 * t + 2) ++ [4 * t + 2] ++ [4 * t + 3] by rw [List.range_succ, List.range_succ (n := 4 * t + 2)], List.map_append, List.map_append, List.append_assoc]
        congr 1
        show [b64c (((a.char * 256 + rg ks (3 * t + 2)) % 65536) / p2 6 % 64), b64c (((a.char * 256 + rg ks (3 * t + 2)) % 65536) / p2 0 % 64)] = [b64c (vK ks (4 * t + 2)), b64c (vK ks (4 * t + 3))]
        rw [v2, v3]
        have e4 : p2 6 = 64 := rfl
        have e5 : p2 0 = 1 := rfl
        rw [e4, e5]
        have q1 : (a.char * 256 + rg ks (3 * t + 2)) % 65536 / 64 % 64 = rg ks (3 * t + 1) % 16 * 4 + rg ks (3 * t + 2) / 64 := by omega
        have q2 : (a.char * 256 + rg ks (3 * t + 2)) % 65536 / 1 % 64 = rg ks (3 * t + 2) % 64 := by omega
        rw [q1, q2]
    · show a.bits + 8 - 6 * ((a.bits + 8) / 6) = _
      rw [hb]; omega
    · show ((a.char * 256 + rg ks i) % 65536) % 256 = rg ks (i + 1 - 1)
      rw [Nat.add_sub_cancel]; omega
theorem rg_out {ks : List Int} {i : Nat} (h : ks.length ≤ i) : rg ks i = 0 := by
  unfold rg
  rw [List.getD_eq_getElem?_getD, List.getElem?_eq_none_iff.mpr h]; rfl
theorem b64out_as {ks : List Int} (hk : Octs ks) : b64out ks = ((List.range ((8 * ks.length + 5) / 6)).map fun k => b64c (vK ks k)) ++ List.replicate ((-(ks.length : Int)) % 3).toNat 61 := by
  obtain ⟨ho, hb, hc⟩ := b64_as hk ks.length (Nat.le_refl _)
  unfold b64out
  generalize b64f ks ks.length = a at *
  rw [ho, hb]
  generalize hn : ks.length = n at *
  obtain ⟨t, ht⟩ : ∃ t, n = 3 * t ∨ n = 3 * t + 1 ∨ n = 3 * t + 2 := ⟨n / 3, by omega⟩
  rcases ht with rfl | rfl | rfl
  · have e1 : 8 * (3 * t) % 6 = 0 := by omega
    have e2 : (8 * (3 * t) + 5) / 6 = 8 * (3 * t) / 6 := by omega
    have e3 : ((-((3 * t : Nat) : Int)) % 3).toNat = 0 := by omega
    rw [e1, e2, e3, if_neg (by decide), if_neg (by decide)]
    simp
  · have hc' := hc (by omega)
    have hr := rg_in hk (3 * t)
    rw [show 3 * t + 1 - 1 = 3 * t by omega] at hc'
    have e1 : 8 * (3 * t + 1) % 6 = 2 := by omega
    have e2 : (8 * (3 * t + 1) + 5) / 6 = 8 * (3 * t + 1) / 6 + 1 := by omega
    have e4 : 8 * (3 * t + 1) / 6 = 4 * t + 1 := by omega
    have e3 : ((-((3 * t + 1 : Nat) : Int)) % 3).toNat = 2 := by omega
    rw [e1, e2, e3, if_pos (by decide), List.range_succ, List.map_append, List.append_assoc, e4]
    congr 1
    show [b64c (a.char % 4 * 16), 61, 61] = [b64c (vK ks (4 * t + 1)), 61, 61]
    rw [v1, rg_out (i := 3 * t + 1) (by omega)]
    congr 2
    omega
  · have hc' := hc (by omega)
    have hr := rg_in hk (3 * t + 1)
    rw [show 3 * t + 2 - 1 = 3 * t + 1 by omega] at hc'
    have e1 : 8 * (3 * t + 2) % 6 = 4 := by omega
    have e2 : (8 * (3 * t + 2) + 5) / 6 = 8 * (3 * t + 2) / 6 + 1 := by omega
    have e4 : 8 * (3 * t + 2) / 6 = 4 * t + 2 := by omega
    have e3 : ((-((3 * t + 2 : Nat) : Int)) % 3).toNat = 1 := by omega
    rw [e1, e2, e3, if_neg (by decide), if_pos (by decide), List.range_succ, List.map_append, List.append_assoc, e4]
    congr 1
    show [b64c (a.char % 16 * 4), 61] = [b64c (vK ks (4 * t + 2)), 61]
    rw [v2, rg_out (i := 3 * t + 2) (by omega)]
    congr 2
    omega
end Mine
end
/-! LawZ2 -/
section
open PySem.Calls
set_option maxHeartbeats 1000000
set_option maxRecDepth 100000
namespace Mine
theorem b64c_alpha : ∀ i < 64, b64c ((i : Nat) : Int) = ((alphaN i : Nat) : Int) := by decide +kernel
theorem alpha_inj : ∀ i < 64, ∀ j < 64, alphaN i = alphaN j → i = j := by decide +kernel
theorem alpha_pad : ∀ i < 64, alphaN i ≠ 61 := by decide +kernel
theorem len_toList (x : Str) : x.length = x.cps.toList.length := by rw [Array.length_toList]; rfl
theorem item_of {x : Str} {i c : Nat} (h : x.cps.toList[i]? = some c) : Txt.item x (i : Int) = ⟨#[c]⟩ := by
  have hi := (List.getElem?_eq_some_iff.mp h).1
  have e : x.cps.toList = x.cps.toList.take i ++ c :: x.cps.toList.drop (i + 1) := by
    have h2 := (List.getElem?_eq_some_iff.mp h).2
    rw [← h2, List.getElem_cons_drop, List.take_append_drop]
  exact text_at _ _ c x _ (by rw [List.length_take, Nat.min_eq_left (Nat.le_of_lt hi)]) e
theorem one_beq (a b : Nat) : ((⟨#[a]⟩ : Str) == ⟨#[b]⟩) = decide (a = b) := by
  by_cases h : a = b
  · subst h; simp
  · rw [decide_eq_false h]
    refine beq_eq_false_iff_ne.mpr fun q => h ?_
    have := str_eq_cps q
    exact (List.cons.inj this).1
theorem beq_len {x y : Str} (h : x.length ≠ y.length) : (x == y) = false := beq_eq_false_iff_ne.mpr fun q => h (by rw [q])
theorem sl_head {x : Str} {c : Nat} {r : List Nat} (h : x.cps.toList = c :: r) : Txt.slice x none (some 1) = ⟨#[c]⟩ := by
  have e := eq_of_beq (slice_closes_to (x := x) (j := 1) ⟨by omega, by rw [h, List.length_cons]; omega⟩)
  rw [e, h]; simp
theorem sl_lst {x : Str} {c : Nat} {r : List Nat} (h : x.cps.toList = r ++ [c]) : Txt.slice x (some (-1)) none = ⟨#[c]⟩ := by
  have hl : x.length = r.length + 1 := by rw [len_toList, h]; simp
  have e := eq_of_beq (slice_closes_from_neg (x := x) (i := -1) (a := (r.length : Int)) (b := (r.length : Int) + 1) (by decide) (by omega) (by omega) (by omega))
  rw [e, h]; simp
theorem slice_neg1 {x : Str} (h : 1 ≤ x.length) (i : Option Int) : Txt.slice x i (some (-1)) = Txt.slice x i (some ((x.length : Int) - 1)) := by
  have e : Builtin.Str.strSliceIndices i (some (-1)) 1 x.length = Builtin.Str.strSliceIndices i (some ((x.length : Int) - 1)) 1 x.length := by
    unfold Builtin.Str.strSliceIndices
    have h1 : ¬ ((x.length : Int) - 1 < 0) := by omega
    have h2 : (-1 : Int) < 0 := by decide
    have h3 : (-1 : Int) + (x.length : Int) = (x.length : Int) - 1 := by omega
    simp only [h1, h2, h3, if_true, if_false]
  unfold Txt.slice
  rw [e]
theorem sl_mid {x : Str} {a b : Nat} {cs : List Nat} (h : x.cps.toList = a :: (cs ++ [b])) : Txt.slice x (some 1) (some (-1)) = ⟨cs.toArray⟩ := by
  have hl : x.length = cs.length + 2 := by rw [len_toList, h]; simp
  rw [slice_neg1 (by omega)]
  exact cls_slice (P := [a]) (R := [b]) (cs := cs) (by rw [h]; rfl) rfl (by omega)
/-- whether a piece takes a sign -/
def fitsP (p : Pc) (x : Nat) : Bool := match p with | .star => false | .any => true | .sign c => decide (c = x) | .cls cs => decide (x ∈ cs)
theorem outT_sign {c : Nat} : outT (.sign c) = if c = 43 then Str.ofString "\\+" else ⟨#[c]⟩ := rfl
theorem outT_cls {cs : List Nat} : (outT (.cls cs)).cps.toList = 91 :: (cs ++ [93]) := rfl
theorem fits_one {p : Pc} (ok : p.Ok) (hs : p ≠ .star) (x : Nat) : fitsS (outT p) ⟨#[x]⟩ = fitsP p x := by
  cases p with
  | star => exact absurd rfl hs
  | any => rfl
  | sign c =>
    have hc : c ∈ signC := ok
    show fitsS (outT (.sign c)) ⟨#[x]⟩ = decide (c = x)
    rw [outT_sign]
    by_cases h : c = 43
    · subst h
      rw [if_pos rfl]
      unfold fitsS
      rw [sl_head (c := 92) (r := [43]) rfl, sl_lst (c := 43) (r := [92]) rfl, one_beq, show (Str.ofString "\\+" == Str.ofString "any") = false from beq_len (by decide), show ((⟨#[92]⟩ : Str) == Str.ofString "[") = false from one_beq 92 91]
      rfl
    · rw [if_neg h]
      unfold fitsS
      have n91 : c ≠ 91 := fun q => by subst q; exact absurd hc (by decide)
      rw [sl_head (c := c) (r := []) rfl, sl_lst (c := c) (r := []) rfl, one_beq, show ((⟨#[c]⟩ : Str) == Str.ofString "any") = false from beq_len (show (1 : Nat) ≠ 3 by decide), show ((⟨#[c]⟩ : Str) == Str.ofString "[") = false from (one_beq c 91).trans (decide_eq_false n91)]
      rfl
  | cls cs =>
    show fitsS (outT (.cls cs)) ⟨#[x]⟩ = decide (x ∈ cs)
    unfold fitsS
    have e1 : ((outT (.cls cs)) == Str.ofString "any") = false := by
      refine beq_eq_false_iff_ne.mpr fun q => ?_
      have := str_eq_cps q
      rw [outT_cls] at this
      exact absurd (List.cons.inj this).1 (by decide)
    rw [e1, sl_head outT_cls, sl_mid outT_cls, show ((⟨#[91]⟩ : Str) == Str.ofString "[") = true from one_beq 91 91, Bool.false_or, if_pos rfl, StrLaws.found_one]
def W64 (ks : List Int) : List Nat := ((List.range ((8 * ks.length + 5) / 6)).map fun k => alphaN (vK ks k).toNat) ++ List.replicate ((-(ks.length : Int)) % 3).toNat 61
theorem text_w {ks : List Int} (hk : Octs ks) : (latN (b64out ks)).cps.toList = W64 ks := by
  unfold latN W64
  rw [b64out_as hk]
  show List.map Int.toNat _ = _
  rw [List.map_append, List.map_map, List.map_replicate]
  congr 1
  refine List.map_congr_left fun k _ => ?_
  have h := vK_in hk k
  show (b64c (vK ks k)).toNat = _
  have e : vK ks k = (((vK ks k).toNat : Nat) : Int) := by omega
  rw [e, b64c_alpha _ (by omega)]
  rfl
theorem W64_len (ks : List Int) : (W64 ks).length = (8 * ks.length + 5) / 6 + ((-(ks.length : Int)) % 3).toNat := by simp [W64]
theorem W64_at {ks : List Int} {k : Nat} (h : k < (8 * ks.length + 5) / 6) : (W64 ks)[k]? = some (alphaN (vK ks k).toNat) := by
  unfold W64
  rw [List.getElem?_append_left (by simp; omega)]
  simp [h]
theorem W64_pad {ks : List Int} {k : Nat} (h1 : (8 * ks.length + 5) / 6 ≤ k) (h2 : k < (W64 ks).length) : (W64 ks)[k]? = some 61 := by
  rw [W64_len] at h2
  unfold W64
  rw [List.getElem?_append_right (by simp; omega)]
  simp only [List.length_map, List.length_range]
  rw [List.getElem?_replicate, if_pos (by omega)]
theorem takes_iff (xs : List Str) (y : Option Str) (text : Str) : takesS xs y text = true ↔ (fixS xs y).length ≤ text.length ∧ (y.isSome = true → text.length ≤ (fixS xs y).length) ∧ ∀ i < (fixS xs y).length, fitsS ((fixS xs y).getD i Str.empty) (Txt.item text (i : Int)) = true := by
  unfold takesS takesC
  rw [Bool.and_eq_true, decide_eq_true_eq, List.map_eq_nil_iff, List.filter_eq_nil_iff, Bool.not_eq_true', Bool.or_eq_false_iff, decide_eq_false_iff_not, Bool.and_eq_false_iff, decide_eq_false_iff_not]
  constructor
  · rintro ⟨⟨h1, h2⟩, h3⟩
    refine ⟨by omega, fun hy => ?_, fun i hi => ?_⟩
    · rcases h2 with h2 | h2
      · omega
      · rw [hy] at h2; cases h2
    · have := h3 i (List.mem_range.mpr hi)
      unfold takesQ at this
      simpa using this
  · rintro ⟨h1, h2, h3⟩
    refine ⟨⟨by omega, ?_⟩, fun i hi => ?_⟩
    · cases hy : y.isSome with
      | true => have := h2 hy; exact .inl (by omega)
      | false => exact .inr rfl
    · have := h3 i (List.mem_range.mp hi)
      unfold takesQ
      simpa using this
end Mine
end
/-! LawZ3 -/
section
open PySem.Calls
set_option maxHeartbeats 1000000
set_option maxRecDepth 100000
namespace Mine
theorem fit_signs {l : List Nat} (hl : ∀ i ∈ l, i < 64) {v : Nat} (hv : v < 64) : fitsP (pcSigns l) (alphaN v) = decide (v ∈ l) := by
  unfold pcSigns
  split
  · rename_i h
    obtain ⟨a, rfl⟩ : ∃ a, l = [a] := List.length_eq_one_iff.mp h
    show decide (alphaN a = alphaN v) = _
    have e : (alphaN a = alphaN v) ↔ v ∈ [a] := by
      rw [List.mem_singleton]
      exact ⟨fun h => (alpha_inj a (hl a (.head _)) v hv h).symm, fun h => by rw [h]⟩
    simp only [e]
  · show decide (alphaN v ∈ l.map alphaN) = _
    have e : (alphaN v ∈ l.map alphaN) ↔ v ∈ l := by
      rw [List.mem_map]
      exact ⟨fun ⟨a, ha, h⟩ => alpha_inj a (hl a ha) v hv h ▸ ha, fun h => ⟨v, h, rfl⟩⟩
    simp only [e]
theorem fit_pad {l : List Nat} (hl : ∀ i ∈ l, i < 64) (h1 : 1 ≤ l.length) : fitsP (pcSigns l) 61 = false := by
  unfold pcSigns
  split
  · cases l with
    | nil => simp at h1
    | cons a l => exact decide_eq_false (alpha_pad a (hl a (.head _)))
  · refine decide_eq_false fun h => ?_
    obtain ⟨a, ha, e⟩ := List.mem_map.mp h
    exact alpha_pad a (hl a ha) e
theorem piece_fit {k f p0 p1 : Int} (a b c : Nat) {A B C : Int} (h1 : (if f > 6 * k then f else 6 * k) = 6 * k + 6 - (a : Int) - (b : Int)) (h2 : (if f + 16 < 6 * k + 6 then f + 16 else 6 * k + 6) = 6 * k + 6 - (a : Int)) (hc : f + 16 = 6 * k + 6 - (a : Int) + (c : Int)) (hb : 0 < b)
    (hA : ((2 ^ a : Nat) : Int) = A) (hB : ((2 ^ b : Nat) : Int) = B) (hC : ((2 ^ c : Nat) : Int) = C) {v : Int} (hv : 0 ≤ v ∧ v < 64) : fitsP (pieceP k f p0 p1) (alphaN v.toNat) = true ↔ v / A % B = (p0 * 256 + p1) / C % B := by
  unfold pieceP
  rw [h1, h2]
  unfold pieceH
  rw [if_neg (by omega)]
  have e1 : 6 * k + 6 - (6 * k + 6 - (a : Int)) = (a : Int) := by omega
  have e2 : 6 * k + 6 - (a : Int) - (6 * k + 6 - (a : Int) - (b : Int)) = (b : Int) := by omega
  have e3 : f + 16 - (6 * k + 6 - (a : Int)) = (c : Int) := by omega
  rw [e1, e2, e3, fit_signs (fun i hi => List.mem_range.mp (List.mem_filter.mp hi).1) (by omega), decide_eq_true_eq, List.mem_filter, List.mem_range]
  unfold pieceQ
  rw [decide_eq_true_eq, p2_nat, p2_nat, p2_nat, hA, hB, hC, Int.toNat_of_nonneg hv.1]
  exact ⟨fun h => h.2, fun h => ⟨by omega, h⟩⟩
theorem pcSigns_ne (l : List Nat) : pcSigns l ≠ .any := by
  unfold pcSigns
  split <;> nofun
theorem piece_any {k f p0 p1 : Int} (h : 6 * k + 6 ≤ f) : pieceP k f p0 p1 = .any := by
  unfold pieceP pieceH
  rw [if_pos (by split <;> split <;> omega)]
/-- the same, the numbers written; and what the sign's bits are in the row -/
theorem piece_fit4 {p0 p1 : Int} (t j e a b c : Nat) {A B C : Int} (h1 : 6 * e + 6 = max (6 * e) (8 * j) + a + b) (h2 : min (6 * e + 6) (8 * j + 16) + a = 6 * e + 6) (h3 : 8 * j + 16 + a = 6 * e + 6 + c) (hb : 0 < b)
    (hA : ((2 ^ a : Nat) : Int) = A) (hB : ((2 ^ b : Nat) : Int) = B) (hC : ((2 ^ c : Nat) : Int) = C) {v q : Int} (hv : 0 ≤ v ∧ v < 64) (hq : v / A % B = q / C % B) : fitsP (pieceP (((4 * t + e : Nat) : Nat) : Int) (8 * ((3 * t + j : Nat) : Int)) p0 p1) (alphaN v.toNat) = true ↔ q / C % B = (p0 * 256 + p1) / C % B := by
  rw [← hq]
  exact piece_fit a b c (by split <;> omega) (by split <;> omega) (by omega) hb hA hB hC hv
theorem digits0 {q p : Int} (hq : 0 ≤ q ∧ q < 65536) (hp : 0 ≤ p ∧ p < 65536) (a : q / 1024 % 64 = p / 1024 % 64) (b : q / 16 % 64 = p / 16 % 64) (c : q / 1 % 16 = p / 1 % 16) : q = p := by omega
theorem digits1 {q p : Int} (hq : 0 ≤ q ∧ q < 65536) (hp : 0 ≤ p ∧ p < 65536) (a : q / 4096 % 16 = p / 4096 % 16) (b : q / 64 % 64 = p / 64 % 64) (c : q / 1 % 64 = p / 1 % 64) : q = p := by omega
theorem digits2 {q p : Int} (hq : 0 ≤ q ∧ q < 65536) (hp : 0 ≤ p ∧ p < 65536) (a : q / 16384 % 4 = p / 16384 % 4) (b : q / 256 % 64 = p / 256 % 64) (c : q / 4 % 64 = p / 4 % 64) (d : q / 1 % 4 = p / 1 % 4) : q = p := by omega
theorem pair_eq {a b c d : Int} (ha : 0 ≤ b ∧ b < 256) (hd : 0 ≤ d ∧ d < 256) : a * 256 + b = c * 256 + d ↔ a = c ∧ b = d := ⟨fun h => by omega, fun ⟨h, h'⟩ => by rw [h, h']⟩
theorem pair_in {a b : Int} (ha : 0 ≤ a ∧ a < 256) (hb : 0 ≤ b ∧ b < 256) : 0 ≤ a * 256 + b ∧ a * 256 + b < 65536 := by omega
theorem bA0 {a b : Int} (ha : 0 ≤ a ∧ a < 256) (hb : 0 ≤ b ∧ b < 256) : a / 4 / 1 % 64 = (a * 256 + b) / 1024 % 64 := by omega +splitDisjunctions
theorem bA1 {a b : Int} (ha : 0 ≤ a ∧ a < 256) (hb : 0 ≤ b ∧ b < 256) : (a % 4 * 16 + b / 16) / 1 % 64 = (a * 256 + b) / 16 % 64 := by omega
theorem bA2 {a b c : Int} (hb : 0 ≤ b ∧ b < 256) (hc : 0 ≤ c ∧ c < 256) : (b % 16 * 4 + c / 64) / 4 % 16 = (a * 256 + b) / 1 % 16 := by omega +splitDisjunctions
theorem bB1 {a b c : Int} (hb : 0 ≤ b ∧ b < 256) (hc : 0 ≤ c ∧ c < 256) : (a % 4 * 16 + b / 16) / 1 % 16 = (b * 256 + c) / 4096 % 16 := by omega +splitDisjunctions
theorem bB2 {b c : Int} (hb : 0 ≤ b ∧ b < 256) (hc : 0 ≤ c ∧ c < 256) : (b % 16 * 4 + c / 64) / 1 % 64 = (b * 256 + c) / 64 % 64 := by omega +splitDisjunctions
theorem bB3 {b c : Int} : c % 64 / 1 % 64 = (b * 256 + c) / 1 % 64 := by omega
theorem bC2 {b c d : Int} (hc : 0 ≤ c ∧ c < 256) (hd : 0 ≤ d ∧ d < 256) : (b % 16 * 4 + c / 64) / 1 % 4 = (c * 256 + d) / 16384 % 4 := by omega +splitDisjunctions
theorem bC3 {c d : Int} (hd : 0 ≤ d ∧ d < 256) : c % 64 / 1 % 64 = (c * 256 + d) / 256 % 64 := by omega +splitDisjunctions
theorem bC4 {c d : Int} (hd : 0 ≤ d ∧ d < 256) : d / 4 / 1 % 64 = (c * 256 + d) / 4 % 64 := by omega
theorem bC5 {c d e : Int} (he : 0 ≤ e ∧ e < 256) : (d % 4 * 16 + e / 16) / 16 % 4 = (c * 256 + d) / 1 % 4 := by omega +splitDisjunctions
theorem ix (t j e : Nat) (h : e < (8 * j + 21) / 6) : 4 * t + e < (8 * (3 * t + j) + 21) / 6 := by omega
theorem kc0 {t k : Nat} (h : k < (8 * (3 * t + 0) + 21) / 6) : 6 * k + 6 ≤ 8 * (3 * t + 0) ∨ k = 4 * t ∨ k = 4 * t + 1 ∨ k = 4 * t + 2 := by omega
theorem kc1 {t k : Nat} (h : k < (8 * (3 * t + 1) + 21) / 6) : 6 * k + 6 ≤ 8 * (3 * t + 1) ∨ k = 4 * t + 1 ∨ k = 4 * t + 2 ∨ k = 4 * t + 3 := by omega
theorem kc2 {t k : Nat} (h : k < (8 * (3 * t + 2) + 21) / 6) : 6 * k + 6 ≤ 8 * (3 * t + 2) ∨ k = 4 * t + 2 ∨ k = 4 * t + 3 ∨ k = 4 * t + 4 ∨ k = 4 * t + 5 := by omega
theorem all_fits {ks : List Int} (hk : Octs ks) (i : Nat) {p0 p1 : Int} (h0 : 0 ≤ p0 ∧ p0 < 256) (h1 : 0 ≤ p1 ∧ p1 < 256) :
    (∀ k : Nat, k < (8 * i + 21) / 6 → fitsP (pieceP (k : Int) (8 * (i : Int)) p0 p1) (alphaN (vK ks k).toNat) = true) ↔ rg ks i = p0 ∧ rg ks (i + 1) = p1 := by
  rw [← pair_eq (rg_in hk (i + 1)) h1]
  have hq := pair_in (rg_in hk i) (rg_in hk (i + 1))
  have hp := pair_in h0 h1
  obtain ⟨t, ht⟩ : ∃ t, i = 3 * t + 0 ∨ i = 3 * t + 1 ∨ i = 3 * t + 2 := ⟨i / 3, by omega⟩
  have before : ∀ k : Nat, 6 * k + 6 ≤ 8 * i → fitsP (pieceP (k : Int) (8 * (i : Int)) p0 p1) (alphaN (vK ks k).toNat) = true := fun k h => by rw [piece_any (by omega)]; rfl
  have rA := rg_in hk (3 * t)
  have rB := rg_in hk (3 * t + 1)
  have rC := rg_in hk (3 * t + 2)
  have rD := rg_in hk (3 * (t + 1))
  have rE := rg_in hk (3 * (t + 1) + 1)
  rcases ht with rfl | rfl | rfl
  · have c0 := piece_fit4 (p0 := p0) (p1 := p1) t 0 0 0 6 10 (q := rg ks (3 * t) * 256 + rg ks (3 * t + 1)) (by decide) (by decide) (by decide) (by decide) rfl rfl rfl (vK_in hk (4 * t)) (by rw [v0]; exact bA0 rA rB)
    have c1 := piece_fit4 (p0 := p0) (p1 := p1) t 0 1 0 6 4 (q := rg ks (3 * t) * 256 + rg ks (3 * t + 1)) (by decide) (by decide) (by decide) (by decide) rfl rfl rfl (vK_in hk (4 * t + 1)) (by rw [v1]; exact bA1 rA rB)
    have c2 := piece_fit4 (p0 := p0) (p1 := p1) t 0 2 2 4 0 (q := rg ks (3 * t) * 256 + rg ks (3 * t + 1)) (by decide) (by decide) (by decide) (by decide) rfl rfl rfl (vK_in hk (4 * t + 2)) (by rw [v2]; exact bA2 rB rC)
    constructor
    · intro h
      exact digits0 hq hp (c0.mp (h _ (ix t 0 0 (by decide)))) (c1.mp (h _ (ix t 0 1 (by decide)))) (c2.mp (h _ (ix t 0 2 (by decide))))
    · intro e k hkk
      have e' : rg ks (3 * t) * 256 + rg ks (3 * t + 1) = p0 * 256 + p1 := e
      rw [e'] at c0 c1 c2
      have hc := kc0 hkk
      rcases hc with hc | rfl | rfl | rfl
      · exact before k hc
      · exact c0.mpr rfl
      · exact c1.mpr rfl
      · exact c2.mpr rfl
  · have c1 := piece_fit4 (p0 := p0) (p1 := p1) t 1 1 0 4 12 (q := rg ks (3 * t + 1) * 256 + rg ks (3 * t + 2)) (by decide) (by decide) (by decide) (by decide) rfl rfl rfl (vK_in hk (4 * t + 1)) (by rw [v1]; exact bB1 rB rC)
    have c2 := piece_fit4 (p0 := p0) (p1 := p1) t 1 2 0 6 6 (q := rg ks (3 * t + 1) * 256 + rg ks (3 * t + 2)) (by decide) (by decide) (by decide) (by decide) rfl rfl rfl (vK_in hk (4 * t + 2)) (by rw [v2]; exact bB2 rB rC)
    have c3 := piece_fit4 (p0 := p0) (p1 := p1) t 1 3 0 6 0 (q := rg ks (3 * t + 1) * 256 + rg ks (3 * t + 2)) (by decide) (by decide) (by decide) (by decide) rfl rfl rfl (vK_in hk (4 * t + 3)) (by rw [v3]; exact bB3)
    constructor
    · intro h
      exact digits1 hq hp (c1.mp (h _ (ix t 1 1 (by decide)))) (c2.mp (h _ (ix t 1 2 (by decide)))) (c3.mp (h _ (ix t 1 3 (by decide))))
    · intro e k hkk
      have e' : rg ks (3 * t + 1) * 256 + rg ks (3 * t + 2) = p0 * 256 + p1 := e
      rw [e'] at c1 c2 c3
      have hc := kc1 hkk
      rcases hc with hc | rfl | rfl | rfl
      · exact before k hc
      · exact c1.mpr rfl
      · exact c2.mpr rfl
      · exact c3.mpr rfl
  · have e3 : 3 * t + 2 + 1 = 3 * (t + 1) := by omega
    have v4 := v0 ks (t + 1)
    have v5 := v1 ks (t + 1)
    rw [show 4 * (t + 1) = 4 * t + 4 from rfl] at v4
    rw [show 4 * (t + 1) + 1 = 4 * t + 5 from rfl] at v5
    rw [e3] at hq ⊢
    have c2 := piece_fit4 (p0 := p0) (p1 := p1) t 2 2 0 2 14 (q := rg ks (3 * t + 2) * 256 + rg ks (3 * (t + 1))) (by decide) (by decide) (by decide) (by decide) rfl rfl rfl (vK_in hk (4 * t + 2)) (by rw [v2]; exact bC2 rC rD)
    have c3 := piece_fit4 (p0 := p0) (p1 := p1) t 2 3 0 6 8 (q := rg ks (3 * t + 2) * 256 + rg ks (3 * (t + 1))) (by decide) (by decide) (by decide) (by decide) rfl rfl rfl (vK_in hk (4 * t + 3)) (by rw [v3]; exact bC3 rD)
    have c4 := piece_fit4 (p0 := p0) (p1 := p1) t 2 4 0 6 2 (q := rg ks (3 * t + 2) * 256 + rg ks (3 * (t + 1))) (by decide) (by decide) (by decide) (by decide) rfl rfl rfl (vK_in hk (4 * t + 4)) (by rw [v4]; exact bC4 rD)
    have c5 := piece_fit4 (p0 := p0) (p1 := p1) t 2 5 4 2 0 (q := rg ks (3 * t + 2) * 256 + rg ks (3 * (t + 1))) (by decide) (by decide) (by decide) (by decide) rfl rfl rfl (vK_in hk (4 * t + 5)) (by rw [v5]; exact bC5 rE)
    constructor
    · intro h
      exact digits2 hq hp (c2.mp (h _ (ix t 2 2 (by decide)))) (c3.mp (h _ (ix t 2 3 (by decide)))) (c4.mp (h _ (ix t 2 4 (by decide)))) (c5.mp (h _ (ix t 2 5 (by decide))))
    · intro e k hkk
      rw [e] at c2 c3 c4 c5
      have hc := kc2 hkk
      rcases hc with hc | rfl | rfl | rfl | rfl
      · exact before k hc
      · exact c2.mpr rfl
      · exact c3.mpr rfl
      · exact c4.mpr rfl
      · exact c5.mpr rfl
theorem takes_row {ks : List Int} (hk : Octs ks) (i : Nat) {p0 p1 : Int} : takesPc (rowP p0 p1 i) (latN (b64out ks)) = true ↔ (8 * i + 21) / 6 ≤ (W64 ks).length ∧ ∀ k : Nat, k < (8 * i + 21) / 6 → ∀ x, (W64 ks)[k]? = some x → fitsP (pieceP (k : Int) (8 * (i : Int)) p0 p1) x = true := by
  have hw := text_w hk
  have hl : (latN (b64out ks)).length = (W64 ks).length := by rw [len_toList, hw]
  unfold takesPc rowP
  rw [List.dropLast_concat, List.getLast?_concat]
  show takesS ((bodyP p0 p1 i).map outT) none _ = true ↔ _
  rw [takes_iff]
  have e : fixS ((bodyP p0 p1 i).map outT) none = (bodyP p0 p1 i).map outT := rfl
  have el : ((bodyP p0 p1 i).map outT).length = (8 * i + 21) / 6 := by simp [bodyP]
  rw [e, el, hl]
  have key : ∀ k : Nat, k < (8 * i + 21) / 6 → ∀ x, (W64 ks)[k]? = some x → fitsS (((bodyP p0 p1 i).map outT).getD k Str.empty) (Txt.item (latN (b64out ks)) (k : Int)) = fitsP (pieceP (k : Int) (8 * (i : Int)) p0 p1) x := fun k hkk x hx => by
    rw [← hw] at hx
    rw [item_of hx]
    have eg : ((bodyP p0 p1 i).map outT).getD k Str.empty = outT (pieceP (k : Int) (8 * (i : Int)) p0 p1) := by
      rw [List.getD_eq_getElem?_getD]
      simp [bodyP, hkk]
    have e8 : (8 * (i : Int)) = ((8 * i : Nat) : Int) := by omega
    have ok := pieceP_ok (k := k) (f := 8 * i) (p0 := p0) (p1 := p1) (by omega)
    rw [← e8] at ok
    rw [eg, fits_one ok.1 ok.2]
  constructor
  · rintro ⟨a, _, c⟩
    exact ⟨a, fun k hkk x hx => by rw [← key k hkk x hx]; exact c k hkk⟩
  · rintro ⟨a, c⟩
    refine ⟨a, (fun h => by cases h), fun k hkk => ?_⟩
    obtain ⟨x, hx⟩ : ∃ x, (W64 ks)[k]? = some x := ⟨_, List.getElem?_eq_getElem (by omega)⟩
    rw [key k hkk x hx]
    exact c k hkk x hx
theorem takes_in {ks : List Int} (hk : Octs ks) {i : Nat} (hi : i + 1 < ks.length) {p0 p1 : Int} (h0 : 0 ≤ p0 ∧ p0 < 256) (h1 : 0 ≤ p1 ∧ p1 < 256) : takesPc (rowP p0 p1 i) (latN (b64out ks)) = true ↔ rg ks i = p0 ∧ rg ks (i + 1) = p1 := by
  rw [takes_row hk, ← all_fits hk i h0 h1]
  have hl := W64_len ks
  constructor
  · rintro ⟨a, c⟩ k hkk
    exact c k hkk _ (W64_at (by omega))
  · intro c
    refine ⟨by omega, fun k hkk x hx => ?_⟩
    rw [W64_at (by omega)] at hx
    rw [← Option.some.inj hx]
    exact c k hkk
theorem takes_edge {ks : List Int} (hk : Octs ks) {i : Nat} (hi : i + 1 = ks.length) {p0 p1 : Int} : takesPc (rowP p0 p1 i) (latN (b64out ks)) = false := by
  refine Bool.eq_false_iff.mpr fun h => ?_
  obtain ⟨a, c⟩ := (takes_row hk i).mp h
  have hl := W64_len ks
  have h3 : (8 * ks.length + 5) / 6 < (8 * i + 21) / 6 := by omega
  have := c ((8 * ks.length + 5) / 6) h3 61 (W64_pad (Nat.le_refl _) (by omega))
  have e8 : (8 * (i : Int)) = ((8 * i : Nat) : Int) := by omega
  rw [e8] at this
  rcases pieceP_as (k := (8 * ks.length + 5) / 6) (f := 8 * i) (p0 := p0) (p1 := p1) (by omega) with e | ⟨a', b', c', la, lb, ok, hc, e⟩
  · unfold pieceP pieceH at e
    rw [if_neg (by split <;> split <;> omega)] at e
    exact pcSigns_ne _ e
  · rw [e, fit_pad (fun i hi => nSel_lt hi) (nSel_pos a' la b' lb ok c' hc)] at this
    cases this
theorem takes_last {ks : List Int} (hk : Octs ks) (hn : 1 ≤ ks.length) : takesPc (lastP ks.length) (latN (b64out ks)) = true := by
  have hw := text_w hk
  have hl : (latN (b64out ks)).length = (W64 ks).length := by rw [len_toList, hw]
  have hW := W64_len ks
  have hne : lastP ks.length ≠ [] := fun q => by
    have := congrArg List.length q
    simp [lastP] at this; omega
  have hlen : (lastP ks.length).length = (W64 ks).length := by rw [hW]; simp [lastP]
  have ok : ∀ p ∈ lastP ks.length, p.Ok ∧ p ≠ .star := fun p hp => by
    rcases List.mem_append.mp hp with h | h
    · rw [(List.mem_replicate.mp h).2]; exact ⟨trivial, by nofun⟩
    · rw [(List.mem_replicate.mp h).2]; exact ⟨show 61 ∈ signC by decide, by nofun⟩
  have efix : fixS ((lastP ks.length).dropLast.map outT) ((lastP ks.length).getLast?.bind Pc.outS) = (lastP ks.length).map outT := by
    rw [List.getLast?_eq_some_getLast hne]
    have hl := ok _ (List.getLast_mem hne)
    conv => rhs; rw [← List.dropLast_concat_getLast hne, List.map_append]
    generalize (lastP ks.length).getLast hne = l at hl
    cases l with
    | star => exact absurd rfl hl.2
    | any => rfl
    | sign c => rfl
    | cls cs => rfl
  unfold takesPc
  rw [takes_iff, efix, List.length_map, hlen, hl]
  refine ⟨Nat.le_refl _, fun _ => Nat.le_refl _, fun k hkk => ?_⟩
  obtain ⟨x, hx⟩ : ∃ x, (W64 ks)[k]? = some x := ⟨_, List.getElem?_eq_getElem hkk⟩
  have hx2 := hx
  rw [← hw] at hx2
  rw [item_of hx2]
  obtain ⟨p, hp⟩ : ∃ p, (lastP ks.length)[k]? = some p := ⟨_, List.getElem?_eq_getElem (by omega)⟩
  have eg : ((lastP ks.length).map outT).getD k Str.empty = outT p := by
    rw [List.getD_eq_getElem?_getD, List.getElem?_map, hp]; rfl
  have okp := ok p (List.mem_of_getElem? hp)
  rw [eg, fits_one okp.1 okp.2]
  by_cases hm : k < (8 * ks.length + 5) / 6
  · unfold lastP at hp
    rw [List.getElem?_append_left (by simpa using hm), List.getElem?_replicate, if_pos hm] at hp
    rw [← Option.some.inj hp]; rfl
  · unfold lastP at hp
    rw [List.getElem?_append_right (by simp; omega), List.length_replicate, List.getElem?_replicate, if_pos (by omega)] at hp
    rw [W64_pad (by omega) hkk] at hx
    rw [← Option.some.inj hp, ← Option.some.inj hx]; rfl
theorem two_drop {ks : List Int} {k : Nat} (h : k + 1 < ks.length) : (ks.drop k).take 2 = [rg ks k, rg ks (k + 1)] := by
  rw [List.drop_eq_getElem_cons (by omega), List.drop_eq_getElem_cons h]
  unfold rg
  rw [List.getD_eq_getElem?_getD, List.getD_eq_getElem?_getD, List.getElem?_eq_getElem h, List.getElem?_eq_getElem (by omega)]
  rfl
theorem pair_takes (ns : List Int) {k : Nat} (hk : k < (rowI ns).length) : takesQk ns k = pairQ ns k := by
  have ho : Octs (rowI ns) := rowI_in ns
  have eg : (pcsL (rowI ns).length (p0I ns) (p1I ns)).getD k [] = rowP (p0I ns) (p1I ns) k := by
    unfold pcsL
    rw [List.getD_eq_getElem?_getD, List.getElem?_append_left (by simpa using hk)]
    simp [hk]
  unfold takesQk
  rw [eg]
  rcases Nat.lt_or_ge (k + 1) (rowI ns).length with h | h
  · unfold pairQ
    rw [two_drop h]
    have e := takes_in ho h (getD_in ho (plI ns).toNat) (getD_in ho ((plI ns).toNat + 1))
    refine Bool.eq_iff_iff.mpr (e.trans ?_)
    rw [decide_eq_true_eq]
    unfold p0I p1I
    simp
  · rw [takes_edge ho (by omega)]
    unfold pairQ
    refine (decide_eq_false fun q => ?_).symm
    have := congrArg List.length q
    rw [List.length_take, List.length_drop] at this
    simp at this
    omega
theorem last_takes (ns : List Int) : takesQk ns (rowI ns).length = true := by
  have h5 := rowI_ge ns
  unfold takesQk
  have eg : (pcsL (rowI ns).length (p0I ns) (p1I ns)).getD (rowI ns).length [] = lastP (rowI ns).length := by
    unfold pcsL
    rw [List.getD_eq_getElem?_getD, List.getElem?_append_right (by simp)]
    simp
  rw [eg]
  exact takes_last (rowI_in ns) (by omega)
theorem law_eq (ns : List Int) : lawLeft ns = lawRight ns := by
  unfold lawLeft lawRight
  rw [List.range_succ, List.filter_append, List.map_append]
  have e1 : (List.range (rowI ns).length).filter (takesQk ns) = (List.range (rowI ns).length).filter (pairQ ns) := List.filter_congr fun k hk => pair_takes ns (List.mem_range.mp hk)
  have e2 : [(rowI ns).length].filter (takesQk ns) = [(rowI ns).length] := by simp [last_takes]
  rw [e1, e2]; rfl
end Mine
end
/-! LawA -/
section
open PySem.Calls
set_option maxRecDepth 100000
set_option maxHeartbeats 4000000
namespace Mine
local macro_rules | `(tactic| k_ne) => `(tactic| with_reducible first | assumption | exact Ne.symm (by assumption) | exact Nat.ne_of_lt (by assumption) | exact Nat.ne_of_gt (by assumption))
theorem law_holds : PySem.Challenge.rw_kt0013_01.Holds := headOf (by
  k_with_none
  k_with "execs cons" => (refine Stop.go ?_)
  k_with "eval Subscript" => (k_here; (with_reducible show wpAny _ _ (eval (Expr.Subscript (Expr.Name (Str.ofString "script") _) (Expr.Slice _ _ _ _) _) _) _ _ _); k_dflt (refine sub_slice ?_))
  k_with "eval Subscript" => (k_here; (with_reducible show wpAny _ _ (eval (Expr.Subscript (Expr.Name (Str.ofString "row") _) (Expr.Slice _ _ _ _) _) _) _ _ _); k_dflt (refine sub_slice ?_))
  k_with "eval Subscript" => (k_here; (with_reducible show wpAny _ _ (eval (Expr.Subscript (Expr.Name (Str.ofString "patterns") _) (Expr.Slice _ _ _ _) _) _) _ _ _); k_dflt (refine sub_slice ?_))
  k_with "eval Subscript" => (k_here; (with_reducible show wpAny _ _ (eval (Expr.Subscript (Expr.Subscript _ _ _) (Expr.Slice _ _ _ _) _) _) _ _ _); k_dflt (refine sub_slice ?_))
  k_with "SliceAt" => (k_here; k_dflt (refine' sl_upto (b := 3) (by k_asm) (by k_asm) (by is_list) (by simp; omega) ?_; k_whole); intro _ _ _ _ l1; (try k_lt l1); (try k_sweep); (try k_unmd); (try dsimp only))
  k_with "eval Name" => (k_here; k_dflt (refine' nm_loc (by k_asm) (by assumption) ?_ rfl rfl (by decide); k_whole))
  k_with "eval ListComp" => (refine Stop.go ?_)
  k_with "binaryOp Mod int int" => (k_here; k_dflt (refine' mod_line (by omega) ?_; k_whole); intro _ _ _ _; (try k_sweep); (try k_unmd); (try dsimp only))
  k_with "eval Name" => (k_here; k_inBlock; k_dflt (refine' nm_loc (by k_asm) (by assumption) ?_ rfl rfl (by decide); k_whole))
  k_with "newList" => (k_here; k_dflt (refine' newList_kp (by k_asm) (by k_asm) (by simp; try omega) ?_; k_whole); intro _ _ _ _ l1 _ _; (try k_lt l1); (try k_sweep); (try k_unmd); (try dsimp only))
  k_with "SliceAt" => (k_here; k_dflt (refine' sl_pair (by k_asm) (by k_asm) (by is_list) (by assumption) ?_); intro _ _ _ _ _ _ l1; (try k_lt l1); (try k_sweep); (try k_unmd); (try dsimp only))
  k_with "call ref" => (refine Stop.go ?_)
  k_with "call builtin:str.join" => (k_here; k_dflt (refine' join_line 1056 (by assumption) (by assumption) rfl (by assumption) (by decide) ?_; k_whole); intro _ _ _; (try k_sweep); (try k_unmd); (try dsimp only))
  k_with "binaryOp Mult ref int" => (k_here; k_dflt (refine' mul_two (by k_asm) (by k_asm) (by k_mem) (by assumption) (by simp; omega) ?_; k_whole); intro _ _ _ _ l1; (try k_lt l1); (try k_sweep); (try k_unmd); (try dsimp only))
  k_with "call type:bytes" => (k_here; (with_reducible show wpAny _ _ (call (Value.type "bytes") [Value.ref _]) _ _ _); k_dflt (refine' mk_two (by k_asm) (by k_asm) rfl (by k_mem) (by assumption) (by assumption) (by simp; omega) ?_; k_whole); intro _ _ _ _ _ _ _; (try k_sweep); (try k_unmd); (try dsimp only))
  k_with "call type:bytes" => (k_here; (with_reducible show wpAny _ _ (call (Value.type "bytes") [Value.ref _]) _ _ _); k_dflt (refine' mk_one (by k_asm) (by k_asm) rfl (by k_mem) (by omega) (by omega) ?_; k_whole); intro _ _ _ _ _ _ _ _; (try k_sweep); (try k_unmd); (try dsimp only))
  k_with "getMethod bytes" => (k_here; (with_reducible refine gm_bjoin ?_))
  k_with "call builtin:str.encode" => (k_here; k_dflt (refine' enc_asc (by assumption) (by omega) ?_); intro _ _ _ _)
  k_with "binaryOp Add bytes bytes" => (k_here; k_dflt (refine' bytes_add (by assumption) (by assumption) (by simp; try omega) (by first | omega | (rw [flat_pat]; omega) | (simp; omega)) ?_); intro _ _ _ _)
  k_with "getMethod str" => (k_here; (with_reducible refine gm_encode ?_))
  k_with "call builtin:bytes.join" => (k_here; k_dflt (refine' join_bytes (News.isList (by k_asm) (by k_mem)) (by assumption) (by assumption) (by rw [flat_pat]; omega) ?_); intro _ _ _ _)
  k_with "subscriptTail Name UnaryOp ref int" => (k_here; k_dflt (refine' item_lastq (by assumption) (News.isList (by k_asm) (by k_mem)) (by omega) ?_))
  k_with "subscriptTail Name Slice bytes ref" => (k_here; (with_reducible rename Fr _ _ _ _ => kF); (with_reducible rename News _ _ _ _ => kN); k_dflt (refine' sl_but (s := ⟨_, _, _, _, _⟩) kF kN (by assumption) (by omega) ?_); intro _ _ _ _ _ _ _; (try k_sweep); (try k_unmd); (try dsimp only))
  k_with "call builtin:chr" => (k_here; k_dflt (refine' chr_of_range (by omega) (by omega) ?_))
  k_with "call builtin:str.joinX" => (k_here; k_dflt (refine' join_line 1056 (News.isList (by k_asm) (by k_mem)) (by assumption) rfl (by assumption) (by decide) ?_; k_whole); intro _ _ _; (try k_sweep); (try k_unmd); (try dsimp only))
  k_with "call builtin:str.join" => ((with_reducible rename Stop True => mk8); refine Stop.go ?_)
  k_with "call type:bytes" => (k_here; (with_reducible show wpAny _ _ (call (Value.type "bytes") [Value.ref _]) _ _ _); k_dflt (refine' mk_row (by k_asm) (by k_asm) rfl (by k_mem) (by assumption) (rowI_in _) (by omega) ?_); intro _ _ _ _ _ _ _; (try k_sweep); (try k_unmd); (try dsimp only))
  k_with "binaryOp Add ref ref" => (k_here; (fail_if_success (with_reducible rename Stop (1 = 1) => mk2)); k_dflt (refine' add_two (by k_asm) (by k_asm) (by k_mem) (by k_mem) (by simp; omega) ?_; k_whole); intro _ _ _ _ l1; (try k_lt l1); (try k_sweep); (try k_unmd); (try dsimp only))
  k_with "compareOp NotEq ref ref" => (refine Stop.go ?_)
  k_with "SliceAt" => (k_here; k_dflt (refine' sl_init (by k_asm) (by k_asm) (by is_list) (by simp; omega) ?_; k_whole); intro _ _ _ _ l1; (try k_lt l1); (try k_sweep); (try k_unmd); (try dsimp only))
  k_with "subscriptTail" => (k_here; (with_reducible show wpAny _ _ (subscriptTail (Expr.Subscript _ _ _) (Expr.Slice _ _ _ _) (Value.ref _) (Value.ref _)) _ _ _); (with_reducible rename Fr _ _ _ _ => kF); (with_reducible rename News _ _ _ _ => kN); k_dflt (refine' sl_tail (s := ⟨_, _, _, _, _⟩) (a := 1) kF kN (by is_list) (by simp; omega) ?_); intro _ _ _ _ l1; (try k_lt l1); (try k_sweep); (try k_unmd); (try dsimp only))
  k_with "call builtin:bytes.decode" => (k_here; k_dflt (refine' dec_asc (by assumption) (by omega) (by omega) (by assumption) ?_); intro _ _; (try k_sweep); (try k_unmd); (try dsimp only))
  k_with "Exists" => (k_here; (refine disp_kp (by k_asm) (by first | k_asm | exact News.nil) (Top.nolimit (by k_asm)) (by rfl) (of_decide_eq_true (by rfl)) (by rfl) ?_; intro _ _ _ _ l1 _ _ _ _ _; (try k_lt l1)))
  k_with "call type:range" => (k_here; k_dflt (refine' range_call (by k_asm) (by k_asm) ?_; k_whole); intro _ _ _ _ _ _ _ _ _ _; (try k_sweep); (try k_unmd); (try dsimp only))
  k_with "call builtin:len" => (k_here; (with_reducible show wpAny _ _ (call (Value.builtin "len") [Value.ref _]) _ _ _); k_dflt (refine' len_list (by is_list) (by simp; omega) ?_; k_whole); (try k_sweep); (try k_unmd); (try dsimp only))
  k_with "eval Name" => (k_here; k_inBlock; k_dflt (refine' nm_cell (by k_asm) (by assumption) ?_ rfl rfl rfl (by decide); k_whole))
  k_with "subscriptTail Name Name ref int" => (k_here; k_dflt (refine' item_nth (by is_list) (by omega) (by assumption) ?_; k_whole))
  k_with "SliceAt" => (k_here; k_dflt (refine' sl_two (by k_asm) (by k_asm) (by is_list) (by omega) ?_; k_whole); intro _ _ _ _ l1 _; (try k_lt l1); (try k_sweep); (try k_unmd); (try dsimp only))
  k_with "compareOp Eq ref ref" => (refine Stop.go ?_)
  w_strict (k_go0; (all_goals try k_fold); k_steps
            show wpAny _ _ _ _ _ _
            (with_reducible rename Fr _ _ _ _ => F0)
            (with_reducible rename News _ _ _ _ => N0)
            (with_reducible rename Frag.In _ _ => X0)
            (with_reducible rename Top topProg _ _ _ _ _ => T0)
            (rename IntsAre _ _ => hI)
            (rename ¬ _ < _ => h63)
            (rename List Int => ns)
            (rename Shared => s1)
            (rename World => w)
            have hL0 := lifted
            have h63 : ns.length ≤ 63 := by omega
            have hvl := hI.length
            have hsl : sizeLine = 16777216 := sizeLine_eq
            obtain ⟨o1, o2, o3, o4, N00, d1, d2, d3, d4⟩ : ∃ o1 o2 o3 o4, News (ghostOf s1.heap [(140, 136), (133, 129)]) s1.heap.objs.size _ [(s1.heap.objs.size + 1 + 1 + 1 + 1, o4), (s1.heap.objs.size + 1 + 1 + 1, o3), (s1.heap.objs.size + 1 + 1, o2), (s1.heap.objs.size + 1, o1), (136, tabObj #[]), (129, tabObj #[])] ∧ o1.data = .cell none ∧ o2.data = .cell none ∧ o3.data = .cell none ∧ o4.data = .cell none := ⟨_, _, _, _, N0, by assumption, by assumption, by assumption, by assumption⟩
            clear N0
            refine exec_cut F0 (fun _ s₂ => S1 (ghostOf s1.heap [(140, 136), (133, 129)]) s1.heap.objs.size o1 o2 o3 o4 ns s1 s₂) ?st1 ?r1
            case st1 =>
              k_fold
              k_steps
              refine ⟨rfl, _, _, _, _, _, _, by assumption, rfl, by assumption, ?_, by omega⟩
              exact ints_take hI 3
            case r1 =>
              refine S1.elim ?_
              intro cutA cvs nn h tk m F1 mcut N1 hcv lcut
              clear F0 N00
              have hcl := hcv.length
              rw [List.length_take] at hcl
              refine exec_cut F1 (fun _ s₂ => S2 (ghostOf s1.heap [(140, 136), (133, 129)]) s1.heap.objs.size o2 o3 o4 ns s1 s₂) ?st2 ?r2
              case st2 =>
                show wpAny _ _ _ _ _ _
                k_fold
                k_steps
                show wpAny _ _ _ _ _ _
                refine' lc_val (cl := _) cvs.toArray.size (fun i v => cvs.toArray[i]? = some v) (fun _ => true) (fun v y => match v with | .int a _ => ∃ t, y = .int (a % 256) t | _ => False) ?hclos ?hcell ?hkind ?hnames ?hx ?hsz ?hmain
                case hclos => with_unfolding_all rfl
                case hcell => decide
                case hkind => rfl
                case hnames => decide
                case hx => rfl
                case hsz => (simp; omega)
                case hmain =>
                  k_steps
                  (with_reducible rename Fr _ _ _ _ => F5)
                  (with_reducible rename News _ _ _ _ => N5)
                  refine ⟨iters_list rfl (News.isList N5 (by k_mem)), ?_, ?_, ?_⟩
                  · intro C i v s₃ m₃ E' hP F₃ hm
                    rw [List.forIn_nil]
                    exact wpAny_pure ⟨rfl, Keeps.toks⟩
                  · intro C i v s₃ m₃ E' hP _ F₃ hm
                    obtain ⟨a, t, rfl⟩ := ints_get hcv hP
                    obtain ⟨h6, g6, d6, tk6, os6⟩ := s₃
                    show wpAny _ _ _ _ _ _
                    have N₃ := news_nil F₃
                    k_steps
                    (rename _ = _ ∧ 0 ≤ _ ∧ _ => hmd)
                    obtain ⟨rfl, _⟩ := hmd
                    exact ⟨⟨_, rfl⟩, Keeps.toks⟩
                  · intro D h6 tk6 ys vs hD hpl hlen hP hF kp6
                    obtain ⟨n6, hpl⟩ := hpl
                    have nD := fresh_ne N5 hD
                    simp only [AllNe, and_true] at nD
                    have F6 := fr_kp F5 kp6
                    have N6 := news_add F5 (news_kp N5 kp6) hD hpl
                    rw [vs_of hlen hP] at hF
                    have I6 := paired_ints hcv hF
                    obtain ⟨ys⟩ := ys
                    have I6l := I6.length
                    rw [List.length_map, List.length_take] at I6l
                    clear F5 N5 hF
                    show wpAny _ _ _ _ _ _
                    have mk2 : Stop (1 = 1) := rfl
                    k_steps
                    (with_reducible rename Fr _ _ _ _ => F7)
                    (with_reducible rename News _ _ _ _ => N7)
                    refine ⟨rfl, s2_mk F7 N7 mcut hcv (by assumption) (by k_allIn) ?_ lcut (by omega)⟩
                    (rename IntsAre _ _ => I7)
                    exact I7
              case r2 =>
                refine S2.elim ?_
                intro cutA cvs nn rowA rvs nr oR h tk m F2 mcut N2 hcv hrv hR lcut lrow
                clear F1 N1
                have hcl := hcv.length
                have hrl := hrv.length
                have hr8 := rowI_le ns
                have hr5 := rowI_ge ns
                rw [List.length_take] at hcl
                refine exec_cut F2 (fun _ s₂ => S3 (ghostOf s1.heap [(140, 136), (133, 129)]) s1.heap.objs.size o2 o3 o4 ns s1 s₂) ?st3 ?r3
                case st3 =>
                  show wpAny _ _ _ _ _ _
                  k_fold
                  k_steps
                  (with_reducible rename Fr _ _ _ _ => F7)
                  (with_reducible rename News _ _ _ _ => N7)
                  (rename _ = _ ∧ 0 ≤ _ ∧ _ => hmd)
                  obtain ⟨rfl, _⟩ := hmd
                  exact ⟨rfl, rowA, rvs, nr, oR, _, _, _, _, F7, rfl, news_sub N7 (by k_allIn), hrv, hR, by omega⟩
                case r3 =>
                  refine S3.elim ?_
                  intro rowA rvs nr oR h tk m tp F3 mplace N3 hrv hR lrow
                  clear F2 N2
                  refine exec_cut F3 (fun _ s₂ => S4 (ghostOf s1.heap [(140, 136), (133, 129)]) s1.heap.objs.size o3 o4 ns s1 s₂) ?st4 ?r4
                  case st4 =>
                    show wpAny _ _ _ _ _ _
                    k_fold
                    k_steps
                    show wpAny _ _ (call (.ref 158) _) _ _ _
                    (with_reducible rename Fr _ _ _ _ => F7)
                    (with_reducible rename News _ _ _ _ => N7)
                    have hX7 := X0.keeps F7.keep
                    have hT7 := T0.keeps F7.keep
                    have hp0 := getD_in (rowI_in ns) (plI ns).toNat
                    have hp1 := getD_in (rowI_in ns) ((plI ns).toNat + 1)
                    have hrl2 : rvs.toList.length = (rowI ns).length := hrv.length
                    refine pieces_spec rfl (by simp only [depth_deeper]; decide +kernel) (by dsimp only [Around.deeper, callerA]; decide +kernel) hX7 hT7 (us := rvs.toList) (News.isList N7 (by k_mem)) (by omega) (News.isList N7 (by k_mem)) hp0 hp1 ?_
                    intro R h8 tk8 ys own kp8 hR8 hrows hown hnR
                    dsimp only at kp8 hown hnR
                    obtain ⟨nP, N8, nR, nO⟩ := pieces_news F7 N7 kp8 hR8 hown hnR
                    have F8 := fr_kp F7 kp8
                    simp only [AllNe, and_true] at nR
                    simp only [List.cons_append, List.nil_append] at N8
                    have hoff : OwnOff own [s1.heap.objs.size + 1 + 1 + 1 + 1, s1.heap.objs.size + 1 + 1 + 1, s1.heap.objs.size + 1 + 1, s1.heap.objs.size + 1, 136, 129] := own_offs nO (by (repeat ((with_reducible show ∀ p ∈ _ :: _, _); refine List.forall_mem_cons.mpr ⟨⟨_, by k_mem⟩, ?_⟩)); exact List.forall_mem_nil _)
                    clear F7 N7 nO
                    show wpAny _ _ _ _ _ _
                    k_steps
                    (with_reducible rename Fr _ _ _ _ => F9)
                    (with_reducible rename News _ _ _ _ => N9)
                    refine ⟨rfl, s4_mk F9 N9 rfl hR (by assumption) (by k_allIn) (fun p hp => by repeat (first | exact hp | refine List.Mem.tail _ ?_)) hrv hrl2 hrows (by omega) (by omega) (by omega) hoff⟩
                  case r4 =>
                    refine S4.elim ?_
                    intro PA ys nP pA nA t0 t1 rowA rvs nr oR oP own h tk m F4 mpieces N4 hrv hrows hR hPr lrow lpair nPA hoff
                    clear F3 N3
                    refine exec_cut F4 (fun _ s₂ => S5 (ghostOf s1.heap [(140, 136), (133, 129)]) s1.heap.objs.size o3 o4 ns s1 s₂) ?st5 ?r5
                    case st5 =>
                      show wpAny _ _ _ _ _ _
                      have hyl := hrows.len
                      have hr8 := rowI_le ns
                      have hpl : (piecesS (rowI ns).length (p0I ns) (p1I ns)).length = (rowI ns).length + 1 := by simp [piecesS]
                      have hu : ∀ r o o', (r, o) ∈ own → (r, o') ∈ own → o = o' := fun r o o' h1 h2 => by
                        have a1 := (N4 (r, o) (by repeat (first | exact h1 | refine List.Mem.tail _ ?_))).1
                        have a2 := (N4 (r, o') (by repeat (first | exact h2 | refine List.Mem.tail _ ?_))).1
                        exact Option.some.inj (a1.symm.trans a2)
                      refine' as_val (cl := _) ys.toArray.size (fun i v => ys.toArray[i]? = some v) (fun _ => true) (JoinOf own) ?hsw ?hclos ?hcell ?hkind ?hnames ?hx ?hsz ?hy ?hp ?hmain
                      case hsw => with_unfolding_all rfl
                      case hclos => with_unfolding_all rfl
                      case hcell => decide
                      case hkind => rfl
                      case hnames => decide
                      case hx => rfl
                      case hsz => (simp; omega)
                      case hy => rfl
                      case hp => rfl
                      case hmain =>
                        k_fold
                        k_steps
                        (with_reducible rename Fr _ _ _ _ => F5)
                        (with_reducible rename News _ _ _ _ => N5)
                        refine ⟨_, F5.ns, iters_list rfl (News.isList N5 (by k_mem)), ?_, ?_, ?_⟩
                        · intro C i v s₃ m₃ E' hP F₃ hm
                          rw [List.forIn_nil]
                          exact wpAny_pure ⟨rfl, Keeps.toks⟩
                        · intro C i v s₃ m₃ E' hP _ F₃ hm
                          obtain ⟨r, vs, nq, ss, rfl, mo, hss, hin⟩ := rows_get hrows (i := i) (by simpa using hP)
                          have hsum := row_sum hr8 hin
                          obtain ⟨h6, g6, d6, tk6, os6⟩ := s₃
                          have hl6 : h6.IsList r vs.toArray := list_kp (News.isList N5 (by repeat (first | exact mo | refine List.Mem.tail _ ?_))) F₃.keep
                          show wpAny _ _ _ _ _ _
                          have N₃ := news_nil F₃
                          k_steps
                          exact ⟨⟨r, vs, nq, ss, _, rfl, mo, hss, rfl⟩, Keeps.toks⟩
                        · intro D h6 tk6 ys6 vs6 hD hpl6 hlen6 hP hF ns6 kp6
                          obtain ⟨n6, hpl6⟩ := hpl6
                          have nD := fresh_ne N5 hD
                          simp only [AllNe, and_true] at nD
                          have F6 := fr_put F5 ns6 kp6
                          have N6 := news_add2 F5 N5 ns6 kp6 hD hpl6
                          obtain ⟨ys6⟩ := ys6
                          rw [vs_of hlen6 hP] at hF
                          have S6 := rows_join hu hrows (fun p hp => hp) hF
                          exact ⟨rfl, D, ys6, n6, PA, ys, nP, pA, nA, t0, t1, rowA, rvs, nr, oR, oP, own, h6, tk6, _, F6, mpieces, rfl, N6, hrv, hrows, S6, hR, hPr, lrow, lpair, nPA, ⟨by omega, by omega, by omega, by omega⟩, hoff⟩
                    case r5 =>
                      refine S5.elim ?_
                      intro QA qs nQ PA ys nP pA nA t0 t1 rowA rvs nr oR oP own h tk m F5 mpieces mpat N5 hrv hrows hqs hR hPr lrow lpair nPA nQA hoff
                      clear F4 N4
                      have hr8 := rowI_le ns
                      have hr5 := rowI_ge ns
                      have hrl := hrv.length
                      have hql := hqs.length
                      have hpl : (pats (rowI ns).length (p0I ns) (p1I ns)).length = (rowI ns).length + 1 := by simp [piecesS, pats]
                      refine exec_cut F5 (fun _ s₂ => S6 (ghostOf s1.heap [(140, 136), (133, 129)]) s1.heap.objs.size o3 o4 ns s1 s₂) ?st6 ?r6
                      case st6 =>
                        have hpk := pats_ok (ns := ns)
                        obtain ⟨qi, yl, y, ty, hqe, hpe, hqi⟩ : ∃ qi yl y ty, qs = qi ++ [Value.str y ty] ∧ pats (rowI ns).length (p0I ns) (p1I ns) = yl ++ [y] ∧ StrsAre qi yl := by
                          rcases PyProof.Rows.strs_nil_or_snoc hqs with ⟨_, h0⟩ | h
                          · rw [h0] at hpl; simp at hpl
                          · obtain ⟨a, b, c, d, e1, e2, e3⟩ := h
                            exact ⟨a, b, c, d, e1, e2, e3⟩
                        have hqil : qi.length ≤ 100 := by
                          have := congrArg List.length hqe
                          rw [List.length_append] at this
                          omega
                        have hylen : y.length ≤ 255 := (hpk y (by rw [hpe]; simp)).2.2
                        have hfl := flat_len (l := pats (rowI ns).length (p0I ns) (p1I ns)) fun x hx => (hpk x hx).2.2
                        have hin : ∀ x ∈ [((rowI ns).length : Int)] ++ rowI ns, 0 ≤ x ∧ x < 256 := fun x hx => by
                          rcases List.mem_append.mp hx with h | h
                          · rw [List.mem_singleton.mp h]; omega
                          · exact rowI_in ns x h
                        show wpAny _ _ _ _ _ _
                        k_fold
                        k_steps
                        show wpAny _ _ _ _ _ _
                        refine' lc_val (cl := _) qs.toArray.size (fun i v => qs.toArray[i]? = some v) (fun _ => true) EncOf ?hclos ?hcell ?hkind ?hnames ?hx ?hsz ?hmain
                        case hclos => with_unfolding_all rfl
                        case hcell => decide
                        case hkind => rfl
                        case hnames => decide
                        case hx => rfl
                        case hsz => (simp; omega)
                        case hmain =>
                          k_steps
                          (with_reducible rename Fr _ _ _ _ => F7)
                          (with_reducible rename News _ _ _ _ => N7)
                          refine ⟨iters_list rfl (News.isList N7 (by k_mem)), ?_, ?_, ?_⟩
                          · intro C i v s₃ m₃ E' hP F₃ hm
                            rw [List.forIn_nil]
                            exact wpAny_pure ⟨rfl, Keeps.toks⟩
                          · intro C i v s₃ m₃ E' hP _ F₃ hm
                            obtain ⟨x, tx, rfl, hxin⟩ := strs_get hqs hP
                            obtain ⟨hx1, hx2, hx3⟩ := hpk x hxin
                            have X7 := X0.keeps F7.keep
                            have T7 := T0.keeps F7.keep
                            have hcl := codes_len x
                            obtain ⟨h6, g6, d6, tk6, os6⟩ := s₃
                            show wpAny _ _ _ _ _ _
                            have N₃ := news_nil F₃
                            k_steps
                            exact ⟨⟨x, tx, _, _, rfl, rfl, by assumption⟩, Keeps.mk (Kp.trans (by assumption) (by assumption))⟩
                          · intro D h6 tk6 ys6 vs6 hD hpl6 hlen6 hP hF kp6
                            obtain ⟨n6, hpl6⟩ := hpl6
                            have nD := fresh_ne N7 hD
                            simp only [AllNe, and_true] at nD
                            have F8 := fr_kp F7 kp6
                            have N8 := news_add F7 (news_kp N7 kp6) hD hpl6
                            obtain ⟨ys6⟩ := ys6
                            rw [vs_of hlen6 hP] at hF
                            have SB6 := enc_all hqs hF
                            have hfe := flat_pat (pats (rowI ns).length (p0I ns) (p1I ns))
                            have hy6 : 2 ≤ ys6.length := by
                              have h1 := SB6.len
                              rw [List.length_map] at h1
                              have h2 : ({ toList := ys6 } : Array Value).toList = ys6 := rfl
                              rw [h2] at h1
                              omega
                            clear F7 N7 hF
                            show wpAny _ _ _ _ _ _
                            k_steps
                            (with_reducible rename Fr _ _ _ _ => F9)
                            (with_reducible rename News _ _ _ _ => N9)
                            refine ⟨rfl, _, _, _, QA, qs, nQ, PA, ys, nP, pA, nA, t0, t1, rowA, rvs, nr, oR, oP, own, _, _, _, F9, mpieces, mpat, rfl, by rw [size_last hpe]; rfl, by rw [← tape_eq]; assumption, news_sub N9 ?_, hrv, hrows, hqs, hR, hPr, lrow, lpair, nPA, nQA, hoff⟩
                            repeat ((with_reducible show ∀ p ∈ _ :: _, _); refine List.forall_mem_cons.mpr ⟨by k_memK, ?_⟩)
                            exact fun p hp => by repeat (first | exact hp | refine List.Mem.tail _ ?_)
                      case r6 =>
                        refine S6.elim ?_
                        intro tt tz bt QA qs nQ PA ys nP pA nA t0 t1 rowA rvs nr oR oP own h tk m F6 mpieces mpat mtape msize hbt N6 hrv hrows hqs hR hPr lrow lpair nPA nQA hoff
                        clear F5 N5
                        have hpk := pats_ok (ns := ns)
                        obtain ⟨yl, y, hpe⟩ : ∃ yl y, pats (rowI ns).length (p0I ns) (p1I ns) = yl ++ [y] := ⟨_, _, (List.dropLast_concat_getLast (by intro q; rw [q] at hpl; simp at hpl)).symm⟩
                        have hsz := size_last hpe
                        obtain ⟨hy1, hy2, hy3⟩ := hpk y (by rw [hpe]; simp)
                        refine exec_cut F6 (fun _ s₂ => S7 (ghostOf s1.heap [(140, 136), (133, 129)]) s1.heap.objs.size o3 o4 ns s1 s₂) ?st7 ?r7
                        case st7 =>
                          have hpc : ∀ x ∈ patC ns, 1 ≤ x.length ∧ x.length ≤ 255 := fun x hx => by
                            obtain ⟨p, hp, rfl⟩ := List.mem_map.mp hx
                            rw [codes_len]; exact (hpk p hp).2
                          have hpcl : (patC ns).length = (rowI ns).length + 1 := by unfold patC; rw [List.length_map]; exact hpl
                          have htl5 := tape_len (ns := ns) (fun x hx => (hpc x hx).2) (by omega)
                          show wpAny _ _ _ _ _ _
                          k_fold
                          k_steps
                          show wpAny _ _ (call (.ref 148) _) _ _ _
                          (with_reducible rename Fr _ _ _ _ => F7)
                          (with_reducible rename News _ _ _ _ => N7)
                          refine read_spec (ps := #[]) (own := (QA, W.listOf qs.toArray nQ) :: (PA, W.listOf ys.toArray nP) :: (pA, W.listOf [Value.int (p0I ns) t0, .int (p1I ns) t1].toArray nA) :: (rowA, W.listOf rvs nr) :: (s1.heap.objs.size + 1 + 1 + 1 + 1, o4) :: (s1.heap.objs.size + 1 + 1 + 1, o3) :: (s1.heap.objs.size + 1 + 1, oP) :: (s1.heap.objs.size + 1, oR) :: (129, tabObj #[]) :: own) (row := rowI ns) (tail := []) (texts := rowI ns :: patC ns) F7 (news_sub N7 ?sub) ?off X0 T0 (by assumption) ⟨trivial, .inl rfl⟩ rfl rfl (hbt.trans (tape_told ns)) (by omega) ?htx (by simp; omega) .none ?_
                          case sub =>
                            repeat ((with_reducible show ∀ p ∈ _ :: _, _); refine List.forall_mem_cons.mpr ⟨by k_memK, ?_⟩)
                            exact fun p hp => by repeat (first | exact hp | refine List.Mem.tail _ ?_)
                          case off =>
                            intro p hp b hb
                            rw [List.mem_singleton.mp hb]
                            revert p
                            repeat ((with_reducible show ∀ p ∈ _ :: _, _); refine List.forall_mem_cons.mpr ⟨by (refine neN ?_; (try dsimp only); omega), ?_⟩)
                            exact fun p hp => hoff p hp 136 (by simp)
                          case htx =>
                            intro x hx
                            rcases List.mem_cons.mp hx with rfl | hx
                            · omega
                            · exact hpc x hx
                          intro D1 T1 c oc h8 tk8 vs1 n1 br1 tb1 tm1 ps1 F8 N8 hbr1 hvs1 lD1 rf1
                          show wpAny _ _ _ _ _ _
                          clear F7 N7
                          have al1 := rf1.lo
                          simp only [AllLt, and_true] at al1
                          have lc1 := rf1.miss rfl
                          have rl1 := rf1.lt
                          have rlc := rf1.lc
                          obtain ⟨vc, tc, hvc, hvc1⟩ := rf1.rec_
                          k_steps
                          show wpAny _ _ (call (.ref 148) _) _ _ _
                          (with_reducible rename Fr _ _ _ _ => F7)
                          (with_reducible rename News _ _ _ _ => N7)
                          refine read_spec (ps := ps1) (own := (D1, W.listOf [Value.bytes br1 tb1, .ref T1, .str (Str.ofString "not enough data in stream to read uint1") tm1].toArray 0) :: (T1, W.listOf vs1.toArray n1) :: (c, oc) :: (QA, W.listOf qs.toArray nQ) :: (PA, W.listOf ys.toArray nP) :: (pA, W.listOf [Value.int (p0I ns) t0, .int (p1I ns) t1].toArray nA) :: (rowA, W.listOf rvs nr) :: (s1.heap.objs.size + 1 + 1 + 1 + 1, o4) :: (s1.heap.objs.size + 1 + 1 + 1, o3) :: (s1.heap.objs.size + 1 + 1, oP) :: (s1.heap.objs.size + 1, oR) :: (129, tabObj #[]) :: own) (row := rowI ns) (tail := _) (texts := rowI ns :: yl.map codes) F7 (news_sub N7 ?sub) ?off X0 T0 (by assumption) ⟨rf1.tri, .inr ⟨c, oc, vc, tc, rf1.hit, .tail _ (.tail _ (.head _)), hvc, hvc1⟩⟩ rfl rfl (Eq.trans (by assumption) (tape_shorn hpe hy2)) (by omega) ?htx ?htn (.cut _ (by rw [List.length_dropLast, codes_len]; omega)) ?_
                          case sub =>
                            repeat ((with_reducible show ∀ p ∈ _ :: _, _); refine List.forall_mem_cons.mpr ⟨by k_memK, ?_⟩)
                            exact fun p hp => by repeat (first | exact hp | refine List.Mem.tail _ ?_)
                          case off =>
                            intro p hp b hb
                            rw [List.mem_singleton.mp hb]
                            revert p
                            repeat ((with_reducible show ∀ p ∈ _ :: _, _); refine List.forall_mem_cons.mpr ⟨by (refine neN ?_; (try dsimp only); omega), ?_⟩)
                            exact fun p hp => hoff p hp 136 (by simp)
                          case htx =>
                            intro x hx
                            rcases List.mem_cons.mp hx with rfl | hx
                            · omega
                            · obtain ⟨p, hp, rfl⟩ := List.mem_map.mp hx
                              rw [codes_len]; exact (hpk p (by rw [hpe]; simp [hp])).2
                          case htn =>
                            have := congrArg List.length hpe
                            rw [hpl] at this
                            simp at this ⊢
                            omega
                          intro D2 T2 c2 oc2 h9 tk9 vs2 n2 br2 tb2 tm2 ps2 F9 N9 hbr2 hvs2 lD2 rf2
                          show wpAny _ _ _ _ _ _
                          clear F7 N7
                          have al2 := rf2.lo
                          simp only [AllLt, and_true] at al2
                          have hszd : ((codes y).dropLast.length : Int) = sizeI ns - 1 := by
                            rw [hsz, List.length_dropLast, codes_len]; omega
                          have hszd1 : (((codes y).dropLast.length + 1 : Nat) : Int) = sizeI ns := by omega
                          rw [hszd, hszd1] at N9
                          k_steps
                          show wpAny _ _ _ _ _ _
                          refine' lc_val (cl := _) rvs.size (fun i v => rvs[i]? = some v) (fun _ => true) ChrOf ?hclos ?hcell ?hkind ?hnames ?hx ?hsz ?hmain
                          case hclos => with_unfolding_all rfl
                          case hcell => decide
                          case hkind => rfl
                          case hnames => decide
                          case hx => rfl
                          case hsz => (have hrl' := hrv.length; rw [Array.length_toList] at hrl'; omega)
                          case hmain =>
                            k_steps
                            (with_reducible rename Fr _ _ _ _ => F7)
                            (with_reducible rename News _ _ _ _ => N7)
                            refine ⟨iters_list rfl (News.isList N7 (by k_mem)), ?_, ?_, ?_⟩
                            · intro C i v s₃ m₃ E' hP F₃ hm
                              rw [List.forIn_nil]
                              exact wpAny_pure ⟨rfl, Keeps.toks⟩
                            · intro C i v s₃ m₃ E' hP _ F₃ hm
                              obtain ⟨a, ta, rfl, hain⟩ := int_at hrv (i := i) (v := v) (by simpa using hP)
                              obtain ⟨ha0, ha1⟩ := rowI_in ns a hain
                              have X7 := X0.keeps F7.keep
                              have T7 := T0.keeps F7.keep
                              obtain ⟨h6, g6, d6, tk6, os6⟩ := s₃
                              show wpAny _ _ _ _ _ _
                              have N₃ := news_nil F₃
                              k_steps
                              exact ⟨⟨a, ta, _, rfl, rfl⟩, Keeps.toks⟩
                            · intro D h6 tk6 ys6 vs6 hD hpl6 hlen6 hP hF kp6
                              obtain ⟨n6, hpl6⟩ := hpl6
                              have nD := fresh_ne N7 hD
                              simp only [AllNe, and_true] at nD
                              have F8 := fr_kp F7 kp6
                              have N8 := news_add F7 (news_kp N7 kp6) hD hpl6
                              obtain ⟨ys6⟩ := ys6
                              have hvs6 : vs6.filter (fun _ => true) = rvs.toList := vs_of (vs := rvs.toList) (by simpa using hlen6) (fun j v e => by simpa using hP j v e)
                              rw [hvs6] at hF
                              have SB6 := chr_all hrv hF
                              have hsum : (((rowI ns).map fun a => (⟨#[a.toNat]⟩ : Str)).map (·.length)).sum ≤ 1056 := by rw [one_sum]; omega
                              clear F7 N7 hF
                              have mk9 : Stop True := trivial
                              show wpAny _ _ _ _ _ _
                              k_steps
                              show wpAny _ _ (call (.builtin "str.join") _) _ _ _
                              refine join_line 1056 (News.isList N8 (.head _)) SB6 rfl hsum (by decide) ?_
                              intro tJ tkJ hjn
                              rw [join_chr]
                              show wpAny _ _ _ _ _ _
                              k_steps
                              (with_reducible rename Fr _ _ _ _ => F11)
                              (with_reducible rename News _ _ _ _ => N11)
                              refine ⟨rfl, D1, T1, br1, tb1, tm1, vs1, n1, D2, T2, br2, tb2, tm2, vs2, n2, ps2, _, tz, yl, y, QA, qs, nQ, PA, ys, nP, pA, nA, t0, t1, rowA, rvs, nr, oR, oP, own, _, _, _, F11, mpieces, mpat, rfl, rfl, rfl, msize, news_sub N11 ?_, hbr1, hbr2, hvs1, hvs2, hpe, hrv, hrows, hqs, hR, hPr, lrow, lpair, nPA, nQA, hoff, ⟨by omega, by omega, by omega, by omega⟩⟩
                              repeat ((with_reducible show ∀ p ∈ _ :: _, _); refine List.forall_mem_cons.mpr ⟨by k_memK, ?_⟩)
                              exact fun p hp => by repeat (first | exact hp | refine List.Mem.tail _ ?_)
                        case r7 =>
                          refine S7.elim ?_
                          intro D1 T1 br1 tb1 tm1 vs1 n1 D2 T2 br2 tb2 tm2 vs2 n2 ps tx tz yl y QA qs nQ PA ys nP pA nA t0 t1 rowA rvs nr oR oP own h tk m F7 mpieces mpat mtold mshorn mtext msize N7 hb1 hb2 hv1 hv2 hpe hrv hrows hqs hR hPr lrow lpair nPA nQA hoff hlt
                          clear F6 N6
                          refine exec_cut F7 (fun _ s₂ => S7 (ghostOf s1.heap [(140, 136), (133, 129)]) s1.heap.objs.size o3 o4 ns s1 s₂) ?st8 ?r8
                          case st8 =>
                            have hql := hqs.length
                            have hrl := hrv.length
                            show wpAny _ _ _ _ _ _
                            k_fold
                            k_steps
                            show wpAny _ _ _ _ _ _
                            (with_reducible rename Fr _ _ _ _ => F8)
                            (with_reducible rename News _ _ _ _ => N8)
                            (rename KBw.bInts _ = rowI ns => hb8)
                            have SQ : StrsAre (#[Value.str (latN (rowI ns)) tx] ++ qs.toArray).toList ((rowI ns :: patC ns).map latN) := by
                              rw [told_texts]
                              have e : (#[Value.str (latN (rowI ns)) tx] ++ qs.toArray).toList = Value.str (latN (rowI ns)) tx :: qs := by simp
                              rw [e]
                              exact .cons _ _ hqs
                            refine ne_three N8 (by k_memK) (by k_memK) (hb1.trans hb8.symm) (by k_memK) (by k_memK) hv1 SQ (by ke_room) ?_
                            show wpAny _ _ _ _ _ _
                            k_steps
                            refine ⟨rfl, D1, T1, br1, tb1, tm1, vs1, n1, D2, T2, br2, tb2, tm2, vs2, n2, ps, tx, tz, yl, y, QA, qs, nQ, PA, ys, nP, pA, nA, t0, t1, rowA, rvs, nr, oR, oP, own, _, _, _, F8, mpieces, mpat, mtold, mshorn, mtext, msize, news_sub N8 ?_, hb1, hb2, hv1, hv2, hpe, hrv, hrows, hqs, hR, hPr, lrow, lpair, nPA, nQA, hoff, hlt⟩
                            repeat ((with_reducible show ∀ p ∈ _ :: _, _); refine List.forall_mem_cons.mpr ⟨by k_memK, ?_⟩)
                            exact fun p hp => by repeat (first | exact hp | refine List.Mem.tail _ ?_)
                          case r8 =>
                            refine S7.elim ?_
                            intro D1 T1 br1 tb1 tm1 vs1 n1 D2 T2 br2 tb2 tm2 vs2 n2 ps tx tz yl y QA qs nQ PA ys nP pA nA t0 t1 rowA rvs nr oR oP own h tk m F8 mpieces mpat mtold mshorn mtext msize N8 hb1 hb2 hv1 hv2 hpe hrv hrows hqs hR hPr lrow lpair nPA nQA hoff hlt
                            clear F7 N7
                            refine exec_cut F8 (fun _ s₂ => S7 (ghostOf s1.heap [(140, 136), (133, 129)]) s1.heap.objs.size o3 o4 ns s1 s₂) ?st9 ?r9
                            case st9 =>
                              have hql := hqs.length
                              have hrl := hrv.length
                              show wpAny _ _ _ _ _ _
                              k_fold
                              k_steps
                              show wpAny _ _ _ _ _ _
                              (with_reducible rename Fr _ _ _ _ => F9)
                              (with_reducible rename News _ _ _ _ => N9)
                              (rename KBw.bInts _ = rowI ns => hb9)
                              have SQ : StrsAre (#[Value.str (latN (rowI ns)) tx] ++ (List.take (qs.toArray.size - 1) qs.toArray.toList).toArray).toList ((rowI ns :: yl.map codes).map latN) := by
                                rw [List.map_cons, lat_all]
                                have e : (#[Value.str (latN (rowI ns)) tx] ++ (List.take (qs.toArray.size - 1) qs.toArray.toList).toArray).toList = Value.str (latN (rowI ns)) tx :: List.take (qs.toArray.size - 1) qs.toArray.toList := by simp
                                rw [e]
                                exact .cons _ _ (strs_init (qs := qs.toArray) hqs hpe)
                              refine ne_three N9 (by k_memK) (by k_memK) (hb2.trans hb9.symm) (by k_memK) (by k_memK) hv2 SQ (by ke_room) ?_
                              show wpAny _ _ _ _ _ _
                              k_steps
                              refine ⟨rfl, D1, T1, br1, tb1, tm1, vs1, n1, D2, T2, br2, tb2, tm2, vs2, n2, ps, tx, tz, yl, y, QA, qs, nQ, PA, ys, nP, pA, nA, t0, t1, rowA, rvs, nr, oR, oP, own, _, _, _, F9, mpieces, mpat, mtold, mshorn, mtext, msize, news_sub N9 ?_, hb1, hb2, hv1, hv2, hpe, hrv, hrows, hqs, hR, hPr, lrow, lpair, nPA, nQA, hoff, hlt⟩
                              repeat ((with_reducible show ∀ p ∈ _ :: _, _); refine List.forall_mem_cons.mpr ⟨by k_memK, ?_⟩)
                              exact fun p hp => by repeat (first | exact hp | refine List.Mem.tail _ ?_)
                            case r9 =>
                              refine S7.elim ?_
                              intro D1 T1 br1 tb1 tm1 vs1 n1 D2 T2 br2 tb2 tm2 vs2 n2 ps tx tz yl y QA qs nQ PA ys nP pA nA t0 t1 rowA rvs nr oR oP own h tk m F9 mpieces mpat mtold mshorn mtext msize N9 hb1 hb2 hv1 hv2 hpe hrv hrows hqs hR hPr lrow lpair nPA nQA hoff hlt
                              clear F8 N8
                              refine exec_cut F9 (fun _ s₂ => S10 (ghostOf s1.heap [(140, 136), (133, 129)]) s1.heap.objs.size ns s1 s₂) ?st10 ?r10
                              case st10 =>
                                show wpAny _ _ _ _ _ _
                                k_fold
                                k_steps
                                show wpAny _ _ _ _ _ _
                                have hvl1 := hv1.length
                                have hpcl : (pcsL (rowI ns).length (p0I ns) (p1I ns)).length = (rowI ns).length + 1 := by simp [pcsL]
                                rw [told_texts, List.length_cons, hpl] at hvl1
                                refine' lc_inv (cl := _) (List.drop 1 vs1).toArray.size (fun i v => (List.drop 1 vs1).toArray[i]? = some v) ?hclos ?hcf ?hpc ?hkind ?hnames ?hxk ?hsz ?hmain
                                case hclos => with_unfolding_all rfl
                                case hcf => intro m; rfl
                                case hpc => intro h; rfl
                                case hkind => rfl
                                case hnames => decide
                                case hxk => intro C; rfl
                                case hsz => (simp; omega)
                                case hmain =>
                                  dsimp only
                                  k_steps
                                  (with_reducible rename Fr _ _ _ _ => F10)
                                  (with_reducible rename News _ _ _ _ => N10)
                                  have hS : StrsAre (vs1.drop 1) (pats (rowI ns).length (p0I ns) (p1I ns)) := by rw [told_texts] at hv1; exact strs_drop hv1
                                  have C0 : CodeHd (ghostOf s1.heap [(140, 136), (133, 129)]) 133 129 := by assumption
                                  have g9 : (ghostOf s1.heap [(140, 136), (133, 129)]).get? 129 = none := (N10 (129, tabObj #[]) (by k_memK)).2.2
                                  have kH := hid_keep F10.keep g9
                                  have XH := X0.keeps kH
                                  have TH := T0.keeps kH
                                  have CH := C0.keeps kH
                                  refine parts_inv (ps0 := #[]) (pl := pcsL (rowI ns).length (p0I ns) (p1I ns)) (rest := (D1, W.listOf [Value.bytes br1 tb1, .ref T1, .str (Str.ofString "not enough data in stream to read uint1") tm1].toArray 0) :: (PA, W.listOf ys.toArray nP) :: (pA, W.listOf [Value.int (p0I ns) t0, .int (p1I ns) t1].toArray nA) :: (rowA, W.listOf rvs nr) :: (s1.heap.objs.size + 1 + 1 + 1 + 1, o4) :: (s1.heap.objs.size + 1 + 1 + 1, o3) :: (s1.heap.objs.size + 1 + 1, oP) :: (s1.heap.objs.size + 1, oR) :: (136, tabObj ps) :: own) rfl F10 N10 (.head _) (by k_memK) ⟨trivial, .inl rfl⟩ (by simp; omega) (by refine neN ?_; omega) ?hrest ?helt ?fin
                                  case hrest =>
                                    repeat ((with_reducible show ∀ p ∈ _ :: _, _); refine List.forall_mem_cons.mpr ⟨⟨by k_memK, by (refine neN ?_; (try dsimp only); omega)⟩, ?_⟩)
                                    exact fun p hp => ⟨by repeat (first | exact hp | refine List.Mem.tail _ ?_), hoff p hp 129 (by simp)⟩
                                  case helt =>
                                    intro C i v zs own3 s₃ E' hi hP hJ hm3 ho3
                                    obtain ⟨m3, F3, hm3⟩ := hm3
                                    obtain ⟨x, tx3, rfl, hxi⟩ := strs_at_i hS (i := i) (v := v) (by simpa using hP)
                                    obtain ⟨pcs, hpcs, hxe, hpo, hx255⟩ := pats_at hxi
                                    obtain ⟨h6, g6, d6, tk6, os6⟩ := s₃
                                    show wpAny _ _ _ _ _ _
                                    have N₃ := news_nil F3
                                    k_steps
                                    show wpAny _ _ _ _ _ _
                                    have kH3 := hid_keep F3.keep (hideAll_none [129] (.head _))
                                    exact trans_elt (s₃ := ⟨h6, g6, d6, tk6, os6⟩) rfl (by simp only [depth_deeper]; decide +kernel) (by dsimp only [Around.deeper, callerA]; decide +kernel) (XH.keeps kH3) (TH.keeps kH3) (CH.keeps kH3) hJ ho3 F3.keep hxe hpcs hpo (by omega)
                                  case fin =>
                                    intro Z hZ tkZ zs nZ psZ own2 FZ NZ hzs hne hof2
                                    clear F10 N10 XH TH CH kH
                                    have hoff2 : OwnOff (own ++ own2) [s1.heap.objs.size + 1 + 1 + 1 + 1, s1.heap.objs.size + 1 + 1 + 1, 136, 129] := fun p hp b hb => by
                                      rcases List.mem_append.mp hp with hp | hp
                                      · exact hoff p hp b hb
                                      · exact own_offs hof2 (adr := [s1.heap.objs.size + 1 + 1 + 1 + 1, s1.heap.objs.size + 1 + 1 + 1, 136, 129]) (by (repeat ((with_reducible show ∀ p ∈ _ :: _, _); refine List.forall_mem_cons.mpr ⟨⟨_, by k_memK⟩, ?_⟩)); exact List.forall_mem_nil _) p hp b hb
                                    simp only [AllNe] at hne
                                    obtain ⟨ne1, ne2, ne3, ne4, ne5, ne6, ne7, ne8, ne9, ne10, _⟩ := hne
                                    obtain ⟨nP1, nP2, nP3, nP4⟩ := nPA
                                    simp only [List.cons_append] at NZ
                                    generalize hot : own ++ own2 = ownT at NZ hoff2
                                    obtain ⟨hw1, hw2, hw3⟩ := b64out_ok ns
                                    have hw4 := b64_ints ns
                                    show wpAny _ _ _ _ _ _
                                    k_steps
                                    show wpAny _ _ (call (.ref 110) _) _ _ _
                                    (with_reducible rename Fr _ _ _ _ => F11)
                                    (with_reducible rename News _ _ _ _ => N11)
                                    refine encode_spec rfl (by simp only [depth_deeper]; decide +kernel) (by dsimp only [Around.deeper, callerA]; decide +kernel) (X0.keeps F11.keep) (T0.keeps F11.keep) hb1 (by omega) ?_
                                    intro h12 t12 tk12 kp12
                                    have F12 := fr_kp F11 kp12
                                    have N12 := news_kp N11 kp12
                                    clear F11 N11
                                    with_reducible refine KBd.method ?_
                                    dsimp only
                                    k_steps
                                    (with_reducible rename Fr _ _ _ _ => F13)
                                    (with_reducible rename News _ _ _ _ => N13)
                                    subst hot
                                    refine ⟨rfl, S10.mk (nZ := nZ) (psZ := psZ) (ps := ps) (nP := nP) (nA := nA) (t0 := t0) (t1 := t1) (nr := nr) (own := own) (own2 := own2) (ownT := own ++ own2) F13 mpieces (news_sub N13 ?_) (fun p hp => List.mem_append_left _ hp) (fun p hp => List.mem_append_right _ hp) hrv hrows hzs hR hPr (by assumption) (by assumption)⟩
                                    repeat ((with_reducible show ∀ p ∈ _ :: _, _); refine List.forall_mem_cons.mpr ⟨by k_memK, ?_⟩)
                                    exact fun p hp => by repeat (first | exact hp | refine List.Mem.tail _ ?_)
                              case r10 =>
                                refine S10.elim ?_
                                intro Z zs nZ psZ ps tw PA ys nP pA nA t0 t1 rowA rvs nr oR oP oZ oW own own2 ownT h tk m F10 mpieces N10 hso hso2 hrv hrows hzs hR hP hZ hW
                                clear F9 N9
                                refine exec_cut F10 (fun _ s₂ => S10 (ghostOf s1.heap [(140, 136), (133, 129)]) s1.heap.objs.size ns s1 s₂) ?st11 ?r11
                                case st11 =>
                                  show wpAny _ _ _ _ _ _
                                  k_fold
                                  k_steps
                                  show wpAny _ _ _ _ _ _
                                  have hyl := hrows.len
                                  have hpcl : (pcsL (rowI ns).length (p0I ns) (p1I ns)).length = (rowI ns).length + 1 := by simp [pcsL]
                                  have hplS : (piecesS (rowI ns).length (p0I ns) (p1I ns)).length = (rowI ns).length + 1 := by simp [piecesS]
                                  dsimp only
                                  refine' lc_inv (cl := _) ys.toArray.size (fun i v => ys.toArray[i]? = some v) ?hclos ?hcf ?hpc ?hkind ?hnames ?hxk ?hsz ?hmain
                                  case hclos => with_unfolding_all rfl
                                  case hcf => intro m; rfl
                                  case hpc => intro h; rfl
                                  case hkind => rfl
                                  case hnames => decide
                                  case hxk => intro C; rfl
                                  case hsz => (simp; omega)
                                  case hmain =>
                                    k_steps
                                    (with_reducible rename Fr _ _ _ _ => F12)
                                    (with_reducible rename News _ _ _ _ => N12)
                                    have X12 := X0.keeps F12.keep
                                    have T12 := T0.keeps F12.keep
                                    refine ⟨J11 h (pcsL (rowI ns).length (p0I ns) (p1I ns)), h, [], [PA], ?_⟩
                                    constructor
                                    case it => exact iters2_list rfl (News.isList N12 (by k_mem))
                                    case keep0 => exact fun b o e => e
                                    case size0 => exact Nat.le_refl _
                                    case j0 => exact J11.nil
                                    case own0 => exact fun p hp => absurd hp List.not_mem_nil
                                    case off => exact fun i ys own h => h.2.1
                                    case len => exact fun i ys own h => h.2.2
                                    case elt =>
                                      intro C i v zs2 own3 s₃ E' hC hi hP hJ hm3 hk3 ho3 _
                                      obtain ⟨m3, hns3, hm3⟩ := hm3
                                      have F3 : Fr h C s₃.heap m3 := ⟨hns3, hk3, hC⟩
                                      obtain ⟨r, vs, nn, pcs, rfl, hmo, hpcs, hvs, hpo⟩ := rows_pcs hrows (i := i) (by simpa using hP)
                                      obtain ⟨h6, g6, d6, tk6, os6⟩ := s₃
                                      show wpAny _ _ _ _ _ _
                                      have N₃ := news_nil F3
                                      k_steps
                                      show wpAny _ _ _ _ _ _
                                      dsimp only at hk3 ho3
                                      have hl6 : h6.IsList r vs.toArray := list_kp (News.isList N12 (by repeat (first | exact hso _ hmo | refine List.Mem.tail _ ?_))) F3.keep
                                      have hvl := hvs.length
                                      refine' lc_val (cl := _) vs.toArray.size (fun i v => vs.toArray[i]? = some v) (fun _ => true) GetOf ?hclos ?hcell ?hkind ?hnames ?hx ?hsz ?hmain
                                      case hclos => with_unfolding_all rfl
                                      case hcell => decide
                                      case hkind => rfl
                                      case hnames => decide
                                      case hx => rfl
                                      case hsz =>
                                        have h255 : pcs.length ≤ 100 := pcs_len hpcs
                                        rw [List.length_map] at hvl
                                        have : sizeLine = 16777216 := sizeLine_eq
                                        show vs.length ≤ _
                                        omega
                                      case hmain =>
                                        k_steps
                                        (with_reducible rename Fr _ _ _ _ => F7)
                                        (with_reducible rename News _ _ _ _ => N7)
                                        have X7 := X12.keeps F7.keep
                                        have T7 := T12.keeps F7.keep
                                        refine ⟨iters_list rfl hl6, ?_, ?_, ?_⟩
                                        · intro C2 j v s₄ m₄ E2 hP2 F₄ hm4
                                          rw [List.forIn_nil]
                                          exact wpAny_pure ⟨rfl, Keeps.toks⟩
                                        · intro C2 j v s₄ m₄ E2 hP2 _ F₄ hm4
                                          obtain ⟨x, tx, rfl, hxi⟩ := strs_at_i hvs (i := j) (v := v) (by simpa using hP2)
                                          obtain ⟨h8, g8, d8, tk8, os8⟩ := s₄
                                          have N₄ := news_nil F₄
                                          show wpAny _ _ _ _ _ _
                                          k_steps
                                          refine ⟨got_of h6 ?_, Keeps.mk (by assumption)⟩
                                          assumption
                                        · intro D h9 tk9 ys9 vs9 hD9 hpl9 hlen9 hP9 hF9 kp9
                                          obtain ⟨n9, hpl9⟩ := hpl9
                                          obtain ⟨ys9⟩ := ys9
                                          rw [vs_of hlen9 hP9] at hF9
                                          have O9 := outs_got hvs hpo.1 hF9
                                          exact j11_step hJ hpcs ho3 hk3 hD9 hpl9 O9 kp9
                                    case fin =>
                                      intro D h13 tk13 ys13 own3 hD13 hplD hJ13 hown13 hkeep
                                      obtain ⟨ysL⟩ := ys13
                                      have hr13 := hJ13.1
                                      rw [List.take_of_length_le (by simp; omega)] at hr13
                                      obtain ⟨nD, ND, _, _⟩ := pieces_news F12 N12 hkeep hplD (fun p hp => ⟨(hown13 p hp).1, hJ13.2.1 p hp⟩) hD13
                                      have FD := fr_kp F12 hkeep
                                      clear F12 N12 X12 T12
                                      show wpAny _ _ _ _ _ _
                                      k_steps
                                      show wpAny _ _ (compareOp _ _ _) _ _ _
                                      refine ne_parts ND (by k_memK) (by k_memK) hzs hr13 (fun p hp => List.mem_cons_of_mem _ (List.mem_append_left _ (by repeat (first | exact hso2 p hp | refine List.Mem.tail _ ?_)))) (fun p hp => List.mem_cons_of_mem _ (List.mem_append_right _ hp)) (by ke_room) ?_
                                      show wpAny _ _ _ _ _ _
                                      k_steps
                                      refine ⟨rfl, S10.mk (nZ := nZ) (psZ := psZ) (ps := ps) (nP := nP) (nA := nA) (t0 := t0) (t1 := t1) (nr := nr) (own := own) (own2 := own2) (ownT := ownT) FD mpieces (news_sub ND ?_) hso hso2 hrv hrows hzs hR hP hZ hW⟩
                                      exact fun p hp => List.mem_cons_of_mem _ (List.mem_append_left _ hp)
                                case r11 =>
                                  refine S10.elim ?_
                                  intro Z zs nZ psZ ps tw PA ys nP pA nA t0 t1 rowA rvs nr oR oP oZ oW own own2 ownT h tk m F11 mpieces N11 hso hso2 hrv hrows hzs hR hP hZ hW
                                  clear F10 N10
                                  have hzl := hzs.len
                                  have hrl := hrv.length
                                  rw [Array.length_toList] at hrl
                                  have hpcl : (pcsL (rowI ns).length (p0I ns) (p1I ns)).length = (rowI ns).length + 1 := by simp [pcsL]
                                  show wpAny _ _ _ _ _ _
                                  refine wpAny_execs_cons ?_
                                  k_steps
                                  show wpAny _ _ _ _ _ _
                                  dsimp only
                                  refine' lc_val (cl := _) zs.length (fun i v => i < zs.length ∧ ∃ t, v = .int (i : Int) t) (fun v => match v with | .int i _ => takesQk ns i.toNat | _ => false) (fun v y => y = v) ?hclos ?hcell ?hkind ?hnames ?hx ?hsz ?hmain
                                  case hclos => with_unfolding_all rfl
                                  case hcell => decide
                                  case hkind => rfl
                                  case hnames => decide
                                  case hx => rfl
                                  case hsz => omega
                                  case hmain =>
                                    k_steps
                                    (with_reducible rename Fr _ _ _ _ => F5)
                                    (with_reducible rename News _ _ _ _ => N5)
                                    (rename IsRange _ _ _ _ _ _ _ _ => R5)
                                    have X5 := X0.keeps F5.keep
                                    have T5 := T0.keeps F5.keep
                                    rw [List.size_toArray] at R5
                                    have cZ := cell_of (c := s1.heap.objs.size + 1 + 1 + 1) N5 (by k_memK) hZ
                                    have cW := cell_of (c := s1.heap.objs.size + 1 + 1 + 1 + 1) N5 (by k_memK) hW
                                    have htx : (latN (b64out (rowI ns))).length ≤ 1000 := by have := (b64out_ok ns).2.1; rw [lat_len]; omega
                                    refine ⟨iters_range rfl R5 (by omega), ?_, ?_, ?_⟩
                                    · intro C i v s₃ m₃ E' hP F₃ hm
                                      obtain ⟨hi, t, rfl⟩ := hP
                                      obtain ⟨r, vs, nn, pcs, hzi, hmo, hpcs, hO⟩ := rows_at hzs (j := i) (List.getElem?_eq_getElem hi)
                                      have hzi2 : zs.toArray[i]? = some (.ref r) := by rw [← hzi]; simp [hi]
                                      obtain ⟨h6, g6, d6, tk6, os6⟩ := s₃
                                      have N₃ := news_nil F₃
                                      have hZ6 : h6.IsList Z zs.toArray := list_kp (News.isList N5 (by k_memK)) F₃.keep
                                      have hr6 : h6.IsList r vs.toArray := list_kp (News.isList N5 (by repeat (first | exact hso2 _ hmo | refine List.Mem.tail _ ?_))) F₃.keep
                                      have hpm := List.mem_of_getElem? hpcs
                                      refine wpAny_tests_one ?_
                                      show wpAny _ _ _ _ _ _
                                      k_steps
                                      show wpAny _ _ (call (.ref 170) _) _ _ _
                                      refine takes_elt rfl (by simp only [depth_deeper]; decide +kernel) (by dsimp only [Around.deeper, callerA]; decide +kernel) (X5.keeps F₃.keep) (T5.keeps F₃.keep) hr6 hO (pcs_ok _ _ _ pcs hpm) (shape_all _ (rowI_ge ns) _ _ pcs hpm) (pcs_len hpcs) htx ?_
                                      intro h9 tk9 kp9
                                      show wpAny _ _ _ _ _ _
                                      k_steps
                                      refine ⟨?_, Keeps.mk (by assumption)⟩
                                      unfold takesQk
                                      rw [Int.toNat_natCast, List.getD_eq_getElem?_getD, hpcs]; rfl
                                    · intro C i v s₃ m₃ E' hP _ F₃ hm
                                      obtain ⟨hi, t, rfl⟩ := hP
                                      obtain ⟨h6, g6, d6, tk6, os6⟩ := s₃
                                      have N₃ := news_nil F₃
                                      show wpAny _ _ _ _ _ _
                                      k_steps
                                      exact ⟨rfl, Keeps.toks⟩
                                    · intro D6 h6 tk6 ys6 vs6 hD6 hpl6 hlen6 hP6 hF6 kp6
                                      obtain ⟨n6, hpl6⟩ := hpl6
                                      have F6 := fr_kp F5 kp6
                                      have N6 := news_add F5 (news_kp N5 kp6) hD6 hpl6
                                      have e6 := paired_eq hF6
                                      have I6 := ints_of_range (takesQk ns) (fun v => match v with | .int i _ => takesQk ns i.toNat | _ => false) (fun i t => by simp) hlen6 hP6
                                      obtain ⟨l6⟩ := ys6
                                      have e7 : l6 = _ := e6
                                      rw [← e7, hzl, hpcl] at I6
                                      clear e6 e7 hF6 hP6 N5 F5 R5 cZ cW X5 T5
                                      show wpAny _ _ _ _ _ _
                                      k_steps
                                      show wpAny _ _ _ _ _ _
                                      refine' lc_val (cl := _) rvs.size (fun i v => i < rvs.size ∧ ∃ t, v = .int (i : Int) t) (fun v => match v with | .int i _ => pairQ ns i.toNat | _ => false) (fun v y => y = v) ?hclos ?hcell ?hkind ?hnames ?hx ?hsz ?hmain
                                      case hclos => with_unfolding_all rfl
                                      case hcell => decide
                                      case hkind => rfl
                                      case hnames => decide
                                      case hx => rfl
                                      case hsz => omega
                                      case hmain =>
                                        k_steps
                                        (with_reducible rename Fr _ _ _ _ => F7)
                                        (with_reducible rename News _ _ _ _ => N7)
                                        (rename IsRange _ _ _ _ _ _ _ _ => R7)
                                        have X7 := X0.keeps F7.keep
                                        have T7 := T0.keeps F7.keep
                                        have cR := cell_of (c := s1.heap.objs.size + 1) N7 (by k_memK) hR
                                        have cP := cell_of (c := s1.heap.objs.size + 1 + 1) N7 (by k_memK) hP
                                        have ipair : IntsAre [Value.int (p0I ns) t0, .int (p1I ns) t1] [p0I ns, p1I ns] := .cons _ _ (.cons _ _ .nil)
                                        refine ⟨iters_range rfl R7 (by omega), ?_, ?_, ?_⟩
                                        · intro C i v s₃ m₃ E' hP F₃ hm
                                          obtain ⟨hi, t, rfl⟩ := hP
                                          obtain ⟨h8, g8, d8, tk8, os8⟩ := s₃
                                          have N₃ := news_nil F₃
                                          have hrow8 : h8.IsList rowA rvs := list_kp (News.isList N7 (by k_memK)) F₃.keep
                                          have hpair8 : h8.IsList pA [Value.int (p0I ns) t0, .int (p1I ns) t1].toArray := list_kp (News.isList N7 (by k_memK)) F₃.keep
                                          refine wpAny_tests_one ?_
                                          show wpAny _ _ _ _ _ _
                                          k_steps
                                          show wpAny _ _ (compareOp _ _ _) _ _ _
                                          (with_reducible rename Fr _ _ _ _ => F9)
                                          (with_reducible rename News _ _ _ _ => N9)
                                          refine ke_eq_ints (News.isList N9 (by k_mem)) (list_kp hpair8 (by assumption)) (ints_take (ints_drop hrv i) 2) ipair (by ke_room) ?_
                                          show wpAny _ _ _ _ _ _
                                          k_steps
                                          exact ⟨rfl, Keeps.mk (by assumption)⟩
                                        · intro C i v s₃ m₃ E' hP _ F₃ hm
                                          obtain ⟨hi, t, rfl⟩ := hP
                                          obtain ⟨h8, g8, d8, tk8, os8⟩ := s₃
                                          have N₃ := news_nil F₃
                                          show wpAny _ _ _ _ _ _
                                          k_steps
                                          exact ⟨rfl, Keeps.toks⟩
                                        · intro D8 h8 tk8 ys8 vs8 hD8 hpl8 hlen8 hP8 hF8 kp8
                                          obtain ⟨n8, hpl8⟩ := hpl8
                                          have F8 := fr_kp F7 kp8
                                          have N8 := news_add F7 (news_kp N7 kp8) hD8 hpl8
                                          have e8 := paired_eq hF8
                                          have I8 := ints_of_range (pairQ ns) (fun v => match v with | .int i _ => pairQ ns i.toNat | _ => false) (fun i t => by simp) hlen8 hP8
                                          obtain ⟨l8⟩ := ys8
                                          have e9 : l8 = _ := e8
                                          rw [← e9, hrl] at I8
                                          clear e8 e9 hF8 hP8 N7 F7 R7 cR cP X7 T7
                                          have hl8 : l8.length ≤ 8 := by
                                            have I8l := I8.length
                                            rw [List.length_map] at I8l
                                            have := List.length_filter_le (pairQ ns) (List.range (rowI ns).length)
                                            rw [List.length_range] at this
                                            have h8l : ({ toList := l8 } : Array Value).toList.length = l8.length := rfl
                                            omega
                                          show wpAny _ _ _ _ _ _
                                          k_steps
                                          show wpAny _ _ (compareOp _ _ _) _ _ _
                                          (with_reducible rename Fr _ _ _ _ => F10)
                                          (with_reducible rename News _ _ _ _ => N10)
                                          refine end_eq (ns := lawLeft ns) (ms := lawRight ns) N10 (by k_memK) (.head _) I6 (right_ints I8 hrl) (by ke_room) ?_
                                          rw [decide_eq_true (law_eq ns)]
                                          k_steps))
end Mine
end
end
end
theorem PySem.Challenge.cw_kt0013_01_holds : PySem.Challenge.rw_kt0013_01.Holds :=
  Mine.law_holds
