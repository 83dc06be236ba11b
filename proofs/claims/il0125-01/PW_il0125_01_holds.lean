import PyProof.Rows.All
import Wide.All
import OpenK.AllK
import Wide.FinOn
import PyProof.ZipIter
import PyProof.CollectIter
import PyProof.MeetsSeq
import Lean
import PySem.Challenge.RW_il0125_01
set_option Elab.async false
section JHd
open PySem PySem.W PyProof.Rows
set_option maxRecDepth 100000
set_option maxHeartbeats 8000000
-- The head. Laid at once it holds a twin and a long equation of each object, tree and heap: 33 MB compiled.
-- The twin of a constant c of the theorem Mine.hd bears the name Mine.hd.tw and c's number; a name that is taken is passed over, and the check is made with c itself.
namespace Mine.hd
theorem tw17311223219408574766 : True := trivial
theorem tw8821485856339938433 : True := trivial
theorem tw10727248033764811480 : True := trivial
theorem tw3020821785867171217 : True := trivial
theorem tw10849272910044215975 : True := trivial
theorem tw17542962492245011380 : True := trivial
theorem tw3219085151875037572 : True := trivial
theorem tw11319097763535126812 : True := trivial
theorem tw3259873300814134281 : True := trivial
theorem tw17673860158736603733 : True := trivial
theorem tw11136197038861592535 : True := trivial
theorem tw16259696140248634718 : True := trivial
theorem tw978945382295711627 : True := trivial
theorem tw5373601922739893978 : True := trivial
theorem tw5978321128707920903 : True := trivial
theorem tw18322514126500204803 : True := trivial
theorem tw3493717111155160527 : True := trivial
theorem tw4360684699965382250 : True := trivial
theorem tw11893437276241958245 : True := trivial
theorem tw6293948785866598258 : True := trivial
theorem tw6407587892757256292 : True := trivial
theorem tw7752767780024739350 : True := trivial
theorem tw3571134770919094901 : True := trivial
theorem tw5961118342813265553 : True := trivial
theorem tw8735263284916673568 : True := trivial
theorem tw18300207936620678264 : True := trivial
theorem tw12023040214023829324 : True := trivial
theorem tw6276725880618359904 : True := trivial
theorem tw16828841361933241965 : True := trivial
theorem tw9673543361469618366 : True := trivial
theorem tw11465210709893060100 : True := trivial
theorem tw2867327485932766208 : True := trivial
theorem tw3646829019195819677 : True := trivial
theorem tw4225703048834024713 : True := trivial
theorem tw9641152695372364146 : True := trivial
theorem tw7296583596125217682 : True := trivial
theorem tw16345102440705955213 : True := trivial
theorem tw16091413853298234908 : True := trivial
theorem tw18103342009636024947 : True := trivial
theorem tw10111801491309104144 : True := trivial
theorem tw701787995468756871 : True := trivial
theorem tw8458067239894703972 : True := trivial
theorem tw11210553801493137410 : True := trivial
theorem tw1011335219593555734 : True := trivial
theorem tw16432713993328977331 : True := trivial
theorem tw17672654358674132775 : True := trivial
theorem tw2114630138375439770 : True := trivial
theorem tw22551697357593593 : True := trivial
theorem tw10170382586518783626 : True := trivial
theorem tw12901994302517312135 : True := trivial
theorem tw6060742912462422084 : True := trivial
theorem tw1413172679324656950 : True := trivial
theorem tw4494801613693538912 : True := trivial
theorem tw15759970867653108152 : True := trivial
theorem tw15089522573102190283 : True := trivial
theorem tw16037735763661986305 : True := trivial
theorem tw3451239065008710300 : True := trivial
theorem tw4478166936697009375 : True := trivial
theorem tw17177331786930743035 : True := trivial
theorem tw15790720579355451973 : True := trivial
theorem tw2068664650715991707 : True := trivial
theorem tw6820862383352777685 : True := trivial
theorem tw17087091549796120035 : True := trivial
theorem tw8457440626546761165 : True := trivial
theorem tw1600037746751723098 : True := trivial
theorem tw10601615944963115059 : True := trivial
theorem tw16056359734778111409 : True := trivial
theorem tw9277588360372424766 : True := trivial
theorem tw15595854959937240912 : True := trivial
theorem tw5190246844813560578 : True := trivial
theorem tw9960721518486171458 : True := trivial
theorem tw2708950531961675432 : True := trivial
theorem tw15967140613478806237 : True := trivial
theorem tw4086058157674990017 : True := trivial
theorem tw17950676927832955104 : True := trivial
theorem tw17574625026820762457 : True := trivial
theorem tw3789350110615891812 : True := trivial
theorem tw12070051907170230399 : True := trivial
theorem tw11660266114150955751 : True := trivial
theorem tw17681399029576232318 : True := trivial
theorem tw5130813555471234732 : True := trivial
theorem tw7540655947842036084 : True := trivial
theorem tw13770079208771991547 : True := trivial
theorem tw8268277133935991078 : True := trivial
theorem tw11032806212648032379 : True := trivial
theorem tw12588582704262371052 : True := trivial
theorem tw13790719812936386609 : True := trivial
theorem tw1580110805410547442 : True := trivial
theorem tw3759623122121258479 : True := trivial
theorem tw4014540891139286612 : True := trivial
theorem tw1800889605409440832 : True := trivial
theorem tw189712035060473897 : True := trivial
theorem tw1506431575118746342 : True := trivial
theorem tw5657824000916062451 : True := trivial
theorem tw2274498078352570744 : True := trivial
theorem tw16868993833207775613 : True := trivial
theorem tw18264374347568628810 : True := trivial
theorem tw4015398097383911347 : True := trivial
theorem tw15368132723985388332 : True := trivial
theorem tw17252143746492648416 : True := trivial
theorem tw5902613922787404954 : True := trivial
theorem tw10246146449241189800 : True := trivial
theorem tw7023726343779634624 : True := trivial
theorem tw2167537188350426706 : True := trivial
theorem tw17183224562656869120 : True := trivial
theorem tw9566141503761928105 : True := trivial
theorem tw11652457597714270106 : True := trivial
theorem tw15103106377680225435 : True := trivial
theorem tw17893044597097874663 : True := trivial
theorem tw2887051446865420828 : True := trivial
theorem tw9386895884608548742 : True := trivial
theorem tw1382963296337349011 : True := trivial
theorem tw16007149819294483003 : True := trivial
theorem tw10403243965636340961 : True := trivial
theorem tw1222794163293265305 : True := trivial
theorem tw2386827423013361158 : True := trivial
theorem tw17447410573909459338 : True := trivial
theorem tw10949625832625181284 : True := trivial
theorem tw8960069828448710407 : True := trivial
theorem tw13518370688599389936 : True := trivial
theorem tw11631947586910100387 : True := trivial
theorem tw18343703819029505601 : True := trivial
theorem tw5987830557187376847 : True := trivial
theorem tw16064382804478563927 : True := trivial
theorem tw17062030032774818151 : True := trivial
theorem tw15837987909243819085 : True := trivial
theorem tw5781342201191254626 : True := trivial
theorem tw10603584201595350602 : True := trivial
theorem tw1760603350576429475 : True := trivial
theorem tw7289634563603522867 : True := trivial
theorem tw11162318198679636149 : True := trivial
theorem tw10784824025267889561 : True := trivial
theorem tw4172343393113369950 : True := trivial
theorem tw12936449754285732098 : True := trivial
theorem tw4851647983119433812 : True := trivial
theorem tw6164396464334811476 : True := trivial
theorem tw991583007596301734 : True := trivial
theorem tw6545403380812914513 : True := trivial
theorem tw17714235663813219645 : True := trivial
theorem tw728884934406724761 : True := trivial
theorem tw15411387601460861337 : True := trivial
theorem tw13483081372092288885 : True := trivial
theorem tw18293732401869909652 : True := trivial
theorem tw4702841417184801058 : True := trivial
theorem tw5036846961687405229 : True := trivial
theorem tw18219297243305740317 : True := trivial
theorem tw15529170255622000948 : True := trivial
theorem tw15615537253650120727 : True := trivial
theorem tw5278057926702712004 : True := trivial
theorem tw16853341256802265648 : True := trivial
theorem tw14560493823538711346 : True := trivial
theorem tw13368278939475635651 : True := trivial
theorem tw6394381022753523788 : True := trivial
theorem tw6819123309680001836 : True := trivial
theorem tw11054480109507316185 : True := trivial
theorem tw16412773359747925120 : True := trivial
theorem tw14705683404202351889 : True := trivial
theorem tw8117029840178788049 : True := trivial
theorem tw1439246655266547700 : True := trivial
theorem tw11319892378374348655 : True := trivial
theorem tw8112040973832200146 : True := trivial
theorem tw12949589719889679912 : True := trivial
theorem tw15042006015671813226 : True := trivial
theorem tw6123773746684550334 : True := trivial
theorem tw18093812233618175256 : True := trivial
theorem tw15642763164714097627 : True := trivial
theorem tw9741134391959003819 : True := trivial
theorem tw4971549296188076032 : True := trivial
theorem tw2101469004524951375 : True := trivial
theorem tw10614716105012338702 : True := trivial
theorem tw14353793391729792155 : True := trivial
theorem tw15166520500009309586 : True := trivial
theorem tw402640490398009360 : True := trivial
theorem tw5343241284826551009 : True := trivial
theorem tw7366208706002141716 : True := trivial
theorem tw16904818350239718627 : True := trivial
theorem tw9748044761591592747 : True := trivial
theorem tw14955159897011116063 : True := trivial
theorem tw3452082135128663414 : True := trivial
theorem tw17213754286329925777 : True := trivial
theorem tw10424393626065333798 : True := trivial
theorem tw12112201142124510154 : True := trivial
theorem tw2442259710966052079 : True := trivial
theorem tw10525666975642140466 : True := trivial
theorem tw8228950375871286339 : True := trivial
theorem tw17903497710992402801 : True := trivial
theorem tw12647368939536790636 : True := trivial
theorem tw16722109127936396110 : True := trivial
theorem tw9345676750909349944 : True := trivial
theorem tw16920754564084929960 : True := trivial
theorem tw13919464512627920130 : True := trivial
theorem tw11128854368766332075 : True := trivial
theorem tw3919010098100093602 : True := trivial
theorem tw7355570028127101125 : True := trivial
theorem tw4478964076566166474 : True := trivial
theorem tw2216850387143573719 : True := trivial
theorem tw17975533764899295144 : True := trivial
theorem tw758273949599710562 : True := trivial
theorem tw9345929723534960622 : True := trivial
theorem tw1013155817946168525 : True := trivial
theorem tw2603259988358896889 : True := trivial
theorem tw9657781627882305391 : True := trivial
theorem tw17901334829092211166 : True := trivial
theorem tw16299908979028503884 : True := trivial
theorem tw17606422857730326317 : True := trivial
theorem tw14892549342360969540 : True := trivial
theorem tw6838551448383532254 : True := trivial
theorem tw11754176132448286083 : True := trivial
theorem tw11402939732021071671 : True := trivial
theorem tw3109861748172591687 : True := trivial
theorem tw11513968764499736323 : True := trivial
theorem tw5174551420813472067 : True := trivial
theorem tw6528754448969337418 : True := trivial
theorem tw14457593812595234344 : True := trivial
theorem tw17258206423299326598 : True := trivial
theorem tw4065347644161347641 : True := trivial
theorem tw16211521421427940678 : True := trivial
theorem tw5363564295841288755 : True := trivial
theorem tw395138700845864316 : True := trivial
theorem tw4297731678662094536 : True := trivial
theorem tw5608270528595127837 : True := trivial
theorem tw4856431653887292112 : True := trivial
theorem tw2608437505485318709 : True := trivial
theorem tw13609717118414637909 : True := trivial
theorem tw12399718760709695909 : True := trivial
theorem tw8025032847418708242 : True := trivial
theorem tw8671608845466749128 : True := trivial
theorem tw1836080755315867724 : True := trivial
theorem tw4993660671451451078 : True := trivial
theorem tw6924109203229866365 : True := trivial
theorem tw3008623586974134963 : True := trivial
theorem tw461538923250603899 : True := trivial
theorem tw13372043803930879067 : True := trivial
theorem tw16772102934027710169 : True := trivial
theorem tw9557236495431379559 : True := trivial
theorem tw8727321023445011275 : True := trivial
theorem tw4706079058837389440 : True := trivial
theorem tw13181700845877081190 : True := trivial
theorem tw13866372431405929976 : True := trivial
theorem tw15416985209724490359 : True := trivial
theorem tw18166333605607142505 : True := trivial
theorem tw307737655149646647 : True := trivial
theorem tw8047900516022102942 : True := trivial
theorem tw12092154237167983948 : True := trivial
theorem tw18293851220164018083 : True := trivial
theorem tw6830512106363814048 : True := trivial
theorem tw2391449824757734642 : True := trivial
theorem tw10583446816852156582 : True := trivial
theorem tw9783614193127449063 : True := trivial
theorem tw3915529967508079626 : True := trivial
theorem tw18245042118932799458 : True := trivial
theorem tw3381375190539634487 : True := trivial
theorem tw1865391376527767206 : True := trivial
theorem tw5732804406350252772 : True := trivial
theorem tw1241404454085649124 : True := trivial
theorem tw2327210489368252092 : True := trivial
theorem tw16970440968685349367 : True := trivial
theorem tw9430268157657104642 : True := trivial
theorem tw6982297934935202809 : True := trivial
theorem tw8545014587354053640 : True := trivial
theorem tw9427301549700849589 : True := trivial
theorem tw3828038474966422129 : True := trivial
theorem tw14478148883734587675 : True := trivial
theorem tw8977307856219701671 : True := trivial
theorem tw6264232113106981867 : True := trivial
theorem tw12614811148066621264 : True := trivial
theorem tw14400467628812073631 : True := trivial
theorem tw8990313861142287110 : True := trivial
theorem tw17948085552500728524 : True := trivial
theorem tw7519716089354478335 : True := trivial
theorem tw14960593345356199642 : True := trivial
theorem tw17599816209265215132 : True := trivial
theorem tw7068711184596962023 : True := trivial
theorem tw4315991029959535628 : True := trivial
theorem tw6598312636042714100 : True := trivial
theorem tw15673258824015622330 : True := trivial
theorem tw2999033326186475339 : True := trivial
theorem tw17047115858639842297 : True := trivial
theorem tw12050417470231563642 : True := trivial
theorem tw13217225542625558698 : True := trivial
theorem tw7494724483528729301 : True := trivial
theorem tw18241275227582772068 : True := trivial
theorem tw16649331688326792143 : True := trivial
theorem tw6184460063843016694 : True := trivial
theorem tw16171809288044610508 : True := trivial
theorem tw14246236162039180721 : True := trivial
theorem tw5562173858411828344 : True := trivial
theorem tw2252305205657439004 : True := trivial
theorem tw8934143017859847078 : True := trivial
theorem tw4870687313549177768 : True := trivial
theorem tw1409312971732116557 : True := trivial
theorem tw17739348878880393726 : True := trivial
theorem tw5416991563250132298 : True := trivial
theorem tw14620637471214046174 : True := trivial
theorem tw14896477498954680388 : True := trivial
theorem tw5635641802508607975 : True := trivial
theorem tw1882180444382439491 : True := trivial
theorem tw10678649693572172417 : True := trivial
theorem tw10024716035694756283 : True := trivial
theorem tw3443669649825651883 : True := trivial
theorem tw6038821095411175016 : True := trivial
theorem tw5567388512258382067 : True := trivial
theorem tw16154546982801380032 : True := trivial
theorem tw13409441903868389331 : True := trivial
theorem tw13783031573616600631 : True := trivial
theorem tw18185175575083235020 : True := trivial
theorem tw16011055738799735888 : True := trivial
theorem tw9719896912496429819 : True := trivial
theorem tw16640546478005224243 : True := trivial
theorem tw541196102884509978 : True := trivial
theorem tw7085514621470718492 : True := trivial
theorem tw14553816603554493358 : True := trivial
theorem tw8879563391730754479 : True := trivial
theorem tw8134915037123179040 : True := trivial
theorem tw12173100003817136821 : True := trivial
theorem tw8770205317985620760 : True := trivial
theorem tw2329189449893159454 : True := trivial
theorem tw17588044629489971554 : True := trivial
theorem tw11151547217846952531 : True := trivial
theorem tw5054737718236178183 : True := trivial
theorem tw17986969038992634876 : True := trivial
theorem tw12598724348716800887 : True := trivial
theorem tw9763420282994701918 : True := trivial
theorem tw13321331477185743149 : True := trivial
theorem tw14906377314874228009 : True := trivial
theorem tw6438293893037913957 : True := trivial
theorem tw7891253978561527248 : True := trivial
theorem tw10258225898301398825 : True := trivial
theorem tw15910714762333108613 : True := trivial
theorem tw16157073509204512506 : True := trivial
theorem tw7270182246851987180 : True := trivial
theorem tw16302227732802510677 : True := trivial
theorem tw13753220567063992666 : True := trivial
theorem tw14980023328507725902 : True := trivial
theorem tw6663896369628448293 : True := trivial
theorem tw14168552714766633299 : True := trivial
theorem tw8716120427605611371 : True := trivial
theorem tw3530705653197291679 : True := trivial
theorem tw1097998534492414930 : True := trivial
theorem tw17650839729002327288 : True := trivial
theorem tw10792051664901133789 : True := trivial
theorem tw16945582573551092051 : True := trivial
theorem tw5148922909946612681 : True := trivial
theorem tw7914949630228597729 : True := trivial
theorem tw11953376511379268794 : True := trivial
theorem tw3229955645248102723 : True := trivial
theorem tw13828106393651249627 : True := trivial
theorem tw11232374478483605306 : True := trivial
theorem tw9170477692918782315 : True := trivial
theorem tw6305734824756694309 : True := trivial
theorem tw16194383521188589630 : True := trivial
theorem tw13225837485096350037 : True := trivial
theorem tw1997569388931296116 : True := trivial
theorem tw6442067068224118133 : True := trivial
theorem tw14103535550066685397 : True := trivial
theorem tw4272726840584523970 : True := trivial
theorem tw6767318904944593275 : True := trivial
theorem tw10458740792067480800 : True := trivial
theorem tw6555240042291301478 : True := trivial
theorem tw13267510147771200024 : True := trivial
theorem tw12271959270614036898 : True := trivial
theorem tw8959176491354863721 : True := trivial
theorem tw5511420028821071320 : True := trivial
theorem tw10258999931320997221 : True := trivial
theorem tw6082411064634330575 : True := trivial
theorem tw11917015161858427179 : True := trivial
theorem tw6411954120941647267 : True := trivial
theorem tw7754304195085646258 : True := trivial
theorem tw2930668341846507884 : True := trivial
theorem tw13330244855972007585 : True := trivial
theorem tw6291416237084387574 : True := trivial
theorem tw15616948245753086127 : True := trivial
theorem tw15527848837575444561 : True := trivial
theorem tw4115565904173853331 : True := trivial
theorem tw4402725079659364252 : True := trivial
theorem tw6196171512934965099 : True := trivial
theorem tw8343274005884668182 : True := trivial
theorem tw2546602858889406552 : True := trivial
theorem tw9357088731924715283 : True := trivial
theorem tw10556086555744776959 : True := trivial
theorem tw974590082735218474 : True := trivial
theorem tw3333689412089963621 : True := trivial
theorem tw13599939671180243173 : True := trivial
theorem tw8912803164822033684 : True := trivial
theorem tw8117722118643159343 : True := trivial
theorem tw3143712602261400420 : True := trivial
theorem tw4521480514310152432 : True := trivial
theorem tw8415998984832696270 : True := trivial
theorem tw4877497464389501135 : True := trivial
theorem tw1834576870787037144 : True := trivial
theorem tw9613716715934051335 : True := trivial
theorem tw637465710220233769 : True := trivial
theorem tw4382473783012875800 : True := trivial
theorem tw3560358224912976901 : True := trivial
theorem tw4040972080148754881 : True := trivial
theorem tw8824441977032169737 : True := trivial
theorem tw2040699094819691630 : True := trivial
theorem tw1007915042366553198 : True := trivial
theorem tw10757452443647449178 : True := trivial
theorem tw2213181580616183961 : True := trivial
theorem tw1890871552101091170 : True := trivial
theorem tw2350349309619206374 : True := trivial
theorem tw6900783270533439432 : True := trivial
theorem tw15657480282248853141 : True := trivial
theorem tw12423421440243004742 : True := trivial
theorem tw12923183920290404411 : True := trivial
theorem tw266627367137399047 : True := trivial
theorem tw6777908505215106953 : True := trivial
theorem tw6464495981786294532 : True := trivial
theorem tw4763451143398169428 : True := trivial
theorem tw11158734012529747993 : True := trivial
theorem tw26425463804135960 : True := trivial
end Mine.hd
/-- the last goal of the head (the walk) is handed on as the premise h -/
local macro_rules
  | `(tactic| refine $t) => do
    let r := t.raw
    if r.getKind == `Lean.Parser.Term.app then
      let as := r[1].getArgs
      if as.size > 0 && as.back!.getKind == `Lean.Parser.Term.syntheticHole && as.back![1].getId.eraseMacroScopes == `hc then
        let u : Lean.TSyntax `term := ⟨r.setArg 1 (r[1].setArgs (as.pop.push (Lean.mkIdent `h)))⟩
        return ← `(tactic| refine $u)
    Lean.Macro.throwUnsupported
-- elaborated apart, so that what the head lays bears this theorem's name
set_option Elab.async true in
theorem Mine.hd : ∃ W : Prop, W → PySem.Challenge.rw_il0125_01.Holds := by
  apply Exists.intro
  as_aux_lemma =>
    intro h
    w_on; o_law; k_head; (case hw => w_witness2)
-- what follows waits here for the head's end
theorem Mine.hd_done : ∃ W : Prop, W → PySem.Challenge.rw_il0125_01.Holds := Mine.hd
end JHd
section JPre
theorem Mine.fresh_Pre : True := by w_top off; exact trivial
open PySem PySem.W PyProof.Rows PySem.Spec PySem.Calls
set_option maxRecDepth 100000
set_option maxHeartbeats 8000000
noncomputable section
namespace Mine
noncomputable abbrev LO : List Str := looseW Mine.hd.view_1_40 [Str.ofString "_tuplegetter", Str.ofString "Pair"] ++ (recsOf Mine.hd.view_1_40).map (·.name) ++ (litsOf Mine.hd.view_1_40).map (·.1) ++ (clssOf Mine.hd.view_1_40 (looseW Mine.hd.view_1_40 [Str.ofString "_tuplegetter", Str.ofString "Pair"])).map (·.name)
def Filled (_ : OpenLaw) (_ : Params → Frag) : Prop := True
/-- a call of the text's def f at vs gives R, in a room of rm frames and ru units -/
abbrev Clm (rm ru : Nat) (w : World) (mean : ExcName → Option Value) (mg mb : Str → Option Value) (f : Addr) (news : List (Addr × Obj)) (A : List (Addr × List Value × List Int)) (pre : Prop) (vs : List Value) (R : Tok → Value) : Prop :=
  ∀ (dp un : Nat) (gd : Option (List Code)) (cn : Str) (cs : Scope) (a : Addr) (ccd : Value) (cl : List (Str × Addr)) (outer : List Env) (A₀ : Around) (base h₀ : Heap) (L : Addr) (m : Str → Option Value) (s : Shared) (Q E : Value → Shared → Prop),
    Below A₀ base outer h₀ → Fr h₀ L s.heap m → (Mine.hd.heap_1_39 w.params).In h₀ → News h₀ L s.heap news → Top topProg LO mean mg mb h₀ → cs.kind = .function →
    CbLists base A (pre → dp + rm < recursionLimit → un + ru < cLine → CbRet h₀ L m news s Q R →
      wpAny (model PySem.Challenge.pw_il0125_01 w) (ktrTop dp un gd cn cs L a ccd cl outer) (call (.ref f) vs) Q E s)
end Mine
end
end JPre
section JBo
theorem Mine.fresh_Bo : True := by w_top off; exact trivial
open PySem PySem.W PyProof.Rows PySem.Spec PySem.Calls
set_option maxRecDepth 100000
set_option maxHeartbeats 4000000
noncomputable section
namespace Mine
theorem filledBo : Filled PySem.Challenge.rw_il0125_01 Mine.hd.heap_1_39 := by k_fill; exact True.intro
theorem wpAny_wide {α : Type} {M : Model} {A A' : Around} {t : Sem α} {Q : α → Shared → Prop} {E : Value → Shared → Prop} {s : Shared} (hh : A'.handled = A.handled) (hd : A'.depth ≤ A.depth) (hf : A.frames = none) (hg : A.guards = none) (hu : A'.units ≤ A.units)
    (h : wpAny M A t Q E s) : wpAny M A' t Q E s := fun Γ p hin =>
  h Γ p ⟨hin.1.trans hh, Nat.le_trans hin.2.1 hd, fun l hl => (by rw [hf] at hl; cases hl), fun l hl => (by rw [hg] at hl; cases hl), Nat.le_trans hin.2.2.2.2 hu⟩
def bookO (fa d : Addr) (es : Array DictEntry) (ep : Nat) : Obj := { cls := .ref 115, dict := some d, data := .dict es ep, slots := #[some (.ref fa)] }
def emptyD : Obj := { cls := .type "dict", data := .dict #[] }
abbrev AX : Around := { handled := none, depth := 700, frames := none, guards := none, units := 7000 }
theorem endX {s : Shared} {Q : Value → Shared → Prop} {fa a d : Addr} {h : Heap}
   (hQ : ∀ (h : Heap) (a d : Addr), (∀ b o, s.heap.get? b = some o → h.get? b = some o) → h.get? a = some (bookO fa d #[] 0) → h.get? d = some emptyD → s.heap.get? a = none → s.heap.get? d = none → a ≠ d → (d : Nat) < a → Q (.ref a) { s with heap := h })
   (D : W.X.Mem s.heap h [] [(a, bookO fa d #[] 0), (d, emptyD)]) : Q (Value.ref a) { heap := h, gens := s.gens, drawn := s.drawn, toks := s.toks, os := s.os } :=
  hQ h a d (fun b o e => D.keep b o e (Bool.or_true _)) (D.at 0 _ _ rfl) (D.at 1 _ _ rfl) (D.nw _ (.head _)).2 (D.nw _ (.tail _ (.head _))).2 (D.ne 0 1 _ _ _ _ rfl rfl rfl) (by have := D.ord; simp at this; exact this)
local macro_rules | `(tactic| x_close) => `(tactic| (rename W.X.Mem _ _ [] [_, _] => D; exact endX (by assumption) D))
theorem newBookX (w : World) (s : Shared) (X : (Mine.hd.heap_1_39 w.params).In s.heap) (Q E : Value → Shared → Prop)
   (fa : Addr) (fd : FuncData) (hf : s.heap.get? fa = some ⟨.type "function", none, .func fd, #[]⟩)
   (hQ : ∀ (h : Heap) (a d : Addr), (∀ b o, s.heap.get? b = some o → h.get? b = some o) → h.get? a = some (bookO fa d #[] 0) → h.get? d = some emptyD → s.heap.get? a = none → s.heap.get? d = none → a ≠ d → (d : Nat) < a → Q (.ref a) { s with heap := h }) :
   wpAny (model PySem.Challenge.pw_il0125_01 w) AX (call (.ref 115) [.ref fa]) Q E s := by
  x_run
theorem newBook (w : World) {A : Around} (hA : A.handled = none) (hd : A.depth ≤ 700) (hu : A.units ≤ 7000) (s : Shared) (X : (Mine.hd.heap_1_39 w.params).In s.heap) (Q E : Value → Shared → Prop)
   (fa : Addr) (fd : FuncData) (hf : s.heap.get? fa = some ⟨.type "function", none, .func fd, #[]⟩)
   (hQ : ∀ (h : Heap) (a d : Addr), (∀ b o, s.heap.get? b = some o → h.get? b = some o) → h.get? a = some (bookO fa d #[] 0) → h.get? d = some emptyD → s.heap.get? a = none → s.heap.get? d = none → a ≠ d → (d : Nat) < a → Q (.ref a) { s with heap := h }) :
   wpAny (model PySem.Challenge.pw_il0125_01 w) A (call (.ref 115) [.ref fa]) Q E s :=
  wpAny_wide hA hd rfl rfl hu (newBookX w s X Q E fa fd hf hQ)
end Mine
end
end JBo
section JFc
theorem Mine.fresh_Fc : True := by w_top off; exact trivial
open PySem PySem.W PyProof.Rows PySem.Spec PySem.Calls
set_option maxRecDepth 100000
set_option maxHeartbeats 4000000
noncomputable section
namespace Mine
theorem filledFc : Filled PySem.Challenge.rw_il0125_01 Mine.hd.heap_1_39 := by k_fill; exact True.intro
theorem strip_attr (w : World) {A : Around} {expr : Bool} {Q E : Value → Shared → Prop} {s : Shared} (X : (Mine.hd.heap_1_39 w.params).In s.heap)
    (h : ∀ u, Q (.builtin "str.strip") { s with toks := u }) : wpAny (model PySem.Challenge.pw_il0125_01 w) A (getAttr (.type "str") "strip" expr) Q E s := by
  have hstub : opaqueClassAbove (.type "str") = pure none := by unfold opaqueClassAbove; dsimp only; rw [show Manifest.isStub "str" = false from by decide +kernel]; rfl
  have L0 : Looks (model PySem.Challenge.pw_il0125_01 w) s.heap (typeOf (.type "str")) (.type "type") := Looks.of_pure (kitMeta_of (by decide +kernel))
  have LO : Looks (model PySem.Challenge.pw_il0125_01 w) s.heap (opaqueClassAbove (.type "str")) none := Looks.of_pure hstub
  have hg : findIn (Mine.hd.heap_1_39 w.params) (.type "type") "__getattribute__" = some (some (.builtin "type.__getattribute__")) := type_tga
  refine cls_open X LO L0 hg (looks_hook X (r := none) (by rfl)) (by show subIn _ _ _ = _; rfl) (r := .val (.builtin "str.strip")) (by k_is) ?_
  show wpAny _ _ (ret (Value.builtin "str.strip")) _ _ _
  exact wpAny_pure (handed_on rfl (h _))
end Mine
end
end JFc
section JMp
theorem Mine.fresh_Mp : True := by w_top off; exact trivial
open PySem PySem.W PyProof.Rows PySem.Spec PySem.Calls
set_option maxRecDepth 100000
set_option maxHeartbeats 4000000
noncomputable section
namespace Mine
theorem slot_map_next : Slot "map" "__next__" "map.__next__" :=
  .of (owner := "map") (n := "__next__") (by rw [typeLookup_type, builtinLookup_eq_fast]; kernel_rfl) (by decide +kernel) (by decide +kernel) (by decide +kernel)
    (by first | exact .inl (by decide +kernel) | exact .inr (by decide +kernel)) (by rw [isSubtype_type]; kernel_rfl)
theorem entry_map_next : entryFor table "map.__next__" = some Builtin.«map.__next__» := entryFor_of_tree (by kernel_rfl)
theorem owner_map : Manifest.owners.lookup (String.ofList ['p', 'a', 'm'].reverse) = some Manifest.sig_map := by kernel_rfl
theorem args_map_next_1 (a : Value) : argsOk "map.__next__" ⟨[a], []⟩ := by
  unfold argsOk; rw [signature?_of (id := "map.__next__") (n := ['_', '_', 't', 'x', 'e', 'n', '_', '_']) (o := ['p', 'a', 'm']) (by kernel_rfl) owner_map]; kernel_rfl
theorem slot_map_iter : Slot "map" "__iter__" "map.__iter__" :=
  .of (owner := "map") (n := "__iter__") (by rw [typeLookup_type, builtinLookup_eq_fast]; kernel_rfl) (by decide +kernel) (by decide +kernel) (by decide +kernel)
    (by first | exact .inl (by decide +kernel) | exact .inr (by decide +kernel)) (by rw [isSubtype_type]; kernel_rfl)
theorem entry_map_iter : entryFor table "map.__iter__" = some Builtin.«dict_keyiterator.__iter__» :=
  entryFor_alias (id' := "dict_keyiterator.__iter__") (by kernel_rfl) (by first | rfl | decide +kernel | (unfold String.splitOn; simp +decide [String.splitOnAux])) (by decide +kernel) (by kernel_rfl)
theorem args_map_iter_1 (a : Value) : argsOk "map.__iter__" ⟨[a], []⟩ := by
  unfold argsOk; rw [signature?_of (id := "map.__iter__") (n := ['_', '_', 'r', 'e', 't', 'i', '_', '_']) (o := ['p', 'a', 'm']) (by kernel_rfl) owner_map]; kernel_rfl
theorem map_no_len : typeLookup (.type "map") "__len__" = pure none := by rw [typeLookup_type, builtinLookup_eq_fast]; kernel_rfl
theorem map_no_hint : typeLookup (.type "map") "__length_hint__" = pure none := by rw [typeLookup_type, builtinLookup_eq_fast]; kernel_rfl
theorem stop_sub : isSubtype (.type "StopIteration") (.type "StopIteration") = pure true := by rw [isSubtype_type]; kernel_rfl
abbrev IsMap (h : Heap) (z TI : Addr) : Prop := h.get? z = some { cls := .type "map", dict := none, data := .fields #[.ref TI, .builtin "str.strip"], slots := #[] }
abbrev IsOne (h : Heap) (T : Addr) (a : Value) : Prop := h.get? T = some { cls := .type "tuple", data := .seq #[a] }
section
variable {prog : Program} {w : World} {A : Around} {E : Value → Shared → Prop} {s : Shared}
theorem strip_toks {x : Str} {t : Tok} {Q : Value → Shared → Prop} (h : ∀ t' k, s.toks ≤ k → Q (.str (Txt.strip x) t') { s with toks := k }) (hsz : x.length ≤ sizeLine) : wpAny (model prog w) A (call (.builtin "str.strip") [.str x t]) Q E s :=
  call_gives F.slot_str_strip (typeIs_str _ _ _) F.entry_str_strip (F.args_str_strip_1 _) (gives_str_strip x t) (by
    by_cases hc : stripSame Unicode.isSpace true true x
    · rw [if_pos hc]; have h' := h t s.toks (Nat.le_refl _); unfold Txt.strip Txt.stripBy at h'; rw [if_pos hc] at h'; exact h'
    · rw [if_neg hc]; have h' := h s.toks (s.toks + 1) (Nat.le_succ _); unfold Txt.strip Txt.stripBy at h'; rw [if_neg hc] at h'; exact ⟨fits_stripped _ _ _ hsz, h'⟩)
theorem map_next_item {z TI it l : Addr} {k : Nat} {xs : Array Value} {x : Str} {t : Tok} {Q : Value → Shared → Prop} (hz : IsMap s.heap z TI) (hTI : IsOne s.heap TI (.ref it)) (hi : s.heap.IsListIter it l k) (hl : s.heap.IsList l xs) (hx : xs[k]? = some (.str x t)) (hsz : x.length ≤ sizeLine) (hzi : z ≠ it)
    (hQ : ∀ h' t' tk, s.toks ≤ tk → h'.IsListIter it l (k + 1) → Heap.SameBut it s.heap h' → Q (.str (Txt.strip x) t') { s with heap := h', toks := tk }) :
    wpAny (model prog w) A (Builtin.«map.__next__» ⟨[.ref z], []⟩) (fun fin s' => ∃ v, fin = .done (.ret v) ∧ Q v s') E s := by
  show wpAny _ _ (field (.ref z) 0 >>= _) _ _ _
  refine wpAny_bind (wpAny_field hz rfl (x := .ref TI) rfl ?_)
  refine wpAny_bind (wpAny_seqItems hTI rfl ?_)
  dsimp only
  rw [← Array.forIn_toList]
  simp only [List.forIn_cons, List.forIn_nil]
  refine wpAny_bind (wpAny_bind (wpAny_bind (wpAny_holding (wpAny_nextOf_list_item hi hl hx fun h₁ hi₁ hs₁ => wpAny_pure ?_))))
  dsimp only
  refine wpAny_pure ?_
  have hz₁ : IsMap h₁ z TI := hs₁.extBut _ _ hzi hz
  refine wpAny_bind (wpAny_field hz₁ rfl (x := .builtin "str.strip") rfl ?_)
  refine wpAny_bind (wpAny_holding ?_)
  show wpAny _ _ (call (.builtin "str.strip") [.str x t]) _ _ _
  refine strip_toks (fun t' k hk => ?_) hsz
  refine wpAny_bind (wpAny_letGo (wpAny_pure ⟨_, rfl, ?_⟩))
  exact hQ h₁ t' k hk hi₁ hs₁
theorem map_next_end {z TI it l : Addr} {k : Nat} {xs : Array Value} {Q : Fin → Shared → Prop} (hh : A.handled = none) (hz : IsMap s.heap z TI) (hTI : IsOne s.heap TI (.ref it)) (hi : s.heap.IsListIter it l k) (hl : s.heap.IsList l xs) (hx : xs[k]? = none)
    (hE : ∀ h' e, Heap.ExtBut it s.heap h' → (∃ o, h'.get? e = some o ∧ o.cls = .type "StopIteration") → E (.ref e) { s with heap := h' }) :
    wpAny (model prog w) A (Builtin.«map.__next__» ⟨[.ref z], []⟩) Q E s := by
  show wpAny _ _ (field (.ref z) 0 >>= _) _ _ _
  refine wpAny_bind (wpAny_field hz rfl (x := .ref TI) rfl ?_)
  refine wpAny_bind (wpAny_seqItems hTI rfl ?_)
  dsimp only
  rw [← Array.forIn_toList]
  simp only [List.forIn_cons, List.forIn_nil]
  exact wpAny_bind (wpAny_bind (wpAny_bind (wpAny_holding (wpAny_nextOf_list_end hh hi hl hx hE))))
theorem pyNext_map_item {z TI it l : Addr} {k : Nat} {xs : Array Value} {x : Str} {t : Tok} {Q : Option Value → Shared → Prop} (hz : IsMap s.heap z TI) (hTI : IsOne s.heap TI (.ref it)) (hi : s.heap.IsListIter it l k) (hl : s.heap.IsList l xs) (hx : xs[k]? = some (.str x t)) (hsz : x.length ≤ sizeLine) (hzi : z ≠ it)
    (hQ : ∀ h' t' tk, s.toks ≤ tk → h'.IsListIter it l (k + 1) → Heap.SameBut it s.heap h' → Q (some (.str (Txt.strip x) t')) { s with heap := h', toks := tk }) :
    wpAny (model prog w) A (pyNext (.ref z)) Q E s := by
  have hT : s.TypeIs (.ref z) "map" := ⟨_, hz, rfl⟩
  unfold pyNext
  exact wpAny_bind (wpAny_attempt (wpAny_callSpecial?_slot (name := Str.ofString "__next__") hT slot_map_next
    (wpAny_call_entry slot_map_next hT entry_map_next (map_next_item hz hTI hi hl hx hsz hzi fun h' t' tk a1 a2 a3 => wpAny_pure (hQ h' t' tk a1 a2 a3)) (args_map_next_1 _))))
theorem pyNext_map_end {z TI it l : Addr} {k : Nat} {xs : Array Value} {Q : Option Value → Shared → Prop} (hh : A.handled = none) (hz : IsMap s.heap z TI) (hTI : IsOne s.heap TI (.ref it)) (hi : s.heap.IsListIter it l k) (hl : s.heap.IsList l xs) (hx : xs[k]? = none)
    (hQ : ∀ h', Heap.ExtBut it s.heap h' → Q none { s with heap := h' }) : wpAny (model prog w) A (pyNext (.ref z)) Q E s := by
  have hT : s.TypeIs (.ref z) "map" := ⟨_, hz, rfl⟩
  unfold pyNext
  refine wpAny_bind (wpAny_attempt (wpAny_callSpecial?_slot (name := Str.ofString "__next__") hT slot_map_next
    (wpAny_call_entry slot_map_next hT entry_map_next (map_next_end hh hz hTI hi hl hx fun h' e hk he => ?_) (args_map_next_1 _))))
  obtain ⟨o, ho, hc⟩ := he
  refine wpAny_bind (wpAny_isInstance (T := "StopIteration") (b := true) ⟨o, ho, hc⟩ stop_sub ?_)
  exact wpAny_pure (hQ _ hk)
theorem pyIter_map {z TI : Addr} {Q : Value → Shared → Prop} (hz : IsMap s.heap z TI) (h : Q (.ref z) s) : wpAny (model prog w) A (pyIter (.ref z)) Q E s := by
  have hT : s.TypeIs (.ref z) "map" := ⟨_, hz, rfl⟩
  refine wpAny_pyIter_slot hT slot_map_iter (wpAny_call_entry slot_map_iter hT entry_map_iter ?_ (args_map_iter_1 _))
  show wpAny _ _ (ret (.ref z)) _ _ s
  exact wpAny_pure ⟨_, rfl, "map", _, hT, slot_map_next.lookup, h⟩
/-- the walk over map(str.strip, a list of strs) -/
theorem map_walks (hh : A.handled = none) (z TI it l : Addr) (hzi : z ≠ it) (hTi : TI ≠ it) (hli : l ≠ it) (xs : Array Value) (ys : List Str) (hxs : ∀ i, i < xs.size → ∃ x t, xs[i]? = some (.str x t) ∧ ys[i]? = some x ∧ x.length ≤ sizeLine) :
    WalksS prog w A z [z, TI, it, l] [it] (fun a b => b = a) xs.size (fun i v => ∃ x t, ys[i]? = some x ∧ v = .str (Txt.strip x) t)
      (fun i s => IsMap s.heap z TI ∧ IsOne s.heap TI (.ref it) ∧ s.heap.IsListIter it l i ∧ s.heap.IsList l xs) where
  sub := fun b hb => by obtain rfl := List.mem_singleton.mp hb; simp
  grefl := fun _ => rfl
  gtrans := fun _ _ _ h1 h2 => h2.trans h1
  frame := fun i s h' tk st _ hk => by
    obtain ⟨h1, h2, h3, h4⟩ := st
    exact ⟨hk z (by simp) _ h1, hk TI (by simp) _ h2, h3.at fun o e => hk it (by simp) o e, h4.at fun o e => hk l (by simp) o e⟩
  item := fun i s Q E hi st hQ => by
    obtain ⟨h1, h2, h3, h4⟩ := st
    obtain ⟨x, t, e1, e2, e3⟩ := hxs i hi
    refine pyNext_map_item h1 h2 h3 h4 e1 e3 hzi fun h' t' tk htk hi' hs' => hQ _ _ ⟨x, t', e2, rfl⟩ ⟨hs'.extBut _ _ hzi h1, hs'.extBut _ _ hTi h2, hi', h4.extBut hs'.extBut hli⟩ ⟨fun b o hb e => hs'.extBut b o (fun q => hb (by rw [q]; exact List.mem_singleton.mpr rfl)) e, rfl, rfl, rfl, htk⟩
  done := fun s Q E st hQ => by
    obtain ⟨h1, h2, h3, h4⟩ := st
    exact pyNext_map_end hh h1 h2 h3 h4 (Array.getElem?_eq_none (Nat.le_refl _)) fun h' hx => hQ _ ⟨fun b o hb e => hx b o (fun q => hb (by rw [q]; exact List.mem_singleton.mpr rfl)) e, rfl, rfl, rfl, Nat.le_refl _⟩
  self := fun i s Q E st hQ => pyIter_map st.1 hQ
theorem collect_map {I : Addr} {fp wr : List Addr} {G : Array GenState → Array GenState → Prop} {n : Nat} {P : Nat → Value → Prop} {St : Nat → Shared → Prop} {Q : List Value → Shared → Prop} (W : WalksS prog w A.in1 I fp wr G n P St) (hT : ∀ i s, St i s → s.TypeIs (.ref I) "map") (hst : St 0 s) (hfp : ∀ b ∈ fp, b < s.heap.objs.size) (hI : I ∈ fp)
    (hQ : ∀ s' acc, Moved wr G s s' → ItemsOf P acc n → Q acc.toList s') (hn : n ≤ sizeLine) : wpAny (model prog w) A (collect (.ref I)) Q E s := by
  have hSf : s.heap.objs.size ∉ fp := fun hm => Nat.lt_irrefl _ (hfp _ hm)
  have hSI : s.heap.objs.size ≠ I := fun e => hSf (e ▸ hI)
  unfold collect
  refine wpAny_bind (wpAny_runValue (codeAny_builtin F.entry_proto_collect ?_))
  rw [Around.under_plainId F.plain_proto_collect _]
  show wpAny _ A.in1 (newList [] >>= fun l => again (.builtin "list.__iadd__" ⟨[l, .ref I], []⟩)) _ _ s
  refine wpAny_bind (wpAny_newObj_type ?_)
  refine wpAny_pure ⟨plainId_quiet F.plain_list_iadd _, codeAny_builtin F.entry_list_iadd ?_⟩
  rw [Around.under_plainId F.plain_list_iadd _]
  have hst₁ := W.frame 0 s (s.heap.push { cls := .type "list", data := .seq ([] : List Value).toArray }) s.toks hst (Nat.le_refl _) fun b _ o e => Heap.get?_push_of_some _ e
  show wpAny _ A.in1 (Builtin.List.listExtendWith (.ref s.heap.objs.size) (.ref I) (.ref s.heap.objs.size)) _ _ _
  unfold Builtin.List.listExtendWith
  refine wpAny_bind (wpAny_typeOf (hT 0 _ hst₁) ?_)
  have h1 : Builtin.List.listSameRef (.ref s.heap.objs.size) (.ref I) = false := by simp [Builtin.List.listSameRef, hSI]
  have h2 : (Value.type "map" == Value.type "list") = false := by decide
  have h3 : (Value.type "map" == Value.type "tuple") = false := by decide
  simp only [h1, h2, h3, Bool.or_false, Bool.false_eq_true, if_false]
  refine wpAny_bind (W.self 0 _ _ _ hst₁ ?_)
  refine wpAny_bind (wpAny_holding ?_)
  unfold Builtin.List.listLengthHint
  refine wpAny_bind (wpAny_specialOf (hT 0 _ hst₁) map_no_len ?_)
  show wpAny _ A.in1 (specialOf (Value.ref I) (Str.ofString "__length_hint__") >>= _) _ _ _
  refine wpAny_bind (wpAny_specialOf (hT 0 _ hst₁) map_no_hint ?_)
  refine wpAny_pure ?_
  show wpAny _ A.in1 (rule "list.extend.makes-room" >>= fun _ => Builtin.List.listTouch (.ref s.heap.objs.size) >>= fun _ =>
    again (.builtin "list.extend.loop" ⟨[.ref s.heap.objs.size, .ref I, .ref s.heap.objs.size], []⟩)) _ _ _
  refine wpAny_bind (wpAny_rule ?_)
  have hS₁ : (s.heap.push { cls := .type "list", data := .seq ([] : List Value).toArray }).get? s.heap.objs.size = some { cls := .type "list", data := .seq ([] : List Value).toArray } := Heap.get?_push_size _ rfl
  refine wpAny_bind ?_
  show wpAny _ A.in1 (updateSeq s.heap.objs.size (·.push .none) >>= fun _ => updateSeq s.heap.objs.size (·.pop)) _ _ _
  refine wpAny_bind (wpAny_updateSeq hS₁ rfl ?_)
  have hS₂ := Heap.get?_update_self (Obj.mapSeq (·.push Value.none)) hS₁ rfl
  refine wpAny_updateSeq hS₂ rfl ?_
  have hS₃ := Heap.get?_update_self (Obj.mapSeq (·.pop)) hS₂ rfl
  have oth : ∀ b o, b ≠ s.heap.objs.size → (s.heap.push { cls := .type "list", data := .seq ([] : List Value).toArray }).get? b = some o →
      (((s.heap.push { cls := .type "list", data := .seq ([] : List Value).toArray }).update s.heap.objs.size (Obj.mapSeq (·.push Value.none))).update s.heap.objs.size (Obj.mapSeq (·.pop))).get? b = some o :=
    fun b o hb e => (Heap.get?_update_other _ _ (Ne.symm hb)).trans ((Heap.get?_update_other _ _ (Ne.symm hb)).trans e)
  refine wpAny_pure ⟨plainId_quiet F.plain_extend_loop _, codeAny_extend_loopS W hn _ hSf _ n 0 _ _ _ rfl (Nat.zero_le _)
    (W.frame 0 ({ s with heap := s.heap.push { cls := .type "list", data := .seq ([] : List Value).toArray } } : Shared) _ s.toks hst₁ (Nat.le_refl _) fun b hb o e => oth b o (fun h => hSf (h ▸ hb)) e) hS₃ (ItemsOf.nil P) fun s' acc' c' hm hS' hacc => ?_⟩
  show wpAny _ A (load s.heap.objs.size >>= _) _ _ s'
  refine wpAny_bind (wpAny_load hS' ?_)
  refine wpAny_pure (hQ s' acc' (Moved.drop_new (o := { cls := .type "list", data := .seq ([] : List Value).toArray }) (tk := s.toks) (Moved.trans W.gtrans ((Moved.refl W.grefl).then_heap (by first | exact Nat.le_refl _ | exact Nat.le_succ _ | omega) fun b o hb e => ?_) hm) (Nat.le_refl _)) hacc)
  exact oth b o (fun h => hb (h ▸ List.mem_cons_self)) e
theorem star_map {z TI it l : Addr} {xs : Array Value} {ys : List Str} {h₀ : Heap} {L : Addr} {m : Str → Option Value} {news : List (Addr × Obj)} {Q : List Value → Shared → Prop} (hh : A.handled = none) (F : Fr h₀ L s.heap m) (N : News h₀ L s.heap news) (hz : IsMap s.heap z TI) (hTI : IsOne s.heap TI (.ref it)) (hi : s.heap.IsListIter it l 0) (hl : s.heap.IsList l xs)
    (hzi : z ≠ it) (hTi : TI ≠ it) (hli : l ≠ it) (hxs : ∀ i, i < xs.size → ∃ x t, xs[i]? = some (.str x t) ∧ ys[i]? = some x ∧ x.length ≤ sizeLine) (hsz : xs.size ≤ sizeLine) (hLi : L ≠ it) (h0i : h₀.get? it = none) (hNi : ∀ p ∈ news, p.1 ≠ it)
    (h : ∀ h' tk acc, Fr h₀ L h' m → News h₀ L h' news → ItemsOf (fun i v => ∃ x t, ys[i]? = some x ∧ v = .str (Txt.strip x) t) acc xs.size → Q acc.toList { s with heap := h', toks := tk }) : StarOf (model prog w) A E (.ref z) Q s := by
  have hT' : s.TypeIs (.ref z) "map" := ⟨_, hz, rfl⟩
  have W := map_walks (prog := prog) (w := w) (A := A.in1) hh z TI it l hzi hTi hli xs ys hxs
  have q : wpAny (model prog w) A (collect (.ref z)) Q E s := by
    refine collect_map W (fun i s st => ⟨_, st.1, rfl⟩) ⟨hz, hTI, hi, hl⟩ (fun b hb => ?_) (by simp) (fun s' acc hm hacc => ?_) hsz
    · simp only [List.mem_cons, List.not_mem_nil, or_false] at hb
      rcases hb with rfl | rfl | rfl | rfl
      · exact Heap.lt_size hz
      · exact Heap.lt_size hTI
      · obtain ⟨o, e, _⟩ := hi; exact Heap.lt_size e
      · obtain ⟨o, e, _⟩ := hl; exact Heap.lt_size e
    · obtain ⟨h', g', d', tk', os'⟩ := s'
      obtain ⟨a1, a2, a3, a4, a5⟩ := hm
      dsimp only at a1 a2 a3 a4
      subst a2; subst a3; subst a4
      have keep : ∀ b o, b ≠ it → s.heap.get? b = some o → h'.get? b = some o := fun b o hb e => a1 b o (fun hm => hb (List.mem_singleton.mp hm)) e
      refine h h' tk' acc ⟨F.ns.at' fun o e => keep L o hLi e, fun b o e => keep b o (fun q => by rw [q, h0i] at e; cases e) (F.keep b o e), F.above⟩ (fun p hp => ⟨keep _ _ (hNi p hp) (N p hp).1, (N p hp).2⟩) hacc
  unfold StarOf notIterableAtAll
  exact wpAny_bind (wpAny_specialOf hT' slot_map_iter.lookup (wpAny_pure ⟨rfl, q⟩))
end
end Mine
end
end JMp
section JMn
theorem Mine.fresh_Mn : True := by w_top off; exact trivial
open PySem PySem.W PyProof.Rows PySem.Spec PySem.Calls
set_option maxRecDepth 100000
set_option maxHeartbeats 4000000
noncomputable section
namespace Mine
theorem filledMn : Filled PySem.Challenge.rw_il0125_01 Mine.hd.heap_1_39 := by k_fill; exact True.intro
def MapQ (s : Shared) (l : Addr) (Q : Value → Shared → Prop) : Prop :=
  ∀ (h : Heap) (z TI it : Addr), (∀ b o, s.heap.get? b = some o → h.get? b = some o) → IsMap h z TI → IsOne h TI (.ref it) → h.IsListIter it l 0 → s.heap.get? z = none → s.heap.get? TI = none → s.heap.get? it = none → z ≠ TI → z ≠ it → TI ≠ it → Q (.ref z) { s with heap := h }
theorem endM {s : Shared} {Q : Value → Shared → Prop} {l z TI it : Addr} {h : Heap} (hQ : MapQ s l Q)
   (D : W.X.Mem s.heap h [] [(z, { cls := .type "map", data := .fields #[.ref TI, .builtin "str.strip"] }), (TI, { cls := .type "tuple", data := .seq #[.ref it] }), (it, { cls := .type "list_iterator", data := .fields #[.ref l, .int 0 0] })]) : Q (Value.ref z) { heap := h, gens := s.gens, drawn := s.drawn, toks := s.toks, os := s.os } :=
  hQ h z TI it (fun b o e => D.keep b o e (Bool.or_true _)) (D.at 0 _ _ rfl) (D.at 1 _ _ rfl) ⟨_, D.at 2 _ _ rfl, rfl, rfl⟩ (D.nw _ (.head _)).2 (D.nw _ (.tail _ (.head _))).2 (D.nw _ (.tail _ (.tail _ (.head _)))).2 (D.ne 0 1 _ _ _ _ rfl rfl rfl) (D.ne 0 2 _ _ _ _ rfl rfl rfl) (D.ne 1 2 _ _ _ _ rfl rfl rfl)
local macro_rules | `(tactic| x_close) => `(tactic| (rename W.X.Mem _ _ [] [_, _, _] => D; exact endM (by assumption) D))
theorem newMapX (w : World) (s : Shared) (_X : (Mine.hd.heap_1_39 w.params).In s.heap) (Q E : Value → Shared → Prop)
   (l : Addr) (a b : Str) (ta tb : Tok) (n : Nat) (hf : s.heap.get? l = some ⟨.type "list", none, .seq #[.str a ta, .str b tb] n, #[]⟩) (hQ : MapQ s l Q) :
   wpAny (model PySem.Challenge.pw_il0125_01 w) AX (call (.type "map") [.builtin "str.strip", .ref l]) Q E s := by
  x_run
theorem newMap (w : World) {A : Around} (hA : A.handled = none) (hd : A.depth ≤ 700) (hu : A.units ≤ 7000) (s : Shared) (X : (Mine.hd.heap_1_39 w.params).In s.heap) (Q E : Value → Shared → Prop)
   (l : Addr) (a b : Str) (ta tb : Tok) (n : Nat) (hf : s.heap.get? l = some ⟨.type "list", none, .seq #[.str a ta, .str b tb] n, #[]⟩) (hQ : MapQ s l Q) :
   wpAny (model PySem.Challenge.pw_il0125_01 w) A (call (.type "map") [.builtin "str.strip", .ref l]) Q E s :=
  wpAny_wide hA hd rfl rfl hu (newMapX w s X Q E l a b ta tb n hf hQ)
/-- the classes and functions' own step: tuple.__new__ of a Pair -/
def pairO (d : Addr) (x y : Value) : Obj := { cls := .ref 210, dict := some d, data := .seq #[x, y] }
def PairQ (s : Shared) (x y : Value) (Q : Value → Shared → Prop) : Prop :=
  ∀ (h : Heap) (p d : Addr), (∀ b o, s.heap.get? b = some o → h.get? b = some o) → h.get? p = some (pairO d x y) → h.get? d = some emptyD → s.heap.get? p = none → s.heap.get? d = none → p ≠ d → Q (.ref p) { s with heap := h }
theorem endP {s : Shared} {Q : Value → Shared → Prop} {p d : Addr} {h : Heap} {x y : Value} {lo : Addr × Obj} (hQ : PairQ s x y Q)
   (D : W.X.Mem s.heap h [] [(p, pairO d x y), (d, emptyD), lo]) : Q (Value.ref p) { heap := h, gens := s.gens, drawn := s.drawn, toks := s.toks, os := s.os } :=
  hQ h p d (fun b o e => D.keep b o e (Bool.or_true _)) (D.at 0 _ _ rfl) (D.at 1 _ _ rfl) (D.nw _ (.head _)).2 (D.nw _ (.tail _ (.head _))).2 (D.ne 0 1 _ _ _ _ rfl rfl rfl)
local macro_rules | `(tactic| x_close) => `(tactic| (rename W.X.Mem _ _ [] [_, _, _] => D; exact endP (by assumption) D))
theorem newPairX (w : World) (s : Shared) (_X : (Mine.hd.heap_1_39 w.params).In s.heap) (Q E : Value → Shared → Prop)
   (tt : Addr) (a b : Str) (ta tb : Tok) (n : Nat) (hf : s.heap.get? tt = some ⟨.type "tuple", none, .seq #[.str a ta, .str b tb] n, #[]⟩) (hQ : PairQ s (.str a ta) (.str b tb) Q) :
   wpAny (model PySem.Challenge.pw_il0125_01 w) AX (call (.builtin "tuple.__new__") [.ref 210, .ref tt]) Q E s := by
  x_run
theorem newPair (w : World) {A : Around} (hA : A.handled = none) (hd : A.depth ≤ 700) (hu : A.units ≤ 7000) (s : Shared) (X : (Mine.hd.heap_1_39 w.params).In s.heap) (Q E : Value → Shared → Prop)
   (tt : Addr) (a b : Str) (ta tb : Tok) (n : Nat) (hf : s.heap.get? tt = some ⟨.type "tuple", none, .seq #[.str a ta, .str b tb] n, #[]⟩) (hQ : PairQ s (.str a ta) (.str b tb) Q) :
   wpAny (model PySem.Challenge.pw_il0125_01 w) A (call (.builtin "tuple.__new__") [.ref 210, .ref tt]) Q E s :=
  wpAny_wide hA hd rfl rfl hu (newPairX w s X Q E tt a b ta tb n hf hQ)
end Mine
end
end JMn
section JPc
theorem Mine.fresh_Pc : True := by w_top off; exact trivial
open PySem PySem.W PyProof.Rows PySem.Spec PySem.Calls Builtin
set_option maxRecDepth 100000
set_option maxHeartbeats 4000000
noncomputable section
namespace Mine
theorem filledPc : Filled PySem.Challenge.rw_il0125_01 Mine.hd.heap_1_39 := by k_fill; exact True.intro
local macro_rules | `(tactic| x_close) => `(tactic| assumption)
theorem newAttrX (w : World) (s : Shared) (X : (Mine.hd.heap_1_39 w.params).In s.heap) (Q E : Value → Shared → Prop) (hQ : Q (.ref 137) s) :
   wpAny (model PySem.Challenge.pw_il0125_01 w) AX (call (.builtin "staticmethod.__get__") [.ref 188, .none, .ref 210]) Q E s := by
  x_run
theorem initX (w : World) (s : Shared) (X : (Mine.hd.heap_1_39 w.params).In s.heap) (Q E : Value → Shared → Prop) (p d : Addr) (x y : Str) (tx ty : Tok) (hp : s.heap.get? p = some ⟨.ref 210, some d, .seq #[.str x tx, .str y ty] 0, #[]⟩) (hQ : Q .none s) :
   wpAny (model PySem.Challenge.pw_il0125_01 w) AX (call (.builtin "object.__init__") [.ref p, .str x tx, .str y ty]) Q E s := by
  x_run
theorem new_attr (w : World) {A : Around} (hA : A.handled = none) (hd : A.depth ≤ 600) (hu : A.units ≤ 6000) {expr : Bool} {Q E : Value → Shared → Prop} {s : Shared} (X : (Mine.hd.heap_1_39 w.params).In s.heap)
    (h : ∀ u, Q (.ref 137) { s with toks := u }) : wpAny (model PySem.Challenge.pw_il0125_01 w) A (getAttr (.ref 210) "__new__" expr) Q E s := by
  have L0 : Looks (model PySem.Challenge.pw_il0125_01 w) s.heap (typeOf (.ref 210)) (.type "type") := looks_typeIn X (by k_is)
  have hg : findIn (Mine.hd.heap_1_39 w.params) (.type "type") "__getattribute__" = some (some (.builtin "type.__getattribute__")) := type_tga
  refine cls_open X (looks_opaque X (by k_is)) L0 hg (looks_hook X (r := none) (by rfl)) (by show subIn _ _ _ = _; rfl) (r := .get (.builtin "staticmethod.__get__") (.ref 188) .none (.ref 210)) (by k_is) ?_
  show wpAny _ _ (do ret (← holding [Value.ref 188] (call (.builtin "staticmethod.__get__") [.ref 188, .none, .ref 210]))) _ _ _
  refine wpAny_bind (wpAny_holding (wpAny_wide (A := AX) hA (by show A.depth ≤ 700; omega) rfl rfl (by show A.units + 1 ≤ 7000; omega) (newAttrX w { s with toks := s.toks + 1 } X _ _ ?_)))
  exact wpAny_pure (handed_on rfl (h _))
theorem made_none (w : World) {h : Heap} (X : (Mine.hd.heap_1_39 w.params).In h) : Looks (model PySem.Challenge.pw_il0125_01 w) h (Bind.madeBy (.ref 210)) none := by
  intro A Q E s k q
  obtain ⟨oc, od, cd, sl, ho, hm, h4⟩ : ∃ oc od cd sl, (Mine.hd.heap_1_39 w.params).lookup 210 = some ⟨oc, od, .cls cd, sl⟩ ∧ cd.mro = [.ref 210, .ref 187, .type "tuple", .type "object"] ∧ sl.toList[4]? = some (some .none) := ⟨_, _, _, _, by k_is, rfl, rfl⟩
  have hc : clsIn (Mine.hd.heap_1_39 w.params) 210 = some cd := by unfold clsIn; rw [ho]
  have hl : Looks (model PySem.Challenge.pw_il0125_01 w) h (mroOf (.ref 210)) cd.mro := (looks_clsIn X hc).andThen .now
  unfold Bind.madeBy
  refine wpAny_bind (hl A _ E s k ?_)
  rw [hm, List.forIn_cons]
  refine wpAny_bind (wpAny_bind (wpAny_bind (wpAny_bind (wpAny_loadPart (k _ _ (X _ _ ho)) (wpAny_pure ?_)))))
  dsimp only
  rw [← Array.getElem?_toList, h4]
  exact wpAny_pure (wpAny_pure (wpAny_pure q))
/-- a call of the class Pair, by a call of its __new__ -/
theorem pair_call (w : World) {A : Around} (hA : A.handled = none) (hd : A.depth ≤ 500) (hu : A.units ≤ 5000) {x y : Str} {tx ty : Tok} {R : Result → Shared → Prop} {h : Heap} {g : Array GenState} {d : Drawn} {t : Nat} {os : OsState} (X : (Mine.hd.heap_1_39 w.params).In h)
    (hnew : ∀ (A' : Around) u, A'.frames = A.frames → A'.handled = none → A'.depth ≤ 520 → A'.units ≤ 5020 → wpAny (model PySem.Challenge.pw_il0125_01 w) A' (call (.ref 137) [.ref 210, .str x tx, .str y ty]) (fun v s' => ∃ p d, v = .ref p ∧ (Mine.hd.heap_1_39 w.params).In s'.heap ∧ s'.heap.get? p = some (pairO d (.str x tx) (.str y ty)) ∧ R (.ok (.ret (.ref p))) s') (fun _ _ => False) ⟨h, g, d, u, os⟩) :
    codeAny (model PySem.Challenge.pw_il0125_01 w) A (.call (.ref 210) ⟨[.str x tx, .str y ty], []⟩) R ⟨h, g, d, t, os⟩ := by
  obtain ⟨oc, od, cd, sl, ho, hm⟩ : ∃ oc od cd sl, (Mine.hd.heap_1_39 w.params).lookup 210 = some ⟨oc, od, .cls cd, sl⟩ ∧ cd.mro = [.ref 210, .ref 187, .type "tuple", .type "object"] := ⟨_, _, _, _, by k_is, rfl⟩
  have hC := X _ _ ho
  have hcl : clsIn (Mine.hd.heap_1_39 w.params) 210 = some cd := by unfold clsIn; rw [ho]
  have call : Looks (model PySem.Challenge.pw_il0125_01 w) h (specialOf (.ref 210) "__call__") (some (.builtin "type.__call__")) := looks_specialIn X (by k_is)
  have typ : Looks (model PySem.Challenge.pw_il0125_01 w) h (isInstance (.ref 210) (.type "type")) true := looks_instIn X (by k_is)
  refine codeAny_of_tree ?_
  show wpAny _ _ (callAny (.ref 210) _) _ _ _
  refine nd_load hC ?_
  show wpAny _ _ (callAny.viaDunder (.ref 210) _) _ _ _
  unfold callAny.viaDunder
  refine wpAny_bind (call.at ?_)
  dsimp only
  rw [tc_bind]
  refine wpAny_bind (wpAny_pure (wpAny_bind (wpAny_pure ?_)))
  refine wpAny_pure (a := Fin.again (.call (.builtin "type.__call__") ⟨[.ref 210, .str x tx, .str y ty], []⟩)) (And.intro rfl ?_)
  refine codeAny_call_builtin_at (Code.quiet_builtin _ (by decide +kernel)) entry_typeCall (check_slot tc_kind tc_split typ (tc_args _ _ _) ?_)
  unfold Builtin.«type.__call__»
  have hmro : Looks (model PySem.Challenge.pw_il0125_01 w) h (mroOf (.ref 210)) cd.mro := (looks_clsIn X hcl).andThen .now
  have hmade := made_none w X
  have e4 : cd.mro.isEmpty = false := by rw [hm]; rfl
  iterate 5 (first | simp only [e4, Bool.false_eq_true, if_false] | lk)
  obtain ⟨A1, eA, a1, a2, a3, a4⟩ : ∃ A1, A.under (.builtin "type.__call__" ⟨[.ref 210, .str x tx, .str y ty], []⟩) = A1 ∧ A1.frames = A.frames ∧ A1.handled = none ∧ A1.depth ≤ 505 ∧ A1.units ≤ 5005 := by
    have hw : (Code.builtin "type.__call__" ⟨[.ref 210, .str x tx, .str y ty], []⟩).weight ≤ 5 := Nat.le_of_ble_eq_true (by kernel_rfl)
    have hc : (Code.builtin "type.__call__" ⟨[.ref 210, .str x tx, .str y ty], []⟩).cUnits ≤ 5 := Nat.le_of_ble_eq_true (by kernel_rfl)
    have he : (Code.builtin "type.__call__" ⟨[.ref 210, .str x tx, .str y ty], []⟩).envs = [] := by kernel_rfl
    refine ⟨_, rfl, ?_, hA, ?_, ?_⟩
    · unfold Around.under
      dsimp only
      rw [he]; cases A.frames <;> rfl
    · show A.depth + _ ≤ _; omega
    · show A.units + _ ≤ _; omega
  rw [eA]
  refine wpAny_bind (hmade.here ?_)
  dsimp only
  refine wpAny_bind (new_attr w a2 (by omega) (by omega) X fun u => ?_)
  refine wpAny_bind (wpAny_holding (wpAny_mono (hnew A1 u a1 a2 (by omega) (by omega)) (fun v s' hv => ?_) fun _ _ e => e.elim))
  obtain ⟨p, dd, rfl, X', hp, hR⟩ := hv
  obtain ⟨h', g', d', t', os'⟩ := s'
  dsimp only at X' hp
  have t1 : Looks (model PySem.Challenge.pw_il0125_01 w) h' (typeOf (.ref p)) (.ref 210) := (Looks.ld hp).andThen .now
  have self : Looks (model PySem.Challenge.pw_il0125_01 w) h' (isSubtype (.ref 210) (.ref 210)) true := looks_subIn X' (by k_is)
  have hin : Looks (model PySem.Challenge.pw_il0125_01 w) h' (isInstance (.ref p) (.ref 210)) true := t1.andThen self
  refine wpAny_bind (hin.here ?_)
  simp only [Bool.not_true, Bool.false_eq_true, if_false]
  have hi : Looks (model PySem.Challenge.pw_il0125_01 w) h' (typeLookup (.ref 210) "__init__") (some (.builtin "object.__init__")) := looks_findIn X' (by k_is)
  have sp : Looks (model PySem.Challenge.pw_il0125_01 w) h' (specialOf (.ref p) "__init__") (some (.builtin "object.__init__")) := t1.andThen hi
  refine wpAny_bind (wpAny_holding ?_)
  simp only [callSpecial?]
  refine wpAny_bind (sp.here ?_)
  simp only [oi_bind]
  refine wpAny_holding (wpAny_bind (wpAny_pure (wpAny_bind (wpAny_wide (A := AX) a2 (by show A1.depth ≤ 700; omega) rfl rfl (by show A1.units ≤ 7000; omega) (initX w ⟨h', g', d', t', os'⟩ X' _ _ p dd x y tx ty hp (wpAny_pure ?_))))))
  dsimp only
  first
    | exact wpAny_pure hR
    | (simp only [bne_self_eq_false, Bool.false_eq_true, if_false]; exact wpAny_pure hR)
end Mine
end
end JPc
section JPn
theorem Mine.fresh_Pn : True := by w_top off; exact trivial
open PySem PySem.W PyProof.Rows PySem.Spec PySem.Calls PyProof.Rows.LCg
set_option maxRecDepth 100000
set_option maxHeartbeats 2000000
noncomputable section
namespace Mine
theorem filledPn : Filled PySem.Challenge.rw_il0125_01 Mine.hd.heap_1_39 := by k_fill; exact True.intro
theorem news_new {h₀ h h' : Heap} {L a : Addr} {o : Obj} {m : Str → Option Value} {news : List (Addr × Obj)} (F : Fr h₀ L h m) (N : News h₀ L h' news) (ha : h'.get? a = some o) (hna : h.get? a = none) : News h₀ L h' ((a, o) :: news) := fun p hp => by
  rcases List.mem_cons.mp hp with rfl | hp
  · refine ⟨ha, fun e => ?_, ?_⟩
    · obtain ⟨oL, eL, _⟩ := ns_obj F.ns
      rw [← e] at eL
      rw [hna] at eL; cases eL
    · cases q : h₀.get? a with
      | none => rfl
      | some o' => have := F.keep _ _ q; rw [hna] at this; cases this
  · exact N p hp
theorem pnew_walk (w : World) (mean : ExcName → Option Value) (mg mb : Str → Option Value) (news : CbLed) (x y : Str) (tx ty : Tok) (A' : Around)
  (cn : Str) (cs : Scope) (a : Addr) (ccd : Value) (cl : List (Str × Addr)) (outer : List Env) (A₀ : Around) (base h₀ : Heap) (L : Addr) (m : Str → Option Value) (s : Shared) (Q E : Value → Shared → Prop)
  (hA1 : A'.frames = some (envX cn cs L a ccd cl :: outer)) (hA2 : A'.handled = none) (hA3 : A'.depth ≤ 520) (hA4 : A'.units ≤ 5020)
  (hB : Below A₀ base outer h₀) (hF : Fr h₀ L s.heap m) (hX : (Mine.hd.heap_1_39 w.params).In h₀) (hN : News h₀ L s.heap news) (hT : Top topProg LO mean mg mb h₀) (hcs : cs.kind = .function)
  (hret : ∀ h' tk' P d, Fr h₀ L h' m → News h₀ L h' ((P, pairO d (.str x tx) (.str y ty)) :: (d, emptyD) :: news) → Q (.ref P) { s with heap := h', toks := tk' }) :
  wpAny (model PySem.Challenge.pw_il0125_01 w) A' (call (.ref 137) [.ref 210, .str x tx, .str y ty]) Q E s := by
  k_with_none
  have rl : recursionLimit = 1000 := rfl
  refine wpAny_call ?_
  (refine' code_def (A := A') ?k1 ?k2 ?k3 ?k4 ?k5 ?kA ?kF ?kK ?k6 ?k7 ?k8 ?k9 ?kB ?_ ?c2 ?c3 ?c4 ?c5; (case kA => exact hA1); (case kF => exact rfl); (case kK => assumption); (case k1 => k_asm); (case k2 => k_asm); (case k3 => k_asm); (case k4 => k_asm); (case k5 => k_asm); (case k6 => k_is); (case k7 => k_is); (case k8 => (show A'.depth < recursionLimit; omega)); (case k9 => exact BindsTo.of_eq rfl); (case c5 => decide); (case kB => exact locs rfl); (case c2 => exact rfl); (case c3 => exact rfl); (case c4 => exact rfl); k_whole; intro g5 L5 h5 FG5 F5 N5 B5 X5 T5; (try dsimp only); (try k_fold))
  iterate 8 (first | walk1 | (dsimp only; walk1))
  with_reducible refine method_type (v := .builtin "tuple.__new__") F5 X5 ?q1 ?q2 ?q3 ?q4 ?_
  case q1 => exact kitMeta_of (by decide +kernel)
  case q2 => decide +kernel
  case q3 => k_is
  case q4 => rfl
  iterate 12 (first | walk1 | (dsimp only; walk1))
  rename Fr g5 _ _ _ => F6
  rename News g5 _ _ _ => N6
  rename_i D6 h6 l6
  refine newPair w (A := A'.deeper _) (by exact hA2) (by show A'.depth + 1 ≤ 700; omega) (by show A'.units + 3 ≤ 7000; omega) ⟨h6, s.gens, s.drawn, _, s.os⟩ (X5.keeps F6.keep) _ _ D6 _ _ _ _ _ (N6 _ (.head _)).1 ?_
  intro h7 P d7 hk7 hP hd7 hnP hnd hPd
  have F7 := F6.keeps hk7
  have N7 := news_new F6 (news_new F6 (N6.grown hk7) hd7 hnd) hP hnP
  clear F6 N6
  iterate 1 (first | walk1 | (dsimp only; walk1))
  rename Fr h₀ L _ m => kF
  rename News h₀ L _ _ => kN
  exact hret _ _ P d7 kF (fun p hp => kN p (by
    rcases List.mem_cons.mp hp with rfl | hp
    · exact .head _
    · rcases List.mem_cons.mp hp with rfl | hp
      · exact .tail _ (.head _)
      · exact .tail _ (.tail _ (.tail _ hp))))
end Mine
end
end JPn
section JSa
theorem Mine.fresh_Sa : True := by w_top off; exact trivial
open PySem PySem.W PyProof.Rows PySem.Spec PySem.Calls
set_option maxRecDepth 100000
set_option maxHeartbeats 2000000
noncomputable section
namespace Mine
theorem filledSa : Filled PySem.Challenge.rw_il0125_01 Mine.hd.heap_1_39 := by k_fill; exact True.intro
section
variable {prog : Program} {w : World} {A : Around} {K : Frag} {s : Shared} {x C : Addr} {ox : Obj} {od : Option Obj} {ga owner : String} {name : Str} {expr : Bool} {Q E : Value → Shared → Prop}
/-- what is asked of a __getattribute__ that is object's under another name -/
structure GaOf (K : Frag) (C : Addr) (ga owner : String) : Prop where
  fnd : findIn K (.ref C) "__getattribute__" = some (some (.builtin ga))
  ne : (Value.builtin ga == Value.builtin "object.__getattribute__") = false
  can : (Manifest.canonical ga != "object.__getattribute__") = false
  hook : findIn K (.ref C) "__getattr__" = some none
  bind : ∀ self, bindSpecial (.builtin ga) self = pure (.builtin ga, [self])
  kind : builtinKind ga = some .slot
  split : splitId ga = some (owner, "__getattribute__")
  plain : plainId ga = true
  entry : entryFor table ga = some Builtin.«object.__getattribute__»
  args : ∀ a b, argsOk ga ⟨[a, b], []⟩
  sub : subIn K (.ref C) (.type owner) = some true
theorem sub_open (G : GaOf K C ga owner) (X : K.In s.heap) (I : InstAt s.heap x ox C od)
    (h : wpAny (model prog w) A.in1 (Builtin.«object.__getattribute__» ⟨[.ref x, .str name s.toks], []⟩) (fun fin s' => match fin with | .done (.ret v) => wpAny (model prog w) A (handedOut v) Q E s' | _ => False) (fun _ _ => False) { s with toks := s.toks + 1 }) :
    wpAny (model prog w) A (getAttr (.ref x) name expr) Q E s := by
  have ht := I.type (M := model prog w)
  have L1 := looks_findIn (M := model prog w) X G.fnd
  have hb : Looks (model prog w) s.heap (hookBefore (.ref C)) none := looks_hook X G.hook
  have hi : Looks (model prog w) s.heap (isInstance (.ref x) (.type owner)) true := ht.andThen (looks_subIn X G.sub)
  refine wpAny_bind (wpAny_mkText (wpAny_holding (wpAny_bind (ht _ _ _ _ (fun _ _ e => e) (wpAny_bind (L1 _ _ _ _ (fun _ _ e => e) ?_))))))
  dsimp only
  rw [show (onTheHeap (.ref C) && Value.builtin ga == Value.builtin "object.__getattribute__") = false from by rw [G.ne, Bool.and_false], if_neg (by decide)]
  refine wpAny_bind (hb _ _ _ _ (fun _ _ e => e) (wpAny_bind (wpAny_attempt (wpAny_holding ?_))))
  unfold callGetattribute
  rw [show (expr && onTheHeap (Value.builtin ga)) = false from Bool.and_false _, if_neg (by decide)]
  unfold boundAndCalled
  rw [G.bind]
  refine wpAny_bind (wpAny_pure ?_)
  show wpAny _ _ (call (.builtin ga) [.ref x, .str name s.toks]) _ _ _
  refine wpAny_call ?_
  with_reducible refine codeAny_call_builtin_at (plainId_quiet G.plain _) G.entry ?_
  with_reducible refine check_slot G.kind G.split ?_ (G.args _ _) ?_
  · exact fun A Q E s' k q => hi A Q E s' k q
  rw [Around.under_plainId G.plain]
  refine wpAny_mono h (fun fin s' z => ?_) fun _ _ z => z.elim
  rcases fin with (_ | _ | _ | _) | _ <;> first | exact z | exact z.elim
theorem sub_bind {g a : Value} (G : GaOf K C ga owner) (X : K.In s.heap) (I : InstAt s.heap x ox C od) (hf : findObj K C od name = some (.bind g a))
    (h : wpAny (model prog w) A.in1 (call g [a, .ref x, .ref C]) (fun v s' => wpAny (model prog w) A (handedOut v) Q E s') (fun _ _ => False) { s with toks := s.toks + 1 }) :
    wpAny (model prog w) A (getAttr (.ref x) name expr) Q E s := by
  refine sub_open G X I ?_
  have L0 := I.type (M := model prog w)
  have L1 := looks_find (M := model prog w) X I hf
  obtain ⟨hh', gg, d, t, os⟩ := s
  refine wpAny_bind (wpAny_pure (wpAny_bind (wpAny_pure (wpAny_bind (L0.at (wpAny_bind (L1.at ?_)))))))
  show wpAny _ _ (holding [a] (call g [a, .ref x, .ref C]) >>= ret) _ _ _
  exact wpAny_bind (wpAny_holding (wpAny_mono h (fun v s' z => wpAny_pure z) fun _ _ z => z))
theorem sub_value {v : Value} (G : GaOf K C ga owner) (X : K.In s.heap) (I : InstAt s.heap x ox C od) (hf : findObj K C od name = some (.value v)) (hh : handedIn v = true) (h : Q v { s with toks := s.toks + 1 }) :
    wpAny (model prog w) A (getAttr (.ref x) name expr) Q E s := by
  refine sub_open G X I ?_
  have L0 := I.type (M := model prog w)
  have L1 := looks_find (M := model prog w) X I hf
  obtain ⟨hh', gg, d, t, os⟩ := s
  refine wpAny_bind (wpAny_pure (wpAny_bind (wpAny_pure (wpAny_bind (L0.at (wpAny_bind (L1.at ?_)))))))
  refine wpAny_pure ?_
  show wpAny _ _ (handedOut v) _ _ _
  rw [handedOut_of hh]; exact wpAny_pure h
theorem sub_method_fn {f : Addr} {pl : Sem Bool} {Q : Value × List Value → Shared → Prop} (G : GaOf K C ga owner) (X : K.In s.heap) (I : InstAt s.heap x ox C od)
    (hf : findIn K (.ref C) name = some (some (.ref f))) (ht : typeIn K (.ref f) = some (.type "function")) (hs : shadowIn od name = some false) (h : Q (.ref f, [.ref x]) s) :
    wpAny (model prog w) A (getMethod (.ref x) name pl) Q E s := by
  unfold getMethod specialOf
  refine wpAny_bind (wpAny_bind (I.type.here ((looks_findIn X G.fnd).here ?_)))
  dsimp only
  rw [G.can, if_neg (by decide)]
  refine wpAny_bind (wpAny_bind (I.type.here ((looks_findIn X G.hook).here ?_)))
  refine wpAny_bind (wpAny_bind (I.type.here ((looks_findIn X hf).here (wpAny_bind ((looks_typeIn X ht).here ?_)))))
  rw [if_neg (by decide +kernel)]
  refine wpAny_bind (wpAny_loadPart I.at_ ?_)
  have hd := I.dict
  cases e : ox.dict with
  | none => exact wpAny_bind (wpAny_rule (wpAny_pure h))
  | some dx =>
    cases od with
    | none => rw [e] at hd; exact hd.elim
    | some o =>
      rw [e] at hd
      obtain ⟨r, a, b⟩ := Option.map_eq_some_iff.mp hs
      refine wpAny_bind (wpAny_bind (wpAny_loadPart hd ?_))
      rw [nsLook_of a]
      refine wpAny_pure ?_
      rw [b]
      exact wpAny_bind (wpAny_rule (wpAny_pure h))
theorem sub_method_usual {r : Option Value} {pl : Sem Bool} {Q : Value × List Value → Shared → Prop} (G : GaOf K C ga owner) (X : K.In s.heap) (I : InstAt s.heap x ox C od)
    (hf : findIn K (.ref C) name = some r) (ht : r.all (fun a => (typeIn K a).any fun t => t != .type "function" && t != .type "method_descriptor" && t != .type "wrapper_descriptor") = true)
    (h : wpAny (model prog w) A (getAttr (.ref x) name) (fun v => Q (v, [])) E s) : wpAny (model prog w) A (getMethod (.ref x) name pl) Q E s := by
  have u : wpAny (model prog w) A (do return (← getAttr (.ref x) name, ([] : List Value))) Q E s := wpAny_bind (wpAny_mono h (fun _ _ z => wpAny_pure z) fun _ _ z => z)
  unfold getMethod specialOf
  refine wpAny_bind (wpAny_bind (I.type.here ((looks_findIn X G.fnd).here ?_)))
  dsimp only
  rw [G.can, if_neg (by decide)]
  refine wpAny_bind (wpAny_bind (I.type.here ((looks_findIn X G.hook).here ?_)))
  refine wpAny_bind (wpAny_bind (I.type.here ((looks_findIn X hf).here ?_)))
  cases r with
  | none => exact u
  | some a =>
    obtain ⟨t, a1, a2⟩ := any_some ht
    refine wpAny_bind ((looks_typeIn X a1).here ?_)
    rw [if_pos a2]; exact u
end
theorem entry_tuple_ga : entryFor table "tuple.__getattribute__" = some Builtin.«object.__getattribute__» :=
  entryFor_alias (id' := "object.__getattribute__") (by kernel_rfl) (by first | rfl | decide +kernel) (by decide +kernel) (by kernel_rfl)
theorem entry_dd_ga : entryFor table "collections.defaultdict.__getattribute__" = some Builtin.«object.__getattribute__» :=
  entryFor_alias (id' := "object.__getattribute__") (by kernel_rfl) (by first | rfl | decide +kernel) (by decide +kernel) (by kernel_rfl)
theorem slot_tuple_ga : Slot "tuple" "__getattribute__" "tuple.__getattribute__" :=
  .of (owner := "tuple") (n := "__getattribute__") (by rw [typeLookup_type, builtinLookup_eq_fast]; kernel_rfl) (by decide +kernel) (by decide +kernel) (by decide +kernel)
    (by first | exact .inl (by decide +kernel) | exact .inr (by decide +kernel)) (by rw [isSubtype_type]; kernel_rfl)
theorem slot_dd_ga : Slot "collections.defaultdict" "__getattribute__" "collections.defaultdict.__getattribute__" :=
  .of (owner := "collections.defaultdict") (n := "__getattribute__") (by rw [typeLookup_type, builtinLookup_eq_fast]; kernel_rfl) (by decide +kernel) (by decide +kernel) (by decide +kernel)
    (by first | exact .inl (by decide +kernel) | exact .inr (by decide +kernel)) (by rw [isSubtype_type]; kernel_rfl)
theorem pair_ga (w : World) : GaOf (Mine.hd.heap_1_39 w.params) 210 "tuple.__getattribute__" "tuple" where
  fnd := by k_is
  ne := by decide +kernel
  can := by decide +kernel
  hook := by k_is
  bind := slot_tuple_ga.bind
  kind := by decide +kernel
  split := by decide +kernel
  plain := by decide +kernel
  entry := entry_tuple_ga
  args := fun a b => by unfold argsOk; kernel_rfl
  sub := by k_is
theorem book_ga (w : World) : GaOf (Mine.hd.heap_1_39 w.params) 115 "collections.defaultdict.__getattribute__" "collections.defaultdict" where
  fnd := by k_is
  ne := by decide +kernel
  can := by decide +kernel
  hook := by k_is
  bind := slot_dd_ga.bind
  kind := by decide +kernel
  split := by decide +kernel
  plain := by decide +kernel
  entry := entry_dd_ga
  args := fun a b => by unfold argsOk; kernel_rfl
  sub := by k_is
end Mine
end
end JSa
section JBd
theorem Mine.fresh_Bd : True := by w_top off; exact trivial
open PySem PySem.W PyProof.Rows PySem.Spec PySem.Calls
set_option maxRecDepth 100000
set_option maxHeartbeats 2000000
noncomputable section
namespace Mine
theorem filledBd : Filled PySem.Challenge.rw_il0125_01 Mine.hd.heap_1_39 := by k_fill; exact True.intro
section
variable {prog : Program} {w : World} {A : Around} {K : Frag} {s : Shared} {x C : Addr} {ox : Obj} {od : Option Obj} {name : Str} {id owner n : String} {b : Builtin}
theorem check_meth {M : Model} {E : Value → Shared → Prop} {self : Value} {rest : List Value} {kw : List (Str × Value)} {Q : Unit → Shared → Prop}
    (hk : builtinKind id = some .slot ∨ builtinKind id = some .method) (hs : splitId id = some (owner, n)) (hi : Looks M s.heap (isInstance self (.type owner)) true) (ha : argsOk id ⟨self :: rest, kw⟩) (q : Q () s) :
    wpAny M A (checkBuiltinCall id ⟨self :: rest, kw⟩) Q E s := by
  rcases hk with hk | hk
  · exact check_slot hk hs hi ha q
  simp only [checkBuiltinCall, hk, hs]
  refine wpAny_bind (hi.here ?_)
  simp only [Bool.not_true, Bool.false_eq_true, if_false]
  cases hsig : Manifest.signature? id with
  | none => exact wpAny_pure q
  | some sig =>
    simp only [argsOk, hsig] at ha
    have h2 : Bind.checkArgs id sig ⟨self :: rest, kw⟩ = pure () := ha
    show wpAny M A (Bind.checkArgs id sig ⟨self :: rest, kw⟩) Q E s
    rw [h2]; exact wpAny_pure q
/-- a built-in method that objects of an own class find -/
structure MethOf (K : Frag) (C : Addr) (name : Str) (id owner n : String) (b : Builtin) : Prop where
  fnd : findIn K (.ref C) name = some (some (.builtin id))
  bind : ∀ self, bindSpecial (.builtin id) self = pure (.builtin id, [self])
  kind : builtinKind id = some .slot ∨ builtinKind id = some .method
  split : splitId id = some (owner, n)
  plain : plainId id = true
  entry : entryFor table id = some b
  sub : subIn K (.ref C) (.type owner) = some true
abbrev EndsTo (prog : Program) (w : World) (A : Around) (Q : Value → Shared → Prop) (E : Value → Shared → Prop) (fin : Fin) (s' : Shared) : Prop :=
  match fin with
  | .done f => wants Q E (.ok f) s'
  | .again c' => c'.quiet = true ∧ codeAny (model prog w) A c' (wants Q E) s'
theorem sub_call {Q E : Value → Shared → Prop} {args : List Value} (G : MethOf K C name id owner n b) (X : K.In s.heap) (I : InstAt s.heap x ox C od) (ar : argsOk id ⟨.ref x :: args, []⟩)
    (h : wpAny (model prog w) A.in1 (b ⟨.ref x :: args, []⟩) (EndsTo prog w A Q E) E s) : wpAny (model prog w) A (call (.builtin id) (.ref x :: args)) Q E s := by
  have hi : Looks (model prog w) s.heap (isInstance (.ref x) (.type owner)) true := (I.type (M := model prog w)).andThen (looks_subIn X G.sub)
  refine wpAny_call ?_
  with_reducible refine codeAny_call_builtin_at (plainId_quiet G.plain _) G.entry ?_
  with_reducible refine check_meth G.kind G.split hi ar ?_
  rw [Around.under_plainId G.plain]
  exact h
theorem sub_special {Q : Option Value → Shared → Prop} {E : Value → Shared → Prop} {args : List Value} (G : MethOf K C name id owner n b) (X : K.In s.heap) (I : InstAt s.heap x ox C od) (ar : argsOk id ⟨.ref x :: args, []⟩)
    (h : wpAny (model prog w) A.in1 (b ⟨.ref x :: args, []⟩) (EndsTo prog w A (fun v s' => Q (some v) s') E) E s) : wpAny (model prog w) A (callSpecial? (.ref x) name args) Q E s := by
  have L1 := looks_findIn (M := model prog w) X G.fnd
  unfold callSpecial? specialOf
  refine wpAny_bind (wpAny_bind (I.type.here (L1.here ?_)))
  dsimp only
  refine wpAny_holding ?_
  rw [G.bind]
  refine wpAny_bind (wpAny_pure ?_)
  refine wpAny_bind (wpAny_mono (sub_call (args := args) (Q := fun v s' => Q (some v) s') G X I ar h) (fun v s' z => wpAny_pure z) fun _ _ z => z)
theorem seqKey {k : Value} {Q : Value → Shared → Prop} {E : Value → Shared → Prop} (X : K.In s.heap) (I : InstAt s.heap x ox C od) (hq : subIn K (.ref C) (.type "collections.deque") = some false) (h : Q k s) :
    wpAny (model prog w) A (sequenceKey (.ref x) k name) Q E s := by
  have L2 := looks_subIn (M := model prog w) X hq
  unfold sequenceKey
  refine wpAny_bind (I.type.here ?_)
  unfold seqItemTypes
  dsimp only
  rw [List.anyM_cons]
  refine wpAny_bind (wpAny_bind (L2.here ?_))
  rw [if_neg (by decide), List.anyM_nil]
  refine wpAny_pure ?_
  rw [if_pos (by decide)]
  exact wpAny_pure h
end
section
variable {w : World} {A : Around} {E : Value → Shared → Prop} {s : Shared} {B f d : Addr} {o : Obj} {kvs : List (Str × Value)} {k : Str} {key v : Value}
abbrev PW := PySem.Challenge.pw_il0125_01
/-- the object of a book: f its factory, d its names, kvs its entries -/
def BookAt (w : World) (o : Obj) (f d : Addr) (kvs : List (Str × Value)) : Prop :=
  ∃ es ep, o = bookO f d es ep ∧ KeysOf (PySem.strKind PW w) es ∧ Pairs (PySem.strKind PW w) es.toList kvs ∧ (kvs.map (·.1)).Nodup
theorem BookAt.dictGet {Q : Option Value → Shared → Prop} (hb : BookAt w o f d kvs) (ho : s.heap.get? B = some o) (hkey : (PySem.strKind PW w).is k key = true)
    (h : Q (valueAt kvs k) { s with toks := s.toks + 1 }) : wpAny (model PW w) A (dictGet B key) Q E s := by
  obtain ⟨es, ep, rfl, hk, hp, hn⟩ := hb
  unfold PySem.dictGet
  refine wpAny_holding ?_
  refine wpAny_bind ((PySem.strKind PW w).pyHash hkey (wpAny_bind (wpAny_dictFind_of (s := { s with toks := s.toks + 1 }) hkey ho rfl hk ?_)))
  cases hi : es.findIdx? fun e => (PySem.strKind PW w).is k e.key with
  | none =>
    have : valueAt kvs k = none := by
      have e1 := hp.findIdx k
      have e2 : (es.toList.findIdx? fun e => (PySem.strKind PW w).is k e.key) = none := by rw [← hi]; obtain ⟨l⟩ := es; simp
      rw [← hp.find k, Option.map_eq_none_iff, List.find?_eq_none]
      rw [List.findIdx?_eq_none_iff] at e2
      intro e he; simpa using e2 e he
    rw [this] at h
    exact wpAny_pure h
  | some i =>
    have e2 : (es.toList.findIdx? fun e => (PySem.strKind PW w).is k e.key) = some i := by rw [← hi]; obtain ⟨l⟩ := es; simp
    obtain ⟨e, he, _, hv⟩ := hp.at e2
    rw [hv] at h
    refine wpAny_bind (wpAny_dictEntries (s := { s with toks := s.toks + 1 }) ho rfl (wpAny_pure ?_))
    have : es[i]? = some e := by rw [← Array.getElem?_toList]; exact he
    rw [this]; exact h
theorem BookAt.dictSet {Q : Unit → Shared → Prop} (hb : BookAt w o f d kvs) (ho : s.heap.get? B = some o) (hkey : (PySem.strKind PW w).is k key = true) (hsz : kvs.length ≤ sizeLine)
    (hQ : ∀ h' o', h'.get? B = some o' → BookAt w o' f d (stored kvs k v) → Heap.SameBut B s.heap h' → Q () { s with heap := h', toks := s.toks + 1 }) : wpAny (model PW w) A (dictSet B key v) Q E s := by
  obtain ⟨es, ep, rfl, hk, hp, hn⟩ := hb
  have hes : es.size ≤ sizeLine := by
    have e1 := hp.length
    have e2 : es.toList.length = es.size := by simp
    omega
  unfold PySem.dictSet
  refine wpAny_holding ?_
  refine wpAny_bind ((PySem.strKind PW w).pyHash hkey ?_)
  unfold dictSetHashed
  refine wpAny_holding ?_
  refine wpAny_bind (wpAny_dictFind_of (s := { s with toks := s.toks + 1 }) hkey ho rfl hk ?_)
  have hidx : (es.findIdx? fun e => (PySem.strKind PW w).is k e.key) = kvs.findIdx? fun kv => decide (kv.1 = k) := by
    rw [← hp.findIdx k]; obtain ⟨l⟩ := es; simp
  cases hi : es.findIdx? fun e => (PySem.strKind PW w).is k e.key with
  | some i =>
    refine wpAny_bind (wpAny_rule (wpAny_bind (wpAny_updateDict (s := { s with toks := s.toks + 1 }) ho rfl (wpAny_point (hQ _ _ (Heap.get?_update_self _ ho rfl) ⟨_, ep, rfl, hk.modify _ _, ?_, ?_⟩ (Heap.SameBut.update ..))))))
    · rw [stored, if_pos (any_of_findIdx_some (hidx ▸ hi))]
      have hl : (es.toList.findIdx? fun e => (PySem.strKind PW w).is k e.key) = some i := by rw [← hi]; obtain ⟨l⟩ := es; simp
      have := hp.modify hn hl v
      obtain ⟨l⟩ := es
      simpa using this
    · rw [stored, if_pos (any_of_findIdx_some (hidx ▸ hi)), keys_map_store]; exact hn
  | none =>
    have hnot : k ∉ kvs.map (·.1) := not_mem_of_findIdx_none (hidx ▸ hi)
    have hany : ¬ (kvs.any fun kv => decide (kv.1 = k)) = true := by
      rw [List.any_eq_true]; rintro ⟨kv, hkv, he⟩
      exact hnot (List.mem_map.mpr ⟨kv, hkv, of_decide_eq_true he⟩)
    refine wpAny_bind (wpAny_rule (wpAny_updateDictKeys (hz := hes) (s := { s with toks := s.toks + 1 }) ho rfl (hQ _ _ (Heap.get?_update_self _ ho rfl) ⟨_, ep + 1, rfl, hk.push hkey _, ?_, ?_⟩ (Heap.SameBut.update ..))))
    · rw [stored, if_neg hany]
      have := hp.append hkey ((PySem.strKind PW w).hash k) v
      obtain ⟨l⟩ := es
      simpa using this
    · rw [stored, if_neg hany, List.map_append, List.nodup_append]
      refine ⟨hn, by simp, ?_⟩
      intro a ha b hb
      simp only [List.map_cons, List.map_nil, List.mem_singleton] at hb
      subst hb
      exact fun e => hnot (e ▸ ha)
end
end Mine
end
end JBd
section JBe
theorem Mine.fresh_Be : True := by w_top off; exact trivial
open PySem PySem.W PyProof.Rows PySem.Spec PySem.Calls
set_option maxRecDepth 100000
set_option maxHeartbeats 2000000
noncomputable section
namespace Mine
theorem filledBe : Filled PySem.Challenge.rw_il0125_01 Mine.hd.heap_1_39 := by k_fill; exact True.intro
theorem book_getitem_m (w : World) : MethOf (Mine.hd.heap_1_39 w.params) 115 (Str.ofString "__getitem__") "dict.__getitem__" "dict" "__getitem__" Builtin.«dict.__getitem__» where
  fnd := by k_is
  bind := slot_dict_getitem.bind
  kind := by first | exact .inl (by decide +kernel) | exact .inr (by decide +kernel)
  split := by decide +kernel
  plain := slot_dict_getitem.plain
  entry := entry_dict_getitem
  sub := by k_is
theorem book_setitem_m (w : World) : MethOf (Mine.hd.heap_1_39 w.params) 115 (Str.ofString "__setitem__") "dict.__setitem__" "dict" "__setitem__" Builtin.«dict.__setitem__» where
  fnd := by k_is
  bind := slot_dict_setitem.bind
  kind := by first | exact .inl (by decide +kernel) | exact .inr (by decide +kernel)
  split := by decide +kernel
  plain := slot_dict_setitem.plain
  entry := entry_dict_setitem
  sub := by k_is
section
variable {w : World} {A : Around} {s : Shared} {B f d : Addr} {o od : Obj} {kvs : List (Str × Value)} {k : Str} {key v : Value}
theorem book_inst (hb : BookAt w o f d kvs) (ho : s.heap.get? B = some o) (hd : s.heap.get? d = some od) : InstAt s.heap B o 115 (some od) := by
  obtain ⟨es, ep, rfl, _⟩ := hb
  exact ⟨ho, rfl, rfl, hd⟩
theorem book_notOrd {name : String} {args : Args} {Q : Unit → Shared → Prop} {E : Value → Shared → Prop} (X : (Mine.hd.heap_1_39 w.params).In s.heap) (I : InstAt s.heap B o 115 (some od)) (ha : args.pos.headD .none = .ref B) (h : Q () s) :
    wpAny (model PW w) A (Builtin.Dict.notOrdered name args) Q E s := by
  have hi : Looks (model PW w) s.heap (isInstance (.ref B) (.type "collections.OrderedDict")) false := (I.type (M := model PW w)).andThen (looks_subIn X (by k_is))
  unfold Builtin.Dict.notOrdered
  split
  · rw [ha]
    refine wpAny_bind (I.type.here ?_)
    rw [if_pos (by decide)]
    refine wpAny_bind (hi.here ?_)
    rw [if_neg (by decide)]
    exact wpAny_pure h
  · exact wpAny_pure h
/-- book[key], the key there -/
theorem book_get {Q E : Value → Shared → Prop} (X : (Mine.hd.heap_1_39 w.params).In s.heap) (hb : BookAt w o f d kvs) (ho : s.heap.get? B = some o) (hd : s.heap.get? d = some od) (hkey : (PySem.strKind PW w).is k key = true) (hv : valueAt kvs k = some v)
    (h : Q v { s with toks := s.toks + 1 }) : wpAny (model PW w) A (getItem (.ref B) key) Q E s := by
  have I := book_inst (s := s) hb ho hd
  unfold getItem
  refine wpAny_holding ?_
  refine wpAny_bind (seqKey X I (by k_is) ?_)
  refine wpAny_bind (sub_special (book_getitem_m w) X I (args_dict_getitem _ _) ?_)
  show wpAny _ _ (dictGet B key >>= _) _ _ s
  refine wpAny_bind (hb.dictGet ho hkey ?_)
  rw [hv]
  exact wpAny_pure (wpAny_pure h)
/-- book[key], the key lacking: the book's __missing__ is asked -/
theorem book_miss {Q E : Value → Shared → Prop} (X : (Mine.hd.heap_1_39 w.params).In s.heap) (hb : BookAt w o f d kvs) (ho : s.heap.get? B = some o) (hd : s.heap.get? d = some od) (hB : (B == sysModules) = false) (hkey : (PySem.strKind PW w).is k key = true) (hv : valueAt kvs k = none)
    (h : wpAny (model PW w) A.in1 (call (.ref 105) [.ref B, key]) Q E { s with toks := s.toks + 1 }) : wpAny (model PW w) A (getItem (.ref B) key) Q E s := by
  have I := book_inst (s := s) hb ho hd
  have I2 := book_inst (s := { s with toks := s.toks + 1 }) hb ho hd
  have X2 : (Mine.hd.heap_1_39 w.params).In ({ s with toks := s.toks + 1 } : Shared).heap := X
  have L1 : Looks (model PW w) ({ s with toks := s.toks + 1 } : Shared).heap (typeLookup (.ref 115) "__missing__") (some (.ref 105)) := looks_findIn X2 (by k_is)
  have L2 : Looks (model PW w) ({ s with toks := s.toks + 1 } : Shared).heap (typeOf (.ref 105)) (.type "function") := looks_typeIn X2 (by k_is)
  unfold getItem
  refine wpAny_holding ?_
  refine wpAny_bind (seqKey X I (by k_is) ?_)
  refine wpAny_bind (sub_special (book_getitem_m w) X I (args_dict_getitem _ _) ?_)
  show wpAny _ _ (dictGet B key >>= _) _ _ s
  refine wpAny_bind (hb.dictGet ho hkey ?_)
  rw [hv]
  dsimp only
  refine wpAny_bind (wpAny_missed_other hB ?_)
  dsimp only
  refine wpAny_bind (I2.type.here ?_)
  rw [if_pos (by decide)]
  unfold callSpecial? specialOf
  refine wpAny_bind (wpAny_bind (wpAny_bind (I2.type.here (L1.here ?_))))
  dsimp only
  refine wpAny_holding ?_
  unfold bindSpecial
  refine wpAny_bind (wpAny_bind (L2.here ?_))
  rw [if_pos (by decide)]
  refine wpAny_pure ?_
  refine wpAny_bind (wpAny_mono h (fun r s' hq => wpAny_pure ?_) fun _ _ z => z)
  dsimp only
  exact wpAny_bind (wpAny_rule (wpAny_pure (wpAny_pure hq)))
/-- book[key] = v -/
theorem book_set {Q : Unit → Shared → Prop} {E : Value → Shared → Prop} (X : (Mine.hd.heap_1_39 w.params).In s.heap) (hb : BookAt w o f d kvs) (ho : s.heap.get? B = some o) (hd : s.heap.get? d = some od) (hkey : (PySem.strKind PW w).is k key = true) (hsz : kvs.length ≤ sizeLine)
    (hQ : ∀ h' o', h'.get? B = some o' → BookAt w o' f d (stored kvs k v) → Heap.SameBut B s.heap h' → Q () { s with heap := h', toks := s.toks + 1 }) : wpAny (model PW w) A (setItem (.ref B) key v) Q E s := by
  have I := book_inst (s := s) hb ho hd
  unfold setItem
  refine wpAny_holding ?_
  refine wpAny_bind (seqKey X I (by k_is) ?_)
  refine wpAny_bind (sub_special (book_setitem_m w) X I (args_dict_setitem _ _ _) ?_)
  show wpAny _ _ (Builtin.Dict.notOrdered "__setitem__" ⟨[.ref B, key, v], []⟩ >>= _) _ _ s
  refine wpAny_bind (book_notOrd X I rfl ?_)
  show wpAny _ _ (dictSet B key v >>= _) _ _ s
  exact wpAny_bind (hb.dictSet ho hkey hsz fun h' o' e hb' hs' => wpAny_pure (wpAny_pure (hQ h' o' e hb' hs')))
theorem sub_B {A : Around} {value slice : PySem.Expr} {i : Value} {Q E : Value → Shared → Prop} (X : (Mine.hd.heap_1_39 w.params).In s.heap) (I : InstAt s.heap B o 115 (some od))
    (hg : wpAny (model PW w) A (getItem (.ref B) i) Q E s) (hsl : subscripted slice false (.ref B) i = operate [.ref B, i] (getItem (.ref B) i) := by with_unfolding_all rfl) :
    wpAny (model PW w) A (subscriptTail value slice (.ref B) i) Q E s := by
  have L1 := looks_findIn (M := model PW w) X (book_getitem_m w).fnd
  unfold subscriptTail getitemInPython
  refine wpAny_bind (wpAny_bind (wpAny_bind (I.type.here (L1.here ?_))))
  refine wpAny_pure ?_
  try dsimp only
  rw [hsl]
  refine wpAny_bind (wpAny_operating (wpAny_mono hg (fun r s₃ h₃ => ?_) fun _ _ x => x))
  exact wpAny_bind (wpAny_letTemporaryGo (wpAny_pure h₃))
end
end Mine
end
end JBe
section JKb
theorem Mine.fresh_Kb : True := by w_top off; exact trivial
open PySem PySem.W PyProof.Rows PySem.Spec PySem.Calls
set_option maxRecDepth 100000
set_option maxHeartbeats 1000000
noncomputable section
namespace Mine
theorem filledKb : Filled PySem.Challenge.rw_il0125_01 Mine.hd.heap_1_39 := by k_fill; exact True.intro
section
variable {prog : Program} {w : World} {A : Around} {E : Value → Shared → Prop} {s : Shared} {it d : Addr} {i ep : Nat} {od : Obj} {es : Array DictEntry}
/-- a keys' iterator over any object that holds a dict's entries: the next key -/
theorem ak_item {Q : Option Value → Shared → Prop} (hit : s.heap.IsKeyIter it d i es.size ep) (hod : s.heap.get? d = some od) (hdd : od.data = .dict es ep) (hlt : i < es.size)
    (hQ : ∀ h', h'.IsKeyIter it d (i + 1) es.size ep → Heap.SameBut it s.heap h' → Q (some es[i].key) { s with heap := h' }) : wpAny (model prog w) A (pyNext (.ref it)) Q E s := by
  obtain ⟨o, ho, hc, hd⟩ := id hit
  have hT := hit.typeIs
  unfold pyNext
  refine wpAny_bind (wpAny_attempt (wpAny_callSpecial?_slot (name := Str.ofString "__next__") hT PySem.F.slot_dict_keyiterator_next
    (wpAny_call_entry PySem.F.slot_dict_keyiterator_next hT PySem.F.entry_dict_keyiterator_next ?_ (PySem.F.args_dict_keyiterator_next_1 _))))
  have hit' : (s.heap.update it (Obj.mapFields (·.setIfInBounds 1 (rawInt ((i : Int) + 1))))).IsKeyIter it d (i + 1) es.size ep :=
    ⟨_, Heap.get?_update_self _ ho (Obj.isFreed_of_fields (Obj.data_mapFields hd _)), (Obj.cls_mapFields ..).trans hc, by rw [Obj.data_mapFields hd]; simp [rawInt]⟩
  refine wpAny_bind (wpAny_pure (wpAny_bind (wpAny_bind (wpAny_bind (wpAny_typeNameOfWhole_keyiter hT (wpAny_pure ?_))))))
  refine wpAny_bind (wpAny_fieldsOf ho hd ?_)
  simp only [show Builtin.Dict_items.ownsTuple "dict_keyiterator" = false from by decide, Bool.false_eq_true, if_false]
  show wpAny _ _ (if (Value.ref d == Value.none) = true then _ else _) _ _ s
  rw [if_neg (show ¬ ((Value.ref d == Value.none) = true) from Bool.false_ne_true)]
  refine wpAny_bind (wpAny_pure (wpAny_bind (wpAny_dictEntries hod hdd ?_)))
  rw [if_neg (by simp)]
  refine wpAny_bind (wpAny_pure (wpAny_bind (wpAny_dictEpoch hod hdd ?_)))
  rw [if_neg (by simp)]
  refine wpAny_pure ?_
  simp only [show ¬ ((i : Int) < 0) from by omega, if_false, Int.toNat_natCast, Array.getElem?_eq_getElem hlt]
  refine wpAny_bind (wpAny_bind (wpAny_typeNameOfWhole_keyiter hT (wpAny_pure (wpAny_bind (wpAny_isOneOf_keyiter hT ?_)))))
  show wpAny _ _ (setField (.ref it) 1 (rawInt ((i : Int) + 1)) >>= _) _ _ s
  refine wpAny_bind (wpAny_setField ho hd (by simp) (wpAny_bind (wpAny_holding (wpAny_bind (wpAny_isOneOf_keyiter (s := { s with heap := s.heap.update it (Obj.mapFields (·.setIfInBounds 1 (rawInt ((i : Int) + 1)))) }) hit'.typeIs ?_)))))
  show wpAny _ _ (pure es[i].key) _ _ _
  exact wpAny_pure (wpAny_pure ⟨_, rfl, wpAny_pure (hQ _ hit' (Heap.SameBut.update ..))⟩)
/-- its end -/
theorem ak_end {Q : Option Value → Shared → Prop} (hh : A.handled = none) (hit : s.heap.IsKeyIter it d i es.size ep) (hod : s.heap.get? d = some od) (hdd : od.data = .dict es ep) (hge : es.size ≤ i)
    (hQ : ∀ h', Heap.ExtBut it s.heap h' → Q none { s with heap := h' }) : wpAny (model prog w) A (pyNext (.ref it)) Q E s := by
  obtain ⟨o, ho, hc, hd⟩ := id hit
  have hT := hit.typeIs
  unfold pyNext
  refine wpAny_bind (wpAny_attempt (wpAny_callSpecial?_slot (name := Str.ofString "__next__") hT PySem.F.slot_dict_keyiterator_next
    (wpAny_call_entry PySem.F.slot_dict_keyiterator_next hT PySem.F.entry_dict_keyiterator_next ?_ (PySem.F.args_dict_keyiterator_next_1 _))))
  refine wpAny_bind (wpAny_pure (wpAny_bind (wpAny_bind (wpAny_bind (wpAny_typeNameOfWhole_keyiter hT (wpAny_pure ?_))))))
  refine wpAny_bind (wpAny_fieldsOf ho hd ?_)
  simp only [show Builtin.Dict_items.ownsTuple "dict_keyiterator" = false from by decide, Bool.false_eq_true, if_false]
  show wpAny _ _ (if (Value.ref d == Value.none) = true then _ else _) _ _ s
  rw [if_neg (show ¬ ((Value.ref d == Value.none) = true) from Bool.false_ne_true)]
  refine wpAny_bind (wpAny_pure (wpAny_bind (wpAny_dictEntries hod hdd ?_)))
  rw [if_neg (by simp)]
  refine wpAny_bind (wpAny_pure (wpAny_bind (wpAny_dictEpoch hod hdd ?_)))
  rw [if_neg (by simp)]
  refine wpAny_pure ?_
  simp only [show ¬ ((i : Int) < 0) from by omega, if_false, Int.toNat_natCast, Array.getElem?_eq_none hge]
  refine wpAny_bind (wpAny_bind (wpAny_typeNameOfWhole_keyiter hT (wpAny_pure ?_)))
  show wpAny _ _ (setField (.ref it) 0 .none >>= _) _ _ s
  refine wpAny_bind (wpAny_setField ho hd (by simp) ?_)
  show wpAny _ _ (newExc (.type "StopIteration") [] >>= _) _ _ _
  refine wpAny_bind ?_
  simp only [newExc, newTuple]
  refine wpAny_bind (wpAny_newObj_type ?_ (by size_fits))
  refine wpAny_bind (m := firstArgMember _ _) (wpAny_of_eq (a := Value.none) (by first | rfl | (simp only [firstArgMember]; rfl)) ?_)
  refine wpAny_newObj_type ?_ (by size_fits)
  simp only [raiseNew]
  refine wpAny_bind (wpAny_handled ?_)
  rw [show A.in1.handled = none from hh]
  refine wpAny_bind (wpAny_pure (wpAny_throw ?_))
  refine wpAny_bind (wpAny_isInstance (T := "StopIteration") (b := true) ⟨_, Heap.get?_push_size _ rfl, rfl⟩ isSubtype_stop ?_)
  exact wpAny_pure (hQ _ (((Heap.SameBut.update ..).extBut.push _).push _))
end
theorem anyKeys {prog : Program} {w : World} {A : Around} (hh : A.handled = none) (I d : Addr) (hne : d ≠ I) (od : Obj) (es : Array DictEntry) (ep : Nat) (hdd : od.data = .dict es ep) :
    Walks prog w A I [I, d] [I] es.size (fun i v => ∃ e, es[i]? = some e ∧ v = e.key) (fun i h => h.IsKeyIter I d i es.size ep ∧ h.get? d = some od) where
  sub := fun b hb => by simp at hb; simp [hb]
  frame := fun _ _ _ st hk => ⟨st.1.at fun o e => hk I (by simp) o e, hk d (by simp) od st.2⟩
  item := fun i s Q E hi st hQ => by
    refine ak_item st.1 st.2 hdd hi fun h' hit' hs' => ?_
    exact hQ _ h' s.toks ⟨es[i], by simp [hi], rfl⟩ ⟨hit', hs'.extBut d od hne st.2⟩ fun b o hb e => hs'.extBut b o (fun h => hb (by simp [h])) e
  done := fun s Q E st hQ => ak_end hh st.1 st.2 hdd (Nat.le_refl _) fun h' he' => hQ h' s.toks fun b o hb e => he' b o (fun h => hb (by simp [h])) e
  self := fun _ _ _ _ st hQ => wpAny_pyIter_keyiter st.1 hQ
theorem book_iter_m (w : World) : MethOf (Mine.hd.heap_1_39 w.params) 115 (Str.ofString "__iter__") "dict.__iter__" "dict" "__iter__" Builtin.«dict.__iter__» where
  fnd := by k_is
  bind := PySem.F.slot_dict_iter.bind
  kind := by first | exact .inl (by decide +kernel) | exact .inr (by decide +kernel)
  split := by decide +kernel
  plain := PySem.F.slot_dict_iter.plain
  entry := PySem.F.entry_dict_iter
  sub := by k_is
abbrev keyIt (d : Addr) (n ep : Nat) : Obj := { cls := .type "dict_keyiterator", data := .fields #[.ref d, .int 0 0, .int n 0, .int ep 0] }
theorem own_iter {prog : Program} {w : World} {A : Around} {K : Frag} {s : Shared} {x C : Addr} {ox : Obj} {od : Option Obj} {id owner n : String} {b : Builtin} {Q : Value → Shared → Prop} {E : Value → Shared → Prop} (G : MethOf K C (Str.ofString "__iter__") id owner n b) (X : K.In s.heap) (I : InstAt s.heap x ox C od)
    (h : wpAny (model prog w) A (call (.builtin id) [.ref x]) (fun it s' => ∃ T' r, s'.TypeIs it T' ∧ typeLookup (.type T') "__next__" = pure (some r) ∧ Q it s') E s) : wpAny (model prog w) A (pyIter (.ref x)) Q E s := by
  have L1 := looks_findIn (M := model prog w) X G.fnd
  unfold pyIter specialOf
  refine wpAny_bind (wpAny_bind (I.type.here (L1.here ?_)))
  dsimp only
  refine wpAny_bind ?_
  simp only [callSpecialIfBoundUnlessNone?, bindSpecialIfBound?]
  unfold specialOf
  refine wpAny_holding (wpAny_bind (wpAny_bind (wpAny_bind (I.type.here (L1.here ?_)))))
  simp only [G.bind]
  refine wpAny_bind (wpAny_askSetting (wpAny_ite ?_))
  have bn : (Value.builtin id == Value.none) = false := PySem.builtin_beq_none ..
  have tail : ∀ {it : Value} {s' : Shared}, (∃ T' r, s'.TypeIs it T' ∧ typeLookup (.type T') "__next__" = pure (some r) ∧ Q it s') → wpAny (model prog w) A (specialOf it "__next__" >>= fun r => match r with
      | none => do rule "iter.non-iterator"; raiseError "TypeError" s!"iter() returned non-iterator of type '{← typeNameOf it}'"
      | some _ => pure it) Q E s' := fun ⟨T', r, hT', hl, hQ⟩ => wpAny_bind (wpAny_specialOf hT' hl (wpAny_pure hQ))
  split
  · refine wpAny_bind (wpAny_pure (wpAny_pure ?_))
    simp only [bn, Bool.false_eq_true, if_false]
    refine wpAny_bind (wpAny_mono h (fun v s' h' => wpAny_pure ?_) fun _ _ z => z)
    exact tail h'
  · refine wpAny_tryCatch (wpAny_bind (wpAny_pure (wpAny_pure ?_)))
    simp only [bn, Bool.false_eq_true, if_false]
    refine wpAny_bind (wpAny_mono h (fun v s' h' => wpAny_pure ?_) fun _ _ z => z)
    exact tail h'
theorem book_iter {w : World} {A : Around} {s : Shared} {B f d : Addr} {es : Array DictEntry} {ep : Nat} {od : Obj} {Q : Value → Shared → Prop} {E : Value → Shared → Prop} (X : (Mine.hd.heap_1_39 w.params).In s.heap) (ho : s.heap.get? B = some (bookO f d es ep)) (hd : s.heap.get? d = some od) (hB : (B == sysModules) = false)
    (h : Q (.ref s.heap.objs.size) { s with heap := s.heap.push (keyIt B es.size ep) }) : wpAny (model PW w) A (pyIter (.ref B)) Q E s := by
  have I : InstAt s.heap B (bookO f d es ep) 115 (some od) := ⟨ho, rfl, rfl, hd⟩
  refine own_iter (book_iter_m w) X I ?_
  refine sub_call (book_iter_m w) X I (PySem.F.args_dict_iter_1 _) ?_
  unfold Builtin.«dict.__iter__» Builtin.Dict.dictSlotNone
  refine wpAny_bind (wpAny_bind (book_notOrd X I rfl ?_))
  show wpAny _ _ (pure (Value.ref B)) _ _ s
  refine wpAny_pure ?_
  show wpAny _ _ (Builtin.Dict.showsAll B >>= _) _ _ s
  unfold Builtin.Dict.showsAll
  rw [if_neg (by rw [hB]; exact Bool.false_ne_true)]
  refine wpAny_bind (wpAny_pure ?_)
  refine wpAny_bind (wpAny_dictEntries ho rfl ?_)
  refine wpAny_bind (wpAny_dictEpoch ho rfl ?_)
  exact wpAny_bind (wpAny_newObj_type (wpAny_pure ⟨"dict_keyiterator", _, ⟨_, Heap.get?_push_size _ rfl, rfl⟩, PySem.F.slot_dict_keyiterator_next.lookup, h⟩))
end Mine
end
end JKb
section JCp
theorem Mine.fresh_Cp : True := by w_top off; exact trivial
open PySem PySem.W PyProof.Rows PySem.Spec PySem.Calls PyProof.Rows.LCg
set_option maxRecDepth 100000
set_option maxHeartbeats 4000000
noncomputable section
namespace Mine
section
variable {prog : Program} {w : World} {A : Around} {E : Value → Shared → Prop} {R : Result → Shared → Prop} {s : Shared}

abbrev LC2 (elt iter iter2 : Expr) (x y : Str) (px py : Pos) (scope : Scope) (pos : Pos) : Expr := .ListComp elt [⟨.Name x px, iter, [], 0⟩, ⟨.Name y py, iter2, [], 0⟩] scope pos

theorem turn2_1 (elt iter iter2 : Expr) (x y : Str) (px py : Pos) (scope : Scope) (pos : Pos) (it acc : Value) (env : Env) :
    compTurn (LC2 elt iter iter2 x y px py scope pos) 1 it acc env = (do
      standAt iter2.pos
      match ← pyNext it with
      | none => pure (.done .next)
      | some v =>
        letOwnedTupleGo (.Name y py) it v
        assign (.Name y py) env v
        let mut ok := true
        for c in ([] : List Expr) do
          if ok then ok ← isTrue c env (eval c env)
        if ok then
          (do let _ ← call (.builtin "list.append") [acc, ← eval elt env])
        again (.compLoop (LC2 elt iter iter2 x y px py scope pos) 1 it acc env)) := by rfl

theorem turn2_0 (elt iter iter2 : Expr) (x y : Str) (px py : Pos) (scope : Scope) (pos : Pos) (it acc : Value) (env : Env) :
    compTurn (LC2 elt iter iter2 x y px py scope pos) 0 it acc env = (do
      standAt iter.pos
      match ← pyNext it with
      | none => pure (.done .next)
      | some v =>
        letOwnedTupleGo (.Name x px) it v
        assign (.Name x px) env v
        let mut ok := true
        for c in ([] : List Expr) do
          if ok then ok ← isTrue c env (eval c env)
        if ok then
          let z ← eval iter2 env
          standAt iter2.pos
          let z ← foldedSetIterable iter2 env z
          let _ ← runOwn (.compStart (LC2 elt iter iter2 x y px py scope pos) 1 (← holding [z] (pyIter z)) acc env) env
        again (.compLoop (LC2 elt iter iter2 x y px py scope pos) 0 it acc env)) := by rfl

theorem loop2_1 {elt iter iter2 : Expr} {x y : Str} {px py : Pos} {scope : Scope} {pos : Pos} {it acc : Value} {env : Env} (I : Nat → Shared → Prop)
    (turn : ∀ n s, I n s → wpAny (model prog w) A (pyNext it) (fun r s₁ => match r with
      | none => R (.ok .next) s₁
      | some v => wpAny (model prog w) A (assign (.Name y py) env v) (fun _ s₂ =>
            wpAny (model prog w) A (eval elt env) (fun z s₄ =>
              wpAny (model prog w) A (call (.builtin "list.append") [acc, z]) (fun _ s₅ => ∃ m, m < n ∧ I m s₅) (notedBy (model prog w) A env fun e s' => R (.error e) s') s₄) (notedBy (model prog w) A env fun e s' => R (.error e) s') s₂)
            (notedBy (model prog w) A env fun e s' => R (.error e) s') s₁) (notedBy (model prog w) A env fun e s' => R (.error e) s') s)
    (n : Nat) (h : I n s) : codeAny (model prog w) A (.compLoop (LC2 elt iter iter2 x y px py scope pos) 1 it acc env) R s := by
  refine codeAny_loop rfl I (fun n s hI => ?_) n h
  show wpAny _ A ((compTurn (LC2 elt iter iter2 x y px py scope pos) 1 it acc env).onRaise (fun x => do noteFrame x env; theTreesLotGoes x)) _ _ s
  refine wpAny_noted ?_
  rw [turn2_1]
  refine wpAny_bind (wpAny_standAt (wpAny_bind (wpAny_mono (turn n s hI) (fun r s₁ h₁ => ?_) fun _ _ h' => h')))
  cases r with
  | none => exact wpAny_pure h₁
  | some v =>
    refine wpAny_bind (wpAny_of_eq (show letOwnedTupleGo (.Name y py) it v = pure () from rfl) ?_)
    refine wpAny_bind (wpAny_mono h₁ (fun _ s₂ h₂ => wpAny_bind (wpAny_mono (wpAny_tests_nil (Q := fun ok s₃ => ok = true ∧ s₃ = s₂) ⟨rfl, rfl⟩) (fun ok s₃ h₃ => ?_) fun _ _ h' => h')) fun _ _ h' => h')
    obtain ⟨rfl, rfl⟩ := h₃
    exact wpAny_bind (wpAny_bind (wpAny_mono h₂ (fun z s₄ h₄ => wpAny_bind (wpAny_mono h₄ (fun _ s₅ h₅ => wpAny_pure (wpAny_pure ⟨rfl, h₅⟩)) fun _ _ h' => h')) fun _ _ h' => h'))

theorem loop2_0 {elt iter iter2 : Expr} {x y : Str} {px py : Pos} {scope : Scope} {pos : Pos} {it acc : Value} {env : Env} (I : Nat → Shared → Prop)
    (turn : ∀ n s, I n s → wpAny (model prog w) A (pyNext it) (fun r s₁ => match r with
      | none => R (.ok .next) s₁
      | some v => wpAny (model prog w) A (assign (.Name x px) env v) (fun _ s₂ =>
            wpAny (model prog w) A (eval iter2 env) (fun z s₄ =>
              wpAny (model prog w) A (pyIter z) (fun it2 s₅ =>
                codeAny (model prog w) A (.compStart (LC2 elt iter iter2 x y px py scope pos) 1 it2 acc env) (fun r s₆ => match r with
                  | .ok _ => ∃ m, m < n ∧ I m s₆
                  | .error e => cameBackBy (model prog w) A env (notedBy (model prog w) A env fun e s' => R (.error e) s') e s₆) s₅) (notedBy (model prog w) A env fun e s' => R (.error e) s') s₄) (notedBy (model prog w) A env fun e s' => R (.error e) s') s₂)
            (notedBy (model prog w) A env fun e s' => R (.error e) s') s₁) (notedBy (model prog w) A env fun e s' => R (.error e) s') s)
    (n : Nat) (h : I n s) (hs : ∀ z, foldedSetIterable iter2 env z = pure z) : codeAny (model prog w) A (.compLoop (LC2 elt iter iter2 x y px py scope pos) 0 it acc env) R s := by
  refine codeAny_loop rfl I (fun n s hI => ?_) n h
  show wpAny _ A ((compTurn (LC2 elt iter iter2 x y px py scope pos) 0 it acc env).onRaise (fun x => do noteFrame x env; theTreesLotGoes x)) _ _ s
  refine wpAny_noted ?_
  rw [turn2_0]
  refine wpAny_bind (wpAny_standAt (wpAny_bind (wpAny_mono (turn n s hI) (fun r s₁ h₁ => ?_) fun _ _ h' => h')))
  cases r with
  | none => exact wpAny_pure h₁
  | some v =>
    refine wpAny_bind (wpAny_of_eq (show letOwnedTupleGo (.Name x px) it v = pure () from rfl) ?_)
    refine wpAny_bind (wpAny_mono h₁ (fun _ s₂ h₂ => wpAny_bind (wpAny_mono (wpAny_tests_nil (Q := fun ok s₃ => ok = true ∧ s₃ = s₂) ⟨rfl, rfl⟩) (fun ok s₃ h₃ => ?_) fun _ _ h' => h')) fun _ _ h' => h')
    obtain ⟨rfl, rfl⟩ := h₃
    refine wpAny_bind (wpAny_mono h₂ (fun z s₄ h₄ => ?_) fun _ _ h' => h')
    refine wpAny_bind (wpAny_standAt (wpAny_bind (wpAny_of_eq (hs z) (wpAny_bind (wpAny_holding (wpAny_mono h₄ (fun it2 s₅ h₅ => ?_) fun _ _ h' => h'))))))
    exact wpAny_bind (wpAny_runOwn (codeAny_mono h₅ fun r s₆ h₆ => by
      cases r with
      | ok f => exact wpAny_pure ⟨rfl, h₆⟩
      | error e => exact h₆))

theorem start2_1 {elt iter iter2 : Expr} {x y : Str} {px py : Pos} {scope : Scope} {pos : Pos} {it acc : Value} {env : Env}
    (h0 : codeAny (model prog w) A (.compLoop (LC2 elt iter iter2 x y px py scope pos) 1 it acc env) R s)
    (h : wpAny (model prog w) A (pyIter it) (fun it' s' => codeAny (model prog w) A (.compLoop (LC2 elt iter iter2 x y px py scope pos) 1 it' acc env) R s')
      (notedBy (model prog w) A env fun x s' => R (.error x) s') s) :
    codeAny (model prog w) A (.compStart (LC2 elt iter iter2 x y px py scope pos) 1 it acc env) R s := by
  refine codeAny_of_tree ?_
  show wpAny _ _ ((compStart (LC2 elt iter iter2 x y px py scope pos) 1 it acc env).onRaise (fun x => do noteFrame x env; standAt theWindowsPlace)) _ _ s
  refine wpAny_notedAt ?_
  unfold compStart
  show wpAny _ _ (ask >>= _) _ _ s
  refine wpAny_bind (wpAny_askSetting (wpAny_ite ?_))
  split
  · first
      | exact wpAny_bind (wpAny_pure (wpAny_pure (And.intro rfl h0)))
      | exact wpAny_pure (And.intro rfl h0)
  · first
      | exact wpAny_bind (wpAny_rule (wpAny_bind (wpAny_standAt (wpAny_bind (wpAny_mono h (fun it' s' h' => wpAny_pure (And.intro rfl h')) fun _ _ x => x)))))
      | (refine wpAny_bind (wpAny_rule ?_); show wpAny _ _ (standAt iter2.pos >>= _) _ _ s; exact wpAny_bind (wpAny_standAt (wpAny_bind (wpAny_mono h (fun it' s' h' => wpAny_pure (And.intro rfl h')) fun _ _ x => x))))

/-- what the two clauses' block wants of the outer walk -/
structure Src2 (prog : Program) (w : World) (A : Around) (h₀ : Heap) (L : Addr) (m : Str → Option Value) (news : List (Addr × Obj)) (elt iter2 : Expr) (x y : Str) (scope : Scope) (cl : List (Str × Addr)) (env : Env) (vals : List (List Int)) (s : Shared) (it : Value) (s₂ : Shared)
    (I : Addr) (fp : List Addr) (P : Nat → Value → Prop) (St : Nat → Heap → Prop) : Prop where
  isIt : it = .ref I
  walks : Walks prog w A I fp [I] vals.length P St
  st : St 0 s₂.heap
  low : ∀ b ∈ fp, b < s₂.heap.objs.size
  fr : Fr h₀ L s₂.heap m
  nw : News h₀ L s₂.heap news
  newI : h₀.get? I = none
  offL : L ≠ I
  offN : ∀ p ∈ news, p.1 ≠ I
  same : ∃ h tk, s₂ = { s with heap := h, toks := tk }
  inner : ∀ (i : Nat) (row : List Int) (v : Value) (C D : Addr) (ys : List Value) (mC : Str → Option Value) (s₃ : Shared) (E' : Value → Shared → Prop), vals[i]? = some row → P i v → (∃ h tk, s₃ = { s with heap := h, toks := tk }) → Fr h₀ L s₃.heap m →
    News h₀ L s₃.heap ((D, lst ys) :: news) → (∀ p ∈ news, p.1 ≠ D) → s₃.heap.Ns C mC → mC x = some v → St (i + 1) s₃.heap →
    wpAny (model prog w) A (eval iter2 (compEnvC scope cl C env)) (fun z s₄ => wpAny (model prog w) A (pyIter z) (fun it2 s₅ =>
      ∃ (I2 : Addr) (fp2 : List Addr) (P2 : Nat → Value → Prop) (St2 : Nat → Heap → Prop), it2 = .ref I2 ∧ Walks prog w A I2 fp2 [I2] row.length P2 St2 ∧ St2 0 s₅.heap ∧ (∃ h tk, s₅ = { s₃ with heap := h, toks := tk }) ∧
        (∀ b o, s₃.heap.get? b = some o → s₅.heap.get? b = some o) ∧ C ∉ fp2 ∧ D ∉ fp2 ∧ s₃.heap.get? I2 = none ∧
        ∀ (j : Nat) (k : Int) (v2 : Value) (mC' : Str → Option Value) (s₆ : Shared) (E'' : Value → Shared → Prop), row[j]? = some k → P2 j v2 → (∃ h tk, s₆ = { s with heap := h, toks := tk }) → Fr h₀ L s₆.heap m → News h₀ L s₆.heap news → s₆.heap.Ns C mC' → mC' x = some v → mC' y = some v2 →
          wpAny (model prog w) A (eval elt (compEnvC scope cl C env)) (fun r s₇ => (∃ t, r = .int k t) ∧ (∃ h tk, s₇ = { s₆ with heap := h, toks := tk }) ∧ ∀ b o, s₆.heap.get? b = some o → s₇.heap.get? b = some o) E'' s₆) E' s₄) E' s₃

theorem News.keeps' {h₀ h h' : Heap} {L : Addr} {news : List (Addr × Obj)} (N : News h₀ L h news) (k : ∀ p ∈ news, ∀ o, h.get? p.1 = some o → h'.get? p.1 = some o) : News h₀ L h' news := fun p hp => ⟨k p hp _ (N p hp).1, (N p hp).2⟩
theorem Fr.keeps' {h₀ h h' : Heap} {L : Addr} {m : Str → Option Value} (F : Fr h₀ L h m) (kL : ∀ o, h.get? L = some o → h'.get? L = some o) (k : ∀ b o, h₀.get? b = some o → h.get? b = some o → h'.get? b = some o) : Fr h₀ L h' m := ⟨F.ns.at' kL, fun b o e => k b o e (F.keep b o e), F.above⟩

/-- the block of two clauses behind its making: C the names, D the list -/
theorem block2 {elt iter iter2 : Expr} {x y : Str} {px py : Pos} {scope : Scope} {cl : List (Str × Addr)} {pos : Pos} {env : Env} {h₀ : Heap} {L : Nat} {m mC : Str → Option Value} {news : List (Addr × Obj)} {vals : List (List Int)} {I D C : Nat} {fp : List Addr} {P : Nat → Value → Prop} {St : Nat → Heap → Prop} {h₁ : Heap} {tk : Nat} {RR : Result → Shared → Prop}
    (hkind : scope.kind = .function) (hx : scope.names.lookup x = some .local) (hy : scope.names.lookup y = some .local) (hxy : x ≠ y) (hsz : vals.flatten.length ≤ sizeLine)
    (W : Walks prog w A I fp [I] vals.length P St) (hst₁ : St 0 h₁) (F₁ : Fr h₀ L h₁ m) (hns₁ : h₁.Ns C mC) (N₁ : News h₀ L h₁ ((D, lst []) :: news))
    (hfpC : C ∉ fp) (hfpD : D ∉ fp) (hI₀ : h₀.get? I = none) (hD₀ : h₀.get? D = none) (hC₀ : h₀.get? C = none) (hIL : L ≠ I) (hDL : D ≠ L) (hCL : C ≠ L) (hIC : I ≠ C) (hID : I ≠ D) (hDC : D ≠ C)
    (off : ∀ p ∈ news, (p.1 : Nat) ≠ I) (hND : ∀ p ∈ news, (p.1 : Nat) ≠ D) (hNC : ∀ p ∈ news, (p.1 : Nat) ≠ C)
    (inner : ∀ (i : Nat) (row : List Int) (v : Value) (C D : Addr) (ys : List Value) (mC : Str → Option Value) (s₃ : Shared) (E' : Value → Shared → Prop), vals[i]? = some row → P i v → (∃ h tk, s₃ = { s with heap := h, toks := tk }) → Fr h₀ L s₃.heap m →
      News h₀ L s₃.heap ((D, lst ys) :: news) → (∀ p ∈ news, p.1 ≠ D) → s₃.heap.Ns C mC → mC x = some v → St (i + 1) s₃.heap →
      wpAny (model prog w) A (eval iter2 (compEnvC scope cl C env)) (fun z s₄ => wpAny (model prog w) A (pyIter z) (fun it2 s₅ =>
        ∃ (I2 : Addr) (fp2 : List Addr) (P2 : Nat → Value → Prop) (St2 : Nat → Heap → Prop), it2 = .ref I2 ∧ Walks prog w A I2 fp2 [I2] row.length P2 St2 ∧ St2 0 s₅.heap ∧ (∃ h tk, s₅ = { s₃ with heap := h, toks := tk }) ∧
          (∀ b o, s₃.heap.get? b = some o → s₅.heap.get? b = some o) ∧ C ∉ fp2 ∧ D ∉ fp2 ∧ s₃.heap.get? I2 = none ∧
          ∀ (j : Nat) (k : Int) (v2 : Value) (mC' : Str → Option Value) (s₆ : Shared) (E'' : Value → Shared → Prop), row[j]? = some k → P2 j v2 → (∃ h tk, s₆ = { s with heap := h, toks := tk }) → Fr h₀ L s₆.heap m → News h₀ L s₆.heap news → s₆.heap.Ns C mC' → mC' x = some v → mC' y = some v2 →
            wpAny (model prog w) A (eval elt (compEnvC scope cl C env)) (fun r s₇ => (∃ t, r = .int k t) ∧ (∃ h tk, s₇ = { s₆ with heap := h, toks := tk }) ∧ ∀ b o, s₆.heap.get? b = some o → s₇.heap.get? b = some o) E'' s₆) E' s₄) E' s₃)
    (fin : ∀ h tk ys mC, Fr h₀ L h m → News h₀ L h ((D, lst ys) :: news) → h.Ns C mC → IntsAre ys vals.flatten → RR (.ok .next) { s with heap := h, toks := tk })
    (hs2 : ∀ C z, foldedSetIterable iter2 (compEnvC scope cl C env) z = pure z := by intro _ _; rfl) :
    codeAny (model prog w) A (.compLoop (LC2 elt iter iter2 x y px py scope pos) 0 (.ref I) (.ref D) (compEnvC scope cl C env)) RR { s with heap := h₁, toks := tk } := by
  have hkindE : ∀ C, ((compEnvC scope cl C env).scope.kind == .class || ((compEnvC scope cl C env).scope.kind == .module && (compEnvC scope cl C env).locals != (compEnvC scope cl C env).globals)) = false := by intro C; simp [compEnvC, relabel, hkind]
  refine loop2_0
    (fun k s' => ∃ h' tk i ys m', s' = { s with heap := h', toks := tk } ∧ i ≤ vals.length ∧ k = vals.length + 1 - i ∧ IntsAre ys (vals.take i).flatten ∧ St i h' ∧ Fr h₀ L h' m ∧ h'.Ns C m' ∧ News h₀ L h' ((D, lst ys) :: news)) ?_ (vals.length + 1)
    ⟨h₁, _, 0, [], _, rfl, Nat.zero_le _, rfl, by simpa using IntsAre.nil, hst₁, F₁, hns₁, N₁⟩ (hs2 C)
  rintro k s' ⟨h', tk, i, ys, m', rfl, hi, rfl, hys, hst', F', hn', N'⟩
  by_cases hlt : i < vals.length
  · refine W.item i _ _ _ hlt hst' fun v h₂ tk₂ hPv hst₂ hk₂ => ?_
    refine wpAny_assign_Name (wpAny_storeName_local (lookup_relabel_local hx) (hn'.at' fun o e => hk₂ _ o (fun q => hIC (List.mem_singleton.mp q).symm) e) (fun h₃ hn₃ hs₃ => ?_) (hkindE C))
    have hs₃' : Heap.SameBut C h₂ h₃ := hs₃
    have hn₃' : h₃.Ns C (fun z => if z = x then some v else m' z) := hn₃
    have keep₃ : ∀ b o, b ≠ C → b ≠ I → h'.get? b = some o → h₃.get? b = some o := fun b o b1 b2 e => hs₃'.extBut b o b1 (hk₂ b o (fun q => b2 (List.mem_singleton.mp q)) e)
    have F₃ : Fr h₀ L h₃ m := Fr.keeps' F' (fun o e => keep₃ L o hCL.symm hIL e) fun b o e0 e => keep₃ b o (fun q => by rw [q, hC₀] at e0; cases e0) (fun q => by rw [q, hI₀] at e0; cases e0) e
    have N₃ : News h₀ L h₃ ((D, lst ys) :: news) := News.keeps' N' fun p hp o e => by
      rcases List.mem_cons.mp hp with rfl | hp'
      · exact keep₃ _ _ hDC hID.symm e
      · exact keep₃ _ _ (hNC p hp') (off p hp') e
    have hst₃ : St (i + 1) h₃ := W.frame _ _ _ hst₂ fun b hb o e => hs₃'.extBut b o (fun q => hfpC (by rw [← q]; exact hb)) e
    obtain ⟨row, hrow⟩ : ∃ row, vals[i]? = some row := ⟨vals[i], by simp [hlt]⟩
    refine wpAny_mono (inner i row v C D ys _ _ _ hrow hPv ⟨h₃, _, rfl⟩ F₃ N₃ hND hn₃' (by simp) hst₃) (fun z s₄ h₄ => wpAny_mono h₄ (fun it2 s₅ h₅ => ?_) fun _ _ e => e) fun _ _ e => e
    obtain ⟨I2, fp2, P2, St2, rfl, W2, hst5, ⟨h₅, tk₅, rfl⟩, keep₅, hC2, hD2, hI2, eltH⟩ := h₅
    dsimp only at hst5 keep₅ hI2 ⊢
    have hI2C : I2 ≠ C := fun q => by rw [q] at hI2; obtain ⟨oC, eC, _⟩ := ns_obj hn₃'; rw [hI2] at eC; cases eC
    have hI2D : I2 ≠ D := fun q => by have e := (N₃ (D, lst ys) (.head _)).1; dsimp only at e; rw [← q, hI2] at e; cases e
    have hI2L : I2 ≠ L := fun q => by rw [q] at hI2; obtain ⟨oL, eL, _⟩ := ns_obj F₃.ns; rw [hI2] at eL; cases eL
    have hI20 : h₀.get? I2 = none := by
      cases e : h₀.get? I2 with
      | none => rfl
      | some o => have := F₃.keep _ _ e; rw [hI2] at this; cases this
    have hI2N : ∀ p ∈ news, p.1 ≠ I2 := fun p hp q => by have := (N₃ p (.tail _ hp)).1; rw [q, hI2] at this; cases this
    have loop1 : codeAny (model prog w) A (.compLoop (LC2 elt iter iter2 x y px py scope pos) 1 (.ref I2) (.ref D) (compEnvC scope cl C env))
        (fun r s₆ => match r with
          | .ok _ => ∃ m_1, m_1 < vals.length + 1 - i ∧ ∃ h' tk i ys m', s₆ = { s with heap := h', toks := tk } ∧ i ≤ vals.length ∧ m_1 = vals.length + 1 - i ∧ IntsAre ys (vals.take i).flatten ∧ St i h' ∧ Fr h₀ L h' m ∧ h'.Ns C m' ∧ News h₀ L h' ((D, lst ys) :: news)
          | .error e => cameBackBy (model prog w) A (compEnvC scope cl C env) (notedBy (model prog w) A (compEnvC scope cl C env) fun e s' => RR (.error e) s') e s₆) { s with heap := h₅, toks := tk₅ } := by
      refine loop2_1
        (fun k s' => ∃ h' tk j zs m', s' = { s with heap := h', toks := tk } ∧ j ≤ row.length ∧ k = row.length + 1 - j ∧ IntsAre zs (row.take j) ∧ St2 j h' ∧ Fr h₀ L h' m ∧ h'.Ns C m' ∧ m' x = some v ∧ News h₀ L h' ((D, lst (ys ++ zs)) :: news) ∧ (∀ b o, b ≠ C → b ≠ D → h₃.get? b = some o → h'.get? b = some o)) ?_ (row.length + 1)
        ⟨h₅, _, 0, [], _, rfl, Nat.zero_le _, rfl, by simpa using IntsAre.nil, hst5, F₃.keeps keep₅, hn₃'.at' fun o e => keep₅ _ _ e, by simp, ?_, fun b o _ _ e => keep₅ b o e⟩
      · rintro k s' ⟨h', tk, j, zs, m', rfl, hj, rfl, hzs, hst', F', hn', hmx, N', keepJ⟩
        have hzl : zs.length = (row.take j).length := hzs.length
        by_cases hltj : j < row.length
        · refine W2.item j _ _ _ hltj hst' fun v2 h₇ tk₇ hP2 hst₇ hk₇ => ?_
          refine wpAny_assign_Name (wpAny_storeName_local (lookup_relabel_local hy) (hn'.at' fun o e => hk₇ _ o (fun q => hI2C (List.mem_singleton.mp q).symm) e) (fun h₈ hn₈ hs₈ => ?_) (hkindE C))
          have hs₈' : Heap.SameBut C h₇ h₈ := hs₈
          have hn₈' : h₈.Ns C (fun z => if z = y then some v2 else m' z) := hn₈
          have keep₈ : ∀ b o, b ≠ C → b ≠ I2 → h'.get? b = some o → h₈.get? b = some o := fun b o b1 b2 e => hs₈'.extBut b o b1 (hk₇ b o (fun q => b2 (List.mem_singleton.mp q)) e)
          have F₈ : Fr h₀ L h₈ m := Fr.keeps' F' (fun o e => keep₈ L o hCL.symm (Ne.symm hI2L) e) fun b o e0 e => keep₈ b o (fun q => by rw [q, hC₀] at e0; cases e0) (fun q => by rw [q, hI20] at e0; cases e0) e
          have N₈ : News h₀ L h₈ ((D, lst (ys ++ zs)) :: news) := News.keeps' N' fun p hp o e => by
            rcases List.mem_cons.mp hp with rfl | hp'
            · exact keep₈ _ _ hDC (Ne.symm hI2D) e
            · exact keep₈ _ _ (hNC p hp') (hI2N p hp') e
          have hst₈ : St2 (j + 1) h₈ := W2.frame _ _ _ hst₇ fun b hb o e => hs₈'.extBut b o (fun q => hC2 (by rw [← q]; exact hb)) e
          obtain ⟨kj, hk2⟩ : ∃ kj, row[j]? = some kj := ⟨row[j], by simp [hltj]⟩
          refine wpAny_mono (eltH j kj v2 _ _ _ hk2 hP2 ⟨h₈, _, rfl⟩ F₈ (fun p hp => N₈ p (.tail _ hp)) hn₈' (by simp [hxy, hmx]) (by simp)) (fun r s₉ h₉ => ?_) fun _ _ e => e
          obtain ⟨⟨t9, rfl⟩, ⟨h₉, tk₉, rfl⟩, keep₉⟩ := h₉
          dsimp only at keep₉ ⊢
          have hsz2 : (ys ++ zs).length ≤ sizeLine := by
            refine Nat.le_trans ?_ hsz
            have e1 : ys.length = (vals.take i).flatten.length := hys.length
            have e2 : vals.flatten.length = (vals.take i).flatten.length + (vals.drop i).flatten.length := by rw [← List.length_append, ← List.flatten_append, List.take_append_drop]
            have e3 : vals.drop i = row :: vals.drop (i + 1) := by
              obtain ⟨hl, he⟩ := List.getElem?_eq_some_iff.mp hrow
              rw [← he]; exact List.drop_eq_getElem_cons hl
            rw [e3, List.flatten_cons, List.length_append] at e2
            rw [List.length_append, e1, hzl, List.length_take]
            omega
          refine append_at (hsz := by show (ys ++ zs).toArray.size ≤ sizeLine; rw [List.size_toArray]; exact hsz2) (keep₉ _ _ (N₈ (D, lst (ys ++ zs)) (.head _)).1) fun h₁₀ hs₁₀ hD₁₀ => ?_
          refine ⟨row.length + 1 - (j + 1), by omega, h₁₀, tk₉, j + 1, zs ++ [.int kj t9], _, rfl, hltj, rfl, ?_, W2.frame _ _ _ hst₈ fun b hb o e => hs₁₀.extBut b o (fun q => hD2 (by rw [← q]; exact hb)) (keep₉ _ _ e), (F₈.keeps keep₉).change hs₁₀ hDL hD₀,
            (hn₈'.at' fun o e => keep₉ _ _ e).sameBut hs₁₀ hDC.symm, by simp [hxy, hmx], fun p hp => ⟨?_, ?_⟩, fun b o b1 b2 e => hs₁₀.extBut b o b2 (keep₉ _ _ (keep₈ b o b1 (fun q => by rw [q, hI2] at e; cases e) (keepJ b o b1 b2 e)))⟩
          · rw [List.take_add_one, hk2]; exact IntsAre.append hzs (.cons kj t9 .nil)
          · rcases List.mem_cons.mp hp with rfl | hp'
            · exact hD₁₀.trans (congrArg some (by rw [← List.append_assoc]; exact lst_snoc (ys ++ zs) _))
            · exact hs₁₀.extBut _ _ (hND p hp') (keep₉ _ _ (N₈ p (.tail _ hp')).1)
          · rcases List.mem_cons.mp hp with rfl | hp'
            · exact ⟨hDL, hD₀⟩
            · exact (N₈ p (.tail _ hp')).2
        · obtain rfl : j = row.length := by omega
          rw [List.take_length] at hzs
          refine W2.done _ _ _ hst' fun h₇ tk₇ hk₇ => ?_
          have keep₇ : ∀ b o, b ≠ I2 → h'.get? b = some o → h₇.get? b = some o := fun b o b2 e => hk₇ b o (fun q => b2 (List.mem_singleton.mp q)) e
          refine ⟨vals.length + 1 - (i + 1), by omega, h₇, tk₇, i + 1, ys ++ zs, _, rfl, hlt, rfl, ?_, W.frame _ _ _ hst₃ fun b hb o e => keep₇ b o (fun q => by rw [q, hI2] at e; cases e) (keepJ b o (fun q => hfpC (by rw [← q]; exact hb)) (fun q => hfpD (by rw [← q]; exact hb)) e),
            Fr.keeps' F' (fun o e => keep₇ L o (Ne.symm hI2L) e) (fun b o e0 e => keep₇ b o (fun q => by rw [q, hI20] at e0; cases e0) e), hn'.at' fun o e => keep₇ _ o (Ne.symm hI2C) e, News.keeps' N' fun p hp o e => ?_⟩
          · rw [List.take_add_one, hrow]
            simp only [Option.toList_some, List.flatten_append, List.flatten_cons, List.flatten_nil, List.append_nil]
            exact IntsAre.append hys hzs
          · rcases List.mem_cons.mp hp with rfl | hp'
            · exact keep₇ _ _ (Ne.symm hI2D) e
            · exact keep₇ _ _ (hI2N p hp') e
      · rw [List.append_nil]
        exact News.keeps' N₃ fun p _ o e => keep₅ _ _ e
    exact start2_1 loop1 (W2.self 0 _ _ _ hst5 loop1)
  · obtain rfl : i = vals.length := Nat.le_antisymm hi (Nat.not_lt.mp hlt)
    rw [List.take_length] at hys
    refine W.done _ _ _ hst' fun h₂ tk₂ hk₂ => ?_
    have keep₂ : ∀ b o, b ≠ I → h'.get? b = some o → h₂.get? b = some o := fun b o b2 e => hk₂ b o (fun q => b2 (List.mem_singleton.mp q)) e
    refine fin h₂ tk₂ ys m' (Fr.keeps' F' (fun o e => keep₂ L o hIL e) fun b o e0 e => keep₂ b o (fun q => by rw [q, hI₀] at e0; cases e0) e) (News.keeps' N' fun p hp o e => ?_) (hn'.at' fun o e => keep₂ _ o hIC.symm e) hys
    rcases List.mem_cons.mp hp with rfl | hp'
    · exact keep₂ _ _ hID.symm e
    · exact keep₂ _ _ (off p hp') e

theorem ListComp_two {elt iter iter2 : Expr} {x y : Str} {px py : Pos} {scope : Scope} {cl : List (Str × Addr)} {pos : Pos} {env : Env} {h₀ : Heap} {L : Nat} {m : Str → Option Value} {news : List (Addr × Obj)} {vals : List (List Int)} {Q : Value → Shared → Prop}
    (hclos : closureFor scope env = pure cl) (hcell : ∀ z ∈ scope.names, z.2 ≠ .cell) (hkind : scope.kind = .function)
    (hnames : ∀ z ∈ scope.names, z.2 = .local → scope.names.lookup z.1 = some .local) (hx : scope.names.lookup x = some .local) (hy : scope.names.lookup y = some .local) (hxy : x ≠ y)
    (hsz : vals.flatten.length ≤ sizeLine) (_F : Fr h₀ L s.heap m) (_N : News h₀ L s.heap news)
    (h : wpAny (model prog w) A (eval iter env) (fun xv s₁ => wpAny (model prog w) A (pyIter xv) (fun it s₂ => ∃ I fp P St, Src2 prog w A h₀ L m news elt iter2 x y scope cl env vals s it s₂ I fp P St) E s₁) E s)
    (fin : ∀ (D : Nat) h tk ys, Fr h₀ L h m → News h₀ L h ((D, lst ys) :: news) → (∀ p ∈ news, (p.1 : Nat) < D) → IntsAre ys vals.flatten → Q (.ref D) { s with heap := h, toks := tk })
    (hs : ∀ z, foldedSetIterable iter env z = pure z := by intro _; rfl) (hs2 : ∀ C z, foldedSetIterable iter2 (compEnvC scope cl C env) z = pure z := by intro _ _; rfl) :
    wpAny (model prog w) A (eval (LC2 elt iter iter2 x y px py scope pos) env) Q E s := by
  rw [eval_ListComp]
  refine wpAny_comprehension_free (use := none) rfl hs hclos hkind hnames (wpAny_mono h (fun xv s₁ h₁ => wpAny_mono h₁ (fun it s₂ h₂ => ?_) fun _ _ e => e) fun _ _ e => e)
  obtain ⟨I, fp, P, St, rfl, W, hst, hfp, F, N, hI₀, hIL, off, ⟨hh₂, tk₂, rfl⟩, inner⟩ := h₂
  refine wpAny_newObj_type (wpAny_newFunctionEnv hcell (by intro y hy; simp at hy) (fun h₁ hns₁ hsb₁ => ?_) hkind)
  dsimp only at hns₁ hsb₁ F N hst hfp ⊢
  have hC : (hh₂.push { cls := .type "list", dict := none, data := .seq ([] : List Value).toArray }).objs.size = hh₂.objs.size + 1 := Heap.size_push ..
  rw [hC] at hns₁ hsb₁ ⊢
  have hDn : ∃ D : Nat, D = hh₂.objs.size := ⟨_, rfl⟩
  obtain ⟨D, hD⟩ := hDn
  rw [← hD] at hns₁ hsb₁ ⊢
  have lt : ∀ (b : Nat) o, hh₂.get? b = some o → b < D := fun b o e => hD ▸ Heap.lt_size e
  have old : ∀ b o, hh₂.get? b = some o → h₁.get? b = some o := fun b o e => hsb₁.extBut b o (Nat.ne_of_lt (Nat.lt_succ_of_lt (lt b o e))) (Heap.get?_push_of_some _ (Heap.get?_push_of_some _ e))
  have hacc : h₁.get? D = some (lst []) := hsb₁.extBut _ _ (Nat.ne_of_lt (Nat.lt_succ_self _)) (Heap.get?_push_of_some _ (by rw [hD]; exact Heap.get?_push_size _ rfl))
  have hst₁ : St 0 h₁ := W.frame _ _ _ hst fun b _ o e => old b o e
  have fresh₀ : ∀ a : Nat, D ≤ a → h₀.get? a = none := fun a ha => by
    cases e : h₀.get? a with
    | none => rfl
    | some o' => exact absurd (lt _ _ (F.keep a o' e)) (Nat.not_lt.mpr ha)
  have hLlt : L < D := hD ▸ F.ns.lt
  have hIlt : I < D := hD ▸ hfp I (W.sub I (List.mem_singleton.mpr rfl))
  have hNlt : ∀ p ∈ news, (p.1 : Nat) < D := fun p hp => lt _ _ (N p hp).1
  have hfpD : ∀ b ∈ fp, (b : Nat) < D := fun b hb => hD ▸ hfp b hb
  have loop := block2 (s := s) (h₁ := h₁) (tk := tk₂ + ([] : List (Str × Value)).length) (elt := elt) (iter := iter) (px := px) (py := py) (pos := pos) (RR := compPost (model prog w) A E none Q (.ref D) (D + 1)) hkind hx hy hxy hsz W hst₁ (F.keeps old) hns₁
    (C := D + 1) (D := D) (fun p hp => by
      rcases List.mem_cons.mp hp with rfl | hp
      · exact ⟨hacc, fun q => absurd hLlt (by rw [← q]; exact Nat.lt_irrefl _), fresh₀ _ (Nat.le_refl _)⟩
      · exact ⟨old _ _ (N p hp).1, (N p hp).2⟩)
    (fun hm => absurd (hfpD _ hm) (Nat.not_lt.mpr (Nat.le_succ _))) (fun hm => absurd (hfpD _ hm) (Nat.lt_irrefl _)) hI₀ (fresh₀ _ (Nat.le_refl _)) (fresh₀ _ (Nat.le_succ _)) hIL (Nat.ne_of_gt hLlt) (Nat.ne_of_gt (Nat.lt_succ_of_lt hLlt)) (Nat.ne_of_lt (Nat.lt_succ_of_lt hIlt)) (Nat.ne_of_lt hIlt) (Nat.ne_of_lt (Nat.lt_succ_self _))
    off (fun p hp => Nat.ne_of_lt (hNlt p hp)) (fun p hp => Nat.ne_of_lt (Nat.lt_succ_of_lt (hNlt p hp))) inner
    (fun h tk ys mC F' N' hn' hys => ⟨mC, hn', fun h'' hs'' => fin D h'' tk ys (F'.change hs'' (Nat.ne_of_gt (Nat.lt_succ_of_lt hLlt)) (fresh₀ _ (Nat.le_succ _))) (fun p hp => ⟨hs''.extBut _ _ (by
        rcases List.mem_cons.mp hp with rfl | hp'
        · exact Nat.ne_of_lt (Nat.lt_succ_self _)
        · exact Nat.ne_of_lt (Nat.lt_succ_of_lt (hNlt p hp'))) (N' p hp).1, (N' p hp).2⟩) hNlt hys⟩) hs2
  exact codeAny_compStart_list loop (W.self 0 _ _ _ hst₁ loop)

theorem src2_list {elt iter2 : Expr} {x y : Str} {scope : Scope} {cl : List (Str × Addr)} {env : Env} {h₀ : Heap} {L : Nat} {m : Str → Option Value} {news : List (Addr × Obj)} {vals : List (List Int)} {l : Addr} {vs : List Value} {s₀ : Shared}
    (hh : A.handled = none) (hs : ∃ h tk, s = { s₀ with heap := h, toks := tk }) (F : Fr h₀ L s.heap m) (N : News h₀ L s.heap news) (hl : s.heap.IsList l vs.toArray) (hv : vals.length = vs.length)
    (inner : ∀ (i : Nat) (row : List Int) (v : Value) (C D : Addr) (ys : List Value) (mC : Str → Option Value) (s₃ : Shared) (E' : Value → Shared → Prop), vals[i]? = some row → vs[i]? = some v → (∃ h tk, s₃ = { s₀ with heap := h, toks := tk }) → Fr h₀ L s₃.heap m →
      News h₀ L s₃.heap ((D, lst ys) :: news) → (∀ p ∈ news, p.1 ≠ D) → s₃.heap.Ns C mC → mC x = some v →
      wpAny (model prog w) A (eval iter2 (compEnvC scope cl C env)) (fun z s₄ => wpAny (model prog w) A (pyIter z) (fun it2 s₅ =>
        ∃ (I2 : Addr) (fp2 : List Addr) (P2 : Nat → Value → Prop) (St2 : Nat → Heap → Prop), it2 = .ref I2 ∧ Walks prog w A I2 fp2 [I2] row.length P2 St2 ∧ St2 0 s₅.heap ∧ (∃ h tk, s₅ = { s₃ with heap := h, toks := tk }) ∧
          (∀ b o, s₃.heap.get? b = some o → s₅.heap.get? b = some o) ∧ C ∉ fp2 ∧ D ∉ fp2 ∧ s₃.heap.get? I2 = none ∧
          ∀ (j : Nat) (k : Int) (v2 : Value) (mC' : Str → Option Value) (s₆ : Shared) (E'' : Value → Shared → Prop), row[j]? = some k → P2 j v2 → (∃ h tk, s₆ = { s₀ with heap := h, toks := tk }) → Fr h₀ L s₆.heap m → News h₀ L s₆.heap news → s₆.heap.Ns C mC' → mC' x = some v → mC' y = some v2 →
            wpAny (model prog w) A (eval elt (compEnvC scope cl C env)) (fun r s₇ => (∃ t, r = .int k t) ∧ (∃ h tk, s₇ = { s₆ with heap := h, toks := tk }) ∧ ∀ b o, s₆.heap.get? b = some o → s₇.heap.get? b = some o) E'' s₆) E' s₄) E' s₃) :
    wpAny (model prog w) A (pyIter (.ref l)) (fun it s₂ => ∃ I fp P St, Src2 prog w A h₀ L m news elt iter2 x y scope cl env vals s₀ it s₂ I fp P St) E s := by
  obtain ⟨hh₁, tk₁, rfl⟩ := hs
  have hls : Heap.IsList hh₁ l vs.toArray := hl
  have hlt : l < hh₁.objs.size := by obtain ⟨_, e, _⟩ := hls; exact Heap.lt_size e
  have W := Walks.list (prog := prog) (w := w) (A := A) hh hh₁.objs.size l (Nat.ne_of_lt hlt) vs.toArray
  have e : vs.toArray.size = vals.length := by rw [List.size_toArray, hv]
  rw [e] at W
  refine wpAny_pyIter_list hls ⟨_, _, _, _, ⟨rfl, W, ⟨⟨_, Heap.get?_push_size _ rfl, rfl, rfl⟩, hls.push _⟩, fun b hb => ?_, F.push _, fun p hp => ⟨Heap.get?_push_of_some _ (N p hp).1, (N p hp).2⟩, next_is_new F, Nat.ne_of_lt F.ns.lt, fun p hp => Nat.ne_of_lt (Heap.lt_size (N p hp).1), ⟨_, _, rfl⟩, ?_⟩⟩
  · show b < (hh₁.push _).objs.size
    rw [Heap.size_push]
    rcases List.mem_cons.mp hb with rfl | hb
    · exact Nat.lt_succ_self _
    · rw [List.mem_singleton.mp hb]; exact Nat.lt_succ_of_lt hlt
  · intro i row v C D ys mC s₃ E' hrow hP hs3 F3 N3 hND hns hmx _
    exact inner i row v C D ys mC s₃ E' hrow (by simpa using hP) hs3 F3 N3 hND hns hmx
end
end Mine
end
end JCp
section JCw
theorem Mine.fresh_Cw : True := by w_top off; exact trivial
open PySem PySem.W PyProof.Rows PySem.Spec PySem.Calls PyProof.Rows.LCg
set_option maxRecDepth 100000
set_option maxHeartbeats 1000000
noncomputable section
namespace Mine
theorem filledCw : Filled PySem.Challenge.rw_il0125_01 Mine.hd.heap_1_39 := by k_fill; exact True.intro
section
variable {prog : Program} {w : World} {A : Around} {E : Value → Shared → Prop} {s : Shared} {h₀ : Heap} {L : Addr} {m : Str → Option Value} {env : Env}
/-- any iterator as a comprehension's source -/
def SrcW (prog : Program) (w : World) (A : Around) (h₀ : Heap) (L : Addr) (m : Str → Option Value) (n : Nat) (P : Nat → Value → Prop) (S : List (Addr × Obj) → Prop) (news : List (Addr × Obj)) (it : Value) (s₂ : Shared) : Prop :=
  ∃ (I : Addr) (fp : List Addr) (St : Nat → Heap → Prop), it = .ref I ∧ Walks prog w A I fp [I] n P St ∧ n ≤ sizeLine ∧ (∀ i h, St i h → ∃ o, h.get? I = some o) ∧
    (∀ i h h' o nw, St i h → h.get? I = some o → h'.get? I = some o → (∀ b o, h₀.get? b = some o → h'.get? b = some o) → News h₀ L h' nw → S nw → St i h') ∧
    St 0 s₂.heap ∧ (∀ b ∈ fp, b < s₂.heap.objs.size) ∧ Fr h₀ L s₂.heap m ∧ News h₀ L s₂.heap news ∧ L ≠ I ∧ h₀.get? I = none ∧ (∀ p ∈ news, p.1 ≠ I) ∧ S news
theorem ListComp_W {elt iter : Expr} {x : Str} {px : Pos} {scope : Scope} {cl : List (Str × Addr)} {pos : Pos} {Q : Value → Shared → Prop} (_F₀ : Fr h₀ L s.heap m)
    (hclos : closureFor scope env = pure cl) (hcell : ∀ y ∈ scope.names, y.2 ≠ .cell) (hkind : scope.kind = .function)
    (hnames : ∀ y ∈ scope.names, y.2 = .local → scope.names.lookup y.1 = some .local) (hx : scope.names.lookup x = some .local)
    (h : wpAny (model prog w) A (eval iter env) (fun xv s₁ => wpAny (model prog w) A (pyIter xv) (fun it s₂ => ∃ n P S news, SrcW prog w A h₀ L m n P S news it s₂ ∧ CompRest prog w A h₀ L m env elt x scope cl s₂ S P (FinE h₀ L m s₂ Q) n 0 [] news) E s₁) E s)
    (hs : ∀ x, foldedSetIterable iter env x = pure x := by intro _; rfl) :
    wpAny (model prog w) A (eval (.ListComp elt [⟨.Name x px, iter, [], 0⟩] scope pos) env) Q E s := by
  rw [eval_ListComp]
  refine wpAny_comprehension_free (use := none) rfl hs hclos hkind hnames (wpAny_mono h (fun xv s₁ h₁ => wpAny_mono h₁ (fun it s₂ h₂ => ?_) fun _ _ e => e) fun _ _ e => e)
  obtain ⟨n, P, S, news, ⟨I, fp, St, rfl, W, hsz, hIo, hSt, hst, hfp, F, N, hIL, hI₀, off, hS⟩, R⟩ := h₂
  refine block_U W hsz hIo hSt hcell hkind hx hst hfp F N hIL hI₀ off hS R ?_
  intro D C h tk m' ys news' F' N' o1 hn hC₀ hD₀ hCL hDL hCD offC fin
  refine ⟨m', hn, fun h'' hs'' => fin D h'' tk (F'.change hs'' hCL hC₀) (fun p hp => ?_) o1⟩
  refine ⟨hs''.extBut _ _ ?_ (N' p hp).1, (N' p hp).2⟩
  rcases List.mem_cons.mp hp with rfl | hp
  · exact Ne.symm hCD
  · exact offC p hp
theorem Assign_ListComp_W {elt iter : Expr} {x y : Str} {px py : Pos} {scope : Scope} {cl : List (Str × Addr)} {pos spos : Pos} {Q : Flow → Shared → Prop} (_F₀ : Fr h₀ L s.heap m) (hLe : env.locals = L)
    (hsw : swapsWith (.ListComp elt [⟨.Name x px, iter, [], 0⟩] scope pos) (some (.Name y py)) spos.line env = pure true)
    (hclos : closureFor scope env = pure cl) (hcell : ∀ z ∈ scope.names, z.2 ≠ .cell) (hkind : scope.kind = .function)
    (hnames : ∀ z ∈ scope.names, z.2 = .local → scope.names.lookup z.1 = some .local) (hx : scope.names.lookup x = some .local)
    (hy : env.kindOf y = some .local) (hp : (env.scope.kind == .class || (env.scope.kind == .module && env.locals != env.globals)) = false)
    (h : wpAny (model prog w) A (eval iter env) (fun xv s₁ => wpAny (model prog w) A (pyIter xv) (fun it s₂ => ∃ n P S news, SrcW prog w A h₀ L m n P S news it s₂ ∧ CompRest prog w A h₀ L m env elt x scope cl s₂ S P (FinA h₀ L m s₂ y Q) n 0 [] news) E s₁) E s)
    (hs : ∀ x, foldedSetIterable iter env x = pure x := by intro _; rfl) :
    wpAny (model prog w) A (exec (.Assign [.Name y py] (.ListComp elt [⟨.Name x px, iter, [], 0⟩] scope pos) spos) env) Q E s := by
  subst hLe
  rw [exec_Assign_Name_used _ _ _ _ hsw]
  refine wpAny_bind (wpAny_standAt (wpAny_bind ?_))
  show wpAny _ A (do let _ ← comprehension (.ListComp elt [⟨.Name x px, iter, [], 0⟩] scope pos) scope env _ (newList []) false (eval iter env) (some (assign (.Name y py) env))) _ _ s
  refine wpAny_bind (wpAny_mono (wpAny_comprehension_free (use := some (assign (.Name y py) env)) (Q := fun _ s' => Q .next s') rfl hs hclos hkind hnames
    (wpAny_mono h (fun xv s₁ h₁ => wpAny_mono h₁ (fun it s₂ h₂ => ?_) fun _ _ e => e) fun _ _ e => e)) (fun _ s' hq => wpAny_pure (wpAny_pure hq)) fun _ _ e => e)
  obtain ⟨n, P, S, news, ⟨I, fp, St, rfl, W, hsz, hIo, hSt, hst, hfp, F, N, hIL, hI₀, off, hS⟩, R⟩ := h₂
  refine block_U W hsz hIo hSt hcell hkind hx hst hfp F N hIL hI₀ off hS R ?_
  intro D C h' tk m' ys news' F' N' o1 hn hC₀ hD₀ hCL hDL hCD offC fin
  show wpAny _ A (assign (.Name y py) env (.ref D)) _ _ _
  refine wpAny_assign_Name (wpAny_storeName_local hy F'.ns (fun h₂ hn₂ hs₂ => ?_) hp)
  have hL₀ : h₀.get? env.locals = none := Heap.get?_none_of_le F'.above
  have F₂ : Fr h₀ env.locals h₂ (fun z => if z = y then some (.ref D) else m z) := ⟨hn₂, fun b o e => hs₂.extBut b o (fun q => by rw [q, hL₀] at e; cases e) (F'.keep b o e), F'.above⟩
  refine ⟨m', hn.sameBut hs₂ hCL, fun h'' hs'' => fin D h'' _ (F₂.change hs'' hCL hC₀) (fun p hp => ?_) o1⟩
  have z : h₂.get? p.1 = some p.2 := hs₂.extBut _ _ (N' p hp).2.1 (N' p hp).1
  refine ⟨hs''.extBut _ _ ?_ z, (N' p hp).2⟩
  rcases List.mem_cons.mp hp with rfl | hp
  · exact Ne.symm hCD
  · exact offC p hp
/-- the turns, by what holds between them -/
theorem rest_inv {elt : Expr} {x : Str} {scope : Scope} {cl : List (Str × Addr)} {S : List (Addr × Obj) → Prop} {P : Nat → Value → Prop} {Fin : List Value → List (Addr × Obj) → Prop} {n : Nat} (Inv : Nat → List Value → List (Addr × Obj) → Prop)
    (step : ∀ i ys news, i < n → Inv i ys news → ∀ v I oI C oC D m₂ h tk (E' : Value → Shared → Prop), P i v → NsObj oC m₂ → m₂ x = some v → Fr h₀ L h m → News h₀ L h ((I, oI) :: (C, oC) :: (D, lst ys) :: news) → Off3 I C D news → ((@Ne Nat I C) ∧ (@Ne Nat I D) ∧ (@Ne Nat C D)) →
      wpAny (model prog w) A (eval elt (compEnvC scope cl C env)) (CompEnd h₀ L m { s with heap := h, toks := tk } I oI C oC D (lst ys) S (fun y news' => Inv (i + 1) (ys ++ [y]) news')) E' { s with heap := h, toks := tk })
    (done : ∀ ys news, Inv n ys news → Fin ys news) : ∀ k i ys news, i + k = n → Inv i ys news → CompRest prog w A h₀ L m env elt x scope cl s S P Fin k i ys news
  | 0, i, ys, news, hi, hI => by
    obtain rfl : i = n := by omega
    exact CompRest.zero (done ys news hI)
  | k + 1, i, ys, news, hi, hI => CompRest.succ fun v I oI C oC D m₂ h tk E' hv hC hx F N off ne =>
    wpAny_mono (step i ys news (by omega) hI v I oI C oC D m₂ h tk E' hv hC hx F N off ne) (fun y s₂ ⟨h', tk', nw, e, F', N', off', hS, hr⟩ => ⟨h', tk', nw, e, F', N', off', hS, rest_inv Inv step done k (i + 1) _ nw (by omega) hr⟩) fun _ _ z => z
theorem text_src {x : Str} {t : Tok} {news : List (Addr × Obj)} (hA : A.handled = none) (ha : x.cps.all (· < 128) = true) (hz : x.cps.size ≤ sizeLine) (F : Fr h₀ L s.heap m) (N : News h₀ L s.heap news) {Q : Value → Shared → Prop}
    (h : ∀ it g, SrcW prog w A h₀ L m x.cps.size (SignAt x) (fun _ => True) news it { s with heap := g } → Q it { s with heap := g }) : wpAny (model prog w) A (pyIter (.str x t)) Q E s := by
  refine wpAny_pyIter_ascii ha (h _ _ ?_)
  refine ⟨_, _, _, rfl, Walks.strAscii hA s.heap.objs.size x t, hz, fun i h st => ?_, fun i h h' o nw st e e' _ _ _ => ?_, ⟨_, Heap.get?_push_size _ rfl, rfl, rfl⟩, fun b hb => ?_, F.keeps fun _ _ e => Heap.get?_push_of_some _ e, N.grown fun _ _ e => Heap.get?_push_of_some _ e, Nat.ne_of_lt F.ns.lt, next_is_new F, fun p hp => Nat.ne_of_lt (Heap.lt_size (N p hp).1), trivial⟩
  · obtain ⟨o, e, _⟩ := st; exact ⟨o, e⟩
  · obtain ⟨o', e0, r⟩ := st
    rw [e] at e0
    cases e0
    exact ⟨o, e', r⟩
  · rw [List.mem_singleton.mp hb]
    show s.heap.objs.size < (s.heap.push _).objs.size
    rw [Heap.size_push]; exact Nat.lt_succ_self _
theorem keys_src {d : Addr} {od : Obj} {es : Array DictEntry} {ep : Nat} {news : List (Addr × Obj)} (hA : A.handled = none) (hdd : od.data = .dict es ep) (hz : es.size ≤ sizeLine) (F : Fr h₀ L s.heap m) (N : News h₀ L s.heap news) (hm : (d, od) ∈ news) :
    SrcW prog w A h₀ L m es.size (fun i v => ∃ e, es[i]? = some e ∧ v = e.key) (fun nw => (d, od) ∈ nw) news (.ref s.heap.objs.size) { s with heap := s.heap.push (keyIt d es.size ep) } := by
  have hlt : d < s.heap.objs.size := Heap.lt_size (N _ hm).1
  refine ⟨_, _, _, rfl, anyKeys hA s.heap.objs.size d (Nat.ne_of_lt hlt) od es ep hdd, hz, fun i h st => ?_, fun i h h' o nw st e e' _ N' hS => ?_, ⟨⟨_, Heap.get?_push_size _ rfl, rfl, rfl⟩, Heap.get?_push_of_some _ (N _ hm).1⟩, fun b hb => ?_, F.keeps fun _ _ e => Heap.get?_push_of_some _ e, N.grown fun _ _ e => Heap.get?_push_of_some _ e, Nat.ne_of_lt F.ns.lt, next_is_new F, fun p hp => Nat.ne_of_lt (Heap.lt_size (N p hp).1), hm⟩
  · obtain ⟨⟨o, e, _⟩, _⟩ := st; exact ⟨o, e⟩
  · obtain ⟨⟨o', e0, r⟩, _⟩ := st
    rw [e] at e0
    cases e0
    exact ⟨⟨o, e', r⟩, (N' _ hS).1⟩
  · show b < (s.heap.push _).objs.size
    rw [Heap.size_push]
    rcases List.mem_cons.mp hb with rfl | hb
    · exact Nat.lt_succ_self _
    · rw [List.mem_singleton.mp hb]; exact Nat.lt_succ_of_lt hlt
end
end Mine
end
end JCw
section JGc
theorem Mine.fresh_Gc : True := by w_top off; exact trivial
open PySem PySem.W PyProof.Rows PySem.Spec PySem.Calls
set_option maxRecDepth 100000
set_option maxHeartbeats 8000000
noncomputable section
namespace Mine
theorem filledGc : Filled PySem.Challenge.rw_il0125_01 Mine.hd.heap_1_39 := by k_fill; exact True.intro
def genF (c : Int) : Int := (rangeKs 0 ((8 : Int) - 0).toNat).foldl (fun a' _ => if ¬Builtin.bitAnd a' 1 = 0 then Builtin.bitXor (a'.fdiv (2 ^ Int.toNat 1)) 3988292384 else a'.fdiv (2 ^ Int.toNat 1)) c
def movedF (r b : Int) : Int := Builtin.bitXor (r.fdiv (2 ^ Int.toNat 8)) (genF (Builtin.bitAnd (Builtin.bitXor r b) 255))
theorem gen_cb (w : World) (mean : ExcName → Option Value) (mg mb : Str → Option Value) :
  CbC 46 0 (∀ (news : CbLed) (v : Int) (t : CbTok), Clm 4 20 w mean mg mb 46 news [] True [.int v t] (fun t => .int (genF v) t)) := by
  k_with_none
  unfold CbC; dsimp only [Clm, CbLists, CbRet]
  intros; rename_i hret
  refine wpAny_call ?_
  cell_enter
  k_with "exec For Name Call cons nil" => kpr_for
  k_with "pyIter ref" => kpr_short
  k_steps
  cb_end hret
theorem moved_cb (w : World) (mean : ExcName → Option Value) (mg mb : Str → Option Value) :
  CbC 234 0 (∀ (news : CbLed) (v : Int) (t : CbTok) (v2 : Int) (t2 : CbTok), Clm 8 40 w mean mg mb 234 news [] True [.int v t, .int v2 t2] (fun t => .int (movedF v v2) t)) := by
  k_with_none
  have cg := gen_cb w mean mg mb
  dsimp only [Clm] at cg
  unfold CbC; dsimp only [Clm, CbLists, CbRet]
  intros; rename_i hret
  refine wpAny_call ?_
  cell_enter
  k_with "call ref" => k_call_by "_gen_crc" genF
  k_steps
  k_steps
  cb_end hret
end Mine
end
end JGc
section JIt
theorem Mine.fresh_It : True := by w_top off; exact trivial
open PySem PySem.W PyProof.Rows PySem.Spec PySem.Calls PyProof.Rows.LCg
set_option maxRecDepth 100000
set_option maxHeartbeats 4000000
noncomputable section
namespace Mine
section
variable {prog : Program} {w : World} {A : Around} {E : Value → Shared → Prop} {s : Shared} {env : Env} {h₀ : Heap} {target : Expr} {body : List Stmt} {Q : Flow → Shared → Prop} {ws : List (Addr × String)} {keep : List (Addr × Obj)}

theorem postW_mono {L : Addr} {s₁ : Shared} {its : List (Addr × Obj)} {rest rest' : (Str → Option Value) → List (Addr × Obj) → Prop} (hr : ∀ m n, rest m n → rest' m n) {f : Flow} {s₂ : Shared} (h : UnrPostW h₀ L s₁ its rest Q f s₂) : UnrPostW h₀ L s₁ its rest' Q f s₂ := by
  have fin : UnrEndW h₀ L s₁ its rest s₂ → UnrEndW h₀ L s₁ its rest' s₂ := fun ⟨h', tk, m', n', e, F, N, o, r⟩ => ⟨h', tk, m', n', e, F, N, o, hr _ _ r⟩
  cases f with
  | ret v => exact h
  | brk => exact h
  | next => exact fin h
  | cont => exact fin h
theorem allObj_mono : ∀ {ws : List (Addr × String)} {k k' : List (Addr × Obj) → Prop}, (∀ its, k its → k' its) → AllObj ws k → AllObj ws k'
  | [], _, _, h, x => h _ x
  | _ :: r, k, k', h, x => fun o ho => allObj_mono (ws := r) (fun its => h _) (x o ho)

/-- a loop over enumerate(a list), by what holds ahead of the rest of the list -/
theorem enum_ind (Inv : Nat → List Value → (Str → Option Value) → List (Addr × Obj) → Prop)
    (step : ∀ i v r m news, Inv i (v :: r) m news → ∀ T t h tk, IsTup h T #[.int (i : Int) t, v] → Fr h₀ env.locals h m → AllObj ws (fun its => News h₀ env.locals h (its ++ news) →
      wpAny (model prog w) A (assign target env (.ref T)) (fun _ s₂ => wpAny (model prog w) A (execs body env) (UnrPostW h₀ env.locals { s with heap := h, toks := tk } its (fun m' n' => SubL keep n' ∧ Inv (i + 1) r m' n') Q) E s₂) E { s with heap := h, toks := tk }))
    (done : ∀ i m news, Inv i [] m news → ∀ h tk, Fr h₀ env.locals h m → News h₀ env.locals h news → Q .next { s with heap := h, toks := tk }) :
    ∀ vs i m news, Inv i vs m news → ItemsRest prog w A E h₀ env target body Q s ws keep (enumItems i vs) m news
  | [], i, m, news, h => ItemsRest.zero (done i m news h)
  | v :: r, i, m, news, h => ItemsRest.pair fun T t h' tk hT F => allObj_mono (fun _ x N => wpAny_mono (x N) (fun _ _ y => wpAny_mono y (fun _ _ z => postW_mono (fun m' n' q => ⟨q.1, enum_ind Inv step done r (i + 1) m' n' q.2⟩) z) fun _ _ e => e) fun _ _ e => e) (step i v r m news h T t h' tk hT F)

/-- a loop over a list's values -/
theorem val_ind (Inv : List Value → (Str → Option Value) → List (Addr × Obj) → Prop)
    (step : ∀ v r m news, Inv (v :: r) m news → ∀ h tk, Fr h₀ env.locals h m → AllObj ws (fun its => News h₀ env.locals h (its ++ news) →
      wpAny (model prog w) A (assign target env v) (fun _ s₂ => wpAny (model prog w) A (execs body env) (UnrPostW h₀ env.locals { s with heap := h, toks := tk } its (fun m' n' => SubL keep n' ∧ Inv r m' n') Q) E s₂) E { s with heap := h, toks := tk }))
    (done : ∀ m news, Inv [] m news → ∀ h tk, Fr h₀ env.locals h m → News h₀ env.locals h news → Q .next { s with heap := h, toks := tk }) :
    ∀ vs m news, Inv vs m news → ItemsRest prog w A E h₀ env target body Q s ws keep (vs.map .val) m news
  | [], m, news, h => ItemsRest.zero (done m news h)
  | v :: r, m, news, h => ItemsRest.val fun h' tk F => allObj_mono (fun _ x N => wpAny_mono (x N) (fun _ _ y => wpAny_mono y (fun _ _ z => postW_mono (fun m' n' q => ⟨q.1, val_ind Inv step done r m' n' q.2⟩) z) fun _ _ e => e) fun _ _ e => e) (step v r m news h h' tk F)
theorem fr_map {h : Heap} {L : Addr} {m m' : Str → Option Value} (F : Fr h₀ L h m) (e : ∀ y, m y = m' y) : Fr h₀ L h m' := by
  have : m = m' := funext e
  rw [← this]; exact F
end
end Mine
end
end JIt
section JMs
theorem Mine.fresh_Ms : True := by w_top off; exact trivial
open PySem PySem.W PyProof.Rows PySem.Spec PySem.Calls
set_option maxRecDepth 100000
set_option maxHeartbeats 4000000
noncomputable section
namespace Mine
theorem filledMs : Filled PySem.Challenge.rw_il0125_01 Mine.hd.heap_1_39 := by k_fill; exact True.intro
def boundO (B : Addr) : Obj := { cls := .type "builtin_function_or_method", data := .fields #[.builtin "collections.defaultdict.__missing__", .ref B] }
def BoundQ (s : Shared) (B : Addr) (Q : Value → Shared → Prop) : Prop := ∀ (h : Heap) (q : Addr), (∀ b o, s.heap.get? b = some o → h.get? b = some o) → h.get? q = some (boundO B) → s.heap.get? q = none → Q (.ref q) { s with heap := h }
theorem endB {s : Shared} {Q : Value → Shared → Prop} {B q : Addr} {h : Heap} (hQ : BoundQ s B Q) (D : W.X.Mem s.heap h [] [(q, boundO B)]) : Q (Value.ref q) { heap := h, gens := s.gens, drawn := s.drawn, toks := s.toks, os := s.os } :=
  hQ h q (fun b o e => D.keep b o e (Bool.or_true _)) (D.at 0 _ _ rfl) (D.nw _ (.head _)).2
section
local macro_rules | `(tactic| x_close) => `(tactic| (rename W.X.Mem _ _ [] [_] => D; exact endB (by assumption) D))
theorem mgetX (w : World) (s : Shared) (_X : (Mine.hd.heap_1_39 w.params).In s.heap) (Q E : Value → Shared → Prop) (B d fa : Addr) (es : Array DictEntry) (ep : Nat) (hB : s.heap.get? B = some ⟨.ref 115, some d, .dict es ep, #[some (.ref fa)]⟩) (hQ : BoundQ s B Q) :
   wpAny (model PySem.Challenge.pw_il0125_01 w) AX (call (.builtin "method_descriptor.__get__") [.builtin "collections.defaultdict.__missing__", .ref B, .ref 115]) Q E s := by
  x_run
end
def NoFrQ (s : Shared) (q : Addr) (Q : Value → Shared → Prop) : Prop := ∀ (h : Heap) (tk : Nat), (∀ b o, s.heap.get? b = some o → h.get? b = some o) → Q (.ref q) { s with heap := h, toks := tk }
theorem endN {s : Shared} {Q : Value → Shared → Prop} {q : Addr} {h : Heap} {l : List (Addr × Obj)} {tk : Nat} (hQ : NoFrQ s q Q) (D : W.X.Mem s.heap h [] l) : Q (Value.ref q) { heap := h, gens := s.gens, drawn := s.drawn, toks := tk, os := s.os } :=
  hQ h tk (fun b o e => D.keep b o e (Bool.or_true _))
section
local macro_rules | `(tactic| x_close) => `(tactic| (rename W.X.Mem _ _ [] _ => D; exact endN (by assumption) D))
theorem noFrozenX (w : World) (s : Shared) (_X : (Mine.hd.heap_1_39 w.params).In s.heap) (Q E : Value → Shared → Prop) (B d fa q : Addr) (es : Array DictEntry) (ep : Nat) (t1 : Tok) (hB : s.heap.get? B = some ⟨.ref 115, some d, .dict es ep, #[some (.ref fa)]⟩) (hd : s.heap.get? d = some ⟨.type "dict", none, .dict #[] 0, #[]⟩) (hQ : NoFrQ s q Q) :
   wpAny (model PySem.Challenge.pw_il0125_01 w) AX (call (.builtin "getattr") [.ref B, .str (Str.ofString "_frozen") t1, .ref q]) Q E s := by
  x_run
end
section
local macro_rules | `(tactic| x_close) => `(tactic| assumption)
theorem frozenX (w : World) (s : Shared) (_X : (Mine.hd.heap_1_39 w.params).In s.heap) (Q E : Value → Shared → Prop) (B d fa q lam : Addr) (es : Array DictEntry) (ep n : Nat) (t1 t2 : Tok) (h0 : Int) (hB : s.heap.get? B = some ⟨.ref 115, some d, .dict es ep, #[some (.ref fa)]⟩) (hd : s.heap.get? d = some ⟨.type "dict", none, .dict #[⟨h0, .str (Str.ofString "_frozen") t2, .ref lam⟩] n, #[]⟩) (hQ : Q (.ref lam) s) :
   wpAny (model PySem.Challenge.pw_il0125_01 w) AX (call (.builtin "getattr") [.ref B, .str (Str.ofString "_frozen") t1, .ref q]) Q E s := by
  x_run
end
def boundOk (id full : String) (args : Args) : Prop := (match Manifest.signature? id with
  | some sig => Bind.checkArgs id { sig with full := full } args
  | none => pure ()) = pure ()
theorem bound_ok (a b : Value) : boundOk "collections.defaultdict.__missing__" "FreezableDefaultDict.__missing__" ⟨[a, b], []⟩ := by unfold boundOk; kernel_rfl
theorem bound_check {w : World} {A : Around} {s : Shared} {B : Addr} {o od : Obj} {key : Value} {Q : Unit → Shared → Prop} {E : Value → Shared → Prop} (X : (Mine.hd.heap_1_39 w.params).In s.heap) (I : InstAt s.heap B o 115 (some od)) (h : Q () s) :
    wpAny (model PW w) A (checkBoundCall "collections.defaultdict.__missing__" ⟨[.ref B, key], []⟩) Q E s := by
  obtain ⟨oc, od', cd, sl, ho, hm⟩ : ∃ oc od cd sl, (Mine.hd.heap_1_39 w.params).lookup 115 = some ⟨oc, od, .cls cd, sl⟩ ∧ cd.qualname = Str.ofString "FreezableDefaultDict" := ⟨_, _, _, _, by k_is, rfl⟩
  have hmod : Looks (model PW w) s.heap (isInstance (.ref B) (.type "module")) false := (I.type (M := model PW w)).andThen (looks_subIn X (by k_is))
  have L0 : Looks (model PW w) s.heap (typeOf (.ref 115)) (.type "type") := looks_typeIn X (by k_is)
  have hk := bound_ok (.ref B) key
  unfold boundOk at hk
  have kd : builtinKind "collections.defaultdict.__missing__" = some .method := by decide +kernel
  obtain ⟨hh, g, dd, t, os⟩ := s
  unfold checkBoundCall
  cases hsig : Manifest.signature? "collections.defaultdict.__missing__" with
  | none => exact wpAny_pure h
  | some sig =>
    rw [hsig] at hk
    dsimp only at hk ⊢
    rw [kd]
    dsimp only
    rw [if_neg (by decide)]
    refine wpAny_bind (hmod.here ?_)
    rw [if_neg (by decide +kernel)]
    refine wpAny_bind (ks_wpAny_isType_inst I.at_ (fun c e => ?_) ?_)
    · have := I.no
      unfold notCls at this
      rw [e] at this
      exact Bool.noConfusion this
    rw [if_neg (by decide)]
    refine wpAny_bind (I.type.here ?_)
    dsimp only
    have hC : hh.get? 115 = some ⟨oc, od', .cls cd, sl⟩ := X _ _ ho
    unfold PySem.classData
    refine wpAny_bind (wpAny_bind (wpAny_load hC (wpAny_pure ?_)))
    refine wpAny_bind (L0.here ?_)
    rw [if_pos (by decide), hm]
    have hn : (toString (Str.ofString "FreezableDefaultDict").toString ++ toString "." ++ toString (Bind.lastOf "collections.defaultdict.__missing__")) = "FreezableDefaultDict.__missing__" := by decide +kernel
    rw [hn, hk]
    exact wpAny_pure h
theorem borrowed_keep (f : Value) (pos : List Value) : callBorrowed f pos = (call f pos).keep [borrowed] := by
  unfold callBorrowed call runValue run
  refine congrArg (Sem.call _ _ _ _) (funext fun r => ?_)
  rcases r with e | f
  · rfl
  · cases f <;> rfl
theorem entry_dd_missing : entryFor table "collections.defaultdict.__missing__" = some Builtin.«collections.defaultdict.__missing__» := entryFor_of_tree (by kernel_rfl)
theorem plain_dd_missing : plainId "collections.defaultdict.__missing__" = true := by decide +kernel
theorem entry_setdefault : entryFor table "dict.setdefault" = some Builtin.«dict.setdefault» := entryFor_of_tree (by kernel_rfl)
theorem plain_setdefault : plainId "dict.setdefault" = true := by decide +kernel
section
variable {w : World} {A : Around} {E : Value → Shared → Prop} {s : Shared} {B f d : Addr} {o : Obj} {kvs : List (Str × Value)} {k : Str} {key v : Value}
theorem BookAt.setDefault {Q : Value → Shared → Prop} (hb : BookAt w o f d kvs) (ho : s.heap.get? B = some o) (hkey : (PySem.strKind PW w).is k key = true) (hsz : kvs.length ≤ sizeLine) (hv : valueAt kvs k = none)
    (hQ : ∀ h' o', h'.get? B = some o' → BookAt w o' f d (stored kvs k v) → Heap.SameBut B s.heap h' → Q v { s with heap := h', toks := s.toks + 1 }) : wpAny (model PW w) A (dictSetDefault B key v) Q E s := by
  obtain ⟨es, ep, rfl, hk, hp, hn⟩ := hb
  have hes : es.size ≤ sizeLine := by
    have e1 := hp.length
    have e2 : es.toList.length = es.size := by simp
    omega
  unfold PySem.dictSetDefault
  refine wpAny_holding ?_
  refine wpAny_bind ((PySem.strKind PW w).pyHash hkey ?_)
  refine wpAny_bind (wpAny_dictFind_of (s := { s with toks := s.toks + 1 }) hkey ho rfl hk ?_)
  have hidx : (es.findIdx? fun e => (PySem.strKind PW w).is k e.key) = kvs.findIdx? fun kv => decide (kv.1 = k) := by
    rw [← hp.findIdx k]; obtain ⟨l⟩ := es; simp
  cases hi : es.findIdx? fun e => (PySem.strKind PW w).is k e.key with
  | some i =>
    have e2 : (es.toList.findIdx? fun e => (PySem.strKind PW w).is k e.key) = some i := by rw [← hi]; obtain ⟨l⟩ := es; simp
    obtain ⟨e, _, _, hv'⟩ := hp.at e2
    rw [hv] at hv'; cases hv'
  | none =>
    have hnot : k ∉ kvs.map (·.1) := not_mem_of_findIdx_none (hidx ▸ hi)
    have hany : ¬ (kvs.any fun kv => decide (kv.1 = k)) = true := by
      rw [List.any_eq_true]; rintro ⟨kv, hkv, he⟩
      exact hnot (List.mem_map.mpr ⟨kv, hkv, of_decide_eq_true he⟩)
    refine wpAny_bind (wpAny_rule (wpAny_bind (wpAny_updateDictKeys (hz := hes) (s := { s with toks := s.toks + 1 }) ho rfl (wpAny_pure (hQ _ _ (Heap.get?_update_self _ ho rfl) ⟨_, ep + 1, rfl, hk.push hkey _, ?_, ?_⟩ (Heap.SameBut.update ..))))))
    · rw [stored, if_neg hany]
      have := hp.append hkey ((PySem.strKind PW w).hash k) v
      obtain ⟨l⟩ := es
      simpa using this
    · rw [stored, if_neg hany, List.map_append, List.nodup_append]
      refine ⟨hn, by simp, ?_⟩
      intro a ha b hb
      simp only [List.map_cons, List.map_nil, List.mem_singleton] at hb
      subst hb
      exact fun e => hnot (e ▸ ha)
/-- the bound super().__missing__ of a book, called with a key that lacks: by a call of the factory -/
theorem bound_call {q : Addr} {fo od : Obj} {fd : FuncData} {Q : Value → Shared → Prop} (X : (Mine.hd.heap_1_39 w.params).In s.heap) (hb : BookAt w o f d kvs) (ho : s.heap.get? B = some o) (hd : s.heap.get? d = some od) (hq : s.heap.get? q = some (boundO B)) (hf : s.heap.get? f = some fo) (hfd : fo.data = .func fd)
    (h : wpAny (model PW w) A.in1 (call (.ref f) []) (fun v s' => wpAny (model PW w) A.in1 (Builtin.«dict.setdefault» ⟨[.ref B, key, v], []⟩) (EndsTo PW w A Q E) E s') E s) : wpAny (model PW w) A (call (.ref q) [key]) Q E s := by
  obtain ⟨es, ep, rfl, hk, hp, hn⟩ := hb
  refine wpAny_call ?_
  refine codeAny_of_tree ?_
  show wpAny _ A.in1 (callAny (.ref q) ⟨[key], []⟩) _ _ _
  unfold callAny
  refine wpAny_bind (wpAny_load hq ?_)
  show wpAny _ _ (do checkBoundCall "collections.defaultdict.__missing__" ⟨[.ref B, key], []⟩; return ← again (.builtin "collections.defaultdict.__missing__" ⟨[.ref B, key], []⟩)) _ _ _
  refine wpAny_bind (bound_check X (book_inst ⟨es, ep, rfl, hk, hp, hn⟩ ho hd) (wpAny_bind (wpAny_pure (wpAny_pure ⟨plainId_quiet plain_dd_missing _, codeAny_builtin entry_dd_missing ?_⟩))))
  rw [Around.under_plainId plain_dd_missing]
  unfold Builtin.«collections.defaultdict.__missing__» Builtin.Collections_defaultdict.factory?
  refine wpAny_bind (wpAny_pure ?_)
  unfold slotAt
  refine wpAny_bind (wpAny_bind (wpAny_bind (wpAny_loadPart ho (wpAny_pure (wpAny_pure ?_)))))
  show wpAny _ _ (callOutOfASlot (.ref f) >>= _) _ _ _
  unfold callOutOfASlot borrowsExactly
  refine wpAny_bind (wpAny_bind (wpAny_bind (wpAny_load hf ?_)))
  rw [hfd]
  refine wpAny_pure ?_
  rw [if_pos rfl]
  rw [borrowed_keep]
  refine Calls.wpAny_keep (wpAny_mono h (fun v s' hv => ?_) fun _ _ z => z)
  exact wpAny_pure ⟨plainId_quiet plain_setdefault _, codeAny_builtin entry_setdefault (by rw [Around.under_plainId plain_setdefault]; exact hv)⟩
end
end Mine
end
end JMs
section JAt
theorem Mine.fresh_At : True := by w_top off; exact trivial
open PySem PySem.W PyProof.Rows PySem.Spec PySem.Calls
set_option maxRecDepth 100000
set_option maxHeartbeats 2000000
noncomputable section
namespace Mine
section
variable {α : Type} {prog : Program} {w : World} {M : Model} {A : Around} {c : Code} {E : Value → Shared → Prop} {s : Shared} {env : Env}
theorem at_Call {func : Expr} {args : List Expr} {pos : Pos} {Q : Value → Shared → Prop}
    (h : PySem.wpAt M A c (eval func env) (fun f s₁ => PySem.wpAt M A c (callWith pos f [] (backTo pos (starEach args env)) []) Q E s₁) E s)
    (he : eval (.Call func args [] pos) env = (do callWith pos (← eval func env) [] (backTo pos (starEach args env)) (backToKw pos (keywordEach [] env))) := by rfl) :
    PySem.wpAt M A c (eval (.Call func args [] pos) env) Q E s := by
  rw [he]; exact PySem.wpAt_bind h
theorem at_spliced {x y : Sem Value} {rest : List (Bool × Sem Value)} {Q : List Value → Shared → Prop}
    (h : PySem.wpAt M A c x (fun v s₁ => PySem.wpAt M A c (spliced rest) (fun vs s₂ => Q (v :: vs) s₂) E s₁) E s) : PySem.wpAt M A c (spliced ((false, if false = true then y else x) :: rest)) Q E s := by
  show PySem.wpAt M A c (do let v ← x; let here ← pure [v]; return here ++ (← holding here (spliced rest))) Q E s
  refine PySem.wpAt_bind (PySem.wpAt_mono h (fun v s₁ h₁ => ?_) fun _ _ z => z)
  refine PySem.wpAt_bind (PySem.wpAt_of_wpAny (wpAny_pure ?_))
  refine PySem.wpAt_bind (ks_wpAt_holding (PySem.wpAt_mono h₁ (fun vs s₂ h₂ => ?_) fun _ _ z => z))
  exact PySem.wpAt_of_wpAny (wpAny_pure h₂)
theorem at_callWith_builtin {id : String} {pos : Pos} {x : Sem Value} {rest : List (Bool × Sem Value)} {Q : Value → Shared → Prop} (hplain : ((false, x) :: rest).any (·.1) = false)
    (h : PySem.wpAt M A c (spliced ((false, x) :: rest)) (fun vs s₁ => wpAny M A (call (.builtin id) vs) Q E s₁) E s) : PySem.wpAt M A c (callWith pos (.builtin id) [] ((false, x) :: rest) []) Q E s := by
  unfold callWith evalArgs
  refine PySem.wpAt_bind (ks_wpAt_holding ?_)
  show PySem.wpAt M A c (spliced ((false, x) :: rest) >>= _) _ E s
  refine PySem.wpAt_bind (PySem.wpAt_mono h (fun vs s₁ h₁ => ?_) fun _ _ z => z)
  refine PySem.wpAt_of_wpAny (wpAny_holding ?_)
  refine wpAny_bind (wpAny_pure (wpAny_bind (wpAny_pure (wpAny_pure ?_))))
  refine PySem.wpAt_of_wpAny (wpAny_bind (wpAny_standAt ?_))
  have hp : (((false, x) :: rest).any (·.1) || ([] : List (Option Str × Sem Value)).any (·.1.isNone)) = false := by rw [hplain]; rfl
  simp only [hp]
  refine wpAny_bind (wpAny_pure ?_)
  dsimp only
  exact wpAny_bind (wpAny_mono h₁ (fun r s₂ h₂ => wpAny_bind (wpAny_holding (wpAny_point (wpAny_pure h₂)))) fun _ _ z => z)
theorem at_Attribute {value : Expr} {attr : Str} {pos : Pos} {Q : Value → Shared → Prop}
    (h : PySem.wpAt (model prog w) A c (attributeBase value attr env (eval value env)) (fun o s₁ => wpAny (model prog w) A (getAttr o attr true) Q E s₁) E s)
    (he : eval (.Attribute value attr pos) env = (do
      let o ← attributeBase value attr env (eval value env)
      standAt pos.atName
      let r ← holding [o] (getAttr o attr true)
      letTemporaryGo value o r
      pure r) := by with_unfolding_all rfl) : PySem.wpAt (model prog w) A c (eval (.Attribute value attr pos) env) Q E s := by
  rw [he]
  refine PySem.wpAt_bind (PySem.wpAt_mono h (fun o s₁ h₁ => PySem.wpAt_of_wpAny (wpAny_bind (wpAny_standAt (wpAny_bind (wpAny_holding (wpAny_mono h₁ (fun r s₂ h₂ => ?_) fun _ _ x => x)))))) fun _ _ x => x)
  exact wpAny_bind (wpAny_letTemporaryGo (wpAny_pure h₂))
end
end Mine
end
end JAt
section JSu
theorem Mine.fresh_Su : True := by w_top off; exact trivial
open PySem PySem.W PyProof.Rows PySem.Spec PySem.Calls
set_option maxRecDepth 100000
set_option maxHeartbeats 1000000
noncomputable section
namespace Mine
theorem filledSu : Filled PySem.Challenge.rw_il0125_01 Mine.hd.heap_1_39 := by k_fill; exact True.intro
theorem md_get : typeLookup (.type "method_descriptor") "__get__" = pure (some (.builtin "method_descriptor.__get__")) := by rw [typeLookup_type, builtinLookup_eq_fast]; kernel_rfl
theorem ddm_type : typeOf (.builtin "collections.defaultdict.__missing__") = pure (.type "method_descriptor") := by kernel_rfl
theorem su_ga {prog : Program} {w : World} {A : Around} {E : Value → Shared → Prop} {h : Heap} {g : Array GenState} {d : Drawn} {t : Nat} {os : OsState} {so D x C : Addr} {l₀ l : List Value} {K : Frag} {name : Str} {tk : Tok} {Q : Fin → Shared → Prop} {id : String}
    (hso : h.get? so = some { cls := .type "super", dict := none, data := .fields #[.ref D, .ref x, .ref C], slots := #[] }) (hno : Looks (model prog w) h (opaqueClassAbove (.ref C)) none)
    (hC : Looks (model prog w) h (mroOf (.ref C)) l₀) (hl : (l₀.dropWhile (· != .ref D)).drop 1 = l) (X : K.In h)
    (hf : alongIn K name l = some (some (.builtin id))) (hty : typeOf (.builtin id) = pure (.type "method_descriptor")) (hxC : x ≠ C) (hn : (name == ("__class__" : Str)) = false)
    (hq : wpAny (model prog w) A (call (.builtin "method_descriptor.__get__") [.builtin id, .ref x, .ref C]) (fun v s' => Q (.done (.ret v)) s') E ⟨h, g, d, t, os⟩) :
    wpAny (model prog w) A (Builtin.«super.__getattribute__» ⟨[.ref so, .str name tk], []⟩) Q E ⟨h, g, d, t, os⟩ := by
  have hlk := md_get
  have hTf : (⟨h, g, d, t, os⟩ : Shared).TypeIs (.builtin id) "method_descriptor" := hty
  have hne : (Value.ref x == Value.ref C) = false := by simp [hxC]
  have hdt : ({ cls := .type "super", dict := none, data := .fields #[.ref D, .ref x, .ref C], slots := #[] } : Obj).data = .fields #[.ref D, .ref x, .ref C] := rfl
  have f0 : (#[.ref D, .ref x, .ref C] : Array Value)[0]? = some (.ref D) := rfl
  have f1 : (#[.ref D, .ref x, .ref C] : Array Value)[1]? = some (.ref x) := rfl
  have f2 : (#[.ref D, .ref x, .ref C] : Array Value)[2]? = some (.ref C) := rfl
  unfold Builtin.«super.__getattribute__»
  repeat (first
    | (with_reducible refine wpAny_field hso hdt f0 ?_) | (with_reducible refine wpAny_field hso hdt f1 ?_) | (with_reducible refine wpAny_field hso hdt f2 ?_)
    | (with_reducible refine ks_wpAny_notOpaque hno ?_)
    | (with_reducible refine Looks.at hC ?_; rw [hl])
    | (refine ks_forIn_along X (fun _ _ => rfl) rfl ?_ hf)
    | (with_reducible refine wpAny_typeOf hTf ?_)
    | (with_reducible refine wpAny_mono hq (fun a s' z => ?_) fun _ _ z => z)
    | (simp only [hn, hne, Bool.or_false, Bool.false_eq_true, if_false])
    | wp_step
    | dsimp only)
  all_goals assumption
theorem book_super (w : World) {A : Around} (hA : A.handled = none) (hdp : A.depth ≤ 700) (hu : A.units ≤ 6900) {E : Value → Shared → Prop} {h : Heap} {g : Array GenState} {dd : Drawn} {t : Nat} {os : OsState} {so B f d : Addr} {kvs : List (Str × Value)} {o od : Obj} {expr : Bool} {Q : Value → Shared → Prop}
    (X : (Mine.hd.heap_1_39 w.params).In h) (hb : BookAt w o f d kvs) (ho : h.get? B = some o) (hd : h.get? d = some od) (hso : h.get? so = some (ks_superObj 115 B 115))
    (hQ : BoundQ ⟨h, g, dd, t + 1, os⟩ B Q) : wpAny (model PW w) A (getAttr (.ref so) (Str.ofString "__missing__") expr) Q E ⟨h, g, dd, t, os⟩ := by
  have I : InstAt h B o 115 (some od) := book_inst (s := ⟨h, g, dd, t, os⟩) hb ho hd
  have hlk := F.ks_slot_super_ga.lookup
  have hT : ∀ t', (⟨h, g, dd, t', os⟩ : Shared).TypeIs (.ref so) "super" := fun _ => ⟨_, hso, rfl⟩
  obtain ⟨oc, od', cd, sl, hK, hm⟩ : ∃ oc od cd sl, (Mine.hd.heap_1_39 w.params).lookup 115 = some ⟨oc, od, .cls cd, sl⟩ ∧ cd.mro = [.ref 115, .type "collections.defaultdict", .type "dict", .type "object"] := ⟨_, _, _, _, by k_is, rfl⟩
  have hcl : clsIn (Mine.hd.heap_1_39 w.params) 115 = some cd := by unfold clsIn; rw [hK]
  have hno : Looks (model PW w) h (opaqueClassAbove (.ref 115)) none := looks_opaque X (by k_is)
  have hC : Looks (model PW w) h (mroOf (.ref 115)) cd.mro := (looks_clsIn X hcl).andThen .now
  have hf : alongIn (Mine.hd.heap_1_39 w.params) (Str.ofString "__missing__") [.type "collections.defaultdict", .type "dict", .type "object"] = some (some (.builtin "collections.defaultdict.__missing__")) := by kernel_rfl
  have hne : (Value.ref B == Value.ref 115) = false := by simp [ks_ne X I hcl]
  have hn : ((Str.ofString "__missing__") == ("__class__" : Str)) = false := by decide +kernel
  have hl : (cd.mro.dropWhile (· != .ref 115)).drop 1 = [.type "collections.defaultdict", .type "dict", .type "object"] := by rw [hm]; rfl
  unfold getAttr getAttrBy
  refine wpAny_bind (wpAny_mkText (wpAny_holding (wpAny_bind (wpAny_typeOf (hT _) (wpAny_bind (wpAny_of_eq hlk ?_))))))
  show wpAny _ _ (getAttrByItsOwn (.ref so) (.str (Str.ofString "__missing__") t) (.type "super") (.builtin "super.__getattribute__") true expr) _ _ _
  unfold getAttrByItsOwn hookBefore callGetattribute boundAndCalled
  refine wpAny_bind (wpAny_of_eq (show (if onTheHeap (.type "super") then typeLookup (.type "super") "__getattr__" else pure none) = pure none from rfl) ?_)
  refine wpAny_bind (wpAny_attempt (wpAny_holding ?_))
  rw [if_neg (by rw [show onTheHeap (.builtin "super.__getattribute__") = false from rfl, Bool.and_false]; decide)]
  refine wpAny_bind (wpAny_of_eq (F.ks_slot_super_ga.bind _) ?_)
  show wpAny _ _ (call (.builtin "super.__getattribute__") [.ref so, .str (Str.ofString "__missing__") t]) _ _ ⟨h, g, dd, t + 1, os⟩
  with_reducible refine wpAny_call_entry F.ks_slot_super_ga (hT _) F.ks_entry_super_ga ?_ (F.ks_gaArgs_super _ _)
  refine su_ga hso hno hC hl X hf ddm_type (ks_ne X I hcl) hn ?_
  obtain ⟨es, ep, rfl, _⟩ := hb
  refine wpAny_wide (A := AX) hA (by show A.depth ≤ 700; omega) rfl rfl (by show A.units + 1 ≤ 7000; omega) (mgetX w _ X _ _ B d f es ep ho ?_)
  intro h' q k1 k2 k3
  refine ⟨_, rfl, ?_⟩
  exact wpAny_pure (hQ h' q k1 k2 k3)
end Mine
end
end JSu
section JMw
theorem Mine.fresh_Mw : True := by w_top off; exact trivial
open PySem PySem.W PyProof.Rows PySem.Spec PySem.Calls
set_option maxRecDepth 100000
set_option maxHeartbeats 2000000
noncomputable section
namespace Mine
theorem filledMw : Filled PySem.Challenge.rw_il0125_01 Mine.hd.heap_1_39 := by k_fill; exact True.intro
/-- the factory f (its code object c) gives 2 ** 32 - 1 wherever it is called -/
def FacOk (w : World) (mean : ExcName → Option Value) (mg mb : Str → Option Value) (f c : Addr) (fo co : Obj) : Prop :=
  (∃ fd, fo.data = .func fd) ∧ ∀ (news : List (Addr × Obj)) (A' : Around) (cn : Str) (cs : Scope) (a : Addr) (ccd : Value) (cl : List (Str × Addr)) (outer : List Env) (A₀ : Around) (base h₀ : Heap) (L : Addr) (m : Str → Option Value) (s : Shared) (Q E : Value → Shared → Prop),
    A'.frames = some (envX cn cs L a ccd cl :: outer) → A'.handled = none → A'.depth ≤ 560 → A'.units ≤ 6000 → Below A₀ base outer h₀ → Fr h₀ L s.heap m → (Mine.hd.heap_1_39 w.params).In h₀ → News h₀ L s.heap news → (f, fo) ∈ news → (c, co) ∈ news → Top topProg LO mean mg mb h₀ → cs.kind = .function →
    (∀ h' tk' t, Fr h₀ L h' m → News h₀ L h' news → Q (.int 4294967295 t) { s with heap := h', toks := tk' }) →
    wpAny (model PW w) A' (call (.ref f) []) Q E s
section
variable {w : World} {A : Around} {s : Shared} {B f d : Addr} {o od : Obj} {kvs : List (Str × Value)} {k : Str} {key v : Value}
theorem book_setdefault {A' : Around} {Q E : Value → Shared → Prop} (X : (Mine.hd.heap_1_39 w.params).In s.heap) (hb : BookAt w o f d kvs) (ho : s.heap.get? B = some o) (hd : s.heap.get? d = some od) (hB : (B == sysModules) = false) (hkey : (PySem.strKind PW w).is k key = true) (hsz : kvs.length ≤ sizeLine) (hv : valueAt kvs k = none)
    (hQ : ∀ h' o', h'.get? B = some o' → BookAt w o' f d (stored kvs k v) → Heap.SameBut B s.heap h' → Q v { s with heap := h', toks := s.toks + 1 }) :
    wpAny (model PW w) A (Builtin.«dict.setdefault» ⟨[.ref B, key, v], []⟩) (EndsTo PW w A' Q E) E s := by
  have I := book_inst (s := s) hb ho hd
  unfold Builtin.«dict.setdefault» Builtin.Dict.keyAndDefault
  refine wpAny_bind (wpAny_bind (book_notOrd X I rfl ?_))
  show wpAny _ _ (pure (B, key, some v)) _ _ _
  refine wpAny_pure ?_
  show wpAny _ _ (if (B == sysModules) = true then _ else (dictSetDefault B key v >>= fun r => ret r)) _ _ _
  rw [if_neg (by rw [hB]; decide)]
  refine wpAny_bind (hb.setDefault ho hkey hsz hv fun h' o' e hb' hs' => ?_)
  exact wpAny_pure (hQ h' o' e hb' hs')
end
section
variable {prog : Program} {w : World} {A : Around} {E : Value → Shared → Prop} {s : Shared} {env : Env} {q B : Addr}
theorem callWith_B {pos : Pos} {e : Expr} {rest : List Expr} {Q : Value → Shared → Prop} (h : wpAny (model prog w) A (spliced (backTo pos (starEach (e :: rest) env))) (fun vs s₁ => s₁.heap.get? q = some (boundO B) ∧ wpAny (model prog w) A (call (.ref q) vs) Q E s₁) E s)
    (he : starEach (e :: rest) env = (false, eval e env) :: starEach rest env := by rfl) (hplain : (backTo pos (starEach rest env)).any (·.1) = false := by rfl) :
    wpAny (model prog w) A (callWith pos (.ref q) [] (backTo pos (starEach (e :: rest) env)) []) Q E s := by
  rw [he] at h ⊢
  exact callWith_of (P := fun h => h.get? q = some (boundO B)) (by show ((false || (backTo pos (starEach rest env)).any (·.1)) || false) = false; rw [hplain]; rfl) (fun h hq => ⟨.machine, .inr (.inl rfl), (Looks.ld (part := none) hq).andThen .now⟩) (evalArgs_plain h)
end
theorem miss_walk (w : World) (mean : ExcName → Option Value) (mg mb : Str → Option Value) (news : CbLed) (B f c d : Addr) (o fo co : Obj) (kvs : List (Str × Value)) (k : Str) (tk0 : Tok) (A' : Around)
  (cn : Str) (cs : Scope) (a : Addr) (ccd : Value) (cl : List (Str × Addr)) (outer : List Env) (A₀ : Around) (base h₀ : Heap) (L : Addr) (m : Str → Option Value) (s : Shared) (Q E : Value → Shared → Prop)
  (hA1 : A'.frames = some (envX cn cs L a ccd cl :: outer)) (hA2 : A'.handled = none) (hA3 : A'.depth ≤ 520) (hA4 : A'.units ≤ 5020)
  (hB : Below A₀ base outer h₀) (hF : Fr h₀ L s.heap m) (hX : (Mine.hd.heap_1_39 w.params).In h₀) (hN : News h₀ L s.heap ((B, o) :: news)) (hT : Top topProg LO mean mg mb h₀) (hcs : cs.kind = .function)
  (hb : BookAt w o f d kvs) (hd : (d, emptyD) ∈ news) (hf : (f, fo) ∈ news) (hc : (c, co) ∈ news) (hoff : ∀ p ∈ news, p.1 ≠ B) (hsys : (B == sysModules) = false) (hfac : FacOk w mean mg mb f c fo co) (hsz : kvs.length ≤ sizeLine) (hv : valueAt kvs k = none)
  (hret : ∀ h' tk' t o', Fr h₀ L h' m → News h₀ L h' ((B, o') :: news) → BookAt w o' f d (stored kvs k (.int 4294967295 t)) → Q (.int 4294967295 t) { s with heap := h', toks := tk' }) :
  wpAny (model PW w) A' (call (.ref 105) [.ref B, .str k tk0]) Q E s := by
  k_with_none
  have rl : recursionLimit = 1000 := rfl
  refine wpAny_call ?_
  (refine' ks_code_super (A := A') ?k1 ?k2 ?k3 ?k4 ?k5 ?kA ?kF ?kK ?k6 ?k7 ?k8 ?k9 ?kB ?_ ?c1 ?c2 ?c3 ?c4; (case kA => exact hA1); (case kF => exact rfl); (case kK => assumption); (case k1 => k_asm); (case k2 => k_asm); (case k3 => k_asm); (case k4 => k_asm); (case k5 => k_asm); (case k6 => k_is); (case k7 => k_is); (case k8 => (show A'.depth < recursionLimit; omega)); (case k9 => exact BindsTo.of_eq rfl); (case kB => exact locs rfl); (case c1 => decide); (case c2 => exact rfl); (case c3 => exact rfl); (case c4 => exact rfl); intro g5 L5 h5 FG5 F5 N5 B5 X5 T5 l5; (try dsimp only))
  refine ks_wpAt_execs_cons (ks_wpAt_Return_some ?_)
  refine at_Call ?_
  refine at_Call ?_
  refine PySem.wpAt_of_wpAny ?_
  iterate 1 (first | walk1 | (dsimp only; walk1))
  refine at_callWith_builtin rfl ?_
  refine at_spliced (PySem.wpAt_of_wpAny ?_)
  iterate 1 (first | walk1 | (dsimp only; walk1))
  refine at_spliced (PySem.wpAt_of_wpAny ?_)
  iterate 1 (first | walk1 | (dsimp only; walk1))
  refine at_spliced (at_Attribute ?_)
  have I5 : InstAt h5 B o 115 (some emptyD) := book_inst (s := ⟨h5, s.gens, s.drawn, s.toks, s.os⟩) hb (N5 _ (.head _)).1 (N5 _ (.tail _ hd)).1
  refine ks_node F5 X5 N5 T5 (by k_is) (by rfl) (by rfl) I5 (by k_is) (by rfl) (by first | rfl | decide +kernel) (by k_is) (by k_is) (by k_is) (by k_is) (by decide) (by rfl) (by rfl) (by rfl) (by rfl) (by decide +kernel) (by first | boot_by_name | rfl | kernel_rfl) ?_
  intro so h6 F6 N6 l6
  refine book_super w (by exact hA2) (by show A'.depth + 1 ≤ 700; omega) (by show A'.units + 3 ≤ 6900; omega) (X5.keeps F6.keep) hb (N6 _ (.tail _ (.head _))).1 (N6 _ (.tail _ (.tail _ hd))).1 (N6 _ (.head _)).1 ?_
  intro h7 q hk7 hq7 hnq
  have F7 := F6.keeps hk7
  have N7 := news_new F6 (N6.grown hk7) hq7 hnq
  refine PySem.wpAt_of_wpAny (Calls.spliced_nil ?_)
  obtain ⟨es, ep, rfl, hes⟩ := hb
  have hb : BookAt w (bookO f d es ep) f d kvs := ⟨es, ep, rfl, hes⟩
  refine wpAny_wide (A := AX) (by exact hA2) (by show A'.depth + 1 ≤ 700; omega) rfl rfl (by show A'.units + 3 ≤ 7000; omega) (noFrozenX w _ (X5.keeps F7.keep) _ _ B d f q es ep _ (N7 _ (.tail _ (.tail _ (.head _)))).1 (N7 _ (.tail _ (.tail _ (.tail _ hd)))).1 ?_)
  intro h8 tk8 hk8
  have F8 := F7.keeps hk8
  have N8 := N7.grown hk8
  clear F5 N5 I5 F6 N6 F7 N7
  refine PySem.wpAt_of_wpAny (callWith_B (B := B) ?_)
  iterate 3 (first | walk1 | (dsimp only; walk1))
  refine ⟨(N8 _ (.head _)).1, ?_⟩
  obtain ⟨⟨fd, hfd⟩, hfac⟩ := hfac
  have hqB : q ≠ B := fun e => by
    have e2 := (N8 _ (.tail _ (.tail _ (.head _)))).1
    subst e
    have := (N8 _ (.head _)).1
    dsimp only at this e2
    rw [this] at e2
    cases e2
  have hsB : so ≠ B := Nat.ne_of_gt (l6 _ (.head _))
  refine bound_call (X5.keeps F8.keep) hb (N8 _ (.tail _ (.tail _ (.head _)))).1 (N8 _ (.tail _ (.tail _ (.tail _ hd)))).1 (N8 _ (.head _)).1 (N8 _ (.tail _ (.tail _ (.tail _ hf)))).1 hfd ?_
  refine hfac _ _ (Str.ofString "FreezableDefaultDict.__missing__") _ 105 (.ref 104) _ (envX cn cs L a ccd cl :: outer) A' base g5 L5 _ _ _ _ (by show Option.map _ A'.frames = _; rw [hA1]; rfl) (by exact hA2) (by show A'.depth + 1 ≤ 560; omega) (by show A'.units + 3 + 1 ≤ 6000; omega) B5 F8 X5 N8 (.tail _ (.tail _ (.tail _ hf))) (.tail _ (.tail _ (.tail _ hc))) T5 rfl ?_
  intro h9 tk9 t9 F9 N9
  refine book_setdefault (X5.keeps F9.keep) hb (N9 _ (.tail _ (.tail _ (.head _)))).1 (N9 _ (.tail _ (.tail _ (.tail _ hd)))).1 hsys (strKind_is _ _ _ _) hsz hv ?_
  intro h10 o10 ho10 hb10 hs10
  have hNB := N9 _ (.tail _ (.tail _ (.head _)))
  have F10 := F9.change hs10 hNB.2.1 hNB.2.2
  have N10 : News g5 L5 h10 ((B, o10) :: (so, ks_superObj 115 B 115) :: news) := fun p hp => by
    rcases List.mem_cons.mp hp with rfl | hp
    · exact ⟨ho10, hNB.2⟩
    have hne : p.1 ≠ B := by
      rcases List.mem_cons.mp hp with rfl | hp
      · exact hsB
      · exact hoff p hp
    have hm : p ∈ (q, boundO B) :: (so, ks_superObj 115 B 115) :: (B, bookO f d es ep) :: news := by
      rcases List.mem_cons.mp hp with rfl | hp
      · exact .tail _ (.head _)
      · exact .tail _ (.tail _ (.tail _ hp))
    exact ⟨hs10.extBut _ _ hne (N9 p hm).1, (N9 p hm).2⟩
  clear F8 N8 F9 N9
  iterate 1 (first | walk1 | (dsimp only; walk1))
  rename Fr h₀ L _ m => kF
  rename News h₀ L _ _ => kN
  exact hret _ _ t9 o10 kF (fun p hp => kN p (by
    rcases List.mem_cons.mp hp with rfl | hp
    · exact .head _
    · exact .tail _ (.tail _ hp))) hb10
end Mine
end
end JMw
section JMf
theorem Mine.fresh_Mf : True := by w_top off; exact trivial
open PySem PySem.W PyProof.Rows PySem.Spec PySem.Calls
set_option maxRecDepth 100000
set_option maxHeartbeats 2000000
noncomputable section
namespace Mine
theorem filledMf : Filled PySem.Challenge.rw_il0125_01 Mine.hd.heap_1_39 := by k_fill; exact True.intro
abbrev frzD (h0 : Int) (t2 : Tok) (lam : Addr) (nn : Nat) : Obj := ⟨.type "dict", none, .dict #[⟨h0, .str (Str.ofString "_frozen") t2, .ref lam⟩] nn, #[]⟩
/-- the frozen lookup lam, over the objects objs, gives 2 ** 32 - 1 wherever it is called with a text -/
def FrzOk (w : World) (mean : ExcName → Option Value) (mg mb : Str → Option Value) (lam : Addr) (objs : List (Addr × Obj)) : Prop :=
  ∃ lo fd, (lam, lo) ∈ objs ∧ lo.data = .func fd ∧ ∀ (k : Str) (tk : Tok) (news : List (Addr × Obj)) (A' : Around) (cn : Str) (cs : Scope) (a : Addr) (ccd : Value) (cl : List (Str × Addr)) (outer : List Env) (A₀ : Around) (base h₀ : Heap) (L : Addr) (m : Str → Option Value) (s : Shared) (Q E : Value → Shared → Prop),
    A'.frames = some (envX cn cs L a ccd cl :: outer) → A'.handled = none → A'.depth ≤ 540 → A'.units ≤ 5500 → Below A₀ base outer h₀ → Fr h₀ L s.heap m → (Mine.hd.heap_1_39 w.params).In h₀ → News h₀ L s.heap news → (∀ p ∈ objs, p ∈ news) → Top topProg LO mean mg mb h₀ → cs.kind = .function →
    (∀ h' tk' t, Fr h₀ L h' m → News h₀ L h' news → Q (.int 4294967295 t) { s with heap := h', toks := tk' }) →
    wpAny (model PW w) A' (call (.ref lam) [.str k tk]) Q E s
section
variable {prog : Program} {w : World} {A : Around} {E : Value → Shared → Prop} {s : Shared} {env : Env} {q : Addr} {o : Obj} {fd : FuncData}
theorem callWith_G {pos : Pos} {e : Expr} {rest : List Expr} {Q : Value → Shared → Prop} (h : wpAny (model prog w) A (spliced (backTo pos (starEach (e :: rest) env))) (fun vs s₁ => (s₁.heap.get? q = some o ∧ o.data = .func fd) ∧ wpAny (model prog w) A (call (.ref q) vs) Q E s₁) E s)
    (he : starEach (e :: rest) env = (false, eval e env) :: starEach rest env := by rfl) (hplain : (backTo pos (starEach rest env)).any (·.1) = false := by rfl) :
    wpAny (model prog w) A (callWith pos (.ref q) [] (backTo pos (starEach (e :: rest) env)) []) Q E s := by
  rw [he] at h ⊢
  exact callWith_of (P := fun h => h.get? q = some o ∧ o.data = .func fd) (by show ((false || (backTo pos (starEach rest env)).any (·.1)) || false) = false; rw [hplain]; rfl) (fun h hq => ⟨.frame, .inl rfl, (Looks.ld (part := none) hq.1).andThen (by rw [hq.2]; exact .now)⟩) (evalArgs_plain h)
end
theorem frz_walk (w : World) (mean : ExcName → Option Value) (mg mb : Str → Option Value) (news : CbLed) (B f d lam : Addr) (o : Obj) (objs : CbLed) (h0 : Int) (t2 : Tok) (nn : Nat) (kvs : List (Str × Value)) (k : Str) (tk0 : Tok) (A' : Around)
  (cn : Str) (cs : Scope) (a : Addr) (ccd : Value) (cl : List (Str × Addr)) (outer : List Env) (A₀ : Around) (base h₀ : Heap) (L : Addr) (m : Str → Option Value) (s : Shared) (Q E : Value → Shared → Prop)
  (hA1 : A'.frames = some (envX cn cs L a ccd cl :: outer)) (hA2 : A'.handled = none) (hA3 : A'.depth ≤ 520) (hA4 : A'.units ≤ 5020)
  (hB : Below A₀ base outer h₀) (hF : Fr h₀ L s.heap m) (hX : (Mine.hd.heap_1_39 w.params).In h₀) (hN : News h₀ L s.heap ((B, o) :: news)) (hT : Top topProg LO mean mg mb h₀) (hcs : cs.kind = .function)
  (hb : BookAt w o f d kvs) (hd : (d, frzD h0 t2 lam nn) ∈ news) (hobjs : ∀ p ∈ objs, p ∈ (B, o) :: news) (hfac : FrzOk w mean mg mb lam objs)
  (hret : ∀ h' tk' t, Fr h₀ L h' m → News h₀ L h' ((B, o) :: news) → Q (.int 4294967295 t) { s with heap := h', toks := tk' }) :
  wpAny (model PW w) A' (call (.ref 105) [.ref B, .str k tk0]) Q E s := by
  k_with_none
  have rl : recursionLimit = 1000 := rfl
  refine wpAny_call ?_
  (refine' ks_code_super (A := A') ?k1 ?k2 ?k3 ?k4 ?k5 ?kA ?kF ?kK ?k6 ?k7 ?k8 ?k9 ?kB ?_ ?c1 ?c2 ?c3 ?c4; (case kA => exact hA1); (case kF => exact rfl); (case kK => assumption); (case k1 => k_asm); (case k2 => k_asm); (case k3 => k_asm); (case k4 => k_asm); (case k5 => k_asm); (case k6 => k_is); (case k7 => k_is); (case k8 => (show A'.depth < recursionLimit; omega)); (case k9 => exact BindsTo.of_eq rfl); (case kB => exact locs rfl); (case c1 => decide); (case c2 => exact rfl); (case c3 => exact rfl); (case c4 => exact rfl); intro g5 L5 h5 FG5 F5 N5 B5 X5 T5 l5; (try dsimp only))
  refine ks_wpAt_execs_cons (ks_wpAt_Return_some ?_)
  refine at_Call ?_
  refine at_Call ?_
  refine PySem.wpAt_of_wpAny ?_
  iterate 1 (first | walk1 | (dsimp only; walk1))
  refine at_callWith_builtin rfl ?_
  refine at_spliced (PySem.wpAt_of_wpAny ?_)
  iterate 1 (first | walk1 | (dsimp only; walk1))
  refine at_spliced (PySem.wpAt_of_wpAny ?_)
  iterate 1 (first | walk1 | (dsimp only; walk1))
  refine at_spliced (at_Attribute ?_)
  have I5 : InstAt h5 B o 115 (some (frzD h0 t2 lam nn)) := book_inst (s := ⟨h5, s.gens, s.drawn, s.toks, s.os⟩) hb (N5 _ (.head _)).1 (N5 _ (.tail _ hd)).1
  refine ks_node F5 X5 N5 T5 (by k_is) (by rfl) (by rfl) I5 (by k_is) (by rfl) (by first | rfl | decide +kernel) (by k_is) (by k_is) (by k_is) (by k_is) (by decide) (by rfl) (by rfl) (by rfl) (by rfl) (by decide +kernel) (by first | boot_by_name | rfl | kernel_rfl) ?_
  intro so h6 F6 N6 l6
  refine book_super w (by exact hA2) (by show A'.depth + 1 ≤ 700; omega) (by show A'.units + 3 ≤ 6900; omega) (X5.keeps F6.keep) hb (N6 _ (.tail _ (.head _))).1 (N6 _ (.tail _ (.tail _ hd))).1 (N6 _ (.head _)).1 ?_
  intro h7 q hk7 hq7 hnq
  have F7 := F6.keeps hk7
  have N7 := news_new F6 (N6.grown hk7) hq7 hnq
  refine PySem.wpAt_of_wpAny (Calls.spliced_nil ?_)
  obtain ⟨es, ep, rfl, hes⟩ := hb
  have hb : BookAt w (bookO f d es ep) f d kvs := ⟨es, ep, rfl, hes⟩
  refine wpAny_wide (A := AX) (by exact hA2) (by show A'.depth + 1 ≤ 700; omega) rfl rfl (by show A'.units + 3 ≤ 7000; omega) (frozenX w _ (X5.keeps F7.keep) _ _ B d f q lam es ep nn _ t2 h0 (N7 _ (.tail _ (.tail _ (.head _)))).1 (N7 _ (.tail _ (.tail _ (.tail _ hd)))).1 ?_)
  clear F5 N5 I5 F6 N6
  obtain ⟨lo, fd, hlo, hfd, hfac⟩ := hfac
  refine PySem.wpAt_of_wpAny (callWith_G (q := lam) (o := lo) (fd := fd) ?_)
  iterate 3 (first | walk1 | (dsimp only; walk1))
  have hmem : ∀ p ∈ (B, bookO f d es ep) :: news, p ∈ (q, boundO B) :: (so, ks_superObj 115 B 115) :: (B, bookO f d es ep) :: news := fun p hp => .tail _ (.tail _ hp)
  refine ⟨⟨(N7 _ (hmem _ (hobjs _ hlo))).1, hfd⟩, ?_⟩
  refine hfac _ _ _ _ (Str.ofString "FreezableDefaultDict.__missing__") _ 105 (.ref 104) _ (envX cn cs L a ccd cl :: outer) A' base g5 L5 _ _ _ _ (by show Option.map _ A'.frames = _; rw [hA1]; rfl) (by exact hA2) (by show A'.depth + 1 ≤ 540; omega) (by show A'.units + 3 ≤ 5500; omega) B5 F7 X5 N7 (fun p hp => hmem _ (hobjs p hp)) T5 rfl ?_
  intro h9 tk9 t9 F9 N9
  clear F7 N7
  iterate 1 (first | walk1 | (dsimp only; walk1))
  rename Fr h₀ L _ m => kF
  rename News h₀ L _ _ => kN
  exact hret _ _ t9 kF (fun p hp => kN p (.tail _ (.tail _ hp)))
end Mine
end
end JMf
section JFy
theorem Mine.fresh_Fy : True := by w_top off; exact trivial
open PySem PySem.W PyProof.Rows PySem.Spec PySem.Calls Builtin ObjectAttr
set_option maxRecDepth 100000
set_option maxHeartbeats 2000000
noncomputable section
namespace Mine
theorem filledFy : Filled PySem.Challenge.rw_il0125_01 Mine.hd.heap_1_39 := by k_fill; exact True.intro
theorem refuse_book (self : Value) : refuseLoop self "__setattr__" [.ref 115, .type "collections.defaultdict", .type "dict", .type "object"] = pure () := by
  rw [refuseLoop_ref]
  kernel_rfl
section
variable {prog : Program} {w : World} {A : Around} {E : Value → Shared → Prop} {s : Shared} {K : Frag} {h₀ : Heap} {L x C dx lam : Addr} {m : Str → Option Value} {ox : Obj} {cd : ClassData} {pre post : List (Addr × Obj)} {name : Str} {v : Value}
/-- the first name of an object's own dict, set by object.__setattr__, whatever built-in classes stand above the object's -/
theorem first_name {Q : Unit → Shared → Prop} (F : Fr h₀ L s.heap m) (N : News h₀ L s.heap (pre ++ (dx, emptyD) :: post)) (X : K.In s.heap) (I : InstAt s.heap x ox C (some emptyD)) (hd : ox.dict = some dx) (h1 : ∀ p ∈ pre, p.1 ≠ dx) (h2 : ∀ p ∈ post, p.1 ≠ dx)
    (hs : findIn K (.ref C) "__setattr__" = some (some (.builtin "object.__setattr__"))) (hc : clsIn K C = some cd) (hr : ∀ self, refuseLoop self "__setattr__" cd.mro = pure ()) (ht : findIn K (.ref C) name = some none) (hh : cd.hasDict = true) (hsub : subIn K (.ref C) (.type "object") = some true)
    (h : ∀ h', Fr h₀ L h' m → News h₀ L h' (pre ++ (dx, Obj.putName name (PyData.keyHash w.params name) (.str name (s.toks + 1)) v emptyD) :: post) → Q () { s with heap := h', toks := s.toks + 2 }) : wpAny (model prog w) A (setAttr (.ref x) name v) Q E s := by
  obtain ⟨hh0, g, dd, t, os⟩ := s
  have SF := PySem.F.store_object
  have sub : Looks (model prog w) hh0 (isInstance (.ref x) (.type "object")) true := I.type.andThen (looks_subIn X hsub)
  have hC : Looks (model prog w) hh0 (mroOf (.ref C)) cd.mro := (looks_clsIn X hc).andThen .now
  have La : Looks (model prog w) hh0 (typeLookup (.ref C) name) none := looks_findIn X ht
  refine set_plain X I hs ?_
  refine codeAny_call_builtin SF.slot.plain SF.entry (@check_slot (model prog w) _ _ ⟨hh0, g, dd, t + 1, os⟩ "object.__setattr__" "object" "__setattr__" (.ref x) [.str name t, v] [] _ SF.kind SF.split sub (SF.args (.ref x) (.str name t) v) ?_)
  rw [osa_eq, refuse_eq]
  refine wpAny_bind (wpAny_bind (I.type.at (wpAny_bind (hC.at ?_))))
  rw [hr]
  refine wpAny_pure (wpAny_bind (I.type.at (wpAny_bind (La.at (wpAny_bind (wpAny_pure ?_))))))
  dsimp only
  obtain ⟨U1, U2⟩ := news_upd (f := Obj.putName name (PyData.keyHash w.params name) (.str name (t + 1)) v) F N h1 h2 rfl rfl
  have D := (N (dx, emptyD) (by simp)).1
  have D' := (U2 (dx, Obj.putName name (PyData.keyHash w.params name) (.str name (t + 1)) v emptyD) (by simp)).1
  obtain ⟨hx, hcl, hn, -⟩ := I
  obtain ⟨oc, odi, oda, osl⟩ := ox
  dsimp only at hcl hd
  subst hcl hd
  refine wpAny_bind (wpAny_pure (wpAny_bind (wpAny_bind (wpAny_loadPart hx (wpAny_bind ((looks_clsIn X hc).at ?_))))))
  rw [hh]
  refine wpAny_pure (a := some dx) (wpAny_bind (wpAny_pure (wpAny_bind ?_)))
  unfold nsSet
  refine wpAny_bind (wpAny_bind (wpAny_askSetting (wpAny_pure (wpAny_bind (wpAny_mkText (wpAny_bind (wpAny_loadPart D ?_)))))))
  show wpAny _ _ (if aRefKeyMayBeTheName name #[] = true then _ else _) _ _ _
  rw [if_neg (by rw [aRefKeyMayBeTheName_at]; simp)]
  refine wpAny_updatePart D ?_
  refine wpAny_bind (wpAny_lookBehind D' (pastItsLine_dict (by rw [sizeLine_eq]; show 1 ≤ 16777216 + 1; omega)) ?_)
  exact wpAny_pure (h _ U1 U2)
end
section
local macro_rules | `(tactic| x_close) => `(tactic| assumption)
theorem factoryX (w : World) (s : Shared) (_X : (Mine.hd.heap_1_39 w.params).In s.heap) (Q E : Value → Shared → Prop) (B d fa : Addr) (es : Array DictEntry) (ep : Nat) (hB : s.heap.get? B = some ⟨.ref 115, some d, .dict es ep, #[some (.ref fa)]⟩) (hQ : Q (.ref fa) s) :
   wpAny (model PySem.Challenge.pw_il0125_01 w) AX (call (.builtin "member_descriptor.__get__") [.builtin "collections.defaultdict.default_factory", .ref B, .ref 115]) Q E s := by
  x_run
end
section
variable {w : World} {A : Around} {s : Shared} {B f d : Addr} {o od : Obj} {kvs : List (Str × Value)} {Q : Value × List Value → Shared → Prop} {E : Value → Shared → Prop} {pl : Sem Bool}
theorem book_factory (hA : A.handled = none) (hdp : A.depth ≤ 700) (hu : A.units ≤ 6900) (X : (Mine.hd.heap_1_39 w.params).In s.heap) (hb : BookAt w o f d kvs) (ho : s.heap.get? B = some o) (hd : s.heap.get? d = some od)
    (h : Q (.ref f, []) { s with toks := s.toks + 1 }) : wpAny (model PW w) A (getMethod (.ref B) (Str.ofString "default_factory") pl) Q E s := by
  have I := book_inst (s := s) hb ho hd
  have hh : hasDictIn (Mine.hd.heap_1_39 w.params) 115 = true := by k_is
  obtain ⟨cd, hc, _⟩ := any_some hh
  have hfo : findObj (Mine.hd.heap_1_39 w.params) 115 (some od) (Str.ofString "default_factory") = some (.bind (.builtin "member_descriptor.__get__") (.builtin "collections.defaultdict.default_factory")) := findObj_data (by rw [hc]; rfl) (by k_is) (by k_is) (by k_is)
  refine sub_method_usual (book_ga w) X I (r := some (.builtin "collections.defaultdict.default_factory")) (by k_is) ?_ ?_
  · have : typeIn (Mine.hd.heap_1_39 w.params) (.builtin "collections.defaultdict.default_factory") = some (.type "member_descriptor") := by k_is
    simp only [Option.all_some, this, Option.any_some]; decide +kernel
  refine sub_bind (book_ga w) X I hfo ?_
  obtain ⟨es, ep, rfl, _⟩ := hb
  exact wpAny_wide (A := AX) hA (by show A.depth ≤ 700; omega) rfl rfl (by show A.units + 1 ≤ 7000; omega) (factoryX w { s with toks := s.toks + 1 } X _ _ B d f es ep ho (handed_on rfl h))
end
section
variable {prog : Program} {w : World} {A : Around} {E : Value → Shared → Prop} {s : Shared} {env : Env} {q : Addr} {o : Obj} {fd : FuncData}
theorem callWith_G0 {pos : Pos} {Q : Value → Shared → Prop} (hq : s.heap.get? q = some o) (hf : o.data = .func fd) (h : wpAny (model prog w) A (call (.ref q) []) Q E s) : wpAny (model prog w) A (callWith pos (.ref q) [] (backTo pos (starEach [] env)) []) Q E s :=
  callWith_of (P := fun h => h.get? q = some o ∧ o.data = .func fd) rfl (fun h hq => ⟨.frame, .inl rfl, (Looks.ld (part := none) hq.1).andThen (by rw [hq.2]; exact .now)⟩) (evalArgs_nil3 ⟨⟨hq, hf⟩, h⟩)
end
end Mine
end
end JFy
section JFz
theorem Mine.fresh_Fz : True := by w_top off; exact trivial
open PySem PySem.W PyProof.Rows PySem.Spec PySem.Calls
set_option maxRecDepth 100000
set_option maxHeartbeats 2000000
noncomputable section
namespace Mine
theorem filledFz : Filled PySem.Challenge.rw_il0125_01 Mine.hd.heap_1_39 := by k_fill; exact True.intro
theorem fz_walk (w : World) (mean : ExcName → Option Value) (mg mb : Str → Option Value) (news : CbLed) (B f c d : Addr) (o fo co : Obj) (kvs : List (Str × Value))
  (dp un : Nat) (gd : Option (List Code)) (cn : Str) (cs : Scope) (a : Addr) (ccd : Value) (cl : List (Str × Addr)) (outer : List Env) (A₀ : Around) (base h₀ : Heap) (L : Addr) (m : Str → Option Value) (s : Shared) (Q E : Value → Shared → Prop)
  (hB : Below A₀ base outer h₀) (hF : Fr h₀ L s.heap m) (hX : (Mine.hd.heap_1_39 w.params).In h₀) (hN : News h₀ L s.heap ((107, tabObj #[]) :: (d, emptyD) :: (B, o) :: news)) (hT : Top topProg LO mean mg mb h₀) (hcs : cs.kind = .function)
  (hC1 : CodeHd base 111 107) (hoff : OwnOff ((d, emptyD) :: (B, o) :: news) [107]) (hoff2 : ∀ p ∈ (B, o) :: news, p.1 ≠ d)
  (hb : BookAt w o f d kvs) (hf : (f, fo) ∈ news) (hc : (c, co) ∈ news) (hfac : FacOk w mean mg mb f c fo co) (hfn : fo.data ≠ .cell none) (hcn : co.data ≠ .cell none) (hdp : dp ≤ 500) (hun : un ≤ 5000) (hoffB : ∀ p ∈ news, p.1 ≠ B)
  (hret : ∀ h' tk' lam h0 t2 nn (objs rest : CbLed), Fr h₀ L h' m → News h₀ L h' ((B, o) :: rest) → (d, frzD h0 t2 lam nn) ∈ rest → (∀ p ∈ objs, p ∈ (B, o) :: rest) → (∀ p ∈ news, p ∈ rest) → (∀ p ∈ rest, p.1 ≠ B) → FrzOk w mean mg mb lam objs → (∀ p ∈ objs, p.2.data ≠ .cell none) → (∃ ps : Array Value, ((107 : Addr), tabObj ps) ∈ rest) → Q .none { s with heap := h', toks := tk' }) :
  wpAny (model PW w) (ktrTop dp un gd cn cs L a ccd cl outer) (call (.ref 112) [.ref B]) Q E s := by
  k_with_none
  have rl : recursionLimit = 1000 := rfl
  refine wpAny_call ?_
  (refine' code_defC ?k1 ?k2 ?k3 ?k4 ?k5 ?kA ?kF ?kK ?k6 ?k7 ?k8 ?k9 ?kB ?kD ?_ ?c2 ?c3 ?c4; (case kA => exact rfl); (case kF => exact rfl); (case kK => assumption); (case k1 => k_asm); (case k2 => k_asm); (case k3 => k_asm); (case k4 => k_asm); (case k5 => k_asm); (case k6 => k_is); (case k7 => k_is); (case k8 => (show dp < recursionLimit; omega)); (case k9 => exact BindsTo.of_eq rfl); (case kB => exact rfl); (case kD => decide +kernel); (case c2 => exact rfl); (case c3 => exact rfl); (case c4 => exact rfl); k_whole; intro g' L' h' tk' cells' FG' F' N' Y' B' X' T' l1; (try k_lt l1); k_cells Y'; (try simp only [List.cons_append, List.nil_append] at N'); (try dsimp only); (try k_lift B'); (try k_fold))
  have l0 := l1
  iterate 4 (first | walk1 | (dsimp only; walk1))
  rename Fr g' L' _ _ => F6
  rename News g' L' _ _ => N6
  rename (_ ∧ _ ∧ _ ∧ _ ∧ _) => l5
  rename_i fF cF ocF vsF tF ctF hF6 tkF d1F d2F l6
  obtain ⟨es, ep, rfl, hes⟩ := hb
  have hb : BookAt w (bookO f d es ep) f d kvs := ⟨es, ep, rfl, hes⟩
  obtain ⟨fdF, cellO, hcdn, hlam, N6⟩ : ∃ fdF cellO, cellO.data ≠ .cell none ∧ (∀ h0 t2 nn, FrzOk w mean mg mb fF [(fF, ⟨.type "function", none, .func fdF, #[]⟩), (cF, ocF), (L' + 1, cellO), (d, frzD h0 t2 fF nn), (B, bookO f d es ep), (f, fo), (c, co)]) ∧ News g' L' hF6 ((fF, ⟨.type "function", none, .func fdF, #[]⟩) :: (cF, ocF) :: (L' + 1, cellO) :: _) := by
    refine ⟨_, _, ?hcd, ?_, N6⟩
    case hcd =>
      rename Obj.data _ = Data.cell _ => hq
      intro e
      have e2 : some (Value.ref B) = none := Data.cell.inj (hq.symm.trans e)
      cases e2
    intro h0 t2 nn
    refine ⟨_, _, .head _, rfl, ?_⟩
    clear F6 N6 hB hF hX hN hT hcs X' T' FG'
    intro k tk news' A' cn' cs' a' ccd' cl' outer' A₀' base' h₀' L0 m' s' Q' E' hA1 hA2 hA3 hA4 hB hF hX hN hobjs hT hcs hret
    have rl : recursionLimit = 1000 := rfl
    refine wpAny_call ?_
    (refine' kla_code (A := A') ?k1 ?k2 ?k3 ?k4 ?k5 ?kA ?kF ?kK ?k6 ?k7 ?k8 ?k9 ?kB ?_ ?c2 ?c3 ?c4 ?c5; (case kA => exact hA1); (case kF => exact rfl); (case kK => assumption); (case k1 => k_asm); (case k2 => k_asm); (case k3 => k_asm); (case k4 => k_asm); (case k5 => k_asm); (case k6 => exact hobjs _ (.head _)); (case k7 => exact codeRec_news hN (hobjs _ (.tail _ (.head _))) d1F d2F); (case k8 => (show A'.depth < recursionLimit; omega)); (case k9 => exact rfl); (case c5 => decide); (case kB => exact locs rfl); (case c2 => exact rfl); (case c3 => exact rfl); (case c4 => exact rfl); k_whole; intro g5 L5 h5 FG5 F5 N5 B5 X5 T5; (try dsimp only); (try k_fold))
    have N5' := fun p hp => N5 p (hobjs p hp)
    replace N5' : News g5 L5 h5 [(fF, _), (cF, ocF), (L' + 1, _), (d, frzD h0 t2 fF nn), (B, bookO f d es ep), (f, fo), (c, co)] := N5'
    iterate 2 (first | walk1 | (dsimp only; walk1))
    refine book_factory (by exact hA2) (by show A'.depth + 1 ≤ 700; omega) (by show A'.units + 3 ≤ 6900; omega) (X5.keeps F5.keep) hb (N5' _ (.tail _ (.tail _ (.tail _ (.tail _ (.head _)))))).1 (N5' _ (.tail _ (.tail _ (.tail _ (.head _))))).1 ?_
    obtain ⟨⟨fdO, hfdO⟩, hfac⟩ := hfac
    refine callWith_G0 (N5' _ (.tail _ (.tail _ (.tail _ (.tail _ (.tail _ (.head _))))))).1 hfdO ?_
    refine hfac _ _ _ _ fF (.ref cF) _ (envX cn' cs' L0 a' ccd' cl' :: outer') A' base' g5 L5 _ _ _ _ (by show Option.map _ A'.frames = _; rw [hA1]; rfl) (by exact hA2) (by show A'.depth + 1 ≤ 560; omega) (by show A'.units + 3 ≤ 6000; omega) B5 F5 X5 N5 (hobjs _ (.tail _ (.tail _ (.tail _ (.tail _ (.tail _ (.head _))))))) (hobjs _ (.tail _ (.tail _ (.tail _ (.tail _ (.tail _ (.tail _ (.head _)))))))) T5 rfl ?_
    intro h9 tk9 t9 F9 N9
    clear F5 N5 N5'
    iterate 1 (first | walk1 | (dsimp only; walk1))
    rename Fr h₀' L0 _ m' => kF
    rename News h₀' L0 _ _ => kN
    exact hret _ _ t9 kF kN
  have I6 : InstAt hF6 B (bookO f d es ep) 115 (some emptyD) := book_inst (s := ⟨hF6, s.gens, s.drawn, s.toks, s.os⟩) hb (N6 _ (.tail _ (.tail _ (.tail _ (.tail _ (.tail _ (.head _))))))).1 (N6 _ (.tail _ (.tail _ (.tail _ (.tail _ (.head _)))))).1
  obtain ⟨oc', od', cd, sl, hK, hm, hcd⟩ : ∃ oc od cd sl, (Mine.hd.heap_1_39 w.params).lookup 115 = some ⟨oc, od, .cls cd, sl⟩ ∧ cd.mro = [.ref 115, .type "collections.defaultdict", .type "dict", .type "object"] ∧ cd.hasDict = true := ⟨_, _, _, _, by k_is, rfl, rfl⟩
  have hcl : clsIn (Mine.hd.heap_1_39 w.params) 115 = some cd := by unfold clsIn; rw [hK]
  have hl6 : @LT.lt Nat instLTNat cF fF := l6
  have hl5 : @LT.lt Nat instLTNat d cF := l5.2.2.1
  have hl0 : @LT.lt Nat instLTNat d L' := l0.2.1
  refine first_name (K := Mine.hd.heap_1_39 w.params) (dx := d) (pre := [_, _, _, _]) F6 N6 (X'.keeps F6.keep) I6 rfl ?hpre hoff2 (by k_is) hcl (by rw [hm]; exact refuse_book) (by k_is) hcd (by k_is) ?_
  case hpre =>
    intro p hp
    rcases List.mem_cons.mp hp with rfl | hp
    · exact Nat.ne_of_gt (Nat.lt_trans hl5 hl6)
    rcases List.mem_cons.mp hp with rfl | hp
    · exact Nat.ne_of_gt hl5
    rcases List.mem_cons.mp hp with rfl | hp
    · exact Nat.ne_of_gt (Nat.lt_succ_of_lt hl0)
    obtain rfl := List.mem_singleton.mp hp
    exact fun e => hoff (d, emptyD) (.head _) 107 (.head _) e.symm
  intro h7 F7 N7
  clear F6 N6
  obtain ⟨T1, k0, t0, N7⟩ : ∃ T1 k0 t0, News g' L' h7 ((fF, ⟨.type "function", none, .func fdF, #[]⟩) :: (cF, ocF) :: (L' + 1, cellO) :: (107, tabObj T1) :: (d, frzD k0 t0 fF 1) :: (B, bookO f d es ep) :: news) := ⟨_, _, _, N7⟩
  dsimp only
  iterate 3 (first | walk1 | (dsimp only; walk1))
  rename Fr h₀ L _ m => kF
  rename News h₀ L _ _ => kN
  have hB5 : @LT.lt Nat instLTNat B cF := l5.2.2.2.1
  have hB0 : @LT.lt Nat instLTNat B L' := l0.2.2.1
  refine hret _ _ fF k0 t0 1 _ ((fF, ⟨.type "function", none, .func fdF, #[]⟩) :: (cF, ocF) :: (L' + 1, cellO) :: (107, tabObj T1) :: (d, frzD k0 t0 fF 1) :: news) kF (fun p hp => kN p ?_) (.tail _ (.tail _ (.tail _ (.tail _ (.head _))))) ?_ (fun p hp => .tail _ (.tail _ (.tail _ (.tail _ (.tail _ hp))))) ?_ (hlam k0 t0 1) ?_ ⟨T1, .tail _ (.tail _ (.tail _ (.head _)))⟩
  · rcases List.mem_cons.mp hp with rfl | hp
    · exact .tail _ (.tail _ (.tail _ (.tail _ (.tail _ (.head _)))))
    rcases List.mem_cons.mp hp with rfl | hp
    · exact .head _
    rcases List.mem_cons.mp hp with rfl | hp
    · exact .tail _ (.head _)
    rcases List.mem_cons.mp hp with rfl | hp
    · exact .tail _ (.tail _ (.head _))
    rcases List.mem_cons.mp hp with rfl | hp
    · exact .tail _ (.tail _ (.tail _ (.head _)))
    rcases List.mem_cons.mp hp with rfl | hp
    · exact .tail _ (.tail _ (.tail _ (.tail _ (.head _))))
    · exact .tail _ (.tail _ (.tail _ (.tail _ (.tail _ (.tail _ hp)))))
  · intro p hp
    rcases List.mem_cons.mp hp with rfl | hp
    · exact .tail _ (.head _)
    rcases List.mem_cons.mp hp with rfl | hp
    · exact .tail _ (.tail _ (.head _))
    rcases List.mem_cons.mp hp with rfl | hp
    · exact .tail _ (.tail _ (.tail _ (.head _)))
    rcases List.mem_cons.mp hp with rfl | hp
    · exact .tail _ (.tail _ (.tail _ (.tail _ (.tail _ (.head _)))))
    rcases List.mem_cons.mp hp with rfl | hp
    · exact .head _
    rcases List.mem_cons.mp hp with rfl | hp
    · exact .tail _ (.tail _ (.tail _ (.tail _ (.tail _ (.tail _ hf)))))
    obtain rfl := List.mem_singleton.mp hp
    exact .tail _ (.tail _ (.tail _ (.tail _ (.tail _ (.tail _ hc)))))
  · intro p hp
    rcases List.mem_cons.mp hp with rfl | hp
    · exact Nat.ne_of_gt (Nat.lt_trans hB5 hl6)
    rcases List.mem_cons.mp hp with rfl | hp
    · exact Nat.ne_of_gt hB5
    rcases List.mem_cons.mp hp with rfl | hp
    · exact Nat.ne_of_gt (Nat.lt_succ_of_lt hB0)
    rcases List.mem_cons.mp hp with rfl | hp
    · exact fun e => hoff (B, bookO f d es ep) (.tail _ (.head _)) 107 (.head _) e.symm
    rcases List.mem_cons.mp hp with rfl | hp
    · exact fun e => hoff2 (B, bookO f d es ep) (.head _) e.symm
    · exact hoffB p hp
  · intro p hp
    rcases List.mem_cons.mp hp with rfl | hp
    · exact fun e => by cases e
    rcases List.mem_cons.mp hp with rfl | hp
    · intro e
      have e2 := d1F.symm.trans e
      cases e2
    rcases List.mem_cons.mp hp with rfl | hp
    · exact hcdn
    rcases List.mem_cons.mp hp with rfl | hp
    · exact fun e => by cases e
    rcases List.mem_cons.mp hp with rfl | hp
    · exact fun e => by cases e
    rcases List.mem_cons.mp hp with rfl | hp
    · exact hfn
    obtain rfl := List.mem_singleton.mp hp
    exact hcn
end Mine
end
end JFz
section JTg
theorem Mine.fresh_Tg : True := by w_top off; exact trivial
open PySem PySem.W PyProof.Rows PySem.Spec PySem.Calls
set_option maxRecDepth 100000
set_option maxHeartbeats 4000000
noncomputable section
namespace Mine
theorem filledTg : Filled PySem.Challenge.rw_il0125_01 Mine.hd.heap_1_39 := by k_fill; exact True.intro
local macro_rules | `(tactic| x_close) => `(tactic| assumption)
theorem isTupX (w : World) (s : Shared) (_X : (Mine.hd.heap_1_39 w.params).In s.heap) (Q E : Value → Shared → Prop) (hQ : Q (.bool true) s) :
   wpAny (model PySem.Challenge.pw_il0125_01 w) AX (call (.builtin "issubclass") [.ref 210, .type "tuple"]) Q E s := by
  x_run
theorem typeX (w : World) (s : Shared) (_X : (Mine.hd.heap_1_39 w.params).In s.heap) (Q E : Value → Shared → Prop)
   (p d : Addr) (a b : Str) (ta tb : Tok) (hf : s.heap.get? p = some ⟨.ref 210, some d, .seq #[.str a ta, .str b tb] 0, #[]⟩) (hQ : Q (.ref 210) s) :
   wpAny (model PySem.Challenge.pw_il0125_01 w) AX (call (.type "type") [.ref p]) Q E s := by
  x_run
open PySem.MeetsSeq in
theorem pair_getitem_at (l d : Addr) (items : Array Value) (n : Nat) (i : Int) (u : Tok) (k : Nat) (y : Value) (hlo : -2 ^ 63 ≤ i) (hhi : i < 2 ^ 63) (hk : seqIndex? i items.size = some k) (hy : items[k]? = some y) :
    Meets (Builtin.«tuple.__getitem__» ⟨[.ref l, .int i u], []⟩)
      (fun _ R s => s.heap.get? l = some { cls := .ref 210, dict := some d, data := .seq items n, slots := #[] } ∧ R (.ok (.ret y)) s) :=
  .of_wp fun prog w A R s h => by
    obtain ⟨hp, g, d, tk, os⟩ := s; obtain ⟨hl, h⟩ := h
    have f1 := AutoSeq1.idx_int
    have hf : ¬ (decide (i < -2 ^ 63) || decide (i ≥ 2 ^ 63)) = true := by simp; omega
    wp_walk using wpAny_loadPart' hl
    simp only [hk, hy, Option.bind_some]
    refine wpAny_ite_false (by simp; omega) ?_
    wp_walk
    exact ⟨_, rfl, h⟩
theorem kind_tgi : builtinKind "tuple.__getitem__" = some .slot := by decide +kernel
theorem plain_tgi : plainId "tuple.__getitem__" = true := by decide +kernel
theorem split_tgi : splitId "tuple.__getitem__" = some ("tuple", "__getitem__") := by decide +kernel
theorem pair_item (w : World) {A : Around} {Q E : Value → Shared → Prop} {s : Shared} (X : (Mine.hd.heap_1_39 w.params).In s.heap) {p d : Addr} {a b y : Value} {i : Int} {ti : Tok} (hp : s.heap.get? p = some (pairO d a b)) (k : Nat) (hk : seqIndex? i 2 = some k) (hy : #[a, b][k]? = some y) (h0 : 0 ≤ i) (h1 : i < 2) (h : Q y s) :
    wpAny (model PySem.Challenge.pw_il0125_01 w) A (call (.builtin "tuple.__getitem__") [.ref p, .int i ti]) Q E s := by
  have t1 : Looks (model PySem.Challenge.pw_il0125_01 w) s.heap (typeOf (.ref p)) (.ref 210) := (Looks.ld hp).andThen .now
  have sub : Looks (model PySem.Challenge.pw_il0125_01 w) s.heap (isSubtype (.ref 210) (.type "tuple")) true := looks_subIn X (by k_is)
  have hin : Looks (model PySem.Challenge.pw_il0125_01 w) s.heap (isInstance (.ref p) (.type "tuple")) true := t1.andThen sub
  refine wpAny_call ?_
  with_reducible refine codeAny_call_builtin_at ?q1 PyProof.Rows.entry_tuple_getitem ?_
  case q1 => exact Code.quiet_builtin _ (by decide +kernel)
  with_reducible refine check_slot kind_tgi split_tgi hin (PyProof.Rows.args_tuple_getitem _ _) ?_
  rw [Around.under_plainId plain_tgi]
  exact pair_getitem_at p d #[a, b] 0 i ti k y (by omega) (by omega) hk hy _ w A (wants Q E) s ⟨hp, h⟩
theorem tg0_walk (w : World) (mean : ExcName → Option Value) (mg mb : Str → Option Value) (news : CbLed) (P d : Addr) (x y : Str) (tx ty : Tok) (A' : Around)
  (cn : Str) (cs : Scope) (a : Addr) (ccd : Value) (cl : List (Str × Addr)) (outer : List Env) (A₀ : Around) (base h₀ : Heap) (L : Addr) (m : Str → Option Value) (s : Shared) (Q E : Value → Shared → Prop)
  (hA1 : A'.frames = some (envX cn cs L a ccd cl :: outer)) (hA2 : A'.handled = none) (hA3 : A'.depth ≤ 520) (hA4 : A'.units ≤ 5020)
  (hB : Below A₀ base outer h₀) (hF : Fr h₀ L s.heap m) (hX : (Mine.hd.heap_1_39 w.params).In h₀) (hN : News h₀ L s.heap ((P, pairO d (.str x tx) (.str y ty)) :: news)) (hT : Top topProg LO mean mg mb h₀) (hcs : cs.kind = .function)
  (hret : ∀ h' tk', Fr h₀ L h' m → News h₀ L h' ((P, pairO d (.str x tx) (.str y ty)) :: news) → Q (.str x tx) { s with heap := h', toks := tk' }) :
  wpAny (model PySem.Challenge.pw_il0125_01 w) A' (call (.ref 68) [.ref 179, .ref P, .ref 210]) Q E s := by
  k_with_none
  have rl : recursionLimit = 1000 := rfl
  refine wpAny_call ?_
  (refine' code_def (A := A') ?k1 ?k2 ?k3 ?k4 ?k5 ?kA ?kF ?kK ?k6 ?k7 ?k8 ?k9 ?kB ?_ ?c2 ?c3 ?c4 ?c5; (case kA => exact hA1); (case kF => exact rfl); (case kK => assumption); (case k1 => k_asm); (case k2 => k_asm); (case k3 => k_asm); (case k4 => k_asm); (case k5 => k_asm); (case k6 => k_is); (case k7 => k_is); (case k8 => (show A'.depth < recursionLimit; omega)); (case k9 => exact binds_K (hX.keeps hF.keep) rfl (by k_is) rfl rfl rfl); (case c5 => decide); (case kB => exact locs rfl); (case c2 => exact rfl); (case c3 => exact rfl); (case c4 => exact rfl); k_whole; intro g5 L5 h5 FG5 F5 N5 B5 X5 T5; (try dsimp only); (try k_fold))
  repeat' ((fail_if_success (with_reducible show wpAny _ _ (call (Value.type _) _) _ _ _)); (first | walk1 | (dsimp only; walk1)))
  rename Fr g5 _ _ _ => F6
  rename News g5 _ _ _ => N6
  refine wpAny_wide (A := AX) (by exact hA2) (by show A'.depth + 1 ≤ 700; omega) rfl rfl (by show A'.units + 3 ≤ 7000; omega) (typeX w _ (X5.keeps F6.keep) _ _ P d x y tx ty (N6 _ (.head _)).1 ?_)
  repeat' ((fail_if_success (with_reducible show wpAny _ _ (call (Value.builtin _) _) _ _ _)); (first | walk1 | (dsimp only; walk1)))
  refine wpAny_wide (A := AX) (by exact hA2) (by show A'.depth + 1 ≤ 700; omega) rfl rfl (by show A'.units + 3 ≤ 7000; omega) (isTupX w _ (X5.keeps F6.keep) _ _ ?_)
  repeat' ((fail_if_success (with_reducible show wpAny _ _ (getMethod (Value.type _) _ _) _ _ _)); (first | walk1 | (dsimp only; walk1)))
  rename Fr g5 _ _ _ => F6
  with_reducible refine method_type (v := .builtin "tuple.__getitem__") F6 X5 ?q1 ?q2 ?q3 ?q4 ?_
  case q1 => exact kitMeta_of (by decide +kernel)
  case q2 => decide +kernel
  case q3 => k_is
  case q4 => rfl
  repeat' ((fail_if_success (with_reducible show wpAny _ _ (call (Value.builtin _) _) _ _ _)); (first | walk1 | (dsimp only; walk1)))
  refine pair_item w (X5.keeps F6.keep) (N6 _ (.head _)).1 0 rfl rfl (by decide) (by decide) ?_
  iterate 1 (first | walk1 | (dsimp only; walk1))
  rename Fr h₀ L _ m => kF
  rename News h₀ L _ _ => kN
  exact hret _ _ kF kN
theorem tg1_walk (w : World) (mean : ExcName → Option Value) (mg mb : Str → Option Value) (news : CbLed) (P d : Addr) (x y : Str) (tx ty : Tok) (A' : Around)
  (cn : Str) (cs : Scope) (a : Addr) (ccd : Value) (cl : List (Str × Addr)) (outer : List Env) (A₀ : Around) (base h₀ : Heap) (L : Addr) (m : Str → Option Value) (s : Shared) (Q E : Value → Shared → Prop)
  (hA1 : A'.frames = some (envX cn cs L a ccd cl :: outer)) (hA2 : A'.handled = none) (hA3 : A'.depth ≤ 520) (hA4 : A'.units ≤ 5020)
  (hB : Below A₀ base outer h₀) (hF : Fr h₀ L s.heap m) (hX : (Mine.hd.heap_1_39 w.params).In h₀) (hN : News h₀ L s.heap ((P, pairO d (.str x tx) (.str y ty)) :: news)) (hT : Top topProg LO mean mg mb h₀) (hcs : cs.kind = .function)
  (hret : ∀ h' tk', Fr h₀ L h' m → News h₀ L h' ((P, pairO d (.str x tx) (.str y ty)) :: news) → Q (.str y ty) { s with heap := h', toks := tk' }) :
  wpAny (model PySem.Challenge.pw_il0125_01 w) A' (call (.ref 68) [.ref 182, .ref P, .ref 210]) Q E s := by
  k_with_none
  have rl : recursionLimit = 1000 := rfl
  refine wpAny_call ?_
  (refine' code_def (A := A') ?k1 ?k2 ?k3 ?k4 ?k5 ?kA ?kF ?kK ?k6 ?k7 ?k8 ?k9 ?kB ?_ ?c2 ?c3 ?c4 ?c5; (case kA => exact hA1); (case kF => exact rfl); (case kK => assumption); (case k1 => k_asm); (case k2 => k_asm); (case k3 => k_asm); (case k4 => k_asm); (case k5 => k_asm); (case k6 => k_is); (case k7 => k_is); (case k8 => (show A'.depth < recursionLimit; omega)); (case k9 => exact binds_K (hX.keeps hF.keep) rfl (by k_is) rfl rfl rfl); (case c5 => decide); (case kB => exact locs rfl); (case c2 => exact rfl); (case c3 => exact rfl); (case c4 => exact rfl); k_whole; intro g5 L5 h5 FG5 F5 N5 B5 X5 T5; (try dsimp only); (try k_fold))
  repeat' ((fail_if_success (with_reducible show wpAny _ _ (call (Value.type _) _) _ _ _)); (first | walk1 | (dsimp only; walk1)))
  rename Fr g5 _ _ _ => F6
  rename News g5 _ _ _ => N6
  refine wpAny_wide (A := AX) (by exact hA2) (by show A'.depth + 1 ≤ 700; omega) rfl rfl (by show A'.units + 3 ≤ 7000; omega) (typeX w _ (X5.keeps F6.keep) _ _ P d x y tx ty (N6 _ (.head _)).1 ?_)
  repeat' ((fail_if_success (with_reducible show wpAny _ _ (call (Value.builtin _) _) _ _ _)); (first | walk1 | (dsimp only; walk1)))
  refine wpAny_wide (A := AX) (by exact hA2) (by show A'.depth + 1 ≤ 700; omega) rfl rfl (by show A'.units + 3 ≤ 7000; omega) (isTupX w _ (X5.keeps F6.keep) _ _ ?_)
  repeat' ((fail_if_success (with_reducible show wpAny _ _ (getMethod (Value.type _) _ _) _ _ _)); (first | walk1 | (dsimp only; walk1)))
  rename Fr g5 _ _ _ => F6
  with_reducible refine method_type (v := .builtin "tuple.__getitem__") F6 X5 ?q1 ?q2 ?q3 ?q4 ?_
  case q1 => exact kitMeta_of (by decide +kernel)
  case q2 => decide +kernel
  case q3 => k_is
  case q4 => rfl
  repeat' ((fail_if_success (with_reducible show wpAny _ _ (call (Value.builtin _) _) _ _ _)); (first | walk1 | (dsimp only; walk1)))
  refine pair_item w (X5.keeps F6.keep) (N6 _ (.head _)).1 1 rfl rfl (by decide) (by decide) ?_
  iterate 1 (first | walk1 | (dsimp only; walk1))
  rename Fr h₀ L _ m => kF
  rename News h₀ L _ _ => kN
  exact hret _ _ kF kN
theorem pair_attr0 (w : World) (mean : ExcName → Option Value) (mg mb : Str → Option Value) (news : CbLed) (P d : Addr) (x y : Str) (tx ty : Tok) (A' : Around) (expr : Bool)
  (cn : Str) (cs : Scope) (a : Addr) (ccd : Value) (cl : List (Str × Addr)) (outer : List Env) (A₀ : Around) (base h₀ : Heap) (L : Addr) (m : Str → Option Value) (s : Shared) (Q E : Value → Shared → Prop)
  (hA1 : A'.frames = some (envX cn cs L a ccd cl :: outer)) (hA2 : A'.handled = none) (hA3 : A'.depth ≤ 500) (hA4 : A'.units ≤ 5000)
  (hB : Below A₀ base outer h₀) (hF : Fr h₀ L s.heap m) (hX : (Mine.hd.heap_1_39 w.params).In h₀) (hN : News h₀ L s.heap ((P, pairO d (.str x tx) (.str y ty)) :: (d, emptyD) :: news)) (hT : Top topProg LO mean mg mb h₀) (hcs : cs.kind = .function)
  (hret : ∀ h' tk', Fr h₀ L h' m → News h₀ L h' ((P, pairO d (.str x tx) (.str y ty)) :: (d, emptyD) :: news) → Q (.str x tx) { s with heap := h', toks := tk' }) :
  wpAny (model PySem.Challenge.pw_il0125_01 w) A' (getAttr (.ref P) (Str.ofString "name") expr) Q E s := by
  have I : InstAt s.heap P (pairO d (.str x tx) (.str y ty)) 210 (some emptyD) := ⟨(hN _ (.head _)).1, rfl, rfl, (hN _ (.tail _ (.head _))).1⟩
  have Xs := hX.keeps hF.keep
  with_reducible refine sub_bind (g := .ref 68) (a := .ref 179) (pair_ga w) Xs I ?q2 ?_
  case q2 =>
    have hh : hasDictIn (Mine.hd.heap_1_39 w.params) 210 = true := by k_is
    obtain ⟨cd, hc, _⟩ := any_some hh
    exact findObj_data (by rw [hc]; rfl) (by k_is) (by k_is) (by k_is)
  refine tg0_walk w mean mg mb _ P d x y tx ty A'.in1 cn cs a ccd cl outer A₀ base h₀ L m { s with toks := s.toks + 1 } _ _ hA1 hA2 (by show A'.depth ≤ 520; omega) (by show A'.units + 1 ≤ 5020; omega) hB hF hX hN hT hcs ?_
  intro h' tk' kF kN
  exact handed_on rfl (hret h' tk' kF kN)
theorem pair_attr1 (w : World) (mean : ExcName → Option Value) (mg mb : Str → Option Value) (news : CbLed) (P d : Addr) (x y : Str) (tx ty : Tok) (A' : Around) (expr : Bool)
  (cn : Str) (cs : Scope) (a : Addr) (ccd : Value) (cl : List (Str × Addr)) (outer : List Env) (A₀ : Around) (base h₀ : Heap) (L : Addr) (m : Str → Option Value) (s : Shared) (Q E : Value → Shared → Prop)
  (hA1 : A'.frames = some (envX cn cs L a ccd cl :: outer)) (hA2 : A'.handled = none) (hA3 : A'.depth ≤ 500) (hA4 : A'.units ≤ 5000)
  (hB : Below A₀ base outer h₀) (hF : Fr h₀ L s.heap m) (hX : (Mine.hd.heap_1_39 w.params).In h₀) (hN : News h₀ L s.heap ((P, pairO d (.str x tx) (.str y ty)) :: (d, emptyD) :: news)) (hT : Top topProg LO mean mg mb h₀) (hcs : cs.kind = .function)
  (hret : ∀ h' tk', Fr h₀ L h' m → News h₀ L h' ((P, pairO d (.str x tx) (.str y ty)) :: (d, emptyD) :: news) → Q (.str y ty) { s with heap := h', toks := tk' }) :
  wpAny (model PySem.Challenge.pw_il0125_01 w) A' (getAttr (.ref P) (Str.ofString "value") expr) Q E s := by
  have I : InstAt s.heap P (pairO d (.str x tx) (.str y ty)) 210 (some emptyD) := ⟨(hN _ (.head _)).1, rfl, rfl, (hN _ (.tail _ (.head _))).1⟩
  have Xs := hX.keeps hF.keep
  with_reducible refine sub_bind (g := .ref 68) (a := .ref 182) (pair_ga w) Xs I ?q2 ?_
  case q2 =>
    have hh : hasDictIn (Mine.hd.heap_1_39 w.params) 210 = true := by k_is
    obtain ⟨cd, hc, _⟩ := any_some hh
    exact findObj_data (by rw [hc]; rfl) (by k_is) (by k_is) (by k_is)
  refine tg1_walk w mean mg mb _ P d x y tx ty A'.in1 cn cs a ccd cl outer A₀ base h₀ L m { s with toks := s.toks + 1 } _ _ hA1 hA2 (by show A'.depth ≤ 520; omega) (by show A'.units + 1 ≤ 5020; omega) hB hF hX hN hT hcs ?_
  intro h' tk' kF kN
  exact handed_on rfl (hret h' tk' kF kN)
end Mine
end
end JTg
section JLn
theorem Mine.fresh_Ln : True := by w_top off; exact trivial
open PySem PySem.W PyProof.Rows PySem.Spec PySem.Calls PyProof.Rows.LCg
set_option maxRecDepth 100000
set_option maxHeartbeats 2000000
noncomputable section
namespace Mine
theorem filledLn : Filled PySem.Challenge.rw_il0125_01 Mine.hd.heap_1_39 := by k_fill; exact True.intro
def aroundOf (n : Int) : Str := [Str.ofString "", Str.ofString " ", Str.ofString "\t", Str.ofString " \t "].getD (n.fdiv 1024).toNat Str.empty
abbrev keyOf' (k : Int) : Str := Txt.item (Str.ofString "abcd") (k.fmod 4)
def lineF (n : Int) : Str := aroundOf n ++ keyOf' n ++ aroundOf n ++ Str.ofString "=" ++ aroundOf n ++ Str.ofString (toString ((n.fdiv 4).fmod 256)) ++ aroundOf n
theorem around_len (n : Int) : (aroundOf n).length ≤ 3 := by
  unfold aroundOf
  have h : ∀ i : Nat, ([Str.ofString "", Str.ofString " ", Str.ofString "\t", Str.ofString " \t "].getD i Str.empty).length ≤ 3
    | 0 => by decide
    | 1 => by decide
    | 2 => by decide
    | 3 => by decide
    | _ + 4 => by show Str.empty.length ≤ 3; decide
  exact h _
theorem byte_len (n : Int) : (Str.ofString (toString (n.fmod 256))).length ≤ 3 := by
  have h : ∀ k : Fin 256, (Str.ofString (toString ((k.val : Nat) : Int))).length ≤ 3 := by decide +kernel
  have h0 : 0 ≤ n.fmod 256 := Int.fmod_nonneg_of_pos _ (by decide)
  have h1 : n.fmod 256 < 256 := Int.fmod_lt_of_pos _ (by decide)
  have := h ⟨(n.fmod 256).toNat, by omega⟩
  rw [show (((⟨(n.fmod 256).toNat, by omega⟩ : Fin 256).val : Nat) : Int) = n.fmod 256 from Int.toNat_of_nonneg h0] at this
  exact this
theorem len_app (x y : Str) : (x ++ y).length = x.length + y.length := by
  show (x.cps ++ y.cps).size = _
  rw [Array.size_append]; rfl
local macro_rules | `(tactic| walk_at "binaryOp Add str str") => `(tactic| (k_here; k_dflt (refine PyProof.Rows.add_str ?_ ?hsz; (case hsz => rw [PySem.sizeLine_eq]; simp only [len_app]; omega); intro _ _)))
theorem line_cb (w : World) (mean : ExcName → Option Value) (mg mb : Str → Option Value) :
  CbC 220 0 (∀ (news : CbLed) (v : Int) (t : CbTok), Clm 8 40 w mean mg mb 220 news [] (0 ≤ v ∧ v < 4096) [.int v t] (fun t => .str (lineF v) t)) := by
  k_with_none
  unfold CbC; dsimp only [Clm, CbLists, CbRet]
  intro news v t dp un gd cn cs a ccd cl outer A₀ base h₀ L m s Q E hB hF hX hN hT hcs hpre hdp hun hret
  obtain ⟨hv0, hv1⟩ := hpre
  refine wpAny_call ?_
  cell_enter
  iterate 19 (first | walk1 | (dsimp only; walk1))
  have q0 : 0 ≤ v.fdiv 1024 ∧ v.fdiv 1024 < 4 := by rw [Int.fdiv_eq_ediv_of_nonneg _ (by decide)]; omega
  rename News _ _ _ _ => N5
  refine KTb.item_list (ws := [Str.ofString "", Str.ofString " ", Str.ofString "\t", Str.ofString " \t "]) (News.isList N5 (.head _)) (.cons _ _ (.cons _ _ (.cons _ _ (.cons _ _ .nil)))) q0.1 q0.2 (by omega) ?_
  intro tar har
  change wpAny _ _ (storeName _ _ (Value.str (aroundOf v) tar)) _ _ _
  clear har
  have ha := around_len v
  have hb := byte_len (v.fdiv 4)
  have he : (Str.ofString "=").length = 1 := by decide
  repeat' (first | walk1 | (dsimp only; walk1))
  rename Fr _ _ _ _ => kF
  rename News _ _ _ _ => kN
  exact hret _ _ _ kF (fun p hp => kN p (.tail _ hp))
end Mine
end
end JLn
section JSq
theorem Mine.fresh_Sq : True := by w_top off; exact trivial
open PySem PySem.W PyProof.Rows PySem.Builtin PySem.Builtin.Str PySem.StrLaws
set_option maxRecDepth 100000
set_option maxHeartbeats 1000000
namespace Mine
def leftF (n : Int) : Str := aroundOf n ++ keyOf' n ++ aroundOf n
def digF (n : Int) : Str := Str.ofString (toString ((n.fdiv 4).fmod 256))
def rightF (n : Int) : Str := aroundOf n ++ digF n ++ aroundOf n
theorem str_toList_ext {x y : Str} (h : x.cps.toList = y.cps.toList) : x = y := by
  obtain ⟨⟨l⟩⟩ := x; obtain ⟨⟨k⟩⟩ := y
  have : l = k := h
  rw [this]
theorem toList_app (x y : Str) : (x ++ y).cps.toList = x.cps.toList ++ y.cps.toList := by
  show (x.cps ++ y.cps).toList = _
  rw [Array.toList_append]
theorem takeWhile_pre {p : Nat → Bool} {a c : List Nat} (ha : ∀ x ∈ a, p x = true) (hc : ∀ x, c.head? = some x → p x = false) : (a ++ c).takeWhile p = a := by
  induction a with
  | nil =>
    cases c with
    | nil => rfl
    | cons x r => rw [List.nil_append, List.takeWhile_cons, if_neg (by rw [hc x rfl]; decide)]
  | cons y r ih => rw [List.cons_append, List.takeWhile_cons, if_pos (ha y (.head _)), ih fun x hx => ha x (.tail _ hx)]
theorem strip_sub (x : Str) : Txt.strip x = strSub x (stripLo Unicode.isSpace true x) (stripHi Unicode.isSpace true x (stripLo Unicode.isSpace true x)) := by
  unfold Txt.strip Txt.stripBy
  by_cases h : stripSame Unicode.isSpace true true x = true
  · rw [if_pos h]
    unfold stripSame at h
    simp only [Bool.and_eq_true, beq_iff_eq] at h
    rw [h.2, h.1]; exact (sub_whole x).symm
  · rw [if_neg h]; rfl
theorem strip_sand {x a c b : Str} (e : x = a ++ c ++ b) (ha : ∀ k ∈ a.cps.toList, Unicode.isSpace k = true) (hb : ∀ k ∈ b.cps.toList, Unicode.isSpace k = true) (hc : ∀ k ∈ c.cps.toList, Unicode.isSpace k = false) (hne : c.cps.toList ≠ []) : Txt.strip x = c := by
  have eL : x.cps.toList = a.cps.toList ++ (c.cps.toList ++ b.cps.toList) := by rw [e, toList_app, toList_app, List.append_assoc]
  obtain ⟨c0, cr, ec⟩ : ∃ c0 cr, c.cps.toList = c0 :: cr := by
    cases h : c.cps.toList with
    | nil => exact absurd h hne
    | cons c0 cr => exact ⟨c0, cr, rfl⟩
  have hlo : stripLo Unicode.isSpace true x = a.cps.toList.length := by
    unfold stripLo
    rw [if_pos rfl, eL, takeWhile_pre ha]
    intro k hk
    rw [ec] at hk
    exact hc k (by rw [ec]; rw [List.cons_append, List.head?_cons] at hk; rw [← Option.some.inj hk]; exact .head _)
  have hlen : x.length = a.cps.toList.length + (c.cps.toList.length + b.cps.toList.length) := by
    show x.cps.size = _
    rw [← Array.length_toList, eL, List.length_append, List.length_append]
  have hhi : stripHi Unicode.isSpace true x (stripLo Unicode.isSpace true x) = a.cps.toList.length + c.cps.toList.length := by
    unfold stripHi
    rw [if_pos rfl, hlo, eL, List.drop_left, List.reverse_append, takeWhile_pre (by intro k hk; exact hb k (List.mem_reverse.mp hk)) (by
      intro k hk
      exact hc k (List.mem_reverse.mp (List.mem_of_mem_head? (by rw [hk]; exact rfl)))), List.length_reverse, hlen]
    omega
  rw [strip_sub, hhi, hlo]
  apply str_toList_ext
  rw [strSub_toList, eL, List.drop_left, Nat.add_sub_cancel_left, List.take_left]
theorem occ_full (s sub : Str) (hi : Nat) : ∀ (l : List Nat) (st : Array Nat × Nat), 1 ≤ st.fst.size → (forIn l st (occBody s sub hi 1)).run.fst = st.fst
  | [], _, _ => rfl
  | b :: l, st, h => by
    rw [List.forIn_cons]
    unfold occBody
    rw [if_neg (fun q => by have := q.1.1.1; omega)]
    exact occ_full s sub hi l _ h
theorem occ_pre (s sub : Str) (hi : Nat) : ∀ (l r : List Nat) (st : Array Nat × Nat), (∀ i ∈ l, ¬ subAt s sub i = true) → (forIn (l ++ r) st (occBody s sub hi 1)).run.fst = (forIn r st (occBody s sub hi 1)).run.fst
  | [], _, _, _ => rfl
  | b :: l, r, st, h => by
    rw [List.cons_append, List.forIn_cons]
    conv => lhs; unfold occBody
    rw [if_neg (fun q => h b (.head _) q.2)]
    exact occ_pre s sub hi l r st fun i hi => h i (.tail _ hi)
theorem occ_one {x y z : Str} {c : Nat} (e : x = y ++ ⟨#[c]⟩ ++ z) (hy : c ∉ y.cps.toList) : occurrences x ⟨#[c]⟩ 0 x.length 1 = [y.length] := by
  have eL : x.cps.toList = y.cps.toList ++ (c :: z.cps.toList) := by rw [e, toList_app, toList_app, List.append_assoc]; rfl
  have hyl : y.cps.toList.length = y.length := Array.length_toList ..
  have hlen : x.length = y.length + (1 + z.length) := by
    show x.cps.size = _
    rw [← Array.length_toList, eL, List.length_append, List.length_cons, hyl, Array.length_toList]
    show _ = y.length + (1 + z.cps.size); omega
  rw [occ_eq]
  have er : List.range' 0 (x.length + 1 - 0) = List.range' 0 y.length ++ (y.length :: List.range' (y.length + 1) (z.length + 1)) := by
    have : x.length + 1 - 0 = y.length + (z.length + 1 + 1) := by omega
    rw [this, ← List.range'_append_1, Nat.zero_add, ← List.range'_succ]
  rw [er, occ_pre]
  · rw [List.forIn_cons]
    have hat : subAt x ⟨#[c]⟩ y.length = true ∧ y.length + (⟨#[c]⟩ : Str).length ≤ x.length := by
      have := (subAt_one x c y.length).mpr (by rw [eL, List.getElem?_append_right (by omega), hyl, Nat.sub_self]; rfl)
      exact ⟨this.2, this.1⟩
    conv => lhs; arg 1; unfold occBody
    rw [if_pos ⟨⟨⟨by decide, Nat.zero_le _⟩, hat.2⟩, hat.1⟩]
    exact (congrArg Array.toList (occ_full _ _ _ _ _ (by simp))).trans rfl
  · intro i hi hq
    have hlt : i < y.length := by have := List.mem_range'_1.mp hi; omega
    have := (subAt_one x c i).mp ⟨by show i + 1 ≤ _; omega, hq⟩
    rw [eL, List.getElem?_append_left (by omega)] at this
    exact hy (List.mem_of_getElem? this)
theorem parts_one {x y z : Str} {c : Nat} (e : x = y ++ ⟨#[c]⟩ ++ z) : partsBetween x [y.length] 1 = [y, z] := by
  have eL : x.cps.toList = y.cps.toList ++ (c :: z.cps.toList) := by rw [e, toList_app, toList_app, List.append_assoc]; rfl
  have hyl : y.cps.toList.length = y.length := Array.length_toList ..
  have hzl : z.cps.toList.length = z.length := Array.length_toList ..
  have hlen : x.length = y.length + (1 + z.length) := by
    show x.cps.size = _
    rw [← Array.length_toList, eL, List.length_append, List.length_cons, hyl, Array.length_toList]
    show _ = y.length + (1 + z.cps.size); omega
  show [strSub x 0 y.length, strSub x (y.length + 1) x.length] = _
  have h1 : strSub x 0 y.length = y := str_toList_ext (by rw [strSub_toList, eL, List.drop_zero, Nat.sub_zero, ← hyl, List.take_left])
  have h2 : strSub x (y.length + 1) x.length = z := str_toList_ext (by
    rw [strSub_toList, eL, ← hyl, ← List.drop_drop, List.drop_left, List.drop_succ_cons, List.drop_zero]
    exact List.take_of_length_le (by rw [hyl, hzl]; omega))
  rw [h1, h2]
theorem around_ok (n : Int) : ∀ k ∈ (aroundOf n).cps.toList, Unicode.isSpace k = true ∧ k ≠ 61 ∧ k < 256 := by
  unfold aroundOf
  have h : ∀ i : Nat, ∀ k ∈ ([Str.ofString "", Str.ofString " ", Str.ofString "\t", Str.ofString " \t "].getD i Str.empty).cps.toList, Unicode.isSpace k = true ∧ k ≠ 61 ∧ k < 256
    | 0 => by decide +kernel
    | 1 => by decide +kernel
    | 2 => by decide +kernel
    | 3 => by decide +kernel
    | _ + 4 => by intro k hk; exact absurd hk (by show k ∉ Str.empty.cps.toList; exact List.not_mem_nil)
  exact h _
theorem key_ok (n : Int) : (keyOf' n).cps.toList ≠ [] ∧ ∀ k ∈ (keyOf' n).cps.toList, Unicode.isSpace k = false ∧ k ≠ 61 ∧ k < 256 := by
  have h0 : 0 ≤ n.fmod 4 := Int.fmod_nonneg_of_pos _ (by decide)
  have h1 : n.fmod 4 < 4 := Int.fmod_lt_of_pos _ (by decide)
  unfold keyOf'
  generalize n.fmod 4 = j at h0 h1
  have h : j = 0 ∨ j = 1 ∨ j = 2 ∨ j = 3 := by omega
  rcases h with rfl | rfl | rfl | rfl <;> decide +kernel
theorem dig_ok (n : Int) : (digF n).cps.toList ≠ [] ∧ ∀ k ∈ (digF n).cps.toList, Unicode.isSpace k = false ∧ k ≠ 61 ∧ k < 256 := by
  have h : ∀ k : Fin 256, (Str.ofString (toString ((k.val : Nat) : Int))).cps.toList ≠ [] ∧ ∀ j ∈ (Str.ofString (toString ((k.val : Nat) : Int))).cps.toList, Unicode.isSpace j = false ∧ j ≠ 61 ∧ j < 256 := by decide +kernel
  unfold digF
  have h0 : 0 ≤ (n.fdiv 4).fmod 256 := Int.fmod_nonneg_of_pos _ (by decide)
  have h1 : (n.fdiv 4).fmod 256 < 256 := Int.fmod_lt_of_pos _ (by decide)
  have := h ⟨((n.fdiv 4).fmod 256).toNat, by omega⟩
  rw [show (((⟨((n.fdiv 4).fmod 256).toNat, by omega⟩ : Fin 256).val : Nat) : Int) = (n.fdiv 4).fmod 256 from Int.toNat_of_nonneg h0] at this
  exact this
theorem line_cut (n : Int) : lineF n = leftF n ++ ⟨#[61]⟩ ++ rightF n := by
  apply str_toList_ext
  unfold lineF leftF rightF digF
  simp only [toList_app, List.append_assoc]
  rfl
theorem split_facts (n : Int) :
    (decide ((lineF n).length < (Str.ofString "=").length) || decide (PySem.Builtin.Str.strKind (lineF n) < PySem.Builtin.Str.strKind (Str.ofString "="))) = false ∧
    (PySem.Builtin.Str.occurrences (lineF n) (Str.ofString "=") 0 (lineF n).length (limitOf (lineF n) 1)).isEmpty = false ∧
    PySem.Builtin.Str.partsBetween (lineF n) (PySem.Builtin.Str.occurrences (lineF n) (Str.ofString "=") 0 (lineF n).length (limitOf (lineF n) 1)) (Str.ofString "=").length = [leftF n, rightF n] ∧
    Txt.strip (leftF n) = keyOf' n ∧ Txt.strip (rightF n) = digF n := by
  have e0 : Str.ofString "=" = ⟨#[61]⟩ := by decide +kernel
  have e1 : limitOf (lineF n) 1 = 1 := rfl
  have ho : occurrences (lineF n) ⟨#[61]⟩ 0 (lineF n).length 1 = [(leftF n).length] := occ_one (line_cut n) (by
    intro hm
    unfold leftF at hm
    rw [toList_app, toList_app] at hm
    rcases List.mem_append.mp hm with hm | hm
    · rcases List.mem_append.mp hm with hm | hm
      · exact (around_ok n _ hm).2.1 rfl
      · exact ((key_ok n).2 _ hm).2.1 rfl
    · exact (around_ok n _ hm).2.1 rfl)
  rw [e0, e1, ho]
  refine ⟨?_, rfl, parts_one (line_cut n), strip_sand rfl (fun k hk => (around_ok n k hk).1) (fun k hk => (around_ok n k hk).1) (fun k hk => ((key_ok n).2 k hk).1) (key_ok n).1, strip_sand rfl (fun k hk => (around_ok n k hk).1) (fun k hk => (around_ok n k hk).1) (fun k hk => ((dig_ok n).2 k hk).1) (dig_ok n).1⟩
  have hl : ¬ (lineF n).length < (⟨#[61]⟩ : Str).length := by
    rw [line_cut, len_app, len_app]
    show ¬ _ + 1 + _ < 1; omega
  have hk : ¬ PySem.Builtin.Str.strKind (lineF n) < PySem.Builtin.Str.strKind ⟨#[61]⟩ := by
    have : PySem.Builtin.Str.strKind ⟨#[61]⟩ = 1 := by decide +kernel
    rw [this]
    unfold PySem.Builtin.Str.strKind
    split
    · omega
    · split <;> omega
  rw [decide_eq_false hl, decide_eq_false hk]; rfl
end Mine
end JSq
section JPs
theorem Mine.fresh_Ps : True := by w_top off; exact trivial
open PySem PySem.W PyProof.Rows PySem.Spec PySem.Calls PyProof.Rows.LCg
set_option maxRecDepth 100000
set_option maxHeartbeats 2000000
noncomputable section
namespace Mine
theorem filledPs : Filled PySem.Challenge.rw_il0125_01 Mine.hd.heap_1_39 := by k_fill; exact True.intro
theorem key_len (n : Int) : (keyOf' n).length = 1 := by
  have h0 : 0 ≤ n.fmod 4 := Int.fmod_nonneg_of_pos _ (by decide)
  have h1 : n.fmod 4 < 4 := Int.fmod_lt_of_pos _ (by decide)
  unfold keyOf'
  generalize n.fmod 4 = j at h0 h1
  have h : j = 0 ∨ j = 1 ∨ j = 2 ∨ j = 3 := by omega
  rcases h with rfl | rfl | rfl | rfl <;> decide
theorem line_len (n : Int) : (lineF n).length ≤ 30 := by
  have ha := around_len n
  have hb := byte_len (n.fdiv 4)
  have hk := key_len n
  have he : (Str.ofString "=").length = 1 := by decide
  unfold lineF
  simp only [len_app]
  omega
theorem left_len (n : Int) : (leftF n).length ≤ 30 := by
  have ha := around_len n
  have hk := key_len n
  unfold leftF
  simp only [len_app]
  omega
theorem right_len (n : Int) : (rightF n).length ≤ 30 := by
  have ha := around_len n
  have hb := byte_len (n.fdiv 4)
  unfold rightF digF
  simp only [len_app]
  omega
theorem items_two {x y : Str} {acc : Array Value} (h : ItemsOf (fun i v => ∃ x' t, [x, y][i]? = some x' ∧ v = .str (Txt.strip x') t) acc 2) : ∃ t1 t2, acc.toList = [.str (Txt.strip x) t1, .str (Txt.strip y) t2] := by
  obtain ⟨l⟩ := acc
  obtain ⟨hs, hv⟩ := h
  match l, hs, hv with
  | [a, b], _, hv =>
    obtain ⟨x0, t0, e0, r0⟩ := hv 0 a rfl
    obtain ⟨x1, t1, e1, r1⟩ := hv 1 b rfl
    obtain rfl := Option.some.inj e0
    obtain rfl := Option.some.inj e1
    exact ⟨t0, t1, by rw [r0, r1]⟩
theorem parse_walk (w : World) (mean : ExcName → Option Value) (mg mb : Str → Option Value) (news : CbLed) (k : Int) (t : Tok) 
  (dp un : Nat) (gd : Option (List Code)) (cn : Str) (cs : Scope) (a : Addr) (ccd : Value) (cl : List (Str × Addr)) (outer : List Env) (A₀ : Around) (base h₀ : Heap) (L : Addr) (m : Str → Option Value) (s : Shared) (Q E : Value → Shared → Prop)
  (hB : Below A₀ base outer h₀) (hF : Fr h₀ L s.heap m) (hX : (Mine.hd.heap_1_39 w.params).In h₀) (hN : News h₀ L s.heap news) (hT : Top topProg LO mean mg mb h₀) (hcs : cs.kind = .function) (hdp : dp ≤ 450) (hun : un ≤ 4500)
  (hret : ∀ h' tk' P d t1 t2, Fr h₀ L h' m → News h₀ L h' ((P, pairO d (.str (keyOf' k) t1) (.str (digF k) t2)) :: (d, emptyD) :: news) → Q (.ref P) { s with heap := h', toks := tk' }) :
  codeAny (model PySem.Challenge.pw_il0125_01 w) (ktrTop dp un gd cn cs L a ccd cl outer) (.call (.ref 204) ⟨[.ref 210, .str (lineF k) t], []⟩) (wants Q E) s := by
  k_with_none
  have rl : recursionLimit = 1000 := rfl
  have rc : cLine = 9900 := rfl
  (refine' code_def ?k1 ?k2 ?k3 ?k4 ?k5 ?kA ?kF ?kK ?k6 ?k7 ?k8 ?k9 ?kB ?_ ?c2 ?c3 ?c4 ?c5; (case kA => exact rfl); (case kF => exact rfl); (case kK => assumption); (case k1 => k_asm); (case k2 => k_asm); (case k3 => k_asm); (case k4 => k_asm); (case k5 => k_asm); (case k6 => k_is); (case k7 => k_is); (case k8 => (show dp < recursionLimit; omega)); (case k9 => exact BindsTo.of_eq rfl); (case c5 => decide); (case kB => exact locs rfl); (case c2 => exact rfl); (case c3 => exact rfl); (case c4 => exact rfl); k_whole; intro g' L' h' FG' F' N' B' X' T'; (try dsimp only); (try k_lift B'); (try k_fold))
  iterate 12 (first | walk1 | (dsimp only; walk1))
  rename Fr g' _ _ _ => F1
  refine strip_attr w ((by assumption : Frag.In _ g').keeps F1.keep) (fun u => ?_)
  iterate 10 (first | walk1 | (dsimp only; walk1))
  try dsimp only [List.cons_append, List.nil_append]
  obtain ⟨f1, f2, f3, f4, f5⟩ := split_facts k
  rename News g' _ _ _ => N1
  have hsl : PySem.sizeLine = 16777216 := PySem.sizeLine_eq
  refine PySem.call_meets F.slot_str_split (typeIs_str _ _ _) F.entry_str_split (F.args_str_split_3 _ _ _) (meets_str_split_sep_max (lineF k) (Str.ofString "=") 1 _ _ _ (by decide) f1 (by decide) f2 (by have := line_len k; omega) (by rw [f3]; show 2 ≤ _; omega)) ?_
  rw [f3]
  have Xh : (Mine.hd.heap_1_39 w.params).In h' := (by assumption : Frag.In _ g').keeps F1.keep
  have keep1 : ∀ b o, h'.get? b = some o → (h'.push { cls := .type "list", data := .seq (strsFrom (u + 1 + 1) [leftF k, rightF k]).toArray }).get? b = some o := fun b o e => Heap.get?_push_of_some _ e
  have hl1 : (h'.push { cls := .type "list", data := .seq (strsFrom (u + 1 + 1) [leftF k, rightF k]).toArray }).get? h'.objs.size = some { cls := .type "list", data := .seq (strsFrom (u + 1 + 1) [leftF k, rightF k]).toArray } := Heap.get?_push_size _ rfl
  have F2 := F1.keeps keep1
  have N2 := N1.grown keep1
  iterate 1 (first | walk1 | (dsimp only; walk1))
  refine newMap w rfl (by show dp + _ ≤ _; omega) (by show un + _ ≤ _; omega) _ (Xh.keeps keep1) _ _ _ _ _ _ _ _ hl1 ?_
  intro h2 z TI it hk2 hz hTI hit hnz hnTI hnit hzT hzi hTi
  have F3 := F2.keeps hk2
  have N3 := N2.grown hk2
  have ltk : ∀ b o, (h'.push { cls := .type "list", data := .seq (strsFrom (u + 1 + 1) [leftF k, rightF k]).toArray }).get? b = some o → b ≠ it := fun b o e q => by rw [q] at e; rw [hnit] at e; cases e
  refine star_map (ys := [leftF k, rightF k]) rfl F3 N3 hz hTI hit ⟨_, hk2 _ _ hl1, rfl, _, rfl⟩ hzi hTi (ltk _ _ hl1) (fun i hi => ?_) (by show 2 ≤ _; omega) ?_ ?_ (fun p hp => ltk _ _ (N2 p hp).1) ?_
  · have hi2 : i < 2 := hi
    match i, hi2 with
    | 0, _ => exact ⟨leftF k, _, rfl, rfl, by have := left_len k; omega⟩
    | 1, _ => exact ⟨rightF k, _, rfl, rfl, by have := right_len k; omega⟩
  · obtain ⟨oL, eL, _⟩ := ns_obj F2.ns
    exact ltk _ _ eL
  · cases q : g'.get? it with
    | none => rfl
    | some o => exact absurd rfl (ltk _ _ (F2.keep _ _ q))
  intro h3 tk3 acc F4 N4 hacc
  obtain ⟨t1, t2, hacc⟩ := items_two hacc
  rw [hacc, f4, f5]
  refine ⟨(by assumption : Frag.In _ g').keeps F4.keep, ?_⟩
  clear F1 N1 F2 N2 F3 N3
  refine wpAny_call (pair_call w rfl (by show dp + _ ≤ 500; omega) (by show un + _ ≤ 5000; omega) ((by assumption : Frag.In _ g').keeps F4.keep) ?_)
  intro A' u2 hA1 hA2 hA3 hA4
  refine pnew_walk w mean mg mb news _ _ _ _ A' _ _ _ _ [] _ _ base g' L' _ ⟨h3, s.gens, s.drawn, u2, s.os⟩ _ _ hA1 hA2 hA3 hA4 (by assumption) F4 (by assumption) N4 (by assumption) rfl ?_
  intro h7 tk7 P d F7 N7
  refine ⟨P, d, rfl, (by assumption : Frag.In _ g').keeps F7.keep, (N7 _ (.head _)).1, ?_⟩
  show qk (Flow.ret (.ref P)) _
  iterate 1 (first | walk1 | (dsimp only; walk1))
  rename Fr h₀ L _ m => kF
  rename News h₀ L _ _ => kN
  exact hret _ _ P d t1 t2 kF kN
end Mine
end
end JPs
section JRw
theorem Mine.fresh_Rw : True := by w_top off; exact trivial
open PySem PySem.W PyProof.Rows PySem.Spec PySem.Calls PyProof.Rows.LCg
set_option maxRecDepth 100000
set_option maxHeartbeats 2000000
noncomputable section
namespace Mine
theorem filledRw : Filled PySem.Challenge.rw_il0125_01 Mine.hd.heap_1_39 := by k_fill; exact True.intro
/-- one entry of the rows: its letter, where its list lies, the list -/
structure RC where
  key : Str
  at_ : Addr
  vs : List Value
  row : List Int
def RC.led (c : RC) : Addr × Obj := (c.at_, listOf c.vs.toArray 0)
def RC.kv (c : RC) : Str × Value := (c.key, .ref c.at_)
def letter (n : Int) : Str := ⟨#[97 + (n % 4).toNat]⟩
section
variable {prog : Program} {K : Type} [DecidableEq K] {w : World} {knd : KeyKind prog w K} {A : Around} {E : Value → Shared → Prop} {s : Shared} {h₀ : Heap} {L d : Addr} {m : Str → Option Value} {o : Obj} {kvs : List (K × Value)} {k : K} {key v : Value}
theorem set_led {rest : List (Addr × Obj)} {Q : Unit → Shared → Prop} (F : Fr h₀ L s.heap m) (N : News h₀ L s.heap ((d, o) :: rest)) (off : ∀ p ∈ rest, p.1 ≠ d) (hd : o.IsDictOf knd kvs) (hkey : knd.is k key = true)
    (hsz : kvs.length ≤ sizeLine)
    (h : ∀ h' o', Fr h₀ L h' m → News h₀ L h' ((d, o') :: rest) → o'.IsDictOf knd (stored kvs k v) → Q () { s with heap := h', toks := s.toks + 1 }) : wpAny (model prog w) A (setItem (.ref d) key v) Q E s := by
  have Nd := N (d, o) (.head _)
  refine wpAny_setItem_pairs hkey (Heap.dictOf_iff.mpr ⟨o, Nd.1, hd⟩) (fun h' hm' hs' => ?_) hsz
  obtain ⟨o', e', hd'⟩ := Heap.dictOf_iff.mp hm'
  refine h h' o' (F.change hs' Nd.2.1 Nd.2.2) (fun p hp => ?_) hd'
  rcases List.mem_cons.mp hp with rfl | hp
  · exact ⟨e', Nd.2⟩
  · exact ⟨hs'.extBut _ _ (off p hp) (N p (.tail _ hp)).1, (N p (.tail _ hp)).2⟩
end
def rowAt (cells : List RC) (key : Str) : List Int := ((cells.find? fun c => c.key = key).map (·.row)).getD []
theorem cells_at (key : Str) : ∀ cells : List RC, (∃ c ∈ cells, c.key = key ∧ valueAt (cells.map RC.kv) key = some (.ref c.at_) ∧ rowAt cells key = c.row) ∨ ((∀ c ∈ cells, c.key ≠ key) ∧ valueAt (cells.map RC.kv) key = none ∧ rowAt cells key = [])
  | [] => .inr ⟨fun c hc => absurd hc List.not_mem_nil, rfl, rfl⟩
  | c :: r => by
    by_cases h : c.key = key
    · exact .inl ⟨c, .head _, h, by simp [valueAt, RC.kv, h], by simp [rowAt, h]⟩
    · have e : valueAt ((c :: r).map RC.kv) key = valueAt (r.map RC.kv) key := by simp [valueAt, RC.kv, h]
      have e2 : rowAt (c :: r) key = rowAt r key := by simp [rowAt, h]
      rw [e, e2]
      rcases cells_at key r with ⟨c', hc', hk, hv⟩ | ⟨hn, hv⟩
      · exact .inl ⟨c', .tail _ hc', hk, hv⟩
      · exact .inr ⟨fun c' hc' => by rcases List.mem_cons.mp hc' with rfl | hc'; exact h; exact hn c' hc', hv⟩
abbrev keyOf (k : Int) : Str := Txt.item (Str.ofString "abcd") (k.fmod 4)
theorem lookup_one (y a : Str) (v : Value) : List.lookup y [(a, v)] = if y = a then some v else none := by
  by_cases h : y = a
  · subst h; simp [List.lookup]
  · have : (y == a) = false := by simpa using h
    simp [List.lookup, this, h]
def putCell (cells : List RC) (n : RC) : List RC := if cells.any (fun c => c.key = n.key) then cells.map (fun c => if c.key = n.key then n else c) else cells ++ [n]
theorem putCell_kv (cells : List RC) (n : RC) : (putCell cells n).map RC.kv = stored (cells.map RC.kv) n.key (.ref n.at_) := by
  unfold putCell stored
  have e : (cells.map RC.kv).any (fun kv => kv.1 = n.key) = cells.any (fun c => c.key = n.key) := by rw [List.any_map]; rfl
  rw [e]
  by_cases h : cells.any (fun c => c.key = n.key) = true
  · rw [if_pos h, if_pos h, List.map_map, List.map_map]
    refine List.map_congr_left fun c _ => ?_
    by_cases hc : c.key = n.key
    · simp [RC.kv, hc]
    · simp [RC.kv, hc]
  · rw [if_neg h, if_neg h, List.map_append]; rfl
theorem putCell_mem {cells : List RC} {n c : RC} (h : c ∈ putCell cells n) : c = n ∨ c ∈ cells := by
  unfold putCell at h
  split at h
  · obtain ⟨d, hd, he⟩ := List.mem_map.mp h
    split at he
    · exact .inl he.symm
    · exact .inr (he ▸ hd)
  · rcases List.mem_append.mp h with h | h
    · exact .inr h
    · exact .inl (List.mem_singleton.mp h)
def RC.pr (c : RC) : Str × List Int := (c.key, c.row)
def rowIn (rs : List (Str × List Int)) (key : Str) : List Int := ((rs.find? fun p => p.1 = key).map (·.2)).getD []
def putRow (rs : List (Str × List Int)) (k : Int) : List (Str × List Int) :=
  if rs.any (fun p => p.1 = keyOf k) then rs.map (fun p => if p.1 = keyOf k then (p.1, rowIn rs (keyOf k) ++ [(k.fdiv 4).fmod 256]) else p) else rs ++ [(keyOf k, rowIn rs (keyOf k) ++ [(k.fdiv 4).fmod 256])]
def rowsF (ns : List Int) : List (Str × List Int) := ns.foldl putRow []
theorem rowAt_in (key : Str) : ∀ cells : List RC, rowAt cells key = rowIn (cells.map RC.pr) key
  | [] => rfl
  | c :: r => by
    by_cases h : c.key = key
    · simp [rowAt, rowIn, RC.pr, h]
    · have := rowAt_in key r
      simp only [rowAt, rowIn, List.map_cons, RC.pr] at this ⊢
      simp [h]
      simpa [rowAt, rowIn] using this
theorem putCell_pr (cells : List RC) (n : RC) (k : Int) (hk : n.key = keyOf k) (hr : n.row = rowAt cells (keyOf k) ++ [(k.fdiv 4).fmod 256]) : (putCell cells n).map RC.pr = putRow (cells.map RC.pr) k := by
  unfold putCell putRow
  rw [hk, ← rowAt_in, ← hr]
  have e : (cells.map RC.pr).any (fun p => p.1 = keyOf k) = cells.any (fun c => c.key = keyOf k) := by rw [List.any_map]; rfl
  rw [e]
  by_cases h : cells.any (fun c => c.key = keyOf k) = true
  · rw [if_pos h, if_pos h, List.map_map, List.map_map]
    refine List.map_congr_left fun c _ => ?_
    by_cases hc : c.key = keyOf k
    · simp [RC.pr, hc, hk]
    · simp [RC.pr, hc]
  · rw [if_neg h, if_neg h, List.map_append, ← hk]; rfl
theorem rows_walk (w : World) (mean : ExcName → Option Value) (mg mb : Str → Option Value) (news : CbLed) (l : CbAddr) (vs : List CbVal) (ns : List Int) (lo : CbObj) (hlm : (l, lo) ∈ news) (hlc : lo.cls = .type "list") (hld : ∃ n, lo.data = .seq vs.toArray n) (hi : IntsAre vs ns) (hlen : ns.length ≤ 11) (hbytes : ∀ n ∈ ns, 0 ≤ n ∧ n < 4096)
  (dp un : Nat) (gd : Option (List Code)) (cn : Str) (cs : Scope) (a : Addr) (ccd : Value) (cl : List (Str × Addr)) (outer : List Env) (A₀ : Around) (base h₀ : Heap) (L : Addr) (m : Str → Option Value) (s : Shared) (Q E : Value → Shared → Prop)
  (hB : Below A₀ base outer h₀) (hF : Fr h₀ L s.heap m) (hX : (Mine.hd.heap_1_39 w.params).In h₀) (hN : News h₀ L s.heap news) (hT : Top topProg LO mean mg mb h₀) (hcs : cs.kind = .function) (hdp : dp + 8 < recursionLimit) (hun : un + 40 < cLine)
  (hret : ∀ (h' : Heap) (tk' : Nat) (D : Addr) (od : Obj) (cells : List RC), Fr h₀ L h' m → News h₀ L h' ((D, od) :: (cells.map RC.led ++ news)) → (∀ p ∈ cells.map RC.led ++ news, p.1 ≠ D) → (D == sysModules) = false → Obj.IsDictOf (PySem.strKind PySem.Challenge.pw_il0125_01 w) od (cells.map RC.kv) → cells.map RC.pr = rowsF ns → (∀ c ∈ cells, IntsAre c.vs c.row) → Q (.ref D) { s with heap := h', toks := tk' }) :
  wpAny (model PySem.Challenge.pw_il0125_01 w) (ktrTop dp un gd cn cs L a ccd cl outer) (call (.ref 227) [.ref l]) Q E s := by
  k_with_none
  refine wpAny_call ?_
  cell_enter
  repeat' ((fail_if_success (with_reducible show wpAny _ _ (execs (Stmt.For _ _ _ _ _ :: _) _) _ _ _)); (first | walk1 | (dsimp only; walk1)))
  walk1
  rename Fr _ _ _ _ => F6
  rename Addr => D
  have F7 : Fr _ _ _ (fun y => if y = Str.ofString "rows" then some (.ref D) else if y = Str.ofString "numbers" then some (.ref l) else none) := fr_map F6 (fun y => by
    show (if y = Str.ofString "rows" then some (Value.ref D) else List.lookup y [(Str.ofString "numbers", Value.ref l)]) = _
    rw [lookup_one])
  clear F6
  with_unfolding_all refine' For_turns F7 ?_
  iterate 1 (first | walk1 | (dsimp only; walk1))
  rename News _ _ _ _ => N7
  obtain ⟨nn, hld⟩ := hld
  have hD : ∀ p ∈ news, (p.1 : Nat) < D := by assumption
  rename Obj => od0
  have hdo : Obj.IsDictOf (PySem.strKind PySem.Challenge.pw_il0125_01 w) od0 [] := by assumption
  refine' iter_listTurns (ax := l) (lo := lo) (vs := vs) (n := nn) rfl F7 N7 (.tail _ hlm) hlc hld ?_
  intro I hI
  refine val_ind (fun bs m' n' => ∃ (done zs : List Int) (cells : List RC) (od : Obj), IntsAre bs zs ∧ ns = done ++ zs ∧ Obj.IsDictOf (PySem.strKind PySem.Challenge.pw_il0125_01 w) od (cells.map RC.kv) ∧ (∀ c ∈ cells, IntsAre c.vs c.row ∧ @LT.lt Nat instLTNat I c.at_) ∧ cells.map RC.pr = rowsF done ∧ cells.length ≤ done.length ∧ (∀ c ∈ cells, c.row.length ≤ done.length) ∧
      (∃ v1 v2 : Option Value, ∀ y, m' y = if y = Str.ofString "name" then v2 else if y = Str.ofString "number" then v1 else if y = Str.ofString "rows" then some (.ref D) else if y = Str.ofString "numbers" then some (.ref l) else none) ∧
      n' = (D, od) :: (cells.map RC.led ++ news)) ?step ?done vs _ _ ?init
  case init =>
    refine ⟨[], ns, [], od0, hi, rfl, hdo, (fun c hc => absurd hc List.not_mem_nil), rfl, Nat.le_refl _, (fun c hc => absurd hc List.not_mem_nil), ⟨none, none, fun y => ?_⟩, rfl⟩
    by_cases e1 : y = Str.ofString "name"
    · subst e1; first | rfl | with_unfolding_all rfl
    by_cases e2 : y = Str.ofString "number"
    · subst e2; first | rfl | with_unfolding_all rfl
    rw [if_neg e1, if_neg e2]
  case step =>
    intro v r m' n' hinv h9 tk9 F9
    obtain ⟨done, zs, cells, od, hints, hns, hod, hcells, hpr, hcl, hrows, ⟨v1, v2, hm⟩, rfl⟩ := hinv
    cases hints with
    | cons k tkk hints' =>
    rename_i zs'
    have F8 := fr_map F9 hm
    clear F9 F7 N7
    have hk : 0 ≤ k ∧ k < 4096 := hbytes k (by rw [hns]; simp)
    have hID : @LT.lt Nat instLTNat D I := hI (D, _) (.head _)
    have hINm : ∀ p ∈ news, (p.1 : Nat) < I := fun p hp => hI p (.tail _ hp)
    generalize hnw : cells.map RC.led ++ news = nw
    have hoff : OwnOff nw [D] := by
      intro p hp b hb e
      obtain rfl := List.mem_singleton.mp hb
      rw [← hnw] at hp
      rcases List.mem_append.mp hp with hp | hp
      · obtain ⟨c, hc, rfl⟩ := List.mem_map.mp hp
        exact absurd (Nat.lt_trans hID (hcells c hc).2) (by rw [show c.at_ = b from e]; exact Nat.lt_irrefl _)
      · exact absurd (hD p hp) (by rw [e]; exact Nat.lt_irrefl _)
    ktu_objs
    iterate 27 (first | walk1 | (dsimp only; walk1))
    rename News _ _ _ _ => N5
    rename Fr _ _ _ _ => F5
    rename Addr => l0
    obtain ⟨tky, F5'⟩ : ∃ tky : Tok, Fr _ _ _ (fun y => if y = Str.ofString "name" then some (.str (keyOf k) tky) else if y = Str.ofString "number" then some (.int k tkk) else if y = Str.ofString "name" then v2 else if y = Str.ofString "number" then v1 else if y = Str.ofString "rows" then some (.ref D) else if y = Str.ofString "numbers" then some (.ref l) else none) := ⟨_, F5⟩
    clear F5
    refine kdg_get2 (knd := PySem.strKind _ _) N5 (.tail _ (.tail _ (.head _))) hod (by assumption) (strKind_is _ _ _ _) (valueAt (cells.map RC.kv) (keyOf k)) rfl ?_
    obtain ⟨A₁, us, hget, hA1, hus⟩ : ∃ A₁ us, (valueAt (cells.map RC.kv) (keyOf k)).getD (.ref l0) = .ref A₁ ∧ (A₁, listOf (List.toArray us) 0) ∈ (l0, listOf #[] 0) :: nw ∧ IntsAre us (rowAt cells (keyOf k)) := by
      rcases cells_at (keyOf k) cells with ⟨c, hc, hck, hval, hrow⟩ | ⟨hno, hval, hrow⟩
      · refine ⟨c.at_, c.vs, by rw [hval]; rfl, .tail _ (by rw [← hnw]; exact List.mem_append.mpr (.inl (List.mem_map_of_mem (f := RC.led) hc))), by rw [hrow]; exact (hcells c hc).1⟩
      · exact ⟨l0, [], by rw [hval]; rfl, .head _, by rw [hrow]; exact .nil⟩
    rw [hget]
    iterate 11 (first | walk1 | (dsimp only; walk1))
    rename Addr => lb
    rename Fr _ _ _ _ => F4
    rename News _ _ _ _ => N4
    have hdl : done.length < 11 := by have := congrArg List.length hns; simp at this; omega
    have hrl : (rowAt cells (keyOf k)).length ≤ done.length := by
      rcases cells_at (keyOf k) cells with ⟨c, hc, _, _, hrow⟩ | ⟨_, _, hrow⟩
      · rw [hrow]; exact hrows c hc
      · rw [hrow]; exact Nat.zero_le _
    refine kmk_add_ints F4 N4 (News.isList N4 (n := 0) (by rcases List.mem_cons.mp hA1 with h | h; (rw [h]; exact .tail _ (.head _)); exact .tail _ (.tail _ (.tail _ (.tail _ h))))) (News.isList N4 (.head _)) hus (.cons _ _ .nil) ?_ (by rw [PySem.sizeLine_eq]; show _ + 1 ≤ _; omega)
    intro D3 us3 h3 F3 N3 l3 hI3
    have l3' : ∀ p ∈ (I, _) :: (D, od) :: nw, (p.1 : Nat) < D3 := fun p hp => l3 p (.tail _ (.tail _ hp))
    replace N3 : News _ _ h3 ((D, od) :: (D3, listOf (List.toArray us3) 0) :: (I, _) :: nw) := fun p hp => N3 p (by
      rcases List.mem_cons.mp hp with rfl | hp
      · exact .tail _ (.tail _ (.tail _ (.tail _ (.head _))))
      · rcases List.mem_cons.mp hp with rfl | hp
        · exact .head _
        · rcases List.mem_cons.mp hp with rfl | hp
          · exact .tail _ (.tail _ (.tail _ (.head _)))
          · exact .tail _ (.tail _ (.tail _ (.tail _ (.tail _ hp)))))
    clear F4 N4
    iterate 2 (first | walk1 | (dsimp only; walk1))
    refine set_led F3 N3 (fun p hp => ?_) hod (strKind_is _ _ _ _) ?_ ?_
    · rcases List.mem_cons.mp hp with rfl | hp
      · exact Nat.ne_of_gt (l3' (D, od) (.tail _ (.head _)))
      · rcases List.mem_cons.mp hp with rfl | hp
        · exact Nat.ne_of_gt hID
        · exact hoff p hp D (.head _)
    · rw [PySem.sizeLine_eq, List.length_map]; omega
    intro h4 od4 F4 N4 hod4
    iterate 3 (first | walk1 | (dsimp only; walk1))
    refine ⟨h4, _, _, (D, od4) :: ((putCell cells ⟨keyOf k, D3, us3, rowAt cells (keyOf k) ++ [(k.fdiv 4).fmod 256]⟩).map RC.led ++ news), rfl, F4, ?_, ?_, ⟨List.mem_cons_of_mem _ (List.mem_append.mpr (.inr hlm)), trivial⟩, done ++ [k], zs', putCell cells ⟨keyOf k, D3, us3, rowAt cells (keyOf k) ++ [(k.fdiv 4).fmod 256]⟩, od4, hints', by rw [hns]; simp, ?_, ?_, ?_, ?_, ?_, ?_, rfl⟩
    · intro p hp
      refine N4 p ?_
      rcases List.mem_cons.mp hp with rfl | hp
      · exact .tail _ (.tail _ (.head _))
      rcases List.mem_cons.mp hp with rfl | hp
      · exact .head _
      rw [← hnw]
      rcases List.mem_append.mp hp with hp | hp
      · obtain ⟨c, hc, rfl⟩ := List.mem_map.mp hp
        rcases putCell_mem hc with rfl | hc
        · exact .tail _ (.head _)
        · exact .tail _ (.tail _ (.tail _ (List.mem_append.mpr (.inl (List.mem_map_of_mem hc)))))
      · exact .tail _ (.tail _ (.tail _ (List.mem_append.mpr (.inr hp))))
    · intro p hp q hq
      obtain rfl := List.mem_singleton.mp hq
      rcases List.mem_cons.mp hp with rfl | hp
      · exact Nat.ne_of_lt hID
      rcases List.mem_append.mp hp with hp | hp
      · obtain ⟨c, hc, rfl⟩ := List.mem_map.mp hp
        rcases putCell_mem hc with rfl | hc
        · exact Nat.ne_of_gt (l3' _ (.head _))
        · exact Nat.ne_of_gt (hcells c hc).2
      · exact Nat.ne_of_lt (hINm p hp)
    · rw [putCell_kv]; exact hod4
    · intro c hc
      rcases putCell_mem hc with rfl | hc
      · exact ⟨hI3, l3' _ (.head _)⟩
      · exact hcells c hc
    · rw [putCell_pr cells _ k rfl rfl, hpr, rowsF, rowsF, List.foldl_append]; rfl
    · rw [List.length_append]
      refine Nat.le_trans ?_ (Nat.add_le_add_right hcl _)
      unfold putCell
      split
      · rw [List.length_map]; exact Nat.le_add_right _ _
      · rw [List.length_append]; exact Nat.le_refl _
    · intro c hc
      rw [List.length_append]
      rcases putCell_mem hc with rfl | hc
      · show (rowAt cells (keyOf k) ++ _).length ≤ _
        rw [List.length_append]; exact Nat.add_le_add_right hrl 1
      · exact Nat.le_trans (hrows c hc) (Nat.le_add_right _ _)
    · refine ⟨some (.int k tkk), some (.str (keyOf k) tky), fun y => ?_⟩
      dsimp only
      by_cases e1 : y = Str.ofString "name"
      · exact (if_pos e1).trans (if_pos e1).symm
      by_cases e2 : y = Str.ofString "number"
      · exact ((if_neg e1).trans (if_pos e2)).trans ((if_neg e1).trans (if_pos e2)).symm
      exact ((if_neg e1).trans ((if_neg e2).trans ((if_neg e1).trans (if_neg e2)))).trans ((if_neg e1).trans (if_neg e2)).symm
  case done =>
    intro m' n' hinv h9 tk9 F9 N9
    obtain ⟨done, zs, cells, od, hints, hns, hod, hcells, hpr, hcl, hrows, ⟨v1, v2, hm⟩, rfl⟩ := hinv
    cases hints
    obtain rfl : ns = done := by rw [hns, List.append_nil]
    have F8 := fr_map F9 hm
    clear F9 F7 N7
    show wpAny _ _ _ _ _ _
    iterate 4 (first | walk1 | (dsimp only; walk1))
    rename Fr h₀ L _ m => kF
    rename News h₀ L _ _ => kN
    refine hret h9 tk9 D od cells kF kN (fun p hp => ?_) (by assumption) hod hpr (fun c hc => (hcells c hc).1)
    rcases List.mem_append.mp hp with hp | hp
    · obtain ⟨c, hc, rfl⟩ := List.mem_map.mp hp
      exact Nat.ne_of_gt (Nat.lt_trans (hI (D, _) (.head _)) (hcells c hc).2)
    · exact Nat.ne_of_lt (hD p hp)
end Mine
end
end JRw
section JBk
theorem Mine.fresh_Bk : True := by w_top off; exact trivial
open PySem PySem.W PyProof.Rows PySem.Spec PySem.Calls PyProof.Rows.LCg
set_option maxRecDepth 100000
set_option maxHeartbeats 2000000
noncomputable section
namespace Mine
theorem filledBk : Filled PySem.Challenge.rw_il0125_01 Mine.hd.heap_1_39 := by k_fill; exact True.intro
/-- the sums of a book, as plain ints -/
inductive SumsAre : List (Str × Value) → List (Str × Int) → Prop
  | nil : SumsAre [] []
  | cons (k : Str) (i : Int) (t : Tok) {r : List (Str × Value)} {r' : List (Str × Int)} : SumsAre r r' → SumsAre ((k, .int i t) :: r) ((k, i) :: r')
def sumIn (bs : List (Str × Int)) (k : Str) : Int := ((bs.find? fun p => p.1 = k).map (·.2)).getD 4294967295
def storedI (bs : List (Str × Int)) (k : Str) (i : Int) : List (Str × Int) := if bs.any (fun p => p.1 = k) then bs.map (fun p => if p.1 = k then (p.1, i) else p) else bs ++ [(k, i)]
def putSum (bs : List (Str × Int)) (n : Int) : List (Str × Int) := storedI bs (keyOf n) (movedF (sumIn bs (keyOf n)) ((n.fdiv 4).fmod 256))
def bookF (ns : List Int) : List (Str × Int) := ns.foldl putSum []
theorem SumsAre.length {kvs : List (Str × Value)} {bs : List (Str × Int)} (h : SumsAre kvs bs) : kvs.length = bs.length := by
  induction h with
  | nil => rfl
  | cons _ _ _ _ ih => simp [ih]
theorem SumsAre.at {kvs : List (Str × Value)} {bs : List (Str × Int)} (h : SumsAre kvs bs) (k : Str) : (∃ t, valueAt kvs k = some (.int (sumIn bs k) t)) ∨ (valueAt kvs k = none ∧ sumIn bs k = 4294967295) := by
  induction h with
  | nil => exact .inr ⟨rfl, rfl⟩
  | cons k' i t _ ih =>
    by_cases e : k' = k
    · exact .inl ⟨t, by simp [valueAt, sumIn, e]⟩
    · simpa [valueAt, sumIn, e] using ih
theorem SumsAre.any {kvs : List (Str × Value)} {bs : List (Str × Int)} (h : SumsAre kvs bs) (k : Str) : (kvs.any fun p => p.1 = k) = bs.any fun p => p.1 = k := by
  induction h with
  | nil => rfl
  | cons k' i t _ ih => simp only [List.any_cons, ih]
theorem SumsAre.app {kvs ku : List (Str × Value)} {bs bu : List (Str × Int)} (h : SumsAre kvs bs) (h' : SumsAre ku bu) : SumsAre (kvs ++ ku) (bs ++ bu) := by
  induction h with
  | nil => exact h'
  | cons k i t _ ih => exact .cons k i t ih
theorem SumsAre.mapPut {kvs : List (Str × Value)} {bs : List (Str × Int)} (h : SumsAre kvs bs) (k : Str) (i : Int) (t : Tok) : SumsAre (kvs.map fun kv => if kv.1 = k then (kv.1, .int i t) else kv) (bs.map fun p => if p.1 = k then (p.1, i) else p) := by
  induction h with
  | nil => exact .nil
  | cons k' i' t' _ ih =>
    simp only [List.map_cons]
    by_cases e : k' = k
    · simp only [e, if_true]; exact .cons _ _ _ ih
    · simp only [e, if_false]; exact .cons _ _ _ ih
theorem SumsAre.put {kvs : List (Str × Value)} {bs : List (Str × Int)} (h : SumsAre kvs bs) (k : Str) (i : Int) (t : Tok) : SumsAre (stored kvs k (.int i t)) (storedI bs k i) := by
  unfold stored storedI
  rw [h.any]
  split
  · exact h.mapPut k i t
  · exact h.app (.cons k i t .nil)
theorem storedI_twice (bs : List (Str × Int)) (k : Str) (i j : Int) : storedI (storedI bs k i) k j = storedI bs k j := by
  unfold storedI
  by_cases h : bs.any (fun p => p.1 = k) = true
  · rw [if_pos h, if_pos h]
    have : (bs.map (fun p => if p.1 = k then (p.1, i) else p)).any (fun p => p.1 = k) = true := by
      rw [List.any_map]
      obtain ⟨p, hp, hk⟩ := List.any_eq_true.mp h
      refine List.any_eq_true.mpr ⟨p, hp, ?_⟩
      have hk' : p.1 = k := by simpa using hk
      simp [hk']
    rw [if_pos this, List.map_map]
    refine List.map_congr_left fun p _ => ?_
    by_cases e : p.1 = k <;> simp [e]
  · rw [if_neg h, if_neg h]
    have : (bs ++ [(k, i)]).any (fun p => p.1 = k) = true := by simp
    rw [if_pos this, List.map_append]
    have hn : ∀ p ∈ bs, p.1 ≠ k := fun p hp e => h (List.any_eq_true.mpr ⟨p, hp, by simp [e]⟩)
    rw [show bs.map (fun p => if p.1 = k then (p.1, j) else p) = bs from by
      conv => rhs; rw [← List.map_id bs]
      exact List.map_congr_left fun p hp => by rw [if_neg (hn p hp)]; rfl]
    simp
theorem storedI_length (bs : List (Str × Int)) (k : Str) (i : Int) : (storedI bs k i).length ≤ bs.length + 1 := by
  unfold storedI
  split
  · rw [List.length_map]; exact Nat.le_succ _
  · rw [List.length_append]; exact Nat.le_refl _
theorem book_read (w : World) (mean : ExcName → Option Value) (mg mb : Str → Option Value) (news : CbLed) (B f c d : Addr) (o fo co : Obj) (kvs : List (Str × Value)) (bs : List (Str × Int)) (k : Str) (tk0 : Tok) (A' : Around)
  (cn : Str) (cs : Scope) (a : Addr) (ccd : Value) (cl : List (Str × Addr)) (outer : List Env) (A₀ : Around) (base h₀ : Heap) (L : Addr) (m : Str → Option Value) (s : Shared) (Q E : Value → Shared → Prop)
  (hA1 : A'.frames = some (envX cn cs L a ccd cl :: outer)) (hA2 : A'.handled = none) (hA3 : A'.depth ≤ 500) (hA4 : A'.units ≤ 5000)
  (hB : Below A₀ base outer h₀) (hF : Fr h₀ L s.heap m) (hX : (Mine.hd.heap_1_39 w.params).In h₀) (hN : News h₀ L s.heap ((B, o) :: news)) (hT : Top topProg LO mean mg mb h₀) (hcs : cs.kind = .function)
  (hb : BookAt w o f d kvs) (hsum : SumsAre kvs bs) (hd : (d, emptyD) ∈ news) (hf : (f, fo) ∈ news) (hc : (c, co) ∈ news) (hoff : ∀ p ∈ news, p.1 ≠ B) (hsys : (B == sysModules) = false) (hfac : FacOk w mean mg mb f c fo co) (hsz : bs.length ≤ 1000)
  (hret : ∀ h' tk' t o' kvs' bs', Fr h₀ L h' m → News h₀ L h' ((B, o') :: news) → BookAt w o' f d kvs' → SumsAre kvs' bs' → bs'.length ≤ bs.length + 1 → (∀ y, storedI bs' k y = storedI bs k y) → Q (.int (sumIn bs k) t) { s with heap := h', toks := tk' }) :
  wpAny (model PW w) A' (getItem (.ref B) (.str k tk0)) Q E s := by
  have hX2 := hX.keeps hF.keep
  have hszl : kvs.length ≤ sizeLine := by rw [hsum.length, PySem.sizeLine_eq]; omega
  rcases hsum.at k with ⟨t, hv⟩ | ⟨hv, hi⟩
  · exact book_get hX2 hb (hN _ (.head _)).1 (hN _ (.tail _ hd)).1 (strKind_is _ _ _ _) hv (hret _ _ t o kvs bs hF hN hb hsum (Nat.le_succ _) fun _ => rfl)
  · refine book_miss hX2 hb (hN _ (.head _)).1 (hN _ (.tail _ hd)).1 hsys (strKind_is _ _ _ _) hv ?_
    refine miss_walk w mean mg mb news B f c d o fo co kvs k tk0 A'.in1 cn cs a ccd cl outer A₀ base h₀ L m { s with toks := s.toks + 1 } _ _ hA1 hA2 (by show A'.depth ≤ 520; omega) (by show A'.units + 1 ≤ 5020; omega) hB hF hX hN hT hcs hb hd hf hc hoff hsys hfac hszl hv ?_
    intro h' tk' t o' F' N' hb'
    rw [← hi]
    exact hret h' tk' t o' _ _ F' N' hb' (hsum.put k 4294967295 t) (storedI_length _ _ _) fun y => storedI_twice _ _ _ _
theorem news_drop3 {h₀ h : Heap} {L : Addr} {a b c : Addr × Obj} {rest : List (Addr × Obj)} (N : News h₀ L h (a :: b :: c :: rest)) : News h₀ L h (a :: b :: rest) := fun p hp => N p (by
  rcases List.mem_cons.mp hp with rfl | hp
  · exact .head _
  · rcases List.mem_cons.mp hp with rfl | hp
    · exact .tail _ (.head _)
    · exact .tail _ (.tail _ (.tail _ hp)))
/-- the book to the front of the ledger -/
theorem news_front {h₀ h : Heap} {L : Addr} {a b c B : Addr × Obj} {rest : List (Addr × Obj)} (N : News h₀ L h (a :: b :: c :: B :: rest)) : News h₀ L h (B :: a :: b :: c :: rest) := fun p hp => N p (by
  rcases List.mem_cons.mp hp with rfl | hp
  · exact .tail _ (.tail _ (.tail _ (.head _)))
  rcases List.mem_cons.mp hp with rfl | hp
  · exact .head _
  rcases List.mem_cons.mp hp with rfl | hp
  · exact .tail _ (.head _)
  rcases List.mem_cons.mp hp with rfl | hp
  · exact .tail _ (.tail _ (.head _))
  · exact .tail _ (.tail _ (.tail _ (.tail _ hp))))
theorem news_back {h₀ h : Heap} {L : Addr} {a b c B : Addr × Obj} {rest : List (Addr × Obj)} (N : News h₀ L h (B :: a :: b :: c :: rest)) : News h₀ L h (a :: b :: c :: B :: rest) := fun p hp => N p (by
  rcases List.mem_cons.mp hp with rfl | hp
  · exact .tail _ (.head _)
  rcases List.mem_cons.mp hp with rfl | hp
  · exact .tail _ (.tail _ (.head _))
  rcases List.mem_cons.mp hp with rfl | hp
  · exact .tail _ (.tail _ (.tail _ (.head _)))
  rcases List.mem_cons.mp hp with rfl | hp
  · exact .head _
  · exact .tail _ (.tail _ (.tail _ (.tail _ hp))))
theorem news_ne {h₀ h : Heap} {L : Addr} {a b : Addr} {oa ob : Obj} {news : List (Addr × Obj)} (N : News h₀ L h news) (ha : (a, oa) ∈ news) (hb : (b, ob) ∈ news) (hne : oa.cls ≠ ob.cls) : a ≠ b := fun e => by
  have h1 := (N _ ha).1
  have h2 := (N _ hb).1
  dsimp only at h1 h2
  rw [e, h2] at h1
  exact hne (by rw [Option.some.inj h1])
theorem book_walk (w : World) (mean : ExcName → Option Value) (mg mb : Str → Option Value) (news : CbLed) (l : CbAddr) (vs : List CbVal) (lo : CbObj) (hlm : (l, lo) ∈ news) (ns : List Int) (hstr : StrsAre vs (ns.map lineF)) (hns : ∀ n ∈ ns, 0 ≤ n ∧ n < 4096) (hlen : ns.length ≤ 11) (hlc : lo.cls = .type "list") (hld : ∃ n, lo.data = .seq vs.toArray n)
  (dp un : Nat) (gd : Option (List Code)) (cn : Str) (cs : Scope) (a : Addr) (ccd : Value) (cl : List (Str × Addr)) (outer : List Env) (A₀ : Around) (base h₀ : Heap) (L : Addr) (m : Str → Option Value) (s : Shared) (Q E : Value → Shared → Prop)
  (hB : Below A₀ base outer h₀) (hF : Fr h₀ L s.heap m) (hX : (Mine.hd.heap_1_39 w.params).In h₀) (hN : News h₀ L s.heap ((107, tabObj #[]) :: (236, tabObj #[]) :: news)) (hC1 : CodeHd base 111 107) (hC2 : CodeHd base 240 236) (hoff : OwnOff news [107, 236]) (hT : Top topProg LO mean mg mb h₀) (hcs : cs.kind = .function) (hdp : dp ≤ 400) (hun : un ≤ 4000)
  (hret : ∀ h' tk' B f d o kvs lam h0 t2 nn (objs rest : CbLed), Fr h₀ L h' m → News h₀ L h' ((B, o) :: rest) → BookAt w o f d kvs → SumsAre kvs (bookF ns) → (d, frzD h0 t2 lam nn) ∈ rest → (∀ p ∈ objs, p ∈ (B, o) :: rest) → (∀ p ∈ news, p ∈ rest) → (∀ p ∈ rest, p.1 ≠ B) → (B == sysModules) = false → FrzOk w mean mg mb lam objs → (∀ p ∈ objs, p.2.data ≠ .cell none) → (∃ ps : Array Value, ((107 : Addr), tabObj ps) ∈ rest) → (∃ ps : Array Value, ((236 : Addr), tabObj ps) ∈ rest) → Q (.ref B) { s with heap := h', toks := tk' }) :
  wpAny (model PySem.Challenge.pw_il0125_01 w) (ktrTop dp un gd cn cs L a ccd cl outer) (call (.ref 241) [.ref l]) Q E s := by
  k_with_none
  have cg := moved_cb w mean mg mb
  dsimp only [Clm] at cg
  refine wpAny_call ?_
  cell_enter
  iterate 10 (first | walk1 | (dsimp only; walk1))
  rename Fr _ _ _ _ => F1
  rename News _ _ _ _ => N1
  rename (_ ∧ _ ∧ _) => l1
  rename (@LT.lt _ _ _ _) => l2
  rename_i fL cL ocL vsL tL ctL hL tkL d1L d2L
  obtain ⟨fd, T2, hfac, N1⟩ : ∃ fd T2, FacOk w mean mg mb fL cL ⟨.type "function", none, .func fd, #[]⟩ ocL ∧ News _ _ _ ((fL, ⟨.type "function", none, .func fd, #[]⟩) :: (cL, ocL) :: (107, tabObj #[]) :: (236, tabObj T2) :: news) := by
    refine ⟨_, _, ?_, N1⟩
    refine ⟨⟨_, rfl⟩, ?_⟩
    clear F1 N1 hB hF hX hN hT hcs
    intro news' A' cn' cs' a' ccd' cl' outer' A₀' base' h₀' L' m' s' Q' E' hA1 hA2 hA3 hA4 hB hF hX hN hf hc hT hcs hret
    have rl : recursionLimit = 1000 := rfl
    refine wpAny_call ?_
    (refine' kla_code (A := A') ?k1 ?k2 ?k3 ?k4 ?k5 ?kA ?kF ?kK ?k6 ?k7 ?k8 ?k9 ?kB ?_ ?c2 ?c3 ?c4 ?c5; (case kA => exact hA1); (case kF => exact rfl); (case kK => assumption); (case k1 => k_asm); (case k2 => k_asm); (case k3 => k_asm); (case k4 => k_asm); (case k5 => k_asm); (case k6 => exact hf); (case k7 => exact codeRec_news hN hc d1L d2L); (case k8 => (show A'.depth < recursionLimit; omega)); (case k9 => exact rfl); (case c5 => decide); (case kB => exact locs rfl); (case c2 => exact rfl); (case c3 => exact rfl); (case c4 => exact rfl); k_whole; intro g5 L5 h5 FG5 F5 N5 B5 X5 T5; (try dsimp only); (try k_fold))
    iterate 8 (first | walk1 | (dsimp only; walk1))
    rename Fr h₀' L' _ m' => kF
    rename News h₀' L' _ _ => kN
    rw [show (2 ^ Int.toNat 32 - 1 : Int) = 4294967295 from by decide]
    exact hret _ _ _ kF kN
  refine newBook w rfl (by show dp + _ ≤ _; omega) (by show un + _ ≤ _; omega) _ ((by assumption : Frag.In _ _).keeps F1.keep) _ _ _ _ (N1 _ (.head _)).1 ?_
  intro h2 B d hk hB2 hd2 hnB hnd hBd hdB
  have hd_ne : d ≠ B := fun e => hBd e.symm
  have F2 := F1.keeps hk
  have N2 := news_new F1 (news_new F1 (N1.grown hk) hd2 hnd) hB2 hnB
  have hN1B : ∀ p ∈ (fL, (⟨.type "function", none, .func fd, #[]⟩ : Obj)) :: (cL, ocL) :: (107, tabObj #[]) :: (236, tabObj T2) :: news, p.1 ≠ B := fun p hp e => by
    have := (N1 p hp).1
    rw [e] at this
    rw [hnB] at this; cases this
  have hN1d : ∀ p ∈ (fL, (⟨.type "function", none, .func fd, #[]⟩ : Obj)) :: (cL, ocL) :: (107, tabObj #[]) :: (236, tabObj T2) :: news, p.1 ≠ d := fun p hp e => by
    have := (N1 p hp).1
    rw [e] at this
    rw [hnd] at this; cases this
  have hsys : (B == sysModules) = false := by
    by_cases e : B = sysModules
    · obtain ⟨o0, e0, _⟩ := ns_obj ((by assumption : Top _ _ _ _ _ _).b)
      have e1 := F1.keep _ _ e0
      have hd0 : d = builtinsNs := by
        have h1 : @LT.lt Nat instLTNat d B := hdB
        have h2 : @Eq Nat B 1 := e
        have h3 : @Eq Nat d 0 := Nat.lt_one_iff.mp (h2 ▸ h1)
        exact h3
      rw [hd0] at hnd
      have hnd' : hL.get? builtinsNs = none := hnd
      rw [hnd'] at e1; cases e1
    · simp [e]
  clear F1 N1
  iterate 3 (first | walk1 | (dsimp only; walk1))
  rename Fr _ _ _ _ => F6
  have F7 : Fr _ _ _ (fun y => if y = Str.ofString "book" then some (.ref B) else if y = Str.ofString "lines" then some (.ref l) else none) := fr_map F6 (fun y => by
    show (if y = Str.ofString "book" then some (Value.ref B) else List.lookup y [(Str.ofString "lines", Value.ref l)]) = _
    rw [lookup_one])
  clear F6
  with_unfolding_all refine' For_turns F7 ?_
  iterate 1 (first | walk1 | (dsimp only; walk1))
  rename News _ _ _ _ => N7
  obtain ⟨nn, hld⟩ := hld
  refine' iter_listTurns (ax := l) (lo := lo) (vs := vs) (n := nn) rfl F7 N7 (.tail _ (.tail _ (.tail _ (.tail _ (.tail _ (.tail _ hlm)))))) hlc hld ?_
  intro I hI
  have hNl := N7
  clear hNl
  have htlB : ∀ p ∈ (d, emptyD) :: (fL, (⟨.type "function", none, .func fd, #[]⟩ : Obj)) :: (cL, ocL) :: (107, tabObj #[]) :: (236, tabObj T2) :: news, p.1 ≠ B := fun p hp => by
    rcases List.mem_cons.mp hp with rfl | hp
    · exact hd_ne
    · exact hN1B p hp
  have hdm : (d, emptyD) ∈ (d, emptyD) :: (fL, (⟨.type "function", none, .func fd, #[]⟩ : Obj)) :: (cL, ocL) :: (107, tabObj #[]) :: (236, tabObj T2) :: news := .head _
  have hfm : (fL, (⟨.type "function", none, .func fd, #[]⟩ : Obj)) ∈ (d, emptyD) :: (fL, (⟨.type "function", none, .func fd, #[]⟩ : Obj)) :: (cL, ocL) :: (107, tabObj #[]) :: (236, tabObj T2) :: news := .tail _ (.head _)
  have hcm : (cL, ocL) ∈ (d, emptyD) :: (fL, (⟨.type "function", none, .func fd, #[]⟩ : Obj)) :: (cL, ocL) :: (107, tabObj #[]) :: (236, tabObj T2) :: news := .tail _ (.tail _ (.head _))
  have hltl : (l, lo) ∈ (d, emptyD) :: (fL, (⟨.type "function", none, .func fd, #[]⟩ : Obj)) :: (cL, ocL) :: (107, tabObj #[]) :: (236, tabObj T2) :: news := .tail _ (.tail _ (.tail _ (.tail _ (.tail _ hlm))))
  generalize htl : (_ :: _ :: _ :: _ :: _ :: news : List (Addr × Obj)) = tl at N7 hI htlB hdm hfm hcm hltl ⊢
  have hB0 : BookAt w (bookO fL d #[] 0) fL d [] := ⟨#[], 0, rfl, fun e he => by simp at he, .nil, List.nodup_nil⟩
  generalize bookO fL d #[] 0 = ob0 at N7 hI hB0 ⊢
  refine val_ind (fun bs m' n' => ∃ (done zs : List Int) (kvs : List (Str × Value)) (ob : Obj), StrsAre bs (zs.map lineF) ∧ ns = done ++ zs ∧ BookAt w ob fL d kvs ∧ SumsAre kvs (bookF done) ∧ (bookF done).length ≤ done.length ∧
      (∃ v1 v2 : Option Value, ∀ y, m' y = if y = Str.ofString "pair" then v2 else if y = Str.ofString "line" then v1 else if y = Str.ofString "book" then some (.ref B) else if y = Str.ofString "lines" then some (.ref l) else none) ∧
      n' = (B, ob) :: tl) ?step ?done vs _ _ ?init
  case init =>
    refine ⟨[], ns, [], ob0, hstr, rfl, hB0, .nil, Nat.le_refl _, ⟨none, none, fun y => ?_⟩, rfl⟩
    by_cases e1 : y = Str.ofString "pair"
    · subst e1; first | rfl | with_unfolding_all rfl
    by_cases e2 : y = Str.ofString "line"
    · subst e2; first | rfl | with_unfolding_all rfl
    rw [if_neg e1, if_neg e2]
  case step =>
    intro v r m' n' hinv h9 tk9 F9
    obtain ⟨done, zs, kvs, ob, hints, hnz, hob, hsums, hblen, ⟨v1, v2, hm⟩, rfl⟩ := hinv
    cases zs with
    | nil => cases hints
    | cons k zs' =>
    rw [List.map_cons] at hints
    cases hints with
    | cons _ tkk hints' =>
    have F8 := fr_map F9 hm
    clear F9 F7 N7
    ktu_objs
    rename Obj => oI
    repeat' ((fail_if_success (with_reducible show wpAny _ _ (call (Value.ref _) _) _ _ _)); (first | walk1 | (dsimp only; walk1)))
    rename Fr _ _ _ _ => F4
    rename News _ _ _ _ => N4
    refine call_meth N4 (.head _) ?_
    refine parse_walk w mean mg mb _ k tkk _ _ _ _ _ _ _ _ _ _ base _ _ _ _ _ _ (by assumption) F4 (by assumption) N4 (by assumption) rfl (by show dp + 1 ≤ 450; omega) (by show un + 3 ≤ 4500; omega) ?_
    intro h5 tk5 P dP t1 t2 F5 N5
    clear F4 N4
    replace N5 : News _ _ _ ((P, pairO dP (.str (keyOf k) t1) (.str (digF k) t2)) :: (dP, emptyD) :: (I, oI) :: (B, ob) :: tl) := news_drop3 N5
    repeat' ((fail_if_success (with_reducible show wpAny _ _ (getAttr (Value.ref _) _ _) _ _ _)); (first | walk1 | (dsimp only; walk1)))
    rename Fr _ _ _ _ => F4
    rename News _ _ _ _ => N4
    refine pair_attr0 w mean mg mb _ P dP (keyOf k) (digF k) t1 t2 _ true (Str.ofString "_law_book") _ 241 (.ref 240) [] _ _ base _ _ _ _ _ _ rfl rfl (by show dp + 1 ≤ 500; omega) (by show un + 3 ≤ 5000; omega) (by assumption) F4 (by assumption) N4 (by assumption) rfl ?_
    intro h6 tk6 F6 N6
    clear F4 N4
    repeat' ((fail_if_success (with_reducible show wpAny _ _ (subscriptTail _ _ (Value.ref _) _) _ _ _)); (first | walk1 | (dsimp only; walk1)))
    replace N6 := news_front N6
    have hoff6 : ∀ p ∈ (P, pairO dP (.str (keyOf k) t1) (.str (digF k) t2)) :: (dP, emptyD) :: (I, oI) :: tl, p.1 ≠ B := by
      have hbc : ob.cls = .ref 115 := by obtain ⟨_, _, rfl, _⟩ := hob; rfl
      intro p hp
      rcases List.mem_cons.mp hp with rfl | hp
      · exact news_ne N6 (.tail _ (.head _)) (.head _) (by rw [hbc]; intro e; cases e)
      rcases List.mem_cons.mp hp with rfl | hp
      · exact news_ne N6 (.tail _ (.tail _ (.head _))) (.head _) (by rw [hbc]; intro e; cases e)
      rcases List.mem_cons.mp hp with rfl | hp
      · exact Nat.ne_of_gt (hI (B, _) (.head _))
      · exact htlB p hp
    have hbl : (bookF done).length ≤ 11 := by have := congrArg List.length hnz; simp at this; omega
    refine sub_B ((by assumption : Frag.In _ _).keeps F6.keep) (book_inst hob (N6 _ (.head _)).1 (N6 _ (.tail _ (.tail _ (.tail _ (.tail _ hdm))))).1) ?_
    refine book_read w mean mg mb _ B fL cL d ob _ _ kvs (bookF done) (keyOf k) t1 _ (Str.ofString "_law_book") _ 241 (.ref 240) [] _ _ base _ _ _ _ _ _ rfl rfl (by show dp + 1 ≤ 500; omega) (by show un + 3 ≤ 5000; omega) (by assumption) F6 (by assumption) N6 (by assumption) rfl hob hsums (.tail _ (.tail _ (.tail _ hdm))) (.tail _ (.tail _ (.tail _ hfm))) (.tail _ (.tail _ (.tail _ hcm))) hoff6 hsys hfac (by omega) ?_
    intro h7 tk7 t7 ob7 kvs7 bs7 F7 N7 hob7 hsums7 hlen7 hst7
    clear F6 N6
    repeat' ((fail_if_success (with_reducible show wpAny _ _ (getAttr (Value.ref _) _ _) _ _ _)); (first | walk1 | (dsimp only; walk1)))
    rename Fr _ _ _ _ => F4
    rename News _ _ _ _ => N4
    refine pair_attr1 w mean mg mb _ P dP (keyOf k) (digF k) t1 t2 _ true (Str.ofString "_law_book") _ 241 (.ref 240) [] _ _ base _ _ _ _ _ _ rfl rfl (by show dp + 1 ≤ 500; omega) (by show un + 3 ≤ 5000; omega) (by assumption) F4 (by assumption) (news_back N4) (by assumption) rfl ?_
    intro h8 tk8 F8 N8
    clear F4 N4
    repeat' ((fail_if_success (with_reducible show wpAny _ _ (call (Value.type "int") _) _ _ _)); (first | walk1 | (dsimp only; walk1)))
    have hby0 : 0 ≤ (k.fdiv 4).fmod 256 := Int.fmod_nonneg_of_pos _ (by decide)
    have hby1 : (k.fdiv 4).fmod 256 < 256 := Int.fmod_lt_of_pos _ (by decide)
    refine PySem.W.KIN.call_num (n := (k.fdiv 4).fmod 256) hby0 (by omega) ?_
    k_with "call ref" => k_call_by "_law_moved" movedF
    repeat' ((fail_if_success (with_reducible show wpAny _ _ (getAttr (Value.ref _) _ _) _ _ _)); (first | walk1 | (dsimp only; walk1)))
    rename Fr _ _ _ _ => F4
    rename News _ _ _ _ => N4
    refine pair_attr0 w mean mg mb _ P dP (keyOf k) (digF k) t1 t2 _ true (Str.ofString "_law_book") _ 241 (.ref 240) [] _ _ base _ _ _ _ _ _ rfl rfl (by show dp + 1 ≤ 500; omega) (by show un + 3 ≤ 5000; omega) (by assumption) F4 (by assumption) N4 (by assumption) rfl ?_
    intro h11 tk11 F11 N11
    clear F4 N4
    replace N11 := news_front N11
    have hB11 := N11 _ (.head _)
    have hsz7 : kvs7.length ≤ sizeLine := by rw [hsums7.length, PySem.sizeLine_eq]; omega
    refine book_set ((by assumption : Frag.In _ _).keeps F11.keep) hob7 hB11.1 (N11 _ (.tail _ (.tail _ (.tail _ (.tail _ hdm))))).1 (strKind_is _ _ _ _) hsz7 ?_
    intro h12 ob12 ho12 hob12 hs12
    have F12 := F11.change hs12 hB11.2.1 hB11.2.2
    have N12 : ∀ p ∈ (I, oI) :: tl, h12.get? p.1 = some p.2 ∧ p.1 ≠ _ ∧ _ := fun p hp => by
      have hm : p ∈ (P, pairO dP (.str (keyOf k) t1) (.str (digF k) t2)) :: (dP, emptyD) :: (I, oI) :: tl := .tail _ (.tail _ hp)
      exact ⟨hs12.extBut _ _ (hoff6 p hm) (N11 p (.tail _ hm)).1, (N11 p (.tail _ hm)).2⟩
    clear F11
    iterate 1 (first | walk1 | (dsimp only; walk1))
    have hbk : bookF (done ++ [k]) = storedI bs7 (keyOf k) (movedF (sumIn (bookF done) (keyOf k)) ((k.fdiv 4).fmod 256)) := by
      rw [hst7, bookF, List.foldl_append]; rfl
    refine ⟨h12, _, _, (B, ob12) :: tl, rfl, F12, ?_, ?_, ⟨List.mem_cons_of_mem _ hltl, trivial⟩, done ++ [k], zs', _, ob12, hints', by rw [hnz]; simp, hob12, ?_, ?_, ⟨some (.str (lineF k) tkk), some (.ref P), fun y => ?_⟩, rfl⟩
    · intro p hp
      rcases List.mem_cons.mp hp with rfl | hp
      · exact N12 _ (.head _)
      rcases List.mem_cons.mp hp with rfl | hp
      · exact ⟨ho12, hB11.2⟩
      · exact N12 p (.tail _ hp)
    · intro p hp q hq
      obtain rfl := List.mem_singleton.mp hq
      rcases List.mem_cons.mp hp with rfl | hp
      · exact Nat.ne_of_lt (hI (B, ob0) (.head _))
      · exact Nat.ne_of_lt (hI p (.tail _ hp))
    · rw [hbk]; exact hsums7.put _ _ _
    · rw [hbk]
      refine Nat.le_trans ?_ (show (bookF done).length + 1 ≤ _ by rw [List.length_append]; simpa using hblen)
      rw [hst7]
      exact storedI_length _ _ _
    · dsimp only
      by_cases e1 : y = Str.ofString "pair"
      · exact (if_pos e1).trans (if_pos e1).symm
      by_cases e2 : y = Str.ofString "line"
      · exact ((if_neg e1).trans (if_pos e2)).trans ((if_neg e1).trans (if_pos e2)).symm
      exact ((if_neg e1).trans ((if_neg e2).trans ((if_neg e1).trans (if_neg e2)))).trans ((if_neg e1).trans (if_neg e2)).symm
  case done =>
    intro m' n' hinv h9 tk9 F9 N9
    obtain ⟨done, zs, kvs, ob, hints, hnz, hob, hsums, hblen, ⟨v1, v2, hm⟩, rfl⟩ := hinv
    cases zs with
    | cons _ _ => cases hints
    | nil =>
    obtain rfl : ns = done := by rw [hnz, List.append_nil]
    have F8 := fr_map F9 hm
    clear F9 F7 N7
    show wpAny _ _ _ _ _ _
    repeat' ((fail_if_success (with_reducible show wpAny _ _ (getMethod (Value.ref _) _ _) _ _ _)); (first | walk1 | (dsimp only; walk1)))
    have hC107 : @LT.lt Nat instLTNat 107 cL := l1.1
    have hCf : @LT.lt Nat instLTNat cL fL := l2
    subst htl
    refine sub_method_fn (book_ga w) ((by assumption : Frag.In _ _).keeps F8.keep) (book_inst hob (N9 _ (.head _)).1 (N9 _ (.tail _ (.head _))).1) (f := 112) (by k_is) (by k_is) rfl ?_
    repeat' ((fail_if_success (with_reducible show wpAny _ _ (call (Value.ref _) _) _ _ _)); (first | walk1 | (dsimp only; walk1)))
    refine fz_walk w mean mg mb ((fL, ⟨.type "function", none, .func fd, #[]⟩) :: (cL, ocL) :: (236, tabObj T2) :: news) B fL cL d ob _ _ kvs _ _ _ _ _ _ _ _ _ _ base _ _ _ _ _ _ (by assumption) F8 (by assumption) (fun p hp => N9 p ?hm) (by assumption) rfl hC1 ?ho1 ?ho2 hob (.head _) (.tail _ (.head _)) hfac (fun e => by cases e) (fun e => by have e2 := d1L.symm.trans e; cases e2) (by show dp + 1 ≤ 500; omega) (by show un + 3 ≤ 5000; omega) ?ho3 ?_
    case hm =>
      rcases List.mem_cons.mp hp with rfl | hp
      · exact .tail _ (.tail _ (.tail _ (.tail _ (.head _))))
      rcases List.mem_cons.mp hp with rfl | hp
      · exact .tail _ (.head _)
      rcases List.mem_cons.mp hp with rfl | hp
      · exact .head _
      rcases List.mem_cons.mp hp with rfl | hp
      · exact .tail _ (.tail _ (.head _))
      rcases List.mem_cons.mp hp with rfl | hp
      · exact .tail _ (.tail _ (.tail _ (.head _)))
      · exact .tail _ (.tail _ (.tail _ (.tail _ (.tail _ hp))))
    case ho1 =>
      intro p hp b hb
      obtain rfl := List.mem_singleton.mp hb
      rcases List.mem_cons.mp hp with rfl | hp
      · exact fun e => hN1d (107, tabObj #[]) (.tail _ (.tail _ (.head _))) e.symm
      rcases List.mem_cons.mp hp with rfl | hp
      · exact fun e => hN1B (107, tabObj #[]) (.tail _ (.tail _ (.head _))) e.symm
      rcases List.mem_cons.mp hp with rfl | hp
      · exact Nat.ne_of_gt (Nat.lt_trans hC107 hCf)
      rcases List.mem_cons.mp hp with rfl | hp
      · exact Nat.ne_of_gt hC107
      rcases List.mem_cons.mp hp with rfl | hp
      · exact fun e => absurd (show (236 : Nat) = 107 from e) (by decide)
      · exact hoff p hp 107 (.head _)
    case ho2 =>
      intro p hp
      rcases List.mem_cons.mp hp with rfl | hp
      · exact hBd
      rcases List.mem_cons.mp hp with rfl | hp
      · exact hN1d _ (.head _)
      rcases List.mem_cons.mp hp with rfl | hp
      · exact hN1d _ (.tail _ (.head _))
      · exact hN1d p (.tail _ (.tail _ (.tail _ hp)))
    case ho3 =>
      intro p hp
      rcases List.mem_cons.mp hp with rfl | hp
      · exact hN1B _ (.head _)
      rcases List.mem_cons.mp hp with rfl | hp
      · exact hN1B _ (.tail _ (.head _))
      · exact hN1B p (.tail _ (.tail _ (.tail _ hp)))
    intro h10 tk10 lam h0 t2 n10 objs rest F10 N10 hfd hobjs hnews hrB hfrz hobn ht107
    clear F8 N9
    iterate 4 (first | walk1 | (dsimp only; walk1))
    rename Fr h₀ L _ m => kF
    rename News h₀ L _ _ => kN
    exact hret _ _ B fL d ob kvs lam h0 t2 n10 objs rest kF kN hob hsums hfd hobjs (fun p hp => hnews p (.tail _ (.tail _ (.tail _ hp)))) hrB hsys hfrz hobn ht107 ⟨T2, hnews _ (.tail _ (.tail _ (.head _)))⟩
end Mine
end
end JBk
section JBt
theorem Mine.fresh_Bt : True := by w_top off; exact trivial
open PySem PySem.W PyProof.Rows
set_option maxRecDepth 100000
namespace Mine
theorem nat_xor_and (m n : Nat) : (m ^^^ n) + (m &&& n) = m ||| n := by
  have h := nat_or_add_and (m ^^^ n) (m &&& n)
  have h1 : (m ^^^ n) ||| (m &&& n) = m ||| n := by
    apply Nat.eq_of_testBit_eq; intro i
    simp only [Nat.testBit_or, Nat.testBit_xor, Nat.testBit_and]
    cases m.testBit i <;> cases n.testBit i <;> rfl
  have h2 : (m ^^^ n) &&& (m &&& n) = 0 := by
    apply Nat.eq_of_testBit_eq; intro i
    simp only [Nat.testBit_xor, Nat.testBit_and, Nat.zero_testBit]
    cases m.testBit i <;> cases n.testBit i <;> rfl
  omega
theorem bitXor_nat (m n : Nat) : Builtin.bitXor (m : Int) (n : Int) = ((m ^^^ n : Nat) : Int) := by
  rw [bitXor_and, bitAnd_pp (by omega) (by omega)]
  have h1 := nat_xor_and m n
  have h2 := nat_or_add_and m n
  simp only [Int.toNat_natCast]
  omega
theorem bitAnd_nat (m n : Nat) : Builtin.bitAnd (m : Int) (n : Int) = ((m &&& n : Nat) : Int) := by
  rw [bitAnd_pp (by omega) (by omega)]; simp only [Int.toNat_natCast]
theorem bitXor_off (x : Int) (h1 : 2 ^ 32 ≤ x) (h2 : x < 2 ^ 33) : 0 ≤ Builtin.bitXor x 4374732215 ∧ Builtin.bitXor x 4374732215 < 2 ^ 32 := by
  obtain ⟨n, rfl⟩ : ∃ n : Nat, x = n := ⟨x.toNat, by omega⟩
  have e : Builtin.bitXor (n : Int) 4374732215 = ((n ^^^ 4374732215 : Nat) : Int) := bitXor_nat n 4374732215
  rw [e]
  refine ⟨by omega, ?_⟩
  have : n ^^^ 4374732215 < 2 ^ 32 := by
    apply Nat.lt_pow_two_of_testBit
    intro i hi
    rw [Nat.testBit_xor]
    by_cases h : i = 32
    · subst h
      have a : n.testBit 32 = true := by
        have a2 : n / 2 ^ 32 = 1 := by omega
        rw [Nat.testBit_eq_decide_div_mod_eq, a2]; decide
      have b : Nat.testBit 4374732215 32 = true := by decide
      rw [a, b]; rfl
    · have hi' : 33 ≤ i := by omega
      have p : 2 ^ 33 ≤ 2 ^ i := Nat.pow_le_pow_right (by decide) hi'
      rw [Nat.testBit_lt_two_pow (x := n) (i := i) (by omega), Nat.testBit_lt_two_pow (x := 4374732215) (i := i) (by omega)]
      rfl
  omega
end Mine
end JBt
section JDv
theorem Mine.fresh_Dv : True := by w_top off; exact trivial
open PySem PySem.W PyProof.Rows PySem.Spec PySem.Calls PyProof.Rows.LCg
set_option maxRecDepth 100000
set_option maxHeartbeats 2000000
noncomputable section
namespace Mine
theorem filledDv : Filled PySem.Challenge.rw_il0125_01 Mine.hd.heap_1_39 := by k_fill; exact True.intro
def bitsOf (b : Int) : List Int := (List.range 8).map fun (p : Nat) => Builtin.bitAnd (b.fdiv (2 ^ p)) 1
theorem bits_get {b k : Int} {j : Nat} (h : (bitsOf b)[j]? = some k) : Builtin.bitAnd (b.fdiv (2 ^ (0 + (j : Int)).toNat)) 1 = k := by
  unfold bitsOf at h
  rw [List.getElem?_map] at h
  cases e : (List.range 8)[j]? with
  | none => rw [e] at h; cases h
  | some x =>
    rw [e] at h
    have : x = j := by
      obtain ⟨hl, hx⟩ := List.getElem?_eq_some_iff.mp e
      rw [← hx, List.getElem_range]
    subst this
    have e2 : (0 + (x : Int)).toNat = x := by omega
    rw [e2]
    exact Option.some.inj h
theorem bits_len (b : Int) : (bitsOf b).length = 8 := by simp [bitsOf]
theorem bits_flat : ∀ (ns : List Int), ((ns.map bitsOf).flatten).length = 8 * ns.length
  | [] => rfl
  | b :: r => by rw [List.map_cons, List.flatten_cons, List.length_append, bits_flat r, bits_len, List.length_cons]; omega
def divStep (i : Int) (r b : Int) : Int :=
  if 2 ^ Int.toNat 32 ≤ r * 2 + (if i < 32 then 1 - b else b) then Builtin.bitXor (r * 2 + (if i < 32 then 1 - b else b)) 4374732215 else r * 2 + (if i < 32 then 1 - b else b)
theorem divStep_range (i : Int) {r b : Int} (h0 : 0 ≤ r) (h1 : r < 2 ^ 32) (hb : 0 ≤ b ∧ b ≤ 1) : 0 ≤ divStep i r b ∧ divStep i r b < 2 ^ 32 := by
  have hv : 0 ≤ (if i < 32 then 1 - b else b) ∧ (if i < 32 then 1 - b else b) ≤ 1 := by split <;> omega
  have p32 : (2 : Int) ^ Int.toNat 32 = 2 ^ 32 := by decide
  unfold divStep
  rw [p32]
  generalize (if i < 32 then 1 - b else b) = x at hv
  by_cases h : 2 ^ 32 ≤ r * 2 + x
  · rw [if_pos h]; exact bitXor_off _ h (by omega)
  · rw [if_neg h]; omega
theorem cell_ex {o : Obj} {x y : Int} {t : Tok} (h : o.data = .cell (some (.int x t))) (e : x = y) : ∃ t : Tok, o.data = .cell (some (.int y t)) := ⟨t, by rw [h, e]⟩
noncomputable def divLoop : Nat → Int → List Int → Int
  | _, r, [] => r
  | i, r, b :: bs => divLoop (i + 1) (divStep (i : Int) r b) bs
def dividedR (ns : List Int) : Int := divLoop 0 0 ((List.map bitsOf ns).flatten ++ (List.replicate (Int.toNat 32) [0]).flatten)
def dividedF (ns : List Int) : Int := (List.map (fun k : Int => (1 - Builtin.bitAnd ((dividedR ns).fdiv (2 ^ (31 - k).toNat)) 1) * 2 ^ k.toNat) (rangeKs 0 ((32 : Int) - 0).toNat)).sum
theorem mulok_bit (x y : Int) : IntMulOk (1 - Builtin.bitAnd x 1) y := by
  have := bitAnd_range x (y := 1) (by decide)
  exact .of_left (intBits_le_64 (by omega) (by omega))
local macro_rules | `(tactic| walk_at "binaryOp Mult int int") => `(tactic| (k_here; k_dflt (refine PyProof.Rows.mul_int ?_ (mulok_bit _ _))))
local macro_rules | `(tactic| walk_at "eval ListComp") => `(tactic| (k_here; k_dflt (refine' LCg.ListComp_U (F₀ := by k_asm) (cl := []) ?h1 ?h2 ?h3 ?h4 ?h5 ?_ ?h6; (case h1 => with_unfolding_all rfl); (case h2 => decide); (case h3 => rfl); (case h4 => decide); (case h5 => rfl); (case h6 => intro _; rfl))))
theorem pow_list {k : Int} (h : k ∈ ([32, 26, 23, 22, 16, 12, 11, 10, 8, 7, 5, 4, 2, 1, 0] : List Int)) : 0 ≤ k ∧ k ≤ 1000000 := by simp at h; omega
local macro_rules | `(tactic| walk_at "binaryOp Pow int int") => `(tactic| (k_here; k_dflt (refine pow_int_small (pow_list (by assumption)).1 (pow_list (by assumption)).2 (by decide) ?_)))
local macro_rules | `(tactic| walk_at "binaryOp Pow int int") => `(tactic| (k_here; k_dflt (refine pow_int_small (by omega) (by omega) (by decide) ?_)))
local macro_rules | `(tactic| walk_at "binaryOp RShift int int") => `(tactic| (k_here; k_dflt (refine rshift_int (by omega) ?_)))
theorem divided_cb (w : World) (mean : ExcName → Option Value) (mg mb : Str → Option Value) :
  CbC 246 0 (∀ (news : CbLed) (l : CbAddr) (vs : List CbVal) (ns : List Int), Clm 8 40 w mean mg mb 246 news [] ((∃ lo : CbObj, (l, lo) ∈ news ∧ lo.cls = .type "list" ∧ ∃ n, lo.data = .seq vs.toArray n) ∧ IntsAre vs ns ∧ ns.length ≤ 11 ∧ ∀ n ∈ ns, 0 ≤ n ∧ n < 256) [.ref l] (fun t => .int (dividedF ns) t)) := by
  k_with_none
  unfold CbC; dsimp only [Clm, CbLists, CbRet]
  intro news l vs ns dp un gd cn cs a ccd cl outer A₀ base h₀ L m s Q E hB hF hX hN hT hcs hpre hdp hun hret
  obtain ⟨⟨lo, hlm, hlc, hld⟩, hi, hlen, hbytes⟩ := hpre
  refine wpAny_call ?_
  (refine' code_defC ?k1 ?k2 ?k3 ?k4 ?k5 ?kA ?kF ?kK ?k6 ?k7 ?k8 ?k9 ?kB ?kD ?_ ?c2 ?c3 ?c4; (case kA => exact rfl); (case kF => exact rfl); (case kK => assumption); (case k1 => k_asm); (case k2 => k_asm); (case k3 => k_asm); (case k4 => k_asm); (case k5 => k_asm); (case k6 => k_is); (case k7 => k_is); (case k8 => ktr_room); (case k9 => exact BindsTo.of_eq rfl); (case kB => exact rfl); (case kD => decide +kernel); (case c2 => exact rfl); (case c3 => exact rfl); (case c4 => exact rfl); k_whole; intro g' L' h' tk' cells' FG' F' N' Y' B' X' T' l1; (try k_lt l1); k_cells Y'; (try simp only [List.cons_append, List.nil_append] at N'); (try dsimp only); (try k_lift B'); (try k_fold))
  have hlow : ∀ p ∈ news, (p.1 : Nat) < L' := by assumption
  repeat' ((fail_if_success (with_reducible show wpAny _ _ (execs (Stmt.Assign [Expr.Name (Str.ofString "bits") _] _ _ :: _) _) _ _ _)); (first | walk1 | (dsimp only; walk1)))
  walk1
  walk1
  walk1
  walk1
  rename Fr _ _ _ _ => F9
  rename News _ _ _ _ => N9
  refine' ListComp_two (cl := []) (vals := ns.map bitsOf) (news := _ :: news) ?h1 ?h2 ?h3 ?h4 ?h5 ?h6 ?h7 ?h8 F9 (fun p hp => N9 p (.tail _ (.tail _ hp))) ?h9 ?h10 ?h11 ?h12
  case h1 => with_unfolding_all rfl
  case h2 => decide
  case h3 => rfl
  case h4 => decide
  case h5 => rfl
  case h6 => rfl
  case h7 => decide
  case h8 => rw [bits_flat, PySem.sizeLine_eq]; omega
  case h11 => intro _; rfl
  case h12 => intro _ _; rfl
  case h9 =>
    walk1
    refine src2_list (vs := vs) rfl ⟨_, _, rfl⟩ F9 (fun p hp => N9 p (.tail _ (.tail _ hp))) ⟨lo, (N9 _ (.tail _ (.tail _ (.tail _ hlm)))).1, hlc, hld⟩ (by rw [List.length_map]; exact hi.length.symm) ?_
    intro i row v C D ys mC s₃ E' hrow hP hs3 F3 N3 hND hns hmx
    obtain ⟨h3, tk3, rfl⟩ := hs3
    dsimp only at F3 N3 hns
    clear F9 N9
    have hDe := (N3 _ (.head _)).1
    dsimp only at hDe
    obtain ⟨b, hb, rfl⟩ : ∃ b, ns[i]? = some b ∧ bitsOf b = row := by simpa using hrow
    obtain ⟨t0, hv0⟩ := hi.get i b hb
    obtain rfl : v = Value.int b t0 := Option.some.inj (hP.symm.trans hv0)
    iterate 7 (first | walk1 | (dsimp only; walk1))
    rename IsRange _ _ _ _ _ _ _ _ => R9
    rename Fr _ _ _ _ => F9
    rename (∀ (b : Addr) (o : Obj), _ → _) => K9
    have hCne := ns_obj hns
    refine wpAny_pyIter_range R9 (by decide) ⟨_, _, _, _, rfl, LCg.range_walks rfl 0 8, ?st, ⟨_, _, rfl⟩, ?keep, ?hC2, ?hD2, ?hI2, ?elt⟩
    case st => exact show Heap.get? _ _ = some _ from Heap.get?_push_size _ rfl
    case keep => exact fun b o e => Heap.get?_push_of_some _ (K9 b o e)
    case hC2 => intro hm; obtain ⟨oC, eC, _⟩ := hCne; exact absurd (Heap.lt_size (K9 _ _ eC)) (by rw [List.mem_singleton.mp hm]; exact Nat.lt_irrefl _)
    case hD2 => intro hm; exact absurd (Heap.lt_size (K9 _ _ hDe)) (by rw [List.mem_singleton.mp hm]; exact Nat.lt_irrefl _)
    case hI2 =>
      cases e : h3.get? _ with
      | none => rfl
      | some o => exact absurd (Heap.lt_size (K9 _ _ e)) (Nat.lt_irrefl _)
    case elt =>
      intro j k v2 mC' s₆ E'' hk hP2 hs6 F6 N6 hns6 hmx6 hmy6
      obtain ⟨h6, tk6, rfl⟩ := hs6
      obtain ⟨t2, rfl⟩ := hP2
      dsimp only at F6 N6 hns6
      iterate 7 (first | walk1 | (dsimp only; walk1))
      exact ⟨⟨_, by rw [bits_get hk]⟩, ⟨_, _, rfl⟩, fun _ _ e => e⟩
  case h10 =>
    intro D h tk ys F N lD hys
    repeat' ((fail_if_success (with_reducible show wpAny _ _ (execs (Stmt.For _ _ _ _ _ :: _) _) _ _ _)); (first | walk1 | (dsimp only; walk1)))
    rename Fr _ _ _ _ => F8
    rename News _ _ _ _ => N8
    refine' kmk_add_ints F8 N8 (News.isList N8 (by k_mem)) (News.isList N8 (by k_mem)) hys (by assumption) ?_ ?hz
    case hz =>
      rw [bits_flat, PySem.sizeLine_eq]
      have : (List.replicate (Int.toNat 32) [(0 : Int)]).flatten.length = 32 := by decide
      rw [this]; omega
    intro D2 us h2 F2 N2 l2 hI2
    have l3 : @LT.lt Nat instLTNat (L' + 1) D2 := l2 (L' + 1, _) (by k_mem)
    have l5 : AllLt D2 news := allLt_of fun p hp => l2 p (by simp [hp])
    replace N2 : News g' L' h2 ((D2, listOf us.toArray 0) :: (L' + 1, _) :: news) := fun p hp => N2 p (by
      rcases List.mem_cons.mp hp with rfl | hp
      · exact .head _
      · rcases List.mem_cons.mp hp with rfl | hp
        · k_mem
        · simp [hp])
    clear F8 N8 l2
    have hoff : OwnOff news [L' + 1] := fun p hp b hb e => absurd (hlow p hp) (by rw [e, List.mem_singleton.mp hb]; exact Nat.not_lt.mpr (Nat.le_succ _))
    repeat' ((fail_if_success (with_reducible show wpAny _ _ (execs (Stmt.For _ _ _ _ _ :: _) _) _ _ _)); (first | walk1 | (dsimp only; walk1)))
    walk1
    rename Fr _ _ _ _ => F7
    obtain ⟨td, F6⟩ : ∃ td, Fr g' L' _ (fun y => if y = Str.ofString "bits" then some (.ref D2) else if y = Str.ofString "divisor" then some (.int 4374732215 td) else if y = Str.ofString "row" then some (.ref l) else none) := ⟨_, fr_map F7 (fun y => rfl)⟩
    clear F7
    with_unfolding_all refine' For_turns F6 ?_
    iterate 6 (first | walk1 | (dsimp only; walk1))
    rename News _ _ _ _ => N7
    refine' ktu_enum (vs := us) rfl F6 N7 (by k_mem) rfl rfl rfl ?_
    intro I hI
    refine enum_ind (fun i bs m' n' => ∃ (zs : List Int) (r : Int) (o : Obj) (v1 v2 : Option Value), IntsAre bs zs ∧ (∀ b ∈ zs, 0 ≤ b ∧ b ≤ 1) ∧ 0 ≤ r ∧ r < 2 ^ 32 ∧ (∃ t : Tok, o.data = .cell (some (.int r t))) ∧
      (∀ y, m' y = if y = Str.ofString "bit" then v2 else if y = Str.ofString "place" then v1 else if y = Str.ofString "bits" then some (.ref D2) else if y = Str.ofString "divisor" then some (.int 4374732215 td) else if y = Str.ofString "row" then some (.ref l) else none) ∧
      n' = (D2, listOf us.toArray 0) :: (L' + 1, o) :: news ∧ divLoop i r zs = divLoop 0 0 ((List.map bitsOf ns).flatten ++ (List.replicate (Int.toNat 32) [0]).flatten)) ?step ?done us 0 _ _ ?init
    case init =>
      refine ⟨_, 0, _, none, none, hI2, ?_, by decide, by decide, ⟨_, by assumption⟩, fun y => ?_, rfl, rfl⟩
      · intro b hb
        rcases List.mem_append.mp hb with hb | hb
        · obtain ⟨row, hrow, hb⟩ := List.mem_flatten.mp hb
          obtain ⟨n, hn, rfl⟩ := List.mem_map.mp hrow
          obtain ⟨p, hp, rfl⟩ := List.mem_map.mp hb
          exact bitAnd_range _ (by decide)
        · rw [show (List.replicate (Int.toNat 32) [(0 : Int)]).flatten = List.replicate 32 0 from by decide] at hb
          obtain rfl := List.eq_of_mem_replicate hb
          decide
      · by_cases e1 : y = Str.ofString "bit"
        · subst e1; first | rfl | with_unfolding_all rfl
        by_cases e2 : y = Str.ofString "place"
        · subst e2; first | rfl | with_unfolding_all rfl
        rw [if_neg e1, if_neg e2]
    case step =>
      intro i v r m' n' hinv T t h9 tk9 hT F9
      obtain ⟨zs, r0, o, v1, v2, hints, hb01, hr0, hr1, ⟨t0, hd⟩, hm, rfl, hres⟩ := hinv
      cases hints with
      | cons k tkk hints' =>
      rename_i zs'
      have F8 := fr_map F9 hm
      clear F9 F6 N7
      have hIL : @LT.lt Nat instLTNat (L' + 1) I := hI (L' + 1, _) (.tail _ (.head _))
      have hID : @LT.lt Nat instLTNat D2 I := hI (D2, _) (.head _)
      have hINm : ∀ p ∈ news, p.1 < I := fun p hp => hI p (.tail _ (.tail _ hp))
      have hIN : AllLt I news := allLt_of hINm
      ktu_objs
      repeat' (first | walk1 | (dsimp only; walk1))
      all_goals (rename Fr _ _ _ _ => F5; rename News _ _ _ _ => N5)
      all_goals (have hk01 := hb01 k (.head _))
      all_goals (have hzs : ∀ b ∈ zs', 0 ≤ b ∧ b ≤ 1 := fun b hb => hb01 b (.tail _ hb))
      all_goals (refine' ⟨_, _, _, (D2, listOf us.toArray 0) :: (L' + 1, _) :: news, rfl, F5, N5, ?_, ⟨⟨List.mem_cons_self, trivial⟩, zs', divStep (i : Int) r0 k, _, some (.int i t), some (.int k tkk), hints', hzs, (divStep_range _ hr0 hr1 hk01).1, (divStep_range _ hr0 hr1 hk01).2, ?_, ?_, rfl, hres⟩⟩)
      all_goals (first
        | (refine cell_ex (by assumption) ?_; unfold divStep; (first | rw [if_pos (by assumption : (i : Int) < 32)] | rw [if_neg (by assumption : ¬ (i : Int) < 32)]); (first | rw [if_pos (by assumption)] | rw [if_neg (by assumption)]))
        | (intro y; show _ = _; dsimp only; done)
        | (intro y; by_cases e1 : y = Str.ofString "bit"; (rw [if_pos e1]; exact if_pos e1); by_cases e2 : y = Str.ofString "place"; (rw [if_neg e1, if_pos e2]; exact (if_neg e1).trans (if_pos e2)); (rw [if_neg e1, if_neg e2]; (exact ((if_neg e1).trans ((if_neg e2).trans ((if_neg e1).trans (if_neg e2)))))))
        | (intro p hp q hq; rcases List.mem_cons.mp hp with rfl | hp; (first | (have h5 := List.mem_cons.mp hq; rcases h5 with rfl | hq; (exact Nat.ne_of_lt (Nat.lt_succ_of_lt hID)); obtain rfl := List.mem_singleton.mp hq; exact Nat.ne_of_lt hID)); rcases List.mem_cons.mp hp with rfl | hp; (rcases List.mem_cons.mp hq with rfl | hq; (exact Nat.ne_of_lt (Nat.lt_succ_of_lt hIL)); obtain rfl := List.mem_singleton.mp hq; exact Nat.ne_of_lt hIL); (have hlt := hINm p hp; rcases List.mem_cons.mp hq with rfl | hq; (exact Nat.ne_of_lt (Nat.lt_succ_of_lt hlt)); obtain rfl := List.mem_singleton.mp hq; exact Nat.ne_of_lt hlt)))
    case done =>
      intro i m' n' hinv h9 tk9 F9 N9
      obtain ⟨zs, r0, o, v1, v2, hints, hb01, hr0, hr1, ⟨t0, hd⟩, hm, rfl, hres⟩ := hinv
      cases hints
      have F8 := fr_map F9 hm
      clear F9 F6
      rename News _ _ _ _ => N8
      show wpAny _ _ _ _ _ _
      obtain rfl : r0 = dividedR ns := hres
      iterate 15 (first | walk1 | (dsimp only; walk1))
      · iterate 21 (first | walk1 | (dsimp only; walk1))
      iterate 5 (first | walk1 | (dsimp only; walk1))
      rename Fr _ _ _ _ => kF
      rename News _ _ _ _ => kN
      exact hret _ _ _ kF (fun p hp => kN p (.tail _ (.tail _ (.tail _ hp))))
end Mine
end
end JDv
section JPa
theorem Mine.fresh_Pa : True := by w_top off; exact trivial
set_option maxRecDepth 100000
namespace Mine.Crc
/-- one step of the reflected shift register -/
def S (x : BitVec 32) : BitVec 32 := (x >>> 1) ^^^ (if x.getLsbD 0 then 3988292384#32 else 0#32)
theorem S_xor (x y : BitVec 32) : S (x ^^^ y) = S x ^^^ S y := by
  unfold S
  rw [BitVec.getLsbD_xor]
  apply BitVec.eq_of_getLsbD_eq
  intro i hi
  cases x.getLsbD 0 <;> cases y.getLsbD 0 <;> simp [BitVec.getLsbD_xor, BitVec.getLsbD_ushiftRight] <;> (try (cases x.getLsbD (1 + i) <;> cases y.getLsbD (1 + i) <;> cases (3988292384#32).getLsbD i <;> rfl))
theorem S_zero : S 0#32 = 0#32 := by decide
noncomputable def Sn : Nat → BitVec 32 → BitVec 32
  | 0, x => x
  | n + 1, x => Sn n (S x)
theorem Sn_xor : ∀ (n : Nat) (x y : BitVec 32), Sn n (x ^^^ y) = Sn n x ^^^ Sn n y
  | 0, _, _ => rfl
  | n + 1, x, y => by show Sn n (S (x ^^^ y)) = _; rw [S_xor, Sn_xor n]; rfl
theorem Sn_add : ∀ (m n : Nat) (x : BitVec 32), Sn (m + n) x = Sn n (Sn m x)
  | 0, n, x => by rw [Nat.zero_add]; rfl
  | m + 1, n, x => by rw [Nat.succ_add]; exact Sn_add m n (S x)
theorem Sn_zero : ∀ n : Nat, Sn n 0#32 = 0#32
  | 0 => rfl
  | n + 1 => by show Sn n (S 0#32) = _; rw [S_zero]; exact Sn_zero n
theorem Sn_succ (n : Nat) (x : BitVec 32) : Sn (n + 1) x = S (Sn n x) := by rw [Sn_add n 1]; rfl
/-- the bit b at the lowest place -/
def bv (b : Bool) : BitVec 32 := if b then 1#32 else 0#32
/-- the bit b at the highest place -/
def hv (b : Bool) : BitVec 32 := if b then 2147483648#32 else 0#32
theorem S31_hv (b : Bool) : Sn 31 (hv b) = bv b := by cases b <;> decide
theorem bv_xor (a b : Bool) : bv (a ^^ b) = bv a ^^^ bv b := by cases a <;> cases b <;> decide
theorem hv_xor (a b : Bool) : hv (a ^^ b) = hv a ^^^ hv b := by cases a <;> cases b <;> decide
/-- the sum's register, bit by bit -/
def R (r : BitVec 32) (m : List Bool) : BitVec 32 := m.foldl (fun r b => S (r ^^^ bv b)) r
/-- the division's register, bit by bit (turned round) -/
def D (q : BitVec 32) (m : List Bool) : BitVec 32 := m.foldl (fun q b => S q ^^^ hv b) q
def ones : BitVec 32 := 4294967295#32
theorem R_xor (m : List Bool) : ∀ r t : BitVec 32, R (r ^^^ t) m = R r m ^^^ Sn m.length t := by
  induction m with
  | nil => intro r t; rfl
  | cons b m ih =>
    intro r t
    show R (S (r ^^^ t ^^^ bv b)) m = R (S (r ^^^ bv b)) m ^^^ Sn m.length (S t)
    have : r ^^^ t ^^^ bv b = (r ^^^ bv b) ^^^ t := by rw [BitVec.xor_assoc, BitVec.xor_comm t, ← BitVec.xor_assoc]
    rw [this, S_xor, ih]
theorem R_app (r : BitVec 32) (m n : List Bool) : R r (m ++ n) = R (R r m) n := List.foldl_append
theorem D_app (r : BitVec 32) (m n : List Bool) : D r (m ++ n) = D (D r m) n := List.foldl_append
/-- the division of two rows laid over each other -/
theorem D_zip : ∀ (m n : List Bool) (q p : BitVec 32), m.length = n.length → D (q ^^^ p) (List.zipWith (· ^^ ·) m n) = D q m ^^^ D p n
  | [], [], q, p, _ => rfl
  | a :: m, b :: n, q, p, h => by
    show D (S (q ^^^ p) ^^^ hv (a ^^ b)) _ = D (S q ^^^ hv a) m ^^^ D (S p ^^^ hv b) n
    rw [← D_zip m n _ _ (by simpa using h), S_xor, hv_xor]
    congr 1
    rw [BitVec.xor_assoc, BitVec.xor_assoc, ← BitVec.xor_assoc (S p), BitVec.xor_comm (S p), BitVec.xor_assoc (hv a)]
theorem D_noughts : ∀ (n : Nat) (q : BitVec 32), D q (List.replicate n false) = Sn n q
  | 0, _ => rfl
  | n + 1, q => by
    show D (S q ^^^ hv false) (List.replicate n false) = Sn n (S q)
    rw [show hv false = 0#32 from rfl, BitVec.xor_zero]; exact D_noughts n _
theorem D_ones : D 0#32 (List.replicate 32 true) = ones := by decide
/-- the plain row's division, moved on by 32 noughts, against the sum's register begun at nought -/
theorem D_R : ∀ (m : List Bool) (q : BitVec 32), Sn 32 (D q m) = R (Sn 32 q) m
  | [], _ => rfl
  | b :: m, q => by
    show Sn 32 (D (S q ^^^ hv b) m) = R (S (Sn 32 q ^^^ bv b)) m
    rw [D_R m, Sn_xor, show Sn 32 (hv b) = S (bv b) from by rw [Sn_succ, S31_hv], S_xor]
    congr 2
/-- the long division of a row, its first 32 bits flipped, 32 noughts behind, is the sum begun at ones -/
theorem D_crc (m : List Bool) : D 0#32 (List.zipWith (· ^^ ·) (m ++ List.replicate 32 false) (List.replicate 32 true ++ List.replicate m.length false)) = R ones m := by
  have h := D_zip (m ++ List.replicate 32 false) (List.replicate 32 true ++ List.replicate m.length false) 0#32 0#32 (by rw [List.length_append, List.length_append, List.length_replicate, List.length_replicate, List.length_replicate, Nat.add_comm])
  rw [BitVec.xor_zero] at h
  rw [h, D_app, D_app, D_noughts, D_ones, D_noughts, D_R, Sn_zero]
  have := R_xor m 0#32 ones
  rw [BitVec.zero_xor] at this
  exact this.symm
end Mine.Crc
end JPa
section JPb
theorem Mine.fresh_Pb : True := by w_top off; exact trivial
open PySem PySem.W PyProof.Rows
set_option maxRecDepth 100000
set_option maxHeartbeats 1000000
namespace Mine.Crc
theorem step_S (x : BitVec 32) : (if ¬Builtin.bitAnd (x.toNat : Int) 1 = 0 then Builtin.bitXor ((x.toNat : Int).fdiv (2 ^ Int.toNat 1)) 3988292384 else (x.toNat : Int).fdiv (2 ^ Int.toNat 1)) = ((S x).toNat : Int) := by
  have e1 : Builtin.bitAnd (x.toNat : Int) 1 = ((x.toNat % 2 : Nat) : Int) := by
    rw [← Nat.and_one_is_mod]; exact bitAnd_nat x.toNat 1
  have e2 : (x.toNat : Int).fdiv (2 ^ Int.toNat 1) = ((x.toNat / 2 : Nat) : Int) := by
    rw [show ((2 : Int) ^ Int.toNat 1) = ((2 : Nat) : Int) from rfl]
    rw [Int.fdiv_eq_ediv_of_nonneg _ (by omega)]; rfl
  have e3 : Builtin.bitXor ((x.toNat / 2 : Nat) : Int) 3988292384 = ((x.toNat / 2 ^^^ 3988292384 : Nat) : Int) := bitXor_nat _ 3988292384
  have e4 : x.getLsbD 0 = decide (x.toNat % 2 = 1) := by rw [← BitVec.testBit_toNat, Nat.testBit_zero]
  rw [e1, e2, e3]
  unfold S
  rw [e4, BitVec.toNat_xor, BitVec.toNat_ushiftRight, Nat.shiftRight_eq_div_pow, Nat.pow_one]
  by_cases h : x.toNat % 2 = 1
  · rw [if_pos (by omega), decide_eq_true h]; rfl
  · rw [if_neg (by omega), decide_eq_false h]
    simp
theorem foldl_S {α : Type} : ∀ (l : List α) (x : BitVec 32), l.foldl (fun (a : Int) (_ : α) => if ¬Builtin.bitAnd a 1 = 0 then Builtin.bitXor (a.fdiv (2 ^ Int.toNat 1)) 3988292384 else a.fdiv (2 ^ Int.toNat 1)) (x.toNat : Int) = ((Sn l.length x).toNat : Int)
  | [], _ => rfl
  | _ :: l, x => by rw [List.foldl_cons, step_S, foldl_S l]; rfl
theorem gen_S (x : BitVec 32) : genF (x.toNat : Int) = ((Sn 8 x).toNat : Int) := by
  unfold genF
  rw [foldl_S, rangeKs_length]; rfl
/-- a byte's bits, the lowest first -/
def bitsB (n : Nat) : List Bool := (List.range 8).map fun p => n.testBit p
theorem bitsB_len (n : Nat) : (bitsB n).length = 8 := by simp [bitsB]
theorem low_noughts : ∀ (n : Nat) (x : BitVec 32), (∀ i, i < n → x.getLsbD i = false) → Sn n x = x >>> n
  | 0, x, _ => by simp [Sn]
  | n + 1, x, h => by
    have e : S x = x >>> 1 := by unfold S; rw [h 0 (by omega)]; simp
    show Sn n (S x) = _
    rw [e, low_noughts n (x >>> 1) (fun i hi => by rw [BitVec.getLsbD_ushiftRight]; exact h (1 + i) (by omega)), Nat.add_comm n 1, BitVec.shiftRight_add]
theorem byte_step (b : Fin 256) : R 0#32 (bitsB b.val) = Sn 8 (BitVec.ofNat 32 b.val) := by
  revert b; decide +kernel
theorem moved_R (r : BitVec 32) (b : Nat) (hb : b < 256) : movedF (r.toNat : Int) (b : Int) = ((R r (bitsB b)).toNat : Int) := by
  have e0 : b % 2 ^ 32 = b := Nat.mod_eq_of_lt (by omega)
  have hR : R r (bitsB b) = Sn 8 (r ^^^ BitVec.ofNat 32 b) := by
    have := R_xor (bitsB b) 0#32 r
    rw [BitVec.zero_xor, bitsB_len, byte_step ⟨b, hb⟩] at this
    rw [this, Sn_xor, BitVec.xor_comm]
  have hz : Sn 8 (r ^^^ BitVec.ofNat 32 b) = (r >>> 8) ^^^ Sn 8 ((r ^^^ BitVec.ofNat 32 b) &&& 255#32) := by
    have hsplit : r ^^^ BitVec.ofNat 32 b = ((r ^^^ BitVec.ofNat 32 b) &&& ~~~255#32) ^^^ ((r ^^^ BitVec.ofNat 32 b) &&& 255#32) := by
      apply BitVec.eq_of_getLsbD_eq
      intro i hi
      simp only [BitVec.getLsbD_xor, BitVec.getLsbD_and, BitVec.getLsbD_not, hi, decide_true, Bool.true_and]
      cases r.getLsbD i <;> cases (BitVec.ofNat 32 b).getLsbD i <;> cases (255#32).getLsbD i <;> rfl
    have hlow : Sn 8 ((r ^^^ BitVec.ofNat 32 b) &&& ~~~255#32) = ((r ^^^ BitVec.ofNat 32 b) &&& ~~~255#32) >>> 8 := low_noughts 8 _ fun i hi => by
      have : (~~~255#32).getLsbD i = false := by
        have h8 : i = 0 ∨ i = 1 ∨ i = 2 ∨ i = 3 ∨ i = 4 ∨ i = 5 ∨ i = 6 ∨ i = 7 := by omega
        rcases h8 with rfl | rfl | rfl | rfl | rfl | rfl | rfl | rfl <;> decide
      rw [BitVec.getLsbD_and, this, Bool.and_false]
    have hsh : ((r ^^^ BitVec.ofNat 32 b) &&& ~~~255#32) >>> 8 = r >>> 8 := by
      apply BitVec.eq_of_getLsbD_eq
      intro i hi
      rw [BitVec.getLsbD_ushiftRight, BitVec.getLsbD_ushiftRight, BitVec.getLsbD_and, BitVec.getLsbD_xor]
      by_cases h32 : 8 + i < 32
      · have hm : (~~~255#32).getLsbD (8 + i) = true := by
          rw [BitVec.getLsbD_not, decide_eq_true h32, Bool.true_and, BitVec.getLsbD_ofNat]
          rw [Nat.testBit_lt_two_pow (x := 255) (i := 8 + i) (Nat.lt_of_lt_of_le (by decide : 255 < 2 ^ 8) (Nat.pow_le_pow_right (by decide) (by omega)))]; simp
        have hb8 : (BitVec.ofNat 32 b).getLsbD (8 + i) = false := by
          rw [BitVec.getLsbD_ofNat, Nat.testBit_lt_two_pow (x := b) (i := 8 + i) (Nat.lt_of_lt_of_le (show b < 2 ^ 8 by omega) (Nat.pow_le_pow_right (by decide) (by omega))), Bool.and_false]
        rw [hm, hb8, Bool.and_true, Bool.xor_false]
      · have hr : r.getLsbD (8 + i) = false := BitVec.getLsbD_of_ge _ _ (by omega)
        have hm : (~~~255#32).getLsbD (8 + i) = false := BitVec.getLsbD_of_ge _ _ (by omega)
        rw [hm, hr, Bool.and_false]
    conv => lhs; rw [hsplit, Sn_xor, hlow, hsh]
  have e1 : Builtin.bitXor (r.toNat : Int) (b : Int) = (((r ^^^ BitVec.ofNat 32 b).toNat : Nat) : Int) := by
    rw [bitXor_nat, BitVec.toNat_xor, BitVec.toNat_ofNat, e0]
  have e2 : Builtin.bitAnd (((r ^^^ BitVec.ofNat 32 b).toNat : Nat) : Int) 255 = ((((r ^^^ BitVec.ofNat 32 b) &&& 255#32).toNat : Nat) : Int) := by
    rw [show (255 : Int) = ((255 : Nat) : Int) from rfl, bitAnd_nat, BitVec.toNat_and]; rfl
  have e3 : (r.toNat : Int).fdiv (2 ^ Int.toNat 8) = (((r >>> 8).toNat : Nat) : Int) := by
    rw [show ((2 : Int) ^ Int.toNat 8) = ((256 : Nat) : Int) from rfl, Int.fdiv_eq_ediv_of_nonneg _ (by omega), BitVec.toNat_ushiftRight, Nat.shiftRight_eq_div_pow]; rfl
  unfold movedF
  rw [e1, e2, gen_S, e3, bitXor_nat, hR, hz, BitVec.toNat_xor]
def bitsR (row : List Int) : List Bool := row.flatMap fun b => bitsB b.toNat
theorem fold_R : ∀ (row : List Int), (∀ b ∈ row, 0 ≤ b ∧ b < 256) → ∀ r : BitVec 32, row.foldl movedF (r.toNat : Int) = ((R r (bitsR row)).toNat : Int)
  | [], _, _ => rfl
  | b :: row, h, r => by
    have hb := h b (.head _)
    have e : b = ((b.toNat : Nat) : Int) := by omega
    rw [List.foldl_cons]
    conv => lhs; rw [e]
    rw [moved_R r b.toNat (by omega), fold_R row (fun c hc => h c (.tail _ hc))]
    show _ = ((R r (bitsB b.toNat ++ bitsR row)).toNat : Int)
    rw [R_app]
end Mine.Crc
end JPb
section JPd
theorem Mine.fresh_Pd : True := by w_top off; exact trivial
open PySem PySem.W PyProof.Rows
set_option maxRecDepth 100000
set_option maxHeartbeats 1000000
namespace Mine.Crc
def b2i (b : Bool) : Int := if b then 1 else 0
/-- the register turned round -/
def rv (n : Nat) : BitVec 32 := (BitVec.ofNat 32 n).reverse
theorem rv_bit (n i : Nat) (hi : i < 32) : (rv n).getLsbD i = n.testBit (31 - i) := by
  unfold rv
  rw [BitVec.getLsbD_reverse]
  show (decide (i < 32) && (BitVec.ofNat 32 n).getLsbD (32 - 1 - i)) = _
  rw [decide_eq_true hi, Bool.true_and, BitVec.getLsbD_ofNat, decide_eq_true (by omega), Bool.true_and]
theorem poly_bit (i : Nat) (hi : i < 32) : (4374732215 : Nat).testBit (31 - i) = (3988292384#32).getLsbD i := by
  have : ∀ j : Fin 32, (4374732215 : Nat).testBit (31 - j.val) = (3988292384#32).getLsbD j.val := by decide +kernel
  exact this ⟨i, hi⟩
/-- one step of the division -/
theorem div_S (r : Nat) (hr : r < 2 ^ 32) (c : Bool) : ∃ r' : Nat, (if (2 : Int) ^ Int.toNat 32 ≤ (r : Int) * 2 + b2i c then Builtin.bitXor ((r : Int) * 2 + b2i c) 4374732215 else (r : Int) * 2 + b2i c) = (r' : Int) ∧ rv r' = S (rv r) ^^^ hv c := by
  have hc : b2i c = ((c.toNat : Nat) : Int) := by cases c <;> rfl
  have hcl : c.toNat ≤ 1 := by cases c <;> decide
  have e0 : (r : Int) * 2 + b2i c = ((2 * r + c.toNat : Nat) : Int) := by rw [hc]; omega
  have p32 : (2 : Int) ^ Int.toNat 32 = ((2 ^ 32 : Nat) : Int) := by decide
  have hbit : ∀ i, (2 * r + c.toNat).testBit (i + 1) = r.testBit i := fun i => by
    rw [Nat.testBit_succ]; congr 1; omega
  have hbit0 : (2 * r + c.toNat).testBit 0 = c := by
    rw [Nat.testBit_zero]; cases c <;> simp [Nat.add_mod]
  have htop : (rv r).getLsbD 0 = decide (2 ^ 32 ≤ 2 * r + c.toNat) := by
    rw [rv_bit _ _ (by decide), Nat.testBit_eq_decide_div_mod_eq]
    by_cases h : 2 ^ 32 ≤ 2 * r + c.toNat
    · rw [decide_eq_true h]; exact decide_eq_true (by omega)
    · rw [decide_eq_false h]; exact decide_eq_false (by omega)
  have hhv : ∀ i, i < 32 → (hv c).getLsbD i = (c && decide (i = 31)) := fun i hi => by
    unfold hv
    cases c
    · simp
    · have : ∀ j : Fin 32, (2147483648#32).getLsbD j.val = decide (j.val = 31) := by decide +kernel
      rw [if_pos rfl, Bool.true_and]; exact this ⟨i, hi⟩
  have hsh : ∀ i, i < 32 → ((rv r) >>> 1 ^^^ hv c).getLsbD i = (2 * r + c.toNat).testBit (31 - i) := fun i hi => by
    rw [BitVec.getLsbD_xor, BitVec.getLsbD_ushiftRight, hhv i hi]
    by_cases h31 : i = 31
    · subst h31
      rw [show 31 - 31 = 0 from rfl, hbit0, BitVec.getLsbD_of_ge _ _ (by decide)]; simp
    · rw [rv_bit _ _ (by omega), show 31 - i = (31 - (1 + i)) + 1 from by omega, hbit, decide_eq_false h31]; simp
  rw [e0, p32]
  by_cases h : 2 ^ 32 ≤ 2 * r + c.toNat
  · rw [if_pos (by omega)]
    refine ⟨(2 * r + c.toNat) ^^^ 4374732215, by rw [show (4374732215 : Int) = ((4374732215 : Nat) : Int) from rfl, bitXor_nat], ?_⟩
    apply BitVec.eq_of_getLsbD_eq
    intro i hi
    rw [rv_bit _ _ hi, Nat.testBit_xor, poly_bit _ hi, ← hsh i hi]
    unfold S
    rw [htop, decide_eq_true h, if_pos rfl, BitVec.getLsbD_xor, BitVec.getLsbD_xor, BitVec.getLsbD_xor]
    cases (rv r >>> 1).getLsbD i <;> cases (hv c).getLsbD i <;> cases (3988292384#32).getLsbD i <;> rfl
  · rw [if_neg (by omega)]
    refine ⟨2 * r + c.toNat, rfl, ?_⟩
    apply BitVec.eq_of_getLsbD_eq
    intro i hi
    rw [rv_bit _ _ hi, ← hsh i hi]
    unfold S
    rw [htop, decide_eq_false h, if_neg (by decide), BitVec.xor_zero]
noncomputable def flipAt : Nat → List Bool → List Bool
  | _, [] => []
  | i, b :: m => (b ^^ decide (i < 32)) :: flipAt (i + 1) m
theorem flip_zip : ∀ (m : List Bool) (i : Nat), 32 - i ≤ m.length → flipAt i m = List.zipWith (· ^^ ·) m (List.replicate (32 - i) true ++ List.replicate (m.length - (32 - i)) false)
  | [], i, h => rfl
  | b :: m, i, h => by
    show (b ^^ decide (i < 32)) :: flipAt (i + 1) m = _
    by_cases hi : i < 32
    · rw [show 32 - i = (32 - (i + 1)) + 1 from by omega, List.replicate_succ, List.cons_append, List.zipWith_cons_cons, decide_eq_true hi, flip_zip m (i + 1) (by rw [List.length_cons] at h; omega)]
      congr 4
      rw [List.length_cons]; omega
    · have e : 32 - i = 0 := by omega
      rw [e, List.length_cons, Nat.sub_zero, List.replicate_zero, List.nil_append, List.replicate_succ, List.zipWith_cons_cons, decide_eq_false hi, flip_zip m (i + 1) (by omega)]
      have e2 : 32 - (i + 1) = 0 := by omega
      rw [e2, List.replicate_zero, List.nil_append, Nat.sub_zero]
theorem div_D : ∀ (m : List Bool) (i r : Nat), r < 2 ^ 32 → ∃ r' : Nat, divLoop i (r : Int) (m.map b2i) = (r' : Int) ∧ r' < 2 ^ 32 ∧ rv r' = D (rv r) (flipAt i m)
  | [], i, r, hr => ⟨r, rfl, hr, rfl⟩
  | b :: m, i, r, hr => by
    have hb01 : 0 ≤ b2i b ∧ b2i b ≤ 1 := by cases b <;> decide
    have hstep : divStep (i : Int) (r : Int) (b2i b) = (if (2 : Int) ^ Int.toNat 32 ≤ (r : Int) * 2 + b2i (b ^^ decide (i < 32)) then Builtin.bitXor ((r : Int) * 2 + b2i (b ^^ decide (i < 32))) 4374732215 else (r : Int) * 2 + b2i (b ^^ decide (i < 32))) := by
      unfold divStep
      have : (if (i : Int) < 32 then 1 - b2i b else b2i b) = b2i (b ^^ decide (i < 32)) := by
        by_cases hi : i < 32
        · rw [if_pos (by omega), decide_eq_true hi]; cases b <;> rfl
        · rw [if_neg (by omega), decide_eq_false hi]; cases b <;> rfl
      rw [this]
    obtain ⟨r1, e1, e2⟩ := div_S r hr (b ^^ decide (i < 32))
    have hrange := divStep_range (i : Int) (r := (r : Int)) (b := b2i b) (by omega) (by omega) hb01
    rw [hstep, e1] at hrange
    obtain ⟨r2, f1, f2, f3⟩ := div_D m (i + 1) r1 (by omega)
    refine ⟨r2, ?_, f2, ?_⟩
    · show divLoop (i + 1) (divStep (i : Int) (r : Int) (b2i b)) (m.map b2i) = _
      rw [hstep, e1]; exact f1
    · show _ = D (S (rv r) ^^^ hv (b ^^ decide (i < 32))) (flipAt (i + 1) m)
      rw [← e2]; exact f3
theorem bits_b2i (b : Int) (hb : 0 ≤ b) : bitsOf b = (bitsB b.toNat).map b2i := by
  unfold bitsOf bitsB
  rw [List.map_map]
  refine List.map_congr_left fun p _ => ?_
  obtain ⟨n, rfl⟩ : ∃ n : Nat, b = n := ⟨b.toNat, by omega⟩
  have e1 : ((n : Int).fdiv (2 ^ p)) = ((n / 2 ^ p : Nat) : Int) := by
    rw [show ((2 : Int) ^ p) = ((2 ^ p : Nat) : Int) from by simp, Int.fdiv_eq_ediv_of_nonneg _ (Int.natCast_nonneg _)]; rfl
  rw [e1, show (1 : Int) = ((1 : Nat) : Int) from rfl, bitAnd_nat, Nat.and_one_is_mod]
  show _ = b2i (n.testBit p)
  rw [Nat.testBit_eq_decide_div_mod_eq]
  have : n / 2 ^ p % 2 = 0 ∨ n / 2 ^ p % 2 = 1 := by omega
  rcases this with h | h <;> rw [h] <;> rfl
theorem flat_b2i : ∀ (row : List Int), (∀ b ∈ row, 0 ≤ b ∧ b < 256) → (row.map bitsOf).flatten = (bitsR row).map b2i
  | [], _ => rfl
  | b :: row, h => by
    rw [List.map_cons, List.flatten_cons, bits_b2i b (h b (.head _)).1, flat_b2i row (fun c hc => h c (.tail _ hc))]
    show _ = (bitsB b.toNat ++ bitsR row).map b2i
    rw [List.map_append]
theorem divided_R (row : List Int) (h : ∀ b ∈ row, 0 ≤ b ∧ b < 256) : ∃ r : Nat, dividedR row = (r : Int) ∧ rv r = R ones (bitsR row) := by
  have e : (List.map bitsOf row).flatten ++ (List.replicate (Int.toNat 32) [(0 : Int)]).flatten = (bitsR row ++ List.replicate 32 false).map b2i := by
    rw [flat_b2i row h, List.map_append]
    congr 1
  obtain ⟨r, e1, _, e3⟩ := div_D (bitsR row ++ List.replicate 32 false) 0 0 (by decide)
  refine ⟨r, ?_, ?_⟩
  · unfold dividedR; rw [e]; exact e1
  · rw [e3, flip_zip _ 0 (by rw [List.length_append, List.length_replicate]; omega), List.length_append, List.length_replicate]
    rw [show (bitsR row).length + 32 - (32 - 0) = (bitsR row).length from by omega, show rv 0 = 0#32 from by decide]
    exact D_crc (bitsR row)
theorem sum_bits (x : Nat) : ∀ n : Nat, ((List.range n).map fun k => (x.testBit k).toNat * 2 ^ k).sum = x % 2 ^ n
  | 0 => by simp [Nat.mod_one]
  | n + 1 => by
    rw [List.range_succ, List.map_append, List.sum_append, sum_bits x n, Nat.pow_succ, Nat.mod_mul]
    rw [List.map_cons, List.map_nil, List.sum_cons, List.sum_nil, Nat.add_zero, Nat.testBit_eq_decide_div_mod_eq, Nat.mul_comm (2 ^ n)]
    congr 2
    have : x / 2 ^ n % 2 = 0 ∨ x / 2 ^ n % 2 = 1 := by omega
    rcases this with h | h <;> rw [h] <;> rfl
theorem cast_sum : ∀ l : List Nat, ((l.sum : Nat) : Int) = (l.map (fun n : Nat => (n : Int))).sum
  | [] => rfl
  | a :: l => by rw [List.sum_cons, List.map_cons, List.sum_cons, ← cast_sum l]; omega
theorem divided_crc (row : List Int) (h : ∀ b ∈ row, 0 ≤ b ∧ b < 256) : dividedF row = (((R ones (bitsR row) ^^^ ones).toNat : Nat) : Int) := by
  obtain ⟨r, e1, e2⟩ := divided_R row h
  have hy : ∀ k, k < 32 → (R ones (bitsR row) ^^^ ones).toNat.testBit k = !r.testBit (31 - k) := fun k hk => by
    rw [BitVec.testBit_toNat, BitVec.getLsbD_xor, ← e2, rv_bit _ _ hk]
    have : ∀ j : Fin 32, ones.getLsbD j.val = true := by decide +kernel
    rw [this ⟨k, hk⟩, Bool.xor_true]
  have hm : (R ones (bitsR row) ^^^ ones).toNat % 2 ^ 32 = (R ones (bitsR row) ^^^ ones).toNat := Nat.mod_eq_of_lt (BitVec.isLt _)
  rw [← hm, ← sum_bits, cast_sum]
  unfold dividedF rangeKs
  rw [e1, List.map_map, List.map_map]
  congr 1
  refine List.map_congr_left fun k hk => ?_
  have hk32 : k < 32 := List.mem_range.mp hk
  show (1 - Builtin.bitAnd ((r : Int).fdiv (2 ^ (31 - (0 + (k : Int))).toNat)) 1) * 2 ^ (0 + (k : Int)).toNat = (((R ones (bitsR row) ^^^ ones).toNat.testBit k).toNat * 2 ^ k : Nat)
  rw [hy k hk32, show (31 - (0 + (k : Int))).toNat = 31 - k from by omega, show (0 + (k : Int)).toNat = k from by omega]
  have e3 : ((r : Int).fdiv (2 ^ (31 - k))) = ((r / 2 ^ (31 - k) : Nat) : Int) := by
    rw [show ((2 : Int) ^ (31 - k)) = ((2 ^ (31 - k) : Nat) : Int) from by simp, Int.fdiv_eq_ediv_of_nonneg _ (Int.natCast_nonneg _)]; rfl
  rw [e3, show Builtin.bitAnd ((r / 2 ^ (31 - k) : Nat) : Int) 1 = ((r / 2 ^ (31 - k) % 2 : Nat) : Int) from by rw [← Nat.and_one_is_mod]; exact bitAnd_nat _ 1]
  rw [Nat.testBit_eq_decide_div_mod_eq]
  have : r / 2 ^ (31 - k) % 2 = 0 ∨ r / 2 ^ (31 - k) % 2 = 1 := by omega
  rcases this with h | h <;> rw [h] <;> simp
end Mine.Crc
end JPd
section JPf
theorem Mine.fresh_Pf : True := by w_top off; exact trivial
open PySem PySem.W PyProof.Rows
set_option maxRecDepth 100000
set_option maxHeartbeats 1000000
namespace Mine
open Crc
def sumOf (row : List Int) : Int := row.foldl movedF 4294967295
theorem sumOf_snoc (row : List Int) (b : Int) : sumOf (row ++ [b]) = movedF (sumOf row) b := by unfold sumOf; rw [List.foldl_append]; rfl
def sumP (p : Str × List Int) : Str × Int := (p.1, sumOf p.2)
theorem sumIn_map (rs : List (Str × List Int)) (key : Str) : sumIn (rs.map sumP) key = sumOf (rowIn rs key) := by
  induction rs with
  | nil => rfl
  | cons p r ih =>
    by_cases h : p.1 = key
    · simp [sumIn, rowIn, sumP, h]
    · simpa [sumIn, rowIn, sumP, h] using ih
theorem put_map (rs : List (Str × List Int)) (k : Int) : putSum (rs.map sumP) k = (putRow rs k).map sumP := by
  unfold putSum putRow storedI
  rw [sumIn_map, ← sumOf_snoc]
  have e : (rs.map sumP).any (fun p => p.1 = keyOf k) = rs.any (fun p => p.1 = keyOf k) := by rw [List.any_map]; rfl
  rw [e]
  split
  · rw [List.map_map, List.map_map]
    refine List.map_congr_left fun p _ => ?_
    by_cases h : p.1 = keyOf k <;> simp [sumP, h]
  · rw [List.map_append]; rfl
theorem book_rows (ns : List Int) : bookF ns = (rowsF ns).map sumP := by
  have : ∀ (ns : List Int) (rs : List (Str × List Int)), ns.foldl putSum (rs.map sumP) = (ns.foldl putRow rs).map sumP := by
    intro ns
    induction ns with
    | nil => intro rs; rfl
    | cons n r ih => intro rs; rw [List.foldl_cons, List.foldl_cons, put_map, ih]
  exact this ns []
theorem book_keys (ns : List Int) : (bookF ns).map (·.1) = (rowsF ns).map (·.1) := by rw [book_rows, List.map_map]; rfl
def Bytes (row : List Int) : Prop := ∀ b ∈ row, 0 ≤ b ∧ b < 256
theorem byte_ok (k : Int) : 0 ≤ (k.fdiv 4).fmod 256 ∧ (k.fdiv 4).fmod 256 < 256 := ⟨Int.fmod_nonneg_of_pos _ (by decide), Int.fmod_lt_of_pos _ (by decide)⟩
theorem rowIn_bytes {rs : List (Str × List Int)} (h : ∀ p ∈ rs, Bytes p.2) (key : Str) : Bytes (rowIn rs key) := by
  unfold rowIn
  cases e : rs.find? (fun p => p.1 = key) with
  | none => intro b hb; cases hb
  | some p => exact h p (List.mem_of_find?_eq_some e)
theorem rows_bytes (ns : List Int) : ∀ p ∈ rowsF ns, Bytes p.2 := by
  have : ∀ (ns : List Int) (rs : List (Str × List Int)), (∀ p ∈ rs, Bytes p.2) → ∀ p ∈ ns.foldl putRow rs, Bytes p.2 := by
    intro ns
    induction ns with
    | nil => intro rs h; exact h
    | cons n r ih =>
      intro rs h
      refine ih _ fun p hp => ?_
      have hnew : Bytes (rowIn rs (keyOf n) ++ [(n.fdiv 4).fmod 256]) := fun b hb => by
        rcases List.mem_append.mp hb with hb | hb
        · exact rowIn_bytes h _ b hb
        · rw [List.mem_singleton.mp hb]; exact byte_ok n
      unfold putRow at hp
      split at hp
      · obtain ⟨q, hq, rfl⟩ := List.mem_map.mp hp
        split
        · exact hnew
        · exact h q hq
      · rcases List.mem_append.mp hp with hp | hp
        · exact h p hp
        · rw [List.mem_singleton.mp hp]; exact hnew
  exact this ns [] fun p hp => absurd hp List.not_mem_nil
theorem sumOf_R (row : List Int) (h : Bytes row) : sumOf row = ((R ones (bitsR row)).toNat : Int) := fold_R row h ones
theorem xor_ones (x : BitVec 32) : Builtin.bitXor (x.toNat : Int) 4294967295 = ((x ^^^ ones).toNat : Int) := by
  rw [show (4294967295 : Int) = ((4294967295 : Nat) : Int) from rfl, bitXor_nat, BitVec.toNat_xor]; rfl
theorem sum_divided (row : List Int) (h : Bytes row) : Builtin.bitXor (sumOf row) 4294967295 = dividedF row := by
  rw [sumOf_R row h, xor_ones, divided_crc row h]
theorem divided_nil : dividedF [] = 0 := by
  rw [divided_crc [] (fun b hb => absurd hb List.not_mem_nil)]; decide
/-- a member's sum in the book is the division of its row -/
theorem book_due (ns : List Int) (key : Str) : Builtin.bitXor (sumIn (bookF ns) key) 4294967295 = dividedF (rowIn (rowsF ns) key) := by
  rw [book_rows, sumIn_map]; exact sum_divided _ (rowIn_bytes (rows_bytes ns) key)
noncomputable def movedBy : Nat → Int → Int
  | 0, t => t
  | n + 1, t => movedBy n (movedF t 0)
theorem moved_nought (x : BitVec 32) : movedF (x.toNat : Int) 0 = ((Sn 8 x).toNat : Int) := by
  have := moved_R x 0 (by decide)
  rw [show bitsB 0 = List.replicate 8 false from by decide] at this
  rw [show ((0 : Nat) : Int) = 0 from rfl] at this
  rw [this]
  congr 2
  have h0 : ∀ (n : Nat) (r : BitVec 32), R r (List.replicate n false) = Sn n r := by
    intro n
    induction n with
    | zero => intro r; rfl
    | succ n ih => intro r; show R (S (r ^^^ bv false)) (List.replicate n false) = Sn n (S r); rw [show bv false = 0#32 from rfl, BitVec.xor_zero, ih]
  exact h0 8 x
theorem moved_by : ∀ (n : Nat) (x : BitVec 32), movedBy n (x.toNat : Int) = ((Sn (8 * n) x).toNat : Int)
  | 0, _ => rfl
  | n + 1, x => by
    show movedBy n (movedF (x.toNat : Int) 0) = _
    rw [moved_nought, moved_by n, Nat.mul_succ, Nat.add_comm, Sn_add]
noncomputable def wholeStep (t : Int) (p : Str × List Int) : Int := Builtin.bitXor (Builtin.bitXor (movedBy p.2.length t) (sumOf p.2)) 4294967295
theorem bitsR_len (row : List Int) : (bitsR row).length = 8 * row.length := by
  induction row with
  | nil => rfl
  | cons b r ih => show (bitsB b.toNat ++ bitsR r).length = _; rw [List.length_append, bitsB_len, ih, List.length_cons]; omega
theorem bitsR_app (a b : List Int) : bitsR (a ++ b) = bitsR a ++ bitsR b := List.flatMap_append
theorem whole_step (done row : List Int) (h : Bytes row) (s : Str) : wholeStep ((R ones (bitsR done) ^^^ ones).toNat : Int) (s, row) = ((R ones (bitsR (done ++ row)) ^^^ ones).toNat : Int) := by
  unfold wholeStep
  dsimp only
  rw [moved_by, sumOf_R row h, bitXor_nat, ← BitVec.toNat_xor, xor_ones]
  congr 2
  rw [bitsR_app, R_app, ← bitsR_len]
  have e : R ones (bitsR done) = ones ^^^ (R ones (bitsR done) ^^^ ones) := by
    rw [BitVec.xor_comm (R ones (bitsR done)), ← BitVec.xor_assoc, BitVec.xor_self, BitVec.zero_xor]
  conv => rhs; rw [e, R_xor]
  rw [BitVec.xor_comm (Sn _ _)]
theorem whole_fold (rs : List (Str × List Int)) (h : ∀ p ∈ rs, Bytes p.2) : ∀ done : List Int, rs.foldl wholeStep ((R ones (bitsR done) ^^^ ones).toNat : Int) = ((R ones (bitsR (done ++ rs.flatMap (·.2))) ^^^ ones).toNat : Int) := by
  induction rs with
  | nil => intro done; rw [List.flatMap_nil, List.append_nil]; rfl
  | cons p r ih =>
    intro done
    rw [List.foldl_cons, show p = (p.1, p.2) from rfl, whole_step done p.2 (h p (.head _)), ih (fun q hq => h q (.tail _ hq)), List.flatMap_cons, List.append_assoc]
/-- the members' sums put together are the division of all rows one behind the other -/
theorem whole_due (ns : List Int) : (rowsF ns).foldl wholeStep 0 = dividedF ((rowsF ns).flatMap (·.2)) := by
  have hb : Bytes ((rowsF ns).flatMap (·.2)) := fun b hb => by
    obtain ⟨p, hp, hb⟩ := List.mem_flatMap.mp hb
    exact rows_bytes ns p hp b hb
  have := whole_fold (rowsF ns) (rows_bytes ns) []
  rw [List.nil_append] at this
  rw [divided_crc _ hb, ← this]
  rfl
end Mine
end JPf
section JBl
theorem Mine.fresh_Bl : True := by w_top off; exact trivial
open PySem PySem.W PyProof.Rows PySem.Spec PySem.Calls
set_option maxRecDepth 100000
set_option maxHeartbeats 1000000
noncomputable section
namespace Mine
theorem filledBl : Filled PySem.Challenge.rw_il0125_01 Mine.hd.heap_1_39 := by k_fill; exact True.intro
/-- book[key] after the freezing, the key there or not -/
theorem book_look (w : World) (mean : ExcName → Option Value) (mg mb : Str → Option Value) (news : CbLed) (B f d lam : Addr) (o : Obj) (objs : CbLed) (h0 : Int) (t2 : Tok) (nn : Nat) (kvs : List (Str × Value)) (bs : List (Str × Int)) (k : Str) (tk0 : Tok) (A' : Around) (value slice : PySem.Expr)
  (cn : Str) (cs : Scope) (a : Addr) (ccd : Value) (cl : List (Str × Addr)) (outer : List Env) (A₀ : Around) (base h₀ : Heap) (L : Addr) (m : Str → Option Value) (s : Shared) (Q E : Value → Shared → Prop)
  (hA1 : A'.frames = some (envX cn cs L a ccd cl :: outer)) (hA2 : A'.handled = none) (hA3 : A'.depth ≤ 500) (hA4 : A'.units ≤ 5000)
  (hB : Below A₀ base outer h₀) (hF : Fr h₀ L s.heap m) (hX : (Mine.hd.heap_1_39 w.params).In h₀) (hN : News h₀ L s.heap ((B, o) :: news)) (hT : Top topProg LO mean mg mb h₀) (hcs : cs.kind = .function)
  (hb : BookAt w o f d kvs) (hsum : SumsAre kvs bs) (hd : (d, frzD h0 t2 lam nn) ∈ news) (hobjs : ∀ p ∈ objs, p ∈ (B, o) :: news) (hsys : (B == sysModules) = false) (hfac : FrzOk w mean mg mb lam objs)
  (hret : ∀ h' tk' t, Fr h₀ L h' m → News h₀ L h' ((B, o) :: news) → Q (.int (sumIn bs k) t) { s with heap := h', toks := tk' }) :
  wpAny (model PW w) A' (getItem (.ref B) (.str k tk0)) Q E s := by
  have hX2 := hX.keeps hF.keep
  rcases hsum.at k with ⟨t, hv⟩ | ⟨hv, hi⟩
  · exact book_get hX2 hb (hN _ (.head _)).1 (hN _ (.tail _ hd)).1 (strKind_is _ _ _ _) hv (hret _ _ t hF hN)
  · refine book_miss hX2 hb (hN _ (.head _)).1 (hN _ (.tail _ hd)).1 hsys (strKind_is _ _ _ _) hv ?_
    refine frz_walk w mean mg mb news B f d lam o objs h0 t2 nn kvs k tk0 A'.in1 cn cs a ccd cl outer A₀ base h₀ L m { s with toks := s.toks + 1 } _ _ hA1 hA2 (by show A'.depth ≤ 520; omega) (by show A'.units + 1 ≤ 5020; omega) hB hF hX hN hT hcs hb hd hobjs hfac ?_
    intro h' tk' t F' N'
    rw [← hi]
    exact hret h' tk' t F' N'
theorem book_look_sub (w : World) (mean : ExcName → Option Value) (mg mb : Str → Option Value) (news : CbLed) (B f d lam : Addr) (o : Obj) (objs : CbLed) (h0 : Int) (t2 : Tok) (nn : Nat) (kvs : List (Str × Value)) (bs : List (Str × Int)) (k : Str) (tk0 : Tok) (A' : Around) (value slice : PySem.Expr)
  (cn : Str) (cs : Scope) (a : Addr) (ccd : Value) (cl : List (Str × Addr)) (outer : List Env) (A₀ : Around) (base h₀ : Heap) (L : Addr) (m : Str → Option Value) (s : Shared) (Q E : Value → Shared → Prop)
  (hA1 : A'.frames = some (envX cn cs L a ccd cl :: outer)) (hA2 : A'.handled = none) (hA3 : A'.depth ≤ 500) (hA4 : A'.units ≤ 5000)
  (hB : Below A₀ base outer h₀) (hF : Fr h₀ L s.heap m) (hX : (Mine.hd.heap_1_39 w.params).In h₀) (hN : News h₀ L s.heap ((B, o) :: news)) (hT : Top topProg LO mean mg mb h₀) (hcs : cs.kind = .function)
  (hb : BookAt w o f d kvs) (hsum : SumsAre kvs bs) (hd : (d, frzD h0 t2 lam nn) ∈ news) (hobjs : ∀ p ∈ objs, p ∈ (B, o) :: news) (hsys : (B == sysModules) = false) (hfac : FrzOk w mean mg mb lam objs)
  (hsl : subscripted slice false (.ref B) (.str k tk0) = operate [.ref B, .str k tk0] (getItem (.ref B) (.str k tk0)))
  (hret : ∀ h' tk' t, Fr h₀ L h' m → News h₀ L h' ((B, o) :: news) → Q (.int (sumIn bs k) t) { s with heap := h', toks := tk' }) :
  wpAny (model PW w) A' (subscriptTail value slice (.ref B) (.str k tk0)) Q E s :=
  sub_B (hX.keeps hF.keep) (book_inst hb (hN _ (.head _)).1 (hN _ (.tail _ hd)).1) (book_look w mean mg mb news B f d lam o objs h0 t2 nn kvs bs k tk0 A' value slice cn cs a ccd cl outer A₀ base h₀ L m s Q E hA1 hA2 hA3 hA4 hB hF hX hN hT hcs hb hsum hd hobjs hsys hfac hret) hsl
end Mine
end
end JBl
section JSm
theorem Mine.fresh_Sm : True := by w_top off; exact trivial
open PySem PySem.W PyProof.Rows PySem.Spec PySem.Calls PyProof.Rows.LCg
set_option maxRecDepth 100000
set_option maxHeartbeats 1000000
noncomputable section
namespace Mine
theorem filledSm : Filled PySem.Challenge.rw_il0125_01 Mine.hd.heap_1_39 := by k_fill; exact True.intro
theorem mt3 {α : Type} {a b c p : α} {l : List α} (h : p ∈ l) : p ∈ a :: b :: c :: l := .tail _ (.tail _ (.tail _ h))
theorem mt4 {α : Type} {a b c d p : α} {l : List α} (h : p ∈ l) : p ∈ a :: b :: c :: d :: l := .tail _ (mt3 h)
theorem mt5 {α : Type} {a b c d e p : α} {l : List α} (h : p ∈ l) : p ∈ a :: b :: c :: d :: e :: l := .tail _ (mt4 h)
theorem mt6 {α : Type} {a b c d e f p : α} {l : List α} (h : p ∈ l) : p ∈ a :: b :: c :: d :: e :: f :: l := .tail _ (mt5 h)
theorem mt7 {α : Type} {a b c d e f g p : α} {l : List α} (h : p ∈ l) : p ∈ a :: b :: c :: d :: e :: f :: g :: l := .tail _ (mt6 h)
theorem led_cut {h₀ h : Heap} {L : Addr} {nw : CbLed} (N : News h₀ L h nw) {a : Addr} {c : Obj} (hc : (a, c) ∈ nw) (hcd : c.data = .cell none) : ∃ rs : CbLed, OwnOff rs [a] ∧ (∀ p ∈ rs, p ∈ nw) ∧ ∀ p ∈ nw, p.2.data ≠ .cell none → p ∈ rs :=
  ⟨nw.filter fun p => decide (@Ne Nat p.1 a), fun p hp b hb => by
    obtain rfl := List.mem_singleton.mp hb
    exact of_decide_eq_true (List.mem_filter.mp hp).2, fun p hp => (List.mem_filter.mp hp).1, fun p hp hne => List.mem_filter.mpr ⟨hp, decide_eq_true fun e => by
    have h1 := (N _ hp).1
    rw [show p.1 = a from e, (N _ hc).1] at h1
    exact hne (by rw [← Option.some.inj h1]; exact hcd)⟩⟩
def abcd : List Str := (Str.ofString "abcd").cps.toList.map fun c => ⟨#[c]⟩
theorem sign_abcd {i : Nat} {v : Value} (h : SignAt (Str.ofString "abcd") i v) : ∃ k t, abcd[i]? = some k ∧ v = .str k t := by
  obtain ⟨c, u, hc, hv⟩ := h
  exact ⟨_, u, by unfold abcd; rw [List.getElem?_map, Array.getElem?_toList, hc]; rfl, hv⟩
theorem ints_snoc {k : Int} {t : Tok} : ∀ {vs : List Value} {ns : List Int}, IntsAre vs ns → IntsAre (vs ++ [.int k t]) (ns ++ [k])
  | _, _, .nil => .cons k t .nil
  | _, _, .cons n u r => .cons n u (ints_snoc r)
def dueIn (ns : List Int) (key : Str) : Int := Builtin.bitXor (sumIn (bookF ns) key) 4294967295
def dues (ns : List Int) : List Int := abcd.map (dueIn ns)
/-- each of ys is a list of ds -/
def RowsOf (ds : List Int) (ys : List Value) (news : CbLed) : Prop := ∀ y ∈ ys, ∃ (a : Addr) (vs : List Value), y = .ref a ∧ (a, lst vs) ∈ news ∧ IntsAre vs ds
theorem RowsOf.snoc {ds : List Int} {ys : List Value} {news : CbLed} {a : Addr} {vs : List Value} (h : RowsOf ds ys news) (hv : IntsAre vs ds) : RowsOf ds (ys ++ [.ref a]) ((a, lst vs) :: news) := fun y hy => by
  rcases List.mem_append.mp hy with hy | hy
  · obtain ⟨b, ws, e, hm, hw⟩ := h y hy
    exact ⟨b, ws, e, .tail _ hm, hw⟩
  · obtain rfl := List.mem_singleton.mp hy
    exact ⟨a, vs, rfl, .head _, hv⟩
/-- the turns over the four names -/
theorem abcd_ints {prog : Program} {w : World} {A : Around} {s : Shared} {h₀ : Heap} {L : Addr} {m : Str → Option Value} {env : Env} {elt : Expr} {x : Str} {scope : Scope} {cl : List (Str × Addr)} {Fin : List Value → List (Addr × Obj) → Prop} {news : CbLed} (g : Str → Int)
    (turn : ∀ k t I oI C oC D ys m₂ h tk (E' : Value → Shared → Prop), k ∈ abcd → NsObj oC m₂ → m₂ x = some (.str k t) → Fr h₀ L h m → News h₀ L h ((I, oI) :: (C, oC) :: (D, lst ys) :: news) → Off3 I C D news → ((@Ne Nat I C) ∧ (@Ne Nat I D) ∧ (@Ne Nat C D)) →
      wpAny (model prog w) A (eval elt (compEnvC scope cl C env)) (fun y s₂ => ∃ h' tk' u, y = .int (g k) u ∧ s₂ = { s with heap := h', toks := tk' } ∧ Fr h₀ L h' m ∧ News h₀ L h' ((I, oI) :: (C, oC) :: (D, lst ys) :: news)) E' { s with heap := h, toks := tk })
    (fin : ∀ ys, IntsAre ys (abcd.map g) → Fin ys news) : CompRest prog w A h₀ L m env elt x scope cl s (fun _ => True) (SignAt (Str.ofString "abcd")) Fin (Str.ofString "abcd").cps.size 0 [] news := by
  refine rest_inv (fun i ys nw => nw = news ∧ IntsAre ys ((abcd.take i).map g)) ?_ ?_ _ 0 [] news (Nat.zero_add _) ⟨rfl, .nil⟩
  · rintro i ys nw hi ⟨rfl, hI⟩ v I oI C oC D m₂ h tk E' hP hC hx F N off ne
    obtain ⟨k, t, hk, rfl⟩ := sign_abcd hP
    refine wpAny_mono (turn k t I oI C oC D ys m₂ h tk E' (List.mem_of_getElem? hk) hC hx F N off ne) (fun y s₂ hq => ?_) fun _ _ z => z
    obtain ⟨h', tk', u, rfl, rfl, F', N'⟩ := hq
    refine ⟨h', tk', nw, rfl, F', N', off, trivial, rfl, ?_⟩
    rw [List.take_add_one, hk, List.map_append]
    exact ints_snoc hI
  · rintro ys nw ⟨rfl, hI⟩
    exact fin ys (by rwa [List.take_of_length_le (by decide)] at hI)
theorem sums_len : ∀ (ns : List Int) (bs : List (Str × Int)), (ns.foldl putSum bs).length ≤ bs.length + ns.length
  | [], _ => Nat.le_refl _
  | n :: r, bs => by
    refine Nat.le_trans (sums_len r _) ?_
    have := storedI_length bs (keyOf n) (movedF (sumIn bs (keyOf n)) ((n.fdiv 4).fmod 256))
    show (storedI _ _ _).length + _ ≤ bs.length + (r.length + 1)
    omega
theorem book_len (ns : List Int) : (bookF ns).length ≤ ns.length := by have := sums_len ns []; simpa [bookF] using this
theorem book_size {w : World} {f d : Addr} {es : Array DictEntry} {ep : Nat} {kvs : List (Str × Value)} {ns : List Int} (hb : BookAt w (bookO f d es ep) f d kvs) (hs : SumsAre kvs (bookF ns)) : es.size = (bookF ns).length := by
  obtain ⟨es', ep', e, _, hp, _⟩ := hb
  have h1 := hp.length
  have e2 : es = es' := by injection e with _ _ e3; injection e3
  rw [← hs.length, ← h1, e2, Array.length_toList]
end Mine
end
end JSm
section JSn
theorem Mine.fresh_Sn : True := by w_top off; exact trivial
open PySem PySem.W PyProof.Rows PySem.Spec PySem.Calls PyProof.Rows.LCg
set_option maxRecDepth 100000
set_option maxHeartbeats 1000000
noncomputable section
namespace Mine
theorem filledSn : Filled PySem.Challenge.rw_il0125_01 Mine.hd.heap_1_39 := by k_fill; exact True.intro
/-- rows[name] -/
theorem cells_look (k : Str) : ∀ cells : List RC, (∃ c ∈ cells, c.key = k ∧ valueAt (cells.map RC.kv) k = some (.ref c.at_) ∧ rowIn (cells.map RC.pr) k = c.row) ∨ (valueAt (cells.map RC.kv) k = none ∧ rowIn (cells.map RC.pr) k = [])
  | [] => .inr ⟨rfl, rfl⟩
  | c :: r => by
    by_cases e : c.key = k
    · exact .inl ⟨c, .head _, e, by simp [valueAt, RC.kv, e], by simp [rowIn, RC.pr, e]⟩
    · rcases cells_look k r with ⟨c', hm, hk, h1, h2⟩ | ⟨h1, h2⟩
      · exact .inl ⟨c', .tail _ hm, hk, by simpa [valueAt, RC.kv, e] using h1, by simpa [rowIn, RC.pr, e] using h2⟩
      · exact .inr ⟨by simpa [valueAt, RC.kv, e] using h1, by simpa [rowIn, RC.pr, e] using h2⟩
theorem map_off (key : Str) (x : List Int) : ∀ rs : List (Str × List Int), key ∉ rs.map (·.1) → rs.map (fun p => if p.1 = key then (p.1, x) else p) = rs
  | [], _ => rfl
  | p :: r, h => by
    have h1 : ¬ p.1 = key := fun e => h (by rw [List.map_cons, e]; exact .head _)
    rw [List.map_cons, if_neg h1, map_off key x r fun hm => h (.tail _ hm)]
theorem tot_put (key : Str) (x : List Int) : ∀ rs : List (Str × List Int), (rs.map (·.1)).Nodup → (rs.any fun p => p.1 = key) = true →
    ((rs.map fun p => if p.1 = key then (p.1, x) else p).flatMap (·.2)).length + (rowIn rs key).length = (rs.flatMap (·.2)).length + x.length
  | [], _, h => by cases h
  | p :: r, hn, ha => by
    rw [List.map_cons, List.nodup_cons] at hn
    by_cases e : p.1 = key
    · rw [List.map_cons, if_pos e, map_off key x r (by rw [← e]; exact hn.1)]
      have hr : rowIn (p :: r) key = p.2 := by simp [rowIn, e]
      rw [hr, List.flatMap_cons, List.flatMap_cons, List.length_append, List.length_append]
      show x.length + _ + _ = _
      omega
    · have hr : rowIn (p :: r) key = rowIn r key := by simp [rowIn, e]
      have ih := tot_put key x r hn.2 (by simpa [e] using ha)
      rw [List.map_cons, if_neg e, hr, List.flatMap_cons, List.flatMap_cons, List.length_append, List.length_append]
      omega
theorem putRow_ok (rs : List (Str × List Int)) (k : Int) (hn : (rs.map (·.1)).Nodup) : ((putRow rs k).map (·.1)).Nodup ∧ ((putRow rs k).flatMap (·.2)).length = (rs.flatMap (·.2)).length + 1 := by
  unfold putRow
  by_cases h : (rs.any fun p => p.1 = keyOf k) = true
  · rw [if_pos h]
    refine ⟨?_, ?_⟩
    · have e : (rs.map fun p => if p.1 = keyOf k then (p.1, rowIn rs (keyOf k) ++ [(k.fdiv 4).fmod 256]) else p).map (·.1) = rs.map (·.1) := by
        rw [List.map_map]
        refine List.map_congr_left fun p _ => ?_
        show (if _ then _ else _ : Str × List Int).1 = p.1
        split <;> rfl
      rw [e]; exact hn
    · have := tot_put (keyOf k) (rowIn rs (keyOf k) ++ [(k.fdiv 4).fmod 256]) rs hn h
      rw [List.length_append] at this
      have h1 : [(k.fdiv 4).fmod 256].length = 1 := rfl
      omega
  · rw [if_neg h]
    have hno : keyOf k ∉ rs.map (·.1) := fun hm => h (by
      obtain ⟨p, hp, e⟩ := List.mem_map.mp hm
      exact List.any_eq_true.mpr ⟨p, hp, decide_eq_true e⟩)
    have hz : rowIn rs (keyOf k) = [] := by
      unfold rowIn
      rw [List.find?_eq_none.mpr fun p hp e => hno (List.mem_map.mpr ⟨p, hp, of_decide_eq_true e⟩)]
      rfl
    refine ⟨?_, ?_⟩
    · rw [List.map_append]
      refine List.nodup_append.mpr ⟨hn, by simp, fun a ha b hb => ?_⟩
      have : b = keyOf k := by simpa using hb
      rw [this]
      exact fun e => hno (e ▸ ha)
    · rw [hz, List.flatMap_append, List.length_append]; rfl
theorem rows_ok : ∀ (ns : List Int) (rs : List (Str × List Int)), (rs.map (·.1)).Nodup → ((ns.foldl putRow rs).map (·.1)).Nodup ∧ ((ns.foldl putRow rs).flatMap (·.2)).length = (rs.flatMap (·.2)).length + ns.length
  | [], _, h => ⟨h, rfl⟩
  | n :: r, rs, h => by
    obtain ⟨h1, h2⟩ := putRow_ok rs n h
    obtain ⟨h3, h4⟩ := rows_ok r (putRow rs n) h1
    refine ⟨h3, ?_⟩
    rw [List.foldl_cons, h4, h2, List.length_cons]; omega
theorem rows_total (ns : List Int) : ((rowsF ns).flatMap (·.2)).length = ns.length := by have := (rows_ok ns [] .nil).2; simpa [rowsF] using this
theorem row_le {p : Str × List Int} : ∀ {rs : List (Str × List Int)}, p ∈ rs → p.2.length ≤ (rs.flatMap (·.2)).length
  | _ :: _, .head _ => by rw [List.flatMap_cons, List.length_append]; omega
  | q :: r, .tail _ h => by have := row_le h; rw [List.flatMap_cons, List.length_append]; omega
theorem cell_row {cells : List RC} {ns : List Int} (hc : cells.map RC.pr = rowsF ns) {c : RC} (hm : c ∈ cells) : c.row.length ≤ ns.length ∧ ∀ b ∈ c.row, 0 ≤ b ∧ b < 256 := by
  have hp : RC.pr c ∈ rowsF ns := by rw [← hc]; exact List.mem_map_of_mem hm
  exact ⟨by rw [← rows_total ns]; exact row_le hp, rows_bytes ns _ hp⟩
theorem due_row {cells : List RC} {ns : List Int} (hc : cells.map RC.pr = rowsF ns) (k : Str) : dueIn ns k = dividedF (rowIn (cells.map RC.pr) k) := by rw [hc]; exact book_due ns k
end Mine
end
end JSn
section JDk
theorem Mine.fresh_Dk : True := by w_top off; exact trivial
open PySem PySem.W PyProof.Rows PySem.Spec PySem.Calls PyProof.Rows.LCg
set_option maxRecDepth 100000
set_option maxHeartbeats 1000000
noncomputable section
namespace Mine
theorem filledDk : Filled PySem.Challenge.rw_il0125_01 Mine.hd.heap_1_39 := by k_fill; exact True.intro
theorem pairs_at {prog : Program} {w : World} {K : Type} [DecidableEq K] {knd : KeyKind prog w K} : ∀ {es : List DictEntry} {kvs : List (K × Value)}, Pairs knd es kvs → ∀ {i : Nat} {e : DictEntry}, es[i]? = some e → ∃ kv, kvs[i]? = some kv ∧ knd.is kv.1 e.key = true
  | _, _, .nil, _, _, h => by cases h
  | _, _, .cons (e := e0) (kv := kv) h1 _ r, 0, e, h => by
    have he : e0 = e := by simpa using h
    exact ⟨kv, rfl, he ▸ h1⟩
  | _, _, .cons _ _ r, i + 1, e, h => by
    obtain ⟨kv, h1, h2⟩ := pairs_at r (i := i) (e := e) (by simpa using h)
    exact ⟨kv, by simpa using h1, h2⟩
/-- the key at i of the rows -/
theorem cells_key {prog : Program} {w : World} {es : Array DictEntry} {cells : List RC} (hp : Pairs (PySem.strKind prog w) es.toList (cells.map RC.kv)) {i : Nat} {e : DictEntry} (h : es[i]? = some e) : ∃ c t, cells[i]? = some c ∧ e.key = .str c.key t := by
  obtain ⟨kv, h1, h2⟩ := pairs_at hp (i := i) (e := e) (by rw [Array.getElem?_toList]; exact h)
  rw [List.getElem?_map] at h1
  cases hc : cells[i]? with
  | none => rw [hc] at h1; cases h1
  | some c =>
    rw [hc] at h1
    obtain rfl : RC.kv c = kv := by simpa using h1
    obtain ⟨t, ht⟩ := Value.isStrOf_shape h2
    exact ⟨c, t, rfl, ht⟩
theorem cells_val : ∀ {cells : List RC}, ((cells.map RC.kv).map (·.1)).Nodup → ∀ {c : RC}, c ∈ cells → valueAt (cells.map RC.kv) c.key = some (.ref c.at_)
  | c :: r, hn, _, .head _ => by simp [valueAt, RC.kv]
  | c :: r, hn, c', .tail _ h => by
    rw [List.map_cons, List.map_cons, List.nodup_cons] at hn
    have ne : c.key ≠ c'.key := fun e => hn.1 (by rw [show (RC.kv c).1 = (RC.kv c').1 from e]; exact List.mem_map_of_mem (List.mem_map_of_mem h))
    have ih := cells_val hn.2 h
    simpa [valueAt, RC.kv, ne] using ih
theorem cells_row : ∀ {cells : List RC}, ((cells.map RC.kv).map (·.1)).Nodup → ∀ {c : RC}, c ∈ cells → rowIn (cells.map RC.pr) c.key = c.row
  | c :: r, hn, _, .head _ => by simp [rowIn, RC.pr]
  | c :: r, hn, c', .tail _ h => by
    rw [List.map_cons, List.map_cons, List.nodup_cons] at hn
    have ne : c.key ≠ c'.key := fun e => hn.1 (by rw [show (RC.kv c).1 = (RC.kv c').1 from e]; exact List.mem_map_of_mem (List.mem_map_of_mem h))
    have ih := cells_row hn.2 h
    simpa [rowIn, RC.pr, ne] using ih
theorem rows_size {prog : Program} {w : World} {es : Array DictEntry} {cells : List RC} (hp : Pairs (PySem.strKind prog w) es.toList (cells.map RC.kv)) : es.size = cells.length := by
  rw [← Array.length_toList, hp.length, List.length_map]
theorem rows_flat {cells : List RC} {ns : List Int} (hc : cells.map RC.pr = rowsF ns) : (cells.map (·.row)).flatten = (rowsF ns).flatMap (·.2) := by
  rw [← hc, List.flatMap_def, List.map_map]; rfl
theorem rows_cnt {cells : List RC} {ns : List Int} (hc : cells.map RC.pr = rowsF ns) : (bookF ns).length = cells.length := by
  have := congrArg List.length (book_keys ns)
  rw [List.length_map, List.length_map, ← hc, List.length_map] at this
  exact this
theorem list_walks {prog : Program} {w : World} {A : Around} (hh : A.handled = none) {I ax : Addr} (hne : ax ≠ I) {vs : List Value} {ns : List Int} (hi : IntsAre vs ns) : Walks prog w A I [I, ax] [I] ns.length (fun i v => vs.toArray[i]? = some v) (fun i h => h.IsListIter I ax i ∧ h.IsList ax vs.toArray) := by
  have W := Walks.list (prog := prog) (w := w) (A := A) hh I ax hne vs.toArray
  rwa [List.size_toArray, hi.length] at W
theorem ns_not_list {h : Heap} {a : Addr} {m : Str → Option Value} {items : Array Value} (hn : h.Ns a m) (hl : h.IsList a items) : False := by
  obtain ⟨o, es, ep, ho, hd, _⟩ := hn
  obtain ⟨o2, ho2, _, n, hd2⟩ := hl
  rw [ho] at ho2
  cases ho2
  rw [hd] at hd2
  cases hd2
/-- iter of an exact dict -/
theorem dict_iter {prog : Program} {w : World} {A : Around} {s : Shared} {d : Addr} {od : Obj} {es : Array DictEntry} {ep : Nat} {kvs : List (Str × Value)} {Q : Value → Shared → Prop} {E : Value → Shared → Prop} (lo : (d == sysModules) = false) (ho : s.heap.get? d = some od) (hex : od.ExactDict) (hdd : od.data = .dict es ep) (hk : PySem.KeysOf (PySem.strKind prog w) es) (hp : Pairs (PySem.strKind prog w) es.toList kvs) (hn : (kvs.map (·.1)).Nodup)
    (h : Q (.ref s.heap.objs.size) { s with heap := s.heap.push (keyIt d es.size ep) }) : wpAny (model prog w) A (pyIter (.ref d)) Q E s := by
  refine wpAny_pyIter_dict (knd := PySem.strKind prog w) (kvs := kvs) (ep := ep) lo ⟨od, es, ho, hex, hdd, hk, hp, hn⟩ ?_
  have e : kvs.length = es.size := by rw [← hp.length, Array.length_toList]
  rw [e]
  exact h
section
variable {prog : Program} {w : World} {A : Around} {s : Shared} {elt iter2 : Expr} {x y : Str} {scope : Scope} {cl : List (Str × Addr)} {env : Env} {h₀ : Heap} {L : Nat} {m : Str → Option Value} {news : List (Addr × Obj)} {vals : List (List Int)} {s₀ : Shared}
/-- a dict's keys as the outer source of two clauses -/
theorem src2_keys {d : Addr} {od : Obj} {es : Array DictEntry} {ep : Nat} (hh : A.handled = none) (hs : ∃ h tk, s = { s₀ with heap := h, toks := tk }) (F : Fr h₀ L s.heap m) (N : News h₀ L s.heap news) (hm : (d, od) ∈ news) (hdd : od.data = .dict es ep) (hv : vals.length = es.size)
    (inner : ∀ (i : Nat) (row : List Int) (e : DictEntry) (C D : Addr) (ys : List Value) (mC : Str → Option Value) (s₃ : Shared) (E' : Value → Shared → Prop), vals[i]? = some row → es[i]? = some e → (∃ h tk, s₃ = { s₀ with heap := h, toks := tk }) → Fr h₀ L s₃.heap m →
      News h₀ L s₃.heap ((D, lst ys) :: news) → (∀ p ∈ news, p.1 ≠ D) → s₃.heap.Ns C mC → mC x = some e.key →
      wpAny (model prog w) A (eval iter2 (compEnvC scope cl C env)) (fun z s₄ => wpAny (model prog w) A (pyIter z) (fun it2 s₅ =>
        ∃ (I2 : Addr) (fp2 : List Addr) (P2 : Nat → Value → Prop) (St2 : Nat → Heap → Prop), it2 = .ref I2 ∧ Walks prog w A I2 fp2 [I2] row.length P2 St2 ∧ St2 0 s₅.heap ∧ (∃ h tk, s₅ = { s₃ with heap := h, toks := tk }) ∧
          (∀ b o, s₃.heap.get? b = some o → s₅.heap.get? b = some o) ∧ C ∉ fp2 ∧ D ∉ fp2 ∧ s₃.heap.get? I2 = none ∧
          ∀ (j : Nat) (k : Int) (v2 : Value) (mC' : Str → Option Value) (s₆ : Shared) (E'' : Value → Shared → Prop), row[j]? = some k → P2 j v2 → (∃ h tk, s₆ = { s₀ with heap := h, toks := tk }) → Fr h₀ L s₆.heap m → News h₀ L s₆.heap news → s₆.heap.Ns C mC' → mC' x = some e.key → mC' y = some v2 →
            wpAny (model prog w) A (eval elt (compEnvC scope cl C env)) (fun r s₇ => (∃ t, r = .int k t) ∧ (∃ h tk, s₇ = { s₆ with heap := h, toks := tk }) ∧ ∀ b o, s₆.heap.get? b = some o → s₇.heap.get? b = some o) E'' s₆) E' s₄) E' s₃) :
    ∃ I fp P St, Src2 prog w A h₀ L m news elt iter2 x y scope cl env vals s₀ (.ref s.heap.objs.size) { s with heap := s.heap.push (keyIt d es.size ep) } I fp P St := by
  obtain ⟨hh₁, tk₁, rfl⟩ := hs
  dsimp only at F N ⊢
  have hlt : d < hh₁.objs.size := Heap.lt_size (N _ hm).1
  have W := anyKeys (prog := prog) (w := w) (A := A) hh hh₁.objs.size d (Nat.ne_of_lt hlt) od es ep hdd
  rw [show es.size = vals.length from hv.symm] at W
  refine ⟨_, _, _, _, ⟨rfl, W, ⟨⟨_, Heap.get?_push_size _ rfl, rfl, by rw [hv]; rfl⟩, Heap.get?_push_of_some _ (N _ hm).1⟩, fun b hb => ?_, F.push _, fun p hp => ⟨Heap.get?_push_of_some _ (N p hp).1, (N p hp).2⟩, next_is_new F, Nat.ne_of_lt F.ns.lt, fun p hp => Nat.ne_of_lt (Heap.lt_size (N p hp).1), ⟨_, _, rfl⟩, ?_⟩⟩
  · show b < (hh₁.push _).objs.size
    rw [Heap.size_push]
    rcases List.mem_cons.mp hb with rfl | hb
    · exact Nat.lt_succ_self _
    · rw [List.mem_singleton.mp hb]; exact Nat.lt_succ_of_lt hlt
  · rintro i row v C D ys mC s₃ E' hrow ⟨e, he, rfl⟩ hs3 F3 N3 hND hns hmx _
    exact inner i row e C D ys mC s₃ E' hrow he hs3 F3 N3 hND hns hmx
end
end Mine
end
end JDk
section JBq
theorem Mine.fresh_Bq : True := by w_top off; exact trivial
open PySem PySem.W PyProof.Rows PySem.Spec PySem.Calls
set_option maxRecDepth 100000
set_option maxHeartbeats 1000000
noncomputable section
namespace Mine
theorem filledBq : Filled PySem.Challenge.rw_il0125_01 Mine.hd.heap_1_39 := by k_fill; exact True.intro
theorem book_len_m (w : World) : MethOf (Mine.hd.heap_1_39 w.params) 115 (Str.ofString "__len__") "dict.__len__" "dict" "__len__" Builtin.«dict.__len__» where
  fnd := by k_is
  bind := PySem.F.slot_dict_len.bind
  kind := by first | exact .inl (by decide +kernel) | exact .inr (by decide +kernel)
  split := by decide +kernel
  plain := PySem.F.slot_dict_len.plain
  entry := PySem.F.entry_dict_len
  sub := by k_is
section
variable {w : World} {A : Around} {s : Shared} {B f d : Addr} {es : Array DictEntry} {ep : Nat} {od : Obj}
theorem len_book {Q E : Value → Shared → Prop} (X : (Mine.hd.heap_1_39 w.params).In s.heap) (ho : s.heap.get? B = some (bookO f d es ep)) (hd : s.heap.get? d = some od) (hB : (B == sysModules) = false) (hfit : es.size ≤ 1000)
    (h : Q (.int es.size (s.toks + 1)) { s with toks := s.toks + 1 + 1 }) : wpAny (model PW w) A (call (.builtin "len") [.ref B]) Q E s := by
  have I : InstAt s.heap B (bookO f d es ep) 115 (some od) := ⟨ho, rfl, rfl, hd⟩
  refine Calls.call_function_entry kind_len plain_len entry_len (args_len1 _) ?_
  unfold Builtin.«len»
  refine wpAny_bind (m := oneArg "len" _) (wpAny_pure ?_)
  refine wpAny_bind (m := callSpecial? (.ref B) (Str.ofString "__len__")) (sub_special (book_len_m w) X I (PySem.F.args_dict_len_1 _) ?_)
  show wpAny _ _ (dictSize B >>= _) _ _ s
  unfold dictSize
  refine wpAny_bind (wpAny_bind (wpAny_dictEntries ho rfl (wpAny_pure ?_)))
  show wpAny _ _ (Builtin.Dict.pendingCount B >>= _) _ _ s
  refine wpAny_bind (wpAny_pendingCount_other hB ?_)
  rw [show ((es.size : Nat) : Int) + ((0 : Nat) : Int) = es.size from by omega]
  refine wpAny_bind (wpAny_mkInt (wpAny_pure ?_))
  show wpAny _ _ _ _ _ { s with toks := s.toks + 1 }
  refine wpAny_bind (wpAny_holding (wpAny_pure ?_))
  refine wpAny_bind (wpAny_letGo ?_)
  show wpAny _ _ (if ((es.size : Nat) : Int) < 0 then _ else _) _ _ _
  rw [if_neg (by omega)]
  show wpAny _ _ (if ((es.size : Nat) : Int) ≥ 2 ^ 63 then _ else _) _ _ _
  rw [if_neg (by omega)]
  refine wpAny_ret_mkInt ?_
  first | exact h | exact ⟨_, rfl, h⟩
theorem hint_book {Q : Bool → Shared → Prop} {E : Value → Shared → Prop} (X : (Mine.hd.heap_1_39 w.params).In s.heap) (ho : s.heap.get? B = some (bookO f d es ep)) (hd : s.heap.get? d = some od) (hB : (B == sysModules) = false) (hfit : es.size ≤ 1000)
    (h : ∀ b, Q b { s with toks := s.toks + 1 + 1 }) : wpAny (model PW w) A (Builtin.List.listLengthHint (.ref B)) Q E s := by
  have I : InstAt s.heap B (bookO f d es ep) 115 (some od) := ⟨ho, rfl, rfl, hd⟩
  have L1 := looks_findIn (M := model PW w) X (book_len_m w).fnd
  have hi : Looks (model PW w) s.heap (isInstance (.ref B) (.type "dict")) true := (I.type (M := model PW w)).andThen (looks_subIn X (book_len_m w).sub)
  unfold Builtin.List.listLengthHint specialOf
  refine wpAny_bind (wpAny_bind (I.type.here (L1.here ?_)))
  generalize hid : ("dict.__len__" : String) = id0
  wp_delta
  rw [show splitId id0 = some ("dict", "__len__") from by subst hid; decide +kernel]
  subst hid
  refine wpAny_bind (hi.here ?_)
  refine wpAny_ite_split (fun hab => absurd hab (by decide)) (fun _ => ?_)
  refine wpAny_ite_split (fun _ => ?_) (fun hab => absurd (by decide +kernel) hab)
  refine wpAny_bind (I.type.here ?_)
  dsimp only
  refine wpAny_bind (len_book X ho hd hB hfit ?_)
  refine wpAny_bind (wpAny_pure ?_)
  exact wpAny_pure (h _)
abbrev KeyAt (es : Array DictEntry) (i : Nat) (v : Value) : Prop := ∃ e, es[i]? = some e ∧ v = e.key
theorem book_extend {R : Result → Shared → Prop} {h₀ : Heap} (hX : (Mine.hd.heap_1_39 w.params).In h₀) (hk0 : ∀ b o, h₀.get? b = some o → s.heap.get? b = some o) (ho : s.heap.get? B = some (bookO f d es ep)) (hd : s.heap.get? d = some od) (hB : (B == sysModules) = false) (hh : A.handled = none)
    (S : Addr) (hSB : S ≠ B) (res : Value) (c₀ : Nat) (hS : s.heap.get? S = some { cls := .type "list", data := .seq #[] c₀ })
    (hR : ∀ h' tk acc' c', (∀ b o, b ≠ S → s.heap.get? b = some o → h'.get? b = some o) → h'.get? S = some { cls := .type "list", dict := none, data := .seq acc' c', slots := #[] } → ItemsOf (KeyAt es) acc' es.size → R (.ok (.ret res)) { s with heap := h', toks := tk }) (hn : es.size ≤ 1000) :
    wpAny (model PW w) A.in1 (Builtin.List.listExtendWith (.ref S) (.ref B) res)
      (fun fin s' => match fin with | .done f => R (.ok f) s' | .again c' => c'.quiet = true ∧ codeAny (model PW w) A c' R s') (fun e s' => R (.error e) s') s := by
  have hSI : S ≠ s.heap.objs.size := Nat.ne_of_lt (Heap.lt_size hS)
  have hBI : B ≠ s.heap.objs.size := Nat.ne_of_lt (Heap.lt_size ho)
  have hSf : S ∉ [s.heap.objs.size, B] := by simp only [List.mem_cons, List.not_mem_nil, or_false, not_or]; exact ⟨hSI, hSB⟩
  have I : InstAt s.heap B (bookO f d es ep) 115 (some od) := ⟨ho, rfl, rfl, hd⟩
  have W := anyKeys (prog := PW) (w := w) (A := A.in1) hh s.heap.objs.size B hBI (bookO f d es ep) es ep rfl
  have hsz : es.size ≤ sizeLine := by rw [sizeLine_eq]; omega
  have X := hX.keeps hk0
  have key : ∀ (h : Heap) (c₁ tk : Nat), (h.IsKeyIter s.heap.objs.size B 0 es.size ep ∧ h.get? B = some (bookO f d es ep)) → (∀ b o, b ≠ S → s.heap.get? b = some o → h.get? b = some o) →
      h.get? S = some { cls := .type "list", data := .seq #[] c₁ } → codeAny (model PW w) A (.builtin "list.extend.loop" ⟨[.ref S, .ref s.heap.objs.size, res], []⟩) R { s with heap := h, toks := tk } := by
    intro h c₁ tk hst hk hS₁
    refine codeAny_extend_loopS W.toS hsz S hSf res es.size 0 _ #[] c₁ rfl (Nat.zero_le _) hst hS₁ (ItemsOf.nil _) fun s' acc' c' hm hS' hacc => ?_
    rw [Moved.eq_with hm]
    refine hR s'.heap s'.toks acc' c' (fun b o hb e => hm.heap b o (fun hmem => ?_) (hk b o hb e)) hS' hacc
    rcases List.mem_cons.mp hmem with e' | hmem
    · exact hb e'
    · exact absurd (Heap.lt_size e) (by rw [List.mem_singleton.mp hmem]; exact Nat.lt_irrefl _)
  unfold Builtin.List.listExtendWith
  refine wpAny_bind (I.type.here ?_)
  have h1 : Builtin.List.listSameRef (.ref S) (.ref B) = false := by simp [Builtin.List.listSameRef, hSB]
  have h2 : (Value.ref 115 == Value.type "list") = false := rfl
  have h3 : (Value.ref 115 == Value.type "tuple") = false := rfl
  simp only [h1, h2, h3, Bool.or_false, Bool.false_eq_true, if_false]
  refine wpAny_bind (book_iter X ho hd hB ?_)
  have hS₁ := Heap.get?_push_of_some (keyIt B es.size ep) hS
  have X1 : (Mine.hd.heap_1_39 w.params).In (s.heap.push (keyIt B es.size ep)) := hX.keeps fun b o e => Heap.get?_push_of_some _ (hk0 b o e)
  have st : (s.heap.push (keyIt B es.size ep)).IsKeyIter s.heap.objs.size B 0 es.size ep ∧ (s.heap.push (keyIt B es.size ep)).get? B = some (bookO f d es ep) := ⟨⟨_, Heap.get?_push_size _ rfl, rfl, rfl⟩, Heap.get?_push_of_some _ ho⟩
  refine wpAny_bind (wpAny_holding (hint_book (s := { s with heap := s.heap.push (keyIt B es.size ep) }) X1 (Heap.get?_push_of_some _ ho) (Heap.get?_push_of_some _ hd) hB hn fun b => ?_))
  refine wpAny_ite_split (fun _ => ?_) (fun _ => wpAny_pure ⟨plainId_quiet PySem.F.plain_extend_loop _, key _ c₀ _ st (fun b o _ e => Heap.get?_push_of_some _ e) hS₁⟩)
  refine wpAny_bind (wpAny_rule ?_)
  refine wpAny_bind ?_
  show wpAny _ _ (updateSeq S (·.push .none) >>= fun _ => updateSeq S (·.pop)) _ _ _
  refine wpAny_bind (wpAny_updateSeq hS₁ rfl ?_)
  have hS₂ := Heap.get?_update_self (Obj.mapSeq (·.push Value.none)) hS₁ rfl
  refine wpAny_updateSeq (hz := by seq_fits) hS₂ rfl ?_
  have hS₃ := Heap.get?_update_self (Obj.mapSeq (·.pop)) hS₂ rfl
  refine wpAny_pure ⟨plainId_quiet PySem.F.plain_extend_loop _, key _ _ _ ?_ (fun b o hb e => ?_) hS₃⟩
  · refine W.frame 0 _ _ st fun b hb o e => ?_
    have hbS : b ≠ S := fun h => hSf (h ▸ hb)
    exact (Heap.get?_update_other _ _ (Ne.symm hbS)).trans ((Heap.get?_update_other _ _ (Ne.symm hbS)).trans e)
  · exact (Heap.get?_update_other _ _ (Ne.symm hb)).trans ((Heap.get?_update_other _ _ (Ne.symm hb)).trans (Heap.get?_push_of_some _ e))
theorem book_init {R : Result → Shared → Prop} {h₀ : Heap} (hX : (Mine.hd.heap_1_39 w.params).In h₀) (hk0 : ∀ b o, h₀.get? b = some o → s.heap.get? b = some o) (ho : s.heap.get? B = some (bookO f d es ep)) (hd : s.heap.get? d = some od) (hB : (B == sysModules) = false) (hh : A.handled = none)
    (S : Addr) (hSB : S ≠ B) (hSd : S ≠ d) (hS0 : h₀.get? S = none) (hS : s.heap.get? S = some { cls := .type "list", data := .seq #[] })
    (hR : ∀ h' tk acc' c', (∀ b o, b ≠ S → s.heap.get? b = some o → h'.get? b = some o) → h'.get? S = some { cls := .type "list", dict := none, data := .seq acc' c', slots := #[] } → ItemsOf (KeyAt es) acc' es.size → R (.ok (.ret .none)) { s with heap := h', toks := tk }) (hn : es.size ≤ 1000) :
    wpAny (model PW w) A.in1 (Builtin.«list.__init__» ⟨[.ref S, .ref B], []⟩)
      (fun fin s' => match fin with | .done f => R (.ok f) s' | .again c' => c'.quiet = true ∧ codeAny (model PW w) A c' R s') (fun e s' => R (.error e) s') s := by
  show wpAny _ _ (do let old ← Builtin.List.listItems (.ref S); Builtin.List.listUpdate (.ref S) (fun _ => #[]); letGo old.toList.reverse; Builtin.List.listExtendWith (.ref S) (.ref B) .none) _ _ s
  refine wpAny_bind ?_
  unfold Builtin.List.listItems
  refine wpAny_bind (wpAny_seqItems hS rfl (wpAny_pure ?_))
  show wpAny _ _ (updateSeq S (fun _ => #[]) >>= fun _ => letGo (#[] : Array Value).toList.reverse >>= fun _ => Builtin.List.listExtendWith (.ref S) (.ref B) .none) _ _ s
  refine wpAny_bind (wpAny_updateSeq hS rfl ?_)
  have hS₂ := Heap.get?_update_self (Obj.mapSeq (fun _ => (#[] : Array Value))) hS rfl
  have oth : ∀ b o, b ≠ S → s.heap.get? b = some o → (s.heap.update S (Obj.mapSeq (fun _ => (#[] : Array Value)))).get? b = some o :=
    fun b o hb e => (Heap.get?_update_other _ _ (Ne.symm hb)).trans e
  refine wpAny_bind (wpAny_letGo ?_)
  refine book_extend (s := { s with heap := s.heap.update S (Obj.mapSeq (fun _ => (#[] : Array Value))) }) hX (fun b o e => oth b o (fun q => by rw [q, hS0] at e; cases e) (hk0 b o e)) (oth _ _ hSB.symm ho) (oth _ _ hSd.symm hd) hB hh S hSB .none _ hS₂ (fun h' tk acc' c' hk hS' hacc => ?_) hn
  exact hR h' tk acc' c' (fun b o hb e => hk b o hb (oth b o hb e)) hS' hacc
theorem book_call {h₀ : Heap} {Q E : Value → Shared → Prop} (hX : (Mine.hd.heap_1_39 w.params).In h₀) (hk0 : ∀ b o, h₀.get? b = some o → s.heap.get? b = some o) (ho : s.heap.get? B = some (bookO f d es ep)) (hd : s.heap.get? d = some od) (hB : (B == sysModules) = false) (hh : A.handled = none) (hn : es.size ≤ 1000)
    (hQ : ∀ h' tk acc' c', (∀ b o, s.heap.get? b = some o → h'.get? b = some o) → h'.get? s.heap.objs.size = some { cls := .type "list", dict := none, data := .seq acc' c', slots := #[] } → ItemsOf (KeyAt es) acc' es.size → Q (.ref s.heap.objs.size) { s with heap := h', toks := tk }) :
    wpAny (model PW w) A (call (.type "list") [.ref B]) Q E s := by
  refine callType_codes (Q₁ := fun obj s₁ => obj = .ref s.heap.objs.size ∧ s₁ = { s with heap := s.heap.push { cls := .type "list", data := .seq #[] } }) PySem.F.called_list (PySem.F.typeCall_list_1 _) PySem.F.entry_list_init
    (code_list_new _ ⟨rfl, rfl⟩) fun obj s₁ h₁ => ?_
  obtain ⟨rfl, rfl⟩ := h₁
  have hS : (s.heap.push { cls := .type "list", data := .seq #[] }).get? s.heap.objs.size = some { cls := .type "list", data := .seq #[] } := Heap.get?_push_size _ rfl
  have hS0 : h₀.get? s.heap.objs.size = none := by
    cases e : h₀.get? s.heap.objs.size with
    | none => rfl
    | some o => exact absurd (Heap.lt_size (hk0 _ _ e)) (Nat.lt_irrefl _)
  refine ⟨⟨_, hS, rfl⟩, PySem.F.args_list_init_2 _ _, book_init (A := A.in1) (s := { s with heap := s.heap.push { cls := .type "list", data := .seq #[] } }) hX (fun b o e => Heap.get?_push_of_some _ (hk0 b o e)) (Heap.get?_push_of_some _ ho) (Heap.get?_push_of_some _ hd) hB hh _ (Nat.ne_of_gt (Heap.lt_size ho)) (Nat.ne_of_gt (Heap.lt_size hd)) hS0 hS (fun h' tk acc' c' hk hS' hacc => ?_) hn⟩
  exact ⟨rfl, hQ h' tk acc' c' (fun b o e => hk b o (Nat.ne_of_lt (Heap.lt_size e)) (Heap.get?_push_of_some _ e)) hS' hacc⟩
/-- list(book) -/
theorem book_list {h₀ : Heap} {L : Addr} {m : Str → Option Value} {news : List (Addr × Obj)} {Q E : Value → Shared → Prop} (hX : (Mine.hd.heap_1_39 w.params).In h₀) (F : Fr h₀ L s.heap m) (N : News h₀ L s.heap news) (ho : (B, bookO f d es ep) ∈ news) (hd : (d, (od : Obj)) ∈ news) (hB : (B == sysModules) = false) (hh : A.handled = none) (hn : es.size ≤ 1000)
    (h : ∀ (D : Addr) c h' tk (vs : List Value), Fr h₀ L h' m → News h₀ L h' ((D, listOf vs.toArray c) :: news) → (∀ q ∈ news, q.1 < D) → vs.length = es.size → (∀ j v, vs[j]? = some v → KeyAt es j v) → Q (.ref D) { s with heap := h', toks := tk }) :
    wpAny (model PW w) A (call (.type "list") [.ref B]) Q E s :=
  book_call hX F.keep (N _ ho).1 (N _ hd).1 hB hh hn fun h' tk acc' c' hk hD hacc => h _ c' h' tk acc'.toList (F.keeps hk) (news_pushed F N hk (by first | (rw [Array.toArray_toList]; exact hD) | simpa using hD) rfl) (fun q hq => Heap.lt_size (N q hq).1)
    (by rw [Array.length_toList]; exact hacc.1) fun j v e => hacc.2 j v (by rw [← Array.getElem?_toList]; exact e)
end
end Mine
end
end JBq
section JLe
theorem Mine.fresh_Le : True := by w_top off; exact trivial
open PySem PySem.W PyProof.Rows PySem.Spec PySem.Calls PyProof.Rows.LCg PySem.SeqAt
set_option maxRecDepth 100000
set_option maxHeartbeats 1000000
noncomputable section
namespace Mine
theorem filledLe : Filled PySem.Challenge.rw_il0125_01 Mine.hd.heap_1_39 := by k_fill; exact True.intro
theorem strs_get : ∀ {vs : List Value} {ks : List Str}, StrsAre vs ks → ∀ {j : Nat} {v : Value}, vs[j]? = some v → ∃ k t, ks[j]? = some k ∧ v = .str k t
  | _, _, .nil, _, _, h => by cases h
  | _, _, .cons k t r, 0, v, h => ⟨k, t, rfl, by simpa using h.symm⟩
  | _, _, .cons k t r, j + 1, v, h => by
    obtain ⟨k', t', h1, h2⟩ := strs_get r (j := j) (v := v) (by simpa using h)
    exact ⟨k', t', by simpa using h1, h2⟩
theorem strs_of : ∀ {ks : List Str} (vs : List Value), vs.length = ks.length → (∀ (j : Nat) (v : Value), vs[j]? = some v → ∃ k t, ks[j]? = some k ∧ v = .str k t) → StrsAre vs ks
  | [], [], _, _ => .nil
  | k :: r, v :: vs, hl, hv => by
    obtain ⟨k', t, e, rfl⟩ := hv 0 v rfl
    simp only [List.getElem?_cons_zero, Option.some.injEq] at e
    subst e
    exact .cons k t (strs_of vs (by simpa using hl) fun j u hu => by simpa using hv (j + 1) u (by simpa using hu))
  | [], _ :: _, hl, _ => by simp at hl
  | _ :: _, [], hl, _ => by simp at hl
theorem str_eqAt (A : Around) (s : Shared) (k : Str) (t u : Tok) : EqAt A s (.str k t) (.str k u) true := by
  have h := (eq_isStrOf k u (vs := [.str k t]) (ys := [k]) (.cons k t .nil) (.str k t) (.head _)).at A s
  have e : isStrOf k (.str k t) = true := by simp [isStrOf]
  rw [e] at h
  exact h
section
variable {prog : Program} {w : World} {A : Around} {E : Value → Shared → Prop} {s : Shared} {a b : Addr} {xs ys : List Value} {Q : Value → Shared → Prop}
theorem strs_eq {ks : List Str} (ha : s.heap.IsList a xs.toArray) (hb : s.heap.IsList b ys.toArray) (hx : StrsAre xs ks) (hy : StrsAre ys ks) (hu : A.units < cLine) (h : Q (.bool true) s) : wpAny (model prog w) A (compareOp .Eq (.ref a) (.ref b)) Q E s := by
  refine eq_listAt (e := fun _ => true) ha hb (by rw [List.size_toArray, List.size_toArray, hx.len_eq, hy.len_eq]) hu (fun j h1 h2 => ?_) (by rw [List.all_eq_true.mpr fun _ _ => rfl]; exact h)
  obtain ⟨k, t, hk, e1⟩ := strs_get hx (j := j) (v := xs.toArray[j]) (by rw [← List.getElem?_toArray]; exact Array.getElem?_eq_getElem h1)
  obtain ⟨k', u, hk', e2⟩ := strs_get hy (j := j) (v := ys.toArray[j]) (by rw [← List.getElem?_toArray]; exact Array.getElem?_eq_getElem h2)
  rw [hk] at hk'
  obtain rfl : k = k' := Option.some.inj hk'
  rw [e1, e2]
  exact str_eqAt _ _ k t u
/-- a list of lists of ds against a list of one such list -/
theorem rows_eq {ds : List Int} {D : Addr} {vD : List Value} (ha : s.heap.IsList a xs.toArray) (hb : s.heap.IsList b ys.toArray) (hl : xs.length = ys.length) (hx : ∀ x ∈ xs, ∃ (c : Addr) (vs : List Value), x = .ref c ∧ s.heap.IsList c vs.toArray ∧ IntsAre vs ds) (hy : ∀ y ∈ ys, y = .ref D)
    (hD : s.heap.IsList D vD.toArray) (hvD : IntsAre vD ds) (hu : A.units + 66 < cLine) (h : Q (.bool true) s) : wpAny (model prog w) A (compareOp .Eq (.ref a) (.ref b)) Q E s := by
  refine eq_listAt (e := fun _ => true) ha hb (by rw [List.size_toArray, List.size_toArray, hl]) (by omega) (fun j h1 h2 => ?_) (by rw [List.all_eq_true.mpr fun _ _ => rfl]; exact h)
  obtain ⟨c, vs, e1, hc, hvs⟩ := hx xs.toArray[j] (by rw [List.getElem_toArray]; exact List.getElem_mem _)
  have e2 := hy ys.toArray[j] (by rw [List.getElem_toArray]; exact List.getElem_mem _)
  rw [e1, e2]
  by_cases e : c = D
  · rw [e]; exact EqAt.same _
  · refine EqAt.of_refs e fun prog w E Q hq => ?_
    refine ke_eq_ints hc hD hvs hvD (by show A.units + 1 + 64 < cLine; omega) ?_
    rw [decide_eq_true rfl]
    exact hq
end
theorem sums_names {kvs : List (Str × Value)} {bs : List (Str × Int)} (hs : SumsAre kvs bs) : kvs.map (·.1) = bs.map (·.1) := by
  induction hs with
  | nil => rfl
  | cons k i t _ ih => simp only [List.map_cons, ih]
/-- list(book)'s names -/
theorem book_names {w : World} {f d : Addr} {es : Array DictEntry} {ep : Nat} {kvs : List (Str × Value)} {ns : List Int} (hb : BookAt w (bookO f d es ep) f d kvs) (hs : SumsAre kvs (bookF ns)) {vs : List Value} (hl : vs.length = es.size) (hv : ∀ (j : Nat) (v : Value), vs[j]? = some v → KeyAt es j v) : StrsAre vs ((bookF ns).map (·.1)) := by
  obtain ⟨es', ep', e, _, hp, _⟩ := id hb
  have e2 : es = es' := by injection e with _ _ e3; injection e3
  subst e2
  have hk : kvs.map (·.1) = (bookF ns).map (·.1) := by
    exact sums_names hs
  rw [← hk]
  refine strs_of vs (by rw [hl, List.length_map, ← hp.length, Array.length_toList]) fun j v hj => ?_
  obtain ⟨en, he, rfl⟩ := hv j v hj
  obtain ⟨kv, h1, h2⟩ := pairs_at hp (i := j) (e := en) (by rw [Array.getElem?_toList]; exact he)
  obtain ⟨t, ht⟩ := Value.isStrOf_shape h2
  exact ⟨kv.1, t, by rw [List.getElem?_map, h1]; rfl, ht⟩
theorem book_has {kvs : List (Str × Value)} {ns : List Int} {cells : List RC} (hs : SumsAre kvs (bookF ns)) (hc : cells.map RC.pr = rowsF ns) (hn : ((cells.map RC.kv).map (·.1)).Nodup) {c : RC} (hm : c ∈ cells) : ∃ t, valueAt kvs c.key = some (.int (sumOf c.row) t) := by
  have e : sumIn (bookF ns) c.key = sumOf c.row := by rw [book_rows, sumIn_map, ← hc, cells_row hn hm]
  rcases hs.at c.key with ⟨t, h⟩ | ⟨h, _⟩
  · exact ⟨t, by rw [h, e]⟩
  · exfalso
    have hk : c.key ∈ kvs.map (·.1) := by
      rw [sums_names hs, book_keys, ← hc, List.map_map]
      exact List.mem_map.mpr ⟨c, hm, rfl⟩
    obtain ⟨kv, hkv, hke⟩ := List.mem_map.mp hk
    unfold valueAt at h
    cases hf : kvs.find? fun kv => kv.1 = c.key with
    | none => exact absurd (List.find?_eq_none.mp hf kv hkv) (by simp [hke])
    | some x => rw [hf] at h; cases h
/-- list(rows)'s names -/
theorem rows_names {w : World} {cells : List RC} {ns : List Int} (hc : cells.map RC.pr = rowsF ns) {vs : List Value} (hl : vs.length = (cells.map RC.kv).length) (hv : ∀ (j : Nat) (v : Value), vs[j]? = some v → ∃ k x, (cells.map RC.kv)[j]? = some (k, x) ∧ (PySem.strKind PW w).is k v = true) : StrsAre vs ((rowsF ns).map (·.1)) := by
  rw [← hc, List.map_map]
  refine strs_of vs (by rw [hl, List.length_map, List.length_map]) fun j v hj => ?_
  obtain ⟨k, x, h1, h2⟩ := hv j v hj
  obtain ⟨t, ht⟩ := Value.isStrOf_shape h2
  refine ⟨k, t, ?_, ht⟩
  rw [List.getElem?_map] at h1 ⊢
  cases hcj : cells[j]? with
  | none => rw [hcj] at h1; cases h1
  | some c =>
    rw [hcj] at h1
    have : RC.kv c = (k, x) := by simpa using h1
    show some c.key = some k
    rw [show c.key = (RC.kv c).1 from rfl, this]
end Mine
end
end JLe
section JWh
theorem Mine.fresh_Wh : True := by w_top off; exact trivial
open PySem PySem.W PyProof.Rows PySem.Spec PySem.Calls PyProof.Rows.LCg
set_option maxRecDepth 100000
set_option maxHeartbeats 4000000
noncomputable section
namespace Mine
theorem filledWh : Filled PySem.Challenge.rw_il0125_01 Mine.hd.heap_1_39 := by k_fill; exact True.intro
section
variable {w : World} {A : Around} {E : Value → Shared → Prop} {s : Shared} {env : Env} {h₀ : Heap} {target : Expr} {body : List Stmt} {Q : Flow → Shared → Prop}
theorem iter_bookTurns {B f d : Addr} {es : Array DictEntry} {ep : Nat} {od : Obj} {m₀ : Str → Option Value} {news : List (Addr × Obj)}
    (hX : (Mine.hd.heap_1_39 w.params).In h₀) (hh : A.handled = none) (F : Fr h₀ env.locals s.heap m₀) (N : News h₀ env.locals s.heap news) (hm : (B, bookO f d es ep) ∈ news) (hd : (d, od) ∈ news) (hB : (B == sysModules) = false)
    (rest₀ : ∀ I : Addr, (∀ p ∈ news, p.1 < I) → ItemsRest PW w A E h₀ env target body Q s [(I, "dict_keyiterator")] [(B, bookO f d es ep)] ((es.toList.map (·.key)).map .val) m₀ news) :
    wpAny (model PW w) A (pyIter (.ref B)) (fun it s₂ => TurnsAt PW w A h₀ env target body Q E it s₂) E s := by
  have hax := N _ hm
  have hlt : B < s.heap.objs.size := Heap.lt_size hax.1
  have hne : B ≠ s.heap.objs.size := Nat.ne_of_lt hlt
  refine book_iter (hX.keeps F.keep) hax.1 (N _ hd).1 hB ?_
  refine ktu_core (tk0 := s.toks) (keep := [(B, bookO f d es ep)]) (KTurns.ofWalks (anyKeys hh s.heap.objs.size B hne (bookO f d es ep) es ep rfl) fun i v s Q E st q => letGo_keyiter st.1 q) (by simp) (fun i v h hp => ⟨.val v, ?_, rfl⟩) (fun i h st => ?_) (fun b hb => ?_) (fun b hb => by simpa using hb) (fun b hb => ?_) ?_ (fun p hp hI => ?_) ?_ (F.push _) (fun p hp => ⟨Heap.get?_push_of_some _ (N p hp).1, (N p hp).2⟩) (And.intro hm trivial) (rest₀ _ fun p hp => Heap.lt_size (N p hp).1)
  · obtain ⟨e, he, rfl⟩ := hp
    have he' : es[i]? = some e := he
    rw [List.getElem?_map, List.getElem?_map, Array.getElem?_toList, he']; rfl
  · obtain ⟨it, hit, hic, _⟩ := st.1
    exact ⟨[(s.heap.objs.size, it)], ⟨⟨rfl, hic⟩, trivial⟩, fun p hp => by rw [List.mem_singleton.mp hp]; exact hit⟩
  · have hb' : b = s.heap.objs.size := by simpa using hb
    rw [hb']
    exact ⟨List.mem_cons_self .., next_is_new F⟩
  · have hb' : b = s.heap.objs.size ∨ b = B := by simpa using hb
    rcases hb' with e | e
    · exact .inl (by simp [e])
    · exact .inr ⟨bookO f d es ep, by simp [e]⟩
  · intro hI
    rcases List.mem_cons.mp hI with e | hI
    · exact absurd F.ns.lt (e ▸ Nat.lt_irrefl _)
    · exact hax.2.1 (List.mem_singleton.mp hI).symm
  · exact absurd (Heap.lt_size (N p hp).1) ((List.mem_singleton.mp hI) ▸ Nat.lt_irrefl _)
  · exact ⟨⟨_, Heap.get?_push_size _ rfl, rfl, rfl⟩, Heap.get?_push_of_some _ hax.1⟩
end
theorem For_invF {prog : Program} {w : World} {A : Around} {E : Value → Shared → Prop} {Q : Flow → Shared → Prop} {s : Shared} {env : Env} {x : Str} {px pos : Pos} {iter : Expr} {body : List Stmt} {h₀ : Heap} {m : Str → Option Value} (_F : Fr h₀ env.locals s.heap m) (hx : env.kindOf x = some .local)
    (hp : (env.scope.kind == .class || (env.scope.kind == .module && env.locals != env.globals)) = false)
    (h : wpAny (model prog w) A (eval iter env) (fun xv s₁ => wpAny (model prog w) A (pyIter xv) (fun it s₂ => LoopAtV prog w A h₀ env x body Q E it s₂) E s₁) E s)
    (hs : ∀ x, foldedSetIterable iter env x = pure x := by intro _; rfl)
    (hE : PassesOwn (model prog w) A env E := by passes_own) :
    wpAny (model prog w) A (exec (.For (.Name x px) iter body [] pos) env) Q E s := For_invV h₀ hx hp h hs hE
theorem moved_fold : ∀ (ks : List Int) (t : Int), ks.foldl (fun a _ => movedF a 0) t = movedBy ks.length t
  | [], _ => rfl
  | _ :: r, t => moved_fold r (movedF t 0)
theorem lookup_two (y a b : Str) (u v : Value) : List.lookup y [(a, u), (b, v)] = if y = a then some u else if y = b then some v else none := by
  by_cases h1 : y = a
  · rw [if_pos h1, h1]; simp [List.lookup]
  · rw [if_neg h1]
    have e1 : (y == a) = false := by simpa using h1
    by_cases h2 : y = b
    · rw [if_pos h2]; subst h2; simp [List.lookup, e1]
    · rw [if_neg h2]
      have e2 : (y == b) = false := by simpa using h2
      simp [List.lookup, e1, e2]
theorem whole_walk (w : World) (mean : ExcName → Option Value) (mg mb : Str → Option Value) (news : CbLed) (B f d DR : Addr) (odR : Obj) (es : Array DictEntry) (ep : Nat) (od : Obj) (kvs : List (Str × Value)) (cells : List RC) (ns : List Int)
  (dp un : Nat) (gd : Option (List Code)) (cn : Str) (cs : Scope) (a : Addr) (ccd : Value) (cl : List (Str × Addr)) (outer : List Env) (A₀ : Around) (base h₀ : Heap) (L : Addr) (m : Str → Option Value) (s : Shared) (Q E : Value → Shared → Prop)
  (hB : Below A₀ base outer h₀) (hF : Fr h₀ L s.heap m) (hX : (Mine.hd.heap_1_39 w.params).In h₀) (hN : News h₀ L s.heap ((B, bookO f d es ep) :: (DR, odR) :: news)) (hT : Top topProg LO mean mg mb h₀) (hcs : cs.kind = .function) (hdp : dp ≤ 400) (hun : un ≤ 4000)
  (hbk : BookAt w (bookO f d es ep) f d kvs) (hsum : SumsAre kvs (bookF ns)) (hd : (d, od) ∈ news) (hBs : (B == sysModules) = false)
  (hDRs : (DR == sysModules) = false) (hodR : Obj.IsDictOf (PySem.strKind PW w) odR (cells.map RC.kv)) (hcells : cells.map RC.pr = rowsF ns) (hcv : ∀ c ∈ cells, IntsAre c.vs c.row) (hrcm : ∀ c ∈ cells, RC.led c ∈ news) (hlen : ns.length ≤ 11)
  (hret : ∀ h' tk' t, Fr h₀ L h' m → News h₀ L h' ((B, bookO f d es ep) :: (DR, odR) :: news) → Q (.int ((rowsF ns).foldl wholeStep 0) t) { s with heap := h', toks := tk' }) :
  wpAny (model PySem.Challenge.pw_il0125_01 w) (ktrTop dp un gd cn cs L a ccd cl outer) (call (.ref 253) [.ref B, .ref DR]) Q E s := by
  k_with_none
  have hnR : ((cells.map RC.kv).map (·.1)).Nodup := by obtain ⟨_, _, _, _, _, _, h⟩ := hodR; exact h
  have hkeys : StrsAre (es.toList.map (·.key)) (cells.map (·.key)) := by
    have h1 := book_names hbk hsum (vs := es.toList.map (·.key)) (by simp) (fun j v hj => by
      rw [List.getElem?_map, Array.getElem?_toList] at hj
      cases he : es[j]? with
      | none => rw [he] at hj; cases hj
      | some e => rw [he] at hj; exact ⟨e, he, (Option.some.inj hj).symm⟩)
    rw [book_keys, ← hcells, List.map_map] at h1
    exact h1
  refine wpAny_call ?_
  cell_enter
  repeat' ((fail_if_success (with_reducible show wpAny _ _ (execs (Stmt.For _ _ _ _ _ :: _) _) _ _ _)); (first | walk1 | (dsimp only; walk1)))
  (with_reducible refine wpAny_execs_cons ?_)
  rename Fr _ _ _ _ => F6
  obtain ⟨tt, F7⟩ : ∃ tt : Tok, Fr _ _ _ (fun y => if y = Str.ofString "total" then some (.int 0 tt) else if y = Str.ofString "rows" then some (.ref DR) else if y = Str.ofString "book" then some (.ref B) else none) := ⟨_, fr_map F6 (fun y => by
    by_cases e0 : y = Str.ofString "total"
    · rw [if_pos e0, if_pos e0]
    · rw [if_neg e0, if_neg e0]
      refine Eq.trans ?_ (lookup_two y _ _ _ _)
      with_unfolding_all rfl)⟩
  clear F6
  with_unfolding_all refine' For_turns F7 ?_
  iterate 1 (first | walk1 | (dsimp only; walk1))
  rename News _ _ _ _ => N7
  refine' iter_bookTurns (by assumption) rfl F7 N7 (.head _) (.tail _ (.tail _ hd)) hBs ?_
  intro I hI
  refine val_ind (fun bs m' n' => ∃ (dn zs : List RC) (t : Tok), StrsAre bs (zs.map (·.key)) ∧ cells = dn ++ zs ∧
      (∃ v1 v2 : Option Value, ∀ y, m' y = if y = Str.ofString "turn" then v2 else if y = Str.ofString "name" then v1 else if y = Str.ofString "total" then some (.int ((dn.map RC.pr).foldl wholeStep 0) t) else if y = Str.ofString "rows" then some (.ref DR) else if y = Str.ofString "book" then some (.ref B) else none) ∧
      n' = (B, bookO f d es ep) :: (DR, odR) :: news) ?step ?done _ _ _ ?init
  case init =>
    refine ⟨[], cells, tt, hkeys, rfl, ⟨none, none, fun y => ?_⟩, rfl⟩
    by_cases e1 : y = Str.ofString "turn"
    · subst e1; first | rfl | with_unfolding_all rfl
    by_cases e2 : y = Str.ofString "name"
    · subst e2; first | rfl | with_unfolding_all rfl
    rw [if_neg e1, if_neg e2]
    rfl
  case step =>
    intro v r m' n' hinv h9 tk9 F9
    obtain ⟨dn, zs, t, hints, hnz, ⟨v1, v2, hm⟩, rfl⟩ := hinv
    cases zs with
    | nil => cases hints
    | cons c zs' =>
    rw [List.map_cons] at hints
    cases hints with
    | cons _ tkk hints' =>
    have F8 := fr_map F9 hm
    clear F9 F7 N7
    ktu_objs
    rename Obj => oI
    rename News _ _ _ _ => N8
    have hcm : c ∈ cells := by rw [hnz]; exact List.mem_append.mpr (.inr (.head _))
    have hcl : c.vs.length ≤ 11 := by rw [(hcv c hcm).length]; exact Nat.le_trans (cell_row hcells hcm).1 hlen
    replace N8 : News _ _ _ ((I, oI) :: (B, bookO f d es ep) :: (DR, odR) :: (c.at_, listOf c.vs.toArray 0) :: news) := fun p hp => N8 p (by
      rcases List.mem_cons.mp hp with rfl | hp
      · exact .head _
      rcases List.mem_cons.mp hp with rfl | hp
      · exact .tail _ (.head _)
      rcases List.mem_cons.mp hp with rfl | hp
      · exact .tail _ (.tail _ (.head _))
      rcases List.mem_cons.mp hp with rfl | hp
      · exact mt3 (hrcm c hcm)
      · exact mt3 hp)
    repeat' ((fail_if_success (with_reducible show wpAny _ _ (execs (Stmt.For _ _ _ _ _ :: _) _) _ _ _)); (first | walk1 | (dsimp only; walk1)))
    (with_reducible refine wpAny_execs_cons ?_)
    rename Fr _ _ _ _ => F9
    refine For_invF F9 (by rfl) (by rfl) ?_
    repeat' ((fail_if_success (with_reducible show wpAny _ _ (subscriptTail _ _ _ _) _ _ _)); (first | walk1 | (dsimp only; walk1)))
    rename News _ _ _ _ => N9
    refine kda_item N9 (.tail _ (.tail _ (.head _))) hodR (strKind_is _ _ _ _) (cells_val hnR hcm) ?_
    repeat' ((fail_if_success (with_reducible show wpAny _ _ (pyIter _) _ _ _)); (first | walk1 | (dsimp only; walk1)))
    refine call_len_list (News.isList N9 (mt3 (.head _))) (by rw [List.size_toArray]; omega) ?_
    rw [show ((c.vs.toArray.size : Nat) : Int) = (c.row.length : Int) from by rw [List.size_toArray, (hcv c hcm).length]]
    have hrl : c.row.length ≤ 11 := Nat.le_trans (cell_row hcells hcm).1 hlen
    repeat' ((fail_if_success (with_reducible show wpAny _ _ (pyIter _) _ _ _)); (first | walk1 | (dsimp only; walk1)))
    rename Fr _ _ _ _ => FA
    rename News _ _ _ _ => NA
    rename IsRange _ _ _ _ _ _ _ _ => hRg
    try clear F8 N8
    refine iter_rangeS (n := c.row.length) (fun (av : Int) m₁ nx => (∃ (v : Option Value) (u : Tok), ∀ y, m₁ y = if y = Str.ofString "turn" then v else if y = Str.ofString "name" then some (.str c.key tkk) else if y = Str.ofString "total" then some (.int av u) else if y = Str.ofString "rows" then some (.ref DR) else if y = Str.ofString "book" then some (.ref B) else none) ∧ nx = (I, oI) :: (B, bookO f d es ep) :: (DR, odR) :: (c.at_, listOf c.vs.toArray 0) :: news)
      (fun av _ => movedF av 0) ((dn.map RC.pr).foldl wholeStep 0) (by exact rfl) hRg ?hsm ?hsz FA NA ?init ?turn ?fin
    case hsm =>
      exact small_one (by decide) (by decide) (by omega) (by omega)
    case hsz =>
      rw [rangeSize_nat]; omega
    case init =>
      refine ⟨⟨v2, t, fun y => ?_⟩, rfl⟩
      by_cases e1 : y = Str.ofString "name"
      · subst e1; first | rfl | with_unfolding_all rfl
      by_cases e2 : y = Str.ofString "turn"
      · subst e2; first | rfl | with_unfolding_all rfl
      rw [if_neg e1, if_neg e2, if_neg e1, if_neg e2, if_neg e1]
    case turn =>
      rintro k tk2 av m₁ nx h10 tk10 own hk hoff ⟨⟨v, u, hm1⟩, rfl⟩ F10 N10
      have F11 := fr_map (m' := fun y => if y = Str.ofString "turn" then some (.int k tk2) else if y = Str.ofString "name" then some (.str c.key tkk) else if y = Str.ofString "total" then some (.int av u) else if y = Str.ofString "rows" then some (.ref DR) else if y = Str.ofString "book" then some (.ref B) else none) F10 (fun y => by
        by_cases e2 : y = Str.ofString "turn"
        · rw [if_pos e2, if_pos e2]
        · rw [if_neg e2, if_neg e2, hm1 y, if_neg e2])
      clear F10 FA NA
      repeat' ((fail_if_success (with_reducible show wpAny _ _ (call (Value.ref _) _) _ _ _)); (first | walk1 | (dsimp only; walk1)))
      have cm := moved_cb w mean mg mb
      unfold CbC at cm
      dsimp only [Clm, CbLists, CbRet] at cm
      refine cm _ av u 0 _ _ _ _ _ _ _ _ _ _ _ _ _ _ _ _ _ _ (by assumption) F11 (by assumption) N10 (by assumption) ?hcs trivial ?hdp ?hun ?_
      case hcs => rfl
      case hdp => ktr_room
      case hun =>
        refine Nat.lt_of_le_of_lt (show _ ≤ 4043 from ?_) (Nat.le_of_ble_eq_true rfl)
        show un + 3 + 40 ≤ 4043
        omega
      intro t5 h5 tk5 F5 N5
      repeat' ((show wpAny _ _ _ _ _ _); (first | walk1 | (dsimp only; walk1)))
      rename Fr _ _ _ _ => FB
      rename News _ _ _ _ => NB
      refine ⟨_, _, _, _, (I, oI) :: (B, bookO f d es ep) :: (DR, odR) :: (c.at_, listOf c.vs.toArray 0) :: news, rfl, FB, NB, fun p hp => List.mem_append.mpr (.inl hp), fun p hp => List.mem_append.mpr (.inr hp), rfl, ⟨some (.int k tk2), t5, fun y => ?_⟩, rfl⟩
      dsimp only
      by_cases e1 : y = Str.ofString "total"
      · subst e1; first | rfl | with_unfolding_all rfl
      simp only [if_neg e1]
    case fin =>
      rintro m₁ nx h10 tk10 ⟨⟨v, u, hm1⟩, rfl⟩ F10 N10
      rw [moved_fold, rangeKs_length] at hm1
      have F11 := fr_map F10 hm1
      clear F10 FA NA
      dsimp only
      repeat' ((fail_if_success (with_reducible show wpAny _ _ (subscriptTail _ _ _ _) _ _ _)); (first | walk1 | (dsimp only; walk1)))
      obtain ⟨tv, hval⟩ := book_has hsum hcells hnR hcm
      have X11 : (Mine.hd.heap_1_39 w.params).In h10 := Frag.In.keeps (by assumption) F11.keep
      have hdm : (d, od) ∈ (I, oI) :: (B, bookO f d es ep) :: (DR, odR) :: (c.at_, listOf c.vs.toArray 0) :: news := mt4 hd
      refine sub_B (B := B) X11 (book_inst hbk (N10 _ (.tail _ (.head _))).1 (N10 _ hdm).1) ?_
      refine book_get X11 hbk (N10 _ (.tail _ (.head _))).1 (N10 _ hdm).1 (strKind_is _ _ _ _) hval ?_
      repeat' ((show wpAny _ _ _ _ _ _); (first | walk1 | (dsimp only; walk1)))
      rename Fr _ _ _ _ => FB
      rename News _ _ _ _ => NB
      have e32 : (2 ^ Int.toNat 32 - 1 : Int) = 4294967295 := by decide
      have hE : Builtin.bitXor (Builtin.bitXor (movedBy c.row.length ((dn.map RC.pr).foldl wholeStep 0)) (sumOf c.row)) (2 ^ Int.toNat 32 - 1) = ((dn ++ [c]).map RC.pr).foldl wholeStep 0 := by
        rw [e32, List.map_append, List.foldl_append]; rfl
      obtain ⟨tq, FC⟩ : ∃ tq : Tok, Fr _ _ _ (fun y => if y = Str.ofString "turn" then v else if y = Str.ofString "name" then some (.str c.key tkk) else if y = Str.ofString "total" then some (.int (((dn ++ [c]).map RC.pr).foldl wholeStep 0) tq) else if y = Str.ofString "rows" then some (.ref DR) else if y = Str.ofString "book" then some (.ref B) else none) := ⟨_, fr_map FB (fun y => by
        by_cases e1 : y = Str.ofString "total"
        · have n1 : ¬ y = Str.ofString "turn" := by rw [e1]; decide
          have n2 : ¬ y = Str.ofString "name" := by rw [e1]; decide
          rw [if_pos e1, if_neg n1, if_neg n2, if_pos e1]
          exact congrArg (fun z => some (Value.int z _)) hE
        · simp only [if_neg e1])⟩
      refine ⟨_, _, _, (B, bookO f d es ep) :: (DR, odR) :: news, rfl, FC, fun p hp => NB p ?n1, ?n2, ⟨.head _, trivial⟩, dn ++ [c], zs', tq, hints', by rw [hnz]; simp, ⟨some (.str c.key tkk), v, fun y => rfl⟩, rfl⟩
      case n1 =>
        rcases List.mem_cons.mp hp with rfl | hp
        · exact .head _
        rcases List.mem_cons.mp hp with rfl | hp
        · exact .tail _ (.head _)
        rcases List.mem_cons.mp hp with rfl | hp
        · exact .tail _ (.tail _ (.head _))
        · exact mt4 hp
      case n2 =>
        intro p hp q hq
        obtain rfl := List.mem_singleton.mp hq
        exact Nat.ne_of_lt (hI p hp)
  case done =>
    rintro m' n' ⟨dn, zs, t, hints, hnz, ⟨v1, v2, hm⟩, rfl⟩ h9 tk9 F9 N9
    cases zs with
    | cons _ _ => cases hints
    | nil =>
    obtain rfl : cells = dn := by rw [hnz, List.append_nil]
    rw [hcells] at hm
    have F8 := fr_map F9 hm
    clear F9 F7 N7
    show wpAny _ _ _ _ _ _
    repeat' ((show wpAny _ _ _ _ _ _); (first | walk1 | (dsimp only; walk1)))
    dsimp only
    repeat' (first | walk1 | (dsimp only; walk1))
    rename Fr h₀ L _ m => kF
    rename News h₀ L _ _ => kN
    exact hret _ _ _ kF kN
end Mine
end
end JWh
section JLw
theorem Mine.fresh_Lw : True := by w_top off; exact trivial
open PySem PySem.W PyProof.Rows PySem.Spec PySem.Calls PyProof.Rows.LCg
set_option maxRecDepth 100000
set_option maxHeartbeats 4000000
noncomputable section
namespace Mine
theorem filledLw : Filled PySem.Challenge.rw_il0125_01 Mine.hd.heap_1_39 := by k_fill; exact True.intro
theorem news_drop4 {h₀ h : Heap} {L : Addr} {a b c d : Addr × Obj} {rest : List (Addr × Obj)} (N : News h₀ L h (a :: b :: c :: d :: rest)) : News h₀ L h (a :: rest) := fun p hp => N p (by
  rcases List.mem_cons.mp hp with rfl | hp
  · exact .head _
  · exact .tail _ (.tail _ (.tail _ (.tail _ hp))))
theorem news_neN {h₀ h : Heap} {L : Addr} {a b : Addr} {oa ob : Obj} {news : List (Addr × Obj)} (N : News h₀ L h news) (ha : (a, oa) ∈ news) (hb : (b, ob) ∈ news) (hne : oa.data ≠ ob.data) : @Ne Nat a b := fun e => by
  have h1 := (N _ ha).1
  have h2 := (N _ hb).1
  dsimp only at h1 h2
  have e' : a = b := e
  rw [e', h2] at h1
  exact hne (by rw [Option.some.inj h1])
theorem law_walk : PySem.Challenge.rw_il0125_01.Holds := hd._proof_1_548 (by
  k_go0
  all_goals try k_fold
  repeat' ((fail_if_success (with_reducible show wpAny _ _ (execs (Stmt.Assign [Expr.Name (Str.ofString "rows") _] _ _ :: _) _) _ _ _)); (first | walk1 | (dsimp only; walk1)))
  rename Fr _ _ _ _ => F1
  rename News _ _ _ _ => N1
  rename_i DN hN tkN o1N
  rename IntsAre _ (List.map _ _) => hI1
  rename List Value => ysN
  rename World => w
  rename Shared => s1
  rename List Int => script
  have hlen : (List.map (fun k' : Int => k'.fmod 4096) ([1344, 301, 1020] ++ List.take 8 script)).length ≤ 11 := by
    rw [List.length_map, List.length_append, List.length_take]; show 3 + _ ≤ 11; omega
  have hrng : ∀ n ∈ List.map (fun k' : Int => k'.fmod 4096) ([1344, 301, 1020] ++ List.take 8 script), 0 ≤ n ∧ n < 4096 := fun n hn => by
    obtain ⟨k, _, rfl⟩ := List.mem_map.mp hn
    exact ⟨Int.fmod_nonneg_of_pos _ (by decide), Int.fmod_lt_of_pos _ (by decide)⟩
  generalize List.map (fun k' : Int => k'.fmod 4096) ([1344, 301, 1020] ++ List.take 8 script) = ns at hI1 hlen hrng
  obtain ⟨c3, c2, c1, hc3, hc2, hc1, N1⟩ : ∃ c3 c2 c1 : Obj, c3.data = .cell none ∧ c2.data = .cell none ∧ c1.data = .cell none ∧ News _ _ _ [(DN, lst ysN), (s1.heap.objs.size + 1 + 1 + 1, c3), (s1.heap.objs.size + 1 + 1, c2), (s1.heap.objs.size + 1, c1), (107, tabObj #[]), (236, tabObj #[])] :=
    ⟨_, _, _, by assumption, by assumption, by assumption, news_drop4 N1⟩
  repeat' ((fail_if_success (with_reducible show wpAny _ _ (call (Value.ref _) _) _ _ _)); (first | walk1 | (dsimp only; walk1)))
  refine rows_walk w _ _ _ _ DN ysN ns (lst ysN) (.head _) rfl ⟨_, rfl⟩ hI1 hlen hrng _ _ _ _ _ _ _ _ _ _ (base := _) _ _ _ _ _ _ (by assumption) F1 (by assumption) N1 (by assumption) ?hcs ?hdp ?hun ?_
  case hcs => rfl
  case hdp => decide
  case hun => decide
  intro h2 tk2 DR odR cells F2 N2 hDR hDRs hodR hcells hcv
  replace N2 : News _ _ _ ((DR, odR) :: (DN, lst ysN) :: (s1.heap.objs.size + 1 + 1 + 1, c3) :: (s1.heap.objs.size + 1 + 1, c2) :: (s1.heap.objs.size + 1, c1) :: (107, tabObj #[]) :: (236, tabObj #[]) :: cells.map RC.led) := fun p hp => N2 p (by
    rcases List.mem_cons.mp hp with rfl | hp
    · exact .head _
    refine .tail _ (List.mem_append.mpr ?_)
    rcases List.mem_cons.mp hp with rfl | hp
    · exact .inr (.head _)
    rcases List.mem_cons.mp hp with rfl | hp
    · exact .inr (.tail _ (.head _))
    rcases List.mem_cons.mp hp with rfl | hp
    · exact .inr (.tail _ (.tail _ (.head _)))
    rcases List.mem_cons.mp hp with rfl | hp
    · exact .inr (.tail _ (.tail _ (.tail _ (.head _))))
    rcases List.mem_cons.mp hp with rfl | hp
    · exact .inr (.tail _ (.tail _ (.tail _ (.tail _ (.head _)))))
    rcases List.mem_cons.mp hp with rfl | hp
    · exact .inr (.tail _ (.tail _ (.tail _ (.tail _ (.tail _ (.head _))))))
    · exact .inl hp)
  have hrc : OwnOff (cells.map RC.led) [s1.heap.objs.size + 1 + 1 + 1, s1.heap.objs.size + 1 + 1, s1.heap.objs.size + 1, 107, 236] := by
    intro p hp b hb
    obtain ⟨c, hc, rfl⟩ := List.mem_map.mp hp
    have hm : RC.led c ∈ (DR, odR) :: (DN, lst ysN) :: (s1.heap.objs.size + 1 + 1 + 1, c3) :: (s1.heap.objs.size + 1 + 1, c2) :: (s1.heap.objs.size + 1, c1) :: (107, tabObj #[]) :: (236, tabObj #[]) :: cells.map RC.led := .tail _ (.tail _ (.tail _ (.tail _ (.tail _ (.tail _ (.tail _ hp))))))
    intro e
    have h1 := (N2 _ hm).1
    rw [e] at h1
    rcases List.mem_cons.mp hb with rfl | hb
    · rw [(N2 _ (.tail _ (.tail _ (.head _)))).1] at h1
      have := congrArg Obj.data (Option.some.inj h1); rw [hc3] at this; cases this
    rcases List.mem_cons.mp hb with rfl | hb
    · rw [(N2 _ (.tail _ (.tail _ (.tail _ (.head _))))).1] at h1
      have := congrArg Obj.data (Option.some.inj h1); rw [hc2] at this; cases this
    rcases List.mem_cons.mp hb with rfl | hb
    · rw [(N2 _ (.tail _ (.tail _ (.tail _ (.tail _ (.head _)))))).1] at h1
      have := congrArg Obj.data (Option.some.inj h1); rw [hc1] at this; cases this
    rcases List.mem_cons.mp hb with rfl | hb
    · rw [(N2 _ (.tail _ (.tail _ (.tail _ (.tail _ (.tail _ (.head _))))))).1] at h1
      have := congrArg Obj.data (Option.some.inj h1); cases this
    obtain rfl := List.mem_singleton.mp hb
    rw [(N2 _ (.tail _ (.tail _ (.tail _ (.tail _ (.tail _ (.tail _ (.head _)))))))).1] at h1
    have := congrArg Obj.data (Option.some.inj h1); cases this
  have hrcm : ∀ c ∈ cells, RC.led c ∈ cells.map RC.led := fun c hc => List.mem_map_of_mem hc
  generalize hrcd : cells.map RC.led = rc at N2 hrc hrcm
  obtain ⟨esR, epR, hexR, hdR, hkR, hpR, hnR⟩ := id hodR
  have m0 : (DR, odR) ∈ (DR, odR) :: (DN, lst ysN) :: (s1.heap.objs.size + 1 + 1 + 1, c3) :: (s1.heap.objs.size + 1 + 1, c2) :: (s1.heap.objs.size + 1, c1) :: (107, tabObj #[]) :: (236, tabObj #[]) :: rc := .head _
  have nR3 := news_neN N2 m0 (.tail _ (.tail _ (.head _))) (by rw [hdR, hc3]; intro e; cases e)
  have nR2 := news_neN N2 m0 (.tail _ (.tail _ (.tail _ (.head _)))) (by rw [hdR, hc2]; intro e; cases e)
  have nR1 := news_neN N2 m0 (.tail _ (.tail _ (.tail _ (.tail _ (.head _))))) (by rw [hdR, hc1]; intro e; cases e)
  have nRa := news_neN N2 m0 (.tail _ (.tail _ (.tail _ (.tail _ (.tail _ (.head _)))))) (by rw [hdR]; intro e; cases e)
  have nRb := news_neN N2 m0 (.tail _ (.tail _ (.tail _ (.tail _ (.tail _ (.tail _ (.head _))))))) (by rw [hdR]; intro e; cases e)
  have m1 : (DN, lst ysN) ∈ (DR, odR) :: (DN, lst ysN) :: (s1.heap.objs.size + 1 + 1 + 1, c3) :: (s1.heap.objs.size + 1 + 1, c2) :: (s1.heap.objs.size + 1, c1) :: (107, tabObj #[]) :: (236, tabObj #[]) :: rc := .tail _ (.head _)
  have nN3 := news_neN N2 m1 (.tail _ (.tail _ (.head _))) (by rw [hc3]; intro e; cases e)
  have nN2 := news_neN N2 m1 (.tail _ (.tail _ (.tail _ (.head _)))) (by rw [hc2]; intro e; cases e)
  have nN1 := news_neN N2 m1 (.tail _ (.tail _ (.tail _ (.tail _ (.head _))))) (by rw [hc1]; intro e; cases e)
  have nNa := news_neN N2 m1 (.tail _ (.tail _ (.tail _ (.tail _ (.tail _ (.head _)))))) (by intro e; cases e)
  have nNb := news_neN N2 m1 (.tail _ (.tail _ (.tail _ (.tail _ (.tail _ (.tail _ (.head _))))))) (by intro e; cases e)
  have nRN := news_neN N2 m0 m1 (by rw [hdR]; intro e; cases e)
  clear m0 m1
  walk1
  rename Obj => c1
  rename Obj.data _ = Data.cell (some (Value.ref DR)) => hc1
  repeat' ((fail_if_success (with_reducible show wpAny _ _ (eval (Expr.ListComp _ _ _ _) _) _ _ _)); (first | walk1 | (dsimp only; walk1)))
  rename Fr _ _ _ _ => F3
  rename News _ _ _ _ => N3
  refine LCg.ListComp_U (F₀ := F3) (by with_unfolding_all rfl) (by decide) (by rfl) (by decide) (by rfl) ?_
  walk1
  refine CompSrc.ledger rfl F3 N3 (.tail _ (.head _)) (by rw [List.size_toArray, hI1.length, PySem.sizeLine_eq]; omega) (fun g => kct_list lineF hI1 ?turn ?fin)
  case turn =>
    have cl0 := line_cb w
    unfold CbC at cl0
    dsimp only [Clm, CbLists, CbRet] at cl0
    intro k t I oI C oC D m2 ys h tk E' hk hC hx F N off ne _
    repeat' ((fail_if_success (with_reducible show wpAny _ _ (call (Value.ref _) _) _ _ _)); (first | walk1 | (dsimp only; walk1)))
    refine cl0 _ _ _ _ k t _ _ _ _ _ _ _ _ _ _ _ _ _ _ _ _ _ (by assumption) F (by assumption) N (by assumption) ?hcs (hrng k hk) ?hdp ?hun ?_
    case hcs => rfl
    case hdp => decide
    case hun => decide
    intro t' h' tk' F' N'
    exact ⟨h', tk', _, rfl, F', N', off, .inr ⟨_, .tail _ (.head _), rfl, _, rfl⟩, rfl, t', rfl⟩
  case fin =>
    intro ysL hysL hLl
    have hysS : StrsAre ysL (ns.map lineF) := CarriedAll.strsOf (f := lineF) (as := ns) hysL
    clear hysL hLl
    repeat' ((fail_if_success (with_reducible show wpAny _ _ (call (Value.ref _) _) _ _ _)); (first | walk1 | (dsimp only; walk1)))
    rename Fr _ _ _ _ => F4
    rename News _ _ _ _ => N4
    rename_i DL hL tkL o1L
    have l0 : 107 < s1.heap.objs.size ∧ 236 < s1.heap.objs.size := by assumption
    refine book_walk w _ _ _ ((DL, lst ysL) :: (DR, odR) :: (DN, lst ysN) :: (s1.heap.objs.size + 1 + 1 + 1, c3) :: (s1.heap.objs.size + 1 + 1, c2) :: (s1.heap.objs.size + 1, c1) :: rc) DL ysL (lst ysL) (.head _) ns hysS hrng hlen rfl ⟨_, rfl⟩ _ _ _ _ _ _ _ _ _ _ (base := _) _ _ _ _ _ _ (by assumption) F4 (by assumption) (fun p hp => N4 p ?hled) (by assumption) (by assumption) ?hoff (by assumption) ?hcs ?hdp ?hun ?_
    case hcs => rfl
    case hdp => decide
    case hun => decide
    case hled =>
      rcases List.mem_cons.mp hp with rfl | hp
      · exact .tail _ (.tail _ (.tail _ (.tail _ (.tail _ (.tail _ (.head _))))))
      rcases List.mem_cons.mp hp with rfl | hp
      · exact .tail _ (.tail _ (.tail _ (.tail _ (.tail _ (.tail _ (.tail _ (.head _)))))))
      rcases List.mem_cons.mp hp with rfl | hp
      · exact .head _
      rcases List.mem_cons.mp hp with rfl | hp
      · exact .tail _ (.head _)
      rcases List.mem_cons.mp hp with rfl | hp
      · exact .tail _ (.tail _ (.head _))
      rcases List.mem_cons.mp hp with rfl | hp
      · exact .tail _ (.tail _ (.tail _ (.head _)))
      rcases List.mem_cons.mp hp with rfl | hp
      · exact .tail _ (.tail _ (.tail _ (.tail _ (.head _))))
      rcases List.mem_cons.mp hp with rfl | hp
      · exact .tail _ (.tail _ (.tail _ (.tail _ (.tail _ (.head _)))))
      · exact .tail _ (.tail _ (.tail _ (.tail _ (.tail _ (.tail _ (.tail _ (.tail _ hp)))))))
    case hoff =>
      intro p hp b hb
      have hb' : b = 107 ∨ b = 236 := by
        rcases List.mem_cons.mp hb with rfl | hb
        · exact .inl rfl
        · exact .inr (List.mem_singleton.mp hb)
      rcases List.mem_cons.mp hp with rfl | hp
      · rcases hb' with rfl | rfl
        · exact Ne.symm o1L.2.2.2.2.2.1
        · exact Ne.symm o1L.2.2.2.2.2.2.1
      rcases List.mem_cons.mp hp with rfl | hp
      · rcases hb' with rfl | rfl
        · exact nRa
        · exact nRb
      rcases List.mem_cons.mp hp with rfl | hp
      · rcases hb' with rfl | rfl
        · exact nNa
        · exact nNb
      rcases List.mem_cons.mp hp with rfl | hp
      · rcases hb' with rfl | rfl
        · exact Nat.ne_of_gt (Nat.lt_succ_of_lt (Nat.lt_succ_of_lt (Nat.lt_succ_of_lt l0.1)))
        · exact Nat.ne_of_gt (Nat.lt_succ_of_lt (Nat.lt_succ_of_lt (Nat.lt_succ_of_lt l0.2)))
      rcases List.mem_cons.mp hp with rfl | hp
      · rcases hb' with rfl | rfl
        · exact Nat.ne_of_gt (Nat.lt_succ_of_lt (Nat.lt_succ_of_lt l0.1))
        · exact Nat.ne_of_gt (Nat.lt_succ_of_lt (Nat.lt_succ_of_lt l0.2))
      rcases List.mem_cons.mp hp with rfl | hp
      · rcases hb' with rfl | rfl
        · exact Nat.ne_of_gt (Nat.lt_succ_of_lt l0.1)
        · exact Nat.ne_of_gt (Nat.lt_succ_of_lt l0.2)
      · exact hrc p hp b (.tail _ (.tail _ (.tail _ hb)))
    intro h5 tk5 B f d ob kvs lam k0 t0 nn objs rest F5 N5 hbk hsum hfd hobjs hnews hrB hBs hfrz hobn ht1 ht2
    clear F3 N3 F4 N4
    have m2 : (s1.heap.objs.size + 1 + 1, c2) ∈ rest := hnews _ (.tail _ (.tail _ (.tail _ (.tail _ (.head _)))))
    have m3 : (s1.heap.objs.size + 1 + 1 + 1, c3) ∈ rest := hnews _ (.tail _ (.tail _ (.tail _ (.head _))))
    have mR : (DR, odR) ∈ rest := hnews _ (.tail _ (.head _))
    have m1 : (s1.heap.objs.size + 1, c1) ∈ rest := hnews _ (.tail _ (.tail _ (.tail _ (.tail _ (.tail _ (.head _))))))
    have nB2 : @Ne Nat B (s1.heap.objs.size + 1 + 1) := Ne.symm (hrB _ m2)
    have nB3 : @Ne Nat B (s1.heap.objs.size + 1 + 1 + 1) := Ne.symm (hrB _ m3)
    have key : ∀ (p : Addr × Obj), p ∈ rest → p.2.data ≠ .cell none → @Ne Nat p.1 (s1.heap.objs.size + 1 + 1) ∧ @Ne Nat p.1 (s1.heap.objs.size + 1 + 1 + 1) := fun p hp hne => ⟨news_neN N5 (.tail _ hp) (.tail _ m2) (by rw [hc2]; exact hne), news_neN N5 (.tail _ hp) (.tail _ m3) (by rw [hc3]; exact hne)⟩
    obtain ⟨rs, hrs, hrs2⟩ : ∃ rs : CbLed, (∀ p, p ∈ rs → p ∈ rest ∧ @Ne Nat p.1 (s1.heap.objs.size + 1 + 1) ∧ @Ne Nat p.1 (s1.heap.objs.size + 1 + 1 + 1)) ∧ (∀ p, p ∈ rest → @Ne Nat p.1 (s1.heap.objs.size + 1 + 1) ∧ @Ne Nat p.1 (s1.heap.objs.size + 1 + 1 + 1) → p ∈ rs) :=
      ⟨rest.filter fun p => decide (@Ne Nat p.1 (s1.heap.objs.size + 1 + 1) ∧ @Ne Nat p.1 (s1.heap.objs.size + 1 + 1 + 1)), fun p hp => ⟨(List.mem_filter.mp hp).1, of_decide_eq_true (List.mem_filter.mp hp).2⟩, fun p hp h => List.mem_filter.mpr ⟨hp, decide_eq_true h⟩⟩
    replace hobjs : ∀ p ∈ objs, p ∈ (B, ob) :: rs := fun p hp => by
      rcases List.mem_cons.mp (hobjs p hp) with rfl | hq
      · exact .head _
      · exact .tail _ (hrs2 p hq (key p hq (hobn p hp)))
    replace hfd := hrs2 _ hfd (key _ hfd (fun e => by cases e))
    obtain ⟨pt1, ht1⟩ := ht1
    obtain ⟨pt2, ht2⟩ := ht2
    replace ht1 := hrs2 _ ht1 (key _ ht1 (fun e => by cases e))
    replace ht2 := hrs2 _ ht2 (key _ ht2 (fun e => by cases e))
    replace hrcm : ∀ c ∈ cells, RC.led c ∈ rs := fun c hc => hrs2 _ (hnews _ (.tail _ (.tail _ (.tail _ (.tail _ (.tail _ (.tail _ (hrcm c hc)))))))) (key _ (hnews _ (.tail _ (.tail _ (.tail _ (.tail _ (.tail _ (.tail _ (hrcm c hc)))))))) (fun e => by cases e))
    replace N5 : News _ _ _ ((B, ob) :: (DR, odR) :: (s1.heap.objs.size + 1 + 1 + 1, c3) :: (s1.heap.objs.size + 1 + 1, c2) :: (s1.heap.objs.size + 1, c1) :: rs) := fun p hp => N5 p (by
      rcases List.mem_cons.mp hp with rfl | hp
      · exact .head _
      rcases List.mem_cons.mp hp with rfl | hp
      · exact .tail _ mR
      rcases List.mem_cons.mp hp with rfl | hp
      · exact .tail _ m3
      rcases List.mem_cons.mp hp with rfl | hp
      · exact .tail _ m2
      rcases List.mem_cons.mp hp with rfl | hp
      · exact .tail _ m1
      · exact .tail _ (hrs p hp).1)
    have hrso : OwnOff rs [s1.heap.objs.size + 1 + 1 + 1, s1.heap.objs.size + 1 + 1] := by
      intro p hp b hb
      rcases List.mem_cons.mp hb with rfl | hb
      · exact (hrs p hp).2.2
      · obtain rfl := List.mem_singleton.mp hb; exact (hrs p hp).2.1
    clear m1 m2 m3 mR key hnews hrB hrs hrs2 hrc hrcd
    walk1
    rename Obj => c2
    rename Obj.data _ = Data.cell (some (Value.ref B)) => hc2
    rename Fr _ _ _ _ => F6
    rename News _ _ _ _ => N6
    (with_reducible refine wpAny_execs_cons ?_)
    refine Assign_ListComp_W F6 (by rfl) (by with_unfolding_all rfl) (by rfl) (by decide) (by rfl) (by decide) (by rfl) (by rfl) (by rfl) ?_
    walk1
    obtain ⟨esB, epB, hobe, hesB⟩ := id hbk
    subst hobe
    refine book_iter (Frag.In.keeps (by assumption) F6.keep) (N6 _ (.head _)).1 (N6 _ (.tail _ (.tail _ (.tail _ (.tail _ (.tail _ hfd)))))).1 hBs ?_
    refine ⟨_, _, _, _, keys_src rfl rfl ?hzB F6 N6 (.head _), ?_⟩
    case hzB =>
      rw [book_size hbk hsum]
      exact Nat.le_trans (book_len ns) (Nat.le_trans hlen (by decide))
    refine rest_inv (fun i ys nw => ys.length = i ∧ RowsOf (dues ns) ys nw ∧ ∀ p ∈ _, p ∈ nw) ?turn ?fin _ 0 [] _ (Nat.zero_add _) ⟨rfl, (fun y hy => by cases hy), fun p hp => hp⟩
    case turn =>
      rintro i ys nw hi ⟨hys, hrows, hbase⟩ v I oI C oC D m₂ h tk E' hP hC hx F N off ne
      have hB0 : (B, bookO f d esB epB) ∈ nw := hbase _ (.head _)
      have hfd0 : (d, frzD k0 t0 lam nn) ∈ nw := hbase _ (mt5 hfd)
      have hobj0 : ∀ p ∈ objs, p ∈ nw := fun p hp => by
        rcases List.mem_cons.mp (hobjs p hp) with rfl | hq
        · exact hB0
        · exact hbase _ (mt5 hq)
      have hc20 : (s1.heap.objs.size + 1 + 1, c2) ∈ nw := hbase _ (.tail _ (.tail _ (.tail _ (.head _))))
      have N7 : News _ _ _ ((I, oI) :: (C, oC) :: (D, lst ys) :: (s1.heap.objs.size + 1 + 1, c2) :: nw) := fun p hp => N p (by
        rcases List.mem_cons.mp hp with rfl | hp
        · exact .head _
        rcases List.mem_cons.mp hp with rfl | hp
        · exact .tail _ (.head _)
        rcases List.mem_cons.mp hp with rfl | hp
        · exact .tail _ (.tail _ (.head _))
        rcases List.mem_cons.mp hp with rfl | hp
        · exact .tail _ (.tail _ (.tail _ hc20))
        · exact .tail _ (.tail _ (.tail _ hp)))
      refine ListComp_W F (by rfl) (by decide) (by rfl) (by decide) (by rfl) ?_
      walk1
      refine text_src rfl (by decide +kernel) (by decide +kernel) F N7 (fun it g hsrc => ⟨_, _, _, _, hsrc, ?_⟩)
      refine abcd_ints (dueIn ns) ?turn2 ?fin2
      case turn2 =>
        intro k t I2 oI2 C2 oC2 D2 ys2 m3 h2 tk2 E2 hk hC2 hx2 F7 N8 off2 ne2
        repeat' ((fail_if_success (with_reducible show wpAny _ _ (subscriptTail _ _ _ _) _ _ _)); (first | walk1 | (dsimp only; walk1)))
        refine book_look_sub w _ _ _ ((I2, oI2) :: (C2, oC2) :: (D2, lst ys2) :: (I, oI) :: (C, oC) :: (D, lst ys) :: (s1.heap.objs.size + 1 + 1, c2) :: nw) B f d lam (bookO f d esB epB) objs k0 t0 nn kvs (bookF ns) k t _ _ _ _ _ _ _ _ _ _ _ _ _ _ _ _ _ (by exact rfl) ?hb2 ?hb3 ?hb4 (by assumption) F7 (by assumption) (fun p hp => N8 p ?hb5) (by assumption) ?hb6 hbk hsum (mt7 hfd0) (fun p hp => .tail _ (mt7 (hobj0 p hp))) hBs hfrz (by with_unfolding_all rfl) ?_
        case hb2 => rfl
        case hb3 => exact Nat.le_of_ble_eq_true rfl
        case hb4 => exact Nat.le_of_ble_eq_true rfl
        case hb6 => rfl
        case hb5 =>
          rcases List.mem_cons.mp hp with rfl | hp
          · exact mt7 hB0
          · exact hp
        intro h3 tk3 t3 F9 N9
        clear F7 N8
        repeat' ((show wpAny _ _ _ _ _ _); (first | walk1 | (dsimp only; walk1)))
        refine ⟨_, _, _, congrArg (fun z => Value.int (Builtin.bitXor _ z) _) (show (2 ^ Int.toNat 32 - 1 : Int) = 4294967295 from by decide), rfl, F9, fun p hp => N9 p (.tail _ hp)⟩
      case fin2 =>
        intro ys2 hys2
        intro D7 h7 tk7 F7 N8 o7
        refine ⟨h7, tk7, (D7, lst ys2) :: nw, rfl, F7, fun p hp => N8 p ?_, ⟨⟨Ne.symm o7.1, Ne.symm o7.2.1, Ne.symm o7.2.2.1⟩, off⟩, .tail _ hB0, ?_, hrows.snoc hys2, fun p hp => .tail _ (hbase p hp)⟩
        · rcases List.mem_cons.mp hp with rfl | hp
          · exact .tail _ (.head _)
          rcases List.mem_cons.mp hp with rfl | hp
          · exact .tail _ (.tail _ (.head _))
          rcases List.mem_cons.mp hp with rfl | hp
          · exact .tail _ (.tail _ (.tail _ (.head _)))
          rcases List.mem_cons.mp hp with rfl | hp
          · exact .head _
          · exact mt5 hp
        · rw [List.length_append, hys]; rfl
    case fin =>
      rintro ys nw ⟨hys, hrows, hbase⟩
      intro DS hS tkS FS NS oS
      have hb0 := fun p hp => List.Mem.tail (DS, lst ys) (hbase p hp)
      obtain ⟨rs2, hoff2, hin2, hrs2⟩ := led_cut NS (hb0 _ (.tail _ (.tail _ (.head _)))) hc3
      have nS3 : @Ne Nat DS (s1.heap.objs.size + 1 + 1 + 1) := news_neN NS (.head _) (hb0 _ (.tail _ (.tail _ (.head _)))) (by rw [hc3]; intro e; cases e)
      replace hobjs : ∀ p ∈ objs, p ∈ rs2 := fun p hp => by
        rcases List.mem_cons.mp (hobjs p hp) with rfl | hq
        · exact hrs2 _ (hb0 _ (.head _)) (fun e => by cases e)
        · exact hrs2 _ (hb0 _ (mt5 hq)) (hobn p hp)
      replace hfd := hrs2 _ (hb0 _ (mt5 hfd)) (fun e => by cases e)
      replace ht1 := hrs2 _ (hb0 _ (mt5 ht1)) (fun e => by cases e)
      replace ht2 := hrs2 _ (hb0 _ (mt5 ht2)) (fun e => by cases e)
      replace hrcm : ∀ c ∈ cells, RC.led c ∈ rs2 := fun c hc => hrs2 _ (hb0 _ (mt5 (hrcm c hc))) (fun e => by cases e)
      replace hrows : RowsOf (dues ns) ys rs2 := fun y hy => by
        obtain ⟨a, vs, e, hm, hv⟩ := hrows y hy
        exact ⟨a, vs, e, hrs2 _ (.tail _ hm) (fun e => by cases e), hv⟩
      replace NS : News _ _ _ ((DS, lst ys) :: (B, bookO f d esB epB) :: (DR, odR) :: (s1.heap.objs.size + 1 + 1 + 1, c3) :: (s1.heap.objs.size + 1 + 1, c2) :: (s1.heap.objs.size + 1, c1) :: rs2) := fun p hp => NS p (by
        rcases List.mem_cons.mp hp with rfl | hp
        · exact .head _
        rcases List.mem_cons.mp hp with rfl | hp
        · exact hb0 _ (.head _)
        rcases List.mem_cons.mp hp with rfl | hp
        · exact hb0 _ (.tail _ (.head _))
        rcases List.mem_cons.mp hp with rfl | hp
        · exact hb0 _ (.tail _ (.tail _ (.head _)))
        rcases List.mem_cons.mp hp with rfl | hp
        · exact hb0 _ (.tail _ (.tail _ (.tail _ (.head _))))
        rcases List.mem_cons.mp hp with rfl | hp
        · exact hb0 _ (.tail _ (.tail _ (.tail _ (.tail _ (.head _)))))
        · exact hin2 p hp)
      clear hb0 hbase hin2 hrs2 N6 F6
      dsimp only
      (with_reducible refine wpAny_execs_cons ?_)
      repeat' ((fail_if_success (with_reducible show wpAny _ _ (eval (Expr.ListComp _ _ _ _) _) _ _ _)); (first | walk1 | (dsimp only; walk1)))
      refine ListComp_W FS (by rfl) (by decide) (by rfl) (by decide) (by rfl) ?_
      walk1
      refine text_src rfl (by decide +kernel) (by decide +kernel) FS NS (fun it g hsrc => ⟨_, _, _, _, hsrc, ?_⟩)
      refine abcd_ints (dueIn ns) ?turn3 ?fin3
      case turn3 =>
        intro k t I2 oI2 C2 oC2 D2 ys2 m3 h2 tk2 E2 hk hC2 hx2 F7 N8 off2 ne2
        repeat' ((fail_if_success (with_reducible show wpAny _ _ (compareOp _ _ _) _ _ _)); (first | walk1 | (dsimp only; walk1)))
        rcases cells_look k cells with ⟨c, hcm, hck, hval, hrow⟩ | ⟨hval, hrow⟩
        · refine kda_in N8 (mt5 (.head _)) hodR hDRs (strKind_is _ _ _ _) true (by rw [hval]; rfl) ?_
          repeat' ((fail_if_success (with_reducible show wpAny _ _ (subscriptTail _ _ _ _) _ _ _)); (first | walk1 | (dsimp only; walk1)))
          refine kda_item N8 (mt5 (.head _)) hodR (strKind_is _ _ _ _) hval ?_
          repeat' ((fail_if_success (with_reducible show wpAny _ _ (call (Value.ref _) _) _ _ _)); (first | walk1 | (dsimp only; walk1)))
          have cd0 := divided_cb w
          unfold CbC at cd0
          dsimp only [Clm, CbLists, CbRet] at cd0
          refine cd0 _ _ _ _ c.at_ c.vs c.row _ _ _ _ _ _ _ _ _ _ _ _ _ _ _ _ _ (by assumption) F7 (by assumption) N8 (by assumption) ?hcs ⟨⟨_, mt7 (.tail _ (.tail _ (hrcm c hcm))), rfl, _, rfl⟩, hcv c hcm, Nat.le_trans (cell_row hcells hcm).1 hlen, (cell_row hcells hcm).2⟩ ?hdp ?hun ?_
          case hcs => rfl
          case hdp => decide
          case hun => decide
          intro t' h' tk' F' N'
          exact ⟨h', tk', t', congrArg (fun z => Value.int z t') (by rw [due_row hcells k, hrow]), rfl, F', N'⟩
        · refine kda_in N8 (mt5 (.head _)) hodR hDRs (strKind_is _ _ _ _) false (by rw [hval]; rfl) ?_
          repeat' ((show wpAny _ _ _ _ _ _); (first | walk1 | (dsimp only; walk1)))
          exact ⟨_, _, _, congrArg (fun z => Value.int z _) (by rw [due_row hcells k, hrow, divided_nil]), rfl, F7, N8⟩
      case fin3 =>
        intro ys2 hys2
        intro DD hD tkD FD ND oD
        have nD3 : @Ne Nat DD (s1.heap.objs.size + 1 + 1 + 1) := Ne.symm oD.2.2.2.1
        clear FS NS oD
        walk1
        rename Obj => c3
        rename Obj.data _ = Data.cell (some (Value.ref DD)) => hc3
        rename Fr _ _ _ _ => FE
        rename News _ _ _ _ => NE
        dsimp only
        (with_reducible refine wpAny_execs_cons ?_)
        repeat' ((fail_if_success (with_reducible show wpAny _ _ (eval (Expr.ListComp _ _ _ _) _) _ _ _)); (first | walk1 | (dsimp only; walk1)))
        refine' ListComp_two (cl := [(Str.ofString "rows", s1.heap.objs.size + 1)]) (vals := cells.map (·.row)) ?h1 ?h2 ?h3 ?h4 ?h5 ?h6 ?h7 ?h8 FE NE ?h9 ?h10 ?h11 ?h12
        case h1 => with_unfolding_all rfl
        case h2 => decide
        case h3 => rfl
        case h4 => decide
        case h5 => rfl
        case h6 => rfl
        case h7 => decide
        case h8 =>
          rw [rows_flat hcells, rows_total, PySem.sizeLine_eq]; omega
        case h11 => intro _; rfl
        case h12 => intro _ _; rfl
        case h9 =>
          walk1
          refine dict_iter hDRs (NE _ (mt3 (.head _))).1 hexR hdR hkR hpR hnR ?_
          refine src2_keys rfl ⟨_, _, rfl⟩ FE NE (mt3 (.head _)) hdR (by rw [List.length_map]; exact (rows_size hpR).symm) ?_
          intro i row e C D ysC mC s₃ E' hrow he hs3 F3 N3 hND hns hmx
          obtain ⟨h3, tk3, rfl⟩ := hs3
          dsimp only at F3 N3 hns
          obtain ⟨c, tc, hci, hek⟩ := cells_key hpR he
          rw [hek] at hmx
          obtain rfl : c.row = row := by simpa [hci] using hrow
          have hcm : c ∈ cells := List.mem_of_getElem? hci
          repeat' ((fail_if_success (with_reducible show wpAny _ _ (subscriptTail _ _ _ _) _ _ _)); (first | walk1 | (dsimp only; walk1)))
          refine kda_item N3 (mt4 (.head _)) hodR (strKind_is _ _ _ _) (cells_val hnR hcm) ?_
          have hlc : h3.IsList c.at_ c.vs.toArray := ⟨_, (N3 _ (.tail _ (mt7 (hrcm c hcm)))).1, rfl, _, rfl⟩
          have hlt : c.at_ < h3.objs.size := Heap.lt_size (N3 _ (.tail _ (mt7 (hrcm c hcm)))).1
          refine wpAny_pyIter_list hlc ⟨_, _, _, _, rfl, list_walks (by exact rfl) (Nat.ne_of_lt hlt) (hcv c hcm), ⟨⟨_, Heap.get?_push_size _ rfl, rfl, rfl⟩, hlc.push _⟩, ⟨_, _, rfl⟩, fun b o e => Heap.get?_push_of_some _ e, ?nC, ?nD, Heap.get?_none_of_le (Nat.le_refl _), ?_⟩
          case nC =>
            intro hm
            rcases List.mem_cons.mp hm with e | hm
            · exact absurd hns.lt (by rw [e]; exact Nat.lt_irrefl _)
            · exact ns_not_list hns (by rw [List.mem_singleton.mp hm]; exact hlc)
          case nD =>
            intro hm
            rcases List.mem_cons.mp hm with e | hm
            · exact absurd (Heap.lt_size (N3 _ (.head _)).1) (by show ¬ (D < _); rw [e]; exact Nat.lt_irrefl _)
            · exact hND _ (mt7 (hrcm c hcm)) (List.mem_singleton.mp hm).symm
          intro j kk v2 mC2 s6 E6 hjk hv2 hs6 F8 N8 hns2 hmx2 hmy2
          obtain ⟨h6, tk6, rfl⟩ := hs6
          obtain ⟨t6, ht6⟩ := (hcv c hcm).get j kk hjk
          obtain rfl : v2 = Value.int kk t6 := by
            rw [List.getElem?_toArray, ht6] at hv2
            exact (Option.some.inj hv2).symm
          clear F3 N3 hns
          walk1
          exact ⟨⟨_, rfl⟩, ⟨_, _, rfl⟩, fun _ _ e => e⟩
        case h10 =>
          intro DW hW tkW ysW FW NW hlowW hIW
          repeat' ((fail_if_success (with_reducible show wpAny _ _ (call (Value.ref _) _) _ _ _)); (first | walk1 | (dsimp only; walk1)))
          have cd0 := divided_cb w
          unfold CbC at cd0
          dsimp only [Clm, CbLists, CbRet] at cd0
          refine cd0 _ _ _ _ DW ysW (cells.map (·.row)).flatten _ _ _ _ _ _ _ _ _ _ _ _ _ _ _ _ _ (by assumption) FW (by assumption) NW (by assumption) ?hcs ⟨⟨_, .head _, rfl, _, rfl⟩, hIW, ?hwl, ?hwb⟩ ?hdp ?hun ?_
          case hcs => rfl
          case hdp => decide
          case hun => decide
          case hwl => rw [rows_flat hcells, rows_total]; exact hlen
          case hwb =>
            intro b hb
            obtain ⟨r, hr, hb⟩ := List.mem_flatten.mp hb
            obtain ⟨c, hcm, rfl⟩ := List.mem_map.mp hr
            exact (cell_row hcells hcm).2 b hb
          intro tX hX tkX FX NX
          rw [rows_flat hcells, ← whole_due]
          clear FE NE FW NW
          walk1
          rename Fr _ _ _ _ => FY
          rename News _ _ _ _ => NY
          repeat' ((fail_if_success (with_reducible show wpAny _ _ (eval (Expr.ListComp _ _ _ _) _) _ _ _)); (first | walk1 | (dsimp only; walk1)))
          refine ListComp_W FY (by rfl) (by decide) (by rfl) (by decide) (by rfl) ?_
          walk1
          refine dict_iter hDRs (NY _ (mt4 (.head _))).1 hexR hdR hkR hpR hnR ?_
          refine ⟨_, _, _, _, keys_src rfl hdR ?hzR FY NY (mt4 (.head _)), ?_⟩
          case hzR => rw [rows_size hpR, ← rows_cnt hcells]; exact Nat.le_trans (book_len ns) (Nat.le_trans hlen (by decide))
          refine rest_inv (fun i zs nw => nw = _ ∧ zs.length = i ∧ ∀ z ∈ zs, z = Value.ref DD) ?turn4 ?fin4 _ 0 [] _ (Nat.zero_add _) ⟨rfl, rfl, fun y hy => by cases hy⟩
          case turn4 =>
            rintro i zs nw hi ⟨rfl, hzl, hz⟩ v I oI C oC D m₂ h tk E' hP hC hx F N off ne
            repeat' ((show wpAny _ _ _ _ _ _); (first | walk1 | (dsimp only; walk1)))
            refine ⟨h, tk, _, rfl, F, N, off, mt4 (.head _), rfl, by rw [List.length_append, hzl]; rfl, fun z hz' => ?_⟩
            rcases List.mem_append.mp hz' with h1 | h1
            · exact hz _ h1
            · exact List.mem_singleton.mp h1
          case fin4 =>
            rintro zs nw ⟨rfl, hzl, hz⟩
            intro DZ hZ tkZ FZ NZ oZ
            repeat' ((fail_if_success (with_reducible show wpAny _ _ (compareOp _ _ _) _ _ _)); (first | walk1 | (dsimp only; walk1)))
            have hlz : ys.length = zs.length := by rw [hys, hzl, book_size hbk hsum, rows_cnt hcells, rows_size hpR]
            refine rows_eq (ds := dues ns) (D := DD) (vD := ys2) (News.isList NZ (mt3 (.head _))) (News.isList NZ (.head _)) hlz (fun x hx => ?rx) hz (News.isList NZ (.tail _ (.tail _ (.head _)))) hys2 ?ru ?_
            case rx =>
              obtain ⟨a, vs, e, hm, hv⟩ := hrows x hx
              exact ⟨a, vs, e, News.isList NZ (.tail _ (.tail _ (mt7 hm))), hv⟩
            case ru => exact Nat.le_of_ble_eq_true rfl
            repeat' ((fail_if_success (with_reducible show wpAny _ _ (call (Value.type _) _) _ _ _)); (first | walk1 | (dsimp only; walk1)))
            have hesz : esB.size ≤ 1000 := by rw [book_size hbk hsum]; exact Nat.le_trans (book_len ns) (Nat.le_trans hlen (by decide))
            refine book_list (by assumption) FZ NZ (mt4 (.head _)) (.tail _ (.tail _ (mt7 hfd))) hBs (by exact rfl) hesz ?_
            intro DB cB hBh tkB vsB FB NB lB hlB hvB
            have hsB := book_names hbk hsum hlB hvB
            clear FZ NZ hvB
            repeat' ((fail_if_success (with_reducible show wpAny _ _ (call (Value.type _) _) _ _ _)); (first | walk1 | (dsimp only; walk1)))
            refine kdl_N (kdl_dict (prog := PySem.Challenge.pw_il0125_01) (knd := PySem.strKind PySem.Challenge.pw_il0125_01 w) (kvs := cells.map RC.kv) (ep := epR) hDRs) (by exact rfl) FB NB ⟨odR, esR, (NB _ (mt6 (.head _))).1, hexR, hdR, hkR, hpR, hnR⟩ ?hkn ?_
            case hkn =>
              rw [List.length_map, ← rows_cnt hcells]
              exact Nat.le_trans (book_len ns) (Nat.le_trans hlen (by decide))
            intro DK cK hKh tkK vsK FK NK lK hlK hvK
            have hsK := rows_names hcells hlK hvK
            rw [← book_keys] at hsK
            clear FB NB hvK
            repeat' ((fail_if_success (with_reducible show wpAny _ _ (compareOp _ _ _) _ _ _)); (first | walk1 | (dsimp only; walk1)))
            refine strs_eq (News.isList NK (.tail _ (.head _))) (News.isList NK (.head _)) hsB hsK (Nat.le_of_ble_eq_true rfl) ?_
            repeat' ((fail_if_success (with_reducible show wpAny _ _ (call (Value.ref _) _) _ _ _)); (first | walk1 | (dsimp only; walk1)))
            rename Fr _ _ _ _ => FL
            rename News _ _ _ _ => NL
            refine whole_walk w _ _ _ ((DK, listOf vsK.toArray cK) :: (DB, listOf vsB.toArray cB) :: (DZ, lst zs) :: (DW, lst ysW) :: (DD, lst ys2) :: (DS, lst ys) :: (s1.heap.objs.size + 1 + 1 + 1, c3) :: (s1.heap.objs.size + 1 + 1, c2) :: (s1.heap.objs.size + 1, c1) :: rs2) B f d DR odR esB epB (frzD k0 t0 lam nn) kvs cells ns _ _ _ _ _ _ _ _ _ _ (base := _) _ _ _ _ _ _ (by assumption) FL (by assumption) (fun p hp => NL p ?hw1) (by assumption) ?hcs ?hdp ?hun hbk hsum (mt7 (.tail _ (.tail _ hfd))) hBs hDRs hodR hcells hcv (fun c hc => mt7 (.tail _ (.tail _ (hrcm c hc)))) hlen ?_
            case hcs => rfl
            case hdp => exact Nat.le_of_ble_eq_true rfl
            case hun => exact Nat.le_of_ble_eq_true rfl
            case hw1 =>
              rcases List.mem_cons.mp hp with rfl | hp
              · exact mt6 (.head _)
              rcases List.mem_cons.mp hp with rfl | hp
              · exact mt7 (.head _)
              rcases List.mem_cons.mp hp with rfl | hp
              · exact .head _
              rcases List.mem_cons.mp hp with rfl | hp
              · exact .tail _ (.head _)
              rcases List.mem_cons.mp hp with rfl | hp
              · exact .tail _ (.tail _ (.head _))
              rcases List.mem_cons.mp hp with rfl | hp
              · exact mt3 (.head _)
              rcases List.mem_cons.mp hp with rfl | hp
              · exact mt4 (.head _)
              rcases List.mem_cons.mp hp with rfl | hp
              · exact mt5 (.head _)
              · exact .tail _ (mt7 hp)
            intro hO tkO tO FO NO
            clear FL NL
            repeat' ((show wpAny _ _ _ _ _ _); (first | walk1 | (dsimp only; walk1)))
            rw [beq_self_eq_true]
            refine ⟨?good, GrownAt.of NO (mt7 (mt4 ht1)), GrownAt.of NO (mt7 (mt4 ht2)), trivial⟩
            case good =>
              kc_close)
end Mine
end
end JLw
theorem PySem.Challenge.cw_il0125_01_holds : PySem.Challenge.rw_il0125_01.Holds :=
  Mine.law_walk
