import PyProof.Rows.All
import Wide.All
import OpenK.AllK
import Wide.FinOn
import PySem.Challenge.RW_im0005_05
set_option Elab.async false
set_option linter.all false
set_option compiler.extract_closed false
set_option genSizeOf false
set_option genInjectivity false
section
open PySem PySem.W PyProof.Rows
open PySem.Spec (Kinds)
set_option maxRecDepth 100000
namespace Mine
def rA : OpenRow where
  prog := Challenge.rw_im0005_05.prog
  name := Challenge.rw_im0005_05.name
  records := []
  args := [.none]
  returns := .bool
  pre := .lit (.bool true)
  post := .lit (.bool true)
  raises := [(.builtin "TypeError", .lit (.bool true))]
  mutates := []
  within := []
  unshared := false
  same := none
  under := ⟨true, true, true⟩
  after := ⟨true, true, true⟩
  apart := false
  loose := []
  makers := []
  pinned := true
  writes := Challenge.rw_im0005_05.writes
  keeps := Challenge.rw_im0005_05.row.keeps
section
variable {prog : Program} {w : World} {A : Around} {E : Value → Shared → Prop} {s : Shared}
theorem typeIs_none : s.TypeIs .none "NoneType" := rfl
theorem getItem_none {i : Value} {Q : Value → Shared → Prop} (hh : A.handled = none)
    (h : ∀ h' tk e, Heap.NewExc s.heap h' e "TypeError" → E (.ref e) { s with heap := h', toks := tk }) : wpAny (model prog w) A (getItem .none i) Q E s := by
  unfold getItem
  refine wpAny_holding ?_
  refine wpAny_bind ?_
  have hk : sequenceKey .none i "__getitem__" = pure i := rfl
  rw [hk]
  refine wpAny_pure ?_
  refine wpAny_bind (wpAny_callSpecial?_none (name := Str.ofString "__getitem__") typeIs_none (by kernel_rfl!) ?_)
  dsimp only
  refine wpAny_bind (wpAny_pure ?_)
  rw [if_neg (by decide)]
  refine wpAny_bind ?_
  refine wpAny_typeNameOf' typeIs_none (by decide) ?_
  exact raiseError_exc excClass_TypeError hh h
theorem sub_none {value slice : Expr} {i : Value} {Q : Value → Shared → Prop} (hh : A.handled = none)
    (h : ∀ h' tk e, Heap.NewExc s.heap h' e "TypeError" → E (.ref e) { s with heap := h', toks := tk })
    (hs : subscripted slice false .none i = operate [.none, i] (getItem .none i) := by with_unfolding_all rfl) : wpAny (model prog w) A (subscriptTail value slice .none i) Q E s := by
  unfold subscriptTail
  refine wpAny_bind ?_
  rw [getitemInPython_of_ne (typeIs_none (s := s)).not_modules]
  refine wpAny_bind (wpAny_specialOf typeIs_none (name := Str.ofString "__getitem__") (r := none) (by kernel_rfl!) ?_)
  have fin : wpAny (model prog w) A (subscripted slice false .none i) (fun r s₃ => wpAny (model prog w) A (letTemporaryGo value .none r >>= fun _ => pure r) Q E s₃) E s := by
    rw [hs]
    exact wpAny_operating (getItem_none hh h)
  first
    | exact wpAny_pure (wpAny_bind fin)
    | exact wpAny_bind (wpAny_pure (wpAny_bind fin))
    | exact wpAny_bind fin
end
theorem newExc_push {h h' : Heap} {o : Obj} {e : Addr} {c : String} (x : Heap.NewExc (h.push o) h' e c) : Heap.NewExc h h' e c := by
  obtain ⟨a, b, c⟩ := x
  refine ⟨fun b o hb => a b o (Heap.get?_push_of_some _ hb), ?_, c⟩
  cases q : h.get? e with
  | none => rfl
  | some y => rw [Heap.get?_push_of_some _ q] at b; cases b
theorem leave_newCW {M : Model} {A : Around} {c : ClaimW} {cl : Str → Option Addr} {args : List WData} {s₁ s' : Shared} {name : Str} {scope : Scope} {L a e : Addr} {cd : Value} {m : Str → Option Value} {h h₀ : Heap} {cls : String}
    (hfr : A.frames = some []) (F : Fr s₁.heap L h m) (hx : Heap.NewExc h s'.heap e cls) (hg : s'.gens = #[]) (hr : c.raises args (.builtin cls) = true) (hos : s'.os = s₁.os) (hkf : scope.kind = .function) :
    wpAny M (A.deeper (envOfC name scope L a cd)) (leaving (envOfC name scope L a cd) (.ref e)) (fun _ s'' => GoodW c cl (ExcName.means h₀) args s₁ (.error (.ref e)) s'') (fun e' s'' => GoodW c cl (ExcName.means h₀) args s₁ (.error e') s'') s' :=
  wpAny_mono (leave_newC (r := raiser (.builtin cls)) (args := []) hfr F hx hg (raiser_raises _) hos hkf) (fun _ _ x => goodW_of_raiser hr (Good2.to3 h₀ x)) (fun _ _ x => goodW_of_raiser hr (Good2.to3 h₀ x))
local macro_rules | `(tactic| walk_at "subscriptTail") => `(tactic| (refine sub_none rfl ?_))
theorem hd.tw12590977762386282803 : True := trivial
theorem hd.tw10458740792067480800 : True := trivial
theorem hd.tw2480057099694739299 : True := trivial
theorem hd.tw701333769924781912 : True := trivial
theorem hd.tw9499510787657705874 : True := trivial
theorem hd.tw2608437505485318709 : True := trivial
theorem hd.tw14612060388864693735 : True := trivial
theorem hd.tw8773699223549846113 : True := trivial
theorem hd.tw4768578896829404305 : True := trivial
theorem hd.tw2252305205657439004 : True := trivial
theorem hd.tw11117797201346649052 : True := trivial
theorem hd.tw15790720579355451973 : True := trivial
theorem hd.tw6879831473291441079 : True := trivial
theorem hd.tw2887051446865420828 : True := trivial
theorem hd.tw9398405308114057262 : True := trivial
theorem hd.tw8977307856219701671 : True := trivial
theorem hd.tw12112201142124510154 : True := trivial
theorem hd.tw7816577550770918932 : True := trivial
theorem hd.tw14991384322417631237 : True := trivial
theorem hd.tw3434918251397683217 : True := trivial
theorem hd.tw6407587892757256292 : True := trivial
theorem hd.tw960944832710211464 : True := trivial
theorem hd.tw8519885654835751697 : True := trivial
theorem hd.tw1865391376527767206 : True := trivial
theorem hd.tw4494801613693538912 : True := trivial
theorem hd.tw9215827820722605749 : True := trivial
theorem hd.tw8044012406986999415 : True := trivial
theorem hd.tw3350930974749635488 : True := trivial
theorem hd.tw9013056391748086436 : True := trivial
theorem hd.tw3451239065008710300 : True := trivial
theorem hd.tw2845207389951388047 : True := trivial
theorem hd.tw16970440968685349367 : True := trivial
theorem hd.tw7085514621470718492 : True := trivial
theorem hd.tw15910714762333108613 : True := trivial
theorem hd.tw7880807054014371918 : True := trivial
theorem hd.tw9741134391959003819 : True := trivial
theorem hd.tw14772383043592177042 : True := trivial
theorem hd.tw9627899436633539337 : True := trivial
theorem hd.tw9731375825926819010 : True := trivial
theorem hd.tw8228950375871286339 : True := trivial
theorem hd.tw7292484366425897655 : True := trivial
theorem hd.tw15508949281206285077 : True := trivial
theorem hd.tw10531373872144210542 : True := trivial
theorem hd.tw2386827423013361158 : True := trivial
theorem hd.tw17650839729002327288 : True := trivial
theorem hd.tw16357263729072622229 : True := trivial
theorem hd.tw16694946328126371552 : True := trivial
theorem hd.tw14279657266035213608 : True := trivial
theorem hd.tw8184699220007379433 : True := trivial
theorem hd.tw12414669353804360901 : True := trivial
theorem hd.tw7379015992945566340 : True := trivial
theorem hd.tw11249132867342737325 : True := trivial
theorem hd.tw8977460988437922124 : True := trivial
theorem hd.tw16547865195752855329 : True := trivial
theorem hd.tw5987830557187376847 : True := trivial
theorem hd.tw6060742912462422084 : True := trivial
theorem hd.tw7317836474542784337 : True := trivial
theorem hd.tw3419581819265744254 : True := trivial
theorem hd.tw13338143212406534295 : True := trivial
theorem hd.tw4159134105002834734 : True := trivial
theorem hd.tw10012880186880212623 : True := trivial
theorem hd.tw2930668341846507884 : True := trivial
theorem hd.tw14896477498954680388 : True := trivial
theorem hd.tw15278966056882409248 : True := trivial
theorem hd.tw9087110039335098043 : True := trivial
theorem hd.tw15616948245753086127 : True := trivial
theorem hd.tw1379335367625716243 : True := trivial
theorem hd.tw5366084841770067474 : True := trivial
theorem hd.tw15463257786427224491 : True := trivial
theorem hd.tw16473244170626142550 : True := trivial
theorem hd.tw262745018181394680 : True := trivial
theorem hd.tw8211384405938104136 : True := trivial
theorem hd.tw17429513623812275283 : True := trivial
theorem hd.tw9427301549700849589 : True := trivial
theorem hd.tw15987713032478767096 : True := trivial
theorem hd.tw14960593345356199642 : True := trivial
theorem hd.tw15615537253650120727 : True := trivial
theorem hd.tw18268791191939849864 : True := trivial
theorem hd.tw14176624398918483544 : True := trivial
theorem hd.tw6308581086252854402 : True := trivial
theorem hd.tw15852365999677673905 : True := trivial
theorem hd.tw11128854368766332075 : True := trivial
theorem hd.tw14859038896228082724 : True := trivial
theorem hd.tw6627881031435992008 : True := trivial
theorem hd.tw17070941380808615275 : True := trivial
theorem hd.tw2739504486584576224 : True := trivial
theorem hd.tw6785817131721698500 : True := trivial
theorem hd.tw17599816209265215132 : True := trivial
theorem hd.tw395138700845864316 : True := trivial
theorem hd.tw15220180469806662145 : True := trivial
theorem hd.tw17143205804819765802 : True := trivial
theorem hd.tw17562767543260142214 : True := trivial
theorem hd.tw6957150274394394060 : True := trivial
theorem hd.tw4990156530697904881 : True := trivial
theorem hd.tw13160604113216922460 : True := trivial
theorem hd.tw10246146449241189800 : True := trivial
theorem hd.tw8015326511298524721 : True := trivial
theorem hd.tw6082411064634330575 : True := trivial
theorem hd.tw7059539395403794157 : True := trivial
theorem hd.tw15967140613478806237 : True := trivial
theorem hd.tw10955317050725887447 : True := trivial
theorem hd.tw1997569388931296116 : True := trivial
theorem hd.tw6291416237084387574 : True := trivial
theorem hd.tw8312999807965096350 : True := trivial
theorem hd.tw8789358453043137523 : True := trivial
theorem hd.tw11232374478483605306 : True := trivial
theorem hd.tw11251137523995926341 : True := trivial
theorem hd.tw16200623403803356285 : True := trivial
theorem hd.tw2616952524820836436 : True := trivial
theorem hd.tw16299908979028503884 : True := trivial
theorem hd.tw11709330566771433103 : True := trivial
theorem hd.tw9908193460736022307 : True := trivial
theorem hd.tw2042292140826266357 : True := trivial
theorem hd.tw9132557439983319658 : True := trivial
theorem hd.tw6438293893037913957 : True := trivial
theorem hd.tw500953250457666378 : True := trivial
theorem hd.tw13409441903868389331 : True := trivial
theorem hd.tw5247051413645994129 : True := trivial
theorem hd.tw13483081372092288885 : True := trivial
theorem hd.tw17491280204586788870 : True := trivial
theorem hd.tw7510230149288206974 : True := trivial
theorem hd.tw16011055738799735888 : True := trivial
theorem hd.tw5535567543195554156 : True := trivial
theorem hd.tw11034497122203965937 : True := trivial
theorem hd.tw7006195865600381663 : True := trivial
theorem hd.tw5608270528595127837 : True := trivial
theorem hd.tw10879034167726328663 : True := trivial
theorem hd.tw10919297434634762262 : True := trivial
theorem hd.tw4367231431732253908 : True := trivial
theorem hd.tw689954013368505116 : True := trivial
theorem hd.tw5373601922739893978 : True := trivial
theorem hd.tw16912221373603951823 : True := trivial
theorem hd.tw14745743045033390146 : True := trivial
theorem hd.tw5549315172176941698 : True := trivial
theorem hd.tw5283464899586487735 : True := trivial
theorem hd.tw6804821044290156842 : True := trivial
theorem hd.tw16006246977917349235 : True := trivial
theorem hd.tw2167537188350426706 : True := trivial
theorem hd.tw7891253978561527248 : True := trivial
theorem hd.tw10860895700388868024 : True := trivial
theorem hd.tw1005483496087919985 : True := trivial
theorem hd.tw12647368939536790636 : True := trivial
theorem hd.tw15813434630575017362 : True := trivial
theorem hd.tw1452849714261714991 : True := trivial
theorem hd.tw17471934795394947791 : True := trivial
theorem hd.tw12598724348716800887 : True := trivial
theorem hd.tw5343241284826551009 : True := trivial
theorem hd.tw10949625832625181284 : True := trivial
theorem hd.tw3940546777539579641 : True := trivial
theorem hd.tw17177331786930743035 : True := trivial
theorem hd.tw5318216170032084099 : True := trivial
theorem hd.tw17447410573909459338 : True := trivial
theorem hd.tw2001351230973187099 : True := trivial
theorem hd.tw7793673504863384051 : True := trivial
theorem hd.tw1954109241102656831 : True := trivial
theorem hd.tw11465210709893060100 : True := trivial
theorem hd.tw7270182246851987180 : True := trivial
theorem hd.tw15642763164714097627 : True := trivial
theorem hd.tw518976864732996251 : True := trivial
theorem hd.tw14006173549557618073 : True := trivial
theorem hd.tw5978321128707920903 : True := trivial
theorem hd.tw3608708970678896270 : True := trivial
theorem hd.tw22551697357593593 : True := trivial
theorem hd.tw3085183777334472315 : True := trivial
theorem hd.tw17948085552500728524 : True := trivial
theorem hd.tw13372043803930879067 : True := trivial
theorem hd.tw15427206886491885616 : True := trivial
theorem hd.tw14984183105004643987 : True := trivial
theorem hd.tw12870888531099404533 : True := trivial
theorem hd.tw10905682514733158466 : True := trivial
theorem hd.tw15179676742415161110 : True := trivial
theorem hd.tw18166333605607142505 : True := trivial
theorem hd.tw15946356160694317329 : True := trivial
theorem hd.tw4182648748547736412 : True := trivial
theorem hd.tw368366308016060594 : True := trivial
theorem hd.tw9153386212771759811 : True := trivial
theorem hd.tw11319097763535126812 : True := trivial
theorem hd.tw15673258824015622330 : True := trivial
theorem hd.tw15422856539912107476 : True := trivial
theorem hd.tw11507959949525687343 : True := trivial
theorem hd.tw17054507655720011243 : True := trivial
theorem hd.tw9641152695372364146 : True := trivial
theorem hd.tw9557236495431379559 : True := trivial
theorem hd.tw15043168886218598503 : True := trivial
theorem hd.tw17588044629489971554 : True := trivial
theorem hd.tw6882427118574961969 : True := trivial
theorem hd.tw2867327485932766208 : True := trivial
theorem hd.tw9429285754427346401 : True := trivial
theorem hd.tw4870687313549177768 : True := trivial
theorem hd.tw2799067240506288376 : True := trivial
theorem hd.tw1011335219593555734 : True := trivial
theorem hd.tw15367242080415987702 : True := trivial
theorem hd.tw7031273417212677730 : True := trivial
theorem hd.tw10601615944963115059 : True := trivial
theorem hd.tw13893168526513508166 : True := trivial
theorem hd.tw2595994805191909183 : True := trivial
theorem hd.tw12769127236821124696 : True := trivial
theorem hd.tw16155205043701107222 : True := trivial
theorem hd.tw11472165163037031739 : True := trivial
theorem hd.tw3484992998616243462 : True := trivial
theorem hd.tw5629675986466331604 : True := trivial
theorem hd.tw14103535550066685397 : True := trivial
theorem hd.tw9566141503761928105 : True := trivial
theorem hd.tw1588505670450824345 : True := trivial
theorem hd.tw10030107230732127627 : True := trivial
theorem hd.tw17843490464661113860 : True := trivial
theorem hd.tw250903467453971090 : True := trivial
theorem hd.tw2922222751358710265 : True := trivial
theorem hd.tw17714235663813219645 : True := trivial
theorem hd.tw4478166936697009375 : True := trivial
theorem hd.tw12509009523430927325 : True := trivial
theorem hd.tw2448417245163862455 : True := trivial
theorem hd.tw11011131195910976488 : True := trivial
theorem hd.tw3182187488490625086 : True := trivial
theorem hd.tw17312999752573914782 : True := trivial
theorem hd.tw17901334829092211166 : True := trivial
theorem hd.tw8428860471423672150 : True := trivial
theorem hd.tw7752569895197466512 : True := trivial
theorem hd.tw11136197038861592535 : True := trivial
theorem hd.tw5961118342813265553 : True := trivial
theorem hd.tw9783614193127449063 : True := trivial
theorem hd.tw11399449904127653305 : True := trivial
theorem hd.tw8770205317985620760 : True := trivial
theorem hd.tw12393119488966705847 : True := trivial
theorem hd.tw14400467628812073631 : True := trivial
theorem hd.tw137786328141462057 : True := trivial
theorem hd.tw9271970288684553227 : True := trivial
theorem hd.tw3915529967508079626 : True := trivial
theorem hd.tw3333446698644548216 : True := trivial
theorem hd.tw3673020696563887462 : True := trivial
theorem hd.tw9459050058782445324 : True := trivial
theorem hd.tw14980023328507725902 : True := trivial
theorem hd.tw2101469004524951375 : True := trivial
theorem hd.tw14015909994521340511 : True := trivial
theorem hd.tw13368278939475635651 : True := trivial
theorem hd.tw8343274005884668182 : True := trivial
theorem hd.tw18300207936620678264 : True := trivial
theorem hd.tw12994019391074448376 : True := trivial
theorem hd.tw5464967688985200232 : True := trivial
theorem hd.tw5148922909946612681 : True := trivial
theorem hd.tw8684328023851190084 : True := trivial
theorem hd.tw17903497710992402801 : True := trivial
theorem hd.tw9258712216579463092 : True := trivial
theorem hd.tw11778180911958503814 : True := trivial
theorem hd.tw4065347644161347641 : True := trivial
theorem hd.tw948784679942122340 : True := trivial
theorem hd.tw17925215291927510665 : True := trivial
theorem hd.tw6924109203229866365 : True := trivial
theorem hd.tw15687388767607454252 : True := trivial
theorem hd.tw12631932088317031055 : True := trivial
theorem hd.tw9842699097658496709 : True := trivial
theorem hd.tw11151547217846952531 : True := trivial
theorem hd.tw7339039647409124788 : True := trivial
theorem hd.tw3229955645248102723 : True := trivial
theorem hd.tw7519716089354478335 : True := trivial
theorem hd.tw17491317419825422843 : True := trivial
theorem hd.tw10792051664901133789 : True := trivial
theorem hd.tw4068527845204499245 : True := trivial
theorem hd.tw14060237666301923597 : True := trivial
theorem hd.tw11652457597714270106 : True := trivial
theorem hd.tw14553816603554493358 : True := trivial
theorem hd.tw8004679753235328684 : True := trivial
theorem hd.tw7754304195085646258 : True := trivial
theorem hd.tw2295870552580634182 : True := trivial
theorem hd.tw6038821095411175016 : True := trivial
theorem hd.tw14673209030070457562 : True := trivial
theorem hd.tw4014540891139286612 : True := trivial
theorem hd.tw16064382804478563927 : True := trivial
theorem hd.tw2315301623876862497 : True := trivial
theorem hd.tw15344866539931968096 : True := trivial
theorem hd.tw4272726840584523970 : True := trivial
theorem hd.tw2808349399557158395 : True := trivial
theorem hd.tw2114630138375439770 : True := trivial
theorem hd.tw8269573656231971908 : True := trivial
theorem hd.tw10424393626065333798 : True := trivial
theorem hd.tw6965799899956892507 : True := trivial
theorem hd.tw4172343393113369950 : True := trivial
theorem hd.tw9990345226319884068 : True := trivial
theorem hd.tw13315533130655954831 : True := trivial
theorem hd.tw15675198926951892251 : True := trivial
theorem hd.tw10841399608879689956 : True := trivial
theorem hd.tw11893437276241958245 : True := trivial
theorem hd.tw2051048951616859547 : True := trivial
theorem hd.tw16157073509204512506 : True := trivial
theorem hd.tw10847404155465417027 : True := trivial
theorem hd.tw17130151131035750659 : True := trivial
theorem hd.tw8242931771332617035 : True := trivial
theorem hd.tw519851828213033955 : True := trivial
theorem hd.tw6906073325868019850 : True := trivial
theorem hd.tw2440592905100669153 : True := trivial
theorem hd.tw3480954088277226078 : True := trivial
theorem hd.tw7610815399733428385 : True := trivial
theorem hd.tw2329189449893159454 : True := trivial
theorem hd.tw11402939732021071671 : True := trivial
theorem hd.tw663384727985864361 : True := trivial
theorem hd.tw14446474709323646786 : True := trivial
theorem hd.tw6578402527460240241 : True := trivial
theorem hd.tw7927469264209771579 : True := trivial
theorem hd.tw3941438180925939637 : True := trivial
theorem hd.tw2442259710966052079 : True := trivial
theorem hd.tw17739348878880393726 : True := trivial
theorem hd.tw7721951785955056133 : True := trivial
theorem hd.tw13363553139645760527 : True := trivial
theorem hd.tw12685813987229840507 : True := trivial
theorem hd.tw18423713655877286777 : True := trivial
theorem hd.tw4724112764586752083 : True := trivial
theorem hd.tw190519026028168232 : True := trivial
theorem hd.tw10778257442750969130 : True := trivial
theorem hd.tw7746578258024575070 : True := trivial
theorem hd.tw189712035060473897 : True := trivial
theorem hd.tw12070654863422294720 : True := trivial
theorem hd.tw4091639524402994376 : True := trivial
theorem hd.tw11749099774412794130 : True := trivial
theorem hd.tw11611254532205267744 : True := trivial
theorem hd.tw9496365245306024149 : True := trivial
theorem hd.tw402640490398009360 : True := trivial
theorem hd.tw8545014587354053640 : True := trivial
theorem hd.tw9386895884608548742 : True := trivial
theorem hd.tw9077708301081682751 : True := trivial
theorem hd.tw9244321171653502345 : True := trivial
theorem hd.tw12480425521718506038 : True := trivial
theorem hd.tw6615107907471364465 : True := trivial
theorem hd.tw6123773746684550334 : True := trivial
theorem hd.tw5635641802508607975 : True := trivial
theorem hd.tw13267510147771200024 : True := trivial
theorem hd.tw10583446816852156582 : True := trivial
theorem hd.tw3044193314922437478 : True := trivial
theorem hd.tw17808607793243039243 : True := trivial
theorem hd.tw16772102934027710169 : True := trivial
theorem hd.tw11054480109507316185 : True := trivial
theorem hd.tw6264232113106981867 : True := trivial
theorem hd.tw2708950531961675432 : True := trivial
theorem hd.tw13931416462566266981 : True := trivial
theorem hd.tw8191903926673212241 : True := trivial
theorem hd.tw10024716035694756283 : True := trivial
theorem hd.tw5292301768408028288 : True := trivial
theorem hd.tw14560493823538711346 : True := trivial
theorem hd.tw6164396464334811476 : True := trivial
theorem hd.tw4725425184044842548 : True := trivial
theorem hd.tw18350433093344046624 : True := trivial
theorem hd.tw8934143017859847078 : True := trivial
theorem hd.tw11387694631328260470 : True := trivial
theorem hd.tw162610821266807592 : True := trivial
theorem hd.tw12239354291974867115 : True := trivial
theorem hd.tw12952509933414984302 : True := trivial
theorem hd.tw2068664650715991707 : True := trivial
theorem hd.tw6442067068224118133 : True := trivial
theorem hd.tw14478148883734587675 : True := trivial
theorem hd.tw541196102884509978 : True := trivial
theorem hd.tw17989097746536338734 : True := trivial
theorem hd.tw3173010612589774626 : True := trivial
theorem hd.tw9617658007855726926 : True := trivial
theorem hd.tw8068729725432388964 : True := trivial
theorem hd.tw15946388913382835224 : True := trivial
theorem hd.tw2274498078352570744 : True := trivial
theorem hd.tw6838551448383532254 : True := trivial
theorem hd.tw7261450039545342454 : True := trivial
theorem hd.tw11660266114150955751 : True := trivial
theorem hd.tw17213754286329925777 : True := trivial
theorem hd.tw7541792107247259296 : True := trivial
theorem hd.tw2216850387143573719 : True := trivial
theorem hd.tw15948780112781908787 : True := trivial
theorem hd.tw18103739167541040201 : True := trivial
theorem hd.tw10210669037155785340 : True := trivial
theorem hd.tw7382370116671421104 : True := trivial
theorem hd.tw1792636949448641307 : True := trivial
theorem hd.tw5433107678231618845 : True := trivial
theorem hd.tw7355570028127101125 : True := trivial
theorem hd.tw8589211134812392127 : True := trivial
theorem hd.tw6136932545381038964 : True := trivial
theorem hd.tw11672842613191775419 : True := trivial
theorem hd.tw16904818350239718627 : True := trivial
theorem hd.tw4993660671451451078 : True := trivial
theorem hd.tw8025032847418708242 : True := trivial
theorem hd.tw11801993109049149486 : True := trivial
theorem hd.tw11256106856564762260 : True := trivial
theorem hd.tw12058812876911547015 : True := trivial
theorem hd.tw4086058157674990017 : True := trivial
theorem hd.tw307737655149646647 : True := trivial
theorem hd.tw8801323125487838256 : True := trivial
theorem hd.tw14685462170515437407 : True := trivial
theorem hd.tw4383666589626881386 : True := trivial
theorem hd.tw9155422001095189878 : True := trivial
theorem hd.tw9631708518359487223 : True := trivial
theorem hd.tw5781342201191254626 : True := trivial
theorem hd.tw7525542149764818722 : True := trivial
theorem hd.tw11319892378374348655 : True := trivial
theorem hd.tw10264135568141901301 : True := trivial
theorem hd.tw12271959270614036898 : True := trivial
theorem hd.tw12602439190401603521 : True := trivial
theorem hd.tw13047593935725612058 : True := trivial
theorem hd.tw7109450275434161582 : True := trivial
theorem hd.tw13466754112058979494 : True := trivial
theorem hd.tw4136554803537287180 : True := trivial
theorem hd.tw10111801491309104144 : True := trivial
theorem hd.tw4363365295628954845 : True := trivial
theorem hd.tw6184208073178115725 : True := trivial
theorem hd.tw8317466277049474617 : True := trivial
theorem hd.tw12940713784782232206 : True := trivial
theorem hd.tw11364443708160879001 : True := trivial
theorem hd.tw16828841361933241965 : True := trivial
theorem hd.tw10788059911547816233 : True := trivial
theorem hd.tw15089522573102190283 : True := trivial
theorem hd.tw16722109127936396110 : True := trivial
theorem hd.tw11213053971927718326 : True := trivial
theorem hd.tw16415028865518655546 : True := trivial
theorem hd.tw7640094616464845771 : True := trivial
theorem hd.tw2783992281797965187 : True := trivial
theorem hd.tw11032806212648032379 : True := trivial
theorem hd.tw16919406825032445293 : True := trivial
theorem hd.tw13342606739435360313 : True := trivial
theorem hd.tw17047115858639842297 : True := trivial
theorem hd.tw13217827037086042188 : True := trivial
theorem hd.tw3452082135128663414 : True := trivial
theorem hd.tw9430268157657104642 : True := trivial
theorem hd.tw12070051907170230399 : True := trivial
theorem hd.tw15992342658441690333 : True := trivial
theorem hd.tw7654286748164834634 : True := trivial
theorem hd.tw13293453174229064190 : True := trivial
theorem hd.tw17950676927832955104 : True := trivial
theorem hd.tw1241404454085649124 : True := trivial
theorem hd.tw6598312636042714100 : True := trivial
theorem hd.tw5559951931751713254 : True := trivial
theorem hd.tw11115866451450875312 : True := trivial
theorem hd.tw9420132969298855359 : True := trivial
theorem hd.tw1382963296337349011 : True := trivial
theorem hd.tw5138769234217329475 : True := trivial
theorem hd.tw17183224562656869120 : True := trivial
theorem hd.tw13628142620392400109 : True := trivial
theorem hd.tw5715356086224469760 : True := trivial
theorem hd.tw991583007596301734 : True := trivial
theorem hd.tw13825509269061658866 : True := trivial
theorem hd.tw2284436838669742495 : True := trivial
theorem hd.tw12350410155528471161 : True := trivial
theorem hd.tw4402725079659364252 : True := trivial
theorem hd.tw13365295217650922812 : True := trivial
theorem hd.tw12173100003817136821 : True := trivial
theorem hd.tw7598622570094877466 : True := trivial
theorem hd.tw10778013660560245624 : True := trivial
theorem hd.tw5036846961687405229 : True := trivial
theorem hd.tw17919194246423945575 : True := trivial
theorem hd.tw14620637471214046174 : True := trivial
theorem hd.tw14768889098011018680 : True := trivial
theorem hd.tw11283319371284918911 : True := trivial
theorem hd.tw18093812233618175256 : True := trivial
theorem hd.tw13753220567063992666 : True := trivial
theorem hd.tw9170477692918782315 : True := trivial
theorem hd.tw7191455744419660376 : True := trivial
theorem hd.tw7523672394736509286 : True := trivial
theorem hd.tw728884934406724761 : True := trivial
theorem hd.tw10604169790165778682 : True := trivial
theorem hd.tw5461583852855630226 : True := trivial
theorem hd.tw11852641145169952659 : True := trivial
theorem hd.tw4971549296188076032 : True := trivial
theorem hd.tw8047900516022102942 : True := trivial
theorem hd.tw13866372431405929976 : True := trivial
theorem hd.tw17234923516513369237 : True := trivial
theorem hd.tw5245234834050458271 : True := trivial
theorem hd.tw7296583596125217682 : True := trivial
theorem hd.tw13431754692932380062 : True := trivial
theorem hd.tw11375277706881905925 : True := trivial
theorem hd.tw12659318050587179527 : True := trivial
theorem hd.tw3219085151875037572 : True := trivial
theorem hd.tw17420951861521290806 : True := trivial
theorem hd.tw17696971302532935780 : True := trivial
theorem hd.tw13225837485096350037 : True := trivial
theorem hd.tw4856431653887292112 : True := trivial
theorem hd.tw9406673726873002282 : True := trivial
theorem hd.tw313027258313007627 : True := trivial
theorem hd.tw12832683148521936107 : True := trivial
theorem hd.tw9345929723534960622 : True := trivial
theorem hd.tw16649331688326792143 : True := trivial
theorem hd.tw14029546391885035639 : True := trivial
theorem hd.tw5363564295841288755 : True := trivial
theorem hd.tw6046454685291232161 : True := trivial
theorem hd.tw2603259988358896889 : True := trivial
theorem hd.tw15064902949301533346 : True := trivial
theorem hd.tw16634568088961857937 : True := trivial
theorem hd.tw8990313861142287110 : True := trivial
theorem hd.tw15924899543223041283 : True := trivial
theorem hd.tw15527848837575444561 : True := trivial
theorem hd.tw8493152586797012548 : True := trivial
theorem hd.tw11953376511379268794 : True := trivial
theorem hd.tw16456969618363192440 : True := trivial
theorem hd.tw18103342009636024947 : True := trivial
theorem hd.tw16007149819294483003 : True := trivial
theorem hd.tw1013155817946168525 : True := trivial
theorem hd.tw4654797750381630734 : True := trivial
theorem hd.tw3513125359445811510 : True := trivial
theorem hd.tw16259696140248634718 : True := trivial
theorem hd.tw1847840615245081061 : True := trivial
theorem hd.tw16477043939570097188 : True := trivial
theorem hd.tw14060154772996877548 : True := trivial
theorem hd.tw3109861748172591687 : True := trivial
theorem hd.tw4225703048834024713 : True := trivial
theorem hd.tw1535757262459896012 : True := trivial
theorem hd.tw5416991563250132298 : True := trivial
theorem hd.tw9763420282994701918 : True := trivial
theorem hd.tw3876449026389394717 : True := trivial
theorem hd.tw7563641570988238572 : True := trivial
theorem hd.tw1506431575118746342 : True := trivial
theorem hd.tw14683707025165767436 : True := trivial
theorem hd.tw5715734110848049390 : True := trivial
theorem hd.tw15637593595834871717 : True := trivial
theorem hd.tw10404513684093684653 : True := trivial
theorem hd.tw13322179722446271537 : True := trivial
theorem hd.tw18163647496604598072 : True := trivial
theorem hd.tw9449672872311958731 : True := trivial
theorem hd.tw3919010098100093602 : True := trivial
theorem hd.tw9277588360372424766 : True := trivial
theorem hd.tw3922637787740509324 : True := trivial
theorem hd.tw13770079208771991547 : True := trivial
theorem hd.tw13066319289922817542 : True := trivial
theorem hd.tw8117029840178788049 : True := trivial
theorem hd.tw14567429538950270057 : True := trivial
theorem hd.tw15416985209724490359 : True := trivial
theorem hd.tw15166520500009309586 : True := trivial
theorem hd.tw16053994301053490033 : True := trivial
theorem hd.tw15837987909243819085 : True := trivial
theorem hd.tw6892424819385984264 : True := trivial
theorem hd.tw13929354066492186541 : True := trivial
theorem hd.tw11663481321943121269 : True := trivial
theorem hd.tw13289513938125300765 : True := trivial
theorem hd.tw14667805832236412624 : True := trivial
theorem hd.tw17895171251205151618 : True := trivial
theorem hd.tw15759970867653108152 : True := trivial
theorem hd.tw5859118754885311737 : True := trivial
theorem hd.tw12394076208661396346 : True := trivial
theorem hd.tw243823211424636713 : True := trivial
theorem hd.tw16154546982801380032 : True := trivial
theorem hd.tw10603584201595350602 : True := trivial
theorem hd.tw8414420238210853183 : True := trivial
theorem hd.tw12588582704262371052 : True := trivial
theorem hd.tw14852329139284432860 : True := trivial
theorem hd.tw17711083657039698284 : True := trivial
theorem hd.tw6759412095888398321 : True := trivial
theorem hd.tw17628472586750557451 : True := trivial
theorem hd.tw1413172679324656950 : True := trivial
theorem hd.tw13262116225945230012 : True := trivial
theorem hd.tw10806950440038215891 : True := trivial
theorem hd.tw12629568148972539762 : True := trivial
theorem hd.tw9983995961361265002 : True := trivial
theorem hd.tw15277330632498426303 : True := trivial
theorem hd.tw7578210074245671484 : True := trivial
theorem hd.tw4015398097383911347 : True := trivial
theorem hd.tw10296555574160606952 : True := trivial
theorem hd.tw18095200977026478895 : True := trivial
theorem hd.tw8965841893048198262 : True := trivial
theorem hd.tw4449123307109862055 : True := trivial
theorem hd.tw922143313871775805 : True := trivial
theorem hd.tw12797040952259185971 : True := trivial
theorem hd.tw10784824025267889561 : True := trivial
theorem hd.tw16257038226119295666 : True := trivial
theorem hd.tw15610959940260225430 : True := trivial
theorem hd.tw4282304852377368616 : True := trivial
theorem hd.tw14438451200097066615 : True := trivial
theorem hd.tw1600037746751723098 : True := trivial
theorem hd.tw5732804406350252772 : True := trivial
theorem hd.tw10752148897807903841 : True := trivial
theorem hd.tw18185175575083235020 : True := trivial
theorem hd.tw17673860158736603733 : True := trivial
theorem hd.tw3646829019195819677 : True := trivial
theorem hd.tw12399718760709695909 : True := trivial
theorem hd.tw12092154237167983948 : True := trivial
theorem hd.tw7068711184596962023 : True := trivial
theorem hd.tw9345676750909349944 : True := trivial
theorem hd.tw12451258846644117672 : True := trivial
theorem hd.tw17387473266821786944 : True := trivial
theorem hd.tw17737187407176874954 : True := trivial
theorem hd.tw6469175993241445255 : True := trivial
theorem hd.tw6528754448969337418 : True := trivial
theorem hd.tw9131607905817354932 : True := trivial
theorem hd.tw7526368328331116154 : True := trivial
theorem hd.tw2999033326186475339 : True := trivial
theorem hd.tw5505005885091257285 : True := trivial
theorem hd.tw6636792957720756321 : True := trivial
theorem hd.tw1208734638264122097 : True := trivial
theorem hd.tw12337632362937886050 : True := trivial
theorem hd.tw8134915037123179040 : True := trivial
theorem hd.tw6394381022753523788 : True := trivial
theorem hd.tw17902569758825723728 : True := trivial
theorem hd.tw15615420239508185596 : True := trivial
theorem hd.tw14705683404202351889 : True := trivial
theorem hd.tw18330183385023645277 : True := trivial
theorem hd.tw12487502673411948298 : True := trivial
theorem hd.tw442638132926106271 : True := trivial
theorem hd.tw1194904439430580092 : True := trivial
theorem hd.tw11713075325732132258 : True := trivial
theorem hd.tw6293948785866598258 : True := trivial
theorem hd.tw212345690472687942 : True := trivial
theorem hd.tw18103420901670897651 : True := trivial
theorem hd.tw4478964076566166474 : True := trivial
theorem hd.tw5927567313105069670 : True := trivial
theorem hd.tw16211521421427940678 : True := trivial
theorem hd.tw16178712458983371728 : True := trivial
theorem hd.tw18245042118932799458 : True := trivial
theorem hd.tw6140570298594658328 : True := trivial
theorem hd.tw3795277891434052102 : True := trivial
theorem hd.tw6998783941825042932 : True := trivial
theorem hd.tw2134215046882385847 : True := trivial
theorem hd.tw1439246655266547700 : True := trivial
theorem hd.tw17062030032774818151 : True := trivial
theorem hd.tw10258999931320997221 : True := trivial
theorem hd.tw14246236162039180721 : True := trivial
theorem hd.tw11513968764499736323 : True := trivial
theorem hd.tw15578025631644234493 : True := trivial
theorem hd.tw4833718069199227053 : True := trivial
theorem hd.tw1409312971732116557 : True := trivial
theorem hd.tw432457690288141553 : True := trivial
theorem hd.tw461538923250603899 : True := trivial
theorem hd.tw3722166409189360004 : True := trivial
theorem hd.tw12023040214023829324 : True := trivial
theorem hd.tw6196171512934965099 : True := trivial
theorem hd.tw10203026625882799534 : True := trivial
theorem hd.tw17577478241444706838 : True := trivial
theorem hd.tw4138081844389336918 : True := trivial
theorem hd.tw10543509907540572799 : True := trivial
theorem hd.tw7854228177987924090 : True := trivial
theorem hd.tw6819123309680001836 : True := trivial
theorem hd.tw5278057926702712004 : True := trivial
theorem hd.tw16868993833207775613 : True := trivial
theorem hd.tw8735263284916673568 : True := trivial
theorem hd.tw16945582573551092051 : True := trivial
theorem hd.tw13783031573616600631 : True := trivial
theorem hd.tw17893044597097874663 : True := trivial
theorem hd.tw2788664435532181463 : True := trivial
theorem hd.tw13854573162848686387 : True := trivial
theorem hd.tw1882180444382439491 : True := trivial
theorem hd.tw11587034568685482758 : True := trivial
theorem hd.tw14955159897011116063 : True := trivial
theorem hd.tw10258225898301398825 : True := trivial
theorem hd.tw12901994302517312135 : True := trivial
theorem hd.tw6990203504111849199 : True := trivial
theorem hd.tw7792395482447073224 : True := trivial
theorem hd.tw16345102440705955213 : True := trivial
theorem hd.tw13531707123254989501 : True := trivial
theorem hd.tw10465514089279642386 : True := trivial
theorem hd.tw5716766192118558609 : True := trivial
theorem hd.tw8683856772340465682 : True := trivial
theorem hd.tw15153279154761372571 : True := trivial
theorem hd.tw12131494931117144662 : True := trivial
theorem hd.tw3828038474966422129 : True := trivial
theorem hd.tw13217225542625558698 : True := trivial
theorem hd.tw16171809288044610508 : True := trivial
theorem hd.tw7752767780024739350 : True := trivial
theorem hd.tw17986969038992634876 : True := trivial
theorem hd.tw16858285156579221889 : True := trivial
theorem hd.tw5388632664720090651 : True := trivial
theorem hd.tw11754176132448286083 : True := trivial
theorem hd.tw13956165655338008812 : True := trivial
theorem hd.tw9960721518486171458 : True := trivial
theorem hd.tw17336936450418997793 : True := trivial
theorem hd.tw978945382295711627 : True := trivial
theorem hd.tw5976792059365374437 : True := trivial
theorem hd.tw16896567674234606475 : True := trivial
theorem hd.tw5899666649113621702 : True := trivial
theorem hd.tw5054737718236178183 : True := trivial
theorem hd.tw12575139184659369484 : True := trivial
theorem hd.tw9330943631129107780 : True := trivial
theorem hd.tw13475242022060392486 : True := trivial
theorem hd.tw11079593142295127227 : True := trivial
theorem hd.tw1129884963351977449 : True := trivial
theorem hd.tw16443024508289211202 : True := trivial
theorem hd.tw1359830224848277088 : True := trivial
theorem hd.tw13609717118414637909 : True := trivial
theorem hd.tw8959176491354863721 : True := trivial
theorem hd.tw16794629799341752650 : True := trivial
theorem hd.tw5562173858411828344 : True := trivial
theorem hd.tw16332348944364537037 : True := trivial
theorem hd.tw6482722132109649516 : True := trivial
theorem hd.tw10286656452748174568 : True := trivial
theorem hd.tw15634565183472343292 : True := trivial
theorem hd.tw1299046323782801668 : True := trivial
theorem hd.tw2799716289819351777 : True := trivial
theorem hd.tw11917015161858427179 : True := trivial
theorem hd.tw2502866573005156581 : True := trivial
theorem hd.tw833173182276230429 : True := trivial
theorem hd.tw13828106393651249627 : True := trivial
theorem hd.tw6818987989461384207 : True := trivial
theorem hd.tw17975533764899295144 : True := trivial
theorem hd.tw2658526732547218105 : True := trivial
theorem hd.tw12127338746724423809 : True := trivial
theorem hd.tw17252143746492648416 : True := trivial
theorem hd.tw14457593812595234344 : True := trivial
theorem hd.tw16376525773666504680 : True := trivial
theorem hd.tw16306527160902986027 : True := trivial
theorem hd.tw7354087734392854552 : True := trivial
theorem hd.tw16222499966895952523 : True := trivial
theorem hd.tw16698745307106531279 : True := trivial
theorem hd.tw18291419657060728153 : True := trivial
theorem hd.tw15279998641719260112 : True := trivial
theorem hd.tw16487816990975572028 : True := trivial
theorem hd.tw7120233287515763914 : True := trivial
theorem hd.tw15152743547302097792 : True := trivial
theorem hd.tw14598272352848978880 : True := trivial
theorem hd.tw1666387254794493845 : True := trivial
theorem hd.tw9753359207989701909 : True := trivial
theorem hd.tw100483095206116625 : True := trivial
theorem hd.tw13122850982685727845 : True := trivial
theorem hd.tw9555612238305686254 : True := trivial
theorem hd.tw12459740579856956213 : True := trivial
theorem hd.tw7492773218913965947 : True := trivial
theorem hd.tw11403843857237163928 : True := trivial
theorem hd.tw12113243949977362033 : True := trivial
theorem hd.tw5010264101278932077 : True := trivial
theorem hd.tw17397052962432165270 : True := trivial
theorem hd.tw12050417470231563642 : True := trivial
theorem hd.tw4706079058837389440 : True := trivial
theorem hd.tw697623264460660564 : True := trivial
theorem hd.tw8273930003744585626 : True := trivial
theorem hd.tw16009884308244765898 : True := trivial
theorem hd.tw17172931820748874959 : True := trivial
theorem hd.tw8210421348078903774 : True := trivial
theorem hd.tw10678649693572172417 : True := trivial
theorem hd.tw6820862383352777685 : True := trivial
theorem hd.tw8112040973832200146 : True := trivial
theorem hd.tw10844753989422098599 : True := trivial
theorem hd.tw7628703163842673926 : True := trivial
theorem hd.tw12268275109542032366 : True := trivial
theorem hd.tw8587404781116728655 : True := trivial
theorem hd.tw2327210489368252092 : True := trivial
theorem hd.tw2304311442786299043 : True := trivial
theorem hd.tw11210553801493137410 : True := trivial
theorem hd.tw2845679848157327705 : True := trivial
theorem hd.tw8960069828448710407 : True := trivial
theorem hd.tw15411387601460861337 : True := trivial
theorem hd.tw7028611270464810887 : True := trivial
theorem hd.tw1836080755315867724 : True := trivial
theorem hd.tw54727356038600574 : True := trivial
theorem hd.tw15368132723985388332 : True := trivial
theorem hd.tw4523669819894539328 : True := trivial
theorem hd.tw881544763273948857 : True := trivial
theorem hd.tw14353793391729792155 : True := trivial
theorem hd.tw3386092968808520798 : True := trivial
theorem hd.tw13518370688599389936 : True := trivial
theorem hd.tw6154236146145331571 : True := trivial
theorem hd.tw6547078798241139092 : True := trivial
theorem hd.tw1580110805410547442 : True := trivial
theorem hd.tw5130813555471234732 : True := trivial
theorem hd.tw17574625026820762457 : True := trivial
theorem hd.tw7534799579077118603 : True := trivial
theorem hd.tw8268277133935991078 : True := trivial
theorem hd.tw701787995468756871 : True := trivial
theorem hd.tw8244733829118024811 : True := trivial
theorem hd.tw6305734824756694309 : True := trivial
theorem hd.tw1712922718373300912 : True := trivial
theorem hd.tw8351282476255451920 : True := trivial
theorem hd.tw16684818696116721337 : True := trivial
theorem hd.tw5362516397382645915 : True := trivial
theorem hd.tw2855845756224970109 : True := trivial
theorem hd.tw7763873220885509757 : True := trivial
theorem hd.tw17454471701868102899 : True := trivial
theorem hd.tw8458067239894703972 : True := trivial
theorem hd.tw10491609206876299696 : True := trivial
theorem hd.tw6276725880618359904 : True := trivial
theorem hd.tw11912922877643110818 : True := trivial
theorem hd.tw6683769817339685419 : True := trivial
theorem hd.tw14168552714766633299 : True := trivial
theorem hd.tw4021928978595405253 : True := trivial
theorem hd.tw7366208706002141716 : True := trivial
theorem hd.tw15683763237869141255 : True := trivial
theorem hd.tw280609765759037681 : True := trivial
theorem hd.tw10781468475247234061 : True := trivial
theorem hd.tw13220430256171166289 : True := trivial
theorem hd.tw17672654358674132775 : True := trivial
theorem hd.tw7540741092611519060 : True := trivial
theorem hd.tw920214292312260371 : True := trivial
theorem hd.tw5983496337302601536 : True := trivial
theorem hd.tw9657781627882305391 : True := trivial
theorem hd.tw12364972598781006883 : True := trivial
theorem hd.tw4126306136578151734 : True := trivial
theorem hd.tw12900700647772717614 : True := trivial
theorem hd.tw15213948185873263833 : True := trivial
theorem hd.tw1051681510052472703 : True := trivial
theorem hd.tw13468300074154594103 : True := trivial
theorem hd.tw10403243965636340961 : True := trivial
theorem hd.tw3816877163431070358 : True := trivial
theorem hd.tw18219297243305740317 : True := trivial
theorem hd.tw5505332120971382143 : True := trivial
theorem hd.tw13321331477185743149 : True := trivial
theorem hd.tw9073681462420916055 : True := trivial
theorem hd.tw15595854959937240912 : True := trivial
theorem hd.tw16056359734778111409 : True := trivial
theorem hd.tw13280443560766958183 : True := trivial
theorem hd.tw5009564483982726761 : True := trivial
theorem hd.tw732345407407602841 : True := trivial
theorem hd.tw242841246431481386 : True := trivial
theorem hd.tw17088047866570459193 : True := trivial
theorem hd.tw8841187974860818712 : True := trivial
theorem hd.tw4819202231147424091 : True := trivial
theorem hd.tw4111692666942324129 : True := trivial
theorem hd.tw12949589719889679912 : True := trivial
theorem hd.tw14120982254508448379 : True := trivial
theorem hd.tw4325921153153474475 : True := trivial
theorem hd.tw4642405928176397000 : True := trivial
theorem hd.tw11631947586910100387 : True := trivial
theorem hd.tw8832402302947667407 : True := trivial
theorem hd.tw12744807935193187038 : True := trivial
theorem hd.tw1800889605409440832 : True := trivial
theorem hd.tw11915594877312485397 : True := trivial
theorem hd.tw1603739661141634737 : True := trivial
theorem hd.tw12936449754285732098 : True := trivial
theorem hd.tw8609351116199087170 : True := trivial
theorem hd.tw16920754564084929960 : True := trivial
theorem hd.tw3920623390966001496 : True := trivial
theorem hd.tw9228397985900620932 : True := trivial
theorem hd.tw9513423893830186035 : True := trivial
theorem hd.tw6079173187612997037 : True := trivial
theorem hd.tw185848376630758926 : True := trivial
theorem hd.tw13277076834127875243 : True := trivial
theorem hd.tw17076082267592564974 : True := trivial
theorem hd.tw17330945745186091897 : True := trivial
theorem hd.tw6868836192036940282 : True := trivial
theorem hd.tw4360684699965382250 : True := trivial
theorem hd.tw14137390275340422267 : True := trivial
theorem hd.tw1088296927520436173 : True := trivial
theorem hd.tw13474097485772985973 : True := trivial
theorem hd.tw6545403380812914513 : True := trivial
theorem hd.tw4292457097857839397 : True := trivial
theorem hd.tw4817003022231809500 : True := trivial
theorem hd.tw7698358502638924378 : True := trivial
theorem hd.tw8879563391730754479 : True := trivial
theorem hd.tw2040990291671593033 : True := trivial
theorem hd.tw17956543221229664512 : True := trivial
theorem hd.tw3759623122121258479 : True := trivial
theorem hd.tw12611767792052310623 : True := trivial
theorem hd.tw8516288146210602744 : True := trivial
theorem hd.tw8727321023445011275 : True := trivial
theorem hd.tw17542962492245011380 : True := trivial
theorem hd.tw8116116954698963610 : True := trivial
theorem hd.tw14906377314874228009 : True := trivial
theorem hd.tw1760603350576429475 : True := trivial
theorem hd.tw2195365466389143174 : True := trivial
theorem hd.tw3443669649825651883 : True := trivial
theorem hd.tw1097998534492414930 : True := trivial
theorem hd.tw17258206423299326598 : True := trivial
theorem hd.tw4377701919642642989 : True := trivial
theorem hd.tw16502264421070913907 : True := trivial
theorem hd.tw9325612240067072397 : True := trivial
theorem hd.tw9390866547671247325 : True := trivial
theorem hd.tw3493717111155160527 : True := trivial
theorem hd.tw15114108414909977919 : True := trivial
theorem hd.tw6761669909254768831 : True := trivial
theorem hd.tw15083628210047938546 : True := trivial
theorem hd.tw4702841417184801058 : True := trivial
theorem hd.tw2263123870574935043 : True := trivial
theorem hd.tw3530705653197291679 : True := trivial
theorem hd.tw18241275227582772068 : True := trivial
theorem hd.tw14892549342360969540 : True := trivial
theorem hd.tw11905163887095721015 : True := trivial
theorem hd.tw15529170255622000948 : True := trivial
theorem hd.tw6663896369628448293 : True := trivial
theorem hd.tw6931407450589930559 : True := trivial
theorem hd.tw13903934854276604550 : True := trivial
theorem hd.tw1033889070964956483 : True := trivial
theorem hd.tw940617070666608080 : True := trivial
theorem hd.tw10292235466723388172 : True := trivial
theorem hd.tw5511420028821071320 : True := trivial
theorem hd.tw6555240042291301478 : True := trivial
theorem hd.tw16640546478005224243 : True := trivial
theorem hd.tw5873113503399164460 : True := trivial
theorem hd.tw17470177872615007328 : True := trivial
theorem hd.tw8226494294326810461 : True := trivial
theorem hd.tw17386561741084979693 : True := trivial
theorem hd.tw6830512106363814048 : True := trivial
theorem hd.tw2000490053193787569 : True := trivial
theorem hd.tw15833661619300960221 : True := trivial
theorem hd.tw5592360268479517082 : True := trivial
theorem hd.tw6184460063843016694 : True := trivial
theorem hd.tw2037972409741389414 : True := trivial
theorem hd.tw18264374347568628810 : True := trivial
theorem hd.tw8053944837975664402 : True := trivial
theorem hd.tw11389486352061984695 : True := trivial
theorem hd.tw17681399029576232318 : True := trivial
theorem hd.tw567884609423149705 : True := trivial
theorem hd.tw7023726343779634624 : True := trivial
theorem hd.tw11162318198679636149 : True := trivial
theorem hd.tw5567388512258382067 : True := trivial
theorem hd.tw7082855905992002993 : True := trivial
theorem hd.tw7676003278276379012 : True := trivial
theorem hd.tw1610171440888473627 : True := trivial
theorem hd.tw13092906067662860646 : True := trivial
theorem hd.tw1197925565968671727 : True := trivial
theorem hd.tw1848646778235469078 : True := trivial
theorem hd.tw13638418597567726942 : True := trivial
theorem hd.tw5093118826074036667 : True := trivial
theorem hd.tw9184186324627900627 : True := trivial
theorem hd.tw8457440626546761165 : True := trivial
theorem hd.tw11968265576560266318 : True := trivial
theorem hd.tw2391449824757734642 : True := trivial
theorem hd.tw13642289790063256904 : True := trivial
theorem hd.tw226724450230711188 : True := trivial
theorem hd.tw13330244855972007585 : True := trivial
theorem hd.tw3196399650302076718 : True := trivial
theorem hd.tw17325209927041812611 : True := trivial
theorem hd.tw7174315439194531881 : True := trivial
theorem hd.tw7512474625130614241 : True := trivial
theorem hd.tw16029623286316568529 : True := trivial
theorem hd.tw1699103778626983548 : True := trivial
theorem hd.tw13532847315355080253 : True := trivial
theorem hd.tw1331086792558400476 : True := trivial
set_option Elab.async true in
set_option maxHeartbeats 0 in
theorem hd : rA.Holds := by
  w_on
  k_head
  (case hw => w_witness2)
  k_fill
  intro w s₀ s₁ mg mb G Y fa o pm cd doc dV kV ho hd hcd hD hmg hg args vals as hpre hlay hrd hwl hlo
  have KX := km_in_of Y
  k_behind G ho hd hcd hD hmg hpre hlay hrd hwl hlo cd
  k_steps
  rename Heap.NewExc _ _ _ _ => hx
  rename Fr _ _ _ _ => F'
  refine leave_newCW (cls := "TypeError") rfl F' ?_ ?_ ?_ ?_ ?_
  · exact newExc_push hx
  · exact hg
  · wrow_raised
  · rfl
  · rfl
end Mine
end
section
set_option genSizeOf false
set_option genInjectivity false
namespace Mine
inductive Ex2 {α0 α1 : Type} (P : α0 → α1 → Prop) : Prop
  | mk (x0 : α0) (x1 : α1) (h : P x0 x1) : Ex2 P
inductive Ex3 {α0 α1 α2 : Type} (P : α0 → α1 → α2 → Prop) : Prop
  | mk (x0 : α0) (x1 : α1) (x2 : α2) (h : P x0 x1 x2) : Ex3 P
inductive Ex4 {α0 α1 α2 α3 : Type} (P : α0 → α1 → α2 → α3 → Prop) : Prop
  | mk (x0 : α0) (x1 : α1) (x2 : α2) (x3 : α3) (h : P x0 x1 x2 x3) : Ex4 P
inductive Ex6 {α0 α1 α2 α3 α4 α5 : Type} (P : α0 → α1 → α2 → α3 → α4 → α5 → Prop) : Prop
  | mk (x0 : α0) (x1 : α1) (x2 : α2) (x3 : α3) (x4 : α4) (x5 : α5) (h : P x0 x1 x2 x3 x4 x5) : Ex6 P
inductive Ex7 {α0 α1 α2 α3 α4 α5 α6 : Type} (P : α0 → α1 → α2 → α3 → α4 → α5 → α6 → Prop) : Prop
  | mk (x0 : α0) (x1 : α1) (x2 : α2) (x3 : α3) (x4 : α4) (x5 : α5) (x6 : α6) (h : P x0 x1 x2 x3 x4 x5 x6) : Ex7 P
inductive Ex8 {α0 α1 α2 α3 α4 α5 α6 α7 : Type} (P : α0 → α1 → α2 → α3 → α4 → α5 → α6 → α7 → Prop) : Prop
  | mk (x0 : α0) (x1 : α1) (x2 : α2) (x3 : α3) (x4 : α4) (x5 : α5) (x6 : α6) (x7 : α7) (h : P x0 x1 x2 x3 x4 x5 x6 x7) : Ex8 P
inductive Ex9 {α0 α1 α2 α3 α4 α5 α6 α7 α8 : Type} (P : α0 → α1 → α2 → α3 → α4 → α5 → α6 → α7 → α8 → Prop) : Prop
  | mk (x0 : α0) (x1 : α1) (x2 : α2) (x3 : α3) (x4 : α4) (x5 : α5) (x6 : α6) (x7 : α7) (x8 : α8) (h : P x0 x1 x2 x3 x4 x5 x6 x7 x8) : Ex9 P
inductive Ex10 {α0 α1 α2 α3 α4 α5 α6 α7 α8 α9 : Type} (P : α0 → α1 → α2 → α3 → α4 → α5 → α6 → α7 → α8 → α9 → Prop) : Prop
  | mk (x0 : α0) (x1 : α1) (x2 : α2) (x3 : α3) (x4 : α4) (x5 : α5) (x6 : α6) (x7 : α7) (x8 : α8) (x9 : α9) (h : P x0 x1 x2 x3 x4 x5 x6 x7 x8 x9) : Ex10 P
structure An3 (p0 p1 p2 : Prop) : Prop where
  mk :: (h0 : p0) (h1 : p1) (h2 : p2)
structure An4 (p0 p1 p2 p3 : Prop) : Prop where
  mk :: (h0 : p0) (h1 : p1) (h2 : p2) (h3 : p3)
structure An5 (p0 p1 p2 p3 p4 : Prop) : Prop where
  mk :: (h0 : p0) (h1 : p1) (h2 : p2) (h3 : p3) (h4 : p4)
structure An6 (p0 p1 p2 p3 p4 p5 : Prop) : Prop where
  mk :: (h0 : p0) (h1 : p1) (h2 : p2) (h3 : p3) (h4 : p4) (h5 : p5)
structure An7 (p0 p1 p2 p3 p4 p5 p6 : Prop) : Prop where
  mk :: (h0 : p0) (h1 : p1) (h2 : p2) (h3 : p3) (h4 : p4) (h5 : p5) (h6 : p6)
structure An8 (p0 p1 p2 p3 p4 p5 p6 p7 : Prop) : Prop where
  mk :: (h0 : p0) (h1 : p1) (h2 : p2) (h3 : p3) (h4 : p4) (h5 : p5) (h6 : p6) (h7 : p7)
structure An10 (p0 p1 p2 p3 p4 p5 p6 p7 p8 p9 : Prop) : Prop where
  mk :: (h0 : p0) (h1 : p1) (h2 : p2) (h3 : p3) (h4 : p4) (h5 : p5) (h6 : p6) (h7 : p7) (h8 : p8) (h9 : p9)
structure An13 (p0 p1 p2 p3 p4 p5 p6 p7 p8 p9 p10 p11 p12 : Prop) : Prop where
  mk :: (h0 : p0) (h1 : p1) (h2 : p2) (h3 : p3) (h4 : p4) (h5 : p5) (h6 : p6) (h7 : p7) (h8 : p8) (h9 : p9) (h10 : p10) (h11 : p11) (h12 : p12)
end Mine
end
section
open PySem PySem.W PyProof.Rows PySem.Calls
set_option maxRecDepth 100000
namespace Mine
noncomputable abbrev Led := List (Addr × Obj)
noncomputable abbrev Loc := Str → Option Value
noncomputable abbrev Vals := List (Option Value)
noncomputable def fr : List Str → Vals → Loc
  | n :: ns, v :: vs => fun x => if x = n then v else fr ns vs x
  | _, _ => fun _ => none
theorem fr_get : ∀ {nm : List Str} {vals : Vals} {i : Nat} {x : Str} {v : Option Value}, nm.Nodup → nm[i]? = some x → vals[i]? = some v → fr nm vals x = v
  | [], _, _, _, _, _, h, _ => by simp at h
  | _ :: _, [], _, _, _, _, _, h => by simp at h
  | n :: ns, w :: vs, 0, x, v, _, h, hv => by
    simp only [List.getElem?_cons_zero, Option.some.injEq] at h hv
    subst h hv; simp [fr]
  | n :: ns, w :: vs, i + 1, x, v, nd, h, hv => by
    simp only [List.getElem?_cons_succ] at h hv
    have hne : x ≠ n := fun e => (List.nodup_cons.mp nd).1 (e ▸ List.mem_of_getElem? h)
    simp only [fr, if_neg hne]
    exact fr_get (List.nodup_cons.mp nd).2 h hv
theorem fr_set : ∀ {nm : List Str} {vals : Vals} {i : Nat} {x : Str} {v : Value}, nm.Nodup → nm[i]? = some x → i < vals.length →
    (fun y => if y = x then some v else fr nm vals y) = fr nm (vals.set i (some v))
  | [], _, _, _, _, _, h, _ => by simp at h
  | _ :: _, [], _, _, _, _, _, h => by simp at h
  | n :: ns, w :: vs, 0, x, v, _, h, _ => by
    simp only [List.getElem?_cons_zero, Option.some.injEq] at h
    subst h; funext y
    simp only [fr, List.set_cons_zero]
    split <;> rfl
  | n :: ns, w :: vs, i + 1, x, v, nd, h, hl => by
    simp only [List.getElem?_cons_succ] at h
    have hne : x ≠ n := fun e => (List.nodup_cons.mp nd).1 (e ▸ List.mem_of_getElem? h)
    funext y
    have ih := congrFun (fr_set (v := v) (List.nodup_cons.mp nd).2 h (Nat.lt_of_succ_lt_succ hl)) y
    simp only [fr, List.set_cons_succ]
    by_cases hy : y = n
    · subst hy; simp [hne.symm]
    · simp only [if_neg hy]; rw [← ih]
noncomputable def bv (bs : List (Str × Value)) (k : Nat) : Vals := bs.map (fun b => some b.2) ++ List.replicate k none
theorem fr_nones : ∀ (nm : List Str) (k : Nat) (x : Str), fr nm (List.replicate k none) x = none
  | [], _, _ => rfl
  | _ :: _, 0, _ => rfl
  | n :: ns, k + 1, x => by
    simp only [List.replicate_succ, fr]
    split
    · rfl
    · exact fr_nones ns k x
theorem fr_lookup : ∀ (bs : List (Str × Value)) (rest : List Str) (x : Str), fr (bs.map (·.1) ++ rest) (bv bs rest.length) x = bs.lookup x
  | [], rest, x => by simp [bv, fr_nones]
  | b :: bs, rest, x => by
    have := fr_lookup bs rest x
    simp only [bv, List.map_cons, List.cons_append, fr] at this ⊢
    rw [List.lookup_cons]
    by_cases h : x = b.1
    · simp [h]
    · have : (x == b.1) = false := by simp [h]
      simp [h, this]; assumption
theorem lookup_append' (x : Str) : ∀ (a c : List (Str × Value)), (a ++ c).lookup x = (a.lookup x).or (c.lookup x)
  | [], _ => by simp
  | p :: a, c => by
    rw [List.cons_append, List.lookup_cons, List.lookup_cons]
    cases h : x == p.1 with
    | true => simp
    | false => simpa using lookup_append' x a c
theorem lookup_none_of {x : Str} : ∀ {bs : List (Str × Value)}, x ∉ bs.map (·.1) → bs.lookup x = none
  | [], _ => rfl
  | b :: bs, h => by
    have h1 : ¬ x = b.1 := fun e => h (by simp [e])
    have h2 : x ∉ bs.map (·.1) := fun e => h (by simp only [List.map_cons, List.mem_cons]; exact .inr e)
    have : (x == b.1) = false := by simp [h1]
    rw [List.lookup_cons, this]; exact lookup_none_of h2
theorem lookup_rev : ∀ (bs : List (Str × Value)) (x : Str), (bs.map (·.1)).Nodup → bs.reverse.lookup x = bs.lookup x
  | [], _, _ => rfl
  | (k, v) :: bs, x, nd => by
    rw [List.reverse_cons, lookup_append']
    rw [List.map_cons, List.nodup_cons] at nd
    rw [lookup_rev bs x nd.2, List.lookup_cons, List.lookup_cons]
    cases h : x == k with
    | true =>
      have e : x = k := by simpa using h
      have : bs.lookup x = none := by
        refine lookup_none_of ?_
        rw [e]; exact nd.1
      rw [this]; rfl
    | false => cases bs.lookup x <;> rfl
theorem fr_binds {bs : List (Str × Value)} {rest nm : List Str} (h : bs.map (·.1) ++ rest = nm) (nd : nm.Nodup) : (fun x => bs.reverse.lookup x) = fr nm (bv bs rest.length) := by
  funext x
  subst h
  rw [fr_lookup, lookup_rev]
  exact (List.nodup_append.mp nd).1
structure Wd where
  prog : Program
  w : World
  p : Program
  lo : List Str
  mg : Loc
  mb : Loc
structure Nm where
  loc : List Str
  glo : List Str
structure ScOk (names : List (Str × NameKind)) (nm gl : List Str) : Prop where
  nd : nm.Nodup
  loc : ∀ x ∈ nm, names.lookup x = some .local ∧ (x == ("__debug__" : Str)) = false
  glo : ∀ x ∈ gl, names.lookup x = some .globalImplicit ∧ (x == ("__debug__" : Str)) = false
theorem scOk_of {names : List (Str × NameKind)} {nm gl : List Str}
    (h : (decide nm.Nodup && nm.all (fun x => names.lookup x == some .local && (x == ("__debug__" : Str)) == false) && gl.all (fun x => names.lookup x == some .globalImplicit && (x == ("__debug__" : Str)) == false)) = true) : ScOk names nm gl := by
  simp only [Bool.and_eq_true, List.all_eq_true, beq_iff_eq, decide_eq_true_eq] at h
  exact ⟨h.1.1, fun x hx => h.1.2 x hx, fun x hx => h.2 x hx⟩
structure EnvIs (env : Env) (L : Addr) : Prop where
  loc : env.locals = L
  kind : env.scope.kind = .function
  glob : env.globals = mainGlobals
  bi : env.builtins = builtinsNs
structure Frm (K : Params → Frag) (N : Nm) (W : Wd) where
  h : Heap
  L : Addr
  X : (K W.w.params).In h
  T : TopRead W.p W.lo W.mg W.mb h
  A : Around
  env : Env
  e : EnvIs env L
  sc : ScOk env.scope.names N.loc N.glo
structure Room (A : Around) (n : Nat) : Prop where
  hh : A.handled = none
  d : A.depth + n < recursionLimit
  u : A.units + 8 * n < cLine
theorem Room.deeper {A : Around} {n : Nat} {env : Env} (r : Room A (n + 1)) : Room (A.deeper env) n := by
  obtain ⟨a, b, c⟩ := r
  refine ⟨a, ?_, ?_⟩
  · show A.depth + 1 + n < recursionLimit
    omega
  · show A.units + 3 + 8 * n < cLine
    omega
theorem Room.less {A : Around} {n m : Nat} (r : Room A n) (h : m ≤ n) : Room A m := ⟨r.hh, by have := r.d; omega, by have := r.u; omega⟩
section
variable {K : Params → Frag} {N : Nm} {W : Wd}
structure At (Ψ : Frm K N W) (vals : Vals) (l : Led) (s : Shared) : Prop where
  F : Fr Ψ.h Ψ.L s.heap (fr N.loc vals)
  N : News Ψ.h Ψ.L s.heap l
  U : (l.map (·.1)).Nodup
  G : ∀ x ∈ l, 2 < x.1
noncomputable def Same (s s' : Shared) : Prop := s'.gens = s.gens ∧ s'.os = s.os
theorem Same.refl (s : Shared) : Same s s := ⟨rfl, rfl⟩
theorem Same.trans {a b c : Shared} (x : Same a b) (y : Same b c) : Same a c := ⟨y.1.trans x.1, y.2.trans x.2⟩
noncomputable def WA {α : Type} {K : Params → Frag} {N : Nm} {W : Wd} (Ψ : Frm K N W) (T : Sem α) (Q : α → Vals → Led → Prop) (vals : Vals) (l : Led) : Prop :=
  ∀ (E : Value → Shared → Prop) (s : Shared), At Ψ vals l s → wpAny (model W.prog W.w) Ψ.A T (fun v s' => Same s s' ∧ ∃ vals' l', At Ψ vals' l' s' ∧ Q v vals' l') E s
variable {α β : Type} {Ψ : Frm K N W} {vals : Vals} {l : Led}
theorem WA.use {T : Sem α} {Q : α → Vals → Led → Prop} {P : α → Shared → Prop} {E : Value → Shared → Prop} {s : Shared} (h : WA Ψ T Q vals l) (a : At Ψ vals l s)
    (k : ∀ v s' vals' l', Same s s' → At Ψ vals' l' s' → Q v vals' l' → P v s') : wpAny (model W.prog W.w) Ψ.A T P E s :=
  wpAny_mono (h E s a) (fun v s' ⟨S, v', l', a', q⟩ => k v s' v' l' S a' q) fun _ _ e => e
theorem WA.pure {v : α} {Q : α → Vals → Led → Prop} (q : Q v vals l) : WA Ψ (Pure.pure v) Q vals l := fun _ s a => wpAny_pure ⟨Same.refl s, vals, l, a, q⟩
theorem WA.bind {T : Sem α} {f : α → Sem β} {Q : β → Vals → Led → Prop} (h : WA Ψ T (fun v vals l => WA Ψ (f v) Q vals l) vals l) : WA Ψ (T >>= f) Q vals l :=
  fun _ _ a => wpAny_bind (h.use a fun _ _ _ _ S a' q => WA.use q a' fun _ _ v' l' S' a'' q' => ⟨S.trans S', v', l', a'', q'⟩)
theorem WA.mono {T : Sem α} {Q Q' : α → Vals → Led → Prop} (h : WA Ψ T Q vals l) (k : ∀ v vals' l', Q v vals' l' → Q' v vals' l') : WA Ψ T Q' vals l :=
  fun _ _ a => h.use a fun v _ v' l' S a' q => ⟨S, v', l', a', k v v' l' q⟩
theorem WA.map {T : Sem α} {f : α → β} {Q : β → Vals → Led → Prop} (h : WA Ψ T (fun v vals l => Q (f v) vals l) vals l) : WA Ψ (f <$> T) Q vals l :=
  fun _ _ a => wpAny_map (h.use a fun _ _ v' l' S a' q => ⟨S, v', l', a', q⟩)
theorem WA.same {T : Sem α} {v : Tok → α} {Q : α → Vals → Led → Prop} (q : ∀ t, Q (v t) vals l)
    (r : ∀ (E : Value → Shared → Prop) (P : α → Shared → Prop) (s : Shared), At Ψ vals l s → (∀ t tk, P (v t) { s with toks := tk }) → wpAny (model W.prog W.w) Ψ.A T P E s) : WA Ψ T Q vals l :=
  fun E s a => r E _ s a fun t _ => ⟨⟨rfl, rfl⟩, vals, l, ⟨a.F, a.N, a.U, a.G⟩, q t⟩
theorem WA.holding {vs : List Value} {T : Sem α} {Q : α → Vals → Led → Prop} (h : WA Ψ T Q vals l) : WA Ψ (holding vs T) Q vals l := fun E s a => wpAny_holding (h E s a)
theorem WA.standAt {pos : Pos} {Q : Unit → Vals → Led → Prop} (q : Q () vals l) : WA Ψ (standAt pos) Q vals l := fun _ s a => wpAny_standAt ⟨Same.refl s, vals, l, a, q⟩
theorem WA.point {Q : Unit → Vals → Led → Prop} (q : Q () vals l) : WA Ψ point Q vals l := fun _ s a => wpAny_point ⟨Same.refl s, vals, l, a, q⟩
theorem WA.release_go {keep : List Value} {Q : Unit → Vals → Led → Prop} (q : Q () vals l) : ∀ vs, WA Ψ (release.go keep vs) Q vals l
  | [] => WA.pure q
  | [_] => WA.pure q
  | _ :: b :: r => WA.bind (WA.holding (WA.point (WA.release_go q (b :: r))))
theorem WA.release {vs keep : List Value} {Q : Unit → Vals → Led → Prop} (q : Q () vals l) : WA Ψ (release vs keep) Q vals l := WA.release_go q _
theorem WA.operate {vs : List Value} {T : Sem Value} {Q : Value → Vals → Led → Prop} (h : WA Ψ T Q vals l) : WA Ψ (operate vs T) Q vals l :=
  WA.bind (WA.mono (WA.holding h) fun _ _ _ q => WA.bind (WA.release (WA.pure q)))
theorem At.sub {l' : Led} {s : Shared} (a : At Ψ vals l s) (h : ∀ x ∈ l', x ∈ l) (u : (l'.map (·.1)).Nodup) : At Ψ vals l' s := ⟨a.F, fun x hx => a.N x (h x hx), u, fun x hx => a.G x (h x hx)⟩
theorem WA.sub {T : Sem α} {Q : α → Vals → Led → Prop} (l' : Led) (h : ∀ x ∈ l', x ∈ l) (u : (l.map (·.1)).Nodup → (l'.map (·.1)).Nodup) (q : WA Ψ T Q vals l') : WA Ψ T Q vals l :=
  fun E s a => q E s (a.sub h (u a.U))
theorem WA.perm {T : Sem α} {Q : α → Vals → Led → Prop} (l' : Led) (h : l'.Perm l) (q : WA Ψ T Q vals l') : WA Ψ T Q vals l :=
  WA.sub l' (fun _ hx => h.mem_iff.mp hx) (fun u => (h.map _).nodup_iff.mpr u) q
theorem WA.eqL {T : Sem α} {Q : α → Vals → Led → Prop} (l' : Led) (h : l' = l) (q : WA Ψ T Q vals l') : WA Ψ T Q vals l := h ▸ q
theorem WA.sublist {T : Sem α} {Q : α → Vals → Led → Prop} (l' : Led) (h : l'.Sublist l) (q : WA Ψ T Q vals l') : WA Ψ T Q vals l :=
  WA.sub l' (fun _ hx => h.subset hx) (fun u => List.Nodup.sublist (h.map _) u) q
theorem WA.subPost {T : Sem α} {Q : α → Vals → Led → Prop} (h : WA Ψ T (fun v vals l => ∃ l', l'.Sublist l ∧ Q v vals l') vals l) : WA Ψ T Q vals l :=
  fun _ _ a => h.use a fun _ _ v' _ S a' ⟨l'', sl, q⟩ => ⟨S, v', l'', a'.sub (fun _ hx => sl.subset hx) (List.Nodup.sublist (sl.map _) a'.U), q⟩
theorem WA.facts {T : Sem α} {Q : α → Vals → Led → Prop} (h : (l.map (·.1)).Nodup → WA Ψ T Q vals l) : WA Ψ T Q vals l := fun E s a => h a.U E s a
theorem At.push {s : Shared} {o : Obj} {tk : Nat} (a : At Ψ vals l s) (ho : o.isFreed = false := by rfl) : At Ψ vals ((s.heap.objs.size, o) :: l) { s with heap := s.heap.push o, toks := tk } :=
  ⟨a.F.push o, a.N.push a.F o ho, by
    rw [List.map_cons, List.nodup_cons]
    refine ⟨fun h => ?_, a.U⟩
    obtain ⟨x, hx, e⟩ := List.mem_map.mp h
    exact absurd (Heap.lt_size (a.N x hx).1) (by rw [e]; exact Nat.lt_irrefl _), fun x hx => by
    rcases List.mem_cons.mp hx with rfl | hx
    · obtain ⟨_, h, _⟩ := Ψ.T.nolimit.keeps a.F.keep
      exact h.lt
    · exact a.G x hx⟩
theorem At.upd {s : Shared} {pre post : Led} {x : Addr} {o o' : Obj} {h' : Heap} {tk : Nat} (a : At Ψ vals (pre ++ (x, o) :: post) s) (hs : Heap.SameBut x s.heap h') (ho : h'.get? x = some o') :
    At Ψ vals (pre ++ (x, o') :: post) { s with heap := h', toks := tk } := by
  have hx := a.N (x, o) (List.mem_append_right _ (.head _))
  have hU := a.U
  rw [List.map_append, List.map_cons, List.nodup_append, List.nodup_cons] at hU
  have ne : ∀ q ∈ pre ++ post, q.1 ≠ x := by
    intro q hq e
    rcases List.mem_append.mp hq with h | h
    · exact hU.2.2 q.1 (List.mem_map_of_mem h) x (.head _) e
    · exact hU.2.1.1 (List.mem_map.mpr ⟨q, h, e⟩)
  refine ⟨⟨a.F.ns.sameBut hs (Ne.symm hx.2.1), fun b ob e => (hs.2 b fun q => ?_).trans (a.F.keep b ob e), a.F.above⟩, fun q hq => ?_, ?_, ?_⟩
  · rw [q, hx.2.2] at e; cases e
  · rcases List.mem_append.mp hq with h | h
    · have n := a.N q (List.mem_append_left _ h)
      exact ⟨(hs.2 _ (ne q (List.mem_append_left _ h))).trans n.1, n.2⟩
    · rcases List.mem_cons.mp h with rfl | h
      · exact ⟨ho, hx.2⟩
      · have n := a.N q (List.mem_append_right _ (.tail _ h))
        exact ⟨(hs.2 _ (ne q (List.mem_append_right _ h))).trans n.1, n.2⟩
  · have hU := a.U
    simpa only [List.map_append, List.map_cons] using hU
  · intro q hq
    rcases List.mem_append.mp hq with h | h
    · exact a.G q (List.mem_append_left _ h)
    · rcases List.mem_cons.mp h with rfl | h
      · exact a.G (x, o) (List.mem_append_right _ (.head _))
      · exact a.G q (List.mem_append_right _ (.tail _ h))
theorem At.setLoc {s : Shared} {vals' : Vals} {h' : Heap} {tk : Nat} (a : At Ψ vals l s) (hn : h'.Ns Ψ.L (fr N.loc vals')) (hs : Heap.SameBut Ψ.L s.heap h') : At Ψ vals' l { s with heap := h', toks := tk } :=
  ⟨a.F.set hn hs, a.N.set hs, a.U, a.G⟩
theorem WA.name {x : Str} {pos : Pos} {i : Nat} {v : Value} {Q : Value → Vals → Led → Prop} (hk : Ψ.env.kindOf x = some .local ∧ (x == ("__debug__" : Str)) = false) (hi : N.loc[i]? = some x) (hv : vals[i]? = some (some v)) (q : Q v vals l) :
    WA Ψ (eval (.Name x pos) Ψ.env) Q vals l := fun _ s a =>
  wpAny_Name (wpAny_loadName_local Ψ.e.kind hk.1 (Ψ.e.loc ▸ a.F.ns) (fr_get Ψ.sc.nd hi hv) ⟨Same.refl s, vals, l, a, q⟩) hk.2
theorem WA.store {x : Str} {i : Nat} {v : Value} {Q : Unit → Vals → Led → Prop} {vals' : Vals} (hk : Ψ.env.kindOf x = some .local ∧ (x == ("__debug__" : Str)) = false) (hi : N.loc[i]? = some x) (hl : i < vals.length) (hs : vals.set i (some v) = vals') (q : Q () vals' l) :
    WA Ψ (storeName Ψ.env x v) Q vals l := fun _ s a => by
  refine wpAny_storeName_local hk.1 (Ψ.e.loc ▸ a.F.ns) (fun h' hn hb => ?_) (by rw [Ψ.e.kind]; rfl)
  rw [Ψ.e.loc] at hn hb
  rw [fr_set Ψ.sc.nd hi hl, hs] at hn
  exact ⟨⟨rfl, rfl⟩, vals', l, a.setLoc hn hb, q⟩
theorem WA.bindName {x : Str} {i : Nat} {v : Value} {Q : Unit → Vals → Led → Prop} {vals' : Vals} (hk : Ψ.env.kindOf x = some .local ∧ (x == ("__debug__" : Str)) = false) (hi : N.loc[i]? = some x) (hl : i < vals.length) (hs : vals.set i (some v) = vals') (q : Q () vals' l) :
    WA Ψ (bindName Ψ.env x v) Q vals l :=
  WA.bind (WA.holding (WA.point (WA.bind (WA.store hk hi hl hs (WA.point q)))))
noncomputable def GlobIs (K : Frag) (x : Str) (v : Value) : Prop := nsIn K mainGlobals x = some (some v) ∨ (nsIn K mainGlobals x = some none ∧ bootBuiltins x = some v ∧ x ≠ "__name__")
theorem WA.glob {x : Str} {pos : Pos} {v : Value} {Q : Value → Vals → Led → Prop} (hk : Ψ.env.kindOf x = some .globalImplicit ∧ (x == ("__debug__" : Str)) = false) (g : GlobIs (K W.w.params) x v) (q : Q v vals l) :
    WA Ψ (eval (.Name x pos) Ψ.env) Q vals l := fun _ s a => by
  refine Name_function_global Ψ.e.kind hk.1 ?_ hk.2
  have G : s.heap.Ns Ψ.env.globals W.mg := Ψ.e.glob ▸ Ψ.T.g.keeps a.F.keep
  rcases g with g | ⟨g1, g2, g3⟩
  · exact loadGlobal_global G (mg_of Ψ.X Ψ.T.g g) ⟨Same.refl s, vals, l, a, q⟩
  · exact loadGlobal_builtin G (mg_none_of Ψ.X Ψ.T.g g1) (Ψ.e.bi ▸ Ψ.T.b.keeps a.F.keep) ((Ψ.T.builtins x g3).trans g2) ⟨Same.refl s, vals, l, a, q⟩
theorem WA.cInt {i : Int} {k : Nat} {pos : Pos} {Q : Value → Vals → Led → Prop} (q : ∀ t, Q (.int i t) vals l) : WA Ψ (eval (.Constant (.int i) k pos) Ψ.env) Q vals l :=
  WA.same q fun _ _ _ _ h => wpAny_mkInt (h _ _)
theorem WA.cStr {x : Str} {k : Nat} {pos : Pos} {Q : Value → Vals → Led → Prop} (q : ∀ t, Q (.str x t) vals l) : WA Ψ (eval (.Constant (.str x) k pos) Ψ.env) Q vals l :=
  WA.same q fun _ _ _ _ h => wpAny_mkText (h _ _)
theorem WA.cNone {k : Nat} {pos : Pos} {Q : Value → Vals → Led → Prop} (q : Q .none vals l) : WA Ψ (eval (.Constant .none k pos) Ψ.env) Q vals l := WA.pure q
theorem WA.cBool {b : Bool} {k : Nat} {pos : Pos} {Q : Value → Vals → Led → Prop} (q : Q (.bool b) vals l) : WA Ψ (eval (.Constant (.bool b) k pos) Ψ.env) Q vals l := WA.pure q
theorem WA.binOp {x y : Expr} {op : Operator} {pos : Pos} {Q : Value → Vals → Led → Prop}
    (h : WA Ψ (eval x Ψ.env) (fun a vals l => WA Ψ (eval y Ψ.env) (fun b vals l => WA Ψ (binaryOp op a b) Q vals l) vals l) vals l) : WA Ψ (eval (.BinOp x op y pos) Ψ.env) Q vals l :=
  WA.bind (h.mono fun _ _ _ h' => WA.bind (WA.holding (h'.mono fun _ _ _ h'' => WA.bind (WA.standAt (WA.operate h'')))))
theorem WA.unOp {x : Expr} {op : UnaryOp} {pos : Pos} {Q : Value → Vals → Led → Prop} (h : WA Ψ (eval x Ψ.env) (fun a vals l => WA Ψ (unaryOp op a) Q vals l) vals l) : WA Ψ (eval (.UnaryOp op x pos) Ψ.env) Q vals l :=
  WA.bind (h.mono fun _ _ _ h' => WA.bind (WA.standAt (WA.holding h')))
theorem WA.ifExp {t x y : Expr} {pos : Pos} {Q : Value → Vals → Led → Prop}
    (h : WA Ψ (isTrue t Ψ.env (eval t Ψ.env)) (fun b vals l => if b = true then WA Ψ (eval x Ψ.env) Q vals l else WA Ψ (eval y Ψ.env) Q vals l) vals l) : WA Ψ (eval (.IfExp t x y pos) Ψ.env) Q vals l :=
  WA.bind (h.mono fun b _ _ h' => by cases b <;> simpa using h')
theorem WA.cmp {x y : Expr} {op : CmpOp} {pos : Pos} {Q : Value → Vals → Led → Prop} (hm : behindInMarks op y = false)
    (h : WA Ψ (eval x Ψ.env) (fun a vals l => WA Ψ (eval y Ψ.env) (fun b vals l => WA Ψ (compareOp op a b) Q vals l) vals l) vals l) : WA Ψ (eval (.Compare x [op] [y] pos) Ψ.env) Q vals l := by
  refine WA.bind (h.mono fun _ _ _ h' => ?_)
  have e : markedEach [op] [y] (evalEach [y] Ψ.env) = [eval y Ψ.env] := by
    show [markedBehindIn op y (eval y Ψ.env)] = _
    rw [markedBehindIn_of_false]
    exact hm
  rw [e]
  exact WA.bind (WA.holding (h'.mono fun _ _ _ h'' => WA.bind (WA.standAt (WA.operate h''))))
theorem WA.tCmp {x y : Expr} {op : CmpOp} {pos : Pos} {whole : Sem Value} {Q : Bool → Vals → Led → Prop} (hm : behindInMarks op y = false)
    (h : WA Ψ (eval x Ψ.env) (fun a vals l => WA Ψ (eval y Ψ.env) (fun b vals l => WA Ψ (compareOp op a b) (fun c vals l => WA Ψ (truthy c) Q vals l) vals l) vals l) vals l) : WA Ψ (isTrue (.Compare x [op] [y] pos) Ψ.env whole) Q vals l := by
  refine WA.bind (h.mono fun _ _ _ h' => ?_)
  have e : markedEach [op] [y] (evalEach [y] Ψ.env) = [eval y Ψ.env] := by
    show [markedBehindIn op y (eval y Ψ.env)] = _
    rw [markedBehindIn_of_false]
    exact hm
  rw [e]
  exact WA.bind (WA.holding (h'.mono fun _ _ _ h'' => WA.bind (WA.standAt (WA.bind (WA.operate (h''.mono fun _ _ _ h3 => WA.holding h3))))))
theorem WA.tNot {x : Expr} {pos : Pos} {whole : Sem Value} {Q : Bool → Vals → Led → Prop} (h : WA Ψ (isTrue x Ψ.env (eval x Ψ.env)) (fun b vals l => Q (!b) vals l) vals l) : WA Ψ (isTrue (.UnaryOp .Not x pos) Ψ.env whole) Q vals l :=
  WA.bind (h.mono fun _ _ _ h' => WA.pure h')
theorem WA.tBool {op : BoolOp} {vs : List Expr} {pos : Pos} {whole : Sem Value} {Q : Bool → Vals → Led → Prop} (h : WA Ψ (allTrue op vs Ψ.env) Q vals l) : WA Ψ (isTrue (.BoolOp op vs pos) Ψ.env whole) Q vals l := h
theorem WA.allNil {op : BoolOp} {Q : Bool → Vals → Led → Prop} (q : Q (op == .And) vals l) : WA Ψ (allTrue op [] Ψ.env) Q vals l := WA.pure q
theorem WA.allAnd {x : Expr} {r : List Expr} {Q : Bool → Vals → Led → Prop} (h : WA Ψ (isTrue x Ψ.env (eval x Ψ.env)) (fun b vals l => if b = true then WA Ψ (allTrue .And r Ψ.env) Q vals l else Q false vals l) vals l) : WA Ψ (allTrue .And (x :: r) Ψ.env) Q vals l :=
  WA.bind (h.mono fun b _ _ h' => by
    cases b
    · exact WA.pure (by simpa using h')
    · simpa using h')
theorem WA.allOr {x : Expr} {r : List Expr} {Q : Bool → Vals → Led → Prop} (h : WA Ψ (isTrue x Ψ.env (eval x Ψ.env)) (fun b vals l => if b = true then Q true vals l else WA Ψ (allTrue .Or r Ψ.env) Q vals l) vals l) : WA Ψ (allTrue .Or (x :: r) Ψ.env) Q vals l :=
  WA.bind (h.mono fun b _ _ h' => by
    cases b
    · simpa using h'
    · exact WA.pure (by simpa using h'))
theorem WA.tPlain {e : Expr} {whole : Sem Value} {Q : Bool → Vals → Led → Prop} (h : WA Ψ whole (fun v vals l => WA Ψ (truthy v) Q vals l) vals l)
    (he : isTrue e Ψ.env whole = (do let v ← whole; PySem.standAt e.pos; PySem.holding [v] (truthy v)) := by rfl) : WA Ψ (isTrue e Ψ.env whole) Q vals l := by
  rw [he]
  exact WA.bind (h.mono fun _ _ _ h' => WA.bind (WA.standAt (WA.holding h')))
theorem WA.trBool {b : Bool} {Q : Bool → Vals → Led → Prop} (q : Q b vals l) : WA Ψ (truthy (.bool b)) Q vals l := fun _ s a => wpAny_truthy_bool ⟨Same.refl s, vals, l, a, q⟩
theorem WA.trInt {i : Int} {t : Tok} {Q : Bool → Vals → Led → Prop} (q : Q (i != 0) vals l) : WA Ψ (truthy (.int i t)) Q vals l := fun _ s a => truthy_int ⟨Same.refl s, vals, l, a, q⟩
theorem WA.trNone {Q : Bool → Vals → Led → Prop} (q : Q false vals l) : WA Ψ (truthy .none) Q vals l := fun _ s a => truthy_none ⟨Same.refl s, vals, l, a, q⟩
section
variable {a b : Int} {t u : Tok} {Q : Value → Vals → Led → Prop}
theorem WA.add (q : ∀ t, Q (.int (a + b) t) vals l) : WA Ψ (binaryOp .Add (.int a t) (.int b u)) Q vals l := WA.same q fun _ _ _ _ h => add_int (h _ _)
theorem WA.iadd (q : ∀ t, Q (.int (a + b) t) vals l) : WA Ψ (inplaceOp .Add (.int a t) (.int b u)) Q vals l := WA.same q fun _ _ _ _ h => wpAny_iadd_int (h _ _)
theorem WA.sub' (q : ∀ t, Q (.int (a - b) t) vals l) : WA Ψ (binaryOp .Sub (.int a t) (.int b u)) Q vals l := WA.same q fun _ _ _ _ h => sub_int (h _ _)
theorem WA.mul (ok : IntMulOk a b) (q : ∀ t, Q (.int (a * b) t) vals l) : WA Ψ (binaryOp .Mult (.int a t) (.int b u)) Q vals l := WA.same q fun _ _ _ _ h => mul_int (h _ _) ok
theorem WA.mod (hb : b ≠ 0) (q : ∀ t, Q (.int (Int.fmod a b) t) vals l) : WA Ψ (binaryOp .Mod (.int a t) (.int b u)) Q vals l := WA.same q fun _ _ _ _ h => mod_int' hb (h _ _)
theorem WA.band (q : ∀ t, Q (.int (Builtin.bitAnd a b) t) vals l) : WA Ψ (binaryOp .BitAnd (.int a t) (.int b u)) Q vals l := WA.same q fun _ _ _ _ h => and_int (h _ _)
theorem WA.bor (q : ∀ t, Q (.int (Builtin.bitOr a b) t) vals l) : WA Ψ (binaryOp .BitOr (.int a t) (.int b u)) Q vals l := WA.same q fun _ _ _ _ h => or_int (h _ _)
theorem WA.bxor (q : ∀ t, Q (.int (Builtin.bitXor a b) t) vals l) : WA Ψ (binaryOp .BitXor (.int a t) (.int b u)) Q vals l := WA.same q fun _ _ _ _ h => xor_int (h _ _)
theorem WA.neg (q : ∀ t, Q (.int (-a) t) vals l) : WA Ψ (unaryOp .USub (.int a t)) Q vals l := WA.same q fun _ _ _ _ h => neg_int (h _ _)
theorem WA.eqI (q : Q (.bool (a == b)) vals l) : WA Ψ (compareOp .Eq (.int a t) (.int b u)) Q vals l := fun _ s at' => eq_int ⟨Same.refl s, vals, l, at', q⟩
theorem WA.neI (q : Q (.bool (a != b)) vals l) : WA Ψ (compareOp .NotEq (.int a t) (.int b u)) Q vals l := fun _ s at' => ne_int ⟨Same.refl s, vals, l, at', q⟩
theorem WA.ltI (q : Q (.bool (decide (a < b))) vals l) : WA Ψ (compareOp .Lt (.int a t) (.int b u)) Q vals l := fun _ s at' => lt_int ⟨Same.refl s, vals, l, at', q⟩
theorem WA.leI (q : Q (.bool (decide (a ≤ b))) vals l) : WA Ψ (compareOp .LtE (.int a t) (.int b u)) Q vals l := fun _ s at' => le_int ⟨Same.refl s, vals, l, at', q⟩
theorem WA.gtI (q : Q (.bool (decide (b < a))) vals l) : WA Ψ (compareOp .Gt (.int a t) (.int b u)) Q vals l := fun _ s at' => gt_int ⟨Same.refl s, vals, l, at', q⟩
theorem WA.geI (q : Q (.bool (decide (b ≤ a))) vals l) : WA Ψ (compareOp .GtE (.int a t) (.int b u)) Q vals l := fun _ s at' => ge_int ⟨Same.refl s, vals, l, at', q⟩
theorem WA.abs (q : ∀ t, Q (.int (if a < 0 then -a else a) t) vals l) : WA Ψ (call (.builtin "abs") [.int a t]) Q vals l := WA.same q fun _ _ _ _ h => call_abs_int fun _ _ => h _ _
end
noncomputable def argsOf (Ψ : Frm K N W) : List Expr → (List Value → Vals → Led → Prop) → Vals → Led → Prop
  | [], Q, vals, l => Q [] vals l
  | e :: r, Q, vals, l => WA Ψ (eval e Ψ.env) (fun v vals l => argsOf Ψ r (fun vs vals l => Q (v :: vs) vals l) vals l) vals l
noncomputable def plainE : Expr → Bool
  | .Starred _ _ => false
  | _ => true
theorem star_plain {env : Env} : ∀ {es : List Expr}, es.all plainE = true → starEach es env = es.map fun e => (false, eval e env)
  | [], _ => rfl
  | e :: r, h => by
    rw [List.all_cons, Bool.and_eq_true] at h
    have ih := star_plain (env := env) h.2
    cases e <;> first | exact congrArg (List.cons _) ih | (simp [plainE] at h; done)
theorem WA.spl {pos : Pos} : ∀ {es : List Expr} {Q : List Value → Vals → Led → Prop} {vals : Vals} {l : Led}, es.all plainE = true → argsOf Ψ es Q vals l → WA Ψ (spliced (backTo pos (starEach es Ψ.env))) Q vals l
  | [], _, _, _, _, h => WA.pure h
  | e :: r, Q, vals, l, hs, h => by
    have hs' : r.all plainE = true := by rw [List.all_cons, Bool.and_eq_true] at hs; exact hs.2
    rw [star_plain hs]
    show WA Ψ (spliced ((false, eval e Ψ.env) :: backTo pos (r.map fun e => (false, eval e Ψ.env)))) Q vals l
    rw [spliced]
    refine WA.bind (WA.mono h fun v _ _ h' => ?_)
    simp only [Bool.false_eq_true, if_false]
    rw [← star_plain hs']
    exact WA.bind (WA.pure (WA.bind (WA.holding ((WA.spl hs' h').mono fun vs _ _ q => WA.pure q))))
theorem spl_plain {env : Env} {pos : Pos} : ∀ {es : List Expr}, es.all plainE = true → (backTo pos (starEach es env)).any (·.1) = false
  | [], _ => rfl
  | e :: r, hs => by
    have hs' : r.all plainE = true := by rw [List.all_cons, Bool.and_eq_true] at hs; exact hs.2
    rw [star_plain hs]
    have ih := spl_plain (env := env) (pos := pos) hs'
    rw [star_plain hs'] at ih
    exact ih
noncomputable def kwOf (Ψ : Frm K N W) : List Keyword → (List Value → Vals → Led → Prop) → Vals → Led → Prop
  | [], Q, vals, l => Q [] vals l
  | e :: r, Q, vals, l => WA Ψ (eval e.value Ψ.env) (fun v vals l => kwOf Ψ r (fun vs vals l => Q (v :: vs) vals l) vals l) vals l
theorem WA.kws {pos : Pos} : ∀ {ks : List Keyword} {Q : List Value → Vals → Led → Prop} {vals : Vals} {l : Led}, kwOf Ψ ks Q vals l → WA Ψ (evalAll ((backToKw pos (keywordEach ks Ψ.env)).map (·.2))) Q vals l
  | [], _, _, _, h => WA.pure h
  | ⟨_, e, _⟩ :: r, Q, vals, l, h =>
    WA.bind (WA.bind (WA.mono h fun v _ _ h' => WA.bind (WA.standAt (WA.pure (WA.bind (WA.holding ((WA.kws h').mono fun vs _ _ q => WA.pure q)))))))
theorem WA.newTuple {vs : List Value} {Q : Value → Vals → Led → Prop} (hz : vs.length ≤ sizeLine) (q : ∀ x, Q (.ref x) vals ((x, { cls := .type "tuple", data := .seq vs.toArray }) :: l)) : WA Ψ (newTuple vs) Q vals l :=
  fun _ s a => wpAny_newObj_type ⟨⟨rfl, rfl⟩, vals, _, a.push, q _⟩ (by show vs.toArray.size ≤ sizeLine; rw [List.size_toArray]; exact hz)
theorem WA.newList {vs : List Value} {Q : Value → Vals → Led → Prop} (hz : vs.length ≤ sizeLine) (q : ∀ x, Q (.ref x) vals ((x, { cls := .type "list", data := .seq vs.toArray }) :: l)) : WA Ψ (newList vs) Q vals l :=
  fun _ s a => wpAny_newObj_type ⟨⟨rfl, rfl⟩, vals, _, a.push, q _⟩ (by show vs.toArray.size ≤ sizeLine; rw [List.size_toArray]; exact hz)
theorem WA.tuple {es : List Expr} {k : Nat} {pos : Pos} {Q : Value → Vals → Led → Prop} (hs : es.all plainE = true) (h : argsOf Ψ es (fun vs vals l => WA Ψ (PySem.newTuple vs) Q vals l) vals l) : WA Ψ (eval (.Tuple es k pos) Ψ.env) Q vals l :=
  WA.bind (WA.standAt (WA.bind (WA.spl hs h)))
theorem WA.list {es : List Expr} {pos : Pos} {Q : Value → Vals → Led → Prop} (hs : es.all plainE = true) (h : argsOf Ψ es (fun vs vals l => WA Ψ (PySem.newList vs) Q vals l) vals l) : WA Ψ (eval (.List es pos) Ψ.env) Q vals l :=
  WA.bind (WA.standAt (WA.bind (WA.spl hs h)))
theorem WA.letTemp {base : Expr} {o r : Value} {Q : Unit → Vals → Led → Prop} (q : Q () vals l) : WA Ψ (letTemporaryGo base o r) Q vals l := fun _ s a => wpAny_letTemporaryGo ⟨Same.refl s, vals, l, a, q⟩
theorem WA.attr {o : Expr} {x : Str} {pos : Pos} {Q : Value → Vals → Led → Prop} (h : WA Ψ (eval o Ψ.env) (fun ov vals l => WA Ψ (getAttr ov x true) Q vals l) vals l)
    (hb : attributeBase o x Ψ.env (eval o Ψ.env) = eval o Ψ.env := by rfl) : WA Ψ (eval (.Attribute o x pos) Ψ.env) Q vals l := by
  show WA Ψ (attributeBase o x Ψ.env (eval o Ψ.env) >>= _) Q vals l
  rw [hb]
  exact WA.bind (h.mono fun _ _ _ h' => WA.bind (WA.standAt (WA.bind (WA.holding (h'.mono fun _ _ _ q => WA.bind (WA.letTemp (WA.pure q)))))))
theorem WA.subs {o i : Expr} {pos : Pos} {Q : Value → Vals → Led → Prop} (h : WA Ψ (eval o Ψ.env) (fun ov vals l => WA Ψ (eval i Ψ.env) (fun iv vals l => WA Ψ (subscriptTail o i ov iv) Q vals l) vals l) vals l) : WA Ψ (eval (.Subscript o i pos) Ψ.env) Q vals l :=
  fun E s a => Subscript_ (h.use a fun _ _ _ _ S a' h' => h'.use a' fun _ _ _ _ S' a'' h'' => h''.use a'' fun _ _ v' l' S'' a3 q => ⟨(S.trans S').trans S'', v', l', a3, q⟩)
noncomputable def KeepOk (K : Frag) : Value → Prop
  | .ref a => keepIn K (.ref a) = true
  | _ => True
theorem keepOk_looks {M : Model} {h : Heap} {f : Value} (k : KeepOk (K W.w.params) f) (X : (K W.w.params).In h) : ∃ k', (k' = Keeper.frame ∨ k' = Keeper.machine ∨ k' = Keeper.boundFrame) ∧ Looks M h (keeperOf f) k' := by
  cases f with
  | ref a => exact keeps_K k h X
  | _ => exact ⟨.machine, .inr (.inl rfl), Looks.of_pure rfl⟩
theorem WA.callWith {pos : Pos} {f : Value} {first : List Value} {args : List (Bool × Sem Value)} {kws : List (Option Str × Sem Value)} {Q : Value → Vals → Led → Prop} (k : KeepOk (K W.w.params) f) (hp : (args.any (·.1) || kws.any (·.1.isNone)) = false)
    (h : WA Ψ (evalArgs f true args kws) (fun a vals l => WA Ψ (call f (first ++ a.pos) a.kw) Q vals l) vals l) : WA Ψ (callWith pos f first args kws) Q vals l := fun E s a =>
  callWith_of (P := fun h => (K W.w.params).In h) hp (fun h X => keepOk_looks k X) (h.use a fun _ _ _ _ S a' h' => ⟨Ψ.X.keeps a'.F.keep, h'.use a' fun _ _ v' l' S' a'' q => ⟨S.trans S', v', l', a'', q⟩⟩)
theorem WA.evalArgs {f : Value} {pos : Pos} {args : List Expr} {ks : List Keyword} {Q : Args → Vals → Led → Prop} (hs : args.all plainE = true) (hk : (backToKw pos (keywordEach ks Ψ.env)).all (·.1.isSome) = true)
    (h : argsOf Ψ args (fun vs vals l => kwOf Ψ ks (fun kv vals l => Q ⟨vs, ((backToKw pos (keywordEach ks Ψ.env)).filterMap (·.1)).zip kv⟩ vals l) vals l) vals l) : WA Ψ (evalArgs f true (backTo pos (starEach args Ψ.env)) (backToKw pos (keywordEach ks Ψ.env))) Q vals l := by
  cases args with
  | nil => exact fun E s a => evalArgs_kw_nil hk (WA.kws (pos := pos) h E s a)
  | cons e r =>
    have := WA.spl (pos := pos) hs h
    rw [star_plain hs] at this ⊢
    exact fun E s a => evalArgs_kw hk (this.use a fun vs s' v' l' S a' h' => (WA.kws (pos := pos) h').use a' fun ks s'' v'' l'' S' a'' q => ⟨S.trans S', v'', l'', a'', q⟩)
theorem WA.callN {g : Expr} {args : List Expr} {ks : List Keyword} {pos : Pos} {Q : Value → Vals → Led → Prop} (hs : args.all plainE = true) (hk : (backToKw pos (keywordEach ks Ψ.env)).all (·.1.isSome) = true)
    (h : WA Ψ (eval g Ψ.env) (fun f vals l => KeepOk (K W.w.params) f ∧ argsOf Ψ args (fun vs vals l => kwOf Ψ ks (fun kv vals l => WA Ψ (call f vs (((backToKw pos (keywordEach ks Ψ.env)).filterMap (·.1)).zip kv)) Q vals l) vals l) vals l) vals l)
    (he : eval (.Call g args ks pos) Ψ.env = (do let f ← eval g Ψ.env; PySem.callWith pos f [] (backTo pos (starEach args Ψ.env)) (backToKw pos (keywordEach ks Ψ.env))) := by rfl) : WA Ψ (eval (.Call g args ks pos) Ψ.env) Q vals l := by
  rw [he]
  refine WA.bind (h.mono fun f _ _ h' => WA.callWith h'.1 ?_ (WA.evalArgs hs hk h'.2))
  rw [spl_plain hs, Bool.false_or]
  refine Bool.eq_false_iff.mpr fun hc => ?_
  obtain ⟨x, hx, hn⟩ := List.any_eq_true.mp hc
  have := List.all_eq_true.mp hk x hx
  cases hx1 : x.1 <;> simp [hx1] at this hn
theorem WA.callM {o : Expr} {name : Str} {apos pos : Pos} {args : List Expr} {ks : List Keyword} {pl : Sem Bool} {Q : Value → Vals → Led → Prop} (hs : args.all plainE = true) (hk : (backToKw pos (keywordEach ks Ψ.env)).all (·.1.isSome) = true)
    (h : WA Ψ (eval o Ψ.env) (fun ov vals l => WA Ψ (getMethod ov name pl) (fun fx vals l => KeepOk (K W.w.params) fx.1 ∧ argsOf Ψ args (fun vs vals l => kwOf Ψ ks (fun kv vals l => WA Ψ (call fx.1 (fx.2 ++ vs) (((backToKw pos (keywordEach ks Ψ.env)).filterMap (·.1)).zip kv)) Q vals l) vals l) vals l) vals l) vals l)
    (he : eval (.Call (.Attribute o name apos) args ks pos) Ψ.env = (do let ov ← eval o Ψ.env; PySem.standAt apos.atName; let (f, first) ← PySem.holding [ov] (getMethod ov name pl); PySem.callWith pos f first (backTo pos (starEach args Ψ.env)) (backToKw pos (keywordEach ks Ψ.env))) := by rfl) :
    WA Ψ (eval (.Call (.Attribute o name apos) args ks pos) Ψ.env) Q vals l := by
  rw [he]
  refine WA.bind (h.mono fun ov _ _ h' => WA.bind (WA.standAt (WA.bind ((WA.holding h').mono fun fx _ _ h'' => ?_))))
  obtain ⟨f, first⟩ := fx
  refine WA.callWith h''.1 ?_ (WA.evalArgs hs hk h''.2)
  rw [spl_plain hs, Bool.false_or]
  refine Bool.eq_false_iff.mpr fun hc => ?_
  obtain ⟨x, hx, hn⟩ := List.any_eq_true.mp hc
  have := List.all_eq_true.mp hk x hx
  cases hx1 : x.1 <;> simp [hx1] at this hn
theorem WA.exNil {Q : Flow → Vals → Led → Prop} (q : Q .next vals l) : WA Ψ (execs [] Ψ.env) Q vals l := WA.pure q
theorem WA.exCons {st : Stmt} {r : List Stmt} {Q : Flow → Vals → Led → Prop} (h : WA Ψ (exec st Ψ.env) (fun f vals l => match f with | .next => WA Ψ (execs r Ψ.env) Q vals l | f => Q f vals l) vals l) : WA Ψ (execs (st :: r) Ψ.env) Q vals l :=
  WA.bind (h.mono fun f _ _ h' => by cases f <;> first | exact h' | exact WA.pure h')
theorem WA.ret {e : Expr} {pos : Pos} {Q : Flow → Vals → Led → Prop} (h : WA Ψ (eval e Ψ.env) (fun v vals l => Q (.ret v) vals l) vals l) : WA Ψ (exec (.Return (some e) pos) Ψ.env) Q vals l :=
  WA.bind (WA.standAt (WA.bind (h.mono fun _ _ _ q => WA.pure q)))
theorem WA.ifS {t : Expr} {x y : List Stmt} {pos : Pos} {Q : Flow → Vals → Led → Prop} (h : WA Ψ (isTrue t Ψ.env (eval t Ψ.env)) (fun b vals l => if b = true then WA Ψ (execs x Ψ.env) Q vals l else WA Ψ (execs y Ψ.env) Q vals l) vals l) : WA Ψ (exec (.If t x y pos) Ψ.env) Q vals l :=
  WA.bind (WA.standAt (WA.bind (h.mono fun b _ _ h' => by cases b <;> simpa using h')))
theorem WA.asN {x : Str} {xp pos : Pos} {e : Expr} {Q : Flow → Vals → Led → Prop} (hsw : swapsWith e (some (.Name x xp)) pos.line Ψ.env = Pure.pure false)
    (h : WA Ψ (eval e Ψ.env) (fun v vals l => WA Ψ (PySem.bindName Ψ.env x v) (fun _ vals l => Q .next vals l) vals l) vals l) : WA Ψ (exec (.Assign [.Name x xp] e pos) Ψ.env) Q vals l := by
  rw [exec_Assign_Name Ψ.env x xp e pos hsw]
  exact WA.bind (WA.standAt (WA.bind (h.mono fun _ _ _ h' => WA.bind (WA.standAt (WA.bind (h'.mono fun _ _ _ q => WA.pure q))))))
theorem WA.asA {o e : Expr} {x : Str} {xp pos : Pos} {Q : Flow → Vals → Led → Prop}
    (h : WA Ψ (eval e Ψ.env) (fun v vals l => WA Ψ (eval o Ψ.env) (fun ov vals l => WA Ψ (setAttr ov x v) (fun _ vals l => Q .next vals l) vals l) vals l) vals l)
    (hsw : swapsWith e (some (.Attribute o x xp)) pos.line Ψ.env = Pure.pure false := by rfl) : WA Ψ (exec (.Assign [.Attribute o x xp] e pos) Ψ.env) Q vals l := fun E s a =>
  plainObj_wpAny_Assign_Attribute (h.use a fun _ _ _ _ S a' h' => h'.use a' fun _ _ _ _ S' a'' h'' => h''.use a'' fun _ _ v' l' S'' a3 q => ⟨(S.trans S').trans S'', v', l', a3, q⟩) hsw
theorem WA.asS {o i e : Expr} {xp pos : Pos} {Q : Flow → Vals → Led → Prop}
    (h : WA Ψ (eval e Ψ.env) (fun v vals l => WA Ψ (eval o Ψ.env) (fun ov vals l => WA Ψ (eval i Ψ.env) (fun iv vals l => WA Ψ (setItem ov iv v) (fun _ vals l => Q .next vals l) vals l) vals l) vals l) vals l)
    (hsw : swapsWith e (some (.Subscript o i xp)) pos.line Ψ.env = Pure.pure false := by rfl) : WA Ψ (exec (.Assign [.Subscript o i xp] e pos) Ψ.env) Q vals l := fun E s a =>
  wpAny_Assign_Subscript (h.use a fun _ _ _ _ S a' h' => h'.use a' fun _ _ _ _ S' a'' h'' => h''.use a'' fun _ _ _ _ S'' a3 h3 => h3.use a3 fun _ _ v' l' S3 a4 q => ⟨((S.trans S').trans S'').trans S3, v', l', a4, q⟩) hsw
theorem WA.augS {o i e : Expr} {op : Operator} {xp pos : Pos} {Q : Flow → Vals → Led → Prop}
    (h : WA Ψ (eval o Ψ.env) (fun ov vals l => WA Ψ (eval i Ψ.env) (fun iv vals l => WA Ψ (getItem ov iv) (fun old vals l => WA Ψ (eval e Ψ.env) (fun v vals l => WA Ψ (inplaceOp op old v) (fun new vals l => WA Ψ (setItem ov iv new) (fun _ vals l => Q .next vals l) vals l) vals l) vals l) vals l) vals l) vals l)
    (ha : ∀ (ov iv new : Value), augStore i ov iv new = (do PySem.holding [new, ov, iv] (setItem ov iv new); PySem.release [new, ov, iv] []; Pure.pure .next) := by intro _ _ _; rfl) :
    WA Ψ (exec (.AugAssign (.Subscript o i xp) op e pos) Ψ.env) Q vals l := fun E s a =>
  wpAny_AugAssign_SubscriptAny (h.use a fun _ _ _ _ S a' h' => h'.use a' fun _ _ _ _ S' a'' h'' => h''.use a'' fun _ _ _ _ S'' a3 h3 => h3.use a3 fun _ _ _ _ S3 a4 h4 => h4.use a4 fun _ _ _ _ S4 a5 h5 =>
    h5.use a5 fun _ _ v' l' S5 a6 q => ⟨((((S.trans S').trans S'').trans S3).trans S4).trans S5, v', l', a6, q⟩) ha
noncomputable def retOf : Flow → Value
  | .ret v => v
  | _ => .none
structure FnOk (K : Frag) (f : Addr) (fd : FuncData) (body : List Stmt) : Prop where
  look : ∃ oc od osl, K.lookup f = some ⟨oc, od, .func fd, osl⟩
  code : codeIn K fd.code fd.qualname = true
  body : fd.body = .stmts body
  glob : fd.globals = mainGlobals
  bi : fd.builtins = builtinsNs
  kind : fd.scope.kind = .function
  co : fd.scope.isCoroutine = false
  gen : fd.scope.isGenerator = false
  nocell : (fd.scope.names.all fun x => x.2 != .cell) = true
theorem WA.callDef {f : Addr} {fd : FuncData} {body : List Stmt} {args : List Value} {kw : List (Str × Value)} {binds : List (Str × Value)} {rest : List Str} {N' : Nm} {Q : Value → Vals → Led → Prop} (ok : FnOk (K W.w.params) f fd body) (sc : ScOk fd.scope.names N'.loc N'.glo) (hr : Ψ.A.depth < recursionLimit)
    (hb : ∀ s : Shared, (K W.w.params).In s.heap → BindsTo s fd ⟨args, kw⟩ binds) (hn : binds.map (·.1) ++ rest = N'.loc)
    (h : ∀ Ψ' : Frm K N' W, Ψ'.env = callEnv fd Ψ'.L f → Ψ'.A = Ψ.A.deeper Ψ'.env → WA Ψ' (execs body Ψ'.env) (fun fl _ l' => Q (retOf fl) vals l') (bv binds rest.length) l) :
    WA Ψ (call (.ref f) args kw) Q vals l := by
  intro E s a
  obtain ⟨oc, od, osl, ho⟩ := ok.look
  have X := Ψ.X.keeps a.F.keep
  have nm0 : ∀ b o, Ψ.h.get? b = some o → b ∉ l.map (·.1) := fun b o e q => by
    obtain ⟨p, hp, rfl⟩ := List.mem_map.mp q
    rw [(a.N p hp).2.2] at e; cases e
  have st : Ψ.h.StaysIn (hideAll s.heap (l.map (·.1))) := fun b o e => hideAll_get _ (a.F.keep b o e) (nm0 b o e)
  obtain ⟨oL, es, ep, hL, hLd, hLk, hLf⟩ := a.F.ns
  have nL : Ψ.L ∉ l.map (·.1) := fun q => by
    obtain ⟨p, hp, e⟩ := List.mem_map.mp q
    exact (a.N p hp).2.1 e
  have hLg := hideAll_get (l.map (·.1)) hL nL
  let Ψ' : Frm K N' W := ⟨hideAll s.heap (l.map (·.1)), s.heap.objs.size, Ψ.X.keeps (fun b o e => st b o e), Ψ.T.keeps (fun b o e => st b o e), Ψ.A.deeper (callEnv fd s.heap.objs.size f), callEnv fd s.heap.objs.size f, ⟨rfl, ok.kind, ok.glob, ok.bi⟩, sc⟩
  refine wpAny_call (codeAny_call_def hr (X _ _ ho) rfl (Ψ.T.nolimit.keeps a.F.keep) (codeRec_of X ok.code) ok.body (hb s X)
    (fun x hx => by simpa using List.all_eq_true.mp ok.nocell x hx)
    (fun x hx => (sc.loc x.1 (by rw [← hn]; exact List.mem_append_left _ (List.mem_map_of_mem hx))).1) (fun h₁ hns hk₁ => ?_) ok.co ok.gen ok.kind)
  rw [fr_binds hn sc.nd] at hns
  have a' : At Ψ' (bv binds rest.length) l { s with heap := h₁, toks := s.toks + binds.length } :=
    ⟨⟨hns, fun b o e => hk₁ b o (of_hideAll _ e), Nat.le_of_eq (hideAll_size _ _)⟩,
      fun p hp => ⟨hk₁ _ _ (a.N p hp).1, Nat.ne_of_lt (Heap.lt_size (a.N p hp).1), hideAll_none _ (List.mem_map_of_mem hp)⟩, a.U, a.G⟩
  refine (h Ψ' rfl rfl).use a' fun fl s' v' l' S a'' q => ⟨S, vals, l', ⟨⟨⟨oL, es, ep, a''.F.keep Ψ.L oL hLg, hLd, hLk, hLf⟩, fun b o e => a''.F.keep b o (st b o e), a.F.above⟩, fun p hp => ⟨(a''.N p hp).1, fun q => ?_, ?_⟩, a''.U, a''.G⟩, ?_⟩
  · have := (a''.N p hp).2.2
    rw [q] at this
    exact absurd (hLg.symm.trans this) (by simp)
  · cases q : Ψ.h.get? p.1 with
    | none => rfl
    | some o => exact absurd ((st _ _ q).symm.trans (a''.N p hp).2.2) (by simp)
  · cases fl <;> exact q
theorem WA.expr {e : Expr} {pos : Pos} {Q : Flow → Vals → Led → Prop} (h : WA Ψ (eval e Ψ.env) (fun _ vals l => Q .next vals l) vals l) (hi : interactive Ψ.env = false := by rfl) (hs : swapsWith e none pos.line Ψ.env = Pure.pure false := by rfl) : WA Ψ (exec (.Expr e pos) Ψ.env) Q vals l :=
  fun E s a => wpAny_Expr_any (h E s a) hi hs
end
end Mine
end
section
open PySem PySem.W PyProof.Rows PySem.Calls
set_option maxRecDepth 100000
namespace Mine
noncomputable def keyName : Value → Option Str
  | .str n _ => some n
  | _ => none
structure AttrsAre (es : List DictEntry) (nm : List Str) (vs : List Value) : Prop where
  names : es.map (fun e => keyName e.key) = (nm.take vs.length).map some
  vals : es.map (·.val) = vs
theorem AttrsAre.len {es nm vs} (x : AttrsAre es nm vs) : es.length = vs.length := by rw [← x.vals, List.length_map]
theorem isStr_keyName (v : Value) (x : Str) : v.isStr x = (keyName v == some x) := by
  cases v <;> simp [Value.isStr, keyName]
theorem refKey_keyName (e : DictEntry) (h : (keyName e.key).isSome = true) : e.refKey = false := by
  obtain ⟨hh, k, v⟩ := e
  cases k <;> first | (simp [keyName] at h; done) | rfl
theorem getL_of {x : Str} : ∀ {es : List DictEntry} {nm : List Str} {vs : List Value}, es.map (fun e => keyName e.key) = (nm.take vs.length).map some → es.map (·.val) = vs → getL x es = some (fr nm (vs.map some) x)
  | [], nm, [], _, _ => by cases nm <;> rfl
  | [], nm, v :: vs, _, h => by simp at h
  | e :: es, nm, [], _, h => by simp at h
  | e :: es, [], v :: vs, h, _ => by simp at h
  | e :: es, n :: nm, v :: vs, h, hv => by
    simp only [List.map_cons, List.length_cons, List.take_succ_cons, List.cons.injEq] at h hv
    have ih := getL_of (x := x) (es := es) (nm := nm) (vs := vs) h.2 hv.2
    have hk : e.key.isStr x = (n == x) := by
      rw [isStr_keyName, h.1]
      by_cases hx : n = x <;> simp [hx]
    have hr : e.refKey = false := refKey_keyName e (by rw [h.1]; rfl)
    unfold getL at ih ⊢
    simp only [List.find?_cons, List.any_cons, hk, hr, Bool.false_or, List.map_cons, fr]
    by_cases hx : n = x
    · subst hx; simp [hv.1]
    · have : (n == x) = false := by simp [hx]
      have hx' : ¬ x = n := fun e => hx e.symm
      simp only [this, if_neg hx']
      exact ih
theorem AttrsAre.get {es nm vs} (x : AttrsAre es nm vs) (n : Str) : getL n es = some (fr nm (vs.map some) n) := getL_of x.names x.vals
theorem fr_none {x : Str} : ∀ {nm : List Str} {vals : Vals}, x ∉ nm → fr nm vals x = none
  | [], _, _ => rfl
  | _ :: _, [], _ => rfl
  | n :: nm, v :: vs, h => by
    simp only [fr]
    rw [if_neg (fun e => h (by simp [e]))]
    exact fr_none fun e => h (by simp [e])
theorem AttrsAre.nil (nm : List Str) : AttrsAre [] nm [] := ⟨by simp, rfl⟩
theorem putL_put {hsh : Int} {t : Tok} {v : Value} : ∀ {es : List DictEntry} {nm : List Str} {vs : List Value} {i : Nat} {x : Str}, nm.Nodup → AttrsAre es nm vs → nm[i]? = some x → i < vs.length →
    AttrsAre (putL x hsh (.str x t) v es) nm (vs.set i v)
  | [], nm, [], _, _, _, _, _, h => by simp at h
  | [], nm, v :: vs, _, _, _, h, _, _ => by have := h.vals; simp at this
  | e :: es, nm, [], _, _, _, h, _, _ => by have := h.vals; simp at this
  | e :: es, [], v :: vs, _, _, _, h, _, _ => by have := h.names; simp at this
  | e :: es, n :: nm, w :: vs, i, x, nd, h, hi, hl => by
    have h1 := h.names
    have h2 := h.vals
    simp only [List.map_cons, List.length_cons, List.take_succ_cons, List.cons.injEq] at h1 h2
    have hk : e.key.isStr x = (n == x) := by
      rw [isStr_keyName, h1.1]
      by_cases hx : n = x <;> simp [hx]
    cases i with
    | zero =>
      simp only [List.getElem?_cons_zero, Option.some.injEq] at hi
      subst hi
      simp only [putL, hk, beq_self_eq_true, if_true, List.set_cons_zero]
      exact ⟨by simp [h1.1, h1.2], by simp [h2.2]⟩
    | succ i =>
      simp only [List.getElem?_cons_succ] at hi
      have hne : ¬ n = x := fun e => (List.nodup_cons.mp nd).1 (e ▸ List.mem_of_getElem? hi)
      have : (n == x) = false := by simp [hne]
      simp only [putL, hk, this, Bool.false_eq_true, if_false, List.set_cons_succ]
      have ih := putL_put (hsh := hsh) (t := t) (v := v) (List.nodup_cons.mp nd).2 ⟨h1.2, h2.2⟩ hi (Nat.lt_of_succ_lt_succ hl)
      have i1 := ih.names
      have i2 := ih.vals
      exact ⟨by simp only [List.map_cons, h1.1, i1, List.length_cons, List.take_succ_cons], by simp only [List.map_cons, i2, h2.1]⟩
theorem putL_new {hsh : Int} {t : Tok} {v : Value} : ∀ {es : List DictEntry} {nm : List Str} {vs : List Value} {x : Str}, nm.Nodup → AttrsAre es nm vs → nm[vs.length]? = some x →
    AttrsAre (putL x hsh (.str x t) v es) nm (vs ++ [v])
  | [], nm, [], x, _, _, hi => by
    cases nm with
    | nil => simp at hi
    | cons n nm =>
      simp only [List.length_nil, List.getElem?_cons_zero, Option.some.injEq] at hi
      subst hi
      exact ⟨by simp [putL, keyName], by simp [putL]⟩
  | [], nm, v :: vs, _, _, h, _ => by have := h.vals; simp at this
  | e :: es, nm, [], _, _, h, _ => by have := h.vals; simp at this
  | e :: es, [], v :: vs, _, _, h, _ => by have := h.names; simp at this
  | e :: es, n :: nm, w :: vs, x, nd, h, hi => by
    have h1 := h.names
    have h2 := h.vals
    simp only [List.map_cons, List.length_cons, List.take_succ_cons, List.cons.injEq] at h1 h2
    simp only [List.length_cons, List.getElem?_cons_succ] at hi
    have hne : ¬ n = x := fun e => (List.nodup_cons.mp nd).1 (e ▸ List.mem_of_getElem? hi)
    have hk : e.key.isStr x = false := by
      rw [isStr_keyName, h1.1]
      simp [hne]
    have ih := putL_new (hsh := hsh) (t := t) (v := v) (List.nodup_cons.mp nd).2 ⟨h1.2, h2.2⟩ hi
    have i1 := ih.names
    have i2 := ih.vals
    simp only [putL, hk, Bool.false_eq_true, if_false]
    exact ⟨by simp only [List.map_cons, h1.1, i1, List.length_cons, List.take_succ_cons, List.cons_append], by simp only [List.map_cons, i2, h2.1, List.cons_append]⟩
theorem upd_of {d : Addr} {o o' : Obj} {post : Led} : ∀ {pre : Led}, ((pre ++ (d, o) :: post).map (·.1)).Nodup → Upd d o o' (pre ++ (d, o) :: post) (pre ++ (d, o') :: post)
  | [], h => .head fun q hq e => by
    rw [List.nil_append, List.map_cons, List.nodup_cons] at h
    exact h.1 (List.mem_map.mpr ⟨q, hq, e⟩)
  | q :: pre, h => by
    rw [List.cons_append, List.map_cons, List.nodup_cons] at h
    refine .tail (fun e => h.1 ?_) (upd_of h.2)
    rw [e]
    exact List.mem_map.mpr ⟨(d, o), List.mem_append_right _ (.head _), rfl⟩
section
variable {K : Params → Frag} {N : Nm} {W : Wd} {Ψ : Frm K N W} {vals : Vals} {l : Led}
structure InstL (l : Led) (C x d : Addr) (es : List DictEntry) (n : Nat) : Prop where
  inst : (x, instObj C d) ∈ l
  dict : (d, dictOf es n) ∈ l
theorem WA.getM {C x d f : Addr} {es : List DictEntry} {n : Nat} {name : Str} {pl : Sem Bool} {an : List Str} {av : List Value} {Q : Value × List Value → Vals → Led → Prop} (I : InstL l C x d es n) (at' : AttrsAre es an av) (hn : name ∉ an) (hg : plainGet (K W.w.params) C name = true)
    (hf : findIn (K W.w.params) (.ref C) name = some (some (.ref f))) (ht : isFn (K W.w.params) (.ref f) = true) (q : Q (.ref f, [.ref x]) vals l) : WA Ψ (getMethod (.ref x) name pl) Q vals l := fun E s a =>
  method_inst a.F Ψ.X (InstAt.of_news a.N I.inst I.dict) hg hf ht (by rw [at'.get, fr_none hn]) ⟨Same.refl s, vals, l, a, q⟩
theorem WA.getA {C x d : Addr} {es : List DictEntry} {n i : Nat} {name : Str} {an : List Str} {av : List Value} {v : Value} {expr : Bool} {Q : Value → Vals → Led → Prop} (I : InstL l C x d es n) (at' : AttrsAre es an av) (nd : an.Nodup) (hi : an[i]? = some name) (hv : av[i]? = some v)
    (hg : plainGet (K W.w.params) C name = true) (hh : hasDictIn (K W.w.params) C = true) (ha : findIn (K W.w.params) (.ref C) name = some none) (hv' : handedIn v = true) (q : Q v vals l) : WA Ψ (getAttr (.ref x) name expr) Q vals l :=
  WA.same (v := fun _ => v) (fun _ => q) fun E P s a h => get_own a.F Ψ.X (InstAt.of_news a.N I.inst I.dict) hg hh ha rfl (by rw [at'.get, fr_get nd hi (v := some v) (by rw [List.getElem?_map, hv]; rfl)]) hv' (h 0 _)
theorem WA.setA {C x d : Addr} {es : List DictEntry} {n : Nat} {name : Str} {v : Value} {pre post : Led} {an : List Str} {av av' : List Value} {Q : Unit → Vals → Led → Prop} (hl : l = pre ++ (d, dictOf es n) :: post) (I : InstL l C x d es n) (at' : AttrsAre es an av)
    (hs : findIn (K W.w.params) (.ref C) "__setattr__" = some (some (.builtin "object.__setattr__"))) (hp : plainOver (K W.w.params) C = true) (ht : takerIn (K W.w.params) C name = some none) (hh : hasDictIn (K W.w.params) C = true) (hz : av.length ≤ 900)
    (hput : ∀ h t, AttrsAre (putL name h (.str name t) v es) an av') (hz' : av'.length ≤ 900)
    (q : ∀ es' n', AttrsAre es' an av' → Q () vals (pre ++ (d, dictOf es' n') :: post)) : WA Ψ (setAttr (.ref x) name v) Q vals l := fun E s a => by
  subst hl
  refine set_dict a.F Ψ.X a.N (InstAt.of_news a.N I.inst I.dict) rfl hs hp ht hh (by rw [at'.get]; rfl) rfl (upd_of a.U) (by rw [(hput _ _).len]; omega) fun h' F' N' => ⟨⟨rfl, rfl⟩, vals, _, ⟨F', N', ?_, ?_⟩, q _ _ (hput _ _)⟩
  · have := a.U
    simpa only [List.map_append, List.map_cons] using this
  · intro y hy
    rcases List.mem_append.mp hy with h | h
    · exact a.G y (List.mem_append_left _ h)
    · rcases List.mem_cons.mp h with rfl | h
      · exact a.G (d, dictOf es n) (List.mem_append_right _ (.head _))
      · exact a.G y (List.mem_append_right _ (.tail _ h))
variable {Kt : Type} [DecidableEq Kt] {knd : KeyKind W.prog W.w Kt} {d : Addr} {o : Obj} {k : Kt} {key : Value} {kvs : List (Kt × Value)}
theorem dictAt {s : Shared} (a : At Ψ vals l s) (hm : (d, o) ∈ l) (ho : o.IsDictOf knd kvs) : s.heap.DictOf knd d kvs := Heap.dictOf_iff.mpr ⟨o, (a.N _ hm).1, ho⟩
theorem notSys {s : Shared} (a : At Ψ vals l s) (hm : (d, o) ∈ l) : (d == sysModules) = false := by
  have h : (2 : Nat) < d := a.G _ hm
  exact beq_eq_false_iff_ne.mpr (Nat.ne_of_gt (Nat.lt_trans (Nat.lt_succ_self 1) h))
theorem WA.dGet {v : Value} {Q : Value → Vals → Led → Prop} (hkey : knd.is k key = true) (hm : (d, o) ∈ l) (ho : o.IsDictOf knd kvs) (hv : valueAt kvs k = some v) (q : Q v vals l) : WA Ψ (getItem (.ref d) key) Q vals l :=
  WA.same (v := fun _ => v) (fun _ => q) fun E P s a h => wpAny_getItem_of hkey (dictAt a hm ho).mapOf hv (h 0 _)
theorem WA.dIn {Q : Value → Vals → Led → Prop} (hkey : knd.is k key = true) (hm : (d, o) ∈ l) (ho : o.IsDictOf knd kvs) (q : Q (.bool (valueAt kvs k).isSome) vals l) : WA Ψ (compareOp .In key (.ref d)) Q vals l :=
  WA.same (v := fun _ => .bool (valueAt kvs k).isSome) (fun _ => q) fun E P s a h => wpAny_in_of hkey (notSys a hm) (dictAt a hm ho).mapOf (h 0 _)
theorem WA.dNotIn {Q : Value → Vals → Led → Prop} (hkey : knd.is k key = true) (hm : (d, o) ∈ l) (ho : o.IsDictOf knd kvs) (q : Q (.bool (!(valueAt kvs k).isSome)) vals l) : WA Ψ (compareOp .NotIn key (.ref d)) Q vals l :=
  WA.same (v := fun _ => .bool (!(valueAt kvs k).isSome)) (fun _ => q) fun E P s a h => wpAny_notIn_of hkey (notSys a hm) (dictAt a hm ho).mapOf (h 0 _)
theorem WA.dMeth {name : Str} {id : String} {pl : Sem Bool} {Q : Value × List Value → Vals → Led → Prop} (hm : (d, o) ∈ l) (ho : o.ExactDict) (slot : Slot "dict" name id) (hty : typeOf (.builtin id) = Pure.pure (Value.type "method_descriptor")) (q : Q (.builtin id, [.ref d]) vals l) :
    WA Ψ (getMethod (.ref d) name pl) Q vals l := fun E s a =>
  getMethod_builtin (T := "dict") ⟨o, (a.N _ hm).1, ho.1⟩ F.plainAttrs_dict slot hty (fun b e => by injection e with e; subst e; exact ⟨o, (a.N _ hm).1, ho.2.1⟩) ⟨Same.refl s, vals, l, a, q⟩
theorem WA.dGet1 {Q : Value → Vals → Led → Prop} (hkey : knd.is k key = true) (hm : (d, o) ∈ l) (ho : o.IsDictOf knd kvs) (q : Q ((valueAt kvs k).getD .none) vals l) : WA Ψ (call (.builtin "dict.get") [.ref d, key]) Q vals l :=
  WA.same (v := fun _ => (valueAt kvs k).getD .none) (fun _ => q) fun E P s a h =>
    call_meetsIn PySem.F.slot_dict_get (dictAt a hm ho).typeIs PySem.F.entry_dict_get (PySem.F.args_dict_get_2 _ _) (meets_dict_get knd d hkey (notSys a hm)) ⟨_, (dictAt a hm ho).mapOf, h 0 _⟩
theorem WA.dSet {v : Value} {pre post : Led} {Q : Unit → Vals → Led → Prop} (hkey : knd.is k key = true) (hl : l = pre ++ (d, o) :: post) (ho : o.IsDictOf knd kvs) (hz : kvs.length ≤ sizeLine)
    (q : ∀ o' : Obj, o'.IsDictOf knd (stored kvs k v) → Q () vals (pre ++ (d, o') :: post)) : WA Ψ (setItem (.ref d) key v) Q vals l := fun E s a => by
  subst hl
  refine wpAny_setItem_pairs hkey (dictAt a (List.mem_append_right _ (.head _)) ho) (fun h' hd hs => ?_) hz
  obtain ⟨o', ho', hd'⟩ := Heap.dictOf_iff.mp hd
  exact ⟨⟨rfl, rfl⟩, vals, _, a.upd hs ho', q o' hd'⟩
theorem IsDictOf.exact {o : Obj} (h : o.IsDictOf knd kvs) : o.ExactDict := let ⟨_, _, e, _⟩ := h; e
theorem isDict_nil : (dictOf [] 0).IsDictOf knd ([] : List (Kt × Value)) := by
  obtain ⟨o, ho, r⟩ := Heap.dictOf_iff.mp (Heap.DictOf.new (knd := knd) {})
  rw [Heap.get?_push_size _ rfl] at ho
  cases ho
  exact r
noncomputable def TupL (knd : KeyKind W.prog W.w Kt) (l : Led) (ks : List Kt) (a : Addr) : Prop := ∃ items n dd sl, (a, (⟨.type "tuple", dd, .seq items n, sl⟩ : Obj)) ∈ l ∧ ItemsAre knd ks items.toList
theorem TupL.isKey {s : Shared} {ks : List Kt} {x : Addr} (t : TupL knd l ks x) (a : At Ψ vals l s) : IsTupleKey knd s.heap ks x :=
  let ⟨items, n, dd, sl, hm, hi⟩ := t; ⟨_, items, n, (a.N _ hm).1, rfl, rfl, hi⟩
theorem TupL.mono {l' : Led} {ks : List Kt} {x : Addr} (t : TupL knd l ks x) (h : ∀ y ∈ l, y ∈ l') : TupL knd l' ks x := let ⟨i, n, dd, sl, hm, hi⟩ := t; ⟨i, n, dd, sl, h _ hm, hi⟩
noncomputable def IsTupDict (knd : KeyKind W.prog W.w Kt) (o : Obj) (xs : List (List Kt × Addr × Value)) : Prop :=
  ∃ es ep, o.ExactDict ∧ o.data = .dict es ep ∧ es.toList = xs.map (entryOfKey (tupleKind knd)) ∧ (xs.map (·.1)).Nodup
theorem tupDict_nil : IsTupDict knd (dictOf [] 0) [] := ⟨#[], 0, ⟨rfl, rfl, rfl⟩, rfl, rfl, List.nodup_nil⟩
variable {xs : List (List Kt × Addr × Value)} {ks : List Kt} {x : Addr}
theorem tdictAt {s : Shared} (a : At Ψ vals l s) (hm : (d, o) ∈ l) (ho : IsTupDict knd o xs) (ht : ∀ y ∈ xs, TupL knd l y.1 y.2.1) : s.heap.DictOfH (tupleKind knd) d xs :=
  let ⟨es, ep, h1, h2, h3, h4⟩ := ho
  ⟨o, es, ep, (a.N _ hm).1, h1, h2, h3, fun y hy => (ht y hy).isKey a, h4⟩
theorem WA.tGet1 {Q : Value → Vals → Led → Prop} (hu : Ψ.A.units + 1 < cLine) (hk : TupL knd l ks x) (hm : (d, o) ∈ l) (ho : IsTupDict knd o xs) (ht : ∀ y ∈ xs, TupL knd l y.1 y.2.1) (q : Q (((atKey xs ks).map (·.2)).getD .none) vals l) :
    WA Ψ (call (.builtin "dict.get") [.ref d, .ref x]) Q vals l :=
  WA.same (v := fun _ => ((atKey xs ks).map (·.2)).getD .none) (fun _ => q) fun E P s a h =>
    call_meetsIn PySem.F.slot_dict_get (tdictAt a hm ho ht).typeIs PySem.F.entry_dict_get (PySem.F.args_dict_get_2 _ _) (meetsH_dict_get (tupleKind knd) d x (notSys a hm)) ⟨hu, ks, xs, hk.isKey a, tdictAt a hm ho ht, h 0 _⟩
theorem WA.tSet {v : Value} {pre post : Led} {Q : Unit → Vals → Led → Prop} (hu : Ψ.A.units + 1 < cLine) (hk : TupL knd l ks x) (hl : l = pre ++ (d, o) :: post) (ho : IsTupDict knd o xs) (ht : ∀ y ∈ xs, TupL knd l y.1 y.2.1) (hz : xs.length ≤ sizeLine)
    (q : ∀ o' : Obj, IsTupDict knd o' (storedH xs ks x v) → Q () vals (pre ++ (d, o') :: post)) : WA Ψ (setItem (.ref d) (.ref x) v) Q vals l := fun E s a => by
  subst hl
  refine wpAny_setItem_heap (knd := tupleKind knd) hu (hk.isKey a) (tdictAt a (List.mem_append_right _ (.head _)) ho ht) (fun h' hd hs => ?_) hz
  obtain ⟨o', es, ep, ho', h1, h2, h3, h4, h5⟩ := hd
  exact ⟨⟨rfl, rfl⟩, vals, _, a.upd hs ho', q o' ⟨es, ep, h1, h2, h3, h5⟩⟩
end
noncomputable def isOpt : Option Int → Value → Bool
  | none, .none => true
  | some k, .int i _ => i == k
  | _, _ => false
theorem isOpt_inj (v : Value) (a b : Option Int) (ha : isOpt a v = true) (hb : isOpt b v = true) : a = b := by
  cases v <;> cases a <;> cases b <;> simp_all [isOpt]
noncomputable def optHash : Option Int → Int
  | none => 0xFCA86420
  | some k => hashInt k
section
variable {prog : Program} {w : World} {A : Around} {E : Value → Shared → Prop} {s : Shared}
theorem wpAny_pyHash_none {Q : Int → Shared → Prop} (h : Q 0xFCA86420 { s with toks := s.toks + 1 }) : wpAny (model prog w) A (pyHash .none) Q E s := by
  have hT : s.TypeIs .none "NoneType" := rfl
  unfold pyHash
  refine wpAny_bind ?_
  rw [cRoomFor, if_neg (by decide)]; refine wpAny_pure ?_
  refine wpAny_bind (wpAny_specialOf hT F.slot_NoneType_hash.lookup ?_)
  show wpAny _ _ (if (some (Value.builtin "NoneType.__hash__") == some Value.none) = true then _ else _) Q E s
  rw [if_neg (by rw [beq_builtin_none]; exact Bool.false_ne_true)]
  refine wpAny_bind (wpAny_specialOf hT F.slot_NoneType_hash.lookup ?_)
  show wpAny _ _ (callSpecialIfBoundUnlessNone? .none "__hash__" _ >>= _) Q E s
  refine wpAny_bind (wpAny_callSpecialIfBoundUnlessNone?_slot hT F.slot_NoneType_hash
    (wpAny_call_entry F.slot_NoneType_hash hT F.entry_NoneType_hash
      (show wpAny _ _ (do ret (← mkInt 0xFCA86420)) _ _ s from wpAny_ret_mkInt ?_) (F.args_NoneType_hash_1 _)))
  show wpAny _ _ (if (decide (-(2 : Int) ^ 63 ≤ 0xFCA86420) && decide ((0xFCA86420 : Int) < 2 ^ 63)) = true then _ else _) Q E _
  rw [if_pos (by decide)]
  exact wpAny_pure h
theorem wpAny_eqBool_opt {a b : Option Int} {u v : Value} {Q : Bool → Shared → Prop} (hu : isOpt a u = true) (hv : isOpt b v = true) (h : Q (decide (a = b)) s) : wpAny (model prog w) A (eqBool u v) Q E s := by
  cases a with
  | none =>
    cases u <;> simp [isOpt] at hu
    cases b with
    | none =>
      cases v <;> simp [isOpt] at hv
      unfold eqBool
      show wpAny _ _ (PySem.rule "eq-bool.same-object" >>= fun _ => Pure.pure true) Q E s
      exact wpAny_bind (wpAny_rule (wpAny_pure (by simpa using h)))
    | some j =>
      cases v <;> simp [isOpt] at hv
      unfold eqBool
      show wpAny _ _ (richCompare .Eq Value.none (Value.int _ _) >>= fun r => truthOfDropped r) Q E s
      exact wpAny_bind (PySem.EqNone.eq_none_int (wpAny_truthy_bool (by simpa using h)))
  | some i =>
    cases u <;> simp [isOpt] at hu
    cases b with
    | none =>
      cases v <;> simp [isOpt] at hv
      unfold eqBool
      show wpAny _ _ (richCompare .Eq (Value.int _ _) Value.none >>= fun r => truthOfDropped r) Q E s
      exact wpAny_bind (PySem.EqNone.eq_int_none (wpAny_truthy_bool (by simpa using h)))
    | some j =>
      cases v <;> simp [isOpt] at hv
      subst hu hv
      refine wpAny_eqBool_int ?_
      have : ∀ i j : Int, (decide (some i = some j)) = (i == j) := fun i j => by
        by_cases e : i = j <;> simp [e]
      rw [← this]; exact h
end
noncomputable def optKind (prog : Program) (w : World) : KeyKind prog w (Option Int) where
  is := isOpt
  hash := optHash
  inj := isOpt_inj
  byValue := fun k v h => by cases k <;> cases v <;> simp [isOpt] at h <;> rfl
  pyHash := fun {A E s k v Q} hv h => by
    cases k with
    | none => cases v <;> simp [isOpt] at hv; exact wpAny_pyHash_none h
    | some i => cases v <;> simp [isOpt] at hv; subst hv; exact wpAny_pyHash_int h
  eqBool := wpAny_eqBool_opt
  «strs» := fun k x t v h => by cases k <;> simp [isOpt] at h
end Mine
end
section
open PySem PySem.W PyProof.Rows PySem.Calls
set_option maxRecDepth 100000
namespace Mine
inductive NmI : List Str → Str → Nat → Prop
  | here {x : Str} {ns : List Str} : NmI (x :: ns) x Nat.zero
  | next {n x : Str} {ns : List Str} {i : Nat} : NmI ns x i → NmI (n :: ns) x (Nat.succ i)
inductive NmG : List Str → Str → Prop
  | here {x : Str} {ns : List Str} : NmG (x :: ns) x
  | next {n x : Str} {ns : List Str} : NmG ns x → NmG (n :: ns) x
theorem NmI.at {nm : List Str} {x : Str} {i : Nat} (h : NmI nm x i) : nm[i]? = some x := by
  induction h with
  | here => rfl
  | next _ ih => exact ih
theorem NmG.mem {x : Str} (h : NmG gl x) : x ∈ gl := by
  induction h with
  | here => exact .head _
  | next _ ih => exact .tail _ ih
noncomputable def vget : Vals → Nat → Option Value
  | [], _ => none
  | o :: _, 0 => o
  | _ :: r, n + 1 => vget r n
noncomputable def vset : Vals → Nat → Value → Vals
  | [], _, _ => []
  | _ :: r, 0, v => some v :: r
  | o :: r, n + 1, v => o :: vset r n v
noncomputable def vhas : Vals → Nat → Bool
  | [], _ => false
  | _ :: _, 0 => true
  | _ :: r, n + 1 => vhas r n
theorem vget_at : ∀ {vals : Vals} {i : Nat} {v : Value}, vget vals i = some v → vals[i]? = some (some v)
  | [], _, _, h => by simp [vget] at h
  | _ :: _, 0, _, h => by simpa [vget] using h
  | _ :: r, n + 1, _, h => by simpa using vget_at (vals := r) (i := n) h
theorem vhas_lt : ∀ {vals : Vals} {i : Nat}, vhas vals i = true → i < vals.length
  | [], _, h => by simp [vhas] at h
  | _ :: _, 0, _ => by simp
  | _ :: r, n + 1, h => by simpa using vhas_lt (vals := r) (i := n) h
theorem vset_is : ∀ (vals : Vals) (i : Nat) (v : Value), vals.set i (some v) = vset vals i v
  | [], _, _ => rfl
  | _ :: _, 0, _ => rfl
  | o :: r, n + 1, v => by rw [List.set_cons_succ, vset_is r n v]; rfl
section
variable {K : Params → Frag} {N : Nm} {W : Wd} {Ψ : Frm K N W} {vals : Vals} {l : Led}
theorem R.name {x : Str} {pos : Pos} {i : Nat} {v : Value} {Q : Value → Vals → Led → Prop} (hi : NmI N.loc x i) (hv : vget vals i = some v) (q : Q v vals l) : WA Ψ (eval (.Name x pos) Ψ.env) Q vals l :=
  WA.name (Ψ.sc.loc x (List.mem_of_getElem? hi.at)) hi.at (vget_at hv) q
theorem R.glob {x : Str} {pos : Pos} {v : Value} {Q : Value → Vals → Led → Prop} (h : NmG N.glo x) (g : GlobIs (K W.w.params) x v) (q : Q v vals l) : WA Ψ (eval (.Name x pos) Ψ.env) Q vals l :=
  WA.glob (Ψ.sc.glo x h.mem) g q
theorem R.bind {x : Str} {i : Nat} {v : Value} {Q : Unit → Vals → Led → Prop} (hi : NmI N.loc x i) (hl : vhas vals i = true) (q : Q () (vset vals i v) l) : WA Ψ (bindName Ψ.env x v) Q vals l :=
  WA.bindName (Ψ.sc.loc x (List.mem_of_getElem? hi.at)) hi.at (vhas_lt hl) (vset_is _ _ _) q
noncomputable def contS (Ψ : Frm K N W) (r : List Stmt) (Q : Flow → Vals → Led → Prop) : Flow → Vals → Led → Prop
  | .next, vals, l => WA Ψ (execs r Ψ.env) Q vals l
  | f, vals, l => Q f vals l
theorem R.seq {st : Stmt} {r : List Stmt} {Q : Flow → Vals → Led → Prop} (h : WA Ψ (exec st Ψ.env) (contS Ψ r Q) vals l) : WA Ψ (execs (st :: r) Ψ.env) Q vals l :=
  WA.exCons (h.mono fun f _ _ h' => by cases f <;> exact h')
theorem R.next {r : List Stmt} {Q : Flow → Vals → Led → Prop} (h : WA Ψ (execs r Ψ.env) Q vals l) : contS Ψ r Q .next vals l := h
theorem R.retS {r : List Stmt} {v : Value} {Q : Flow → Vals → Led → Prop} (h : Q (.ret v) vals l) : contS Ψ r Q (.ret v) vals l := h
theorem R.brkS {r : List Stmt} {Q : Flow → Vals → Led → Prop} (h : Q .brk vals l) : contS Ψ r Q .brk vals l := h
theorem R.argN {Q : List Value → Vals → Led → Prop} (h : Q [] vals l) : argsOf Ψ [] Q vals l := h
theorem R.argC {e : Expr} {r : List Expr} {Q : List Value → Vals → Led → Prop} (h : WA Ψ (eval e Ψ.env) (fun v vals l => argsOf Ψ r (fun vs vals l => Q (v :: vs) vals l) vals l) vals l) : argsOf Ψ (e :: r) Q vals l := h
theorem R.kwN {Q : List Value → Vals → Led → Prop} (h : Q [] vals l) : kwOf Ψ [] Q vals l := h
theorem R.kwC {e : Keyword} {r : List Keyword} {Q : List Value → Vals → Led → Prop} (h : WA Ψ (eval e.value Ψ.env) (fun v vals l => kwOf Ψ r (fun vs vals l => Q (v :: vs) vals l) vals l) vals l) : kwOf Ψ (e :: r) Q vals l := h
theorem R.iteT {b : Bool} {X Y : Prop} (hb : b = true) (h : X) : (if b = true then X else Y) := by rw [if_pos hb]; exact h
theorem R.iteF {b : Bool} {X Y : Prop} (hb : b = false) (h : Y) : (if b = true then X else Y) := by rw [if_neg (by simp [hb])]; exact h
theorem R.iteB {b : Bool} {X Y : Prop} (h1 : b = true → X) (h2 : b = false → Y) : (if b = true then X else Y) := by
  cases b
  · exact R.iteF rfl (h2 rfl)
  · exact R.iteT rfl (h1 rfl)
theorem WA.isN {v : Value} {Q : Value → Vals → Led → Prop} (q : Q (.bool (v == .none)) vals l) : WA Ψ (compareOp .Is v .none) Q vals l := fun _ s a => is_none_gen ⟨Same.refl s, vals, l, a, q⟩
noncomputable def methK (Ψ : Frm K N W) (args : List Expr) (Q : Value → Vals → Led → Prop) (fx : Value × List Value) (vals : Vals) (l : Led) : Prop :=
  KeepOk (K W.w.params) fx.1 ∧ argsOf Ψ args (fun vs vals l => WA Ψ (call fx.1 (fx.2 ++ vs) []) Q vals l) vals l
theorem R.callM {o : Expr} {name : Str} {apos pos : Pos} {args : List Expr} {pl : Sem Bool} {Q : Value → Vals → Led → Prop} (hs : args.all plainE = true)
    (h : WA Ψ (eval o Ψ.env) (fun ov vals l => WA Ψ (getMethod ov name pl) (methK Ψ args Q) vals l) vals l)
    (he : eval (.Call (.Attribute o name apos) args [] pos) Ψ.env = (do let ov ← eval o Ψ.env; PySem.standAt apos.atName; let (f, first) ← PySem.holding [ov] (getMethod ov name pl); PySem.callWith pos f first (backTo pos (starEach args Ψ.env)) (backToKw pos (keywordEach [] Ψ.env)))) :
    WA Ψ (eval (.Call (.Attribute o name apos) args [] pos) Ψ.env) Q vals l := WA.callM hs rfl h he
theorem R.meth1 {f x : Value} {args : List Expr} {Q : Value → Vals → Led → Prop} (hk : KeepOk (K W.w.params) f) (h : argsOf Ψ args (fun vs vals l => WA Ψ (call f (x :: vs) []) Q vals l) vals l) : methK Ψ args Q (f, [x]) vals l := ⟨hk, h⟩
noncomputable def funK (Ψ : Frm K N W) (args : List Expr) (Q : Value → Vals → Led → Prop) (f : Value) (vals : Vals) (l : Led) : Prop :=
  KeepOk (K W.w.params) f ∧ argsOf Ψ args (fun vs vals l => WA Ψ (call f vs []) Q vals l) vals l
theorem R.callN {g : Expr} {args : List Expr} {pos : Pos} {Q : Value → Vals → Led → Prop} (hs : args.all plainE = true) (h : WA Ψ (eval g Ψ.env) (funK Ψ args Q) vals l)
    (he : eval (.Call g args [] pos) Ψ.env = (do let f ← eval g Ψ.env; PySem.callWith pos f [] (backTo pos (starEach args Ψ.env)) (backToKw pos (keywordEach [] Ψ.env)))) : WA Ψ (eval (.Call g args [] pos) Ψ.env) Q vals l := WA.callN hs rfl h he
variable {Kt : Type} [DecidableEq Kt] {knd : KeyKind W.prog W.w Kt} {d : Addr} {o : Obj} {k : Kt} {key : Value} {kvs : List (Kt × Value)}
theorem WA.dLen {Q : Value → Vals → Led → Prop} (hm : (d, o) ∈ l) (ho : o.IsDictOf knd kvs) (hz : kvs.length < 2 ^ 63) (q : ∀ t, Q (.int kvs.length t) vals l) : WA Ψ (call (.builtin "len") [.ref d]) Q vals l :=
  WA.same q fun E P s a h => call_len_dict (notSys a hm) (dictAt a hm ho) (by first | decide | lia | omega) (h _ _)
noncomputable def WC (Ψ : Frm K N W) (c : Code) (Q : Flow → Vals → Led → Prop) (vals : Vals) (l : Led) : Prop :=
  ∀ (R : Result → Shared → Prop) (s : Shared), At Ψ vals l s → (∀ f s' vals' l', Same s s' → At Ψ vals' l' s' → Q f vals' l' → R (.ok f) s') → codeAny (model W.prog W.w) Ψ.A c R s
theorem WA.own {c : Code} {Q : Flow → Vals → Led → Prop} (h : WC Ψ c Q vals l) : WA Ψ (runOwn c Ψ.env) Q vals l := fun E s a =>
  wpAny_runOwn (h _ s a fun f s' v' l' S a' q => ⟨S, v', l', a', q⟩)
noncomputable def contL (Ψ : Frm K N W) (c : Code) (Q : Flow → Vals → Led → Prop) : Flow → Vals → Led → Prop
  | .next, vals, l => WC Ψ c Q vals l
  | .cont, vals, l => WC Ψ c Q vals l
  | .brk, vals, l => Q .next vals l
  | .ret v, vals, l => Q (.ret v) vals l
noncomputable def turnL (Ψ : Frm K N W) (target : Expr) (it : Value) (body orelse : List Stmt) (Q : Flow → Vals → Led → Prop) : Option Value → Vals → Led → Prop
  | none, vals, l => WA Ψ (execs orelse Ψ.env) Q vals l
  | some v, vals, l => WA Ψ (letOwnedTupleGo target it v) (fun _ vals l => WA Ψ (assign target Ψ.env v) (fun _ vals l => WA Ψ (execs body Ψ.env) (contL Ψ (.forLoop target it body orelse Ψ.env) Q) vals l) vals l) vals l
theorem WC.for1 {target : Expr} {it : Value} {body orelse : List Stmt} {Q : Flow → Vals → Led → Prop} (h : WA Ψ (pyNext it) (turnL Ψ target it body orelse Q) vals l) : WC Ψ (.forLoop target it body orelse Ψ.env) Q vals l := by
  intro R s a k
  refine codeAny_of_tree ?_
  show wpAny _ Ψ.A ((forTurn target it body orelse Ψ.env).onRaise (fun x => do noteFrame x Ψ.env; theTreesLotGoes x)) _ _ s
  refine wpAny_noted ?_
  simp only [forTurn]
  refine wpAny_bind (wpAny_standAt (wpAny_bind (wpAny_onRaise (wpAny_mono (h _ s a) (fun r s₁ h₁ => ?_) fun _ _ h' => wpAny_standAt h'))))
  obtain ⟨S, v', l', a', h₁⟩ := h₁
  cases r with
  | none => exact wpAny_pure ⟨rfl, codeAny_block (h₁.use a' fun f s' v'' l'' S' a'' q => k f s' v'' l'' (S.trans S') a'' q)⟩
  | some v =>
    refine wpAny_bind (h₁.use a' fun _ s₂ v2 l2 S2 a2 h2 => ?_)
    refine wpAny_bind (h2.use a2 fun _ s₃ v3 l3 S3 a3 h3 => ?_)
    refine wpAny_bind (h3.use a3 fun f s₄ v4 l4 S4 a4 h4 => ?_)
    have S' := ((S.trans S2).trans S3).trans S4
    cases f with
    | next => exact wpAny_pure ⟨rfl, h4 R s₄ a4 fun f s' v'' l'' S'' a'' q => k f s' v'' l'' (S'.trans S'') a'' q⟩
    | cont => exact wpAny_pure ⟨rfl, h4 R s₄ a4 fun f s' v'' l'' S'' a'' q => k f s' v'' l'' (S'.trans S'') a'' q⟩
    | brk => exact wpAny_pure (k _ _ _ _ S' a4 h4)
    | ret v => exact wpAny_pure (k _ _ _ _ S' a4 h4)
theorem WC.while1 {test : Expr} {body orelse : List Stmt} {Q : Flow → Vals → Led → Prop} (h : WA Ψ (isTrue test Ψ.env (eval test Ψ.env)) (fun b vals l => if b = true then WA Ψ (execs body Ψ.env) (contL Ψ (.whileLoop test body orelse Ψ.env) Q) vals l else WA Ψ (execs orelse Ψ.env) Q vals l) vals l) :
    WC Ψ (.whileLoop test body orelse Ψ.env) Q vals l := by
  intro R s a k
  refine codeAny_of_tree ?_
  show wpAny _ Ψ.A ((whileTurn test body orelse Ψ.env).onRaise (fun x => do noteFrame x Ψ.env; theTreesLotGoes x)) _ _ s
  refine wpAny_noted ?_
  simp only [whileTurn]
  refine wpAny_bind (h.use a fun b s₁ v1 l1 S a1 h1 => ?_)
  cases b with
  | false =>
    simp only [Bool.false_eq_true, if_false] at h1 ⊢
    exact wpAny_bind (h1.use a1 fun f s₂ v2 l2 S2 a2 q => wpAny_pure (k f _ _ _ (S.trans S2) a2 q))
  | true =>
    simp only [if_true] at h1 ⊢
    refine wpAny_bind (h1.use a1 fun f s₄ v4 l4 S4 a4 h4 => ?_)
    have S' := S.trans S4
    cases f with
    | next => exact wpAny_pure ⟨rfl, h4 R s₄ a4 fun f s' v'' l'' S'' a'' q => k f s' v'' l'' (S'.trans S'') a'' q⟩
    | cont => exact wpAny_pure ⟨rfl, h4 R s₄ a4 fun f s' v'' l'' S'' a'' q => k f s' v'' l'' (S'.trans S'') a'' q⟩
    | brk => exact wpAny_pure (k _ _ _ _ S' a4 h4)
    | ret v => exact wpAny_pure (k _ _ _ _ S' a4 h4)
theorem WC.inv {c : Code} {Q : Flow → Vals → Led → Prop} (I : Nat → Vals → Led → Prop) (turn : ∀ n vals l, I n vals l → (∀ m vals l, m < n → I m vals l → WC Ψ c Q vals l) → WC Ψ c Q vals l) (n : Nat) (h : I n vals l) : WC Ψ c Q vals l := by
  induction n using Nat.strongRecOn generalizing vals l with
  | ind n ih => exact turn n vals l h fun m vals l hm hI => ih m hm hI
theorem WA.forS {target iter : Expr} {body orelse : List Stmt} {pos : Pos} {Q : Flow → Vals → Led → Prop} (h : WA Ψ (eval iter Ψ.env) (fun x vals l => WA Ψ (pyIter x) (fun it vals l => WC Ψ (.forLoop target it body orelse Ψ.env) Q vals l) vals l) vals l)
    (hf : ∀ x, foldedSetIterable iter Ψ.env x = Pure.pure x := by intro _; rfl) : WA Ψ (exec (.For target iter body orelse pos) Ψ.env) Q vals l := by
  rw [exec_For]
  refine WA.bind (WA.standAt (WA.bind (h.mono fun x _ _ h' => ?_)))
  rw [hf]
  exact WA.bind (WA.pure (WA.bind (WA.standAt (WA.bind ((WA.holding h').mono fun it _ _ h'' => WA.own h'')))))
theorem WA.whileS {test : Expr} {body orelse : List Stmt} {pos : Pos} {Q : Flow → Vals → Led → Prop} (h : WC Ψ (.whileLoop test body orelse Ψ.env) Q vals l) : WA Ψ (exec (.While test body orelse pos) Ψ.env) Q vals l := by
  rw [exec_While]
  exact WA.bind (WA.standAt (WA.own h))
theorem R.cNext {c : Code} {Q : Flow → Vals → Led → Prop} (h : WC Ψ c Q vals l) : contL Ψ c Q .next vals l := h
theorem R.cBrk {c : Code} {Q : Flow → Vals → Led → Prop} (h : Q .next vals l) : contL Ψ c Q .brk vals l := h
theorem R.cRet {c : Code} {v : Value} {Q : Flow → Vals → Led → Prop} (h : Q (.ret v) vals l) : contL Ψ c Q (.ret v) vals l := h
theorem WA.letN {x : Str} {xp : Pos} {it v : Value} {Q : Unit → Vals → Led → Prop} (q : Q () vals l) : WA Ψ (letOwnedTupleGo (.Name x xp) it v) Q vals l := WA.pure q
theorem WA.asgN {x : Str} {xp : Pos} {v : Value} {Q : Unit → Vals → Led → Prop} (h : WA Ψ (PySem.bindName Ψ.env x v) Q vals l) : WA Ψ (assign (.Name x xp) Ψ.env v) Q vals l := WA.bind (WA.standAt h)
noncomputable abbrev rangeObj (a b c : Int) (t u v : Tok) : Obj := { cls := .type "range", dict := none, data := .fields #[.int a t, .int b u, .int c v], slots := #[] }
noncomputable abbrev rangeItObj (x left step : Int) : Obj := { cls := .type "range_iterator", dict := none, data := .fields #[rawInt x, rawInt left, rawInt step], slots := #[] }
theorem WA.rangeIter {r : Addr} {a b c : Int} {t u v : Tok} {Q : Value → Vals → Led → Prop} (hm : (r, rangeObj a b c t u v) ∈ l) (hs : Builtin.Range.small a b c = true) (q : ∀ x, Q (.ref x) vals ((x, rangeItObj a (Builtin.Range.rangeSize a b c) c) :: l)) :
    WA Ψ (pyIter (.ref r)) Q vals l := fun E s a' => wpAny_pyIter_range (a'.N _ hm).1 hs ⟨⟨rfl, rfl⟩, vals, _, a'.push, q _⟩
theorem WA.rangeNext {it : Addr} {x left step : Int} {pre post : Led} {Q : Option Value → Vals → Led → Prop} (hl : l = pre ++ (it, rangeItObj x left step) :: post) (h0 : 0 < left)
    (q : ∀ t, Q (some (.int x t)) vals (pre ++ (it, rangeItObj (x + step) (left - 1) step) :: post)) : WA Ψ (pyNext (.ref it)) Q vals l := fun E s a => by
  subst hl
  exact wpAny_pyNext_range_item (a.N _ (List.mem_append_right _ (.head _))).1 h0 fun h' hi hs => ⟨⟨rfl, rfl⟩, vals, _, a.upd hs hi, q _⟩
theorem WA.rangeEnd {it : Addr} {x left step : Int} {Q : Option Value → Vals → Led → Prop} (hh : Ψ.A.handled = none) (hm : (it, rangeItObj x left step) ∈ l) (h0 : left ≤ 0) (q : Q none vals (l.filter fun y => y.1 != it)) : WA Ψ (pyNext (.ref it)) Q vals l := fun E s a => by
  have hit := a.N _ hm
  refine wpAny_pyNext_range_end hh hit.1 h0 fun h' he => ⟨⟨rfl, rfl⟩, vals, _, ⟨⟨?_, fun b o e => ?_, a.F.above⟩, fun y hy => ?_, List.Nodup.sublist ((List.filter_sublist).map _) a.U, fun y hy => a.G y (List.mem_filter.mp hy).1⟩, q⟩
  · exact a.F.ns.extBut he (Ne.symm hit.2.1)
  · refine he b o (fun e' => ?_) (a.F.keep b o e)
    rw [e'] at e
    exact absurd (e.symm.trans hit.2.2) (by simp)
  · obtain ⟨h1, h2⟩ := List.mem_filter.mp hy
    have n := a.N y h1
    exact ⟨he _ _ (by simpa using h2) n.1, n.2⟩
theorem WA.permPost {α : Type} {T : Sem α} {Q : α → Vals → Led → Prop} (h : WA Ψ T (fun v vals l => ∃ l', l'.Perm l ∧ Q v vals l') vals l) : WA Ψ T Q vals l :=
  fun _ _ a => h.use a fun _ _ v' _ S a' ⟨l'', pm, q⟩ => ⟨S, v', l'', a'.sub (fun _ hx => pm.mem_iff.mp hx) ((pm.map _).nodup_iff.mpr a'.U), q⟩
theorem shiftPerm {M R : Led} {y : Addr × Obj} : (M ++ y :: R).Perm (y :: (M ++ R)) := List.perm_middle
theorem WA.range2 {a b : Int} {t u : Tok} {M R : Led} {Q : Value → Vals → Led → Prop} (q : ∀ x t', Q (.ref x) vals (M ++ (x, rangeObj a b 1 t u t') :: R)) : WA Ψ (call (.type "range") [.int a t, .int b u]) Q vals (M ++ R) :=
  WA.permPost fun E s h => call_range_2 ⟨⟨rfl, rfl⟩, vals, _, h.push, _, shiftPerm, q _ _⟩
theorem WA.range1 {a : Int} {t : Tok} {M R : Led} {Q : Value → Vals → Led → Prop} (q : ∀ x t' t'', Q (.ref x) vals (M ++ (x, rangeObj 0 a 1 t' t t'') :: R)) : WA Ψ (call (.type "range") [.int a t]) Q vals (M ++ R) :=
  WA.permPost fun E s h => call_range_1 ⟨⟨rfl, rfl⟩, vals, _, h.push, _, shiftPerm, q _ _ _⟩
theorem WA.rangeIterM {r : Addr} {a b c : Int} {t u v : Tok} {M R : Led} {Q : Value → Vals → Led → Prop} (hm : (r, rangeObj a b c t u v) ∈ R) (hs : Builtin.Range.small a b c = true) (q : ∀ x, Q (.ref x) vals (M ++ (x, rangeItObj a (Builtin.Range.rangeSize a b c) c) :: R)) :
    WA Ψ (pyIter (.ref r)) Q vals (M ++ R) := WA.permPost (WA.rangeIter (List.mem_append_right _ hm) hs fun x => ⟨_, shiftPerm, q x⟩)
theorem WA.rangeNextM {it : Addr} {x left step : Int} {M R : Led} {Q : Option Value → Vals → Led → Prop} (h0 : 0 < left)
    (q : ∀ t, Q (some (.int x t)) vals (M ++ (it, rangeItObj (x + step) (left - 1) step) :: R)) : WA Ψ (pyNext (.ref it)) Q vals (M ++ (it, rangeItObj x left step) :: R) := WA.rangeNext rfl h0 q
theorem WA.newTupM {vs : List Value} {M R : Led} {Q : Value → Vals → Led → Prop} (hz : vs.length ≤ sizeLine) (q : ∀ x, Q (.ref x) vals (M ++ (x, { cls := .type "tuple", data := .seq vs.toArray }) :: R)) : WA Ψ (PySem.newTuple vs) Q vals (M ++ R) :=
  WA.permPost (WA.newTuple hz fun x => ⟨_, shiftPerm, q x⟩)
theorem WA.newListM {vs : List Value} {M R : Led} {Q : Value → Vals → Led → Prop} (hz : vs.length ≤ sizeLine) (q : ∀ x, Q (.ref x) vals (M ++ (x, { cls := .type "list", data := .seq vs.toArray }) :: R)) : WA Ψ (PySem.newList vs) Q vals (M ++ R) :=
  WA.permPost (WA.newList hz fun x => ⟨_, shiftPerm, q x⟩)
theorem L.newTup {vs : List Value} {M R : Led} {Q : Value → Vals → Led → Prop} (hz : vs.length ≤ sizeLine) (q : ∀ x, let R' : Led := (x, { cls := .type "tuple", data := .seq vs.toArray }) :: R; Q (.ref x) vals (M ++ R')) : WA Ψ (PySem.newTuple vs) Q vals (M ++ R) := WA.newTupM hz q
theorem L.newList {vs : List Value} {M R : Led} {Q : Value → Vals → Led → Prop} (hz : vs.length ≤ sizeLine) (q : ∀ x, let R' : Led := (x, { cls := .type "list", data := .seq vs.toArray }) :: R; Q (.ref x) vals (M ++ R')) : WA Ψ (PySem.newList vs) Q vals (M ++ R) := WA.newListM hz q
theorem WC.letV {c : Code} {Q : Flow → Vals → Led → Prop} (h : let v := vals; WC Ψ c Q v l) : WC Ψ c Q vals l := h
theorem WA.letV {α : Type} {T : Sem α} {Q : α → Vals → Led → Prop} (h : let v := vals; WA Ψ T Q v l) : WA Ψ T Q vals l := h
@[reducible] noncomputable def kBody (Q : Value → Vals → Led → Prop) (vals : Vals) : Flow → Vals → Led → Prop := fun fl _ l' => ∃ l'', l''.Sublist l' ∧ Q (retOf fl) vals l''
theorem WA.callDefS {f : Addr} {fd : FuncData} {body : List Stmt} {args : List Value} {kw : List (Str × Value)} {binds : List (Str × Value)} {rest : List Str} {N' : Nm} {n : Nat} {Q : Value → Vals → Led → Prop} (ok : FnOk (K W.w.params) f fd body) (sc : ScOk fd.scope.names N'.loc N'.glo) (hr : Room Ψ.A (n + 1))
    (hb : ∀ s : Shared, (K W.w.params).In s.heap → BindsTo s fd ⟨args, kw⟩ binds) (hn : binds.map (·.1) ++ rest = N'.loc) (v0 : Vals) (h0 : bv binds rest.length = v0)
    (h : ∀ Ψ' : Frm K N' W, Ψ'.env = callEnv fd Ψ'.L f → Room Ψ'.A n → WA Ψ' (execs body Ψ'.env) (kBody Q vals) v0 l) :
    WA Ψ (call (.ref f) args kw) Q vals l :=
  WA.subPost (WA.callDef ok sc (by have := hr.d; omega) hb hn fun Ψ' e a => by rw [h0]; exact h Ψ' e (by rw [a]; exact hr.deeper))
theorem R.turnS {target : Expr} {it v : Value} {body orelse : List Stmt} {Q : Flow → Vals → Led → Prop} (h : WA Ψ (letOwnedTupleGo target it v) (fun _ vals l => WA Ψ (assign target Ψ.env v) (fun _ vals l => WA Ψ (execs body Ψ.env) (contL Ψ (.forLoop target it body orelse Ψ.env) Q) vals l) vals l) vals l) :
    turnL Ψ target it body orelse Q (some v) vals l := h
theorem R.turnN {target : Expr} {it : Value} {body orelse : List Stmt} {Q : Flow → Vals → Led → Prop} (h : WA Ψ (execs orelse Ψ.env) Q vals l) : turnL Ψ target it body orelse Q none vals l := h
theorem fits_of {n : Nat} (h : n ≤ 1000) : n ≤ sizeLine := Nat.le_trans h (by rw [show sizeLine = 16777216 from rfl]; omega)
noncomputable abbrev tupObj (vs : List Value) : Obj := { cls := .type "tuple", data := .seq vs.toArray }
theorem WA.unpk {t : Addr} {items : Array Value} {n k : Nat} {dd : Option Addr} {sl : Array (Option Value)} {Q : List Value → Vals → Led → Prop} (hh : Ψ.A.handled = none) (hm : (t, (⟨.type "tuple", dd, .seq items k, sl⟩ : Obj)) ∈ l) (hn : n = items.size) (q : Q items.toList vals l) : WA Ψ (unpackItems (.ref t) n none) Q vals l := fun E s a =>
  unpackItemsN_ a.F a.N ⟨_, (a.N _ hm).1, rfl, k, rfl⟩ hh hn fun h' F' N' => ⟨⟨rfl, rfl⟩, vals, l, ⟨F', N', a.U, a.G⟩, q⟩
theorem WA.aio0 {xs : List Value} {Q : Unit → Vals → Led → Prop} (q : Q () vals l) : WA Ψ (assignInOrder [] xs) Q vals l := WA.pure q
theorem WA.aio1 {t : Value → Sem Unit} {ts : List (Value → Sem Unit)} {x : Value} {xs : List Value} {Q : Unit → Vals → Led → Prop} (h : WA Ψ (t x) (fun _ vals l => WA Ψ (assignInOrder ts xs) Q vals l) vals l) : WA Ψ (assignInOrder (t :: ts) (x :: xs)) Q vals l :=
  WA.bind (WA.holding h)
theorem R.swap2 {x y : Str} {px py pt pv pos : Pos} {k1 k2 : Nat} {e1 e2 : Expr} {Q : Flow → Vals → Led → Prop} (hh : Ψ.A.handled = none) (hp : ([e1, e2].all plainE) = true)
    (hs1 : swapsWithSole [.Tuple [.Name x px, .Name y py] k1 pt] (.Tuple [e1, e2] k2 pv) pos.line Ψ.env = Pure.pure false)
    (hs2 : swappedStores [.Tuple [.Name x px, .Name y py] k1 pt] (.Tuple [e1, e2] k2 pv) Ψ.env = Pure.pure (some [x, y]))
    (h : WA Ψ (eval e1 Ψ.env) (fun v1 vals l => WA Ψ (eval e2 Ψ.env) (fun v2 vals l => WA Ψ (PySem.bindName Ψ.env y v2) (fun _ vals l => WA Ψ (PySem.bindName Ψ.env x v1) (fun _ vals l => Q .next vals l) vals l) vals l) vals l) vals l) :
    WA Ψ (exec (.Assign [.Tuple [.Name x px, .Name y py] k1 pt] (.Tuple [e1, e2] k2 pv) pos) Ψ.env) Q vals l := by
  have h' : WA Ψ (eval (.Tuple [e1, e2] k2 pv) Ψ.env) (fun v vals l => WA Ψ (unpackItems v 2 none) (fun items vals l => WA Ψ (assignInOrder ([x, y].reverse.map fun n => PySem.bindName Ψ.env n) items.reverse) (fun _ vals l => Q .next vals l) vals l) vals l) vals l := by
    refine WA.tuple hp (h.mono fun v1 _ _ h1 => h1.mono fun v2 vals2 l2 h2 => ?_)
    show WA Ψ (PySem.newTuple [v1, v2]) _ _ _
    refine WA.newTuple (fits_of (n := 2) (by first | decide | lia | omega)) fun t => ?_
    refine WA.unpk hh (.head _) rfl ?_
    refine WA.sublist l2 (List.sublist_cons_self _ _) ?_
    exact WA.aio1 (h2.mono fun _ _ _ h3 => WA.aio1 (h3.mono fun _ _ _ h4 => WA.aio0 h4))
  exact fun E s a => Assign_Tuple_swapped (names := [x, y]) (h'.use a fun _ _ _ _ S a1 h1 => h1.use a1 fun _ _ _ _ S1 a2 h2 => h2.use a2 fun _ _ v' l' S2 a3 q => ⟨(S.trans S1).trans S2, v', l', a3, q⟩) hs1 hs2
theorem R.asT {elts : List Expr} {k : Nat} {tpos pos : Pos} {e : Expr} {Q : Flow → Vals → Led → Prop} (hs1 : swapsWithSole [.Tuple elts k tpos] e pos.line Ψ.env = Pure.pure false) (hs2 : swappedStores [.Tuple elts k tpos] e Ψ.env = Pure.pure none)
    (h : WA Ψ (eval e Ψ.env) (fun v vals l => WA Ψ (assign (.Tuple elts k tpos) Ψ.env v) (fun _ vals l => Q .next vals l) vals l) vals l) : WA Ψ (exec (.Assign [.Tuple elts k tpos] e pos) Ψ.env) Q vals l := fun E s a =>
  Assign_Tuple (h.use a fun _ _ _ _ S a1 h1 => h1.use a1 fun _ _ v' l' S1 a2 q => ⟨S.trans S1, v', l', a2, q⟩) hs1 hs2
theorem R.unp {elts : List Expr} {k n : Nat} {tpos : Pos} {t : Addr} {items : Array Value} {dd : Option Addr} {sl : Array (Option Value)} {Q : Unit → Vals → Led → Prop} (hh : Ψ.A.handled = none) (hm : (t, (⟨.type "tuple", dd, .seq items n, sl⟩ : Obj)) ∈ l) (hn : (assignEach elts Ψ.env).length = items.size) (hstar : (assignEach elts Ψ.env).findIdx? (·.1) = none)
    (h : WA Ψ (assignInOrder ((assignEach elts Ψ.env).map (·.2)) items.toList) Q vals l) : WA Ψ (assign (.Tuple elts k tpos) Ψ.env (.ref t)) Q vals l := fun E s a =>
  unpackN_ a.F a.N ⟨_, (a.N _ hm).1, rfl, n, rfl⟩ hh hn hstar fun h' F' N' => h.use (s := { s with heap := h' }) ⟨F', N', a.U, a.G⟩ fun _ _ v' l' S a2 q => ⟨S, v', l', a2, q⟩
theorem R.ai1 {x : Str} {px : Pos} {es : List Expr} {v : Value} {vs : List Value} {Q : Unit → Vals → Led → Prop} (h : WA Ψ (PySem.bindName Ψ.env x v) (fun _ vals l => WA Ψ (assignInOrder ((assignEach es Ψ.env).map (·.2)) vs) Q vals l) vals l) :
    WA Ψ (assignInOrder ((assignEach (.Name x px :: es) Ψ.env).map (·.2)) (v :: vs)) Q vals l := WA.aio1 (t := fun v => assign (.Name x px) Ψ.env v) (WA.asgN h)
theorem R.ai0 {xs : List Value} {Q : Unit → Vals → Led → Prop} (q : Q () vals l) : WA Ψ (assignInOrder ((assignEach [] Ψ.env).map (·.2)) xs) Q vals l := WA.pure q
theorem WA.isNotN {v : Value} {Q : Value → Vals → Led → Prop} (q : Q (.bool (!(v == .none))) vals l) : WA Ψ (compareOp .IsNot v .none) Q vals l := fun _ s a => isnot_none_gen ⟨Same.refl s, vals, l, a, q⟩
theorem R.methB {id : String} {x : Value} {args : List Expr} {Q : Value → Vals → Led → Prop} (h : argsOf Ψ args (fun vs vals l => WA Ψ (call (.builtin id) (x :: vs) []) Q vals l) vals l) : methK Ψ args Q (.builtin id, [x]) vals l := ⟨trivial, h⟩
theorem R.funB {id : String} {args : List Expr} {Q : Value → Vals → Led → Prop} (h : argsOf Ψ args (fun vs vals l => WA Ψ (call (.builtin id) vs []) Q vals l) vals l) : funK Ψ args Q (.builtin id) vals l := ⟨trivial, h⟩
theorem R.funT {id : String} {args : List Expr} {Q : Value → Vals → Led → Prop} (h : argsOf Ψ args (fun vs vals l => WA Ψ (call (.type id) vs []) Q vals l) vals l) : funK Ψ args Q (.type id) vals l := ⟨trivial, h⟩
structure DefIs (K : Frag) (x : Str) (f : Addr) : Prop where
  g : GlobIs K x (.ref f)
  k : keepIn K (.ref f) = true
theorem R.funR {x : Str} {pos : Pos} {f : Addr} {args : List Expr} {Q : Value → Vals → Led → Prop} (h : NmG N.glo x) (g : DefIs (K W.w.params) x f)
    (q : argsOf Ψ args (fun vs vals l => WA Ψ (call (.ref f) vs []) Q vals l) vals l) : WA Ψ (eval (.Name x pos) Ψ.env) (funK Ψ args Q) vals l   := R.glob h g.g ⟨g.k, q⟩
theorem R.expr {x : Expr} {pos : Pos} {Q : Flow → Vals → Led → Prop} (h : WA Ψ (eval x Ψ.env) (fun _ vals l => Q .next vals l) vals l) (hs : swapsWith x none pos.line Ψ.env = Pure.pure false) : WA Ψ (exec (.Expr x pos) Ψ.env) Q vals l :=
  WA.expr h (by unfold interactive; rw [Ψ.e.kind]; rfl) hs
noncomputable def methKK (Ψ : Frm K N W) (args : List Expr) (ks : List Keyword) (ns : List Str) (Q : Value → Vals → Led → Prop) (fx : Value × List Value) (vals : Vals) (l : Led) : Prop :=
  KeepOk (K W.w.params) fx.1 ∧ argsOf Ψ args (fun vs vals l => kwOf Ψ ks (fun kv vals l => WA Ψ (call fx.1 (fx.2 ++ vs) (ns.zip kv)) Q vals l) vals l) vals l
theorem R.callMK {o : Expr} {name : Str} {apos pos : Pos} {args : List Expr} {ks : List Keyword} {ns : List Str} {pl : Sem Bool} {Q : Value → Vals → Led → Prop} (hs : args.all plainE = true) (hk : (backToKw pos (keywordEach ks Ψ.env)).all (·.1.isSome) = true) (hn : (backToKw pos (keywordEach ks Ψ.env)).filterMap (·.1) = ns)
    (h : WA Ψ (eval o Ψ.env) (fun ov vals l => WA Ψ (getMethod ov name pl) (methKK Ψ args ks ns Q) vals l) vals l)
    (he : eval (.Call (.Attribute o name apos) args ks pos) Ψ.env = (do let ov ← eval o Ψ.env; PySem.standAt apos.atName; let (f, first) ← PySem.holding [ov] (getMethod ov name pl); PySem.callWith pos f first (backTo pos (starEach args Ψ.env)) (backToKw pos (keywordEach ks Ψ.env)))) :
    WA Ψ (eval (.Call (.Attribute o name apos) args ks pos) Ψ.env) Q vals l := by
  subst hn
  exact WA.callM hs hk h he
theorem WA.inStrs {t : Addr} {vs : List Value} {ys : List Str} {x : Str} {u : Tok} {Q : Value → Vals → Led → Prop} (hm : (t, tupObj vs) ∈ l) (hi : StrsAre vs ys) (q : Q (.bool (ys.any (· == x))) vals l) : WA Ψ (compareOp .In (.str x u) (.ref t)) Q vals l := fun E s a =>
  in_tuple_strs (items := vs.toArray) ⟨_, (a.N _ hm).1, rfl, 0, rfl⟩ hi ⟨Same.refl s, _, l, a, q⟩
end
end Mine
end
section
open PySem PySem.W PyProof.Rows PySem.Calls
set_option maxRecDepth 100000
namespace Mine
noncomputable abbrev VQ := Value → Vals → Led → Prop
noncomputable abbrev FQ := Flow → Vals → Led → Prop
noncomputable abbrev BQ := Bool → Vals → Led → Prop
noncomputable abbrev UQ := Unit → Vals → Led → Prop
noncomputable abbrev LQ := List Value → Vals → Led → Prop
noncomputable abbrev MQ := Value × List Value → Vals → Led → Prop
@[reducible] noncomputable def kNext {α : Type} (Q : FQ) : α → Vals → Led → Prop := fun _ vals l => Q .next vals l
@[reducible] noncomputable def kRetV (Q : FQ) : VQ := fun v vals l => Q (.ret v) vals l
@[reducible] noncomputable def kNot (Q : BQ) : BQ := fun b vals l => Q (!b) vals l
@[reducible] noncomputable def kCons (v : Value) (Q : LQ) : LQ := fun vs vals l => Q (v :: vs) vals l
section
variable {K : Params → Frag} {N : Nm}
@[reducible] noncomputable def kIf (x y : List Stmt) {W : Wd} (Ψ : Frm K N W) (Q : FQ) : BQ := fun b vals l => if b = true then WA Ψ (execs x Ψ.env) Q vals l else WA Ψ (execs y Ψ.env) Q vals l
@[reducible] noncomputable def kIfE (x y : Expr) {W : Wd} (Ψ : Frm K N W) (Q : VQ) : BQ := fun b vals l => if b = true then WA Ψ (eval x Ψ.env) Q vals l else WA Ψ (eval y Ψ.env) Q vals l
@[reducible] noncomputable def kAnd (r : List Expr) {W : Wd} (Ψ : Frm K N W) (Q : BQ) : BQ := fun b vals l => if b = true then WA Ψ (allTrue .And r Ψ.env) Q vals l else Q false vals l
@[reducible] noncomputable def kOr (r : List Expr) {W : Wd} (Ψ : Frm K N W) (Q : BQ) : BQ := fun b vals l => if b = true then Q true vals l else WA Ψ (allTrue .Or r Ψ.env) Q vals l
@[reducible] noncomputable def kAs (x : Str) {W : Wd} (Ψ : Frm K N W) (Q : FQ) : VQ := fun v vals l => WA Ψ (bindName Ψ.env x v) (kNext Q) vals l
@[reducible] noncomputable def kAsA2 (x : Str) {W : Wd} (Ψ : Frm K N W) (v : Value) (Q : FQ) : VQ := fun ov vals l => WA Ψ (setAttr ov x v) (kNext Q) vals l
@[reducible] noncomputable def kAsA (o : Expr) (x : Str) {W : Wd} (Ψ : Frm K N W) (Q : FQ) : VQ := fun v vals l => WA Ψ (eval o Ψ.env) (kAsA2 x Ψ v Q) vals l
@[reducible] noncomputable def kAsS3 {W : Wd} (Ψ : Frm K N W) (v ov : Value) (Q : FQ) : VQ := fun iv vals l => WA Ψ (setItem ov iv v) (kNext Q) vals l
@[reducible] noncomputable def kAsS2 (i : Expr) {W : Wd} (Ψ : Frm K N W) (v : Value) (Q : FQ) : VQ := fun ov vals l => WA Ψ (eval i Ψ.env) (kAsS3 Ψ v ov Q) vals l
@[reducible] noncomputable def kAsS (o i : Expr) {W : Wd} (Ψ : Frm K N W) (Q : FQ) : VQ := fun v vals l => WA Ψ (eval o Ψ.env) (kAsS2 i Ψ v Q) vals l
@[reducible] noncomputable def kAu5 {W : Wd} (Ψ : Frm K N W) (ov iv : Value) (Q : FQ) : VQ := fun new vals l => WA Ψ (setItem ov iv new) (kNext Q) vals l
@[reducible] noncomputable def kAu4 (op : Operator) {W : Wd} (Ψ : Frm K N W) (ov iv old : Value) (Q : FQ) : VQ := fun v vals l => WA Ψ (inplaceOp op old v) (kAu5 Ψ ov iv Q) vals l
@[reducible] noncomputable def kAu3 (op : Operator) (e : Expr) {W : Wd} (Ψ : Frm K N W) (ov iv : Value) (Q : FQ) : VQ := fun old vals l => WA Ψ (eval e Ψ.env) (kAu4 op Ψ ov iv old Q) vals l
@[reducible] noncomputable def kAu2 (op : Operator) (e : Expr) {W : Wd} (Ψ : Frm K N W) (ov : Value) (Q : FQ) : VQ := fun iv vals l => WA Ψ (getItem ov iv) (kAu3 op e Ψ ov iv Q) vals l
@[reducible] noncomputable def kAu (i : Expr) (op : Operator) (e : Expr) {W : Wd} (Ψ : Frm K N W) (Q : FQ) : VQ := fun ov vals l => WA Ψ (eval i Ψ.env) (kAu2 op e Ψ ov Q) vals l
@[reducible] noncomputable def kAn2 (x : Str) {W : Wd} (Ψ : Frm K N W) (Q : FQ) : VQ := fun new vals l => WA Ψ (bindName Ψ.env x new) (kNext Q) vals l
@[reducible] noncomputable def kAn (x : Str) (op : Operator) {W : Wd} (Ψ : Frm K N W) (v : Value) (Q : FQ) : VQ := fun y vals l => WA Ψ (inplaceOp op v y) (kAn2 x Ψ Q) vals l
@[reducible] noncomputable def kOp (op : Operator) {W : Wd} (Ψ : Frm K N W) (a : Value) (Q : VQ) : VQ := fun b vals l => WA Ψ (binaryOp op a b) Q vals l
@[reducible] noncomputable def kOp2 (op : Operator) (y : Expr) {W : Wd} (Ψ : Frm K N W) (Q : VQ) : VQ := fun a vals l => WA Ψ (eval y Ψ.env) (kOp op Ψ a Q) vals l
@[reducible] noncomputable def kUn (op : UnaryOp) {W : Wd} (Ψ : Frm K N W) (Q : VQ) : VQ := fun a vals l => WA Ψ (unaryOp op a) Q vals l
@[reducible] noncomputable def kCmp (op : CmpOp) {W : Wd} (Ψ : Frm K N W) (a : Value) (Q : VQ) : VQ := fun b vals l => WA Ψ (compareOp op a b) Q vals l
@[reducible] noncomputable def kCmp2 (op : CmpOp) (y : Expr) {W : Wd} (Ψ : Frm K N W) (Q : VQ) : VQ := fun a vals l => WA Ψ (eval y Ψ.env) (kCmp op Ψ a Q) vals l
@[reducible] noncomputable def kTr {W : Wd} (Ψ : Frm K N W) (Q : BQ) : VQ := fun c vals l => WA Ψ (truthy c) Q vals l
@[reducible] noncomputable def kTC (op : CmpOp) {W : Wd} (Ψ : Frm K N W) (a : Value) (Q : BQ) : VQ := fun b vals l => WA Ψ (compareOp op a b) (kTr Ψ Q) vals l
@[reducible] noncomputable def kTC2 (op : CmpOp) (y : Expr) {W : Wd} (Ψ : Frm K N W) (Q : BQ) : VQ := fun a vals l => WA Ψ (eval y Ψ.env) (kTC op Ψ a Q) vals l
@[reducible] noncomputable def kSub (o i : Expr) {W : Wd} (Ψ : Frm K N W) (ov : Value) (Q : VQ) : VQ := fun iv vals l => WA Ψ (subscriptTail o i ov iv) Q vals l
@[reducible] noncomputable def kSub2 (o i : Expr) {W : Wd} (Ψ : Frm K N W) (Q : VQ) : VQ := fun ov vals l => WA Ψ (eval i Ψ.env) (kSub o i Ψ ov Q) vals l
@[reducible] noncomputable def kAttr (x : Str) {W : Wd} (Ψ : Frm K N W) (Q : VQ) : VQ := fun ov vals l => WA Ψ (getAttr ov x true) Q vals l
@[reducible] noncomputable def kTup {W : Wd} (Ψ : Frm K N W) (Q : VQ) : LQ := fun vs vals l => WA Ψ (PySem.newTuple vs) Q vals l
@[reducible] noncomputable def kLst {W : Wd} (Ψ : Frm K N W) (Q : VQ) : LQ := fun vs vals l => WA Ψ (PySem.newList vs) Q vals l
@[reducible] noncomputable def kArg (r : List Expr) {W : Wd} (Ψ : Frm K N W) (Q : LQ) : VQ := fun v vals l => argsOf Ψ r (kCons v Q) vals l
@[reducible] noncomputable def kKw (r : List Keyword) {W : Wd} (Ψ : Frm K N W) (Q : LQ) : VQ := fun v vals l => kwOf Ψ r (kCons v Q) vals l
@[reducible] noncomputable def kFun {W : Wd} (Ψ : Frm K N W) (f : Value) (Q : VQ) : LQ := fun vs vals l => WA Ψ (call f vs []) Q vals l
@[reducible] noncomputable def kCall {W : Wd} (Ψ : Frm K N W) (f x : Value) (Q : VQ) : LQ := fun vs vals l => WA Ψ (call f (x :: vs) []) Q vals l
@[reducible] noncomputable def kGM (name : Str) (pl : Sem Bool) (args : List Expr) {W : Wd} (Ψ : Frm K N W) (Q : VQ) : VQ := fun ov vals l => WA Ψ (getMethod ov name pl) (methK Ψ args Q) vals l
@[reducible] noncomputable def kCallK (ns : List Str) {W : Wd} (Ψ : Frm K N W) (f x : Value) (vs : List Value) (Q : VQ) : LQ := fun kv vals l => WA Ψ (call f (x :: vs) (ns.zip kv)) Q vals l
@[reducible] noncomputable def kCallKK (ks : List Keyword) (ns : List Str) {W : Wd} (Ψ : Frm K N W) (f x : Value) (Q : VQ) : LQ := fun vs vals l => kwOf Ψ ks (kCallK ns Ψ f x vs Q) vals l
@[reducible] noncomputable def kGMK (name : Str) (pl : Sem Bool) (args : List Expr) (ks : List Keyword) (ns : List Str) {W : Wd} (Ψ : Frm K N W) (Q : VQ) : VQ := fun ov vals l => WA Ψ (getMethod ov name pl) (methKK Ψ args ks ns Q) vals l
@[reducible] noncomputable def kFor2 (target : Expr) (body orelse : List Stmt) {W : Wd} (Ψ : Frm K N W) (Q : FQ) : VQ := fun it vals l => WC Ψ (.forLoop target it body orelse Ψ.env) Q vals l
@[reducible] noncomputable def kFor (target : Expr) (body orelse : List Stmt) {W : Wd} (Ψ : Frm K N W) (Q : FQ) : VQ := fun x vals l => WA Ψ (pyIter x) (kFor2 target body orelse Ψ Q) vals l
@[reducible] noncomputable def kWh (test : Expr) (body orelse : List Stmt) {W : Wd} (Ψ : Frm K N W) (Q : FQ) : BQ := fun b vals l => if b = true then WA Ψ (execs body Ψ.env) (contL Ψ (.whileLoop test body orelse Ψ.env) Q) vals l else WA Ψ (execs orelse Ψ.env) Q vals l
@[reducible] noncomputable def kTurn2 (target : Expr) (body orelse : List Stmt) {W : Wd} (Ψ : Frm K N W) (it : Value) (Q : FQ) : UQ := fun _ vals l => WA Ψ (execs body Ψ.env) (contL Ψ (.forLoop target it body orelse Ψ.env) Q) vals l
@[reducible] noncomputable def kTurn (target : Expr) (body orelse : List Stmt) {W : Wd} (Ψ : Frm K N W) (it v : Value) (Q : FQ) : UQ := fun _ vals l => WA Ψ (assign target Ψ.env v) (kTurn2 target body orelse Ψ it Q) vals l
@[reducible] noncomputable def kAi (es : List Expr) {W : Wd} (Ψ : Frm K N W) (vs : List Value) (Q : UQ) : UQ := fun _ vals l => WA Ψ (assignInOrder ((assignEach es Ψ.env).map (·.2)) vs) Q vals l
@[reducible] noncomputable def kAsT (t : Expr) {W : Wd} (Ψ : Frm K N W) (Q : FQ) : VQ := fun v vals l => WA Ψ (assign t Ψ.env v) (kNext Q) vals l
@[reducible] noncomputable def kSw3 (x : Str) {W : Wd} (Ψ : Frm K N W) (v1 : Value) (Q : FQ) : UQ := fun _ vals l => WA Ψ (bindName Ψ.env x v1) (kNext Q) vals l
@[reducible] noncomputable def kSw2 (x y : Str) {W : Wd} (Ψ : Frm K N W) (v1 : Value) (Q : FQ) : VQ := fun v2 vals l => WA Ψ (bindName Ψ.env y v2) (kSw3 x Ψ v1 Q) vals l
@[reducible] noncomputable def kSw (x y : Str) (e2 : Expr) {W : Wd} (Ψ : Frm K N W) (Q : FQ) : VQ := fun v1 vals l => WA Ψ (eval e2 Ψ.env) (kSw2 x y Ψ v1 Q) vals l
theorem L.seq {st : Stmt} {r : List Stmt} {W : Wd} {Ψ : Frm K N W} {Q : FQ} {vals : Vals} {l : Led} (h : let q := contS Ψ r Q; let v := vals; let m := l; WA Ψ (exec st Ψ.env) q v m) : WA Ψ (execs (st :: r) Ψ.env) Q vals l := R.seq h
theorem L.ret {e : Expr} {pos : Pos} {W : Wd} {Ψ : Frm K N W} {Q : FQ} {vals : Vals} {l : Led} (h : let q := kRetV Q; WA Ψ (eval e Ψ.env) q vals l) : WA Ψ (exec (.Return (some e) pos) Ψ.env) Q vals l := WA.ret h
theorem L.ifS {t : Expr} {x y : List Stmt} {pos : Pos} {W : Wd} {Ψ : Frm K N W} {Q : FQ} {vals : Vals} {l : Led} (h : let q := kIf x y Ψ Q; WA Ψ (isTrue t Ψ.env (eval t Ψ.env)) q vals l) : WA Ψ (exec (.If t x y pos) Ψ.env) Q vals l := WA.ifS h
theorem L.asN {x : Str} {xp pos : Pos} {e : Expr} {W : Wd} {Ψ : Frm K N W} {Q : FQ} {vals : Vals} {l : Led} (hsw : swapsWith e (some (.Name x xp)) pos.line Ψ.env = Pure.pure false)
    (h : let q := kAs x Ψ Q; WA Ψ (eval e Ψ.env) q vals l) : WA Ψ (exec (.Assign [.Name x xp] e pos) Ψ.env) Q vals l := WA.asN hsw h
theorem L.asA {o e : Expr} {x : Str} {xp pos : Pos} {W : Wd} {Ψ : Frm K N W} {Q : FQ} {vals : Vals} {l : Led} (hsw : swapsWith e (some (.Attribute o x xp)) pos.line Ψ.env = Pure.pure false)
    (h : let q := kAsA o x Ψ Q; WA Ψ (eval e Ψ.env) q vals l) : WA Ψ (exec (.Assign [.Attribute o x xp] e pos) Ψ.env) Q vals l := WA.asA h hsw
theorem L.asS {o i e : Expr} {xp pos : Pos} {W : Wd} {Ψ : Frm K N W} {Q : FQ} {vals : Vals} {l : Led} (hsw : swapsWith e (some (.Subscript o i xp)) pos.line Ψ.env = Pure.pure false)
    (h : let q := kAsS o i Ψ Q; WA Ψ (eval e Ψ.env) q vals l) : WA Ψ (exec (.Assign [.Subscript o i xp] e pos) Ψ.env) Q vals l := WA.asS h hsw
theorem L.augS {o i e : Expr} {op : Operator} {xp pos : Pos} {W : Wd} {Ψ : Frm K N W} {Q : FQ} {vals : Vals} {l : Led}
    (ha : ∀ (ov iv new : Value), augStore i ov iv new = (do PySem.holding [new, ov, iv] (setItem ov iv new); PySem.release [new, ov, iv] []; Pure.pure .next))
    (h : let q := kAu i op e Ψ Q; WA Ψ (eval o Ψ.env) q vals l) : WA Ψ (exec (.AugAssign (.Subscript o i xp) op e pos) Ψ.env) Q vals l := WA.augS h ha
theorem L.expr {x : Expr} {pos : Pos} {W : Wd} {Ψ : Frm K N W} {Q : FQ} {vals : Vals} {l : Led} (hs : swapsWith x none pos.line Ψ.env = Pure.pure false) (h : let q := kNext Q; WA Ψ (eval x Ψ.env) q vals l) : WA Ψ (exec (.Expr x pos) Ψ.env) Q vals l := R.expr h hs
theorem L.binOp {x y : Expr} {op : Operator} {pos : Pos} {W : Wd} {Ψ : Frm K N W} {Q : VQ} {vals : Vals} {l : Led} (h : let q := kOp2 op y Ψ Q; WA Ψ (eval x Ψ.env) q vals l) : WA Ψ (eval (.BinOp x op y pos) Ψ.env) Q vals l := WA.binOp h
theorem L.unOp {x : Expr} {op : UnaryOp} {pos : Pos} {W : Wd} {Ψ : Frm K N W} {Q : VQ} {vals : Vals} {l : Led} (h : let q := kUn op Ψ Q; WA Ψ (eval x Ψ.env) q vals l) : WA Ψ (eval (.UnaryOp op x pos) Ψ.env) Q vals l := WA.unOp h
theorem L.ifExp {t x y : Expr} {pos : Pos} {W : Wd} {Ψ : Frm K N W} {Q : VQ} {vals : Vals} {l : Led} (h : let q := kIfE x y Ψ Q; WA Ψ (isTrue t Ψ.env (eval t Ψ.env)) q vals l) : WA Ψ (eval (.IfExp t x y pos) Ψ.env) Q vals l := WA.ifExp h
theorem L.cmp {x y : Expr} {op : CmpOp} {pos : Pos} {W : Wd} {Ψ : Frm K N W} {Q : VQ} {vals : Vals} {l : Led} (hm : behindInMarks op y = false) (h : let q := kCmp2 op y Ψ Q; WA Ψ (eval x Ψ.env) q vals l) : WA Ψ (eval (.Compare x [op] [y] pos) Ψ.env) Q vals l := WA.cmp hm h
theorem L.tCmp {x y : Expr} {op : CmpOp} {pos : Pos} {W : Wd} {Ψ : Frm K N W} {whole : Sem Value} {Q : BQ} {vals : Vals} {l : Led} (hm : behindInMarks op y = false) (h : let q := kTC2 op y Ψ Q; WA Ψ (eval x Ψ.env) q vals l) : WA Ψ (isTrue (.Compare x [op] [y] pos) Ψ.env whole) Q vals l := WA.tCmp hm h
theorem L.tNot {x : Expr} {pos : Pos} {W : Wd} {Ψ : Frm K N W} {whole : Sem Value} {Q : BQ} {vals : Vals} {l : Led} (h : let q := kNot Q; WA Ψ (isTrue x Ψ.env (eval x Ψ.env)) q vals l) : WA Ψ (isTrue (.UnaryOp .Not x pos) Ψ.env whole) Q vals l := WA.tNot h
theorem L.tBool {op : BoolOp} {vs : List Expr} {pos : Pos} {W : Wd} {Ψ : Frm K N W} {whole : Sem Value} {Q : BQ} {vals : Vals} {l : Led} (h : WA Ψ (allTrue op vs Ψ.env) Q vals l) : WA Ψ (isTrue (.BoolOp op vs pos) Ψ.env whole) Q vals l := h
theorem L.allAnd {x : Expr} {r : List Expr} {W : Wd} {Ψ : Frm K N W} {Q : BQ} {vals : Vals} {l : Led} (h : let q := kAnd r Ψ Q; WA Ψ (isTrue x Ψ.env (eval x Ψ.env)) q vals l) : WA Ψ (allTrue .And (x :: r) Ψ.env) Q vals l := WA.allAnd h
theorem L.allOr {x : Expr} {r : List Expr} {W : Wd} {Ψ : Frm K N W} {Q : BQ} {vals : Vals} {l : Led} (h : let q := kOr r Ψ Q; WA Ψ (isTrue x Ψ.env (eval x Ψ.env)) q vals l) : WA Ψ (allTrue .Or (x :: r) Ψ.env) Q vals l := WA.allOr h
theorem L.tPlain {e : Expr} {W : Wd} {Ψ : Frm K N W} {Q : BQ} {vals : Vals} {l : Led} (he : ∀ whole env, isTrue e env whole = (do let v ← whole; PySem.standAt e.pos; PySem.holding [v] (truthy v))) (h : let q := kTr Ψ Q; WA Ψ (eval e Ψ.env) q vals l) : WA Ψ (isTrue e Ψ.env (eval e Ψ.env)) Q vals l := WA.tPlain h (he _ _)
theorem L.subs {o i : Expr} {pos : Pos} {W : Wd} {Ψ : Frm K N W} {Q : VQ} {vals : Vals} {l : Led} (h : let q := kSub2 o i Ψ Q; WA Ψ (eval o Ψ.env) q vals l) : WA Ψ (eval (.Subscript o i pos) Ψ.env) Q vals l := WA.subs h
theorem L.attr {o : Expr} {x : Str} {pos : Pos} {W : Wd} {Ψ : Frm K N W} {Q : VQ} {vals : Vals} {l : Led} (hb : ∀ env, attributeBase o x env (eval o env) = eval o env) (h : let q := kAttr x Ψ Q; WA Ψ (eval o Ψ.env) q vals l) : WA Ψ (eval (.Attribute o x pos) Ψ.env) Q vals l := WA.attr h (hb _)
theorem L.tuple {es : List Expr} {k : Nat} {pos : Pos} {W : Wd} {Ψ : Frm K N W} {Q : VQ} {vals : Vals} {l : Led} (hs : es.all plainE = true) (h : let q := kTup Ψ Q; argsOf Ψ es q vals l) : WA Ψ (eval (.Tuple es k pos) Ψ.env) Q vals l := WA.tuple hs h
theorem L.list {es : List Expr} {pos : Pos} {W : Wd} {Ψ : Frm K N W} {Q : VQ} {vals : Vals} {l : Led} (hs : es.all plainE = true) (h : let q := kLst Ψ Q; argsOf Ψ es q vals l) : WA Ψ (eval (.List es pos) Ψ.env) Q vals l := WA.list hs h
theorem L.argC {e : Expr} {r : List Expr} {W : Wd} {Ψ : Frm K N W} {Q : LQ} {vals : Vals} {l : Led} (h : let q := kArg r Ψ Q; WA Ψ (eval e Ψ.env) q vals l) : argsOf Ψ (e :: r) Q vals l := h
theorem L.argNm {x : Str} {pos : Pos} {r : List Expr} {i : Nat} {W : Wd} {Ψ : Frm K N W} {v : Value} {Q : LQ} {vals : Vals} {l : Led} (hi : NmI N.loc x i) (hv : vget vals i = some v) (h : argsOf Ψ r (kCons v Q) vals l) : argsOf Ψ (.Name x pos :: r) Q vals l := R.name (Q := fun v vals l => argsOf Ψ r (fun vs vals l => Q (v :: vs) vals l) vals l) hi hv h
theorem L.argN {W : Wd} {Ψ : Frm K N W} {Q : LQ} {vals : Vals} {l : Led} (h : Q [] vals l) : argsOf Ψ [] Q vals l := h
theorem L.kwC {e : Keyword} {r : List Keyword} {W : Wd} {Ψ : Frm K N W} {Q : LQ} {vals : Vals} {l : Led} (h : let q := kKw r Ψ Q; WA Ψ (eval e.value Ψ.env) q vals l) : kwOf Ψ (e :: r) Q vals l := h
theorem L.callM {o : Expr} {name : Str} {apos pos : Pos} {args : List Expr} {pl : Sem Bool} {W : Wd} {Ψ : Frm K N W} {Q : VQ} {vals : Vals} {l : Led} (hs : args.all plainE = true)
    (he : eval (.Call (.Attribute o name apos) args [] pos) Ψ.env = (do let ov ← eval o Ψ.env; PySem.standAt apos.atName; let (f, first) ← PySem.holding [ov] (getMethod ov name pl); PySem.callWith pos f first (backTo pos (starEach args Ψ.env)) (backToKw pos (keywordEach [] Ψ.env))))
    (h : let q := kGM name pl args Ψ Q; WA Ψ (eval o Ψ.env) q vals l) : WA Ψ (eval (.Call (.Attribute o name apos) args [] pos) Ψ.env) Q vals l := R.callM hs h he
theorem L.callN {g : Expr} {args : List Expr} {pos : Pos} {W : Wd} {Ψ : Frm K N W} {Q : VQ} {vals : Vals} {l : Led} (hs : args.all plainE = true)
    (he : ∀ env, eval (.Call g args [] pos) env = (do let f ← eval g env; PySem.callWith pos f [] (backTo pos (starEach args env)) (backToKw pos (keywordEach [] env))))
    (h : let q := funK Ψ args Q; WA Ψ (eval g Ψ.env) q vals l) : WA Ψ (eval (.Call g args [] pos) Ψ.env) Q vals l := R.callN hs h (he _)
theorem L.methB {args : List Expr} {id : String} {W : Wd} {Ψ : Frm K N W} {x : Value} {Q : VQ} {vals : Vals} {l : Led} (h : let q := kCall Ψ (.builtin id) x Q; argsOf Ψ args q vals l) : methK Ψ args Q (.builtin id, [x]) vals l := R.methB h
theorem L.funB {args : List Expr} {id : String} {W : Wd} {Ψ : Frm K N W} {Q : VQ} {vals : Vals} {l : Led} (h : let q := kFun Ψ (.builtin id) Q; argsOf Ψ args q vals l) : funK Ψ args Q (.builtin id) vals l := R.funB h
theorem L.funT {args : List Expr} {id : String} {W : Wd} {Ψ : Frm K N W} {Q : VQ} {vals : Vals} {l : Led} (h : let q := kFun Ψ (.type id) Q; argsOf Ψ args q vals l) : funK Ψ args Q (.type id) vals l := R.funT h
theorem L.funR {x : Str} {pos : Pos} {f : Addr} {args : List Expr} {W : Wd} {Ψ : Frm K N W} {Q : VQ} {vals : Vals} {l : Led} (h : NmG N.glo x) (g : DefIs (K W.w.params) x f) (q : let q := kFun Ψ (.ref f) Q; argsOf Ψ args q vals l) : WA Ψ (eval (.Name x pos) Ψ.env) (funK Ψ args Q) vals l := R.funR h g q
theorem L.forS {target iter : Expr} {body orelse : List Stmt} {pos : Pos} {W : Wd} {Ψ : Frm K N W} {Q : FQ} {vals : Vals} {l : Led} (hf : ∀ env x, foldedSetIterable iter env x = Pure.pure x) (h : let q := kFor target body orelse Ψ Q; WA Ψ (eval iter Ψ.env) q vals l) : WA Ψ (exec (.For target iter body orelse pos) Ψ.env) Q vals l := WA.forS h (hf _)
theorem L.while1 {test : Expr} {body orelse : List Stmt} {W : Wd} {Ψ : Frm K N W} {Q : FQ} {vals : Vals} {l : Led} (h : let q := kWh test body orelse Ψ Q; let v := vals; let m := l; WA Ψ (isTrue test Ψ.env (eval test Ψ.env)) q v m) : WC Ψ (.whileLoop test body orelse Ψ.env) Q vals l := WC.while1 h
theorem L.for1 {target : Expr} {body orelse : List Stmt} {W : Wd} {Ψ : Frm K N W} {it : Value} {Q : FQ} {vals : Vals} {l : Led} (h : let v := vals; WA Ψ (pyNext it) (turnL Ψ target it body orelse Q) v l) : WC Ψ (.forLoop target it body orelse Ψ.env) Q vals l := WC.for1 h
theorem L.turnS {target : Expr} {body orelse : List Stmt} {W : Wd} {Ψ : Frm K N W} {it v : Value} {Q : FQ} {vals : Vals} {l : Led} (h : let q := kTurn target body orelse Ψ it v Q; WA Ψ (letOwnedTupleGo target it v) q vals l) : turnL Ψ target it body orelse Q (some v) vals l := h
theorem L.augN {x : Str} {xp pos : Pos} {op : Operator} {value : Expr} {i : Nat} {W : Wd} {Ψ : Frm K N W} {v : Value} {Q : FQ} {vals : Vals} {l : Led} (hi : NmI N.loc x i) (hv : vget vals i = some v)
    (h : let q := kAn x op Ψ v Q; WA Ψ (eval value Ψ.env) q vals l) : WA Ψ (exec (.AugAssign (.Name x xp) op value pos) Ψ.env) Q vals l := by
  rw [exec_AugAssign_Name]
  have hk := Ψ.sc.loc x (List.mem_of_getElem? hi.at)
  refine WA.bind (WA.standAt (WA.bind ?_))
  have hl : WA Ψ (loadName Ψ.env x) (fun old vals' l' => old = v ∧ vals' = vals ∧ l' = l) vals l := fun _ s a =>
    wpAny_loadName_local Ψ.e.kind hk.1 (Ψ.e.loc ▸ a.F.ns) (fr_get Ψ.sc.nd hi.at (vget_at hv)) ⟨Same.refl s, vals, l, a, rfl, rfl, rfl⟩
  refine hl.mono fun old _ _ ⟨e1, e2, e3⟩ => ?_
  subst e1 e2 e3
  exact WA.bind (WA.holding (WA.mono h fun y _ _ h1 => WA.bind (WA.standAt (WA.bind (WA.operate h1 |>.mono fun new _ _ h2 => WA.bind (WA.standAt (WA.bind (h2.mono fun _ _ _ h3 => WA.pure h3))))))))
theorem L.asT {elts : List Expr} {k : Nat} {tpos pos : Pos} {e : Expr} {W : Wd} {Ψ : Frm K N W} {Q : FQ} {vals : Vals} {l : Led} (hs1 : swapsWithSole [.Tuple elts k tpos] e pos.line Ψ.env = Pure.pure false) (hs2 : swappedStores [.Tuple elts k tpos] e Ψ.env = Pure.pure none)
    (h : let q := kAsT (.Tuple elts k tpos) Ψ Q; WA Ψ (eval e Ψ.env) q vals l) : WA Ψ (exec (.Assign [.Tuple elts k tpos] e pos) Ψ.env) Q vals l := R.asT hs1 hs2 h
theorem L.ai1 {x : Str} {px : Pos} {es : List Expr} {W : Wd} {Ψ : Frm K N W} {v : Value} {vs : List Value} {Q : UQ} {vals : Vals} {l : Led} (h : let q := kAi es Ψ vs Q; WA Ψ (PySem.bindName Ψ.env x v) q vals l) : WA Ψ (assignInOrder ((assignEach (.Name x px :: es) Ψ.env).map (·.2)) (v :: vs)) Q vals l := R.ai1 h
theorem L.swap2 {x y : Str} {px py pt pv pos : Pos} {k1 k2 : Nat} {e1 e2 : Expr} {W : Wd} {Ψ : Frm K N W} {Q : FQ} {vals : Vals} {l : Led} (hh : Ψ.A.handled = none) (hp : ([e1, e2].all plainE) = true)
    (hs1 : swapsWithSole [.Tuple [.Name x px, .Name y py] k1 pt] (.Tuple [e1, e2] k2 pv) pos.line Ψ.env = Pure.pure false)
    (hs2 : swappedStores [.Tuple [.Name x px, .Name y py] k1 pt] (.Tuple [e1, e2] k2 pv) Ψ.env = Pure.pure (some [x, y]))
    (h : let q := kSw x y e2 Ψ Q; WA Ψ (eval e1 Ψ.env) q vals l) : WA Ψ (exec (.Assign [.Tuple [.Name x px, .Name y py] k1 pt] (.Tuple [e1, e2] k2 pv) pos) Ψ.env) Q vals l := R.swap2 hh hp hs1 hs2 h
theorem L.callMK {o : Expr} {name : Str} {apos pos : Pos} {args : List Expr} {ks : List Keyword} {ns : List Str} {pl : Sem Bool} {W : Wd} {Ψ : Frm K N W} {Q : VQ} {vals : Vals} {l : Led} (hs : args.all plainE = true) (hk : ∀ env, (backToKw pos (keywordEach ks env)).all (·.1.isSome) = true) (hn : ∀ env, (backToKw pos (keywordEach ks env)).filterMap (·.1) = ns)
    (he : eval (.Call (.Attribute o name apos) args ks pos) Ψ.env = (do let ov ← eval o Ψ.env; PySem.standAt apos.atName; let (f, first) ← PySem.holding [ov] (getMethod ov name pl); PySem.callWith pos f first (backTo pos (starEach args Ψ.env)) (backToKw pos (keywordEach ks Ψ.env))))
    (h : let q := kGMK name pl args ks ns Ψ Q; WA Ψ (eval o Ψ.env) q vals l) : WA Ψ (eval (.Call (.Attribute o name apos) args ks pos) Ψ.env) Q vals l := R.callMK hs (hk _) (hn _) h he
theorem L.meth1 {args : List Expr} {W : Wd} {Ψ : Frm K N W} {f x : Value} {Q : VQ} {vals : Vals} {l : Led} (hk : KeepOk (K W.w.params) f) (h : let q := kCall Ψ f x Q; argsOf Ψ args q vals l) : methK Ψ args Q (f, [x]) vals l := R.meth1 hk h
end
end Mine
end
section
open PySem PySem.W PyProof.Rows PySem.Calls
set_option maxRecDepth 100000
set_option maxHeartbeats 8000000
namespace Mine
theorem fill : Challenge.rw_im0005_05 = Challenge.rw_im0005_05 ∧ hd.heap_1_1 = hd.heap_1_1 := by k_fill; exact ⟨rfl, rfl⟩
structure FnIn (a : Addr) where
  fd : FuncData
  body : List Stmt
  oc : Value
  od : Option Addr
  osl : Array (Option Value)
  ok : ∀ P, (hd.heap_1_1 P).lookup a = some ⟨oc, od, .func fd, osl⟩
  hb : fd.body = .stmts body
noncomputable def mkFn {a : Addr} {fd : FuncData} {body : List Stmt} {oc : Value} {od : Option Addr} {osl : Array (Option Value)} (ok : ∀ P, (hd.heap_1_1 P).lookup a = some ⟨oc, od, .func fd, osl⟩) (hb : fd.body = .stmts body) : FnIn a := ⟨fd, body, oc, od, osl, ok, hb⟩
end Mine
end
section
open PySem PySem.W PyProof.Rows PySem.Calls
set_option maxRecDepth 100000
set_option maxHeartbeats 8000000
namespace Mine
abbrev an : List Str := ["_pred", "_succ", "_ref", "_min_free", "_ite_table", "vars", "_level_to_var", "_reordering_context", "_last_len", "roots", "max_nodes"]
abbrev clsA : Addr := 497
structure Mg where
  self : Addr
  dict : Addr
  pd : Addr
  sd : Addr
  rd : Addr
  idt : Addr
  vd : Addr
  ld : Addr
  ro : Addr
  ae : List DictEntry
  an : Nat
  po : Obj
  so : Obj
  rro : Obj
  io : Obj
  vo : Obj
  lo : Obj
  roo : Obj
  tups : Led
  pk : List (List (Option Int) × Addr × Value)
  sk : List (Int × Value)
  rk : List (Int × Value)
  ik : List (List (Option Int) × Addr × Value)
  vk : List (Int × Value)
  lk : List (Int × Value)
  mf : Value
  mx : Value
noncomputable abbrev Mg.av (b : Mg) : List Value := [.ref b.pd, .ref b.sd, .ref b.rd, b.mf, .ref b.idt, .ref b.vd, .ref b.ld, .bool false, .none, .ref b.ro, b.mx]
noncomputable abbrev Mg.avs (b : Mg) : Vals := [some (.ref b.pd), some (.ref b.sd), some (.ref b.rd), some b.mf, some (.ref b.idt), some (.ref b.vd), some (.ref b.ld), some (.bool false), some .none, some (.ref b.ro), some b.mx]
@[reducible] noncomputable def Mg.uTup (b : Mg) (y : Addr × Obj) : Mg := { b with tups := y :: b.tups }
@[reducible] noncomputable def Mg.uSo (b : Mg) (o : Obj) (k : List (Int × Value)) : Mg := { b with so := o, sk := k }
@[reducible] noncomputable def Mg.uRro (b : Mg) (o : Obj) (k : List (Int × Value)) : Mg := { b with rro := o, rk := k }
@[reducible] noncomputable def Mg.uVo (b : Mg) (o : Obj) (k : List (Int × Value)) : Mg := { b with vo := o, vk := k }
@[reducible] noncomputable def Mg.uLo (b : Mg) (o : Obj) (k : List (Int × Value)) : Mg := { b with lo := o, lk := k }
@[reducible] noncomputable def Mg.uPo (b : Mg) (o : Obj) (k : List (List (Option Int) × Addr × Value)) : Mg := { b with po := o, pk := k }
@[reducible] noncomputable def Mg.uIo (b : Mg) (o : Obj) (k : List (List (Option Int) × Addr × Value)) : Mg := { b with io := o, ik := k }
@[reducible] noncomputable def Mg.uMf (b : Mg) (e : List DictEntry) (n : Nat) (v : Value) : Mg := { b with ae := e, an := n, mf := v }
noncomputable def mgL (b : Mg) : Led := (b.self, instObj clsA b.dict) :: (b.dict, dictOf b.ae b.an) :: (b.pd, b.po) :: (b.sd, b.so) :: (b.rd, b.rro) :: (b.idt, b.io) :: (b.vd, b.vo) :: (b.ld, b.lo) :: (b.ro, b.roo) :: b.tups
structure Sg where
  order : List Int
  tab : List (Int × Int × Int)
  ite : Int → Int → Int → Option Int
  its : Nat
noncomputable def Sg.nv (σ : Sg) : Nat := σ.order.length
noncomputable def nodeKey (t : Int × Int × Int) : List (Option Int) := [some t.1, some t.2.1, some t.2.2]
noncomputable def Sg.node (σ : Sg) (u : Int) : Option (Int × Int × Int) := if 2 ≤ u then σ.tab[(u - 2).toNat]? else none
noncomputable def Sg.key (σ : Sg) (u : Int) : Option (List (Option Int)) := if u = 1 then some [some (σ.nv : Int), none, none] else (σ.node u).map nodeKey
structure Rep (W : Wd) (b : Mg) (σ : Sg) : Prop where
  at' : AttrsAre b.ae an b.av
  mf : ∃ t, b.mf = .int (σ.tab.length + 2) t
  mx : ∃ t, b.mx = .int (2 ^ 63 - 1) t
  s1 : b.so.IsDictOf (intKind W.prog W.w) b.sk
  s2 : ∀ u ks, σ.key u = some ks → ∃ a, valueAt b.sk u = some (.ref a) ∧ TupL (optKind W.prog W.w) b.tups ks a
  s3 : ∀ u, σ.key u = none → valueAt b.sk u = none
  s4 : b.sk.length = σ.tab.length + 1
  p1 : IsTupDict (optKind W.prog W.w) b.po b.pk
  p2 : ∀ y ∈ b.pk, TupL (optKind W.prog W.w) b.tups y.1 y.2.1
  p3 : ∀ ks a v, atKey b.pk ks = some (a, v) → ∃ u t, v = .int u t ∧ σ.key u = some ks
  p4 : ∀ u ks, σ.key u = some ks → ∃ a t, atKey b.pk ks = some (a, .int u t)
  p5 : b.pk.length ≤ σ.tab.length + 1
  r1 : b.rro.IsDictOf (intKind W.prog W.w) b.rk
  r2 : ∀ u ks, σ.key u = some ks → ∃ c t, valueAt b.rk u = some (.int c t)
  r3 : b.rk.length ≤ σ.tab.length + 1
  i1 : IsTupDict (optKind W.prog W.w) b.io b.ik
  i2 : ∀ y ∈ b.ik, TupL (optKind W.prog W.w) b.tups y.1 y.2.1
  i3 : ∀ ks a v, atKey b.ik ks = some (a, v) → ∃ g u x r t, ks = [some g, some u, some x] ∧ v = .int r t ∧ σ.ite g u x = some r
  i4 : b.ik.length ≤ σ.its
  v1 : b.vo.IsDictOf (intKind W.prog W.w) b.vk
  v2 : ∀ (j : Nat) x, σ.order[j]? = some x → ∃ t, valueAt b.vk x = some (.int j t)
  v3 : ∀ x, x ∉ σ.order → valueAt b.vk x = none
  v4 : b.vk.length = σ.order.length
  v5 : σ.order.length ≤ 1000
  l1 : b.lo.IsDictOf (intKind W.prog W.w) b.lk
  l2 : ∀ (j : Nat) x, σ.order[j]? = some x → ∃ t, valueAt b.lk (j : Int) = some (.int x t)
  l3 : ∀ j : Int, (j < 0 ∨ (σ.order.length : Int) ≤ j) → valueAt b.lk j = none
  l4 : b.lk.length = σ.order.length
theorem inst_mg {b : Mg} {R : Led} : InstL (mgL b ++ R) clsA b.self b.dict b.ae b.an := ⟨.head _, .tail _ (.head _)⟩
structure MethIs (K : Frag) (name : Str) (f : Addr) : Prop where
  fd : findIn K (.ref clsA) name = some (some (.ref f))
  fn : isFn K (.ref f) = true
  keep : keepIn K (.ref f) = true
  no : name ∉ an
theorem MethIs.ok {K : Frag} {name : Str} {f : Addr} (m : MethIs K name f) : KeepOk K (.ref f) := m.keep
theorem plain_cls (P : Params) (n : Str) : plainGet (hd.heap_1_1 P) clsA n = true := by
  show plainGet (hd.heap_1_1 P) clsA "x" = true
  k_is
theorem hasD_cls (P : Params) : hasDictIn (hd.heap_1_1 P) clsA = true := by k_is
theorem setA_cls (P : Params) : findIn (hd.heap_1_1 P) (.ref clsA) "__setattr__" = some (some (.builtin "object.__setattr__")) := by k_is
theorem over_cls (P : Params) : plainOver (hd.heap_1_1 P) clsA = true := by k_is
theorem an_nd : an.Nodup := by decide +kernel
theorem an_cls (P : Params) : ∀ x ∈ an, findIn (hd.heap_1_1 P) (.ref clsA) x = some none := by
  simp only [an, List.forall_mem_cons, List.not_mem_nil, false_implies, implies_true, and_true]
  refine ⟨?_, ?_, ?_, ?_, ?_, ?_, ?_, ?_, ?_, ?_, ?_⟩ <;> k_is
theorem an_take (P : Params) : ∀ x ∈ an, takerIn (hd.heap_1_1 P) clsA x = some none := by
  simp only [an, List.forall_mem_cons, List.not_mem_nil, false_implies, implies_true, and_true]
  refine ⟨?_, ?_, ?_, ?_, ?_, ?_, ?_, ?_, ?_, ?_, ?_⟩ <;> k_is
theorem m_incref (P : Params) : MethIs (hd.heap_1_1 P) "incref" 100 := ⟨by k_is, by k_is, by k_is, by decide +kernel⟩
theorem m_find_or_add (P : Params) : MethIs (hd.heap_1_1 P) "find_or_add" 367 := ⟨by k_is, by k_is, by k_is, by decide +kernel⟩
theorem m_next_free_int_ (P : Params) : MethIs (hd.heap_1_1 P) "_next_free_int" 374 := ⟨by k_is, by k_is, by k_is, by decide +kernel⟩
theorem m_top_cofactor_ (P : Params) : MethIs (hd.heap_1_1 P) "_top_cofactor" 303 := ⟨by k_is, by k_is, by k_is, by decide +kernel⟩
theorem m_ite_ (P : Params) : MethIs (hd.heap_1_1 P) "_ite" 360 := ⟨by k_is, by k_is, by k_is, by decide +kernel⟩
theorem m_ite (P : Params) : MethIs (hd.heap_1_1 P) "ite" 353 := ⟨by k_is, by k_is, by k_is, by decide +kernel⟩
theorem m_succ (P : Params) : MethIs (hd.heap_1_1 P) "succ" 93 := ⟨by k_is, by k_is, by k_is, by decide +kernel⟩
theorem m_var_at_level (P : Params) : MethIs (hd.heap_1_1 P) "var_at_level" 157 := ⟨by k_is, by k_is, by k_is, by decide +kernel⟩
theorem m_quantify (P : Params) : MethIs (hd.heap_1_1 P) "quantify" 325 := ⟨by k_is, by k_is, by k_is, by decide +kernel⟩
theorem m_quantify_ (P : Params) : MethIs (hd.heap_1_1 P) "_quantify" 332 := ⟨by k_is, by k_is, by k_is, by decide +kernel⟩
theorem m_forall (P : Params) : MethIs (hd.heap_1_1 P) "forall" 339 := ⟨by k_is, by k_is, by k_is, by decide +kernel⟩
theorem m_exist (P : Params) : MethIs (hd.heap_1_1 P) "exist" 346 := ⟨by k_is, by k_is, by k_is, by decide +kernel⟩
theorem m_map_to_level_ (P : Params) : MethIs (hd.heap_1_1 P) "_map_to_level" 177 := ⟨by k_is, by k_is, by k_is, by decide +kernel⟩
theorem m_apply (P : Params) : MethIs (hd.heap_1_1 P) "apply" 464 := ⟨by k_is, by k_is, by k_is, by decide +kernel⟩
theorem m_add_var (P : Params) : MethIs (hd.heap_1_1 P) "add_var" 129 := ⟨by k_is, by k_is, by k_is, by decide +kernel⟩
theorem m_next_free_level_ (P : Params) : MethIs (hd.heap_1_1 P) "_next_free_level" 143 := ⟨by k_is, by k_is, by k_is, by decide +kernel⟩
theorem m_init_terminal_ (P : Params) : MethIs (hd.heap_1_1 P) "_init_terminal" 86 := ⟨by k_is, by k_is, by k_is, by decide +kernel⟩
theorem m_support (P : Params) : MethIs (hd.heap_1_1 P) "support" 225 := ⟨by k_is, by k_is, by k_is, by decide +kernel⟩
theorem g_abs (P : Params) : GlobIs (hd.heap_1_1 P) "abs" (.builtin "abs") := .inr ⟨by k_is, by boot_by_name, by decide +kernel⟩
theorem g_len (P : Params) : GlobIs (hd.heap_1_1 P) "len" (.builtin "len") := .inr ⟨by k_is, by boot_by_name, by decide +kernel⟩
theorem g_min (P : Params) : GlobIs (hd.heap_1_1 P) "min" (.builtin "min") := .inr ⟨by k_is, by boot_by_name, by decide +kernel⟩
theorem g_sorted (P : Params) : GlobIs (hd.heap_1_1 P) "sorted" (.builtin "sorted") := .inr ⟨by k_is, by boot_by_name, by decide +kernel⟩
theorem g_sum (P : Params) : GlobIs (hd.heap_1_1 P) "sum" (.builtin "sum") := .inr ⟨by k_is, by boot_by_name, by decide +kernel⟩
theorem g_isinstance (P : Params) : GlobIs (hd.heap_1_1 P) "isinstance" (.builtin "isinstance") := .inr ⟨by k_is, by boot_by_name, by decide +kernel⟩
theorem g_next (P : Params) : GlobIs (hd.heap_1_1 P) "next" (.builtin "next") := .inr ⟨by k_is, by boot_by_name, by decide +kernel⟩
theorem g_iter (P : Params) : GlobIs (hd.heap_1_1 P) "iter" (.builtin "iter") := .inr ⟨by k_is, by boot_by_name, by decide +kernel⟩
theorem g_divmod (P : Params) : GlobIs (hd.heap_1_1 P) "divmod" (.builtin "divmod") := .inr ⟨by k_is, by boot_by_name, by decide +kernel⟩
theorem g_range (P : Params) : GlobIs (hd.heap_1_1 P) "range" (.type "range") := .inr ⟨by k_is, by boot_by_name, by decide +kernel⟩
theorem g_dict (P : Params) : GlobIs (hd.heap_1_1 P) "dict" (.type "dict") := .inr ⟨by k_is, by boot_by_name, by decide +kernel⟩
theorem g_set (P : Params) : GlobIs (hd.heap_1_1 P) "set" (.type "set") := .inr ⟨by k_is, by boot_by_name, by decide +kernel⟩
end Mine
end
section
open PySem PySem.W PyProof.Rows PySem.Calls
set_option maxRecDepth 100000
set_option maxHeartbeats 8000000
namespace Mine
section
variable {N : Nm} {W : Wd} {Ψ : Frm hd.heap_1_1 N W} {vals : Vals} {b : Mg} {σ : Sg} {R : Led} {sa : Addr}
theorem M.attr {x : Str} {expr : Bool} {i : Nat} {N : Nm} {W : Wd} {Ψ : Frm hd.heap_1_1 N W} {b : Mg} {sa : Addr} {v : Value} {Q : VQ} {vals : Vals} {R : Led} (hs' : b.self = sa) (at' : AttrsAre b.ae an b.av) (hi : NmI an x i) (hg : vget b.avs i = some v) (hv : handedIn v = true) (q : Q v vals (mgL b ++ R)) : WA Ψ (getAttr (.ref sa) x expr) Q vals (mgL b ++ R) := by
  subst hs'
  have hs := vget_at hg
  replace hs : (b.av.map some)[i]? = some (some v) := hs
  refine WA.getA inst_mg at' an_nd hi.at ?_ (plain_cls _ _) (hasD_cls _) (an_cls _ x (List.mem_of_getElem? hi.at)) hv q
  rw [List.getElem?_map] at hs
  cases hx : b.av[i]? with
  | none => rw [hx] at hs; simp at hs
  | some y => rw [hx] at hs; simpa using hs
theorem M.attrI {x : Str} {expr : Bool} {j : Nat} {N : Nm} {W : Wd} {Ψ : Frm hd.heap_1_1 N W} {b : Mg} {sa : Addr} {v : Value} {i : Int} {t : Tok} {Q : VQ} {vals : Vals} {R : Led} (hs' : b.self = sa) (at' : AttrsAre b.ae an b.av) (hi : NmI an x j) (hg : vget b.avs j = some v) (hv : v = .int i t) (q : Q (.int i t) vals (mgL b ++ R)) : WA Ψ (getAttr (.ref sa) x expr) Q vals (mgL b ++ R) :=
  M.attr hs' at' hi hg (by rw [hv]; rfl) (by rw [hv]; exact q)
theorem M.meth {name : Str} {f : Addr} {pl : Sem Bool} {Q : Value × List Value → Vals → Led → Prop} (hs' : b.self = sa) (at' : AttrsAre b.ae an b.av) (m : MethIs (hd.heap_1_1 W.w.params) name f) (q : Q (.ref f, [.ref sa]) vals (mgL b ++ R)) : WA Ψ (getMethod (.ref sa) name pl) Q vals (mgL b ++ R) := by
  subst hs'
  exact WA.getM inst_mg at' m.no (plain_cls _ _) m.fd m.fn q
theorem M.methK {name : Str} {f : Addr} {pl : Sem Bool} {args : List Expr} {N : Nm} {W : Wd} {Ψ : Frm hd.heap_1_1 N W} {b : Mg} {sa : Addr} {Q : VQ} {vals : Vals} {R : Led} (hs' : b.self = sa) (at' : AttrsAre b.ae an b.av) (m : MethIs (hd.heap_1_1 W.w.params) name f)
    (h : let q := kCall Ψ (.ref f) (.ref sa) Q; argsOf Ψ args q vals (mgL b ++ R)) : WA Ψ (getMethod (.ref sa) name pl) (methK Ψ args Q) vals (mgL b ++ R) := M.meth hs' at' m ⟨m.keep, h⟩
theorem M.methKK {name : Str} {f : Addr} {pl : Sem Bool} {args : List Expr} {ks : List Keyword} {ns : List Str} {N : Nm} {W : Wd} {Ψ : Frm hd.heap_1_1 N W} {b : Mg} {sa : Addr} {Q : VQ} {vals : Vals} {R : Led} (hs' : b.self = sa) (at' : AttrsAre b.ae an b.av) (m : MethIs (hd.heap_1_1 W.w.params) name f)
    (h : let q := kCallKK ks ns Ψ (.ref f) (.ref sa) Q; argsOf Ψ args q vals (mgL b ++ R)) : WA Ψ (getMethod (.ref sa) name pl) (methKK Ψ args ks ns Q) vals (mgL b ++ R) := M.meth hs' at' m ⟨m.keep, h⟩
theorem M.keep {name : Str} {f : Addr} {X : Prop} (m : MethIs (hd.heap_1_1 W.w.params) name f) (h : X) : KeepOk (hd.heap_1_1 W.w.params) (.ref f) ∧ X := ⟨m.keep, h⟩
theorem dTail {value slice : Expr} {d : Addr} {o : Obj} {key : Value} {l : Led} {Kt : Type} [DecidableEq Kt] {knd : KeyKind W.prog W.w Kt} {kvs : List (Kt × Value)} {Q : Value → Vals → Led → Prop} (hm : (d, o) ∈ l) (ho : o.IsDictOf knd kvs)
    (h : WA Ψ (getItem (.ref d) key) Q vals l) (hs : subscripted slice false (.ref d) key = operate [.ref d, key] (getItem (.ref d) key)) : WA Ψ (subscriptTail value slice (.ref d) key) Q vals l := fun E s a =>
  tail_any (dictAt a hm ho).typeIs slot_dict_getitem.lookup (h E s a) hs
theorem so_mem : (b.sd, b.so) ∈ mgL b ++ R := by simp [mgL]
theorem po_mem : (b.pd, b.po) ∈ mgL b ++ R := by simp [mgL]
theorem ro_mem : (b.rd, b.rro) ∈ mgL b ++ R := by simp [mgL]
theorem io_mem : (b.idt, b.io) ∈ mgL b ++ R := by simp [mgL]
theorem vo_mem : (b.vd, b.vo) ∈ mgL b ++ R := by simp [mgL]
theorem lo_mem : (b.ld, b.lo) ∈ mgL b ++ R := by simp [mgL]
theorem tup_mono {Kt : Type} [DecidableEq Kt] {knd : KeyKind W.prog W.w Kt} {ks : List Kt} {a : Addr} (t : TupL knd b.tups ks a) : TupL knd (mgL b ++ R) ks a := t.mono fun y hy => by simp [mgL, hy]
theorem so_split : mgL b ++ R = [(b.self, instObj clsA b.dict), (b.dict, dictOf b.ae b.an), (b.pd, b.po)] ++ (b.sd, b.so) :: ([(b.rd, b.rro), (b.idt, b.io), (b.vd, b.vo), (b.ld, b.lo), (b.ro, b.roo)] ++ b.tups ++ R) := by simp [mgL]
theorem po_split : mgL b ++ R = [(b.self, instObj clsA b.dict), (b.dict, dictOf b.ae b.an)] ++ (b.pd, b.po) :: ([(b.sd, b.so), (b.rd, b.rro), (b.idt, b.io), (b.vd, b.vo), (b.ld, b.lo), (b.ro, b.roo)] ++ b.tups ++ R) := by simp [mgL]
theorem ro_split : mgL b ++ R = [(b.self, instObj clsA b.dict), (b.dict, dictOf b.ae b.an), (b.pd, b.po), (b.sd, b.so)] ++ (b.rd, b.rro) :: ([(b.idt, b.io), (b.vd, b.vo), (b.ld, b.lo), (b.ro, b.roo)] ++ b.tups ++ R) := by simp [mgL]
theorem io_split : mgL b ++ R = [(b.self, instObj clsA b.dict), (b.dict, dictOf b.ae b.an), (b.pd, b.po), (b.sd, b.so), (b.rd, b.rro)] ++ (b.idt, b.io) :: ([(b.vd, b.vo), (b.ld, b.lo), (b.ro, b.roo)] ++ b.tups ++ R) := by simp [mgL]
theorem vo_split : mgL b ++ R = [(b.self, instObj clsA b.dict), (b.dict, dictOf b.ae b.an), (b.pd, b.po), (b.sd, b.so), (b.rd, b.rro), (b.idt, b.io)] ++ (b.vd, b.vo) :: ([(b.ld, b.lo), (b.ro, b.roo)] ++ b.tups ++ R) := by simp [mgL]
theorem lo_split : mgL b ++ R = [(b.self, instObj clsA b.dict), (b.dict, dictOf b.ae b.an), (b.pd, b.po), (b.sd, b.so), (b.rd, b.rro), (b.idt, b.io), (b.vd, b.vo)] ++ (b.ld, b.lo) :: ([(b.ro, b.roo)] ++ b.tups ++ R) := by simp [mgL]
theorem at_split : mgL b ++ R = [(b.self, instObj clsA b.dict)] ++ (b.dict, dictOf b.ae b.an) :: ([(b.pd, b.po), (b.sd, b.so), (b.rd, b.rro), (b.idt, b.io), (b.vd, b.vo), (b.ld, b.lo), (b.ro, b.roo)] ++ b.tups ++ R) := by simp [mgL]
theorem M.setSucc {k : Int} {key v : Value} {Q : Unit → Vals → Led → Prop} (hk : (intKind W.prog W.w).is k key = true) (ho : b.so.IsDictOf (intKind W.prog W.w) b.sk) (hz : b.sk.length ≤ sizeLine)
    (q : ∀ o' : Obj, o'.IsDictOf (intKind W.prog W.w) (stored b.sk k v) → let b' := b.uSo o' (stored b.sk k v); Q () vals (mgL b' ++ R)) : WA Ψ (setItem (.ref b.sd) key v) Q vals (mgL b ++ R) :=
  WA.dSet hk so_split ho hz fun o' h => by have := q o' h; dsimp only at this; rw [so_split] at this; exact this
theorem M.setRef {k : Int} {key v : Value} {Q : Unit → Vals → Led → Prop} (hk : (intKind W.prog W.w).is k key = true) (ho : b.rro.IsDictOf (intKind W.prog W.w) b.rk) (hz : b.rk.length ≤ sizeLine)
    (q : ∀ o' : Obj, o'.IsDictOf (intKind W.prog W.w) (stored b.rk k v) → let b' := b.uRro o' (stored b.rk k v); Q () vals (mgL b' ++ R)) : WA Ψ (setItem (.ref b.rd) key v) Q vals (mgL b ++ R) :=
  WA.dSet hk ro_split ho hz fun o' h => by have := q o' h; dsimp only at this; rw [ro_split] at this; exact this
theorem M.setVars {k : Int} {key v : Value} {Q : Unit → Vals → Led → Prop} (hk : (intKind W.prog W.w).is k key = true) (ho : b.vo.IsDictOf (intKind W.prog W.w) b.vk) (hz : b.vk.length ≤ sizeLine)
    (q : ∀ o' : Obj, o'.IsDictOf (intKind W.prog W.w) (stored b.vk k v) → let b' := b.uVo o' (stored b.vk k v); Q () vals (mgL b' ++ R)) : WA Ψ (setItem (.ref b.vd) key v) Q vals (mgL b ++ R) :=
  WA.dSet hk vo_split ho hz fun o' h => by have := q o' h; dsimp only at this; rw [vo_split] at this; exact this
theorem M.setLev {k : Int} {key v : Value} {Q : Unit → Vals → Led → Prop} (hk : (intKind W.prog W.w).is k key = true) (ho : b.lo.IsDictOf (intKind W.prog W.w) b.lk) (hz : b.lk.length ≤ sizeLine)
    (q : ∀ o' : Obj, o'.IsDictOf (intKind W.prog W.w) (stored b.lk k v) → let b' := b.uLo o' (stored b.lk k v); Q () vals (mgL b' ++ R)) : WA Ψ (setItem (.ref b.ld) key v) Q vals (mgL b ++ R) :=
  WA.dSet hk lo_split ho hz fun o' h => by have := q o' h; dsimp only at this; rw [lo_split] at this; exact this
theorem M.setPred {ks : List (Option Int)} {x : Addr} {v : Value} {Q : Unit → Vals → Led → Prop} (hu : Ψ.A.units + 1 < cLine) (hk : TupL (optKind W.prog W.w) b.tups ks x) (ho : IsTupDict (optKind W.prog W.w) b.po b.pk) (ht : ∀ y ∈ b.pk, TupL (optKind W.prog W.w) b.tups y.1 y.2.1) (hz : b.pk.length ≤ sizeLine)
    (q : ∀ o' : Obj, IsTupDict (optKind W.prog W.w) o' (storedH b.pk ks x v) → let b' := b.uPo o' (storedH b.pk ks x v); Q () vals (mgL b' ++ R)) : WA Ψ (setItem (.ref b.pd) (.ref x) v) Q vals (mgL b ++ R) :=
  WA.tSet hu (tup_mono hk) po_split ho (fun y hy => tup_mono (ht y hy)) hz fun o' h => by have := q o' h; dsimp only at this; rw [po_split] at this; exact this
theorem M.setIte {ks : List (Option Int)} {x : Addr} {v : Value} {Q : Unit → Vals → Led → Prop} (hu : Ψ.A.units + 1 < cLine) (hk : TupL (optKind W.prog W.w) b.tups ks x) (ho : IsTupDict (optKind W.prog W.w) b.io b.ik) (ht : ∀ y ∈ b.ik, TupL (optKind W.prog W.w) b.tups y.1 y.2.1) (hz : b.ik.length ≤ sizeLine)
    (q : ∀ o' : Obj, IsTupDict (optKind W.prog W.w) o' (storedH b.ik ks x v) → let b' := b.uIo o' (storedH b.ik ks x v); Q () vals (mgL b' ++ R)) : WA Ψ (setItem (.ref b.idt) (.ref x) v) Q vals (mgL b ++ R) :=
  WA.tSet hu (tup_mono hk) io_split ho (fun y hy => tup_mono (ht y hy)) hz fun o' h => by have := q o' h; dsimp only at this; rw [io_split] at this; exact this
theorem M.setMf {v : Value} {Q : Unit → Vals → Led → Prop} (hs' : b.self = sa) (at' : AttrsAre b.ae an b.av)
    (q : ∀ ae' n', let b' := b.uMf ae' n' v; AttrsAre b'.ae an b'.av → Q () vals (mgL b' ++ R)) : WA Ψ (setAttr (.ref sa) "_min_free" v) Q vals (mgL b ++ R) := by
  subst hs'
  refine WA.setA at_split inst_mg at' (setA_cls _) (over_cls _) (an_take _ _ (.tail _ (.tail _ (.tail _ (.head _))))) (hasD_cls _) (by show 11 ≤ 900; decide) (av' := { b with mf := v }.av) (fun h t => putL_put an_nd at' (i := 3) rfl (by show 3 < 11; decide)) (by show 11 ≤ 900; decide) fun es' n' h => ?_
  have := q es' n' h
  rw [at_split] at this
  exact this
theorem mgL_tup {x : Addr} {o : Obj} : (mgL { b with tups := (x, o) :: b.tups } ++ R).Perm ((x, o) :: (mgL b ++ R)) := by
  simp only [mgL, List.cons_append]
  refine (List.perm_middle (l₁ := [(b.self, instObj clsA b.dict), (b.dict, dictOf b.ae b.an), (b.pd, b.po), (b.sd, b.so), (b.rd, b.rro), (b.idt, b.io), (b.vd, b.vo), (b.ld, b.lo), (b.ro, b.roo)])).trans ?_
  exact List.Perm.refl _
theorem M.newTup {vs : List Value} {Q : Value → Vals → Led → Prop} (hz : vs.length ≤ sizeLine)
    (q : ∀ x, let b' := b.uTup (x, tupObj vs); Q (.ref x) vals (mgL b' ++ R)) : WA Ψ (newTuple vs) Q vals (mgL b ++ R) := by
  intro E s a
  refine wpAny_newObj_type ⟨⟨rfl, rfl⟩, vals, _, ?_, q s.heap.objs.size⟩ (by show vs.toArray.size ≤ sizeLine; rw [List.size_toArray]; exact hz)
  have h := a.push (o := { cls := .type "tuple", data := .seq vs.toArray }) (tk := s.toks)
  exact h.sub (fun y hy => mgL_tup.mem_iff.mp hy) ((mgL_tup.map _).nodup_iff.mpr h.U)
end
end Mine
end
section
open PySem PySem.W PyProof.Rows PySem.Calls
set_option maxRecDepth 100000
namespace Mine
section
variable {K : Type} [DecidableEq K]
theorem valueAt_append (a c : List (K × Value)) (x : K) : valueAt (a ++ c) x = (valueAt a x).or (valueAt c x) := by
  unfold valueAt
  rw [List.find?_append]
  cases a.find? fun kv => kv.1 = x <;> simp
theorem valueAt_map (kvs : List (K × Value)) (k x : K) (v : Value) : valueAt (kvs.map fun kv => if kv.1 = k then (kv.1, v) else kv) x = if x = k then (valueAt kvs x).map (fun _ => v) else valueAt kvs x := by
  unfold valueAt
  induction kvs with
  | nil => simp
  | cons p r ih =>
    obtain ⟨q, y⟩ := p
    simp only [List.map_cons, List.find?_cons]
    by_cases hq : q = k
    · subst hq
      by_cases hx : q = x
      · subst hx; simp
      · have hx' : ¬ x = q := fun e => hx e.symm
        simpa [hx, hx'] using ih
    · by_cases hx : q = x
      · subst hx; simp [hq]
      · simpa [hq, hx] using ih
theorem valueAt_any {kvs : List (K × Value)} {k : K} : (kvs.any fun kv => kv.1 = k) = (valueAt kvs k).isSome := by
  unfold valueAt
  induction kvs with
  | nil => rfl
  | cons p r ih =>
    simp only [List.any_cons, List.find?_cons]
    by_cases h : p.1 = k <;> simp [h, ← ih]
theorem valueAt_stored (kvs : List (K × Value)) (k x : K) (v : Value) : valueAt (stored kvs k v) x = if x = k then some v else valueAt kvs x := by
  unfold stored
  rw [valueAt_any]
  cases h : (valueAt kvs k) with
  | none =>
    simp only [Option.isSome_none, Bool.false_eq_true, if_false]
    rw [valueAt_append]
    by_cases hx : x = k
    · subst hx; rw [h]; simp [valueAt]
    · have hx' : ¬ k = x := fun e => hx e.symm
      simp only [if_neg hx]
      have : valueAt [(k, v)] x = none := by simp [valueAt, hx']
      rw [this]; simp
  | some y =>
    simp only [Option.isSome_some, if_true]
    rw [valueAt_map]
    by_cases hx : x = k
    · subst hx; simp [h]
    · simp [hx]
theorem stored_len_new {kvs : List (K × Value)} {k : K} {v : Value} (h : valueAt kvs k = none) : (stored kvs k v).length = kvs.length + 1 := by
  unfold stored
  rw [valueAt_any, h]; simp
theorem stored_len_old {kvs : List (K × Value)} {k : K} {v y : Value} (h : valueAt kvs k = some y) : (stored kvs k v).length = kvs.length := by
  unfold stored
  rw [valueAt_any, h]; simp
theorem atKey_append (a c : List (K × Addr × Value)) (x : K) : atKey (a ++ c) x = (atKey a x).or (atKey c x) := by
  unfold atKey
  rw [List.find?_append]
  cases a.find? fun y => decide (y.1 = x) <;> simp
theorem atKey_storedH_new {xs : List (K × Addr × Value)} {k : K} {a : Addr} {v : Value} (h : atKey xs k = none) (x : K) : atKey (storedH xs k a v) x = if x = k then some (a, v) else atKey xs x := by
  rw [storedH_new h, atKey_append]
  by_cases hx : x = k
  · subst hx; rw [h]; simp [atKey]
  · have hx' : ¬ k = x := fun e => hx e.symm
    have : atKey [(k, a, v)] x = none := by simp [atKey, hx']
    rw [this]; simp [hx]
theorem atKey_mem {xs : List (K × Addr × Value)} {k : K} {p : Addr × Value} (h : atKey xs k = some p) : (k, p) ∈ xs := by
  unfold atKey at h
  obtain ⟨y, hy, e⟩ := Option.map_eq_some_iff.mp h
  have h1 := List.mem_of_find?_eq_some hy
  have h2 := List.find?_some hy
  simp only [decide_eq_true_eq] at h2
  obtain ⟨y1, y2⟩ := y
  simp only at h2 e
  subst h2 e
  exact h1
theorem storedH_len_new {xs : List (K × Addr × Value)} {k : K} {a : Addr} {v : Value} (h : atKey xs k = none) : (storedH xs k a v).length = xs.length + 1 := by rw [storedH_new h]; simp
theorem storedH_mem_new {xs : List (K × Addr × Value)} {k : K} {a : Addr} {v : Value} {P : K × Addr × Value → Prop} (h : atKey xs k = none) (hx : ∀ y ∈ xs, P y) (hk : P (k, a, v)) : ∀ y ∈ storedH xs k a v, P y := by
  rw [storedH_new h]
  intro y hy
  rcases List.mem_append.mp hy with hy | hy
  · exact hx y hy
  · rw [List.mem_singleton.mp hy]; exact hk
end
end Mine
end
section
open PySem PySem.W PyProof.Rows PySem.Calls
set_option maxRecDepth 100000
namespace Mine
noncomputable def Sg.add (σ : Sg) (t : Int × Int × Int) : Sg := { σ with tab := σ.tab ++ [t] }
noncomputable abbrev Sg.top (σ : Sg) : Int := (σ.tab.length : Int) + 2
theorem nodeKey_inj {a c : Int × Int × Int} (h : nodeKey a = nodeKey c) : a = c := by
  obtain ⟨a1, a2, a3⟩ := a
  obtain ⟨c1, c2, c3⟩ := c
  simp only [nodeKey, List.cons.injEq, Option.some.injEq, and_true] at h
  obtain ⟨h1, h2, h3⟩ := h
  rw [h1, h2, h3]
theorem nodeKey_term {a : Int × Int × Int} {n : Option Int} : nodeKey a ≠ [n, none, none] := by
  intro h
  simp [nodeKey] at h
theorem Sg.key_node {σ : Sg} {u : Int} {t : Int × Int × Int} (h : σ.node u = some t) : σ.key u = some (nodeKey t) := by
  have h1 : u ≠ 1 := by
    rintro rfl
    simp [Sg.node] at h
  unfold Sg.key
  rw [if_neg h1, h]; rfl
theorem Sg.node_key {σ : Sg} {u : Int} {t : Int × Int × Int} (h : σ.key u = some (nodeKey t)) : σ.node u = some t := by
  unfold Sg.key at h
  split at h
  · rename_i h1
    exact absurd (Option.some.inj h).symm nodeKey_term
  · obtain ⟨t', h1, h2⟩ := Option.map_eq_some_iff.mp h
    rw [h1, nodeKey_inj h2]
theorem Sg.node_lt {σ : Sg} {u : Int} {t : Int × Int × Int} (h : σ.node u = some t) : 2 ≤ u ∧ u < σ.top := by
  unfold Sg.node at h
  split at h
  · rename_i h1
    have := (List.getElem?_eq_some_iff.mp h).1
    refine ⟨h1, ?_⟩
    unfold Sg.top
    omega
  · cases h
theorem Sg.key_top {σ : Sg} {u : Int} (h : σ.top ≤ u) : σ.key u = none := by
  unfold Sg.top at h
  unfold Sg.key Sg.node
  rw [if_neg (by first | decide | lia | omega), if_pos (by first | decide | lia | omega), List.getElem?_eq_none (by first | decide | lia | omega)]
  rfl
theorem Sg.node_add (σ : Sg) (t : Int × Int × Int) (u : Int) : (σ.add t).node u = if u = σ.top then some t else σ.node u := by
  unfold Sg.node Sg.add Sg.top
  dsimp only
  by_cases h2 : 2 ≤ u
  · rw [if_pos h2, if_pos h2]
    by_cases hu : u = (σ.tab.length : Int) + 2
    · rw [if_pos hu]
      have : (u - 2).toNat = σ.tab.length := by first | decide | lia | omega
      rw [this]; simp
    · rw [if_neg hu]
      by_cases hl : (u - 2).toNat < σ.tab.length
      · rw [List.getElem?_append_left hl]
      · rw [List.getElem?_eq_none (by simp only [List.length_append, List.length_singleton]; omega), List.getElem?_eq_none (by first | decide | lia | omega)]
  · rw [if_neg h2, if_neg h2, if_neg (by first | decide | lia | omega)]
theorem Sg.key_add (σ : Sg) (t : Int × Int × Int) (u : Int) : (σ.add t).key u = if u = σ.top then some (nodeKey t) else σ.key u := by
  unfold Sg.key
  rw [Sg.node_add]
  by_cases h1 : u = 1
  · subst h1
    rw [if_pos rfl, if_neg (by unfold Sg.top; omega), if_pos rfl]
    rfl
  · rw [if_neg h1, if_neg h1]
    split <;> rfl
section
variable {W : Wd} {b b' : Mg} {σ : Sg}
theorem TupL.cons {Kt : Type} [DecidableEq Kt] {knd : KeyKind W.prog W.w Kt} {l : Led} {ks : List Kt} {a : Addr} {y : Addr × Obj} (t : TupL knd l ks a) : TupL knd (y :: l) ks a := t.mono fun _ h => .tail _ h
theorem Rep.tup (r : Rep W b σ) (y : Addr × Obj) : Rep W { b with tups := y :: b.tups } σ :=
  { r with
    s2 := fun u ks h => let ⟨a, h1, h2⟩ := r.s2 u ks h; ⟨a, h1, h2.cons⟩
    p2 := fun x hx => (r.p2 x hx).cons
    i2 := fun x hx => (r.i2 x hx).cons }
theorem Rep.add (r : Rep W b σ) {t : Int × Int × Int} {x : Addr} {o : Obj} {tu tm : Tok} (hnew : ∀ u, σ.node u ≠ some t) (hat : AttrsAre b'.ae an b'.av) (hmf : b'.mf = .int (σ.top + 1) tm) (hmx : b'.mx = b.mx)
    (htu : b'.tups = (x, o) :: b.tups) (hx : TupL (optKind W.prog W.w) b'.tups (nodeKey t) x) (hpo : IsTupDict (optKind W.prog W.w) b'.po b'.pk) (hpk : b'.pk = storedH b.pk (nodeKey t) x (.int σ.top tu))
    (hso : b'.so.IsDictOf (intKind W.prog W.w) b'.sk) (hsk : b'.sk = stored b.sk σ.top (.ref x)) (hro : b'.rro.IsDictOf (intKind W.prog W.w) b'.rk)
    (hr1 : ∀ k c tc, valueAt b.rk k = some (.int c tc) → ∃ c' tc', valueAt b'.rk k = some (.int c' tc')) (hr2 : ∃ c' tc', valueAt b'.rk σ.top = some (.int c' tc')) (hr3 : b'.rk.length ≤ b.rk.length + 1)
    (hio : b'.io = b.io) (hik : b'.ik = b.ik) (hvo : b'.vo = b.vo) (hvk : b'.vk = b.vk) (hlo : b'.lo = b.lo) (hlk : b'.lk = b.lk) : Rep W b' (σ.add t) := by
  have hk0 : σ.key σ.top = none := Sg.key_top (Int.le_refl _)
  have hp0 : atKey b.pk (nodeKey t) = none := by
    cases h : atKey b.pk (nodeKey t) with
    | none => rfl
    | some p =>
      obtain ⟨a, v⟩ := p
      obtain ⟨u, _, _, hu⟩ := r.p3 _ _ _ h
      exact absurd (Sg.node_key hu) (hnew u)
  have hs0 := r.s3 _ hk0
  have tm' : ∀ ks a, TupL (optKind W.prog W.w) b.tups ks a → TupL (optKind W.prog W.w) b'.tups ks a := fun ks a h => by rw [htu]; exact h.cons
  refine
    { at' := hat, mf := ⟨tm, ?_⟩, mx := by rw [hmx]; exact r.mx, s1 := hso, s2 := ?_, s3 := ?_, s4 := ?_, p1 := hpo, p2 := ?_, p3 := ?_, p4 := ?_, p5 := ?_, r1 := hro, r2 := ?_, r3 := ?_,
      i1 := by rw [hio, hik]; exact r.i1, i2 := ?_, i3 := by rw [hik]; exact r.i3, i4 := by rw [hik]; exact r.i4, v1 := by rw [hvo, hvk]; exact r.v1, v2 := by rw [hvk]; exact r.v2, v3 := by rw [hvk]; exact r.v3, v4 := by rw [hvk]; exact r.v4, v5 := r.v5,
      l1 := by rw [hlo, hlk]; exact r.l1, l2 := by rw [hlk]; exact r.l2, l3 := by rw [hlk]; exact r.l3, l4 := by rw [hlk]; exact r.l4 }
  · rw [hmf]
    congr 1
    simp only [Sg.add, List.length_append, List.length_singleton, Sg.top]
    omega
  · intro u ks h
    rw [Sg.key_add] at h
    rw [hsk, valueAt_stored]
    split at h
    · rename_i hu
      rw [if_pos hu]
      cases h
      exact ⟨x, rfl, hx⟩
    · rename_i hu
      rw [if_neg hu]
      obtain ⟨a, h1, h2⟩ := r.s2 u ks h
      exact ⟨a, h1, tm' _ _ h2⟩
  · intro u h
    rw [Sg.key_add] at h
    rw [hsk, valueAt_stored]
    split at h
    · cases h
    · rename_i hu
      rw [if_neg hu]
      exact r.s3 u h
  · rw [hsk, stored_len_new hs0, r.s4]
    simp [Sg.add]
  · rw [hpk]
    exact storedH_mem_new hp0 (fun y hy => tm' _ _ (r.p2 y hy)) hx
  · intro ks a v h
    rw [hpk, atKey_storedH_new hp0] at h
    split at h
    · rename_i hks
      cases h
      exact ⟨σ.top, tu, rfl, by rw [Sg.key_add, if_pos rfl, hks]⟩
    · obtain ⟨u, t', h1, h2⟩ := r.p3 ks a v h
      refine ⟨u, t', h1, ?_⟩
      rw [Sg.key_add, if_neg]
      · exact h2
      · rintro rfl
        rw [hk0] at h2; cases h2
  · intro u ks h
    rw [hpk, atKey_storedH_new hp0]
    rw [Sg.key_add] at h
    split at h
    · rename_i hu
      cases h
      exact ⟨x, tu, by rw [if_pos rfl, hu]⟩
    · have hks : ks ≠ nodeKey t := by
        rintro rfl
        exact hnew u (Sg.node_key h)
      rw [if_neg hks]
      exact r.p4 u ks h
  · rw [hpk, storedH_len_new hp0]
    have := r.p5
    simp only [Sg.add, List.length_append, List.length_singleton]
    omega
  · intro u ks h
    rw [Sg.key_add] at h
    split at h
    · rename_i hu
      rw [hu]; exact hr2
    · obtain ⟨c, tc, h1⟩ := r.r2 u ks h
      exact hr1 u c tc h1
  · have := r.r3
    simp only [Sg.add, List.length_append, List.length_singleton]
    omega
  · rw [hik]
    exact fun y hy => tm' _ _ (r.i2 y hy)
theorem Rep.succIn (r : Rep W b σ) (u : Int) : (valueAt b.sk u).isSome = (σ.key u).isSome := by
  cases h : σ.key u with
  | none => rw [r.s3 u h]; rfl
  | some ks => obtain ⟨a, h1, _⟩ := r.s2 u ks h; rw [h1]; rfl
end
noncomputable abbrev iabs (u : Int) : Int := if u < 0 then -u else u
theorem sizeLine_is : sizeLine = 16777216 := rfl
inductive FoaR (σ : Sg) (i v w : Int) : Int → Sg → Prop
  | same : (if w < 0 then -v else v) = (if w < 0 then -w else w) → FoaR σ i v w ((if w < 0 then -1 else 1) * (if w < 0 then -v else v)) σ
  | old {u : Int} : (if w < 0 then -v else v) ≠ (if w < 0 then -w else w) → σ.node u = some (i, (if w < 0 then -v else v), (if w < 0 then -w else w)) → FoaR σ i v w ((if w < 0 then -1 else 1) * u) σ
  | new : (if w < 0 then -v else v) ≠ (if w < 0 then -w else w) → (∀ u, σ.node u ≠ some (i, (if w < 0 then -v else v), (if w < 0 then -w else w))) →
      FoaR σ i v w ((if w < 0 then -1 else 1) * σ.top) (σ.add (i, (if w < 0 then -v else v), (if w < 0 then -w else w)))
end Mine
end
section
namespace Mine
open Classical in
noncomputable abbrev Asg := Int → Bool
noncomputable abbrev BF := Asg → Bool
inductive Den (σ : Sg) : Int → BF → Prop
  | one : Den σ 1 (fun _ => true)
  | node {u i v x : Int} {f g : BF} : σ.node u = some (i, v, x) → Den σ v f → Den σ x g → Den σ u (fun a => if a i then g a else f a)
  | neg {u : Int} {f : BF} : 0 < u → Den σ u f → Den σ (-u) (fun a => !f a)
noncomputable def Vd (σ : Sg) (k u : Int) : Prop := (iabs u = 1 ∧ k ≤ σ.nv) ∨ ∃ t, σ.node (iabs u) = some t ∧ k ≤ t.1
structure Ok (σ : Sg) : Prop where
  nd : ∀ u i v x, σ.node u = some (i, v, x) → 0 ≤ i ∧ i < σ.nv ∧ 0 < x ∧ v ≠ x ∧ Vd σ (i + 1) v ∧ Vd σ (i + 1) x
  un : ∀ u u' t, σ.node u = some t → σ.node u' = some t → u = u'
structure Ext (σ σ' : Sg) : Prop where
  ord : σ'.order = σ.order
  nd : ∀ u t, σ.node u = some t → σ'.node u = some t
theorem Ext.refl (σ : Sg) : Ext σ σ := ⟨rfl, fun _ _ h => h⟩
theorem Ext.trans {a b c : Sg} (x : Ext a b) (y : Ext b c) : Ext a c := ⟨y.ord.trans x.ord, fun u t h => y.nd u t (x.nd u t h)⟩
theorem Ext.nv {σ σ' : Sg} (e : Ext σ σ') : σ'.nv = σ.nv := by unfold Sg.nv; rw [e.ord]
theorem Den.ext {σ σ' : Sg} (e : Ext σ σ') {u : Int} {f : BF} (h : Den σ u f) : Den σ' u f := by
  induction h with
  | one => exact .one
  | node h _ _ i1 i2 => exact .node (e.nd _ _ h) i1 i2
  | neg h _ i1 => exact .neg h i1
theorem Vd.ext {σ σ' : Sg} (e : Ext σ σ') {k u : Int} (h : Vd σ k u) : Vd σ' k u := by
  rcases h with ⟨a, b⟩ | ⟨t, a, b⟩
  · exact .inl ⟨a, by rw [e.nv]; exact b⟩
  · exact .inr ⟨t, e.nd _ _ a, b⟩
theorem iabs_neg (u : Int) : iabs (-u) = iabs u := by unfold iabs; (repeat' split) <;> omega
theorem iabs_pos {u : Int} (h : 0 < u) : iabs u = u := by unfold iabs; split <;> omega
theorem iabs_cases (u : Int) : u = iabs u ∨ u = -iabs u := by unfold iabs; split <;> omega
theorem Vd.neg {σ : Sg} {k u : Int} (h : Vd σ k u) : Vd σ k (-u) := by unfold Vd at *; rw [iabs_neg]; exact h
theorem Vd.abs {σ : Sg} {k u : Int} (h : Vd σ k u) : Vd σ k (iabs u) := by unfold Vd at *; rw [iabs_pos (u := iabs u)] ; exact h; rcases h with ⟨a, _⟩ | ⟨t, a, _⟩ <;> first | omega | (have := Sg.node_lt a; omega)
theorem Vd.le {σ : Sg} {k k' u : Int} (h : Vd σ k u) (hk : k' ≤ k) : Vd σ k' u := by
  rcases h with ⟨a, b⟩ | ⟨t, a, b⟩
  · exact .inl ⟨a, Int.le_trans hk b⟩
  · exact .inr ⟨t, a, Int.le_trans hk b⟩
theorem Vd.one {σ : Sg} {k : Int} (h : k ≤ σ.nv) : Vd σ k 1 := .inl ⟨by decide, h⟩
theorem Vd.ne0 {σ : Sg} {k u : Int} (h : Vd σ k u) : u ≠ 0 := by
  rintro rfl
  rcases h with ⟨a, _⟩ | ⟨t, a, _⟩
  · exact absurd a (by decide)
  · have := Sg.node_lt a
    exact absurd this.1 (by decide)
theorem Vd.key {σ : Sg} {k u : Int} (h : Vd σ k u) : (σ.key (iabs u)).isSome = true := by
  rcases h with ⟨a, _⟩ | ⟨t, a, _⟩
  · rw [a]; rfl
  · rw [Sg.key_node a]; rfl
theorem Vd.bound {σ : Sg} (ok : Ok σ) {k u : Int} (h : Vd σ k u) : k ≤ σ.nv := by
  rcases h with ⟨_, b⟩ | ⟨⟨i, v, x⟩, a, b⟩
  · exact b
  · have := (ok.nd _ _ _ _ a).2.1
    simp only at b
    omega
theorem Vd.cases {σ : Sg} {k u : Int} (h : Vd σ k u) : (u = 1 ∨ u = -1) ∨ ∃ i v x, σ.node (iabs u) = some (i, v, x) ∧ k ≤ i := by
  rcases h with ⟨a, _⟩ | ⟨⟨i, v, x⟩, a, b⟩
  · rcases iabs_cases u with e | e
    · exact .inl (.inl (by first | decide | lia | omega))
    · exact .inl (.inr (by first | decide | lia | omega))
  · exact .inr ⟨i, v, x, a, b⟩
theorem node_one (σ : Sg) : σ.node 1 = none := by simp [Sg.node]
theorem node_pos {σ : Sg} {u : Int} {t} (h : σ.node u = some t) : 2 ≤ u := (Sg.node_lt h).1
theorem Den.one_inv {σ : Sg} {f : BF} (h : Den σ 1 f) : f = fun _ => true := by
  generalize hu : (1 : Int) = u at h
  cases h with
  | one => rfl
  | node h => subst hu; rw [node_one] at h; cases h
  | neg h => omega
theorem Den.node_inv {σ : Sg} {u i v x : Int} {f : BF} (hn : σ.node u = some (i, v, x)) (h : Den σ u f) : ∃ g k, Den σ v g ∧ Den σ x k ∧ f = fun a => if a i then k a else g a := by
  have := node_pos hn
  cases h with
  | one => rw [node_one] at hn; cases hn
  | node h h1 h2 => rw [hn] at h; cases h; exact ⟨_, _, h1, h2, rfl⟩
  | neg h => omega
theorem Den.pos {σ : Sg} {u : Int} {f : BF} (h : Den σ u f) : u ≠ 0 := by
  cases h with
  | one => decide
  | node h => have := node_pos h; omega
  | neg h => omega
theorem Den.neg_inv {σ : Sg} {u : Int} {f : BF} (hu : 0 < u) (h : Den σ (-u) f) : ∃ g, Den σ u g ∧ f = fun a => !g a := by
  generalize hw : -u = y at h
  cases h with
  | one => omega
  | node h => have := node_pos h; omega
  | neg h h1 => rename_i u' g; obtain rfl : u = u' := by first | decide | lia | omega
                exact ⟨_, h1, rfl⟩
theorem Den.not {σ : Sg} {u : Int} {f : BF} (h : Den σ u f) : Den σ (-u) (fun a => !f a) := by
  rcases Int.lt_or_gt_of_ne h.pos with hu | hu
  · have h' : Den σ (-(-u)) f := by rw [Int.neg_neg]; exact h
    obtain ⟨g, h1, rfl⟩ := Den.neg_inv (u := -u) (by first | decide | lia | omega) h'
    simpa using h1
  · exact .neg hu h
theorem Den.fn {σ : Sg} {u : Int} {f g : BF} (h : Den σ u f) (h' : Den σ u g) : f = g := by
  induction h generalizing g with
  | one => exact h'.one_inv.symm
  | node hn _ _ i1 i2 =>
    obtain ⟨g1, g2, a, b, rfl⟩ := Den.node_inv hn h'
    rw [i1 a, i2 b]
  | neg hu _ i1 =>
    obtain ⟨g1, a, rfl⟩ := Den.neg_inv hu h'
    rw [i1 a]
theorem Den.ex {σ : Sg} (ok : Ok σ) : ∀ (n : Nat) (k u : Int), ((σ.nv : Int) - k).toNat ≤ n → Vd σ k u → ∃ f, Den σ u f := by
  intro n
  induction n with
  | zero =>
    intro k u hn h
    rcases h.cases with (rfl | rfl) | ⟨i, v, x, hx, hk⟩
    · exact ⟨_, .one⟩
    · exact ⟨_, .neg (u := 1) (by decide) .one⟩
    · have := (ok.nd _ _ _ _ hx).2.1
      omega
  | succ n ih =>
    intro k u hn h
    rcases h.cases with (rfl | rfl) | ⟨i, v, x, hx, hk⟩
    · exact ⟨_, .one⟩
    · exact ⟨_, .neg (u := 1) (by decide) .one⟩
    · have o := ok.nd _ _ _ _ hx
      obtain ⟨f, hf⟩ := ih (i + 1) v (by first | decide | lia | omega) o.2.2.2.2.1
      obtain ⟨g, hg⟩ := ih (i + 1) x (by first | decide | lia | omega) o.2.2.2.2.2
      have hd : Den σ (iabs u) _ := .node hx hf hg
      rcases iabs_cases u with e | e
      · rw [e]; exact ⟨_, hd⟩
      · rw [e]; exact ⟨_, hd.not⟩
theorem Vd.den {σ : Sg} (ok : Ok σ) {k u : Int} (h : Vd σ k u) : ∃ f, Den σ u f := Den.ex ok _ k u (Nat.le_refl _) h
theorem Den.vd {σ : Sg} (ok : Ok σ) {u : Int} {f : BF} (h : Den σ u f) : Vd σ 0 u := by
  induction h with
  | one => exact .one (by unfold Sg.nv; omega)
  | node hn _ _ _ _ =>
    have := node_pos hn
    exact .inr ⟨_, by rw [iabs_pos (by first | decide | lia | omega)]; exact hn, (ok.nd _ _ _ _ hn).1⟩
  | neg _ _ ih => exact ih.neg
theorem Den.supp {σ : Sg} (ok : Ok σ) {u : Int} {f : BF} (h : Den σ u f) : ∀ {k : Int}, Vd σ k u → ∀ a a' : Asg, (∀ j, k ≤ j → a j = a' j) → f a = f a' := by
  induction h with
  | one => intro _ _ _ _ _; rfl
  | @node u i v x f g hn h1 h2 i1 i2 =>
    intro k hv a a' ha
    have hp := node_pos hn
    have o := ok.nd _ _ _ _ hn
    have hk : k ≤ i := by
      rcases hv with ⟨e, _⟩ | ⟨t, e, hk⟩
      · rw [iabs_pos (by first | decide | lia | omega)] at e; omega
      · rw [iabs_pos (by first | decide | lia | omega), hn] at e; cases e; exact hk
    simp only
    rw [ha i hk, i1 o.2.2.2.2.1 a a' fun j hj => ha j (by first | decide | lia | omega), i2 o.2.2.2.2.2 a a' fun j hj => ha j (by first | decide | lia | omega)]
  | neg hu _ ih =>
    intro k hv a a' ha
    simp only
    rw [ih (by have := hv.neg; rwa [Int.neg_neg] at this) a a' ha]
theorem Den.top {σ : Sg} (ok : Ok σ) {u : Int} {f : BF} (h : Den σ u f) : f (fun _ => true) = decide (0 < u) := by
  induction h with
  | one => rfl
  | node hn _ _ _ i2 =>
    have hp := node_pos hn
    have o := ok.nd _ _ _ _ hn
    simp only [if_true]
    rw [i2]
    simp only [decide_eq_decide]
    omega
  | neg hu _ ih =>
    simp only [ih]
    rw [decide_eq_true hu]
    symm
    simp only [Bool.not_true, decide_eq_false_iff_not]
    omega
noncomputable def upd (a : Asg) (i : Int) (b : Bool) : Asg := fun j => if j = i then b else a j
theorem upd_same (a : Asg) (i : Int) (b : Bool) : upd a i b i = b := by simp [upd]
theorem upd_ne {a : Asg} {i j : Int} {b : Bool} (h : j ≠ i) : upd a i b j = a j := by simp [upd, h]
theorem Den.supp1 {σ : Sg} (ok : Ok σ) {u k : Int} {f : BF} (h : Den σ u f) (hv : Vd σ (k + 1) u) (a : Asg) (b : Bool) : f (upd a k b) = f a :=
  h.supp ok hv _ _ fun j hj => upd_ne (by first | decide | lia | omega)
theorem canon {σ : Sg} (ok : Ok σ) : ∀ (n : Nat) (k u u' : Int) (f : BF), ((σ.nv : Int) - k).toNat ≤ n → Vd σ k u → Vd σ k u' → Den σ u f → Den σ u' f → u = u' := by
  have base : ∀ (n : Nat), (∀ (k u u' : Int) (f : BF), ((σ.nv : Int) - k).toNat < n → Vd σ k u → Vd σ k u' → Den σ u f → Den σ u' f → u = u') →
      ∀ (k u u' : Int) (f : BF), ((σ.nv : Int) - k).toNat ≤ n → 0 < u → 0 < u' → Vd σ k u → Vd σ k u' → Den σ u f → Den σ u' f → u = u' := by
    intro n ih k u u' f hn hu hu' hv hv' hd hd'
    have key : ∀ {u u' : Int}, 0 < u → 0 < u' → Vd σ k u → Vd σ k u' → Den σ u f → Den σ u' f → ∀ i v x, σ.node u = some (i, v, x) → u = u' := by
      intro u u' hu hu' hv hv' hd hd' i v x hx
      have o := ok.nd _ _ _ _ hx
      have hk : k ≤ i := by
        rcases hv with ⟨e, _⟩ | ⟨t, e, hk⟩
        · rw [iabs_pos hu] at e; have := node_pos hx; omega
        · rw [iabs_pos hu, hx] at e; cases e; exact hk
      obtain ⟨g0, g1, d0, d1, rfl⟩ := Den.node_inv hx hd
      have small : ((σ.nv : Int) - (i + 1)).toNat < n ∨ n = 0 := by first | decide | lia | omega
      have hlt : ((σ.nv : Int) - (i + 1)).toNat < n := by
        rcases small with h | h
        · exact h
        · have := o.2.1; omega
      -- not under i
      have no : ¬ Vd σ (i + 1) u' := by
        intro hv2
        have e0 : ∀ a, g0 a = (if a i then g1 a else g0 a) := fun a => by
          have h1 := hd'.supp1 ok hv2 a false
          simp only [upd_same, Bool.false_eq_true, if_false] at h1
          rw [← h1]; exact (d0.supp1 ok o.2.2.2.2.1 a false).symm
        have e1 : ∀ a, g1 a = (if a i then g1 a else g0 a) := fun a => by
          have h1 := hd'.supp1 ok hv2 a true
          simp only [upd_same, if_true] at h1
          rw [← h1]; exact (d1.supp1 ok o.2.2.2.2.2 a true).symm
        have e : g0 = g1 := funext fun a => (e0 a).trans (e1 a).symm
        rw [e] at d0
        exact o.2.2.2.1 (ih (i + 1) v x g1 hlt o.2.2.2.2.1 o.2.2.2.2.2 d0 d1)
      -- u' is a node
      rcases hv'.cases with (rfl | rfl) | ⟨i', v', x', hx', hk'⟩
      · exact absurd (Vd.one (by have := o.2.1; omega)) no
      · omega
      · rw [iabs_pos hu'] at hx'
        have o' := ok.nd _ _ _ _ hx'
        have hi : i' ≤ i := by
          rcases Int.lt_or_le i i' with h | h
          · exact absurd (.inr ⟨_, by rw [iabs_pos hu']; exact hx', by show i + 1 ≤ i'; omega⟩) no
          · exact h
        obtain ⟨g0', g1', d0', d1', e'⟩ := Den.node_inv hx' hd'
        have hi' : i ≤ i' := by
          rcases Int.lt_or_le i' i with h | h
          · exfalso
            have lt' : ((σ.nv : Int) - (i' + 1)).toNat < n := by have := o'.2.1; omega
            have hv2 : Vd σ (i' + 1) u := .inr ⟨_, by rw [iabs_pos hu]; exact hx, by show i' + 1 ≤ i; omega⟩
            have e0 : ∀ a, g0' a = (if a i' then g1' a else g0' a) := fun a => by
              have h1 := hd.supp1 ok hv2 a false
              have h2 := congrFun e' (upd a i' false)
              have h3 := congrFun e' a
              simp only [upd_same, Bool.false_eq_true, if_false] at h1 h2 h3
              rw [← h3, ← h1, h2]
              exact (d0'.supp1 ok o'.2.2.2.2.1 a false).symm
            have e1 : ∀ a, g1' a = (if a i' then g1' a else g0' a) := fun a => by
              have h1 := hd.supp1 ok hv2 a true
              have h2 := congrFun e' (upd a i' true)
              have h3 := congrFun e' a
              simp only [upd_same, if_true] at h1 h2 h3
              rw [← h3, ← h1, h2]
              exact (d1'.supp1 ok o'.2.2.2.2.2 a true).symm
            have e : g0' = g1' := funext fun a => (e0 a).trans (e1 a).symm
            rw [e] at d0'
            exact o'.2.2.2.1 (ih (i' + 1) v' x' g1' lt' o'.2.2.2.2.1 o'.2.2.2.2.2 d0' d1')
          · exact h
        obtain rfl : i = i' := by first | decide | lia | omega
        have E0 : g0 = g0' := funext fun a => by
          have h2 := congrFun e' (upd a i false)
          simp only [upd_same, Bool.false_eq_true, if_false] at h2
          rw [d0.supp1 ok o.2.2.2.2.1, d0'.supp1 ok o'.2.2.2.2.1] at h2
          exact h2
        have E1 : g1 = g1' := funext fun a => by
          have h2 := congrFun e' (upd a i true)
          simp only [upd_same, if_true] at h2
          rw [d1.supp1 ok o.2.2.2.2.2, d1'.supp1 ok o'.2.2.2.2.2] at h2
          exact h2
        have q0 := ih (i + 1) v v' g0 hlt o.2.2.2.2.1 o'.2.2.2.2.1 d0 (E0 ▸ d0')
        have q1 := ih (i + 1) x x' g1 hlt o.2.2.2.2.2 o'.2.2.2.2.2 d1 (E1 ▸ d1')
        exact ok.un u u' _ hx (by rw [q0, q1]; exact hx')
    rcases hv.cases with (rfl | rfl) | ⟨i, v, x, hx, _⟩
    · rcases hv'.cases with (rfl | rfl) | ⟨i', v', x', hx', _⟩
      · rfl
      · omega
      · rw [iabs_pos hu'] at hx'
        exact (key hu' hu hv' hv hd' hd _ _ _ hx').symm
    · omega
    · rw [iabs_pos hu] at hx
      exact key hu hu' hv hv' hd hd' _ _ _ hx
  intro n
  induction n using Nat.strongRecOn with
  | ind n ih =>
    intro k u u' f hn hv hv' hd hd'
    have ih' : ∀ (k u u' : Int) (f : BF), ((σ.nv : Int) - k).toNat < n → Vd σ k u → Vd σ k u' → Den σ u f → Den σ u' f → u = u' := fun k u u' f h a b c d => ih _ h k u u' f (Nat.le_refl _) a b c d
    have s := hd.top ok
    have s' := hd'.top ok
    rw [s] at s'
    simp only [decide_eq_decide] at s'
    rcases Int.lt_or_gt_of_ne hd.pos with hu | hu
    · have hu' : u' < 0 := by
        have := hd'.pos
        omega
      have := base n ih' k (-u) (-u') _ hn (by first | decide | lia | omega) (by first | decide | lia | omega) hv.neg hv'.neg hd.not hd'.not
      omega
    · exact base n ih' k u u' f hn hu (s'.mp hu) hv hv' hd hd'
theorem den_inj {σ : Sg} (ok : Ok σ) {u u' : Int} {f : BF} (h : Den σ u f) (h' : Den σ u' f) : u = u' := canon ok _ 0 u u' f (Nat.le_refl _) (h.vd ok) (h'.vd ok) h h'
end Mine
end
section
namespace Mine
theorem Vd.back {σ σ' : Sg} (ok : Ok σ) (e : Ext σ σ') {k u : Int} {f : BF} (d : Den σ u f) (h : Vd σ' k u) : Vd σ k u := by
  rcases (d.vd ok) with ⟨a, _⟩ | ⟨t, a, _⟩
  · rcases h with ⟨_, b⟩ | ⟨t, a', _⟩
    · exact .inl ⟨a, by rw [← e.nv]; exact b⟩
    · rw [a, node_one] at a'; cases a'
  · rcases h with ⟨a', _⟩ | ⟨t', a', b⟩
    · rw [a', node_one] at a; cases a
    · rw [e.nd _ _ a] at a'
      cases a'
      exact .inr ⟨t, a, b⟩
theorem Ext.add (σ : Sg) (t : Int × Int × Int) : Ext σ (σ.add t) := ⟨rfl, fun u t' h => by
  rw [Sg.node_add, if_neg]
  · exact h
  · have := Sg.node_lt h
    omega⟩
theorem Ok.add {σ : Sg} (ok : Ok σ) {i v x : Int} (hi : 0 ≤ i) (hi2 : i < σ.nv) (hx0 : 0 < x) (hne : v ≠ x) (hv : Vd σ (i + 1) v) (hx : Vd σ (i + 1) x) (hnew : ∀ u, σ.node u ≠ some (i, v, x)) : Ok (σ.add (i, v, x)) := by
  have e := Ext.add σ (i, v, x)
  refine ⟨fun u i' v' x' h => ?_, fun u u' t h h' => ?_⟩
  · rw [Sg.node_add] at h
    split at h
    · cases h
      exact ⟨hi, hi2, hx0, hne, hv.ext e, hx.ext e⟩
    · obtain ⟨a, b, c, d, f, g⟩ := ok.nd _ _ _ _ h
      exact ⟨a, b, c, d, f.ext e, g.ext e⟩
  · rw [Sg.node_add] at h h'
    split at h
    · rename_i hu
      split at h'
      · rename_i hu'
        rw [hu, hu']
      · cases h
        exact absurd h' (hnew u')
    · split at h'
      · cases h'
        exact absurd h (hnew u)
      · exact ok.un u u' t h h'
structure FoaS (σ : Sg) (i : Int) (f g : BF) (r : Int) (σ' : Sg) : Prop where
  ok : Ok σ'
  ext : Ext σ σ'
  vd : Vd σ' i r
  den : Den σ' r (fun a => if a i then g a else f a)
  len : σ'.tab.length ≤ σ.tab.length + 1
  ite : σ'.ite = σ.ite
  its : σ'.its = σ.its
theorem foa_sem {σ σ' : Sg} {i v x r : Int} {f g : BF} (ok : Ok σ) (hi : 0 ≤ i) (hi2 : i < σ.nv) (hv : Vd σ (i + 1) v) (hx : Vd σ (i + 1) x) (dv : Den σ v f) (dx : Den σ x g) (h : FoaR σ i v x r σ') : FoaS σ i f g r σ' := by
  -- the upright case
  have up : ∀ {v x : Int} {f g : BF} {r : Int} {σ' : Sg}, 0 < x → Vd σ (i + 1) v → Vd σ (i + 1) x → Den σ v f → Den σ x g →
      ((v = x ∧ r = v ∧ σ' = σ) ∨ (v ≠ x ∧ σ.node r = some (i, v, x) ∧ σ' = σ) ∨ (v ≠ x ∧ (∀ u, σ.node u ≠ some (i, v, x)) ∧ r = σ.top ∧ σ' = σ.add (i, v, x))) → FoaS σ i f g r σ' := by
    intro v x f g r σ' hx0 hv hx dv dx h
    rcases h with ⟨rfl, rfl, rfl⟩ | ⟨hne, hn, rfl⟩ | ⟨hne, hnew, rfl, rfl⟩
    · refine ⟨ok, .refl _, hv.le (by first | decide | lia | omega), ?_, by first | decide | lia | omega, rfl, rfl⟩
      obtain rfl := dv.fn dx
      have : (fun a : Asg => if a i = true then f a else f a) = f := funext fun a => by split <;> rfl
      rw [this]; exact dx
    · have hp := node_pos hn
      exact ⟨ok, .refl _, .inr ⟨_, by rw [iabs_pos (by first | decide | lia | omega)]; exact hn, Int.le_refl _⟩, .node hn dv dx, by first | decide | lia | omega, rfl, rfl⟩
    · have e := Ext.add σ (i, v, x)
      have hn : (σ.add (i, v, x)).node σ.top = some (i, v, x) := by rw [Sg.node_add, if_pos rfl]
      have hp := node_pos hn
      exact ⟨ok.add hi hi2 hx0 hne hv hx hnew, e, .inr ⟨_, by rw [iabs_pos (by first | decide | lia | omega)]; exact hn, Int.le_refl _⟩, .node hn (dv.ext e) (dx.ext e), by simp [Sg.add], rfl, rfl⟩
  by_cases hx0 : x < 0
  · -- turned
    have fix : ∀ {r' : Int} {σ' : Sg}, FoaS σ i (fun a => !f a) (fun a => !g a) r' σ' → FoaS σ i f g (-1 * r') σ' := by
      intro r' σ' s
      refine ⟨s.ok, s.ext, ?_, ?_, s.len, s.ite, s.its⟩
      · have := s.vd.neg
        rwa [show -1 * r' = -r' by first | decide | lia | omega]
      · have := s.den.not
        rw [show -1 * r' = -r' by first | decide | lia | omega]
        have e : (fun a : Asg => if a i = true then g a else f a) = fun a => !(if a i = true then !g a else !f a) := funext fun a => by split <;> simp
        rw [e]; exact this
    have hx1 : 0 < -x := by first | decide | lia | omega
    generalize hs : σ' = τ at h
    cases h with
    | same h0 => simp only [if_pos hx0] at h0 ⊢; exact fix (up hx1 hv.neg hx.neg dv.not dx.not (.inl ⟨h0, rfl, rfl⟩))
    | old h0 h1 => simp only [if_pos hx0] at h0 h1 ⊢; exact fix (up hx1 hv.neg hx.neg dv.not dx.not (.inr (.inl ⟨h0, h1, rfl⟩)))
    | new h0 h1 => simp only [if_pos hx0] at h0 h1 ⊢; exact fix (up hx1 hv.neg hx.neg dv.not dx.not (.inr (.inr ⟨h0, h1, rfl, rfl⟩)))
  · have hx1 : 0 < x := by have := dx.pos; omega
    cases h with
    | same h0 => simp only [if_neg hx0, Int.one_mul] at h0 ⊢; exact up hx1 hv hx dv dx (.inl ⟨h0, rfl, rfl⟩)
    | old h0 h1 => simp only [if_neg hx0, Int.one_mul] at h0 h1 ⊢; exact up hx1 hv hx dv dx (.inr (.inl ⟨h0, h1, rfl⟩))
    | new h0 h1 => simp only [if_neg hx0, Int.one_mul] at h0 h1 ⊢; exact up hx1 hv hx dv dx (.inr (.inr ⟨h0, h1, rfl, rfl⟩))
noncomputable def Ik (σ : Sg) : Prop := ∀ g u v r, σ.ite g u v = some r → ∃ fg fu fv, Den σ g fg ∧ Den σ u fu ∧ Den σ v fv ∧ Den σ r (fun a => if fg a then fu a else fv a) ∧ ∀ k, Vd σ k g → Vd σ k u → Vd σ k v → Vd σ k r
theorem Ik.ext {σ σ' : Sg} (ok : Ok σ) (e : Ext σ σ') (h : Ik σ) (hi : σ'.ite = σ.ite) : Ik σ' := by
  intro g u v r hr
  rw [hi] at hr
  obtain ⟨fg, fu, fv, a, b, c, d, k⟩ := h g u v r hr
  exact ⟨fg, fu, fv, a.ext e, b.ext e, c.ext e, d.ext e, fun k' h1 h2 h3 => (k k' (Vd.back ok e a h1) (Vd.back ok e b h2) (Vd.back ok e c h3)).ext e⟩
end Mine
end
section
open PySem PySem.W PyProof.Rows PySem.Calls
set_option maxRecDepth 100000
set_option maxHeartbeats 8000000
namespace Mine
section
variable {N : Nm} {W : Wd} {Ψ : Frm hd.heap_1_1 N W} {vals : Vals} {b : Mg} {σ : Sg} {R : Led} {sa : Addr}
theorem opt_int {k : Int} {v : Value} (h : (optKind W.prog W.w).is (some k) v = true) : ∃ t, v = .int k t := by
  cases v <;> simp [optKind, isOpt] at h
  subst h; exact ⟨_, rfl⟩
theorem opt_none {v : Value} (h : (optKind W.prog W.w).is none v = true) : v = .none := by
  cases v <;> simp [optKind, isOpt] at h
  rfl
theorem items3 {a c d : Int} {vs : List Value} (h : ItemsAre (optKind W.prog W.w) [some a, some c, some d] vs) : ∃ t1 t2 t3, vs = [.int a t1, .int c t2, .int d t3] := by
  cases h with | cons h1 h =>
  cases h with | cons h2 h =>
  cases h with | cons h3 h =>
  cases h
  obtain ⟨t1, rfl⟩ := opt_int h1
  obtain ⟨t2, rfl⟩ := opt_int h2
  obtain ⟨t3, rfl⟩ := opt_int h3
  exact ⟨_, _, _, rfl⟩
theorem itemsT {a : Int} {vs : List Value} (h : ItemsAre (optKind W.prog W.w) [some a, none, none] vs) : ∃ t1, vs = [.int a t1, .none, .none] := by
  cases h with | cons h1 h =>
  cases h with | cons h2 h =>
  cases h with | cons h3 h =>
  cases h
  obtain ⟨t1, rfl⟩ := opt_int h1
  obtain rfl := opt_none h2
  obtain rfl := opt_none h3
  exact ⟨_, rfl⟩
theorem M.getNode {value slice : Expr} {u i v x : Int} {t : Tok} {Q : Value → Vals → Led → Prop} (r : Rep W b σ) (hn : σ.node u = some (i, v, x))
    (q : ∀ a t1 t2 t3 n dd sl, (a, (⟨.type "tuple", dd, .seq #[.int i t1, .int v t2, .int x t3] n, sl⟩ : Obj)) ∈ mgL b ++ R → Q (.ref a) vals (mgL b ++ R))
    (hs : subscripted slice false (.ref b.sd) (.int u t) = operate [.ref b.sd, .int u t] (getItem (.ref b.sd) (.int u t)) := by with_unfolding_all rfl) : WA Ψ (subscriptTail value slice (.ref b.sd) (.int u t)) Q vals (mgL b ++ R) := by
  obtain ⟨a, h1, h2⟩ := r.s2 u _ (Sg.key_node hn)
  obtain ⟨items, n, dd, sl, hm, hi⟩ := tup_mono (R := R) h2
  obtain ⟨t1, t2, t3, e⟩ := items3 hi
  obtain ⟨items⟩ := items
  simp only at e
  subst e
  exact dTail so_mem r.s1 (WA.dGet (intKind_is _ _ _ _) so_mem r.s1 h1 (q a t1 t2 t3 n dd sl hm)) hs
noncomputable def Sg.lev (σ : Sg) (u : Int) : Int := if iabs u = 1 then σ.nv else match σ.node (iabs u) with
  | some (i, _, _) => i
  | none => 0
theorem M.getRow {value slice : Expr} {u : Int} {t : Tok} {Q : Value → Vals → Led → Prop} (r : Rep W b σ) (hk : (σ.key (iabs u)).isSome = true)
    (q : ∀ a t1 v2 v3 n dd sl, (a, (⟨.type "tuple", dd, .seq #[.int (σ.lev u) t1, v2, v3] n, sl⟩ : Obj)) ∈ mgL b ++ R → Q (.ref a) vals (mgL b ++ R))
    (hs : subscripted slice false (.ref b.sd) (.int (iabs u) t) = operate [.ref b.sd, .int (iabs u) t] (getItem (.ref b.sd) (.int (iabs u) t)) := by with_unfolding_all rfl) : WA Ψ (subscriptTail value slice (.ref b.sd) (.int (iabs u) t)) Q vals (mgL b ++ R) := by
  obtain ⟨ks, hks⟩ := Option.isSome_iff_exists.mp hk
  obtain ⟨a, h1, h2⟩ := r.s2 _ _ hks
  obtain ⟨items, n, dd, sl, hm, hi⟩ := tup_mono (R := R) h2
  by_cases h1' : iabs u = 1
  · have : ks = [some (σ.nv : Int), none, none] := by rw [h1'] at hks; exact (Option.some.inj hks).symm
    subst this
    obtain ⟨t1, e⟩ := itemsT hi
    obtain ⟨items⟩ := items
    simp only at e
    subst e
    refine dTail so_mem r.s1 (WA.dGet (intKind_is _ _ _ _) so_mem r.s1 h1 (q a t1 .none .none n dd sl ?_)) hs
    unfold Sg.lev
    rw [if_pos h1']; exact hm
  · unfold Sg.key at hks
    rw [if_neg h1'] at hks
    obtain ⟨⟨i, v, x⟩, hn, rfl⟩ := Option.map_eq_some_iff.mp hks
    obtain ⟨t1, t2, t3, e⟩ := items3 hi
    obtain ⟨items⟩ := items
    simp only at e
    subst e
    refine dTail so_mem r.s1 (WA.dGet (intKind_is _ _ _ _) so_mem r.s1 h1 (q a t1 (.int v t2) (.int x t3) n dd sl ?_)) hs
    unfold Sg.lev
    rw [if_neg h1', hn]; exact hm
theorem WA.tupItem {l : Led} {value slice : Expr} {a : Addr} {vs : List Value} {n : Nat} {dd : Option Addr} {sl : Array (Option Value)} {k : Int} {u : Tok} {j : Nat} {v : Value} {Q : Value → Vals → Led → Prop} (hm : (a, (⟨.type "tuple", dd, .seq vs.toArray n, sl⟩ : Obj)) ∈ l)
    (hlo : -(2 ^ 63) ≤ k) (hhi : k < 2 ^ 63) (hj : seqIndex? k vs.length = some j) (hx : vs[j]? = some v) (q : Q v vals l)
    (hs : subscripted slice false (.ref a) (.int k u) = PySem.operate [.ref a, .int k u] (getItem (.ref a) (.int k u)) := by with_unfolding_all rfl) : WA Ψ (subscriptTail value slice (.ref a) (.int k u)) Q vals l := fun E s at' =>
  item_tupleT ⟨_, (at'.N _ hm).1, rfl, n, rfl⟩ hlo hhi hj hx ⟨Same.refl s, vals, l, at', q⟩ hs
end
inductive CofR (σ : Sg) (i u : Int) : Int → Int → Prop
  | above : Vd σ (i + 1) u → CofR σ i u u u
  | up {v x : Int} : 0 < u → σ.node u = some (i, v, x) → CofR σ i u v x
  | down {v x : Int} : u < 0 → σ.node (-u) = some (i, v, x) → CofR σ i u (-v) (-x)
structure CofS (σ : Sg) (i : Int) (f : BF) (v0 v1 : Int) (f0 f1 : BF) : Prop where
  d0 : Den σ v0 f0
  d1 : Den σ v1 f1
  e : f = fun a => if a i then f1 a else f0 a
  k0 : Vd σ (i + 1) v0
  k1 : Vd σ (i + 1) v1
theorem cof_sem {σ : Sg} (ok : Ok σ) {i u v0 v1 : Int} {f : BF} (d : Den σ u f) (h : CofR σ i u v0 v1) : ∃ f0 f1, CofS σ i f v0 v1 f0 f1 := by
  cases h with
  | above hv => exact ⟨f, f, d, d, funext fun a => by split <;> rfl, hv, hv⟩
  | up hu hn =>
    have o := ok.nd _ _ _ _ hn
    obtain ⟨g, k, d0, d1, e⟩ := Den.node_inv hn d
    exact ⟨g, k, d0, d1, e, o.2.2.2.2.1, o.2.2.2.2.2⟩
  | down hu hn =>
    have o := ok.nd _ _ _ _ hn
    have d' := d.not
    obtain ⟨g, k, d0, d1, e⟩ := Den.node_inv hn d'
    refine ⟨_, _, d0.not, d1.not, funext fun a => ?_, o.2.2.2.2.1.neg, o.2.2.2.2.2.neg⟩
    have := congrFun e a
    rw [← Bool.not_not (f a), this]
    split <;> rfl
theorem lev_of_vd {σ : Sg} (ok : Ok σ) {k u : Int} (h : Vd σ k u) : k ≤ σ.lev u ∧ Vd σ (σ.lev u) u ∧ σ.lev u ≤ σ.nv := by
  unfold Sg.lev
  rcases h with ⟨a, b⟩ | ⟨⟨i, v, x⟩, a, b⟩
  · rw [if_pos a]; exact ⟨b, .inl ⟨a, Int.le_refl _⟩, Int.le_refl _⟩
  · have hp := node_pos a
    rw [if_neg (by first | decide | lia | omega), a]
    have := (ok.nd _ _ _ _ a).2.1
    exact ⟨b, .inr ⟨_, a, Int.le_refl _⟩, by simp only; omega⟩
theorem lev_max {σ : Sg} {k u : Int} (h : Vd σ k u) : k ≤ σ.lev u := by
  unfold Sg.lev
  rcases h with ⟨a, b⟩ | ⟨⟨i, v, x⟩, a, b⟩
  · rw [if_pos a]; exact b
  · have hp := node_pos a
    rw [if_neg (by first | decide | lia | omega), a]
    exact b
end Mine
end
section
open PySem PySem.W PyProof.Rows PySem.Calls
set_option maxRecDepth 100000
set_option maxHeartbeats 8000000
namespace Mine
section
variable {K : Params → Frag} {N : Nm} {W : Wd} {Ψ : Frm K N W} {vals : Vals} {l : Led}
theorem At.grown {s : Shared} {h' : Heap} {tk : Nat} (a : At Ψ vals l s) (hk : ∀ d o, s.heap.get? d = some o → h'.get? d = some o) : At Ψ vals l { s with heap := h', toks := tk } :=
  ⟨a.F.grownK hk, a.N.grown hk, a.U, a.G⟩
theorem WA.min3 {a b c : Int} {t u x : Tok} {Q : Value → Vals → Led → Prop} (hh : Ψ.A.handled = none) (q : ∀ m t', m ≤ a → m ≤ b → m ≤ c → (m = a ∨ m = b ∨ m = c) → Q (.int m t') vals l) : WA Ψ (call (.builtin "min") [.int a t, .int b u, .int c x]) Q vals l := fun E s a' =>
  min_three_ints hh fun h' tk hk => ⟨⟨rfl, rfl⟩, vals, l, a'.grown hk, by
    by_cases h1 : b < a
    · by_cases h2 : c < b
      · rw [if_pos h1, if_pos h2]; exact q _ _ (by first | decide | lia | omega) (by first | decide | lia | omega) (by first | decide | lia | omega) (.inr (.inr rfl))
      · rw [if_pos h1, if_neg h2]; exact q _ _ (by first | decide | lia | omega) (by first | decide | lia | omega) (by first | decide | lia | omega) (.inr (.inl rfl))
    · by_cases h2 : c < a
      · rw [if_neg h1, if_pos h2]; exact q _ _ (by first | decide | lia | omega) (by first | decide | lia | omega) (by first | decide | lia | omega) (.inr (.inr rfl))
      · rw [if_neg h1, if_neg h2]; exact q _ _ (by first | decide | lia | omega) (by first | decide | lia | omega) (by first | decide | lia | omega) (.inl rfl)⟩
theorem M.unpD {elts : List Expr} {k : Nat} {tpos : Pos} {y : Addr} {vs : List Value} {M R : Led} {Q : Unit → Vals → Led → Prop} (hh : Ψ.A.handled = none) (hn : (assignEach elts Ψ.env).length = vs.length) (hstar : (assignEach elts Ψ.env).findIdx? (·.1) = none)
    (h : WA Ψ (assignInOrder ((assignEach elts Ψ.env).map (·.2)) vs) Q vals (M ++ R)) : WA Ψ (assign (.Tuple elts k tpos) Ψ.env (.ref y)) Q vals (M ++ (y, tupObj vs) :: R) :=
  Mine.R.unp (items := vs.toArray) hh (List.mem_append_right _ (.head _)) (by simpa using hn) hstar (WA.sublist (M ++ R) (List.Sublist.append (List.Sublist.refl _) (List.sublist_cons_self _ _)) h)
theorem M.toTups {α : Type} {b : Mg} {y : Addr × Obj} {R : Led} {T : Sem α} {Q : α → Vals → Led → Prop} (h : WA Ψ T Q vals (mgL { b with tups := y :: b.tups } ++ R)) : WA Ψ T Q vals (mgL b ++ y :: R) :=
  WA.perm _ (mgL_tup.trans shiftPerm.symm) h
end
section
variable {K : Type} [DecidableEq K]
theorem atKey_map (xs : List (K × Addr × Value)) (k x : K) (v : Value) : atKey (xs.map (putAt k v)) x = if x = k then (atKey xs x).map (fun q => (q.1, v)) else atKey xs x := by
  unfold atKey
  induction xs with
  | nil => simp
  | cons y r ih =>
    obtain ⟨y1, y2, y3⟩ := y
    simp only [List.map_cons, List.find?_cons, putAt]
    by_cases hk : y1 = k
    · subst hk
      by_cases hx : y1 = x
      · subst hx; simp
      · have hx' : ¬ x = y1 := fun e => hx e.symm
        simpa [hx, hx'] using ih
    · by_cases hx : y1 = x
      · subst hx; simp [hk]
      · simpa [hk, hx] using ih
theorem atKey_put {xs : List (K × Addr × Value)} {k x : K} {a a' : Addr} {v v' : Value} (h : atKey (storedH xs k a v) x = some (a', v')) : (x = k ∧ v' = v) ∨ (x ≠ k ∧ atKey xs x = some (a', v')) := by
  cases h0 : atKey xs k with
  | none =>
    rw [atKey_storedH_new h0] at h
    split at h
    · rename_i e; cases h; exact .inl ⟨e, rfl⟩
    · rename_i e; exact .inr ⟨e, h⟩
  | some p =>
    rw [storedH_old h0, atKey_map] at h
    split at h
    · rename_i e
      subst e
      rw [h0] at h
      cases h
      exact .inl ⟨rfl, rfl⟩
    · rename_i e; exact .inr ⟨e, h⟩
theorem storedH_len_le (xs : List (K × Addr × Value)) (k : K) (a : Addr) (v : Value) : (storedH xs k a v).length ≤ xs.length + 1 := by
  cases h0 : atKey xs k with
  | none => rw [storedH_len_new h0]; omega
  | some p => rw [storedH_old h0, List.length_map]; omega
theorem storedH_mem {xs : List (K × Addr × Value)} {k : K} {a : Addr} {v : Value} {P : K → Addr → Prop} (hx : ∀ y ∈ xs, P y.1 y.2.1) (hk : P k a) : ∀ y ∈ storedH xs k a v, P y.1 y.2.1 := by
  cases h0 : atKey xs k with
  | none => exact storedH_mem_new (P := fun y => P y.1 y.2.1) h0 hx hk
  | some p =>
    rw [storedH_old h0]
    intro y hy
    obtain ⟨z, hz, rfl⟩ := List.mem_map.mp hy
    unfold putAt
    split <;> exact hx z hz
end
noncomputable def Sg.put (σ : Sg) (g u v r : Int) : Sg := { σ with ite := fun g' u' v' => if g' = g ∧ u' = u ∧ v' = v then some r else σ.ite g' u' v', its := σ.its + 1 }
theorem Rep.put {W : Wd} {b : Mg} {σ : Sg} {g u v rr : Int} {t : Tok} {x : Addr} {o' : Obj} (r : Rep W b σ) (hx : TupL (optKind W.prog W.w) b.tups [some g, some u, some v] x) (ho : IsTupDict (optKind W.prog W.w) o' (storedH b.ik [some g, some u, some v] x (.int rr t))) : Rep W (b.uIo o' (storedH b.ik [some g, some u, some v] x (.int rr t))) (σ.put g u v rr) := by
  exact { r with
    i1 := ho
    i2 := storedH_mem (P := fun ks a => TupL (optKind W.prog W.w) b.tups ks a) r.i2 hx
    i3 := fun ks a v' h => by
      rcases atKey_put h with ⟨rfl, rfl⟩ | ⟨hne, h'⟩
      · exact ⟨g, u, v, rr, t, rfl, rfl, by simp [Sg.put]⟩
      · obtain ⟨g', u', x', r', t', rfl, e2, e3⟩ := r.i3 ks a v' h'
        refine ⟨g', u', x', r', t', rfl, e2, ?_⟩
        show (if g' = g ∧ u' = u ∧ x' = v then some rr else σ.ite g' u' x') = some r'
        rw [if_neg]
        · exact e3
        · rintro ⟨rfl, rfl, rfl⟩; exact hne rfl
    i4 := Nat.le_trans (storedH_len_le _ _ _ _) (Nat.succ_le_succ r.i4) }
theorem Ext.put (σ : Sg) (g u v r : Int) : Ext σ (σ.put g u v r) := ⟨rfl, fun _ _ h => h⟩
theorem Ok.put {σ : Sg} (ok : Ok σ) (g u v r : Int) : Ok (σ.put g u v r) := ⟨fun a i v' x h => by
    have o := ok.nd a i v' x h
    exact ⟨o.1, o.2.1, o.2.2.1, o.2.2.2.1, o.2.2.2.2.1.ext (Ext.put σ g u v r), o.2.2.2.2.2.ext (Ext.put σ g u v r)⟩, fun a b t h h' => ok.un a b t h h'⟩
theorem Ik.put {σ : Sg} (ok : Ok σ) (ik : Ik σ) {g u v r : Int} {fg fu fv : BF} (dg : Den σ g fg) (du : Den σ u fu) (dv : Den σ v fv) (dr : Den σ r (fun a => if fg a then fu a else fv a)) (hk : ∀ k, Vd σ k g → Vd σ k u → Vd σ k v → Vd σ k r) : Ik (σ.put g u v r) := by
  have e := Ext.put σ g u v r
  intro g' u' v' r' h
  simp only [Sg.put] at h
  split at h
  · rename_i hc
    obtain ⟨rfl, rfl, rfl⟩ := hc
    cases h
    exact ⟨fg, fu, fv, dg.ext e, du.ext e, dv.ext e, dr.ext e, fun k h1 h2 h3 => (hk k (Vd.back ok e dg h1) (Vd.back ok e du h2) (Vd.back ok e dv h3)).ext e⟩
  · obtain ⟨a, b, c, d1, d2, d3, d4, kk⟩ := ik _ _ _ _ h
    exact ⟨a, b, c, d1.ext e, d2.ext e, d3.ext e, d4.ext e, fun k h1 h2 h3 => (kk k (Vd.back ok e d1 h1) (Vd.back ok e d2 h2) (Vd.back ok e d3 h3)).ext e⟩
end Mine
end
section
open PySem PySem.W PyProof.Rows PySem.Calls
set_option maxRecDepth 100000
set_option maxHeartbeats 8000000
namespace Mine
section
variable {K : Params → Frag} {N : Nm} {W : Wd} {Ψ : Frm K N W} {vals : Vals} {l : Led}
theorem lAt {s : Shared} {a : Addr} {vs : List Value} {n : Nat} (h : At Ψ vals l s) (hm : (a, listOf vs.toArray n) ∈ l) : s.heap.IsList a vs.toArray := PySem.IsL.isList (n := n) (h.N _ hm).1
theorem WA.lLen {a : Addr} {vs : List Value} {n : Nat} {Q : Value → Vals → Led → Prop} (hm : (a, listOf vs.toArray n) ∈ l) (hz : vs.length < 2 ^ 60) (q : ∀ t, Q (.int vs.length t) vals l) : WA Ψ (call (.builtin "len") [.ref a]) Q vals l :=
  WA.same q fun E P s a' h => call_len_list (lAt a' hm) (by rw [List.size_toArray]; omega) (by rw [List.size_toArray]; exact h _ _)
theorem WA.lGet {a : Addr} {vs : List Value} {n : Nat} {k : Int} {t : Tok} {v : Value} {value slice : Expr} {Q : Value → Vals → Led → Prop} (hm : (a, listOf vs.toArray n) ∈ l) (h0 : 0 ≤ k) (hfit : k < 2 ^ 63) (hx : vs[k.toNat]? = some v) (q : Q v vals l)
    (hs : subscripted slice false (.ref a) (.int k t) = PySem.operate [.ref a, .int k t] (getItem (.ref a) (.int k t)) := by with_unfolding_all rfl) : WA Ψ (subscriptTail value slice (.ref a) (.int k t)) Q vals l := fun E s a' =>
  tail_any (lAt a' hm).typeIs slot_list_getitem.lookup (wpAny_getItem_list (lAt a' hm) h0 hfit (by simpa using hx) ⟨Same.refl s, vals, l, a', q⟩) hs
theorem WA.sIn {a : Addr} {o : Obj} {S : Int → Bool} {n : Nat} {k : Int} {t : Tok} {Q : Value → Vals → Led → Prop} (hm : (a, o) ∈ l) (ho : o.SetObjOf (intKind W.prog W.w) S n) (hb : n < scanBound) (q : Q (.bool (S k)) vals l) : WA Ψ (compareOp .In (.int k t) (.ref a)) Q vals l :=
  WA.same (v := fun _ => .bool (S k)) (fun _ => q) fun E P s a' h => wpAny_inSet_of (intKind_is _ _ _ _) rfl (ho.setOf (a'.N _ hm).1 hb) (h 0 _)
theorem WA.brk {pos : Pos} {Q : Flow → Vals → Led → Prop} (q : Q .brk vals l) : WA Ψ (exec (.Break pos) Ψ.env) Q vals l := WA.bind (WA.standAt (WA.pure q))
theorem WA.conti {pos : Pos} {Q : Flow → Vals → Led → Prop} (q : Q .cont vals l) : WA Ψ (exec (.Continue pos) Ψ.env) Q vals l := WA.bind (WA.standAt (WA.pure q))
theorem R.conS {r : List Stmt} {Q : Flow → Vals → Led → Prop} (h : Q .cont vals l) : contS Ψ r Q .cont vals l := h
theorem R.cCon {c : Code} {Q : Flow → Vals → Led → Prop} (h : WC Ψ c Q vals l) : contL Ψ c Q .cont vals l := h
theorem stored_len_le {K : Type} [DecidableEq K] (kvs : List (K × Value)) (k : K) (v : Value) : (stored kvs k v).length ≤ kvs.length + 1 := by
  cases h : valueAt kvs k with
  | none => rw [stored_len_new h]; omega
  | some y => rw [stored_len_old h]; omega
theorem R.joinI {bb : Bool} {T1 T2 : Sem Flow} {C : Flow → Vals → Led → Prop} (P : Vals → Led → Prop) (h1 : if bb = true then WA Ψ T1 (fun f vals l => f = .next ∧ P vals l) vals l else WA Ψ T2 (fun f vals l => f = .next ∧ P vals l) vals l) (h2 : ∀ vals l, P vals l → C .next vals l) :
    if bb = true then WA Ψ T1 C vals l else WA Ψ T2 C vals l := by
  split at h1
  · rename_i hb; rw [if_pos hb]; exact h1.mono fun f v l ⟨e, h⟩ => by subst e; exact h2 _ _ h
  · rename_i hb; rw [if_neg hb]; exact h1.mono fun f v l ⟨e, h⟩ => by subst e; exact h2 _ _ h
theorem ints_get {vs : List Value} {ns : List Int} (h : IntsAre vs ns) {i : Nat} {x : Int} (hx : ns[i]? = some x) : ∃ t, vs[i]? = some (.int x t) := by
  induction h generalizing i with
  | nil => simp at hx
  | cons n t _ ih =>
    cases i with
    | zero => simp only [List.getElem?_cons_zero, Option.some.injEq] at hx; subst hx; exact ⟨t, rfl⟩
    | succ i => simp only [List.getElem?_cons_succ] at hx ⊢; exact ih hx
theorem ints_len {vs : List Value} {ns : List Int} (h : IntsAre vs ns) : vs.length = ns.length := by
  induction h with
  | nil => rfl
  | cons n t _ ih => simp [ih]
end
open Classical in
noncomputable def exS (S : Int → Bool) (f : BF) : BF := fun a => decide (∃ a' : Asg, (∀ j, S j = false → a' j = a j) ∧ f a' = true)
noncomputable def qf (every : Bool) (S : Int → Bool) (f : BF) : BF := if every then fun a => !exS S (fun x => !f x) a else exS S f
theorem exS_iff {S : Int → Bool} {f : BF} {a : Asg} : exS S f a = true ↔ ∃ a' : Asg, (∀ j, S j = false → a' j = a j) ∧ f a' = true := by simp [exS]
theorem exS_free {S : Int → Bool} {f : BF} (h : ∀ a a' : Asg, (∀ j, S j = false → a' j = a j) → f a' = f a) : exS S f = f := by
  funext a
  rw [Bool.eq_iff_iff, exS_iff]
  constructor
  · rintro ⟨a', h1, h2⟩; rw [← h a a' h1]; exact h2
  · exact fun h' => ⟨a, fun _ _ => rfl, h'⟩
theorem exS_in {S : Int → Bool} {i : Int} {f0 f1 : BF} (hi : S i = true) (h0 : ∀ a b, f0 (upd a i b) = f0 a) (h1 : ∀ a b, f1 (upd a i b) = f1 a) : exS S (fun a => if a i then f1 a else f0 a) = fun a => exS S f0 a || exS S f1 a := by
  funext a
  rw [Bool.eq_iff_iff, exS_iff, Bool.or_eq_true, exS_iff, exS_iff]
  have hu : ∀ (a' : Asg) (b : Bool), (∀ j, S j = false → a' j = a j) → ∀ j, S j = false → upd a' i b j = a j := fun a' b h j hj => by
    have : j ≠ i := by rintro rfl; rw [hi] at hj; cases hj
    rw [upd_ne this]; exact h j hj
  constructor
  · rintro ⟨a', h, e⟩
    by_cases ha : a' i = true
    · rw [if_pos ha] at e; exact .inr ⟨a', h, e⟩
    · rw [if_neg ha] at e; exact .inl ⟨a', h, e⟩
  · rintro (⟨a', h, e⟩ | ⟨a', h, e⟩)
    · exact ⟨upd a' i false, hu a' false h, by rw [upd_same, if_neg (by simp), h0]; exact e⟩
    · exact ⟨upd a' i true, hu a' true h, by rw [upd_same, if_pos rfl, h1]; exact e⟩
theorem exS_out {S : Int → Bool} {i : Int} {f0 f1 : BF} (hi : S i = false) : exS S (fun a => if a i then f1 a else f0 a) = fun a => if a i then exS S f1 a else exS S f0 a := by
  funext a
  rw [Bool.eq_iff_iff, exS_iff]
  by_cases ha : a i = true
  · rw [if_pos ha, exS_iff]
    exact ⟨fun ⟨a', h, e⟩ => ⟨a', h, by rw [h i hi, ha, if_pos rfl] at e; exact e⟩, fun ⟨a', h, e⟩ => ⟨a', h, by rw [h i hi, ha, if_pos rfl]; exact e⟩⟩
  · rw [if_neg ha, exS_iff]
    exact ⟨fun ⟨a', h, e⟩ => ⟨a', h, by rw [h i hi, if_neg ha] at e; exact e⟩, fun ⟨a', h, e⟩ => ⟨a', h, by rw [h i hi, if_neg ha]; exact e⟩⟩
theorem not_ite (f0 f1 : BF) (i : Int) : (fun a : Asg => !(if a i then f1 a else f0 a)) = fun a => if a i then !f1 a else !f0 a := by funext a; split <;> rfl
theorem qf_free {every : Bool} {S : Int → Bool} {f : BF} (h : ∀ a a' : Asg, (∀ j, S j = false → a' j = a j) → f a' = f a) : qf every S f = f := by
  cases every
  · exact exS_free h
  · unfold qf; rw [if_pos rfl, exS_free (f := fun x => !f x) fun a a' h' => show (!f a') = !f a by rw [h a a' h']]; funext a; simp
theorem qf_in {every : Bool} {S : Int → Bool} {i : Int} {f0 f1 : BF} (hi : S i = true) (h0 : ∀ a b, f0 (upd a i b) = f0 a) (h1 : ∀ a b, f1 (upd a i b) = f1 a) : qf every S (fun a => if a i then f1 a else f0 a) = fun a => if every then qf every S f0 a && qf every S f1 a else qf every S f0 a || qf every S f1 a := by
  cases every
  · exact exS_in hi h0 h1
  · unfold qf
    simp only [if_true]
    rw [not_ite, exS_in hi (fun a b => by simp only [h0]) (fun a b => by simp only [h1])]
    funext a; simp
theorem qf_out {every : Bool} {S : Int → Bool} {i : Int} {f0 f1 : BF} (hi : S i = false) : qf every S (fun a => if a i then f1 a else f0 a) = fun a => if a i then qf every S f1 a else qf every S f0 a := by
  cases every
  · exact exS_out hi
  · unfold qf
    simp only [if_true]
    rw [not_ite, exS_out hi]
    funext a; by_cases h : a i = true <;> simp [h]
theorem qf_const {every : Bool} {S : Int → Bool} (c : Bool) : qf every S (fun _ => c) = fun _ => c := qf_free fun _ _ _ => rfl
end Mine
end
section
namespace Mine
open PySem PySem.W PyProof.Rows PySem.Calls
set_option maxHeartbeats 8000000 in
theorem g_frozenset (P : Params) : GlobIs (hd.heap_1_1 P) "frozenset" (.type "frozenset") := .inr ⟨by k_is, by boot_by_name, by decide +kernel⟩
local macro_rules | `(tactic| tlg_ne) => `(tactic| ((repeat (first | (with_reducible exact NmI.here) | ((with_reducible refine NmI.next (i := ?_) ?_); rotate_left))); done))
local macro_rules | `(tactic| nest_cls) => `(tactic| repeat (first | (with_reducible exact NmG.here) | (with_reducible refine NmG.next ?_)))
local macro_rules | `(tactic| lcg_off) => `(tactic| with_unfolding_all rfl)
local macro_rules | `(tactic| fold_depth) => `(tactic| with_unfolding_all exact rfl)
local macro_rules | `(tactic| lcg_sub) => `(tactic| with_reducible (first | exact g_abs _ | exact g_len _ | exact g_min _ | exact g_sorted _ | exact g_sum _ | exact g_isinstance _ | exact g_next _ | exact g_iter _ | exact g_divmod _ | exact g_range _ | exact g_dict _ | exact g_set _ | exact g_frozenset _))
local macro_rules | `(tactic| fin_places) => `(tactic| first | (with_unfolding_all rfl) | (simp only [decide_eq_false_iff_not, decide_eq_true_eq, beq_eq_false_iff_ne, beq_iff_eq, bne_iff_ne, bne_eq_false_iff_eq, ne_eq, Bool.not_eq_true', Bool.not_eq_false', Bool.not_true, Bool.not_false] <;> omega))
local macro_rules | `(tactic| kas_types) => `(tactic| with_reducible (first | exact m_incref _ | exact m_find_or_add _ | exact m_next_free_int_ _ | exact m_top_cofactor_ _ | exact m_ite_ _ | exact m_ite _ | exact m_succ _ | exact m_var_at_level _ | exact m_quantify _ | exact m_quantify_ _ | exact m_forall _ | exact m_exist _ | exact m_map_to_level_ _ | exact m_apply _ | exact m_add_var _ | exact m_next_free_level_ _ | exact m_init_terminal_ _ | exact m_support _))
local macro_rules | `(tactic| kd_p) => `(tactic| with_reducible (refine L.seq ?_; intro _ _ _))
local macro_rules | `(tactic| kt_k) => `(tactic| with_reducible (refine WA.exNil ?_))
local macro_rules | `(tactic| kcf_m) => `(tactic| with_reducible (refine R.next ?_))
local macro_rules | `(tactic| kcj_m) => `(tactic| with_reducible (refine R.retS ?_))
local macro_rules | `(tactic| kd_in) => `(tactic| with_reducible (refine' R.name ?h9 ?g9 ?_; (case h9 => (repeat constructor)); (case g9 => fold_depth)))
local macro_rules | `(tactic| kd_p1) => `(tactic| with_reducible (refine L.ifS ?_; intro _))
local macro_rules | `(tactic| kj_on) => `(tactic| with_reducible (refine L.ret ?_; intro _))
local macro_rules | `(tactic| kl_no) => `(tactic| with_reducible (refine L.asN (by lcg_off) ?_; intro _))
local macro_rules | `(tactic| kln_w) => `(tactic| with_reducible (refine L.asA (by lcg_off) ?_; intro _))
local macro_rules | `(tactic| kpc_g) => `(tactic| with_reducible (refine L.asS (by lcg_off) ?_; intro _))
local macro_rules | `(tactic| kpf_c) => `(tactic| with_reducible (refine L.augS (by intro _ _ _; lcg_off) ?_; intro _))
local macro_rules | `(tactic| ks_is) => `(tactic| with_reducible (refine L.expr (by lcg_off) ?_; intro _))
local macro_rules | `(tactic| ksr_p) => `(tactic| with_reducible (refine' R.glob ?h9 ?g9 ?_; (case h9 => (repeat constructor)); (case g9 => lcg_sub)))
local macro_rules | `(tactic| kst_p) => `(tactic| with_reducible (refine WA.cInt ?_; intro _))
local macro_rules | `(tactic| kt_le) => `(tactic| with_reducible (refine WA.cNone ?_))
local macro_rules | `(tactic| kw_lk) => `(tactic| with_reducible (refine WA.cBool ?_))
local macro_rules | `(tactic| kba_in) => `(tactic| with_reducible (refine WA.cStr ?_; intro _))
local macro_rules | `(tactic| kbe_in) => `(tactic| with_reducible (refine L.binOp ?_; intro _))
local macro_rules | `(tactic| kbt_ne) => `(tactic| with_reducible (refine L.unOp ?_; intro _))
local macro_rules | `(tactic| kcj_in) => `(tactic| with_reducible (refine L.cmp (by lcg_off) ?_; intro _))
local macro_rules | `(tactic| kcu_lt) => `(tactic| with_reducible (refine L.ifExp ?_; intro _))
local macro_rules | `(tactic| kd_adr) => `(tactic| with_reducible (refine L.tCmp (by lcg_off) ?_; intro _))
local macro_rules | `(tactic| kd_all) => `(tactic| with_reducible (refine L.tNot ?_; intro _))
local macro_rules | `(tactic| kd_idx) => `(tactic| with_reducible (refine L.tBool ?_))
local macro_rules | `(tactic| kd_mem) => `(tactic| with_reducible (refine L.allAnd ?_; intro _))
local macro_rules | `(tactic| kd_rfl) => `(tactic| with_reducible (refine L.allOr ?_; intro _))
local macro_rules | `(tactic| kf_int) => `(tactic| with_reducible (refine WA.allNil ?_))
local macro_rules | `(tactic| kfm_eq) => `(tactic| with_reducible (refine L.tPlain (by intro _ _; lcg_off) ?_; intro _))
local macro_rules | `(tactic| kfm_hd) => `(tactic| with_reducible (refine L.subs ?_; intro _))
local macro_rules | `(tactic| kgr_on) => `(tactic| with_reducible (refine L.attr (by intro _; lcg_off) ?_; intro _))
local macro_rules | `(tactic| kim_at) => `(tactic| with_reducible (refine L.tuple (by lcg_off) ?_; intro _))
local macro_rules | `(tactic| kin_no) => `(tactic| with_reducible (refine L.callM (pl := _) (by lcg_off) (by lcg_off) ?_; intro _))
local macro_rules | `(tactic| kit_at) => `(tactic| with_reducible (refine L.callN (by lcg_off) (by intro _; lcg_off) ?_; intro _))
local macro_rules | `(tactic| kit_is) => `(tactic| with_reducible (refine' L.argNm ?h9 ?g9 ?_; (case h9 => (repeat constructor)); (case g9 => fold_depth)))
local macro_rules | `(tactic| kit_nb) => `(tactic| with_reducible (refine L.argC ?_; intro _))
local macro_rules | `(tactic| kit_tp) => `(tactic| with_reducible (refine L.argN ?_))
local macro_rules | `(tactic| kj_one) => `(tactic| with_reducible (refine R.kwN ?_))
local macro_rules | `(tactic| kjx_on) => `(tactic| with_reducible (refine L.kwC ?_; intro _))
local macro_rules | `(tactic| kl_lit) => `(tactic| with_reducible (refine L.methB ?_; intro _))
local macro_rules | `(tactic| kle_go) => `(tactic| with_reducible (refine L.funB ?_; intro _))
local macro_rules | `(tactic| kln_le) => `(tactic| with_reducible (refine L.funT ?_; intro _))
local macro_rules | `(tactic| kmb_kw) => `(tactic| with_reducible (refine' R.bind ?h9 ?g9 ?_; (case h9 => (repeat constructor)); (case g9 => fold_depth)))
local macro_rules | `(tactic| kmk_kw) => `(tactic| with_reducible (refine WA.add ?_; intro _))
local macro_rules | `(tactic| kn_hit) => `(tactic| with_reducible (refine WA.sub' ?_; intro _))
local macro_rules | `(tactic| kp_lit) => `(tactic| with_reducible (refine WA.neg ?_; intro _))
local macro_rules | `(tactic| kpa_ne) => `(tactic| with_reducible (refine WA.iadd ?_; intro _))
local macro_rules | `(tactic| kpc_eq) => `(tactic| with_reducible (refine WA.eqI ?_))
local macro_rules | `(tactic| kpc_if) => `(tactic| with_reducible (refine WA.neI ?_))
local macro_rules | `(tactic| kpf_eq) => `(tactic| with_reducible (refine WA.ltI ?_))
local macro_rules | `(tactic| kpt_eq) => `(tactic| with_reducible (refine WA.leI ?_))
local macro_rules | `(tactic| kpt_hd) => `(tactic| with_reducible (refine WA.gtI ?_))
local macro_rules | `(tactic| kqd_in) => `(tactic| with_reducible (refine WA.geI ?_))
local macro_rules | `(tactic| kqd_ok) => `(tactic| with_reducible (refine WA.abs ?_; intro _))
local macro_rules | `(tactic| kri_at) => `(tactic| with_reducible (refine WA.isN ?_))
local macro_rules | `(tactic| krn_ne) => `(tactic| with_reducible (refine WA.isNotN ?_))
local macro_rules | `(tactic| ks_any) => `(tactic| with_reducible (refine WA.trBool ?_))
local macro_rules | `(tactic| ksk_a1) => `(tactic| with_reducible (refine WA.trInt ?_))
local macro_rules | `(tactic| ksk_a2) => `(tactic| with_reducible (refine WA.trNone ?_))
local macro_rules | `(tactic| ksk_a3) => `(tactic| with_reducible (refine' M.attr (by assumption) (by assumption) ?h9 ?g9 ?k9 ?_; (case h9 => (repeat constructor)); (case g9 => fold_depth); (case k9 => lcg_off)))
local macro_rules | `(tactic| ksk_kw) => `(tactic| with_reducible (refine' M.attrI (by assumption) (by assumption) ?h9 ?g9 ?k9 ?_; (case h9 => (repeat constructor)); (case g9 => fold_depth); (case k9 => assumption)))
local macro_rules | `(tactic| ksp_in) => `(tactic| with_reducible (refine M.methK (by assumption) (by assumption) (by kas_types) ?_; intro _))
local macro_rules | `(tactic| ksp_lk) => `(tactic| with_reducible (refine R.cNext ?_))
local macro_rules | `(tactic| kssn_s) => `(tactic| with_reducible (refine R.cRet ?_))
local macro_rules | `(tactic| kst_in) => `(tactic| with_reducible (refine R.cBrk ?_))
local macro_rules | `(tactic| kst_p1) => `(tactic| with_reducible (refine L.turnS ?_; intro _))
local macro_rules | `(tactic| kst_p2) => `(tactic| with_reducible (refine R.turnN ?_))
local macro_rules | `(tactic| kt_chr) => `(tactic| with_reducible (refine WA.letN ?_))
local macro_rules | `(tactic| kt_eqs) => `(tactic| with_reducible (refine WA.asgN ?_))
local macro_rules | `(tactic| kt_key) => `(tactic| with_reducible (refine L.forS (by intro _ _; lcg_off) ?_; intro _))
local macro_rules | `(tactic| kt_len) => `(tactic| with_reducible (refine WA.whileS ?_))
local macro_rules | `(tactic| kt_ors) => `(tactic| with_reducible (refine WA.range2 (fun _ _ => ?_)))
local macro_rules | `(tactic| kt_str) => `(tactic| with_reducible (refine' L.augN ?h9 ?g9 ?_; (case h9 => (repeat constructor)); (case g9 => fold_depth); intro _))
local macro_rules | `(tactic| kt_sym) => `(tactic| with_reducible (refine WA.brk ?_))
local macro_rules | `(tactic| kt_tab) => `(tactic| with_reducible (refine R.brkS ?_))
local macro_rules | `(tactic| ktn_lt) => `(tactic| with_reducible (refine WA.conti ?_))
local macro_rules | `(tactic| kto_ne) => `(tactic| with_reducible (refine R.conS ?_))
local macro_rules | `(tactic| kts_go) => `(tactic| with_reducible (refine R.cCon ?_))
local macro_rules | `(tactic| kts_nm) => `(tactic| with_reducible (refine L.ai1 ?_; intro _))
local macro_rules | `(tactic| ktyn_q) => `(tactic| with_reducible (refine R.ai0 ?_))
local macro_rules | `(tactic| kwk_eq) => `(tactic| with_reducible (refine R.iteF ?h9 ?_; (case h9 => fin_places)))
local macro_rules | `(tactic| kwk_ne) => `(tactic| with_reducible (refine R.iteT ?h9 ?_; (case h9 => fin_places)))
section
open PySem PySem.W PyProof.Rows PySem.Calls
set_option maxRecDepth 100000
set_option maxHeartbeats 8000000
noncomputable def fn100 : FnIn 100 := by
  refine' mkFn ?ok ?hb
  case ok => intro P; k_is
  case hb => exact rfl
@[reducible] noncomputable def N100 : Nm := ⟨["self", "u"], ["abs"]⟩
theorem sc100 : ScOk fn100.fd.scope.names N100.loc N100.glo := by
  refine scOk_of ?_
  kernel_rfl!
theorem fo100 (P : Params) : FnOk (hd.heap_1_1 P) 100 fn100.fd fn100.body := ⟨⟨_, _, _, fn100.ok P⟩, by kernel_rfl!, fn100.hb, rfl, rfl, rfl, rfl, rfl, by kernel_rfl!⟩
section
variable {N : Nm} {W : Wd} {Ψ : Frm hd.heap_1_1 N W} {vals : Vals} {b : Mg} {σ : Sg} {Rl : Led} {sa : Addr}
theorem incref_ok {u c : Int} {t tc : Tok} {Q : VQ} (hr : Room Ψ.A 1) (hs : b.self = sa) (at0 : AttrsAre b.ae an b.av) (ho : b.rro.IsDictOf (intKind W.prog W.w) b.rk) (hz : b.rk.length ≤ sizeLine)
    (hv : valueAt b.rk (if u < 0 then -u else u) = some (.int c tc))
    (q : ∀ t' (o' : Obj), o'.IsDictOf (intKind W.prog W.w) (stored b.rk (if u < 0 then -u else u) (.int (c + 1) t')) → let b' := b.uRro o' (stored b.rk (if u < 0 then -u else u) (.int (c + 1) t')); Q .none vals (mgL b' ++ Rl)) :
    WA Ψ (call (.ref 100) [.ref sa, .int u t]) Q vals (mgL b ++ Rl) := by
  refine WA.callDefS (N' := N100) (fo100 _) sc100 hr (binds := [("self", .ref sa), ("u", .int u t)]) (rest := []) (fun s _ => .of_eq rfl) rfl [some (.ref sa), some (.int u t)] rfl ?_
  intro Ψ' he hr'
  dsimp only [fn100, mkFn]
  kd_p; kpf_c; kgr_on; kd_in; ksk_a3; kit_at; ksr_p; kle_go; kit_is; kit_tp; kqd_ok
  refine WA.dGet (intKind_is _ _ _ _) ro_mem ho hv ?_
  kst_p; kpa_ne
  refine M.setRef (intKind_is _ _ _ _) ho hz fun o' h => ?_
  intro b'
  kcf_m; kt_k
  exact ⟨_, List.Sublist.refl _, q _ o' h⟩
end
end
section
open PySem PySem.W PyProof.Rows PySem.Calls
set_option maxRecDepth 100000
set_option maxHeartbeats 8000000
noncomputable def fn374 : FnIn 374 := by
  refine' mkFn ?ok ?hb
  case ok => intro P; k_is
  case hb => exact rfl
@[reducible] noncomputable def N374 : Nm := ⟨["self", "start", "i"], ["range"]⟩
theorem sc374 : ScOk fn374.fd.scope.names N374.loc N374.glo := by
  refine scOk_of ?_
  kernel_rfl!
theorem fo374 (P : Params) : FnOk (hd.heap_1_1 P) 374 fn374.fd fn374.body := ⟨⟨_, _, _, fn374.ok P⟩, by kernel_rfl!, fn374.hb, rfl, rfl, rfl, rfl, rfl, by kernel_rfl!⟩
section
variable {N : Nm} {W : Wd} {Ψ : Frm hd.heap_1_1 N W} {vals : Vals} {b : Mg} {σ : Sg} {Rl : Led} {sa : Addr}
theorem nfi_ok {u : Int} {t tm : Tok} {Q : Value → Vals → Led → Prop} (hr : Room Ψ.A 1) (hs : b.self = sa) (at0 : AttrsAre b.ae an b.av) (hmx : b.mx = .int (2 ^ 63 - 1) tm) (ho : b.so.IsDictOf (intKind W.prog W.w) b.sk)
    (h1 : 1 ≤ u) (h2 : u ≤ 2 ^ 24) (hv : (valueAt b.sk u).isSome = true) (hn : valueAt b.sk (u + 1) = none)
    (q : ∀ t', Q (.int (u + 1) t') vals (mgL b ++ Rl)) :
    WA Ψ (call (.ref 374) [.ref sa, .int u t]) Q vals (mgL b ++ Rl) := by
  refine WA.callDefS (N' := N374) (fo374 _) sc374 hr (binds := [("self", .ref sa), ("start", .int u t)]) (rest := ["i"]) (fun s _ => .of_eq rfl) rfl [some (.ref sa), some (.int u t), none] rfl ?_
  intro Ψ' he hr'
  have hh := hr'.hh
  dsimp only [fn374, mkFn]
  kd_p; kd_p1; kd_adr; kd_in; kst_p; kpf_eq; ks_any; kwk_eq; kt_k; kcf_m; kd_p; kt_key; kit_at; ksr_p; kln_le; kit_is; kit_nb; kgr_on; kd_in; ksk_kw; kit_tp; kt_ors
  have hsz : Builtin.Range.rangeSize u (2 ^ 63 - 1) 1 = 2 ^ 63 - 1 - u := by rw [rangeSize_one]; rw [if_pos (by first | decide | lia | omega)]
  refine WA.rangeIterM (.head _) ?_ fun it => ?_
  · unfold Builtin.Range.small
    rw [hsz]
    simp only [Builtin.Range.rangeFitsLong, Bool.and_eq_true, Bool.or_eq_true, decide_eq_true_eq, beq_iff_eq]
    refine ⟨⟨⟨⟨?_, ?_⟩, ?_⟩, ?_⟩, .inr ?_⟩ <;> (try simp) <;> omega
  rw [hsz]
  refine WC.for1 (WA.rangeNextM (by first | decide | lia | omega) fun t1 => ?_)
  kst_p1; kt_chr; kt_eqs; kmb_kw; kd_p; kd_p1; kd_adr; kd_in; kgr_on; kd_in; ksk_a3
  refine WA.dNotIn (intKind_is _ _ _ _) so_mem ho ?_
  rw [hv]
  ks_any; kwk_eq; kt_k; kcf_m; kt_k; ksp_lk
  refine WC.for1 (WA.rangeNextM (by first | decide | lia | omega) fun t1 => ?_)
  kst_p1; kt_chr; kt_eqs; kmb_kw; kd_p; kd_p1; kd_adr; kd_in; kgr_on; kd_in; ksk_a3
  refine WA.dNotIn (intKind_is _ _ _ _) so_mem ho ?_
  rw [hn]
  ks_any; kwk_ne; kd_p; kj_on; kd_in; kcj_m; kcj_m; kssn_s; kcj_m
  exact ⟨mgL b ++ Rl, List.Sublist.append (List.Sublist.refl _) ((List.sublist_cons_self _ _).trans (List.sublist_cons_self _ _)), q _⟩
end
end
section
open PySem PySem.W PyProof.Rows PySem.Calls
set_option maxRecDepth 100000
set_option maxHeartbeats 8000000
noncomputable def fn367 : FnIn 367 := by
  refine' mkFn ?ok ?hb
  case ok => intro P; k_is
  case hb => exact rfl
@[reducible] noncomputable def N367 : Nm := ⟨["self", "i", "v", "w", "r", "t", "u"], ["abs", "len"]⟩
theorem sc367 : ScOk fn367.fd.scope.names N367.loc N367.glo := by
  refine scOk_of ?_
  kernel_rfl!
theorem fo367 (P : Params) : FnOk (hd.heap_1_1 P) 367 fn367.fd fn367.body := ⟨⟨_, _, _, fn367.ok P⟩, by kernel_rfl!, fn367.hb, rfl, rfl, rfl, rfl, rfl, by kernel_rfl!⟩
section
variable {N : Nm} {W : Wd} {Ψ : Frm hd.heap_1_1 N W} {vals : Vals} {b : Mg} {σ : Sg} {Rl : Led} {sa : Addr}
theorem optInt (i : Int) (t : Tok) : (optKind W.prog W.w).is (some i) (.int i t) = true := by simp [optKind, isOpt]
theorem valueAt_ne {kvs : List (Int × Value)} {k x : Int} {v : Value} (h : x ≠ k) : valueAt (stored kvs k v) x = valueAt kvs x := by rw [valueAt_stored, if_neg h]
theorem valueAt_eq {kvs : List (Int × Value)} {k : Int} {v : Value} : valueAt (stored kvs k v) k = some v := by rw [valueAt_stored, if_pos rfl]
theorem int_stored {kvs : List (Int × Value)} {k k' c c' : Int} {t t' : Tok} (h : valueAt kvs k = some (.int c t)) : ∃ c2 t2, valueAt (stored kvs k' (.int c' t')) k = some (.int c2 t2) := by
  rw [valueAt_stored]
  split
  · exact ⟨_, _, rfl⟩
  · exact ⟨_, _, h⟩
theorem rr_ok {rr v : Int} (h : rr = 1 ∨ rr = -1) : IntMulOk rr v := IntMulOk.of_left (intBits_le_64 (by first | decide | lia | omega) (by first | decide | lia | omega))
theorem foa_ok {i v x : Int} {ti tv tx : Tok} {Q : Value → Vals → Led → Prop} (r : Rep W b σ) (hs : b.self = sa) (hr : Room Ψ.A 3) (hi : 0 ≤ i) (hi2 : i < (σ.nv : Int)) (hv : (σ.key (iabs v)).isSome = true) (hx : (σ.key (iabs x)).isSome = true) (hz : σ.tab.length + 4 ≤ 16777216)
    (q : ∀ t' b' σ' rr, FoaR σ i v x rr σ' → Rep W b' σ' → b'.self = sa → Q (.int rr t') vals (mgL b' ++ Rl)) :
    WA Ψ (call (.ref 367) [.ref sa, .int i ti, .int v tv, .int x tx]) Q vals (mgL b ++ Rl) := by
  refine WA.callDefS (N' := N367) (fo367 _) sc367 hr (binds := [("self", .ref sa), ("i", .int i ti), ("v", .int v tv), ("w", .int x tx)]) (rest := ["r", "t", "u"]) (fun s _ => .of_eq rfl) rfl [some (.ref sa), some (.int i ti), some (.int v tv), some (.int x tx), none, none, none] rfl ?_
  intro Ψ' he hr'
  have at0 := r.at'
  have hnv : (b.vk.length : Int) = σ.nv := by rw [r.v4]; rfl
  have h5 := r.v5
  have hlim := hr'.d
  have hr1 : Room Ψ'.A 1 := hr'.less (by decide)
  have hun : Ψ'.A.units + 1 < cLine := by have := hr'.u; omega
  dsimp only [fn367, mkFn]
  kd_p; kd_p1; kd_adr; kd_in; kst_p; kpf_eq; ks_any; kwk_eq; kt_k; kcf_m; kd_p; kd_p1; kd_adr; kd_in; kit_at; ksr_p; kle_go; kit_nb; kgr_on; kd_in; ksk_a3; kit_tp
  refine WA.dLen vo_mem r.v1 (by rw [r.v4]; omega) fun _ => ?_
  kqd_in; ks_any; kwk_eq; kt_k; kcf_m; kd_p; kd_p1; kd_adr; kit_at; ksr_p; kle_go; kit_is; kit_tp; kqd_ok; kgr_on; kd_in; ksk_a3
  refine WA.dNotIn (intKind_is _ _ _ _) so_mem r.s1 ?_
  rw [r.succIn, hv]
  ks_any; kwk_eq; kt_k; kcf_m; kd_p; kd_p1; kd_adr; kit_at; ksr_p; kle_go; kit_is; kit_tp; kqd_ok; kgr_on; kd_in; ksk_a3
  refine WA.dNotIn (intKind_is _ _ _ _) so_mem r.s1 ?_
  rw [r.succIn, hx]
  ks_any
  kwk_eq
  kt_k
  kcf_m
  have hv2 : (σ.key (iabs (if x < 0 then -v else v))).isSome = true := by
    rw [show iabs (if x < 0 then -v else v) = iabs v by (unfold iabs; (repeat' split) <;> omega)]
    exact hv
  have hx2 : (σ.key (iabs (if x < 0 then -x else x))).isSome = true := by
    rw [show iabs (if x < 0 then -x else x) = iabs x by (unfold iabs; (repeat' split) <;> omega)]
    exact hx
  have hq1 := fun t' h => q t' b σ _ (.same h) r hs
  have hq2 := fun t' b' u h1 h2 => q t' b' σ _ (.old (u := u) h1 h2)
  have hq3 := fun t' b' h1 h2 => q t' b' _ _ (.new h1 h2)
  have hrr : (if x < 0 then (-1 : Int) else 1) = 1 ∨ (if x < 0 then (-1 : Int) else 1) = -1 := by split <;> simp
  clear q
  refine R.seq (WA.mono (Q := fun f vals' l' => ∃ tv' tx' tr, f = .next ∧ vals' = [some (.ref sa), some (.int i ti), some (.int (if x < 0 then -v else v) tv'), some (.int (if x < 0 then -x else x) tx'), some (.int (if x < 0 then -1 else 1) tr), none, none] ∧ l' = mgL b ++ Rl) ?_ ?_)
  · kd_p1; kd_adr; kd_in; kst_p; kpf_eq; ks_any
    refine R.iteB (fun hx0 => ?_) fun hx0 => ?_
    · have hx0' : x < 0 := by simpa using hx0
      simp only [if_pos hx0']
      kd_p
      refine Mine.L.swap2 hr'.hh rfl rfl (by rw [he]; rfl) ?_; intro _
      kbt_ne; kd_in; kp_lit; kbt_ne; kd_in; kp_lit; kmb_kw; kmb_kw; kcf_m; kd_p; kl_no; kbt_ne; kst_p; kp_lit; kmb_kw; kcf_m; kt_k
      exact ⟨_, _, _, rfl, rfl, rfl⟩
    · have hx0' : ¬ x < 0 := by simpa using hx0
      simp only [if_neg hx0']
      kd_p; kl_no; kst_p; kmb_kw; kcf_m; kt_k
      exact ⟨_, _, _, rfl, rfl, rfl⟩
  rintro _ _ _ ⟨tv', tx', tr, rfl, rfl, rfl⟩
  generalize (if x < 0 then -v else v) = v' at *
  generalize (if x < 0 then -x else x) = x' at *
  generalize (if x < 0 then (-1 : Int) else 1) = rr at *
  kcf_m; kd_p; kd_p1; kd_adr; kd_in; kd_in; kpc_eq; ks_any
  refine R.iteB (fun h0 => ?_) fun h0 => ?_
  · kd_p; kj_on; kbe_in; kd_in; kd_in
    refine WA.mul (rr_ok hrr) fun _ => ?_
    kcj_m; kcj_m
    exact ⟨_, List.Sublist.refl _, hq1 _ (by simpa using h0)⟩
  have hne : v' ≠ x' := by simpa using h0
  kt_k; kcf_m; kd_p; kl_no; kim_at; kit_is; kit_is; kit_is; kit_tp
  refine M.newTup (fits_of (n := 3) (by first | decide | lia | omega)) fun a => ?_
  intro b1
  have hs1 : b1.self = sa := hs
  have at1 : AttrsAre b1.ae an b1.av := at0
  have r1 : Rep W b1 σ := r.tup _
  have hk : TupL (optKind W.prog W.w) b1.tups (nodeKey (i, v', x')) a :=
    ⟨_, _, _, _, .head _, .cons (optInt _ _) (.cons (optInt _ _) (.cons (optInt _ _) .nil))⟩
  kmb_kw; kcf_m; kd_p; kl_no; kin_no; kgr_on; kd_in; ksk_a3
  refine WA.dMeth po_mem (let ⟨_, _, e, _⟩ := r1.p1; e) PySem.F.slot_dict_get PySem.F.type_dict_get ?_
  kl_lit; kit_is; kit_tp
  refine WA.tGet1 hun (tup_mono hk) po_mem r1.p1 (fun y hy => tup_mono (r1.p2 y hy)) ?_
  cases hat : atKey b1.pk (nodeKey (i, v', x')) with
  | some pr =>
    obtain ⟨a', vv⟩ := pr
    obtain ⟨u, tu, rfl, hu⟩ := r1.p3 _ _ _ hat
    show WA _ (bindName _ _ (.int u tu)) _ _ _
    kmb_kw; kcf_m; kd_p; kd_p1; kd_adr; kd_in; kt_le; krn_ne; ks_any; kwk_ne; kd_p; kj_on; kbe_in; kd_in; kd_in
    refine WA.mul (rr_ok hrr) fun _ => ?_
    kcj_m; kcj_m
    exact ⟨_, List.Sublist.refl _, hq2 _ b1 u hne (Sg.node_key hu) r1 hs1⟩
  | none =>
    have hnew : ∀ u, σ.node u ≠ some (i, v', x') := fun u hu => by
      obtain ⟨_, _, h⟩ := r1.p4 u _ (Sg.key_node hu)
      rw [hat] at h; cases h
    show WA _ (bindName _ _ .none) _ _ _
    obtain ⟨tm, hmf⟩ := r1.mf
    obtain ⟨tx0, hmx⟩ := r1.mx
    have hk0 : σ.key σ.top = none := Sg.key_top (Int.le_refl _)
    kmb_kw; kcf_m; kd_p; kd_p1; kd_adr; kd_in; kt_le; krn_ne; ks_any; kwk_eq; kt_k; kcf_m; kd_p; kl_no; kgr_on; kd_in; ksk_kw; kmb_kw; kcf_m; kd_p; kd_p1; kd_adr; kd_in; kst_p; kpt_eq; ks_any; kwk_eq; kt_k; kcf_m; kd_p; kd_p1; kd_adr; kd_in; kgr_on; kd_in; ksk_a3
    refine WA.dIn (intKind_is _ _ _ _) so_mem r1.s1 ?_
    rw [r1.succIn, hk0]
    ks_any; kwk_eq; kt_k; kcf_m; kd_p; kpc_g; kd_in; kgr_on; kd_in; ksk_a3; kd_in
    refine M.setPred hun hk r1.p1 r1.p2 (by have := r1.p5; rw [sizeLine_is]; omega) fun o2 ho2 => ?_
    intro b2
    have hs2 : b2.self = sa := hs
    have at2 : AttrsAre b2.ae an b2.av := at0
    kcf_m; kd_p; kpc_g; kd_in; kgr_on; kd_in; ksk_a3; kd_in
    refine M.setSucc (b := b2) (intKind_is _ _ _ _) r1.s1 (by rw [show b2.sk = b1.sk from rfl, r1.s4, sizeLine_is]; omega) fun o3 ho3 => ?_
    intro b3
    have hs3 : b3.self = sa := hs
    have at3 : AttrsAre b3.ae an b3.av := at0
    kcf_m; kd_p; kpc_g; kst_p; kgr_on; kd_in; ksk_a3; kd_in
    refine M.setRef (b := b3) (intKind_is _ _ _ _) r1.r1 (by have := r1.r3; rw [sizeLine_is]; show b1.rk.length ≤ _; omega) fun o4 ho4 => ?_
    intro b4
    have hs4 : b4.self = sa := hs
    have at4 : AttrsAre b4.ae an b4.av := at0
    have hu1 : 1 ≤ σ.top := by unfold Sg.top; omega
    have hu2 : σ.top ≤ 2 ^ 24 := by unfold Sg.top; omega
    have hu3 : (valueAt b4.sk σ.top).isSome = true := by show (valueAt (stored b1.sk σ.top (.ref a)) σ.top).isSome = true; rw [valueAt_stored, if_pos rfl]; rfl
    have hu4 : valueAt b4.sk (σ.top + 1) = none := by show valueAt (stored b1.sk σ.top (.ref a)) (σ.top + 1) = none; rw [valueAt_stored, if_neg (by first | decide | lia | omega)]; exact r1.s3 _ (Sg.key_top (by unfold Sg.top; omega))
    kcf_m; kd_p; kln_w; kin_no; kd_in; ksp_in; kit_is; kit_tp
    refine nfi_ok (b := b4) hr1 hs4 at4 hmx ho3 hu1 hu2 hu3 hu4 fun t6 => ?_
    kd_in
    refine M.setMf hs4 at4 fun ae5 n5 => ?_
    intro b5 at5
    have hs5 : b5.self = sa := hs
    obtain ⟨kv, hkv⟩ := Option.isSome_iff_exists.mp hv2
    obtain ⟨kx, hkx⟩ := Option.isSome_iff_exists.mp hx2
    have hnv' : iabs v' ≠ σ.top := fun e0 => by rw [e0, hk0] at hkv; cases hkv
    have hnx' : iabs x' ≠ σ.top := fun e0 => by rw [e0, hk0] at hkx; cases hkx
    obtain ⟨cv, tcv, hcv⟩ := r1.r2 _ _ hkv
    obtain ⟨cx, tcx, hcx⟩ := r1.r2 _ _ hkx
    have hl5 : b5.rk.length ≤ b1.rk.length + 1 := stored_length_le _ _ _
    have hz5 : b5.rk.length ≤ sizeLine := by have := r1.r3; rw [sizeLine_is]; omega
    have hcv5 : valueAt b5.rk (iabs v') = some (.int cv tcv) := (valueAt_ne hnv').trans hcv
    kcf_m; kd_p; ks_is; kin_no; kd_in; ksp_in; kit_is; kit_tp
    refine incref_ok (b := b5) hr1 hs5 at5 ho4 hz5 hcv5 fun t7 o7 ho7 => ?_
    intro b7
    have hs7 : b7.self = sa := hs
    have at7 : AttrsAre b7.ae an b7.av := at5
    have hl7 : b7.rk.length ≤ b1.rk.length + 1 := Nat.le_trans (Nat.le_of_eq (stored_len_old hcv5)) hl5
    have hz7 : b7.rk.length ≤ sizeLine := by have := r1.r3; rw [sizeLine_is]; omega
    obtain ⟨c8, t8, hcx8⟩ : ∃ c8 t8, valueAt b7.rk (iabs x') = some (.int c8 t8) := int_stored ((valueAt_ne hnx').trans hcx)
    kcf_m; kd_p; ks_is; kin_no; kd_in; ksp_in; kit_is; kit_tp
    refine incref_ok (b := b7) hr1 hs7 at7 ho7 hz7 hcx8 fun t9 o9 ho9 => ?_
    intro b9
    kcf_m; kd_p; kj_on; kbe_in; kd_in; kd_in
    refine WA.mul (rr_ok hrr) fun _ => ?_
    kcj_m
    refine ⟨_, List.Sublist.refl _, hq3 _ b9 hne hnew ?_ hs⟩
    refine r.add (o := tupObj [.int i ti, .int v' tv', .int x' tx']) (x := a) (tu := tm) (tm := t6) hnew at7 rfl rfl rfl hk ho2 rfl ho3 (by show stored b.sk _ _ = _; rfl) ho9 (fun k c tc hk' => ?_) ?_ ?_ rfl rfl rfl rfl rfl rfl
    · obtain ⟨c1, t1, h1⟩ := int_stored (k' := σ.top) (c' := 0) hk'
      obtain ⟨c2, t2, h2⟩ := int_stored h1
      exact int_stored h2
    · exact ⟨_, _, (valueAt_ne (Ne.symm hnx')).trans ((valueAt_ne (Ne.symm hnv')).trans valueAt_eq)⟩
    · exact Nat.le_trans (Nat.le_of_eq (stored_len_old hcx8)) hl7
end
end
section
open PySem PySem.W PyProof.Rows PySem.Calls
set_option maxRecDepth 100000
set_option maxHeartbeats 8000000
noncomputable def fn303 : FnIn 303 := by
  refine' mkFn ?ok ?hb
  case ok => intro P; k_is
  case hb => exact rfl
@[reducible] noncomputable def N303 : Nm := ⟨["self", "u", "i", "iu", "v", "w"], ["abs"]⟩
theorem sc303 : ScOk fn303.fd.scope.names N303.loc N303.glo := by
  refine scOk_of ?_
  kernel_rfl!
theorem fo303 (P : Params) : FnOk (hd.heap_1_1 P) 303 fn303.fd fn303.body := ⟨⟨_, _, _, fn303.ok P⟩, by kernel_rfl!, fn303.hb, rfl, rfl, rfl, rfl, rfl, by kernel_rfl!⟩
section
variable {N : Nm} {W : Wd} {Ψ : Frm hd.heap_1_1 N W} {vals : Vals} {b : Mg} {σ : Sg} {Rl : Led} {sa : Addr}
theorem cof_ok {u i : Int} {tu ti : Tok} {Q : Value → Vals → Led → Prop} (r : Rep W b σ) (hs : b.self = sa) (hr : Room Ψ.A 2) (ok : Ok σ) (hi : i < σ.nv) (hv : Vd σ i u)
    (q : ∀ y v0 v1 t0 t1, CofR σ i u v0 v1 → Q (.ref y) vals (mgL b ++ (y, tupObj [.int v0 t0, .int v1 t1]) :: Rl)) :
    WA Ψ (call (.ref 303) [.ref sa, .int u tu, .int i ti]) Q vals (mgL b ++ Rl) := by
  refine WA.callDefS (N' := N303) (fo303 _) sc303 hr (binds := [("self", .ref sa), ("u", .int u tu), ("i", .int i ti)]) (rest := ["iu", "v", "w"]) (fun s _ => .of_eq rfl) rfl [some (.ref sa), some (.int u tu), some (.int i ti), none, none, none] rfl ?_
  intro Ψ' he hr'
  have at0 := r.at'
  dsimp only [fn303, mkFn]
  kd_p; kd_p1; kd_adr; kit_at; ksr_p; kle_go; kit_is; kit_tp; kqd_ok; kst_p; kpc_eq; ks_any
  refine R.iteB (fun h0 => ?_) fun h0 => ?_
  · have h0' : iabs u = 1 := by simpa using h0
    kd_p; kj_on; kim_at; kit_is; kit_is; kit_tp
    refine WA.newTupM (fits_of (n := 2) (by first | decide | lia | omega)) fun y => ?_
    refine ⟨_, List.Sublist.refl _, q y _ _ _ _ (.above (.inl ⟨h0', by first | decide | lia | omega⟩))⟩
  · have h0' : iabs u ≠ 1 := by simpa using h0
    obtain ⟨i', v, x, hn, hle⟩ : ∃ i' v x, σ.node (iabs u) = some (i', v, x) ∧ i ≤ i' := by
      rcases hv.cases with (e1 | e1) | h
      · exact absurd (by rw [e1]; decide) h0'
      · exact absurd (by rw [e1]; decide) h0'
      · exact h
    have o := ok.nd _ _ _ _ hn
    have hv0 := o.2.2.2.2.1.ne0
    have hu0 := hv.ne0
    kt_k; kcf_m; kd_p
    refine Mine.L.asT rfl rfl ?_; intro _
    kfm_hd; kgr_on; kd_in; ksk_a3; kit_at; ksr_p; kle_go; kit_is; kit_tp; kqd_ok
    refine M.getNode r hn fun a t1 t2 t3 n dd sl hm => ?_
    refine R.unp hr'.hh hm rfl rfl ?_
    kts_nm; kmb_kw; kts_nm; kmb_kw; kts_nm; kmb_kw; ktyn_q; kcf_m; kd_p; kd_p1; kd_all; kfm_eq; kd_in; ksk_a1; kwk_eq; kt_k; kcf_m; kd_p; kd_p1; kd_all; kfm_eq; kd_in; ksk_a1; kwk_eq; kt_k; kcf_m; kd_p; kd_p1; kd_adr; kd_in; kd_in; kpf_eq; ks_any
    refine R.iteB (fun h1 => ?_) fun h1 => ?_
    · have h1' : i < i' := by simpa using h1
      kd_p; kj_on; kim_at; kit_is; kit_is; kit_tp
      refine WA.newTupM (fits_of (n := 2) (by first | decide | lia | omega)) fun y => ?_
      exact ⟨_, List.Sublist.refl _, q y _ _ _ _ (.above (.inr ⟨_, hn, by show i + 1 ≤ i'; omega⟩))⟩
    · obtain rfl : i' = i := by
        have h1' : ¬ i < i' := by simpa using h1
        omega
      kt_k; kcf_m; kd_p; kd_p1; kd_adr; kd_in; kd_in; kpc_if; ks_any; kwk_eq; kt_k; kcf_m; kd_p; kd_p1; kd_adr; kd_in; kst_p; kpf_eq; ks_any
      refine R.iteB (fun h2 => ?_) fun h2 => ?_
      · have h2' : u < 0 := by simpa using h2
        kd_p
        refine Mine.L.swap2 hr'.hh rfl rfl (by rw [he]; rfl) ?_; intro _
        kbt_ne; kd_in; kp_lit; kbt_ne; kd_in; kp_lit; kmb_kw; kmb_kw; kcf_m; kt_k; kcf_m; kd_p; kj_on; kim_at; kit_is; kit_is; kit_tp
        refine WA.newTupM (fits_of (n := 2) (by first | decide | lia | omega)) fun y => ?_
        exact ⟨_, List.Sublist.refl _, q y _ _ _ _ (.down h2' (by rw [show -u = iabs u by unfold iabs; rw [if_pos h2']]; exact hn))⟩
      · have h2' : 0 < u := by
          have : ¬ u < 0 := by simpa using h2
          omega
        kt_k; kcf_m; kd_p; kj_on; kim_at; kit_is; kit_is; kit_tp
        refine WA.newTupM (fits_of (n := 2) (by first | decide | lia | omega)) fun y => ?_
        exact ⟨_, List.Sublist.refl _, q y _ _ _ _ (.up h2' (by rw [iabs_pos h2'] at hn; exact hn))⟩
end
end
section
open PySem PySem.W PyProof.Rows PySem.Calls
set_option maxRecDepth 100000
set_option maxHeartbeats 8000000
noncomputable def fn360 : FnIn 360 := by
  refine' mkFn ?ok ?hb
  case ok => intro P; k_is
  case hb => exact rfl
@[reducible] noncomputable def N360 : Nm := ⟨["self", "g", "u", "v", "r", "w", "z", "g0", "g1", "u0", "u1", "v0", "v1", "p", "q"], ["min", "abs"]⟩
theorem sc360 : ScOk fn360.fd.scope.names N360.loc N360.glo := by
  refine scOk_of ?_
  kernel_rfl!
theorem fo360 (P : Params) : FnOk (hd.heap_1_1 P) 360 fn360.fd fn360.body := ⟨⟨_, _, _, fn360.ok P⟩, by kernel_rfl!, fn360.hb, rfl, rfl, rfl, rfl, rfl, by kernel_rfl!⟩
section
variable {N : Nm} {W : Wd} {Ψ : Frm hd.heap_1_1 N W} {vals : Vals} {b : Mg} {σ : Sg} {Rl : Led} {sa : Addr}
theorem pow2_pos (n : Nat) : 1 ≤ 2 ^ n := Nat.one_le_two_pow
theorem ite_ok (n : Nat) : ∀ (N : Nm) (Ψ : Frm hd.heap_1_1 N W) (vals : Vals) (b : Mg) (σ : Sg) (Rl : Led) (k g u v : Int) (tg tu tv : Tok) (Q : Value → Vals → Led → Prop),
    Rep W b σ → b.self = sa → Room Ψ.A (2 * n + 5) → Ok σ → Ik σ → 0 ≤ k → ((σ.nv : Int) - k).toNat ≤ n → Vd σ k g → Vd σ k u → Vd σ k v → σ.tab.length + 2 ^ (n + 1) + 4 ≤ 16777216 → σ.its + 2 ^ (n + 1) ≤ 16777216 →
    (∀ t' b' σ' r, Rep W b' σ' → b'.self = sa → Ok σ' → Ik σ' → Ext σ σ' → Vd σ' k r → (∀ fg fu fv, Den σ g fg → Den σ u fu → Den σ v fv → Den σ' r (fun a => if fg a then fu a else fv a)) →
      σ'.tab.length + 1 ≤ σ.tab.length + 2 ^ (n + 1) → σ'.its + 1 ≤ σ.its + 2 ^ (n + 1) → Q (.int r t') vals (mgL b' ++ Rl)) →
    WA Ψ (call (.ref 360) [.ref sa, .int g tg, .int u tu, .int v tv]) Q vals (mgL b ++ Rl) := by
  induction n using Nat.strongRecOn with
  | ind n ih =>
    intro N Ψ vals b σ Rl k g u v tg tu tv Q r hs hr ok ik hk0 hn hg hu hv hz hz2 q
    have hp := pow2_pos n
    have hp2 : 2 ^ (n + 1) = 2 * 2 ^ n := by rw [Nat.pow_succ]; omega
    refine WA.callDefS (N' := N360) (fo360 _) sc360 hr (binds := [("self", .ref sa), ("g", .int g tg), ("u", .int u tu), ("v", .int v tv)]) (rest := ["r", "w", "z", "g0", "g1", "u0", "u1", "v0", "v1", "p", "q"]) (fun s _ => .of_eq rfl) rfl [some (.ref sa), some (.int g tg), some (.int u tu), some (.int v tv), none, none, none, none, none, none, none, none, none, none, none] rfl ?_
    intro Ψ' he hr'
    have at0 := r.at'
    dsimp only [fn360, mkFn]
    kd_p; kd_p1; kd_adr; kd_in; kst_p; kpc_eq; ks_any
    refine R.iteB (fun h0 => ?_) fun h0 => ?_
    · have h0' : g = 1 := by simpa using h0
      subst h0'
      kd_p; kj_on; kd_in; kcj_m; kcj_m
      refine ⟨_, List.Sublist.refl _, q _ b σ u r hs ok ik (.refl _) hu (fun fg fu fv d1 d2 d3 => ?_) (by first | decide | lia | omega) (by first | decide | lia | omega)⟩
      rw [d1.one_inv]
      simpa using d2
    have hg1 : g ≠ 1 := by simpa using h0
    kd_p; kd_p1; kd_adr; kd_in; kbt_ne; kst_p; kp_lit; kpc_eq; ks_any
    refine R.iteB (fun h1 => ?_) fun h1 => ?_
    · have h1' : g = -1 := by simpa using h1
      subst h1'
      kd_p; kj_on; kd_in; kcj_m; kcj_m; kcj_m
      refine ⟨_, List.Sublist.refl _, q _ b σ v r hs ok ik (.refl _) hv (fun fg fu fv d1 d2 d3 => ?_) (by first | decide | lia | omega) (by first | decide | lia | omega)⟩
      obtain ⟨f1, d4, rfl⟩ := Den.neg_inv (u := 1) (by decide) d1
      rw [d4.one_inv]
      simpa using d3
    have hg2 : g ≠ -1 := by simpa using h1
    kt_k; kcf_m; kt_k; kcf_m; kd_p; kl_no; kim_at; kit_is; kit_is; kit_is; kit_tp
    refine WA.newTupM (fits_of (n := 3) (by first | decide | lia | omega)) fun a => ?_
    have hun : Ψ'.A.units + 1 < cLine := by have := hr'.u; omega
    have hit : ItemsAre (optKind W.prog W.w) [some g, some u, some v] [.int g tg, .int u tu, .int v tv] := .cons (optInt _ _) (.cons (optInt _ _) (.cons (optInt _ _) .nil))
    have hk : TupL (optKind W.prog W.w) (mgL b ++ (a, tupObj [.int g tg, .int u tu, .int v tv]) :: Rl) [some g, some u, some v] a :=
      ⟨_, _, _, _, List.mem_append_right _ (.head _), hit⟩
    kmb_kw; kcf_m; kd_p; kl_no; kin_no; kgr_on; kd_in; ksk_a3
    refine WA.dMeth io_mem (let ⟨_, _, e, _⟩ := r.i1; e) PySem.F.slot_dict_get PySem.F.type_dict_get ?_
    kl_lit; kit_is; kit_tp
    refine WA.tGet1 hun hk io_mem r.i1 (fun y hy => tup_mono (r.i2 y hy)) ?_
    cases hat : atKey b.ik [some g, some u, some v] with
    | some pr =>
      obtain ⟨a', vv⟩ := pr
      obtain ⟨g', u', v', rr, tr, e1, rfl, hite⟩ := r.i3 _ _ _ hat
      simp only [List.cons.injEq, Option.some.injEq, and_true] at e1
      obtain ⟨rfl, rfl, rfl⟩ := e1
      obtain ⟨fg, fu, fv, d1, d2, d3, d4, kk⟩ := ik _ _ _ _ hite
      show WA _ (bindName _ _ (.int rr tr)) _ _ _
      kmb_kw; kcf_m; kd_p; kd_p1; kd_adr; kd_in; kt_le; krn_ne; ks_any; kwk_ne; kd_p; kj_on; kd_in; kcj_m; kcj_m
      refine ⟨mgL b ++ Rl, List.Sublist.append (List.Sublist.refl _) (List.sublist_cons_self _ _), q _ b σ rr r hs ok ik (.refl _) (kk k hg hu hv) (fun fg' fu' fv' d1' d2' d3' => ?_) (by first | decide | lia | omega) (by first | decide | lia | omega)⟩
      rw [d1'.fn d1, d2'.fn d2, d3'.fn d3]
      exact d4
    | none =>
      show WA _ (bindName _ _ .none) _ _ _
      kmb_kw; kcf_m; kd_p; kd_p1; kd_adr; kd_in; kt_le; krn_ne; ks_any; kwk_eq; kt_k; kcf_m; kd_p; kl_no; kit_at; ksr_p; kle_go; kit_nb; kfm_hd; kfm_hd; kgr_on; kd_in; ksk_a3; kit_at; ksr_p; kle_go; kit_is; kit_tp; kqd_ok
      refine M.getRow r hg.key fun a1 t1 v2 v3 n1 dd1 sl1 hm1 => ?_
      kst_p
      refine WA.tupItem (vs := [_, _, _]) (j := 0) hm1 (by decide) (by decide) rfl rfl ?_
      kit_nb; kfm_hd; kfm_hd; kgr_on; kd_in; ksk_a3; kit_at; ksr_p; kle_go; kit_is; kit_tp; kqd_ok
      refine M.getRow r hu.key fun a2 t2 v2 v3 n2 dd2 sl2 hm2 => ?_
      kst_p
      refine WA.tupItem (vs := [_, _, _]) (j := 0) hm2 (by decide) (by decide) rfl rfl ?_
      kit_nb; kfm_hd; kfm_hd; kgr_on; kd_in; ksk_a3; kit_at; ksr_p; kle_go; kit_is; kit_tp; kqd_ok
      refine M.getRow r hv.key fun a3 t3 v2 v3 n3 dd3 sl3 hm3 => ?_
      kst_p
      refine WA.tupItem (vs := [_, _, _]) (j := 0) hm3 (by decide) (by decide) rfl rfl ?_
      kit_tp
      refine WA.min3 hr'.hh fun z tz hz1 hz2 hz3 hz4 => ?_
      have hkg := lev_max hg
      have hku := lev_max hu
      have hkv := lev_max hv
      have hkz : k ≤ z := by first | decide | lia | omega
      have hzg : Vd σ z g := (lev_of_vd ok hg).2.1.le hz1
      have hzu : Vd σ z u := (lev_of_vd ok hu).2.1.le hz2
      have hzv : Vd σ z v := (lev_of_vd ok hv).2.1.le hz3
      have hlg : σ.lev g < σ.nv := by
        rcases hg.cases with (e1 | e1) | ⟨i', v', x', hx', _⟩
        · exact absurd e1 hg1
        · exact absurd e1 hg2
        · unfold Sg.lev
          rw [if_neg (by have := node_pos hx'; omega), hx']
          exact (ok.nd _ _ _ _ hx').2.1
      have hznv : z < σ.nv := by first | decide | lia | omega
      have hr2 : Room Ψ'.A 2 := hr'.less (by first | decide | lia | omega)
      kmb_kw; kcf_m; kd_p
      refine Mine.L.asT rfl rfl ?_; intro _
      kin_no; kd_in; ksp_in; kit_is; kit_is; kit_tp
      refine cof_ok r hs hr2 ok hznv hzg fun y1 g0 g1 tg0 tg1 cg => ?_
      refine M.unpD hr'.hh rfl rfl ?_
      kts_nm; kmb_kw; kts_nm; kmb_kw; ktyn_q; kcf_m; kd_p
      refine Mine.L.asT rfl rfl ?_; intro _
      kin_no; kd_in; ksp_in; kit_is; kit_is; kit_tp
      refine cof_ok r hs hr2 ok hznv hzu fun y2 u0 u1 tu0 tu1 cu => ?_
      refine M.unpD hr'.hh rfl rfl ?_
      kts_nm; kmb_kw; kts_nm; kmb_kw; ktyn_q; kcf_m; kd_p
      refine Mine.L.asT rfl rfl ?_; intro _
      kin_no; kd_in; ksp_in; kit_is; kit_is; kit_tp
      refine cof_ok r hs hr2 ok hznv hzv fun y3 v0 v1 tv0 tv1 cv => ?_
      refine M.unpD hr'.hh rfl rfl ?_
      obtain ⟨fg, dg⟩ := hg.den ok
      obtain ⟨fu, du⟩ := hu.den ok
      obtain ⟨fv, dv⟩ := hv.den ok
      obtain ⟨fg0, fg1, Cg⟩ := cof_sem ok dg cg
      obtain ⟨fu0, fu1, Cu⟩ := cof_sem ok du cu
      obtain ⟨fv0, fv1, Cv⟩ := cof_sem ok dv cv
      obtain ⟨m, rfl⟩ : ∃ m, n = m + 1 := ⟨n - 1, by first | decide | lia | omega⟩
      have hrm : Room Ψ'.A (2 * m + 5) := hr'.less (by first | decide | lia | omega)
      have hms : ((σ.nv : Int) - (z + 1)).toNat ≤ m := by first | decide | lia | omega
      kts_nm; kmb_kw; kts_nm; kmb_kw; ktyn_q; kcf_m; kd_p; kl_no; kin_no; kd_in; ksp_in; kit_is; kit_is; kit_is; kit_tp
      refine ih m (by first | decide | lia | omega) _ Ψ' _ b σ _ (z + 1) g0 u0 v0 _ _ _ _ r hs hrm ok ik (by first | decide | lia | omega) hms Cg.k0 Cu.k0 Cv.k0 (by first | decide | lia | omega) (by first | decide | lia | omega) fun tp b1 σ1 pp r1 hs1 ok1 ik1 e1 vp dp lp1 lp2 => ?_
      have at1 := r1.at'
      kmb_kw; kcf_m; kd_p; kl_no; kin_no; kd_in; ksp_in; kit_is; kit_is; kit_is; kit_tp
      refine ih m (by first | decide | lia | omega) _ Ψ' _ b1 σ1 _ (z + 1) g1 u1 v1 _ _ _ _ r1 hs1 hrm ok1 ik1 (by first | decide | lia | omega) (by rw [e1.nv]; exact hms) (Cg.k1.ext e1) (Cu.k1.ext e1) (Cv.k1.ext e1) (by first | decide | lia | omega) (by first | decide | lia | omega) fun tq b2 σ2 qq r2 hs2 ok2 ik2 e2 vq dq lq1 lq2 => ?_
      have at2 := r2.at'
      have e12 := e1.trans e2
      have hr3 : Room Ψ'.A 3 := hr'.less (by first | decide | lia | omega)
      have hnv2 : z < (σ2.nv : Int) := by rw [e12.nv]; exact hznv
      have vp2 := vp.ext e2
      kmb_kw; kcf_m; kd_p; kl_no; kin_no; kd_in; ksp_in; kit_is; kit_is; kit_is; kit_tp
      refine foa_ok r2 hs2 hr3 (by first | decide | lia | omega) hnv2 vp2.key vq.key (by first | decide | lia | omega) fun tw b3 σ3 rr fo r3 hs3 => ?_
      have S := foa_sem ok2 (by first | decide | lia | omega) hnv2 vp2 vq ((dp _ _ _ Cg.d0 Cu.d0 Cv.d0).ext e2) (dq _ _ _ (Cg.d1.ext e1) (Cu.d1.ext e1) (Cv.d1.ext e1)) fo
      have at3 := r3.at'
      have e3 := e12.trans S.ext
      have ik3 : Ik σ3 := ik2.ext ok2 S.ext S.ite
      have hden : Den σ3 rr (fun a => if fg a then fu a else fv a) := by
        have := S.den
        rw [Cg.e, Cu.e, Cv.e]
        have e : (fun a : Asg => if (if a z = true then fg1 a else fg0 a) = true then (if a z = true then fu1 a else fu0 a) else if a z = true then fv1 a else fv0 a) =
            fun a => if a z = true then (if fg1 a = true then fu1 a else fv1 a) else if fg0 a = true then fu0 a else fv0 a := funext fun a => by by_cases hz : a z = true <;> simp [hz]
        rw [e]; exact this
      have hkz' : ∀ k', Vd σ3 k' g → Vd σ3 k' u → Vd σ3 k' v → Vd σ3 k' rr := fun k' h1 h2 h3 => by
        have q1 := lev_max (Vd.back ok e3 dg h1)
        have q2 := lev_max (Vd.back ok e3 du h2)
        have q3 := lev_max (Vd.back ok e3 dv h3)
        exact S.vd.le (by first | decide | lia | omega)
      kmb_kw; kcf_m; kd_p; kpc_g; kd_in; kgr_on; kd_in; ksk_a3; kd_in
      refine M.toTups ?_
      have hk4 : TupL (optKind W.prog W.w) (b3.uTup (a, tupObj [.int g tg, .int u tu, .int v tv])).tups [some g, some u, some v] a := ⟨_, _, _, _, .head _, hit⟩
      have r4 := r3.tup (a, tupObj [.int g tg, .int u tu, .int v tv])
      have h4 := r3.i4
      have hits := S.its
      have hlen := S.len
      refine M.setIte (b := (b3.uTup (a, tupObj [.int g tg, .int u tu, .int v tv]))) hun hk4 r4.i1 r4.i2 (by show b3.ik.length ≤ _; rw [sizeLine_is]; omega) fun o5 ho5 => ?_
      intro b5
      have r5 : Rep W b5 _ := r4.put hk4 ho5
      have hs5 : b5.self = sa := hs3
      have ep := Ext.put σ3 g u v rr
      kcf_m; kd_p; kj_on; kd_in; kcj_m
      refine ⟨_, List.Sublist.refl _, q _ b5 _ rr r5 hs5 (S.ok.put g u v rr) (ik3.put S.ok (dg.ext e3) (du.ext e3) (dv.ext e3) hden hkz') (e3.trans ep) ((S.vd.le hkz).ext ep) (fun fg' fu' fv' d1 d2 d3 => ?_) ?_ ?_⟩
      · rw [d1.fn dg, d2.fn du, d3.fn dv]
        exact hden.ext ep
      · show σ3.tab.length + 1 ≤ _
        omega
      · show σ3.its + 1 + 1 ≤ _
        omega
end
end
section
open PySem PySem.W PyProof.Rows PySem.Calls
set_option maxRecDepth 100000
set_option maxHeartbeats 8000000
noncomputable def fn353 : FnIn 353 := by
  refine' mkFn ?ok ?hb
  case ok => intro P; k_is
  case hb => exact rfl
@[reducible] noncomputable def N353 : Nm := ⟨["self", "g", "u", "v"], []⟩
theorem sc353 : ScOk fn353.fd.scope.names N353.loc N353.glo := by
  refine scOk_of ?_
  kernel_rfl!
theorem fo353 (P : Params) : FnOk (hd.heap_1_1 P) 353 fn353.fd fn353.body := ⟨⟨_, _, _, fn353.ok P⟩, by kernel_rfl!, fn353.hb, rfl, rfl, rfl, rfl, rfl, by kernel_rfl!⟩
noncomputable def fn57 : FnIn 57 := by
  refine' mkFn ?ok ?hb
  case ok => intro P; k_is
  case hb => exact rfl
@[reducible] noncomputable def N57 : Nm := ⟨["self", "u"], ["abs"]⟩
theorem sc57 : ScOk fn57.fd.scope.names N57.loc N57.glo := by
  refine scOk_of ?_
  kernel_rfl!
theorem fo57 (P : Params) : FnOk (hd.heap_1_1 P) 57 fn57.fd fn57.body := ⟨⟨_, _, _, fn57.ok P⟩, by kernel_rfl!, fn57.hb, rfl, rfl, rfl, rfl, rfl, by kernel_rfl!⟩
noncomputable def fn93 : FnIn 93 := by
  refine' mkFn ?ok ?hb
  case ok => intro P; k_is
  case hb => exact rfl
@[reducible] noncomputable def N93 : Nm := ⟨["self", "u"], ["abs"]⟩
theorem sc93 : ScOk fn93.fd.scope.names N93.loc N93.glo := by
  refine scOk_of ?_
  kernel_rfl!
theorem fo93 (P : Params) : FnOk (hd.heap_1_1 P) 93 fn93.fd fn93.body := ⟨⟨_, _, _, fn93.ok P⟩, by kernel_rfl!, fn93.hb, rfl, rfl, rfl, rfl, rfl, by kernel_rfl!⟩
noncomputable def fn157 : FnIn 157 := by
  refine' mkFn ?ok ?hb
  case ok => intro P; k_is
  case hb => exact rfl
@[reducible] noncomputable def N157 : Nm := ⟨["self", "level"], []⟩
theorem sc157 : ScOk fn157.fd.scope.names N157.loc N157.glo := by
  refine scOk_of ?_
  kernel_rfl!
theorem fo157 (P : Params) : FnOk (hd.heap_1_1 P) 157 fn157.fd fn157.body := ⟨⟨_, _, _, fn157.ok P⟩, by kernel_rfl!, fn157.hb, rfl, rfl, rfl, rfl, rfl, by kernel_rfl!⟩
section
variable {N : Nm} {W : Wd} {Ψ : Frm hd.heap_1_1 N W} {vals : Vals} {b : Mg} {σ : Sg} {Rl : Led} {sa : Addr}
structure Good (W : Wd) (sa : Addr) (b : Mg) (σ : Sg) : Prop where
  r : Rep W b σ
  hs : b.self = sa
  ok : Ok σ
  ik : Ik σ
structure Gr (σ σ' : Sg) (c : Nat) : Prop where
  e : Ext σ σ'
  t : σ'.tab.length ≤ σ.tab.length + c
  i : σ'.its ≤ σ.its + c
structure Cap (σ : Sg) (c : Nat) : Prop where
  t : σ.tab.length + c + 8 ≤ 16777216
  i : σ.its + c + 8 ≤ 16777216
  n : σ.nv ≤ 5
theorem Gr.refl (σ : Sg) : Gr σ σ 0 := ⟨.refl _, by first | decide | lia | omega, by first | decide | lia | omega⟩
theorem Gr.le {σ σ' : Sg} {c d : Nat} (g : Gr σ σ' c) (h : c ≤ d) : Gr σ σ' d := ⟨g.e, by have := g.t; omega, by have := g.i; omega⟩
theorem Gr.trans {a b c : Sg} {x y : Nat} (g : Gr a b x) (h : Gr b c y) : Gr a c (x + y) := ⟨g.e.trans h.e, by have := g.t; have := h.t; omega, by have := g.i; have := h.i; omega⟩
theorem Cap.after {σ σ' : Sg} {c d : Nat} (k : Cap σ (c + d)) (g : Gr σ σ' c) : Cap σ' d := ⟨by have := k.t; have := g.t; omega, by have := k.i; have := g.i; omega, by rw [g.e.nv]; exact k.n⟩
theorem Cap.less {σ : Sg} {c d : Nat} (k : Cap σ c) (h : d ≤ c) : Cap σ d := ⟨by have := k.t; omega, by have := k.i; omega, k.n⟩
theorem Good.at' {W : Wd} {b : Mg} {σ : Sg} (g : Good W sa b σ) : AttrsAre b.ae an b.av := g.r.at'
theorem ite_c {k g u v : Int} {tg tu tv : Tok} {fg fu fv : BF} {Q : Value → Vals → Led → Prop} (G : Good W sa b σ) (hr : Room Ψ.A 16) (cap : Cap σ 64) (hk : 0 ≤ k) (kg : Vd σ k g) (ku : Vd σ k u) (kv : Vd σ k v) (dg : Den σ g fg) (du : Den σ u fu) (dv : Den σ v fv)
    (q : ∀ t' b' σ' r, Good W sa b' σ' → Gr σ σ' 64 → Vd σ' k r → Den σ' r (fun a => if fg a then fu a else fv a) → Q (.int r t') vals (mgL b' ++ Rl)) :
    WA Ψ (call (.ref 353) [.ref sa, .int g tg, .int u tu, .int v tv]) Q vals (mgL b ++ Rl) := by
  refine WA.callDefS (N' := N353) (fo353 _) sc353 hr (binds := [("self", .ref sa), ("g", .int g tg), ("u", .int u tu), ("v", .int v tv)]) (rest := []) (fun s _ => .of_eq rfl) rfl [some (.ref sa), some (.int g tg), some (.int u tu), some (.int v tv)] rfl ?_
  intro Ψ' he hr'
  have at0 := G.at'
  have hs := G.hs
  have ct := cap.t
  have ci := cap.i
  have cn := cap.n
  have hp : 2 ^ (σ.nv + 1) ≤ 64 := Nat.le_trans (Nat.pow_le_pow_right (by decide) (show σ.nv + 1 ≤ 6 by first | decide | lia | omega)) (by decide)
  have hr2 : Room Ψ'.A (2 * σ.nv + 5) := hr'.less (by first | decide | lia | omega)
  dsimp only [fn353, mkFn]
  kd_p; kj_on; kin_no; kd_in; ksp_in; kit_is; kit_is; kit_is; kit_tp
  refine ite_ok σ.nv _ Ψ' _ b σ _ k g u v _ _ _ _ G.r hs hr2 G.ok G.ik hk (by first | decide | lia | omega) kg ku kv (by first | decide | lia | omega) (by first | decide | lia | omega) fun t' b' σ' r r' hs' ok' ik' e' vd' den' l1 l2 => ?_
  kcj_m
  exact ⟨_, List.Sublist.refl _, q _ b' σ' r ⟨r', hs', ok', ik'⟩ ⟨e', by first | decide | lia | omega, by first | decide | lia | omega⟩ vd' (den' _ _ _ dg du dv)⟩
theorem has_c {u : Int} {tu : Tok} {Q : Value → Vals → Led → Prop} (G : Good W sa b σ) (hr : Room Ψ.A 2) (q : Q (.bool (σ.key (iabs u)).isSome) vals (mgL b ++ Rl)) : WA Ψ (call (.ref 57) [.ref sa, .int u tu]) Q vals (mgL b ++ Rl) := by
  refine WA.callDefS (N' := N57) (fo57 _) sc57 hr (binds := [("self", .ref sa), ("u", .int u tu)]) (rest := []) (fun s _ => .of_eq rfl) rfl [some (.ref sa), some (.int u tu)] rfl ?_
  intro Ψ' he hr'
  have at0 := G.at'
  have hs := G.hs
  dsimp only [fn57, mkFn]
  kd_p; kj_on; kcj_in; kit_at; ksr_p; kle_go; kit_is; kit_tp; kqd_ok; kgr_on; kd_in; ksk_a3
  refine WA.dIn (intKind_is _ _ _ _) so_mem G.r.s1 ?_
  rw [G.r.succIn]
  kcj_m
  exact ⟨_, List.Sublist.refl _, q⟩
theorem M.notIn {u : Int} {tu : Tok} {Q : Value → Vals → Led → Prop} (G : Good W sa b σ) (hr : Room Ψ.A 2) (q : Q (.bool (!(σ.key (iabs u)).isSome)) vals (mgL b ++ Rl)) : WA Ψ (compareOp .NotIn (.int u tu) (.ref sa)) Q vals (mgL b ++ Rl) := fun E s a => by
  refine notIn_K a.F Ψ.X (InstAt.of_news a.N (by rw [← G.hs]; exact inst_mg.inst) inst_mg.dict) (by k_is) (by k_is) ?_
  exact (has_c (Q := fun v vals' l' => v = .bool (σ.key (iabs u)).isSome ∧ Q (.bool (!(σ.key (iabs u)).isSome)) vals' l') G hr ⟨rfl, q⟩).use a fun v s' v' l' S a' h => by
    obtain ⟨rfl, h⟩ := h
    exact wpAny_truthy_bool ⟨S, v', l', a', h⟩
end
end
section
open PySem PySem.W PyProof.Rows PySem.Calls
set_option maxRecDepth 100000
set_option maxHeartbeats 8000000
noncomputable def fn464 : FnIn 464 := by
  refine' mkFn ?ok ?hb
  case ok => intro P; k_is
  case hb => exact rfl
@[reducible] noncomputable def N464 : Nm := ⟨["self", "op", "u", "v", "w", "qvars"], ["abs"]⟩
theorem sc464 : ScOk fn464.fd.scope.names N464.loc N464.glo := by
  refine scOk_of ?_
  kernel_rfl!
theorem fo464 (P : Params) : FnOk (hd.heap_1_1 P) 464 fn464.fd fn464.body := ⟨⟨_, _, _, fn464.ok P⟩, by kernel_rfl!, fn464.hb, rfl, rfl, rfl, rfl, rfl, by kernel_rfl!⟩
section
variable {N : Nm} {W : Wd} {Ψ : Frm hd.heap_1_1 N W} {vals : Vals} {b : Mg} {σ : Sg} {Rl : Led} {sa : Addr}
theorem and_c {u v : Int} {to tu tv : Tok} {fu fv : BF} {Q : Value → Vals → Led → Prop} (G : Good W sa b σ) (hr : Room Ψ.A 18) (cap : Cap σ 64) (du : Den σ u fu) (dv : Den σ v fv)
    (q : ∀ t' b' σ' r, Good W sa b' σ' → Gr σ σ' 64 → Den σ' r (fun a => fu a && fv a) → Q (.int r t') vals (mgL b' ++ Rl)) :
    WA Ψ (call (.ref 464) [.ref sa, .str "and" to, .int u tu, .int v tv]) Q vals (mgL b ++ Rl) := by
  refine WA.callDefS (N' := N464) (fo464 _) sc464 hr (binds := [("self", .ref sa), ("op", .str "and" to), ("u", .int u tu), ("v", .int v tv), ("w", .none)]) (rest := ["qvars"]) (fun s X => binds_K X rfl (by k_is) rfl rfl rfl) rfl [some (.ref sa), some (.str "and" to), some (.int u tu), some (.int v tv), some .none, none] rfl ?_
  intro Ψ' he hr'
  have hr2 : Room Ψ'.A 2 := hr'.less (by first | decide | lia | omega)
  have hr3 : Room Ψ'.A 16 := hr'.less (by first | decide | lia | omega)
  have at0 := G.at'
  have hs := G.hs
  have ku := (du.vd G.ok).abs.key
  have kv := (dv.vd G.ok).abs.key
  have ok := G.ok
  dsimp only [fn464, mkFn]
  kd_p; kd_p1; kd_adr; kit_at; ksr_p; kle_go; kit_is; kit_tp; kqd_ok; kd_in
  refine M.notIn G hr2 ?_
  rw [ku]
  ks_any; kwk_eq; kt_k; kcf_m; kd_p; kd_p1; kd_idx; kd_mem; kd_adr; kd_in; kt_le; krn_ne; ks_any; kwk_ne; kd_mem; kd_adr; kit_at; ksr_p; kle_go; kit_is; kit_tp; kqd_ok; kd_in
  refine M.notIn G hr2 ?_
  rw [kv]
  ks_any; kwk_eq; kwk_eq; kt_k; kcf_m; kd_p; kd_p1; kd_idx; kd_mem; kd_adr; kd_in; kt_le; krn_ne; ks_any; kwk_eq; kwk_eq; kt_k; kcf_m; kd_p; kd_p1; kd_adr; kd_in; kim_at; kit_nb; kba_in; kit_nb; kba_in; kit_nb; kba_in; kit_tp
  refine WA.newTupM (fits_of (by show _ ≤ _; simp only [List.length_cons, List.length_nil]; omega)) fun _ => ?_
  refine WA.inStrs (List.mem_append_right _ (.head _)) (by repeat constructor) ?_
  refine WA.trBool ?_
  first
  | (refine R.iteF (by kernel_rfl!) ?_)
  | (refine R.iteT (by kernel_rfl!) ?_)
  kd_p; kd_p1; kd_adr; kd_in; kt_le; kri_at; ks_any; kwk_eq; kd_p; kd_p1; kd_adr; kd_in; kim_at; kit_nb; kba_in; kit_nb; kba_in; kit_nb; kba_in; kit_nb; kba_in; kit_tp
  refine WA.newTupM (fits_of (by show _ ≤ _; simp only [List.length_cons, List.length_nil]; omega)) fun _ => ?_
  refine WA.inStrs (List.mem_append_right _ (.head _)) (by repeat constructor) ?_
  refine WA.trBool ?_
  first
  | (refine R.iteF (by kernel_rfl!) ?_)
  | (refine R.iteT (by kernel_rfl!) ?_)
  kd_p; kd_p1; kd_adr; kd_in; kim_at; kit_nb; kba_in; kit_nb; kba_in; kit_nb; kba_in; kit_nb; kba_in; kit_tp
  refine WA.newTupM (fits_of (by show _ ≤ _; simp only [List.length_cons, List.length_nil]; omega)) fun _ => ?_
  refine WA.inStrs (List.mem_append_right _ (.head _)) (by repeat constructor) ?_
  refine WA.trBool ?_
  first
  | (refine R.iteF (by kernel_rfl!) ?_)
  | (refine R.iteT (by kernel_rfl!) ?_)
  kd_p; kj_on; kin_no; kd_in; ksp_in; kit_is; kit_is; kit_nb; kbt_ne; kst_p; kp_lit; kit_tp
  refine ite_c G hr3 cap (Int.le_refl 0) (du.vd ok) (dv.vd ok) (Den.vd ok (Den.not .one)) du dv (Den.not .one) fun t' b' σ' r G' g' _ d' => ?_
  have e : (fun a => if fu a = true then fv a else !true) = fun a => fu a && fv a := funext fun a => by cases fu a <;> simp
  rw [e] at d'
  kcj_m; kcj_m; kcj_m; kcj_m; kcj_m
  refine ⟨mgL b' ++ Rl, List.Sublist.append (List.Sublist.refl _) ?_, q _ b' σ' r G' g' d'⟩
  repeat (first | exact List.Sublist.refl _ | refine List.Sublist.cons _ ?_)
theorem or_c {u v : Int} {to tu tv : Tok} {fu fv : BF} {Q : Value → Vals → Led → Prop} (G : Good W sa b σ) (hr : Room Ψ.A 18) (cap : Cap σ 64) (du : Den σ u fu) (dv : Den σ v fv)
    (q : ∀ t' b' σ' r, Good W sa b' σ' → Gr σ σ' 64 → Den σ' r (fun a => fu a || fv a) → Q (.int r t') vals (mgL b' ++ Rl)) :
    WA Ψ (call (.ref 464) [.ref sa, .str "or" to, .int u tu, .int v tv]) Q vals (mgL b ++ Rl) := by
  refine WA.callDefS (N' := N464) (fo464 _) sc464 hr (binds := [("self", .ref sa), ("op", .str "or" to), ("u", .int u tu), ("v", .int v tv), ("w", .none)]) (rest := ["qvars"]) (fun s X => binds_K X rfl (by k_is) rfl rfl rfl) rfl [some (.ref sa), some (.str "or" to), some (.int u tu), some (.int v tv), some .none, none] rfl ?_
  intro Ψ' he hr'
  have hr2 : Room Ψ'.A 2 := hr'.less (by first | decide | lia | omega)
  have hr3 : Room Ψ'.A 16 := hr'.less (by first | decide | lia | omega)
  have at0 := G.at'
  have hs := G.hs
  have ku := (du.vd G.ok).abs.key
  have kv := (dv.vd G.ok).abs.key
  have ok := G.ok
  dsimp only [fn464, mkFn]
  kd_p; kd_p1; kd_adr; kit_at; ksr_p; kle_go; kit_is; kit_tp; kqd_ok; kd_in
  refine M.notIn G hr2 ?_
  rw [ku]
  ks_any; kwk_eq; kt_k; kcf_m; kd_p; kd_p1; kd_idx; kd_mem; kd_adr; kd_in; kt_le; krn_ne; ks_any; kwk_ne; kd_mem; kd_adr; kit_at; ksr_p; kle_go; kit_is; kit_tp; kqd_ok; kd_in
  refine M.notIn G hr2 ?_
  rw [kv]
  ks_any; kwk_eq; kwk_eq; kt_k; kcf_m; kd_p; kd_p1; kd_idx; kd_mem; kd_adr; kd_in; kt_le; krn_ne; ks_any; kwk_eq; kwk_eq; kt_k; kcf_m; kd_p; kd_p1; kd_adr; kd_in; kim_at; kit_nb; kba_in; kit_nb; kba_in; kit_nb; kba_in; kit_tp
  refine WA.newTupM (fits_of (by show _ ≤ _; simp only [List.length_cons, List.length_nil]; omega)) fun _ => ?_
  refine WA.inStrs (List.mem_append_right _ (.head _)) (by repeat constructor) ?_
  refine WA.trBool ?_
  first
  | (refine R.iteF (by kernel_rfl!) ?_)
  | (refine R.iteT (by kernel_rfl!) ?_)
  kd_p; kd_p1; kd_adr; kd_in; kt_le; kri_at; ks_any; kwk_eq; kd_p; kd_p1; kd_adr; kd_in; kim_at; kit_nb; kba_in; kit_nb; kba_in; kit_nb; kba_in; kit_nb; kba_in; kit_tp
  refine WA.newTupM (fits_of (by show _ ≤ _; simp only [List.length_cons, List.length_nil]; omega)) fun _ => ?_
  refine WA.inStrs (List.mem_append_right _ (.head _)) (by repeat constructor) ?_
  refine WA.trBool ?_
  first
  | (refine R.iteF (by kernel_rfl!) ?_)
  | (refine R.iteT (by kernel_rfl!) ?_)
  kd_p; kj_on; kin_no; kd_in; ksp_in; kit_is; kit_nb; kst_p; kit_is; kit_tp
  refine ite_c G hr3 cap (Int.le_refl 0) (du.vd ok) (Den.vd ok .one) (dv.vd ok) du .one dv fun t' b' σ' r G' g' _ d' => ?_
  have e : (fun a => if fu a = true then true else fv a) = fun a => fu a || fv a := funext fun a => by cases fu a <;> simp
  rw [e] at d'
  kcj_m; kcj_m; kcj_m; kcj_m
  refine ⟨mgL b' ++ Rl, List.Sublist.append (List.Sublist.refl _) ?_, q _ b' σ' r G' g' d'⟩
  repeat (first | exact List.Sublist.refl _ | refine List.Sublist.cons _ ?_)
theorem imp_c {u v : Int} {to tu tv : Tok} {fu fv : BF} {Q : Value → Vals → Led → Prop} (G : Good W sa b σ) (hr : Room Ψ.A 18) (cap : Cap σ 64) (du : Den σ u fu) (dv : Den σ v fv)
    (q : ∀ t' b' σ' r, Good W sa b' σ' → Gr σ σ' 64 → Den σ' r (fun a => !fu a || fv a) → Q (.int r t') vals (mgL b' ++ Rl)) :
    WA Ψ (call (.ref 464) [.ref sa, .str "=>" to, .int u tu, .int v tv]) Q vals (mgL b ++ Rl) := by
  refine WA.callDefS (N' := N464) (fo464 _) sc464 hr (binds := [("self", .ref sa), ("op", .str "=>" to), ("u", .int u tu), ("v", .int v tv), ("w", .none)]) (rest := ["qvars"]) (fun s X => binds_K X rfl (by k_is) rfl rfl rfl) rfl [some (.ref sa), some (.str "=>" to), some (.int u tu), some (.int v tv), some .none, none] rfl ?_
  intro Ψ' he hr'
  have hr2 : Room Ψ'.A 2 := hr'.less (by first | decide | lia | omega)
  have hr3 : Room Ψ'.A 16 := hr'.less (by first | decide | lia | omega)
  have at0 := G.at'
  have hs := G.hs
  have ku := (du.vd G.ok).abs.key
  have kv := (dv.vd G.ok).abs.key
  have ok := G.ok
  dsimp only [fn464, mkFn]
  kd_p; kd_p1; kd_adr; kit_at; ksr_p; kle_go; kit_is; kit_tp; kqd_ok; kd_in
  refine M.notIn G hr2 ?_
  rw [ku]
  ks_any; kwk_eq; kt_k; kcf_m; kd_p; kd_p1; kd_idx; kd_mem; kd_adr; kd_in; kt_le; krn_ne; ks_any; kwk_ne; kd_mem; kd_adr; kit_at; ksr_p; kle_go; kit_is; kit_tp; kqd_ok; kd_in
  refine M.notIn G hr2 ?_
  rw [kv]
  ks_any; kwk_eq; kwk_eq; kt_k; kcf_m; kd_p; kd_p1; kd_idx; kd_mem; kd_adr; kd_in; kt_le; krn_ne; ks_any; kwk_eq; kwk_eq; kt_k; kcf_m; kd_p; kd_p1; kd_adr; kd_in; kim_at; kit_nb; kba_in; kit_nb; kba_in; kit_nb; kba_in; kit_tp
  refine WA.newTupM (fits_of (by show _ ≤ _; simp only [List.length_cons, List.length_nil]; omega)) fun _ => ?_
  refine WA.inStrs (List.mem_append_right _ (.head _)) (by repeat constructor) ?_
  refine WA.trBool ?_
  first
  | (refine R.iteF (by kernel_rfl!) ?_)
  | (refine R.iteT (by kernel_rfl!) ?_)
  kd_p; kd_p1; kd_adr; kd_in; kt_le; kri_at; ks_any; kwk_eq; kd_p; kd_p1; kd_adr; kd_in; kim_at; kit_nb; kba_in; kit_nb; kba_in; kit_nb; kba_in; kit_nb; kba_in; kit_tp
  refine WA.newTupM (fits_of (by show _ ≤ _; simp only [List.length_cons, List.length_nil]; omega)) fun _ => ?_
  refine WA.inStrs (List.mem_append_right _ (.head _)) (by repeat constructor) ?_
  refine WA.trBool ?_
  first
  | (refine R.iteF (by kernel_rfl!) ?_)
  | (refine R.iteT (by kernel_rfl!) ?_)
  kd_p; kd_p1; kd_adr; kd_in; kim_at; kit_nb; kba_in; kit_nb; kba_in; kit_nb; kba_in; kit_nb; kba_in; kit_tp
  refine WA.newTupM (fits_of (by show _ ≤ _; simp only [List.length_cons, List.length_nil]; omega)) fun _ => ?_
  refine WA.inStrs (List.mem_append_right _ (.head _)) (by repeat constructor) ?_
  refine WA.trBool ?_
  first
  | (refine R.iteF (by kernel_rfl!) ?_)
  | (refine R.iteT (by kernel_rfl!) ?_)
  kd_p; kd_p1; kd_adr; kd_in; kim_at; kit_nb; kba_in; kit_nb; kba_in; kit_nb; kba_in; kit_tp
  refine WA.newTupM (fits_of (by show _ ≤ _; simp only [List.length_cons, List.length_nil]; omega)) fun _ => ?_
  refine WA.inStrs (List.mem_append_right _ (.head _)) (by repeat constructor) ?_
  refine WA.trBool ?_
  first
  | (refine R.iteF (by kernel_rfl!) ?_)
  | (refine R.iteT (by kernel_rfl!) ?_)
  kd_p; kd_p1; kd_adr; kd_in; kim_at; kit_nb; kba_in; kit_nb; kba_in; kit_nb; kba_in; kit_tp
  refine WA.newTupM (fits_of (by show _ ≤ _; simp only [List.length_cons, List.length_nil]; omega)) fun _ => ?_
  refine WA.inStrs (List.mem_append_right _ (.head _)) (by repeat constructor) ?_
  refine WA.trBool ?_
  first
  | (refine R.iteF (by kernel_rfl!) ?_)
  | (refine R.iteT (by kernel_rfl!) ?_)
  kd_p; kj_on; kin_no; kd_in; ksp_in; kit_is; kit_is; kit_nb; kst_p; kit_tp
  refine ite_c G hr3 cap (Int.le_refl 0) (du.vd ok) (dv.vd ok) (Den.vd ok .one) du dv .one fun t' b' σ' r G' g' _ d' => ?_
  have e : (fun a => if fu a = true then fv a else true) = fun a => !fu a || fv a := funext fun a => by cases fu a <;> simp
  rw [e] at d'
  kcj_m; kcj_m; kcj_m; kcj_m; kcj_m; kcj_m; kcj_m
  refine ⟨mgL b' ++ Rl, List.Sublist.append (List.Sublist.refl _) ?_, q _ b' σ' r G' g' d'⟩
  repeat (first | exact List.Sublist.refl _ | refine List.Sublist.cons _ ?_)
end
end
section
open PySem PySem.W PyProof.Rows PySem.Calls
set_option maxRecDepth 100000
set_option maxHeartbeats 8000000
noncomputable def fn332 : FnIn 332 := by
  refine' mkFn ?ok ?hb
  case ok => intro P; k_is
  case hb => exact rfl
@[reducible] noncomputable def N332 : Nm := ⟨["self", "u", "j", "ordvar", "qvars", "forall", "cache", "i", "v", "w", "n", "p", "q", "r"], ["abs", "len"]⟩
theorem sc332 : ScOk fn332.fd.scope.names N332.loc N332.glo := by
  refine scOk_of ?_
  kernel_rfl!
theorem fo332 (P : Params) : FnOk (hd.heap_1_1 P) 332 fn332.fd fn332.body := ⟨⟨_, _, _, fn332.ok P⟩, by kernel_rfl!, fn332.hb, rfl, rfl, rfl, rfl, rfl, by kernel_rfl!⟩
section
variable {N : Nm} {W : Wd} {Ψ : Frm hd.heap_1_1 N W} {vals : Vals} {b : Mg} {σ : Sg} {Rl : Led} {sa : Addr}
theorem Good.tup {y : Addr × Obj} (G : Good W sa b σ) : Good W sa { b with tups := y :: b.tups } σ := ⟨G.r.tup y, G.hs, G.ok, G.ik⟩
theorem foa_c {i v x : Int} {ti tv tx : Tok} {f g : BF} {Q : Value → Vals → Led → Prop} (G : Good W sa b σ) (hr : Room Ψ.A 3) (cap : Cap σ 1) (hi : 0 ≤ i) (hi2 : i < σ.nv) (kv : Vd σ (i + 1) v) (kx : Vd σ (i + 1) x) (dv : Den σ v f) (dx : Den σ x g)
    (q : ∀ t' b' σ' r, Good W sa b' σ' → Gr σ σ' 1 → Vd σ' i r → Den σ' r (fun a => if a i then g a else f a) → Q (.int r t') vals (mgL b' ++ Rl)) :
    WA Ψ (call (.ref 367) [.ref sa, .int i ti, .int v tv, .int x tx]) Q vals (mgL b ++ Rl) := by
  have ct := cap.t
  refine foa_ok G.r G.hs hr hi hi2 kv.key kx.key (by first | decide | lia | omega) fun t' b' σ' r fo r' hs' => ?_
  have S := foa_sem G.ok hi hi2 kv kx dv dx fo
  exact q t' b' σ' r ⟨r', hs', S.ok, G.ik.ext G.ok S.ext S.ite⟩ ⟨S.ext, S.len, by rw [S.its]; omega⟩ S.vd S.den
noncomputable def Qc (σ : Sg) (every : Bool) (S : Int → Bool) (kvs : List (Int × Value)) : Prop := ∀ u x, valueAt kvs u = some x → ∃ r t f, x = .int r t ∧ Den σ u f ∧ Den σ r (qf every S f) ∧ ∀ k, Vd σ k u → Vd σ k r
theorem Qc.ext {σ σ' : Sg} {every : Bool} {S : Int → Bool} {kvs : List (Int × Value)} (ok : Ok σ) (e : Ext σ σ') (h : Qc σ every S kvs) : Qc σ' every S kvs := fun u x hx =>
  let ⟨r, t, f, h1, d, d', k⟩ := h u x hx
  ⟨r, t, f, h1, d.ext e, d'.ext e, fun k' hk => (k k' (Vd.back ok e d hk)).ext e⟩
theorem quant_ok {every : Bool} {S : Int → Bool} {ord : List Int} {vs : List Value} {n0 ns : Nat} {ov qv ca : Addr} {so : Obj} (hi : IntsAre vs ord) (hso : so.SetObjOf (intKind W.prog W.w) S ns) (hsb : ns < scanBound) (hS : ∀ x, S x = true ↔ x ∈ ord) (hol : ord.length ≤ 1000) (n : Nat) :
    ∀ (N : Nm) (Ψ : Frm hd.heap_1_1 N W) (vals : Vals) (b : Mg) (σ : Sg) (co : Obj) (kvs : List (Int × Value)) (Rl : Led) (k u : Int) (j : Nat) (tu tj : Tok) (Q : Value → Vals → Led → Prop),
    Good W sa b σ → Room Ψ.A (n + 18) → 0 ≤ k → ((σ.nv : Int) - k).toNat ≤ n → Vd σ k u → (ov, listOf vs.toArray n0) ∈ Rl → (qv, so) ∈ Rl → co.IsDictOf (intKind W.prog W.w) kvs → Qc σ every S kvs → j ≤ ord.length → (∀ (idx : Nat) (x : Int), idx < j → ord[idx]? = some x → x < k) →
    Cap σ (64 * 2 ^ n) → kvs.length + 2 ^ n ≤ 16777216 →
    (∀ t' b' σ' r co' kvs', Good W sa b' σ' → Gr σ σ' (64 * 2 ^ n - 64) → Vd σ' k r → (∀ f, Den σ u f → Den σ' r (qf every S f)) → co'.IsDictOf (intKind W.prog W.w) kvs' → Qc σ' every S kvs' → kvs'.length + 1 ≤ kvs.length + 2 ^ n → Q (.int r t') vals (mgL b' ++ (ca, co') :: Rl)) →
    WA Ψ (call (.ref 332) [.ref sa, .int u tu, .int j tj, .ref ov, .ref qv, .bool every, .ref ca]) Q vals (mgL b ++ (ca, co) :: Rl) := by
  induction n using Nat.strongRecOn with
  | ind n ih =>
    intro N Ψ vals b σ co kvs Rl k u j tu tj Q G hr hk0 hn hu hov hqv hco hqc hjl hj cap hz q
    have hp := pow2_pos n
    refine WA.callDefS (N' := N332) (fo332 _) sc332 hr (binds := [("self", .ref sa), ("u", .int u tu), ("j", .int j tj), ("ordvar", .ref ov), ("qvars", .ref qv), ("forall", .bool every), ("cache", .ref ca)]) (rest := ["i", "v", "w", "n", "p", "q", "r"]) (fun s _ => .of_eq rfl) rfl [some (.ref sa), some (.int u tu), some (.int j tj), some (.ref ov), some (.ref qv), some (.bool every), some (.ref ca), none, none, none, none, none, none, none] rfl ?_
    intro Ψ' he hr'
    have at0 := G.at'
    have hs := G.hs
    have ok := G.ok
    have gr0 : Gr σ σ (64 * 2 ^ n - 64) := (Gr.refl σ).le (Nat.zero_le _)
    dsimp only [fn332, mkFn]
    kd_p; kd_p1; kd_adr; kit_at; ksr_p; kle_go; kit_is; kit_tp; kqd_ok; kst_p; kpc_eq; ks_any
    refine R.iteB (fun h0 => ?_) fun h0 => ?_
    · have h0' : iabs u = 1 := by simpa using h0
      kd_p; kj_on; kd_in; kcj_m; kcj_m
      refine ⟨_, List.Sublist.refl _, q _ b σ u co kvs G gr0 hu (fun f d => ?_) hco hqc (by first | decide | lia | omega)⟩
      rcases iabs_cases u with e1 | e1
      · rw [h0'] at e1; subst e1
        rw [d.one_inv, qf_const]; exact .one
      · rw [h0'] at e1; subst e1
        obtain ⟨f1, d1, rfl⟩ := Den.neg_inv (u := 1) (by decide) d
        rw [d1.one_inv, qf_const]; exact .neg (by decide) .one
    have h0' : iabs u ≠ 1 := by simpa using h0
    kt_k; kcf_m; kd_p; kd_p1; kd_adr; kd_in; kd_in
    have hcm : (ca, co) ∈ mgL b ++ (ca, co) :: Rl := List.mem_append_right _ (.head _)
    refine WA.dIn (intKind_is _ _ _ _) hcm hco ?_
    cases hat : valueAt kvs u with
    | some x =>
      obtain ⟨rr, tr, f, rfl, df, dr, kk⟩ := hqc u x hat
      ks_any; kwk_ne; kd_p; kj_on; kfm_hd; kd_in; kd_in
      refine dTail hcm hco (WA.dGet (intKind_is _ _ _ _) hcm hco hat ?_) (by with_unfolding_all rfl)
      kcj_m; kcj_m
      refine ⟨_, List.Sublist.refl _, q _ b σ rr co kvs G gr0 (kk k hu) (fun f' d => ?_) hco hqc (by first | decide | lia | omega)⟩
      rw [d.fn df]; exact dr
    | none =>
      obtain ⟨i', v, x, hnd, hle⟩ : ∃ i' v x, σ.node (iabs u) = some (i', v, x) ∧ k ≤ i' := by
        rcases hu.cases with (e1 | e1) | h
        · exact absurd (by rw [e1]; decide) h0'
        · exact absurd (by rw [e1]; decide) h0'
        · exact h
      have o := ok.nd _ _ _ _ hnd
      have hv0 := o.2.2.2.2.1.ne0
      have hx0 := o.2.2.2.2.2.ne0
      -- what u tells
      obtain ⟨f, df⟩ := hu.den ok
      obtain ⟨y0, y1, f0, f1, tdef, ky0, ky1, dy0, dy1, ef, hpick⟩ : ∃ (y0 y1 : Int) (f0 f1 : BF) (_ : True), Vd σ (i' + 1) y0 ∧ Vd σ (i' + 1) y1 ∧ Den σ y0 f0 ∧ Den σ y1 f1 ∧ f = (fun a => if a i' then f1 a else f0 a) ∧ ((u < 0 ∧ y0 = -v ∧ y1 = -x) ∨ (0 < u ∧ y0 = v ∧ y1 = x)) := by
        rcases Int.lt_or_gt_of_ne hu.ne0 with h | h
        · have hn' : σ.node (-u) = some (i', v, x) := by rw [show -u = iabs u by unfold iabs; rw [if_pos h]]; exact hnd
          obtain ⟨f0, f1, C⟩ := cof_sem ok df (CofR.down h hn')
          exact ⟨_, _, f0, f1, trivial, C.k0, C.k1, C.d0, C.d1, C.e, .inl ⟨h, rfl, rfl⟩⟩
        · have hn' : σ.node u = some (i', v, x) := by rw [iabs_pos h] at hnd; exact hnd
          obtain ⟨f0, f1, C⟩ := cof_sem ok df (CofR.up h hn')
          exact ⟨_, _, f0, f1, trivial, C.k0, C.k1, C.d0, C.d1, C.e, .inr ⟨h, rfl, rfl⟩⟩
      ks_any; kwk_eq; kt_k; kcf_m; kd_p
      refine Mine.L.asT rfl rfl ?_; intro _
      kfm_hd; kgr_on; kd_in; ksk_a3; kit_at; ksr_p; kle_go; kit_is; kit_tp; kqd_ok
      refine M.getNode G.r hnd fun a t1 t2 t3 nq dd sl hm => ?_
      refine R.unp hr'.hh hm rfl rfl ?_
      kts_nm; kmb_kw; kts_nm; kmb_kw; kts_nm; kmb_kw; ktyn_q; kcf_m; kd_p; kd_p1; kd_all; kfm_eq; kd_in; ksk_a1; kwk_eq; kt_k; kcf_m; kd_p; kd_p1; kd_all; kfm_eq; kd_in; ksk_a1; kwk_eq; kt_k; kcf_m; kd_p; kd_p1; kd_adr; kd_in; kst_p; kpf_eq; ks_any
      refine R.joinI (fun vals' l' => Ex2 fun ta tb => vals' = [some (.ref sa), some (.int u tu), some (.int j tj), some (.ref ov), some (.ref qv), some (.bool every), some (.ref ca), some (.int i' t1), some (.int y0 ta), some (.int y1 tb), none, none, none, none] ∧ l' = mgL b ++ (ca, co) :: Rl) (R.iteB (fun h1 => ?_) fun h1 => ?_) ?_
      · have h1' : u < 0 := by simpa using h1
        rcases hpick with ⟨_, rfl, rfl⟩ | ⟨h, _⟩
        · kd_p
          refine Mine.L.swap2 hr'.hh rfl rfl (by rw [he]; rfl) ?_; intro _
          kbt_ne; kd_in; kp_lit; kbt_ne; kd_in; kp_lit; kmb_kw; kmb_kw; kcf_m; kt_k
          exact ⟨rfl, _, _, rfl, rfl⟩
        · omega
      · have h1' : ¬ u < 0 := by simpa using h1
        rcases hpick with ⟨h, _⟩ | ⟨_, rfl, rfl⟩
        · omega
        · kt_k
          exact ⟨rfl, _, _, rfl, rfl⟩
      rintro _ _ ⟨ta, tb, rfl, rfl⟩
      kcf_m; kd_p; kl_no; kit_at; ksr_p; kle_go; kit_is; kit_tp
      have hvl := ints_len hi
      refine WA.lLen (List.mem_append_right _ (.tail _ hov)) (by first | decide | lia | omega) fun tn => ?_
      rw [hvl]
      kmb_kw; kcf_m; kd_p; kt_len
      refine WC.inv (fun m vals' l' => Ex3 fun (jj : Nat) (z : Int) (tjj : Tok) => An6 (z = jj) (m = ord.length - jj) (jj ≤ ord.length) ((∀ (idx : Nat) (x : Int), idx < jj → ord[idx]? = some x → x < i')) (l' = mgL b ++ (ca, co) :: Rl) (vals' = [some (.ref sa), some (.int u tu), some (.int z tjj), some (.ref ov), some (.ref qv), some (.bool every), some (.ref ca), some (.int i' t1), some (.int y0 ta), some (.int y1 tb), some (.int ord.length tn), none, none, none])) ?_ (ord.length - j) ⟨j, j, tj, rfl, rfl, hjl, fun idx x h1 h2 => Int.lt_of_lt_of_le (hj idx x h1 h2) hle, rfl, rfl⟩
      rintro m _ _ ⟨jj, _, tjj, rfl, hm', hjj, hlt, rfl, rfl⟩ again
      refine Mine.WC.letV ?_; intro vv
      refine WC.while1 ?_
      kd_adr; kd_in; kd_in; kpf_eq; ks_any
      refine R.iteB (fun h2 => ?_) fun h2 => ?_
      · have h2' : jj < ord.length := by simpa using h2
        kd_p; kd_p1; kd_adr; kfm_hd; kd_in; kd_in
        obtain ⟨tx, hget⟩ := ints_get hi (List.getElem?_eq_getElem h2')
        refine WA.lGet (List.mem_append_right _ (.tail _ hov)) (by first | decide | lia | omega) (by first | decide | lia | omega) (v := .int ord[jj] tx) (by simpa using hget) ?_
        kd_in; kpf_eq; ks_any
        refine R.iteB (fun h3 => ?_) fun h3 => ?_
        · have h3' : ord[jj] < i' := by simpa using h3
          kd_p; kt_str; kst_p; kpa_ne; kmb_kw; kcf_m; kt_k; kcf_m; kt_k; ksp_lk
          refine again (ord.length - (jj + 1)) _ _ (by first | decide | lia | omega) ⟨jj + 1, (jj : Int) + 1, _, by first | decide | lia | omega, rfl, by first | decide | lia | omega, fun idx x q1 q2 => ?_, rfl, rfl⟩
          by_cases hq : idx = jj
          · subst hq; rw [List.getElem?_eq_getElem h2'] at q2; cases q2; exact h3'
          · exact hlt idx x (by first | decide | lia | omega) q2
        · obtain ⟨m1, rfl⟩ : ∃ m1, n = m1 + 1 := ⟨n - 1, by have := o.2.1; omega⟩
          have h2p : 2 ^ (m1 + 1) = 2 * 2 ^ m1 := by rw [Nat.pow_succ]; omega
          have hp1 := pow2_pos m1
          have hrm : Room Ψ'.A (m1 + 18) := hr'.less (by first | decide | lia | omega)
          have hms : ((σ.nv : Int) - (i' + 1)).toNat ≤ m1 := by first | decide | lia | omega
          have capm : Cap σ (64 * 2 ^ m1) := cap.less (by first | decide | lia | omega)
          kd_p; kt_sym; kt_tab; kt_tab; kst_in; kcf_m; kd_p; kl_no; kin_no; kd_in; ksp_in; kit_is; kit_is; kit_is; kit_is; kit_is; kit_is; kit_tp
          refine ih m1 (by first | decide | lia | omega) _ Ψ' _ b σ co kvs Rl (i' + 1) y0 jj _ _ _ G hrm (by first | decide | lia | omega) hms ky0 hov hqv hco hqc hjj (fun idx x q1 q2 => by have := hlt idx x q1 q2; omega) capm (by first | decide | lia | omega) fun tp b1 σ1 pp co1 kvs1 G1 g1 vp dp hco1 hqc1 lz1 => ?_
          have at1 := G1.at'
          have hs1 := G1.hs
          have e1 := g1.e
          kmb_kw; kcf_m; kd_p; kl_no; kin_no; kd_in; ksp_in; kit_is; kit_is; kit_is; kit_is; kit_is; kit_is; kit_tp
          refine ih m1 (by first | decide | lia | omega) _ Ψ' _ b1 σ1 co1 kvs1 Rl (i' + 1) y1 jj _ _ _ G1 hrm (by first | decide | lia | omega) (by rw [e1.nv]; exact hms) (ky1.ext e1) hov hqv hco1 hqc1 hjj (fun idx x q1 q2 => by have := hlt idx x q1 q2; omega) (Cap.after (c := 64 * 2 ^ m1 - 64) (cap.less (by first | decide | lia | omega)) g1) (by first | decide | lia | omega) fun tq b2 σ2 qq co2 kvs2 G2 g2 vq dq hco2 hqc2 lz2 => ?_
          have at2 := G2.at'
          have hs2 := G2.hs
          have e2 := g2.e
          have e12 := e1.trans e2
          have dp2 := (dp _ dy0).ext e2
          have dq2 := dq _ (dy1.ext e1)
          have vp2 := vp.ext e2
          have in0 : ∀ a bb, f0 (upd a i' bb) = f0 a := fun a bb => dy0.supp1 ok ky0 a bb
          have in1 : ∀ a bb, f1 (upd a i' bb) = f1 a := fun a bb => dy1.supp1 ok ky1 a bb
          have g12 := g1.trans g2
          have cap2 : Cap σ2 64 := Cap.after (c := 64 * 2 ^ m1 - 64 + (64 * 2 ^ m1 - 64)) (cap.less (by first | decide | lia | omega)) g12
          have hc2 : (ca, co2) ∈ mgL b2 ++ (ca, co2) :: Rl := List.mem_append_right _ (.head _)
          have fin : ∀ (tr : Tok) (b3 : Mg) (σ3 : Sg) (rr : Int), Good W sa b3 σ3 → Gr σ2 σ3 64 → Vd σ3 i' rr → Den σ3 rr (qf every S f) →
              (∀ co3, co3.IsDictOf (intKind W.prog W.w) (stored kvs2 u (.int rr tr)) → Q (.int rr tr) vals (mgL b3 ++ (ca, co3) :: Rl)) := by
            intro tr b3 σ3 rr G3 g3 v3 d3 co3 hco3
            have e3 := e12.trans g3.e
            refine q tr b3 σ3 rr co3 _ G3 ((g12.trans g3).le (by first | decide | lia | omega)) (v3.le hle) (fun f' d' => by rw [d'.fn df]; exact d3) hco3 (fun u' x' hx' => ?_) (by have := stored_len_le kvs2 u (.int rr tr); omega)
            rw [valueAt_stored] at hx'
            split at hx'
            · rename_i hu'
              subst hu'
              cases hx'
              exact ⟨rr, tr, f, rfl, df.ext e3, d3, fun k' hk' => v3.le (by
                have := Vd.back ok e3 df hk'
                rcases this with ⟨e', _⟩ | ⟨t', e', hk'⟩
                · exact absurd e' h0'
                · rw [hnd] at e'; cases e'; exact hk')⟩
            · obtain ⟨r', t', f', z1, z2, z3, z4⟩ := (hqc2.ext G2.ok g3.e) u' x' hx'
              exact ⟨r', t', f', z1, z2, z3, z4⟩
          kmb_kw; kcf_m; kd_p; kd_p1; kd_adr; kd_in; kd_in
          refine WA.sIn (List.mem_append_right _ (.tail _ hqv)) hso hsb ?_
          ks_any
          refine R.joinI (fun vals' l' => Ex4 fun tr b3 σ3 rr => An6 (Good W sa b3 σ3) (Gr σ2 σ3 64) (Vd σ3 i' rr) (Den σ3 rr (qf every S f)) (l' = mgL b3 ++ (ca, co2) :: Rl) (vals' = [some (.ref sa), some (.int u tu), some (.int jj tjj), some (.ref ov), some (.ref qv), some (.bool every), some (.ref ca), some (.int i' t1), some (.int y0 ta), some (.int y1 tb), some (.int ord.length tn), some (.int pp tp), some (.int qq tq), some (.int rr tr)])) (R.iteB (fun h4 => ?_) fun h4 => ?_) ?_
          · have hr16 : Room Ψ'.A 16 := hr'.less (by first | decide | lia | omega)
            have vpi := vp2.le (show i' ≤ i' + 1 by first | decide | lia | omega)
            have vqi := vq.le (show i' ≤ i' + 1 by first | decide | lia | omega)
            have hnv := vpi.bound G2.ok
            have hi0 : 0 ≤ i' := by first | decide | lia | omega
            cases every with
            | true =>
              kd_p; kd_p1; kfm_eq; kd_in; ks_any; kwk_ne; kd_p; kl_no; kin_no; kd_in; ksp_in; kit_is; kit_is; kit_nb; kbt_ne; kst_p; kp_lit; kit_tp
              refine ite_c G2 hr16 cap2 hi0 vpi vqi (Vd.one hnv).neg dp2 dq2 (Den.not .one) fun tr b3 σ3 rr G3 g3 v3 d3 => ?_
              kmb_kw; kcf_m; kt_k; kcf_m; kt_k
              refine ⟨rfl, tr, b3, σ3, rr, G3, g3, v3, ?_, rfl, rfl⟩
              rw [ef, qf_in h4 in0 in1]
              have ee : (fun a => if qf true S f0 a = true then qf true S f1 a else !true) = fun a => if (true = true) then qf true S f0 a && qf true S f1 a else qf true S f0 a || qf true S f1 a := funext fun a => by cases qf true S f0 a <;> simp
              rw [ee] at d3; exact d3
            | false =>
              kd_p; kd_p1; kfm_eq; kd_in; ks_any; kwk_eq; kd_p; kl_no; kin_no; kd_in; ksp_in; kit_is; kit_nb; kst_p; kit_is; kit_tp
              refine ite_c G2 hr16 cap2 hi0 vpi (Vd.one hnv) vqi dp2 .one dq2 fun tr b3 σ3 rr G3 g3 v3 d3 => ?_
              kmb_kw; kcf_m; kt_k; kcf_m; kt_k
              refine ⟨rfl, tr, b3, σ3, rr, G3, g3, v3, ?_, rfl, rfl⟩
              rw [ef, qf_in h4 in0 in1]
              have ee : (fun a => if qf false S f0 a = true then true else qf false S f1 a) = fun a => if (false = true) then qf false S f0 a && qf false S f1 a else qf false S f0 a || qf false S f1 a := funext fun a => by cases qf false S f0 a <;> simp
              rw [ee] at d3; exact d3
          · have hr3 : Room Ψ'.A 3 := hr'.less (by first | decide | lia | omega)
            kd_p; kl_no; kin_no; kd_in; ksp_in; kit_is; kit_is; kit_is; kit_tp
            refine foa_c G2 hr3 (cap2.less (by first | decide | lia | omega)) (by first | decide | lia | omega) (by rw [e12.nv]; exact o.2.1) vp2 vq dp2 dq2 fun tr b3 σ3 rr G3 g3 v3 d3 => ?_
            kmb_kw; kcf_m; kt_k
            refine ⟨rfl, tr, b3, σ3, rr, G3, g3.le (by first | decide | lia | omega), v3, ?_, rfl, rfl⟩
            rw [ef, qf_out h4]; exact d3
          rintro _ _ ⟨tr, b3, σ3, rr, G3, g3, v3, d3, rfl, rfl⟩
          kcf_m; kd_p; kpc_g; kd_in; kd_in; kd_in
          refine WA.dSet (pre := mgL b3) (post := Rl) (intKind_is _ _ _ _) rfl hco2 (by rw [sizeLine_is]; omega) fun co3 hco3 => ?_
          kcf_m; kd_p; kj_on; kd_in; kcj_m
          exact ⟨_, List.Sublist.refl _, fin tr b3 σ3 rr G3 g3 v3 d3 co3 hco3⟩
      · have h2' : ¬ jj < ord.length := by simpa using h2
        kd_p; kj_on; kd_in; kcj_m; kcj_m
        refine ⟨_, List.Sublist.refl _, q _ b σ u co kvs G gr0 hu (fun f' d => ?_) hco hqc (by first | decide | lia | omega)⟩
        rw [qf_free]
        · exact d
        · intro a a' ha
          refine d.supp ok (k := i') (.inr ⟨_, hnd, Int.le_refl _⟩) _ _ fun l hl => ha l ?_
          cases hSl : S l with
          | false => rfl
          | true =>
            obtain ⟨idx, hix, ei⟩ := List.mem_iff_getElem.mp ((hS l).mp hSl)
            have := hlt idx l (by first | decide | lia | omega) (by rw [List.getElem?_eq_getElem hix, ei])
            omega
end
end
section
open PySem PySem.W PyProof.Rows PySem.Calls
set_option maxRecDepth 100000
set_option maxHeartbeats 8000000
theorem cellsAre_fst {cm : Str → Option Value} {cs : List (Str × Addr)} {cells : List (Addr × Obj)} (h : CellsAre cm cs cells) : cells.map (·.1) = cs.map (·.2) := by
  induction h with
  | nil => rfl
  | cons _ _ ih => simp [ih]
section
variable {K : Params → Frag} {N : Nm} {W : Wd} {Ψ : Frm K N W} {vals : Vals} {l : Led}
structure FnOkC (K : Frag) (f : Addr) (fd : FuncData) (body : List Stmt) : Prop where
  look : ∃ oc od osl, K.lookup f = some ⟨oc, od, .func fd, osl⟩
  code : codeIn K fd.code fd.qualname = true
  body : fd.body = .stmts body
  glob : fd.globals = mainGlobals
  bi : fd.builtins = builtinsNs
  kind : fd.scope.kind = .function
  co : fd.scope.isCoroutine = false
  gen : fd.scope.isGenerator = false
  clo : fd.closure = []
theorem At.old {s : Shared} (a : At Ψ vals l s) : ∀ x ∈ l, x.1 < s.heap.objs.size := fun x hx => Heap.lt_size (a.N x hx).1
theorem At.back {N' : Nm} {s s₁ s₂ : Shared} {v' : Vals} {l' : Led} {Ψ' : Frm K N' W} (a : At Ψ vals l s) (hB : Ψ'.h = hideAll s.heap (l.map (·.1))) (a' : At Ψ' v' l' s₁)
    (hk : ∀ b o, b ≠ Ψ'.L → s₁.heap.get? b = some o → s₂.heap.get? b = some o) (hL : s.heap.objs.size ≤ Ψ'.L) : At Ψ vals l' s₂ := by
  have nm0 : ∀ b o, Ψ.h.get? b = some o → b ∉ l.map (·.1) := fun b o e q => by
    obtain ⟨p, hp, rfl⟩ := List.mem_map.mp q
    rw [(a.N p hp).2.2] at e; cases e
  have st : ∀ b o, Ψ.h.get? b = some o → Ψ'.h.get? b = some o := fun b o e => by rw [hB]; exact hideAll_get _ (a.F.keep b o e) (nm0 b o e)
  obtain ⟨oL, es, ep, hLo, hLd, hLk, hLf⟩ := a.F.ns
  have nL : Ψ.L ∉ l.map (·.1) := fun q => by
    obtain ⟨p, hp, e⟩ := List.mem_map.mp q
    exact (a.N p hp).2.1 e
  have hLg : Ψ'.h.get? Ψ.L = some oL := by rw [hB]; exact hideAll_get (l.map (·.1)) hLo nL
  have ne : ∀ b o, s.heap.get? b = some o → b ≠ Ψ'.L := fun b o e q => by
    have := Heap.lt_size e
    rw [q] at this
    exact absurd this (Nat.not_lt.mpr hL)
  refine ⟨⟨⟨oL, es, ep, hk _ _ (ne _ _ hLo) (a'.F.keep Ψ.L oL hLg), hLd, hLk, hLf⟩, fun b o e => hk _ _ (ne _ _ (a.F.keep b o e)) (a'.F.keep b o (st b o e)), a.F.above⟩, fun p hp => ⟨hk _ _ (a'.N p hp).2.1 (a'.N p hp).1, fun q => ?_, ?_⟩, a'.U, a'.G⟩
  · have := (a'.N p hp).2.2
    rw [q] at this
    exact absurd (hLg.symm.trans this) (by simp)
  · cases q : Ψ.h.get? p.1 with
    | none => rfl
    | some o => exact absurd ((st _ _ q).symm.trans (a'.N p hp).2.2) (by simp)
theorem WA.callDefC {f : Addr} {fd : FuncData} {body : List Stmt} {args : List Value} {kw : List (Str × Value)} {binds : List (Str × Value)} {N' : Nm} {n : Nat} {v0 : Vals} {M R : Led} {Q : Value → Vals → Led → Prop} (ok : FnOkC (K W.w.params) f fd body) (sc : ScOk fd.scope.names N'.loc N'.glo) (hr : Room Ψ.A (n + 1))
    (hb : ∀ s : Shared, (K W.w.params).In s.heap → BindsTo s fd ⟨args, kw⟩ binds)
    (hkind : ∀ n : Nat, ∀ x ∈ binds, fd.scope.names.lookup x.1 = some .local ∨ (fd.scope.names.lookup x.1 = some .cell ∧ ((cellsFrom n fd.scope.names []).lookup x.1).isSome = true))
    (hnd : ((cellsFrom 0 fd.scope.names []).map (·.1)).Nodup) (hl : bindL (fun x => fd.scope.names.lookup x) binds (fun _ => none) = fr N'.loc v0)
    (h : ∀ (Ψ' : Frm K N' W) (cells : Led), Ψ'.env = callEnvC fd Ψ'.L f → Room Ψ'.A n → CellsAre (bindC (fun x => fd.scope.names.lookup x) binds fun _ => none) (cellsFrom (Ψ'.L + 1) fd.scope.names []) cells →
      WA Ψ' (execs body Ψ'.env) (fun fl _ l' => ∃ l'', l''.Sublist l' ∧ Q (retOf fl) vals l'') v0 (M ++ cells ++ R)) :
    WA Ψ (call (.ref f) args kw) Q vals (M ++ R) := by
  refine WA.subPost ?_
  intro E s a
  obtain ⟨oc, od, osl, ho⟩ := ok.look
  have X := Ψ.X.keeps a.F.keep
  have nm0 : ∀ b o, Ψ.h.get? b = some o → b ∉ (M ++ R).map (·.1) := fun b o e q => by
    obtain ⟨p, hp, rfl⟩ := List.mem_map.mp q
    rw [(a.N p hp).2.2] at e; cases e
  have st : Ψ.h.StaysIn (hideAll s.heap ((M ++ R).map (·.1))) := fun b o e => hideAll_get _ (a.F.keep b o e) (nm0 b o e)
  let Ψ' : Frm K N' W := ⟨hideAll s.heap ((M ++ R).map (·.1)), s.heap.objs.size, Ψ.X.keeps (fun b o e => st b o e), Ψ.T.keeps (fun b o e => st b o e), Ψ.A.deeper (callEnvC fd s.heap.objs.size f), callEnvC fd s.heap.objs.size f, ⟨rfl, ok.kind, ok.glob, ok.bi⟩, sc⟩
  have hlim := Ψ.T.nolimit.keeps a.F.keep
  have h2 : 2 < s.heap.objs.size := by obtain ⟨_, h, _⟩ := hlim; exact h.lt
  refine wpAny_call (codeAny_call_function (by have := hr.d; omega) (X _ _ ho) rfl ok.co ok.gen ok.body (codeRec_of X ok.code) (hb s X _ _ _ _ ?_))
  rw [ok.clo]
  refine wpAny_newFunctionEnv_cells ok.kind (hkind _) fun env he s' x => ?_
  have he' : env = callEnvC fd Ψ'.L f := he
  subst he
  refine ⟨hlim.keeps x.toInCall.keep, codeAny_func ?_⟩
  have hns := x.toInCall.ns
  replace hns : s'.heap.Ns Ψ'.L (fr N'.loc v0) := by rw [← hl]; exact hns
  obtain ⟨cells, Nc, Cc⟩ := Cl.news (h₀ := Ψ'.h) (h := s'.heap) (L := Ψ'.L) (cm := bindC (fun x => fd.scope.names.lookup x) binds fun _ => none) (Nat.le_of_eq (hideAll_size _ _)) (cs := cellsFrom (Ψ'.L + 1) fd.scope.names []) fun n c hm =>
    ⟨x.cell n c (lookup_of_mem_nodup (cellsFrom_names fd.scope.names 0 (Ψ'.L + 1) [] [] rfl ▸ hnd) hm), x.above n c hm⟩
  have hab : ∀ q ∈ cells, Ψ'.L < q.1 := fun q hq => by
    have : q.1 ∈ cells.map (·.1) := List.mem_map_of_mem hq
    rw [cellsAre_fst Cc] at this
    obtain ⟨⟨n, c⟩, hc, e⟩ := List.mem_map.mp this
    have := x.above n c hc
    rw [← e]; exact this
  have hcn : (cells.map (·.1)).Nodup := by
    rw [cellsAre_fst Cc]
    exact (List.pairwise_map.mpr x.apart)
  have hold : ∀ q ∈ M ++ R, q.1 < Ψ'.L := fun q hq => a.old q hq
  have aN : ∀ q ∈ M ++ R, s'.heap.get? q.1 = some q.2 ∧ q.1 ≠ Ψ'.L ∧ Ψ'.h.get? q.1 = none := fun q hq => ⟨x.toInCall.keep _ _ (a.N q hq).1, Nat.ne_of_lt (hold q hq), hideAll_none _ (List.mem_map_of_mem hq)⟩
  have a' : At Ψ' v0 (M ++ cells ++ R) s' := by
    refine ⟨⟨hns, fun b o e => x.toInCall.keep b o (of_hideAll _ e), Nat.le_of_eq (hideAll_size _ _)⟩, fun q hq => ?_, ?_, fun q hq => ?_⟩
    · rcases List.mem_append.mp hq with hq | hq
      · rcases List.mem_append.mp hq with hq | hq
        · exact aN q (List.mem_append_left _ hq)
        · exact Nc q hq
      · exact aN q (List.mem_append_right _ hq)
    · have hU := a.U
      have hp : ((M ++ cells ++ R).map (·.1)).Perm (cells.map (·.1) ++ (M ++ R).map (·.1)) := by
        rw [← List.map_append]
        refine List.Perm.map _ ?_
        rw [← List.append_assoc]
        exact List.Perm.append_right R List.perm_append_comm
      rw [hp.nodup_iff, List.nodup_append]
      refine ⟨hcn, hU, fun u hu v hv e => ?_⟩
      obtain ⟨q, hq, rfl⟩ := List.mem_map.mp hu
      obtain ⟨q', hq', rfl⟩ := List.mem_map.mp hv
      have h1 := hab q hq
      have h2 := hold q' hq'
      rw [e] at h1
      exact absurd h1 (Nat.not_lt.mpr (Nat.le_of_lt h2))
    · have hq' : q ∈ M ++ R ∨ q ∈ cells := by
        simp only [List.mem_append] at hq ⊢
        rcases hq with (h | h) | h
        · exact .inl (.inl h)
        · exact .inr h
        · exact .inl (.inr h)
      rcases hq' with h | h
      · exact a.G q h
      · exact Nat.lt_trans h2 (hab q h)
  obtain ⟨_, _, esame⟩ := x.toInCall.same
  have S0 : Same s s' := by rw [esame]; exact ⟨rfl, rfl⟩
  refine (h Ψ' cells rfl hr.deeper Cc).use a' fun fl s'' v' l' S a'' q => ⟨S0.trans S, vals, l', At.back (Ψ' := Ψ') a rfl a'' (fun b o _ e => e) (Nat.le_refl _), ?_⟩
  cases fl <;> exact q
theorem WA.cellN {x : Str} {pos : Pos} {c : Addr} {o : Obj} {v : Value} {Q : Value → Vals → Led → Prop} (hk : Ψ.env.scope.kind = .function) (hl : Ψ.env.kindOf x = some .cell) (hc : Ψ.env.cells.lookup x = some c) (hm : (c, o) ∈ l) (hd : o.data = .cell (some v))
    (hdb : (x == ("__debug__" : Str)) = false) (q : Q v vals l) : WA Ψ (eval (.Name x pos) Ψ.env) Q vals l := fun _ s a =>
  wpAny_Name (wpAny_loadName_cell hk hl hc ⟨o, (a.N _ hm).1, hd⟩ ⟨Same.refl s, vals, l, a, q⟩) hdb
theorem WA.compr {e : Expr} {scope : Scope} {pos : Pos} {newAcc first : Sem Value} {g : Comprehension} {gs : List Comprehension} {cl : List (Str × Addr)} {N' : Nm} {Q : Value → Vals → Led → Prop}
    (hcl : clausesOf e = g :: gs) (hs : ∀ x, foldedSetIterable g.iter Ψ.env x = Pure.pure x) (hclos : closureFor scope Ψ.env = Pure.pure cl) (hkind : scope.kind = .function) (hcell : ∀ y ∈ scope.names, y.2 ≠ .cell)
    (hnames : ∀ y ∈ scope.names, y.2 = .local → scope.names.lookup y.1 = some .local) (sc : ScOk (relabel scope Ψ.env).names N'.loc N'.glo)
    (h : WA Ψ first (fun xv vals l => WA Ψ (pyIter xv) (fun it vals l => WA Ψ newAcc (fun acc vals l => ∀ Ψ' : Frm K N' W, Ψ'.env = compEnvC scope cl Ψ'.L Ψ.env → Ψ'.A = Ψ.A →
      WC Ψ' (.compStart e 0 it acc Ψ'.env) (fun _ _ l' => ∃ l'', l''.Sublist l' ∧ Q acc vals l'') (List.replicate N'.loc.length none) l) vals l) vals l) vals l) :
    WA Ψ (comprehension e scope Ψ.env pos newAcc false first none) Q vals l := by
  refine WA.subPost ?_
  intro E s a
  refine wpAny_comprehension_free (use := none) hcl hs hclos hkind hnames ?_
  refine h.use a fun xv s₁ v1 l1 S1 a1 h1 => h1.use a1 fun it s₂ v2 l2 S2 a2 h2 => h2.use a2 fun acc s₃ v3 l3 S3 a3 h3 => ?_
  refine wpAny_newFunctionEnv hcell (by intro y hy; simp at hy) (fun h₁ hns₁ hsb₁ => ?_) hkind
  dsimp only at hns₁ hsb₁ ⊢
  have nm0 : ∀ b o, Ψ.h.get? b = some o → b ∉ l3.map (·.1) := fun b o e q => by
    obtain ⟨p, hp, rfl⟩ := List.mem_map.mp q
    rw [(a3.N p hp).2.2] at e; cases e
  have st : Ψ.h.StaysIn (hideAll s₃.heap (l3.map (·.1))) := fun b o e => hideAll_get _ (a3.F.keep b o e) (nm0 b o e)
  let Ψ' : Frm K N' W := ⟨hideAll s₃.heap (l3.map (·.1)), s₃.heap.objs.size, Ψ.X.keeps (fun b o e => st b o e), Ψ.T.keeps (fun b o e => st b o e), Ψ.A, compEnvC scope cl s₃.heap.objs.size Ψ.env, ⟨rfl, hkind, Ψ.e.glob, Ψ.e.bi⟩, sc⟩
  have hold : ∀ b o, s₃.heap.get? b = some o → h₁.get? b = some o := fun b o e => hsb₁.extBut b o (Nat.ne_of_lt (Heap.lt_size e)) (Heap.get?_push_of_some _ e)
  have hns : h₁.Ns Ψ'.L (fr N'.loc (List.replicate N'.loc.length none)) := by
    have : fr N'.loc (List.replicate N'.loc.length none) = fun x => ([] : List (Str × Value)).reverse.lookup x := funext fun x => fr_nones _ _ _
    rw [this]; exact hns₁
  have a' : At Ψ' (List.replicate N'.loc.length none) l3 { s₃ with heap := h₁, toks := s₃.toks + 0 } :=
    ⟨⟨hns, fun b o e => hold b o (of_hideAll _ e), Nat.le_of_eq (hideAll_size _ _)⟩,
      fun q hq => ⟨hold _ _ (a3.N q hq).1, Nat.ne_of_lt (Heap.lt_size (a3.N q hq).1), hideAll_none _ (List.mem_map_of_mem hq)⟩, a3.U, a3.G⟩
  refine h3 Ψ' rfl rfl _ _ a' fun f s' v' l' S a'' ⟨l'', sl, q⟩ => ?_
  exact ⟨_, a''.F.ns, fun h' hsb => ⟨((S1.trans S2).trans S3).trans ⟨S.1, S.2⟩, v3, l', At.back (Ψ' := Ψ') a3 rfl a'' (fun b o hb e => hsb.extBut b o hb e) (Nat.le_refl _), l'', sl, q⟩⟩
end
end
section
open PySem PySem.W PyProof.Rows PySem.Calls
set_option maxRecDepth 100000
set_option maxHeartbeats 8000000
section
variable {K : Params → Frag} {N : Nm} {W : Wd} {Ψ : Frm K N W} {vals : Vals} {l : Led}
theorem WC.startL {elt target iter : Expr} {ifs : List Expr} {scope : Scope} {pos : Pos} {it acc : Value} {Q : Flow → Vals → Led → Prop}
    (h0 : WC Ψ (.compLoop (.ListComp elt [⟨target, iter, ifs, 0⟩] scope pos) 0 it acc Ψ.env) Q vals l)
    (h : WA Ψ (pyIter it) (fun it' vals l => WC Ψ (.compLoop (.ListComp elt [⟨target, iter, ifs, 0⟩] scope pos) 0 it' acc Ψ.env) Q vals l) vals l) :
    WC Ψ (.compStart (.ListComp elt [⟨target, iter, ifs, 0⟩] scope pos) 0 it acc Ψ.env) Q vals l := fun R s a k =>
  codeAny_compStart_list (h0 R s a k) (h.use a fun it' s' v' l' S a' h' => h' R s' a' fun f s'' v'' l'' S' a'' q => k f s'' v'' l'' (S.trans S') a'' q)
theorem WC.startS {elt target iter : Expr} {ifs : List Expr} {scope : Scope} {pos : Pos} {it acc : Value} {Q : Flow → Vals → Led → Prop}
    (h0 : WC Ψ (.compLoop (.SetComp elt [⟨target, iter, ifs, 0⟩] scope pos) 0 it acc Ψ.env) Q vals l)
    (h : WA Ψ (pyIter it) (fun it' vals l => WC Ψ (.compLoop (.SetComp elt [⟨target, iter, ifs, 0⟩] scope pos) 0 it' acc Ψ.env) Q vals l) vals l) :
    WC Ψ (.compStart (.SetComp elt [⟨target, iter, ifs, 0⟩] scope pos) 0 it acc Ψ.env) Q vals l := fun R s a k => by
  have h0' := h0 R s a k
  have h' := h.use (P := fun it' s' => codeAny (model W.prog W.w) Ψ.A (.compLoop (.SetComp elt [⟨target, iter, ifs, 0⟩] scope pos) 0 it' acc Ψ.env) R s') (E := notedBy (model W.prog W.w) Ψ.A Ψ.env fun x s' => R (.error x) s') a
    fun it' s' v' l' S a' h' => h' R s' a' fun f s'' v'' l'' S' a'' q => k f s'' v'' l'' (S.trans S') a'' q
  refine codeAny_of_tree ?_
  show wpAny _ _ ((compStart (.SetComp elt [⟨target, iter, ifs, 0⟩] scope pos) 0 it acc Ψ.env).onRaise (fun x => do noteFrame x Ψ.env; PySem.standAt theWindowsPlace)) _ _ s
  refine wpAny_notedAt ?_
  unfold compStart
  show wpAny _ _ (ask >>= _) _ _ s
  refine wpAny_bind (wpAny_askSetting (wpAny_ite ?_))
  split
  · first
      | exact wpAny_bind (wpAny_pure (wpAny_pure (And.intro rfl h0')))
      | exact wpAny_pure (And.intro rfl h0')
  · first
      | exact wpAny_bind (wpAny_rule (wpAny_bind (wpAny_standAt (wpAny_bind (wpAny_mono h' (fun it' s' h' => wpAny_pure (And.intro rfl h')) fun _ _ x => x)))))
      | (refine wpAny_bind (wpAny_rule ?_); show wpAny _ _ (PySem.standAt iter.pos >>= _) _ _ s; exact wpAny_bind (wpAny_standAt (wpAny_bind (wpAny_mono h' (fun it' s' h' => wpAny_pure (And.intro rfl h')) fun _ _ x => x))))
theorem compTurn_set (elt target iter : Expr) (scope : Scope) (pos : Pos) (it acc : Value) (env : Env) :
    compTurn (.SetComp elt [⟨target, iter, [], 0⟩] scope pos) 0 it acc env = (PySem.standAt iter.pos >>= fun _ => pyNext it >>= fun r => match r with
      | none => Pure.pure (.done .next)
      | some v => letOwnedTupleGo target it v >>= fun _ => assign target env v >>= fun _ =>
        (eval elt env >>= fun x => PySem.standAt elt.pos >>= fun _ => call (.builtin "set.add") [acc, x] >>= fun _ => Pure.pure ()) >>= fun _ =>
          again (.compLoop (.SetComp elt [⟨target, iter, [], 0⟩] scope pos) 0 it acc env)) := by rfl
theorem WC.compS {elt target iter : Expr} {scope : Scope} {pos : Pos} {it acc : Value} {Q : Flow → Vals → Led → Prop}
    (h : WA Ψ (pyNext it) (fun r vals l => match r with
      | none => Q .next vals l
      | some v => WA Ψ (letOwnedTupleGo target it v) (fun _ vals l => WA Ψ (assign target Ψ.env v) (fun _ vals l => WA Ψ (eval elt Ψ.env) (fun x vals l => WA Ψ (call (.builtin "set.add") [acc, x]) (fun _ vals l =>
          WC Ψ (.compLoop (.SetComp elt [⟨target, iter, [], 0⟩] scope pos) 0 it acc Ψ.env) Q vals l) vals l) vals l) vals l) vals l) vals l) :
    WC Ψ (.compLoop (.SetComp elt [⟨target, iter, [], 0⟩] scope pos) 0 it acc Ψ.env) Q vals l := by
  intro R s a k
  refine codeAny_of_tree ?_
  show wpAny _ Ψ.A ((compTurn (.SetComp elt [⟨target, iter, [], 0⟩] scope pos) 0 it acc Ψ.env).onRaise (fun x => do noteFrame x Ψ.env; theTreesLotGoes x)) _ _ s
  refine wpAny_noted ?_
  rw [compTurn_set]
  refine wpAny_bind (wpAny_standAt (wpAny_bind (h.use a fun r s₁ v1 l1 S1 a1 h1 => ?_)))
  cases r with
  | none => exact wpAny_pure (k _ _ _ _ S1 a1 h1)
  | some v =>
    refine wpAny_bind (h1.use a1 fun _ s₂ v2 l2 S2 a2 h2 => wpAny_bind (h2.use a2 fun _ s₃ v3 l3 S3 a3 h3 => ?_))
    refine wpAny_bind (wpAny_bind (h3.use a3 fun y s₄ v4 l4 S4 a4 h4 => wpAny_bind (wpAny_standAt (wpAny_bind (h4.use a4 fun _ s₅ v5 l5 S5 a5 h5 => wpAny_pure (wpAny_pure ?_))))))
    exact ⟨rfl, h5 R s₅ a5 fun f s' v'' l'' S' a'' q => k f s' v'' l'' (((((S1.trans S2).trans S3).trans S4).trans S5).trans S') a'' q⟩
theorem WC.compL {elt target iter c : Expr} {scope : Scope} {pos : Pos} {it acc : Value} {Q : Flow → Vals → Led → Prop}
    (h : WA Ψ (pyNext it) (fun r vals l => match r with
      | none => Q .next vals l
      | some v => WA Ψ (letOwnedTupleGo target it v) (fun _ vals l => WA Ψ (assign target Ψ.env v) (fun _ vals l => WA Ψ (isTrue c Ψ.env (eval c Ψ.env)) (fun b vals l => if b = true then WA Ψ (eval elt Ψ.env) (fun x vals l => WA Ψ (call (.builtin "list.append") [acc, x]) (fun _ vals l =>
          WC Ψ (.compLoop (.ListComp elt [⟨target, iter, [c], 0⟩] scope pos) 0 it acc Ψ.env) Q vals l) vals l) vals l else WC Ψ (.compLoop (.ListComp elt [⟨target, iter, [c], 0⟩] scope pos) 0 it acc Ψ.env) Q vals l) vals l) vals l) vals l) vals l) :
    WC Ψ (.compLoop (.ListComp elt [⟨target, iter, [c], 0⟩] scope pos) 0 it acc Ψ.env) Q vals l := by
  intro R s a k
  refine codeAny_of_tree ?_
  show wpAny _ Ψ.A ((compTurn (.ListComp elt [⟨target, iter, [c], 0⟩] scope pos) 0 it acc Ψ.env).onRaise (fun x => do noteFrame x Ψ.env; theTreesLotGoes x)) _ _ s
  refine wpAny_noted ?_
  rw [compTurn_list]
  refine wpAny_bind (wpAny_standAt (wpAny_bind (h.use a fun r s₁ v1 l1 S1 a1 h1 => ?_)))
  cases r with
  | none => exact wpAny_pure (k _ _ _ _ S1 a1 h1)
  | some v =>
    refine wpAny_bind (h1.use a1 fun _ s₂ v2 l2 S2 a2 h2 => wpAny_bind (h2.use a2 fun _ s₃ v3 l3 S3 a3 h3 => ?_))
    refine wpAny_bind (wpAny_tests_one (h3.use a3 fun b s₄ v4 l4 S4 a4 h4 => ?_))
    cases b with
    | false =>
      simp only [Bool.false_eq_true, if_false] at h4
      exact wpAny_pure ⟨rfl, h4 R s₄ a4 fun f s' v'' l'' S' a'' q => k f s' v'' l'' ((((S1.trans S2).trans S3).trans S4).trans S') a'' q⟩
    | true =>
      simp only [if_true] at h4
      refine wpAny_bind (wpAny_bind (h4.use a4 fun y s₅ v5 l5 S5 a5 h5 => wpAny_bind (h5.use a5 fun _ s₆ v6 l6 S6 a6 h6 => wpAny_pure (wpAny_pure ?_))))
      exact ⟨rfl, h6 R s₆ a6 fun f s' v'' l'' S' a'' q => k f s' v'' l'' ((((((S1.trans S2).trans S3).trans S4).trans S5).trans S6).trans S') a'' q⟩
theorem WA.setComp {elt iter : Expr} {x : Str} {px pos : Pos} {scope : Scope} {cl : List (Str × Addr)} {Q : Value → Vals → Led → Prop} (hclos : closureFor scope Ψ.env = Pure.pure cl) (hkind : scope.kind = .function) (hcell : ∀ y ∈ scope.names, y.2 ≠ .cell)
    (hnames : ∀ y ∈ scope.names, y.2 = .local → scope.names.lookup y.1 = some .local) (sc : ScOk (relabel scope Ψ.env).names [x] [])
    (h : WA Ψ (eval iter Ψ.env) (fun xv vals l => WA Ψ (pyIter xv) (fun it vals l => WA Ψ (newSet (.type "set")) (fun acc vals l => ∀ Ψ' : Frm K ⟨[x], []⟩ W, Ψ'.env = compEnvC scope cl Ψ'.L Ψ.env → Ψ'.A = Ψ.A →
      (WC Ψ' (.compLoop (.SetComp elt [⟨.Name x px, iter, [], 0⟩] scope pos) 0 it acc Ψ'.env) (fun _ _ l' => ∃ l'', l''.Sublist l' ∧ Q acc vals l'') [none] l ∧
       WA Ψ' (pyIter it) (fun it' vals' l' => it' = it ∧ vals' = [none] ∧ l' = l) [none] l)) vals l) vals l) vals l)
    (hs : ∀ x, foldedSetIterable iter Ψ.env x = Pure.pure x := by intro _; rfl) :
    WA Ψ (eval (.SetComp elt [⟨.Name x px, iter, [], 0⟩] scope pos) Ψ.env) Q vals l := by
  show WA Ψ (comprehension (.SetComp elt [⟨.Name x px, iter, [], 0⟩] scope pos) scope Ψ.env iter.pos (newSet (.type "set")) false (eval iter Ψ.env) none) Q vals l
  refine WA.compr (N' := ⟨[x], []⟩) rfl hs hclos hkind hcell hnames sc ?_
  refine h.mono fun xv _ _ h1 => h1.mono fun it _ _ h2 => h2.mono fun acc _ _ h3 Ψ' e' a' => ?_
  obtain ⟨h4, h5⟩ := h3 Ψ' e' a'
  exact WC.startS h4 (h5.mono fun it' _ _ ⟨a, b, c⟩ => by subst a b c; exact h4)
end
end
section
open PySem PySem.W PyProof.Rows PySem.Calls
set_option maxRecDepth 100000
theorem owner_set_iterator : Manifest.owners.lookup (String.ofList ['r', 'o', 't', 'a', 'r', 'e', 't', 'i', '_', 't', 'e', 's'].reverse) = some Manifest.sig_set_iterator := by kernel_rfl
theorem slot_set_iterator_iter : Slot "set_iterator" "__iter__" "set_iterator.__iter__" :=
  .of (owner := "set_iterator") (n := "__iter__") (by rw [typeLookup_type, builtinLookup_eq_fast]; kernel_rfl) (by decide +kernel) (by decide +kernel) (by decide +kernel)
    (by first | exact .inl (by decide +kernel) | exact .inr (by decide +kernel)) (by rw [isSubtype_type]; kernel_rfl)
theorem slot_set_iterator_next : Slot "set_iterator" "__next__" "set_iterator.__next__" :=
  .of (owner := "set_iterator") (n := "__next__") (by rw [typeLookup_type, builtinLookup_eq_fast]; kernel_rfl) (by decide +kernel) (by decide +kernel) (by decide +kernel)
    (by first | exact .inl (by decide +kernel) | exact .inr (by decide +kernel)) (by rw [isSubtype_type]; kernel_rfl)
theorem entry_set_iterator_iter : entryFor table "set_iterator.__iter__" = some Builtin.«dict_keyiterator.__iter__» :=
  entryFor_alias (id' := "dict_keyiterator.__iter__") (by kernel_rfl) rfl (by decide +kernel) (by kernel_rfl)
theorem entry_set_iterator_next : entryFor table "set_iterator.__next__" = some Builtin.«set_iterator.__next__» := entryFor_of_tree (by kernel_rfl)
theorem args_set_iterator_iter_1 (a : Value) : argsOk "set_iterator.__iter__" ⟨[a], []⟩ := by
  unfold argsOk; rw [signature?_of (id := "set_iterator.__iter__") (n := ['_', '_', 'r', 'e', 't', 'i', '_', '_']) (o := ['r', 'o', 't', 'a', 'r', 'e', 't', 'i', '_', 't', 'e', 's']) (by kernel_rfl) owner_set_iterator]; kernel_rfl
theorem args_set_iterator_next_1 (a : Value) : argsOk "set_iterator.__next__" ⟨[a], []⟩ := by
  unfold argsOk; rw [signature?_of (id := "set_iterator.__next__") (n := ['_', '_', 't', 'x', 'e', 'n', '_', '_']) (o := ['r', 'o', 't', 'a', 'r', 'e', 't', 'i', '_', 't', 'e', 's']) (by kernel_rfl) owner_set_iterator]; kernel_rfl
theorem entry_set_iter : entryFor table "set.__iter__" = some Builtin.«frozenset.__iter__» :=
  entryFor_alias (id' := "frozenset.__iter__") (by kernel_rfl) rfl (by decide +kernel) (by kernel_rfl)
end
section
open PySem PySem.W PyProof.Rows PySem.Calls
set_option maxRecDepth 100000
set_option maxHeartbeats 8000000
noncomputable abbrev byT (w : World) : Bool := w.params.followText "set-order"
noncomputable def ordOf (w : World) (a : Addr) (es : Array (Int × Value)) (ep : Nat) : Array (Int × Value) := if byT w then pickOrder (w.params.setOrder a ep) es else es
noncomputable def slotAt (t : SetTable) : Nat → Nat
  | 0 => 0
  | i + 1 => t.place.getD i 0 + 1
noncomputable def slotW (w : World) (t : SetTable) (i : Nat) : Nat := if byT w then 0 else slotAt t i
structure SetW (w : World) (o : Obj) (es : Array (Int × Value)) (ep : Nat) (t : SetTable) : Prop where
  ex : o.ExactSet
  data : o.data = .set es ep t
  fits : t.fits es.size = true
  led : es.isEmpty = false → t.led = !(byT w)
  plain : t.plain = true
  rise : ∀ i, i ≤ es.size → SetTable.below t.place (slotAt t i) = i
noncomputable abbrev setItObj (a : Addr) (slot i n ep : Nat) : Obj := { cls := .type "set_iterator", data := .fields #[rawInt slot, rawInt i, .ref a, rawInt n, rawInt ep] }
section
variable {prog : Program} {w : World} {A : Around} {E : Value → Shared → Prop} {s : Shared} {a it : Addr} {o : Obj} {es : Array (Int × Value)} {ep : Nat} {t : SetTable}
theorem SetW.typeIs (S : SetW w o es ep t) (ho : s.heap.get? a = some o) : s.TypeIs (.ref a) "set" := ⟨o, ho, S.ex.1⟩
theorem wp_setDrawn (S : SetW w o es ep t) (ho : s.heap.get? a = some o) {Q : Bool → Shared → Prop} (q : Q false s) : wpAny (model prog w) A (setDrawn a) Q E s := by
  unfold setDrawn setsByText
  refine wpAny_bind (wpAny_setState_of ho S.data S.fits ?_)
  refine wpAny_bind (wpAny_bind (wpAny_askSetting (wpAny_pure ?_)))
  refine wpAny_pure ?_
  have : ((!w.params.followText "set-order") && (!t.plain && decide (es.size > 1))) = false := by rw [S.plain]; simp
  show Q ((!w.params.followText "set-order") && (!t.plain && decide (es.size > 1))) s
  rw [this]; exact q
theorem place_size (S : SetW w o es ep t) : t.place.size = es.size := by
  have := S.fits
  simp only [SetTable.fits, Bool.and_eq_true, beq_iff_eq] at this
  exact this.1
theorem wp_setNext_some (S : SetW w o es ep t) (ho : s.heap.get? a = some o) {i : Nat} {e : Int × Value} (hi : i < es.size) (he : (ordOf w a es ep)[i]? = some e) {Q : Option (Value × Nat) → Shared → Prop} (q : Q (some (e.2, slotW w t (i + 1))) s) : wpAny (model prog w) A (setNext a (slotW w t i) i ep) Q E s := by
  unfold setNext setsByText
  refine wpAny_bind (wpAny_setState_of ho S.data S.fits ?_)
  dsimp only
  refine wpAny_bind (wpAny_bind (wpAny_askSetting (wpAny_pure ?_)))
  dsimp only
  by_cases hb : byT w = true
  · have hb' : (model prog w).w.params.followText "set-order" = true := hb
    rw [if_pos hb']
    simp only [bne_self_eq_false, Bool.false_eq_true, if_false]
    refine wpAny_bind ?_
    unfold setWalk setsByText
    refine wpAny_bind (wpAny_setState_of ho S.data S.fits ?_)
    dsimp only
    refine wpAny_bind (wpAny_bind (wpAny_askSetting (wpAny_pure ?_)))
    rw [if_pos hb']
    refine wpAny_bind (wpAny_askSetting (wpAny_pure (wpAny_pure ?_)))
    unfold ordOf at he
    rw [if_pos hb] at he
    unfold slotW at q ⊢
    rw [if_pos hb] at q ⊢
    show Q (((pickOrder (w.params.setOrder a ep) es)[i]?).map fun e => (e.2, 0)) s
    rw [he]; exact q
  · have hb' : ¬ (model prog w).w.params.followText "set-order" = true := hb
    rw [if_neg hb']
    have hd : (!t.plain && decide (es.size > 1)) = false := by rw [S.plain]; rfl
    show wpAny (model prog w) A (if (!t.plain && decide (es.size > 1)) = true then _ else _) Q E s
    rw [if_neg (by rw [hd]; exact Bool.false_ne_true)]
    have hl : (!t.led && !es.isEmpty) = false := by
      cases hE : es.isEmpty with
      | true => simp
      | false => rw [S.led hE]; simp only [Bool.not_eq_true] at hb; rw [hb]; rfl
    show wpAny (model prog w) A ((if (!t.led && !es.isEmpty) = true then unsupported "set:maker-not-led" else Pure.pure ()) >>= _) Q E s
    rw [if_neg (by rw [hl]; exact Bool.false_ne_true)]
    refine wpAny_bind (wpAny_pure (wpAny_pure ?_))
    unfold ordOf at he
    rw [if_neg hb] at he
    unfold slotW at q ⊢
    rw [if_neg hb] at q ⊢
    have hr := S.rise i (Nat.le_of_lt hi)
    rw [hr, he]
    have hp : t.place[i]? = some (t.place.getD i 0) := by
      have hi' : i < t.place.size := by rw [place_size S]; exact hi
      rw [Array.getD_eq_getD_getElem?, Array.getElem?_eq_getElem hi']; rfl
    rw [hp]
    exact q
theorem wp_setNext_none (S : SetW w o es ep t) (ho : s.heap.get? a = some o) (hz : (ordOf w a es ep).size = es.size) {Q : Option (Value × Nat) → Shared → Prop} (q : Q none s) : wpAny (model prog w) A (setNext a (slotW w t es.size) es.size ep) Q E s := by
  unfold setNext setsByText
  refine wpAny_bind (wpAny_setState_of ho S.data S.fits ?_)
  dsimp only
  refine wpAny_bind (wpAny_bind (wpAny_askSetting (wpAny_pure ?_)))
  dsimp only
  by_cases hb : byT w = true
  · have hb' : (model prog w).w.params.followText "set-order" = true := hb
    rw [if_pos hb']
    simp only [bne_self_eq_false, Bool.false_eq_true, if_false]
    refine wpAny_bind ?_
    unfold setWalk setsByText
    refine wpAny_bind (wpAny_setState_of ho S.data S.fits ?_)
    dsimp only
    refine wpAny_bind (wpAny_bind (wpAny_askSetting (wpAny_pure ?_)))
    rw [if_pos hb']
    refine wpAny_bind (wpAny_askSetting (wpAny_pure (wpAny_pure ?_)))
    unfold ordOf at hz
    rw [if_pos hb] at hz
    have : (pickOrder (w.params.setOrder a ep) es)[es.size]? = none := by rw [Array.getElem?_eq_none]; omega
    show Q (((pickOrder (w.params.setOrder a ep) es)[es.size]?).map fun e => (e.2, _)) s
    rw [this]; exact q
  · have hb' : ¬ (model prog w).w.params.followText "set-order" = true := hb
    rw [if_neg hb']
    have hd : (!t.plain && decide (es.size > 1)) = false := by rw [S.plain]; rfl
    show wpAny (model prog w) A (if (!t.plain && decide (es.size > 1)) = true then _ else _) Q E s
    rw [if_neg (by rw [hd]; exact Bool.false_ne_true)]
    have hl : (!t.led && !es.isEmpty) = false := by
      cases hE : es.isEmpty with
      | true => simp
      | false => rw [S.led hE]; simp only [Bool.not_eq_true] at hb; rw [hb]; rfl
    show wpAny (model prog w) A ((if (!t.led && !es.isEmpty) = true then unsupported "set:maker-not-led" else Pure.pure ()) >>= _) Q E s
    rw [if_neg (by rw [hl]; exact Bool.false_ne_true)]
    refine wpAny_bind (wpAny_pure (wpAny_pure ?_))
    have hr := S.rise es.size (Nat.le_refl _)
    unfold slotW
    rw [if_neg hb]
    rw [hr]
    have : es[es.size]? = none := by simp
    rw [this]
    exact q
theorem wp_pyIter_set (S : SetW w o es ep t) (ho : s.heap.get? a = some o) {Q : Value → Shared → Prop} (q : Q (.ref s.heap.objs.size) { s with heap := s.heap.push (setItObj a (slotW w t 0) 0 es.size ep) }) : wpAny (model prog w) A (pyIter (.ref a)) Q E s := by
  have hT := S.typeIs ho
  refine wpAny_pyIter_slot hT PySem.F.slot_set_iter (wpAny_call_entry PySem.F.slot_set_iter hT entry_set_iter ?_ (PySem.F.args_set_iter_1 _))
  unfold Builtin.«frozenset.__iter__» Builtin.Frozenset.slot0 slotArgs
  simp only [List.isEmpty_nil, Bool.not_true, Bool.false_eq_true, ↓reduceIte, bind_assoc, List.length_nil, bne_self_eq_false]
  unfold Builtin.Frozenset.addrOf Builtin.Frozenset.sizeOf
  refine wpAny_bind (wpAny_pure ?_)
  try dsimp only
  refine wpAny_bind (wpAny_pure ?_)
  try dsimp only
  refine wpAny_bind ?_
  refine wpAny_bind (wpAny_setEntries_of ho S.data S.fits (wpAny_pure ?_))
  refine wpAny_bind (wp_setDrawn S ho ?_)
  simp only [Bool.false_eq_true, if_false]
  refine wpAny_bind (wpAny_pure ?_)
  refine wpAny_bind (wpAny_setEpoch_of ho S.data S.fits ?_)
  unfold newFields
  refine wpAny_bind (wpAny_newObj_type (wpAny_pure ⟨_, rfl, "set_iterator", _, ⟨_, Heap.get?_push_size _ rfl, rfl⟩, slot_set_iterator_next.lookup, ?_⟩))
  have : slotW w t 0 = 0 := by unfold slotW slotAt; split <;> rfl
  rw [this] at q
  exact q
theorem wp_pyIter_setIt {slot i n : Nat} (ho : s.heap.get? it = some (setItObj a slot i n ep)) {Q : Value → Shared → Prop} (q : Q (.ref it) s) : wpAny (model prog w) A (pyIter (.ref it)) Q E s := by
  have hT : s.TypeIs (.ref it) "set_iterator" := ⟨_, ho, rfl⟩
  refine wpAny_pyIter_slot hT slot_set_iterator_iter (wpAny_call_entry slot_set_iterator_iter hT entry_set_iterator_iter ?_ (args_set_iterator_iter_1 _))
  show wpAny _ _ (ret (.ref it)) _ _ s
  exact wpAny_pure ⟨_, rfl, "set_iterator", _, hT, slot_set_iterator_next.lookup, q⟩
theorem wp_next_set_some (S : SetW w o es ep t) (ho : s.heap.get? a = some o) {i : Nat} {e : Int × Value} (hi : i < es.size) (he : (ordOf w a es ep)[i]? = some e) (hit : s.heap.get? it = some (setItObj a (slotW w t i) i es.size ep)) (hne : a ≠ it) {Q : Option Value → Shared → Prop}
    (q : ∀ h', h'.get? it = some (setItObj a (slotW w t (i + 1)) (i + 1) es.size ep) → Heap.SameBut it s.heap h' → Q (some e.2) { s with heap := h' }) : wpAny (model prog w) A (pyNext (.ref it)) Q E s := by
  have hT : s.TypeIs (.ref it) "set_iterator" := ⟨_, hit, rfl⟩
  unfold pyNext
  refine wpAny_bind (wpAny_attempt (wpAny_callSpecial?_slot (name := Str.ofString "__next__") hT slot_set_iterator_next
    (wpAny_call_entry slot_set_iterator_next hT entry_set_iterator_next ?_ (args_set_iterator_next_1 _))))
  unfold Builtin.«set_iterator.__next__» slotArgs
  simp only [List.isEmpty_nil, Bool.not_true, Bool.false_eq_true, ↓reduceIte, bind_assoc, List.length_nil, bne_self_eq_false]
  refine wpAny_bind (wpAny_pure ?_)
  dsimp only
  refine wpAny_bind (wpAny_fieldsOf hit rfl ?_)
  dsimp only [rawInt]
  refine wpAny_bind (wpAny_setEntries_of ho S.data S.fits ?_)
  simp only [bne_self_eq_false, Bool.false_eq_true, ↓reduceIte, Int.toNat_natCast]
  refine wpAny_bind (wp_setNext_some S ho hi he ?_)
  dsimp only
  refine wpAny_bind (wpAny_setField_rec hit (by simp) fun h1 hit1 hs1 => ?_)
  refine wpAny_bind (wpAny_setField_rec hit1 (by simp) fun h2 hit2 hs2 => ?_)
  refine wpAny_pure ⟨_, rfl, ?_⟩
  exact wpAny_pure (q h2 hit2 (hs1.trans hs2))
theorem wp_next_set_none (S : SetW w o es ep t) (ho : s.heap.get? a = some o) (hh : A.handled = none) (hz : (ordOf w a es ep).size = es.size) (hit : s.heap.get? it = some (setItObj a (slotW w t es.size) es.size es.size ep)) (hne : a ≠ it) {Q : Option Value → Shared → Prop}
    (q : ∀ h' o', h'.get? it = some o' → Heap.ExtBut it s.heap h' → Q none { s with heap := h' }) : wpAny (model prog w) A (pyNext (.ref it)) Q E s := by
  have hT : s.TypeIs (.ref it) "set_iterator" := ⟨_, hit, rfl⟩
  unfold pyNext
  refine wpAny_bind (wpAny_attempt (wpAny_callSpecial?_slot (name := Str.ofString "__next__") hT slot_set_iterator_next
    (wpAny_call_entry slot_set_iterator_next hT entry_set_iterator_next ?_ (args_set_iterator_next_1 _))))
  unfold Builtin.«set_iterator.__next__» slotArgs
  simp only [List.isEmpty_nil, Bool.not_true, Bool.false_eq_true, ↓reduceIte, bind_assoc, List.length_nil, bne_self_eq_false]
  refine wpAny_bind (wpAny_pure ?_)
  dsimp only
  refine wpAny_bind (wpAny_fieldsOf hit rfl ?_)
  dsimp only [rawInt]
  refine wpAny_bind (wpAny_setEntries_of ho S.data S.fits ?_)
  simp only [bne_self_eq_false, Bool.false_eq_true, ↓reduceIte, Int.toNat_natCast]
  refine wpAny_bind (wp_setNext_none S ho hz ?_)
  dsimp only
  refine wpAny_bind (wpAny_setField_rec hit (by simp) fun h1 hit1 hs1 => ?_)
  refine wpAny_bind ?_
  show wpAny _ _ (newExc (.type "StopIteration") []) _ _ _
  simp only [newExc, newTuple]
  refine wpAny_bind (wpAny_newObj_type ?_ (by size_fits))
  refine wpAny_bind (m := firstArgMember _ _) (wpAny_of_eq (a := Value.none) (by first | rfl | (simp only [firstArgMember]; rfl)) ?_)
  refine wpAny_newObj_type ?_ (by size_fits)
  simp only [raiseNew]
  refine wpAny_bind (wpAny_handled ?_)
  first | rw [show A.in1.handled = none from hh] | rw [hh]
  refine wpAny_bind (wpAny_pure (wpAny_throw ?_))
  refine wpAny_bind (wpAny_isInstance (T := "StopIteration") (b := true) ⟨_, Heap.get?_push_size _ rfl, rfl⟩ isSubtype_stop ?_)
  exact wpAny_pure (q _ _ (Heap.get?_push_of_some _ (Heap.get?_push_of_some _ hit1)) (((hs1.extBut).push _).push _))
end
theorem getElem_eraseIdx_perm {α : Type} : ∀ {l : List α} {i : Nat} (h : i < l.length), ([l[i]] ++ l.eraseIdx i).Perm l
  | [], i, h => absurd h (Nat.not_lt_zero _)
  | x :: l, 0, h => by simp
  | x :: l, i + 1, h => by
    have ih := getElem_eraseIdx_perm (l := l) (i := i) (by simpa using h)
    simp only [List.getElem_cons_succ, List.eraseIdx_cons_succ, List.singleton_append] at ih ⊢
    exact (List.Perm.swap _ _ _).trans (ih.cons x)
theorem pickOrder_go {α : Type} (next : Nat → Nat) : ∀ (n k : Nat) (left : List α) (out : Array α), left.length = n → (pickOrder.go next n k left out).toList.Perm (out.toList ++ left)
  | 0, k, left, out, h => by
    have : left = [] := List.length_eq_zero_iff.mp h
    subst this; simp [pickOrder.go]
  | n + 1, k, left, out, h => by
    have hlt : next k % left.length < left.length := Nat.mod_lt _ (by first | decide | lia | omega)
    simp only [pickOrder.go]
    rw [List.getElem?_eq_getElem hlt]
    simp only
    have ih := pickOrder_go next n (k + 1) (left.eraseIdx (next k % left.length)) (out.push left[next k % left.length]) (by rw [List.length_eraseIdx_of_lt hlt]; omega)
    refine ih.trans ?_
    rw [Array.toList_push, List.append_assoc]
    refine List.Perm.append_left _ ?_
    exact getElem_eraseIdx_perm hlt
theorem ordOf_perm (w : World) (a : Addr) (es : Array (Int × Value)) (ep : Nat) : (ordOf w a es ep).toList.Perm es.toList := by
  unfold ordOf
  split
  · unfold pickOrder
    have := pickOrder_go (w.params.setOrder a ep) es.size 0 es.toList #[] (by simp)
    simpa using this
  · exact .rfl
theorem ordOf_size (w : World) (a : Addr) (es : Array (Int × Value)) (ep : Nat) : (ordOf w a es ep).size = es.size := by
  have := (ordOf_perm w a es ep).length_eq
  simpa using this
end
section
open PySem PySem.W PyProof.Rows PySem.Calls
set_option maxRecDepth 100000
set_option maxHeartbeats 8000000
section
variable {prog : Program} {w : World} {A : Around} {a : Addr} {o : Obj} {es : Array (Int × Value)} {ep : Nat} {t : SetTable}
theorem hint_set {E : Value → Shared → Prop} {s : Shared} {Q : Bool → Shared → Prop} (hT : s.TypeIs (.ref a) "set") (h : Q false s) : wpAny (model prog w) A (Builtin.List.listLengthHint (.ref a)) Q E s := by
  unfold Builtin.List.listLengthHint
  refine wpAny_bind (wpAny_specialOf hT PySem.F.slot_set_len.lookup ?_)
  generalize hid : ("set.__len__" : String) = id0
  wp_delta
  rw [show splitId id0 = some ("set", "__len__") from by subst hid; decide +kernel]
  subst hid
  refine wpAny_bind (wpAny_isInstance (T := "set") (b := true) hT (by rw [isSubtype_type]; kernel_rfl) ?_)
  refine wpAny_ite_split (fun hab => absurd hab (by decide)) (fun _ => ?_)
  refine wpAny_ite_split (fun _ => ?_) (fun hab => absurd (by decide +kernel) hab)
  refine wpAny_bind (wpAny_typeOf hT ?_)
  exact wpAny_pure h
theorem walks_set (S : SetW w o es ep t) (hh : A.handled = none) (I : Addr) (hne : a ≠ I) :
    Walks prog w A I [I, a] [I] es.size (fun i v => ∃ e, (ordOf w a es ep)[i]? = some e ∧ v = e.2) (fun i h => h.get? I = some (setItObj a (slotW w t i) i es.size ep) ∧ h.get? a = some o) where
  sub := fun b hb => by simp at hb; simp [hb]
  frame := fun _ _ _ st hk => ⟨hk I (by simp) _ st.1, hk a (by simp) _ st.2⟩
  item := fun i s Q E hi st hQ => by
    have hz := ordOf_size w a es ep
    have he : (ordOf w a es ep)[i]? = some (ordOf w a es ep)[i] := Array.getElem?_eq_getElem (by rw [hz]; exact hi)
    refine wp_next_set_some S st.2 hi he st.1 hne fun h' hit hs => ?_
    exact hQ _ h' s.toks ⟨_, he, rfl⟩ ⟨hit, (hs.2 a hne).trans st.2⟩ fun b o hb e => hs.extBut b o (fun q => hb (by simp [q])) e
  done := fun s Q E st hQ => wp_next_set_none S st.2 hh (ordOf_size w a es ep) st.1 hne fun h' o' _ he => hQ h' s.toks fun b o hb e => he b o (fun q => hb (by simp [q])) e
  self := fun _ _ _ _ st hQ => wp_pyIter_setIt st.1 hQ
theorem kdl_set (S : SetW w o es ep t) : KdlSrc prog w "set" a a es.size (fun i v => ∃ e, (ordOf w a es ep)[i]? = some e ∧ v = e.2) (fun h => h.get? a = some o) where
  type := fun _ ho => S.typeIs ho
  there := fun _ ho => ⟨Heap.lt_size ho, Heap.lt_size ho⟩
  keep := fun _ _ ho hk => hk a (.inl rfl) _ ho
  notList := by decide
  notTuple := by decide
  hint := fun _ _ _ _ ho hq => hint_set (S.typeIs ho) hq
  iter := fun _ s hh ho => ⟨_, _, (fun _ _ hq => wp_pyIter_set S ho hq), walks_set S hh _ (Nat.ne_of_lt (Heap.lt_size ho)), ⟨Heap.get?_push_size _ rfl, Heap.get?_push_of_some _ ho⟩⟩
end
section
variable {K : Params → Frag} {N : Nm} {W : Wd} {Ψ : Frm K N W} {vals : Vals} {l : Led}
variable {a : Addr} {o : Obj} {es : Array (Int × Value)} {ep : Nat} {t : SetTable}
theorem ints_perm {vs vs' : List Value} {ns : List Int} (h : vs.Perm vs') (hi : IntsAre vs ns) : ∃ ns', IntsAre vs' ns' ∧ ns'.Perm ns := by
  induction h generalizing ns with
  | nil => exact ⟨ns, hi, .refl _⟩
  | cons x _ ih =>
    cases hi with
    | cons n t hr => obtain ⟨ns', h1, h2⟩ := ih hr; exact ⟨_, .cons n t h1, h2.cons n⟩
  | swap x y l =>
    cases hi with
    | cons n t hr =>
      cases hr with
      | cons n' t' hr' => exact ⟨_, .cons n' t' (.cons n t hr'), .swap _ _ _⟩
  | trans _ _ ih1 ih2 =>
    obtain ⟨ns1, h1, h2⟩ := ih1 hi
    obtain ⟨ns2, h3, h4⟩ := ih2 h1
    exact ⟨ns2, h3, h4.trans h2⟩
theorem mapSeq_list (f : Array Value → Array Value) (its : Array Value) (n : Nat) : ∃ n', Obj.mapSeq f (seqObj "list" its n) = seqObj "list" (f its) n' := ⟨_, rfl⟩
theorem WA.sortedSet {ks : List Int} {M R : Led} {Q : Value → Vals → Led → Prop} (hh : Ψ.A.handled = none) (S : SetW W.w o es ep t) (hm : (a, o) ∈ M ++ R) (hi : IntsAre (es.toList.map (·.2)) ks) (h64 : es.size < 64)
    (q : ∀ D vs ks' n, IntsAre vs ks' → ks'.Perm ks → ks'.Pairwise (· ≤ ·) → Q (.ref D) vals (M ++ (D, listOf vs.toArray n) :: R)) : WA Ψ (call (.builtin "sorted") [.ref a]) Q vals (M ++ R) := by
  refine WA.permPost fun E s a' => ?_
  have ho := (a'.N _ hm).1
  have U0 := a'.U
  refine kdu_sorted (kdl_set S) hh a'.F a'.N ho (by rw [sizeLine_is]; omega) fun D h' tk vs F' N' l1 hl hv => ?_
  -- what was gathered
  have hperm := ordOf_perm W.w a es ep
  have hsz := ordOf_size W.w a es ep
  have hvs : vs = (ordOf W.w a es ep).toList.map (·.2) := by
    refine List.ext_getElem (by rw [hl]; simp [hsz]) fun j h1 h2 => ?_
    obtain ⟨e, he, hve⟩ := hv j vs[j] (List.getElem?_eq_getElem h1)
    rw [hve]
    simp only [List.getElem_map, Array.getElem_toList]
    rw [Array.getElem?_eq_getElem (by rw [hsz]; omega)] at he
    cases he; rfl
  obtain ⟨ks1, hi1, hp1⟩ : ∃ ks1, IntsAre vs ks1 ∧ ks1.Perm ks := by
    rw [hvs]
    exact ints_perm (hperm.symm.map _) hi
  have hD := N' (D, listOf vs.toArray 0) (.head _)
  have hlt : ∀ b o, h'.get? b = some o → b < h'.objs.size := fun b o e => Heap.lt_size e
  refine wpAny_call_entry PyProof.Rows.slot_list_sort ⟨_, hD.1, rfl⟩ PyProof.Rows.entry_list_sort (list_sort_tree (n := 0) (vs := vs) hD.1 hi1 (by rw [hl]; exact h64) fun out ns' hI hp hP => ⟨.none, rfl, ?_⟩) (PyProof.Rows.args_list_sort _)
  obtain ⟨n', hn'⟩ := sortedHeap_at (out := out) hD.1
  have old : ∀ b ob, b ≠ D → h'.get? b = some ob → (sortedHeap h' D vs out).get? b = some ob := fun b ob hb e => (sortedHeap_old hb (hlt _ _ e)).trans e
  obtain ⟨oL, esL, epL, hL, hLd, hLk, hLf⟩ := F'.ns
  refine ⟨⟨rfl, rfl⟩, vals, (D, listOf out.toList.toArray n') :: (M ++ R), ⟨⟨⟨oL, esL, epL, old _ _ (fun q => hD.2.1 q.symm) hL, hLd, hLk, hLf⟩, fun b ob e => old b ob (fun q => ?_) (F'.keep b ob e), F'.above⟩, fun x hx => ?_, ?_, fun x hx => ?_⟩, _, shiftPerm, q D out.toList ns' n' hI (hp.trans hp1) hP⟩
  · rw [q, hD.2.2] at e; cases e
  · rcases List.mem_cons.mp hx with rfl | hx
    · exact ⟨by simpa using hn', hD.2⟩
    · have := N' x (.tail _ hx)
      exact ⟨old _ _ (fun q => Nat.ne_of_lt (l1 x hx) q) this.1, this.2⟩
  · rw [List.map_cons, List.nodup_cons]
    refine ⟨fun h => ?_, U0⟩
    obtain ⟨x, hx, e⟩ := List.mem_map.mp h
    exact absurd e (Nat.ne_of_lt (l1 x hx))
  · rcases List.mem_cons.mp hx with rfl | hx
    · have := a'.G _ hm
      exact Nat.lt_trans this (l1 _ hm)
    · exact a'.G x hx
end
end
section
open PySem PySem.W PyProof.Rows PySem.Calls
set_option maxRecDepth 100000
set_option maxHeartbeats 8000000
noncomputable def addT (t : SetTable) (ks : List Int) (k : Int) : Option (SetTable × List Int) :=
  match t.freeSlot (hashInt k) with
  | some (slot, false) =>
    let t' := (t.put slot).1
    let ks' := ks.take (t.put slot).2 ++ k :: ks.drop (t.put slot).2
    if t'.fits ks'.length && t'.plain then
      if t'.tooFull then
        match t'.relaid (ks'.map hashInt).toArray (SetTable.grown ks'.length) with
        | some (t'', order) => if coversAll order ks'.length && t''.fits ks'.length && (order.toList.filterMap (ks'[·]?)).length == ks'.length then some (t'', order.toList.filterMap (ks'[·]?)) else none
        | none => none
      else some (t', ks')
    else none
  | _ => none
noncomputable def SetI (o : Obj) (t : SetTable) (ks : List Int) : Prop :=
  ∃ es ep, o.ExactSet ∧ o.data = .set es ep t ∧ es.toList.map (·.1) = ks.map hashInt ∧ IntsAre (es.toList.map (·.2)) ks ∧ t.fits es.size = true
theorem elems_of {prog : Program} {w : World} : ∀ {l : List (Int × Value)} {ks : List Int}, l.map (·.1) = ks.map hashInt → IntsAre (l.map (·.2)) ks → ElemsOf (intKind prog w) l
  | [], _, _, _ => fun e he => by simp at he
  | (h, v) :: l, [], h1, _ => by simp at h1
  | (h, v) :: l, k :: ks, h1, h2 => by
    simp only [List.map_cons, List.cons.injEq] at h1
    simp only [List.map_cons] at h2
    cases h2 with
    | cons n t hr =>
      intro e he
      rcases List.mem_cons.mp he with rfl | he
      · exact ⟨⟨k, intKind_is _ _ _ _, h1.1⟩, rfl⟩
      · exact elems_of h1.2 hr e he
theorem ints_mem {vs : List Value} {ks : List Int} (h : IntsAre vs ks) {k : Int} : k ∈ ks ↔ ∃ v ∈ vs, ∃ t, v = .int k t := by
  induction h with
  | nil => simp
  | cons n t _ ih =>
    rw [List.mem_cons, ih]
    constructor
    · rintro (rfl | ⟨v, hv, t', e⟩)
      · exact ⟨_, .head _, t, rfl⟩
      · exact ⟨v, .tail _ hv, t', e⟩
    · rintro ⟨v, hv, t', e⟩
      rcases List.mem_cons.mp hv with rfl | hv
      · cases e; exact .inl rfl
      · exact .inr ⟨v, hv, t', e⟩
theorem ints_take {vs : List Value} {ks : List Int} (h : IntsAre vs ks) (p : Nat) : IntsAre (vs.take p) (ks.take p) := by
  induction h generalizing p with
  | nil => simpa using IntsAre.nil
  | cons n t _ ih =>
    cases p with
    | zero => exact .nil
    | succ p => exact .cons n t (ih p)
theorem ints_drop {vs : List Value} {ks : List Int} (h : IntsAre vs ks) (p : Nat) : IntsAre (vs.drop p) (ks.drop p) := by
  induction h generalizing p with
  | nil => simpa using IntsAre.nil
  | cons n t hr ih =>
    cases p with
    | zero => exact .cons n t hr
    | succ p => exact ih p
theorem ints_app {vs vs' : List Value} {ks ks' : List Int} (h : IntsAre vs ks) (h' : IntsAre vs' ks') : IntsAre (vs ++ vs') (ks ++ ks') := by
  induction h with
  | nil => exact h'
  | cons n t _ ih => exact .cons n t ih
theorem ints_pick {vs : List Value} {ks : List Int} (h : IntsAre vs ks) : ∀ order : List Nat, IntsAre (order.filterMap (vs[·]?)) (order.filterMap (ks[·]?))
  | [] => .nil
  | j :: r => by
    have hl := ints_len h
    have ih := ints_pick h r
    simp only [List.filterMap_cons]
    cases hk : ks[j]? with
    | none =>
      have : vs[j]? = none := by rw [List.getElem?_eq_none_iff] at hk ⊢; omega
      rw [this]; exact ih
    | some k =>
      obtain ⟨t, ht⟩ := ints_get h hk
      rw [ht]; exact .cons k t ih
theorem map_pick {α β : Type} (f : α → β) (l : List α) : ∀ order : List Nat, (order.filterMap (l[·]?)).map f = order.filterMap ((l.map f)[·]?)
  | [] => rfl
  | j :: r => by
    simp only [List.filterMap_cons]
    rw [List.getElem?_map]
    cases l[j]? with
    | none => simpa using map_pick f l r
    | some x => simpa using map_pick f l r
section
variable {prog : Program} {w : World} {A : Around} {E : Value → Shared → Prop} {s : Shared} {a : Addr} {o : Obj} {t t' : SetTable} {ks ks' : List Int} {k : Int} {tk : Tok}
theorem find_none {l : List (Int × Value)} (hI : IntsAre (l.map (·.2)) ks) (hk : k ∉ ks) : List.findIdx? (fun e => (intKind prog w).is k e.2) l = none := by
  rw [List.findIdx?_eq_none_iff]
  intro e he
  cases hb : (intKind prog w).is k e.2 with
  | false => rfl
  | true =>
    obtain ⟨t, ht⟩ : ∃ t, e.2 = .int k t := by
      exact Value.isInt_shape hb
    exact absurd ((ints_mem hI).mpr ⟨e.2, List.mem_map_of_mem he, t, ht⟩) hk
theorem wp_setAdd_new (I : SetI o t ks) (ho : s.heap.get? a = some o) (hk : k ∉ ks) (hadd : addT t ks k = some (t', ks')) (hb : ks.length + 1 < scanBound) {Q : Bool → Shared → Prop}
    (q : ∀ h' o', h'.get? a = some o' → SetI o' t' ks' → Heap.SameBut a s.heap h' → Q true { s with heap := h' }) : wpAny (model prog w) A (setAddHashed a (.int k tk) (hashInt k)) Q E s := by
  obtain ⟨es, ep, hex, hd, hh, hI, hf⟩ := I
  have hel := elems_of (prog := prog) (w := w) hh hI
  have hn : es.size = ks.length := by have := ints_len hI; simpa using this
  have hkey : (intKind prog w).is k (.int k tk) = true := intKind_is _ _ _ _
  unfold setAddHashed setAddHashedIn
  refine wpAny_holding (wpAny_bind (wpAny_setState_of ho hd hf ?_))
  dsimp only
  rw [byScan_of (knd := intKind prog w) rfl (by first | decide | lia | omega) hel]
  simp only [↓reduceIte]
  unfold setAddByScan
  refine wpAny_bind ?_
  refine wpAny_bind (wpAny_rule ?_)
  refine wpAny_bind (wpAny_setScan_of hkey ho hd hf hel ?_)
  rw [find_none hI hk]
  dsimp only
  have hgw : ∀ (b : Bool) {s₁ : Shared} {Q' : Unit → Shared → Prop}, Q' () s₁ → wpAny (model prog w) A (match b with | true => rule "set.scan.the-table-gave-way" | false => Pure.pure ()) Q' E s₁ :=
    fun b s₁ Q' hq => by cases b <;> first | exact wpAny_pure hq | exact wpAny_rule hq
  -- the reckoned table
  unfold addT at hadd
  split at hadd
  · rename_i slot hslot
    obtain ⟨t1, p, hput⟩ : ∃ t1 p, t.put slot = (t1, p) := ⟨_, _, rfl⟩
    simp only [hput] at hadd
    split at hadd
    · rename_i hc
      simp only [Bool.and_eq_true] at hc
      have hks1 : (ks.take p ++ k :: ks.drop p).length = es.size + 1 := by
        rw [hn, List.length_append, List.length_cons, List.length_take, List.length_drop]; omega
      have hes1 : (SetTable.insertAt es p (hashInt k, Value.int k tk)).size = es.size + 1 := by
        have := (SetTable.insertAt_perm es p (hashInt k, Value.int k tk)).length_eq
        simpa using this
      have hf1 : t1.fits (SetTable.insertAt es p (hashInt k, Value.int k tk)).size = true := by rw [hes1, ← hks1]; exact hc.1
      have hlay : layNew t es (hashInt k) (.int k tk) = (SetTable.insertAt es p (hashInt k, .int k tk), t1, false, false) := by
        unfold layNew
        rw [hslot]
        simp only [hput]
        unfold SetTable.orStandIn
        rw [if_pos hf1, hf1]; rfl
      rw [hlay]
      dsimp only
      have hl1 : (SetTable.insertAt es p (hashInt k, Value.int k tk)).toList = es.toList.take p ++ (hashInt k, Value.int k tk) :: es.toList.drop p := SetTable.toList_insertAt _ _ _
      have hh1 : (SetTable.insertAt es p (hashInt k, Value.int k tk)).toList.map (·.1) = (ks.take p ++ k :: ks.drop p).map hashInt := by
        rw [hl1, List.map_append, List.map_cons, List.map_append, List.map_cons, List.map_take, List.map_drop, hh, List.map_take, List.map_drop]
      have hI1 : IntsAre ((SetTable.insertAt es p (hashInt k, Value.int k tk)).toList.map (·.2)) (ks.take p ++ k :: ks.drop p) := by
        rw [hl1, List.map_append, List.map_cons, List.map_take, List.map_drop]
        exact ints_app (ints_take hI p) (.cons k tk (ints_drop hI p))
      generalize SetTable.insertAt es p (hashInt k, Value.int k tk) = es1 at hes1 hf1 hl1 hh1 hI1 ⊢
      generalize ks.take p ++ k :: ks.drop p = ks1 at hks1 hadd hh1 hI1 hc ⊢
      refine wpAny_bind (wpAny_pure ?_)
      rw [if_pos hc.2]
      refine wpAny_bind ?_
      rw [hashByValue_scannable 8 rfl]
      refine wpAny_pure ?_
      have hsz1 : es1.size < scanBound := by first | decide | lia | omega
      have hg : (s.heap.update a (Obj.putSet es1 t1)).get? a = some { o with data := .set es1 (ep + 1) t1 } := by
        have := Heap.get?_update_self (Obj.putSet es1 t1) ho (by rw [putSet_of es1 t1 hd]; rfl)
        rw [putSet_of es1 t1 hd] at this; exact this
      have hsb1 := Heap.SameBut.update s.heap a (Obj.putSet es1 t1)
      simp only [plainKind, if_true]
      refine wpAny_bind (wpAny_storeSet_of ho hd ?_ (fits_of_scanBound hsz1))
      split at hadd
      · rename_i hfull
        simp only [hfull, Bool.not_false, Bool.true_and, if_true]
        split at hadd
        · rename_i t2 order hrel
          split at hadd
          · rename_i hc2
            cases hadd
            simp only [Bool.and_eq_true, beq_iff_eq] at hc2
            have hall : relayAll t1 es1 (SetTable.grown es1.size) = (order.filterMap (es1[·]?), t', false) := by
              unfold relayAll
              have e1 : es1.map (·.1) = (ks1.map hashInt).toArray := by
                apply Array.ext'
                simp [hh1]
              rw [e1, hes1, ← hks1, hrel]
              dsimp only
              have e2 : (order.filterMap (es1[·]?)).size = ks1.length := by
                have := congrArg List.length (map_pick (·.1) es1.toList order.toList)
                rw [List.length_map, hh1] at this
                have e3 := congrArg List.length (map_pick hashInt ks1 order.toList)
                rw [List.length_map] at e3
                rw [← hc2.2, ← Array.length_toList, Array.toList_filterMap]
                simp only [Array.getElem?_toList] at this
                rw [this, ← e3]
              rw [e2, if_pos]
              rw [Bool.and_eq_true]
              exact hc2.1
            rw [hall]
            dsimp only
            refine wpAny_bind (wpAny_pure ?_)
            have hes2 : (order.filterMap (es1[·]?)).toList = order.toList.filterMap (es1.toList[·]?) := by
              rw [Array.toList_filterMap]
              simp only [Array.getElem?_toList]
            have hz2 : (order.filterMap (es1[·]?)).size = (order.toList.filterMap (ks1[·]?)).length := by
              rw [← Array.length_toList, hes2]
              have h1 := ints_len (ints_pick hI1 order.toList)
              rw [← map_pick, List.length_map] at h1
              exact h1
            have hsz2 : (order.filterMap (es1[·]?)).size < scanBound := by rw [hz2, hc2.2]; omega
            refine wpAny_bind (wpAny_storeSet_of hg rfl ?_ (fits_of_scanBound hsz2))
            have hg2 : ((s.heap.update a (Obj.putSet es1 t1)).update a (Obj.putSet (order.filterMap (es1[·]?)) t')).get? a = some { o with data := .set (order.filterMap (es1[·]?)) (ep + 1 + 1) t' } := by
              have := Heap.get?_update_self (Obj.putSet (order.filterMap (es1[·]?)) t') hg (by rw [putSet_of _ _ rfl]; rfl)
              rw [putSet_of _ _ rfl] at this; exact this
            refine wpAny_pure (wpAny_pure (q _ _ hg2 ⟨_, _, hex, rfl, ?_, ?_, ?_⟩ (hsb1.trans (Heap.SameBut.update _ a _))))
            · rw [hes2, map_pick, hh1, map_pick]
            · rw [hes2, map_pick]; exact ints_pick hI1 _
            · rw [hz2, hc2.2]; exact hc2.1.2
          · cases hadd
        · cases hadd
      · rename_i hfull
        cases hadd
        simp only [hfull, Bool.not_false, Bool.true_and, Bool.false_eq_true, if_false]
        exact wpAny_pure (wpAny_pure (q _ _ hg ⟨es1, ep + 1, hex, rfl, hh1, hI1, hf1⟩ hsb1))
    · cases hadd
  · cases hadd
theorem wp_setAdd_old (I : SetI o t ks) (ho : s.heap.get? a = some o) (hk : k ∈ ks) (hb : ks.length < scanBound) {Q : Bool → Shared → Prop}
    (q : Q false s) : wpAny (model prog w) A (setAddHashed a (.int k tk) (hashInt k)) Q E s := by
  obtain ⟨es, ep, hex, hd, hh, hI, hf⟩ := I
  have hel := elems_of (prog := prog) (w := w) hh hI
  have hn : es.size = ks.length := by have := ints_len hI; simpa using this
  have hkey : (intKind prog w).is k (.int k tk) = true := intKind_is _ _ _ _
  unfold setAddHashed setAddHashedIn
  refine wpAny_holding (wpAny_bind (wpAny_setState_of ho hd hf ?_))
  dsimp only
  rw [byScan_of (knd := intKind prog w) rfl (by first | decide | lia | omega) hel]
  simp only [↓reduceIte]
  unfold setAddByScan
  refine wpAny_bind ?_
  refine wpAny_bind (wpAny_rule ?_)
  refine wpAny_bind (wpAny_setScan_of hkey ho hd hf hel ?_)
  obtain ⟨v, hv, t', rfl⟩ := (ints_mem hI).mp hk
  obtain ⟨e, he, hev⟩ := List.mem_map.mp hv
  cases hr : List.findIdx? (fun e => (intKind prog w).is k e.2) es.toList with
  | none =>
    have := List.findIdx?_eq_none_iff.mp hr e he
    rw [hev, intKind_is] at this; cases this
  | some j =>
    dsimp only
    exact wpAny_pure (wpAny_pure q)
end
theorem fun_nodup {α : Type} {f : α → Addr} {pre post : List α} {x : Addr} (h : (pre.map f).Nodup ∧ (x ∉ post.map f ∧ (post.map f).Nodup) ∧ ∀ a ∈ pre.map f, ∀ b ∈ x :: post.map f, a ≠ b) : ((pre ++ post).map f).Nodup := by
  rw [List.map_append, List.nodup_append]
  exact ⟨h.1, h.2.1.2, fun a ha b hb => h.2.2 a ha b (.tail _ hb)⟩
section
variable {K : Params → Frag} {N : Nm} {W : Wd} {Ψ : Frm K N W} {vals : Vals} {l : Led}
variable {a : Addr} {o : Obj} {t t' : SetTable} {ks ks' : List Int} {k : Int} {tk : Tok}
theorem setTypeIs {s : Shared} (I : SetI o t ks) (ho : s.heap.get? a = some o) : s.TypeIs (.ref a) "set" := let ⟨_, _, hex, _⟩ := I; ⟨o, ho, hex.1⟩
theorem WA.setAddNew {pre post : Led} {Q : Value → Vals → Led → Prop} (hl : l = pre ++ (a, o) :: post) (I : SetI o t ks) (hk : k ∉ ks) (hadd : addT t ks k = some (t', ks')) (hb : ks.length + 1 < scanBound)
    (q : ∀ o', SetI o' t' ks' → Q .none vals (pre ++ (a, o') :: post)) : WA Ψ (call (.builtin "set.add") [.ref a, .int k tk]) Q vals l := fun E s a' => by
  subst hl
  have ho := (a'.N _ (List.mem_append_right _ (.head _))).1
  refine wpAny_call_entry PySem.F.slot_set_add (setTypeIs I ho) PySem.F.entry_set_add ?_ (PySem.F.args_set_add_2 _ _)
  unfold Builtin.«set.add» Builtin.Frozenset.oneOther
  simp only [List.isEmpty_nil, bind_assoc]
  unfold Builtin.Frozenset.addrOf setAdd
  refine wpAny_bind (wpAny_pure ?_)
  try dsimp only
  refine wpAny_bind (wpAny_pure ?_)
  try dsimp only
  refine wpAny_bind ?_
  refine wpAny_holding ?_
  refine wpAny_bind ((intKind W.prog W.w).pyHash (k := k) (intKind_is _ _ _ _) ?_)
  refine wp_setAdd_new (s := { s with toks := s.toks + 1 }) I ho hk hadd hb fun h' o' ho' I' hs => ?_
  show wpAny _ _ (PySem.ret Value.none) _ _ _
  exact wpAny_pure ⟨_, rfl, ⟨rfl, rfl⟩, vals, _, a'.upd hs ho', q o' I'⟩
theorem WA.setAddOld {Q : Value → Vals → Led → Prop} (hm : (a, o) ∈ l) (I : SetI o t ks) (hk : k ∈ ks) (hb : ks.length < scanBound)
    (q : Q .none vals l) : WA Ψ (call (.builtin "set.add") [.ref a, .int k tk]) Q vals l := fun E s a' => by
  have ho := (a'.N _ hm).1
  refine wpAny_call_entry PySem.F.slot_set_add (setTypeIs I ho) PySem.F.entry_set_add ?_ (PySem.F.args_set_add_2 _ _)
  unfold Builtin.«set.add» Builtin.Frozenset.oneOther
  simp only [List.isEmpty_nil, bind_assoc]
  unfold Builtin.Frozenset.addrOf setAdd
  refine wpAny_bind (wpAny_pure ?_)
  try dsimp only
  refine wpAny_bind (wpAny_pure ?_)
  try dsimp only
  refine wpAny_bind ?_
  refine wpAny_holding ?_
  refine wpAny_bind ((intKind W.prog W.w).pyHash (k := k) (intKind_is _ _ _ _) ?_)
  refine wp_setAdd_old (s := { s with toks := s.toks + 1 }) I ho hk hb ?_
  show wpAny _ _ (PySem.ret Value.none) _ _ _
  exact wpAny_pure ⟨_, rfl, ⟨rfl, rfl⟩, vals, _, ⟨a'.F, a'.N, a'.U, a'.G⟩, q⟩
theorem WA.setIterM {es : Array (Int × Value)} {ep : Nat} {M R : Led} {Q : Value → Vals → Led → Prop} (S : SetW W.w o es ep t) (hm : (a, o) ∈ M ++ R) (q : ∀ x, Q (.ref x) vals (M ++ (x, setItObj a (slotW W.w t 0) 0 es.size ep) :: R)) : WA Ψ (pyIter (.ref a)) Q vals (M ++ R) :=
  WA.permPost fun E s a' => wp_pyIter_set S (a'.N _ hm).1 ⟨⟨rfl, rfl⟩, vals, _, a'.push, _, shiftPerm, q _⟩
theorem WA.setIterSelf {es : Array (Int × Value)} {ep i n slot : Nat} {it : Addr} {Q : Value → Vals → Led → Prop} (hm : (it, setItObj a slot i n ep) ∈ l) (q : Q (.ref it) vals l) : WA Ψ (pyIter (.ref it)) Q vals l := fun E s a' =>
  wp_pyIter_setIt (a'.N _ hm).1 ⟨Same.refl s, vals, l, a', q⟩
theorem WA.setNext {es : Array (Int × Value)} {ep i : Nat} {it : Addr} {e : Int × Value} {pre post : Led} {Q : Option Value → Vals → Led → Prop} (S : SetW W.w o es ep t) (hl : l = pre ++ (it, setItObj a (slotW W.w t i) i es.size ep) :: post) (hm : (a, o) ∈ pre ++ post) (hi : i < es.size) (he : (ordOf W.w a es ep)[i]? = some e)
    (q : Q (some e.2) vals (pre ++ (it, setItObj a (slotW W.w t (i + 1)) (i + 1) es.size ep) :: post)) : WA Ψ (pyNext (.ref it)) Q vals l := fun E s a' => by
  subst hl
  have hU := a'.U
  have hne : a ≠ it := by
    rw [List.map_append, List.map_cons, List.nodup_append, List.nodup_cons] at hU
    intro e
    rcases List.mem_append.mp hm with h | h
    · exact hU.2.2 a (List.mem_map_of_mem (f := (·.1)) h) it (.head _) e
    · exact hU.2.1.1 (e ▸ List.mem_map_of_mem (f := (·.1)) h)
  have ho := (a'.N (a, o) (by rcases List.mem_append.mp hm with h | h; exact List.mem_append_left _ h; exact List.mem_append_right _ (.tail _ h))).1
  have hit := (a'.N _ (List.mem_append_right _ (.head _))).1
  exact wp_next_set_some S ho hi he hit hne fun h' hit' hs => ⟨⟨rfl, rfl⟩, vals, _, a'.upd hs hit', q⟩
theorem WA.setNextEnd {es : Array (Int × Value)} {ep : Nat} {it : Addr} {pre post : Led} {Q : Option Value → Vals → Led → Prop} (hh : Ψ.A.handled = none) (S : SetW W.w o es ep t) (hl : l = pre ++ (it, setItObj a (slotW W.w t es.size) es.size es.size ep) :: post) (hm : (a, o) ∈ pre ++ post)
    (q : Q none vals (pre ++ post)) : WA Ψ (pyNext (.ref it)) Q vals l := fun E s a' => by
  subst hl
  have hU := a'.U
  rw [List.map_append, List.map_cons, List.nodup_append, List.nodup_cons] at hU
  have ne : ∀ x ∈ pre ++ post, x.1 ≠ it := by
    intro x hx e
    rcases List.mem_append.mp hx with h | h
    · exact hU.2.2 x.1 (List.mem_map_of_mem (f := (·.1)) h) it (.head _) e
    · exact hU.2.1.1 (e ▸ List.mem_map_of_mem (f := (·.1)) h)
  have up : ∀ x ∈ pre ++ post, x ∈ pre ++ (it, setItObj a (slotW W.w t es.size) es.size es.size ep) :: post := fun x hx => by
    rcases List.mem_append.mp hx with h | h
    · exact List.mem_append_left _ h
    · exact List.mem_append_right _ (.tail _ h)
  have a2 := a'.sub (l' := pre ++ post) up (fun_nodup hU)
  have ho := (a2.N _ hm).1
  have hit := a'.N _ (List.mem_append_right _ (.head _))
  refine wp_next_set_none S ho hh (ordOf_size W.w a es ep) hit.1 (ne _ hm) fun h' o' _ he => ⟨⟨rfl, rfl⟩, vals, _, ⟨⟨?_, fun b ob e => he b ob (fun q => ?_) (a2.F.keep b ob e), a2.F.above⟩, fun x hx => ⟨he _ _ (ne x hx) (a2.N x hx).1, (a2.N x hx).2⟩, a2.U, a2.G⟩, q⟩
  · obtain ⟨oL, esL, epL, hL, r⟩ := a2.F.ns
    exact ⟨oL, esL, epL, he _ _ (fun q => hit.2.1 q.symm) hL, r⟩
  · rw [q, hit.2.2] at e; cases e
end
end
section
open PySem PySem.W PyProof.Rows PySem.Calls
set_option maxRecDepth 100000
noncomputable abbrev freshSet (w : World) : Obj := { cls := .type "set", dict := none, data := .set #[] 0 (.fresh 0 0 (!(byT w))) }
section
variable {prog : Program} {w : World} {A : Around} {E : Value → Shared → Prop} {s : Shared}
theorem code_set_led (x : Value) {Q₁ : Value → Shared → Prop} (h : Q₁ (.ref s.heap.objs.size) { s with heap := s.heap.push (freshSet w) }) :
    codeAny (model prog w) A (.call (.builtin "set.__new__") ⟨[.type "set", x], []⟩) (wants Q₁ E) s := by
  refine codeAny_of_tree ?_
  show wpAny _ A.in1 (do checkBuiltinCall "set.__new__" ⟨[.type "set", x], []⟩; again (.builtin "set.__new__" ⟨[.type "set", x], []⟩)) _ _ s
  refine wpAny_bind (wpAny_of_eq (PySem.F.newCall_set_1 x) (wpAny_pure ⟨plainId_quiet PySem.F.plain_set_new _, codeAny_builtin PySem.F.entry_set_new ?_⟩))
  rw [Around.under_plainId PySem.F.plain_set_new _]
  unfold Builtin.«set.__new__» Builtin.Frozenset.newClass
  have hsub := sub_set_self
  obtain ⟨hp, g, d, tk, os⟩ := s
  dsimp only
  wp_walk
  refine wpAny_askSetting (wpAny_pure ?_)
  dsimp only
  simp only [newObj]
  refine wpAny_bind (wpAny_alloc (wpAny_pure ?_))
  exact wpAny_pure h
set_option maxHeartbeats 3200000 in
theorem call_set1 {x : Value} {Q : Value → Shared → Prop}
    (h : ∀ A' : Around, A'.handled = A.handled → wpAny (model prog w) A' (Builtin.Frozenset.updateFrom "set.__init__" s.heap.objs.size x) (fun _ s' => Q (.ref s.heap.objs.size) s') (fun _ _ => False) { s with heap := s.heap.push (freshSet w) }) :
    wpAny (model prog w) A (call (.type "set") [x]) Q E s := by
  obtain ⟨c, tl, hmro⟩ := PySem.F.called_set.mro
  have hmade := PySem.F.called_set.made
  have hsub := PySem.F.called_set.sub
  refine wpAny_call (codeAny_of_tree ?_)
  show wpAny _ _ (callAny (.type "set") _) _ _ _
  refine wpAny_pure ⟨Code.quiet_builtin _ (by decide +kernel), codeAny_builtin PySem.F.entry_type_call ?_⟩
  rw [Around.under_plain (weight_type_call_type "set" [x] []) rfl]
  have h1 := PySem.F.called_set.notType
  have h2 := PySem.F.called_set.canCreate
  have hct := PySem.F.typeCall_set_1 x
  repeat (any_goals (first | assumption | wp_step))
  refine codeAny_mono (code_set_led x (E := E) (Q₁ := fun obj s₁ => obj = .ref s.heap.objs.size ∧ s₁ = { s with heap := s.heap.push (freshSet w) }) ⟨rfl, rfl⟩) fun r s₁ hr => ?_
  cases r with
  | error e => exact hr
  | ok fl =>
    cases fl with
    | ret obj =>
      obtain ⟨rfl, rfl⟩ := hr
      have hS : (s.heap.push (freshSet w)).get? s.heap.objs.size = some (freshSet w) := Heap.get?_push_size _ rfl
      have hT : Shared.TypeIs { s with heap := s.heap.push (freshSet w) } (.ref s.heap.objs.size) "set" := ⟨_, hS, rfl⟩
      have hli := PySem.F.called_set.init.lookup
      have hbi := PySem.F.called_set.init.bind (.ref s.heap.objs.size)
      repeat (any_goals (first | assumption | wp_step))
      refine codeAny_mono (codeAny_call_builtin (R := wants (fun r s₂ => r = .none ∧ Q (.ref s.heap.objs.size) s₂) E) PySem.F.called_set.init.plain PySem.F.entry_set_init (check_set_init_1 hT ?_)) fun r₂ s₂ hr₂ => ?_
      · have h' := h A.in1.in1 rfl
        unfold Builtin.«set.__init__» noKeywords
        generalize hUF : Builtin.Frozenset.updateFrom = UF at h' ⊢
        wp_walk
        exact wpAny_mono h' (fun _ s' q => wpAny_pure ⟨rfl, q⟩) (fun _ _ f => f.elim)
      · cases r₂ with
        | error e => exact hr₂
        | ok fl₂ =>
          cases fl₂ with
          | ret r =>
            obtain ⟨rfl, hq⟩ := hr₂
            repeat (any_goals (first | assumption | wp_step))
          | _ => exact hr₂.elim
    | _ => exact hr.elim
end
end
section
open PySem PySem.W PyProof.Rows PySem.Calls
set_option maxRecDepth 100000
set_option maxHeartbeats 4000000
noncomputable def foldS : SetTable × List Int → List Int → Option (SetTable × List Int)
  | st, [] => some st
  | st, k :: xs => if k ∈ st.2 then foldS st xs else match addT st.1 st.2 k with
    | some st' => foldS st' xs
    | none => none
theorem addT_len {t t' : SetTable} {ks ks' : List Int} {k : Int} (h : addT t ks k = some (t', ks')) : ks'.length = ks.length + 1 := by
  unfold addT at h
  split at h
  · rename_i slot _
    simp only at h
    have hl : (ks.take (t.put slot).2 ++ k :: ks.drop (t.put slot).2).length = ks.length + 1 := by
      rw [List.length_append, List.length_cons, List.length_take, List.length_drop]; omega
    split at h
    · split at h
      · split at h
        · split at h
          · rename_i hc
            cases h
            simp only [Bool.and_eq_true, beq_iff_eq] at hc
            rw [hc.2]
            exact hl
          · cases h
        · cases h
      · cases h; exact hl
    · cases h
  · cases h
section
variable {prog : Program} {w : World} {A : Around} {R : Result → Shared → Prop} {I : Addr} {fp wr : List Addr} {n : Nat} {P : Nat → Value → Prop} {St : Nat → Heap → Prop}
theorem code_update_loop (W : Walks prog w A.in1 I fp wr n P St) (S : Addr) (hSf : S ∉ fp) (xs : List Int) (hx : xs.length = n) (hval : ∀ i v, P i v → ∃ k t, xs[i]? = some k ∧ v = .int k t) (t' : SetTable) (ks' : List Int) :
    ∀ (j i : Nat) (s : Shared) (o : Obj) (t : SetTable) (ks : List Int), n - i = j → i ≤ n → St i s.heap → s.heap.get? S = some o → SetI o t ks → foldS (t, ks) (xs.drop i) = some (t', ks') → ks.length + j + 1 < scanBound →
      (∀ h' tk o', h'.get? S = some o' → SetI o' t' ks' → (∀ b ob, b ∉ wr → b ≠ S → s.heap.get? b = some ob → h'.get? b = some ob) → R (.ok (.ret .none)) { s with heap := h', toks := tk }) →
      codeAny (model prog w) A (.builtin "set.update.loop" ⟨[.ref S, .ref I], []⟩) R s := by
  have hSw : S ∉ wr := fun h => hSf (W.sub _ h)
  intro j
  induction j with
  | zero =>
    intro i s o t ks hj hi hst ho hI hf hb hR
    obtain rfl : i = n := by first | decide | lia | omega
    rw [List.drop_eq_nil_of_le (by first | decide | lia | omega)] at hf
    cases hf
    refine codeAny_builtin PyProof.Rows.F.entry_set_update_loop ?_
    rw [Around.under_plainId PyProof.Rows.F.plain_set_update_loop _]
    show wpAny _ A.in1 (pyNext (.ref I) >>= _) _ _ s
    refine wpAny_bind (W.done s _ _ hst fun h' tk hk => ?_)
    show wpAny _ A.in1 (PySem.ret Value.none) _ _ _
    exact wpAny_pure (hR h' tk o (hk _ _ hSw ho) hI fun b ob hb _ e => hk b ob hb e)
  | succ j ih =>
    intro i s o t ks hj hi hst ho hI hf hb hR
    have hlt : i < n := by first | decide | lia | omega
    refine codeAny_builtin PyProof.Rows.F.entry_set_update_loop ?_
    rw [Around.under_plainId PyProof.Rows.F.plain_set_update_loop _]
    show wpAny _ A.in1 (pyNext (.ref I) >>= _) _ _ s
    refine wpAny_bind (W.item i s _ _ hlt hst fun v h1 tk1 hP hst1 hk1 => ?_)
    obtain ⟨k, tk, hxk, rfl⟩ := hval i v hP
    have ho1 := hk1 _ _ hSw ho
    have hd : xs.drop i = k :: xs.drop (i + 1) := by
      have hi' : i < xs.length := by first | decide | lia | omega
      rw [List.getElem?_eq_getElem hi'] at hxk
      cases hxk
      exact List.drop_eq_getElem_cons hi'
    rw [hd] at hf
    simp only [foldS] at hf
    show wpAny _ A.in1 (PySem.holding [Value.int k tk] (setAdd S (.int k tk)) >>= _) _ _ _
    refine wpAny_bind (wpAny_holding ?_)
    unfold setAdd
    refine wpAny_holding ?_
    refine wpAny_bind ((intKind prog w).pyHash (k := k) (intKind_is _ _ _ _) ?_)
    split at hf
    · rename_i hmem
      refine wp_setAdd_old (s := { s with heap := h1, toks := tk1 + 1 }) hI ho1 hmem (by first | decide | lia | omega) ?_
      refine wpAny_pure ⟨plainId_quiet PyProof.Rows.F.plain_set_update_loop _, ih (i + 1) _ o t ks (by first | decide | lia | omega) hlt hst1 ho1 hI hf (by first | decide | lia | omega) fun h' tk' o' ho' hI' hk' => ?_⟩
      exact hR h' tk' o' ho' hI' fun b ob hb hbS e => hk' b ob hb hbS (hk1 b ob hb e)
    · rename_i hmem
      split at hf
      · rename_i st' hadd
        obtain ⟨t2, ks2⟩ := st'
        have hlen := addT_len hadd
        refine wp_setAdd_new (s := { s with heap := h1, toks := tk1 + 1 }) hI ho1 hmem hadd (by first | decide | lia | omega) fun h2 o2 ho2 hI2 hs2 => ?_
        refine wpAny_pure ⟨plainId_quiet PyProof.Rows.F.plain_set_update_loop _, ih (i + 1) _ o2 t2 ks2 (by first | decide | lia | omega) hlt (W.frame _ _ _ hst1 fun b hb ob e => (hs2.2 b (fun q => hSf (q ▸ hb))).trans e) ho2 hI2 hf (by first | decide | lia | omega) fun h' tk' o' ho' hI' hk' => ?_⟩
        exact hR h' tk' o' ho' hI' fun b ob hb hbS e => hk' b ob hb hbS ((hs2.2 b hbS).trans (hk1 b ob hb e))
      · cases hf
end
section
variable {prog : Program} {w : World} {A : Around} {E : Value → Shared → Prop} {s : Shared}
theorem freshI : SetI (freshSet w) (.fresh 0 0 (!(byT w))) [] := ⟨#[], 0, ⟨rfl, rfl, rfl⟩, rfl, rfl, .nil, rfl⟩
theorem wp_update_src {S r : Addr} {T : String} {n : Nat} {xs : List Int} {t' : SetTable} {ks' : List Int} {Q : Unit → Shared → Prop} (hh : A.handled = none) (hT : s.TypeIs (.ref r) T) (h1 : isSubtype (.type T) (.type "set") = Pure.pure false) (h2 : isSubtype (.type T) (.type "frozenset") = Pure.pure false) (h3 : (Value.type T == Value.type "dict") = false)
    (hS : s.heap.get? S = some (freshSet w)) (hf : foldS (.fresh 0 0 (!(byT w)), []) xs = some (t', ks')) (hz : xs.length ≤ 1000) (hx : xs.length = n)
    (hit : ∀ A' : Around, A'.handled = none → ∀ E' : Value → Shared → Prop, ∀ Q' : Value → Shared → Prop, (∀ (I : Addr) (oI : Obj) (fp wr : List Addr) (P : Nat → Value → Prop) (St : Nat → Heap → Prop), I = s.heap.objs.size → (∀ b ∈ fp, b = I ∨ b < S) → (∀ b ∈ wr, b = I) → Walks prog w A'.in1 I fp wr n P St → St 0 (s.heap.push oI) → (∀ i v, P i v → ∃ k t, xs[i]? = some k ∧ v = .int k t) → Q' (.ref I) { s with heap := s.heap.push oI }) → wpAny (model prog w) A' (pyIter (.ref r)) Q' E' s)
    (q : ∀ h' tk o', h'.get? S = some o' → SetI o' t' ks' → (∀ b ob, b ≠ S → s.heap.get? b = some ob → h'.get? b = some ob) → Q () { s with heap := h', toks := tk }) :
    wpAny (model prog w) A (Builtin.Frozenset.updateFrom "set.__init__" S (.ref r)) Q E s := by
  unfold Builtin.Frozenset.updateFrom Builtin.Frozenset.isAnySet
  refine wpAny_bind (wpAny_bind (wpAny_isInstance hT h1 ?_))
  dsimp only
  refine wpAny_isInstance hT h2 ?_
  simp only [Bool.false_eq_true, if_false]
  refine wpAny_bind (wpAny_typeOf hT ?_)
  rw [if_neg (by rw [h3]; exact Bool.false_ne_true)]
  refine wpAny_bind (hit A hh _ _ fun I oI fp wr P St hI hfp hwr W st hval => ?_)
  refine wpAny_bind (wpAny_runValue ?_)
  have hSI : S ≠ I := by rw [hI]; exact Nat.ne_of_lt (Heap.lt_size hS)
  refine code_update_loop W S (fun hm => ?_) xs hx hval t' ks' n 0 _ (freshSet w) _ [] (by first | decide | lia | omega) (Nat.zero_le _) st (Heap.get?_push_of_some _ hS) freshI (by simpa using hf) (by unfold scanBound; simp; omega) fun h' tk o' ho' hI' hk' => ?_
  · rcases hfp S hm with h | h
    · exact hSI h
    · exact Nat.lt_irrefl _ h
  · refine wpAny_pure ?_
    exact q h' tk o' ho' hI' fun b ob hb e => hk' b ob (fun hm => absurd (Heap.lt_size e) (by rw [hwr b hm, hI]; exact Nat.lt_irrefl _)) hb (Heap.get?_push_of_some _ e)
end
end
section
open PySem PySem.W PyProof.Rows PySem.Calls
set_option maxRecDepth 100000
set_option maxHeartbeats 4000000
theorem sub_set_set : isSubtype (.type "set") (.type "set") = Pure.pure true := by rw [isSubtype_type]; kernel_rfl
structure Plain7 (w : World) (t : SetTable) (n : Nat) : Prop where
  mask : t.mask = 7
  dum : t.dummies = #[]
  fin : t.finger = 0
  mov : t.moves = 0
  led : t.led = !(byT w)
  pl : t.plain = true
  n4 : n ≤ 4
section
variable {prog : Program} {w : World} {A : Around} {E : Value → Shared → Prop} {s : Shared}
theorem wp_update_set {S r : Addr} {o : Obj} {t : SetTable} {ks : List Int} {Q : Unit → Shared → Prop} (I : SetI o t ks) (ho : s.heap.get? r = some o) (hp : Plain7 w t ks.length) (hS : s.heap.get? S = some (freshSet w)) (hne : S ≠ r) (he : t = .fresh 0 0 (!(byT w)) ∨ ks ≠ [])
    (q : ∀ h' o', h'.get? S = some o' → SetI o' t ks → Heap.SameBut S s.heap h' → Q () { s with heap := h' }) :
    wpAny (model prog w) A (Builtin.Frozenset.updateFrom "set.__init__" S (.ref r)) Q E s := by
  have hT := setTypeIs I ho
  obtain ⟨es, ep, hex, hd, hh, hI, hf⟩ := I
  have hn : es.size = ks.length := by have := ints_len hI; simpa using this
  have hb : (S == r) = false := by simpa using hne
  unfold Builtin.Frozenset.updateFrom Builtin.Frozenset.isAnySet
  refine wpAny_bind (wpAny_bind (wpAny_isInstance hT sub_set_set ?_))
  dsimp only
  refine wpAny_pure ?_
  simp only [if_true]
  unfold Builtin.Frozenset.addrOf
  refine wpAny_bind (wpAny_pure ?_)
  unfold Builtin.Frozenset.merge
  refine wpAny_bind (wpAny_setEpoch_of ho hd hf ?_)
  unfold setMerge
  rw [if_neg (by rw [hb]; exact Bool.false_ne_true)]
  refine wpAny_bind (wpAny_setState_of ho hd hf ?_)
  dsimp only
  by_cases hE : es.isEmpty = true
  · rw [if_pos hE]
    have h0 : ks = [] := by
      have : es.size = 0 := by simpa [Array.isEmpty] using hE
      exact List.length_eq_zero_iff.mp (by first | decide | lia | omega)
    rcases he with he | he
    · refine wpAny_pure ?_
      have := q s.heap (freshSet w) hS (by rw [he, h0]; exact freshI) (Heap.SameBut.refl S s.heap)
      exact this
    · exact absurd h0 he
  · rw [if_neg hE]
    have hfr : (SetTable.fresh 0 0 (!(byT w))).fits (#[] : Array (Int × Value)).size = true := rfl
    unfold setRoomFor
    refine wpAny_bind ?_
    refine wpAny_bind (wpAny_setState_of hS rfl hfr ?_)
    have hroom : (SetTable.fresh 0 0 (!(byT w))).roomFor es.size = none := by
      unfold SetTable.roomFor SetTable.fill SetTable.fresh
      have := hp.n4
      rw [if_neg]
      simp; omega
    dsimp only
    rw [hroom]
    refine wpAny_pure ?_
    refine wpAny_bind (wpAny_setState_of hS rfl hfr ?_)
    have hroad : (SetTable.fresh 0 0 (!(byT w))).road t = .slotForSlot := by
      unfold SetTable.road SetTable.fill SetTable.fresh
      rw [hp.mask, hp.dum]; rfl
    dsimp only
    rw [hroad]
    dsimp only
    have ht : ({ t with finger := (SetTable.fresh 0 0 (!(byT w))).finger, led := (SetTable.fresh 0 0 (!(byT w))).led && t.led, moves := (SetTable.fresh 0 0 (!(byT w))).moves, plain := (SetTable.fresh 0 0 (!(byT w))).plain && t.plain } : SetTable) = t := by
      have h1 := hp.fin
      have h2 := hp.mov
      have h3 := hp.led
      have h4 := hp.pl
      cases t
      simp only [SetTable.fresh] at h1 h2 h3 h4 ⊢
      subst h1 h2 h3 h4
      simp
    have hz : es.size ≤ sizeLine := by rw [sizeLine_is]; have := hp.n4; omega
    refine wpAny_storeSet_of hS rfl ?_ hz
    have hg : (s.heap.update S (Obj.putSet es { t with finger := (SetTable.fresh 0 0 (!(byT w))).finger, led := (SetTable.fresh 0 0 (!(byT w))).led && t.led, moves := (SetTable.fresh 0 0 (!(byT w))).moves, plain := (SetTable.fresh 0 0 (!(byT w))).plain && t.plain })).get? S = some { freshSet w with data := .set es (0 + 1) t } := by
      have := Heap.get?_update_self (Obj.putSet es { t with finger := (SetTable.fresh 0 0 (!(byT w))).finger, led := (SetTable.fresh 0 0 (!(byT w))).led && t.led, moves := (SetTable.fresh 0 0 (!(byT w))).moves, plain := (SetTable.fresh 0 0 (!(byT w))).plain && t.plain }) hS (by rw [putSet_of _ _ rfl]; rfl)
      rw [putSet_of _ _ rfl, ht] at this
      rw [ht]; exact this
    exact q _ _ hg ⟨es, 1, ⟨rfl, rfl, rfl⟩, rfl, hh, hI, hf⟩ (Heap.SameBut.update s.heap S _)
end
section
variable {K : Params → Frag} {N : Nm} {W : Wd} {Ψ : Frm K N W} {vals : Vals} {l : Led}
theorem At.made {s : Shared} {h' : Heap} {tk : Nat} {o' : Obj} (a : At Ψ vals l s) (ho : h'.get? s.heap.objs.size = some o') (hk : ∀ b ob, b ≠ s.heap.objs.size → s.heap.get? b = some ob → h'.get? b = some ob) : At Ψ vals ((s.heap.objs.size, o') :: l) { s with heap := h', toks := tk } := by
  have ne : ∀ b ob, s.heap.get? b = some ob → b ≠ s.heap.objs.size := fun b ob e => Nat.ne_of_lt (Heap.lt_size e)
  have hk' : ∀ b ob, s.heap.get? b = some ob → h'.get? b = some ob := fun b ob e => hk b ob (ne b ob e) e
  have a2 : At Ψ vals l { s with heap := h', toks := tk } := a.grown hk'
  have hp := a.push (o := { cls := .type "list", data := .seq #[] }) (tk := tk)
  refine ⟨a2.F, fun x hx => ?_, hp.U, fun x hx => ?_⟩
  · rcases List.mem_cons.mp hx with rfl | hx
    · exact ⟨ho, (hp.N _ (.head _)).2⟩
    · exact a2.N x hx
  · rcases List.mem_cons.mp hx with rfl | hx
    · exact hp.G (s.heap.objs.size, { cls := .type "list", data := .seq #[] }) (.head _)
    · exact a.G x hx
theorem WA.setOfList {a : Addr} {vs : List Value} {n : Nat} {xs : List Int} {t' : SetTable} {ks' : List Int} {M R : Led} {Q : Value → Vals → Led → Prop} (hh : Ψ.A.handled = none) (hm : (a, listOf vs.toArray n) ∈ M ++ R) (hi : IntsAre vs xs) (hz : xs.length ≤ 1000) (hf : foldS (.fresh 0 0 (!(byT W.w)), []) xs = some (t', ks'))
    (q : ∀ x o', SetI o' t' ks' → Q (.ref x) vals (M ++ (x, o') :: R)) : WA Ψ (call (.type "set") [.ref a]) Q vals (M ++ R) := by
  refine WA.permPost fun E s a' => ?_
  refine call_set1 fun A' hA' => ?_
  have hl := lAt a' hm
  have hal : a < s.heap.objs.size := Heap.lt_size (a'.N _ hm).1
  have hl1 : ({ s with heap := s.heap.push (freshSet W.w) } : Shared).heap.IsList a vs.toArray := hl.push _
  have hlen := ints_len hi
  refine wp_update_src (n := vs.toArray.size) (hA'.trans hh) hl1.typeIs PySem.F.sub_list_set PySem.F.sub_list_frozenset (by decide) (Heap.get?_push_size _ rfl) hf hz (by simp [hlen]) (fun A2 hA2 E' Q' k => ?_) fun h' tk o' ho' hI' hk' => ?_
  · refine wpAny_pyIter_list hl1 ?_
    have hne : a ≠ (s.heap.push (freshSet W.w)).objs.size := by rw [Heap.size_push]; exact Nat.ne_of_lt (Nat.lt_succ_of_lt hal)
    refine k _ _ _ _ _ _ rfl (fun b hb => ?_) (fun b hb => by simpa using hb) (Walks.list (A := A2.in1) hA2 _ a hne vs.toArray) ⟨⟨_, Heap.get?_push_size _ rfl, rfl, rfl⟩, hl1.push _⟩ fun i v hv => ?_
    · simp only [List.mem_cons, List.not_mem_nil, or_false] at hb
      rcases hb with h | h
      · exact .inl h
      · exact .inr (by rw [h]; exact hal)
    · have hv' : vs[i]? = some v := by simpa using hv
      have hi' : i < xs.length := by rw [← hlen]; exact (List.getElem?_eq_some_iff.mp hv').1
      obtain ⟨t, ht⟩ := ints_get hi (List.getElem?_eq_getElem hi')
      rw [hv'] at ht
      cases ht
      exact ⟨_, t, List.getElem?_eq_getElem hi', rfl⟩
  · exact ⟨⟨rfl, rfl⟩, vals, _, a'.made ho' fun b ob hb e => hk' b ob hb (Heap.get?_push_of_some _ e), _, shiftPerm, q _ o' hI'⟩
theorem WA.setOfSet {a : Addr} {o : Obj} {t : SetTable} {ks : List Int} {M R : Led} {Q : Value → Vals → Led → Prop} (hm : (a, o) ∈ M ++ R) (I : SetI o t ks) (hp : Plain7 W.w t ks.length) (he : t = .fresh 0 0 (!(byT W.w)) ∨ ks ≠ [])
    (q : ∀ x o', SetI o' t ks → Q (.ref x) vals (M ++ (x, o') :: R)) : WA Ψ (call (.type "set") [.ref a]) Q vals (M ++ R) := by
  refine WA.permPost fun E s a' => ?_
  refine call_set1 fun A' hA' => ?_
  have ho := (a'.N _ hm).1
  refine wp_update_set (s := { s with heap := s.heap.push (freshSet W.w) }) I (Heap.get?_push_of_some _ ho) hp (Heap.get?_push_size _ rfl) (Nat.ne_of_gt (Heap.lt_size ho)) he fun h' o' ho' hI' hs => ?_
  exact ⟨⟨rfl, rfl⟩, vals, _, a'.made ho' fun b ob hb e => (hs.2 b hb).trans (Heap.get?_push_of_some _ e), _, shiftPerm, q _ o' hI'⟩
end
end
section
open PySem PySem.W PyProof.Rows PySem.Calls
set_option maxRecDepth 100000
set_option maxHeartbeats 4000000
theorem noBool_set : typeLookup (.type "set") "__bool__" = Pure.pure none := by rw [typeLookup_type, builtinLookup_eq_fast]; kernel_rfl
section
variable {prog : Program} {w : World} {A : Around} {E : Value → Shared → Prop} {s : Shared} {a it : Addr} {o : Obj} {es : Array (Int × Value)} {ep : Nat} {t : SetTable}
theorem wp_special_set_some (S : SetW w o es ep t) (ho : s.heap.get? a = some o) {i : Nat} {e : Int × Value} (hi : i < es.size) (he : (ordOf w a es ep)[i]? = some e) (hit : s.heap.get? it = some (setItObj a (slotW w t i) i es.size ep)) {Q : Option Value → Shared → Prop}
    (q : ∀ h', h'.get? it = some (setItObj a (slotW w t (i + 1)) (i + 1) es.size ep) → Heap.SameBut it s.heap h' → Q (some e.2) { s with heap := h' }) : wpAny (model prog w) A (callSpecial? (.ref it) (Str.ofString "__next__")) Q E s := by
  have hT : s.TypeIs (.ref it) "set_iterator" := ⟨_, hit, rfl⟩
  refine wpAny_callSpecial?_slot (name := Str.ofString "__next__") hT slot_set_iterator_next
    (wpAny_call_entry slot_set_iterator_next hT entry_set_iterator_next ?_ (args_set_iterator_next_1 _))
  unfold Builtin.«set_iterator.__next__» slotArgs
  simp only [List.isEmpty_nil, Bool.not_true, Bool.false_eq_true, ↓reduceIte, bind_assoc, List.length_nil, bne_self_eq_false]
  refine wpAny_bind (wpAny_pure ?_)
  dsimp only
  refine wpAny_bind (wpAny_fieldsOf hit rfl ?_)
  dsimp only [rawInt]
  refine wpAny_bind (wpAny_setEntries_of ho S.data S.fits ?_)
  simp only [bne_self_eq_false, Bool.false_eq_true, ↓reduceIte, Int.toNat_natCast]
  refine wpAny_bind (wp_setNext_some S ho hi he ?_)
  dsimp only
  refine wpAny_bind (wpAny_setField_rec hit (by simp) fun h1 hit1 hs1 => ?_)
  refine wpAny_bind (wpAny_setField_rec hit1 (by simp) fun h2 hit2 hs2 => ?_)
  exact wpAny_pure ⟨_, rfl, q h2 hit2 (hs1.trans hs2)⟩
end
section
variable {K : Params → Frag} {N : Nm} {W : Wd} {Ψ : Frm K N W} {vals : Vals} {l : Led}
variable {a it : Addr} {o : Obj} {es : Array (Int × Value)} {ep : Nat} {t : SetTable} {ks : List Int}
theorem WA.iterSet {M R : Led} {Q : Value → Vals → Led → Prop} (S : SetW W.w o es ep t) (hm : (a, o) ∈ M ++ R) (q : ∀ x, Q (.ref x) vals (M ++ (x, setItObj a (slotW W.w t 0) 0 es.size ep) :: R)) : WA Ψ (call (.builtin "iter") [.ref a]) Q vals (M ++ R) :=
  WA.permPost fun E s a' => by
    refine call_function_entry (by decide +kernel) (by decide +kernel) kdk_entry_iter (kdk_args_iter _) ?_
    unfold Builtin.«iter»
    refine wpAny_bind (m := someArgs "iter" 1 2 _) (wpAny_of_eq (a := [Value.ref a]) (by first | rfl | kernel_rfl!) ?_)
    show wpAny _ _ (pyIter (.ref a) >>= _) _ _ _
    refine wpAny_bind (wp_pyIter_set S (a'.N _ hm).1 ?_)
    exact wpAny_pure ⟨_, rfl, ⟨rfl, rfl⟩, vals, _, a'.push, _, shiftPerm, q _⟩
theorem WA.nextSet {i : Nat} {e : Int × Value} {pre post : Led} {Q : Value → Vals → Led → Prop} (S : SetW W.w o es ep t) (hl : l = pre ++ (it, setItObj a (slotW W.w t i) i es.size ep) :: post) (hm : (a, o) ∈ l) (hi : i < es.size) (he : (ordOf W.w a es ep)[i]? = some e)
    (q : Q e.2 vals (pre ++ post)) : WA Ψ (call (.builtin "next") [.ref it]) Q vals l := by
  subst hl
  refine WA.subPost fun E s a' => ?_
  have ho := (a'.N _ hm).1
  have hit := (a'.N _ (List.mem_append_right _ (.head _))).1
  have hT : s.TypeIs (.ref it) "set_iterator" := ⟨_, hit, rfl⟩
  refine call_function_entry (by decide +kernel) (by decide +kernel) kdk_entry_next (kdk_args_next _) ?_
  unfold Builtin.«next»
  refine wpAny_bind (m := someArgs "next" 1 2 _) (wpAny_of_eq (a := [Value.ref it]) (by first | rfl | kernel_rfl!) ?_)
  dsimp only
  refine wpAny_bind (wpAny_specialOf (name := Str.ofString "__next__") hT slot_set_iterator_next.lookup ?_)
  refine wpAny_ite_split (fun hab => absurd hab (by decide)) (fun _ => ?_)
  refine wpAny_bind (wp_special_set_some S ho hi he hit fun h' hit' hs => ?_)
  exact wpAny_pure ⟨_, rfl, ⟨rfl, rfl⟩, vals, _, a'.upd hs hit', pre ++ post, List.Sublist.append (List.Sublist.refl _) (List.sublist_cons_self _ _), q⟩
theorem WA.isiSetDict {Q : Value → Vals → Led → Prop} (hm : (a, o) ∈ l) (hc : o.cls = .type "set") (q : Q (.bool false) vals l) : WA Ψ (call (.builtin "isinstance") [.ref a, .type "dict"]) Q vals l := fun E s a' =>
  IsiPair.set_dict (a'.N _ hm).1 hc ⟨⟨rfl, rfl⟩, vals, l, ⟨a'.F, a'.N, a'.U, a'.G⟩, q⟩
theorem WA.isiSetSet {Q : Value → Vals → Led → Prop} (hm : (a, o) ∈ l) (hc : o.cls = .type "set") (q : Q (.bool true) vals l) : WA Ψ (call (.builtin "isinstance") [.ref a, .type "set"]) Q vals l := fun E s a' =>
  IsiPair.set_set (a'.N _ hm).1 hc ⟨⟨rfl, rfl⟩, vals, l, a', q⟩
theorem WA.isiDictDict {Q : Value → Vals → Led → Prop} (hm : (a, o) ∈ l) (hc : o.cls = .type "dict") (q : Q (.bool true) vals l) : WA Ψ (call (.builtin "isinstance") [.ref a, .type "dict"]) Q vals l := fun E s a' =>
  IsiPair.dict_dict (a'.N _ hm).1 hc ⟨⟨rfl, rfl⟩, vals, l, a', q⟩
theorem WA.isiSetTup {tp : Addr} {Q : Value → Vals → Led → Prop} (hm : (a, o) ∈ l) (hc : o.cls = .type "set") (ht : (tp, tupObj [.type "set", .type "frozenset"]) ∈ l) (q : Q (.bool true) vals l) : WA Ψ (call (.builtin "isinstance") [.ref a, .ref tp]) Q vals l := fun E s a' =>
  IsiPair.tupleOfB (Tx := "set") (cs := [.type "set", .type "frozenset"]) (vs := [true, false]) (b := true) (AnswersAll.cons (Answers.of_true PySem.F.isi_meta_set PySem.F.sub_set_set) (AnswersAll.cons (Answers.of_false_set (by decide +kernel) PySem.F.isi_meta_frozenset PySem.F.sub_set_frozenset) AnswersAll.nil)) ⟨o, (a'.N _ hm).1, hc⟩ (a'.N _ ht).1 rfl
    fun tk => ⟨⟨rfl, rfl⟩, vals, l, ⟨a'.F, a'.N, a'.U, a'.G⟩, q⟩
theorem WA.trSet {Q : Bool → Vals → Led → Prop} (hm : (a, o) ∈ l) (I : SetI o t ks) (hz : ks.length ≤ 1000) (q : Q (!ks.isEmpty) vals l) : WA Ψ (truthy (.ref a)) Q vals l := fun E s a' => by
  have ho := (a'.N _ hm).1
  have hT := setTypeIs I ho
  obtain ⟨es, ep, hex, hd, hh, hI, hf⟩ := I
  have hn : es.size = ks.length := by have := ints_len hI; simpa using this
  have hne : ((es.size : Int) != 0) = !ks.isEmpty := by rw [hn]; cases ks <;> simp <;> omega
  have key : wpAny (model W.prog W.w) Ψ.A (runValue (.builtin "len" ⟨[.ref a], []⟩)) (fun r s' => r = .int es.size (s.toks + 1) ∧ (Same s s' ∧ ∃ vals' l', At Ψ vals' l' s' ∧ Q (!ks.isEmpty) vals' l')) E s := by
    refine wpAny_runValue (codeAny_builtin entry_len ?_)
    rw [Around.under_plainId plain_len _]
    exact wpAny_mono (wpAny_len_body_set (Q := fun r s' => r = .int es.size (s.toks + 1) ∧ (Same s s' ∧ ∃ vals' l', At Ψ vals' l' s' ∧ Q (!ks.isEmpty) vals' l')) ho hex hd hf (by first | decide | lia | omega) ⟨rfl, ⟨rfl, rfl⟩, vals, l, ⟨a'.F, a'.N, a'.U, a'.G⟩, q⟩)
      (fun fin s' h' => by obtain ⟨r, rfl, hq⟩ := h'; exact hq) fun _ _ e => e
  unfold truthy
  first
    | refine wpAny_bind (wpAny_callSpecial?_none (name := Str.ofString "__bool__") hT noBool_set ?_)
    | refine wpAny_bind (wpAny_pure (wpAny_bind (wpAny_callSpecial?_none (name := Str.ofString "__bool__") hT noBool_set ?_)))
  first
    | refine wpAny_bind (wpAny_specialOf (name := Str.ofString "__len__") hT PySem.F.slot_set_len.lookup ?_)
    | refine wpAny_bind (wpAny_pure (wpAny_bind (wpAny_specialOf (name := Str.ofString "__len__") hT PySem.F.slot_set_len.lookup ?_)))
  first
    | exact wpAny_bind (wpAny_mono key (fun r s' h' => by obtain ⟨rfl, hq⟩ := h'; exact wpAny_pure (hne ▸ hq)) fun _ _ e => e)
    | exact wpAny_bind (wpAny_pure (wpAny_bind (wpAny_mono key (fun r s' h' => by obtain ⟨rfl, hq⟩ := h'; exact wpAny_pure (hne ▸ hq)) fun _ _ e => e)))
theorem WA.newSetM {M R : Led} {Q : Value → Vals → Led → Prop} (q : ∀ x, Q (.ref x) vals (M ++ (x, freshSet W.w) :: R)) : WA Ψ (newSet (.type "set")) Q vals (M ++ R) := WA.permPost fun E s a' => by
  unfold newSet setsByText
  refine wpAny_bind (wpAny_bind (wpAny_askSetting (wpAny_pure ?_)))
  dsimp only
  simp only [newObj]
  exact wpAny_bind (wpAny_alloc (wpAny_pure ⟨⟨rfl, rfl⟩, vals, _, a'.push, _, shiftPerm, q _⟩))
theorem WA.set0M {M R : Led} {Q : Value → Vals → Led → Prop} (q : ∀ x led, Q (.ref x) vals (M ++ (x, { cls := .type "set", dict := none, data := .set #[] 0 (.fresh 0 0 led) }) :: R)) : WA Ψ (call (.type "set") []) Q vals (M ++ R) :=
  WA.permPost fun E s a' => call_set_0 fun led => ⟨⟨rfl, rfl⟩, vals, _, a'.push, _, shiftPerm, q _ led⟩
theorem SetI.objOf {o : Obj} (I : SetI o t ks) : o.SetObjOf (intKind W.prog W.w) (fun k => decide (k ∈ ks)) ks.length := by
  obtain ⟨es, ep, hex, hd, hh, hI, hf⟩ := I
  have hn : es.size = ks.length := by have := ints_len hI; simpa using this
  refine ⟨hex, es, ep, t, hd, elems_of hh hI, fun k => ?_, hn, hf⟩
  rw [decide_eq_true_eq, ints_mem hI]
  constructor
  · rintro ⟨v, hv, tk, rfl⟩
    obtain ⟨e, he, hev⟩ := List.mem_map.mp hv
    exact ⟨e, he, by rw [hev]; exact intKind_is _ _ _ _⟩
  · rintro ⟨e, he, hk⟩
    obtain ⟨tk, ht⟩ := Value.isInt_shape hk
    exact ⟨e.2, List.mem_map_of_mem he, tk, ht⟩
theorem SetI.walk {w : World} {o : Obj} (I : SetI o t ks) (hled : ks ≠ [] → t.led = !(byT w)) (hpl : t.plain = true) (hr : ∀ i, i ≤ ks.length → SetTable.below t.place (slotAt t i) = i) : ∃ es ep, SetW w o es ep t ∧ IntsAre (es.toList.map (·.2)) ks ∧ es.size = ks.length := by
  obtain ⟨es, ep, hex, hd, hh, hI, hf⟩ := I
  have hn : es.size = ks.length := by have := ints_len hI; simpa using this
  refine ⟨es, ep, ⟨hex, hd, hf, fun hE => hled fun h0 => ?_, hpl, fun i hi => hr i (by first | decide | lia | omega)⟩, hI, hn⟩
  rw [h0] at hn
  have : es.isEmpty = true := by simpa [Array.isEmpty] using hn
  rw [this] at hE; cases hE
end
end
section
open PySem PySem.W PyProof.Rows PySem.Calls
set_option maxRecDepth 100000
set_option maxHeartbeats 4000000
noncomputable def subl : List Int → List (List Int)
  | [] => [[]]
  | x :: r => subl r ++ (subl r).map (x :: ·)
noncomputable def tabOf (led : Bool) (ks : List Int) : SetTable := { mask := 7, place := (ks.map fun k => (k % 8).toNat).toArray, dummies := #[], finger := 0, led := led, moves := 0, plain := true }
noncomputable def famOk (U : List Int) (led : Bool) (ks : List Int) : Bool :=
  (List.range (ks.length + 1)).all (fun i => SetTable.below (tabOf led ks).place (slotAt (tabOf led ks) i) == i) && decide (ks.length ≤ 4) &&
  U.all fun k => ks.contains k || (match addT (tabOf led ks) ks k with
    | some (t', ks') => decide (t' = tabOf led ks') && (subl U).contains ks' && U.all (fun j => ks'.contains j == (ks.contains j || j == k))
    | none => false)
noncomputable def famAll (U : List Int) (led : Bool) : Bool := (subl U).all (famOk U led)
noncomputable abbrev U1 : List Int := [104, 101, 102, 103]
noncomputable abbrev U2 : List Int := [0, 1, 2, 3]
theorem fam1 : ∀ led, famAll U1 led = true := by decide +kernel
theorem fam2 : ∀ led, famAll U2 led = true := by decide +kernel
theorem mem_subl {U ks : List Int} (h : ks ∈ subl U) : ∀ k ∈ ks, k ∈ U := by
  induction U generalizing ks with
  | nil => simp [subl] at h; subst h; simp
  | cons x r ih =>
    simp only [subl, List.mem_append, List.mem_map] at h
    rcases h with h | ⟨y, h, rfl⟩
    · exact fun k hk => .tail _ (ih h k hk)
    · intro k hk
      rcases List.mem_cons.mp hk with rfl | hk
      · exact .head _
      · exact .tail _ (ih h k hk)
theorem nil_subl : ∀ U, ([] : List Int) ∈ subl U
  | [] => .head _
  | x :: r => List.mem_append_left _ (nil_subl r)
structure FamOk (U : List Int) (led : Bool) (ks : List Int) : Prop where
  rise : ∀ i, i ≤ ks.length → SetTable.below (tabOf led ks).place (slotAt (tabOf led ks) i) = i
  n4 : ks.length ≤ 4
  add : ∀ k ∈ U, k ∉ ks → ∃ ks', addT (tabOf led ks) ks k = some (tabOf led ks', ks') ∧ ks' ∈ subl U ∧ ∀ j ∈ U, j ∈ ks' ↔ j ∈ ks ∨ j = k
theorem famOk_of {U : List Int} {led : Bool} {ks : List Int} (h : famOk U led ks = true) : FamOk U led ks := by
  unfold famOk at h
  simp only [Bool.and_eq_true, List.all_eq_true, decide_eq_true_eq, beq_iff_eq, Bool.or_eq_true, List.contains_iff_mem] at h
  refine ⟨fun i hi => h.1.1 i (List.mem_range.mpr (by first | decide | lia | omega)), h.1.2, fun k hk hn => ?_⟩
  have := (h.2 k hk).resolve_left hn
  split at this
  · rename_i t' ks' he
    simp only [Bool.and_eq_true, decide_eq_true_eq, List.all_eq_true, beq_iff_eq, List.contains_iff_mem] at this
    obtain ⟨⟨h1, h2⟩, h3⟩ := this
    refine ⟨ks', by rw [he, h1], h2, fun j hj => ?_⟩
    have := h3 j hj
    rw [Bool.eq_iff_iff] at this
    simpa using this
  · cases this
theorem fam_all {U : List Int} {led : Bool} (h : famAll U led = true) {ks : List Int} (hk : ks ∈ subl U) : FamOk U led ks := famOk_of (List.all_eq_true.mp h ks hk)
theorem tabOf_nil (led : Bool) : tabOf led [] = .fresh 0 0 led := rfl
theorem foldS_fam {U : List Int} {led : Bool} (h : famAll U led = true) : ∀ (xs ks : List Int), ks ∈ subl U → (∀ x ∈ xs, x ∈ U) → ∃ ks', foldS (tabOf led ks, ks) xs = some (tabOf led ks', ks') ∧ ks' ∈ subl U ∧ ∀ j ∈ U, j ∈ ks' ↔ j ∈ ks ∨ j ∈ xs
  | [], ks, hk, _ => ⟨ks, rfl, hk, fun j _ => by simp⟩
  | x :: xs, ks, hk, hx => by
    unfold foldS
    by_cases hm : x ∈ ks
    · rw [if_pos hm]
      obtain ⟨ks', h1, h2, h3⟩ := foldS_fam h xs ks hk fun y hy => hx y (.tail _ hy)
      refine ⟨ks', h1, h2, fun j hj => ?_⟩
      rw [h3 j hj, List.mem_cons]
      constructor
      · rintro (h | h)
        · exact .inl h
        · exact .inr (.inr h)
      · rintro (h | rfl | h)
        · exact .inl h
        · exact .inl hm
        · exact .inr h
    · rw [if_neg hm]
      obtain ⟨k1, a1, a2, a3⟩ := (fam_all h hk).add x (hx x (.head _)) hm
      simp only [a1]
      obtain ⟨ks', h1, h2, h3⟩ := foldS_fam h xs k1 a2 fun y hy => hx y (.tail _ hy)
      refine ⟨ks', h1, h2, fun j hj => ?_⟩
      rw [h3 j hj, a3 j hj, List.mem_cons, or_assoc]
noncomputable def SetF (w : World) (U : List Int) (o : Obj) (ks : List Int) : Prop := SetI o (tabOf (!(byT w)) ks) ks ∧ ks ∈ subl U
theorem plain7_fam {w : World} {U ks : List Int} (h : famAll U (!(byT w)) = true) (hk : ks ∈ subl U) : Plain7 w (tabOf (!(byT w)) ks) ks.length := ⟨rfl, rfl, rfl, rfl, rfl, rfl, (fam_all h hk).n4⟩
theorem SetF.walk {w : World} {U ks : List Int} {o : Obj} (h : famAll U (!(byT w)) = true) (I : SetF w U o ks) : ∃ es ep, SetW w o es ep (tabOf (!(byT w)) ks) ∧ IntsAre (es.toList.map (·.2)) ks ∧ es.size = ks.length :=
  SetI.walk I.1 (fun _ => rfl) rfl (fam_all h I.2).rise
theorem SetF.fresh {w : World} {U : List Int} : SetF w U (freshSet w) [] := ⟨freshI, nil_subl U⟩
end
section
open PySem PySem.W PyProof.Rows PySem.Calls
set_option maxRecDepth 100000
set_option maxHeartbeats 8000000
theorem bindL_cell {kof : Str → Option NameKind} {n : Str} {v : Value} {r : List (Str × Value)} {m : Str → Option Value} (h : kof n = some .cell) : bindL kof ((n, v) :: r) m = bindL kof r m := by
  show bindL kof r (if kof n = some .local then _ else m) = _
  rw [h, if_neg (by decide)]
theorem bindL_loc {kof : Str → Option NameKind} {n : Str} {v : Value} {r : List (Str × Value)} {m : Str → Option Value} (h : kof n = some .local) : bindL kof ((n, v) :: r) m = bindL kof r (fun y => if y = n then some v else m y) := by
  show bindL kof r (if kof n = some .local then _ else m) = _
  rw [h, if_pos rfl]
end
section
open PySem PySem.W PyProof.Rows PySem.Calls
set_option maxRecDepth 100000
set_option maxHeartbeats 8000000
noncomputable def fn177 : FnIn 177 := by
  refine' mkFn ?ok ?hb
  case ok => intro P; k_is
  case hb => exact rfl
@[reducible] noncomputable def N177 : Nm := ⟨["d", "u"], ["isinstance", "dict", "set", "frozenset", "next", "iter"]⟩
theorem sc177 : ScOk fn177.fd.scope.names N177.loc N177.glo := by
  refine scOk_of ?_
  kernel_rfl!
theorem fo177 (P : Params) : FnOkC (hd.heap_1_1 P) 177 fn177.fd fn177.body := ⟨⟨_, _, _, fn177.ok P⟩, by kernel_rfl!, fn177.hb, rfl, rfl, rfl, rfl, rfl, rfl⟩
theorem ck177 : fn177.fd.scope.names.lookup ("self" : Str) = some NameKind.cell := by kernel_rfl!
theorem cf177 (n : Nat) : cellsFrom n fn177.fd.scope.names [] = [(("self" : Str), n)] := by kernel_rfl!
section
variable {N : Nm} {W : Wd} {Ψ : Frm hd.heap_1_1 N W} {vals : Vals} {b : Mg} {σ : Sg} {Rl : Led} {sa : Addr}
theorem map_c {d : Addr} {od : Obj} {ks : List Int} {Q : Value → Vals → Led → Prop} (G : Good W sa b σ) (hr : Room Ψ.A 8) (hd : (d, od) ∈ Rl) (I : SetF W.w U1 od ks)
    (hS : ∀ x, x ∈ ks → ∃ j t, valueAt b.vk x = some (.int j t) ∧ j ∈ U2)
    (q : ∀ x o' t' ks', SetI o' t' ks' → (ks' ≠ [] → t' = tabOf (!(byT W.w)) ks' ∧ ks' ∈ subl U2) → (ks' = [] → ∃ led, t' = .fresh 0 0 led) → (∀ j, j ∈ ks' ↔ ∃ x t, x ∈ ks ∧ valueAt b.vk x = some (.int j t)) → Q (.ref x) vals (mgL b ++ (x, o') :: Rl)) :
    WA Ψ (call (.ref 177) [.ref sa, .ref d]) Q vals (mgL b ++ Rl) := by
  refine WA.callDefC (N' := N177) (fo177 _) sc177 hr (binds := [("self", .ref sa), ("d", .ref d)]) (fun s _ => .of_eq rfl) (fun n x hx => ?_) (by rw [cf177]; simp) (v0 := [some (.ref d), none]) ?_ ?_
  · rcases List.mem_cons.mp hx with rfl | hx
    · exact .inr ⟨ck177, by rw [cf177]; rfl⟩
    · rcases List.mem_cons.mp hx with rfl | hx
      · exact .inl (sc177.loc _ (.head _)).1
      · cases hx
  · rw [bindL_cell ck177, bindL_loc (sc177.loc _ (.head _)).1]
    funext x
    simp only [bindL, fr]
    split
    · rfl
    · split <;> rfl
  intro Ψ' cells he hr' hc
  rw [cf177] at hc
  obtain ⟨oc, rfl, hoc⟩ := CellsAre.one hc
  have hocv : bindC (fun x => fn177.fd.scope.names.lookup x) [("self", .ref sa), ("d", .ref d)] (fun _ => none) "self" = some (.ref sa) := by
    kernel_rfl!
  rw [hocv] at hoc
  have at0 := G.at'
  have hs := G.hs
  dsimp only [fn177, mkFn]
  rw [List.append_assoc]
  kd_p; kd_p1; kfm_eq; kit_at; ksr_p; kle_go; kit_is; kit_nb; ksr_p; kit_tp
  have hd1 : ∀ {x : Addr × Obj}, (d, od) ∈ mgL b ++ ([x] ++ Rl) := List.mem_append_right _ (.tail _ hd)
  have hcls : od.cls = .type "set" := let ⟨_, _, hex, _⟩ := I.1; hex.1
  refine WA.isiSetDict hd1 hcls ?_
  ks_any; kwk_eq; kd_p; kd_p1; kfm_eq; kit_at; ksr_p; kle_go; kit_is; kit_nb; kim_at; kit_nb; ksr_p; kit_nb; ksr_p; kit_tp
  refine WA.newTupM (vs := [.type "set", .type "frozenset"]) (fits_of (n := 2) (by first | decide | lia | omega)) fun tp => ?_
  refine WA.isiSetTup (a := d) (List.mem_append_right _ (.tail _ (.tail _ hd))) hcls (List.mem_append_right _ (.head _)) ?_
  ks_any; kwk_ne; kd_p; kl_no; kit_at; ksr_p; kln_le; kit_is; kit_tp
  have hh : Ψ'.A.handled = none := hr'.hh
  have hfam1 := fam1 (!(byT W.w))
  refine WA.setOfSet (a := d) (List.mem_append_right _ (.tail _ (.tail _ hd))) I.1 (plain7_fam hfam1 I.2) (by cases ks with | nil => exact .inl (tabOf_nil _) | cons _ _ => exact .inr (by simp)) fun d2 o2 I2 => ?_
  have hm2 : ∀ {x y : Led}, (d2, o2) ∈ x ++ (d2, o2) :: y := List.mem_append_right _ (.head _)
  have hcls2 : o2.cls = .type "set" := let ⟨_, _, hex, _⟩ := I2; hex.1
  have hkl := (fam_all hfam1 I.2).n4
  kmb_kw; kcf_m; kt_k; kcf_m; kt_k; kcf_m; kd_p; kd_p1; kd_all; kfm_eq; kd_in
  refine WA.trSet hm2 I2 (by first | decide | lia | omega) ?_
  cases hks : ks with
  | nil =>
    subst hks
    kwk_ne; kd_p; kd_p1; kfm_eq; kit_at; ksr_p; kle_go; kit_is; kit_nb; ksr_p; kit_tp
    refine WA.isiSetDict hm2 hcls2 ?_
    ks_any; kwk_eq; kd_p; kd_p1; kfm_eq; kit_at; ksr_p; kle_go; kit_is; kit_nb; ksr_p; kit_tp
    refine WA.isiSetSet hm2 hcls2 ?_
    ks_any; kwk_ne; kd_p; kj_on; kit_at; ksr_p; kln_le; kit_tp
    refine WA.set0M fun d3 led => ?_
    kcj_m; kcj_m; kcj_m; kcj_m
    refine ⟨mgL b ++ (d3, _) :: Rl, List.Sublist.append (List.Sublist.refl _) (List.Sublist.cons₂ _ ?_), q d3 _ _ [] ⟨#[], 0, ⟨rfl, rfl, rfl⟩, rfl, rfl, .nil, rfl⟩ (fun h => absurd rfl h) (fun _ => ⟨led, rfl⟩) (fun j => by simp)⟩
    exact List.Sublist.cons _ (List.Sublist.cons _ (List.Sublist.cons _ (List.Sublist.refl _)))
  | cons k0 kr =>
    have hne : ks ≠ [] := by rw [hks]; simp
    kwk_eq; kt_k; kcf_m; kd_p; kl_no; kit_at; ksr_p; kle_go; kit_nb; kit_at; ksr_p; kle_go; kit_is; kit_tp
    obtain ⟨es, ep, SW, hI2, hen⟩ := SetF.walk hfam1 ⟨I2, I.2⟩
    refine WA.iterSet SW hm2 fun it => ?_
    kit_tp
    obtain ⟨xs, hxs, hpx⟩ := ints_perm ((ordOf_perm W.w d2 es ep).symm.map (·.2)) hI2
    have hxn : xs.length = es.size := by rw [hpx.length_eq, hen]
    have hosz := ordOf_size W.w d2 es ep
    have hel : ∀ i (hi : i < es.size), ∃ e t, (ordOf W.w d2 es ep)[i]? = some e ∧ e.2 = .int (xs[i]'(by first | decide | lia | omega)) t := fun i hi => by
      obtain ⟨t, ht⟩ := ints_get hxs (List.getElem?_eq_getElem (by first | decide | lia | omega : i < xs.length))
      rw [List.getElem?_map, Array.getElem?_toList] at ht
      obtain ⟨e, he', ht'⟩ := Option.map_eq_some_iff.mp ht
      exact ⟨e, t, he', ht'⟩
    have hmem : ∀ i (hi : i < es.size), xs[i]'(by first | decide | lia | omega) ∈ ks := fun i hi => hpx.mem_iff.mp (List.getElem_mem _)
    have hes0 : 0 < es.size := by rw [hen]; exact List.length_pos_iff.mpr hne
    obtain ⟨e0, t0, he0, hv0⟩ := hel 0 hes0
    refine WA.nextSet (i := 0) (pre := mgL b) SW rfl (List.mem_append_right _ (.tail _ (.head _))) hes0 he0 ?_
    rw [hv0]
    kmb_kw; kcf_m; kd_p; kd_p1; kd_adr; kd_in; kgr_on
    have hck : Ψ'.env.kindOf "self" = some .cell := by rw [he]; exact ck177
    have hlk : Ψ'.env.cells.lookup ("self" : Str) = some (Ψ'.L + 1) := by rw [he]; show (cellsFrom (Ψ'.L + 1) fn177.fd.scope.names []).lookup ("self" : Str) = _; rw [cf177]; rfl
    refine WA.cellN Ψ'.e.kind hck hlk (o := oc) (List.mem_append_right _ (.tail _ (.tail _ (.head _)))) hoc (by decide) ?_
    ksk_a3
    obtain ⟨j0, tj0, hj0, _⟩ := hS _ (hmem 0 hes0)
    refine WA.dNotIn (intKind_is _ _ _ _) vo_mem G.r.v1 ?_
    rw [hj0]
    ks_any; kwk_eq; kt_k; kcf_m; kd_p; kd_p1; kfm_eq; kit_at; ksr_p; kle_go; kit_is; kit_nb; ksr_p; kit_tp
    refine WA.isiSetDict hm2 hcls2 ?_
    ks_any; kwk_eq; kd_p; kj_on
    refine WA.setComp (cl := [("self", Ψ'.L + 1)]) (by rw [he]; rfl) rfl (by decide) (by decide) (by rw [he]; exact scOk_of (by kernel_rfl!)) ?_ (by intro _; with_unfolding_all rfl)
    kd_in
    refine WA.setIterM SW hm2 fun it2 => ?_
    refine WA.newSetM fun d3 => ?_
    intro Ψ2 he2 ha2
    have hfam2 := fam2 (!(byT W.w))
    have hbd : (b.vk.length : Int) = σ.nv := by rw [G.r.v4]; rfl
    refine ⟨?_, WA.setIterSelf (es := es) (List.mem_append_right _ (.tail _ (.head _))) ⟨rfl, rfl, rfl⟩⟩
    refine WC.inv (fun m vals' l' => Ex4 fun (i : Nat) (o3 : Obj) (k3 : List Int) (ov : Option Value) => An6 (m = es.size - i) (i ≤ es.size) (SetF W.w U2 o3 k3) ((∀ j, j ∈ k3 ↔ ∃ x t, x ∈ xs.take i ∧ valueAt b.vk x = some (.int j t))) (vals' = [ov]) (l' = mgL b ++ (d3, o3) :: (it2, setItObj d2 (slotW W.w (tabOf (!(byT W.w)) ks) i) i es.size ep) :: (d2, o2) :: (tp, tupObj [.type "set", .type "frozenset"]) :: ([(Ψ'.L + 1, oc)] ++ Rl))) ?_ es.size ⟨0, freshSet W.w, [], none, rfl, Nat.zero_le _, SetF.fresh, fun j => by simp, rfl, rfl⟩
    rintro m _ _ ⟨i, o3, k3, ov, hm', hi', I3, hk3, rfl, rfl⟩ again
    refine Mine.WC.letV ?_; intro vv
    have hn3 := (fam_all hfam2 I3.2).n4
    refine WC.compS ?_
    by_cases hie : i = es.size
    · subst hie
      refine WA.setNextEnd (o := o2) (pre := mgL b ++ [(d3, o3)]) (by rw [ha2]; exact hh) SW (by rw [List.append_assoc]; rfl) (by simp) ?_
      refine ⟨mgL b ++ (d3, o3) :: Rl, ?_, R.retS (R.retS ⟨_, List.Sublist.refl _, q d3 o3 _ k3 I3.1 (fun _ => ⟨rfl, I3.2⟩) (fun h => ⟨_, by rw [h]; exact tabOf_nil _⟩) (fun j => ?_)⟩)⟩
      · rw [List.append_assoc]
        refine List.Sublist.append (List.Sublist.refl _) (List.Sublist.cons₂ _ (List.Sublist.cons _ (List.Sublist.cons _ (List.Sublist.cons _ (List.Sublist.refl _)))))
      · rw [hk3, List.take_of_length_le (by first | decide | lia | omega)]
        constructor
        · rintro ⟨x, t, h1, h2⟩; exact ⟨x, t, hpx.mem_iff.mp h1, h2⟩
        · rintro ⟨x, t, h1, h2⟩; exact ⟨x, t, hpx.mem_iff.mpr h1, h2⟩
    · have hil : i < es.size := by first | decide | lia | omega
      obtain ⟨ei, ti, hei, hvi⟩ := hel i hil
      refine WA.setNext (o := o2) (pre := mgL b ++ [(d3, o3)]) SW (by rw [List.append_assoc]; rfl) (by simp) hil hei ?_
      rw [hvi, List.append_assoc]
      show WA Ψ2 _ _ _ _
      have hck2 : Ψ2.env.kindOf "self" = some .cell := by
        rw [he2, he]; kernel_rfl!
      obtain ⟨ji, tji, hji, hjU⟩ := hS _ (hmem i hil)
      kt_chr; kt_eqs; kmb_kw; kfm_hd; kgr_on
      refine WA.cellN Ψ2.e.kind hck2 (c := Ψ'.L + 1) (by rw [he2]; rfl) (o := oc) (by simp) hoc (by decide) ?_
      ksk_a3; kd_in
      refine dTail vo_mem G.r.v1 (WA.dGet (intKind_is _ _ _ _) vo_mem G.r.v1 hji ?_) (by with_unfolding_all rfl)
      have htk : ∀ x, x ∈ xs.take (i + 1) ↔ x ∈ xs.take i ∨ x = xs[i]'(by first | decide | lia | omega) := fun x => by
        rw [List.take_add_one, List.getElem?_eq_getElem (by first | decide | lia | omega : i < xs.length), List.mem_append]
        simp
      have hkey : ∀ j, (∃ x t, x ∈ xs.take (i + 1) ∧ valueAt b.vk x = some (.int j t)) ↔ j ∈ k3 ∨ j = ji := fun j => by
        rw [hk3]
        constructor
        · rintro ⟨x, t, h1, h2⟩
          rcases (htk x).mp h1 with h1 | rfl
          · exact .inl ⟨x, t, h1, h2⟩
          · rw [hji] at h2; cases h2; exact .inr rfl
        · rintro (⟨x, t, h1, h2⟩ | rfl)
          · exact ⟨x, t, (htk x).mpr (.inl h1), h2⟩
          · exact ⟨_, tji, (htk _).mpr (.inr rfl), hji⟩
      by_cases hin : ji ∈ k3
      · refine WA.setAddOld (o := o3) (List.mem_append_right _ (.head _)) I3.1 hin (by unfold scanBound; omega) ?_
        refine again (es.size - (i + 1)) _ _ (by first | decide | lia | omega) ⟨i + 1, o3, k3, _, rfl, by first | decide | lia | omega, I3, fun j => ?_, rfl, rfl⟩
        rw [hkey]
        exact ⟨.inl, fun h => h.elim id fun h => h ▸ hin⟩
      · obtain ⟨k4, ha1, ha2, ha3⟩ := (fam_all hfam2 I3.2).add ji hjU hin
        refine WA.setAddNew (pre := mgL b) rfl I3.1 hin ha1 (by unfold scanBound; omega) fun o4 I4 => ?_
        refine again (es.size - (i + 1)) _ _ (by first | decide | lia | omega) ⟨i + 1, o4, k4, _, rfl, by first | decide | lia | omega, ⟨I4, ha2⟩, fun j => ?_, rfl, rfl⟩
        rw [hkey]
        constructor
        · intro hj
          exact (ha3 j (mem_subl ha2 j hj)).mp hj
        · intro hj
          refine (ha3 j ?_).mpr hj
          rcases hj with hj | rfl
          · exact mem_subl I3.2 j hj
          · exact hjU
end
end
section
open PySem PySem.W PyProof.Rows PySem.Calls
set_option maxRecDepth 100000
set_option maxHeartbeats 4000000
theorem typeCall_dict_0 : checkTypeCall "dict" ⟨[], []⟩ = Pure.pure () := by kernel_rfl
theorem newCall_dict_0 : checkBuiltinCall "dict.__new__" ⟨[.type "dict"], []⟩ = Pure.pure () := by kernel_rfl
section
variable {prog : Program} {w : World} {A : Around} {E : Value → Shared → Prop} {s : Shared}
theorem code_dict_0 {Q₁ : Value → Shared → Prop} (h : Q₁ (.ref s.heap.objs.size) { s with heap := s.heap.push (dictOf [] 0) }) :
    codeAny (model prog w) A (.call (.builtin "dict.__new__") ⟨[.type "dict"], []⟩) (wants Q₁ E) s := by
  refine codeAny_call_builtin PySem.F.kt_plain_dict_new PySem.F.kt_entry_dict_new (wpAny_of_eq newCall_dict_0 ?_)
  have hsub := PySem.F.kt_sub_dict
  have hmro := PySem.F.kt_mro_dict
  obtain ⟨hp, g, d, tk, os⟩ := s
  unfold Builtin.«dict.__new__»
  wp_walk
  exact h
theorem call_dict_0 {Q : Value → Shared → Prop} (h : Q (.ref s.heap.objs.size) { s with heap := s.heap.push (dictOf [] 0) }) : wpAny (model prog w) A (call (.type "dict") []) Q E s := by
  refine callType_codes (Q₁ := fun obj s₁ => obj = .ref s.heap.objs.size ∧ s₁ = { s with heap := s.heap.push (dictOf [] 0) }) PySem.F.kt_called_dict typeCall_dict_0 PySem.F.entry_dict_init (code_dict_0 ⟨rfl, rfl⟩) ?_
  rintro obj s₁ ⟨rfl, rfl⟩
  have hT : Shared.TypeIs { s with heap := s.heap.push (dictOf [] 0) } (.ref s.heap.objs.size) "dict" := ⟨_, Heap.get?_push_size _ rfl, rfl⟩
  refine ⟨hT, PySem.F.args_dict_init_1 _, ?_⟩
  unfold Builtin.«dict.__init__»
  refine wpAny_bind ?_
  unfold Builtin.Dict.selfAndRest
  refine wpAny_bind (wpAny_notOrdered_dict hT ?_)
  show wpAny _ _ (Pure.pure (s.heap.objs.size, ([] : List Value))) _ _ _
  refine wpAny_pure ?_
  show wpAny _ _ (Builtin.Dict.addKeywords s.heap.objs.size [] >>= fun _ => PySem.ret Value.none) _ _ _
  refine wpAny_bind ?_
  have hk : Builtin.Dict.addKeywords s.heap.objs.size [] = Pure.pure () := by rfl
  rw [hk]
  exact wpAny_pure (wpAny_pure ⟨rfl, h⟩)
end
section
variable {K : Params → Frag} {N : Nm} {W : Wd} {Ψ : Frm K N W} {vals : Vals} {l : Led}
theorem WA.dict0M {M R : Led} {Q : Value → Vals → Led → Prop} (q : ∀ x, Q (.ref x) vals (M ++ (x, dictOf [] 0) :: R)) : WA Ψ (call (.type "dict") []) Q vals (M ++ R) :=
  WA.permPost fun E s a' => call_dict_0 ⟨⟨rfl, rfl⟩, vals, _, a'.push, _, shiftPerm, q _⟩
end
end
section
open PySem PySem.W PyProof.Rows PySem.Calls
set_option maxRecDepth 100000
set_option maxHeartbeats 8000000
noncomputable def fn325 : FnIn 325 := by
  refine' mkFn ?ok ?hb
  case ok => intro P; k_is
  case hb => exact rfl
@[reducible] noncomputable def N325 : Nm := ⟨["self", "u", "qvars", "forall", "cache", "ordvar", "j"], ["set", "dict", "sorted"]⟩
theorem sc325 : ScOk fn325.fd.scope.names N325.loc N325.glo := by
  refine scOk_of ?_
  kernel_rfl!
theorem fo325 (P : Params) : FnOk (hd.heap_1_1 P) 325 fn325.fd fn325.body := ⟨⟨_, _, _, fn325.ok P⟩, by kernel_rfl!, fn325.hb, rfl, rfl, rfl, rfl, rfl, by kernel_rfl!⟩
noncomputable def fn339 : FnIn 339 := by
  refine' mkFn ?ok ?hb
  case ok => intro P; k_is
  case hb => exact rfl
@[reducible] noncomputable def N339 : Nm := ⟨["self", "qvars", "u"], []⟩
theorem sc339 : ScOk fn339.fd.scope.names N339.loc N339.glo := by
  refine scOk_of ?_
  kernel_rfl!
theorem fo339 (P : Params) : FnOk (hd.heap_1_1 P) 339 fn339.fd fn339.body := ⟨⟨_, _, _, fn339.ok P⟩, by kernel_rfl!, fn339.hb, rfl, rfl, rfl, rfl, rfl, by kernel_rfl!⟩
noncomputable def fn346 : FnIn 346 := by
  refine' mkFn ?ok ?hb
  case ok => intro P; k_is
  case hb => exact rfl
@[reducible] noncomputable def N346 : Nm := ⟨["self", "qvars", "u"], []⟩
theorem sc346 : ScOk fn346.fd.scope.names N346.loc N346.glo := by
  refine scOk_of ?_
  kernel_rfl!
theorem fo346 (P : Params) : FnOk (hd.heap_1_1 P) 346 fn346.fd fn346.body := ⟨⟨_, _, _, fn346.ok P⟩, by kernel_rfl!, fn346.hb, rfl, rfl, rfl, rfl, rfl, by kernel_rfl!⟩
section
variable {N : Nm} {W : Wd} {Ψ : Frm hd.heap_1_1 N W} {vals : Vals} {b : Mg} {σ : Sg} {Rl : Led} {sa : Addr}
structure Full (σ : Sg) : Prop where
  mem : ∀ x, x ∈ U1 ↔ x ∈ σ.order
  len : σ.order.length = 4
noncomputable def lset (σ : Sg) (names : List Int) : Int → Bool := fun j => decide (0 ≤ j ∧ ∃ x ∈ names, σ.order[j.toNat]? = some x)
theorem Full.ext {σ σ' : Sg} (e : Ext σ σ') (h : Full σ) : Full σ' := ⟨fun x => by rw [e.ord]; exact h.mem x, by rw [e.ord]; exact h.len⟩
theorem vk_iff {W : Wd} {b : Mg} {σ : Sg} (r : Rep W b σ) {x j : Int} : (∃ t, valueAt b.vk x = some (.int j t)) ↔ 0 ≤ j ∧ σ.order[j.toNat]? = some x := by
  constructor
  · rintro ⟨t, h⟩
    by_cases hx : x ∈ σ.order
    · obtain ⟨i, hi, e⟩ := List.mem_iff_getElem.mp hx
      have h1 : σ.order[i]? = some x := by rw [List.getElem?_eq_getElem hi, e]
      obtain ⟨t', h2⟩ := r.v2 i x h1
      rw [h] at h2
      cases h2
      exact ⟨by first | decide | lia | omega, by simpa using h1⟩
    · rw [r.v3 x hx] at h; cases h
  · rintro ⟨h0, h1⟩
    obtain ⟨t, h2⟩ := r.v2 _ _ h1
    exact ⟨t, by rw [h2]; congr 2; omega⟩
theorem quantify_c {u : Int} {tu : Tok} {nl : Addr} {vs : List Value} {n0 : Nat} {names : List Int} {every : Bool} {f : BF} {Q : Value → Vals → Led → Prop} (G : Good W sa b σ) (hr : Room Ψ.A 26) (cap : Cap σ 2048) (hf : Full σ) (du : Den σ u f)
    (hm : (nl, listOf vs.toArray n0) ∈ Rl) (hi : IntsAre vs names) (hU : ∀ x ∈ names, x ∈ U1) (hz : names.length ≤ 100)
    (q : ∀ t' b' σ' r, Good W sa b' σ' → Gr σ σ' 2048 → Den σ' r (qf every (lset σ names) f) → Q (.int r t') vals (mgL b' ++ Rl)) :
    WA Ψ (call (.ref 325) [.ref sa, .int u tu, .ref nl] [("forall", .bool every)]) Q vals (mgL b ++ Rl) := by
  refine WA.callDefS (N' := N325) (fo325 _) sc325 hr (binds := [("self", .ref sa), ("u", .int u tu), ("qvars", .ref nl), ("forall", .bool every)]) (rest := ["cache", "ordvar", "j"]) (fun s X => binds_K X rfl (by k_is) rfl rfl rfl) rfl [some (.ref sa), some (.int u tu), some (.ref nl), some (.bool every), none, none, none] rfl ?_
  intro Ψ' he hr'
  have at0 := G.at'
  have hs := G.hs
  have ok := G.ok
  dsimp only [fn325, mkFn]
  kd_p; kl_no; kin_no; kd_in; ksp_in; kit_nb; kit_at; ksr_p; kln_le; kit_is; kit_tp
  have hh : Ψ'.A.handled = none := hr'.hh
  have hfam1 := fam1 (!(byT W.w))
  obtain ⟨k1, hk1, hs1, hk1m⟩ := foldS_fam hfam1 names [] (nil_subl _) hU
  rw [tabOf_nil] at hk1
  refine WA.setOfList hh (List.mem_append_right _ hm) hi (by first | decide | lia | omega) hk1 fun d1 o1 I1 => ?_
  kit_tp
  have hmv : ∀ x, x ∈ k1 ↔ x ∈ names := fun x => ⟨fun h => by
    have := (hk1m x (mem_subl hs1 x h)).mp h
    simpa using this, fun h => (hk1m x (hU x h)).mpr (.inr h)⟩
  have hord : ∀ x, x ∈ k1 → ∃ j t, valueAt b.vk x = some (.int j t) ∧ j ∈ U2 := fun x hx => by
    obtain ⟨i, hi', ei⟩ := List.mem_iff_getElem.mp ((hf.mem x).mp (mem_subl hs1 x hx))
    obtain ⟨t, ht⟩ := G.r.v2 i x (by rw [List.getElem?_eq_getElem hi', ei])
    refine ⟨_, t, ht, ?_⟩
    rw [hf.len] at hi'
    simp only [U2, List.mem_cons, List.not_mem_nil, or_false]
    omega
  refine map_c (d := d1) (od := o1) G (hr'.less (by first | decide | lia | omega)) (.head _) ⟨I1, hs1⟩ hord fun d2 o2 t2 ks I2 hne he2 hkm => ?_
  have hkl : ks.length ≤ 4 := by
    cases hks : ks with
    | nil => simp
    | cons k0 kr => rw [← hks]; exact (fam_all (fam2 (!(byT W.w))) (hne (by rw [hks]; simp)).2).n4
  obtain ⟨es, ep, SW, hI2, hen⟩ : ∃ es ep, SetW W.w o2 es ep t2 ∧ IntsAre (es.toList.map (·.2)) ks ∧ es.size = ks.length := by
    by_cases h0 : ks = []
    · obtain ⟨led, hl⟩ := he2 h0
      subst h0
      refine SetI.walk I2 (fun h => absurd rfl h) (by rw [hl]; rfl) fun i hi' => ?_
      obtain rfl : i = 0 := by simpa using hi'
      rw [hl]; rfl
    · obtain ⟨e1, e2⟩ := hne h0
      rw [e1] at I2 ⊢
      exact SetF.walk (fam2 _) ⟨I2, e2⟩
  kmb_kw; kcf_m; kd_p; kl_no; kit_at; ksr_p; kln_le; kit_tp
  refine WA.dict0M fun ca => ?_
  kmb_kw; kcf_m; kd_p; kl_no; kit_at; ksr_p; kle_go; kit_is; kit_tp
  refine WA.sortedSet hh SW (List.mem_append_right _ (.tail _ (.head _))) hI2 (by first | decide | lia | omega) fun D vs2 ord n2 hord2 hop hsorted => ?_
  kmb_kw; kcf_m; kd_p; kl_no; kst_p; kmb_kw; kcf_m; kd_p; kj_on; kin_no; kd_in; ksp_in; kit_is; kit_is; kit_is; kit_is; kit_is; kit_is; kit_tp
  refine WA.perm (mgL b ++ (ca, dictOf [] 0) :: (D, listOf vs2.toArray n2) :: (d2, o2) :: (d1, o1) :: Rl) (List.Perm.append_left _ (List.Perm.swap _ _ _)) ?_
  have hS : (fun k => decide (k ∈ ks)) = lset σ names := funext fun j => by
    unfold lset
    rw [decide_eq_decide, hkm]
    constructor
    · rintro ⟨x, t, h1, h2⟩
      obtain ⟨h3, h4⟩ := (vk_iff G.r).mp ⟨t, h2⟩
      exact ⟨h3, x, (hmv x).mp h1, h4⟩
    · rintro ⟨h3, x, h1, h4⟩
      obtain ⟨t, h2⟩ := (vk_iff G.r).mpr ⟨h3, h4⟩
      exact ⟨x, t, (hmv x).mpr h1, h2⟩
  have hnv : σ.nv = 4 := hf.len
  refine quant_ok (every := every) (S := fun k => decide (k ∈ ks)) (so := o2) hord2 I2.objOf (by unfold scanBound; omega) (fun x => by rw [decide_eq_true_eq]; exact (hop.mem_iff).symm) (by rw [hop.length_eq]; omega) σ.nv _ Ψ' _ b σ (dictOf [] 0) [] _ 0 u 0 _ _ _ G (hr'.less (by first | decide | lia | omega)) (Int.le_refl _) (by first | decide | lia | omega) (du.vd ok) (.head _) (.tail _ (.head _)) isDict_nil (fun u' x h => by simp [valueAt] at h) (Nat.zero_le _) (fun idx x h => absurd h (Nat.not_lt_zero _)) (cap.less (by rw [hnv]; decide)) (by rw [hnv]; simp) fun t' b' σ' r co' kvs' G' g' v' d' hco' hqc' hl' => ?_
  rw [hnv] at g'
  kcj_m
  refine ⟨mgL b' ++ Rl, List.Sublist.append (List.Sublist.refl _) (List.Sublist.cons _ (List.Sublist.cons _ (List.Sublist.cons _ (List.Sublist.cons _ (List.Sublist.refl _))))), q t' b' σ' r G' (g'.le (by decide)) ?_⟩
  have := d' f du
  rw [hS] at this
  exact this
theorem forall_c {u : Int} {tu : Tok} {nl : Addr} {vs : List Value} {n0 : Nat} {names : List Int} {f : BF} {Q : Value → Vals → Led → Prop} (G : Good W sa b σ) (hr : Room Ψ.A 27) (cap : Cap σ 2048) (hf : Full σ) (du : Den σ u f)
    (hm : (nl, listOf vs.toArray n0) ∈ Rl) (hi : IntsAre vs names) (hU : ∀ x ∈ names, x ∈ U1) (hz : names.length ≤ 100)
    (q : ∀ t' b' σ' r, Good W sa b' σ' → Gr σ σ' 2048 → Den σ' r (qf true (lset σ names) f) → Q (.int r t') vals (mgL b' ++ Rl)) :
    WA Ψ (call (.ref 339) [.ref sa, .ref nl, .int u tu]) Q vals (mgL b ++ Rl) := by
  refine WA.callDefS (N' := N339) (fo339 _) sc339 hr (binds := [("self", .ref sa), ("qvars", .ref nl), ("u", .int u tu)]) (rest := []) (fun s X => .of_eq rfl) rfl [some (.ref sa), some (.ref nl), some (.int u tu)] rfl ?_
  intro Ψ' he hr'
  have at0 := G.at'
  have hs := G.hs
  dsimp only [fn339, mkFn]
  kd_p; kj_on
  refine Mine.L.callMK (ns := ["forall"]) (pl := _) rfl (by intro _; rfl) (by intro _; rfl) (by with_unfolding_all rfl) ?_; intro _
  kd_in
  refine M.methKK hs at0 (by kas_types) ?_; intro _
  kit_is; kit_is; kit_tp; kjx_on; kw_lk; kj_one
  refine quantify_c G hr' cap hf du hm hi hU hz fun t' b' σ' r G' g' d' => ?_
  kcj_m
  exact ⟨_, List.Sublist.refl _, q t' b' σ' r G' g' d'⟩
theorem exist_c {u : Int} {tu : Tok} {nl : Addr} {vs : List Value} {n0 : Nat} {names : List Int} {f : BF} {Q : Value → Vals → Led → Prop} (G : Good W sa b σ) (hr : Room Ψ.A 27) (cap : Cap σ 2048) (hf : Full σ) (du : Den σ u f)
    (hm : (nl, listOf vs.toArray n0) ∈ Rl) (hi : IntsAre vs names) (hU : ∀ x ∈ names, x ∈ U1) (hz : names.length ≤ 100)
    (q : ∀ t' b' σ' r, Good W sa b' σ' → Gr σ σ' 2048 → Den σ' r (qf false (lset σ names) f) → Q (.int r t') vals (mgL b' ++ Rl)) :
    WA Ψ (call (.ref 346) [.ref sa, .ref nl, .int u tu]) Q vals (mgL b ++ Rl) := by
  refine WA.callDefS (N' := N346) (fo346 _) sc346 hr (binds := [("self", .ref sa), ("qvars", .ref nl), ("u", .int u tu)]) (rest := []) (fun s X => .of_eq rfl) rfl [some (.ref sa), some (.ref nl), some (.int u tu)] rfl ?_
  intro Ψ' he hr'
  have at0 := G.at'
  have hs := G.hs
  dsimp only [fn346, mkFn]
  kd_p; kj_on
  refine Mine.L.callMK (ns := ["forall"]) (pl := _) rfl (by intro _; rfl) (by intro _; rfl) (by with_unfolding_all rfl) ?_; intro _
  kd_in
  refine M.methKK hs at0 (by kas_types) ?_; intro _
  kit_is; kit_is; kit_tp; kjx_on; kw_lk; kj_one
  refine quantify_c G hr' cap hf du hm hi hU hz fun t' b' σ' r G' g' d' => ?_
  kcj_m
  exact ⟨_, List.Sublist.refl _, q t' b' σ' r G' g' d'⟩
end
end
section
open PySem PySem.W PyProof.Rows PySem.Calls
set_option maxRecDepth 100000
set_option maxHeartbeats 8000000
section
variable {N : Nm} {W : Wd} {Ψ : Frm hd.heap_1_1 N W} {vals : Vals} {b : Mg} {σ : Sg} {Rl : Led} {sa : Addr}
theorem succ_c {u i v x : Int} {tu : Tok} {Q : Value → Vals → Led → Prop} (G : Good W sa b σ) (hr : Room Ψ.A 2) (hn : σ.node (iabs u) = some (i, v, x))
    (q : ∀ a t1 t2 t3 n dd sl, (a, (⟨.type "tuple", dd, .seq #[.int i t1, .int v t2, .int x t3] n, sl⟩ : Obj)) ∈ mgL b ++ Rl → Q (.ref a) vals (mgL b ++ Rl)) :
    WA Ψ (call (.ref 93) [.ref sa, .int u tu]) Q vals (mgL b ++ Rl) := by
  refine WA.callDefS (N' := N93) (fo93 _) sc93 hr (binds := [("self", .ref sa), ("u", .int u tu)]) (rest := []) (fun s X => .of_eq rfl) rfl [some (.ref sa), some (.int u tu)] rfl ?_
  intro Ψ' he hr'
  have at0 := G.at'
  have hs := G.hs
  dsimp only [fn93, mkFn]
  kd_p; kj_on; kfm_hd; kgr_on; kd_in; ksk_a3; kit_at; ksr_p; kle_go; kit_is; kit_tp; kqd_ok
  refine M.getNode G.r hn fun a t1 t2 t3 n dd sl hm => ?_
  kcj_m
  exact ⟨_, List.Sublist.refl _, q a t1 t2 t3 n dd sl hm⟩
theorem varat_c {j x : Int} {tj : Tok} {Q : Value → Vals → Led → Prop} (G : Good W sa b σ) (hr : Room Ψ.A 2) (h0 : 0 ≤ j) (hx : σ.order[j.toNat]? = some x)
    (q : ∀ t, Q (.int x t) vals (mgL b ++ Rl)) :
    WA Ψ (call (.ref 157) [.ref sa, .int j tj]) Q vals (mgL b ++ Rl) := by
  refine WA.callDefS (N' := N157) (fo157 _) sc157 hr (binds := [("self", .ref sa), ("level", .int j tj)]) (rest := []) (fun s X => .of_eq rfl) rfl [some (.ref sa), some (.int j tj)] rfl ?_
  intro Ψ' he hr'
  have at0 := G.at'
  have hs := G.hs
  obtain ⟨t, ht⟩ := G.r.l2 j.toNat x hx
  rw [show ((j.toNat : Nat) : Int) = j by first | decide | lia | omega] at ht
  dsimp only [fn157, mkFn]
  kd_p; kd_p1; kd_adr; kd_in; kgr_on; kd_in; ksk_a3
  refine WA.dNotIn (intKind_is _ _ _ _) lo_mem G.r.l1 ?_
  rw [ht]
  ks_any; kwk_eq; kt_k; kcf_m; kd_p; kj_on; kfm_hd; kgr_on; kd_in; ksk_a3; kd_in
  refine dTail lo_mem G.r.l1 (WA.dGet (intKind_is _ _ _ _) lo_mem G.r.l1 ht ?_) (by with_unfolding_all rfl)
  kcj_m
  exact ⟨_, List.Sublist.refl _, q t⟩
end
end
section
open PySem PySem.W PyProof.Rows PySem.Calls
set_option maxRecDepth 100000
set_option maxHeartbeats 4000000
section
variable {K : Params → Frag} {N : Nm} {W : Wd} {Ψ : Frm K N W} {vals : Vals} {l : Led}
variable {Kt : Type} [DecidableEq Kt] {knd : KeyKind W.prog W.w Kt} {d : Addr} {o : Obj} {k : Kt} {key : Value} {kvs : List (Kt × Value)} {xs : List (List Kt × Addr × Value)} {ks : List Kt} {x : Addr}
theorem WA.setdefNew {v : Value} {pre post : Led} {Q : Value → Vals → Led → Prop} (hkey : knd.is k key = true) (hl : l = pre ++ (d, o) :: post) (ho : o.IsDictOf knd kvs) (hz : kvs.length ≤ sizeLine) (hn : valueAt kvs k = none)
    (q : ∀ o' : Obj, o'.IsDictOf knd (stored kvs k v) → Q v vals (pre ++ (d, o') :: post)) : WA Ψ (call (.builtin "dict.setdefault") [.ref d, key, v]) Q vals l := fun E s a => by
  subst hl
  have hm : (d, o) ∈ pre ++ (d, o) :: post := List.mem_append_right _ (.head _)
  refine call_meetsIn PySem.F.slot_dict_setdefault (dictAt a hm ho).typeIs PySem.F.entry_dict_setdefault (PySem.F.args_dict_setdefault_3 _ _ _) (kt_meets_setdefault knd d hkey (notSys a hm) v)
    ⟨kvs, dictAt a hm ho, hz, fun v' h => absurd (hn.symm.trans h) (by simp), fun _ h' hd hs => ?_⟩
  obtain ⟨o', ho', hd'⟩ := Heap.dictOf_iff.mp hd
  exact ⟨⟨rfl, rfl⟩, vals, _, a.upd hs ho', q o' hd'⟩
theorem WA.setdefOld {v y : Value} {Q : Value → Vals → Led → Prop} (hkey : knd.is k key = true) (hm : (d, o) ∈ l) (ho : o.IsDictOf knd kvs) (hz : kvs.length ≤ sizeLine) (hn : valueAt kvs k = some y)
    (q : Q y vals l) : WA Ψ (call (.builtin "dict.setdefault") [.ref d, key, v]) Q vals l := fun E s a => by
  refine call_meetsIn PySem.F.slot_dict_setdefault (dictAt a hm ho).typeIs PySem.F.entry_dict_setdefault (PySem.F.args_dict_setdefault_3 _ _ _) (kt_meets_setdefault knd d hkey (notSys a hm) v)
    ⟨kvs, dictAt a hm ho, hz, fun v' h => ?_, fun h => absurd (hn.symm.trans h) (by simp)⟩
  rw [hn] at h; cases h
  exact ⟨⟨rfl, rfl⟩, vals, l, ⟨a.F, a.N, a.U, a.G⟩, q⟩
theorem WA.popNone {Q : Value → Vals → Led → Prop} (hm : (d, o) ∈ l) (ho : IsTupDict knd o []) (q : Q .none vals l) : WA Ψ (call (.builtin "dict.pop") [.ref d, .ref x, .none]) Q vals l := fun E s a => by
  have D := tdictAt a hm ho (by simp)
  have hns := notSys a hm
  obtain ⟨es, ep, h1, h2, h3, h4⟩ := ho
  refine wpAny_call_entry PySem.F.slot_dict_pop D.typeIs PySem.F.entry_dict_pop ?_ (PySem.F.args_dict_pop_3 _ _ _)
  unfold Builtin.«dict.pop»
  refine wpAny_bind ?_
  unfold Builtin.Dict.keyAndDefault
  refine wpAny_bind (wpAny_notOrdered_dict D.typeIs ?_)
  show wpAny _ _ (Pure.pure (d, Value.ref x, some Value.none)) _ _ s
  refine wpAny_pure ?_
  have hemp : es.isEmpty = true := by
    have : es.toList = [] := by simpa using h3
    have : es.size = 0 := by rw [← Array.length_toList, this]; rfl
    simpa [Array.isEmpty] using this
  show wpAny _ _ (dictEntries d >>= _) _ _ s
  refine wpAny_bind (wpAny_dictEntries (a.N _ hm).1 h2 ?_)
  refine wpAny_bind (wpAny_pure ?_)
  rw [hemp]
  simp only [if_true]
  refine wpAny_bind (wpAny_rule ?_)
  refine wpAny_bind (wpAny_pure ?_)
  simp only [Option.isNone_none, if_true]
  unfold Builtin.Dict.missedRemoval
  rw [if_neg (by rw [hns]; exact Bool.false_ne_true)]
  refine wpAny_bind (wpAny_pure ?_)
  refine wpAny_bind (wpAny_rule ?_)
  exact wpAny_pure ⟨_, rfl, ⟨rfl, rfl⟩, vals, l, a, q⟩
theorem WA.pop1 {y : Addr} {v : Value} {pre post : Led} {Q : Value → Vals → Led → Prop} (hu : Ψ.A.units + 1 < cLine) (hl : l = pre ++ (d, o) :: post) (ho : IsTupDict knd o [(ks, y, v)]) (hk : TupL knd l ks x) (hk' : TupL knd l ks y)
    (q : ∀ o', IsTupDict knd o' [] → Q v vals (pre ++ (d, o') :: post)) : WA Ψ (call (.builtin "dict.pop") [.ref d, .ref x, .none]) Q vals l := fun E s a => by
  subst hl
  have hm : (d, o) ∈ pre ++ (d, o) :: post := List.mem_append_right _ (.head _)
  have hD : ∀ z ∈ [(ks, y, v)], TupL knd (pre ++ (d, o) :: post) z.1 z.2.1 := fun z hz => by
    rw [List.mem_singleton] at hz; subst hz; exact hk'
  have D := tdictAt a hm ho hD
  have hns := notSys a hm
  have hg := (a.N _ hm).1
  obtain ⟨es, ep, h1, h2, h3, h4⟩ := ho
  have hsz : es.size = 1 := by rw [← Array.length_toList, h3]; rfl
  refine wpAny_call_entry PySem.F.slot_dict_pop D.typeIs PySem.F.entry_dict_pop ?_ (PySem.F.args_dict_pop_3 _ _ _)
  unfold Builtin.«dict.pop»
  refine wpAny_bind ?_
  unfold Builtin.Dict.keyAndDefault
  refine wpAny_bind (wpAny_notOrdered_dict D.typeIs ?_)
  show wpAny _ _ (Pure.pure (d, Value.ref x, some Value.none)) _ _ s
  refine wpAny_pure ?_
  have hemp : es.isEmpty = false := by simp [Array.isEmpty, hsz]
  show wpAny _ _ (dictEntries d >>= _) _ _ s
  refine wpAny_bind (wpAny_dictEntries hg h2 ?_)
  refine wpAny_bind (wpAny_pure ?_)
  rw [hemp]
  simp only [Bool.false_eq_true, if_false]
  unfold Builtin.Dict.takeOut
  refine wpAny_bind (wpAny_holding ?_)
  refine wpAny_bind ((tupleKind knd).pyHash (k := ks) (show (tupleKind knd).room Ψ.A.in1 from tupleKind_room_in1 hu) (hk.isKey a) ?_)
  refine wpAny_bind (wpAny_dictFind_heap (knd := tupleKind knd) (s := { s with toks := s.toks + (tupleKind knd).draws ks }) (xs := [(ks, y, v)]) (k := ks) (show (tupleKind knd).room Ψ.A.in1 from tupleKind_room_in1 hu) (TupL.isKey (s := s) hk a) hg h2 h3 (fun z hz => TupL.isKey (s := s) (hD z hz) a) h4 (fun h => absurd rfl (h 0 (y, v))) fun j p hj => ?_)
  obtain ⟨rfl, rfl⟩ : j = 0 ∧ p = (y, v) := by
    cases j with
    | zero => simp at hj; exact ⟨rfl, hj.symm⟩
    | succ j => simp at hj
  have he0 : es[0]? = some (entryOfKey (tupleKind knd) (ks, y, v)) := by rw [← Array.getElem?_toList, h3]; rfl
  refine wpAny_bind (wpAny_dictEntries hg h2 ?_)
  rw [he0]
  have hempty : es.eraseIdxIfInBounds 0 = #[] := by
    have h0 : (es.eraseIdxIfInBounds 0).size = 0 := by
      simp only [Array.eraseIdxIfInBounds]
      split
      · rw [Array.size_eraseIdx]; omega
      · omega
    exact Array.eq_empty_of_size_eq_zero h0
  refine wpAny_bind (wpAny_updateDictKeys (f := (·.eraseIdxIfInBounds 0)) hg h2 ?_ (by rw [hsz, sizeLine_is]; omega) (by show (es.eraseIdxIfInBounds 0).size ≤ _; rw [hempty]; exact Nat.zero_le _))
  refine wpAny_pure ?_
  dsimp only
  refine wpAny_bind (wpAny_letGo ?_)
  have hg' : (s.heap.update d (Obj.mapDictKeys (·.eraseIdxIfInBounds 0))).get? d = some (Obj.mapDictKeys (·.eraseIdxIfInBounds 0) o) := Heap.get?_update_self _ hg (by
    obtain ⟨c, dd, dt, sl⟩ := o
    simp only at h2; subst h2; rfl)
  obtain ⟨n', hn', hx'⟩ : ∃ n', (Obj.mapDictKeys (·.eraseIdxIfInBounds 0) o).data = .dict #[] n' ∧ (Obj.mapDictKeys (·.eraseIdxIfInBounds 0) o).ExactDict := by
    obtain ⟨c, dd, dt, sl⟩ := o
    simp only at h2
    subst h2
    obtain ⟨n', e⟩ : ∃ n', (Obj.mapDictKeys (·.eraseIdxIfInBounds 0) { cls := c, dict := dd, data := .dict es ep, slots := sl }).data = Data.dict (es.eraseIdxIfInBounds 0) n' := ⟨_, rfl⟩
    rw [hempty] at e
    exact ⟨_, e, h1⟩
  exact wpAny_pure ⟨_, rfl, ⟨rfl, rfl⟩, vals, _, a.upd (Heap.SameBut.update ..) hg', q _ ⟨#[], n', hx', hn', rfl, List.nodup_nil⟩⟩
end
end
section
open PySem PySem.W PyProof.Rows PySem.Calls
set_option maxRecDepth 100000
set_option maxHeartbeats 8000000
noncomputable def fn86 : FnIn 86 := by
  refine' mkFn ?ok ?hb
  case ok => intro P; k_is
  case hb => exact rfl
@[reducible] noncomputable def N86 : Nm := ⟨["self", "level", "u", "t", "told"], []⟩
theorem sc86 : ScOk fn86.fd.scope.names N86.loc N86.glo := by
  refine scOk_of ?_
  kernel_rfl!
theorem fo86 (P : Params) : FnOk (hd.heap_1_1 P) 86 fn86.fd fn86.body := ⟨⟨_, _, _, fn86.ok P⟩, by kernel_rfl!, fn86.hb, rfl, rfl, rfl, rfl, rfl, by kernel_rfl!⟩
section
variable {N : Nm} {W : Wd} {Ψ : Frm hd.heap_1_1 N W} {vals : Vals} {b : Mg} {σ : Sg} {Rl : Led} {sa : Addr}
theorem raw_attr {x : Str} {v : Value} {expr : Bool} {dd : Addr} {ae : List DictEntry} {n i : Nat} {av : List Value} {l : Led} {Q : Value → Vals → Led → Prop} (I : InstL l clsA sa dd ae n) (at' : AttrsAre ae an av) (hi : an[i]? = some x) (hv : av[i]? = some v) (hh : handedIn v = true) (q : Q v vals l) :
    WA Ψ (getAttr (.ref sa) x expr) Q vals l := WA.getA I at' an_nd hi hv (plain_cls _ _) (hasD_cls _) (an_cls _ x (List.mem_of_getElem? hi)) hh q
theorem term_c {dd pd sd rd : Addr} {ae : List DictEntry} {n : Nat} {av : List Value} {po so ro : Obj} {pk : List (List (Option Int) × Addr × Value)} {sk rk : List (Int × Value)} {R : Led} {lv : Int} {tl : Tok} {Q : Value → Vals → Led → Prop} (hr : Room Ψ.A 2)
    (at' : AttrsAre ae an av) (h0 : av[0]? = some (.ref pd)) (h1 : av[1]? = some (.ref sd)) (h2 : av[2]? = some (.ref rd))
    (hp : IsTupDict (optKind W.prog W.w) po pk) (hs : so.IsDictOf (intKind W.prog W.w) sk) (hro : ro.IsDictOf (intKind W.prog W.w) rk)
    (hc : (pk = [] ∧ sk = [] ∧ rk = []) ∨ ∃ ks0 a0 a1 t0 c t1, pk = [(ks0, a1, .int 1 t0)] ∧ sk = [(1, .ref a0)] ∧ rk = [(1, .int c t1)] ∧ TupL (optKind W.prog W.w) R ks0 a0 ∧ TupL (optKind W.prog W.w) R ks0 a1)
    (q : ∀ a t1 c t2 po' so' ro', IsTupDict (optKind W.prog W.w) po' [([some lv, none, none], a, .int 1 t1)] → so'.IsDictOf (intKind W.prog W.w) [(1, .ref a)] → ro'.IsDictOf (intKind W.prog W.w) [(1, .int c t2)] →
      Q .none vals ((sa, instObj clsA dd) :: (dd, dictOf ae n) :: (pd, po') :: (sd, so') :: (rd, ro') :: (a, tupObj [.int lv tl, .none, .none]) :: R)) :
    WA Ψ (call (.ref 86) [.ref sa, .int lv tl]) Q vals ((sa, instObj clsA dd) :: (dd, dictOf ae n) :: (pd, po) :: (sd, so) :: (rd, ro) :: R) := by
  refine WA.callDefS (N' := N86) (fo86 _) sc86 hr (binds := [("self", .ref sa), ("level", .int lv tl)]) (rest := ["u", "t", "told"]) (fun s X => .of_eq rfl) rfl [some (.ref sa), some (.int lv tl), none, none, none] rfl ?_
  intro Ψ' he hr'
  have hun : Ψ'.A.units + 1 < cLine := by have := hr'.u; omega
  dsimp only [fn86, mkFn]
  kd_p; kl_no; kst_p; kmb_kw; kcf_m; kd_p; kl_no; kim_at; kit_is; kit_nb; kt_le; kit_nb; kt_le; kit_tp
  refine WA.newTupM (M := [(sa, instObj clsA dd), (dd, dictOf ae n), (pd, po), (sd, so), (rd, ro)]) (R := R) (vs := [.int lv tl, .none, .none]) (fits_of (n := 3) (by first | decide | lia | omega)) fun a => ?_
  kmb_kw; kcf_m; kd_p; kl_no; kin_no; kgr_on; kd_in
  have hit : ItemsAre (optKind W.prog W.w) [some lv, none, none] [.int lv tl, .none, .none] := .cons (by simp [optKind, isOpt]) (.cons (by rfl) (.cons (by rfl) .nil))
  have II : ∀ {l : Led}, InstL ((sa, instObj clsA dd) :: (dd, dictOf ae n) :: l) clsA sa dd ae n := ⟨.head _, .tail _ (.head _)⟩
  rcases hc with ⟨rfl, rfl, rfl⟩ | ⟨ks0, a0, a1, t0, c, t1, rfl, rfl, rfl, htup, htup1⟩
  · refine raw_attr (i := 1) II at' rfl h1 rfl ?_
    refine WA.dMeth (d := sd) (o := so) (.tail _ (.tail _ (.tail _ (.head _)))) (IsDictOf.exact hs) PySem.F.slot_dict_setdefault PySem.F.type_dict_setdefault ?_
    kl_lit; kit_is; kit_is; kit_tp
    refine WA.setdefNew (k := (1 : Int)) (pre := [(sa, instObj clsA dd), (dd, dictOf ae n), (pd, po)]) (intKind_is _ _ _ _) rfl hs (by simp) rfl fun so1 hs1 => ?_
    kmb_kw; kcf_m; kd_p; ks_is; kin_no; kgr_on; kd_in
    refine raw_attr (i := 0) II at' rfl h0 rfl ?_
    refine WA.dMeth (d := pd) (o := po) (.tail _ (.tail _ (.head _))) (let ⟨_, _, e, _⟩ := hp; e) PySem.F.slot_dict_pop PySem.F.type_dict_pop ?_
    kl_lit; kit_is; kit_nb; kt_le; kit_tp
    refine WA.popNone (d := pd) (o := po) (.tail _ (.tail _ (.head _))) hp ?_
    kcf_m; kd_p; kpc_g; kd_in; kgr_on; kd_in
    refine raw_attr (i := 1) II at' rfl h1 rfl ?_
    kd_in
    refine WA.dSet (k := (1 : Int)) (pre := [(sa, instObj clsA dd), (dd, dictOf ae n), (pd, po)]) (intKind_is _ _ _ _) rfl hs1 (by simp [stored, sizeLine_is]) fun so2 hs2 => ?_
    kcf_m; kd_p; kpc_g; kd_in; kgr_on; kd_in
    refine raw_attr (i := 0) II at' rfl h0 rfl ?_
    kd_in
    refine WA.tSet (knd := optKind W.prog W.w) (ks := [some lv, none, none]) (xs := []) (pre := [(sa, instObj clsA dd), (dd, dictOf ae n)]) hun ⟨_, _, _, _, .tail _ (.tail _ (.tail _ (.tail _ (.tail _ (.head _))))), hit⟩ rfl hp (by simp) (by simp) fun po1 hp1 => ?_
    kcf_m; kd_p; ks_is; kin_no; kgr_on; kd_in
    refine raw_attr (i := 2) II at' rfl h2 rfl ?_
    refine WA.dMeth (d := rd) (o := ro) (.tail _ (.tail _ (.tail _ (.tail _ (.head _))))) (IsDictOf.exact hro) PySem.F.slot_dict_setdefault PySem.F.type_dict_setdefault ?_
    kl_lit; kit_is; kit_nb; kst_p; kit_tp
    refine WA.setdefNew (k := (1 : Int)) (pre := [(sa, instObj clsA dd), (dd, dictOf ae n), (pd, po1), (sd, so2)]) (intKind_is _ _ _ _) rfl hro (by simp) rfl fun ro1 hr1 => ?_
    kcf_m; kt_k
    refine ⟨_, List.Sublist.refl _, q a _ _ _ po1 so2 ro1 hp1 hs2 hr1⟩
  · have htl1 : ∀ {x1 x2 x3 x4 x5 x6 : Addr × Obj}, TupL (optKind W.prog W.w) (x1 :: x2 :: x3 :: x4 :: x5 :: x6 :: R) ks0 a1 := htup1.mono fun y hy => .tail _ (.tail _ (.tail _ (.tail _ (.tail _ (.tail _ hy)))))
    have htl : ∀ {x1 x2 x3 x4 x5 x6 : Addr × Obj}, TupL (optKind W.prog W.w) (x1 :: x2 :: x3 :: x4 :: x5 :: x6 :: R) ks0 a0 := htup.mono fun y hy => .tail _ (.tail _ (.tail _ (.tail _ (.tail _ (.tail _ hy)))))
    refine raw_attr (i := 1) II at' rfl h1 rfl ?_
    refine WA.dMeth (d := sd) (o := so) (.tail _ (.tail _ (.tail _ (.head _)))) (IsDictOf.exact hs) PySem.F.slot_dict_setdefault PySem.F.type_dict_setdefault ?_
    kl_lit; kit_is; kit_is; kit_tp
    refine WA.setdefOld (d := sd) (o := so) (k := (1 : Int)) (intKind_is _ _ _ _) (.tail _ (.tail _ (.tail _ (.head _)))) hs (by simp [sizeLine_is]) rfl ?_
    kmb_kw; kcf_m; kd_p; ks_is; kin_no; kgr_on; kd_in
    refine raw_attr (i := 0) II at' rfl h0 rfl ?_
    refine WA.dMeth (d := pd) (o := po) (.tail _ (.tail _ (.head _))) (let ⟨_, _, e, _⟩ := hp; e) PySem.F.slot_dict_pop PySem.F.type_dict_pop ?_
    kl_lit; kit_is; kit_nb; kt_le; kit_tp
    refine WA.pop1 (pre := [(sa, instObj clsA dd), (dd, dictOf ae n)]) hun rfl hp htl htl1 fun po0 hp0 => ?_
    kcf_m; kd_p; kpc_g; kd_in; kgr_on; kd_in
    refine raw_attr (i := 1) II at' rfl h1 rfl ?_
    kd_in
    refine WA.dSet (k := (1 : Int)) (pre := [(sa, instObj clsA dd), (dd, dictOf ae n), (pd, po0)]) (intKind_is _ _ _ _) rfl hs (by simp [sizeLine_is]) fun so2 hs2 => ?_
    kcf_m; kd_p; kpc_g; kd_in; kgr_on; kd_in
    refine raw_attr (i := 0) II at' rfl h0 rfl ?_
    kd_in
    refine WA.tSet (knd := optKind W.prog W.w) (ks := [some lv, none, none]) (xs := []) (pre := [(sa, instObj clsA dd), (dd, dictOf ae n)]) hun ⟨_, _, _, _, .tail _ (.tail _ (.tail _ (.tail _ (.tail _ (.head _))))), hit⟩ rfl hp0 (by simp) (by simp) fun po1 hp1 => ?_
    kcf_m; kd_p; ks_is; kin_no; kgr_on; kd_in
    refine raw_attr (i := 2) II at' rfl h2 rfl ?_
    refine WA.dMeth (d := rd) (o := ro) (.tail _ (.tail _ (.tail _ (.tail _ (.head _))))) (IsDictOf.exact hro) PySem.F.slot_dict_setdefault PySem.F.type_dict_setdefault ?_
    kl_lit; kit_is; kit_nb; kst_p; kit_tp
    refine WA.setdefOld (d := rd) (o := ro) (k := (1 : Int)) (intKind_is _ _ _ _) (.tail _ (.tail _ (.tail _ (.tail _ (.head _))))) hro (by simp [sizeLine_is]) rfl ?_
    kcf_m; kt_k
    refine ⟨_, List.Sublist.refl _, q a _ _ _ po1 so2 ro hp1 hs2 hro⟩
end
end
section
open PySem PySem.W PyProof.Rows PySem.Calls
set_option maxRecDepth 100000
set_option maxHeartbeats 8000000
noncomputable def fn143 : FnIn 143 := by
  refine' mkFn ?ok ?hb
  case ok => intro P; k_is
  case hb => exact rfl
@[reducible] noncomputable def N143 : Nm := ⟨["self", "var", "level", "other"], ["len"]⟩
theorem sc143 : ScOk fn143.fd.scope.names N143.loc N143.glo := by
  refine scOk_of ?_
  kernel_rfl!
theorem fo143 (P : Params) : FnOk (hd.heap_1_1 P) 143 fn143.fd fn143.body := ⟨⟨_, _, _, fn143.ok P⟩, by kernel_rfl!, fn143.hb, rfl, rfl, rfl, rfl, rfl, by kernel_rfl!⟩
noncomputable def fn129 : FnIn 129 := by
  refine' mkFn ?ok ?hb
  case ok => intro P; k_is
  case hb => exact rfl
@[reducible] noncomputable def N129 : Nm := ⟨["self", "var", "level"], ["len"]⟩
theorem sc129 : ScOk fn129.fd.scope.names N129.loc N129.glo := by
  refine scOk_of ?_
  kernel_rfl!
theorem fo129 (P : Params) : FnOk (hd.heap_1_1 P) 129 fn129.fd fn129.body := ⟨⟨_, _, _, fn129.ok P⟩, by kernel_rfl!, fn129.hb, rfl, rfl, rfl, rfl, rfl, by kernel_rfl!⟩
section
variable {N : Nm} {W : Wd} {Ψ : Frm hd.heap_1_1 N W} {vals : Vals} {b : Mg} {σ : Sg} {Rl : Led} {sa : Addr}
noncomputable def Sg.bare (order : List Int) : Sg := ⟨order, [], fun _ _ _ => none, 0⟩
theorem bare_ok (order : List Int) : Ok (Sg.bare order) := by
  have hn : ∀ u, (Sg.bare order).node u = none := fun u => by
    unfold Sg.node Sg.bare
    split <;> simp
  exact ⟨fun u i v x h => (by rw [hn] at h; cases h), fun u u' t h => (by rw [hn] at h; cases h)⟩
theorem bare_ik (order : List Int) : Ik (Sg.bare order) := fun g u v r h => by cases h
theorem one_mem {α : Type} {y : α} : ∀ {l : List α}, y ∈ l → l.length ≤ 1 → l = [y]
  | [], h, _ => by cases h
  | a :: [], h, _ => by rw [List.mem_singleton.mp h]
  | _ :: _ :: r, _, h => absurd h (by simp only [List.length_cons]; omega)
theorem one_at {K : Type} [DecidableEq K] {kvs : List (K × Value)} {k : K} {v : Value} (h : valueAt kvs k = some v) (hl : kvs.length ≤ 1) : kvs = [(k, v)] := by
  have hm : (k, v) ∈ kvs := by
    unfold valueAt at h
    obtain ⟨y, hy, e⟩ := Option.map_eq_some_iff.mp h
    have h2 := List.find?_some hy
    have h1 := List.mem_of_find?_eq_some hy
    simp only [decide_eq_true_eq] at h2
    rw [← h2, ← e]; exact h1
  exact one_mem hm hl
theorem one_atKey {K : Type} [DecidableEq K] {xs : List (K × Addr × Value)} {k : K} {p : Addr × Value} (h : atKey xs k = some p) (hl : xs.length ≤ 1) : xs = [(k, p)] := one_mem (atKey_mem h) hl
theorem bare_node (order : List Int) (u : Int) : (Sg.bare order).node u = none := by
  unfold Sg.node Sg.bare
  split <;> simp
theorem bare_key {order : List Int} {u : Int} {ks : List (Option Int)} (h : (Sg.bare order).key u = some ks) : u = 1 ∧ ks = [some (order.length : Int), none, none] := by
  unfold Sg.key at h
  split at h
  · rename_i h1; cases h; exact ⟨h1, rfl⟩
  · rw [bare_node] at h; cases h
theorem bare_key1 (order : List Int) : (Sg.bare order).key 1 = some [some (order.length : Int), none, none] := rfl
theorem Rep.addVar {W : Wd} {b b' : Mg} {order : List Int} {x : Int} {a : Addr} {t1 t2 tv tl : Tok} {c : Int} {tt : Tok} (r : Rep W b (Sg.bare order)) (hx : x ∉ order) (hl : order.length ≤ 10)
    (hat : AttrsAre b'.ae an b'.av) (hmf : b'.mf = b.mf) (hmx : b'.mx = b.mx) (htu : b'.tups = (a, tupObj [.int ((order.length : Int) + 1) tt, .none, .none]) :: b.tups)
    (hpk : b'.pk = [([some ((order.length : Int) + 1), none, none], a, .int 1 t1)]) (hpo : IsTupDict (optKind W.prog W.w) b'.po b'.pk) (hsk : b'.sk = [(1, .ref a)]) (hso : b'.so.IsDictOf (intKind W.prog W.w) b'.sk)
    (hrk : b'.rk = [(1, .int c t2)]) (hro : b'.rro.IsDictOf (intKind W.prog W.w) b'.rk) (hio : b'.io = b.io) (hik : b'.ik = b.ik)
    (hvk : b'.vk = stored b.vk x (.int order.length tv)) (hvo : b'.vo.IsDictOf (intKind W.prog W.w) b'.vk) (hlk : b'.lk = stored b.lk order.length (.int x tl)) (hlo : b'.lo.IsDictOf (intKind W.prog W.w) b'.lk) : Rep W b' (Sg.bare (order ++ [x])) := by
  have hlen : ((order ++ [x]).length : Int) = order.length + 1 := by simp
  have hT : TupL (optKind W.prog W.w) b'.tups [some ((order.length : Int) + 1), none, none] a :=
    ⟨_, _, _, _, by rw [htu]; exact .head _, .cons (by simp [optKind, isOpt]) (.cons (by rfl) (.cons (by rfl) .nil))⟩
  have hv0 : valueAt b.vk x = none := r.v3 x hx
  have hl0 : valueAt b.lk (order.length : Int) = none := r.l3 _ (.inr (Int.le_refl _))
  refine
    { at' := hat, mf := by rw [hmf]; exact r.mf, mx := by rw [hmx]; exact r.mx, s1 := hso, s2 := ?_, s3 := ?_, s4 := by rw [hsk]; rfl, p1 := hpo, p2 := ?_, p3 := ?_, p4 := ?_, p5 := by rw [hpk]; exact Nat.le_refl _, r1 := hro, r2 := ?_, r3 := by rw [hrk]; exact Nat.le_refl _,
      i1 := by rw [hio, hik]; exact r.i1, i2 := ?_, i3 := by rw [hik]; exact r.i3, i4 := by rw [hik]; exact r.i4, v1 := hvo, v2 := ?_, v3 := ?_, v4 := ?_, v5 := ?_, l1 := hlo, l2 := ?_, l3 := ?_, l4 := ?_ }
  · intro u ks h
    obtain ⟨rfl, rfl⟩ := bare_key h
    exact ⟨a, by rw [hsk]; rfl, by rw [hlen]; exact hT⟩
  · intro u h
    have : u ≠ 1 := by rintro rfl; rw [bare_key1] at h; cases h
    have this' : ¬ 1 = u := fun e => this e.symm
    rw [hsk]
    simp [valueAt, this']
  · rw [hpk]
    intro y hy
    rw [List.mem_singleton] at hy
    subst hy
    exact hT
  · intro ks a' v h
    have := atKey_mem h
    rw [hpk, List.mem_singleton] at this
    cases this
    exact ⟨1, t1, rfl, by rw [bare_key1, hlen]⟩
  · intro u ks h
    obtain ⟨rfl, rfl⟩ := bare_key h
    rw [hpk, hlen]
    exact ⟨a, t1, by simp [atKey]⟩
  · intro u ks h
    obtain ⟨rfl, rfl⟩ := bare_key h
    rw [hrk]
    exact ⟨c, t2, rfl⟩
  · rw [hik, htu]
    exact fun y hy => (r.i2 y hy).cons
  · intro j y h
    replace h : (order ++ [x])[j]? = some y := h
    rw [hvk, valueAt_stored]
    by_cases hj : j < order.length
    · rw [List.getElem?_append_left hj] at h
      have hne : y ≠ x := fun e => hx (e ▸ List.mem_of_getElem? h)
      rw [if_neg hne]
      exact r.v2 j y h
    · have h' := h
      rw [List.getElem?_append_right (by first | decide | lia | omega)] at h'
      have hj0 : j - order.length = 0 := by
        rcases Nat.eq_zero_or_pos (j - order.length) with h0 | h0
        · exact h0
        · rw [List.getElem?_eq_none (by simp; omega)] at h'; cases h'
      rw [hj0] at h'
      simp only [List.getElem?_cons_zero, Option.some.injEq] at h'
      rw [if_pos h'.symm]
      exact ⟨tv, by congr 2; omega⟩
  · intro y h
    simp only [Sg.bare, List.mem_append, List.mem_singleton, not_or] at h
    rw [hvk, valueAt_stored, if_neg h.2]
    exact r.v3 y h.1
  · rw [hvk, stored_len_new hv0, r.v4]
    simp [Sg.bare]
  · simp only [Sg.bare, List.length_append, List.length_singleton]; omega
  · intro j y h
    replace h : (order ++ [x])[j]? = some y := h
    rw [hlk, valueAt_stored]
    by_cases hj : j < order.length
    · rw [List.getElem?_append_left hj] at h
      rw [if_neg (by first | decide | lia | omega)]
      exact r.l2 j y h
    · have h' := h
      rw [List.getElem?_append_right (by first | decide | lia | omega)] at h'
      have hj0 : j - order.length = 0 := by
        rcases Nat.eq_zero_or_pos (j - order.length) with h0 | h0
        · exact h0
        · rw [List.getElem?_eq_none (by simp; omega)] at h'; cases h'
      rw [hj0] at h'
      simp only [List.getElem?_cons_zero, Option.some.injEq] at h'
      rw [if_pos (by first | decide | lia | omega)]
      exact ⟨tl, by rw [h']⟩
  · intro j h
    simp only [Sg.bare, List.length_append, List.length_singleton] at h
    rw [hlk, valueAt_stored, if_neg (by first | decide | lia | omega)]
    exact r.l3 j (by simp only [Sg.bare]; omega)
  · rw [hlk, stored_len_new hl0, r.l4]
    simp [Sg.bare]
theorem nfl_c {x : Int} {tx : Tok} {Q : Value → Vals → Led → Prop} (G : Good W sa b σ) (hr : Room Ψ.A 2) (q : ∀ t, Q (.int σ.nv t) vals (mgL b ++ Rl)) :
    WA Ψ (call (.ref 143) [.ref sa, .int x tx, .none]) Q vals (mgL b ++ Rl) := by
  refine WA.callDefS (N' := N143) (fo143 _) sc143 hr (binds := [("self", .ref sa), ("var", .int x tx), ("level", .none)]) (rest := ["other"]) (fun s X => .of_eq rfl) rfl [some (.ref sa), some (.int x tx), some .none, none] rfl ?_
  intro Ψ' he hr'
  have at0 := G.at'
  have hs := G.hs
  have h5 := G.r.v5
  have hnv : (b.vk.length : Int) = σ.nv := by rw [G.r.v4]; rfl
  dsimp only [fn143, mkFn]
  kd_p; kd_p1; kd_adr; kd_in; kt_le; kri_at; ks_any; kwk_ne; kd_p; kl_no; kit_at; ksr_p; kle_go; kit_nb; kgr_on; kd_in; ksk_a3; kit_tp
  refine WA.dLen vo_mem G.r.v1 (by rw [G.r.v4]; omega) fun _ => ?_
  rw [hnv]
  kmb_kw; kcf_m; kt_k; kcf_m; kd_p; kd_p1; kd_adr; kd_in; kst_p; kpf_eq; ks_any; kwk_eq; kt_k; kcf_m; kd_p; kl_no; kin_no; kgr_on; kd_in; ksk_a3
  refine WA.dMeth lo_mem (IsDictOf.exact G.r.l1) PySem.F.slot_dict_get PySem.F.type_dict_get ?_
  kl_lit; kit_is; kit_tp
  refine WA.dGet1 (k := (σ.nv : Int)) (intKind_is _ _ _ _) lo_mem G.r.l1 ?_
  rw [show valueAt b.lk (σ.nv : Int) = none from G.r.l3 _ (.inr (Int.le_refl _))]
  kmb_kw; kcf_m; kd_p; kd_p1; kd_adr; kd_in; kt_le; kri_at; ks_any; kwk_ne; kd_p; kj_on; kd_in; kcj_m; kcj_m
  exact ⟨_, List.Sublist.refl _, q _⟩
theorem add_c {order : List Int} {x : Int} {tx : Tok} {Q : Value → Vals → Led → Prop} (G : Good W sa b (Sg.bare order)) (hr : Room Ψ.A 4) (hx : x ∉ order) (hl : order.length ≤ 10)
    (q : ∀ t b', Good W sa b' (Sg.bare (order ++ [x])) → Q (.int order.length t) vals (mgL b' ++ Rl)) :
    WA Ψ (call (.ref 129) [.ref sa, .int x tx]) Q vals (mgL b ++ Rl) := by
  refine WA.callDefS (N' := N129) (fo129 _) sc129 hr (binds := [("self", .ref sa), ("var", .int x tx), ("level", .none)]) (rest := []) (fun s X => binds_K X rfl (by k_is) rfl rfl rfl) rfl [some (.ref sa), some (.int x tx), some .none] rfl ?_
  intro Ψ' he hr'
  have at0 := G.at'
  have hs := G.hs
  subst hs
  have hs : b.self = b.self := rfl
  have hvn := G.r.v3 x hx
  dsimp only [fn129, mkFn]
  kd_p; kd_p1; kd_adr; kd_in; kgr_on; kd_in; ksk_a3
  refine WA.dIn (intKind_is _ _ _ _) vo_mem G.r.v1 ?_
  rw [hvn]
  ks_any; kwk_eq; kt_k; kcf_m; kd_p; kl_no; kin_no; kd_in; ksp_in; kit_is; kit_is; kit_tp
  refine nfl_c G (hr'.less (by first | decide | lia | omega)) fun tl => ?_
  kmb_kw; kcf_m; kd_p; kpc_g; kd_in; kgr_on; kd_in; ksk_a3; kd_in
  refine M.setVars (intKind_is _ _ _ _) G.r.v1 (by rw [G.r.v4, sizeLine_is]; simp only [Sg.bare]; omega) fun vo' hvo => ?_
  intro b1
  have at1 : AttrsAre b1.ae an b1.av := at0
  have hs1 : b1.self = b.self := rfl
  kcf_m; kd_p; kpc_g; kd_in; kgr_on; kd_in; ksk_a3; kd_in
  refine M.setLev (b := b1) (k := ((Sg.bare order).nv : Int)) (intKind_is _ _ _ _) G.r.l1 (by show b.lk.length ≤ _; rw [G.r.l4, sizeLine_is]; simp only [Sg.bare]; omega) fun lo' hlo => ?_
  intro b2
  have at2 : AttrsAre b2.ae an b2.av := at0
  have hs2 : b2.self = b.self := rfl
  kcf_m; kd_p; ks_is; kin_no; kd_in; ksp_in; kit_nb; kit_at; ksr_p; kle_go; kit_nb; kgr_on; kd_in; ksk_a3; kit_tp
  have hvl : b2.vk.length = order.length + 1 := by
    show (stored b.vk x _).length = _
    rw [stored_len_new hvn, G.r.v4]; rfl
  refine WA.dLen (kvs := b2.vk) (vo_mem (b := b2)) hvo (by rw [hvl]; omega) fun tn => ?_
  rw [hvl]
  kit_tp
  have esplit : ∀ {b : Mg} {R : Led}, mgL b ++ R = (b.self, instObj clsA b.dict) :: (b.dict, dictOf b.ae b.an) :: (b.pd, b.po) :: (b.sd, b.so) :: (b.rd, b.rro) :: ([(b.idt, b.io), (b.vd, b.vo), (b.ld, b.lo), (b.ro, b.roo)] ++ b.tups ++ R) := by
    intro b R; simp [mgL]
  -- the terminal as it stands
  obtain ⟨a0, hs0, ht0⟩ := G.r.s2 1 _ (bare_key1 order)
  obtain ⟨a1, t0, hp1⟩ := G.r.p4 1 _ (bare_key1 order)
  obtain ⟨c, tc, hr1⟩ := G.r.r2 1 _ (bare_key1 order)
  have esk := one_at hs0 (by rw [G.r.s4]; exact Nat.le_refl _)
  have epk := one_atKey hp1 G.r.p5
  have erk := one_at hr1 G.r.r3
  have htup1 : TupL (optKind W.prog W.w) b.tups [some (order.length : Int), none, none] a1 := by
    have := G.r.p2 _ (by rw [epk]; exact .head _)
    exact this
  refine WA.eqL _ (esplit (b := b2) (R := Rl)).symm ?_
  refine term_c (po := b.po) (so := b.so) (ro := b.rro) (pk := b.pk) (sk := b.sk) (rk := b.rk) (hr'.less (by first | decide | lia | omega)) at2 rfl rfl rfl G.r.p1 G.r.s1 G.r.r1
    (.inr ⟨_, a0, a1, t0, c, tc, epk, esk, erk, ht0.mono fun y hy => ?_, htup1.mono fun y hy => ?_⟩) fun a ta ca tca po' so' ro' hpo' hso' hro' => ?_
  · exact List.mem_append_left _ (List.mem_append_right _ hy)
  · exact List.mem_append_left _ (List.mem_append_right _ hy)
  refine R.next ?_
  let b4 : Mg := { b2 with po := po', so := so', rro := ro', pk := [([some ((order.length : Int) + 1), none, none], a, .int 1 ta)], sk := [(1, .ref a)], rk := [(1, .int ca tca)], tups := (a, tupObj [.int ((order.length : Int) + 1) tn, .none, .none]) :: b2.tups }
  refine WA.perm (mgL b4 ++ Rl) ?_ ?_
  · rw [esplit]
    refine List.Perm.cons _ (List.Perm.cons _ (List.Perm.cons _ (List.Perm.cons _ (List.Perm.cons _ ?_))))
    exact (List.perm_middle (l₁ := [(b2.idt, b2.io), (b2.vd, b2.vo), (b2.ld, b2.lo), (b2.ro, b2.roo)]))
  have r4 : Rep W b4 (Sg.bare (order ++ [x])) :=
    Rep.addVar (a := a) (t1 := ta) (t2 := tca) (tv := tl) (tl := tx) (c := ca) (tt := tn) G.r hx hl at2 rfl rfl rfl rfl hpo' rfl hso' rfl hro' rfl rfl rfl hvo rfl hlo
  have hs4 : b4.self = b.self := rfl
  have at4 := r4.at'
  kd_p; kj_on; kd_in; kcj_m
  exact ⟨_, List.Sublist.refl _, q _ b4 ⟨r4, hs4, bare_ok _, bare_ik _⟩⟩
end
end
section
open PySem PySem.W PyProof.Rows PySem.Calls
set_option maxRecDepth 100000
set_option maxHeartbeats 4000000
section
variable {K : Params → Frag} {N : Nm} {W : Wd} {Ψ : Frm K N W} {vals : Vals} {l : Led}
theorem WA.make {C fI : Addr} {fd : FuncData} {body : List Stmt} {args : List Value} {binds : Addr → List (Str × Value)} {rest : List Str} {N' : Nm} {v0 : Addr → Vals} {Q : Value → Vals → Led → Prop} (hm : makesIn (K W.w.params) C = true) (hi : findIn (K W.w.params) (.ref C) "__init__" = some (some (.ref fI))) (hf : isFn (K W.w.params) (.ref fI) = true)
    (ok : FnOk (K W.w.params) fI fd body) (sc : ScOk fd.scope.names N'.loc N'.glo) (hr : (Ψ.A.under (.builtin "type.__call__" ⟨.ref C :: args, []⟩)).depth < recursionLimit)
    (hb : ∀ (x : Addr) (s : Shared), (K W.w.params).In s.heap → BindsTo s fd ⟨.ref x :: args, []⟩ (binds x)) (hn : ∀ x, (binds x).map (·.1) ++ rest = N'.loc) (h0 : ∀ x, bv (binds x) rest.length = v0 x)
    (h : ∀ (x dx : Addr) (Ψ' : Frm K N' W), Ψ'.env = callEnv fd Ψ'.L fI → Ψ'.A = (Ψ.A.under (.builtin "type.__call__" ⟨.ref C :: args, []⟩)).deeper Ψ'.env →
      WA Ψ' (execs body Ψ'.env) (fun fl _ l' => retOf fl = .none ∧ ∃ l'', l''.Sublist l' ∧ Q (.ref x) vals l'') (v0 x) ((x, instObj C dx) :: (dx, dictOf [] 0) :: l)) :
    WA Ψ (call (.ref C) args) Q vals l := by
  refine WA.subPost ?_
  intro E s a
  have X := Ψ.X.keeps a.F.keep
  obtain ⟨hh, g, d, t, os⟩ := s
  have hsz : (hh.push (dictOf [] 0)).objs.size = hh.objs.size + 1 := Heap.size_push ..
  have a0 := a.push (o := dictOf [] 0) (tk := t)
  have a1 := a0.push (o := instObj C hh.objs.size) (tk := t)
  dsimp only at a0 a1
  rw [hsz] at a1
  refine wpAny_call (make_core (makes_of X hm) (looks_findIn X hi) (fun self => bind_fn X self (beq_iff_eq.mp hf)) (.inl rfl) ?_)
  obtain ⟨oc, od, osl, ho⟩ := ok.look
  have X1 := Ψ.X.keeps a1.F.keep
  generalize hS : ({ heap := (hh.push (dictOf [] 0)).push (instObj C hh.objs.size), gens := g, drawn := d, toks := t, os := os } : Shared) = s1 at a1 X1
  have S01 : Same ⟨hh, g, d, t, os⟩ s1 := by rw [← hS]; exact ⟨rfl, rfl⟩
  have nm0 : ∀ b o, Ψ.h.get? b = some o → b ∉ (((hh.objs.size + 1, instObj C hh.objs.size) :: (hh.objs.size, dictOf [] 0) :: l).map (·.1)) := fun b o e q => by
    obtain ⟨p, hp, rfl⟩ := List.mem_map.mp q
    rw [(a1.N p hp).2.2] at e; cases e
  have st : Ψ.h.StaysIn (hideAll s1.heap (((hh.objs.size + 1, instObj C hh.objs.size) :: (hh.objs.size, dictOf [] 0) :: l).map (·.1))) := fun b o e => hideAll_get _ (a1.F.keep b o e) (nm0 b o e)
  let Ψ' : Frm K N' W := ⟨hideAll s1.heap (((hh.objs.size + 1, instObj C hh.objs.size) :: (hh.objs.size, dictOf [] 0) :: l).map (·.1)), s1.heap.objs.size, Ψ.X.keeps (fun b o e => st b o e), Ψ.T.keeps (fun b o e => st b o e), (Ψ.A.under (.builtin "type.__call__" ⟨.ref C :: args, []⟩)).deeper (callEnv fd s1.heap.objs.size fI), callEnv fd s1.heap.objs.size fI, ⟨rfl, ok.kind, ok.glob, ok.bi⟩, sc⟩
  refine codeAny_call_def (fd := fd) (binds := binds (hh.objs.size + 1)) hr (X1 _ _ ho) rfl (Ψ.T.nolimit.keeps a1.F.keep) (codeRec_of X1 ok.code) ok.body (hb _ s1 X1)
    (fun y hy => by simpa using List.all_eq_true.mp ok.nocell y hy)
    (fun y hy => (sc.loc y.1 (by rw [← hn (hh.objs.size + 1)]; exact List.mem_append_left _ (List.mem_map_of_mem hy))).1) (fun h₁ hns hk₁ => ?_) ok.co ok.gen ok.kind
  rw [fr_binds (hn _) sc.nd, h0] at hns
  have a' : At Ψ' (v0 (hh.objs.size + 1)) ((hh.objs.size + 1, instObj C hh.objs.size) :: (hh.objs.size, dictOf [] 0) :: l) { s1 with heap := h₁, toks := s1.toks + (binds (hh.objs.size + 1)).length } :=
    ⟨⟨hns, fun b o e => hk₁ b o (of_hideAll _ e), Nat.le_of_eq (hideAll_size _ _)⟩,
      fun p hp => ⟨hk₁ _ _ (a1.N p hp).1, Nat.ne_of_lt (Heap.lt_size (a1.N p hp).1), hideAll_none _ (List.mem_map_of_mem hp)⟩, a1.U, a1.G⟩
  refine (h (hh.objs.size + 1) hh.objs.size Ψ' rfl rfl).use a' fun fl s' v' l' S a'' q => ?_
  obtain ⟨q1, q2⟩ := q
  have core : Same ⟨hh, g, d, t, os⟩ s' ∧ ∃ vals' l', At Ψ vals' l' s' ∧ ∃ l'', l''.Sublist l' ∧ Q (.ref (hh.objs.size + 1)) vals' l'' :=
    ⟨S01.trans ⟨S.1, S.2⟩, vals, l', At.back (Ψ' := Ψ') a1 rfl a'' (fun b o _ e => e) (Nat.le_refl _), q2⟩
  cases fl with
  | ret v => exact ⟨q1, core⟩
  | next => exact ⟨rfl, core⟩
  | brk => exact ⟨rfl, core⟩
  | cont => exact ⟨rfl, core⟩
end
end
section
open PySem PySem.W PyProof.Rows PySem.Calls
set_option maxRecDepth 100000
set_option maxHeartbeats 4000000
theorem sub_values_set : isSubtype (.type "dict_values") (.type "set") = Pure.pure false := by rw [isSubtype_type]; kernel_rfl
theorem sub_values_frozenset : isSubtype (.type "dict_values") (.type "frozenset") = Pure.pure false := by rw [isSubtype_type]; kernel_rfl
theorem sub_rangeT_set : isSubtype (.type "range") (.type "set") = Pure.pure false := by rw [isSubtype_type]; kernel_rfl
theorem sub_rangeT_frozenset : isSubtype (.type "range") (.type "frozenset") = Pure.pure false := by rw [isSubtype_type]; kernel_rfl
theorem sub_setT_frozenset : isSubtype (.type "set") (.type "frozenset") = Pure.pure false := by rw [isSubtype_type]; kernel_rfl
theorem entry_set_neT : entryFor table "set.__ne__" = some Builtin.«frozenset.__ne__» :=
  entryFor_alias (id' := "frozenset.__ne__") (by kernel_rfl) rfl (by decide +kernel) (by kernel_rfl)
noncomputable abbrev valsView (d : Addr) : Obj := { cls := .type "dict_values", data := .fields #[.ref d] }
noncomputable abbrev itemsView (d : Addr) : Obj := { cls := .type "dict_items", data := .fields #[.ref d] }
section
variable {K : Params → Frag} {N : Nm} {W : Wd} {Ψ : Frm K N W} {vals : Vals} {l : Led}
variable {Kt : Type} [DecidableEq Kt] {knd : KeyKind W.prog W.w Kt} {d : Addr} {o : Obj} {kvs : List (Kt × Value)}
theorem WA.dValues {M R : Led} {Q : Value → Vals → Led → Prop} (hm : (d, o) ∈ M ++ R) (ho : o.IsDictOf knd kvs) (q : ∀ x, Q (.ref x) vals (M ++ (x, valsView d) :: R)) : WA Ψ (call (.builtin "dict.values") [.ref d]) Q vals (M ++ R) :=
  WA.permPost fun E s a => call_meetsIn PySem.F.slot_dict_values (dictAt a hm ho).typeIs PySem.F.entry_dict_values (PySem.F.args_dict_values_1 _) (meets_dict_values knd d (notSys a hm))
    ⟨⟨kvs, dictAt a hm ho⟩, ⟨rfl, rfl⟩, vals, _, a.push, _, shiftPerm, q _⟩
theorem WA.dItems {M R : Led} {Q : Value → Vals → Led → Prop} (hm : (d, o) ∈ M ++ R) (ho : o.IsDictOf knd kvs) (q : ∀ x, Q (.ref x) vals (M ++ (x, itemsView d) :: R)) : WA Ψ (call (.builtin "dict.items") [.ref d]) Q vals (M ++ R) :=
  WA.permPost fun E s a => call_meetsIn PySem.F.slot_dict_items (dictAt a hm ho).typeIs PySem.F.entry_dict_items (PySem.F.args_dict_items_1 _) (meets_dict_items knd d (notSys a hm))
    ⟨⟨kvs, dictAt a hm ho⟩, ⟨rfl, rfl⟩, vals, _, a.push, _, shiftPerm, q _⟩
theorem WA.setOfVals0 {v : Addr} {M R : Led} {Q : Value → Vals → Led → Prop} (hh : Ψ.A.handled = none) (hv : (v, valsView d) ∈ M ++ R) (hm : (d, o) ∈ M ++ R) (ho : o.IsDictOf knd ([] : List (Kt × Value)))
    (q : ∀ x o', SetI o' (.fresh 0 0 (!(byT W.w))) [] → Q (.ref x) vals (M ++ (x, o') :: R)) : WA Ψ (call (.type "set") [.ref v]) Q vals (M ++ R) := by
  refine WA.permPost fun E s a' => ?_
  refine call_set1 fun A' hA' => ?_
  have hv0 := (a'.N _ hv).1
  obtain ⟨ep, hda⟩ := (dictAt (knd := knd) a' hm ho).dictAt
  have hvl : v < s.heap.objs.size := Heap.lt_size hv0
  have hdl : d < s.heap.objs.size := hda.lt_size
  have hT : Shared.TypeIs { s with heap := s.heap.push (freshSet W.w) } (.ref v) "dict_values" := ⟨_, Heap.get?_push_of_some _ hv0, rfl⟩
  refine wp_update_src (n := 0) (xs := []) (hA'.trans hh) hT sub_values_set sub_values_frozenset (by decide) (Heap.get?_push_size _ rfl) rfl (by simp) rfl (fun A2 hA2 E' Q' k => ?_) fun h' tk o' ho' hI' hk' => ?_
  · refine wpAny_pyIter_values (knd := knd) (d := d) (kvs := []) (ep := ep) ⟨_, Heap.get?_push_of_some _ hv0, rfl, rfl⟩ (hda.push _) ?_
    have hne : d ≠ (s.heap.push (freshSet W.w)).objs.size := by rw [Heap.size_push]; exact Nat.ne_of_lt (Nat.lt_succ_of_lt hdl)
    refine k _ _ _ _ _ _ rfl (fun b hb => ?_) (fun b hb => by simpa using hb) (Walks.dictValues (knd := knd) (A := A2.in1) hA2 _ d hne [] ep) ⟨⟨_, Heap.get?_push_size _ rfl, rfl, rfl⟩, (hda.push _).push _⟩ fun i v hv => ?_
    · simp only [List.mem_cons, List.not_mem_nil, or_false] at hb
      rcases hb with h | h
      · exact .inl h
      · exact .inr (by rw [h]; exact hdl)
    · obtain ⟨k', hk'⟩ := hv; simp at hk'
  · exact ⟨⟨rfl, rfl⟩, vals, _, a'.made ho' fun b ob hb e => hk' b ob hb (Heap.get?_push_of_some _ e), _, shiftPerm, q _ o' hI'⟩
theorem WA.setOfRange0 {v : Addr} {t1 t2 t3 : Tok} {M R : Led} {Q : Value → Vals → Led → Prop} (hh : Ψ.A.handled = none) (hv : (v, rangeObj 0 0 1 t1 t2 t3) ∈ M ++ R)
    (q : ∀ x o', SetI o' (.fresh 0 0 (!(byT W.w))) [] → Q (.ref x) vals (M ++ (x, o') :: R)) : WA Ψ (call (.type "set") [.ref v]) Q vals (M ++ R) := by
  refine WA.permPost fun E s a' => ?_
  refine call_set1 fun A' hA' => ?_
  have hv0 := (a'.N _ hv).1
  have hT : Shared.TypeIs { s with heap := s.heap.push (freshSet W.w) } (.ref v) "range" := ⟨_, Heap.get?_push_of_some _ hv0, rfl⟩
  refine wp_update_src (n := 0) (xs := []) (hA'.trans hh) hT sub_rangeT_set sub_rangeT_frozenset (by decide) (Heap.get?_push_size _ rfl) rfl (by simp) rfl (fun A2 hA2 E' Q' k => ?_) fun h' tk o' ho' hI' hk' => ?_
  · refine wpAny_pyIter_range (a := 0) (b := 0) (c := 1) (Heap.get?_push_of_some _ hv0) (by decide) ?_
    refine k _ _ _ _ _ _ rfl (fun b hb => ?_) (fun b hb => by simpa using hb) (Walks.range (A := A2.in1) hA2 _ 0 1 0).bound (Heap.get?_push_size _ rfl) fun i v hv => ?_
    · simp only [List.mem_cons, List.not_mem_nil, or_false] at hb
      exact .inl hb
    · exact absurd hv.1 (Nat.not_lt_zero _)
  · exact ⟨⟨rfl, rfl⟩, vals, _, a'.made ho' fun b ob hb e => hk' b ob hb (Heap.get?_push_of_some _ e), _, shiftPerm, q _ o' hI'⟩
theorem WA.neSet0 {a b : Addr} {oa ob : Obj} {ta tb : SetTable} {Q : Value → Vals → Led → Prop} (hu : Ψ.A.units < cLine) (ha : (a, oa) ∈ l) (hb : (b, ob) ∈ l) (Ia : SetI oa ta []) (Ib : SetI ob tb []) (q : Q (.bool false) vals l) :
    WA Ψ (compareOp .NotEq (.ref a) (.ref b)) Q vals l := fun E s a' => by
  have hoa := (a'.N _ ha).1
  have hob := (a'.N _ hb).1
  have hTa := setTypeIs Ia hoa
  have hTb := setTypeIs Ib hob
  obtain ⟨ea, epa, hexa, hda, _, hIa, hfa⟩ := Ia
  obtain ⟨eb, epb, hexb, hdb, _, hIb, hfb⟩ := Ib
  have hna : ea = #[] := by have := ints_len hIa; exact Array.eq_empty_of_size_eq_zero (by simpa using this)
  have hnb : eb = #[] := by have := ints_len hIb; exact Array.eq_empty_of_size_eq_zero (by simpa using this)
  subst hna hnb
  show wpAny _ Ψ.A (richCompare .NotEq _ _) _ E s
  refine wpAny_richCompare_same_room hTa hTb PySem.F.slot_set_ne ?_ hu
  refine wpAny_call_entry PySem.F.slot_set_ne hTa entry_set_neT ?_ (PySem.F.args_set_ne_2 _ _)
  unfold Builtin.«frozenset.__ne__»
  wp_delta
  refine wpAny_bind (wpAny_of_eq (a := (Value.ref a, Value.ref b)) (by rfl) ?_)
  try dsimp only
  refine wpAny_bind ?_
  unfold Builtin.Frozenset.isAnySet
  refine wpAny_bind (wpAny_isInstance hTb sub_set_set ?_)
  try dsimp only
  refine wpAny_pure ?_
  simp only [Bool.not_true, Bool.false_eq_true, if_false]
  unfold Builtin.Frozenset.addrOf Builtin.Frozenset.sizeOf
  refine wpAny_bind (wpAny_pure ?_)
  refine wpAny_bind (wpAny_pure ?_)
  refine wpAny_bind (wpAny_bind (wpAny_setEntries_of hoa hda hfa (wpAny_pure ?_)))
  refine wpAny_bind (wpAny_bind (wpAny_setEntries_of hob hdb hfb (wpAny_pure ?_)))
  try dsimp only
  refine wpAny_bind ?_
  have h0 : ((#[] : Array (Int × Value)).size != (#[] : Array (Int × Value)).size) = false := rfl
  rw [h0]
  simp only [Bool.false_eq_true, if_false]
  refine wpAny_bind ?_
  refine wpAny_bind (wpAny_isInstance hTa sub_setT_frozenset ?_)
  try dsimp only
  refine wpAny_pure ?_
  simp only [Bool.false_eq_true, if_false]
  unfold Builtin.Frozenset.subsetOf
  unfold Builtin.Frozenset.sizeOf
  refine wpAny_bind (wpAny_bind (wpAny_setEntries_of hoa hda hfa (wpAny_pure ?_)))
  refine wpAny_bind (wpAny_bind (wpAny_setEntries_of hob hdb hfb (wpAny_pure ?_)))
  try dsimp only
  refine wpAny_ite_split (fun h => absurd h (Nat.lt_irrefl _)) (fun _ => ?_)
  refine wpAny_bind (wpAny_setEpoch_of hoa hda hfa ?_)
  unfold Builtin.Frozenset.walkUnseen
  refine wpAny_bind ?_
  refine wpAny_bind (wpAny_setEntries_of hoa hda hfa ?_)
  refine wpAny_bind (wpAny_setEntries_of hob hdb hfb ?_)
  simp only [List.append_nil, List.forIn_nil]
  refine wpAny_bind (wpAny_pure ?_)
  try dsimp only
  refine wpAny_pure ?_
  simp only [List.forIn_nil]
  refine wpAny_bind (wpAny_pure ?_)
  try dsimp only
  refine wpAny_pure ?_
  exact wpAny_pure ⟨_, rfl, nofun, Same.refl s, vals, l, a', q⟩
end
end
section
open PySem PySem.W PyProof.Rows PySem.Calls
set_option maxRecDepth 100000
set_option maxHeartbeats 4000000
section
variable {K : Params → Frag} {N : Nm} {W : Wd} {Ψ : Frm K N W} {vals : Vals} {l : Led}
variable {a b : Int} {t u : Tok} {Q : Value → Vals → Led → Prop}
theorem WA.fdiv (hb : b ≠ 0) (hs : b.natAbs < 1073741824) (q : ∀ t, Q (.int (Int.fdiv a b) t) vals l) : WA Ψ (binaryOp .FloorDiv (.int a t) (.int b u)) Q vals l := WA.same q fun _ _ _ _ h => floordiv_int hb (h _ _) (.inl (PyProof.noPylong_small hs))
theorem WA.pow (hn : 0 ≤ b) (hn2 : b ≤ 1000000) (ha : a.natAbs < 2 ^ 64) (q : ∀ t, Q (.int (a ^ b.toNat) t) vals l) : WA Ψ (binaryOp .Pow (.int a t) (.int b u)) Q vals l := WA.same q fun _ _ _ _ h => pow_int_small hn hn2 ha (h _ _)
theorem WA.pow2 (hn : 0 ≤ b) (hn2 : b ≤ 1000) (q : ∀ t, Q (.int (2 ^ b.toNat) t) vals l) : WA Ψ (binaryOp .Pow (.int 2 t) (.int b u)) Q vals l := WA.pow hn (by first | decide | lia | omega) (by decide) q
theorem WA.rangeEndM {it : Addr} {x left step : Int} {M R : Led} {Q : Option Value → Vals → Led → Prop} (hh : Ψ.A.handled = none) (h0 : left ≤ 0) (q : Q none vals (M ++ R)) : WA Ψ (pyNext (.ref it)) Q vals (M ++ (it, rangeItObj x left step) :: R) := by
  refine WA.facts fun hU => WA.rangeEnd hh (List.mem_append_right _ (.head _)) h0 ?_
  rw [List.map_append, List.map_cons, List.nodup_append, List.nodup_cons] at hU
  have ne : ∀ y ∈ M ++ R, y.1 ≠ it := by
    intro y hy e
    rcases List.mem_append.mp hy with h | h
    · exact hU.2.2 y.1 (List.mem_map_of_mem h) it (.head _) e
    · exact hU.2.1.1 (List.mem_map.mpr ⟨y, h, e⟩)
  have e : (M ++ (it, rangeItObj x left step) :: R).filter (fun y => y.1 != it) = M ++ R := by
    rw [List.filter_append, List.filter_cons_of_neg (by simp), List.filter_eq_self.mpr (fun y hy => by simpa using ne y (List.mem_append_left _ hy)), List.filter_eq_self.mpr (fun y hy => by simpa using ne y (List.mem_append_right _ hy))]
  rw [e]; exact q
theorem WA.rangeEndL {it : Addr} {x left step : Int} {pre post : Led} {Q : Option Value → Vals → Led → Prop} (hh : Ψ.A.handled = none) (hl : l = pre ++ (it, rangeItObj x left step) :: post) (h0 : left ≤ 0) (q : Q none vals (pre ++ post)) : WA Ψ (pyNext (.ref it)) Q vals l := by
  subst hl
  exact WA.rangeEndM hh h0 q
end
theorem mk_weight {C : Addr} {args : List Value} : (Code.builtin "type.__call__" ⟨.ref C :: args, []⟩).weight = 1 := by rfl
theorem mk_units {C : Addr} {args : List Value} : (Code.builtin "type.__call__" ⟨.ref C :: args, []⟩).cUnits = 1 := by rfl
theorem roomMk {A : Around} {n : Nat} {C : Addr} {args : List Value} {env : Env} (r : Room A (n + 2)) : Room ((A.under (.builtin "type.__call__" ⟨.ref C :: args, []⟩)).deeper env) n ∧ (A.under (.builtin "type.__call__" ⟨.ref C :: args, []⟩)).depth < recursionLimit := by
  obtain ⟨a, b, c⟩ := r
  refine ⟨⟨a, ?_, ?_⟩, ?_⟩
  · show A.depth + (Code.builtin "type.__call__" ⟨.ref C :: args, []⟩).weight + 1 + n < recursionLimit
    rw [mk_weight]; omega
  · show A.units + (Code.builtin "type.__call__" ⟨.ref C :: args, []⟩).cUnits + 3 + 8 * n < cLine
    rw [mk_units]; omega
  · show A.depth + (Code.builtin "type.__call__" ⟨.ref C :: args, []⟩).weight < recursionLimit
    rw [mk_weight]; omega
end
section
open PySem PySem.W PyProof.Rows PySem.Calls
set_option maxRecDepth 100000
set_option maxHeartbeats 4000000
noncomputable abbrev itemIt (d : Addr) (ep : Nat) : Obj := { cls := .type "dict_itemiterator", dict := none, data := .fields #[.none, .bool false, .ref d, .int 0 0, .int 0 0, .int ep 0, .none, .none], slots := #[] }
section
variable {K : Params → Frag} {N : Nm} {W : Wd} {Ψ : Frm K N W} {vals : Vals} {l : Led}
variable {Kt : Type} [DecidableEq Kt] {knd : KeyKind W.prog W.w Kt} {d : Addr} {o : Obj} {kvs : List (Kt × Value)}
noncomputable def DictEp (knd : KeyKind W.prog W.w Kt) (o : Obj) (kvs : List (Kt × Value)) (ep : Nat) : Prop := ∃ es, o.ExactDict ∧ o.data = .dict es ep ∧ KeysOf knd es ∧ Pairs knd es.toList kvs ∧ (kvs.map (·.1)).Nodup
theorem DictEp.at {s : Shared} {ep : Nat} (a : At Ψ vals l s) (hm : (d, o) ∈ l) (h : DictEp knd o kvs ep) : s.heap.DictAt knd d kvs ep := let ⟨es, h1, h2, h3, h4, h5⟩ := h; ⟨o, es, (a.N _ hm).1, h1, h2, h3, h4, h5⟩
theorem WA.itemsIter {v : Addr} {M R : Led} {Q : Value → Vals → Led → Prop} (hv : (v, itemsView d) ∈ M ++ R) (hm : (d, o) ∈ M ++ R) (ho : o.IsDictOf knd ([] : List (Kt × Value)))
    (q : ∀ it ep, DictEp knd o ([] : List (Kt × Value)) ep → Q (.ref it) vals (M ++ (it, itemIt d ep) :: R)) : WA Ψ (pyIter (.ref v)) Q vals (M ++ R) := by
  obtain ⟨es, ep, h⟩ := ho
  have he : DictEp knd o ([] : List (Kt × Value)) ep := ⟨es, h⟩
  exact WA.permPost fun E s a => wpAny_pyIter_items (kvs := ([] : List (Kt × Value))) ⟨_, (a.N _ hv).1, rfl, rfl⟩ (he.at a hm) ⟨⟨rfl, rfl⟩, vals, _, a.push, _, shiftPerm, q _ ep he⟩
theorem WA.itemsEnd {it : Addr} {ep : Nat} {pre post : Led} {Q : Option Value → Vals → Led → Prop} (hh : Ψ.A.handled = none) (hl : l = pre ++ (it, itemIt d ep) :: post) (hm : (d, o) ∈ pre ++ post) (he : DictEp knd o ([] : List (Kt × Value)) ep)
    (q : Q none vals (pre ++ post)) : WA Ψ (pyNext (.ref it)) Q vals l := fun E s a => by
  subst hl
  have hmem : (it, itemIt d ep) ∈ pre ++ (it, itemIt d ep) :: post := List.mem_append_right _ (.head _)
  have hit := a.N _ hmem
  have hU := a.U
  rw [List.map_append, List.map_cons, List.nodup_append, List.nodup_cons] at hU
  have ne : ∀ y ∈ pre ++ post, y.1 ≠ it := by
    intro y hy e
    rcases List.mem_append.mp hy with h | h
    · exact hU.2.2 y.1 (List.mem_map_of_mem h) it (.head _) e
    · exact hU.2.1.1 (List.mem_map.mpr ⟨y, h, e⟩)
  have sub : (pre ++ post).Sublist (pre ++ (it, itemIt d ep) :: post) := List.Sublist.append (List.Sublist.refl _) (List.sublist_cons_self _ _)
  refine wpAny_pyNext_items_end (kvs := ([] : List (Kt × Value))) hh hit.1 (he.at a (sub.subset hm)) rfl fun h' hx => ⟨⟨rfl, rfl⟩, vals, _, ⟨⟨?_, fun b o e => ?_, a.F.above⟩, fun y hy => ?_, List.Nodup.sublist (sub.map _) a.U, fun y hy => a.G y (sub.subset hy)⟩, q⟩
  · exact a.F.ns.extBut hx (Ne.symm hit.2.1)
  · refine hx b o (fun e' => ?_) (a.F.keep b o e)
    rw [e'] at e
    exact absurd (e.symm.trans hit.2.2) (by simp)
  · have n := a.N y (sub.subset hy)
    exact ⟨hx _ _ (ne y hy) n.1, n.2⟩
theorem raw_set {N : Nm} {W : Wd} {Ψ : Frm hd.heap_1_1 N W} {vals : Vals} {sa dd : Addr} {x : Str} {v : Value} {ae : List DictEntry} {n : Nat} {av : List Value} {R : Led} {Q : Unit → Vals → Led → Prop} (at' : AttrsAre ae an av) (hi : an[av.length]? = some x) (hz : av.length ≤ 20)
    (q : ∀ ae' n', AttrsAre ae' an (av ++ [v]) → Q () vals ((sa, instObj clsA dd) :: (dd, dictOf ae' n') :: R)) : WA Ψ (setAttr (.ref sa) x v) Q vals ((sa, instObj clsA dd) :: (dd, dictOf ae n) :: R) :=
  WA.setA (pre := [(sa, instObj clsA dd)]) (post := R) rfl ⟨.head _, .tail _ (.head _)⟩ at' (setA_cls _) (over_cls _) (an_take _ _ (List.mem_of_getElem? hi)) (hasD_cls _) (by first | decide | lia | omega) (fun h t => putL_new an_nd at' hi) (by rw [List.length_append, List.length_singleton]; omega) fun es' n' h => q es' n' h
theorem raw_meth {N : Nm} {W : Wd} {Ψ : Frm hd.heap_1_1 N W} {vals : Vals} {sa dd : Addr} {name : Str} {f : Addr} {pl : Sem Bool} {args : List Expr} {ae : List DictEntry} {n : Nat} {av : List Value} {R : Led} {Q : Value → Vals → Led → Prop} (at' : AttrsAre ae an av) (m : MethIs (hd.heap_1_1 W.w.params) name f)
    (h : argsOf Ψ args (fun vs vals l => WA Ψ (call (.ref f) (.ref sa :: vs) []) Q vals l) vals ((sa, instObj clsA dd) :: (dd, dictOf ae n) :: R)) : WA Ψ (getMethod (.ref sa) name pl) (methK Ψ args Q) vals ((sa, instObj clsA dd) :: (dd, dictOf ae n) :: R) :=
  WA.getM ⟨.head _, .tail _ (.head _)⟩ at' m.no (plain_cls _ _) m.fd m.fn ⟨m.keep, h⟩
end
end
section
open PySem PySem.W PyProof.Rows PySem.Calls
set_option maxRecDepth 100000
set_option maxHeartbeats 8000000
noncomputable def fn508 : FnIn 508 := by
  refine' mkFn ?ok ?hb
  case ok => intro P; k_is
  case hb => exact rfl
@[reducible] noncomputable def N508 : Nm := ⟨["levels", "n", "numbers", "numbers_"], ["isinstance", "dict", "len", "set", "range"]⟩
theorem sc508 : ScOk fn508.fd.scope.names N508.loc N508.glo := by
  refine scOk_of ?_
  kernel_rfl!
theorem fo508 (P : Params) : FnOk (hd.heap_1_1 P) 508 fn508.fd fn508.body := ⟨⟨_, _, _, fn508.ok P⟩, by kernel_rfl!, fn508.hb, rfl, rfl, rfl, rfl, rfl, by kernel_rfl!⟩
section
variable {N : Nm} {W : Wd} {Ψ : Frm hd.heap_1_1 N W} {vals : Vals} {b : Mg} {σ : Sg} {Rl : Led} {sa : Addr}
theorem valid_c {d : Addr} {o : Obj} {Q : Value → Vals → Led → Prop} (hr : Room Ψ.A 2) (hm : (d, o) ∈ Rl) (ho : o.IsDictOf (intKind W.prog W.w) []) (q : Q .none vals Rl) :
    WA Ψ (call (.ref 508) [.ref d]) Q vals Rl := by
  refine WA.callDefS (N' := N508) (fo508 _) sc508 hr (binds := [("levels", .ref d)]) (rest := ["n", "numbers", "numbers_"]) (fun s X => .of_eq rfl) rfl [some (.ref d), none, none, none] rfl ?_
  intro Ψ' he hr'
  have hh : Ψ'.A.handled = none := hr'.hh
  have hun : Ψ'.A.units < cLine := by have := hr'.u; omega
  dsimp only [fn508, mkFn]
  kd_p; kd_p1; kd_all; kfm_eq; kit_at; ksr_p; kle_go; kit_is; kit_nb; ksr_p; kit_tp
  refine WA.isiDictDict hm (IsDictOf.exact ho).1 ?_
  ks_any; kwk_eq; kt_k; kcf_m; kd_p; kl_no; kit_at; ksr_p; kle_go; kit_is; kit_tp
  refine WA.dLen hm ho (by simp) fun tn => ?_
  kmb_kw; kcf_m; kd_p; kl_no; kit_at; ksr_p; kln_le; kit_nb; kin_no; kd_in
  refine WA.dMeth hm (IsDictOf.exact ho) PySem.F.slot_dict_values PySem.F.type_dict_values ?_
  kl_lit; kit_tp
  refine WA.dValues (M := []) hm ho fun v => ?_
  kit_tp
  refine WA.setOfVals0 (M := []) hh (.head _) (.tail _ hm) ho fun s1 o1 I1 => ?_
  kmb_kw; kcf_m; kd_p; kl_no; kit_at; ksr_p; kln_le; kit_nb; kit_at; ksr_p; kln_le; kit_is; kit_tp
  refine WA.range1 (M := []) fun r t1 t2 => ?_
  kit_tp
  refine WA.setOfRange0 (M := []) hh (.head _) fun s2 o2 I2 => ?_
  kmb_kw; kcf_m; kd_p; kd_p1; kd_adr; kd_in; kd_in
  refine WA.neSet0 hun (.tail _ (.tail _ (.head _))) (.head _) I1 I2 ?_
  ks_any; kwk_eq; kt_k; kcf_m; kt_k
  refine ⟨Rl, ?_, q⟩
  exact List.Sublist.cons _ (List.Sublist.cons _ (List.Sublist.cons _ (List.Sublist.cons _ (List.Sublist.refl _))))
end
end
section
open PySem PySem.W PyProof.Rows PySem.Calls
set_option maxRecDepth 100000
set_option maxHeartbeats 8000000
noncomputable def fn36 : FnIn 36 := by
  refine' mkFn ?ok ?hb
  case ok => intro P; k_is
  case hb => exact rfl
@[reducible] noncomputable def N36 : Nm := ⟨["self", "levels", "var", "level"], ["dict", "_assert_valid_ordering", "len", "set"]⟩
theorem sc36 : ScOk fn36.fd.scope.names N36.loc N36.glo := by
  refine scOk_of ?_
  kernel_rfl!
theorem fo36 (P : Params) : FnOk (hd.heap_1_1 P) 36 fn36.fd fn36.body := ⟨⟨_, _, _, fn36.ok P⟩, by kernel_rfl!, fn36.hb, rfl, rfl, rfl, rfl, rfl, by kernel_rfl!⟩
section
variable {N : Nm} {W : Wd} {Ψ : Frm hd.heap_1_1 N W} {vals : Vals} {b : Mg} {σ : Sg} {Rl : Led} {sa : Addr}
theorem g_valid (P : Params) : DefIs (hd.heap_1_1 P) "_assert_valid_ordering" 508 := ⟨.inl (by k_is), by k_is⟩
theorem Rep.start {x dx pd sd rd idt vd ld ro : Addr} {ae : List DictEntry} {n : Nat} {a : Addr} {t1 t2 tm tx tl : Tok} {c : Int} {po so rro : Obj} {b : Mg}
    (hb : b = ⟨x, dx, pd, sd, rd, idt, vd, ld, ro, ae, n, po, so, rro, dictOf [] 0, dictOf [] 0, dictOf [] 0, b.roo, [(a, tupObj [.int 0 tl, .none, .none])], [([some 0, none, none], a, .int 1 t1)], [(1, .ref a)], [(1, .int c t2)], [], [], [], .int 2 tm, .int (2 ^ 63 - 1) tx⟩)
    (hat : AttrsAre ae an b.av) (hpo : IsTupDict (optKind W.prog W.w) po [([some 0, none, none], a, .int 1 t1)]) (hso : so.IsDictOf (intKind W.prog W.w) [(1, .ref a)]) (hro : rro.IsDictOf (intKind W.prog W.w) [(1, .int c t2)]) : Rep W b (Sg.bare []) := by
  have hT : TupL (optKind W.prog W.w) b.tups [some 0, none, none] a := ⟨_, _, _, _, by rw [hb]; exact .head _, .cons (by simp [optKind, isOpt]) (.cons (by rfl) (.cons (by rfl) .nil))⟩
  have hk : ∀ u ks, (Sg.bare []).key u = some ks → u = 1 ∧ ks = [some 0, none, none] := fun u ks h => bare_key h
  rw [hb] at hat hT ⊢
  refine
    { at' := hat, mf := ⟨tm, rfl⟩, mx := ⟨tx, rfl⟩, s1 := hso, s2 := ?_, s3 := ?_, s4 := rfl, p1 := hpo, p2 := ?_, p3 := ?_, p4 := ?_, p5 := Nat.le_refl _, r1 := hro, r2 := ?_, r3 := Nat.le_refl _,
      i1 := tupDict_nil, i2 := fun y hy => (by cases hy), i3 := fun ks a v h => (by simp [atKey] at h), i4 := Nat.le_refl _, v1 := isDict_nil, v2 := fun j y h => (by simp [Sg.bare] at h), v3 := fun _ _ => rfl, v4 := rfl, v5 := Nat.zero_le _,
      l1 := isDict_nil, l2 := fun j y h => (by simp [Sg.bare] at h), l3 := fun _ _ => rfl, l4 := rfl }
  · intro u ks h
    obtain ⟨rfl, rfl⟩ := hk u ks h
    exact ⟨a, rfl, hT⟩
  · intro u h
    have : ¬ 1 = u := by rintro rfl; rw [bare_key1] at h; cases h
    simp [valueAt, this]
  · intro y hy
    rw [List.mem_singleton] at hy
    subst hy
    exact hT
  · intro ks a' v h
    have := atKey_mem h
    rw [List.mem_singleton] at this
    cases this
    exact ⟨1, t1, rfl, rfl⟩
  · intro u ks h
    obtain ⟨rfl, rfl⟩ := hk u ks h
    exact ⟨a, t1, by simp [atKey]⟩
  · intro u ks h
    obtain ⟨rfl, rfl⟩ := hk u ks h
    exact ⟨c, t2, rfl⟩
theorem bdd_c {Q : Value → Vals → Led → Prop} (hr : Room Ψ.A 8) (q : ∀ x b, Good W x b (Sg.bare []) → Q (.ref x) vals (mgL b ++ Rl)) :
    WA Ψ (call (.ref clsA) []) Q vals Rl := by
  refine WA.make (N' := N36) (fI := 36) (by k_is) (by k_is) (by k_is) (fo36 _) sc36 (roomMk (n := 6) (env := default) hr).2 (binds := fun x => [("self", .ref x), ("levels", .none)]) (rest := ["var", "level"]) (fun x s X => binds_K X rfl (by k_is) rfl rfl rfl) (fun _ => rfl) (v0 := fun x => [some (.ref x), some .none, none, none]) (fun _ => rfl) ?_
  intro x dx Ψ' he hA
  have hr' : Room Ψ'.A 6 := by rw [hA]; exact (roomMk (n := 6) (C := clsA) (args := []) (env := Ψ'.env) hr).1
  have hh := hr'.hh
  have at0 : AttrsAre [] an [] := AttrsAre.nil an
  generalize ([] : List DictEntry) = ae0 at at0 ⊢
  generalize (0 : Nat) = n0
  dsimp only [fn36, mkFn]
  kd_p; kd_p1; kd_adr; kd_in; kt_le; kri_at; ks_any; kwk_ne; kd_p; kl_no; kit_at; ksr_p; kln_le; kit_tp
  refine WA.dict0M (M := [(x, instObj clsA dx), (dx, dictOf ae0 n0)]) fun lv => ?_
  kmb_kw; kcf_m; kt_k; kcf_m; kd_p; ks_is; kit_at
  refine Mine.L.funR (by nest_cls) (g_valid _) ?_; intro _
  kit_is; kit_tp
  refine valid_c (hr'.less (by first | decide | lia | omega)) (.tail _ (.tail _ (.head _))) isDict_nil ?_
  kcf_m; kd_p; kln_w; kit_at; ksr_p; kln_le; kit_tp
  refine WA.dict0M (M := [(x, instObj clsA dx), (dx, dictOf ae0 n0)]) fun pd => ?_
  kd_in
  refine raw_set at0 rfl (Nat.le_of_ble_eq_true rfl) fun ae1 n1 at1 => ?_
  kcf_m; kd_p; kln_w; kit_at; ksr_p; kln_le; kit_tp
  refine WA.dict0M (M := [(x, instObj clsA dx), (dx, dictOf ae1 n1), (pd, dictOf [] 0)]) fun sd => ?_
  kd_in
  refine raw_set at1 rfl (Nat.le_of_ble_eq_true rfl) fun ae2 n2 at2 => ?_
  kcf_m; kd_p; kln_w; kit_at; ksr_p; kln_le; kit_tp
  refine WA.dict0M (M := [(x, instObj clsA dx), (dx, dictOf ae2 n2), (pd, dictOf [] 0), (sd, dictOf [] 0)]) fun rd => ?_
  kd_in
  refine raw_set at2 rfl (Nat.le_of_ble_eq_true rfl) fun ae3 n3 at3 => ?_
  kcf_m; kd_p; kln_w; kst_p; kd_in
  refine raw_set at3 rfl (Nat.le_of_ble_eq_true rfl) fun ae4 n4 at4 => ?_
  kcf_m; kd_p; kln_w; kit_at; ksr_p; kln_le; kit_tp
  refine WA.dict0M (M := [(x, instObj clsA dx), (dx, dictOf ae4 n4), (pd, dictOf [] 0), (sd, dictOf [] 0), (rd, dictOf [] 0)]) fun idt => ?_
  kd_in
  refine raw_set at4 rfl (Nat.le_of_ble_eq_true rfl) fun ae5 n5 at5 => ?_
  kcf_m; kd_p; kln_w; kit_at; ksr_p; kln_le; kit_tp
  refine WA.dict0M (M := [(x, instObj clsA dx), (dx, dictOf ae5 n5), (pd, dictOf [] 0), (sd, dictOf [] 0), (rd, dictOf [] 0), (idt, dictOf [] 0)]) fun vd => ?_
  kd_in
  refine raw_set at5 rfl (Nat.le_of_ble_eq_true rfl) fun ae6 n6 at6 => ?_
  kcf_m; kd_p; kln_w; kit_at; ksr_p; kln_le; kit_tp
  refine WA.dict0M (M := [(x, instObj clsA dx), (dx, dictOf ae6 n6), (pd, dictOf [] 0), (sd, dictOf [] 0), (rd, dictOf [] 0), (idt, dictOf [] 0), (vd, dictOf [] 0)]) fun ld => ?_
  kd_in
  refine raw_set at6 rfl (Nat.le_of_ble_eq_true rfl) fun ae7 n7 at7 => ?_
  kcf_m; kd_p; ks_is; kin_no; kd_in
  refine raw_meth at7 (by kas_types) ?_
  kit_nb; kit_at; ksr_p; kle_go; kit_nb; kgr_on; kd_in
  refine raw_attr (i := 5) ⟨.head _, .tail _ (.head _)⟩ at7 rfl rfl rfl ?_
  refine WA.dLen (knd := intKind W.prog W.w) (kvs := []) (o := dictOf [] 0) (by simp +zetaDelta) isDict_nil (by simp +zetaDelta) fun tn => ?_
  kit_tp
  refine term_c (hr'.less (by first | decide | lia | omega)) at7 rfl rfl rfl tupDict_nil isDict_nil isDict_nil (.inl ⟨rfl, rfl, rfl⟩) fun a t1 c t2 po so ro hpo hso hro => ?_
  refine WA.perm ((x, instObj clsA dx) :: (dx, dictOf ae7 n7) :: (pd, po) :: (sd, so) :: (rd, ro) :: ([(idt, dictOf [] 0), (vd, dictOf [] 0), (ld, dictOf [] 0)] ++ (a, tupObj [.int 0 tn, .none, .none]) :: (lv, dictOf [] 0) :: Rl)) (List.Perm.cons _ (List.Perm.cons _ (List.Perm.cons _ (List.Perm.cons _ (List.Perm.cons _ List.perm_middle))))) ?_
  kd_p; kln_w; kw_lk; kd_in
  refine raw_set at7 rfl (Nat.le_of_ble_eq_true rfl) fun ae8 n8 at8 => ?_
  kcf_m; kd_p; kln_w; kt_le; kd_in
  refine raw_set at8 rfl (Nat.le_of_ble_eq_true rfl) fun ae9 n9 at9 => ?_
  kcf_m; kd_p; kt_key; kin_no; kd_in
  refine WA.dMeth (d := lv) (o := dictOf [] 0) (by simp +zetaDelta) (IsDictOf.exact (isDict_nil (knd := intKind W.prog W.w))) PySem.F.slot_dict_items PySem.F.type_dict_items ?_
  kl_lit; kit_tp
  refine WA.dItems (knd := intKind W.prog W.w) (M := [(x, instObj clsA dx), (dx, dictOf ae9 n9), (pd, po), (sd, so), (rd, ro), (idt, dictOf [] 0), (vd, dictOf [] 0), (ld, dictOf [] 0)]) (d := lv) (o := dictOf [] 0) (by simp +zetaDelta) isDict_nil fun v => ?_
  refine WA.itemsIter (knd := intKind W.prog W.w) (M := [(x, instObj clsA dx), (dx, dictOf ae9 n9), (pd, po), (sd, so), (rd, ro), (idt, dictOf [] 0), (vd, dictOf [] 0), (ld, dictOf [] 0)]) (d := lv) (o := dictOf [] 0) (by simp +zetaDelta) (by simp +zetaDelta) isDict_nil fun it ep hep => ?_
  refine WC.for1 (WA.itemsEnd (knd := intKind W.prog W.w) (pre := [(x, instObj clsA dx), (dx, dictOf ae9 n9), (pd, po), (sd, so), (rd, ro), (idt, dictOf [] 0), (vd, dictOf [] 0), (ld, dictOf [] 0)]) (d := lv) (o := dictOf [] 0) hh rfl (by simp +zetaDelta) hep ?_)
  kst_p2; kt_k; kcf_m; kd_p; kln_w; kit_at; ksr_p; kln_le; kit_tp
  refine WA.set0M (M := [(x, instObj clsA dx), (dx, dictOf ae9 n9), (pd, po), (sd, so), (rd, ro), (idt, dictOf [] 0), (vd, dictOf [] 0), (ld, dictOf [] 0)]) fun rts led => ?_
  kd_in
  refine raw_set at9 rfl (Nat.le_of_ble_eq_true rfl) fun ae10 n10 at10 => ?_
  kcf_m; kd_p; kln_w; kbe_in; kbe_in; kst_p; kst_p
  refine WA.pow2 (by first | decide | lia | omega) (by first | decide | lia | omega) fun _ => ?_
  kst_p; kn_hit; kd_in
  refine raw_set at10 rfl (Nat.le_of_ble_eq_true rfl) fun ae11 n11 at11 => ?_
  kcf_m; kt_k
  refine ⟨rfl, (x, instObj clsA dx) :: (dx, dictOf ae11 n11) :: (pd, po) :: (sd, so) :: (rd, ro) :: (idt, dictOf [] 0) :: (vd, dictOf [] 0) :: (ld, dictOf [] 0) :: (rts, { cls := Value.type "set", data := Data.set #[] 0 (SetTable.fresh 0 0 led) }) :: (a, tupObj [.int 0 tn, .none, .none]) :: Rl, ?_, ?_⟩
  · repeat refine List.Sublist.cons₂ _ ?_
    refine List.Sublist.cons _ (List.Sublist.cons₂ _ (List.Sublist.cons _ (List.Sublist.refl _)))
  · have fin : ∀ (tm tx : Tok), AttrsAre ae11 an [.ref pd, .ref sd, .ref rd, .int 2 tm, .ref idt, .ref vd, .ref ld, .bool false, .none, .ref rts, .int (2 ^ 63 - 1) tx] → Q (.ref x) vals ((x, instObj clsA dx) :: (dx, dictOf ae11 n11) :: (pd, po) :: (sd, so) :: (rd, ro) :: (idt, dictOf [] 0) :: (vd, dictOf [] 0) :: (ld, dictOf [] 0) :: (rts, { cls := Value.type "set", data := Data.set #[] 0 (SetTable.fresh 0 0 led) }) :: (a, tupObj [.int 0 tn, .none, .none]) :: Rl) := by
      intro tm tx hat
      obtain ⟨b, hb⟩ : ∃ b : Mg, b = ⟨x, dx, pd, sd, rd, idt, vd, ld, rts, ae11, n11, po, so, ro, dictOf [] 0, dictOf [] 0, dictOf [] 0, { cls := Value.type "set", data := Data.set #[] 0 (SetTable.fresh 0 0 led) }, [(a, tupObj [.int 0 tn, .none, .none])], [([some 0, none, none], a, .int 1 t1)], [(1, .ref a)], [(1, .int c t2)], [], [], [], .int 2 tm, .int (2 ^ 63 - 1) tx⟩ := ⟨_, rfl⟩
      have := q x b ⟨Rep.start (b := b) (by rw [hb]) (by rw [hb]; exact hat) hpo hso hro, by rw [hb], bare_ok _, bare_ik _⟩
      rw [hb] at this
      exact this
    exact fin _ _ at11
end
end
section
theorem add_or : ∀ (n a b : Nat), a ≤ n → (∀ i, (a.testBit i && b.testBit i) = false) → a + b = a ||| b := by
  intro n
  induction n with
  | zero => intro a b ha _; obtain rfl : a = 0 := by first | decide | lia | omega
            simp
  | succ n ih =>
    intro a b ha h
    by_cases h0 : a = 0
    · subst h0; simp
    have e := ih (a / 2) (b / 2) (by first | decide | lia | omega) fun i => by
      have := h (i + 1)
      rwa [Nat.testBit_add_one, Nat.testBit_add_one] at this
    have h1 := h 0
    simp only [Nat.testBit_zero] at h1
    have e1 : (a ||| b) / 2 = a / 2 ||| b / 2 := Nat.or_div_two
    have e2 : (a ||| b) % 2 = 1 ↔ a % 2 = 1 ∨ b % 2 = 1 := Nat.or_mod_two_eq_one
    have : ¬ (a % 2 = 1 ∧ b % 2 = 1) := by
      rintro ⟨p, q⟩
      simp [p, q] at h1
    have e3 := Nat.div_add_mod (a ||| b) 2
    rw [e1, ← e] at e3
    omega
noncomputable def bitsN : Nat → (Nat → Bool) → Nat
  | 0, _ => 0
  | n + 1, p => bitsN n p + if p n then 2 ^ n else 0
theorem bitsN_lt : ∀ (n : Nat) (p : Nat → Bool), bitsN n p < 2 ^ n
  | 0, _ => by simp [bitsN]
  | n + 1, p => by
    have := bitsN_lt n p
    have e : 2 ^ (n + 1) = 2 * 2 ^ n := by rw [Nat.pow_succ]; omega
    simp only [bitsN]
    split <;> omega
theorem bitsN_bit : ∀ (n : Nat) (p : Nat → Bool) (i : Nat), (bitsN n p).testBit i = (decide (i < n) && p i)
  | 0, _, i => by simp [bitsN]
  | n + 1, p, i => by
    have hl := bitsN_lt n p
    have ih := bitsN_bit n p i
    simp only [bitsN]
    by_cases hp : p n = true
    · rw [if_pos hp, Nat.add_comm, ← Nat.mul_one (2 ^ n), Nat.two_pow_add_eq_or_of_lt hl, Nat.testBit_or, ih, Nat.mul_one, Nat.testBit_two_pow]
      by_cases hi : i = n
      · subst hi; simp [hp]
      · have : ¬ n = i := fun e => hi e.symm
        simp only [this, decide_false, Bool.false_or]
        have : (i < n) ↔ (i < n + 1) := by first | decide | lia | omega
        simp [this]
    · rw [if_neg hp, Nat.add_zero, ih]
      by_cases hi : i = n
      · subst hi
        simp only [Bool.not_eq_true] at hp
        simp [hp]
      · have : (i < n) ↔ (i < n + 1) := by first | decide | lia | omega
        simp [this]
theorem bits_eq {x n : Nat} {p : Nat → Bool} (hx : x < 2 ^ n) (h : ∀ i, i < n → x.testBit i = p i) : x = bitsN n p := by
  refine Nat.eq_of_testBit_eq fun i => ?_
  rw [bitsN_bit]
  by_cases hi : i < n
  · rw [h i hi]; simp [hi]
  · rw [Nat.testBit_lt_two_pow (Nat.lt_of_lt_of_le hx (Nat.pow_le_pow_right (by decide) (by first | decide | lia | omega)))]
    simp [hi]
theorem bits_congr {n : Nat} {p q : Nat → Bool} (h : ∀ i, i < n → p i = q i) : bitsN n p = bitsN n q :=
  bits_eq (bitsN_lt n p) fun i hi => by rw [bitsN_bit]; simp [hi, h i hi]
theorem bits_inj {n : Nat} {p q : Nat → Bool} (h : bitsN n p = bitsN n q) : ∀ i, i < n → p i = q i := fun i hi => by
  have h1 := bitsN_bit n p i
  have h2 := bitsN_bit n q i
  rw [h] at h1
  simpa [hi] using h1.symm.trans h2
structure Od (m : Nat) (od : List Int) : Prop where
  len : od.length = m
  nd : od.Nodup
  mem : ∀ x, x ∈ od ↔ 101 ≤ x ∧ x < 101 + (m : Int)
noncomputable def lev (od : List Int) (p : Nat) : Int := (od.idxOf (101 + (p : Int)) : Int)
noncomputable def plc (od : List Int) (j : Int) : Nat := ((od[j.toNat]?).getD 101 - 101).toNat
section
variable {m : Nat} {od : List Int} (O : Od m od)
include O
theorem Od.lev_ok {p : Nat} (hp : p < m) : 0 ≤ lev od p ∧ lev od p < m ∧ plc od (lev od p) = p := by
  have hm : (101 + (p : Int)) ∈ od := (O.mem _).mpr ⟨by first | decide | lia | omega, by first | decide | lia | omega⟩
  have hl := List.idxOf_lt_length_of_mem hm
  refine ⟨by unfold lev; omega, by unfold lev; rw [← O.len]; omega, ?_⟩
  unfold plc lev
  rw [Int.toNat_natCast, List.getElem?_eq_getElem hl, List.getElem_idxOf hl]
  simp only [Option.getD_some]
  omega
theorem Od.plc_ok {j : Int} (h0 : 0 ≤ j) (h1 : j < m) : plc od j < m ∧ lev od (plc od j) = j ∧ od[j.toNat]? = some (101 + (plc od j : Int)) := by
  have hl : j.toNat < od.length := by rw [O.len]; omega
  have hm := (O.mem od[j.toNat]).mp (List.getElem_mem hl)
  have e : plc od j = (od[j.toNat] - 101).toNat := by
    unfold plc
    rw [List.getElem?_eq_getElem hl]; rfl
  have e2 : (101 : Int) + (plc od j : Int) = od[j.toNat] := by rw [e]; omega
  refine ⟨by rw [e]; omega, ?_, by rw [e2, List.getElem?_eq_getElem hl]⟩
  unfold lev
  rw [e2, O.nd.idxOf_getElem _ hl]
  omega
end
noncomputable def asg (m : Nat) (od : List Int) (r : Nat) : Asg := fun j => if 0 ≤ j ∧ j < m then r.testBit (plc od j) else false
noncomputable def row (m : Nat) (od : List Int) (a : Asg) : Nat := bitsN m fun p => a (lev od p)
noncomputable def Low (m : Nat) (f : BF) : Prop := ∀ a a' : Asg, (∀ j : Int, 0 ≤ j → j < m → a j = a' j) → f a = f a'
theorem row_lt (m : Nat) (od : List Int) (a : Asg) : row m od a < 2 ^ m := bitsN_lt _ _
section
variable {m : Nat} {od : List Int} (O : Od m od)
include O
theorem Od.asg_row (a : Asg) {j : Int} (h0 : 0 ≤ j) (h1 : j < m) : asg m od (row m od a) j = a j := by
  obtain ⟨e1, e2, _⟩ := O.plc_ok h0 h1
  unfold asg row
  rw [if_pos ⟨h0, h1⟩, bitsN_bit, e2]
  simp [e1]
theorem Od.asg_lev {r p : Nat} (hp : p < m) : asg m od r (lev od p) = r.testBit p := by
  obtain ⟨e1, e2, e3⟩ := O.lev_ok hp
  unfold asg
  rw [if_pos ⟨e1, e2⟩, e3]
noncomputable def tb (m : Nat) (od : List Int) (f : BF) : Nat := bitsN (2 ^ m) fun r => f (asg m od r)
theorem Od.low_row {f : BF} (hf : Low m f) (a : Asg) : f (asg m od (row m od a)) = f a := hf _ _ fun _ h0 h1 => O.asg_row a h0 h1
theorem Od.tb_inj {f g : BF} (hf : Low m f) (hg : Low m g) (h : tb m od f = tb m od g) : f = g := by
  funext a
  rw [← O.low_row hf a, ← O.low_row hg a]
  exact bits_inj h _ (row_lt m od a)
end
theorem tb_lt (m : Nat) (od : List Int) (f : BF) : tb m od f < 2 ^ 2 ^ m := bitsN_lt _ _
theorem tb_bit {m : Nat} {od : List Int} {f : BF} {r : Nat} : (tb m od f).testBit r = (decide (r < 2 ^ m) && f (asg m od r)) := bitsN_bit _ _ _
theorem tb_and (m : Nat) (od : List Int) (f g : BF) : tb m od f &&& tb m od g = tb m od fun a => f a && g a :=
  bits_eq (Nat.and_lt_two_pow _ (tb_lt m od g)) fun i hi => by rw [Nat.testBit_and, tb_bit, tb_bit]; simp [hi]
theorem tb_or (m : Nat) (od : List Int) (f g : BF) : tb m od f ||| tb m od g = tb m od fun a => f a || g a :=
  bits_eq (Nat.or_lt_two_pow (tb_lt m od f) (tb_lt m od g)) fun i hi => by rw [Nat.testBit_or, tb_bit, tb_bit]; simp [hi]
theorem tb_not (m : Nat) (od : List Int) (f : BF) : 2 ^ 2 ^ m - 1 - tb m od f = tb m od fun a => !f a := by
  have h := tb_lt m od f
  refine bits_eq (by first | decide | lia | omega) fun i hi => ?_
  have e : 2 ^ 2 ^ m - 1 - tb m od f = 2 ^ 2 ^ m - (tb m od f + 1) := by first | decide | lia | omega
  rw [e, Nat.testBit_two_pow_sub_succ h, tb_bit]
  simp [hi]
theorem tb_true (m : Nat) (od : List Int) : tb m od (fun _ => true) = 2 ^ 2 ^ m - 1 :=
  (bits_eq (by have := Nat.two_pow_pos (2 ^ m); omega) fun i hi => by rw [Nat.testBit_two_pow_sub_one]; simp [hi]).symm
noncomputable def onesN (m p : Nat) : Nat := bitsN (2 ^ m) fun r => r.testBit p
theorem Od.tb_lev {m : Nat} {od : List Int} (O : Od m od) {p : Nat} (hp : p < m) : tb m od (fun a => a (lev od p)) = onesN m p := bits_congr fun i _ => O.asg_lev hp
theorem Od.tb_node {m : Nat} {od : List Int} (O : Od m od) {j : Int} (h0 : 0 ≤ j) (h1 : j < m) (f g : BF) :
    (tb m od g &&& onesN m (plc od j)) ||| (tb m od f &&& (2 ^ 2 ^ m - 1 - onesN m (plc od j))) = tb m od fun a => if a j then g a else f a := by
  obtain ⟨e1, e2, _⟩ := O.plc_ok h0 h1
  rw [← O.tb_lev e1, tb_not, tb_and, tb_and, tb_or, e2]
  congr 1
  funext a
  cases a j <;> simp
theorem add_bit {r p : Nat} (h : r.testBit p = false) (i : Nat) : (r + 2 ^ p).testBit i = if i = p then true else r.testBit i := by
  rw [add_or _ r (2 ^ p) (Nat.le_refl _) fun i => ?_, Nat.testBit_or, Nat.testBit_two_pow]
  · by_cases hi : i = p
    · subst hi; simp
    · have : ¬ p = i := fun e => hi e.symm
      simp [hi, this]
  · rw [Nat.testBit_two_pow]
    by_cases hi : p = i
    · subst hi; simp [h]
    · simp [hi]
theorem sub_bit {r p : Nat} (h : r.testBit p = true) : 2 ^ p ≤ r ∧ (r - 2 ^ p).testBit p = false := by
  have hl := Nat.ge_two_pow_of_testBit h
  refine ⟨hl, ?_⟩
  have := Nat.testBit_two_pow_add_eq (r - 2 ^ p) p
  rw [show 2 ^ p + (r - 2 ^ p) = r by first | decide | lia | omega, h] at this
  cases e : (r - 2 ^ p).testBit p
  · rfl
  · rw [e] at this; cases this
theorem Od.asg_add {m : Nat} {od : List Int} (O : Od m od) {r p : Nat} (hp : p < m) (h : r.testBit p = false) : asg m od (r + 2 ^ p) = upd (asg m od r) (lev od p) true := by
  funext j
  unfold upd
  split
  · rename_i e
    rw [e, O.asg_lev hp, add_bit h, if_pos rfl]
  · rename_i e
    unfold asg
    split
    · rename_i hj
      obtain ⟨e1, e2, _⟩ := O.plc_ok hj.1 hj.2
      rw [add_bit h, if_neg]
      rintro rfl
      exact e e2.symm
    · rfl
theorem bit_lt {r p m : Nat} (hp : p < m) (hr : r < 2 ^ m) (h : r.testBit p = false) : r + 2 ^ p < 2 ^ m :=
  Nat.lt_pow_two_of_testBit _ fun i hi => by
    rw [add_bit h, if_neg (by first | decide | lia | omega)]
    exact Nat.testBit_lt_two_pow (Nat.lt_of_lt_of_le hr (Nat.pow_le_pow_right (by decide) hi))
theorem Od.tb_turn {m : Nat} {od : List Int} (O : Od m od) {p : Nat} (hp : p < m) (f : BF) :
    (tb m od f &&& onesN m p) / 2 ^ 2 ^ p + (tb m od f &&& (2 ^ 2 ^ m - 1 - onesN m p)) * 2 ^ 2 ^ p = tb m od fun a => f (upd a (lev od p) (!a (lev od p))) := by
  have hno : 2 ^ 2 ^ m - 1 - onesN m p = tb m od fun a => !a (lev od p) := by rw [← O.tb_lev hp, tb_not]
  have h1 : ∀ i, ((tb m od f &&& onesN m p) / 2 ^ 2 ^ p).testBit i = (decide (i + 2 ^ p < 2 ^ m) && f (asg m od (i + 2 ^ p)) && (i + 2 ^ p).testBit p) := fun i => by
    rw [Nat.testBit_div_two_pow, Nat.testBit_and, tb_bit, onesN, bitsN_bit]
    cases decide (i + 2 ^ p < 2 ^ m) <;> simp
  have h2 : ∀ i, ((tb m od f &&& (2 ^ 2 ^ m - 1 - onesN m p)) * 2 ^ 2 ^ p).testBit i = (decide (2 ^ p ≤ i) && (decide (i - 2 ^ p < 2 ^ m) && f (asg m od (i - 2 ^ p)) && !(i - 2 ^ p).testBit p)) := fun i => by
    rw [Nat.testBit_mul_two_pow, Nat.testBit_and, hno, tb_bit, tb_bit, O.asg_lev hp]
    cases decide (i - 2 ^ p < 2 ^ m) <;> simp
  have flip : ∀ i, (i + 2 ^ p).testBit p = !i.testBit p := fun i => by rw [Nat.add_comm]; exact Nat.testBit_two_pow_add_eq i p
  rw [add_or _ _ _ (Nat.le_refl _) fun i => ?_]
  · refine Nat.eq_of_testBit_eq fun i => ?_
    rw [Nat.testBit_or, h1, h2, tb_bit, O.asg_lev hp, flip]
    cases hb : i.testBit p with
    | false =>
      have hsub : (decide (2 ^ p ≤ i) && (decide (i - 2 ^ p < 2 ^ m) && f (asg m od (i - 2 ^ p)) && !(i - 2 ^ p).testBit p)) = false := by
        by_cases hl : 2 ^ p ≤ i
        · have := flip (i - 2 ^ p)
          rw [show i - 2 ^ p + 2 ^ p = i by first | decide | lia | omega, hb] at this
          have : (i - 2 ^ p).testBit p = true := by
            cases e : (i - 2 ^ p).testBit p
            · rw [e] at this; cases this
            · rfl
          simp [this]
        · simp [hl]
      rw [hsub, Bool.or_false]
      by_cases hi : i < 2 ^ m
      · have hlt := bit_lt hp hi hb
        rw [O.asg_add hp hb]
        simp [hi, hlt]
      · have : ¬ i + 2 ^ p < 2 ^ m := by have := Nat.two_pow_pos p; omega
        simp [hi, this]
    | true =>
      obtain ⟨hl, hs⟩ := sub_bit hb
      rw [hs]
      by_cases hi : i < 2 ^ m
      · have e : asg m od (i - 2 ^ p) = upd (asg m od i) (lev od p) false := by
          have e2 := O.asg_add hp hs
          rw [show i - 2 ^ p + 2 ^ p = i by first | decide | lia | omega] at e2
          rw [e2]
          funext j
          unfold upd
          split
          · rename_i e; rw [e, O.asg_lev hp, hs]
          · rfl
        have hlt : i - 2 ^ p < 2 ^ m := by have := Nat.two_pow_pos p; omega
        rw [e]
        simp [hi, hlt, hl]
      · by_cases hlt : i - 2 ^ p < 2 ^ m
        · have := bit_lt hp hlt hs
          omega
        · simp [hi, hlt]
  · rw [h1, h2, flip]
    by_cases hl : 2 ^ p ≤ i
    · have := flip (i - 2 ^ p)
      rw [show i - 2 ^ p + 2 ^ p = i by first | decide | lia | omega] at this
      rw [this]
      cases (i - 2 ^ p).testBit p <;> simp
    · simp [hl]
end
section
theorem Den.low {σ : Sg} (ok : Ok σ) {u : Int} {f : BF} (h : Den σ u f) : Low σ.nv f := by
  induction h with
  | one => intro _ _ _; rfl
  | @node u i v x f g hn h1 h2 i1 i2 =>
    intro a a' ha
    have o := ok.nd _ _ _ _ hn
    simp only
    rw [ha i o.1 o.2.1, i1 a a' ha, i2 a a' ha]
  | neg hu _ ih =>
    intro a a' ha
    simp only
    rw [ih a a' ha]
noncomputable def Off (S : Int → Bool) (a a' : Asg) : Prop := ∀ j, S j = false → a' j = a j
theorem Off.symm {S : Int → Bool} {a a' : Asg} (h : Off S a a') : Off S a' a := fun j hj => (h j hj).symm
theorem Off.trans {S : Int → Bool} {a b c : Asg} (h : Off S a b) (h' : Off S b c) : Off S a c := fun j hj => (h' j hj).trans (h j hj)
noncomputable def Free (S : Int → Bool) (g : BF) : Prop := ∀ a a', Off S a a' → g a' = g a
noncomputable def Imp (f g : BF) : Prop := ∀ a, f a = true → g a = true
theorem exS_free' (S : Int → Bool) (f : BF) : Free S (exS S f) := fun a a' h => by
  rw [Bool.eq_iff_iff, exS_iff, exS_iff]
  exact ⟨fun ⟨b, h1, h2⟩ => ⟨b, h.trans h1, h2⟩, fun ⟨b, h1, h2⟩ => ⟨b, h.symm.trans h1, h2⟩⟩
theorem qf_isfree (e : Bool) (S : Int → Bool) (f : BF) : Free S (qf e S f) := by
  cases e
  · exact exS_free' S f
  · intro a a' h
    unfold qf
    simp only [if_true]
    rw [exS_free' S _ a a' h]
theorem exS_of {S : Int → Bool} {f : BF} {a : Asg} (h : f a = true) : exS S f a = true := exS_iff.mpr ⟨a, fun _ _ => rfl, h⟩
theorem exS_union {S T : Int → Bool} (f : BF) : exS T (exS S f) = exS (fun j => S j || T j) f := by
  funext a
  rw [Bool.eq_iff_iff, exS_iff, exS_iff]
  constructor
  · rintro ⟨b, h1, h2⟩
    obtain ⟨c, h3, h4⟩ := exS_iff.mp h2
    refine ⟨c, fun j hj => ?_, h4⟩
    simp only [Bool.or_eq_false_iff] at hj
    exact (h3 j hj.1).trans (h1 j hj.2)
  · rintro ⟨c, h1, h2⟩
    refine ⟨fun j => if T j = true then c j else a j, fun j hj => by simp [hj], exS_iff.mpr ⟨c, fun j hj => ?_, h2⟩⟩
    by_cases ht : T j = true
    · rw [if_pos ht]
    · rw [if_neg ht]
      exact h1 j (by simp at ht; simp [hj, ht])
theorem or_comm' (S T : Int → Bool) : (fun j => S j || T j) = fun j => T j || S j := funext fun j => Bool.or_comm _ _
theorem qf_true (S : Int → Bool) (f : BF) : qf true S f = fun a => !exS S (fun x => !f x) a := rfl
theorem qf_false (S : Int → Bool) (f : BF) : qf false S f = exS S f := rfl
theorem qf_union (e : Bool) {S T : Int → Bool} (f : BF) : qf e T (qf e S f) = qf e (fun j => S j || T j) f := by
  cases e
  · exact exS_union f
  · simp only [qf_true, Bool.not_not]
    rw [exS_union]
theorem qf_comm (e : Bool) {S T : Int → Bool} (f : BF) : qf e S (qf e T f) = qf e T (qf e S f) := by rw [qf_union, qf_union, or_comm']
theorem qf_not (e : Bool) (S : Int → Bool) (f : BF) : qf (!e) S (fun a => !f a) = fun a => !qf e S f a := by
  cases e
  · simp only [Bool.not_false, qf_true, qf_false, Bool.not_not]
  · simp only [Bool.not_true, qf_true, qf_false, Bool.not_not]
noncomputable def jn (e : Bool) (f g : BF) : BF := fun a => if e then f a && g a else f a || g a
theorem exS_or (S : Int → Bool) (f g : BF) : exS S (fun a => f a || g a) = fun a => exS S f a || exS S g a := by
  funext a
  rw [Bool.eq_iff_iff, exS_iff, Bool.or_eq_true, exS_iff, exS_iff]
  constructor
  · rintro ⟨b, h1, h2⟩
    rcases (Bool.or_eq_true _ _).mp h2 with h | h
    · exact .inl ⟨b, h1, h⟩
    · exact .inr ⟨b, h1, h⟩
  · rintro (⟨b, h1, h2⟩ | ⟨b, h1, h2⟩)
    · exact ⟨b, h1, by rw [h2]; rfl⟩
    · exact ⟨b, h1, by rw [h2, Bool.or_true]⟩
theorem exS_and_free {S : Int → Bool} {f g : BF} (hg : Free S g) : exS S (fun a => f a && g a) = fun a => exS S f a && g a := by
  funext a
  rw [Bool.eq_iff_iff, exS_iff, Bool.and_eq_true, exS_iff]
  constructor
  · rintro ⟨b, h1, h2⟩
    obtain ⟨h3, h4⟩ := (Bool.and_eq_true _ _).mp h2
    exact ⟨⟨b, h1, h3⟩, by rw [← hg a b h1]; exact h4⟩
  · rintro ⟨⟨b, h1, h2⟩, h3⟩
    exact ⟨b, h1, by rw [h2, hg a b h1, h3]; rfl⟩
theorem qf_jn (e : Bool) (S : Int → Bool) (f g : BF) : qf e S (jn e f g) = jn e (qf e S f) (qf e S g) := by
  cases e
  · exact exS_or S f g
  · unfold jn
    simp only [if_true, qf_true, Bool.not_and]
    rw [exS_or]
    funext a; simp
theorem qf_jn_free {e : Bool} {S : Int → Bool} {f g : BF} (hg : Free S g) : qf e S (jn (!e) f g) = jn (!e) (qf e S f) g := by
  cases e
  · exact exS_and_free hg
  · unfold jn
    simp only [Bool.not_true, Bool.false_eq_true, if_false, qf_true, Bool.not_or]
    rw [exS_and_free (g := fun a => !g a) fun a a' h => by simp only [hg a a' h]]
    funext a; simp
theorem qf_id {e : Bool} {S : Int → Bool} {g : BF} (hg : Free S g) : qf e S g = g := qf_free hg
noncomputable def Dir (e : Bool) (f g : BF) : Prop := if e then Imp g f else Imp f g
theorem dir_self (e : Bool) (S : Int → Bool) (f : BF) : Dir e f (qf e S f) := by
  cases e
  · exact fun a h => exS_of h
  · intro a h
    simp only [qf_true, Bool.not_eq_true'] at h
    cases hf : f a with
    | true => rfl
    | false => exact absurd (exS_of (S := S) (f := fun x => !f x) (a := a) (by simp [hf])) (by rw [h]; simp)
theorem dir_jn (e : Bool) (S : Int → Bool) (f g : BF) : Dir e (qf e S (jn (!e) f g)) (jn (!e) (qf e S f) (qf e S g)) := by
  cases e
  · intro a h
    obtain ⟨b, h1, h2⟩ := exS_iff.mp h
    obtain ⟨h3, h4⟩ := (Bool.and_eq_true _ _).mp h2
    show (exS S f a && exS S g a) = true
    rw [exS_iff.mpr ⟨b, h1, h3⟩, exS_iff.mpr ⟨b, h1, h4⟩]; rfl
  · intro a h
    show (!exS S (fun x => !(f x || g x)) a) = true
    replace h : (!exS S (fun x => !f x) a || !exS S (fun x => !g x) a) = true := h
    rw [Bool.not_eq_true']
    cases hx : exS S (fun x => !(f x || g x)) a with
    | false => rfl
    | true =>
      obtain ⟨b, h1, h2⟩ := exS_iff.mp hx
      simp only [Bool.not_or, Bool.and_eq_true] at h2
      rw [exS_iff.mpr ⟨b, h1, h2.1⟩, exS_iff.mpr ⟨b, h1, h2.2⟩] at h
      cases h
theorem dir_swap (e : Bool) (S T : Int → Bool) (f : BF) : Dir e (qf e S (qf (!e) T f)) (qf (!e) T (qf e S f)) := by
  have key : ∀ S T : Int → Bool, Imp (exS S (qf true T f)) (qf true T (exS S f)) := by
    intro S T a h
    obtain ⟨b, h1, h2⟩ := exS_iff.mp h
    rw [qf_true] at h2 ⊢
    simp only [Bool.not_eq_true'] at h2 ⊢
    cases hx : exS T (fun x => !exS S f x) a with
    | false => rfl
    | true =>
      obtain ⟨c, h3, h4⟩ := exS_iff.mp hx
      exfalso
      simp only [Bool.not_eq_true'] at h4
      -- c off T from a, b off S from a: meet
      have hm : f (fun j => if T j = true then c j else b j) = true := by
        cases hf : f (fun j => if T j = true then c j else b j) with
        | true => rfl
        | false =>
          exact absurd (exS_iff.mpr (⟨fun j => if T j = true then c j else b j, fun j hj => if_neg (by simp [hj]), by rw [hf]; rfl⟩ : ∃ a' : Asg, (∀ j, T j = false → a' j = b j) ∧ (!f a') = true)) (by rw [h2]; simp)
      have : exS S f c = true := exS_iff.mpr ⟨_, fun j hj => by
        by_cases ht : T j = true
        · rw [if_pos ht]
        · rw [if_neg ht, h1 j hj]
          exact (h3 j (by simpa using ht)).symm, hm⟩
      rw [h4] at this; cases this
  cases e
  · exact key S T
  · exact key T S
theorem dir_lid {e : Bool} {S : Int → Bool} {f g : BF} (hg : Free S g) : Dir e (qf e S f) g ↔ Dir e f g := by
  cases e
  · constructor
    · exact fun h a ha => h a (exS_of ha)
    · intro h a ha
      obtain ⟨b, h1, h2⟩ := exS_iff.mp ha
      rw [← hg a b h1]; exact h b h2
  · constructor
    · intro h a ha
      exact (dir_self true S f) a (h a ha)
    · intro h a ha
      rw [qf_true, Bool.not_eq_true']
      cases hx : exS S (fun x => !f x) a with
      | false => rfl
      | true =>
        obtain ⟨b, h1, h2⟩ := exS_iff.mp hx
        have := h b (by rw [hg a b h1]; exact ha)
        rw [this] at h2; cases h2
theorem imp_iff {f g : BF} : Imp f g ↔ (fun a => !f a || g a) = fun _ => true := by
  constructor
  · intro h
    funext a
    cases hf : f a with
    | false => rfl
    | true => rw [h a hf]; rfl
  · intro h a ha
    have := congrFun h a
    simpa [ha] using this
theorem exS_insert {S S' : Int → Bool} {j : Int} (hj : S j = true) (hk : ∀ k, k ≠ j → S k = S' k) (hj' : S' j = false) (f : BF) : exS S f = fun a => exS S' f a || exS S' f (upd a j (!a j)) := by
  funext a
  rw [Bool.eq_iff_iff, exS_iff, Bool.or_eq_true, exS_iff, exS_iff]
  have ne : ∀ k, S k = false → k ≠ j := fun k h e => by rw [e, hj] at h; cases h
  constructor
  · rintro ⟨b, h1, h2⟩
    by_cases hb : b j = a j
    · refine .inl ⟨b, fun k hk' => ?_, h2⟩
      by_cases e : k = j
      · rw [e, hb]
      · exact h1 k (by rw [hk k e]; exact hk')
    · refine .inr ⟨b, fun k hk' => ?_, h2⟩
      by_cases e : k = j
      · rw [e, upd_same]
        cases hbj : b j <;> cases haj : a j <;> simp_all
      · rw [upd_ne e]; exact h1 k (by rw [hk k e]; exact hk')
  · rintro (⟨b, h1, h2⟩ | ⟨b, h1, h2⟩)
    · exact ⟨b, fun k h => h1 k (by rw [← hk k (ne k h)]; exact h), h2⟩
    · exact ⟨b, fun k h => (h1 k (by rw [← hk k (ne k h)]; exact h)).trans (upd_ne (ne k h)), h2⟩
theorem qf_insert {e : Bool} {S S' : Int → Bool} {j : Int} (hj : S j = true) (hk : ∀ k, k ≠ j → S k = S' k) (hj' : S' j = false) (f : BF) : qf e S f = jn e (qf e S' f) fun a => qf e S' f (upd a j (!a j)) := by
  cases e
  · exact exS_insert hj hk hj' f
  · unfold jn
    simp only [if_true, qf_true]
    rw [exS_insert hj hk hj']
    funext a; simp
noncomputable def Sp (m : Nat) (od : List Int) (c i : Nat) : Int → Bool := fun j => decide (0 ≤ j ∧ j < m ∧ plc od j < i) && c.testBit (plc od j)
theorem sp_zero (m : Nat) (od : List Int) (c : Nat) (e : Bool) (f : BF) : qf e (Sp m od c 0) f = f := qf_free fun a a' h => by
  congr 1
  funext j
  exact h j (by simp [Sp])
theorem sp_skip {m : Nat} {od : List Int} {c i : Nat} (h : c.testBit i = false) : Sp m od c (i + 1) = Sp m od c i := funext fun j => by
  unfold Sp
  by_cases hp : plc od j = i
  · rw [hp, h]; simp
  · have : plc od j < i + 1 ↔ plc od j < i := by first | decide | lia | omega
    simp [this]
theorem Od.sp_step {m : Nat} {od : List Int} (O : Od m od) {c i : Nat} (hi : i < m) (h : c.testBit i = true) (e : Bool) (f : BF) :
    qf e (Sp m od c (i + 1)) f = jn e (qf e (Sp m od c i) f) fun a => qf e (Sp m od c i) f (upd a (lev od i) (!a (lev od i))) := by
  obtain ⟨e1, e2, e3⟩ := O.lev_ok hi
  refine qf_insert ?_ (fun k hk => ?_) ?_ f
  · unfold Sp
    rw [e3, h]; simp [e1, e2]
  · unfold Sp
    by_cases h0 : 0 ≤ k ∧ k < m
    · obtain ⟨p1, p2, _⟩ := O.plc_ok h0.1 h0.2
      have hne : plc od k ≠ i := fun q => hk (by rw [← q, p2])
      have : plc od k < i + 1 ↔ plc od k < i := by first | decide | lia | omega
      simp [this]
    · have : ¬ (0 ≤ k ∧ k < (m : Int) ∧ plc od k < i + 1) := fun q => h0 ⟨q.1, q.2.1⟩
      have h2 : ¬ (0 ≤ k ∧ k < (m : Int) ∧ plc od k < i) := fun q => h0 ⟨q.1, q.2.1⟩
      rw [decide_eq_false this, decide_eq_false h2]
  · unfold Sp
    rw [e3]; simp
noncomputable def nms (m c : Nat) : List Int := ((List.range m).filter fun p => c.testBit p).map fun (p : Nat) => (101 : Int) + ((p : Nat) : Int)
theorem mem_nms {m c : Nat} {x : Int} : x ∈ nms m c ↔ ∃ p : Nat, p < m ∧ c.testBit p = true ∧ x = 101 + (p : Int) := by
  unfold nms
  simp only [List.mem_map, List.mem_filter, List.mem_range]
  constructor
  · rintro ⟨p, ⟨h1, h2⟩, rfl⟩; exact ⟨p, h1, h2, rfl⟩
  · rintro ⟨p, h1, h2, rfl⟩; exact ⟨p, ⟨h1, h2⟩, rfl⟩
noncomputable def lsetO (od : List Int) (names : List Int) : Int → Bool := fun j => decide (0 ≤ j ∧ ∃ x ∈ names, od[j.toNat]? = some x)
theorem Od.sp_full {m : Nat} {od : List Int} (O : Od m od) (c : Nat) : Sp m od c m = lsetO od (nms m c) := funext fun j => by
  rw [Bool.eq_iff_iff]
  unfold Sp lsetO
  simp only [Bool.and_eq_true, decide_eq_true_eq]
  constructor
  · rintro ⟨⟨h0, h1, h2⟩, h3⟩
    obtain ⟨p1, p2, p3⟩ := O.plc_ok h0 h1
    exact ⟨h0, _, mem_nms.mpr ⟨_, p1, h3, rfl⟩, p3⟩
  · rintro ⟨h0, x, hx, h2⟩
    have hl := (List.getElem?_eq_some_iff.mp h2).1
    have h1 : j < m := by rw [← O.len]; omega
    obtain ⟨p1, p2, p3⟩ := O.plc_ok h0 h1
    obtain ⟨p, q1, q2, rfl⟩ := mem_nms.mp hx
    rw [p3] at h2
    have : plc od j = p := by have := Option.some.inj h2; omega
    rw [this]
    exact ⟨⟨h0, h1, q1⟩, q2⟩
theorem lsetO_append (od a b : List Int) : lsetO od (a ++ b) = fun j => lsetO od a j || lsetO od b j := funext fun j => by
  rw [Bool.eq_iff_iff]
  unfold lsetO
  simp only [Bool.or_eq_true, decide_eq_true_eq, List.mem_append]
  constructor
  · rintro ⟨h0, x, hx | hx, h⟩
    · exact .inl ⟨h0, x, hx, h⟩
    · exact .inr ⟨h0, x, hx, h⟩
  · rintro (⟨h0, x, hx, h⟩ | ⟨h0, x, hx, h⟩)
    · exact ⟨h0, x, .inl hx, h⟩
    · exact ⟨h0, x, .inr hx, h⟩
theorem lsetO_or (m : Nat) (od : List Int) (c d : Nat) : lsetO od (nms m (c ||| d)) = fun j => lsetO od (nms m c) j || lsetO od (nms m d) j := by
  rw [← lsetO_append]
  funext j
  unfold lsetO
  rw [decide_eq_decide]
  refine and_congr_right fun _ => exists_congr fun x => and_congr_left fun _ => ?_
  rw [List.mem_append, mem_nms, mem_nms, mem_nms]
  constructor
  · rintro ⟨p, h1, h2, rfl⟩
    rw [Nat.testBit_or, Bool.or_eq_true] at h2
    rcases h2 with h2 | h2
    · exact .inl ⟨p, h1, h2, rfl⟩
    · exact .inr ⟨p, h1, h2, rfl⟩
  · rintro (⟨p, h1, h2, rfl⟩ | ⟨p, h1, h2, rfl⟩)
    · exact ⟨p, h1, by rw [Nat.testBit_or, h2]; rfl, rfl⟩
    · exact ⟨p, h1, by rw [Nat.testBit_or, h2, Bool.or_true], rfl⟩
theorem tb_jn (m : Nat) (od : List Int) (e : Bool) (f g : BF) : tb m od (jn e f g) = if e then tb m od f &&& tb m od g else tb m od f ||| tb m od g := by
  cases e
  · exact (tb_or m od f g).symm
  · exact (tb_and m od f g).symm
theorem Od.imp_tb {m : Nat} {od : List Int} (O : Od m od) {f g : BF} (hf : Low m f) (hg : Low m g) : Imp f g ↔ tb m od f &&& (2 ^ 2 ^ m - 1 - tb m od g) = 0 := by
  rw [tb_not, tb_and]
  have hz : tb m od (fun _ => false) = 0 := Nat.eq_of_testBit_eq fun i => by rw [tb_bit]; simp
  constructor
  · intro h
    rw [← hz]
    congr 1
    funext a
    cases hfa : f a with
    | false => rfl
    | true => rw [h a hfa]; rfl
  · intro h a ha
    rw [← hz] at h
    have := congrFun (O.tb_inj (m := m) (f := fun a => f a && !g a) (g := fun _ => false) (fun a a' h => by simp only [hf a a' h, hg a a' h]) (fun _ _ _ => rfl) h) a
    simpa [ha] using this
end
section
open PySem PySem.W PyProof.Rows PySem.Calls
set_option maxRecDepth 100000
set_option maxHeartbeats 8000000
noncomputable def fn515 : FnIn 515 := by
  refine' mkFn ?ok ?hb
  case ok => intro P; k_is
  case hb => exact rfl
@[reducible] noncomputable def N515 : Nm := ⟨[], []⟩
theorem sc515 : ScOk fn515.fd.scope.names N515.loc N515.glo := by
  refine scOk_of ?_
  kernel_rfl!
theorem fo515 (P : Params) : FnOk (hd.heap_1_1 P) 515 fn515.fd fn515.body := ⟨⟨_, _, _, fn515.ok P⟩, by kernel_rfl!, fn515.hb, rfl, rfl, rfl, rfl, rfl, by kernel_rfl!⟩
noncomputable def fn522 : FnIn 522 := by
  refine' mkFn ?ok ?hb
  case ok => intro P; k_is
  case hb => exact rfl
@[reducible] noncomputable def N522 : Nm := ⟨["tool", "table", "level", "row", "step", "low", "high"], ["_law_made"]⟩
theorem sc522 : ScOk fn522.fd.scope.names N522.loc N522.glo := by
  refine scOk_of ?_
  kernel_rfl!
theorem fo522 (P : Params) : FnOk (hd.heap_1_1 P) 522 fn522.fd fn522.body := ⟨⟨_, _, _, fn522.ok P⟩, by kernel_rfl!, fn522.hb, rfl, rfl, rfl, rfl, rfl, by kernel_rfl!⟩
noncomputable def fn543 : FnIn 543 := by
  refine' mkFn ?ok ?hb
  case ok => intro P; k_is
  case hb => exact rfl
@[reducible] noncomputable def N543 : Nm := ⟨["every", "left", "right"], []⟩
theorem sc543 : ScOk fn543.fd.scope.names N543.loc N543.glo := by
  refine scOk_of ?_
  kernel_rfl!
theorem fo543 (P : Params) : FnOk (hd.heap_1_1 P) 543 fn543.fd fn543.body := ⟨⟨_, _, _, fn543.ok P⟩, by kernel_rfl!, fn543.hb, rfl, rfl, rfl, rfl, rfl, by kernel_rfl!⟩
noncomputable def fn550 : FnIn 550 := by
  refine' mkFn ?ok ?hb
  case ok => intro P; k_is
  case hb => exact rfl
@[reducible] noncomputable def N550 : Nm := ⟨["tool", "every", "names", "node"], []⟩
theorem sc550 : ScOk fn550.fd.scope.names N550.loc N550.glo := by
  refine scOk_of ?_
  kernel_rfl!
theorem fo550 (P : Params) : FnOk (hd.heap_1_1 P) 550 fn550.fd fn550.body := ⟨⟨_, _, _, fn550.ok P⟩, by kernel_rfl!, fn550.hb, rfl, rfl, rfl, rfl, rfl, by kernel_rfl!⟩
section
variable {N : Nm} {W : Wd} {Ψ : Frm hd.heap_1_1 N W} {vals : Vals} {b : Mg} {σ : Sg} {Rl : Led} {sa : Addr}
theorem WA.fdivP {a b : Int} {t u : Tok} {l : Led} {Q : Value → Vals → Led → Prop} (hb : b ≠ 0) (hp : Builtin.divisionGoesByPylong a b = false) (q : ∀ t, Q (.int (Int.fdiv a b) t) vals l) : WA Ψ (binaryOp .FloorDiv (.int a t) (.int b u)) Q vals l := WA.same q fun _ _ _ _ h => floordiv_int hb (h _ _) (.inl hp)
theorem full_nd : ∀ a ∈ U1, ∀ b ∈ U1, ∀ c ∈ U1, ∀ d ∈ U1, (∀ x ∈ U1, x ∈ [a, b, c, d]) → [a, b, c, d].Nodup := by decide +kernel
theorem Full.od (F : Full σ) : Od 4 σ.order := by
  have hl := F.len
  have hm := F.mem
  generalize σ.order = od at hl hm ⊢
  match od, hl with
  | [a, b, c, d], _ =>
    refine ⟨rfl, full_nd a ((hm a).mpr (by simp)) b ((hm b).mpr (by simp)) c ((hm c).mpr (by simp)) d ((hm d).mpr (by simp)) fun x hx => (hm x).mp hx, fun x => ?_⟩
    rw [← hm x]
    simp only [U1, List.mem_cons, List.not_mem_nil, or_false]
    omega
theorem Full.nv (F : Full σ) : σ.nv = 4 := F.len
theorem ones_c {M R : Led} {Q : Value → Vals → Led → Prop} (hr : Room Ψ.A 2) (q : ∀ x t1 t2 t3 t4, Q (.ref x) vals (M ++ (x, listOf #[.int 43690 t1, .int 52428 t2, .int 61680 t3, .int 65280 t4] 0) :: R)) :
    WA Ψ (call (.ref 515) []) Q vals (M ++ R) := by
  refine WA.callDefS (N' := N515) (fo515 _) sc515 hr (binds := []) (rest := []) (fun s X => .of_eq rfl) rfl [] rfl ?_
  intro Ψ' he hr'
  dsimp only [fn515, mkFn]
  kd_p; kj_on
  refine Mine.L.list rfl ?_; intro _
  kit_nb; kst_p; kit_nb; kst_p; kit_nb; kst_p; kit_nb; kst_p; kit_tp
  refine WA.newListM (fits_of (n := 4) (by first | decide | lia | omega)) fun x => ?_
  kcj_m
  exact ⟨_, List.Sublist.refl _, q x _ _ _ _⟩
theorem met_c {every : Bool} {x y : Int} {tx ty : Tok} {Q : Value → Vals → Led → Prop} (hr : Room Ψ.A 2) (q : ∀ t, Q (.int (if every then Builtin.bitOr x y else Builtin.bitAnd x y) t) vals Rl) :
    WA Ψ (call (.ref 543) [.bool every, .int x tx, .int y ty]) Q vals Rl := by
  refine WA.callDefS (N' := N543) (fo543 _) sc543 hr (binds := [("every", .bool every), ("left", .int x tx), ("right", .int y ty)]) (rest := []) (fun s X => .of_eq rfl) rfl [some (.bool every), some (.int x tx), some (.int y ty)] rfl ?_
  intro Ψ' he hr'
  dsimp only [fn543, mkFn]
  cases every with
  | true =>
    kd_p; kj_on; kcu_lt; kfm_eq; kd_in; ks_any; kwk_ne; kbe_in; kd_in; kd_in
    refine WA.bor fun t => ?_
    kcj_m
    exact ⟨_, List.Sublist.refl _, q t⟩
  | false =>
    kd_p; kj_on; kcu_lt; kfm_eq; kd_in; ks_any; kwk_eq; kbe_in; kd_in; kd_in
    refine WA.band fun t => ?_
    kcj_m
    exact ⟨_, List.Sublist.refl _, q t⟩
theorem over_c {u : Int} {tu : Tok} {nl : Addr} {vs : List Value} {n0 : Nat} {names : List Int} {every : Bool} {f : BF} {Q : Value → Vals → Led → Prop} (G : Good W sa b σ) (hr : Room Ψ.A 28) (cap : Cap σ 2048) (hf : Full σ) (du : Den σ u f)
    (hm : (nl, listOf vs.toArray n0) ∈ Rl) (hi : IntsAre vs names) (hU : ∀ x ∈ names, x ∈ U1) (hz : names.length ≤ 100)
    (q : ∀ t' b' σ' r, Good W sa b' σ' → Gr σ σ' 2048 → Den σ' r (qf every (lset σ names) f) → Q (.int r t') vals (mgL b' ++ Rl)) :
    WA Ψ (call (.ref 550) [.ref sa, .bool every, .ref nl, .int u tu]) Q vals (mgL b ++ Rl) := by
  refine WA.callDefS (N' := N550) (fo550 _) sc550 hr (binds := [("tool", .ref sa), ("every", .bool every), ("names", .ref nl), ("node", .int u tu)]) (rest := []) (fun s X => .of_eq rfl) rfl [some (.ref sa), some (.bool every), some (.ref nl), some (.int u tu)] rfl ?_
  intro Ψ' he hr'
  have at0 := G.at'
  have hs := G.hs
  dsimp only [fn550, mkFn]
  cases every with
  | true =>
    kd_p; kj_on; kcu_lt; kfm_eq; kd_in; ks_any; kwk_ne; kin_no; kd_in; ksp_in; kit_is; kit_is; kit_tp
    refine forall_c G hr' cap hf du hm hi hU hz fun t' b' σ' r G' g' d' => ?_
    kcj_m
    exact ⟨_, List.Sublist.refl _, q t' b' σ' r G' g' d'⟩
  | false =>
    kd_p; kj_on; kcu_lt; kfm_eq; kd_in; ks_any; kwk_eq; kin_no; kd_in; ksp_in; kit_is; kit_is; kit_tp
    refine exist_c G hr' cap hf du hm hi hU hz fun t' b' σ' r G' g' d' => ?_
    kcj_m
    exact ⟨_, List.Sublist.refl _, q t' b' σ' r G' g' d'⟩
noncomputable def rsum (od : List Int) : Nat → Int → Asg → Nat
  | 0, _, _ => 0
  | n + 1, k, a => (if a k then 2 ^ plc od k else 0) + rsum od n (k + 1) a
theorem rsum_succ (od : List Int) (n : Nat) (k : Int) (a : Asg) : rsum od (n + 1) k a = (if a k then 2 ^ plc od k else 0) + rsum od n (k + 1) a := rfl
theorem bit_int (T r : Nat) : (Int.fmod (Int.fdiv (T : Int) ((2 : Int) ^ ((r : Int)).toNat)) 2 == 1) = T.testBit r := by
  rw [Int.toNat_natCast, Int.fdiv_eq_ediv_of_nonneg _ (by have := Int.pow_pos (n := 2) (m := r) (by decide); omega), Int.fmod_eq_emod_of_nonneg _ (by decide), Nat.testBit_eq_decide_div_mod_eq]
  have : ((T : Int) / 2 ^ r % 2) = ((T / 2 ^ r % 2 : Nat) : Int) := by push_cast; rfl
  rw [this]
  have h2 : T / 2 ^ r % 2 < 2 := Nat.mod_lt _ (by decide)
  rw [Bool.eq_iff_iff]
  simp only [beq_iff_eq, decide_eq_true_eq]
  omega
theorem g_made (P : Params) : DefIs (hd.heap_1_1 P) "_law_made" 522 := ⟨.inl (by k_is), by k_is⟩
theorem pylong_pow (a : Int) (r : Nat) (h : r < 9000) : Builtin.divisionGoesByPylong a ((2 : Int) ^ ((r : Int)).toNat) = false := by
  refine PyProof.noPylong_of_log2 ?_
  rw [Int.toNat_natCast, Int.natAbs_pow]
  show (2 ^ r).log2 < 9000
  rw [Nat.log2_two_pow]; exact h
theorem made_c (n : Nat) : ∀ (N : Nm) (Ψ : Frm hd.heap_1_1 N W) (vals : Vals) (b : Mg) (σ : Sg) (Rl : Led) (k : Int) (T r : Nat) (tT tk tr : Tok) (Q : Value → Vals → Led → Prop),
    Good W sa b σ → Room Ψ.A (n + 5) → Full σ → 0 ≤ k → (n : Int) + k = 4 → r ≤ 100 - 10 * n → Cap σ (2 ^ n) →
    (∀ t' b' σ' u, Good W sa b' σ' → Gr σ σ' (2 ^ n - 1) → Vd σ' k u → Den σ' u (fun a => T.testBit (r + rsum σ.order n k a)) → Q (.int u t') vals (mgL b' ++ Rl)) →
    WA Ψ (call (.ref 522) [.ref sa, .int T tT, .int k tk, .int r tr]) Q vals (mgL b ++ Rl) := by
  induction n with
  | zero =>
    intro N Ψ vals b σ Rl k T r tT tk tr Q G hr F h0 hk hrr cap q
    refine WA.callDefS (N' := N522) (fo522 _) sc522 hr (binds := [("tool", .ref sa), ("table", .int T tT), ("level", .int k tk), ("row", .int r tr)]) (rest := ["step", "low", "high"]) (fun s X => .of_eq rfl) rfl [some (.ref sa), some (.int T tT), some (.int k tk), some (.int r tr), none, none, none] rfl ?_
    intro Ψ' he hr'
    obtain rfl : k = 4 := by first | decide | lia | omega
    dsimp only [fn522, mkFn]
    kd_p; kd_p1; kd_adr; kd_in; kst_p; kpc_eq; ks_any; kwk_ne; kd_p; kj_on; kcu_lt; kd_adr; kbe_in; kbe_in; kd_in; kbe_in; kst_p; kd_in
    refine WA.pow2 (by first | decide | lia | omega) (by first | decide | lia | omega) fun _ => ?_
    refine WA.fdivP (by have := Int.pow_pos (n := 2) (m := ((r : Int)).toNat) (by decide); omega) (pylong_pow _ _ (by first | decide | lia | omega)) fun _ => ?_
    kst_p
    refine WA.mod (by decide) fun _ => ?_
    kst_p; kpc_eq; ks_any
    rw [bit_int]
    have h4 := F.nv
    refine R.iteB (fun hb => ?_) fun hb => ?_
    · kst_p; kcj_m; kcj_m
      refine ⟨_, List.Sublist.refl _, q _ b σ 1 G (Gr.refl σ) (Vd.one (by first | decide | lia | omega)) ?_⟩
      have : (fun a : Asg => T.testBit (r + rsum σ.order 0 4 a)) = fun _ => true := funext fun a => hb
      rw [this]; exact .one
    · kbt_ne; kst_p; kp_lit; kcj_m; kcj_m
      refine ⟨_, List.Sublist.refl _, q _ b σ (-1) G (Gr.refl σ) (Vd.one (by first | decide | lia | omega)).neg ?_⟩
      have : (fun a : Asg => T.testBit (r + rsum σ.order 0 4 a)) = fun _ => !true := funext fun a => hb
      rw [this]; exact Den.not .one
  | succ n ih =>
    intro N Ψ vals b σ Rl k T r tT tk tr Q G hr F h0 hk hrr cap q
    refine WA.callDefS (N' := N522) (fo522 _) sc522 hr (binds := [("tool", .ref sa), ("table", .int T tT), ("level", .int k tk), ("row", .int r tr)]) (rest := ["step", "low", "high"]) (fun s X => .of_eq rfl) rfl [some (.ref sa), some (.int T tT), some (.int k tk), some (.int r tr), none, none, none] rfl ?_
    intro Ψ' he hr'
    have O := F.od
    have at0 := G.at'
    have hs := G.hs
    obtain ⟨p1, p2, p3⟩ := O.plc_ok h0 (show k < ((4 : Nat) : Int) by first | decide | lia | omega)
    have hpow : 2 ^ (n + 1) = 2 * 2 ^ n := by rw [Nat.pow_succ]; omega
    have hpos := Nat.two_pow_pos n
    dsimp only [fn522, mkFn]
    kd_p; kd_p1; kd_adr; kd_in; kst_p; kpc_eq; ks_any; kwk_eq; kt_k; kcf_m; kd_p; kl_no; kbe_in; kst_p; kbe_in; kin_no; kd_in; ksp_in; kit_is; kit_tp
    refine varat_c G (hr'.less (by first | decide | lia | omega)) h0 p3 fun tv => ?_
    kst_p; kn_hit
    refine WA.pow2 (by first | decide | lia | omega) (by first | decide | lia | omega) fun ts => ?_
    rw [show (2 : Int) ^ ((101 : Int) + (plc σ.order k : Int) - 101).toNat = ((2 ^ plc σ.order k : Nat) : Int) by rw [show ((101 : Int) + (plc σ.order k : Int) - 101).toNat = plc σ.order k by first | decide | lia | omega]; push_cast; rfl]
    generalize hstep : 2 ^ plc σ.order k = step
    have hst : step ≤ 8 := by rw [← hstep]; exact Nat.le_trans (Nat.pow_le_pow_right (by decide) (show plc σ.order k ≤ 3 by first | decide | lia | omega)) (by decide)
    kmb_kw; kcf_m; kd_p; kl_no; kit_at
    refine Mine.L.funR (by nest_cls) (g_made _) ?_; intro _
    kit_is; kit_is; kit_nb; kbe_in; kd_in; kst_p; kmk_kw; kit_is; kit_tp
    refine ih _ Ψ' _ b σ _ (k + 1) T r _ _ _ _ G hr' F (by first | decide | lia | omega) (by first | decide | lia | omega) (by first | decide | lia | omega) (cap.less (by first | decide | lia | omega)) fun tl b1 σ1 u1 G1 g1 v1 d1 => ?_
    kmb_kw; kcf_m; kd_p; kl_no; kit_at
    refine Mine.L.funR (by nest_cls) (g_made _) ?_; intro _
    kit_is; kit_is; kit_nb; kbe_in; kd_in; kst_p; kmk_kw; kit_nb; kbe_in; kd_in; kd_in; kmk_kw; kit_tp
    rw [show (r : Int) + (step : Int) = ((r + step : Nat) : Int) by push_cast; rfl]
    refine ih _ Ψ' _ b1 σ1 _ (k + 1) T (r + step) _ _ _ _ G1 hr' (F.ext g1.e) (by first | decide | lia | omega) (by first | decide | lia | omega) (by first | decide | lia | omega) (Cap.after (c := 2 ^ n - 1) (cap.less (by first | decide | lia | omega)) g1) fun th b2 σ2 u2 G2 g2 v2 d2 => ?_
    have at2 := G2.at'
    have hs2 := G2.hs
    have g12 := g1.trans g2
    have hnv : (σ2.nv : Int) = 4 := by rw [g12.e.nv, F.nv]; rfl
    kmb_kw; kcf_m; kd_p; kj_on; kin_no; kd_in; ksp_in; kit_is; kit_is; kit_is; kit_tp
    refine foa_c G2 (hr'.less (by first | decide | lia | omega)) (Cap.after (c := 2 ^ n - 1 + (2 ^ n - 1)) (cap.less (by first | decide | lia | omega)) g12) h0 (by first | decide | lia | omega) (v1.ext g2.e) v2 (d1.ext g2.e) d2 fun t3 b3 σ3 u3 G3 g3 v3 d3 => ?_
    kcj_m
    refine ⟨_, List.Sublist.refl _, q _ b3 σ3 u3 G3 ((g12.trans g3).le (by first | decide | lia | omega)) v3 ?_⟩
    rw [g1.e.ord] at d3
    have : (fun a : Asg => T.testBit (r + rsum σ.order (n + 1) k a)) = fun a => if a k = true then T.testBit (r + step + rsum σ.order n (k + 1) a) else T.testBit (r + rsum σ.order n (k + 1) a) := funext fun a => by
      rw [rsum_succ, hstep]
      split
      · rw [Nat.add_assoc]
      · rw [Nat.zero_add]
    rw [this]; exact d3
end
end
section
open PySem PySem.W PyProof.Rows PySem.Calls
set_option maxRecDepth 100000
set_option maxHeartbeats 8000000
noncomputable def fn529 : FnIn 529 := by
  refine' mkFn ?ok ?hb
  case ok => intro P; k_is
  case hb => exact rfl
@[reducible] noncomputable def N529 : Nm := ⟨["tool", "node", "known", "level", "low", "high", "ones"], ["abs", "_law_ones", "_law_table"]⟩
theorem sc529 : ScOk fn529.fd.scope.names N529.loc N529.glo := by
  refine scOk_of ?_
  kernel_rfl!
theorem fo529 (P : Params) : FnOk (hd.heap_1_1 P) 529 fn529.fd fn529.body := ⟨⟨_, _, _, fn529.ok P⟩, by kernel_rfl!, fn529.hb, rfl, rfl, rfl, rfl, rfl, by kernel_rfl!⟩
section
variable {N : Nm} {W : Wd} {Ψ : Frm hd.heap_1_1 N W} {vals : Vals} {b : Mg} {σ : Sg} {Rl : Led} {sa : Addr}
theorem band_nat (x y : Nat) : Builtin.bitAnd (x : Int) (y : Int) = ((x &&& y : Nat) : Int) := by
  rw [bitAnd_pp (by first | decide | lia | omega) (by first | decide | lia | omega), Int.toNat_natCast, Int.toNat_natCast]
theorem bor_nat (x y : Nat) : Builtin.bitOr (x : Int) (y : Int) = ((x ||| y : Nat) : Int) := by
  unfold Builtin.bitOr
  have hx : ¬ 0 ≤ Builtin.bitNot (x : Int) := by unfold Builtin.bitNot; omega
  have hy : ¬ 0 ≤ Builtin.bitNot (y : Int) := by unfold Builtin.bitNot; omega
  rw [bitAnd_nn hx hy]
  have e : ∀ z : Int, Builtin.bitNot (Builtin.bitNot z) = z := fun z => by unfold Builtin.bitNot; omega
  rw [e, e, e, Int.toNat_natCast, Int.toNat_natCast]
theorem g_tab (P : Params) : DefIs (hd.heap_1_1 P) "_law_table" 529 := ⟨.inl (by k_is), by k_is⟩
theorem g_ones (P : Params) : DefIs (hd.heap_1_1 P) "_law_ones" 515 := ⟨.inl (by k_is), by k_is⟩
theorem ones_item {p : Nat} (h : p < 4) : ([43690, 52428, 61680, 65280] : List Int)[p]? = some (onesN 4 p : Int) := by
  match p, h with
  | 0, _ => decide +kernel
  | 1, _ => decide +kernel
  | 2, _ => decide +kernel
  | 3, _ => decide +kernel
theorem ones_get {t1 t2 t3 t4 : Tok} {k : Int} {p : Nat} (hp : p < 4) (hk : k = (p : Int)) : ∃ t, ([Value.int 43690 t1, .int 52428 t2, .int 61680 t3, .int 65280 t4])[k.toNat]? = some (.int (onesN 4 p : Int) t) := by
  subst hk
  rw [Int.toNat_natCast]
  exact ints_get (.cons _ _ (.cons _ _ (.cons _ _ (.cons _ _ .nil)))) (ones_item hp)
noncomputable def Kn (σ : Sg) (kvs : List (Int × Value)) : Prop := (valueAt kvs 1).isSome = true ∧ ∀ u x, valueAt kvs u = some x → ∃ t f, x = .int (tb 4 σ.order f : Int) t ∧ Den σ u f
theorem Kn.ext {σ σ' : Sg} {kvs : List (Int × Value)} (e : Ext σ σ') (h : Kn σ kvs) : Kn σ' kvs := ⟨h.1, fun u x hx => let ⟨t, f, h1, h2⟩ := h.2 u x hx; ⟨t, f, by rw [e.ord]; exact h1, h2.ext e⟩⟩
theorem onesN_le {p : Nat} (hp : p < 4) : onesN 4 p ≤ 65535 := by have := bitsN_lt (2 ^ 4) fun r => r.testBit p; unfold onesN; omega
theorem tb_le (od : List Int) (f : BF) : tb 4 od f ≤ 65535 := by have := tb_lt 4 od f; omega
theorem sub_int' {x : Nat} (h : x ≤ 65535) : (65535 : Int) - (x : Int) = ((2 ^ 2 ^ 4 - 1 - x : Nat) : Int) := by
  have : (2 ^ 2 ^ 4 - 1 - x : Nat) = 65535 - x := rfl
  rw [this]; omega
theorem table_c (n : Nat) : ∀ (N : Nm) (Ψ : Frm hd.heap_1_1 N W) (vals : Vals) (b : Mg) (σ : Sg) (Rl : Led) (ka : Addr) (ko : Obj) (kvs : List (Int × Value)) (k u : Int) (f : BF) (tu : Tok) (Q : Value → Vals → Led → Prop),
    Good W sa b σ → Room Ψ.A (n + 6) → Full σ → ((σ.nv : Int) - k).toNat ≤ n → Vd σ k u → Den σ u f → ko.IsDictOf (intKind W.prog W.w) kvs → Kn σ kvs → kvs.length + 2 ^ n ≤ 1000000 →
    (∀ t' ko' kvs', ko'.IsDictOf (intKind W.prog W.w) kvs' → Kn σ kvs' → kvs'.length + 1 ≤ kvs.length + 2 ^ n → Q (.int (tb 4 σ.order f : Int) t') vals (mgL b ++ (ka, ko') :: Rl)) →
    WA Ψ (call (.ref 529) [.ref sa, .int u tu, .ref ka]) Q vals (mgL b ++ (ka, ko) :: Rl) := by
  induction n using Nat.strongRecOn with
  | ind n ih =>
    intro N Ψ vals b σ Rl ka ko kvs k u f tu Q G hr F hn hu df hko hkn hz q
    have hp := Nat.two_pow_pos n
    refine WA.callDefS (N' := N529) (fo529 _) sc529 hr (binds := [("tool", .ref sa), ("node", .int u tu), ("known", .ref ka)]) (rest := ["level", "low", "high", "ones"]) (fun s X => .of_eq rfl) rfl [some (.ref sa), some (.int u tu), some (.ref ka), none, none, none, none] rfl ?_
    intro Ψ' he hr'
    have O := F.od
    have ok := G.ok
    have at0 := G.at'
    have hs := G.hs
    have hcm : ∀ {x : Obj}, (ka, x) ∈ mgL b ++ (ka, x) :: Rl := List.mem_append_right _ (.head _)
    dsimp only [fn529, mkFn]
    kd_p; kd_p1; kd_adr; kit_at; ksr_p; kle_go; kit_is; kit_tp; kqd_ok; kd_in
    refine WA.dNotIn (intKind_is _ _ _ _) hcm hko ?_
    ks_any
    refine R.joinI (fun vals' l' => Ex6 fun o1 o2 o3 o4 ko' kvs' => An6 (ko'.IsDictOf (intKind W.prog W.w) kvs') (Kn σ kvs') (kvs'.length + 1 ≤ kvs.length + 2 ^ n) ((valueAt kvs' (iabs u)).isSome = true) (l' = mgL b ++ (ka, ko') :: Rl) (vals' = [some (.ref sa), some (.int u tu), some (.ref ka), o1, o2, o3, o4])) (R.iteB (fun h1 => ?_) fun h1 => ?_) ?_
    · obtain ⟨i', v, x, hnd, hle⟩ : ∃ i' v x, σ.node (iabs u) = some (i', v, x) ∧ k ≤ i' := by
        have hne : iabs u ≠ 1 := fun e1 => by
          have h1k := hkn.1
          change (!(valueAt kvs (iabs u)).isSome) = true at h1
          rw [e1, h1k] at h1; cases h1
        rcases hu.cases with (e1 | e1) | h
        · exact absurd (by rw [e1]; decide) hne
        · exact absurd (by rw [e1]; decide) hne
        · exact h
      have o := ok.nd _ _ _ _ hnd
      have hnv := F.nv
      obtain ⟨f0, hf0⟩ := Vd.den ok o.2.2.2.2.1
      obtain ⟨f1, hf1⟩ := Vd.den ok o.2.2.2.2.2
      obtain ⟨p1, p2, p3⟩ := O.plc_ok o.1 (show i' < ((4 : Nat) : Int) by have := o.2.1; omega)
      obtain ⟨m, rfl⟩ : ∃ m, n = m + 1 := ⟨n - 1, by have := o.2.1; omega⟩
      have h2p : 2 ^ (m + 1) = 2 * 2 ^ m := by rw [Nat.pow_succ]; omega
      have hp1 := Nat.two_pow_pos m
      kd_p
      refine Mine.L.asT rfl rfl ?_; intro _
      kin_no; kd_in; ksp_in; kit_is; kit_tp
      refine succ_c G (hr'.less (by first | decide | lia | omega)) hnd fun a t1 t2 t3 nq dd sl hm => ?_
      refine R.unp hr'.hh hm rfl rfl ?_
      kts_nm; kmb_kw; kts_nm; kmb_kw; kts_nm; kmb_kw; ktyn_q; kcf_m; kd_p; kl_no; kfm_hd; kit_at
      refine Mine.L.funR (by nest_cls) (g_ones _) ?_; intro _
      kit_tp
      refine ones_c (hr'.less (by first | decide | lia | omega)) fun xo s1 s2 s3 s4 => ?_
      kbe_in; kin_no; kd_in; ksp_in; kit_is; kit_tp
      refine varat_c G (hr'.less (by first | decide | lia | omega)) o.1 p3 fun tv => ?_
      kst_p; kn_hit
      obtain ⟨to, hto⟩ := ones_get (t1 := s1) (t2 := s2) (t3 := s3) (t4 := s4) p1 (show (101 : Int) + (plc σ.order i' : Int) - 101 = (plc σ.order i' : Int) by first | decide | lia | omega)
      refine WA.lGet (vs := [_, _, _, _]) (List.mem_append_right _ (.head _)) (by first | decide | lia | omega) (by first | decide | lia | omega) hto ?_
      kmb_kw; kcf_m; kd_p; kpc_g; kbe_in; kbe_in; kit_at
      refine WA.sublist (mgL b ++ (ka, ko) :: Rl) (List.Sublist.append (List.Sublist.refl _) (List.sublist_cons_self _ _)) ?_
      refine Mine.L.funR (by nest_cls) (g_tab _) ?_; intro _
      kit_is; kit_is; kit_is; kit_tp
      refine ih m (by first | decide | lia | omega) _ Ψ' _ b σ Rl ka ko kvs (i' + 1) x f1 _ _ G (hr'.less (by first | decide | lia | omega)) F (by first | decide | lia | omega) o.2.2.2.2.2 hf1 hko hkn (by first | decide | lia | omega) fun tx ko1 kvs1 hko1 hkn1 hl1 => ?_
      kd_in
      refine WA.band fun ta => ?_
      kbe_in; kit_at
      refine Mine.L.funR (by nest_cls) (g_tab _) ?_; intro _
      kit_is; kit_is; kit_is; kit_tp
      refine ih m (by first | decide | lia | omega) _ Ψ' _ b σ Rl ka ko1 kvs1 (i' + 1) v f0 _ _ G (hr'.less (by first | decide | lia | omega)) F (by first | decide | lia | omega) o.2.2.2.2.1 hf0 hko1 hkn1 (by first | decide | lia | omega) fun tx ko2 kvs2 hko2 hkn2 hl2 => ?_
      kbe_in; kst_p; kd_in; kn_hit
      refine WA.band fun tb' => ?_
      refine WA.bor fun tc => ?_
      kd_in; kit_at; ksr_p; kle_go; kit_is; kit_tp; kqd_ok
      rw [sub_int' (onesN_le p1), band_nat, band_nat, bor_nat, O.tb_node o.1 (show i' < ((4 : Nat) : Int) by have := o.2.1; omega)]
      refine WA.dSet (pre := mgL b) (post := Rl) (intKind_is _ _ _ _) rfl hko2 (by rw [sizeLine_is]; omega) fun ko3 hko3 => ?_
      kcf_m; kt_k
      refine ⟨rfl, _, _, _, _, ko3, _, hko3, ⟨?_, ?_⟩, ?_, ?_, rfl, rfl⟩
      · show (valueAt (stored kvs2 (iabs u) _) 1).isSome = true
        rw [valueAt_stored]
        generalize iabs u = z
        split
        · rfl
        · exact hkn2.1
      · intro u' x' hx'
        change valueAt (stored kvs2 (iabs u) _) u' = some x' at hx'
        rw [valueAt_stored] at hx'
        have hdd := Den.node hnd hf0 hf1
        generalize iabs u = z at hx' hdd
        split at hx'
        · rename_i hu'
          cases hx'
          exact ⟨tc, _, rfl, by rw [hu']; exact hdd⟩
        · exact hkn2.2 u' x' hx'
      · have h9 := stored_len_le kvs2 (iabs u) (.int (tb 4 σ.order fun a => if a i' = true then f1 a else f0 a : Int) tc)
        refine Nat.le_trans (Nat.succ_le_succ h9) ?_
        omega
      · show (valueAt (stored kvs2 (iabs u) _) (iabs u)).isSome = true
        rw [valueAt_stored, if_pos rfl]; rfl
    · kt_k
      exact ⟨rfl, _, _, _, _, ko, kvs, hko, hkn, by first | decide | lia | omega, by simpa using h1, rfl, rfl⟩
    rintro _ _ ⟨o1, o2, o3, o4, ko', kvs', hko', hkn', hl', hin, rfl, rfl⟩
    obtain ⟨x, hx⟩ := Option.isSome_iff_exists.mp hin
    obtain ⟨tx, f', rfl, df'⟩ := hkn'.2 _ _ hx
    kcf_m; kd_p; kj_on; kcu_lt; kd_adr; kd_in; kst_p; kpt_hd; ks_any
    refine R.iteB (fun h2 => ?_) fun h2 => ?_
    · have h2' : 0 < u := by simpa using h2
      kfm_hd; kd_in; kit_at; ksr_p; kle_go; kit_is; kit_tp; kqd_ok
      refine dTail hcm hko' (WA.dGet (intKind_is _ _ _ _) hcm hko' hx ?_) (by with_unfolding_all rfl)
      kcj_m
      refine ⟨_, List.Sublist.refl _, ?_⟩
      rw [iabs_pos h2'] at df'
      rw [df.fn df'] at q
      exact q _ ko' kvs' hko' hkn' hl'
    · have h2' : u < 0 := by have := hu.ne0; have : ¬ 0 < u := by simpa using h2
                             omega
      kbe_in; kst_p; kfm_hd; kd_in; kit_at; ksr_p; kle_go; kit_is; kit_tp; kqd_ok
      refine dTail hcm hko' (WA.dGet (intKind_is _ _ _ _) hcm hko' hx ?_) (by with_unfolding_all rfl)
      kn_hit; kcj_m
      refine ⟨_, List.Sublist.refl _, ?_⟩
      rw [sub_int' (tb_le _ _), tb_not]
      have e1 : iabs u = -u := by unfold iabs; rw [if_pos h2']
      rw [e1] at df'
      have := df'.not
      rw [Int.neg_neg] at this
      rw [df.fn this] at q
      exact q _ ko' kvs' hko' hkn' hl'
end
end
section
open PySem PySem.W PyProof.Rows PySem.Calls
set_option maxRecDepth 100000
set_option maxHeartbeats 8000000
noncomputable def fn536 : FnIn 536 := by
  refine' mkFn ?ok ?hb
  case ok => intro P; k_is
  case hb => exact rfl
@[reducible] noncomputable def N536 : Nm := ⟨["table", "chosen", "every", "place", "ones", "step", "turned"], ["range", "_law_ones"]⟩
theorem sc536 : ScOk fn536.fd.scope.names N536.loc N536.glo := by
  refine scOk_of ?_
  kernel_rfl!
theorem fo536 (P : Params) : FnOk (hd.heap_1_1 P) 536 fn536.fd fn536.body := ⟨⟨_, _, _, fn536.ok P⟩, by kernel_rfl!, fn536.hb, rfl, rfl, rfl, rfl, rfl, by kernel_rfl!⟩
section
variable {N : Nm} {W : Wd} {Ψ : Frm hd.heap_1_1 N W} {vals : Vals} {b : Mg} {σ : Sg} {Rl : Led} {sa : Addr}
theorem pp_int (i : Nat) : (2 : Int) ^ ((2 : Int) ^ ((i : Int)).toNat).toNat = ((2 ^ 2 ^ i : Nat) : Int) := by
  have : ((2 : Int) ^ ((i : Int)).toNat).toNat = 2 ^ i := by
    rw [Int.toNat_natCast, show (2 : Int) ^ i = ((2 ^ i : Nat) : Int) by push_cast; rfl, Int.toNat_natCast]
  rw [this]; push_cast; rfl
theorem turn_int {od : List Int} (O : Od 4 od) {i : Nat} (hi : i < 4) (g : BF) :
    Int.fdiv (Builtin.bitAnd (tb 4 od g) (onesN 4 i)) ((2 ^ 2 ^ i : Nat) : Int) + Builtin.bitAnd (tb 4 od g) (65535 - onesN 4 i) * ((2 ^ 2 ^ i : Nat) : Int) = (tb 4 od (fun a => g (upd a (lev od i) (!a (lev od i)))) : Int) := by
  rw [← O.tb_turn hi, sub_int' (onesN_le hi), band_nat, band_nat, Int.fdiv_eq_ediv_of_nonneg _ (Int.natCast_nonneg _)]
  push_cast
  rfl
theorem thrown_c {od : List Int} (O : Od 4 od) {every : Bool} {c : Nat} {f : BF} {tt tc : Tok} {Q : Value → Vals → Led → Prop} (hr : Room Ψ.A 4)
    (q : ∀ t, Q (.int (tb 4 od (qf every (lsetO od (nms 4 c)) f) : Int) t) vals Rl) :
    WA Ψ (call (.ref 536) [.int (tb 4 od f : Int) tt, .int c tc, .bool every]) Q vals Rl := by
  refine WA.callDefS (N' := N536) (fo536 _) sc536 hr (binds := [("table", .int (tb 4 od f : Int) tt), ("chosen", .int c tc), ("every", .bool every)]) (rest := ["place", "ones", "step", "turned"]) (fun s X => .of_eq rfl) rfl [some (.int (tb 4 od f : Int) tt), some (.int c tc), some (.bool every), none, none, none, none] rfl ?_
  intro Ψ' he hr'
  have hh := hr'.hh
  dsimp only [fn536, mkFn]
  kd_p; kt_key; kit_at; ksr_p; kln_le; kit_nb; kst_p; kit_tp
  refine WA.range1 (M := []) fun rg t1 t2 => ?_
  refine WA.rangeIterM (M := []) (.head _) (by decide) fun it => ?_
  refine WC.inv (fun m vals' l' => Ex6 fun (i : Nat) (tz : Tok) (o1 o2 o3 o4 : Option Value) => An4 (m = 4 - i) (i ≤ 4) (vals' = [some (.int (tb 4 od (qf every (Sp 4 od c i) f) : Int) tz), some (.int c tc), some (.bool every), o1, o2, o3, o4]) (l' = (it, rangeItObj i (4 - i) 1) :: (rg, rangeObj 0 4 1 t1 _ t2) :: Rl)) ?_ 4 ⟨0, tt, none, none, none, none, rfl, by first | decide | lia | omega, by rw [sp_zero], rfl⟩
  rintro m _ _ ⟨i, tz, o1, o2, o3, o4, hm, hi, rfl, rfl⟩ again
  refine Mine.WC.letV ?_; intro vv
  by_cases hi4 : i = 4
  · subst hi4
    refine WC.for1 (WA.rangeEndM (M := []) hh (by first | decide | lia | omega) ?_)
    kst_p2; kt_k; kcf_m; kd_p; kj_on; kd_in; kcj_m
    refine ⟨Rl, List.sublist_cons_self _ _, ?_⟩
    rw [O.sp_full] at *
    exact q _
  have hlt : i < 4 := by first | decide | lia | omega
  refine WC.for1 (WA.rangeNextM (M := []) (by first | decide | lia | omega) fun ti => ?_)
  kst_p1; kt_chr; kt_eqs; kmb_kw; kd_p; kd_p1; kd_adr; kbe_in; kbe_in; kd_in; kbe_in; kst_p; kd_in
  refine WA.pow2 (by first | decide | lia | omega) (by first | decide | lia | omega) fun _ => ?_
  refine WA.fdivP (by have := Int.pow_pos (n := 2) (m := ((i : Int)).toNat) (by decide); omega) (pylong_pow _ _ (by first | decide | lia | omega)) fun _ => ?_
  kst_p
  refine WA.mod (by decide) fun _ => ?_
  kst_p; kpc_eq; ks_any
  rw [bit_int]
  have hnext : ∀ (x : Int), (i : Int) + 1 = ((i + 1 : Nat) : Int) := fun _ => by push_cast; rfl
  have hleft : (4 : Int) - i - 1 = 4 - ((i + 1 : Nat) : Int) := by push_cast; omega
  refine R.iteB (fun hb => ?_) fun hb => ?_
  · kd_p; kl_no; kfm_hd; kit_at
    refine Mine.L.funR (by nest_cls) (g_ones _) ?_; intro _
    kit_tp
    refine ones_c (M := []) (hr'.less (by first | decide | lia | omega)) fun xo s1 s2 s3 s4 => ?_
    kd_in
    obtain ⟨to, hto⟩ := ones_get (t1 := s1) (t2 := s2) (t3 := s3) (t4 := s4) hlt (show (i : Int) = (i : Int) from rfl)
    refine WA.lGet (vs := [_, _, _, _]) (.head _) (by first | decide | lia | omega) (by first | decide | lia | omega) hto ?_
    refine WA.sublist _ (List.sublist_cons_self _ _) ?_
    kmb_kw; kcf_m; kd_p; kl_no; kbe_in; kst_p; kbe_in; kst_p; kd_in
    refine WA.pow2 (by first | decide | lia | omega) (by first | decide | lia | omega) fun _ => ?_
    refine WA.pow2 (by have := Int.pow_pos (n := 2) (m := ((i : Int)).toNat) (by decide); omega) (by
      rw [Int.toNat_natCast, show (2 : Int) ^ i = ((2 ^ i : Nat) : Int) by push_cast; rfl]
      have : 2 ^ i ≤ 2 ^ 4 := Nat.pow_le_pow_right (by decide) hi
      omega) fun ts => ?_
    rw [pp_int]
    have hs1 : 2 ^ 2 ^ i ≤ 256 := Nat.le_trans (Nat.pow_le_pow_right (by decide) (Nat.pow_le_pow_right (by decide) (show i ≤ 3 by first | decide | lia | omega))) (by decide)
    have hs0 := Nat.two_pow_pos (2 ^ i)
    have T := turn_int O hlt (qf every (Sp 4 od c i) f)
    have hbd : (Builtin.bitAnd (tb 4 od (qf every (Sp 4 od c i) f)) (65535 - onesN 4 i)).natAbs < 2 ^ 64 := by
      rw [sub_int' (onesN_le hlt), band_nat]
      have h1 : (tb 4 od (qf every (Sp 4 od c i) f)) &&& (2 ^ 2 ^ 4 - 1 - onesN 4 i) ≤ 65535 := Nat.le_trans Nat.and_le_left (tb_le _ _)
      omega
    generalize 2 ^ 2 ^ i = step at *
    kmb_kw; kcf_m; kd_p; kl_no; kbe_in; kbe_in; kbe_in; kd_in; kd_in
    refine WA.band fun _ => ?_
    kd_in
    refine WA.fdivP (by first | decide | lia | omega) (PyProof.noPylong_small (by first | decide | lia | omega)) fun _ => ?_
    kbe_in; kbe_in; kd_in; kbe_in; kst_p; kd_in; kn_hit
    refine WA.band fun _ => ?_
    kd_in
    refine WA.mul (IntMulOk.of_left (intBits_le_64 (by first | decide | lia | omega) (by first | decide | lia | omega))) fun _ => ?_
    refine WA.add fun _ => ?_
    rw [T]
    cases every with
    | true =>
      kmb_kw; kcf_m; kd_p; kl_no; kcu_lt; kfm_eq; kd_in; ks_any; kwk_ne; kbe_in; kd_in; kd_in
      refine WA.band fun tn => ?_
      have hE : Builtin.bitAnd (tb 4 od (qf true (Sp 4 od c i) f)) (tb 4 od fun a => qf true (Sp 4 od c i) f (upd a (lev od i) !a (lev od i))) = (tb 4 od (qf true (Sp 4 od c (i + 1)) f) : Int) := by
        rw [O.sp_step hlt hb, tb_jn, band_nat]; rfl
      rw [hE]
      kmb_kw; kcf_m; kt_k; kcf_m; kt_k; ksp_lk
      exact again (4 - (i + 1)) _ _ (by first | decide | lia | omega) ⟨i + 1, tn, _, _, _, _, rfl, hlt, rfl, by rw [← hleft, ← hnext 0]; first | done | rfl⟩
    | false =>
      kmb_kw; kcf_m; kd_p; kl_no; kcu_lt; kfm_eq; kd_in; ks_any; kwk_eq; kbe_in; kd_in; kd_in
      refine WA.bor fun tn => ?_
      have hE : Builtin.bitOr (tb 4 od (qf false (Sp 4 od c i) f)) (tb 4 od fun a => qf false (Sp 4 od c i) f (upd a (lev od i) !a (lev od i))) = (tb 4 od (qf false (Sp 4 od c (i + 1)) f) : Int) := by
        rw [O.sp_step hlt hb, tb_jn, bor_nat]; rfl
      rw [hE]
      kmb_kw; kcf_m; kt_k; kcf_m; kt_k; ksp_lk
      exact again (4 - (i + 1)) _ _ (by first | decide | lia | omega) ⟨i + 1, tn, _, _, _, _, rfl, hlt, rfl, by rw [← hleft, ← hnext 0]; first | done | rfl⟩
  · kt_k; kcf_m; kt_k; ksp_lk
    refine again (4 - (i + 1)) _ _ (by first | decide | lia | omega) ⟨i + 1, tz, some (.int i ti), o2, o3, o4, rfl, hlt, ?_, by rw [← hleft, ← hnext 0]; first | done | rfl⟩
    rw [sp_skip (m := 4) (od := od) hb]
    first | done | rfl
end
end
section
open PySem PySem.W PyProof.Rows PySem.Calls
set_option maxRecDepth 100000
set_option maxHeartbeats 4000000
section
variable {K : Params → Frag} {N : Nm} {W : Wd} {Ψ : Frm K N W} {vals : Vals} {l : Led}
theorem WA.lSet {a : Addr} {vs : List Value} {n : Nat} {k : Int} {t : Tok} {v : Value} {pre post : Led} {Q : Unit → Vals → Led → Prop} (hl : l = pre ++ (a, listOf vs.toArray n) :: post) (h0 : 0 ≤ k) (hfit : k < 2 ^ 63) (hn : k < vs.length)
    (q : ∀ n', Q () vals (pre ++ (a, listOf (vs.set k.toNat v).toArray n') :: post)) : WA Ψ (setItem (.ref a) (.int k t) v) Q vals l := fun E s a' => by
  subst hl
  have ho := (a'.N _ (List.mem_append_right _ (.head _))).1
  have hT : s.TypeIs (.ref a) "list" := ⟨_, ho, rfl⟩
  unfold setItem
  try with_reducible refine wpAny_holding ?_
  first | refine wpAny_bind (wpAny_pure ?_) | skip
  refine wpAny_bind (wpAny_sequenceKey hT (by decide) ?_)
  refine wpAny_bind (wpAny_callSpecial?_slot (name := Str.ofString "__setitem__") hT slot_list_setitem
    (wpAny_call_entry slot_list_setitem hT entry_list_setitem ?_ (args_list_setitem _ _ _)))
  show wpAny _ _ (Builtin.List.listSubscript? (.int k t) >>= _) _ _ s
  refine wpAny_bind (wpAny_listSubscript_int (fitsIndex_of h0 hfit) ?_)
  clear hfit
  obtain ⟨j, rfl⟩ := Int.eq_ofNat_of_zero_le h0
  have hj : j < vs.toArray.size := by rw [List.size_toArray]; omega
  have hx' : vs.toArray[j]? = some vs.toArray[j] := Array.getElem?_eq_getElem hj
  show wpAny _ _ ((seqItemAt a j >>= fun r => Pure.pure (r.map (j, ·))) >>= _) _ _ s
  refine wpAny_bind (wpAny_bind (wpAny_seqItemAt ho rfl (wpAny_pure ?_)))
  rw [hx']
  show wpAny _ _ (setSeqItemAt a j v >>= _) _ _ s
  obtain ⟨n', hn'⟩ := mapSeq_list (·.setIfInBounds j v) vs.toArray n
  have hfin : (s.heap.update a (Obj.mapSeq (·.setIfInBounds j v))).get? a = some (listOf (vs.set j v).toArray n') := by
    have := Heap.get?_update_self (Obj.mapSeq (·.setIfInBounds j v)) ho (by rw [show (Obj.mapSeq (·.setIfInBounds j v) (listOf vs.toArray n)) = seqObj "list" _ n' from hn']; rfl)
    rw [this]
    show some (Obj.mapSeq (·.setIfInBounds j v) (seqObj "list" vs.toArray n)) = _
    rw [hn']
    simp [seqObj, PySem.W.listOf]
  have fin : Same s { s with heap := s.heap.update a (Obj.mapSeq (·.setIfInBounds j v)) } ∧ ∃ vals' l', At Ψ vals' l' { s with heap := s.heap.update a (Obj.mapSeq (·.setIfInBounds j v)) } ∧ Q () vals' l' :=
    ⟨⟨rfl, rfl⟩, vals, _, a'.upd (Heap.SameBut.update ..) hfin, by simpa using q n'⟩
  refine wpAny_bind (wpAny_setSeqItemAt ho rfl ?_)
  first
    | exact wpAny_bind (wpAny_pure (wpAny_pure ⟨.none, rfl, wpAny_pure fin⟩))
    | exact wpAny_pure ⟨.none, rfl, wpAny_pure fin⟩
theorem WA.trList {a : Addr} {vs : List Value} {n : Nat} {Q : Bool → Vals → Led → Prop} (hm : (a, listOf vs.toArray n) ∈ l) (hz : vs.length < 2 ^ 60) (q : Q (!vs.isEmpty) vals l) : WA Ψ (truthy (.ref a)) Q vals l := fun E s a' =>
  wpAny_truthy_list (lAt a' hm) (by rw [List.size_toArray]; omega) ⟨⟨rfl, rfl⟩, vals, l, ⟨a'.F, a'.N, a'.U, a'.G⟩, by simpa using q⟩
theorem WA.lMeth {a : Addr} {vs : List Value} {n : Nat} {name : Str} {id : String} {pl : Sem Bool} {Q : Value × List Value → Vals → Led → Prop} (hm : (a, listOf vs.toArray n) ∈ l) (slot : Slot "list" name id) (hty : typeOf (.builtin id) = Pure.pure (Value.type "method_descriptor")) (q : Q (.builtin id, [.ref a]) vals l) :
    WA Ψ (getMethod (.ref a) name pl) Q vals l := fun E s a' =>
  getMethod_builtin (T := "list") ⟨_, (a'.N _ hm).1, rfl⟩ PySem.F.plainAttrs_list slot hty (fun b e => by injection e with e; subst e; exact ⟨_, (a'.N _ hm).1, rfl⟩) ⟨Same.refl s, vals, l, a', q⟩
theorem WA.lAppend {a : Addr} {vs : List Value} {n : Nat} {x : Value} {pre post : Led} {Q : Value → Vals → Led → Prop} (hl : l = pre ++ (a, listOf vs.toArray n) :: post) (hz : vs.length ≤ 1000000) (q : Q .none vals (pre ++ (a, listOf (vs ++ [x]).toArray (n + 1)) :: post)) :
    WA Ψ (call (.builtin "list.append") [.ref a, x]) Q vals l := fun E s a' => by
  subst hl
  refine append_at (hsz := by rw [List.size_toArray, sizeLine_is]; omega) (a'.N _ (List.mem_append_right _ (.head _))).1 fun h' hs ho' => ⟨⟨rfl, rfl⟩, vals, _, a'.upd hs (ho'.trans ?_), q⟩
  simp [PySem.W.listOf]
theorem WA.lPopAt {a : Addr} {vs : List Value} {n k : Nat} {i : Int} {u : Tok} {y : Value} {pre post : Led} {Q : Value → Vals → Led → Prop} (hl : l = pre ++ (a, listOf vs.toArray n) :: post) (hi : i = (k : Int)) (hk : k < 1000000) (hy : vs[k]? = some y) (hz : vs.length ≤ 1000000)
    (q : ∀ n', Q y vals (pre ++ (a, listOf (vs.eraseIdx k).toArray n') :: post)) : WA Ψ (call (.builtin "list.pop") [.ref a, .int i u]) Q vals l := fun E s a' => by
  subst hl
  have ho := (a'.N _ (List.mem_append_right _ (.head _))).1
  have hkl : k < vs.length := (List.getElem?_eq_some_iff.mp hy).1
  obtain ⟨n', hn'⟩ := mapSeq_list (·.eraseIdxIfInBounds k) vs.toArray n
  have he : vs.toArray.eraseIdxIfInBounds k = (vs.eraseIdx k).toArray := by
    simp [Array.eraseIdxIfInBounds, hkl]
  have hfin : (s.heap.update a (Obj.mapSeq (·.eraseIdxIfInBounds k))).get? a = some (listOf (vs.eraseIdx k).toArray n') := by
    have := Heap.get?_update_self (Obj.mapSeq (·.eraseIdxIfInBounds k)) ho (by rw [show (Obj.mapSeq (·.eraseIdxIfInBounds k) (listOf vs.toArray n)) = seqObj "list" _ n' from hn']; rfl)
    rw [this]
    show some (Obj.mapSeq (·.eraseIdxIfInBounds k) (seqObj "list" vs.toArray n)) = _
    rw [hn', he]
  refine call_meets PySem.F.slot_list_pop ⟨_, ho, rfl⟩ PySem.F.entry_list_pop (PySem.F.args_list_pop_2 _ _) (PySem.MeetsSeq.list_pop_at a vs.toArray n i u k y ?_ ?_ (by simpa using hy) (by rw [List.size_toArray, sizeLine_is]; omega))
    ⟨ho, ⟨rfl, rfl⟩, vals, _, a'.upd (Heap.SameBut.update ..) hfin, q n'⟩
  · subst hi
    unfold Builtin.List.listFitsIndex
    simp only [Bool.and_eq_true, decide_eq_true_eq]
    first | omega | (constructor <;> omega)
  · subst hi
    rw [List.size_toArray]
    unfold seqIndex?
    simp only [show ¬ ((k : Int) < 0) by first | decide | lia | omega, if_false, Int.toNat_natCast]
    first | rfl | (rw [if_pos (by first | decide | lia | omega)]) | simp [hkl]
theorem hList {s : Shared} {a : Addr} {items : Array Value} (h : At Ψ vals l s) (hS : Ψ.h.IsList a items) : s.heap.IsList a items := let ⟨o, ho, r⟩ := hS; ⟨o, h.F.keep _ _ ho, r⟩
theorem WA.hLen {a : Addr} {vs : List Value} {Q : Value → Vals → Led → Prop} (hS : Ψ.h.IsList a vs.toArray) (hz : vs.length < 2 ^ 60) (q : ∀ t, Q (.int vs.length t) vals l) : WA Ψ (call (.builtin "len") [.ref a]) Q vals l :=
  WA.same q fun E P s a' h => call_len_list (hList a' hS) (by rw [List.size_toArray]; omega) (by rw [List.size_toArray]; exact h _ _)
theorem WA.hGet {a : Addr} {vs : List Value} {k : Int} {t : Tok} {v : Value} {value slice : Expr} {Q : Value → Vals → Led → Prop} (hS : Ψ.h.IsList a vs.toArray) (h0 : 0 ≤ k) (hfit : k < 2 ^ 63) (hx : vs[k.toNat]? = some v) (q : Q v vals l)
    (hs : subscripted slice false (.ref a) (.int k t) = PySem.operate [.ref a, .int k t] (getItem (.ref a) (.int k t)) := by with_unfolding_all rfl) : WA Ψ (subscriptTail value slice (.ref a) (.int k t)) Q vals l := fun E s a' =>
  tail_any (hList a' hS).typeIs slot_list_getitem.lookup (wpAny_getItem_list (hList a' hS) h0 hfit (by simpa using hx) ⟨Same.refl s, vals, l, a', q⟩) hs
theorem WA.hSum {a : Addr} {vs : List Value} {ns : List Int} {Q : Value → Vals → Led → Prop} (hh : Ψ.A.handled = none) (hS : Ψ.h.IsList a vs.toArray) (hi : IntsAre vs ns) (q : ∀ v t, Q (.int v t) vals l) : WA Ψ (call (.builtin "sum") [.ref a]) Q vals l := fun E s a' => by
  have hl := hList a' hS
  have hal : a < s.heap.objs.size := by obtain ⟨o, ho, _⟩ := hl; exact Heap.lt_size ho
  refine call_sum_walkG (wpAny_pyIter_list hl ⟨s.heap.objs.size, _, _, _, _, _, fun i => ns.getD i 0, rfl, Walks.list (A := Ψ.A.in1) hh _ a (Nat.ne_of_lt hal) vs.toArray, ⟨⟨_, Heap.get?_push_size _ rfl, rfl, rfl⟩, hl.push _⟩, fun b hb => ?_, fun i v hv => ?_, fun h' tk t' hk => ?_⟩)
  · show b < (s.heap.push _).objs.size
    rw [Heap.size_push]
    simp only [List.mem_cons, List.not_mem_nil, or_false] at hb
    rcases hb with rfl | rfl
    · exact Nat.lt_succ_self _
    · exact Nat.lt_succ_of_lt hal
  · have hv' : vs[i]? = some v := by simpa using hv
    have hi' : i < ns.length := by rw [← ints_len hi]; exact (List.getElem?_eq_some_iff.mp hv').1
    obtain ⟨t, ht⟩ := ints_get hi (List.getElem?_eq_getElem hi')
    rw [hv'] at ht
    cases ht
    exact ⟨t, by show Value.int ns[i] t = Value.int (ns.getD i 0) t; rw [List.getD_eq_getElem?_getD, List.getElem?_eq_getElem hi']; rfl⟩
  · exact ⟨⟨rfl, rfl⟩, vals, l, a'.grown fun d o e => hk d o (by simp only [List.mem_singleton]; exact Nat.ne_of_lt (Heap.lt_size e)) (Heap.get?_push_of_some _ e), q _ _⟩
noncomputable abbrev sliceObj (u : Value) : Obj := { cls := .type "slice", data := .fields #[.none, u, .none] }
theorem WA.evSlice {ue : Expr} {sp : Pos} {Q : Value → Vals → Led → Prop} (h : WA Ψ (eval ue Ψ.env) (fun uv vals l => ∀ x, Q (.ref x) vals ((x, sliceObj uv) :: l)) vals l) : WA Ψ (eval (.Slice none (some ue) none sp) Ψ.env) Q vals l := by
  rw [arm_eval_Slice]
  refine WA.bind ?_
  show WA Ψ (Pure.pure Value.none) _ _ _
  refine WA.pure (WA.bind (WA.holding ?_))
  show WA Ψ (eval ue Ψ.env) _ _ _
  refine h.mono fun uv _ _ h' => WA.bind (WA.holding ?_)
  show WA Ψ (Pure.pure Value.none) _ _ _
  refine WA.pure ?_
  intro E s a
  exact wpAny_newObj_type ⟨⟨rfl, rfl⟩, _, _, a.push, h' _⟩
theorem WA.hSlice {a x : Addr} {vs : List Value} {k : Int} {t : Tok} {value slice : Expr} {Q : Value → Vals → Led → Prop} (hS : Ψ.h.IsList a vs.toArray) (hz : vs.length ≤ 1000000) (hx : (x, sliceObj (.int k t)) ∈ l) (q : ∀ y, Q (.ref y) vals ((y, listOf (slicePick vs.toArray none (some k) none) 0) :: l))
    (hs : ∃ ops, subscripted slice false (.ref a) (.ref x) = PySem.operate ops (getItem (.ref a) (.ref x))) (ht : ∀ r, letTemporaryGo value (.ref a) r = Pure.pure ()) : WA Ψ (subscriptTail value slice (.ref a) (.ref x)) Q vals l := fun E s a' => by
  obtain ⟨ops, hs⟩ := hs
  exact subscriptTail_ops (hList a' hS).typeIs slot_list_getitem.lookup (wpAny_getItem_list_slice (hList a' hS) ⟨_, (a'.N _ hx).1, rfl, rfl⟩ .none (.int _ _) .none (by simp) ⟨⟨rfl, rfl⟩, vals, _, a'.push, q _⟩ (by rw [List.size_toArray, sizeLine_is]; omega)) hs ht
theorem WA.divmod {a b : Int} {t u : Tok} {M R : Led} {Q : Value → Vals → Led → Prop} (hb : b ≠ 0) (hp : b.natAbs < 1073741824) (q : ∀ x t1 t2, Q (.ref x) vals (M ++ (x, tupObj [.int (a.fdiv b) t1, .int (a.fmod b) t2]) :: R)) : WA Ψ (call (.builtin "divmod") [.int a t, .int b u]) Q vals (M ++ R) :=
  WA.permPost fun E s a' => divmod_int hb ⟨⟨rfl, rfl⟩, vals, _, a'.push, _, shiftPerm, q _ _ _⟩ (.inl (PyProof.noPylong_small hp))
theorem WA.cellSet {x : Str} {c : Addr} {oc : Obj} {v0 : Option Value} {v : Value} {pre post : Led} {Q : Unit → Vals → Led → Prop} (hk : Ψ.env.kindOf x = some .cell) (hc : Ψ.env.cells.lookup x = some c) (hl : l = pre ++ (c, oc) :: post) (hd : oc.data = .cell v0)
    (q : ∀ o' : Obj, o'.data = .cell (some v) → Q () vals (pre ++ (c, o') :: post)) : WA Ψ (PySem.bindName Ψ.env x v) Q vals l :=
  WA.bind (WA.holding (WA.point (WA.bind (fun E s a => by
    subst hl
    refine wpAny_storeName_cell Ψ.e.kind hk hc ⟨_, (a.N _ (List.mem_append_right _ (.head _))).1, hd⟩ fun h' hi hs => ?_
    obtain ⟨o', ho', hd'⟩ := hi
    exact ⟨⟨rfl, rfl⟩, vals, _, a.upd hs ho', WA.point (q o' hd')⟩))))
theorem WA.dict1 {k v : Int} {n1 n2 : Nat} {p1 p2 pos : Pos} {M R : Led} {Q : Value → Vals → Led → Prop} (q : ∀ d o t, o.IsDictOf (intKind W.prog W.w) [(k, .int v t)] → Q (.ref d) vals (M ++ (d, o) :: R)) :
    WA Ψ (eval (.Dict [some (.Constant (.int k) n1 p1)] [.Constant (.int v) n2 p2] pos) Ψ.env) Q vals (M ++ R) := by
  refine WA.permPost fun E s a => ?_
  refine wpAny_Dict_walk (knd := intKind W.prog W.w) rfl rfl (by simp) (Nat.le_of_ble_eq_true rfl) ?_
  refine evalPairs_cons ?_
  refine wpAny_mkInt ?_
  refine wpAny_bind (wpAny_mkInt (wpAny_bind (wpAny_standAt (wpAny_pure ?_))))
  refine evalPairs_nil ?_
  refine ⟨[(k, .int v _)], ⟨intKind_is _ _ _ _, rfl, trivial⟩, ?_, fun h' hd hs => ?_⟩
  · exact Heap.dictOf_iff.mpr ⟨_, Heap.get?_push_size _ rfl, isDict_nil⟩
  · obtain ⟨o', ho', hd'⟩ := Heap.dictOf_iff.mp hd
    refine ⟨⟨rfl, rfl⟩, vals, (s.heap.objs.size, o') :: (M ++ R), ?_, _, shiftPerm, q s.heap.objs.size o' _ hd'⟩
    have hp := fun tk => a.push (o := dictOf [] 0) (tk := tk)
    exact At.upd (pre := []) (post := M ++ R) (x := s.heap.objs.size) (o := dictOf [] 0) (hp _) hs ho'
theorem WA.lCat {a b : Addr} {vs us : List Value} {n m : Nat} {M R : Led} {Q : Value → Vals → Led → Prop} (ha : (a, listOf vs.toArray n) ∈ M ++ R) (hb : (b, listOf us.toArray m) ∈ M ++ R) (hz : vs.length + us.length ≤ 1000000) (q : ∀ x, Q (.ref x) vals (M ++ (x, listOf (vs ++ us).toArray 0) :: R)) :
    WA Ψ (binaryOp .Add (.ref a) (.ref b)) Q vals (M ++ R) := by
  refine WA.permPost fun E s a' => ?_
  have hoa := (a'.N _ ha).1
  have hob := (a'.N _ hb).1
  refine concat_meets (T := "list") (id := "list.__add__") ⟨_, hoa, rfl⟩ ⟨_, hob, rfl⟩ PySem.noFill_list_add PySem.seq_list_add PySem.F.slot_list_add PySem.F.entry_list_add (PySem.F.args_list_add_2 _ _) (PySem.AutoSeq1.list___add___list_list_0 a vs.toArray n b us.toArray m (by rw [List.size_toArray, List.size_toArray, sizeLine_is]; omega))
    ⟨hoa, hob, ⟨rfl, rfl⟩, vals, _, a'.push, _, shiftPerm, ?_⟩
  have := q s.heap.objs.size
  simpa [PySem.W.listOf] using this
noncomputable def LiO (o : Obj) (a : Addr) (i : Nat) : Prop := o.cls = .type "list_iterator" ∧ o.data = .fields #[.ref a, .int i 0]
theorem WA.lIter {a : Addr} {vs : List Value} {n : Nat} {M R : Led} {Q : Value → Vals → Led → Prop} (hm : (a, listOf vs.toArray n) ∈ M ++ R) (q : ∀ it o, LiO o a 0 → Q (.ref it) vals (M ++ (it, o) :: R)) : WA Ψ (pyIter (.ref a)) Q vals (M ++ R) :=
  WA.permPost fun E s a' => wpAny_pyIter_list (lAt a' hm) ⟨⟨rfl, rfl⟩, vals, _, a'.push, _, shiftPerm, q _ _ ⟨rfl, rfl⟩⟩
theorem WA.lNext {it a : Addr} {o : Obj} {i n : Nat} {vs : List Value} {x : Value} {pre post : Led} {Q : Option Value → Vals → Led → Prop} (hl : l = pre ++ (it, o) :: post) (hm : (a, listOf vs.toArray n) ∈ l) (hi : LiO o a i) (hx : vs[i]? = some x)
    (q : ∀ o', LiO o' a (i + 1) → Q (some x) vals (pre ++ (it, o') :: post)) : WA Ψ (pyNext (.ref it)) Q vals l := fun E s a' => by
  subst hl
  refine wpAny_pyNext_list_item ⟨_, (a'.N _ (List.mem_append_right _ (.head _))).1, hi.1, hi.2⟩ (lAt a' hm) (by simpa using hx) fun h' hit hs => ?_
  obtain ⟨o', ho', hc, hd⟩ := hit
  exact ⟨⟨rfl, rfl⟩, vals, _, a'.upd hs ho', q o' ⟨hc, hd⟩⟩
theorem WA.lEnd {it a : Addr} {o : Obj} {i n : Nat} {vs : List Value} {pre post : Led} {Q : Option Value → Vals → Led → Prop} (hh : Ψ.A.handled = none) (hl : l = pre ++ (it, o) :: post) (hm : (a, listOf vs.toArray n) ∈ l) (hi : LiO o a i) (hx : vs[i]? = none)
    (q : Q none vals (pre ++ post)) : WA Ψ (pyNext (.ref it)) Q vals l := fun E s a' => by
  subst hl
  have hmem : (it, o) ∈ pre ++ (it, o) :: post := List.mem_append_right _ (.head _)
  have hit := a'.N _ hmem
  have hU := a'.U
  rw [List.map_append, List.map_cons, List.nodup_append, List.nodup_cons] at hU
  have ne : ∀ y ∈ pre ++ post, y.1 ≠ it := by
    intro y hy e
    rcases List.mem_append.mp hy with h | h
    · exact hU.2.2 y.1 (List.mem_map_of_mem h) it (.head _) e
    · exact hU.2.1.1 (List.mem_map.mpr ⟨y, h, e⟩)
  have sub : (pre ++ post).Sublist (pre ++ (it, o) :: post) := List.Sublist.append (List.Sublist.refl _) (List.sublist_cons_self _ _)
  refine wpAny_pyNext_list_end hh ⟨_, hit.1, hi.1, hi.2⟩ (lAt a' hm) (by simpa using hx) fun h' hx => ⟨⟨rfl, rfl⟩, vals, _, ⟨⟨?_, fun b o e => ?_, a'.F.above⟩, fun y hy => ?_, List.Nodup.sublist (sub.map _) a'.U, fun y hy => a'.G y (sub.subset hy)⟩, q⟩
  · exact a'.F.ns.extBut hx (Ne.symm hit.2.1)
  · refine hx b o (fun e' => ?_) (a'.F.keep b o e)
    rw [e'] at e
    exact absurd (e.symm.trans hit.2.2) (by simp)
  · have n := a'.N y (sub.subset hy)
    exact ⟨hx _ _ (ne y hy) n.1, n.2⟩
end
end
section
open PySem PySem.W PyProof.Rows PySem.Calls
set_option maxRecDepth 100000
set_option maxHeartbeats 4000000
section
variable {K : Params → Frag} {N : Nm} {W : Wd} {Ψ : Frm K N W} {vals : Vals} {l : Led}
theorem WA.letT {elts : List Expr} {k i : Nat} {tpos : Pos} {it a t : Addr} {o : Obj} {Q : Unit → Vals → Led → Prop} (hm : (it, o) ∈ l) (hi : LiO o a i) (q : Q () vals l) : WA Ψ (letOwnedTupleGo (.Tuple elts k tpos) (.ref it) (.ref t)) Q vals l := fun E s a' =>
  wpAny_letOwnedTupleGo_listiter ⟨o, (a'.N _ hm).1, hi.1, hi.2⟩ ⟨Same.refl s, vals, l, a', q⟩
theorem WA.neB {c d : Bool} {Q : Value → Vals → Led → Prop} (q : Q (.bool (c != d)) vals l) : WA Ψ (compareOp .NotEq (.bool c) (.bool d)) Q vals l := fun _ s a => ne_bool ⟨Same.refl s, vals, l, a, q⟩
theorem WA.notB {c : Bool} {Q : Value → Vals → Led → Prop} (q : Q (.bool (!c)) vals l) : WA Ψ (unaryOp .Not (.bool c)) Q vals l := WA.bind (WA.mono (WA.trBool (Q := fun b vals' l' => b = c ∧ Q (.bool (!c)) vals' l') ⟨rfl, q⟩) fun b _ _ h => WA.pure (by rw [h.1]; exact h.2))
theorem WC.perm {c : Code} {Q : Flow → Vals → Led → Prop} (l' : Led) (h : l'.Perm l) (q : WC Ψ c Q vals l') : WC Ψ c Q vals l := fun R s a k => q R s (a.sub (fun _ hx => h.mem_iff.mp hx) ((h.map _).nodup_iff.mpr a.U)) k
theorem R.unpL {elts : List Expr} {k n : Nat} {tpos : Pos} {t : Addr} {vs : List Value} {Q : Unit → Vals → Led → Prop} (hh : Ψ.A.handled = none) (hm : (t, listOf vs.toArray n) ∈ l) (hn : (assignEach elts Ψ.env).length = vs.length) (hstar : (assignEach elts Ψ.env).findIdx? (·.1) = none)
    (h : WA Ψ (assignInOrder ((assignEach elts Ψ.env).map (·.2)) vs) Q vals l) : WA Ψ (assign (.Tuple elts k tpos) Ψ.env (.ref t)) Q vals l := fun E s a =>
  kun_list a.F a.N (lAt a hm) hh (by rw [List.size_toArray]; exact hn) hstar fun h' F' N' => h.use (s := { s with heap := h' }) ⟨F', N', a.U, a.G⟩ fun _ _ v' l' S a2 q => ⟨S, v', l', a2, q⟩
theorem WC.sublist {c : Code} {Q : Flow → Vals → Led → Prop} (l' : Led) (h : l'.Sublist l) (q : WC Ψ c Q vals l') : WC Ψ c Q vals l := fun R s a k => q R s (a.sub (fun _ hx => h.subset hx) (List.Nodup.sublist (h.map _) a.U)) k
theorem WA.rangeItSelf {it : Addr} {x left step : Int} {Q : Value → Vals → Led → Prop} (hm : (it, rangeItObj x left step) ∈ l) (q : Q (.ref it) vals l) : WA Ψ (pyIter (.ref it)) Q vals l := fun E s a =>
  wpAny_pyIter_rangeiter (a.N _ hm).1 ⟨Same.refl s, vals, l, a, q⟩
end
end
section
open PySem PySem.W PyProof.Rows PySem.Calls
set_option maxRecDepth 100000
set_option maxHeartbeats 4000000
theorem closure_one {scope : Scope} {env : Env} {x y : Str} {c : Addr} (hn : scope.names = [((".0" : Str), NameKind.local), (y, NameKind.local), (x, NameKind.free)]) (h : env.cells.lookup x = some c) : closureFor scope env = Pure.pure [(x, c)] := by
  have hc : cellOf env x = Pure.pure c := by unfold cellOf; rw [h]
  unfold closureFor
  rw [hn]
  simp only [List.forIn_cons, List.forIn_nil, hc]
  rfl
theorem comp_names {scope : Scope} {env : Env} {cl : List (Str × Addr)} {L : Addr} {x y : Str} (hn : scope.names = [((".0" : Str), NameKind.local), (y, NameKind.local), (x, NameKind.free)]) (hk : env.scope.kind = .function) (hx : env.kindOf x = some .cell) :
    (compEnvC scope cl L env).scope.names = [((".0" : Str), NameKind.local), (y, NameKind.local), (x, NameKind.cell)] := by
  unfold compEnvC relabel
  simp only [hn, List.map_cons, List.map_nil, hk, hx]
  rfl
theorem swaps_true {elt iter c : Expr} {x y z : Str} {px py pos spos : Pos} {scope : Scope} {env : Env} (hk : env.scope.kind = .function) (hy : env.kindOf y = some .local) (hp : (py.line == pos.line) = true)
    (hn : scope.names = [((".0" : Str), NameKind.local), (x, NameKind.local), (z, NameKind.free)]) (h1 : (((".0" : Str) == y) || (x == y)) = false) :
    swapsWith (.ListComp elt [⟨.Name x px, iter, [c], 0⟩] scope pos) (some (.Name y py)) spos.line env = Pure.pure true := by
  have hb : env.blockKind = .function := by unfold Env.blockKind; rw [hk]; rfl
  have hv : (scope.names.any fun (n, k) => n == y && (k == .local || k == .cell)) = false := by
    rw [hn]
    rw [Bool.or_eq_false_iff] at h1
    simp only [List.any_cons, List.any_nil, h1.1, h1.2]
    cases (z == y) <;> rfl
  unfold swapsWith
  show Pure.pure (env.blockKind == .function && env.kindOf y == some .local && py.line == pos.line && !(scope.names.any fun (n, k) => n == y && (k == .local || k == .cell))) = _
  rw [hb, hy, hp, hv]
  rfl
section
variable {K : Params → Frag} {N : Nm} {W : Wd} {Ψ : Frm K N W} {vals : Vals} {l : Led}
theorem WA.asComp {elt iter c : Expr} {x y : Str} {px py pos spos : Pos} {scope : Scope} {cl : List (Str × Addr)} {Q : Flow → Vals → Led → Prop}
    (hsw : swapsWith (.ListComp elt [⟨.Name x px, iter, [c], 0⟩] scope pos) (some (.Name y py)) spos.line Ψ.env = Pure.pure true)
    (hclos : closureFor scope Ψ.env = Pure.pure cl) (hkind : scope.kind = .function) (hcell : ∀ y ∈ scope.names, y.2 ≠ .cell)
    (hnames : ∀ y ∈ scope.names, y.2 = .local → scope.names.lookup y.1 = some .local) (sc : ScOk (relabel scope Ψ.env).names [x] [])
    (h : WA Ψ (eval iter Ψ.env) (fun xv vals l => WA Ψ (pyIter xv) (fun it vals l => WA Ψ (PySem.newList []) (fun acc vals l => ∀ Ψ' : Frm K ⟨[x], []⟩ W, Ψ'.env = compEnvC scope cl Ψ'.L Ψ.env → Ψ'.A = Ψ.A →
      (WC Ψ' (.compLoop (.ListComp elt [⟨.Name x px, iter, [c], 0⟩] scope pos) 0 it acc Ψ'.env) (fun _ _ l' => ∃ l'' i, l''.Sublist l' ∧ NmI N.loc y i ∧ vhas vals i = true ∧ Q .next (vset vals i acc) l'') [none] l ∧
       WA Ψ' (pyIter it) (fun it' vals' l' => it' = it ∧ vals' = [none] ∧ l' = l) [none] l)) vals l) vals l) vals l)
    (hs : ∀ x, foldedSetIterable iter Ψ.env x = Pure.pure x := by intro _; rfl) :
    WA Ψ (exec (.Assign [.Name y py] (.ListComp elt [⟨.Name x px, iter, [c], 0⟩] scope pos) spos) Ψ.env) Q vals l := by
  refine WA.subPost ?_
  intro E s a
  rw [exec_Assign_Name_used _ _ _ _ hsw]
  refine wpAny_bind (wpAny_standAt (wpAny_bind ?_))
  show wpAny _ Ψ.A (do let _ ← comprehension (.ListComp elt [⟨.Name x px, iter, [c], 0⟩] scope pos) scope Ψ.env _ (PySem.newList []) false (eval iter Ψ.env) (some (assign (.Name y py) Ψ.env))) _ _ s
  refine wpAny_bind (wpAny_mono (wpAny_comprehension_free (use := some (assign (.Name y py) Ψ.env)) (Q := fun _ s' => Same s s' ∧ ∃ vals' l', At Ψ vals' l' s' ∧ ∃ l'', l''.Sublist l' ∧ Q .next vals' l'') rfl hs hclos hkind hnames ?_) (fun _ s' hq => wpAny_pure (wpAny_pure hq)) fun _ _ e => e)
  refine h.use a fun xv s₁ v1 l1 S1 a1 h1 => h1.use a1 fun it s₂ v2 l2 S2 a2 h2 => h2.use a2 fun acc s₃ v3 l3 S3 a3 h3 => ?_
  refine wpAny_newFunctionEnv hcell (by intro y hy; simp at hy) (fun h₁ hns₁ hsb₁ => ?_) hkind
  try dsimp only at hns₁ hsb₁ ⊢
  have nm0 : ∀ b o, Ψ.h.get? b = some o → b ∉ l3.map (·.1) := fun b o e q => by
    obtain ⟨p, hp, rfl⟩ := List.mem_map.mp q
    rw [(a3.N p hp).2.2] at e; cases e
  have st : Ψ.h.StaysIn (hideAll s₃.heap (l3.map (·.1))) := fun b o e => hideAll_get _ (a3.F.keep b o e) (nm0 b o e)
  let Ψ' : Frm K ⟨[x], []⟩ W := ⟨hideAll s₃.heap (l3.map (·.1)), s₃.heap.objs.size, Ψ.X.keeps (fun b o e => st b o e), Ψ.T.keeps (fun b o e => st b o e), Ψ.A, compEnvC scope cl s₃.heap.objs.size Ψ.env, ⟨rfl, hkind, Ψ.e.glob, Ψ.e.bi⟩, sc⟩
  have hold : ∀ b o, s₃.heap.get? b = some o → h₁.get? b = some o := fun b o e => hsb₁.extBut b o (Nat.ne_of_lt (Heap.lt_size e)) (Heap.get?_push_of_some _ e)
  have hns : h₁.Ns Ψ'.L (fr [x] (List.replicate [x].length none)) := by
    have : fr [x] (List.replicate [x].length none) = fun y => ([] : List (Str × Value)).reverse.lookup y := funext fun y => fr_nones _ _ _
    rw [this]; exact hns₁
  have a' : At Ψ' [none] l3 { s₃ with heap := h₁, toks := s₃.toks + 0 } :=
    ⟨⟨hns, fun b o e => hold b o (of_hideAll _ e), Nat.le_of_eq (hideAll_size _ _)⟩,
      fun q hq => ⟨hold _ _ (a3.N q hq).1, Nat.ne_of_lt (Heap.lt_size (a3.N q hq).1), hideAll_none _ (List.mem_map_of_mem hq)⟩, a3.U, a3.G⟩
  obtain ⟨h4, h5⟩ := h3 Ψ' rfl rfl
  refine WC.startL h4 (h5.mono fun it' _ _ ⟨a, b, c⟩ => by subst a b c; exact h4) _ _ a' fun f s' v' l' S a'' ⟨l'', i, sl, ni, nh, q⟩ => ?_
  -- the store, in the outer frame
  have ab := At.back (Ψ' := Ψ') a3 rfl a'' (fun b o _ e => e) (Nat.le_refl _)
  have hi := ni.at
  have hl := vhas_lt nh
  have hLC : Ψ.L ≠ Ψ'.L := fun q => by
    obtain ⟨o, _, _, ho, _⟩ := a3.F.ns
    have := Heap.lt_size ho
    rw [q] at this
    exact absurd this (Nat.lt_irrefl _)
  show wpAny _ Ψ.A (assign (.Name y py) Ψ.env acc) _ _ _
  refine wpAny_assign_Name (wpAny_storeName_local (Ψ.sc.loc y (List.mem_of_getElem? hi)).1 (Ψ.e.loc ▸ ab.F.ns) (fun h₂ hn₂ hs₂ => ?_) (by rw [Ψ.e.kind]; rfl))
  rw [Ψ.e.loc] at hn₂ hs₂
  rw [fr_set Ψ.sc.nd hi hl, vset_is] at hn₂
  refine ⟨_, a''.F.ns.sameBut hs₂ (Ne.symm hLC), fun h₃ hs₃ => ?_⟩
  have al := ab.setLoc hn₂ hs₂ (tk := s'.toks)
  have hC : ∀ q ∈ l', q.1 ≠ Ψ'.L := fun q hq => (a''.N q hq).2.1
  have hBC : ∀ b o, Ψ.h.get? b = some o → b ≠ Ψ'.L := fun b o e q => by
    have := Heap.lt_size (a3.F.keep b o e)
    rw [q] at this
    exact absurd this (Nat.lt_irrefl _)
  refine ⟨((S1.trans S2).trans S3).trans ⟨S.1, S.2⟩, _, l', ⟨⟨hn₂.sameBut hs₃ hLC, fun b o e => (hs₃.2 b (hBC b o e)).trans (al.F.keep b o e), al.F.above⟩, fun q hq => ⟨(hs₃.2 _ (hC q hq)).trans (al.N q hq).1, (al.N q hq).2⟩, al.U, al.G⟩, l'', sl, q⟩
end
end
section
open PySem PySem.W PyProof.Rows PySem.Calls
set_option maxRecDepth 100000
set_option maxHeartbeats 8000000
section
variable {N : Nm} {W : Wd} {Ψ : Frm hd.heap_1_1 N W} {vals : Vals} {b : Mg} {σ : Sg} {Rl : Led} {sa : Addr}
noncomputable def fn555 : FnIn 555 := by
  refine' mkFn ?ok ?hb
  case ok => intro P; k_is
  case hb => exact rfl
@[reducible] noncomputable def NL : Nm := ⟨("script" : Str) :: ("every" : Str) :: ("tool" : Str) :: ("u" : Str) :: ("one" : Str) :: ("two" : Str) :: ("joined" : Str) :: ("f" : Str) :: ("held" : Str) :: ("kept" : Str) :: ("lid" : Str) :: ("whole" : Str) :: ("near" : Str) :: ("far" : Str) :: ("under" : Str) :: ("v" : Str) :: ("g" : Str) :: ("names" : Str) :: ("more" : Str) :: ("meet" : Str) :: ("known" : Str) :: ("left" : Str) :: ("right" : Str) :: ("table" : Str) :: ("wide" : Str) :: ("ways" : Str) :: ("both" : Str) :: ("join" : Str) :: ("same" : Str) :: ("seeds" : Str) :: ("place" : Str) :: ("total" : Str) :: ("kind" : Str) :: ("number" : Str) :: ("waiting" : Str) :: ("size" : Str) :: ("tables" : Str) :: ("upper" : Str) :: ("lower" : Str) :: ("thin" : Str) :: [], ("range" : Str) :: ("len" : Str) :: ("sum" : Str) :: ("BDD" : Str) :: ("divmod" : Str) :: ("_law_made" : Str) :: ("_law_over" : Str) :: ("_law_thrown" : Str) :: ("_law_met" : Str) :: ("_law_table" : Str) :: []⟩
theorem sc555 : ScOk fn555.fd.scope.names NL.loc NL.glo := by
  refine scOk_of ?_
  kernel_rfl!
theorem g_over (P : Params) : DefIs (hd.heap_1_1 P) "_law_over" 550 := ⟨.inl (by k_is), by k_is⟩
theorem g_thrown (P : Params) : DefIs (hd.heap_1_1 P) "_law_thrown" 536 := ⟨.inl (by k_is), by k_is⟩
theorem g_met (P : Params) : DefIs (hd.heap_1_1 P) "_law_met" 543 := ⟨.inl (by k_is), by k_is⟩
theorem g_BDD (P : Params) : DefIs (hd.heap_1_1 P) "BDD" 497 := ⟨.inl (by k_is), by k_is⟩
noncomputable def Ds (σ : Sg) (L : List (Int × BF)) : Prop := ∀ x ∈ L, Den σ x.1 x.2
theorem Ds.ext {σ σ' : Sg} {L : List (Int × BF)} (e : Ext σ σ') (h : Ds σ L) : Ds σ' L := fun x hx => (h x hx).ext e
theorem Ds.nil (σ : Sg) : Ds σ [] := fun x hx => by cases hx
theorem Ds.cons {σ : Sg} {L : List (Int × BF)} {u : Int} {f : BF} (d : Den σ u f) (h : Ds σ L) : Ds σ ((u, f) :: L) := fun x hx => by
  rcases List.mem_cons.mp hx with rfl | hx
  · exact d
  · exact h x hx
theorem Ds.tail {σ : Sg} {L : List (Int × BF)} {x : Int × BF} (h : Ds σ (x :: L)) : Ds σ L := fun y hy => h y (.tail _ hy)
theorem R.joinV {bb : Bool} {T1 T2 : Sem Value} {C : Value → Vals → Led → Prop} {l : Led} (P : Value → Vals → Led → Prop) (h1 : if bb = true then WA Ψ T1 P vals l else WA Ψ T2 P vals l) (h2 : ∀ v vals l, P v vals l → C v vals l) :
    if bb = true then WA Ψ T1 C vals l else WA Ψ T2 C vals l := by
  split at h1
  · rename_i hb; rw [if_pos hb]; exact h1.mono h2
  · rename_i hb; rw [if_neg hb]; exact h1.mono h2
noncomputable def impF (e : Bool) (x y : BF) : BF := fun a => if e then !y a || x a else !x a || y a
theorem impF_t {e : Bool} {x y : BF} (h : e = true) : impF e x y = fun a => !y a || x a := by subst h; rfl
theorem impF_f {e : Bool} {x y : BF} (h : e = false) : impF e x y = fun a => !x a || y a := by subst h; rfl
noncomputable def dirB (e : Bool) (x y : BF) : Bool := @decide (Dir e x y) (Classical.propDecidable _)
theorem dir_impF {e : Bool} {x y : BF} : Dir e x y ↔ impF e x y = fun _ => true := by
  cases e
  · exact imp_iff
  · exact imp_iff
theorem den_one {σ : Sg} (ok : Ok σ) {e : Bool} {x y : BF} {r : Int} (d : Den σ r (impF e x y)) : (r == 1) = dirB e x y := by
  rw [Bool.eq_iff_iff]
  unfold dirB
  rw [@decide_eq_true_eq _ (Classical.propDecidable _), dir_impF, beq_iff_eq]
  constructor
  · rintro rfl; exact d.one_inv
  · intro h; rw [h] at d; exact den_inj ok d .one
theorem dirB_of {e : Bool} {x y : BF} (h : Dir e x y) : dirB e x y = true := by unfold dirB; exact @decide_eq_true _ (Classical.propDecidable _) h
theorem dirB_lid {e : Bool} {S : Int → Bool} {f g : BF} (hg : Free S g) : dirB e (qf e S f) g = dirB e f g := by
  unfold dirB
  rw [Bool.eq_iff_iff, @decide_eq_true_eq _ (Classical.propDecidable _), @decide_eq_true_eq _ (Classical.propDecidable _)]
  exact dir_lid hg
theorem under_tb {od : List Int} (O : Od 4 od) (e : Bool) {x y : BF} (hx : Low 4 x) (hy : Low 4 y) :
    (if e then (Builtin.bitAnd (tb 4 od y) (65535 - tb 4 od x) == 0) else (Builtin.bitAnd (tb 4 od x) (65535 - tb 4 od y) == 0)) = dirB e x y := by
  have key : ∀ {x y : BF}, Low 4 x → Low 4 y → (Builtin.bitAnd (tb 4 od x) (65535 - tb 4 od y) == 0) = @decide (Imp x y) (Classical.propDecidable _) := by
    intro x y hx hy
    rw [sub_int' (tb_le _ _), band_nat, Bool.eq_iff_iff, @decide_eq_true_eq _ (Classical.propDecidable _), beq_iff_eq, O.imp_tb hx hy]
    omega
  cases e
  · exact key hx hy
  · exact key hy hx
theorem met_tb (od : List Int) (e : Bool) (f g : BF) : (if (!e) = true then Builtin.bitOr (tb 4 od f) (tb 4 od g) else Builtin.bitAnd (tb 4 od f) (tb 4 od g)) = (tb 4 od (jn e f g) : Int) := by
  rw [tb_jn]
  cases e
  · exact bor_nat _ _
  · exact band_nat _ _
theorem met_tb' (od : List Int) (e : Bool) (f g : BF) : (if e = true then Builtin.bitOr (tb 4 od f) (tb 4 od g) else Builtin.bitAnd (tb 4 od f) (tb 4 od g)) = (tb 4 od (jn (!e) f g) : Int) := by
  have := met_tb od (!e) f g
  rwa [Bool.not_not] at this
theorem join_c {ev : Bool} {u v : Int} {to tu tv : Tok} {fu fv : BF} {Q : Value → Vals → Led → Prop} (G : Good W sa b σ) (hr : Room Ψ.A 18) (cap : Cap σ 64) (du : Den σ u fu) (dv : Den σ v fv)
    (q : ∀ t' b' σ' r, Good W sa b' σ' → Gr σ σ' 64 → Den σ' r (jn ev fu fv) → Q (.int r t') vals (mgL b' ++ Rl)) :
    WA Ψ (call (.ref 464) [.ref sa, .str (if ev then "and" else "or") to, .int u tu, .int v tv]) Q vals (mgL b ++ Rl) := by
  cases ev
  · exact or_c G hr cap du dv q
  · exact and_c G hr cap du dv q
theorem meet_c {ev : Bool} {u v : Int} {to tu tv : Tok} {fu fv : BF} {Q : Value → Vals → Led → Prop} (G : Good W sa b σ) (hr : Room Ψ.A 18) (cap : Cap σ 64) (du : Den σ u fu) (dv : Den σ v fv)
    (q : ∀ t' b' σ' r, Good W sa b' σ' → Gr σ σ' 64 → Den σ' r (jn (!ev) fu fv) → Q (.int r t') vals (mgL b' ++ Rl)) :
    WA Ψ (call (.ref 464) [.ref sa, .str (if ev then "or" else "and") to, .int u tu, .int v tv]) Q vals (mgL b ++ Rl) := by
  cases ev
  · exact and_c G hr cap du dv q
  · exact or_c G hr cap du dv q
theorem Od.node_tb {od : List Int} (O : Od 4 od) (hod : σ.order = od) (F : Full σ) (ok : Ok σ) {x y : Int} {fx fy : BF} (dx : Den σ x fx) (dy : Den σ y fy) : (x == y) = ((tb 4 od fx : Int) == (tb 4 od fy : Int)) := by
  have lx : Low 4 fx := by have := dx.low ok; rw [show σ.nv = 4 from F.len] at this; exact this
  have ly : Low 4 fy := by have := dy.low ok; rw [show σ.nv = 4 from F.len] at this; exact this
  rw [Bool.eq_iff_iff, beq_iff_eq, beq_iff_eq]
  constructor
  · rintro rfl; rw [dx.fn dy]
  · intro h
    have h' : tb 4 od fx = tb 4 od fy := by first | decide | lia | omega
    rw [O.tb_inj lx ly h'] at dx
    exact den_inj ok dx dy
theorem over_d {u : Int} {tu : Tok} {nl : Addr} {vs : List Value} {n0 c : Nat} {od : List Int} {ev : Bool} {f : BF} {Q : Value → Vals → Led → Prop} (G : Good W sa b σ) (hr : Room Ψ.A 28) (cap : Cap σ 2048) (hf : Full σ) (hod : σ.order = od) (du : Den σ u f)
    (hm : (nl, listOf vs.toArray n0) ∈ Rl) (hi : IntsAre vs (nms 4 c))
    (q : ∀ t' b' σ' r, Good W sa b' σ' → Gr σ σ' 2048 → Den σ' r (qf ev (lsetO od (nms 4 c)) f) → Q (.int r t') vals (mgL b' ++ Rl)) :
    WA Ψ (call (.ref 550) [.ref sa, .bool ev, .ref nl, .int u tu]) Q vals (mgL b ++ Rl) := by
  subst hod
  refine over_c G hr cap hf du hm hi (fun x hx => ?_) ?_ q
  · obtain ⟨p, hp, _, rfl⟩ := mem_nms.mp hx
    simp only [U1, List.mem_cons, List.not_mem_nil, or_false]
    omega
  · unfold nms
    rw [List.length_map]
    exact Nat.le_trans (List.length_filter_le _ _) (by simp)
theorem Den.low4 {σ : Sg} (F : Full σ) (ok : Ok σ) {u : Int} {f : BF} (h : Den σ u f) : Low 4 f := by
  have := h.low ok
  rw [F.nv] at this
  exact this
end
end
section
open PySem PySem.W PyProof.Rows PySem.Calls
set_option maxRecDepth 100000
set_option maxHeartbeats 8000000
section
variable {N : Nm} {W : Wd} {Ψ : Frm hd.heap_1_1 N W} {vals : Vals} {b : Mg} {σ : Sg} {Rl : Led} {sa : Addr}
theorem segE {Ψ : Frm hd.heap_1_1 NL W} (hr : Room Ψ.A 30) {od : List Int} {ev : Bool} {S : Int → Bool} {fu fk : BF} {u one two jo : Int} {tu t1 t2 tj tf th tk : Tok} {o0 o10 o11 o12 o13 o14 : Option Value} {oT : Vals} {R0 : Led}
    (G : Good W sa b σ) (F : Full σ) (hod : σ.order = od) (cap : Cap σ 5000) (D : Ds σ [(u, fu), (one, qf ev S fu), (two, fk), (jo, jn ev (qf ev S fu) fk)]) (hk : Free S fk) (hR : ∀ x ∈ R0, x ∈ Rl) :
    WA Ψ (execs (fn555.body.drop 31) Ψ.env) (fun f _ l => f = .ret (.bool true) ∧ ∀ x ∈ R0, x ∈ l) (o0 :: some (.bool ev) :: some (.ref sa) :: some (.int u tu) :: some (.int one t1) :: some (.int two t2) :: some (.int jo tj) :: some (.int (tb 4 od fu : Int) tf) :: some (.int (tb 4 od (qf ev S fu) : Int) th) :: some (.int (tb 4 od fk : Int) tk) :: o10 :: o11 :: o12 :: o13 :: o14 :: oT) (mgL b ++ Rl) := by
  have O := F.od
  rw [hod] at O
  have at0 := G.at'
  have hs := G.hs
  have hh := hr.hh
  dsimp only [fn555, mkFn, List.drop]
  kd_p; kt_key
  refine Mine.L.list rfl ?_; intro _
  kit_nb; kim_at; kit_is; kit_is; kit_tp
  refine Mine.L.newTup (fits_of (n := 2) (by first | decide | lia | omega)) fun ta => ?_; intro _
  kit_nb; kim_at; kit_is; kit_nb; kit_at
  refine Mine.L.funR (by nest_cls) (g_met _) ?_; intro _
  kit_nb; kbt_ne; kd_in
  refine WA.notB ?_
  kit_is; kit_is; kit_tp
  refine met_c (hr.less (by first | decide | lia | omega)) fun tm => ?_
  rw [met_tb]
  kit_tp
  refine Mine.L.newTup (fits_of (n := 2) (by first | decide | lia | omega)) fun tc => ?_; intro _
  kit_tp
  refine Mine.L.newList (fits_of (n := 2) (by first | decide | lia | omega)) fun li => ?_; intro _
  refine WA.lIter (vs := [.ref ta, .ref tc]) (List.mem_append_right _ (.head _)) fun it o hio => ?_
  obtain ⟨RR, hRR⟩ : ∃ RR : Led, RR = (li, listOf [.ref ta, .ref tc].toArray 0) :: (tc, tupObj [.int jo tj, .int (tb 4 od (jn ev (qf ev S fu) fk) : Int) tm]) :: (ta, tupObj [.int two t2, .int (tb 4 od fk : Int) tk]) :: Rl := ⟨_, rfl⟩
  have hRR0 : ∀ x ∈ R0, x ∈ RR := fun x hx => by rw [hRR]; exact .tail _ (.tail _ (.tail _ (hR x hx)))
  have hli : (li, listOf [.ref ta, .ref tc].toArray 0) ∈ RR := by rw [hRR]; exact .head _
  have hfree : Free S (jn ev (qf ev S fu) fk) := fun a a' h => by
    unfold jn
    rw [qf_isfree ev S fu a a' h, hk a a' h]
  have item : ∀ i, i < 2 → ∃ ti lid fl tl tw, [Value.ref ta, .ref tc][i]? = some (.ref ti) ∧ (ti, tupObj [.int lid tl, .int (tb 4 od fl : Int) tw]) ∈ RR ∧ (lid, fl) ∈ [(u, fu), (one, qf ev S fu), (two, fk), (jo, jn ev (qf ev S fu) fk)] ∧ Free S fl := fun i hi => by
    match i, hi with
    | 0, _ => exact ⟨ta, two, fk, t2, tk, rfl, by rw [hRR]; simp, by simp, hk⟩
    | 1, _ => exact ⟨tc, jo, _, tj, tm, rfl, by rw [hRR]; simp, by simp, hfree⟩
  refine WC.inv (fun m vals' l' => Ex9 fun (i : Nat) (b : Mg) (σ : Sg) (o : Obj) (x_lid x_whole x_near x_far x_under : Option Value) => An10 (m = 2 - i) (i ≤ 2) (Good W sa b σ) (Full σ) (σ.order = od) (Cap σ (5000 - 200 * i)) (Ds σ [(u, fu), (one, qf ev S fu), (two, fk), (jo, jn ev (qf ev S fu) fk)]) (LiO o li i) (vals' = (o0 :: some (.bool ev) :: some (.ref sa) :: some (.int u tu) :: some (.int one t1) :: some (.int two t2) :: some (.int jo tj) :: some (.int (tb 4 od fu : Int) tf) :: some (.int (tb 4 od (qf ev S fu) : Int) th) :: some (.int (tb 4 od fk : Int) tk) :: x_lid :: x_whole :: x_near :: x_far :: x_under :: oT)) (l' = mgL b ++ (it, o) :: RR)) ?_ 2 ⟨0, b, σ, o, _, _, _, _, _, rfl, by first | decide | lia | omega, G, F, hod, cap, D, hio, rfl, by rw [hRR]⟩
  clear at0 hs G F hod cap D hio
  rintro m _ _ ⟨i, b, σ, o, x_lid, x_whole, x_near, x_far, x_under, hm, hi, G, F, hod, cap, D, hio, rfl, rfl⟩ again
  refine Mine.WC.letV ?_; intro vv
  have at0 := G.at'
  have hs := G.hs
  have ok := G.ok
  by_cases hi2 : i = 2
  · subst hi2
    refine WC.for1 (WA.lEnd (vs := [.ref ta, .ref tc]) hh rfl (List.mem_append_right _ (.tail _ hli)) hio rfl ?_)
    kst_p2; kt_k; kcf_m; kd_p; kj_on; kw_lk; kcj_m
    exact ⟨rfl, fun x hx => List.mem_append_right _ (hRR0 x hx)⟩
  obtain ⟨ti, lid, fl, tl, tw, hit, htm, hmem, hfl⟩ := item i (by first | decide | lia | omega)
  have dl := D _ hmem
  have du := D _ (.head _)
  have d1 := D _ (.tail _ (.head _))
  dsimp only at dl du d1
  refine WC.for1 (WA.lNext (vs := [.ref ta, .ref tc]) rfl (List.mem_append_right _ (.tail _ hli)) hio hit fun o' hio' => ?_)
  refine R.turnS (WA.letT (List.mem_append_right _ (.head _)) hio' ?_)
  refine R.unp (items := [.int lid tl, .int (tb 4 od fl : Int) tw].toArray) hh (List.mem_append_right _ (.tail _ htm)) rfl rfl ?_
  kts_nm; kmb_kw; kts_nm; kmb_kw; ktyn_q; kd_p; kl_no; kcu_lt; kfm_eq; kd_in; ks_any
  refine R.joinV (fun v vals' l' => Ex4 fun b' σ' r t => An6 (Good W sa b' σ') (Gr σ σ' 64) (Den σ' r (impF ev fu fl)) (v = .int r t) (vals' = (o0 :: some (.bool ev) :: some (.ref sa) :: some (.int u tu) :: some (.int one t1) :: some (.int two t2) :: some (.int jo tj) :: some (.int (tb 4 od fu : Int) tf) :: some (.int (tb 4 od (qf ev S fu) : Int) th) :: some (.int (tb 4 od fk : Int) tk) :: some (.int lid tl) :: some (.int (tb 4 od fl : Int) tw) :: x_near :: x_far :: x_under :: oT)) (l' = mgL b' ++ (it, o') :: RR)) (R.iteB (fun h => ?_) fun h => ?_) ?_
  · kin_no; kd_in; ksp_in; kit_nb; kba_in; kit_is; kit_is; kit_tp
    refine imp_c G (hr.less (by first | decide | lia | omega)) (cap.less (by first | decide | lia | omega)) dl du fun t' b' σ' r G' g' d' => ?_
    exact ⟨b', σ', r, t', G', g', by rw [impF_t h]; exact d', rfl, rfl, rfl⟩
  · kin_no; kd_in; ksp_in; kit_nb; kba_in; kit_is; kit_is; kit_tp
    refine imp_c G (hr.less (by first | decide | lia | omega)) (cap.less (by first | decide | lia | omega)) du dl fun t' b' σ' r G' g' d' => ?_
    exact ⟨b', σ', r, t', G', g', by rw [impF_f h]; exact d', rfl, rfl, rfl⟩
  rintro _ _ _ ⟨b1, σ1, r1, s1, G1, g1, e1, rfl, rfl, rfl⟩
  have at1 := G1.at'
  have hs1 := G1.hs
  kmb_kw; kcf_m; kd_p; kl_no; kcu_lt; kfm_eq; kd_in; ks_any
  refine R.joinV (fun v vals' l' => Ex4 fun b' σ' r t => An6 (Good W sa b' σ') (Gr σ1 σ' 64) (Den σ' r (impF ev (qf ev S fu) fl)) (v = .int r t) (vals' = (o0 :: some (.bool ev) :: some (.ref sa) :: some (.int u tu) :: some (.int one t1) :: some (.int two t2) :: some (.int jo tj) :: some (.int (tb 4 od fu : Int) tf) :: some (.int (tb 4 od (qf ev S fu) : Int) th) :: some (.int (tb 4 od fk : Int) tk) :: some (.int lid tl) :: some (.int (tb 4 od fl : Int) tw) :: some (.int r1 s1) :: x_far :: x_under :: oT)) (l' = mgL b' ++ (it, o') :: RR)) (R.iteB (fun h => ?_) fun h => ?_) ?_
  · kin_no; kd_in; ksp_in; kit_nb; kba_in; kit_is; kit_is; kit_tp
    refine imp_c G1 (hr.less (by first | decide | lia | omega)) (Cap.after (c := 64) (cap.less (by first | decide | lia | omega)) g1) (dl.ext g1.e) (d1.ext g1.e) fun t' b' σ' r G' g' d' => ?_
    exact ⟨b', σ', r, t', G', g', by rw [impF_t h]; exact d', rfl, rfl, rfl⟩
  · kin_no; kd_in; ksp_in; kit_nb; kba_in; kit_is; kit_is; kit_tp
    refine imp_c G1 (hr.less (by first | decide | lia | omega)) (Cap.after (c := 64) (cap.less (by first | decide | lia | omega)) g1) (d1.ext g1.e) (dl.ext g1.e) fun t' b' σ' r G' g' d' => ?_
    exact ⟨b', σ', r, t', G', g', by rw [impF_f h]; exact d', rfl, rfl, rfl⟩
  rintro _ _ _ ⟨b2, σ2, r2, s2, G2, g2, e2, rfl, rfl, rfl⟩
  have at2 := G2.at'
  have hs2 := G2.hs
  have g12 := g1.trans g2
  have U := under_tb O ev (du.low4 F ok) (dl.low4 F ok)
  kmb_kw; kcf_m; kd_p; kl_no; kcu_lt; kfm_eq; kd_in; ks_any
  refine R.joinV (fun v vals' l' => An3 (v = .bool (dirB ev fu fl)) (vals' = (o0 :: some (.bool ev) :: some (.ref sa) :: some (.int u tu) :: some (.int one t1) :: some (.int two t2) :: some (.int jo tj) :: some (.int (tb 4 od fu : Int) tf) :: some (.int (tb 4 od (qf ev S fu) : Int) th) :: some (.int (tb 4 od fk : Int) tk) :: some (.int lid tl) :: some (.int (tb 4 od fl : Int) tw) :: some (.int r1 s1) :: some (.int r2 s2) :: x_under :: oT)) (l' = mgL b2 ++ (it, o') :: RR)) (R.iteB (fun h => ?_) fun h => ?_) ?_
  · kcj_in; kbe_in; kd_in; kbe_in; kst_p; kd_in; kn_hit
    refine WA.band fun _ => ?_
    kst_p; kpc_eq
    rw [if_pos h] at U
    exact ⟨by rw [U], rfl, rfl⟩
  · kcj_in; kbe_in; kd_in; kbe_in; kst_p; kd_in; kn_hit
    refine WA.band fun _ => ?_
    kst_p; kpc_eq
    rw [if_neg (by rw [h]; decide)] at U
    exact ⟨by rw [U], rfl, rfl⟩
  rintro _ _ _ ⟨rfl, rfl, rfl⟩
  have n1 := den_one G1.ok e1
  have n2 := den_one G2.ok e2
  rw [dirB_lid hfl] at n2
  kmb_kw; kcf_m; kd_p; kd_p1; kd_idx; kd_rfl; kd_adr; kcj_in; kd_in; kst_p; kpc_eq; kd_in
  refine WA.neB ?_
  rw [n1, bne_self_eq_false]
  ks_any; kwk_eq; kd_rfl; kd_adr; kcj_in; kd_in; kst_p; kpc_eq; kd_in
  refine WA.neB ?_
  rw [n2, bne_self_eq_false]
  ks_any; kwk_eq; kf_int; kwk_eq; kt_k; kcf_m; kt_k; ksp_lk
  exact again (2 - (i + 1)) _ _ (by first | decide | lia | omega) ⟨i + 1, b2, σ2, o', _, _, _, _, _, rfl, by first | decide | lia | omega, G2, F.ext g12.e, by rw [g12.e.ord]; exact hod, (Cap.after (c := 64 + 64) (cap.less (by first | decide | lia | omega)) g12), D.ext g12.e, hio', rfl, rfl⟩
end
end
section
open PySem PySem.W PyProof.Rows PySem.Calls
set_option maxRecDepth 100000
set_option maxHeartbeats 8000000
section
variable {N : Nm} {W : Wd} {Ψ : Frm hd.heap_1_1 N W} {vals : Vals} {b : Mg} {σ : Sg} {Rl : Led} {sa : Addr}
theorem segD {Ψ : Frm hd.heap_1_1 NL W} (hr : Room Ψ.A 30) {od : List Int} {ev : Bool} {c d n0 n1 : Nat} {fu fv : BF} {u v one two jo : Int} {tu tv t1 t2 tj tf tg th tk tme tc td : Tok} {nl ml ka c1 c2 : Addr} {oc1 oc2 ko : Obj} {vn vm : List Value} {kvs : List (Int × Value)} {o0 o10 o11 o12 o13 o14 o21 o22 o23 o24 o25 : Option Value} {oT : Vals} {R0 : Led}
    (hck1 : Ψ.env.kindOf "chosen" = some .cell) (hlk1 : Ψ.env.cells.lookup ("chosen" : Str) = some c1) (hck2 : Ψ.env.kindOf "other" = some .cell) (hlk2 : Ψ.env.cells.lookup ("other" : Str) = some c2)
    (hc1 : (c1, oc1) ∈ Rl) (hc2 : (c2, oc2) ∈ Rl) (hd1 : oc1.data = .cell (some (.int c tc))) (hd2 : oc2.data = .cell (some (.int d td)))
    (hnl : (nl, listOf vn.toArray n0) ∈ Rl) (hni : IntsAre vn (nms 4 c)) (hml : (ml, listOf vm.toArray n1) ∈ Rl) (hmi : IntsAre vm (nms 4 d))
    (hko : ko.IsDictOf (intKind W.prog W.w) kvs) (hkn : Kn σ kvs) (hkl : kvs.length ≤ 1000)
    (G : Good W sa b σ) (F : Full σ) (hod : σ.order = od) (cap : Cap σ 20000) (D : Ds σ [(u, fu), (v, fv), (one, qf ev (lsetO od (nms 4 c)) fu), (two, qf ev (lsetO od (nms 4 c)) fv), (jo, jn ev (qf ev (lsetO od (nms 4 c)) fu) (qf ev (lsetO od (nms 4 c)) fv))]) (hR : ∀ x ∈ R0, x ∈ Rl) :
    WA Ψ (execs (fn555.body.drop 29) Ψ.env) (fun f _ l => f = .ret (.bool true) ∧ ∀ x ∈ R0, x ∈ l) (o0 :: some (.bool ev) :: some (.ref sa) :: some (.int u tu) :: some (.int one t1) :: some (.int two t2) :: some (.int jo tj) :: some (.int (tb 4 od fu : Int) tf) :: some (.int (tb 4 od (qf ev (lsetO od (nms 4 c)) fu) : Int) th) :: some (.int (tb 4 od (qf ev (lsetO od (nms 4 c)) fv) : Int) tk) :: o10 :: o11 :: o12 :: o13 :: o14 :: some (.int v tv) :: some (.int (tb 4 od fv : Int) tg) :: some (.ref nl) :: some (.ref ml) :: some (.str (if ev then "or" else "and") tme) :: some (.ref ka) :: o21 :: o22 :: o23 :: o24 :: o25 :: oT) (mgL b ++ (ka, ko) :: Rl) := by
  have O := F.od
  rw [hod] at O
  have at0 := G.at'
  have hs := G.hs
  have hh := hr.hh
  have k0 : (c1, oc1) ∈ (ka, ko) :: Rl := .tail _ hc1
  have k1 : (c2, oc2) ∈ (ka, ko) :: Rl := .tail _ hc2
  have k2 : (nl, listOf vn.toArray n0) ∈ (ka, ko) :: Rl := .tail _ hnl
  have k3 : (ml, listOf vm.toArray n1) ∈ (ka, ko) :: Rl := .tail _ hml
  have du := D _ (.head _)
  have dv := D _ (.tail _ (.head _))
  have d1 := D _ (.tail _ (.tail _ (.head _)))
  have d2 := D _ (.tail _ (.tail _ (.tail _ (.head _))))
  dsimp only at du dv d1 d2
  dsimp only [fn555, mkFn, List.drop]
  kd_p; kl_no
  refine Mine.L.list rfl ?_; intro _
  kit_nb; kim_at; kit_nb; kit_at
  -- first
  refine Mine.L.funR (by nest_cls) (g_over _) ?_; intro _
  kit_is; kit_is; kit_is; kit_nb; kin_no; kd_in; ksp_in; kit_is; kit_is; kit_is; kit_tp
  refine meet_c G (hr.less (by first | decide | lia | omega)) (cap.less (by first | decide | lia | omega)) du dv fun s1 b1 σ1 r1 G1 g1 e1 => ?_
  have at1 := G1.at'
  have hs1 := G1.hs
  kit_tp
  refine over_d (od := od) G1 (hr.less (by first | decide | lia | omega)) (Cap.after (c := 64) (cap.less (by first | decide | lia | omega)) g1) (F.ext g1.e) (by rw [g1.e.ord]; exact hod) e1 k2 hni fun s2 b2 σ2 r2 G2 g2 e2 => ?_
  have at2 := G2.at'
  have hs2 := G2.hs
  have g02 := g1.trans g2
  kit_nb; kin_no; kd_in; ksp_in; kit_is; kit_is; kit_is; kit_tp
  refine meet_c G2 (hr.less (by first | decide | lia | omega)) (Cap.after (c := 64 + 2048) (cap.less (by first | decide | lia | omega)) g02) (d1.ext g02.e) (d2.ext g02.e) fun s3 b3 σ3 r3 G3 g3 e3 => ?_
  have at3 := G3.at'
  have hs3 := G3.hs
  have g03 := g02.trans g3
  kit_nb; kit_at
  refine Mine.L.funR (by nest_cls) (g_thrown _) ?_; intro _
  kit_nb; kit_at
  refine Mine.L.funR (by nest_cls) (g_met _) ?_; intro _
  kit_is; kit_is; kit_is; kit_tp
  refine met_c (hr.less (by first | decide | lia | omega)) fun s4 => ?_
  rw [met_tb']
  kit_nb
  refine WA.cellN Ψ.e.kind hck1 hlk1 (List.mem_append_right _ k0) hd1 (by decide) ?_
  kit_is; kit_tp
  refine thrown_c O (hr.less (by first | decide | lia | omega)) fun s5 => ?_
  kit_nb; kit_at
  refine Mine.L.funR (by nest_cls) (g_met _) ?_; intro _
  kit_is; kit_is; kit_is; kit_tp
  refine met_c (hr.less (by first | decide | lia | omega)) fun s6 => ?_
  rw [met_tb']
  kit_tp
  refine Mine.L.newTup (fits_of (n := 4) (by first | decide | lia | omega)) fun ta => ?_; intro _
  kit_nb; kim_at; kit_nb; kit_at
  -- second
  refine Mine.L.funR (by nest_cls) (g_over _) ?_; intro _
  kit_is; kit_is; kit_is; kit_nb; kit_at
  refine Mine.L.funR (by nest_cls) (g_over _) ?_; intro _
  kit_is; kit_nb; kbt_ne; kd_in
  refine WA.notB ?_
  kit_is; kit_is; kit_tp
  refine over_d (od := od) G3 (hr.less (by first | decide | lia | omega)) (Cap.after (c := 64 + 2048 + 64) (cap.less (by first | decide | lia | omega)) g03) (F.ext g03.e) (by rw [g03.e.ord]; exact hod) (du.ext g03.e) (.tail _ k3) hmi fun s7 b7 σ7 r7 G7 g7 e7 => ?_
  have at7 := G7.at'
  have hs7 := G7.hs
  have g07 := g03.trans g7
  kit_tp
  refine over_d (od := od) G7 (hr.less (by first | decide | lia | omega)) (Cap.after (c := 64 + 2048 + 64 + 2048) (cap.less (by first | decide | lia | omega)) g07) (F.ext g07.e) (by rw [g07.e.ord]; exact hod) e7 (.tail _ k2) hni fun s8 b8 σ8 r8 G8 g8 e8 => ?_
  have at8 := G8.at'
  have hs8 := G8.hs
  have g08 := g07.trans g8
  kit_nb; kit_at
  refine Mine.L.funR (by nest_cls) (g_over _) ?_; intro _
  kit_is; kit_nb; kbt_ne; kd_in
  refine WA.notB ?_
  kit_is; kit_is; kit_tp
  refine over_d (od := od) G8 (hr.less (by first | decide | lia | omega)) (Cap.after (c := 64 + 2048 + 64 + 2048 + 2048) (cap.less (by first | decide | lia | omega)) g08) (F.ext g08.e) (by rw [g08.e.ord]; exact hod) (d1.ext g08.e) (.tail _ k3) hmi fun s9 b9 σ9 r9 G9 g9 e9 => ?_
  have at9 := G9.at'
  have hs9 := G9.hs
  have g09 := g08.trans g9
  kit_nb; kit_at
  refine Mine.L.funR (by nest_cls) (g_thrown _) ?_; intro _
  kit_nb; kit_at
  refine Mine.L.funR (by nest_cls) (g_thrown _) ?_; intro _
  kit_is; kit_nb
  refine WA.cellN Ψ.e.kind hck2 hlk2 (List.mem_append_right _ (.tail _ k1)) hd2 (by decide) ?_
  kit_nb; kbt_ne; kd_in
  refine WA.notB ?_
  kit_tp
  refine thrown_c O (hr.less (by first | decide | lia | omega)) fun s10 => ?_
  kit_nb
  refine WA.cellN Ψ.e.kind hck1 hlk1 (List.mem_append_right _ (.tail _ k0)) hd1 (by decide) ?_
  kit_is; kit_tp
  refine thrown_c O (hr.less (by first | decide | lia | omega)) fun s11 => ?_
  kit_nb; kit_at
  refine Mine.L.funR (by nest_cls) (g_thrown _) ?_; intro _
  kit_is; kit_nb
  refine WA.cellN Ψ.e.kind hck2 hlk2 (List.mem_append_right _ (.tail _ k1)) hd2 (by decide) ?_
  kit_nb; kbt_ne; kd_in
  refine WA.notB ?_
  kit_tp
  refine thrown_c O (hr.less (by first | decide | lia | omega)) fun s12 => ?_
  kit_tp
  refine Mine.L.newTup (fits_of (n := 4) (by first | decide | lia | omega)) fun tc' => ?_; intro _
  kit_nb; kim_at; kit_is; kit_is; kit_is; kit_is; kit_tp
  refine Mine.L.newTup (fits_of (n := 4) (by first | decide | lia | omega)) fun te => ?_; intro _
  kit_tp
  refine Mine.L.newList (fits_of (n := 3) (by first | decide | lia | omega)) fun li => ?_; intro _
  kmb_kw; kcf_m; kd_p; kt_key; kd_in
  refine WA.lIter (vs := [.ref ta, .ref tc', .ref te]) (List.mem_append_right _ (.head _)) fun it o hio => ?_
  obtain ⟨RR, hRR⟩ : ∃ RR : Led, RR = (li, listOf [.ref ta, .ref tc', .ref te].toArray 0) :: (te, tupObj [.int u tu, .int one t1, .int (tb 4 od fu : Int) tf, .int (tb 4 od (qf ev (lsetO od (nms 4 c)) fu) : Int) th]) ::
    (tc', tupObj [.int r8 s8, .int r9 s9, .int (tb 4 od (qf ev (lsetO od (nms 4 c)) (qf (!ev) (lsetO od (nms 4 d)) fu)) : Int) s11, .int (tb 4 od (qf (!ev) (lsetO od (nms 4 d)) (qf ev (lsetO od (nms 4 c)) fu)) : Int) s12]) ::
    (ta, tupObj [.int r2 s2, .int r3 s3, .int (tb 4 od (qf ev (lsetO od (nms 4 c)) (jn (!ev) fu fv)) : Int) s5, .int (tb 4 od (jn (!ev) (qf ev (lsetO od (nms 4 c)) fu) (qf ev (lsetO od (nms 4 c)) fv)) : Int) s6]) :: Rl := ⟨_, rfl⟩
  have hRR0 : ∀ x ∈ Rl, x ∈ RR := fun x hx => by rw [hRR]; exact .tail _ (.tail _ (.tail _ (.tail _ hx)))
  have hli : (li, listOf [.ref ta, .ref tc', .ref te].toArray 0) ∈ RR := by rw [hRR]; exact .head _
  obtain ⟨L9, hL9⟩ : ∃ L9 : List (Int × BF), L9 = (r9, qf (!ev) (lsetO od (nms 4 d)) (qf ev (lsetO od (nms 4 c)) fu)) :: (r8, qf ev (lsetO od (nms 4 c)) (qf (!ev) (lsetO od (nms 4 d)) fu)) :: (r3, jn (!ev) (qf ev (lsetO od (nms 4 c)) fu) (qf ev (lsetO od (nms 4 c)) fv)) :: (r2, qf ev (lsetO od (nms 4 c)) (jn (!ev) fu fv)) :: [(u, fu), (v, fv), (one, qf ev (lsetO od (nms 4 c)) fu), (two, qf ev (lsetO od (nms 4 c)) fv), (jo, jn ev (qf ev (lsetO od (nms 4 c)) fu) (qf ev (lsetO od (nms 4 c)) fv))] := ⟨_, rfl⟩
  have D9 : Ds σ9 L9 := by
    rw [hL9]
    have g39 := (g7.trans g8).trans g9
    have g29 := g3.trans g39
    exact .cons e9 (.cons (e8.ext g9.e) (.cons (e3.ext g39.e) (.cons (e2.ext g29.e) (D.ext g09.e))))
  have hL0 : ∀ x ∈ [(u, fu), (v, fv), (one, qf ev (lsetO od (nms 4 c)) fu), (two, qf ev (lsetO od (nms 4 c)) fv), (jo, jn ev (qf ev (lsetO od (nms 4 c)) fu) (qf ev (lsetO od (nms 4 c)) fv))], x ∈ L9 := fun x hx => by rw [hL9]; exact .tail _ (.tail _ (.tail _ (.tail _ hx)))
  have item : ∀ i, i < 3 → ∃ ti x y fx fy sx sy st sw, [Value.ref ta, .ref tc', .ref te][i]? = some (.ref ti) ∧ (ti, tupObj [.int x sx, .int y sy, .int (tb 4 od fx : Int) st, .int (tb 4 od fy : Int) sw]) ∈ RR ∧ (x, fx) ∈ L9 ∧ (y, fy) ∈ L9 ∧ Dir ev fx fy := fun i hi => by
    match i, hi with
    | 0, _ => exact ⟨ta, r2, r3, _, _, s2, s3, s5, s6, rfl, by rw [hRR]; exact .tail _ (.tail _ (.tail _ (.head _))), by rw [hL9]; exact .tail _ (.tail _ (.tail _ (.head _))), by rw [hL9]; exact .tail _ (.tail _ (.head _)), dir_jn _ _ _ _⟩
    | 1, _ => exact ⟨tc', r8, r9, _, _, s8, s9, s11, s12, rfl, by rw [hRR]; exact .tail _ (.tail _ (.head _)), by rw [hL9]; exact .tail _ (.head _), by rw [hL9]; exact .head _, dir_swap _ _ _ _⟩
    | 2, _ => exact ⟨te, u, one, _, _, tu, t1, tf, th, rfl, by rw [hRR]; exact .tail _ (.head _), hL0 _ (.head _), hL0 _ (.tail _ (.tail _ (.head _))), dir_self _ _ _⟩
  have hkn9 := hkn.ext g09.e
  have cap9 : Cap σ9 10000 := Cap.after (c := 64 + 2048 + 64 + 2048 + 2048 + 2048) (cap.less (by first | decide | lia | omega)) g09
  have F9 := F.ext g09.e
  have hod9 : σ9.order = od := by rw [g09.e.ord]; exact hod
  refine WC.perm (mgL b9 ++ (ka, ko) :: (it, o) :: RR) ?_ ?_
  · rw [hRR]
    exact List.Perm.append_left _ (List.perm_middle (l₁ := [_, _, _, _, _])).symm
  refine WC.inv (fun m vals' l' => Ex10 fun (i : Nat) (b : Mg) (σ : Sg) (o ko : Obj) (kvs : List (Int × Value)) (x_left x_right x_table x_wide : Option Value) => An13 (m = 3 - i) (i ≤ 3) (Good W sa b σ) (Full σ) (σ.order = od) (Cap σ (10000 - 100 * i)) (Ds σ L9) (LiO o li i) (ko.IsDictOf (intKind W.prog W.w) kvs) (Kn σ kvs) (kvs.length ≤ 1000 + 40 * i) (vals' = (o0 :: some (.bool ev) :: some (.ref sa) :: some (.int u tu) :: some (.int one t1) :: some (.int two t2) :: some (.int jo tj) :: some (.int (tb 4 od fu : Int) tf) :: some (.int (tb 4 od (qf ev (lsetO od (nms 4 c)) fu) : Int) th) :: some (.int (tb 4 od (qf ev (lsetO od (nms 4 c)) fv) : Int) tk) :: o10 :: o11 :: o12 :: o13 :: o14 :: some (.int v tv) :: some (.int (tb 4 od fv : Int) tg) :: some (.ref nl) :: some (.ref ml) :: some (.str (if ev then "or" else "and") tme) :: some (.ref ka) :: x_left :: x_right :: x_table :: x_wide :: some (.ref li) :: oT)) (l' = mgL b ++ (ka, ko) :: (it, o) :: RR)) ?_ 3 ⟨0, b9, σ9, o, ko, kvs, _, _, _, _, rfl, by first | decide | lia | omega, G9, F9, hod9, cap9, D9, hio, hko, hkn9, by first | decide | lia | omega, rfl, rfl⟩
  clear du dv d1 d2 at0 at1 at2 at3 at7 at8 at9 hs hs1 hs2 hs3 hs7 hs8 hs9 G1 G2 G3 G7 G8 e1 e2 e3 e7 e8 e9 g1 g2 g3 g7 g8 g9 g02 g03 g07 g08 g09 hRR hL9
  clear D hkn hko hkl cap hod F G hio G9 F9 hod9 cap9 D9 hkn9
  rintro m _ _ ⟨i, b, σ, o, ko, kvs, x_left, x_right, x_table, x_wide, hm, hi, G, F, hod, cap, D, hio, hko, hkn, hkl, rfl, rfl⟩ again
  refine Mine.WC.letV ?_; intro vv
  have at0 := G.at'
  have hs := G.hs
  have ok := G.ok
  by_cases hi3 : i = 3
  · subst hi3
    refine WC.for1 (WA.lEnd (vs := [.ref ta, .ref tc', .ref te]) (pre := mgL b ++ [(ka, ko)]) (post := RR) hh (by simp) (List.mem_append_right _ (.tail _ (.tail _ hli))) hio rfl ?_)
    refine R.turnN (WA.exNil (R.next ?_))
    rw [List.append_assoc]
    have DD : Ds σ [(u, fu), (v, fv), (one, qf ev (lsetO od (nms 4 c)) fu), (two, qf ev (lsetO od (nms 4 c)) fv), (jo, jn ev (qf ev (lsetO od (nms 4 c)) fu) (qf ev (lsetO od (nms 4 c)) fv))] := fun x hx => D x (hL0 x hx)
    exact segE hr G F hod (cap.less (by first | decide | lia | omega)) (.cons (DD _ (.head _)) (.cons (DD _ (.tail _ (.tail _ (.head _)))) (.cons (DD _ (.tail _ (.tail _ (.tail _ (.head _))))) (.cons (DD _ (.tail _ (.tail _ (.tail _ (.tail _ (.head _)))))) (.nil _))))) (qf_isfree _ _ _) fun x hx => .tail _ (hRR0 x (hR x hx))
  obtain ⟨ti, x, y, fx, fy, sx, sy, st, sw, hit, htm, hmx, hmy, hdir⟩ := item i (by first | decide | lia | omega)
  have dx := D _ hmx
  have dy := D _ hmy
  dsimp only at dx dy
  refine WC.for1 (WA.lNext (vs := [.ref ta, .ref tc', .ref te]) (pre := mgL b ++ [(ka, ko)]) (post := RR) (by simp) (List.mem_append_right _ (.tail _ (.tail _ hli))) hio hit fun o' hio' => ?_)
  rw [List.append_assoc]
  refine R.turnS (WA.letT (List.mem_append_right _ (.tail _ (.head _))) hio' ?_)
  refine R.unp (items := [.int x sx, .int y sy, .int (tb 4 od fx : Int) st, .int (tb 4 od fy : Int) sw].toArray) hh (List.mem_append_right _ (.tail _ (.tail _ htm))) rfl rfl ?_
  kts_nm; kmb_kw; kts_nm; kmb_kw; kts_nm; kmb_kw; kts_nm; kmb_kw; ktyn_q; kd_p; kd_p1; kd_idx; kd_rfl; kd_adr; kit_at
  refine Mine.L.funR (by nest_cls) (g_tab _) ?_; intro _
  kit_is; kit_is; kit_is; kit_tp
  have hnv := F.nv
  refine table_c 4 _ Ψ _ b σ _ ka ko kvs 0 x fx _ _ G (hr.less (by first | decide | lia | omega)) F (by first | decide | lia | omega) (dx.vd ok) dx hko hkn (by first | decide | lia | omega) fun sz ko1 kvs1 hko1 hkn1 hkl1 => ?_
  rw [hod]
  kd_in; kpc_if; ks_any; kwk_eq; kd_rfl; kd_adr; kit_at
  refine Mine.L.funR (by nest_cls) (g_tab _) ?_; intro _
  kit_is; kit_is; kit_is; kit_tp
  refine table_c 4 _ Ψ _ b σ _ ka ko1 kvs1 0 y fy _ _ G (hr.less (by first | decide | lia | omega)) F (by first | decide | lia | omega) (dy.vd ok) dy hko1 hkn1 (by first | decide | lia | omega) fun sz2 ko2 kvs2 hko2 hkn2 hkl2 => ?_
  rw [hod]
  kd_in; kpc_if; ks_any; kwk_eq; kf_int; kwk_eq; kt_k; kcf_m; kd_p; kd_p1; kd_adr; kcj_in; kd_in; kd_in; kpc_eq; kcj_in; kd_in; kd_in; kpc_eq
  refine WA.neB ?_
  rw [O.node_tb hod F ok dx dy, bne_self_eq_false]
  ks_any; kwk_eq; kt_k; kcf_m; kd_p; kd_p1; kd_adr; kcu_lt; kfm_eq; kd_in; ks_any
  refine R.joinV (fun vv vals' l' => Ex4 fun b' σ' r t => An6 (Good W sa b' σ') (Gr σ σ' 64) (Den σ' r (impF ev fx fy)) (vv = .int r t) (vals' = (o0 :: some (.bool ev) :: some (.ref sa) :: some (.int u tu) :: some (.int one t1) :: some (.int two t2) :: some (.int jo tj) :: some (.int (tb 4 od fu : Int) tf) :: some (.int (tb 4 od (qf ev (lsetO od (nms 4 c)) fu) : Int) th) :: some (.int (tb 4 od (qf ev (lsetO od (nms 4 c)) fv) : Int) tk) :: o10 :: o11 :: o12 :: o13 :: o14 :: some (.int v tv) :: some (.int (tb 4 od fv : Int) tg) :: some (.ref nl) :: some (.ref ml) :: some (.str (if ev then "or" else "and") tme) :: some (.ref ka) :: some (.int x sx) :: some (.int y sy) :: some (.int (tb 4 od fx : Int) st) :: some (.int (tb 4 od fy : Int) sw) :: some (.ref li) :: oT)) (l' = mgL b' ++ (ka, ko2) :: (it, o') :: RR)) (R.iteB (fun h => ?_) fun h => ?_) ?_
  · kin_no; kd_in; ksp_in; kit_nb; kba_in; kit_is; kit_is; kit_tp
    refine imp_c G (hr.less (by first | decide | lia | omega)) (cap.less (by first | decide | lia | omega)) dy dx fun t' b' σ' r G' g' d' => ?_
    exact ⟨b', σ', r, t', G', g', by rw [impF_t h]; exact d', rfl, rfl, rfl⟩
  · kin_no; kd_in; ksp_in; kit_nb; kba_in; kit_is; kit_is; kit_tp
    refine imp_c G (hr.less (by first | decide | lia | omega)) (cap.less (by first | decide | lia | omega)) dx dy fun t' b' σ' r G' g' d' => ?_
    exact ⟨b', σ', r, t', G', g', by rw [impF_f h]; exact d', rfl, rfl, rfl⟩
  rintro _ _ _ ⟨b1, σ1, r1, s1, G1, g1, e1, rfl, rfl, rfl⟩
  have at1 := G1.at'
  have hs1 := G1.hs
  have n1 := den_one G1.ok e1
  rw [dirB_of hdir, beq_iff_eq] at n1
  subst n1
  kst_p; kpc_if; ks_any; kwk_eq; kt_k; kcf_m; kt_k; ksp_lk
  exact again (3 - (i + 1)) _ _ (by first | decide | lia | omega) ⟨i + 1, b1, σ1, o', ko2, kvs2, _, _, _, _, rfl, by first | decide | lia | omega, G1, F.ext g1.e, by rw [g1.e.ord]; exact hod, Cap.after (c := 64) (cap.less (by first | decide | lia | omega)) g1, D.ext g1.e, hio', hko2, hkn2.ext g1.e, by first | decide | lia | omega, rfl, rfl⟩
end
end
section
open PySem PySem.W PyProof.Rows PySem.Calls
set_option maxRecDepth 100000
set_option maxHeartbeats 8000000
section
variable {N : Nm} {W : Wd} {Ψ : Frm hd.heap_1_1 N W} {vals : Vals} {b : Mg} {σ : Sg} {Rl : Led} {sa : Addr}
theorem ints_append {vs us : List Value} {ns ms : List Int} (h : IntsAre vs ns) (h' : IntsAre us ms) : IntsAre (vs ++ us) (ns ++ ms) := by
  induction h with
  | nil => exact h'
  | cons n t _ ih => exact .cons n t ih
theorem nms_succ (i c : Nat) : nms (i + 1) c = nms i c ++ (if c.testBit i then [(101 : Int) + (i : Int)] else []) := by
  unfold nms
  rw [List.range_succ, List.filter_append, List.map_append]
  congr 1
  cases h : c.testBit i <;> simp [h]
theorem comp_loop {Ψ : Frm hd.heap_1_1 ⟨["name"], []⟩ W} {x : Str} {c : Nat} {tc : Tok} {cx it acc : Addr} {ox : Obj} {p1 p2 p7 p8 p9 p10 p11 p12 p13 p14 p15 p16 p17 pos : Pos} {scope : Scope} {iter : Expr} {Q : Flow → Vals → Led → Prop} {RR : Led} (hh : Ψ.A.handled = none)
    (hck : Ψ.env.kindOf x = some .cell) (hlk : Ψ.env.cells.lookup x = some cx) (hm : (cx, ox) ∈ RR) (hd' : ox.data = .cell (some (.int c tc))) (hdb : (x == ("__debug__" : Str)) = false)
    (q : ∀ xs n' v, IntsAre xs (nms 4 c) → Q .next v (mgL b ++ (acc, listOf xs.toArray n') :: RR)) :
    WC Ψ (.compLoop (.ListComp (.Name "name" p1) [⟨.Name "name" p2, iter, [.Compare (.BinOp (.BinOp (.Name x p7) .FloorDiv (.BinOp (.Constant (.int 2) 0 p8) .Pow (.BinOp (.Name "name" p9) .Sub (.Constant (.int 101) 0 p10) p11) p12) p13) .Mod (.Constant (.int 2) 0 p14) p15) [.Eq] [.Constant (.int 1) 0 p16] p17], 0⟩] scope pos) 0 (.ref it) (.ref acc) Ψ.env) Q [none] (mgL b ++ (acc, listOf [].toArray 0) :: (it, rangeItObj 101 4 1) :: RR) := by
  refine WC.inv (fun m vals' l' => Ex4 fun (i : Nat) (xs : List Value) (n' : Nat) (ov : Option Value) => An5 (m = 4 - i) (i ≤ 4) (IntsAre xs (nms i c)) (vals' = [ov]) (l' = mgL b ++ (acc, listOf xs.toArray n') :: (it, rangeItObj (101 + i) (4 - i) 1) :: RR)) ?_ 4 ⟨0, [], 0, none, rfl, by first | decide | lia | omega, .nil, rfl, rfl⟩
  rintro m _ _ ⟨i, xs, n', ov, hm', hi, hxs, rfl, rfl⟩ again
  refine Mine.WC.letV ?_; intro vv
  have hlen : xs.length ≤ 4 := by
    rw [ints_len hxs]
    unfold nms
    rw [List.length_map]
    exact Nat.le_trans (List.length_filter_le _ _) (by simpa using hi)
  refine WC.compL ?_
  by_cases hi4 : i = 4
  · subst hi4
    refine WA.rangeEndL (x := 101 + ((4 : Nat) : Int)) (left := 4 - ((4 : Nat) : Int)) (step := 1) (pre := mgL b ++ [(acc, listOf xs.toArray n')]) (post := RR) hh (by simp) (by first | decide | lia | omega) ?_
    rw [List.append_assoc]
    exact q xs n' _ hxs
  have hlt : i < 4 := by first | decide | lia | omega
  refine WA.rangeNext (x := 101 + (i : Int)) (left := 4 - (i : Int)) (step := 1) (pre := mgL b ++ [(acc, listOf xs.toArray n')]) (post := RR) (by simp) (by first | decide | lia | omega) fun ti => ?_
  rw [List.append_assoc]
  show WA Ψ (letOwnedTupleGo _ _ _) _ _ _
  kt_chr; kt_eqs; kmb_kw; kd_adr; kbe_in; kbe_in
  refine WA.cellN Ψ.e.kind hck hlk (List.mem_append_right _ (.tail _ (.tail _ hm))) hd' hdb ?_
  kbe_in; kst_p; kbe_in; kd_in; kst_p; kn_hit
  rw [show (101 : Int) + (i : Int) - 101 = (i : Int) by first | decide | lia | omega]
  refine WA.pow2 (by first | decide | lia | omega) (by first | decide | lia | omega) fun _ => ?_
  refine WA.fdivP (by have := Int.pow_pos (n := 2) (m := ((i : Int)).toNat) (by decide); omega) (pylong_pow _ _ (by first | decide | lia | omega)) fun _ => ?_
  kst_p
  refine WA.mod (by decide) fun _ => ?_
  kst_p; kpc_eq; ks_any
  rw [bit_int]
  have hstep : (101 : Int) + (i : Int) + 1 = 101 + ((i + 1 : Nat) : Int) := by push_cast; omega
  have hleft : (4 : Int) - (i : Int) - 1 = 4 - ((i + 1 : Nat) : Int) := by push_cast; omega
  rw [hstep, hleft]
  refine R.iteB (fun hb => ?_) fun hb => ?_
  · kd_in
    refine WA.lAppend (pre := mgL b) (vs := xs) rfl (by first | decide | lia | omega) ?_
    refine again (4 - (i + 1)) _ _ (by first | decide | lia | omega) ⟨i + 1, _, _, _, rfl, hlt, ?_, rfl, rfl⟩
    rw [nms_succ, if_pos hb]
    exact ints_append hxs (.cons _ _ .nil)
  · refine again (4 - (i + 1)) _ _ (by first | decide | lia | omega) ⟨i + 1, xs, n', _, rfl, hlt, ?_, rfl, rfl⟩
    rw [nms_succ, if_neg (by simp [hb]), List.append_nil]
    exact hxs
theorem comp_ok {x yy : Str} {c : Nat} {tc : Tok} {cx : Addr} {ox : Obj} {py spos p1 p2 p3 p4 p5 p6 p7 p8 p9 p10 p11 p12 p13 p14 p15 p16 p17 pos : Pos} {scope : Scope} {Q : Flow → Vals → Led → Prop} (hr : Room Ψ.A 1)
    (hn : scope.names = [((".0" : Str), NameKind.local), (("name" : Str), NameKind.local), (x, NameKind.free)]) (hk : scope.kind = .function) (hx : [((".0" : Str), NameKind.local), (("name" : Str), NameKind.local), (x, NameKind.cell)].lookup x = some NameKind.cell)
    (hg : NmG N.glo "range") (hck : Ψ.env.kindOf x = some .cell) (hlk : Ψ.env.cells.lookup x = some cx) (hm : (cx, ox) ∈ Rl) (hd' : ox.data = .cell (some (.int c tc))) (hdb : (x == ("__debug__" : Str)) = false)
    (hy1 : (((".0" : Str) == yy) || (("name" : Str) == yy)) = false) (hpl : (py.line == pos.line) = true) (hyn : yy ∈ N.loc)
    (q : ∀ acc xs n', IntsAre xs (nms 4 c) → ∃ i, NmI N.loc yy i ∧ vhas vals i = true ∧ Q .next (vset vals i (.ref acc)) (mgL b ++ (acc, listOf xs.toArray n') :: Rl)) :
    WA Ψ (exec (.Assign [.Name yy py] (.ListComp (.Name "name" p1) [⟨.Name "name" p2, .Call (.Name "range" p3) [.Constant (.int 101) 0 p4, .Constant (.int 105) 0 p5] [] p6, [.Compare (.BinOp (.BinOp (.Name x p7) .FloorDiv (.BinOp (.Constant (.int 2) 0 p8) .Pow (.BinOp (.Name "name" p9) .Sub (.Constant (.int 101) 0 p10) p11) p12) p13) .Mod (.Constant (.int 2) 0 p14) p15) [.Eq] [.Constant (.int 1) 0 p16] p17], 0⟩] scope pos) spos) Ψ.env) Q vals (mgL b ++ Rl) := by
  have hh := hr.hh
  have hcell : ∀ y ∈ scope.names, y.2 ≠ NameKind.cell := by
    rw [hn]; intro y hy
    simp only [List.mem_cons, List.not_mem_nil, or_false] at hy
    rcases hy with rfl | rfl | rfl <;> simp
  have hloc : ∀ y ∈ scope.names, y.2 = NameKind.local → scope.names.lookup y.1 = some NameKind.local := by
    rw [hn]; intro y hy hl
    simp only [List.mem_cons, List.not_mem_nil, or_false] at hy
    rcases hy with rfl | rfl | rfl
    · rfl
    · kernel_rfl!
    · cases hl
  have hn2 : (relabel scope Ψ.env).names = _ := comp_names (cl := []) (L := 0) (env := Ψ.env) (scope := scope) hn Ψ.e.kind hck
  refine WA.asComp (cl := [(x, cx)]) (swaps_true Ψ.e.kind (Ψ.sc.loc yy hyn).1 hpl hn hy1) (closure_one hn hlk) hk hcell hloc ⟨by simp, fun y hy => ?_, fun y hy => by cases hy⟩ ?_ (by intro _; with_unfolding_all rfl)
  · rw [hn2]
    rw [List.mem_singleton] at hy
    subst hy
    exact ⟨by kernel_rfl!, by kernel_rfl!⟩
  refine R.callN rfl (R.glob hg (g_range _) ?_) (by lcg_off)
  kln_le; kit_nb; kst_p; kit_nb; kst_p; kit_tp; kt_ors
  refine WA.rangeIterM (M := mgL b) (.head _) (by decide) fun it => ?_
  refine Mine.L.newList (M := mgL b) (vs := []) (fits_of (n := 0) (by first | decide | lia | omega)) fun acc => ?_; intro _
  intro Ψ2 he2 ha2
  refine ⟨?_, WA.rangeItSelf (List.mem_append_right _ (.tail _ (.head _))) ⟨rfl, rfl, rfl⟩⟩
  have hcl' : Ψ2.env.cells.lookup x = some cx := by
    rw [he2]
    show [(x, cx)].lookup x = some cx
    simp [List.lookup]
  have hck' : Ψ2.env.kindOf x = some .cell := by
    rw [he2]
    show (relabel scope Ψ.env).names.lookup x = _
    rw [hn2]; exact hx
  refine comp_loop (c := c) (by rw [ha2]; exact hh) hck' hcl' (tc := tc) (.tail _ hm) hd' hdb fun xs n' v hxs => ?_
  obtain ⟨v2, h1, h2, h3⟩ := q acc xs n' hxs
  exact ⟨_, v2, List.Sublist.append (List.Sublist.refl _) (List.Sublist.cons₂ _ (List.sublist_cons_self _ _)), h1, h2, h3⟩
end
end
section
open PySem PySem.W PyProof.Rows PySem.Calls
set_option maxRecDepth 100000
set_option maxHeartbeats 8000000
section
variable {N : Nm} {W : Wd} {Ψ : Frm hd.heap_1_1 N W} {vals : Vals} {b : Mg} {σ : Sg} {Rl : Led} {sa : Addr}
theorem nms_len (c : Nat) : (nms 4 c).length ≤ 4 := by
  unfold nms
  rw [List.length_map]
  exact Nat.le_trans (List.length_filter_le _ _) (by simp)
theorem nms_U {c : Nat} {x : Int} (h : x ∈ nms 4 c) : x ∈ U1 := by
  obtain ⟨p, hp, _, rfl⟩ := mem_nms.mp h
  simp only [U1, List.mem_cons, List.not_mem_nil, or_false]
  omega
theorem lset_dcd (od a c : List Int) : lsetO od (a ++ c ++ a) = fun j => lsetO od c j || lsetO od a j := by
  rw [lsetO_append, lsetO_append]
  funext j
  dsimp only
  cases lsetO od a j <;> cases lsetO od c j <;> rfl
theorem segC2 {Ψ : Frm hd.heap_1_1 NL W} (hr : Room Ψ.A 30) {od : List Int} {ev : Bool} {c d n0 n1 n : Nat} {fu fv : BF} {u v one two jo bo : Int} {tu tv t1 t2 tj tb0 tf tg th tk tjo tme tc td : Tok} {nl ml c1 c2 li ka : Addr} {oc1 oc2 ko : Obj} {vn vm vs : List Value} {kvs : List (Int × Value)} {o0 o10 o11 o12 o13 o14 o21 o22 o23 o24 o25 : Option Value} {oT : Vals} {R0 : Led}
    (hck1 : Ψ.env.kindOf "chosen" = some .cell) (hlk1 : Ψ.env.cells.lookup ("chosen" : Str) = some c1) (hck2 : Ψ.env.kindOf "other" = some .cell) (hlk2 : Ψ.env.cells.lookup ("other" : Str) = some c2)
    (hc1 : (c1, oc1) ∈ Rl) (hc2 : (c2, oc2) ∈ Rl) (hd1 : oc1.data = .cell (some (.int c tc))) (hd2 : oc2.data = .cell (some (.int d td)))
    (hnl : (nl, listOf vn.toArray n0) ∈ Rl) (hni : IntsAre vn (nms 4 c)) (hml : (ml, listOf vm.toArray n1) ∈ Rl) (hmi : IntsAre vm (nms 4 d))
    (hko : ko.IsDictOf (intKind W.prog W.w) kvs) (hkn : Kn σ kvs) (hkl : kvs.length ≤ 1)
    (G : Good W sa b σ) (F : Full σ) (hod : σ.order = od) (cap : Cap σ 20000) (D : Ds σ [(u, fu), (v, fv), (one, qf ev (lsetO od (nms 4 c)) fu), (two, qf ev (lsetO od (nms 4 c)) fv), (jo, jn ev (qf ev (lsetO od (nms 4 c)) fu) (qf ev (lsetO od (nms 4 c)) fv))]) (hR : ∀ x ∈ R0, x ∈ Rl)
    (hli : (li, listOf vs.toArray n) ∈ Rl) (hvs : vs.length = 6) (item : ∀ i, i < 6 → ∃ ti x y f sx sy st, vs[i]? = some (.ref ti) ∧ (ti, tupObj [.int x sx, .int y sy, .int (tb 4 od f : Int) st]) ∈ Rl ∧ x = y ∧ Den σ x f) :
    WA Ψ (execs (fn555.body.drop 28) Ψ.env) (fun f _ l => f = .ret (.bool true) ∧ ∀ x ∈ R0, x ∈ l) (o0 :: some (.bool ev) :: some (.ref sa) :: some (.int u tu) :: some (.int one t1) :: some (.int two t2) :: some (.int jo tj) :: some (.int (tb 4 od fu : Int) tf) :: some (.int (tb 4 od (qf ev (lsetO od (nms 4 c)) fu) : Int) th) :: some (.int (tb 4 od (qf ev (lsetO od (nms 4 c)) fv) : Int) tk) :: o10 :: o11 :: o12 :: o13 :: o14 :: some (.int v tv) :: some (.int (tb 4 od fv : Int) tg) :: some (.ref nl) :: some (.ref ml) :: some (.str (if ev then "or" else "and") tme) :: some (.ref ka) :: o21 :: o22 :: o23 :: o24 :: o25 :: some (.int bo tb0) :: some (.str (if ev then "and" else "or") tjo) :: some (.ref li) :: oT) (mgL b ++ (ka, ko) :: Rl) := by
  have at0 := G.at'
  have hs := G.hs
  have hh := hr.hh
  have ok := G.ok
  have hnv := F.nv
  dsimp only [fn555, mkFn, List.drop]
  kd_p; kt_key; kd_in
  refine WA.lIter (vs := vs) (List.mem_append_right _ (.tail _ hli)) fun it o hio => ?_
  refine WC.perm (mgL b ++ (ka, ko) :: (it, o) :: Rl) (List.Perm.append_left _ (List.Perm.swap _ _ _)) ?_
  refine WC.inv (fun m vals' l' => Ex7 fun (i : Nat) (o ko : Obj) (kvs : List (Int × Value)) (x_left x_right x_table : Option Value) => An8 (m = 6 - i) (i ≤ 6) (LiO o li i) (ko.IsDictOf (intKind W.prog W.w) kvs) (Kn σ kvs) (kvs.length ≤ 1 + 20 * i) (vals' = (o0 :: some (.bool ev) :: some (.ref sa) :: some (.int u tu) :: some (.int one t1) :: some (.int two t2) :: some (.int jo tj) :: some (.int (tb 4 od fu : Int) tf) :: some (.int (tb 4 od (qf ev (lsetO od (nms 4 c)) fu) : Int) th) :: some (.int (tb 4 od (qf ev (lsetO od (nms 4 c)) fv) : Int) tk) :: o10 :: o11 :: o12 :: o13 :: o14 :: some (.int v tv) :: some (.int (tb 4 od fv : Int) tg) :: some (.ref nl) :: some (.ref ml) :: some (.str (if ev then "or" else "and") tme) :: some (.ref ka) :: x_left :: x_right :: x_table :: o24 :: o25 :: some (.int bo tb0) :: some (.str (if ev then "and" else "or") tjo) :: some (.ref li) :: oT)) (l' = mgL b ++ (ka, ko) :: (it, o) :: Rl)) ?_ 6 ⟨0, o, ko, kvs, _, _, _, rfl, by first | decide | lia | omega, hio, hko, hkn, by first | decide | lia | omega, rfl, rfl⟩
  clear hkn hko hkl hio
  rintro m _ _ ⟨i, o, ko, kvs, x_left, x_right, x_table, hm, hi, hio, hko, hkn, hkl, rfl, rfl⟩ again
  refine Mine.WC.letV ?_; intro vv
  by_cases hi6 : i = 6
  · subst hi6
    refine WC.for1 (WA.lEnd (vs := vs) (pre := mgL b ++ [(ka, ko)]) (post := Rl) hh (by simp) (List.mem_append_right _ (.tail _ (.tail _ hli))) hio (by rw [List.getElem?_eq_none]; omega) ?_)
    refine R.turnN (WA.exNil (R.next ?_))
    rw [List.append_assoc]
    exact segD hr hck1 hlk1 hck2 hlk2 hc1 hc2 hd1 hd2 hnl hni hml hmi hko hkn (by first | decide | lia | omega) G F hod cap D hR
  obtain ⟨ti, x, y, f, sx, sy, st, hit, htm, rfl, dx⟩ := item i (by first | decide | lia | omega)
  refine WC.for1 (WA.lNext (vs := vs) (pre := mgL b ++ [(ka, ko)]) (post := Rl) (by simp) (List.mem_append_right _ (.tail _ (.tail _ hli))) hio hit fun o' hio' => ?_)
  rw [List.append_assoc]
  refine R.turnS (WA.letT (List.mem_append_right _ (.tail _ (.head _))) hio' ?_)
  refine R.unp (items := [.int x sx, .int x sy, .int (tb 4 od f : Int) st].toArray) hh (List.mem_append_right _ (.tail _ (.tail _ htm))) rfl rfl ?_
  kts_nm; kmb_kw; kts_nm; kmb_kw; kts_nm; kmb_kw; ktyn_q; kd_p; kd_p1; kd_idx; kd_rfl; kd_adr; kd_in; kd_in; kpc_if; ks_any; kwk_eq; kd_rfl; kd_adr; kit_at
  refine Mine.L.funR (by nest_cls) (g_tab _) ?_; intro _
  kit_is; kit_is; kit_is; kit_tp
  refine table_c 4 _ Ψ _ b σ _ ka ko kvs 0 x f _ _ G (hr.less (by first | decide | lia | omega)) F (by first | decide | lia | omega) (dx.vd ok) dx hko hkn (by first | decide | lia | omega) fun sz ko1 kvs1 hko1 hkn1 hkl1 => ?_
  rw [hod]
  kd_in; kpc_if; ks_any; kwk_eq; kf_int; kwk_eq; kt_k; kcf_m; kt_k; ksp_lk
  exact again (6 - (i + 1)) _ _ (by first | decide | lia | omega) ⟨i + 1, o', ko1, kvs1, _, _, _, rfl, by first | decide | lia | omega, hio', hko1, hkn1, by first | decide | lia | omega, rfl, rfl⟩
theorem segC {Ψ : Frm hd.heap_1_1 NL W} (hr : Room Ψ.A 30) {od : List Int} {ev : Bool} {c d n0 n1 : Nat} {fu fv : BF} {u v one two jo bo : Int} {tu tv t1 t2 tj tb0 tf tg th tk tjo tme tc td : Tok} {nl ml c1 c2 : Addr} {oc1 oc2 : Obj} {vn vm : List Value} {o0 o10 o11 o12 o13 o14 o20 o21 o22 o23 o24 o25 o28 : Option Value} {oT : Vals} {R0 : Led}
    (hck1 : Ψ.env.kindOf "chosen" = some .cell) (hlk1 : Ψ.env.cells.lookup ("chosen" : Str) = some c1) (hck2 : Ψ.env.kindOf "other" = some .cell) (hlk2 : Ψ.env.cells.lookup ("other" : Str) = some c2)
    (hc1 : (c1, oc1) ∈ Rl) (hc2 : (c2, oc2) ∈ Rl) (hd1 : oc1.data = .cell (some (.int c tc))) (hd2 : oc2.data = .cell (some (.int d td)))
    (hnl : (nl, listOf vn.toArray n0) ∈ Rl) (hni : IntsAre vn (nms 4 c)) (hml : (ml, listOf vm.toArray n1) ∈ Rl) (hmi : IntsAre vm (nms 4 d))
    (G : Good W sa b σ) (F : Full σ) (hod : σ.order = od) (cap : Cap σ 45000) (D : Ds σ [(u, fu), (v, fv), (one, qf ev (lsetO od (nms 4 c)) fu), (two, qf ev (lsetO od (nms 4 c)) fv), (jo, jn ev (qf ev (lsetO od (nms 4 c)) fu) (qf ev (lsetO od (nms 4 c)) fv)), (bo, qf ev (lsetO od (nms 4 d)) (qf ev (lsetO od (nms 4 c)) fu))]) (hR : ∀ x ∈ R0, x ∈ Rl) :
    WA Ψ (execs (fn555.body.drop 26) Ψ.env) (fun f _ l => f = .ret (.bool true) ∧ ∀ x ∈ R0, x ∈ l) (o0 :: some (.bool ev) :: some (.ref sa) :: some (.int u tu) :: some (.int one t1) :: some (.int two t2) :: some (.int jo tj) :: some (.int (tb 4 od fu : Int) tf) :: some (.int (tb 4 od (qf ev (lsetO od (nms 4 c)) fu) : Int) th) :: some (.int (tb 4 od (qf ev (lsetO od (nms 4 c)) fv) : Int) tk) :: o10 :: o11 :: o12 :: o13 :: o14 :: some (.int v tv) :: some (.int (tb 4 od fv : Int) tg) :: some (.ref nl) :: some (.ref ml) :: some (.str (if ev then "or" else "and") tme) :: o20 :: o21 :: o22 :: o23 :: o24 :: o25 :: some (.int bo tb0) :: some (.str (if ev then "and" else "or") tjo) :: o28 :: oT) (mgL b ++ Rl) := by
  have O := F.od
  rw [hod] at O
  have at0 := G.at'
  have hs := G.hs
  have hh := hr.hh
  have hvn : vn.length ≤ 4 := by rw [ints_len hni]; exact nms_len c
  have hvm : vm.length ≤ 4 := by rw [ints_len hmi]; exact nms_len d
  have du := D _ (.head _)
  have dv := D _ (.tail _ (.head _))
  have d1 := D _ (.tail _ (.tail _ (.head _)))
  have d2 := D _ (.tail _ (.tail _ (.tail _ (.head _))))
  dsimp only at du dv d1 d2
  dsimp only [fn555, mkFn, List.drop]
  kd_p; kl_no
  refine Mine.L.list rfl ?_; intro _
  kit_nb; kim_at; kit_is; kit_nb; kit_at
  refine Mine.L.funR (by nest_cls) (g_over _) ?_; intro _
  kit_is; kit_is; kit_is; kit_nb; kit_at
  refine Mine.L.funR (by nest_cls) (g_over _) ?_; intro _
  kit_is; kit_is; kit_is; kit_is; kit_tp
  refine over_d (od := od) G (hr.less (by first | decide | lia | omega)) (cap.less (by first | decide | lia | omega)) F hod du hml hmi fun s1 b1 σ1 r1 G1 g1 e1 => ?_
  have at1 := G1.at'
  have hs1 := G1.hs
  have g0_1 : Gr σ σ1 2048 := g1.le (by first | decide | lia | omega)
  kit_tp
  refine over_d (od := od) G1 (hr.less (by first | decide | lia | omega)) (Cap.after (c := 2048) (cap.less (by first | decide | lia | omega)) g0_1) (F.ext g0_1.e) (by rw [g0_1.e.ord]; exact hod) e1 hnl hni fun s2 b2 σ2 r2 G2 g2 e2 => ?_
  have at2 := G2.at'
  have hs2 := G2.hs
  have g0_2 : Gr σ σ2 4096 := (g0_1.trans g2).le (by first | decide | lia | omega)
  kit_nb; kit_at
  refine Mine.L.funR (by nest_cls) (g_thrown _) ?_; intro _
  kit_is; kit_nb
  refine WA.cellN Ψ.e.kind hck2 hlk2 (List.mem_append_right _ hc2) hd2 (by decide) ?_
  kit_is; kit_tp
  refine thrown_c O (hr.less (by first | decide | lia | omega)) fun z1 => ?_
  kit_tp
  refine Mine.L.newTup (fits_of (n := 3) (by first | decide | lia | omega)) fun ta => ?_; intro _
  kit_nb; kim_at; kit_is; kit_nb; kit_at
  refine Mine.L.funR (by nest_cls) (g_over _) ?_; intro _
  kit_is; kit_is; kit_nb; kbe_in; kbe_in; kd_in; kd_in
  refine WA.lCat (vs := vm) (us := vn) (n := n1) (m := n0) (M := mgL b2) (List.mem_append_right _ (.tail _ hml)) (List.mem_append_right _ (.tail _ hnl)) (by first | decide | lia | omega) fun xa => ?_
  kd_in
  refine WA.lCat (vs := vm ++ vn) (us := vm) (n := 0) (m := n1) (M := mgL b2) (List.mem_append_right _ (.head _)) (List.mem_append_right _ (.tail _ (.tail _ hml))) (by rw [List.length_append]; omega) fun xb => ?_
  kit_is; kit_tp
  refine over_c (names := nms 4 d ++ nms 4 c ++ nms 4 d) (vs := vm ++ vn ++ vm) (n0 := 0) G2 (hr.less (by first | decide | lia | omega)) (Cap.after (c := 4096) (cap.less (by first | decide | lia | omega)) g0_2) (F.ext g0_2.e) (du.ext g0_2.e) (.head _) (ints_append (ints_append hmi hni) hmi) (fun x hx => ?_) (by rw [List.length_append, List.length_append]; have := nms_len c; have := nms_len d; omega) fun s3 b3 σ3 r3 G3 g3 e3 => ?_
  · rcases List.mem_append.mp hx with hx | hx
    · rcases List.mem_append.mp hx with hx | hx
      · exact nms_U hx
      · exact nms_U hx
    · exact nms_U hx
  have at3 := G3.at'
  have hs3 := G3.hs
  have g0_3 : Gr σ σ3 6144 := (g0_2.trans g3).le (by first | decide | lia | omega)
  kit_nb; kit_at
  refine Mine.L.funR (by nest_cls) (g_thrown _) ?_; intro _
  kit_is; kit_nb; kbe_in
  refine WA.cellN Ψ.e.kind hck1 hlk1 (List.mem_append_right _ (.tail _ (.tail _ (.tail _ hc1)))) hd1 (by decide) ?_
  refine WA.cellN Ψ.e.kind hck2 hlk2 (List.mem_append_right _ (.tail _ (.tail _ (.tail _ hc2)))) hd2 (by decide) ?_
  refine WA.bor fun z2 => ?_
  rw [bor_nat]
  kit_is; kit_tp
  refine thrown_c O (hr.less (by first | decide | lia | omega)) fun z3 => ?_
  kit_tp
  refine Mine.L.newTup (fits_of (n := 3) (by first | decide | lia | omega)) fun tc' => ?_; intro _
  kit_nb; kim_at; kit_nb; kbt_ne; kd_in; kp_lit; kit_nb; kit_at
  refine Mine.L.funR (by nest_cls) (g_over _) ?_; intro _
  kit_is; kit_nb; kbt_ne; kd_in
  refine WA.notB ?_
  kit_is; kit_nb; kbt_ne; kd_in; kp_lit; kit_tp
  refine over_d (od := od) G3 (hr.less (by first | decide | lia | omega)) (Cap.after (c := 6144) (cap.less (by first | decide | lia | omega)) g0_3) (F.ext g0_3.e) (by rw [g0_3.e.ord]; exact hod) (du.not.ext g0_3.e) (.tail _ (.tail _ (.tail _ (.tail _ hnl)))) hni fun s4 b4 σ4 r4 G4 g4 e4 => ?_
  have at4 := G4.at'
  have hs4 := G4.hs
  have g0_4 : Gr σ σ4 8192 := (g0_3.trans g4).le (by first | decide | lia | omega)
  kit_nb; kbe_in; kst_p; kd_in; kn_hit; kit_tp
  rw [sub_int' (tb_le _ _), tb_not]
  refine Mine.L.newTup (fits_of (n := 3) (by first | decide | lia | omega)) fun te => ?_; intro _
  kit_nb; kim_at; kit_is; kit_nb; kit_at
  refine Mine.L.funR (by nest_cls) (g_over _) ?_; intro _
  kit_is; kit_is; kit_is; kit_nb; kin_no; kd_in; ksp_in; kit_is; kit_is; kit_is; kit_tp
  refine join_c G4 (hr.less (by first | decide | lia | omega)) (Cap.after (c := 8192) (cap.less (by first | decide | lia | omega)) g0_4) (du.ext g0_4.e) (dv.ext g0_4.e) fun s5 b5 σ5 r5 G5 g5 e5 => ?_
  have at5 := G5.at'
  have hs5 := G5.hs
  have g0_5 : Gr σ σ5 8256 := (g0_4.trans g5).le (by first | decide | lia | omega)
  kit_tp
  refine over_d (od := od) G5 (hr.less (by first | decide | lia | omega)) (Cap.after (c := 8256) (cap.less (by first | decide | lia | omega)) g0_5) (F.ext g0_5.e) (by rw [g0_5.e.ord]; exact hod) e5 (.tail _ (.tail _ (.tail _ (.tail _ (.tail _ hnl))))) hni fun s6 b6 σ6 r6 G6 g6 e6 => ?_
  have at6 := G6.at'
  have hs6 := G6.hs
  have g0_6 : Gr σ σ6 10304 := (g0_5.trans g6).le (by first | decide | lia | omega)
  kit_nb; kit_at
  refine Mine.L.funR (by nest_cls) (g_thrown _) ?_; intro _
  kit_nb; kit_at
  refine Mine.L.funR (by nest_cls) (g_met _) ?_; intro _
  kit_nb; kbt_ne; kd_in
  refine WA.notB ?_
  kit_is; kit_is; kit_tp
  refine met_c (hr.less (by first | decide | lia | omega)) fun z4 => ?_
  rw [met_tb]
  kit_nb
  refine WA.cellN Ψ.e.kind hck1 hlk1 (List.mem_append_right _ (.tail _ (.tail _ (.tail _ (.tail _ (.tail _ hc1)))))) hd1 (by decide) ?_
  kit_is; kit_tp
  refine thrown_c O (hr.less (by first | decide | lia | omega)) fun z5 => ?_
  kit_tp
  refine Mine.L.newTup (fits_of (n := 3) (by first | decide | lia | omega)) fun tg' => ?_; intro _
  kit_nb; kim_at; kit_nb; kin_no; kd_in; ksp_in; kit_is; kit_is; kit_is; kit_tp
  refine meet_c G6 (hr.less (by first | decide | lia | omega)) (Cap.after (c := 10304) (cap.less (by first | decide | lia | omega)) g0_6) (d1.ext g0_6.e) (d2.ext g0_6.e) fun s7 b7 σ7 r7 G7 g7 e7 => ?_
  have at7 := G7.at'
  have hs7 := G7.hs
  have g0_7 : Gr σ σ7 10368 := (g0_6.trans g7).le (by first | decide | lia | omega)
  kit_nb; kit_at
  refine Mine.L.funR (by nest_cls) (g_over _) ?_; intro _
  kit_is; kit_is; kit_is; kit_nb; kin_no; kd_in; ksp_in; kit_is; kit_is; kit_is; kit_tp
  refine meet_c G7 (hr.less (by first | decide | lia | omega)) (Cap.after (c := 10368) (cap.less (by first | decide | lia | omega)) g0_7) (du.ext g0_7.e) (d2.ext g0_7.e) fun s8 b8 σ8 r8 G8 g8 e8 => ?_
  have at8 := G8.at'
  have hs8 := G8.hs
  have g0_8 : Gr σ σ8 10432 := (g0_7.trans g8).le (by first | decide | lia | omega)
  kit_tp
  refine over_d (od := od) G8 (hr.less (by first | decide | lia | omega)) (Cap.after (c := 10432) (cap.less (by first | decide | lia | omega)) g0_8) (F.ext g0_8.e) (by rw [g0_8.e.ord]; exact hod) e8 (.tail _ (.tail _ (.tail _ (.tail _ (.tail _ (.tail _ hnl)))))) hni fun s9 b9 σ9 r9 G9 g9 e9 => ?_
  have at9 := G9.at'
  have hs9 := G9.hs
  have g0_9 : Gr σ σ9 12480 := (g0_8.trans g9).le (by first | decide | lia | omega)
  kit_nb; kit_at
  refine Mine.L.funR (by nest_cls) (g_thrown _) ?_; intro _
  kit_nb; kit_at
  refine Mine.L.funR (by nest_cls) (g_met _) ?_; intro _
  kit_is; kit_is; kit_is; kit_tp
  refine met_c (hr.less (by first | decide | lia | omega)) fun z6 => ?_
  rw [met_tb']
  kit_nb
  refine WA.cellN Ψ.e.kind hck1 hlk1 (List.mem_append_right _ (.tail _ (.tail _ (.tail _ (.tail _ (.tail _ (.tail _ hc1))))))) hd1 (by decide) ?_
  kit_is; kit_tp
  refine thrown_c O (hr.less (by first | decide | lia | omega)) fun z7 => ?_
  kit_tp
  refine Mine.L.newTup (fits_of (n := 3) (by first | decide | lia | omega)) fun ti' => ?_; intro _
  kit_nb; kim_at; kit_is; kit_nb; kit_at
  refine Mine.L.funR (by nest_cls) (g_over _) ?_; intro _
  kit_is; kit_nb; kbt_ne; kd_in
  refine WA.notB ?_
  kit_is; kit_is; kit_tp
  refine over_d (od := od) G9 (hr.less (by first | decide | lia | omega)) (Cap.after (c := 12480) (cap.less (by first | decide | lia | omega)) g0_9) (F.ext g0_9.e) (by rw [g0_9.e.ord]; exact hod) (d2.ext g0_9.e) (.tail _ (.tail _ (.tail _ (.tail _ (.tail _ (.tail _ (.tail _ hnl))))))) hni fun s10 b10 σ10 r10 G10 g10 e10 => ?_
  have at10 := G10.at'
  have hs10 := G10.hs
  have g0_10 : Gr σ σ10 14528 := (g0_9.trans g10).le (by first | decide | lia | omega)
  kit_is; kit_tp
  refine Mine.L.newTup (fits_of (n := 3) (by first | decide | lia | omega)) fun tk' => ?_; intro _
  kit_tp
  refine Mine.L.newList (fits_of (n := 6) (by first | decide | lia | omega)) fun li => ?_; intro _
  kmb_kw; kcf_m; kd_p; kl_no
  refine WA.dict1 (M := mgL b10) fun ka ko tkn hko => ?_
  kmb_kw; kcf_m
  have F10 := F.ext g0_10.e
  have ok10 := G10.ok
  have D10 := D.ext g0_10.e
  have b10' := D10 _ (.tail _ (.tail _ (.tail _ (.tail _ (.tail _ (.head _))))))
  have j10 := D10 _ (.tail _ (.tail _ (.tail _ (.tail _ (.head _)))))
  have d2' := D10 _ (.tail _ (.tail _ (.tail _ (.head _))))
  have g9_10 : Ext σ9 σ10 := g10.e
  dsimp only at b10' j10 d2'
  -- the pairs are one node each
  have q1 : bo = r2 := den_inj ok10 b10' (by have := e2.ext (((((((g3.e.trans g4.e).trans g5.e).trans g6.e).trans g7.e).trans g8.e).trans g9.e).trans g10.e); rw [qf_comm] at this; exact this)
  have q2 : bo = r3 := den_inj ok10 b10' (by
    have := e3.ext ((((((g4.e.trans g5.e).trans g6.e).trans g7.e).trans g8.e).trans g9.e).trans g10.e)
    rw [show lset σ2 (nms 4 d ++ nms 4 c ++ nms 4 d) = lsetO od (nms 4 d ++ nms 4 c ++ nms 4 d) by rw [← hod, ← g0_2.e.ord]; rfl, lset_dcd, ← qf_union] at this
    exact this)
  have q3 : -one = r4 := den_inj ok10 (D10 _ (.tail _ (.tail _ (.head _)))).not (by have := e4.ext (((((g5.e.trans g6.e).trans g7.e).trans g8.e).trans g9.e).trans g10.e); rw [qf_not] at this; exact this)
  have q4 : jo = r6 := den_inj ok10 j10 (by have := e6.ext (((g7.e.trans g8.e).trans g9.e).trans g10.e); rw [qf_jn] at this; exact this)
  have q5 : r7 = r9 := den_inj ok10 (e7.ext ((g8.e.trans g9.e).trans g10.e)) (by have := e9.ext g10.e; rw [qf_jn_free (qf_isfree _ _ _)] at this; exact this)
  have q6 : two = r10 := den_inj ok10 d2' (by have := e10; rw [qf_id (qf_isfree _ _ _)] at this; exact this)
  refine segC2 (c := c) (d := d) (vs := [.ref ta, .ref tc', .ref te, .ref tg', .ref ti', .ref tk']) (n := 0) hr hck1 hlk1 hck2 hlk2 ((.tail _ (.tail _ (.tail _ (.tail _ (.tail _ (.tail _ (.tail _ (.tail _ (.tail _ hc1)))))))))) ((.tail _ (.tail _ (.tail _ (.tail _ (.tail _ (.tail _ (.tail _ (.tail _ (.tail _ hc2)))))))))) hd1 hd2 ((.tail _ (.tail _ (.tail _ (.tail _ (.tail _ (.tail _ (.tail _ (.tail _ (.tail _ hnl)))))))))) hni ((.tail _ (.tail _ (.tail _ (.tail _ (.tail _ (.tail _ (.tail _ (.tail _ (.tail _ hml)))))))))) hmi hko ⟨rfl, fun x v hx => ?_⟩ (Nat.le_refl _) G10 F10 (by rw [g0_10.e.ord]; exact hod) (Cap.after (c := 14528) (cap.less (by first | decide | lia | omega)) g0_10) (fun x hx => D10 x (by simp only [List.mem_cons, List.not_mem_nil, or_false] at hx ⊢; rcases hx with h | h | h | h | h <;> simp [h])) (fun x hx => (.tail _ (.tail _ (.tail _ (.tail _ (.tail _ (.tail _ (.tail _ (.tail _ (.tail _ (hR x hx))))))))))) (.head _) rfl fun i hi => ?_
  · unfold valueAt at hx
    simp only [List.find?_cons, List.find?_nil] at hx
    by_cases h1 : (1 : Int) = x
    · subst h1
      simp at hx
      subst hx
      exact ⟨tkn, fun _ => true, by rw [tb_true]; rfl, .one⟩
    · simp [h1] at hx
  · match i, hi with
    | 0, _ => exact ⟨ta, bo, r2, _, _, _, _, rfl, .tail _ (.tail _ (.tail _ (.tail _ (.tail _ (.tail _ (.tail _ (.tail _ (.head _)))))))), q1, b10'⟩
    | 1, _ => exact ⟨tc', bo, r3, _, _, _, _, rfl, .tail _ (.tail _ (.tail _ (.tail _ (.tail _ (.head _))))), q2, by
        rw [lsetO_or, ← qf_union]
        exact b10'⟩
    | 2, _ => exact ⟨te, -one, r4, _, _, _, _, rfl, .tail _ (.tail _ (.tail _ (.tail _ (.head _)))), q3, (D10 _ (.tail _ (.tail _ (.head _)))).not⟩
    | 3, _ => exact ⟨tg', jo, r6, _, _, _, _, rfl, .tail _ (.tail _ (.tail _ (.head _))), q4, by rw [qf_jn]; exact j10⟩
    | 4, _ => exact ⟨ti', r7, r9, _, _, _, _, rfl, .tail _ (.tail _ (.head _)), q5, by rw [qf_jn_free (qf_isfree _ _ _)]; exact e7.ext ((g8.e.trans g9.e).trans g10.e)⟩
    | 5, _ => exact ⟨tk', two, r10, _, _, _, _, rfl, .tail _ (.head _), q6, d2'⟩
end
end
section
open PySem PySem.W PyProof.Rows PySem.Calls
set_option maxRecDepth 100000
set_option maxHeartbeats 8000000
section
variable {N : Nm} {W : Wd} {Ψ : Frm hd.heap_1_1 N W} {vals : Vals} {b : Mg} {σ : Sg} {Rl : Led} {sa : Addr}
theorem perm_sum : ∀ (a b c d : Fin 4), a ≠ b → a ≠ c → a ≠ d → b ≠ c → b ≠ d → c ≠ d → ∀ r : Fin 16, ((if r.val.testBit a.val then 2 ^ a.val else 0) + ((if r.val.testBit b.val then 2 ^ b.val else 0) + ((if r.val.testBit c.val then 2 ^ c.val else 0) + ((if r.val.testBit d.val then 2 ^ d.val else 0) + 0)))) = r.val := by decide +kernel
theorem rsum_asg {od : List Int} (O : Od 4 od) {r : Nat} (hr : r < 16) : rsum od 4 0 (asg 4 od r) = r := by
  obtain ⟨a1, a2, _⟩ := O.plc_ok (j := 0) (by first | decide | lia | omega) (by first | decide | lia | omega)
  obtain ⟨b1, b2, _⟩ := O.plc_ok (j := 1) (by first | decide | lia | omega) (by first | decide | lia | omega)
  obtain ⟨c1, c2, _⟩ := O.plc_ok (j := 2) (by first | decide | lia | omega) (by first | decide | lia | omega)
  obtain ⟨d1, d2, _⟩ := O.plc_ok (j := 3) (by first | decide | lia | omega) (by first | decide | lia | omega)
  have ea : asg 4 od r 0 = r.testBit (plc od 0) := by unfold asg; rw [if_pos (by first | decide | lia | omega)]
  have eb : asg 4 od r 1 = r.testBit (plc od 1) := by unfold asg; rw [if_pos (by first | decide | lia | omega)]
  have ec : asg 4 od r 2 = r.testBit (plc od 2) := by unfold asg; rw [if_pos (by first | decide | lia | omega)]
  have ed : asg 4 od r 3 = r.testBit (plc od 3) := by unfold asg; rw [if_pos (by first | decide | lia | omega)]
  have := perm_sum ⟨plc od 0, a1⟩ ⟨plc od 1, b1⟩ ⟨plc od 2, c1⟩ ⟨plc od 3, d1⟩ (fun e => by have := congrArg (fun x => lev od x.val) e; simp only [a2, b2] at this; omega) (fun e => by have := congrArg (fun x => lev od x.val) e; simp only [a2, c2] at this; omega)
    (fun e => by have := congrArg (fun x => lev od x.val) e; simp only [a2, d2] at this; omega) (fun e => by have := congrArg (fun x => lev od x.val) e; simp only [b2, c2] at this; omega) (fun e => by have := congrArg (fun x => lev od x.val) e; simp only [b2, d2] at this; omega)
    (fun e => by have := congrArg (fun x => lev od x.val) e; simp only [c2, d2] at this; omega) ⟨r, hr⟩
  rw [rsum_succ, rsum_succ, rsum_succ, rsum_succ]
  show (if asg 4 od r 0 then 2 ^ plc od 0 else 0) + ((if asg 4 od r 1 then 2 ^ plc od 1 else 0) + ((if asg 4 od r 2 then 2 ^ plc od 2 else 0) + ((if asg 4 od r 3 then 2 ^ plc od 3 else 0) + 0))) = r
  rw [ea, eb, ec, ed]
  exact this
theorem made_tb {od : List Int} (O : Od 4 od) {N : Nat} (hN : N < 65536) : tb 4 od (fun a => N.testBit (0 + rsum od 4 0 a)) = N := by
  refine (bits_eq (n := 2 ^ 4) hN fun i hi => ?_).symm
  show N.testBit i = N.testBit (0 + rsum od 4 0 (asg 4 od i))
  rw [rsum_asg O hi, Nat.zero_add]
theorem segB {Ψ : Frm hd.heap_1_1 NL W} (hr : Room Ψ.A 30) {od : List Int} {ev : Bool} {c d N1 N2 : Nat} {tf tg tc td : Tok} {c1 c2 : Addr} {oc1 oc2 : Obj} {o0 o3 o4 o5 o6 o8 o9 o10 o11 o12 o13 o14 o15 o17 o18 o19 o20 o21 o22 o23 o24 o25 o26 o27 o28 o29 o30 o31 o32 o33 o34 o35 o36 o37 o38 o39 : Option Value} {R0 : Led}
    (hck1 : Ψ.env.kindOf "chosen" = some .cell) (hlk1 : Ψ.env.cells.lookup ("chosen" : Str) = some c1) (hck2 : Ψ.env.kindOf "other" = some .cell) (hlk2 : Ψ.env.cells.lookup ("other" : Str) = some c2)
    (hc1 : (c1, oc1) ∈ Rl) (hc2 : (c2, oc2) ∈ Rl) (hd1 : oc1.data = .cell (some (.int c tc))) (hd2 : oc2.data = .cell (some (.int d td)))
    (hN1 : N1 < 65536) (hN2 : N2 < 65536)
    (G : Good W sa b σ) (F : Full σ) (hod : σ.order = od) (cap : Cap σ 60000) (hR : ∀ x ∈ R0, x ∈ Rl) :
    WA Ψ (execs (fn555.body.drop 14) Ψ.env) (fun f _ l => f = .ret (.bool true) ∧ ∀ x ∈ R0, x ∈ l) (o0 :: some (.bool ev) :: some (.ref sa) :: o3 :: o4 :: o5 :: o6 :: some (.int (N1 : Int) tf) :: o8 :: o9 :: o10 :: o11 :: o12 :: o13 :: o14 :: o15 :: some (.int (N2 : Int) tg) :: o17 :: o18 :: o19 :: o20 :: o21 :: o22 :: o23 :: o24 :: o25 :: o26 :: o27 :: o28 :: o29 :: o30 :: o31 :: o32 :: o33 :: o34 :: o35 :: o36 :: o37 :: o38 :: o39 :: []) (mgL b ++ Rl) := by
  have O := F.od
  rw [hod] at O
  have at0 := G.at'
  have hs := G.hs
  have hh := hr.hh
  dsimp only [fn555, mkFn, List.drop]
  kd_p; kl_no; kit_at
  refine Mine.L.funR (by nest_cls) (g_made _) ?_; intro _
  kit_is; kit_is; kit_nb; kst_p; kit_nb; kst_p; kit_tp
  refine made_c 4 _ Ψ _ b σ _ 0 N1 0 _ _ _ _ G (hr.less (by first | decide | lia | omega)) F (by first | decide | lia | omega) (by first | decide | lia | omega) (by first | decide | lia | omega) (cap.less (by first | decide | lia | omega)) fun tu b1 σ1 u G1 g1 _ d1 => ?_
  have at1 := G1.at'
  have hs1 := G1.hs
  kmb_kw; kcf_m; kd_p; kl_no; kit_at
  refine Mine.L.funR (by nest_cls) (g_made _) ?_; intro _
  kit_is; kit_is; kit_nb; kst_p; kit_nb; kst_p; kit_tp
  refine made_c 4 _ Ψ _ b1 σ1 _ 0 N2 0 _ _ _ _ G1 (hr.less (by first | decide | lia | omega)) (F.ext g1.e) (by first | decide | lia | omega) (by first | decide | lia | omega) (by first | decide | lia | omega) (Cap.after (c := 2 ^ 4 - 1) (cap.less (by first | decide | lia | omega)) g1) fun tv b2 σ2 v G2 g2 _ d2 => ?_
  have at2 := G2.at'
  have hs2 := G2.hs
  have g02 := g1.trans g2
  rw [hod] at d1
  rw [g1.e.ord, hod] at d2
  have m1 := made_tb O hN1
  have m2 := made_tb O hN2
  replace d1 := d1.ext g2.e
  have F2 := F.ext g02.e
  have hod2 : σ2.order = od := by rw [g02.e.ord]; exact hod
  have cap2 : Cap σ2 59000 := Cap.after (c := 2 ^ 4 - 1 + (2 ^ 4 - 1)) (cap.less (by first | decide | lia | omega)) g02
  generalize (fun a => N1.testBit (0 + rsum od 4 0 a)) = fu at d1 m1
  generalize (fun a => N2.testBit (0 + rsum od 4 0 a)) = fv at d2 m2
  subst m1 m2
  clear cap g02 g1 g2 F hod G G1 at0 at1 hs hs1
  kmb_kw; kcf_m; kd_p
  refine comp_ok (hr.less (by first | decide | lia | omega)) ?a1 ?a2 ?a3 ?a4 hck1 hlk1 hc1 hd1 (by decide) ?a5 ?a6 ?a7 fun nl vn n0 hni => ⟨?a9, ?a8, ?a10, ?_⟩
  case a1 => rfl
  case a2 => rfl
  case a3 => kernel_rfl!
  case a5 => kernel_rfl!
  case a6 => rfl
  case a7 => decide +kernel
  case a8 => tlg_ne
  case a10 => fold_depth
  case a4 => nest_cls
  kcf_m; kd_p
  refine comp_ok (hr.less (by first | decide | lia | omega)) ?b1 ?b2 ?b3 ?b4 hck2 hlk2 (.tail _ hc2) hd2 (by decide) ?b5 ?b6 ?b7 fun ml vm n1 hmi => ⟨?b9, ?b8, ?b10, ?_⟩
  case b1 => rfl
  case b2 => rfl
  case b3 => kernel_rfl!
  case b5 => kernel_rfl!
  case b6 => rfl
  case b7 => decide +kernel
  case b8 => tlg_ne
  case b10 => fold_depth
  case b4 => nest_cls
  kcf_m; kd_p; kl_no; kcu_lt; kfm_eq; kd_in; ks_any
  refine R.joinV (fun x vals' l' => ∃ t, x = .str (if ev then "and" else "or") t ∧ vals' = (o0 :: some (.bool ev) :: some (.ref sa) :: some (.int u tu) :: o4 :: o5 :: o6 :: some (.int (tb 4 od fu : Int) tf) :: o8 :: o9 :: o10 :: o11 :: o12 :: o13 :: o14 :: some (.int v tv) :: some (.int (tb 4 od fv : Int) tg) :: some (.ref nl) :: some (.ref ml) :: o19 :: o20 :: o21 :: o22 :: o23 :: o24 :: o25 :: o26 :: o27 :: o28 :: o29 :: o30 :: o31 :: o32 :: o33 :: o34 :: o35 :: o36 :: o37 :: o38 :: o39 :: []) ∧ l' = mgL b2 ++ (ml, listOf vm.toArray n1) :: (nl, listOf vn.toArray n0) :: Rl) (R.iteB (fun h => ?_) fun h => ?_) ?_
  · subst h; kba_in
    exact ⟨_, rfl, rfl, rfl⟩
  · subst h; kba_in
    exact ⟨_, rfl, rfl, rfl⟩
  rintro _ _ _ ⟨tjo, rfl, rfl, rfl⟩
  kmb_kw; kcf_m; kd_p; kl_no; kcu_lt; kfm_eq; kd_in; ks_any
  refine R.joinV (fun x vals' l' => ∃ t, x = .str (if ev then "or" else "and") t ∧ vals' = (o0 :: some (.bool ev) :: some (.ref sa) :: some (.int u tu) :: o4 :: o5 :: o6 :: some (.int (tb 4 od fu : Int) tf) :: o8 :: o9 :: o10 :: o11 :: o12 :: o13 :: o14 :: some (.int v tv) :: some (.int (tb 4 od fv : Int) tg) :: some (.ref nl) :: some (.ref ml) :: o19 :: o20 :: o21 :: o22 :: o23 :: o24 :: o25 :: o26 :: some (.str (if ev then "and" else "or") tjo) :: o28 :: o29 :: o30 :: o31 :: o32 :: o33 :: o34 :: o35 :: o36 :: o37 :: o38 :: o39 :: []) ∧ l' = mgL b2 ++ (ml, listOf vm.toArray n1) :: (nl, listOf vn.toArray n0) :: Rl) (R.iteB (fun h => ?_) fun h => ?_) ?_
  · subst h; kba_in
    exact ⟨_, rfl, rfl, rfl⟩
  · subst h; kba_in
    exact ⟨_, rfl, rfl, rfl⟩
  rintro _ _ _ ⟨tme, rfl, rfl, rfl⟩
  kmb_kw; kcf_m; kd_p; kl_no; kit_at
  refine Mine.L.funR (by nest_cls) (g_over _) ?_; intro _
  kit_is; kit_is; kit_is; kit_is; kit_tp
  refine over_d (od := od) G2 (hr.less (by first | decide | lia | omega)) (cap2.less (by first | decide | lia | omega)) F2 hod2 d1 (.tail _ (.head _)) hni fun t1 b3 σ3 one G3 g3 e3 => ?_
  have at3 := G3.at'
  have hs3 := G3.hs
  kmb_kw; kcf_m; kd_p; kl_no; kit_at
  refine Mine.L.funR (by nest_cls) (g_over _) ?_; intro _
  kit_is; kit_is; kit_is; kit_is; kit_tp
  refine over_d (od := od) G3 (hr.less (by first | decide | lia | omega)) (Cap.after (c := 2048) (cap2.less (by first | decide | lia | omega)) g3) (F2.ext g3.e) (by rw [g3.e.ord]; exact hod2) (d2.ext g3.e) (.tail _ (.head _)) hni fun t2 b4 σ4 two G4 g4 e4 => ?_
  have at4 := G4.at'
  have hs4 := G4.hs
  have g34 := g3.trans g4
  kmb_kw; kcf_m; kd_p; kl_no; kit_at
  refine Mine.L.funR (by nest_cls) (g_over _) ?_; intro _
  kit_is; kit_is; kit_is; kit_is; kit_tp
  refine over_d (od := od) G4 (hr.less (by first | decide | lia | omega)) (Cap.after (c := 2048 + 2048) (cap2.less (by first | decide | lia | omega)) g34) (F2.ext g34.e) (by rw [g34.e.ord]; exact hod2) (e3.ext g4.e) (.head _) hmi fun tb0 b5 σ5 bo G5 g5 e5 => ?_
  have at5 := G5.at'
  have hs5 := G5.hs
  have g35 := g34.trans g5
  kmb_kw; kcf_m; kd_p; kl_no; kit_at
  refine Mine.L.funR (by nest_cls) (g_thrown _) ?_; intro _
  kit_is; kit_nb
  refine WA.cellN Ψ.e.kind hck1 hlk1 (List.mem_append_right _ (.tail _ (.tail _ hc1))) hd1 (by decide) ?_
  kit_is; kit_tp
  refine thrown_c O (hr.less (by first | decide | lia | omega)) fun th => ?_
  kmb_kw; kcf_m; kd_p; kl_no; kit_at
  refine Mine.L.funR (by nest_cls) (g_thrown _) ?_; intro _
  kit_is; kit_nb
  refine WA.cellN Ψ.e.kind hck1 hlk1 (List.mem_append_right _ (.tail _ (.tail _ hc1))) hd1 (by decide) ?_
  kit_is; kit_tp
  refine thrown_c O (hr.less (by first | decide | lia | omega)) fun tk => ?_
  kmb_kw; kcf_m; kd_p; kl_no; kin_no; kd_in; ksp_in; kit_is; kit_is; kit_is; kit_tp
  refine join_c G5 (hr.less (by first | decide | lia | omega)) (Cap.after (c := 2048 + 2048 + 2048) (cap2.less (by first | decide | lia | omega)) g35) (e3.ext (g4.e.trans g5.e)) (e4.ext g5.e) fun tj b6 σ6 jo G6 g6 e6 => ?_
  have g36 := g35.trans g6
  kmb_kw; kcf_m
  refine segC hr hck1 hlk1 hck2 hlk2 (.tail _ (.tail _ hc1)) (.tail _ (.tail _ hc2)) hd1 hd2 (.tail _ (.head _)) hni (.head _) hmi G6 (F2.ext g36.e) (by rw [g36.e.ord]; exact hod2) (Cap.after (c := 2048 + 2048 + 2048 + 64) (cap2.less (by first | decide | lia | omega)) g36) ?_ (fun x hx => .tail _ (.tail _ (hR x hx)))
  exact .cons (d1.ext g36.e) (.cons (d2.ext g36.e) (.cons (e3.ext ((g4.e.trans g5.e).trans g6.e)) (.cons (e4.ext (g5.e.trans g6.e)) (.cons e6 (.cons (e5.ext g6.e) (.nil _))))))
end
end
section
open PySem PySem.W PyProof.Rows PySem.Calls
set_option maxRecDepth 100000
set_option maxHeartbeats 8000000
section
variable {N : Nm} {W : Wd} {Ψ : Frm hd.heap_1_1 N W} {vals : Vals} {b : Mg} {σ : Sg} {Rl : Led} {sa : Addr}
theorem nat_mod {a : Int} {n : Nat} (hn : 0 < n) : ∃ k : Nat, k < n ∧ Int.fmod a (n : Int) = (k : Int) := by
  have h1 := Int.fmod_eq_emod_of_nonneg a (b := (n : Int)) (by first | decide | lia | omega)
  have h2 := Int.emod_nonneg a (b := (n : Int)) (by first | decide | lia | omega)
  have h3 := Int.emod_lt_of_pos a (b := (n : Int)) (by first | decide | lia | omega)
  exact ⟨(Int.fmod a n).toNat, by first | decide | lia | omega, by first | decide | lia | omega⟩
theorem nat_div {s : Int} (h0 : 0 ≤ s) (h1 : s < 4294967296) : ∃ k : Nat, k < 65536 ∧ Int.fdiv s 65536 = (k : Int) := by
  have h2 := Int.fdiv_eq_ediv_of_nonneg s (b := 65536) (by first | decide | lia | omega)
  exact ⟨(s / 65536).toNat, by first | decide | lia | omega, by first | decide | lia | omega⟩
theorem xor_le {x y : Nat} : x &&& y ≤ x ||| y := Nat.le_trans Nat.and_le_left Nat.left_le_or
theorem bxor_nat (x y : Nat) : Builtin.bitXor (x : Int) (y : Int) = (((x ||| y) - (x &&& y) : Nat) : Int) := by
  unfold Builtin.bitXor
  rw [bor_nat, band_nat]
  have := xor_le (x := x) (y := y)
  omega
noncomputable def NatsAre (xs : List Value) (Ns : List Nat) : Prop := IntsAre xs (Ns.map fun (N : Nat) => ((N : Nat) : Int)) ∧ ∀ N ∈ Ns, N < 65536
theorem segA3 {Ψ : Frm hd.heap_1_1 NL W} (hr : Room Ψ.A 30) {ev : Bool} {c d n0 : Nat} {kd s0 s1 : Int} {tkd ts0 ts1 tc td : Tok} {c1 c2 se : Addr} {oc1 oc2 : Obj} {o0 o3 o4 o5 o6 o7 o8 o9 o10 o11 o12 o13 o14 o15 o16 o17 o18 o19 o20 o21 o22 o23 o24 o25 o26 o27 o28 o30 o31 o33 o34 o35 o36 o37 o38 o39 : Option Value} {R0 : Led}
    (hck1 : Ψ.env.kindOf "chosen" = some .cell) (hlk1 : Ψ.env.cells.lookup ("chosen" : Str) = some c1) (hck2 : Ψ.env.kindOf "other" = some .cell) (hlk2 : Ψ.env.cells.lookup ("other" : Str) = some c2) (hc1 : (c1, oc1) ∈ Rl) (hc2 : (c2, oc2) ∈ Rl) (hd1 : oc1.data = .cell (some (.int c tc))) (hd2 : oc2.data = .cell (some (.int d td))) (hse : (se, listOf [.int s0 ts0, .int s1 ts1].toArray n0) ∈ Rl) (h00 : 0 ≤ s0) (h01 : s0 < 4294967296) (h10 : 0 ≤ s1) (h11 : s1 < 4294967296)
    (G : Good W sa b σ) (F : Full σ) (cap : Cap σ 60000) (hR : ∀ x ∈ R0, x ∈ Rl) :
    WA Ψ (execs (fn555.body.drop 11) Ψ.env) (fun f _ l => f = .ret (.bool true) ∧ ∀ x ∈ R0, x ∈ l) (o0 :: some (.bool ev) :: some (.ref sa) :: o3 :: o4 :: o5 :: o6 :: o7 :: o8 :: o9 :: o10 :: o11 :: o12 :: o13 :: o14 :: o15 :: o16 :: o17 :: o18 :: o19 :: o20 :: o21 :: o22 :: o23 :: o24 :: o25 :: o26 :: o27 :: o28 :: some (.ref se) :: o30 :: o31 :: some (.int kd tkd) :: o33 :: o34 :: o35 :: o36 :: o37 :: o38 :: o39 :: []) (mgL b ++ Rl) := by
  have at0 := G.at'
  have hs := G.hs
  have hh := hr.hh
  dsimp only [fn555, mkFn, List.drop]
  kd_p; kl_no
  refine Mine.L.list rfl ?_; intro _
  kit_tp
  refine Mine.L.newList (vs := []) (fits_of (n := 0) (by first | decide | lia | omega)) fun tl => ?_; intro _
  kmb_kw; kcf_m; kd_p; kt_key; kit_at; ksr_p; kln_le; kit_nb; kst_p; kit_tp
  refine WA.range1 (M := mgL b) fun rg q1 q2 => ?_
  refine WA.rangeIterM (M := mgL b) (.head _) (by decide) fun it => ?_
  refine WC.sublist (mgL b ++ (it, rangeItObj 0 (Builtin.Range.rangeSize 0 2 1) 1) :: (tl, listOf [].toArray 0) :: Rl) (List.Sublist.append (List.Sublist.refl _) (List.Sublist.cons₂ _ (List.sublist_cons_self _ _))) ?_
  refine WC.inv (fun m vals' l' => Ex8 fun (i n : Nat) (xs : List Value) (Ns : List Nat) (x_place x_upper x_lower x_thin : Option Value) => An6 (m = 2 - i) (i ≤ 2) (Ns.length = i) (NatsAre xs Ns) (vals' = (o0 :: some (.bool ev) :: some (.ref sa) :: o3 :: o4 :: o5 :: o6 :: o7 :: o8 :: o9 :: o10 :: o11 :: o12 :: o13 :: o14 :: o15 :: o16 :: o17 :: o18 :: o19 :: o20 :: o21 :: o22 :: o23 :: o24 :: o25 :: o26 :: o27 :: o28 :: some (.ref se) :: x_place :: o31 :: some (.int kd tkd) :: o33 :: o34 :: o35 :: some (.ref tl) :: x_upper :: x_lower :: x_thin :: [])) (l' = mgL b ++ (it, rangeItObj i (2 - i) 1) :: (tl, listOf xs.toArray n) :: Rl)) ?_ 2 ⟨0, 0, [], [], _, _, _, _, rfl, by first | decide | lia | omega, rfl, ⟨.nil, by simp⟩, rfl, rfl⟩
  rintro m _ _ ⟨i, n, xs, Ns, x_place, x_upper, x_lower, x_thin, hm, hi, hNl, hN, rfl, rfl⟩ again
  refine Mine.WC.letV ?_; intro vv
  have hxl : xs.length = i := by rw [ints_len hN.1, List.length_map, hNl]
  by_cases hi2 : i = 2
  · subst hi2
    refine WC.for1 (WA.rangeEndM (M := mgL b) hh (by first | decide | lia | omega) ?_)
    refine R.turnN (WA.exNil (R.next ?_))
    match Ns, hNl with
    | [N1, N2], _ =>
      obtain ⟨hx, hb⟩ := hN
      have hb1 := hb N1 (by simp)
      have hb2 := hb N2 (by simp)
      clear hb again
      simp only [List.map_cons, List.map_nil] at hx
      cases hx with | cons _ tf hx =>
      cases hx with | cons _ tg hx =>
      cases hx
      kd_p
      refine Mine.L.asT rfl rfl ?_; intro _
      kd_in
      refine R.unpL (vs := [.int N1 tf, .int N2 tg]) hh (List.mem_append_right _ (.head _)) rfl rfl ?_
      kts_nm; kmb_kw; kts_nm; kmb_kw; ktyn_q; kcf_m
      exact segB hr hck1 hlk1 hck2 hlk2 (.tail _ hc1) (.tail _ hc2) hd1 hd2 hb1 hb2 G F rfl cap fun x hx => .tail _ (hR x hx)
  have hlt : i < 2 := by first | decide | lia | omega
  obtain ⟨si, tsi, hsi, h0i, h1i⟩ : ∃ s t, ([Value.int s0 ts0, .int s1 ts1])[i]? = some (.int s t) ∧ 0 ≤ s ∧ s < 4294967296 := by
    match i, hlt with
    | 0, _ => exact ⟨s0, ts0, rfl, h00, h01⟩
    | 1, _ => exact ⟨s1, ts1, rfl, h10, h11⟩
  obtain ⟨U, hU, eU⟩ := nat_div h0i h1i
  obtain ⟨L, hL, eL⟩ := nat_mod (a := si) (n := 65536) (by first | decide | lia | omega)
  have hor : U ||| L < 65536 := Nat.or_lt_two_pow (n := 16) hU hL
  refine WC.for1 (WA.rangeNextM (M := mgL b) (by first | decide | lia | omega) fun ti => ?_)
  kst_p1; kt_chr; kt_eqs; kmb_kw; kd_p
  refine Mine.L.asT rfl rfl ?_; intro _
  kit_at; ksr_p; kle_go; kit_nb; kfm_hd; kd_in; kd_in
  refine WA.lGet (vs := [_, _]) (List.mem_append_right _ (.tail _ (.tail _ hse))) (by first | decide | lia | omega) (by first | decide | lia | omega) (by rw [Int.toNat_natCast]; exact hsi) ?_
  kit_nb; kst_p; kit_tp
  refine WA.divmod (M := mgL b) (by decide) (by decide) fun dm t1 t2 => ?_
  rw [eU, show Int.fmod si 65536 = (L : Int) from eL]
  refine M.unpD hh rfl rfl ?_
  kts_nm; kmb_kw; kts_nm; kmb_kw; ktyn_q; kcf_m; kd_p; kl_no; kcu_lt; kfm_eq; kd_in; ks_any
  refine R.joinV (fun x vals' l' => Ex2 fun (N : Nat) (t : Tok) => An4 (x = .int N t) (N < 65536) (vals' = (o0 :: some (.bool ev) :: some (.ref sa) :: o3 :: o4 :: o5 :: o6 :: o7 :: o8 :: o9 :: o10 :: o11 :: o12 :: o13 :: o14 :: o15 :: o16 :: o17 :: o18 :: o19 :: o20 :: o21 :: o22 :: o23 :: o24 :: o25 :: o26 :: o27 :: o28 :: some (.ref se) :: some (.int i ti) :: o31 :: some (.int kd tkd) :: o33 :: o34 :: o35 :: some (.ref tl) :: some (.int U t1) :: some (.int L t2) :: x_thin :: [])) (l' = mgL b ++ (it, rangeItObj (i + 1) (2 - i - 1) 1) :: (tl, listOf xs.toArray n) :: Rl)) (R.iteB (fun h => ?_) fun h => ?_) ?_
  · kbe_in; kd_in; kd_in
    refine WA.bor fun t => ?_
    exact ⟨U ||| L, t, by rw [bor_nat], hor, rfl, rfl⟩
  · kbe_in; kd_in; kd_in
    refine WA.band fun t => ?_
    exact ⟨U &&& L, t, by rw [band_nat], Nat.lt_of_le_of_lt Nat.and_le_left hU, rfl, rfl⟩
  rintro _ _ _ ⟨T, tt, rfl, hT, rfl, rfl⟩
  kmb_kw; kcf_m; kd_p; ks_is; kin_no; kd_in
  refine WA.lMeth (vs := xs) (n := n) (List.mem_append_right _ (.tail _ (.head _))) PySem.F.slot_list_append PySem.F.type_list_append ?_
  kl_lit; kit_nb; kcu_lt; kd_adr; kbe_in; kbe_in; kd_in; kbe_in; kst_p; kd_in
  refine WA.pow2 (by first | decide | lia | omega) (by first | decide | lia | omega) fun _ => ?_
  refine WA.fdivP (by have := Int.pow_pos (n := 2) (m := ((i : Int)).toNat) (by decide); omega) (pylong_pow _ _ (by first | decide | lia | omega)) fun _ => ?_
  kst_p
  refine WA.mod (by decide) fun _ => ?_
  kst_p; kpc_eq; ks_any
  refine R.joinV (fun x vals' l' => Ex2 fun (N : Nat) (t : Tok) => An4 (x = .int N t) (N < 65536) (vals' = (o0 :: some (.bool ev) :: some (.ref sa) :: o3 :: o4 :: o5 :: o6 :: o7 :: o8 :: o9 :: o10 :: o11 :: o12 :: o13 :: o14 :: o15 :: o16 :: o17 :: o18 :: o19 :: o20 :: o21 :: o22 :: o23 :: o24 :: o25 :: o26 :: o27 :: o28 :: some (.ref se) :: some (.int i ti) :: o31 :: some (.int kd tkd) :: o33 :: o34 :: o35 :: some (.ref tl) :: some (.int U t1) :: some (.int L t2) :: some (.int T tt) :: [])) (l' = mgL b ++ (it, rangeItObj (i + 1) (2 - i - 1) 1) :: (tl, listOf xs.toArray n) :: Rl)) (R.iteB (fun h => ?_) fun h => ?_) ?_
  · kbe_in; kd_in; kd_in
    refine WA.bxor fun t => ?_
    exact ⟨(U ||| L) - (U &&& L), t, by rw [bxor_nat], by first | decide | lia | omega, rfl, rfl⟩
  · kd_in
    exact ⟨T, tt, rfl, hT, rfl, rfl⟩
  rintro _ _ _ ⟨N, tn, rfl, hN0, rfl, rfl⟩
  kit_tp
  refine WA.lAppend (pre := mgL b ++ [(it, rangeItObj (i + 1) (2 - i - 1) 1)]) (post := Rl) (vs := xs) (n := n) (by simp) (by first | decide | lia | omega) ?_
  rw [List.append_assoc]
  kcf_m; kt_k; ksp_lk
  have e1 : (i : Int) + 1 = ((i + 1 : Nat) : Int) := by push_cast; rfl
  have e2 : (2 : Int) - i - 1 = 2 - ((i + 1 : Nat) : Int) := by push_cast; omega
  rw [e2, e1]
  exact again (2 - (i + 1)) _ _ (by first | decide | lia | omega) ⟨i + 1, n + 1, _, Ns ++ [N], _, _, _, _, rfl, hlt, by simp [hNl], ⟨by rw [List.map_append]; exact ints_append hN.1 (.cons _ _ .nil), fun y hy => by
    rcases List.mem_append.mp hy with hy | hy
    · exact hN.2 y hy
    · rw [List.mem_singleton.mp hy]; exact hN0⟩, rfl, rfl⟩
end
end
section
open PySem PySem.W PyProof.Rows PySem.Calls
set_option maxRecDepth 100000
set_option maxHeartbeats 8000000
section
variable {N : Nm} {W : Wd} {Ψ : Frm hd.heap_1_1 N W} {vals : Vals} {b : Mg} {σ : Sg} {Rl : Led} {sa : Addr}
noncomputable abbrev U0 : List Int := [101, 102, 103, 104]
theorem full_of {od : List Int} (h : (od ++ []).Perm U0) : Full (Sg.bare od) := by
  rw [List.append_nil] at h
  refine ⟨fun x => ?_, h.length_eq⟩
  show x ∈ U1 ↔ x ∈ od
  rw [h.mem_iff]
  simp only [U0, U1, List.mem_cons, List.not_mem_nil, or_false]
  omega
theorem ints_erase {vs : List Value} {ns : List Int} (h : IntsAre vs ns) (k : Nat) : IntsAre (vs.eraseIdx k) (ns.eraseIdx k) := by
  induction h generalizing k with
  | nil => exact .nil
  | cons n t hr ih =>
    cases k with
    | zero => exact hr
    | succ k => exact .cons n t (ih k)
theorem segA2 {Ψ : Frm hd.heap_1_1 NL W} (hr : Room Ψ.A 30) {ev : Bool} {c d n0 : Nat} {kd s0 s1 nb : Int} {tkd ts0 ts1 tc td tnb : Tok} {c1 c2 se : Addr} {oc1 oc2 : Obj} {o0 o2 o3 o4 o5 o6 o7 o8 o9 o10 o11 o12 o13 o14 o15 o16 o17 o18 o19 o20 o21 o22 o23 o24 o25 o26 o27 o28 o30 o31 o34 o35 o36 o37 o38 o39 : Option Value} {R0 : Led}
    (hck1 : Ψ.env.kindOf "chosen" = some .cell) (hlk1 : Ψ.env.cells.lookup ("chosen" : Str) = some c1) (hck2 : Ψ.env.kindOf "other" = some .cell) (hlk2 : Ψ.env.cells.lookup ("other" : Str) = some c2) (hc1 : (c1, oc1) ∈ Rl) (hc2 : (c2, oc2) ∈ Rl) (hd1 : oc1.data = .cell (some (.int c tc))) (hd2 : oc2.data = .cell (some (.int d td))) (hse : (se, listOf [.int s0 ts0, .int s1 ts1].toArray n0) ∈ Rl) (h00 : 0 ≤ s0) (h01 : s0 < 4294967296) (h10 : 0 ≤ s1) (h11 : s1 < 4294967296)
    (hR : ∀ x ∈ R0, x ∈ Rl) :
    WA Ψ (execs (fn555.body.drop 8) Ψ.env) (fun f _ l => f = .ret (.bool true) ∧ ∀ x ∈ R0, x ∈ l) (o0 :: some (.bool ev) :: o2 :: o3 :: o4 :: o5 :: o6 :: o7 :: o8 :: o9 :: o10 :: o11 :: o12 :: o13 :: o14 :: o15 :: o16 :: o17 :: o18 :: o19 :: o20 :: o21 :: o22 :: o23 :: o24 :: o25 :: o26 :: o27 :: o28 :: some (.ref se) :: o30 :: o31 :: some (.int kd tkd) :: some (.int nb tnb) :: o34 :: o35 :: o36 :: o37 :: o38 :: o39 :: []) Rl := by
  have hh := hr.hh
  dsimp only [fn555, mkFn, List.drop]
  kd_p; kl_no; kit_at
  refine Mine.L.funR (by nest_cls) (g_BDD _) ?_; intro _
  kit_tp
  refine bdd_c (hr.less (by first | decide | lia | omega)) fun sa b G => ?_
  kmb_kw; kcf_m; kd_p; kl_no
  refine Mine.L.list rfl ?_; intro _
  kit_nb; kst_p; kit_nb; kst_p; kit_nb; kst_p; kit_nb; kst_p; kit_tp
  refine Mine.L.newList (fits_of (n := 4) (by first | decide | lia | omega)) fun wl => ?_; intro _
  kmb_kw; kcf_m; kd_p; kt_len
  refine WC.inv (fun m vals' l' => Ex9 fun (b : Mg) (xs : List Value) (rest od : List Int) (n : Nat) (x_number x_size : Option Value) (nb : Int) (tnb : Tok) => An7 (m = rest.length) (Good W sa b (Sg.bare od)) (IntsAre xs rest) ((od ++ rest).Perm U0) (x_number = some (.int nb tnb)) (vals' = (o0 :: some (.bool ev) :: some (.ref sa) :: o3 :: o4 :: o5 :: o6 :: o7 :: o8 :: o9 :: o10 :: o11 :: o12 :: o13 :: o14 :: o15 :: o16 :: o17 :: o18 :: o19 :: o20 :: o21 :: o22 :: o23 :: o24 :: o25 :: o26 :: o27 :: o28 :: some (.ref se) :: o30 :: o31 :: some (.int kd tkd) :: x_number :: some (.ref wl) :: x_size :: o36 :: o37 :: o38 :: o39 :: [])) (l' = mgL b ++ (wl, listOf xs.toArray n) :: Rl)) ?_ 4 ⟨b, _, U0, [], 0, _, _, nb, tnb, rfl, G, .cons _ _ (.cons _ _ (.cons _ _ (.cons _ _ .nil))), .refl _, rfl, rfl, rfl⟩
  clear G
  rintro m _ _ ⟨b, xs, rest, od, n, x_number, x_size, nb, tnb, hm, G, hxs, hp, rfl, rfl, rfl⟩ again
  refine Mine.WC.letV ?_; intro vv
  have hxl := ints_len hxs
  have hpl := hp.length_eq
  rw [List.length_append] at hpl
  simp only [U0, List.length_cons, List.length_nil] at hpl
  have at0 := G.at'
  have hs := G.hs
  refine WC.while1 ?_
  kfm_eq; kd_in
  refine WA.trList (vs := xs) (List.mem_append_right _ (.head _)) (by first | decide | lia | omega) ?_
  by_cases hr0 : rest = []
  · subst hr0
    have : xs = [] := List.length_eq_zero_iff.mp hxl
    subst this
    rw [show (!([] : List Value).isEmpty) = false from rfl]
    refine R.iteF rfl (WA.exNil (R.next ?_))
    exact segA3 hr hck1 hlk1 hck2 hlk2 (.tail _ hc1) (.tail _ hc2) hd1 hd2 (.tail _ hse) h00 h01 h10 h11 G (full_of hp) ⟨by simp [Sg.bare], by simp [Sg.bare], by show od.length ≤ 5; simp at hpl; omega⟩ fun x hx => .tail _ (hR x hx)
  · have hrl : 0 < rest.length := List.length_pos_iff.mpr hr0
    have : (!xs.isEmpty) = true := by
      cases xs with
      | nil => rw [List.length_nil] at hxl; omega
      | cons _ _ => rfl
    rw [this]
    kwk_ne; kd_p; kl_no; kit_at; ksr_p; kle_go; kit_is; kit_tp
    refine WA.lLen (vs := xs) (n := n) (List.mem_append_right _ (.head _)) (by first | decide | lia | omega) fun tsz => ?_
    rw [hxl]
    kmb_kw; kcf_m; kd_p; ks_is; kin_no; kd_in; ksp_in; kit_nb; kin_no; kd_in
    refine WA.lMeth (vs := xs) (n := n) (List.mem_append_right _ (.head _)) PySem.F.slot_list_pop PySem.F.type_list_pop ?_
    kl_lit; kit_nb; kbe_in; kd_in; kd_in
    refine WA.mod (by first | decide | lia | omega) fun tmd => ?_
    obtain ⟨k, hk, ek⟩ := nat_mod (a := nb) (n := rest.length) hrl
    rw [ek]
    obtain ⟨tx, hx⟩ := ints_get hxs (List.getElem?_eq_getElem hk)
    kit_tp
    refine WA.lPopAt (pre := mgL b) (vs := xs) (n := n) (k := k) rfl rfl (by first | decide | lia | omega) hx (by first | decide | lia | omega) fun n' => ?_
    have hp2 : ((od ++ [rest[k]]) ++ rest.eraseIdx k).Perm U0 := by
      rw [List.append_assoc]
      exact (List.Perm.append_left od (getElem_eraseIdx_perm hk)).trans hp
    have hnd : ((od ++ [rest[k]]) ++ rest.eraseIdx k).Nodup := hp2.nodup_iff.mpr (by decide)
    have hnx : rest[k] ∉ od := fun h => by
      rw [List.append_assoc, List.nodup_append] at hnd
      exact hnd.2.2 _ h _ (by simp) rfl
    kit_tp
    refine add_c G (hr.less (by first | decide | lia | omega)) hnx (by first | decide | lia | omega) fun ta b' G' => ?_
    have at1 := G'.at'
    have hs1 := G'.hs
    kcf_m; kd_p; kl_no; kbe_in; kd_in; kd_in
    refine WA.fdivP (by first | decide | lia | omega) (PyProof.noPylong_small (by first | decide | lia | omega)) fun tq => ?_
    kmb_kw; kcf_m; kt_k; ksp_lk
    exact again (rest.eraseIdx k).length _ _ (by rw [List.length_eraseIdx_of_lt hk]; omega) ⟨b', xs.eraseIdx k, rest.eraseIdx k, od ++ [rest[k]], n', _, _, _, _, rfl, G', ints_erase hxs k, hp2, rfl, rfl, rfl⟩
end
end
section
open PySem PySem.W PyProof.Rows PySem.Calls
set_option maxRecDepth 100000
set_option maxHeartbeats 8000000
section
variable {N : Nm} {W : Wd} {Ψ : Frm hd.heap_1_1 N W} {vals : Vals} {b : Mg} {σ : Sg} {Rl : Led} {sa : Addr}
theorem segA1 {Ψ : Frm hd.heap_1_1 NL W} (hr : Room Ψ.A 30) {sl c1 c2 : Addr} {oc1 oc2 : Obj} {vs : List Value} {ns : List Int} {R0 : Led}
    (hck1 : Ψ.env.kindOf "chosen" = some .cell) (hlk1 : Ψ.env.cells.lookup ("chosen" : Str) = some c1) (hck2 : Ψ.env.kindOf "other" = some .cell) (hlk2 : Ψ.env.cells.lookup ("other" : Str) = some c2) (hd1 : oc1.data = .cell none) (hd2 : oc2.data = .cell none) (hS : Ψ.h.IsList sl vs.toArray) (hi : IntsAre vs ns) (hn : ns.length ≤ 63) :
    WA Ψ (execs fn555.body Ψ.env) (fun f _ l => f = .ret (.bool true) ∧ ∀ x ∈ R0, x ∈ l) (some (.ref sl) :: none :: none :: none :: none :: none :: none :: none :: none :: none :: none :: none :: none :: none :: none :: none :: none :: none :: none :: none :: none :: none :: none :: none :: none :: none :: none :: none :: none :: none :: none :: none :: none :: none :: none :: none :: none :: none :: none :: none :: []) ((c2, oc2) :: (c1, oc1) :: R0) := by
  have hh := hr.hh
  have hvl := ints_len hi
  dsimp only [fn555, mkFn]
  kd_p; kl_no
  refine Mine.L.list rfl ?_; intro _
  kit_nb; kst_p; kit_nb; kst_p; kit_tp
  refine Mine.L.newList (M := []) (fits_of (n := 2) (by first | decide | lia | omega)) fun se => ?_; intro _
  rename_i ts0 _ ts1 _
  kmb_kw; kcf_m; kd_p; kt_key; kit_at; ksr_p; kln_le; kit_nb; kit_at; ksr_p; kle_go; kit_nb; kfm_hd; kd_in
  refine WA.evSlice ?_
  kst_p
  intro xs1
  refine WA.hSlice hS (by first | decide | lia | omega) (.head _) (fun y => ?_) ⟨_, by with_unfolding_all rfl⟩ (by intro _; with_unfolding_all rfl)
  obtain ⟨ys, hys⟩ : ∃ ys : List Value, slicePick vs.toArray none (some 24) none = ys.toArray := ⟨_, (Array.toArray_toList).symm⟩
  have hyi : IntsAre ys (ns.take 24) := by
    have := slice_ints_uptoW hi (y := 24) (by first | decide | lia | omega)
    rw [hys] at this
    simpa using this
  have hyl : ys.length ≤ ns.length := by rw [ints_len hyi, List.length_take]; omega
  rw [hys]
  kit_tp
  refine WA.lLen (vs := ys) (.head _) (by first | decide | lia | omega) fun tly => ?_
  kit_tp
  refine WA.sublist ((se, listOf [.int 2745219045 ts0, .int 213933555 ts1].toArray 0) :: (c2, oc2) :: (c1, oc1) :: R0) (List.Sublist.cons _ (List.sublist_cons_self _ _)) ?_
  refine WA.range1 (M := []) fun rg q1 q2 => ?_
  have hrs : Builtin.Range.rangeSize 0 (ys.length : Int) 1 = (ys.length : Int) := by rw [rangeSize_one]; split <;> omega
  refine WA.rangeIterM (M := []) (.head _) (small_one (by first | decide | lia | omega) (by first | decide | lia | omega) (by first | decide | lia | omega) (by first | decide | lia | omega)) fun it => ?_
  rw [hrs]
  refine WC.sublist ((it, rangeItObj 0 (ys.length : Int) 1) :: (se, listOf [.int 2745219045 ts0, .int 213933555 ts1].toArray 0) :: (c2, oc2) :: (c1, oc1) :: R0) (List.Sublist.cons₂ _ (List.sublist_cons_self _ _)) ?_
  refine WC.inv (fun m vals' l' => Ex7 fun (i n : Nat) (s0 s1 : Int) (t0 t1 : Tok) (x_place : Option Value) => An8 (m = ys.length - i) (i ≤ ys.length) (0 ≤ s0) (s0 < 4294967296) (0 ≤ s1) (s1 < 4294967296) (vals' = (some (.ref sl) :: none :: none :: none :: none :: none :: none :: none :: none :: none :: none :: none :: none :: none :: none :: none :: none :: none :: none :: none :: none :: none :: none :: none :: none :: none :: none :: none :: none :: some (.ref se) :: x_place :: none :: none :: none :: none :: none :: none :: none :: none :: none :: [])) (l' = (it, rangeItObj i ((ys.length : Int) - i) 1) :: (se, listOf [.int s0 t0, .int s1 t1].toArray n) :: (c2, oc2) :: (c1, oc1) :: R0)) ?_ ys.length ⟨0, 0, 2745219045, 213933555, ts0, ts1, _, rfl, by first | decide | lia | omega, by first | decide | lia | omega, by first | decide | lia | omega, by first | decide | lia | omega, by first | decide | lia | omega, rfl, by simp⟩
  rintro m _ _ ⟨i, n, s0, s1, t0, t1, x_place, hm, hi', h00, h01, h10, h11, rfl, rfl⟩ again
  refine Mine.WC.letV ?_; intro vv
  by_cases hie : i = ys.length
  · refine WC.for1 (WA.rangeEndM (M := []) hh (by first | decide | lia | omega) ?_)
    refine R.turnN (WA.exNil (R.next ?_))
    clear again
    kd_p; kl_no; kbe_in; kit_at; ksr_p; kle_go; kit_is; kit_tp
    refine WA.hSum hh hS hi fun sv tsv => ?_
    kbe_in; kst_p; kit_at; ksr_p; kle_go; kit_is; kit_tp
    refine WA.hLen hS (by first | decide | lia | omega) fun tl0 => ?_
    refine WA.mul (IntMulOk.of_left (intBits_le_64 (by first | decide | lia | omega) (by first | decide | lia | omega))) fun _ => ?_
    kmk_kw; kmb_kw; kcf_m; kd_p; kl_no; kcj_in; kbe_in; kd_in; kst_p
    refine WA.mod (by decide) fun _ => ?_
    kst_p; kpc_eq; kmb_kw; kcf_m; kd_p; kl_no; kbe_in; kbe_in; kbe_in; kd_in; kst_p
    refine WA.fdiv (by decide) (by decide) fun _ => ?_
    kst_p; kmk_kw; kst_p
    refine WA.mod (by decide) fun _ => ?_
    obtain ⟨c, hc, ec⟩ := nat_mod (a := Int.fdiv (sv + 5 * (vs.length : Int)) 2 + 3) (n := 16) (by first | decide | lia | omega)
    rw [show Int.fmod (Int.fdiv (sv + 5 * (vs.length : Int)) 2 + 3) 16 = (c : Int) from ec]
    refine WA.cellSet (pre := [(se, listOf [.int s0 t0, .int s1 t1].toArray n), (c2, oc2)]) (post := R0) hck1 hlk1 rfl hd1 fun oc1' hd1' => ?_
    kcf_m; kd_p; kl_no; kbe_in; kbe_in; kbe_in; kbe_in; kd_in; kst_p
    refine WA.fdiv (by decide) (by decide) fun _ => ?_
    kit_at; ksr_p; kle_go; kit_is; kit_tp
    refine WA.hLen hS (by first | decide | lia | omega) fun _ => ?_
    kmk_kw; kst_p; kmk_kw; kst_p
    refine WA.mod (by decide) fun _ => ?_
    obtain ⟨d, hd, ed⟩ := nat_mod (a := Int.fdiv (sv + 5 * (vs.length : Int)) 32 + (vs.length : Int) + 6) (n := 16) (by first | decide | lia | omega)
    rw [show Int.fmod (Int.fdiv (sv + 5 * (vs.length : Int)) 32 + (vs.length : Int) + 6) 16 = (d : Int) from ed]
    refine WA.cellSet (pre := [(se, listOf [.int s0 t0, .int s1 t1].toArray n)]) (post := (c1, oc1') :: R0) hck2 hlk2 rfl hd2 fun oc2' hd2' => ?_
    kcf_m; kd_p; kl_no; kbe_in; kbe_in; kbe_in; kd_in; kst_p
    refine WA.fdiv (by decide) (by decide) fun _ => ?_
    kit_at; ksr_p; kle_go; kit_is; kit_tp
    refine WA.hLen hS (by first | decide | lia | omega) fun _ => ?_
    kmk_kw; kst_p
    refine WA.mod (by decide) fun _ => ?_
    kmb_kw; kcf_m; kd_p; kl_no; kbe_in; kbe_in; kd_in; kst_p
    refine WA.fdiv (by decide) (by decide) fun _ => ?_
    kit_at; ksr_p; kle_go; kit_is; kit_tp
    refine WA.hLen hS (by first | decide | lia | omega) fun _ => ?_
    kmk_kw; kmb_kw; kcf_m
    exact segA2 hr hck1 hlk1 hck2 hlk2 (.tail _ (.tail _ (.head _))) (.tail _ (.head _)) hd1' hd2' (.head _) h00 h01 h10 h11 fun x hx => .tail _ (.tail _ (.tail _ hx))
  have hlt : i < ys.length := by first | decide | lia | omega
  obtain ⟨j, hj, ej⟩ := nat_mod (a := (i : Int)) (n := 2) (by first | decide | lia | omega)
  replace ej : Int.fmod (i : Int) 2 = (j : Int) := ej
  obtain ⟨si, tsi, hsi, h0i, h1i⟩ : ∃ s t, ([Value.int s0 t0, .int s1 t1])[j]? = some (.int s t) ∧ 0 ≤ s ∧ s < 4294967296 := by
    match j, hj with
    | 0, _ => exact ⟨s0, t0, rfl, h00, h01⟩
    | 1, _ => exact ⟨s1, t1, rfl, h10, h11⟩
  obtain ⟨tx, hx⟩ := ints_get hi (List.getElem?_eq_getElem (show i < ns.length by first | decide | lia | omega))
  refine WC.for1 (WA.rangeNextM (M := []) (by first | decide | lia | omega) fun ti => ?_)
  kst_p1; kt_chr; kt_eqs; kmb_kw; kd_p; kpc_g; kbe_in; kbe_in; kbe_in; kbe_in; kfm_hd; kd_in; kbe_in; kd_in; kst_p
  refine WA.mod (by decide) fun _ => ?_
  rw [ej]
  refine WA.lGet (vs := [_, _]) (.tail _ (.head _)) (by first | decide | lia | omega) (by first | decide | lia | omega) (by rw [Int.toNat_natCast]; exact hsi) ?_
  kst_p
  refine WA.mul (IntMulOk.of_left (intBits_le_64 (by first | decide | lia | omega) (by first | decide | lia | omega))) fun _ => ?_
  kfm_hd; kd_in; kd_in
  refine WA.hGet hS (by first | decide | lia | omega) (by first | decide | lia | omega) (by rw [Int.toNat_natCast]; exact hx) ?_
  kmk_kw; kst_p; kmk_kw; kbe_in; kst_p; kst_p
  refine WA.pow2 (by first | decide | lia | omega) (by first | decide | lia | omega) fun _ => ?_
  refine WA.mod (by decide) fun tm => ?_
  obtain ⟨r, hr', er⟩ := nat_mod (a := si * 1103515245 + ns[i] + 12345) (n := 4294967296) (by first | decide | lia | omega)
  rw [show Int.fmod (si * 1103515245 + ns[i] + 12345) ((2 : Int) ^ (32 : Int).toNat) = (r : Int) from er]
  kd_in; kbe_in; kd_in; kst_p
  refine WA.mod (by decide) fun _ => ?_
  rw [ej]
  refine WA.lSet (pre := [(it, rangeItObj (i + 1) ((ys.length : Int) - i - 1) 1)]) (post := (c2, oc2) :: (c1, oc1) :: R0) (vs := [.int s0 t0, .int s1 t1]) (n := n) rfl (by first | decide | lia | omega) (by first | decide | lia | omega) (by show (j : Int) < 2; omega) fun n' => ?_
  rw [Int.toNat_natCast]
  have e1 : (i : Int) + 1 = ((i + 1 : Nat) : Int) := by push_cast; rfl
  have e2 : (ys.length : Int) - i - 1 = (ys.length : Int) - ((i + 1 : Nat) : Int) := by push_cast; omega
  kcf_m; kt_k; ksp_lk
  rw [e2, e1]
  match j, hj with
  | 0, _ => exact again (ys.length - (i + 1)) _ _ (by first | decide | lia | omega) ⟨i + 1, n', r, s1, tm, t1, _, rfl, hlt, by first | decide | lia | omega, by first | decide | lia | omega, h10, h11, rfl, rfl⟩
  | 1, _ => exact again (ys.length - (i + 1)) _ _ (by first | decide | lia | omega) ⟨i + 1, n', s0, r, t0, tm, _, rfl, hlt, h00, h01, by first | decide | lia | omega, by first | decide | lia | omega, rfl, rfl⟩
end
end
end Mine
end
section
open PySem PySem.W PyProof.Rows PySem.Calls
set_option maxRecDepth 100000
set_option maxHeartbeats 8000000
namespace Mine
theorem cf555 (n : Nat) : cellsFrom n fn555.fd.scope.names [] = [(("other" : Str), n + 1), (("chosen" : Str), n)] := by kernel_rfl!
theorem ck555 : fn555.fd.scope.names.lookup ("chosen" : Str) = some NameKind.cell := by kernel_rfl!
theorem co555 : fn555.fd.scope.names.lookup ("other" : Str) = some NameKind.cell := by kernel_rfl!
theorem bind555 {sl : Value} : bindL (fun x => fn555.fd.scope.names.lookup x) [(("script" : Str), sl)] (fun _ => none) = fr NL.loc (some sl :: List.replicate 39 none) := by
  rw [bindL_loc (sc555.loc _ (.head _)).1]
  funext x
  show (if x = _ then some sl else none) = _
  rw [show NL.loc = ("script" : Str) :: NL.loc.tail from rfl]
  simp only [fr]
  split
  · rfl
  · exact (fr_nones _ _ _).symm
theorem roomC {env : Env} : Room (callerA.deeper env) 30 := Room.deeper (n := 30) ⟨rfl, by decide, by decide⟩
theorem law_go {prog : Program} {w : World} {p : Program} {lo : List Str} {mg mb : Loc} {gh : Heap} {L : Nat} {sl : Addr} {vs : List Value} {ns : List Int} {A : Around} {env : Env} {w0 w1 o : Obj} {s : Shared} {m : Str → Option Value}
    {P : Flow → Shared → Prop} {E : Value → Shared → Prop} (X : (hd.heap_1_1 w.params).In gh) (T : TopRead p lo mg mb gh) (e1 : env.locals = L) (e2 : env.scope = fn555.fd.scope) (e3 : env.globals = mainGlobals) (e4 : env.builtins = builtinsNs)
    (e5 : env.cells = [(("other" : Str), L + 1 + 1), (("chosen" : Str), L + 1)]) (hr : Room A 30) (hm : m = fr NL.loc (some (.ref sl) :: List.replicate 39 none)) (F : Fr gh L s.heap m) (N : News gh L s.heap [(L + 1 + 1, w1), (L + 1, w0), (179, o)]) (l0 : 179 < L)
    (hd0 : w0.data = .cell none) (hd1 : w1.data = .cell none) (hS : gh.IsList sl vs.toArray) (hi : IntsAre vs ns) (hn : ns.length ≤ 63)
    (k : ∀ s' m' l', Same s s' → Fr gh L s'.heap m' → News gh L s'.heap l' → (179, o) ∈ l' → P (.ret (.bool true)) s') : wpAny (model prog w) A (execs fn555.body env) P E s := by
  subst hm
  let Ψ : Frm hd.heap_1_1 NL ⟨prog, w, p, lo, mg, mb⟩ := ⟨gh, L, X, T, A, env, ⟨e1, by rw [e2]; rfl, e3, e4⟩, by rw [e2]; exact sc555⟩
  have hk : ∀ x, env.kindOf x = fn555.fd.scope.names.lookup x := fun x => by show env.scope.names.lookup x = _; rw [e2]
  refine WA.use (Ψ := Ψ) (segA1 (Ψ := Ψ) (R0 := [(179, o)]) hr ((hk _).trans ck555) (by rw [e5]; rfl) ((hk _).trans co555) (by rw [e5]; rfl) hd0 hd1 hS hi hn) ⟨F, N, ?_, ?_⟩ ?_
  · simp only [List.map_cons, List.map_nil, List.nodup_cons, List.mem_cons, List.not_mem_nil, or_false, not_or, not_false_eq_true, List.nodup_nil, and_true]
    refine ⟨⟨?_, ?_⟩, ?_⟩ <;> (intro h; have h : (_ : Nat) = _ := h; omega)
  · intro x hx
    simp only [List.mem_cons, List.not_mem_nil, or_false] at hx
    rcases hx with rfl | rfl | rfl <;> simp only <;> (show (2 : Nat) < _; omega)
  · rintro v s' vals' l' S a ⟨rfl, hl⟩
    exact k s' _ l' S a.F a.N (hl _ (.head _))
theorem inOf {K : Params → Frag} {P : Params} {h : Heap} (e : K = hd.heap_1_1) (x : (K P).In h) : (hd.heap_1_1 P).In h := e ▸ x
theorem law05.tw2170153787736364368 : True := trivial
theorem law05.tw9282299991430453733 : True := trivial
theorem law05.tw10898491963837666021 : True := trivial
theorem law05.tw14223531569713356553 : True := trivial
theorem law05.tw7351093492050351686 : True := trivial
theorem law05.tw5214852947720235304 : True := trivial
theorem law05.tw9053768325528375057 : True := trivial
theorem law05.tw526263252202003081 : True := trivial
theorem law05.tw17678189561985338755 : True := trivial
theorem law05.tw8663282836118006271 : True := trivial
theorem law05.tw7898562824389861751 : True := trivial
theorem law05.tw14502303797038461978 : True := trivial
theorem law05.tw1819209059146491624 : True := trivial
theorem law05.tw12833509725194455381 : True := trivial
theorem law05.tw5801876762059766963 : True := trivial
theorem law05.tw11602629667306050433 : True := trivial
theorem law05.tw2346351365290343807 : True := trivial
theorem law05.tw7992690646944392423 : True := trivial
theorem law05.tw15935052264921063612 : True := trivial
theorem law05.tw1697507487788987352 : True := trivial
theorem law05.tw7872812152408428176 : True := trivial
theorem law05.tw17797906000075037628 : True := trivial
theorem law05.tw12978731322395719649 : True := trivial
theorem law05.tw4082708165880059729 : True := trivial
theorem law05.tw15106072295226084205 : True := trivial
theorem law05.tw16358155061185381556 : True := trivial
theorem law05.tw14759771023099417621 : True := trivial
theorem law05.tw2966842114746519716 : True := trivial
theorem law05.tw1534492571604626782 : True := trivial
theorem law05.tw11149672010546984845 : True := trivial
theorem law05.tw13993034099624712682 : True := trivial
theorem law05.tw1192698986317280978 : True := trivial
theorem law05.tw9315427938979295189 : True := trivial
theorem law05.tw10671314287070848708 : True := trivial
theorem law05.tw14675929513964470878 : True := trivial
theorem law05.tw15825890181673301010 : True := trivial
theorem law05.tw15201221824680753821 : True := trivial
theorem law05.tw12948310364825404883 : True := trivial
theorem law05.tw8348822660373481981 : True := trivial
theorem law05.tw5424637767203893141 : True := trivial
theorem law05.tw9128896249142873895 : True := trivial
theorem law05.tw468543004971400310 : True := trivial
theorem law05.tw9198007613978001060 : True := trivial
theorem law05.tw6967769764942681478 : True := trivial
theorem law05.tw1835344244352361661 : True := trivial
theorem law05.tw10285579811617888214 : True := trivial
theorem law05.tw13387350926836424226 : True := trivial
theorem law05.tw10997802572860255289 : True := trivial
theorem law05.tw5477860659716602362 : True := trivial
theorem law05.tw8814052852619388093 : True := trivial
theorem law05.tw13753963391689754755 : True := trivial
theorem law05.tw18043219942271995905 : True := trivial
theorem law05.tw11232308682071133740 : True := trivial
theorem law05.tw6612574615977051812 : True := trivial
theorem law05.tw13316806464211680987 : True := trivial
theorem law05.tw18214652514150115461 : True := trivial
theorem law05.tw8383185878744565379 : True := trivial
theorem law05.tw4984444435914034709 : True := trivial
theorem law05.tw11236845077012814717 : True := trivial
theorem law05.tw11262416485713548331 : True := trivial
theorem law05.tw13839665002417063027 : True := trivial
theorem law05.tw15911787235197984742 : True := trivial
theorem law05.tw16220259193720255918 : True := trivial
theorem law05.tw12627080272200010191 : True := trivial
theorem law05.tw12618706414126639536 : True := trivial
theorem law05.tw12829349888591021463 : True := trivial
theorem law05.tw10287875087737509938 : True := trivial
theorem law05.tw15774844947770833771 : True := trivial
theorem law05.tw5425002950909474323 : True := trivial
theorem law05.tw10212595230711952771 : True := trivial
theorem law05.tw607100510504833327 : True := trivial
theorem law05.tw12611607050137760150 : True := trivial
theorem law05.tw6509949247916078013 : True := trivial
theorem law05.tw18246358450080758360 : True := trivial
theorem law05.tw230725132408588088 : True := trivial
theorem law05.tw11984245128448121278 : True := trivial
theorem law05.tw7864733121493675441 : True := trivial
theorem law05.tw3412588573535433790 : True := trivial
theorem law05.tw9384010117522961594 : True := trivial
theorem law05.tw7454377247586805464 : True := trivial
theorem law05.tw15543694187070636419 : True := trivial
theorem law05.tw17603475661268727128 : True := trivial
theorem law05.tw10095076765657330801 : True := trivial
theorem law05.tw11299860364170600057 : True := trivial
theorem law05.tw1136444234739426558 : True := trivial
theorem law05.tw1719125980264832309 : True := trivial
theorem law05.tw2945800403165668044 : True := trivial
theorem law05.tw13046765587118365654 : True := trivial
theorem law05.tw8654114610262337086 : True := trivial
theorem law05.tw1492294753449163969 : True := trivial
theorem law05.tw2027042235479689093 : True := trivial
theorem law05.tw16800734310697754367 : True := trivial
theorem law05.tw5502749325738790369 : True := trivial
theorem law05.tw8282126587622592318 : True := trivial
theorem law05.tw12203386664512534906 : True := trivial
theorem law05.tw12037756487700238262 : True := trivial
theorem law05.tw9772817878979674978 : True := trivial
theorem law05.tw10450216337838312529 : True := trivial
theorem law05.tw13939838245324495648 : True := trivial
theorem law05.tw5905840977251629043 : True := trivial
theorem law05.tw13037446049933929047 : True := trivial
theorem law05.tw634112230982018519 : True := trivial
theorem law05.tw3356455440888978910 : True := trivial
theorem law05.tw13301502135229462660 : True := trivial
theorem law05.tw13666148813888571976 : True := trivial
theorem law05.tw4999263435676624538 : True := trivial
theorem law05.tw8814057635570011467 : True := trivial
theorem law05.tw16256728000331217443 : True := trivial
theorem law05.tw1089239277123445227 : True := trivial
theorem law05.tw4080503992081697870 : True := trivial
theorem law05.tw7088749988153172004 : True := trivial
theorem law05.tw5616262760819670986 : True := trivial
theorem law05.tw8932845182245778589 : True := trivial
theorem law05.tw7034341133889244392 : True := trivial
theorem law05.tw3103059914416348176 : True := trivial
theorem law05.tw4772307529451598844 : True := trivial
theorem law05.tw16607369517539185409 : True := trivial
theorem law05.tw17895146770314684265 : True := trivial
theorem law05.tw3251010489122281614 : True := trivial
theorem law05.tw7026719204362255940 : True := trivial
theorem law05.tw17799386753033806275 : True := trivial
theorem law05.tw7958034402570950931 : True := trivial
theorem law05.tw2953113067617445668 : True := trivial
theorem law05.tw6369092445695937606 : True := trivial
theorem law05.tw4804723321500010416 : True := trivial
theorem law05.tw26334567617963585 : True := trivial
theorem law05.tw8038507768826206807 : True := trivial
theorem law05.tw17512538672972593507 : True := trivial
theorem law05.tw17967270471235783253 : True := trivial
theorem law05.tw14604627680388042133 : True := trivial
theorem law05.tw15993213696959464456 : True := trivial
theorem law05.tw4125382087824926873 : True := trivial
theorem law05.tw11555811098245743431 : True := trivial
theorem law05.tw17109070242175550668 : True := trivial
theorem law05.tw8212989657316503590 : True := trivial
theorem law05.tw16730638914567478254 : True := trivial
theorem law05.tw10450189507840256135 : True := trivial
theorem law05.tw17750501308903560736 : True := trivial
theorem law05.tw51269576569946912 : True := trivial
theorem law05.tw1895898384823945352 : True := trivial
theorem law05.tw14360814667310422446 : True := trivial
theorem law05.tw4758151693642579715 : True := trivial
theorem law05.tw1759767229255767282 : True := trivial
theorem law05.tw11797253991296964123 : True := trivial
theorem law05.tw16334746029791242791 : True := trivial
theorem law05.tw11282077449620449601 : True := trivial
theorem law05.tw14757324772109759054 : True := trivial
theorem law05.tw4795115204413831417 : True := trivial
theorem law05.tw16520085718323386967 : True := trivial
theorem law05.tw8277182025141472417 : True := trivial
theorem law05.tw1027934350255311744 : True := trivial
theorem law05.tw7400003027554213068 : True := trivial
theorem law05.tw13825075678997461009 : True := trivial
theorem law05.tw16501728561214430 : True := trivial
theorem law05.tw17575850026436513883 : True := trivial
theorem law05.tw13631170660197597205 : True := trivial
theorem law05.tw184460346591815632 : True := trivial
theorem law05.tw14718198566757430671 : True := trivial
theorem law05.tw7407359016385928065 : True := trivial
theorem law05.tw6728423052762922529 : True := trivial
theorem law05.tw1761862560019835668 : True := trivial
theorem law05.tw14347391115380558362 : True := trivial
theorem law05.tw15183147831337083405 : True := trivial
theorem law05.tw3589327307431941363 : True := trivial
theorem law05.tw18193853420903086269 : True := trivial
theorem law05.tw16676075036636720734 : True := trivial
theorem law05.tw12291367710781079522 : True := trivial
theorem law05.tw16518120684339258035 : True := trivial
theorem law05.tw11344699083837504713 : True := trivial
theorem law05.tw1556704202315260517 : True := trivial
theorem law05.tw7621284351674261696 : True := trivial
theorem law05.tw10998013734943816402 : True := trivial
theorem law05.tw8832226324561949888 : True := trivial
theorem law05.tw11906253400844740696 : True := trivial
theorem law05.tw2415018667500127589 : True := trivial
theorem law05.tw11657849526097370539 : True := trivial
theorem law05.tw5565885216446660891 : True := trivial
theorem law05.tw3796449528327194151 : True := trivial
theorem law05.tw11852001037673661960 : True := trivial
theorem law05.tw5592598707850518244 : True := trivial
theorem law05.tw2546589792283448368 : True := trivial
theorem law05.tw17499050857375328518 : True := trivial
theorem law05.tw16103613071318432755 : True := trivial
theorem law05.tw2639198089829214349 : True := trivial
theorem law05.tw17991071988021104907 : True := trivial
theorem law05.tw4479838565208364666 : True := trivial
theorem law05.tw2604573042098081321 : True := trivial
theorem law05.tw7179131541362546309 : True := trivial
theorem law05.tw17690535908343008712 : True := trivial
theorem law05.tw6098785848605430683 : True := trivial
theorem law05.tw10376746200113233817 : True := trivial
theorem law05.tw14732696377159125986 : True := trivial
theorem law05.tw17382125022763269275 : True := trivial
theorem law05.tw11782746273093124161 : True := trivial
theorem law05.tw3890794990005545182 : True := trivial
theorem law05.tw16276013700888991238 : True := trivial
theorem law05.tw13910901855146453307 : True := trivial
theorem law05.tw4131732463954459185 : True := trivial
theorem law05.tw217749215648550417 : True := trivial
theorem law05.tw4465116234359021564 : True := trivial
theorem law05.tw2820673846687931021 : True := trivial
theorem law05.tw16094669974507152918 : True := trivial
theorem law05.tw1279578243856782491 : True := trivial
theorem law05.tw15702569513201640740 : True := trivial
theorem law05.tw8602852772397068581 : True := trivial
theorem law05.tw13468560895678904336 : True := trivial
theorem law05.tw7153983162946230864 : True := trivial
theorem law05.tw462174817293443973 : True := trivial
theorem law05.tw11440675104599561657 : True := trivial
theorem law05.tw1092253694745712299 : True := trivial
theorem law05.tw4569506163664717192 : True := trivial
theorem law05.tw5911390239950990526 : True := trivial
theorem law05.tw15759772952226218676 : True := trivial
theorem law05.tw16574472742854512421 : True := trivial
theorem law05.tw15284736140689490544 : True := trivial
theorem law05.tw12265416360100759923 : True := trivial
theorem law05.tw6002015970415529691 : True := trivial
theorem law05.tw2517445217176324042 : True := trivial
theorem law05.tw7488499577049939619 : True := trivial
theorem law05.tw12214966351525772215 : True := trivial
theorem law05.tw1800377861084524450 : True := trivial
theorem law05.tw1486033341197037215 : True := trivial
theorem law05.tw4426611873487998324 : True := trivial
theorem law05.tw3849431998757134989 : True := trivial
theorem law05.tw8326453124840620304 : True := trivial
theorem law05.tw14811527168742910128 : True := trivial
theorem law05.tw9702997667481685810 : True := trivial
theorem law05.tw8255744266859054847 : True := trivial
theorem law05.tw16437968245425044694 : True := trivial
theorem law05.tw11298768132682400850 : True := trivial
theorem law05.tw1758459745381429108 : True := trivial
theorem law05.tw4348806803166903313 : True := trivial
theorem law05.tw8056783594977952818 : True := trivial
theorem law05.tw3918445742401853689 : True := trivial
theorem law05.tw9255856020548734443 : True := trivial
theorem law05.tw16202971882123107209 : True := trivial
theorem law05.tw48806287696390515 : True := trivial
theorem law05.tw16928411710390862727 : True := trivial
theorem law05.tw10885936552796119293 : True := trivial
theorem law05.tw11697906823264831020 : True := trivial
theorem law05.tw2626318892094936534 : True := trivial
theorem law05.tw13339864786212066082 : True := trivial
theorem law05.tw17436469356560347164 : True := trivial
theorem law05.tw8445101094772267334 : True := trivial
theorem law05.tw2608786530207468726 : True := trivial
theorem law05.tw11640742317960397398 : True := trivial
theorem law05.tw3217836886190395823 : True := trivial
theorem law05.tw8655030555023607448 : True := trivial
theorem law05.tw8711783694452526224 : True := trivial
theorem law05.tw14697469146646806930 : True := trivial
theorem law05.tw15317162331977280918 : True := trivial
theorem law05.tw530691823564494643 : True := trivial
theorem law05.tw3210101271052379294 : True := trivial
theorem law05.tw10801303743044866831 : True := trivial
theorem law05.tw11559940428902634079 : True := trivial
theorem law05.tw12891813717896183996 : True := trivial
theorem law05.tw17565524379641334592 : True := trivial
theorem law05.tw12789216276395345794 : True := trivial
theorem law05.tw17718140155383082713 : True := trivial
theorem law05.tw18426117012196769076 : True := trivial
theorem law05.tw1949519484316215248 : True := trivial
theorem law05.tw5358340686617015762 : True := trivial
theorem law05.tw2977026388980636137 : True := trivial
theorem law05.tw16082355164140472709 : True := trivial
theorem law05.tw7503649898921267623 : True := trivial
theorem law05.tw11463032169529143810 : True := trivial
theorem law05.tw7119210103338678095 : True := trivial
theorem law05.tw407006850101989918 : True := trivial
theorem law05.tw18222104898349097869 : True := trivial
theorem law05.tw2092338331420405928 : True := trivial
theorem law05.tw1972950725610590348 : True := trivial
theorem law05.tw16121927799699108789 : True := trivial
theorem law05.tw15774609653813870333 : True := trivial
theorem law05.tw5421707835307878966 : True := trivial
theorem law05.tw10773991547469183623 : True := trivial
theorem law05.tw17207045560415923421 : True := trivial
theorem law05.tw6433944476613939408 : True := trivial
theorem law05.tw9901952185323025519 : True := trivial
theorem law05.tw7055152718716513530 : True := trivial
theorem law05.tw3730711081856266222 : True := trivial
theorem law05.tw14955542841803188008 : True := trivial
theorem law05.tw8114139955253820644 : True := trivial
theorem law05.tw13004776795885964444 : True := trivial
theorem law05.tw13769752781597908604 : True := trivial
theorem law05.tw11120308227066591532 : True := trivial
theorem law05.tw1768409799575077651 : True := trivial
theorem law05.tw8752985140983915657 : True := trivial
theorem law05.tw8264779709475290962 : True := trivial
theorem law05.tw14104998125223600227 : True := trivial
theorem law05.tw10590657617955326101 : True := trivial
theorem law05.tw11567645139567454292 : True := trivial
theorem law05.tw18421169840484133866 : True := trivial
theorem law05.tw11605147522259998850 : True := trivial
theorem law05.tw15616986174386741964 : True := trivial
theorem law05.tw8051700424680597443 : True := trivial
theorem law05.tw5318570043291658735 : True := trivial
theorem law05.tw17425961869523986164 : True := trivial
theorem law05.tw3164128673511547511 : True := trivial
theorem law05.tw4621664910900431948 : True := trivial
theorem law05.tw2621177406056801646 : True := trivial
theorem law05.tw13575218479000675538 : True := trivial
theorem law05.tw5166119073887614197 : True := trivial
theorem law05.tw3515735271020242716 : True := trivial
theorem law05.tw4266788405188293352 : True := trivial
theorem law05.tw4381764093397529405 : True := trivial
theorem law05.tw1277064631836597670 : True := trivial
theorem law05.tw7890790868186247042 : True := trivial
theorem law05.tw16948087338232282041 : True := trivial
theorem law05.tw9454804959894144925 : True := trivial
theorem law05.tw3444280742481755226 : True := trivial
theorem law05.tw5798446111936585853 : True := trivial
theorem law05.tw760318275727609968 : True := trivial
theorem law05.tw11985382651121501139 : True := trivial
theorem law05.tw12906203465852466235 : True := trivial
theorem law05.tw11729966332381523301 : True := trivial
theorem law05.tw3828242754115807246 : True := trivial
theorem law05.tw8533685045102037028 : True := trivial
theorem law05.tw4586118682822452601 : True := trivial
theorem law05.tw10069373803215337619 : True := trivial
theorem law05.tw12474504332541318236 : True := trivial
theorem law05.tw8689924070431285918 : True := trivial
theorem law05.tw6523130833803891785 : True := trivial
theorem law05.tw7614419615334273202 : True := trivial
theorem law05.tw16643874490632238863 : True := trivial
theorem law05.tw7253734592541719348 : True := trivial
theorem law05.tw10192763146777880164 : True := trivial
theorem law05.tw11459004497235100619 : True := trivial
theorem law05.tw16630737151623310009 : True := trivial
theorem law05.tw9412633216340347977 : True := trivial
theorem law05.tw551464974331562338 : True := trivial
theorem law05.tw12370324064812866544 : True := trivial
theorem law05.tw1906496675209441297 : True := trivial
theorem law05.tw4050853873237409747 : True := trivial
theorem law05.tw14908848070426446033 : True := trivial
theorem law05.tw14432744608562898351 : True := trivial
theorem law05.tw8922581108426856915 : True := trivial
theorem law05.tw9964436903970563217 : True := trivial
theorem law05.tw4773396761103664852 : True := trivial
theorem law05.tw10414441190080642168 : True := trivial
theorem law05.tw15030948868745330647 : True := trivial
theorem law05.tw12872869537048477492 : True := trivial
theorem law05.tw8762553740969013289 : True := trivial
theorem law05.tw3634559502745749835 : True := trivial
theorem law05.tw292913794933220644 : True := trivial
theorem law05.tw9583440700858535969 : True := trivial
theorem law05.tw11733951097412173989 : True := trivial
theorem law05.tw12424807861675026907 : True := trivial
theorem law05.tw1089079449947106478 : True := trivial
theorem law05.tw16487605656128141194 : True := trivial
theorem law05.tw9293764535364366571 : True := trivial
theorem law05.tw7618422201146669214 : True := trivial
theorem law05.tw17414452922314784607 : True := trivial
theorem law05.tw2568442271949034734 : True := trivial
theorem law05.tw3002982231053441672 : True := trivial
theorem law05.tw16594881859527538603 : True := trivial
theorem law05.tw10149417714025059598 : True := trivial
theorem law05.tw5774891590273123269 : True := trivial
theorem law05.tw11278814327442145616 : True := trivial
theorem law05.tw4489303130282267507 : True := trivial
theorem law05.tw3707699672221323512 : True := trivial
theorem law05.tw6938238140529183584 : True := trivial
theorem law05.tw1283665279208139732 : True := trivial
theorem law05.tw7437797240071435419 : True := trivial
theorem law05.tw14598182774024950013 : True := trivial
theorem law05.tw15574900280820537057 : True := trivial
theorem law05.tw9757299433738068272 : True := trivial
theorem law05.tw15957139887222284785 : True := trivial
theorem law05.tw8613777232711132941 : True := trivial
theorem law05.tw16531632005856977147 : True := trivial
theorem law05.tw13872228081948579114 : True := trivial
theorem law05.tw11777231620907957767 : True := trivial
theorem law05.tw10960465803266618046 : True := trivial
theorem law05.tw8084266222689312924 : True := trivial
theorem law05.tw16914996098156449486 : True := trivial
theorem law05.tw6019758525262829025 : True := trivial
theorem law05.tw16075350100113694408 : True := trivial
theorem law05.tw1120043609081638594 : True := trivial
theorem law05.tw2801618663858090494 : True := trivial
theorem law05.tw144148430873737212 : True := trivial
theorem law05.tw7290092967853906028 : True := trivial
theorem law05.tw9188908215434421061 : True := trivial
theorem law05.tw5227137538880242253 : True := trivial
theorem law05.tw5569316124213846684 : True := trivial
theorem law05.tw12632694569080512682 : True := trivial
theorem law05.tw4583393066459223439 : True := trivial
theorem law05.tw4061740706230363512 : True := trivial
theorem law05.tw11164133644545027079 : True := trivial
theorem law05.tw14828562973678609395 : True := trivial
theorem law05.tw16338042037964793951 : True := trivial
theorem law05.tw13795210740972259051 : True := trivial
theorem law05.tw6074865611504375443 : True := trivial
theorem law05.tw9643443937659645807 : True := trivial
theorem law05.tw1106032759987205800 : True := trivial
theorem law05.tw12060135794812569878 : True := trivial
theorem law05.tw15515089649680484310 : True := trivial
theorem law05.tw2359629572810392037 : True := trivial
theorem law05.tw7759388298857313658 : True := trivial
theorem law05.tw17013070019774929901 : True := trivial
theorem law05.tw2920754350924485086 : True := trivial
theorem law05.tw9422337133072775569 : True := trivial
theorem law05.tw10311633423869054007 : True := trivial
theorem law05.tw18107854003187739075 : True := trivial
theorem law05.tw316916592750098205 : True := trivial
theorem law05.tw14589550059090495044 : True := trivial
theorem law05.tw11244390349339275406 : True := trivial
theorem law05.tw7573024569953663426 : True := trivial
theorem law05.tw4753935468365970119 : True := trivial
theorem law05.tw14635149171299810682 : True := trivial
theorem law05.tw5044620599092826433 : True := trivial
theorem law05.tw1229818099028989746 : True := trivial
theorem law05.tw12461811658401172577 : True := trivial
theorem law05.tw13878832767528650276 : True := trivial
theorem law05.tw10114526813291898662 : True := trivial
theorem law05.tw7865419896021713339 : True := trivial
theorem law05.tw5286644006960312905 : True := trivial
theorem law05.tw12351324209544200628 : True := trivial
theorem law05.tw11419122691842295546 : True := trivial
theorem law05.tw12926493903182122096 : True := trivial
theorem law05.tw665268502069248852 : True := trivial
theorem law05.tw14144423672844832894 : True := trivial
theorem law05.tw7236701642593838105 : True := trivial
theorem law05.tw3976615339414217991 : True := trivial
theorem law05.tw9742594428181804001 : True := trivial
theorem law05.tw11133950933132702033 : True := trivial
theorem law05.tw4174178290672717699 : True := trivial
theorem law05.tw3257426705311908426 : True := trivial
theorem law05.tw2734895808228118425 : True := trivial
theorem law05.tw2403934978162089827 : True := trivial
theorem law05.tw3710937769351874015 : True := trivial
theorem law05.tw16698333059599851954 : True := trivial
theorem law05.tw15286705715897761171 : True := trivial
theorem law05.tw16178285563421545460 : True := trivial
theorem law05.tw4862328373751778849 : True := trivial
theorem law05.tw8527834490262204380 : True := trivial
theorem law05.tw14679465812653265036 : True := trivial
theorem law05.tw18311156780786589370 : True := trivial
theorem law05.tw9988130939769706760 : True := trivial
theorem law05.tw4315301426786584601 : True := trivial
theorem law05.tw887848765154571607 : True := trivial
theorem law05.tw9076222545585932063 : True := trivial
theorem law05.tw2120848207166278151 : True := trivial
theorem law05.tw5873171407631222770 : True := trivial
theorem law05.tw4122204732988338245 : True := trivial
theorem law05.tw6430526746928599436 : True := trivial
theorem law05.tw11261307188901485455 : True := trivial
theorem law05.tw15252893715011234289 : True := trivial
theorem law05.tw6482811200116321135 : True := trivial
theorem law05.tw12321835091354013677 : True := trivial
theorem law05.tw7217445364431330293 : True := trivial
theorem law05.tw2966314145032652211 : True := trivial
theorem law05.tw1522441365083805275 : True := trivial
theorem law05.tw16968161749631399374 : True := trivial
theorem law05.tw8182256930267555585 : True := trivial
theorem law05.tw12938123654216693875 : True := trivial
theorem law05.tw264157051896241388 : True := trivial
theorem law05.tw16093945888096020988 : True := trivial
theorem law05.tw3808695367065987114 : True := trivial
theorem law05.tw1348384602651607878 : True := trivial
theorem law05.tw2693066164159119845 : True := trivial
theorem law05.tw4213306664654207478 : True := trivial
theorem law05.tw14315002130773207737 : True := trivial
theorem law05.tw12994654424430904362 : True := trivial
theorem law05.tw9334563430848680831 : True := trivial
theorem law05.tw5358532653462847223 : True := trivial
theorem law05.tw17132812083979261222 : True := trivial
theorem law05.tw8207266447375021364 : True := trivial
theorem law05.tw16465010305206980822 : True := trivial
theorem law05.tw17232860650670453701 : True := trivial
theorem law05.tw15725727693761541613 : True := trivial
theorem law05.tw12823460369174381447 : True := trivial
theorem law05.tw11347187285499746245 : True := trivial
theorem law05.tw15133263666455370784 : True := trivial
theorem law05.tw6246550306514369420 : True := trivial
theorem law05.tw251877353213566379 : True := trivial
theorem law05.tw4120458454000118540 : True := trivial
theorem law05.tw1134822891311934140 : True := trivial
theorem law05.tw4222609449961308670 : True := trivial
theorem law05.tw9620423534391442492 : True := trivial
theorem law05.tw15321639275583287826 : True := trivial
theorem law05.tw17989931272545389217 : True := trivial
theorem law05.tw5294998693945580316 : True := trivial
theorem law05.tw2244532006231725620 : True := trivial
theorem law05.tw5941736268248060165 : True := trivial
theorem law05.tw7882284861514944126 : True := trivial
theorem law05.tw17095197862848998520 : True := trivial
theorem law05.tw18153854871731798649 : True := trivial
theorem law05.tw15396638267629933741 : True := trivial
theorem law05.tw8453632136274721307 : True := trivial
theorem law05.tw8487429501826047072 : True := trivial
theorem law05.tw6732822475033510137 : True := trivial
theorem law05.tw17286285878318660356 : True := trivial
theorem law05.tw16701679449737135235 : True := trivial
theorem law05.tw10289042165469085409 : True := trivial
theorem law05.tw17176981579767798476 : True := trivial
theorem law05.tw7247986296297265900 : True := trivial
theorem law05.tw6696761621945766243 : True := trivial
theorem law05.tw12967097047872102205 : True := trivial
theorem law05.tw907433618155159603 : True := trivial
theorem law05.tw4872990977675684070 : True := trivial
theorem law05.tw14061394548473885288 : True := trivial
theorem law05.tw2545270797503915238 : True := trivial
theorem law05.tw4214514420167941761 : True := trivial
theorem law05.tw7166710767749951744 : True := trivial
theorem law05.tw16945366827290889862 : True := trivial
theorem law05.tw1223798427511362042 : True := trivial
theorem law05.tw5757554054309918190 : True := trivial
theorem law05.tw7782195292517641829 : True := trivial
theorem law05.tw12816718674638224652 : True := trivial
theorem law05.tw6722107078108441263 : True := trivial
theorem law05.tw11128361739295703303 : True := trivial
theorem law05.tw5501488946855328574 : True := trivial
theorem law05.tw3446602132115897644 : True := trivial
theorem law05.tw17776999731793297720 : True := trivial
theorem law05.tw17201387701358261851 : True := trivial
theorem law05.tw14146005060671313623 : True := trivial
theorem law05.tw3184679531984390032 : True := trivial
theorem law05.tw11926245716642758913 : True := trivial
theorem law05.tw11308635544437950406 : True := trivial
theorem law05.tw12528488521416388895 : True := trivial
theorem law05.tw5742132904281113479 : True := trivial
theorem law05.tw3082728296324779818 : True := trivial
theorem law05.tw4349966845771681443 : True := trivial
theorem law05.tw3727875899769421542 : True := trivial
theorem law05.tw1859370326289319843 : True := trivial
theorem law05.tw7906989973551391771 : True := trivial
theorem law05.tw13555263875576522303 : True := trivial
theorem law05.tw9390382782875723678 : True := trivial
theorem law05.tw7954408270912060161 : True := trivial
theorem law05.tw10793997615460155677 : True := trivial
theorem law05.tw11228111936303013339 : True := trivial
theorem law05.tw16747098115012198745 : True := trivial
theorem law05.tw16988809071599972825 : True := trivial
theorem law05.tw12959250339822326499 : True := trivial
theorem law05.tw8937729557060211324 : True := trivial
theorem law05.tw4297551336773688097 : True := trivial
theorem law05.tw2291358245385469192 : True := trivial
theorem law05.tw11160447655026986240 : True := trivial
theorem law05.tw2501786838520630724 : True := trivial
theorem law05.tw13842829491771743128 : True := trivial
theorem law05.tw11027891999063375487 : True := trivial
theorem law05.tw8827686013128600890 : True := trivial
theorem law05.tw545034464528060221 : True := trivial
theorem law05.tw7932917778165631254 : True := trivial
theorem law05.tw4708442737784919769 : True := trivial
theorem law05.tw17038799051014041528 : True := trivial
theorem law05.tw338089578803807532 : True := trivial
theorem law05.tw7541842774206770741 : True := trivial
theorem law05.tw5292974551616329933 : True := trivial
theorem law05.tw15274873251226617537 : True := trivial
theorem law05.tw6154151087578725019 : True := trivial
theorem law05.tw3805183126408487919 : True := trivial
theorem law05.tw17014539049349580505 : True := trivial
theorem law05.tw9912815807793894454 : True := trivial
theorem law05.tw2681965887155543155 : True := trivial
theorem law05.tw9000871783349486926 : True := trivial
theorem law05.tw744994806824762221 : True := trivial
theorem law05.tw11193119099673380978 : True := trivial
theorem law05.tw14839663977424226375 : True := trivial
theorem law05.tw2651066878699441730 : True := trivial
theorem law05.tw8569370163322604724 : True := trivial
theorem law05.tw12203640882559169222 : True := trivial
theorem law05.tw3277431485640278279 : True := trivial
theorem law05.tw6551977813839470259 : True := trivial
theorem law05.tw12499098628167639466 : True := trivial
theorem law05.tw282806686944060497 : True := trivial
theorem law05.tw13430502456408832657 : True := trivial
theorem law05.tw5579334524375758082 : True := trivial
theorem law05.tw14534980994599694320 : True := trivial
theorem law05.tw1303397750344960367 : True := trivial
theorem law05.tw771810758875417150 : True := trivial
theorem law05.tw16660679971501427971 : True := trivial
theorem law05.tw13603247748401615594 : True := trivial
theorem law05.tw12167277422401397721 : True := trivial
theorem law05.tw5497860387523798638 : True := trivial
theorem law05.tw3047349351366300877 : True := trivial
theorem law05.tw4501390272912190078 : True := trivial
theorem law05.tw4741122753044991998 : True := trivial
theorem law05.tw4034595815370471878 : True := trivial
theorem law05.tw4922917452021102762 : True := trivial
theorem law05.tw12231154626860967447 : True := trivial
theorem law05.tw2745876712889680356 : True := trivial
theorem law05.tw10458231663823045619 : True := trivial
theorem law05.tw1312428098740357217 : True := trivial
theorem law05.tw11057255161092200860 : True := trivial
theorem law05.tw1243732177097462455 : True := trivial
theorem law05.tw667291818886245762 : True := trivial
theorem law05.tw566140086269626558 : True := trivial
theorem law05.tw14104315582077439729 : True := trivial
theorem law05.tw190157987965700062 : True := trivial
theorem law05.tw17697956285706141984 : True := trivial
theorem law05.tw17537978896440290025 : True := trivial
theorem law05.tw7329695385510010853 : True := trivial
theorem law05.tw17012399699029999591 : True := trivial
theorem law05.tw10759163634853644401 : True := trivial
theorem law05.tw12082895115181058815 : True := trivial
theorem law05.tw7853449802612680599 : True := trivial
theorem law05.tw2610575009511994301 : True := trivial
theorem law05.tw16453257086964022164 : True := trivial
theorem law05.tw11142643996458594720 : True := trivial
theorem law05.tw15455163671982796740 : True := trivial
theorem law05.tw13264337564857877140 : True := trivial
theorem law05.tw17521821200029220979 : True := trivial
theorem law05.tw16486559356449386781 : True := trivial
theorem law05.tw17705323057839104493 : True := trivial
theorem law05.tw17166062812207375494 : True := trivial
theorem law05.tw811880349311354734 : True := trivial
theorem law05.tw5075404355724647990 : True := trivial
theorem law05.tw948784679942122340 : True := trivial
theorem law05.tw6051422756276259067 : True := trivial
theorem law05.tw9989600341959729191 : True := trivial
theorem law05.tw16911939731156750319 : True := trivial
theorem law05.tw16433124246209303977 : True := trivial
theorem law05.tw15970779112575259937 : True := trivial
theorem law05.tw5826317322141445331 : True := trivial
theorem law05.tw13004557953933379093 : True := trivial
theorem law05.tw16418008752925915334 : True := trivial
theorem law05.tw8525306011575975532 : True := trivial
theorem law05.tw3531171441126874739 : True := trivial
theorem law05.tw5751049519740043058 : True := trivial
theorem law05.tw14911741249967652397 : True := trivial
theorem law05.tw1390567334614543447 : True := trivial
theorem law05.tw4183145291838194746 : True := trivial
theorem law05.tw346988714539807621 : True := trivial
theorem law05.tw7097615499287154286 : True := trivial
theorem law05.tw16412626894128071169 : True := trivial
theorem law05.tw11418748196587660116 : True := trivial
theorem law05.tw13379971031298637239 : True := trivial
theorem law05.tw4911182836867201231 : True := trivial
theorem law05.tw18409152367712814996 : True := trivial
theorem law05.tw14879008599127405038 : True := trivial
theorem law05.tw18242129638348095068 : True := trivial
theorem law05.tw3523973566938458154 : True := trivial
theorem law05.tw13733862597161856053 : True := trivial
theorem law05.tw4363493368662580453 : True := trivial
theorem law05.tw17117013537690407878 : True := trivial
theorem law05.tw3211008441886057742 : True := trivial
theorem law05.tw5544676637212942072 : True := trivial
theorem law05.tw6068913102272778456 : True := trivial
theorem law05.tw7603977038579503252 : True := trivial
theorem law05.tw2096282584974195223 : True := trivial
theorem law05.tw11591707717313368224 : True := trivial
theorem law05.tw5665272241881900814 : True := trivial
theorem law05.tw11870035278149319290 : True := trivial
theorem law05.tw11715943573065601786 : True := trivial
theorem law05.tw6546620473814628876 : True := trivial
theorem law05.tw6631458044669701364 : True := trivial
theorem law05.tw9256187201028646597 : True := trivial
theorem law05.tw16208381844649853163 : True := trivial
theorem law05.tw1313146125766137542 : True := trivial
theorem law05.tw14039350561331367017 : True := trivial
theorem law05.tw8921720203551677627 : True := trivial
theorem law05.tw4438678839407787200 : True := trivial
theorem law05.tw13588180070069254516 : True := trivial
theorem law05.tw7613624357177147333 : True := trivial
theorem law05.tw11320036649806545082 : True := trivial
theorem law05.tw13477969029125845806 : True := trivial
theorem law05.tw10740498756635775676 : True := trivial
theorem law05.tw4823482222696383369 : True := trivial
theorem law05.tw14765233557446737719 : True := trivial
theorem law05.tw1657227325045276725 : True := trivial
theorem law05.tw175209245714444732 : True := trivial
theorem law05.tw9477909910530014475 : True := trivial
theorem law05.tw9553744028507989838 : True := trivial
theorem law05.tw16333216080678383899 : True := trivial
theorem law05.tw572266330174667614 : True := trivial
theorem law05.tw6198292693062379921 : True := trivial
theorem law05.tw15372913031905733932 : True := trivial
theorem law05.tw5204452857175715754 : True := trivial
theorem law05.tw12790736383214019563 : True := trivial
theorem law05.tw10542641073698697235 : True := trivial
theorem law05.tw5263320673813384628 : True := trivial
theorem law05.tw3763610147930968460 : True := trivial
theorem law05.tw14444202374999305415 : True := trivial
theorem law05.tw11393952470251321889 : True := trivial
theorem law05.tw8717639538087254581 : True := trivial
theorem law05.tw14276056476078837302 : True := trivial
theorem law05.tw8588113586928110205 : True := trivial
theorem law05.tw5655536190977594446 : True := trivial
theorem law05.tw11374774989003445950 : True := trivial
theorem law05.tw7685015892188097166 : True := trivial
theorem law05.tw14227488336766312366 : True := trivial
theorem law05.tw10240053959095402484 : True := trivial
theorem law05.tw1228805879361083384 : True := trivial
theorem law05.tw8560473242307232496 : True := trivial
theorem law05.tw6322261671045705695 : True := trivial
theorem law05.tw3263522170772881758 : True := trivial
theorem law05.tw2162683667076569634 : True := trivial
theorem law05.tw15790674049516022965 : True := trivial
theorem law05.tw13407268618477887719 : True := trivial
theorem law05.tw17435625947557071382 : True := trivial
theorem law05.tw4563281340774764831 : True := trivial
theorem law05.tw14311827906608840477 : True := trivial
theorem law05.tw15354132616218508995 : True := trivial
theorem law05.tw124552533426701456 : True := trivial
theorem law05.tw11749928440663335443 : True := trivial
theorem law05.tw13589534200978090328 : True := trivial
theorem law05.tw5784956589660876751 : True := trivial
theorem law05.tw12237106710200598839 : True := trivial
theorem law05.tw14046803774626200577 : True := trivial
theorem law05.tw15253006246836620263 : True := trivial
theorem law05.tw9475238148250361972 : True := trivial
theorem law05.tw13817828394834752643 : True := trivial
theorem law05.tw3924523852307479590 : True := trivial
theorem law05.tw1763059572062697658 : True := trivial
theorem law05.tw11045736972715706994 : True := trivial
theorem law05.tw11897854654142422624 : True := trivial
theorem law05.tw9495134976153167014 : True := trivial
theorem law05.tw15496362218631435723 : True := trivial
theorem law05.tw2235056340079563192 : True := trivial
theorem law05.tw1198488826156020707 : True := trivial
theorem law05.tw3825059825960977484 : True := trivial
theorem law05.tw15465248270243262662 : True := trivial
theorem law05.tw3167361347152419143 : True := trivial
theorem law05.tw3982298774088153463 : True := trivial
theorem law05.tw17478740617082301049 : True := trivial
theorem law05.tw29001804260874604 : True := trivial
theorem law05.tw11307504294956098105 : True := trivial
theorem law05.tw8369447253977361226 : True := trivial
theorem law05.tw12315794677371969515 : True := trivial
theorem law05.tw10721945799315118340 : True := trivial
theorem law05.tw2323041902276209639 : True := trivial
theorem law05.tw9858900500953822792 : True := trivial
theorem law05.tw458964069856958994 : True := trivial
theorem law05.tw12220120936788767042 : True := trivial
theorem law05.tw4166545797260881028 : True := trivial
theorem law05.tw15189901615411812602 : True := trivial
theorem law05.tw12717768100659234434 : True := trivial
theorem law05.tw9903253758089652799 : True := trivial
theorem law05.tw16585482330715477282 : True := trivial
theorem law05.tw17520359490367748529 : True := trivial
theorem law05.tw7260834154678655291 : True := trivial
theorem law05.tw444030812800141206 : True := trivial
theorem law05.tw6601774710101150145 : True := trivial
theorem law05.tw17441933473174256555 : True := trivial
theorem law05.tw16893317892104044933 : True := trivial
theorem law05.tw18363522324101194878 : True := trivial
theorem law05.tw13589299886592098144 : True := trivial
theorem law05.tw10985707404914017687 : True := trivial
theorem law05.tw17718707266320890757 : True := trivial
theorem law05.tw11722803441202310992 : True := trivial
theorem law05.tw4911422881427787874 : True := trivial
theorem law05.tw9263001681723542539 : True := trivial
theorem law05.tw14078735448118746400 : True := trivial
theorem law05.tw6614487181409913215 : True := trivial
theorem law05.tw6756603592099440356 : True := trivial
theorem law05.tw15182168165921623551 : True := trivial
theorem law05.tw7726330947499419509 : True := trivial
theorem law05.tw16738470928723903135 : True := trivial
theorem law05.tw15366393922506794965 : True := trivial
theorem law05.tw13706838366748165243 : True := trivial
theorem law05.tw16093535816021835771 : True := trivial
theorem law05.tw4235919362123280160 : True := trivial
theorem law05.tw16206216229917866038 : True := trivial
theorem law05.tw5598105669871343550 : True := trivial
theorem law05.tw6296366654980482796 : True := trivial
theorem law05.tw1904546777580713069 : True := trivial
theorem law05.tw17960059144123217565 : True := trivial
theorem law05.tw8935871132187169371 : True := trivial
theorem law05.tw1617994521313766425 : True := trivial
theorem law05.tw6595598018508449027 : True := trivial
theorem law05.tw13889605841982027082 : True := trivial
theorem law05.tw17407836388055219196 : True := trivial
theorem law05.tw14763923908347411311 : True := trivial
theorem law05.tw17795280428333065343 : True := trivial
theorem law05.tw244204433764606360 : True := trivial
theorem law05.tw5386140227416590459 : True := trivial
theorem law05.tw8744607397953014088 : True := trivial
theorem law05.tw3176301549433207409 : True := trivial
theorem law05.tw7394972626277977295 : True := trivial
theorem law05.tw11142067903087667662 : True := trivial
theorem law05.tw2332321460476720395 : True := trivial
theorem law05.tw8391788856791402548 : True := trivial
theorem law05.tw7238065754827851743 : True := trivial
theorem law05.tw9532786750269037769 : True := trivial
theorem law05.tw10792480672274342256 : True := trivial
theorem law05.tw11231126377393490229 : True := trivial
theorem law05.tw4674456380194386993 : True := trivial
theorem law05.tw7931386749928791414 : True := trivial
theorem law05.tw15434258519891108487 : True := trivial
theorem law05.tw1148366115272168366 : True := trivial
theorem law05.tw1372914258297422360 : True := trivial
theorem law05.tw17517637460534449437 : True := trivial
theorem law05.tw4212983705954231393 : True := trivial
theorem law05.tw16706996799566943272 : True := trivial
theorem law05.tw16512054634589072188 : True := trivial
theorem law05.tw10361788014258553099 : True := trivial
theorem law05.tw3823027896819140544 : True := trivial
theorem law05.tw6218867399911329549 : True := trivial
theorem law05.tw7454329232075589104 : True := trivial
theorem law05.tw11173323594933795790 : True := trivial
theorem law05.tw3589823629754918191 : True := trivial
theorem law05.tw16070388621769915099 : True := trivial
theorem law05.tw14230253899821907467 : True := trivial
theorem law05.tw8494253765505733465 : True := trivial
theorem law05.tw17556506673911250298 : True := trivial
theorem law05.tw11008495861956937145 : True := trivial
theorem law05.tw8287555408448297034 : True := trivial
theorem law05.tw17279694870175312903 : True := trivial
theorem law05.tw16646164508463432361 : True := trivial
theorem law05.tw4736885207846622070 : True := trivial
theorem law05.tw5270212399403978633 : True := trivial
theorem law05.tw684595839710525798 : True := trivial
theorem law05.tw9592551557224091241 : True := trivial
theorem law05.tw16997281351081211335 : True := trivial
theorem law05.tw5271787799622557289 : True := trivial
theorem law05.tw6460558660124520509 : True := trivial
theorem law05.tw9621700318995740470 : True := trivial
theorem law05.tw2360693421308991115 : True := trivial
theorem law05.tw770281264696767131 : True := trivial
theorem law05.tw13020819949762052486 : True := trivial
theorem law05.tw4922193052519616785 : True := trivial
theorem law05.tw15159519814022978449 : True := trivial
theorem law05.tw10409234504588618237 : True := trivial
theorem law05.tw2722514318399017985 : True := trivial
theorem law05.tw14478888556762155679 : True := trivial
theorem law05.tw6856083417481383296 : True := trivial
theorem law05.tw10526976974097748216 : True := trivial
theorem law05.tw5772592348135459175 : True := trivial
theorem law05.tw12711120987933578703 : True := trivial
theorem law05.tw14347371554057854246 : True := trivial
theorem law05.tw36255764332872414 : True := trivial
theorem law05.tw12033554216252461218 : True := trivial
theorem law05.tw18248332488453194403 : True := trivial
theorem law05.tw16187766727762246963 : True := trivial
theorem law05.tw8578185961716328731 : True := trivial
theorem law05.tw8519885654835751697 : True := trivial
theorem law05.tw1356585556421272046 : True := trivial
theorem law05.tw4889649614639091048 : True := trivial
theorem law05.tw9416842053970241787 : True := trivial
theorem law05.tw7316344668411415748 : True := trivial
theorem law05.tw5347913368624951551 : True := trivial
theorem law05.tw17349326622526106722 : True := trivial
theorem law05.tw10420712756483931744 : True := trivial
theorem law05.tw2000598255135536736 : True := trivial
theorem law05.tw10434295187119891239 : True := trivial
theorem law05.tw16019858837082261505 : True := trivial
theorem law05.tw3549980931258570967 : True := trivial
theorem law05.tw8093112990722703572 : True := trivial
theorem law05.tw2777608098853069056 : True := trivial
theorem law05.tw1981808972070624851 : True := trivial
theorem law05.tw4674429153478636207 : True := trivial
theorem law05.tw5159234203517656297 : True := trivial
theorem law05.tw754009424812257562 : True := trivial
theorem law05.tw13712128347802330132 : True := trivial
theorem law05.tw3547301901854574784 : True := trivial
theorem law05.tw14260072677750351524 : True := trivial
theorem law05.tw926449709342053183 : True := trivial
theorem law05.tw9184508383245709806 : True := trivial
theorem law05.tw6867981422482424059 : True := trivial
theorem law05.tw2608153344120630678 : True := trivial
theorem law05.tw12398091901177731154 : True := trivial
theorem law05.tw14181979560530542424 : True := trivial
theorem law05.tw10083628088575535404 : True := trivial
theorem law05.tw331587761212605483 : True := trivial
theorem law05.tw11503067426050818425 : True := trivial
theorem law05.tw10371007467314004364 : True := trivial
theorem law05.tw15588138872249903337 : True := trivial
theorem law05.tw11844392096555934063 : True := trivial
theorem law05.tw9945895011256240116 : True := trivial
theorem law05.tw17885302573348507705 : True := trivial
theorem law05.tw15167017131893935871 : True := trivial
theorem law05.tw14820225286156284772 : True := trivial
theorem law05.tw4568565350821469096 : True := trivial
theorem law05.tw8014362672989586882 : True := trivial
theorem law05.tw5863031235392975279 : True := trivial
theorem law05.tw11598038333873905620 : True := trivial
theorem law05.tw5834454716096686182 : True := trivial
theorem law05.tw306857620573429929 : True := trivial
theorem law05.tw8340510619237455581 : True := trivial
theorem law05.tw12308876930033908880 : True := trivial
theorem law05.tw824559182213034 : True := trivial
theorem law05.tw6304184823481059974 : True := trivial
theorem law05.tw16479143138553716348 : True := trivial
theorem law05.tw6443906911691775573 : True := trivial
theorem law05.tw2419745844140480274 : True := trivial
theorem law05.tw8292457728122575917 : True := trivial
theorem law05.tw8563594913627345168 : True := trivial
theorem law05.tw2086739727067795983 : True := trivial
theorem law05.tw3212160212027738781 : True := trivial
theorem law05.tw15714817372642665662 : True := trivial
theorem law05.tw17416703377037050822 : True := trivial
theorem law05.tw6588597723466601680 : True := trivial
theorem law05.tw1687935078637047424 : True := trivial
theorem law05.tw18374086191652461821 : True := trivial
theorem law05.tw5956197133007631502 : True := trivial
theorem law05.tw11440438995509607465 : True := trivial
theorem law05.tw13456268230303459232 : True := trivial
theorem law05.tw14579831001591247361 : True := trivial
theorem law05.tw11599734420677430716 : True := trivial
theorem law05.tw16732888116463371895 : True := trivial
theorem law05.tw10423171600475458784 : True := trivial
theorem law05.tw14686358925368433922 : True := trivial
theorem law05.tw6541729656900697435 : True := trivial
theorem law05.tw1282571224840545593 : True := trivial
theorem law05.tw2044200628497525631 : True := trivial
theorem law05.tw3588900414156126370 : True := trivial
theorem law05.tw4553080344904166373 : True := trivial
theorem law05.tw4972971268902348078 : True := trivial
theorem law05.tw7256494353718481241 : True := trivial
theorem law05.tw7178105037786052568 : True := trivial
set_option Elab.async true in
set_option maxHeartbeats 0 in
theorem law05 : Challenge.rw_im0005_05.Holds := by
  w_on
  o_law
  k_head
  (case hw => w_witness2)
  k_go0
  rename Fr _ _ _ _ => F'
  rename News _ _ _ _ => N'
  rename Top _ _ _ _ _ _ => T'
  rename Frag.In _ _ => X'
  rename Heap.IsList _ _ _ => hS'
  rename IntsAre _ _ => hI'
  rename (_ < Array.size _) => l0'
  rename (¬ _ < _) => hn'
  refine law_go (inOf (by kernel_rfl!) X') (topRead_of T') rfl rfl rfl rfl (cf555 _) roomC bind555 F' N' l0' ?_ ?_ hS' hI' (by first | decide | lia | omega) fun s' m' l' S F N hl => ⟨?_, ?_⟩
  · refine Eq.trans (by assumption) ?_
    kernel_rfl!
  · refine Eq.trans (by assumption) ?_
    kernel_rfl!
  · refine goodW_bool F (S.1.trans (by assumption)) (raisesW_false ?_) ?_ S.2
    · wrow_none_raised
    · kc_post
  · exact ⟨GrownAt.of N hl, True.intro⟩
end Mine
end
theorem PySem.Challenge.cw_im0005_05_holds : PySem.Challenge.rw_im0005_05.Holds :=
  Mine.law05
