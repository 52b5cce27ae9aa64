import PyProof.Rows.All
import Wide.All
import OpenK.AllK
import Wide.FinOn
import KE.KSuper
import KE.KStopIter
import PyProof.DictIter
import PyProof.Rows.SetFrom
import PyProof.DictWalks
import OpenK.KNot
import PyProof.AttrMissHeap
import PyProof.SliceMore
import PyProof.Rows.SortStr
import Lean
import PySem.Challenge.RW_bf0059_01
set_option maxRecDepth 100000
set_option maxHeartbeats 0
set_option linter.unusedVariables false
section
open PySem PySem.W PyProof.Rows
namespace Mine
namespace hd
def tw10012880186880212623:=Prop
def tw10024716035694756283:=Prop
def tw100483095206116625:=Prop
def tw1005483496087919985:=Prop
def tw10098268173465320503:=Prop
def tw1011335219593555734:=Prop
def tw10117440562283002822:=Prop
def tw1013155817946168525:=Prop
def tw10170382586518783626:=Prop
def tw10203026625882799534:=Prop
def tw10216474801634566288:=Prop
def tw10246146449241189800:=Prop
def tw10264135568141901301:=Prop
def tw10292235466723388172:=Prop
def tw10296555574160606952:=Prop
def tw1033889070964956483:=Prop
def tw10403243965636340961:=Prop
def tw10424393626065333798:=Prop
def tw10458740792067480800:=Prop
def tw10465514089279642386:=Prop
def tw10507497572311344420:=Prop
def tw10531373872144210542:=Prop
def tw10543509907540572799:=Prop
def tw10603584201595350602:=Prop
def tw10614716105012338702:=Prop
def tw10678649693572172417:=Prop
def tw10738003575532504788:=Prop
def tw10743916045514856203:=Prop
def tw10752148897807903841:=Prop
def tw10781468475247234061:=Prop
def tw10788059911547816233:=Prop
def tw10792051664901133789:=Prop
def tw10806950440038215891:=Prop
def tw10844753989422098599:=Prop
def tw10860895700388868024:=Prop
def tw10879034167726328663:=Prop
def tw1088296927520436173:=Prop
def tw10905682514733158466:=Prop
def tw1097998534492414930:=Prop
def tw11011131195910976488:=Prop
def tw11032806212648032379:=Prop
def tw11034497122203965937:=Prop
def tw11054480109507316185:=Prop
def tw11128854368766332075:=Prop
def tw11136197038861592535:=Prop
def tw11151547217846952531:=Prop
def tw11162318198679636149:=Prop
def tw1118553966540926140:=Prop
def tw11210553801493137410:=Prop
def tw11213053971927718326:=Prop
def tw11232374478483605306:=Prop
def tw11249132867342737325:=Prop
def tw11251137523995926341:=Prop
def tw11256106856564762260:=Prop
def tw11283319371284918911:=Prop
def tw11319097763535126812:=Prop
def tw11319892378374348655:=Prop
def tw11359128036140134547:=Prop
def tw11364443708160879001:=Prop
def tw11375277706881905925:=Prop
def tw11387694631328260470:=Prop
def tw11389486352061984695:=Prop
def tw11402939732021071671:=Prop
def tw11465210709893060100:=Prop
def tw11513968764499736323:=Prop
def tw11551083187376567056:=Prop
def tw11631869004601391166:=Prop
def tw11631947586910100387:=Prop
def tw11660266114150955751:=Prop
def tw11663481321943121269:=Prop
def tw11672842613191775419:=Prop
def tw11709330566771433103:=Prop
def tw11713075325732132258:=Prop
def tw11752467884777980105:=Prop
def tw11754176132448286083:=Prop
def tw11778180911958503814:=Prop
def tw11801993109049149486:=Prop
def tw11814627755841444246:=Prop
def tw11893437276241958245:=Prop
def tw11905163887095721015:=Prop
def tw11912922877643110818:=Prop
def tw11917015161858427179:=Prop
def tw1194904439430580092:=Prop
def tw11953376511379268794:=Prop
def tw11959044307898795358:=Prop
def tw11968265576560266318:=Prop
def tw12050417470231563642:=Prop
def tw12058812876911547015:=Prop
def tw12070051907170230399:=Prop
def tw12070654863422294720:=Prop
def tw1208734638264122097:=Prop
def tw12092154237167983948:=Prop
def tw12112201142124510154:=Prop
def tw12113243949977362033:=Prop
def tw12127338746724423809:=Prop
def tw12173100003817136821:=Prop
def tw1222794163293265305:=Prop
def tw12239354291974867115:=Prop
def tw12268275109542032366:=Prop
def tw12271959270614036898:=Prop
def tw12337632362937886050:=Prop
def tw12350410155528471161:=Prop
def tw12364972598781006883:=Prop
def tw12394076208661396346:=Prop
def tw12399718760709695909:=Prop
def tw1241404454085649124:=Prop
def tw12414669353804360901:=Prop
def tw12451258846644117672:=Prop
def tw12459740579856956213:=Prop
def tw12487502673411948298:=Prop
def tw12521463284412890351:=Prop
def tw12575139184659369484:=Prop
def tw12588582704262371052:=Prop
def tw12591134339009171964:=Prop
def tw12602439190401603521:=Prop
def tw12611767792052310623:=Prop
def tw12614811148066621264:=Prop
def tw12647368939536790636:=Prop
def tw12659318050587179527:=Prop
def tw12685813987229840507:=Prop
def tw12744807935193187038:=Prop
def tw12797040952259185971:=Prop
def tw12832683148521936107:=Prop
def tw128412058910260475:=Prop
def tw12861998865439983172:=Prop
def tw12870888531099404533:=Prop
def tw12901994302517312135:=Prop
def tw12936449754285732098:=Prop
def tw12940713784782232206:=Prop
def tw12949589719889679912:=Prop
def tw12952509933414984302:=Prop
def tw1299046323782801668:=Prop
def tw13038990169509382042:=Prop
def tw13047593935725612058:=Prop
def tw13066319289922817542:=Prop
def tw13092906067662860646:=Prop
def tw13132618709999183898:=Prop
def tw13160604113216922460:=Prop
def tw13181220554201973888:=Prop
def tw13181700845877081190:=Prop
def tw13217827037086042188:=Prop
def tw13220430256171166289:=Prop
def tw13267510147771200024:=Prop
def tw13280443560766958183:=Prop
def tw13289513938125300765:=Prop
def tw1331086792558400476:=Prop
def tw13315533130655954831:=Prop
def tw13322179722446271537:=Prop
def tw13330244855972007585:=Prop
def tw13342606739435360313:=Prop
def tw13363553139645760527:=Prop
def tw13365295217650922812:=Prop
def tw13372043803930879067:=Prop
def tw13402062226832612404:=Prop
def tw13409441903868389331:=Prop
def tw13431754692932380062:=Prop
def tw13437302318768402701:=Prop
def tw13466754112058979494:=Prop
def tw13483081372092288885:=Prop
def tw13518370688599389936:=Prop
def tw13531707123254989501:=Prop
def tw13532847315355080253:=Prop
def tw13566260322249332789:=Prop
def tw1359830224848277088:=Prop
def tw13609717118414637909:=Prop
def tw13638418597567726942:=Prop
def tw13770079208771991547:=Prop
def tw13783031573616600631:=Prop
def tw13790719812936386609:=Prop
def tw13825509269061658866:=Prop
def tw13828106393651249627:=Prop
def tw1382963296337349011:=Prop
def tw13855946660403688772:=Prop
def tw13866372431405929976:=Prop
def tw13893168526513508166:=Prop
def tw13903934854276604550:=Prop
def tw13919464512627920130:=Prop
def tw13929354066492186541:=Prop
def tw13994979335412520660:=Prop
def tw14015909994521340511:=Prop
def tw14029546391885035639:=Prop
def tw1409312971732116557:=Prop
def tw14120982254508448379:=Prop
def tw1413172679324656950:=Prop
def tw14137390275340422267:=Prop
def tw14176624398918483544:=Prop
def tw14242175395732777974:=Prop
def tw14246236162039180721:=Prop
def tw1425423193147277237:=Prop
def tw14294001040229213422:=Prop
def tw1439246655266547700:=Prop
def tw14400467628812073631:=Prop
def tw14438451200097066615:=Prop
def tw14457593812595234344:=Prop
def tw14478148883734587675:=Prop
def tw14492701947808656938:=Prop
def tw14553816603554493358:=Prop
def tw14567429538950270057:=Prop
def tw14598272352848978880:=Prop
def tw14612060388864693735:=Prop
def tw14620637471214046174:=Prop
def tw14667805832236412624:=Prop
def tw14685462170515437407:=Prop
def tw14705683404202351889:=Prop
def tw14745743045033390146:=Prop
def tw14768889098011018680:=Prop
def tw14772383043592177042:=Prop
def tw14852329139284432860:=Prop
def tw14859038896228082724:=Prop
def tw14892549342360969540:=Prop
def tw14896477498954680388:=Prop
def tw14955159897011116063:=Prop
def tw14960593345356199642:=Prop
def tw14980023328507725902:=Prop
def tw14984183105004643987:=Prop
def tw14991384322417631237:=Prop
def tw15040182064412255696:=Prop
def tw15042006015671813226:=Prop
def tw15043168886218598503:=Prop
def tw15048261121198461528:=Prop
def tw1506431575118746342:=Prop
def tw15083628210047938546:=Prop
def tw15089522573102190283:=Prop
def tw15103106377680225435:=Prop
def tw15153279154761372571:=Prop
def tw15166520500009309586:=Prop
def tw15179676742415161110:=Prop
def tw15199589371867527261:=Prop
def tw15207398651663016943:=Prop
def tw15220180469806662145:=Prop
def tw15279998641719260112:=Prop
def tw15344866539931968096:=Prop
def tw1535757262459896012:=Prop
def tw15367242080415987702:=Prop
def tw15411387601460861337:=Prop
def tw15422856539912107476:=Prop
def tw15427206886491885616:=Prop
def tw15463257786427224491:=Prop
def tw15508949281206285077:=Prop
def tw15527848837575444561:=Prop
def tw15529170255622000948:=Prop
def tw15578025631644234493:=Prop
def tw15595854959937240912:=Prop
def tw15610959940260225430:=Prop
def tw15615420239508185596:=Prop
def tw15615537253650120727:=Prop
def tw1563692795949630186:=Prop
def tw15643275761693703936:=Prop
def tw15673258824015622330:=Prop
def tw15675198926951892251:=Prop
def tw15683763237869141255:=Prop
def tw15759970867653108152:=Prop
def tw15790720579355451973:=Prop
def tw1580110805410547442:=Prop
def tw15813434630575017362:=Prop
def tw15826014557914729019:=Prop
def tw15837987909243819085:=Prop
def tw15852365999677673905:=Prop
def tw15875372055831622553:=Prop
def tw1588505670450824345:=Prop
def tw15890378047532165470:=Prop
def tw1589133516308662214:=Prop
def tw15946388913382835224:=Prop
def tw15987713032478767096:=Prop
def tw15990741470632014444:=Prop
def tw1600037746751723098:=Prop
def tw16006246977917349235:=Prop
def tw16007149819294483003:=Prop
def tw16009884308244765898:=Prop
def tw16011055738799735888:=Prop
def tw16029623286316568529:=Prop
def tw1603739661141634737:=Prop
def tw16037735763661986305:=Prop
def tw16053994301053490033:=Prop
def tw16056359734778111409:=Prop
def tw16064382804478563927:=Prop
def tw16091413853298234908:=Prop
def tw16138627921320673191:=Prop
def tw16154546982801380032:=Prop
def tw16157073509204512506:=Prop
def tw16171809288044610508:=Prop
def tw16178712458983371728:=Prop
def tw16211521421427940678:=Prop
def tw16222499966895952523:=Prop
def tw16257038226119295666:=Prop
def tw16259696140248634718:=Prop
def tw162610821266807592:=Prop
def tw16299908979028503884:=Prop
def tw16332348944364537037:=Prop
def tw16345102440705955213:=Prop
def tw16357263729072622229:=Prop
def tw16376525773666504680:=Prop
def tw16432713993328977331:=Prop
def tw16456969618363192440:=Prop
def tw16473244170626142550:=Prop
def tw16477043939570097188:=Prop
def tw16502264421070913907:=Prop
def tw16634568088961857937:=Prop
def tw16640546478005224243:=Prop
def tw16649331688326792143:=Prop
def tw16713699803418581334:=Prop
def tw16772102934027710169:=Prop
def tw16828841361933241965:=Prop
def tw16853341256802265648:=Prop
def tw16858285156579221889:=Prop
def tw16864912941405964677:=Prop
def tw16868993833207775613:=Prop
def tw16904818350239718627:=Prop
def tw16919406825032445293:=Prop
def tw16920754564084929960:=Prop
def tw16970440968685349367:=Prop
def tw1699103778626983548:=Prop
def tw17001982702790524580:=Prop
def tw17047115858639842297:=Prop
def tw17070941380808615275:=Prop
def tw17076082267592564974:=Prop
def tw17087091549796120035:=Prop
def tw1712922718373300912:=Prop
def tw17130151131035750659:=Prop
def tw17183224562656869120:=Prop
def tw17213754286329925777:=Prop
def tw17234923516513369237:=Prop
def tw17252143746492648416:=Prop
def tw17258206423299326598:=Prop
def tw17330132731328240911:=Prop
def tw17330945745186091897:=Prop
def tw17336936450418997793:=Prop
def tw17377124274276065709:=Prop
def tw17377529257436501650:=Prop
def tw17387473266821786944:=Prop
def tw17397052962432165270:=Prop
def tw17429513623812275283:=Prop
def tw17430575921969211009:=Prop
def tw17447410573909459338:=Prop
def tw17454471701868102899:=Prop
def tw17471934795394947791:=Prop
def tw17491317419825422843:=Prop
def tw17502677235029458409:=Prop
def tw17542962492245011380:=Prop
def tw17562767543260142214:=Prop
def tw17574625026820762457:=Prop
def tw17583924267553061668:=Prop
def tw17588044629489971554:=Prop
def tw17599816209265215132:=Prop
def tw1760603350576429475:=Prop
def tw17606422857730326317:=Prop
def tw17628472586750557451:=Prop
def tw17650839729002327288:=Prop
def tw17672654358674132775:=Prop
def tw17673860158736603733:=Prop
def tw17681399029576232318:=Prop
def tw17711083657039698284:=Prop
def tw17714235663813219645:=Prop
def tw17739348878880393726:=Prop
def tw17808607793243039243:=Prop
def tw1781861727890032366:=Prop
def tw17843490464661113860:=Prop
def tw17893044597097874663:=Prop
def tw17901334829092211166:=Prop
def tw17902569758825723728:=Prop
def tw17925215291927510665:=Prop
def tw1792636949448641307:=Prop
def tw17948085552500728524:=Prop
def tw17950676927832955104:=Prop
def tw17975533764899295144:=Prop
def tw17986969038992634876:=Prop
def tw17989097746536338734:=Prop
def tw1800889605409440832:=Prop
def tw18093812233618175256:=Prop
def tw18103342009636024947:=Prop
def tw18103420901670897651:=Prop
def tw18129098259903571784:=Prop
def tw18166333605607142505:=Prop
def tw18176940659606848779:=Prop
def tw18185175575083235020:=Prop
def tw18219297243305740317:=Prop
def tw18241275227582772068:=Prop
def tw18245042118932799458:=Prop
def tw18291419657060728153:=Prop
def tw18293732401869909652:=Prop
def tw18293851220164018083:=Prop
def tw18322514126500204803:=Prop
def tw18343703819029505601:=Prop
def tw18350433093344046624:=Prop
def tw18358800413957953924:=Prop
def tw1836080755315867724:=Prop
def tw1847840615245081061:=Prop
def tw1848646778235469078:=Prop
def tw1860674893733999873:=Prop
def tw1865391376527767206:=Prop
def tw1882180444382439491:=Prop
def tw189712035060473897:=Prop
def tw190519026028168232:=Prop
def tw1954109241102656831:=Prop
def tw1997569388931296116:=Prop
def tw2000490053193787569:=Prop
def tw2040990291671593033:=Prop
def tw2051048951616859547:=Prop
def tw2068664650715991707:=Prop
def tw2101469004524951375:=Prop
def tw2114630138375439770:=Prop
def tw2134215046882385847:=Prop
def tw2167537188350426706:=Prop
def tw2195365466389143174:=Prop
def tw2216850387143573719:=Prop
def tw2252305205657439004:=Prop
def tw22551697357593593:=Prop
def tw226724450230711188:=Prop
def tw2274498078352570744:=Prop
def tw2284436838669742495:=Prop
def tw2295870552580634182:=Prop
def tw2315301623876862497:=Prop
def tw2329189449893159454:=Prop
def tw2386827423013361158:=Prop
def tw2391449824757734642:=Prop
def tw242841246431481386:=Prop
def tw243823211424636713:=Prop
def tw2442259710966052079:=Prop
def tw2448417245163862455:=Prop
def tw2457190517430149469:=Prop
def tw2480057099694739299:=Prop
def tw2493985911018215709:=Prop
def tw2502866573005156581:=Prop
def tw2524978443121100084:=Prop
def tw257007361410690125:=Prop
def tw2595994805191909183:=Prop
def tw2608437505485318709:=Prop
def tw2706119562409109727:=Prop
def tw2708950531961675432:=Prop
def tw2711891404203595365:=Prop
def tw2739504486584576224:=Prop
def tw2781682124601125471:=Prop
def tw2783992281797965187:=Prop
def tw2788664435532181463:=Prop
def tw2799067240506288376:=Prop
def tw280609765759037681:=Prop
def tw2808349399557158395:=Prop
def tw2845679848157327705:=Prop
def tw2855845756224970109:=Prop
def tw2867327485932766208:=Prop
def tw2887051446865420828:=Prop
def tw2922222751358710265:=Prop
def tw2930668341846507884:=Prop
def tw2951005344575393816:=Prop
def tw2999033326186475339:=Prop
def tw3008623586974134963:=Prop
def tw307737655149646647:=Prop
def tw3085183777334472315:=Prop
def tw3182187488490625086:=Prop
def tw3219085151875037572:=Prop
def tw3221592705415737273:=Prop
def tw3229320678910624544:=Prop
def tw3229955645248102723:=Prop
def tw3259873300814134281:=Prop
def tw3301654171414802437:=Prop
def tw3309697970292668127:=Prop
def tw3350930974749635488:=Prop
def tw3381375190539634487:=Prop
def tw3404104791013757517:=Prop
def tw3419581819265744254:=Prop
def tw3429492842335990350:=Prop
def tw3434918251397683217:=Prop
def tw3442329435671937591:=Prop
def tw3443669649825651883:=Prop
def tw3451239065008710300:=Prop
def tw3452082135128663414:=Prop
def tw3480954088277226078:=Prop
def tw3484992998616243462:=Prop
def tw3493717111155160527:=Prop
def tw3530705653197291679:=Prop
def tw3571134770919094901:=Prop
def tw3646829019195819677:=Prop
def tw3673020696563887462:=Prop
def tw3694398316872202419:=Prop
def tw3704167492566942397:=Prop
def tw3759623122121258479:=Prop
def tw3789350110615891812:=Prop
def tw3795277891434052102:=Prop
def tw3828038474966422129:=Prop
def tw3915529967508079626:=Prop
def tw3919010098100093602:=Prop
def tw3922637787740509324:=Prop
def tw3941438180925939637:=Prop
def tw395138700845864316:=Prop
def tw3953601041324332601:=Prop
def tw4014540891139286612:=Prop
def tw4021928978595405253:=Prop
def tw402640490398009360:=Prop
def tw4065347644161347641:=Prop
def tw4068527845204499245:=Prop
def tw4068933124894957555:=Prop
def tw4086058157674990017:=Prop
def tw4091639524402994376:=Prop
def tw4111692666942324129:=Prop
def tw4115565904173853331:=Prop
def tw4126306136578151734:=Prop
def tw4136554803537287180:=Prop
def tw4138081844389336918:=Prop
def tw4159134105002834734:=Prop
def tw4172343393113369950:=Prop
def tw4182648748547736412:=Prop
def tw4225703048834024713:=Prop
def tw4272726840584523970:=Prop
def tw4278124947684190350:=Prop
def tw4282304852377368616:=Prop
def tw4292457097857839397:=Prop
def tw4297731678662094536:=Prop
def tw4315991029959535628:=Prop
def tw432457690288141553:=Prop
def tw4325921153153474475:=Prop
def tw4363365295628954845:=Prop
def tw4367231431732253908:=Prop
def tw4377701919642642989:=Prop
def tw4383666589626881386:=Prop
def tw4402725079659364252:=Prop
def tw442638132926106271:=Prop
def tw4449123307109862055:=Prop
def tw4478166936697009375:=Prop
def tw4494801613693538912:=Prop
def tw4642405928176397000:=Prop
def tw4643362625855044894:=Prop
def tw4654797750381630734:=Prop
def tw4702841417184801058:=Prop
def tw4706079058837389440:=Prop
def tw4788038989552484473:=Prop
def tw4817003022231809500:=Prop
def tw4819202231147424091:=Prop
def tw4845836938831722396:=Prop
def tw4851647983119433812:=Prop
def tw4856431653887292112:=Prop
def tw4870687313549177768:=Prop
def tw4971549296188076032:=Prop
def tw4990156530697904881:=Prop
def tw4993660671451451078:=Prop
def tw5009564483982726761:=Prop
def tw5036846961687405229:=Prop
def tw5054737718236178183:=Prop
def tw5130813555471234732:=Prop
def tw5138769234217329475:=Prop
def tw5148922909946612681:=Prop
def tw5167245352685981253:=Prop
def tw5174551420813472067:=Prop
def tw5190246844813560578:=Prop
def tw5238241317806426387:=Prop
def tw5245234834050458271:=Prop
def tw5247051413645994129:=Prop
def tw526207354791536317:=Prop
def tw5278057926702712004:=Prop
def tw5283464899586487735:=Prop
def tw5292301768408028288:=Prop
def tw5318216170032084099:=Prop
def tw5343241284826551009:=Prop
def tw5366084841770067474:=Prop
def tw5373601922739893978:=Prop
def tw541196102884509978:=Prop
def tw5412792607806067344:=Prop
def tw5416991563250132298:=Prop
def tw5433107678231618845:=Prop
def tw54727356038600574:=Prop
def tw5480042469492414594:=Prop
def tw5497643321735027644:=Prop
def tw5505005885091257285:=Prop
def tw5505332120971382143:=Prop
def tw5513025101015932971:=Prop
def tw5549315172176941698:=Prop
def tw5559951931751713254:=Prop
def tw5562173858411828344:=Prop
def tw5567388512258382067:=Prop
def tw5592360268479517082:=Prop
def tw5608270528595127837:=Prop
def tw561391293025646643:=Prop
def tw5629675986466331604:=Prop
def tw5635641802508607975:=Prop
def tw5657824000916062451:=Prop
def tw5715356086224469760:=Prop
def tw5716766192118558609:=Prop
def tw5732804406350252772:=Prop
def tw5781342201191254626:=Prop
def tw5873113503399164460:=Prop
def tw5899666649113621702:=Prop
def tw5961118342813265553:=Prop
def tw5976792059365374437:=Prop
def tw5978321128707920903:=Prop
def tw5987830557187376847:=Prop
def tw6038821095411175016:=Prop
def tw6046454685291232161:=Prop
def tw6079173187612997037:=Prop
def tw6123773746684550334:=Prop
def tw6136932545381038964:=Prop
def tw6154236146145331571:=Prop
def tw6164396464334811476:=Prop
def tw6184208073178115725:=Prop
def tw6184460063843016694:=Prop
def tw6291416237084387574:=Prop
def tw6308581086252854402:=Prop
def tw6320253292602491972:=Prop
def tw6394381022753523788:=Prop
def tw6407587892757256292:=Prop
def tw6423634429210846174:=Prop
def tw6438293893037913957:=Prop
def tw6442067068224118133:=Prop
def tw6449127861642672459:=Prop
def tw6482722132109649516:=Prop
def tw6528754448969337418:=Prop
def tw6545403380812914513:=Prop
def tw6555240042291301478:=Prop
def tw6578402527460240241:=Prop
def tw6598312636042714100:=Prop
def tw6615107907471364465:=Prop
def tw6627881031435992008:=Prop
def tw663384727985864361:=Prop
def tw6636792957720756321:=Prop
def tw6663896369628448293:=Prop
def tw6683769817339685419:=Prop
def tw6755925336976613232:=Prop
def tw6759412095888398321:=Prop
def tw6761669909254768831:=Prop
def tw6767318904944593275:=Prop
def tw6785817131721698500:=Prop
def tw6800411261117162844:=Prop
def tw6804821044290156842:=Prop
def tw6818987989461384207:=Prop
def tw6820862383352777685:=Prop
def tw6830512106363814048:=Prop
def tw6838551448383532254:=Prop
def tw6868836192036940282:=Prop
def tw6882427118574961969:=Prop
def tw6892424819385984264:=Prop
def tw6898005170327248138:=Prop
def tw6906073325868019850:=Prop
def tw6924109203229866365:=Prop
def tw6931407450589930559:=Prop
def tw6957150274394394060:=Prop
def tw697623264460660564:=Prop
def tw6982297934935202809:=Prop
def tw6990203504111849199:=Prop
def tw6992766137984940163:=Prop
def tw701787995468756871:=Prop
def tw7023726343779634624:=Prop
def tw7028611270464810887:=Prop
def tw7031273417212677730:=Prop
def tw7080932558258925280:=Prop
def tw7082855905992002993:=Prop
def tw7085514621470718492:=Prop
def tw7109450275434161582:=Prop
def tw7120233287515763914:=Prop
def tw7152984921513172624:=Prop
def tw7153062008950511462:=Prop
def tw7191455744419660376:=Prop
def tw7261450039545342454:=Prop
def tw7270182246851987180:=Prop
def tw7289634563603522867:=Prop
def tw7292484366425897655:=Prop
def tw7294075314067506599:=Prop
def tw7296583596125217682:=Prop
def tw7317836474542784337:=Prop
def tw732345407407602841:=Prop
def tw7345208892882624808:=Prop
def tw7354087734392854552:=Prop
def tw7355570028127101125:=Prop
def tw7366208706002141716:=Prop
def tw7379015992945566340:=Prop
def tw7382370116671421104:=Prop
def tw7492773218913965947:=Prop
def tw7494724483528729301:=Prop
def tw7510230149288206974:=Prop
def tw7512474625130614241:=Prop
def tw7519716089354478335:=Prop
def tw7525542149764818722:=Prop
def tw7526368328331116154:=Prop
def tw7534799579077118603:=Prop
def tw7540655947842036084:=Prop
def tw7540741092611519060:=Prop
def tw7541792107247259296:=Prop
def tw7578210074245671484:=Prop
def tw758273949599710562:=Prop
def tw7598622570094877466:=Prop
def tw7610815399733428385:=Prop
def tw7628703163842673926:=Prop
def tw7654286748164834634:=Prop
def tw7676003278276379012:=Prop
def tw7698358502638924378:=Prop
def tw7721951785955056133:=Prop
def tw7746578258024575070:=Prop
def tw7752767780024739350:=Prop
def tw7754304195085646258:=Prop
def tw7763873220885509757:=Prop
def tw7793673504863384051:=Prop
def tw7854228177987924090:=Prop
def tw7880807054014371918:=Prop
def tw7891253978561527248:=Prop
def tw7914949630228597729:=Prop
def tw7927469264209771579:=Prop
def tw8004679753235328684:=Prop
def tw8015326511298524721:=Prop
def tw8044012406986999415:=Prop
def tw8047900516022102942:=Prop
def tw8068729725432388964:=Prop
def tw8081886968326746073:=Prop
def tw8086110750863094267:=Prop
def tw8112040973832200146:=Prop
def tw8117029840178788049:=Prop
def tw8134915037123179040:=Prop
def tw8184699220007379433:=Prop
def tw8191903926673212241:=Prop
def tw8226494294326810461:=Prop
def tw8242931771332617035:=Prop
def tw825126770350376351:=Prop
def tw8273930003744585626:=Prop
def tw8312999807965096350:=Prop
def tw8317466277049474617:=Prop
def tw8343274005884668182:=Prop
def tw8351282476255451920:=Prop
def tw8364274539379898114:=Prop
def tw8381844023166312768:=Prop
def tw8414420238210853183:=Prop
def tw8428860471423672150:=Prop
def tw845060206244984605:=Prop
def tw8453334948447009548:=Prop
def tw8457440626546761165:=Prop
def tw8458067239894703972:=Prop
def tw8479784124755550697:=Prop
def tw8493152586797012548:=Prop
def tw8516288146210602744:=Prop
def tw8545014587354053640:=Prop
def tw8587404781116728655:=Prop
def tw8589211134812392127:=Prop
def tw8609351116199087170:=Prop
def tw8652628183442184457:=Prop
def tw8664936974563722654:=Prop
def tw8671608845466749128:=Prop
def tw8684328023851190084:=Prop
def tw8716120427605611371:=Prop
def tw8727321023445011275:=Prop
def tw8735263284916673568:=Prop
def tw8770205317985620760:=Prop
def tw8789358453043137523:=Prop
def tw8801323125487838256:=Prop
def tw8832402302947667407:=Prop
def tw8841187974860818712:=Prop
def tw8879563391730754479:=Prop
def tw8934143017859847078:=Prop
def tw8959176491354863721:=Prop
def tw8960069828448710407:=Prop
def tw8965841893048198262:=Prop
def tw8977307856219701671:=Prop
def tw8990313861142287110:=Prop
def tw9013056391748086436:=Prop
def tw9073681462420916055:=Prop
def tw9087110039335098043:=Prop
def tw9131607905817354932:=Prop
def tw9132557439983319658:=Prop
def tw9153386212771759811:=Prop
def tw9155422001095189878:=Prop
def tw9170477692918782315:=Prop
def tw9184186324627900627:=Prop
def tw920214292312260371:=Prop
def tw922143313871775805:=Prop
def tw9228397985900620932:=Prop
def tw9237616624170024493:=Prop
def tw9244321171653502345:=Prop
def tw9271970288684553227:=Prop
def tw9277588360372424766:=Prop
def tw9298403506768410418:=Prop
def tw9325612240067072397:=Prop
def tw9330943631129107780:=Prop
def tw9345676750909349944:=Prop
def tw9345929723534960622:=Prop
def tw940617070666608080:=Prop
def tw9406673726873002282:=Prop
def tw9421340871869096474:=Prop
def tw9427301549700849589:=Prop
def tw9430268157657104642:=Prop
def tw9449672872311958731:=Prop
def tw9459050058782445324:=Prop
def tw9496365245306024149:=Prop
def tw9499510787657705874:=Prop
def tw9533747618267967006:=Prop
def tw9555612238305686254:=Prop
def tw9557236495431379559:=Prop
def tw9566141503761928105:=Prop
def tw9577689765879766989:=Prop
def tw9617658007855726926:=Prop
def tw9657781627882305391:=Prop
def tw9702936160620672325:=Prop
def tw9719896912496429819:=Prop
def tw9731375825926819010:=Prop
def tw9741134391959003819:=Prop
def tw9748044761591592747:=Prop
def tw9763420282994701918:=Prop
def tw9783614193127449063:=Prop
def tw978945382295711627:=Prop
def tw9908193460736022307:=Prop
def tw991583007596301734:=Prop
def tw9960721518486171458:=Prop
def tw9983995961361265002:=Prop
def tw9990345226319884068:=Prop
end hd
def row0 : OpenRow := { prog := PySem.Challenge.pw_bf0059_01, name := (PySem.Str.ofString "_law_first"), records := [], args := [.list .int, .int], returns := .list .int, pre := .and (.not (.lt (.arg 1) (.lit (.int 0)))) (.lt (.arg 1) (.len (.arg 0))), post := .lit (.bool true), raises := [], mutates := [], within := [], unshared := false, same := none, under := ⟨true, true, true⟩, after := ⟨true, true, true⟩, apart := false, loose := [], pinned := false, writes := false }
theorem hd : True := by
 refine (haveI h : row0.wellSaid = true → row0.Holds := (by intro k1; open_k); trivial)
end Mine
end
set_option Elab.async false
set_option compiler.extract_closed false
set_option compiler.reuse false
section
namespace Mine
section
universe u1 u2 u3 u4 u5 u6 u7 u8 u9
theorem ex1 {t1 : Sort u1} {B : t1 → Prop} {G : Prop} (h : ∃ x1, B x1) (k : ∀ x1, B x1 → G) : G := match h with | ⟨x1, q⟩ => k x1 q
theorem ex2 {t1 : Sort u1} {t2 : Sort u2} {B : t1 → t2 → Prop} {G : Prop} (h : ∃ x1 x2, B x1 x2) (k : ∀ x1 x2, B x1 x2 → G) : G := match h with | ⟨x1, x2, q⟩ => k x1 x2 q
theorem ex3 {t1 : Sort u1} {t2 : Sort u2} {t3 : Sort u3} {B : t1 → t2 → t3 → Prop} {G : Prop} (h : ∃ x1 x2 x3, B x1 x2 x3) (k : ∀ x1 x2 x3, B x1 x2 x3 → G) : G := match h with | ⟨x1, x2, x3, q⟩ => k x1 x2 x3 q
theorem ex4 {t1 : Sort u1} {t2 : Sort u2} {t3 : Sort u3} {t4 : Sort u4} {B : t1 → t2 → t3 → t4 → Prop} {G : Prop} (h : ∃ x1 x2 x3 x4, B x1 x2 x3 x4) (k : ∀ x1 x2 x3 x4, B x1 x2 x3 x4 → G) : G := match h with | ⟨x1, x2, x3, x4, q⟩ => k x1 x2 x3 x4 q
theorem ex5 {t1 : Sort u1} {t2 : Sort u2} {t3 : Sort u3} {t4 : Sort u4} {t5 : Sort u5} {B : t1 → t2 → t3 → t4 → t5 → Prop} {G : Prop} (h : ∃ x1 x2 x3 x4 x5, B x1 x2 x3 x4 x5) (k : ∀ x1 x2 x3 x4 x5, B x1 x2 x3 x4 x5 → G) : G := match h with | ⟨x1, x2, x3, x4, x5, q⟩ => k x1 x2 x3 x4 x5 q
theorem ex6 {t1 : Sort u1} {t2 : Sort u2} {t3 : Sort u3} {t4 : Sort u4} {t5 : Sort u5} {t6 : Sort u6} {B : t1 → t2 → t3 → t4 → t5 → t6 → Prop} {G : Prop} (h : ∃ x1 x2 x3 x4 x5 x6, B x1 x2 x3 x4 x5 x6) (k : ∀ x1 x2 x3 x4 x5 x6, B x1 x2 x3 x4 x5 x6 → G) : G := match h with | ⟨x1, x2, x3, x4, x5, x6, q⟩ => k x1 x2 x3 x4 x5 x6 q
theorem ex7 {t1 : Sort u1} {t2 : Sort u2} {t3 : Sort u3} {t4 : Sort u4} {t5 : Sort u5} {t6 : Sort u6} {t7 : Sort u7} {B : t1 → t2 → t3 → t4 → t5 → t6 → t7 → Prop} {G : Prop} (h : ∃ x1 x2 x3 x4 x5 x6 x7, B x1 x2 x3 x4 x5 x6 x7) (k : ∀ x1 x2 x3 x4 x5 x6 x7, B x1 x2 x3 x4 x5 x6 x7 → G) : G := match h with | ⟨x1, x2, x3, x4, x5, x6, x7, q⟩ => k x1 x2 x3 x4 x5 x6 x7 q
theorem ex8 {t1 : Sort u1} {t2 : Sort u2} {t3 : Sort u3} {t4 : Sort u4} {t5 : Sort u5} {t6 : Sort u6} {t7 : Sort u7} {t8 : Sort u8} {B : t1 → t2 → t3 → t4 → t5 → t6 → t7 → t8 → Prop} {G : Prop} (h : ∃ x1 x2 x3 x4 x5 x6 x7 x8, B x1 x2 x3 x4 x5 x6 x7 x8) (k : ∀ x1 x2 x3 x4 x5 x6 x7 x8, B x1 x2 x3 x4 x5 x6 x7 x8 → G) : G := match h with | ⟨x1, x2, x3, x4, x5, x6, x7, x8, q⟩ => k x1 x2 x3 x4 x5 x6 x7 x8 q
theorem ex9 {t1 : Sort u1} {t2 : Sort u2} {t3 : Sort u3} {t4 : Sort u4} {t5 : Sort u5} {t6 : Sort u6} {t7 : Sort u7} {t8 : Sort u8} {t9 : Sort u9} {B : t1 → t2 → t3 → t4 → t5 → t6 → t7 → t8 → t9 → Prop} {G : Prop} (h : ∃ x1 x2 x3 x4 x5 x6 x7 x8 x9, B x1 x2 x3 x4 x5 x6 x7 x8 x9) (k : ∀ x1 x2 x3 x4 x5 x6 x7 x8 x9, B x1 x2 x3 x4 x5 x6 x7 x8 x9 → G) : G := match h with | ⟨x1, x2, x3, x4, x5, x6, x7, x8, x9, q⟩ => k x1 x2 x3 x4 x5 x6 x7 x8 x9 q
end
section
variable {a1 a2 a3 a4 a5 a6 a7 a8 a9 a10 a11 a12 G : Prop}
theorem an2 (h : a1 ∧ a2) (k : a1 → a2 → G) : G := k h.1 h.2
theorem an3 (h : a1 ∧ a2 ∧ a3) (k : a1 → a2 → a3 → G) : G := k h.1 h.2.1 h.2.2
theorem an4 (h : a1 ∧ a2 ∧ a3 ∧ a4) (k : a1 → a2 → a3 → a4 → G) : G := k h.1 h.2.1 h.2.2.1 h.2.2.2
theorem an5 (h : a1 ∧ a2 ∧ a3 ∧ a4 ∧ a5) (k : a1 → a2 → a3 → a4 → a5 → G) : G := k h.1 h.2.1 h.2.2.1 h.2.2.2.1 h.2.2.2.2
theorem an6 (h : a1 ∧ a2 ∧ a3 ∧ a4 ∧ a5 ∧ a6) (k : a1 → a2 → a3 → a4 → a5 → a6 → G) : G := k h.1 h.2.1 h.2.2.1 h.2.2.2.1 h.2.2.2.2.1 h.2.2.2.2.2
theorem an7 (h : a1 ∧ a2 ∧ a3 ∧ a4 ∧ a5 ∧ a6 ∧ a7) (k : a1 → a2 → a3 → a4 → a5 → a6 → a7 → G) : G := k h.1 h.2.1 h.2.2.1 h.2.2.2.1 h.2.2.2.2.1 h.2.2.2.2.2.1 h.2.2.2.2.2.2
theorem an8 (h : a1 ∧ a2 ∧ a3 ∧ a4 ∧ a5 ∧ a6 ∧ a7 ∧ a8) (k : a1 → a2 → a3 → a4 → a5 → a6 → a7 → a8 → G) : G := k h.1 h.2.1 h.2.2.1 h.2.2.2.1 h.2.2.2.2.1 h.2.2.2.2.2.1 h.2.2.2.2.2.2.1 h.2.2.2.2.2.2.2
theorem an9 (h : a1 ∧ a2 ∧ a3 ∧ a4 ∧ a5 ∧ a6 ∧ a7 ∧ a8 ∧ a9) (k : a1 → a2 → a3 → a4 → a5 → a6 → a7 → a8 → a9 → G) : G := k h.1 h.2.1 h.2.2.1 h.2.2.2.1 h.2.2.2.2.1 h.2.2.2.2.2.1 h.2.2.2.2.2.2.1 h.2.2.2.2.2.2.2.1 h.2.2.2.2.2.2.2.2
theorem an10 (h : a1 ∧ a2 ∧ a3 ∧ a4 ∧ a5 ∧ a6 ∧ a7 ∧ a8 ∧ a9 ∧ a10) (k : a1 → a2 → a3 → a4 → a5 → a6 → a7 → a8 → a9 → a10 → G) : G := k h.1 h.2.1 h.2.2.1 h.2.2.2.1 h.2.2.2.2.1 h.2.2.2.2.2.1 h.2.2.2.2.2.2.1 h.2.2.2.2.2.2.2.1 h.2.2.2.2.2.2.2.2.1 h.2.2.2.2.2.2.2.2.2
theorem an11 (h : a1 ∧ a2 ∧ a3 ∧ a4 ∧ a5 ∧ a6 ∧ a7 ∧ a8 ∧ a9 ∧ a10 ∧ a11) (k : a1 → a2 → a3 → a4 → a5 → a6 → a7 → a8 → a9 → a10 → a11 → G) : G := k h.1 h.2.1 h.2.2.1 h.2.2.2.1 h.2.2.2.2.1 h.2.2.2.2.2.1 h.2.2.2.2.2.2.1 h.2.2.2.2.2.2.2.1 h.2.2.2.2.2.2.2.2.1 h.2.2.2.2.2.2.2.2.2.1 h.2.2.2.2.2.2.2.2.2.2
theorem an12 (h : a1 ∧ a2 ∧ a3 ∧ a4 ∧ a5 ∧ a6 ∧ a7 ∧ a8 ∧ a9 ∧ a10 ∧ a11 ∧ a12) (k : a1 → a2 → a3 → a4 → a5 → a6 → a7 → a8 → a9 → a10 → a11 → a12 → G) : G := k h.1 h.2.1 h.2.2.1 h.2.2.2.1 h.2.2.2.2.1 h.2.2.2.2.2.1 h.2.2.2.2.2.2.1 h.2.2.2.2.2.2.2.1 h.2.2.2.2.2.2.2.2.1 h.2.2.2.2.2.2.2.2.2.1 h.2.2.2.2.2.2.2.2.2.2.1 h.2.2.2.2.2.2.2.2.2.2.2
end
section
universe u1 u2 u3 u4 u5 u6 u7 u8 u9
theorem xi2 {t1 : Sort u1} {t2 : Sort u2} {B : t1 → t2 → Prop} (x1 : t1) (x2 : t2) (h : B x1 x2) : ∃ x1 x2, B x1 x2 := ⟨x1, x2, h⟩
theorem xi3 {t1 : Sort u1} {t2 : Sort u2} {t3 : Sort u3} {B : t1 → t2 → t3 → Prop} (x1 : t1) (x2 : t2) (x3 : t3) (h : B x1 x2 x3) : ∃ x1 x2 x3, B x1 x2 x3 := ⟨x1, x2, x3, h⟩
theorem xi4 {t1 : Sort u1} {t2 : Sort u2} {t3 : Sort u3} {t4 : Sort u4} {B : t1 → t2 → t3 → t4 → Prop} (x1 : t1) (x2 : t2) (x3 : t3) (x4 : t4) (h : B x1 x2 x3 x4) : ∃ x1 x2 x3 x4, B x1 x2 x3 x4 := ⟨x1, x2, x3, x4, h⟩
theorem xi5 {t1 : Sort u1} {t2 : Sort u2} {t3 : Sort u3} {t4 : Sort u4} {t5 : Sort u5} {B : t1 → t2 → t3 → t4 → t5 → Prop} (x1 : t1) (x2 : t2) (x3 : t3) (x4 : t4) (x5 : t5) (h : B x1 x2 x3 x4 x5) : ∃ x1 x2 x3 x4 x5, B x1 x2 x3 x4 x5 := ⟨x1, x2, x3, x4, x5, h⟩
theorem xi6 {t1 : Sort u1} {t2 : Sort u2} {t3 : Sort u3} {t4 : Sort u4} {t5 : Sort u5} {t6 : Sort u6} {B : t1 → t2 → t3 → t4 → t5 → t6 → Prop} (x1 : t1) (x2 : t2) (x3 : t3) (x4 : t4) (x5 : t5) (x6 : t6) (h : B x1 x2 x3 x4 x5 x6) : ∃ x1 x2 x3 x4 x5 x6, B x1 x2 x3 x4 x5 x6 := ⟨x1, x2, x3, x4, x5, x6, h⟩
theorem xi7 {t1 : Sort u1} {t2 : Sort u2} {t3 : Sort u3} {t4 : Sort u4} {t5 : Sort u5} {t6 : Sort u6} {t7 : Sort u7} {B : t1 → t2 → t3 → t4 → t5 → t6 → t7 → Prop} (x1 : t1) (x2 : t2) (x3 : t3) (x4 : t4) (x5 : t5) (x6 : t6) (x7 : t7) (h : B x1 x2 x3 x4 x5 x6 x7) : ∃ x1 x2 x3 x4 x5 x6 x7, B x1 x2 x3 x4 x5 x6 x7 := ⟨x1, x2, x3, x4, x5, x6, x7, h⟩
theorem xi8 {t1 : Sort u1} {t2 : Sort u2} {t3 : Sort u3} {t4 : Sort u4} {t5 : Sort u5} {t6 : Sort u6} {t7 : Sort u7} {t8 : Sort u8} {B : t1 → t2 → t3 → t4 → t5 → t6 → t7 → t8 → Prop} (x1 : t1) (x2 : t2) (x3 : t3) (x4 : t4) (x5 : t5) (x6 : t6) (x7 : t7) (x8 : t8) (h : B x1 x2 x3 x4 x5 x6 x7 x8) : ∃ x1 x2 x3 x4 x5 x6 x7 x8, B x1 x2 x3 x4 x5 x6 x7 x8 := ⟨x1, x2, x3, x4, x5, x6, x7, x8, h⟩
theorem xi9 {t1 : Sort u1} {t2 : Sort u2} {t3 : Sort u3} {t4 : Sort u4} {t5 : Sort u5} {t6 : Sort u6} {t7 : Sort u7} {t8 : Sort u8} {t9 : Sort u9} {B : t1 → t2 → t3 → t4 → t5 → t6 → t7 → t8 → t9 → Prop} (x1 : t1) (x2 : t2) (x3 : t3) (x4 : t4) (x5 : t5) (x6 : t6) (x7 : t7) (x8 : t8) (x9 : t9) (h : B x1 x2 x3 x4 x5 x6 x7 x8 x9) : ∃ x1 x2 x3 x4 x5 x6 x7 x8 x9, B x1 x2 x3 x4 x5 x6 x7 x8 x9 := ⟨x1, x2, x3, x4, x5, x6, x7, x8, x9, h⟩
end
theorem opq {α β : Type} {p : α → β → Prop} {G : Prop} (h : ∀ I : α → β → Prop, (∀ n s, p n s → I n s) → (∀ n s, I n s → p n s) → G) : G := h p (fun _ _ x => x) fun _ _ x => x
end Mine
end
section
namespace Mine
def Wr {T : Prop} (_ : T) : Prop := True
theorem Wr.i {T : Prop} {p : T} : Wr p := trivial
section
variable {a b c d e f m n : Nat} {p : Prop}
theorem o1 (h : c + 1 + a = b) : a < b := Nat.lt_of_lt_of_eq (Nat.lt_add_of_pos_left (Nat.succ_pos c)) h
theorem o2 (h : a + 1 + b = c) : a + (b + 1) = c := (Nat.add_right_comm a b 1).trans h
theorem o3 (h : 0 + b = a) : a ≤ b := Nat.le_of_eq (h.symm.trans (Nat.zero_add b))
theorem o0 (h : b + 2 < a) : b < a := Nat.lt_of_le_of_lt (Nat.le_add_right b 2) h
theorem o4 (h : b + 2 < a) : a ≠ b := Nat.ne_of_gt (o0 h)
theorem o5 (h : a + 2 < c ∧ c < b ∧ p) : a ≤ b := Nat.le_of_lt (Nat.lt_trans (o0 h.1) h.2.1)
theorem o6 (h : 0 + a = b) : a = b := (Nat.zero_add a).symm.trans h
theorem o7 (h : e + 1 + c = b) (k : a + 1 = b - c + d) : a = b - (c + 1) + d := by
 subst h; rw [Nat.add_sub_cancel] at k; rw [Nat.sub_add_eq, Nat.add_sub_cancel]; exact Nat.succ.inj (k.trans (Nat.add_right_comm e 1 d))
theorem o41 (k : a = b - c + d) (h : e + 1 + c = b) : a = b - (c + 1) + d + 1 := by
 subst h; rw [Nat.add_sub_cancel] at k; rw [Nat.sub_add_eq, Nat.add_sub_cancel]; exact k.trans (Nat.add_right_comm e 1 d)
theorem o8 (h : e + 1 + c = b) (k : a = b - c + d) : a = a - 1 + 1 := by rw [o41 k h]; rfl
theorem o9 (h : b < a) : a - b = a - (b + 1) + 1 := (Nat.sub_add_cancel (Nat.sub_pos_of_lt h)).symm
theorem o10 (h : a + 1 = b - c) : a = b - (c + 1) := congrArg Nat.pred h
theorem o11 (h : e + 1 + c = b) (k : a = b - c) : a = a - 1 + 1 := o8 (d := 0) h k
theorem o12 (h : 0 + b = c) (k : a = c) : a ≤ b := o3 (h.trans k.symm)
theorem o13 (h : b + 2 < a) : b ≠ a := Nat.ne_of_lt (o0 h)
theorem o15 (h : a + 2 < c) (k : c < b) : a < b := Nat.lt_trans (o0 h) k
theorem o17 (h : b = c) (k : d + 1 + a = c) : a < b := h.symm ▸ o1 k
theorem o18 (h : a + 2 < b) : a ≤ b := Nat.le_of_lt (o0 h)
theorem o19 (h : a + 2 < b) : a + 1 ≠ b := Nat.ne_of_lt (Nat.lt_trans (Nat.lt_succ_self _) h)
theorem o21 (h : a ≤ m) (k : decide (m ≤ n) = true) : a ≤ n := Nat.le_trans h (of_decide_eq_true k)
theorem o22 (h : a ≤ b) (l : b ≤ m) (k : decide (m ≤ n) = true) : a ≤ n := o21 (Nat.le_trans h l) k
theorem o25 (h : a ≤ m) (k : decide (m < n) = true) : a < n := Nat.lt_of_le_of_lt h (of_decide_eq_true k)
theorem o26 (h : a = b) (l : b ≤ n) : a ≤ n := h.symm ▸ l
theorem o27 (h : 0 + b = c) (k : a = c - b) : a = 0 := k.trans (by rw [← h, Nat.zero_add, Nat.sub_self])
theorem o29 (h : a ≤ b) (k : d + 1 + b = c) (l : c ≤ m) : a ≤ m := Nat.le_trans h (Nat.le_trans (Nat.le_of_lt (o1 k)) l)
theorem o31 (h : a ≤ b + 1 + c) : a ≤ b + (c + 1) := Nat.le_trans h (Nat.le_of_eq (Nat.add_right_comm b 1 c))
theorem o30 (h : a ≤ d + c) (k : d ≤ b + 1) : a ≤ b + (c + 1) := o31 (Nat.le_trans h (Nat.add_le_add_right k c))
theorem o32 (h : c ≤ b) (k : a + 2 < c) : a + 1 ≠ b := o19 (Nat.lt_of_lt_of_le k h)
theorem o33 (h : d + 1 + b = c) (l : c ≤ m) : b ≤ m := Nat.le_trans (Nat.le_of_lt (o1 h)) l
theorem o36 (h : a - b = c + 1) : a - (b + 1) = c := congrArg Nat.pred h
theorem o38 (h : a ≤ m) (k : decide (m ≤ n) = true) : a + c ≤ n + c := Nat.add_le_add_right (o21 h k) c
end
universe u
@[elab_as_elim] theorem rwG {T : Sort u} {a b : T} {p : T → Prop} (e : a = b) (h : p b) : p a := e ▸ h
@[elab_as_elim] theorem rwB {T : Sort u} {a b : T} {p : T → Prop} (e : a = b) (h : p a) : p b := e ▸ h
section
open Lean
def tpG (a : List Syntax) : List String → List (Name × Array Syntax) → Syntax
 | t :: l, (k, r) :: s =>
  if t == ")" then match s with
   | (k', r') :: s => tpG a l ((k', r'.push (.node .none k r)) :: s)
   | _ => .missing
  else if t == "(" || t == "$" || t == "<" || t == "'" then match l with
   | u :: l =>
    if t == "(" then tpG a l (((u.toName.replacePrefix `T `Lean.Parser.Tactic).replacePrefix `M `Lean.Parser.Term, #[]) :: (k, r) :: s)
    else tpG a l ((k, r.push (if t == "$" then a.getD (u.length - 1) .missing else if t == "<" then mkIdent u.toName else .atom .none u)) :: s)
   | _ => .missing
  else tpG a l ((k, r.push (.atom .none t)) :: s)
 | _, (_, r) :: _ => r.getD 0 .missing
 | _, _ => .missing
def tp (s : String) (a : List Syntax) : Syntax := tpG a (s.splitOn " ") [(`null, #[])]
def sI (s : String) : Syntax := mkIdent (.mkSimple s)
def sM (s : String) (n : Nat) : Syntax := mkIdent (.str `Mine (s ++ toString n))
def sL (a : List Syntax) : Syntax := .node .none `null a.toArray
def sS (s : String) : List Syntax → Syntax
 | [] => sL []
 | x :: l => sL (x :: l.flatMap fun y => [.atom .none s, y])
def sP (a : List Syntax) : Syntax := tp "( T.paren ' ( ( T.tacticSeq ( T.tacticSeq1Indented $ i ) ) ' ) )" [sS ";" a]
def sO (a b : Syntax) : Syntax := tp "( T.first first ( null ( group | ( T.tacticSeq ( T.tacticSeq1Indented ( null $ i ) ) ) ) ( group | ( T.tacticSeq ( T.tacticSeq1Indented ( null $ ii ) ) ) ) ) )" [a, b]
def sR (t : Syntax) : Syntax := tp "( T.refine refine $ i )" [t]
def sF (f : Syntax) (a : List Syntax) : Syntax := tp "( M.app $ i $ ii )" [f, sL a]
def sX (xs : List Syntax) (b : Syntax) : Syntax := tp "( M.fun fun ( M.basicFun $ i ( null ) => $ ii ) )" [sL xs, b]
def sH : Syntax := tp "( M.syntheticHole ? _ )" []
def sC (x : Syntax) : Syntax := tp "( T.first first ( null ( group | ( T.tacticSeq ( T.tacticSeq1Indented ( null ( T.clear clear ( null $ i ) ) ) ) ) ) ( group | ( T.tacticSeq ( T.tacticSeq1Indented ( null ( T.skip skip ) ) ) ) ) ) )" [x]
def sB (r t : Syntax) : Syntax := tp "( T.obtain obtain ( null ( T.rcasesPatMed ( null ( T.rcasesPat.paren ' ( $ i ' ) ) ) ) ) ( null ) ( null := ( null $ ii ) ) )" [r, t]
def sG (xs : List Syntax) (a : Syntax) : Nat → Syntax → Syntax → Syntax
 | 0, _, _ => a
 | f + 1, x, p =>
  let n := xs.length; let k := n - f - 1; let m := f + 1
  let a := if k ≤ 9 && m ≤ 12 then
   let z := sX (xs.drop k) sH
   let z := if m == 1 then sH else sF (sM "an" m) [if k == 0 then x else p, z]
   sO a (sR (if k == 0 then z else sF (sM "ex" k) [x, sX (if m == 1 then xs else xs.take k ++ [p]) z])) else a
  sG xs a f x p
def sT (n : Nat) : List Syntax → List Syntax × List Syntax
 | [] => ([], [])
 | r :: l =>
  let z := sT n l
  let o := r[0][0][0]
  if r[0][0].getNumArgs == 1 && r[1].isNone && o.isOfKind ``Parser.Tactic.rcasesPat.one && o[0].getId != `rfl then (o[0] :: z.1, z.2) else
  let y := sI s!"q✝{l.length}"
  (y :: z.1, if o.isOfKind ``Parser.Tactic.rcasesPat.ignore then z.2 else sB r y :: z.2)
def sObt (s : Syntax) : Option Syntax :=
 let po := s[1]; let t := s[3][1][0]; let o := po[0][0][0]
 let l := o[1].getSepArgs.toList
 if s[2].isNone && s[3][1].getNumArgs == 1 && po[0][0].getNumArgs == 1 && o.isOfKind ``Parser.Tactic.rcasesPat.tuple && l.length > 1 then
  let z := sT 0 l
  let own := t.isIdent && z.1.all (·.getId != t.getId)
  let p := sI "p✝"
  let x := if own then t else sI "x✝"
  let go := sG z.1 (tp "( T.fail fail ( null ) )" []) l.length x p :: sC p :: sC x :: z.2
  some (sO (sP (if own then go else tp "( T.tacticHave__ have ( M.letConfig ( null ) ) ( M.letDecl ( M.letIdDecl ( M.letId $ i ) ( null ) ( null ) := $ ii ) ) )" [x, t] :: if t.isIdent then sC t :: go else go))
   (sB (tp "( T.rcasesPatLo $ i ( null ) )" [po[0]]) t))
 else none
def sE (xs : List Syntax) (a : Syntax) : Nat → Syntax
 | 0 => a
 | f + 1 =>
  let a := sE xs a f
  let j := f + 2
  if j ≤ 9 then sO (sR (sF (sM "xi" j) (xs.take j ++ [match xs.drop j with | [y] => y | r => tp "( M.anonymousCtor ⟨ $ i ⟩ )" [sS "," r]]))) a else a
def sAny (s : Syntax) : Option Syntax :=
 let t := s[1]
 let xs := t[1].getSepArgs.toList
 if t.isOfKind ``Parser.Term.anonymousCtor && xs.length > 2 then
  some (sE xs (sR (tp "( M.paren ( M.hygienicLParen ' ( ( hygieneInfo $ ii ) ) $ i ' ) )" [t, mkIdent .anonymous])) (xs.length - 2))
 else none
def sRi : List Syntax → Bool × List Syntax
 | [] => (false, [])
 | p :: l =>
  let z := sRi l
  if p.isOfKind ``Parser.Tactic.rintroPat.one && p[0].isOfKind ``Parser.Tactic.rcasesPat.tuple && p[0][1].getNumArgs > 1 then
   (true, tp "( T.intro intro ( null < zr ) )" [] :: tp "( T.obtain obtain ( null ( T.rcasesPatMed ( null $ i ) ) ) ( null ) ( null := ( null < zr ) ) )" [p[0]] :: z.2)
  else (z.1, tp "( T.rintro rintro ( null $ i ) ( null ) )" [p] :: z.2)
def sInt (s : Syntax) : Option Syntax :=
 let z := sRi s[1].getArgs.toList
 if z.1 && s[2].isNone then some (sP z.2) else none
def sHen (s : Syntax) : MacroM Syntax := do
 match s[1].getArgs.toList with
 | x :: ys =>
  let n := ys.length
  if x.getId != `hen then Macro.throwUnsupported
  let m := mkIdent (← Macro.addMacroScope `m)
  let q := sL ys
  return sP [tp "( T.generalize generalize $ i ( null ( T.location at ( T.locationWildcard * ) ) ) )" [sS "," (ys.map fun y => tp "( T.generalizeArg ( null ) $ i = $ i )" [y])],
   tp "( T.revert revert $ i )" [q],
   tp "( T.refine refine ( M.app $ ii ( null < inferInstance ( M.paren ( M.hygienicLParen ' ( ( hygieneInfo $ iiiiii ) ) ( M.letMVar let_mvar% ? $ i := ( M.typeAscription ( M.hygienicLParen ' ( ( hygieneInfo $ iiiiii ) ) ( M.syntheticHole ? _ ) : ( null ( M.app $ iii ( null ( M.hole _ ) ) ) ) ' ) ) ; ( M.byTactic by ( T.tacticSeq ( T.tacticSeq1Indented ( null ( T.intro intro $ iiii ) ; ( T.exact exact ( M.app ( M.syntheticHole ? $ i ) $ iiiii ) ) ) ) ) ) ) ' ) ) ) ) )" [m, sM "hn" n, sM "G" n, sL (tp "( M.hole _ )" [] :: ys), q, mkIdent .anonymous],
   tp "( T.intro intro $ i )" [q], sR (sF (sM "w" n) (ys ++ [sH])),
   tp "( T.set_option set_option < tactic.hygienic ( null ) false in ( T.tacticSeq ( T.tacticSeq1Indented ( null ( T.intros intros ( null ) ) ) ) ) )" []]
 | _ => Macro.throwUnsupported
def sExt (s : Syntax) : MacroM Syntax := return sP (s[1].getArgs.toList.map fun p =>
 let n := p[0][0].getId
 if n == `d then tp "( T.dsimp dsimp ( T.optConfig ( null ) ) ( null ) ( null only ) ( null ) ( null ) )" [] else
 let z := fun l => sR (sF (mkIdent (if n.isAtomic then .mkSimple ("wpAny_" ++ n.toString) else n.replacePrefix `o .anonymous)) l)
 let y := fun x => tp "( T.withReducible with_reducible ( T.tacticSeq ( T.tacticSeq1Indented ( null $ i ) ) ) )" [x]
 let r := tp "( T.tacticRfl rfl )" []
 if n == `o.cf then sO (sP [y (z [sH, sH, sH, sH]), r, r, r]) (sR (tp "( M.app < call_fn ( null ( M.paren ( M.hygienicLParen ' ( ( hygieneInfo $ ii ) ) ( M.byTactic by ( T.tacticSeq ( T.tacticSeq1Indented ( null $ i ) ) ) ) ' ) ) ( M.syntheticHole ? _ ) ) )" [r, mkIdent .anonymous])) else
 sO (y (z [sH])) (z [sH]))
def sZ (s : Syntax) : Syntax := tp "( T.exact exact ( M.paren ( M.hygienicLParen ' ( ( hygieneInfo $ ii ) ) ( M.letMVar let_mvar% ? < zT := ( M.typeAscription ( M.hygienicLParen ' ( ( hygieneInfo $ ii ) ) ( M.hole _ ) : ( null ( M.prop Prop ) ) ' ) ) ; ( M.letMVar let_mvar% ? < zp := ( M.typeAscription ( M.hygienicLParen ' ( ( hygieneInfo $ ii ) ) ( M.hole _ ) : ( null ( M.syntheticHole ? < zT ) ) ' ) ) ; ( M.haveI haveI ( M.letConfig ( null ) ) ( M.letDecl ( M.letIdDecl ( M.letId ( hygieneInfo $ ii ) ) ( null ) ( null ( M.typeSpec : ( M.app < Wr ( null ( M.syntheticHole ? < zp ) ) ) ) ) := ( M.paren ( M.hygienicLParen ' ( ( hygieneInfo $ ii ) ) ( M.byTactic by ( T.tacticSeq ( T.tacticSeq1Indented ( null ( T.tacticHave__ have ( M.letConfig ( null ) ) ( M.letDecl ( M.letIdDecl ( M.letId < zy ) ( null ) ( null ( M.typeSpec : ( M.app < Wr ( null ( M.typeAscription ( M.hygienicLParen ' ( ( hygieneInfo $ ii ) ) ( M.byTactic by $ i ) : ( null ( M.syntheticHole ? < zT ) ) ' ) ) ) ) ) ) := < Wr.i ) ) ) ; $ iii ; $ iii ; ( T.exact exact < zy ) ) ) ) ) ' ) ) ) ) ; ( M.syntheticHole ? < zp ) ) ) ) ' ) ) )" [s[1], mkIdent .anonymous, tp "( T.Conv.conv conv ( null at < zy ) ( null ) => ( T.Conv.convSeq ( T.Conv.convSeq1Indented ( null ( T.Conv.zeta zeta ) ) ) ) )" []]
def sW (x : Syntax) : Syntax := tp "( T.withReducible with_reducible ( T.tacticSeq ( T.tacticSeq1Indented ( null $ i ) ) ) )" [x]
def sA (x : Name) : Syntax := sW (tp "( T.apply apply $ i )" [mkIdent x])
def sHv (r : Bool) (s : Syntax) : MacroM Syntax := do
 let m ← Macro.addMacroScope `m
 let z ← Macro.addMacroScope `z
 let x := s[2][0][0][0]
 let z : Syntax := if r then mkIdent z else x
 return sP (sR (tp "( M.letMVar let_mvar% ? $ i := ( M.paren ( M.hygienicLParen ' ( ( hygieneInfo $ iiiii ) ) ( M.have have $ ii $ iii ; $ iiii ) ' ) ) ; $ iiiiii )" [mkIdent m, s[1], s[2], x, mkIdent .anonymous, sH]) ::
  sW (tp "( T.refine refine ( M.app ( M.typeAscription ( M.hygienicLParen ' ( ( hygieneInfo $ ii ) ) $ i : ( null ( M.arrow ( M.hole _ ) → ( M.hole _ ) ) ) ' ) ) ( null ( M.syntheticHole ? $ iii ) ) ) )" [sX [z] sH, mkIdent .anonymous, mkIdent m])
  :: if r then [sC x, tp "( T.renameI rename_i ( null ( Lean.binderIdent $ i ) ) )" [x]] else [])
def sRw (s : Syntax) : Option Syntax :=
 if s[1][0].getNumArgs == 0 && s[3].isNone then
  some (sP (s[2][1].getSepArgs.toList.map (fun r =>
   let f := fun x => tp "( T.withReducibleAndInstances with_reducible_and_instances ( T.tacticSeq ( T.tacticSeq1Indented ( null $ i ) ) ) )" [sR (sF (mkIdent (if r[0].isNone then `Mine.rwG else `Mine.rwB)) [x, sH])]
   sO (f r[1]) (sO (f (let e := r[1]; let l := tp "( M.ellipsis .. )" []; if e.isOfKind ``Parser.Term.app then e.setArg 1 (e[1].setArgs (e[1].getArgs.push l)) else sF e [l]))
    (tp "( T.rewriteSeq rewrite ( T.optConfig ( null ) ) ( T.rwRuleSeq [ ( null $ i ) ] ) ( null ) )" [r])))
   ++ [sO (sW (tp "( T.eqRefl eq_refl )" [])) (sO (sW (tp "( T.applyRfl apply_rfl )" [])) (tp "( T.skip skip )" []))]))
 else none
def sOm (z : Syntax) : Syntax :=
 let o := tp "( M.hole _ )" []
 let h : Syntax := .node .none `«term‹_›» #[.atom .none "‹", o, .atom .none "›"]
 let d := tp "( M.paren ( M.hygienicLParen ' ( ( hygieneInfo $ i ) ) ( M.byTactic by ( T.tacticSeq ( T.tacticSeq1Indented ( null ( T.decide decide ( T.optConfig ( null ) ) ) ) ) ) ) ' ) )" [mkIdent .anonymous]
 (sW (tp "( T.eqRefl eq_refl )" []) :: sA `Nat.le_refl :: sA `Nat.zero_le :: sA `Nat.add_zero :: ("Mine.o1:h Mine.o2:h Mine.o3:h Mine.o4:h Mine.o5:h Mine.o6:h Mine.o13:h Mine.o12:hh Mine.o15:hh Mine.o17:hh Mine.o18:h Mine.o0:h Mine.o19:h Mine.o7:hh Mine.o8:hh Mine.o41:hh Mine.o9:h Mine.o10:h Mine.o11:hh Mine.o21:hd Mine.o26:hh Mine.o33:hh Mine.o22:hhd Mine.o25:hd Mine.o29:hhh Mine.o31:h Mine.o30:hh Mine.o32:hh Mine.o36:h Mine.o38:hd Mine.o27:hh Nat.ne_of_lt:h Nat.le_add_right_of_le:h Nat.succ_le_succ:h Nat.le_of_not_lt:h Nat.sub_pos_of_lt:h Nat.ne_of_gt:h Nat.lt_trans:hh".splitOn " ").map fun s =>
  let p := s.splitOn ":"; sW (tp "( T.exact exact $ i )" [sF (mkIdent (p.getD 0 "").toName) ((p.getD 1 "").toList.map fun c => if c == 'd' then d else h)])).foldr sO z
def sMM (o : Option Syntax) : MacroM Syntax := match o with | some x => pure x | none => Macro.throwUnsupported
end
end Mine
end
noncomputable section
namespace Mine
open PySem PySem.W PySem.W.X PyProof.Rows PySem.Calls
open List (mem_singleton length_map mem_cons getElem?_eq_getElem mem_map not_mem_nil map_cons getElem?_map length_append nodup_nil map_append flatMap_cons length_cons getElem?_append_right mem_of_getElem? take_of_length_le getElem_mem foldl_cons getElem?_append_left map_map length_take take_succ_eq_append_getElem getElem_map foldl_append mem_append drop_eq_getElem_cons filterMap_cons_some map_congr_left flatMap_append mem_map_of_mem nodup_cons append_nil mem_or_eq_of_mem_set find?_eq_none take_length mem_of_find?_eq_some take_append_drop drop_zero pairwise_cons lookup_cons map_id filter_cons drop_length mem_flatMap forIn_cons find?_some flatten_cons take_succ filterMap_nil map_nil length)
open Nat (ne_of_lt le_trans ne_of_gt lt_succ_self le_of_lt le_refl lt_trans lt_succ_of_lt not_lt le_succ lt_of_lt_of_le zero_le sub_zero le_add_right le_succ_of_le lt_add_of_pos_right lt_or_ge lt_of_le_of_lt lt_irrefl le_of_eq sub_self succ_le_of_lt beq not_le)
open Heap (lt_size get?_push_of_some get?_push_size size_push get?_update_self)
open Bool (false_eq_true and_eq_true not_eq_true')
open Array (length_toList getElem?_toList getElem?_eq_none getElem?_push_size getElem?_push append_assoc mem_push toList_push toList_append size_append)
open Shared (setGen)
open Option (map_eq_some_iff bind_some map_some)
variable {A : Around} {w : World} {h h' h₀ h'' h₁ h1 h2 : Heap} {E Q : Value → Shared → Prop} {s s' s₀ s₁ s'' : Shared} {x a b dx C L pl dl S f e D b0 b' rl cda cc q r sc : Addr} {d : Drawn} {t ep at_ st nb c n' j ep' t' : Nat} {os : OsState} {es es' : Array DictEntry} {vs rus us svs ws : Array Value} {R : Result → Shared → Prop} {env : Env} {m m' mA : Str → Option Value} {k file : Str} {g gn : Array GenState} {kvs kw : List (Str × Value)} {o ox oc oD od o' : Obj} {mod mod' F : List Addr} {pos p1 p0 apos px py p2 p3 : Pos} {v Cv a0 u fl cls ok ov : Value} {kv kv' : Option Value} {gs : List Grp} {tk tf : Tok} {rows pss : List (List (Str × Int))} {z z' : Zone} {ds all : List PyData} {body orelse : List Stmt} {M : Model} {l : List Env} {hsh : Int} {scope : Scope} {elt target iter t1 t2 i1 i2 : Expr} {prog : Program} {fd : FuncData} {cdC cdD : ClassData} {fin : Result} {odx : Option Obj} {Y : Protocol} {fs : List Frame} {T BT : String} {K : Frag} {cl : List (Str × Addr)} {ks ss : List Str} {args : Args} {ps : List (Str × Int)} {ifs : List Expr} {ar : Arg} {cld dxo : Option Addr} {csl : Array (Option Value)} {rest first : List Value} {tb : SetTable} {news : List (Addr × Obj)} {S' Sf : Str → Bool} {Bi : Builtin}
set_option synthInstance.maxHeartbeats 0
set_option synthInstance.maxSize 4096
local macro_rules (kind := Lean.Parser.Tactic.obtain) | x => Mine.sMM (Mine.sObt x)
local macro_rules (kind := Lean.Parser.Tactic.exact) | x => Mine.sMM (Mine.sAny x)
local macro_rules (kind := Lean.Parser.Tactic.refine) | x => Mine.sMM (Mine.sAny x)
local macro_rules (kind := Lean.Parser.Tactic.rintro) | x => Mine.sMM (Mine.sInt x)
local macro_rules (kind := Lean.Parser.Tactic.revert) | x => Mine.sHen x
local macro_rules | `(tactic| omega) => return Mine.sOm (← `(tactic| first | lia -abstractProof | omega (splitDisjunctions := true)))
local macro_rules (kind := Lean.Parser.Tactic.tacticHaveI__) | x => Mine.sHv false x
local macro_rules (kind := Lean.Parser.Tactic.tacticLetI__) | x => Mine.sHv true x
local macro_rules (kind := Lean.Parser.Tactic.rwSeq) | x => Mine.sMM (Mine.sRw x)
local macro_rules (kind := Lean.Parser.Tactic.tacticUnhygienic_) | x => return Mine.sZ x
local macro_rules (kind := Lean.Elab.Tactic.Ext.ext) | x => Mine.sExt x
section
abbrev P : Program := PySem.Challenge.pw_bf0059_01
def K1 (P : Params) : Frag := [(2, hd.o_1_69 P), (3, hd.o_1_896 P), (15, hd.o_1_18 P), (17, hd.o_1_20 P), (18, hd.o_1_21 P), (20, hd.o_1_23 P), (21, hd.o_1_24 P), (22, hd.o_1_25 P), (25, hd.o_1_28 P), (30, hd.o_1_33 P), (31, hd.o_1_34 P), (32, hd.o_1_35 P), (34, hd.o_1_37 P), (35, hd.o_1_38 P), (37, hd.o_1_40 P), (38, hd.o_1_41 P), (39, hd.o_1_42 P), (40, hd.o_1_43 P), (41, hd.o_1_53 P), (42, hd.o_1_45 P), (45, hd.o_1_54 P), (52, hd.o_1_61 P), (53, hd.o_1_62 P), (54, hd.o_1_72 P), (57, hd.o_1_73 P), (64, hd.o_1_80 P), (65, hd.o_1_81 P), (66, hd.o_1_82 P), (76, hd.o_1_97 P), (78, hd.o_1_99 P), (79, hd.o_1_100 P), (81, hd.o_1_102 P), (82, hd.o_1_103 P), (83, hd.o_1_104 P), (84, hd.o_1_105 P), (85, hd.o_1_106 P), (86, hd.o_1_107 P), (87, hd.o_1_108 P), (90, hd.o_1_111 P), (91, hd.o_1_112 P), (92, hd.o_1_113 P), (94, hd.o_1_115 P), (95, hd.o_1_116 P), (97, hd.o_1_118 P), (98, hd.o_1_119 P), (106, hd.o_1_132 P), (107, hd.o_1_133 P), (109, hd.o_1_135 P), (110, hd.o_1_136 P), (112, hd.o_1_138 P), (113, hd.o_1_139 P), (114, hd.o_1_140 P), (116, hd.o_1_142 P), (117, hd.o_1_143 P), (119, hd.o_1_145 P), (120, hd.o_1_146 P), (121, hd.o_1_147 P), (123, hd.o_1_149 P), (124, hd.o_1_150 P), (126, hd.o_1_152 P), (127, hd.o_1_153 P), (128, hd.o_1_154 P), (129, hd.o_1_155 P), (131, hd.o_1_157 P), (132, hd.o_1_158 P), (134, hd.o_1_160 P), (135, hd.o_1_161 P), (136, hd.o_1_162 P), (138, hd.o_1_164 P), (139, hd.o_1_165 P), (141, hd.o_1_167 P), (142, hd.o_1_168 P), (143, hd.o_1_169 P), (145, hd.o_1_171 P), (146, hd.o_1_172 P), (148, hd.o_1_174 P), (149, hd.o_1_175 P), (150, hd.o_1_176 P), (152, hd.o_1_178 P), (153, hd.o_1_179 P), (155, hd.o_1_181 P), (156, hd.o_1_182 P), (157, hd.o_1_183 P), (159, hd.o_1_185 P), (160, hd.o_1_186 P), (162, hd.o_1_188 P), (163, hd.o_1_189 P), (164, hd.o_1_190 P), (165, hd.o_1_191 P), (166, hd.o_1_202 P), (167, hd.o_1_193 P), (168, hd.o_1_194 P), (171, hd.o_1_203 P), (178, hd.o_1_210 P), (180, hd.o_1_212 P), (181, hd.o_1_213 P), (183, hd.o_1_215 P), (184, hd.o_1_216 P), (185, hd.o_1_217 P), (187, hd.o_1_219 P), (188, hd.o_1_220 P), (190, hd.o_1_222 P), (191, hd.o_1_223 P), (192, hd.o_1_224 P), (194, hd.o_1_226 P), (195, hd.o_1_227 P), (197, hd.o_1_229 P), (198, hd.o_1_230 P), (199, hd.o_1_231 P), (201, hd.o_1_233 P), (202, hd.o_1_234 P), (204, hd.o_1_236 P), (205, hd.o_1_237 P), (206, hd.o_1_238 P), (207, hd.o_1_239 P), (209, hd.o_1_241 P), (210, hd.o_1_242 P), (212, hd.o_1_244 P), (213, hd.o_1_245 P), (214, hd.o_1_246 P), (215, hd.o_1_247 P), (216, hd.o_1_679 P), (219, hd.o_1_256 P), (221, hd.o_1_258 P), (222, hd.o_1_259 P), (224, hd.o_1_261 P), (225, hd.o_1_262 P), (226, hd.o_1_263 P), (233, hd.o_1_270 P), (234, hd.o_1_271 P), (236, hd.o_1_273 P), (237, hd.o_1_274 P), (239, hd.o_1_276 P), (240, hd.o_1_277 P), (241, hd.o_1_278 P), (242, hd.o_1_279 P), (243, hd.o_1_290 P), (244, hd.o_1_281 P), (245, hd.o_1_282 P), (248, hd.o_1_291 P), (251, hd.o_1_294 P), (256, hd.o_1_299 P), (257, hd.o_1_300 P), (258, hd.o_1_301 P), (260, hd.o_1_303 P), (261, hd.o_1_304 P), (263, hd.o_1_306 P), (264, hd.o_1_307 P), (265, hd.o_1_308 P), (266, hd.o_1_309 P), (268, hd.o_1_311 P), (269, hd.o_1_312 P), (271, hd.o_1_314 P), (272, hd.o_1_315 P), (273, hd.o_1_316 P), (274, hd.o_1_317 P), (276, hd.o_1_319 P), (277, hd.o_1_320 P), (279, hd.o_1_322 P), (280, hd.o_1_323 P), (281, hd.o_1_324 P), (282, hd.o_1_325 P), (284, hd.o_1_327 P), (285, hd.o_1_328 P), (287, hd.o_1_330 P), (288, hd.o_1_331 P), (289, hd.o_1_332 P), (290, hd.o_1_333 P), (292, hd.o_1_335 P), (293, hd.o_1_336 P), (295, hd.o_1_338 P), (296, hd.o_1_339 P), (297, hd.o_1_340 P), (298, hd.o_1_341 P), (299, hd.o_1_342 P), (301, hd.o_1_344 P), (302, hd.o_1_345 P), (304, hd.o_1_347 P), (305, hd.o_1_348 P), (306, hd.o_1_349 P), (307, hd.o_1_350 P), (309, hd.o_1_352 P), (310, hd.o_1_353 P), (312, hd.o_1_355 P), (313, hd.o_1_356 P), (314, hd.o_1_357 P), (315, hd.o_1_358 P), (317, hd.o_1_360 P), (318, hd.o_1_361 P), (320, hd.o_1_363 P), (321, hd.o_1_364 P), (322, hd.o_1_365 P), (323, hd.o_1_366 P), (325, hd.o_1_368 P), (326, hd.o_1_369 P), (328, hd.o_1_371 P), (329, hd.o_1_372 P), (330, hd.o_1_373 P), (331, hd.o_1_374 P), (332, hd.o_1_375 P), (334, hd.o_1_377 P), (335, hd.o_1_378 P), (337, hd.o_1_380 P), (338, hd.o_1_381 P), (339, hd.o_1_382 P), (340, hd.o_1_383 P), (342, hd.o_1_385 P), (343, hd.o_1_386 P), (345, hd.o_1_388 P), (346, hd.o_1_389 P), (347, hd.o_1_390 P), (348, hd.o_1_391 P), (350, hd.o_1_393 P), (351, hd.o_1_394 P), (353, hd.o_1_396 P), (354, hd.o_1_397 P), (355, hd.o_1_398 P), (357, hd.o_1_400 P), (358, hd.o_1_401 P), (360, hd.o_1_403 P), (361, hd.o_1_404 P), (362, hd.o_1_405 P), (364, hd.o_1_407 P), (365, hd.o_1_408 P), (367, hd.o_1_410 P), (368, hd.o_1_411 P), (369, hd.o_1_412 P), (370, hd.o_1_413 P), (372, hd.o_1_415 P), (373, hd.o_1_416 P), (375, hd.o_1_418 P), (376, hd.o_1_419 P), (377, hd.o_1_420 P), (379, hd.o_1_422 P), (380, hd.o_1_423 P), (382, hd.o_1_425 P), (383, hd.o_1_426 P), (384, hd.o_1_427 P), (386, hd.o_1_429 P), (387, hd.o_1_430 P), (389, hd.o_1_432 P), (390, hd.o_1_433 P), (391, hd.o_1_434 P), (392, hd.o_1_435 P), (393, hd.o_1_436 P), (395, hd.o_1_438 P), (396, hd.o_1_439 P), (398, hd.o_1_441 P), (399, hd.o_1_442 P), (400, hd.o_1_443 P), (402, hd.o_1_445 P), (403, hd.o_1_446 P), (405, hd.o_1_448 P), (406, hd.o_1_449 P), (407, hd.o_1_450 P), (409, hd.o_1_452 P), (410, hd.o_1_453 P), (412, hd.o_1_455 P), (413, hd.o_1_456 P), (414, hd.o_1_457 P), (416, hd.o_1_459 P), (417, hd.o_1_460 P), (419, hd.o_1_462 P), (420, hd.o_1_463 P), (421, hd.o_1_464 P), (423, hd.o_1_466 P), (424, hd.o_1_467 P), (426, hd.o_1_469 P), (427, hd.o_1_470 P), (428, hd.o_1_471 P), (430, hd.o_1_473 P), (431, hd.o_1_474 P), (433, hd.o_1_476 P), (434, hd.o_1_477 P), (435, hd.o_1_478 P), (436, hd.o_1_479 P), (437, hd.o_1_680 P), (440, hd.o_1_681 P), (443, hd.o_1_684 P), (448, hd.o_1_689 P), (449, hd.o_1_690 P), (450, hd.o_1_691 P), (452, hd.o_1_693 P), (453, hd.o_1_694 P), (455, hd.o_1_696 P), (456, hd.o_1_697 P), (457, hd.o_1_698 P), (459, hd.o_1_700 P), (460, hd.o_1_701 P), (462, hd.o_1_703 P), (463, hd.o_1_704 P), (464, hd.o_1_705 P), (465, hd.o_1_706 P), (467, hd.o_1_708 P), (468, hd.o_1_709 P), (470, hd.o_1_711 P), (471, hd.o_1_712 P), (472, hd.o_1_713 P), (473, hd.o_1_714 P), (475, hd.o_1_716 P), (476, hd.o_1_717 P), (478, hd.o_1_719 P), (479, hd.o_1_720 P), (480, hd.o_1_721 P), (482, hd.o_1_723 P), (483, hd.o_1_724 P), (485, hd.o_1_726 P), (486, hd.o_1_727 P), (487, hd.o_1_728 P), (489, hd.o_1_730 P), (490, hd.o_1_731 P), (492, hd.o_1_733 P), (493, hd.o_1_734 P), (494, hd.o_1_735 P), (496, hd.o_1_737 P), (497, hd.o_1_738 P), (499, hd.o_1_740 P), (500, hd.o_1_741 P), (501, hd.o_1_742 P), (502, hd.o_1_743 P), (504, hd.o_1_745 P), (505, hd.o_1_746 P), (507, hd.o_1_748 P), (508, hd.o_1_749 P), (509, hd.o_1_750 P), (511, hd.o_1_752 P), (512, hd.o_1_753 P), (514, hd.o_1_755 P), (515, hd.o_1_756 P), (516, hd.o_1_757 P), (518, hd.o_1_759 P), (519, hd.o_1_760 P), (521, hd.o_1_762 P), (522, hd.o_1_763 P), (523, hd.o_1_764 P), (525, hd.o_1_766 P), (526, hd.o_1_767 P), (528, hd.o_1_769 P), (529, hd.o_1_770 P), (530, hd.o_1_771 P), (532, hd.o_1_773 P), (533, hd.o_1_774 P), (535, hd.o_1_776 P), (536, hd.o_1_777 P), (537, hd.o_1_778 P), (539, hd.o_1_780 P), (540, hd.o_1_781 P), (542, hd.o_1_783 P), (543, hd.o_1_784 P), (544, hd.o_1_785 P), (546, hd.o_1_787 P), (547, hd.o_1_788 P), (549, hd.o_1_790 P), (550, hd.o_1_791 P), (551, hd.o_1_792 P), (553, hd.o_1_794 P), (554, hd.o_1_795 P), (556, hd.o_1_797 P), (557, hd.o_1_798 P), (558, hd.o_1_799 P), (559, hd.o_1_800 P), (560, hd.o_1_801 P), (563, hd.o_1_898 P), (565, hd.o_1_900 P), (566, hd.o_1_901 P), (568, hd.o_1_903 P), (569, hd.o_1_904 P), (570, hd.o_1_905 P), (573, hd.o_1_908 P), (574, hd.o_1_909 P), (575, hd.o_1_910 P), (578, hd.o_1_913 P), (579, hd.o_1_914 P), (580, hd.o_1_915 P), (583, hd.o_1_918 P), (584, hd.o_1_919 P), (585, hd.o_1_920 P), (587, hd.o_1_922 P), (588, hd.o_1_923 P), (590, hd.o_1_925 P), (591, hd.o_1_926 P), (592, hd.o_1_927 P), (594, hd.o_1_929 P), (595, hd.o_1_930 P), (597, hd.o_1_932 P), (598, hd.o_1_933 P), (599, hd.o_1_934 P), (602, hd.o_1_937 P), (603, hd.o_1_938 P)]
abbrev KK (w : World) : Frag := K1 w.params
structure Rm (n : Nat) (A : Around) : Prop where
 depth : A.depth ≤ 310 + n
 units : A.units ≤ 100 + 10 * n
section
variable {n : Nat}
theorem Rm.mono (x : Rm n A) (h : n ≤ n') : Rm n' A := ⟨by have := x.depth; omega, by have := x.units; omega⟩
theorem zdj (c : Code) : c.frames ≤ 3 := by
 unfold Code.frames
 split <;> first | omega | (split <;> omega)
theorem zb5 (c : Code) : c.cUnits ≤ 10 := by
 have := zdj c;unfold Code.cUnits
 split <;> omega
theorem zb3 {c : Code} (h : c.isCaller = false) : c.weight ≤ 5 := by
 have := zdj c;unfold Code.weight;rw [h];simp only [false_eq_true, if_false]
 split <;> split <;> omega
theorem Rm.under (x : Rm n A) {c : Code} (h : c.isCaller = false) : Rm (n + 5) (A.under c) :=
 ⟨by have := x.depth; have := zb3 h; show A.depth + c.weight ≤ _; omega, by have := x.units; have := zb5 c; show A.units + c.cUnits ≤ _; omega⟩
theorem Rm.in1 (x : Rm n A) : Rm (n + 1) A.in1 := ⟨by have := x.depth; show A.depth ≤ _; omega, by have := x.units; show A.units + 1 ≤ _; omega⟩
theorem Rm.mark (x : Rm n A) (e : Option Value) : Rm n (A.mark e) := ⟨x.depth, x.units⟩
theorem Rm.deeper (x : Rm n A) (env : Env) : Rm (n + 1) (A.deeper env) := ⟨by have := x.depth; show A.depth + 1 ≤ _; omega, by have := x.units; show A.units + 3 ≤ _; omega⟩
theorem Rm.dlt (x : Rm n A) (h : n ≤ 600 := by decide) : A.depth < recursionLimit := by have := x.depth; show A.depth < 1000; omega
theorem Rm.ult64 (x : Rm n A) (h : n ≤ 600 := by decide) : A.units + 64 < cLine := by have := x.units; show A.units + 64 < 9900; omega
end
def zco : List Addr := [481, 259]
structure Ext (mod : List Addr) (h h' : Heap) : Prop where
 keep : ∀ b o, h.get? b = some o → b ∉ mod → h'.get? b = some o ∨ (b ∈ zco ∧ ∃ ps more, o = tableObj ps ∧ h'.get? b = some (tableObj (ps ++ more)) ∧ (TriplesOk ps.toList → TriplesOk (ps ++ more).toList))
 there : ∀ b o, h.get? b = some o → ∃ o', h'.get? b = some o'
theorem Ext.refl (h : Heap) : Ext [] h h := ⟨fun _ _ e _ => .inl e, fun _ o e => ⟨o, e⟩⟩
theorem Ext.get (x : Ext mod h h') (e : h.get? b = some o) (hc : hasCls o = true) (hm : b ∉ mod) : h'.get? b = some o := by
 rcases x.keep b o e hm with q | ⟨_, ps, more, rfl, _⟩
 ·exact q
 ·cases hc
theorem Ext.get' (x : Ext mod h h') (e : h.get? b = some o) (ht : b ∉ zco) (hm : b ∉ mod) : h'.get? b = some o := by
 rcases x.keep b o e hm with q | ⟨t, _⟩
 ·exact q
 ·exact absurd t ht
theorem Ext.mono {mod : List Addr} (x : Ext mod h h') (hs : ∀ a ∈ mod, a ∈ mod') : Ext mod' h h' := ⟨fun b o e n => x.keep b o e fun m => n (hs b m), x.there⟩
theorem Ext.trans {mod' : List Addr} (x : Ext mod h h') (y : Ext mod' h' h'') (z : ∀ a ∈ mod', a ∈ mod ∨ h.get? a = none) : Ext mod h h'' := by
 refine ⟨fun b o e n => ?_, fun b o e => let ⟨o', e'⟩ := x.there b o e; y.there b o' e'⟩;have n' : b ∉ mod' := fun q => (z b q).elim n fun q => by rw [e] at q; cases q
 rcases x.keep b o e n with q | ⟨ht, ps, more, rfl, q, kq⟩
 ·exact y.keep b o q n'
 ·rcases y.keep b _ q n' with r | ⟨_, ps', more', e', r, kr⟩
  ·exact .inr ⟨ht, ps, more, rfl, r, kq⟩
  ·have : ps' = ps ++ more := by
    have z : (tableObj (ps ++ more)).data = (tableObj ps').data := congrArg Obj.data e';injection z with z; exact z.symm
   subst this;exact .inr ⟨ht, ps, more ++ more', rfl, by rw [r, append_assoc], fun z => by rw [← append_assoc]; exact kr (kq z)⟩
theorem Ext.of_keeps (k : ∀ b o, h.get? b = some o → h'.get? b = some o) : Ext [] h h' := ⟨fun b o e _ => .inl (k b o e), fun b o e => ⟨o, k b o e⟩⟩
theorem Ext.of_extBut (k : Heap.ExtBut h.objs.size h h') : Ext [] h h' := .of_keeps fun b o e => k b o (ne_of_lt (lt_size e)) e
theorem Ext.push (h : Heap) (o : Obj) : Ext [] h (h.push o) := .of_keeps fun _ _ e => get?_push_of_some _ e
theorem Ext.sameBut (hs : Heap.SameBut a h h') (ha : ∃ o, h'.get? a = some o) : Ext [a] h h' := by
 refine ⟨fun b o e n => .inl ((hs.2 b fun q => n (by rw [q]; exact .head _)).trans e), fun b o e => ?_⟩
 by_cases q : b = a
 ·subst q; exact ha
 ·exact ⟨o, (hs.2 b q).trans e⟩
theorem zaA (x : Ext mod h h') (n : h.Ns L m) (hm : L ∉ mod) : h'.Ns L m := by
 obtain ⟨o, es, ep, e, hd, r⟩ := n;rcases x.keep L o e hm with q | ⟨_, ps, more, rfl, _⟩
 ·exact ⟨o, es, ep, q, hd, r⟩
 ·cases hd
structure TopH (w : World) (h : Heap) : Prop where
 K : (KK w).In h
 g : ∃ mg, h.Ns mainGlobals mg
 b : ∃ mb, h.Ns builtinsNs mb ∧ ∀ x : Str, x ≠ "__name__" → mb x = bootBuiltins x
 lim : h.NoLimit
 tab : ∀ a ∈ zco, ∃ ps, h.get? a = some (tableObj ps) ∧ TriplesOk ps.toList
 bi : ∃ o, h.get? 4 = some o ∧ o.cls = .type "module" ∧ o.dict = some builtinsNs ∧ o.data = .plain
theorem zbZ (w : World) : ∀ a o, (KK w).lookup a = some o → a < 604 ∧ a ∉ zco := by
 have key : ∀ p ∈ (KK w).map (·.1), p < 604 ∧ p ∉ zco := by
  have e : ((KK w).map (·.1)).all (fun p => decide (p < 604) && !zco.contains p) = true := by kernel_rfl
  intro p hp;have := List.all_eq_true.mp e p hp;simpa using this
 intro a o e;have : (a, o) ∈ KK w := by
  generalize KK w = l at e
  induction l with
  | nil => cases e
  | cons x l ih =>
   obtain ⟨b, ob⟩ := x;rw [lookup_cons] at e
   by_cases q : (a == b) = true
   ·rw [q] at e; cases e
    have : a = b := by simpa using q
    subst this; exact .head _
   ·simp only [q] at e
    exact .tail _ (ih (by simpa using e))
 exact key a (mem_map_of_mem (f := (·.1)) this)
theorem TopH.ext {mod : List Addr} (T : TopH w h) (x : Ext mod h h') (hm : ∀ a ∈ mod, 604 ≤ a) : TopH w h' where
 K := fun a o e => x.get' (T.K a o e) (zbZ w a o e).2 fun q => not_lt.mpr (hm a q) (zbZ w a o e).1
 g := let ⟨mg, n⟩ := T.g; ⟨mg, zaA x n fun q => absurd (hm _ q) (by decide)⟩
 b := let ⟨mb, n, r⟩ := T.b; ⟨mb, zaA x n fun q => absurd (hm _ q) (by decide), r⟩
 lim := let ⟨mc, n, r⟩ := T.lim; ⟨mc, zaA x n fun q => absurd (hm _ q) (by decide), r⟩
 bi := let ⟨o, e, hc, r⟩ := T.bi; ⟨o, x.get e (by unfold hasCls; rw [hc]) (fun q => absurd (hm _ q) (by decide)), hc, r⟩
 tab := fun a ha => by
  obtain ⟨ps, e, k⟩ := T.tab a ha;have la : a < 604 := by
   unfold zco at ha;rcases mem_cons.mp ha with rfl | ha
   ·decide
   ·rw [mem_singleton.mp ha]; decide
  rcases x.keep a _ e (fun q => not_lt.mpr (hm a q) la) with r | ⟨_, ps', more, e', r, kq⟩
  ·exact ⟨ps, r, k⟩
  ·have z : (tableObj ps).data = (tableObj ps').data := congrArg Obj.data e'
   injection z with z
   subst z;exact ⟨_, r, kq k⟩
theorem TopH.low (T : TopH w h) : 604 ≤ h.objs.size := lt_size (T.K 603 _ (by rfl))
section
variable {α : Type} {m : Model} {x : Sem α} {Q : α → Shared → Prop}
theorem za5 (h : ∀ (Q' : α → Shared → Prop) (E' : Value → Shared → Prop), (∀ v s', Q v s' → Q' v s') → wpAny m A x Q' E' s) : wpAny m A x Q E s := h Q E fun _ _ z => z
theorem zeD {c : Code} (h : ∀ (Q' : α → Shared → Prop) (E' : Value → Shared → Prop), (∀ v s', Q v s' → Q' v s') → PySem.wpAt m A c x Q' E' s) : PySem.wpAt m A c x Q E s := h Q E fun _ _ z => z
end
section
variable {m : Model} {st : Stmt} {rest : List Stmt} {Q : Flow → Shared → Prop}
theorem zcg (h : ∀ (Q' : Flow → Shared → Prop) (E' : Value → Shared → Prop), (∀ s', wpAny m A (execs rest env) Q E s' → Q' .next s') → wpAny m A (exec st env) Q' E' s) : wpAny m A (execs (st :: rest) env) Q E s :=
 wpAny_execs_cons (h _ _ fun _ z => z)
end
end
section
noncomputable section
structure Zone where
 b0 : Addr
 B : Addr
 C : List Addr
 g : Nat
def H {V : Type} (e : Nonempty V) (P : V → Prop) : V := @Classical.epsilon V e fun v => ¬ P v
theorem H_all {V : Type} {e : Nonempty V} {P : V → Prop} (h : P (H e P)) (v : V) : P v := Classical.byContradiction fun n => @Classical.epsilon_spec V (fun v => ¬ P v) ⟨v, n⟩ h
def NE (V : Type) : Prop := ∀ [Nonempty Shared] [Nonempty Around] [Nonempty World] [Nonempty Drawn] [Nonempty GenState] [Nonempty Zone], Nonempty V
theorem NE.n {V : Type} (e : NE V) : Nonempty V := @e ⟨{}⟩ ⟨{}⟩ ⟨aWorld 1⟩ ⟨{}⟩ ⟨.running⟩ ⟨⟨0, 0, [], 0⟩⟩
variable {a b c d e f g h i j k l m n o p q r s t u v w x : Type}
abbrev W1 (P:a→Prop) A:=P A
abbrev G1 (P:a→Prop):=∀ A,W1 P A
theorem w1 {P:a→Prop} A (h:P A):W1 P A:=h
def F1 (P:a→Prop) (v:a):=P v
theorem hn1 (ne:∀ [Nonempty Shared] [Nonempty Around] [Nonempty World] [Nonempty Drawn] [Nonempty GenState] [Nonempty Zone],Nonempty (a)) {P:a→Prop} (h:have v:=H (NE.n @ne) (F1 P);have A:=v;W1 P A) A:P A:=H_all (P:=F1 P) h (A)
abbrev W2 (P:a→b→Prop) A B:=P A B
abbrev G2 (P:a→b→Prop):=∀ A B,W2 P A B
theorem w2 {P:a→b→Prop} A B (h:P A B):W2 P A B:=h
def F2 (P:a→b→Prop) (v:a×b):=P v.1 v.2
theorem hn2 (ne:∀ [Nonempty Shared] [Nonempty Around] [Nonempty World] [Nonempty Drawn] [Nonempty GenState] [Nonempty Zone],Nonempty (a×b)) {P:a→b→Prop} (h:have v:=H (NE.n @ne) (F2 P);have A:=v.1;have B:=v.2;W2 P A B) A B:P A B:=H_all (P:=F2 P) h (A,B)
abbrev W3 (P:a→b→c→Prop) A B C:=P A B C
abbrev G3 (P:a→b→c→Prop):=∀ A B C,W3 P A B C
theorem w3 {P:a→b→c→Prop} A B C (h:P A B C):W3 P A B C:=h
def F3 (P:a→b→c→Prop) (v:a×b×c):=P v.1 v.2.1 v.2.2
theorem hn3 (ne:∀ [Nonempty Shared] [Nonempty Around] [Nonempty World] [Nonempty Drawn] [Nonempty GenState] [Nonempty Zone],Nonempty (a×b×c)) {P:a→b→c→Prop} (h:have v:=H (NE.n @ne) (F3 P);have A:=v.1;have B:=v.2.1;have C:=v.2.2;W3 P A B C) A B C:P A B C:=H_all (P:=F3 P) h (A,B,C)
abbrev W4 (P:a→b→c→d→Prop) A B C D:=P A B C D
abbrev G4 (P:a→b→c→d→Prop):=∀ A B C D,W4 P A B C D
theorem w4 {P:a→b→c→d→Prop} A B C D (h:P A B C D):W4 P A B C D:=h
def F4 (P:a→b→c→d→Prop) (v:a×b×c×d):=P v.1 v.2.1 v.2.2.1 v.2.2.2
theorem hn4 (ne:∀ [Nonempty Shared] [Nonempty Around] [Nonempty World] [Nonempty Drawn] [Nonempty GenState] [Nonempty Zone],Nonempty (a×b×c×d)) {P:a→b→c→d→Prop} (h:have v:=H (NE.n @ne) (F4 P);have A:=v.1;have B:=v.2.1;have C:=v.2.2.1;have D:=v.2.2.2;W4 P A B C D) A B C D:P A B C D:=H_all (P:=F4 P) h (A,B,C,D)
abbrev W5 (P:a→b→c→d→e→Prop) A B C D E:=P A B C D E
abbrev G5 (P:a→b→c→d→e→Prop):=∀ A B C D E,W5 P A B C D E
theorem w5 {P:a→b→c→d→e→Prop} A B C D E (h:P A B C D E):W5 P A B C D E:=h
def F5 (P:a→b→c→d→e→Prop) (v:a×b×c×d×e):=P v.1 v.2.1 v.2.2.1 v.2.2.2.1 v.2.2.2.2
theorem hn5 (ne:∀ [Nonempty Shared] [Nonempty Around] [Nonempty World] [Nonempty Drawn] [Nonempty GenState] [Nonempty Zone],Nonempty (a×b×c×d×e)) {P:a→b→c→d→e→Prop} (h:have v:=H (NE.n @ne) (F5 P);have A:=v.1;have B:=v.2.1;have C:=v.2.2.1;have D:=v.2.2.2.1;have E:=v.2.2.2.2;W5 P A B C D E) A B C D E:P A B C D E:=H_all (P:=F5 P) h (A,B,C,D,E)
abbrev W6 (P:a→b→c→d→e→f→Prop) A B C D E F:=P A B C D E F
abbrev G6 (P:a→b→c→d→e→f→Prop):=∀ A B C D E F,W6 P A B C D E F
theorem w6 {P:a→b→c→d→e→f→Prop} A B C D E F (h:P A B C D E F):W6 P A B C D E F:=h
def F6 (P:a→b→c→d→e→f→Prop) (v:a×b×c×d×e×f):=P v.1 v.2.1 v.2.2.1 v.2.2.2.1 v.2.2.2.2.1 v.2.2.2.2.2
theorem hn6 (ne:∀ [Nonempty Shared] [Nonempty Around] [Nonempty World] [Nonempty Drawn] [Nonempty GenState] [Nonempty Zone],Nonempty (a×b×c×d×e×f)) {P:a→b→c→d→e→f→Prop} (h:have v:=H (NE.n @ne) (F6 P);have A:=v.1;have B:=v.2.1;have C:=v.2.2.1;have D:=v.2.2.2.1;have E:=v.2.2.2.2.1;have F:=v.2.2.2.2.2;W6 P A B C D E F) A B C D E F:P A B C D E F:=H_all (P:=F6 P) h (A,B,C,D,E,F)
abbrev W7 (P:a→b→c→d→e→f→g→Prop) A B C D E F G:=P A B C D E F G
abbrev G7 (P:a→b→c→d→e→f→g→Prop):=∀ A B C D E F G,W7 P A B C D E F G
theorem w7 {P:a→b→c→d→e→f→g→Prop} A B C D E F G (h:P A B C D E F G):W7 P A B C D E F G:=h
def F7 (P:a→b→c→d→e→f→g→Prop) (v:a×b×c×d×e×f×g):=P v.1 v.2.1 v.2.2.1 v.2.2.2.1 v.2.2.2.2.1 v.2.2.2.2.2.1 v.2.2.2.2.2.2
theorem hn7 (ne:∀ [Nonempty Shared] [Nonempty Around] [Nonempty World] [Nonempty Drawn] [Nonempty GenState] [Nonempty Zone],Nonempty (a×b×c×d×e×f×g)) {P:a→b→c→d→e→f→g→Prop} (h:have v:=H (NE.n @ne) (F7 P);have A:=v.1;have B:=v.2.1;have C:=v.2.2.1;have D:=v.2.2.2.1;have E:=v.2.2.2.2.1;have F:=v.2.2.2.2.2.1;have G:=v.2.2.2.2.2.2;W7 P A B C D E F G) A B C D E F G:P A B C D E F G:=H_all (P:=F7 P) h (A,B,C,D,E,F,G)
abbrev W8 (P:a→b→c→d→e→f→g→h→Prop) A B C D E F G I:=P A B C D E F G I
abbrev G8 (P:a→b→c→d→e→f→g→h→Prop):=∀ A B C D E F G I,W8 P A B C D E F G I
theorem w8 {P:a→b→c→d→e→f→g→h→Prop} A B C D E F G I (h:P A B C D E F G I):W8 P A B C D E F G I:=h
def F8 (P:a→b→c→d→e→f→g→h→Prop) (v:a×b×c×d×e×f×g×h):=P v.1 v.2.1 v.2.2.1 v.2.2.2.1 v.2.2.2.2.1 v.2.2.2.2.2.1 v.2.2.2.2.2.2.1 v.2.2.2.2.2.2.2
theorem hn8 (ne:∀ [Nonempty Shared] [Nonempty Around] [Nonempty World] [Nonempty Drawn] [Nonempty GenState] [Nonempty Zone],Nonempty (a×b×c×d×e×f×g×h)) {P:a→b→c→d→e→f→g→h→Prop} (h:have v:=H (NE.n @ne) (F8 P);have A:=v.1;have B:=v.2.1;have C:=v.2.2.1;have D:=v.2.2.2.1;have E:=v.2.2.2.2.1;have F:=v.2.2.2.2.2.1;have G:=v.2.2.2.2.2.2.1;have I:=v.2.2.2.2.2.2.2;W8 P A B C D E F G I) A B C D E F G I:P A B C D E F G I:=H_all (P:=F8 P) h (A,B,C,D,E,F,G,I)
abbrev W9 (P:a→b→c→d→e→f→g→h→i→Prop) A B C D E F G I J:=P A B C D E F G I J
abbrev G9 (P:a→b→c→d→e→f→g→h→i→Prop):=∀ A B C D E F G I J,W9 P A B C D E F G I J
theorem w9 {P:a→b→c→d→e→f→g→h→i→Prop} A B C D E F G I J (h:P A B C D E F G I J):W9 P A B C D E F G I J:=h
def F9 (P:a→b→c→d→e→f→g→h→i→Prop) (v:a×b×c×d×e×f×g×h×i):=P v.1 v.2.1 v.2.2.1 v.2.2.2.1 v.2.2.2.2.1 v.2.2.2.2.2.1 v.2.2.2.2.2.2.1 v.2.2.2.2.2.2.2.1 v.2.2.2.2.2.2.2.2
theorem hn9 (ne:∀ [Nonempty Shared] [Nonempty Around] [Nonempty World] [Nonempty Drawn] [Nonempty GenState] [Nonempty Zone],Nonempty (a×b×c×d×e×f×g×h×i)) {P:a→b→c→d→e→f→g→h→i→Prop} (h:have v:=H (NE.n @ne) (F9 P);have A:=v.1;have B:=v.2.1;have C:=v.2.2.1;have D:=v.2.2.2.1;have E:=v.2.2.2.2.1;have F:=v.2.2.2.2.2.1;have G:=v.2.2.2.2.2.2.1;have I:=v.2.2.2.2.2.2.2.1;have J:=v.2.2.2.2.2.2.2.2;W9 P A B C D E F G I J) A B C D E F G I J:P A B C D E F G I J:=H_all (P:=F9 P) h (A,B,C,D,E,F,G,I,J)
abbrev W10 (P:a→b→c→d→e→f→g→h→i→j→Prop) A B C D E F G I J K:=P A B C D E F G I J K
abbrev G10 (P:a→b→c→d→e→f→g→h→i→j→Prop):=∀ A B C D E F G I J K,W10 P A B C D E F G I J K
theorem w10 {P:a→b→c→d→e→f→g→h→i→j→Prop} A B C D E F G I J K (h:P A B C D E F G I J K):W10 P A B C D E F G I J K:=h
def F10 (P:a→b→c→d→e→f→g→h→i→j→Prop) (v:a×b×c×d×e×f×g×h×i×j):=P v.1 v.2.1 v.2.2.1 v.2.2.2.1 v.2.2.2.2.1 v.2.2.2.2.2.1 v.2.2.2.2.2.2.1 v.2.2.2.2.2.2.2.1 v.2.2.2.2.2.2.2.2.1 v.2.2.2.2.2.2.2.2.2
theorem hn10 (ne:∀ [Nonempty Shared] [Nonempty Around] [Nonempty World] [Nonempty Drawn] [Nonempty GenState] [Nonempty Zone],Nonempty (a×b×c×d×e×f×g×h×i×j)) {P:a→b→c→d→e→f→g→h→i→j→Prop} (h:have v:=H (NE.n @ne) (F10 P);have A:=v.1;have B:=v.2.1;have C:=v.2.2.1;have D:=v.2.2.2.1;have E:=v.2.2.2.2.1;have F:=v.2.2.2.2.2.1;have G:=v.2.2.2.2.2.2.1;have I:=v.2.2.2.2.2.2.2.1;have J:=v.2.2.2.2.2.2.2.2.1;have K:=v.2.2.2.2.2.2.2.2.2;W10 P A B C D E F G I J K) A B C D E F G I J K:P A B C D E F G I J K:=H_all (P:=F10 P) h (A,B,C,D,E,F,G,I,J,K)
abbrev W11 (P:a→b→c→d→e→f→g→h→i→j→k→Prop) A B C D E F G I J K L:=P A B C D E F G I J K L
abbrev G11 (P:a→b→c→d→e→f→g→h→i→j→k→Prop):=∀ A B C D E F G I J K L,W11 P A B C D E F G I J K L
theorem w11 {P:a→b→c→d→e→f→g→h→i→j→k→Prop} A B C D E F G I J K L (h:P A B C D E F G I J K L):W11 P A B C D E F G I J K L:=h
def F11 (P:a→b→c→d→e→f→g→h→i→j→k→Prop) (v:a×b×c×d×e×f×g×h×i×j×k):=P v.1 v.2.1 v.2.2.1 v.2.2.2.1 v.2.2.2.2.1 v.2.2.2.2.2.1 v.2.2.2.2.2.2.1 v.2.2.2.2.2.2.2.1 v.2.2.2.2.2.2.2.2.1 v.2.2.2.2.2.2.2.2.2.1 v.2.2.2.2.2.2.2.2.2.2
theorem hn11 (ne:∀ [Nonempty Shared] [Nonempty Around] [Nonempty World] [Nonempty Drawn] [Nonempty GenState] [Nonempty Zone],Nonempty (a×b×c×d×e×f×g×h×i×j×k)) {P:a→b→c→d→e→f→g→h→i→j→k→Prop} (h:have v:=H (NE.n @ne) (F11 P);have A:=v.1;have B:=v.2.1;have C:=v.2.2.1;have D:=v.2.2.2.1;have E:=v.2.2.2.2.1;have F:=v.2.2.2.2.2.1;have G:=v.2.2.2.2.2.2.1;have I:=v.2.2.2.2.2.2.2.1;have J:=v.2.2.2.2.2.2.2.2.1;have K:=v.2.2.2.2.2.2.2.2.2.1;have L:=v.2.2.2.2.2.2.2.2.2.2;W11 P A B C D E F G I J K L) A B C D E F G I J K L:P A B C D E F G I J K L:=H_all (P:=F11 P) h (A,B,C,D,E,F,G,I,J,K,L)
abbrev W12 (P:a→b→c→d→e→f→g→h→i→j→k→l→Prop) A B C D E F G I J K L M:=P A B C D E F G I J K L M
abbrev G12 (P:a→b→c→d→e→f→g→h→i→j→k→l→Prop):=∀ A B C D E F G I J K L M,W12 P A B C D E F G I J K L M
theorem w12 {P:a→b→c→d→e→f→g→h→i→j→k→l→Prop} A B C D E F G I J K L M (h:P A B C D E F G I J K L M):W12 P A B C D E F G I J K L M:=h
def F12 (P:a→b→c→d→e→f→g→h→i→j→k→l→Prop) (v:a×b×c×d×e×f×g×h×i×j×k×l):=P v.1 v.2.1 v.2.2.1 v.2.2.2.1 v.2.2.2.2.1 v.2.2.2.2.2.1 v.2.2.2.2.2.2.1 v.2.2.2.2.2.2.2.1 v.2.2.2.2.2.2.2.2.1 v.2.2.2.2.2.2.2.2.2.1 v.2.2.2.2.2.2.2.2.2.2.1 v.2.2.2.2.2.2.2.2.2.2.2
theorem hn12 (ne:∀ [Nonempty Shared] [Nonempty Around] [Nonempty World] [Nonempty Drawn] [Nonempty GenState] [Nonempty Zone],Nonempty (a×b×c×d×e×f×g×h×i×j×k×l)) {P:a→b→c→d→e→f→g→h→i→j→k→l→Prop} (h:have v:=H (NE.n @ne) (F12 P);have A:=v.1;have B:=v.2.1;have C:=v.2.2.1;have D:=v.2.2.2.1;have E:=v.2.2.2.2.1;have F:=v.2.2.2.2.2.1;have G:=v.2.2.2.2.2.2.1;have I:=v.2.2.2.2.2.2.2.1;have J:=v.2.2.2.2.2.2.2.2.1;have K:=v.2.2.2.2.2.2.2.2.2.1;have L:=v.2.2.2.2.2.2.2.2.2.2.1;have M:=v.2.2.2.2.2.2.2.2.2.2.2;W12 P A B C D E F G I J K L M) A B C D E F G I J K L M:P A B C D E F G I J K L M:=H_all (P:=F12 P) h (A,B,C,D,E,F,G,I,J,K,L,M)
abbrev W13 (P:a→b→c→d→e→f→g→h→i→j→k→l→m→Prop) A B C D E F G I J K L M N:=P A B C D E F G I J K L M N
abbrev G13 (P:a→b→c→d→e→f→g→h→i→j→k→l→m→Prop):=∀ A B C D E F G I J K L M N,W13 P A B C D E F G I J K L M N
theorem w13 {P:a→b→c→d→e→f→g→h→i→j→k→l→m→Prop} A B C D E F G I J K L M N (h:P A B C D E F G I J K L M N):W13 P A B C D E F G I J K L M N:=h
def F13 (P:a→b→c→d→e→f→g→h→i→j→k→l→m→Prop) (v:a×b×c×d×e×f×g×h×i×j×k×l×m):=P v.1 v.2.1 v.2.2.1 v.2.2.2.1 v.2.2.2.2.1 v.2.2.2.2.2.1 v.2.2.2.2.2.2.1 v.2.2.2.2.2.2.2.1 v.2.2.2.2.2.2.2.2.1 v.2.2.2.2.2.2.2.2.2.1 v.2.2.2.2.2.2.2.2.2.2.1 v.2.2.2.2.2.2.2.2.2.2.2.1 v.2.2.2.2.2.2.2.2.2.2.2.2
theorem hn13 (ne:∀ [Nonempty Shared] [Nonempty Around] [Nonempty World] [Nonempty Drawn] [Nonempty GenState] [Nonempty Zone],Nonempty (a×b×c×d×e×f×g×h×i×j×k×l×m)) {P:a→b→c→d→e→f→g→h→i→j→k→l→m→Prop} (h:have v:=H (NE.n @ne) (F13 P);have A:=v.1;have B:=v.2.1;have C:=v.2.2.1;have D:=v.2.2.2.1;have E:=v.2.2.2.2.1;have F:=v.2.2.2.2.2.1;have G:=v.2.2.2.2.2.2.1;have I:=v.2.2.2.2.2.2.2.1;have J:=v.2.2.2.2.2.2.2.2.1;have K:=v.2.2.2.2.2.2.2.2.2.1;have L:=v.2.2.2.2.2.2.2.2.2.2.1;have M:=v.2.2.2.2.2.2.2.2.2.2.2.1;have N:=v.2.2.2.2.2.2.2.2.2.2.2.2;W13 P A B C D E F G I J K L M N) A B C D E F G I J K L M N:P A B C D E F G I J K L M N:=H_all (P:=F13 P) h (A,B,C,D,E,F,G,I,J,K,L,M,N)
abbrev W14 (P:a→b→c→d→e→f→g→h→i→j→k→l→m→n→Prop) A B C D E F G I J K L M N O:=P A B C D E F G I J K L M N O
abbrev G14 (P:a→b→c→d→e→f→g→h→i→j→k→l→m→n→Prop):=∀ A B C D E F G I J K L M N O,W14 P A B C D E F G I J K L M N O
theorem w14 {P:a→b→c→d→e→f→g→h→i→j→k→l→m→n→Prop} A B C D E F G I J K L M N O (h:P A B C D E F G I J K L M N O):W14 P A B C D E F G I J K L M N O:=h
def F14 (P:a→b→c→d→e→f→g→h→i→j→k→l→m→n→Prop) (v:a×b×c×d×e×f×g×h×i×j×k×l×m×n):=P v.1 v.2.1 v.2.2.1 v.2.2.2.1 v.2.2.2.2.1 v.2.2.2.2.2.1 v.2.2.2.2.2.2.1 v.2.2.2.2.2.2.2.1 v.2.2.2.2.2.2.2.2.1 v.2.2.2.2.2.2.2.2.2.1 v.2.2.2.2.2.2.2.2.2.2.1 v.2.2.2.2.2.2.2.2.2.2.2.1 v.2.2.2.2.2.2.2.2.2.2.2.2.1 v.2.2.2.2.2.2.2.2.2.2.2.2.2
theorem hn14 (ne:∀ [Nonempty Shared] [Nonempty Around] [Nonempty World] [Nonempty Drawn] [Nonempty GenState] [Nonempty Zone],Nonempty (a×b×c×d×e×f×g×h×i×j×k×l×m×n)) {P:a→b→c→d→e→f→g→h→i→j→k→l→m→n→Prop} (h:have v:=H (NE.n @ne) (F14 P);have A:=v.1;have B:=v.2.1;have C:=v.2.2.1;have D:=v.2.2.2.1;have E:=v.2.2.2.2.1;have F:=v.2.2.2.2.2.1;have G:=v.2.2.2.2.2.2.1;have I:=v.2.2.2.2.2.2.2.1;have J:=v.2.2.2.2.2.2.2.2.1;have K:=v.2.2.2.2.2.2.2.2.2.1;have L:=v.2.2.2.2.2.2.2.2.2.2.1;have M:=v.2.2.2.2.2.2.2.2.2.2.2.1;have N:=v.2.2.2.2.2.2.2.2.2.2.2.2.1;have O:=v.2.2.2.2.2.2.2.2.2.2.2.2.2;W14 P A B C D E F G I J K L M N O) A B C D E F G I J K L M N O:P A B C D E F G I J K L M N O:=H_all (P:=F14 P) h (A,B,C,D,E,F,G,I,J,K,L,M,N,O)
abbrev W15 (P:a→b→c→d→e→f→g→h→i→j→k→l→m→n→o→Prop) A B C D E F G I J K L M N O Q:=P A B C D E F G I J K L M N O Q
abbrev G15 (P:a→b→c→d→e→f→g→h→i→j→k→l→m→n→o→Prop):=∀ A B C D E F G I J K L M N O Q,W15 P A B C D E F G I J K L M N O Q
theorem w15 {P:a→b→c→d→e→f→g→h→i→j→k→l→m→n→o→Prop} A B C D E F G I J K L M N O Q (h:P A B C D E F G I J K L M N O Q):W15 P A B C D E F G I J K L M N O Q:=h
def F15 (P:a→b→c→d→e→f→g→h→i→j→k→l→m→n→o→Prop) (v:a×b×c×d×e×f×g×h×i×j×k×l×m×n×o):=P v.1 v.2.1 v.2.2.1 v.2.2.2.1 v.2.2.2.2.1 v.2.2.2.2.2.1 v.2.2.2.2.2.2.1 v.2.2.2.2.2.2.2.1 v.2.2.2.2.2.2.2.2.1 v.2.2.2.2.2.2.2.2.2.1 v.2.2.2.2.2.2.2.2.2.2.1 v.2.2.2.2.2.2.2.2.2.2.2.1 v.2.2.2.2.2.2.2.2.2.2.2.2.1 v.2.2.2.2.2.2.2.2.2.2.2.2.2.1 v.2.2.2.2.2.2.2.2.2.2.2.2.2.2
theorem hn15 (ne:∀ [Nonempty Shared] [Nonempty Around] [Nonempty World] [Nonempty Drawn] [Nonempty GenState] [Nonempty Zone],Nonempty (a×b×c×d×e×f×g×h×i×j×k×l×m×n×o)) {P:a→b→c→d→e→f→g→h→i→j→k→l→m→n→o→Prop} (h:have v:=H (NE.n @ne) (F15 P);have A:=v.1;have B:=v.2.1;have C:=v.2.2.1;have D:=v.2.2.2.1;have E:=v.2.2.2.2.1;have F:=v.2.2.2.2.2.1;have G:=v.2.2.2.2.2.2.1;have I:=v.2.2.2.2.2.2.2.1;have J:=v.2.2.2.2.2.2.2.2.1;have K:=v.2.2.2.2.2.2.2.2.2.1;have L:=v.2.2.2.2.2.2.2.2.2.2.1;have M:=v.2.2.2.2.2.2.2.2.2.2.2.1;have N:=v.2.2.2.2.2.2.2.2.2.2.2.2.1;have O:=v.2.2.2.2.2.2.2.2.2.2.2.2.2.1;have Q:=v.2.2.2.2.2.2.2.2.2.2.2.2.2.2;W15 P A B C D E F G I J K L M N O Q) A B C D E F G I J K L M N O Q:P A B C D E F G I J K L M N O Q:=H_all (P:=F15 P) h (A,B,C,D,E,F,G,I,J,K,L,M,N,O,Q)
abbrev W16 (P:a→b→c→d→e→f→g→h→i→j→k→l→m→n→o→p→Prop) A B C D E F G I J K L M N O Q R:=P A B C D E F G I J K L M N O Q R
abbrev G16 (P:a→b→c→d→e→f→g→h→i→j→k→l→m→n→o→p→Prop):=∀ A B C D E F G I J K L M N O Q R,W16 P A B C D E F G I J K L M N O Q R
theorem w16 {P:a→b→c→d→e→f→g→h→i→j→k→l→m→n→o→p→Prop} A B C D E F G I J K L M N O Q R (h:P A B C D E F G I J K L M N O Q R):W16 P A B C D E F G I J K L M N O Q R:=h
def F16 (P:a→b→c→d→e→f→g→h→i→j→k→l→m→n→o→p→Prop) (v:a×b×c×d×e×f×g×h×i×j×k×l×m×n×o×p):=P v.1 v.2.1 v.2.2.1 v.2.2.2.1 v.2.2.2.2.1 v.2.2.2.2.2.1 v.2.2.2.2.2.2.1 v.2.2.2.2.2.2.2.1 v.2.2.2.2.2.2.2.2.1 v.2.2.2.2.2.2.2.2.2.1 v.2.2.2.2.2.2.2.2.2.2.1 v.2.2.2.2.2.2.2.2.2.2.2.1 v.2.2.2.2.2.2.2.2.2.2.2.2.1 v.2.2.2.2.2.2.2.2.2.2.2.2.2.1 v.2.2.2.2.2.2.2.2.2.2.2.2.2.2.1 v.2.2.2.2.2.2.2.2.2.2.2.2.2.2.2
theorem hn16 (ne:∀ [Nonempty Shared] [Nonempty Around] [Nonempty World] [Nonempty Drawn] [Nonempty GenState] [Nonempty Zone],Nonempty (a×b×c×d×e×f×g×h×i×j×k×l×m×n×o×p)) {P:a→b→c→d→e→f→g→h→i→j→k→l→m→n→o→p→Prop} (h:have v:=H (NE.n @ne) (F16 P);have A:=v.1;have B:=v.2.1;have C:=v.2.2.1;have D:=v.2.2.2.1;have E:=v.2.2.2.2.1;have F:=v.2.2.2.2.2.1;have G:=v.2.2.2.2.2.2.1;have I:=v.2.2.2.2.2.2.2.1;have J:=v.2.2.2.2.2.2.2.2.1;have K:=v.2.2.2.2.2.2.2.2.2.1;have L:=v.2.2.2.2.2.2.2.2.2.2.1;have M:=v.2.2.2.2.2.2.2.2.2.2.2.1;have N:=v.2.2.2.2.2.2.2.2.2.2.2.2.1;have O:=v.2.2.2.2.2.2.2.2.2.2.2.2.2.1;have Q:=v.2.2.2.2.2.2.2.2.2.2.2.2.2.2.1;have R:=v.2.2.2.2.2.2.2.2.2.2.2.2.2.2.2;W16 P A B C D E F G I J K L M N O Q R) A B C D E F G I J K L M N O Q R:P A B C D E F G I J K L M N O Q R:=H_all (P:=F16 P) h (A,B,C,D,E,F,G,I,J,K,L,M,N,O,Q,R)
abbrev W17 (P:a→b→c→d→e→f→g→h→i→j→k→l→m→n→o→p→q→Prop) A B C D E F G I J K L M N O Q R S:=P A B C D E F G I J K L M N O Q R S
abbrev G17 (P:a→b→c→d→e→f→g→h→i→j→k→l→m→n→o→p→q→Prop):=∀ A B C D E F G I J K L M N O Q R S,W17 P A B C D E F G I J K L M N O Q R S
theorem w17 {P:a→b→c→d→e→f→g→h→i→j→k→l→m→n→o→p→q→Prop} A B C D E F G I J K L M N O Q R S (h:P A B C D E F G I J K L M N O Q R S):W17 P A B C D E F G I J K L M N O Q R S:=h
def F17 (P:a→b→c→d→e→f→g→h→i→j→k→l→m→n→o→p→q→Prop) (v:a×b×c×d×e×f×g×h×i×j×k×l×m×n×o×p×q):=P v.1 v.2.1 v.2.2.1 v.2.2.2.1 v.2.2.2.2.1 v.2.2.2.2.2.1 v.2.2.2.2.2.2.1 v.2.2.2.2.2.2.2.1 v.2.2.2.2.2.2.2.2.1 v.2.2.2.2.2.2.2.2.2.1 v.2.2.2.2.2.2.2.2.2.2.1 v.2.2.2.2.2.2.2.2.2.2.2.1 v.2.2.2.2.2.2.2.2.2.2.2.2.1 v.2.2.2.2.2.2.2.2.2.2.2.2.2.1 v.2.2.2.2.2.2.2.2.2.2.2.2.2.2.1 v.2.2.2.2.2.2.2.2.2.2.2.2.2.2.2.1 v.2.2.2.2.2.2.2.2.2.2.2.2.2.2.2.2
theorem hn17 (ne:∀ [Nonempty Shared] [Nonempty Around] [Nonempty World] [Nonempty Drawn] [Nonempty GenState] [Nonempty Zone],Nonempty (a×b×c×d×e×f×g×h×i×j×k×l×m×n×o×p×q)) {P:a→b→c→d→e→f→g→h→i→j→k→l→m→n→o→p→q→Prop} (h:have v:=H (NE.n @ne) (F17 P);have A:=v.1;have B:=v.2.1;have C:=v.2.2.1;have D:=v.2.2.2.1;have E:=v.2.2.2.2.1;have F:=v.2.2.2.2.2.1;have G:=v.2.2.2.2.2.2.1;have I:=v.2.2.2.2.2.2.2.1;have J:=v.2.2.2.2.2.2.2.2.1;have K:=v.2.2.2.2.2.2.2.2.2.1;have L:=v.2.2.2.2.2.2.2.2.2.2.1;have M:=v.2.2.2.2.2.2.2.2.2.2.2.1;have N:=v.2.2.2.2.2.2.2.2.2.2.2.2.1;have O:=v.2.2.2.2.2.2.2.2.2.2.2.2.2.1;have Q:=v.2.2.2.2.2.2.2.2.2.2.2.2.2.2.1;have R:=v.2.2.2.2.2.2.2.2.2.2.2.2.2.2.2.1;have S:=v.2.2.2.2.2.2.2.2.2.2.2.2.2.2.2.2;W17 P A B C D E F G I J K L M N O Q R S) A B C D E F G I J K L M N O Q R S:P A B C D E F G I J K L M N O Q R S:=H_all (P:=F17 P) h (A,B,C,D,E,F,G,I,J,K,L,M,N,O,Q,R,S)
abbrev W18 (P:a→b→c→d→e→f→g→h→i→j→k→l→m→n→o→p→q→r→Prop) A B C D E F G I J K L M N O Q R S T:=P A B C D E F G I J K L M N O Q R S T
abbrev G18 (P:a→b→c→d→e→f→g→h→i→j→k→l→m→n→o→p→q→r→Prop):=∀ A B C D E F G I J K L M N O Q R S T,W18 P A B C D E F G I J K L M N O Q R S T
theorem w18 {P:a→b→c→d→e→f→g→h→i→j→k→l→m→n→o→p→q→r→Prop} A B C D E F G I J K L M N O Q R S T (h:P A B C D E F G I J K L M N O Q R S T):W18 P A B C D E F G I J K L M N O Q R S T:=h
def F18 (P:a→b→c→d→e→f→g→h→i→j→k→l→m→n→o→p→q→r→Prop) (v:a×b×c×d×e×f×g×h×i×j×k×l×m×n×o×p×q×r):=P v.1 v.2.1 v.2.2.1 v.2.2.2.1 v.2.2.2.2.1 v.2.2.2.2.2.1 v.2.2.2.2.2.2.1 v.2.2.2.2.2.2.2.1 v.2.2.2.2.2.2.2.2.1 v.2.2.2.2.2.2.2.2.2.1 v.2.2.2.2.2.2.2.2.2.2.1 v.2.2.2.2.2.2.2.2.2.2.2.1 v.2.2.2.2.2.2.2.2.2.2.2.2.1 v.2.2.2.2.2.2.2.2.2.2.2.2.2.1 v.2.2.2.2.2.2.2.2.2.2.2.2.2.2.1 v.2.2.2.2.2.2.2.2.2.2.2.2.2.2.2.1 v.2.2.2.2.2.2.2.2.2.2.2.2.2.2.2.2.1 v.2.2.2.2.2.2.2.2.2.2.2.2.2.2.2.2.2
theorem hn18 (ne:∀ [Nonempty Shared] [Nonempty Around] [Nonempty World] [Nonempty Drawn] [Nonempty GenState] [Nonempty Zone],Nonempty (a×b×c×d×e×f×g×h×i×j×k×l×m×n×o×p×q×r)) {P:a→b→c→d→e→f→g→h→i→j→k→l→m→n→o→p→q→r→Prop} (h:have v:=H (NE.n @ne) (F18 P);have A:=v.1;have B:=v.2.1;have C:=v.2.2.1;have D:=v.2.2.2.1;have E:=v.2.2.2.2.1;have F:=v.2.2.2.2.2.1;have G:=v.2.2.2.2.2.2.1;have I:=v.2.2.2.2.2.2.2.1;have J:=v.2.2.2.2.2.2.2.2.1;have K:=v.2.2.2.2.2.2.2.2.2.1;have L:=v.2.2.2.2.2.2.2.2.2.2.1;have M:=v.2.2.2.2.2.2.2.2.2.2.2.1;have N:=v.2.2.2.2.2.2.2.2.2.2.2.2.1;have O:=v.2.2.2.2.2.2.2.2.2.2.2.2.2.1;have Q:=v.2.2.2.2.2.2.2.2.2.2.2.2.2.2.1;have R:=v.2.2.2.2.2.2.2.2.2.2.2.2.2.2.2.1;have S:=v.2.2.2.2.2.2.2.2.2.2.2.2.2.2.2.2.1;have T:=v.2.2.2.2.2.2.2.2.2.2.2.2.2.2.2.2.2;W18 P A B C D E F G I J K L M N O Q R S T) A B C D E F G I J K L M N O Q R S T:P A B C D E F G I J K L M N O Q R S T:=H_all (P:=F18 P) h (A,B,C,D,E,F,G,I,J,K,L,M,N,O,Q,R,S,T)
abbrev W19 (P:a→b→c→d→e→f→g→h→i→j→k→l→m→n→o→p→q→r→s→Prop) A B C D E F G I J K L M N O Q R S T U:=P A B C D E F G I J K L M N O Q R S T U
abbrev G19 (P:a→b→c→d→e→f→g→h→i→j→k→l→m→n→o→p→q→r→s→Prop):=∀ A B C D E F G I J K L M N O Q R S T U,W19 P A B C D E F G I J K L M N O Q R S T U
theorem w19 {P:a→b→c→d→e→f→g→h→i→j→k→l→m→n→o→p→q→r→s→Prop} A B C D E F G I J K L M N O Q R S T U (h:P A B C D E F G I J K L M N O Q R S T U):W19 P A B C D E F G I J K L M N O Q R S T U:=h
def F19 (P:a→b→c→d→e→f→g→h→i→j→k→l→m→n→o→p→q→r→s→Prop) (v:a×b×c×d×e×f×g×h×i×j×k×l×m×n×o×p×q×r×s):=P v.1 v.2.1 v.2.2.1 v.2.2.2.1 v.2.2.2.2.1 v.2.2.2.2.2.1 v.2.2.2.2.2.2.1 v.2.2.2.2.2.2.2.1 v.2.2.2.2.2.2.2.2.1 v.2.2.2.2.2.2.2.2.2.1 v.2.2.2.2.2.2.2.2.2.2.1 v.2.2.2.2.2.2.2.2.2.2.2.1 v.2.2.2.2.2.2.2.2.2.2.2.2.1 v.2.2.2.2.2.2.2.2.2.2.2.2.2.1 v.2.2.2.2.2.2.2.2.2.2.2.2.2.2.1 v.2.2.2.2.2.2.2.2.2.2.2.2.2.2.2.1 v.2.2.2.2.2.2.2.2.2.2.2.2.2.2.2.2.1 v.2.2.2.2.2.2.2.2.2.2.2.2.2.2.2.2.2.1 v.2.2.2.2.2.2.2.2.2.2.2.2.2.2.2.2.2.2
theorem hn19 (ne:∀ [Nonempty Shared] [Nonempty Around] [Nonempty World] [Nonempty Drawn] [Nonempty GenState] [Nonempty Zone],Nonempty (a×b×c×d×e×f×g×h×i×j×k×l×m×n×o×p×q×r×s)) {P:a→b→c→d→e→f→g→h→i→j→k→l→m→n→o→p→q→r→s→Prop} (h:have v:=H (NE.n @ne) (F19 P);have A:=v.1;have B:=v.2.1;have C:=v.2.2.1;have D:=v.2.2.2.1;have E:=v.2.2.2.2.1;have F:=v.2.2.2.2.2.1;have G:=v.2.2.2.2.2.2.1;have I:=v.2.2.2.2.2.2.2.1;have J:=v.2.2.2.2.2.2.2.2.1;have K:=v.2.2.2.2.2.2.2.2.2.1;have L:=v.2.2.2.2.2.2.2.2.2.2.1;have M:=v.2.2.2.2.2.2.2.2.2.2.2.1;have N:=v.2.2.2.2.2.2.2.2.2.2.2.2.1;have O:=v.2.2.2.2.2.2.2.2.2.2.2.2.2.1;have Q:=v.2.2.2.2.2.2.2.2.2.2.2.2.2.2.1;have R:=v.2.2.2.2.2.2.2.2.2.2.2.2.2.2.2.1;have S:=v.2.2.2.2.2.2.2.2.2.2.2.2.2.2.2.2.1;have T:=v.2.2.2.2.2.2.2.2.2.2.2.2.2.2.2.2.2.1;have U:=v.2.2.2.2.2.2.2.2.2.2.2.2.2.2.2.2.2.2;W19 P A B C D E F G I J K L M N O Q R S T U) A B C D E F G I J K L M N O Q R S T U:P A B C D E F G I J K L M N O Q R S T U:=H_all (P:=F19 P) h (A,B,C,D,E,F,G,I,J,K,L,M,N,O,Q,R,S,T,U)
abbrev W20 (P:a→b→c→d→e→f→g→h→i→j→k→l→m→n→o→p→q→r→s→t→Prop) A B C D E F G I J K L M N O Q R S T U V:=P A B C D E F G I J K L M N O Q R S T U V
abbrev G20 (P:a→b→c→d→e→f→g→h→i→j→k→l→m→n→o→p→q→r→s→t→Prop):=∀ A B C D E F G I J K L M N O Q R S T U V,W20 P A B C D E F G I J K L M N O Q R S T U V
theorem w20 {P:a→b→c→d→e→f→g→h→i→j→k→l→m→n→o→p→q→r→s→t→Prop} A B C D E F G I J K L M N O Q R S T U V (h:P A B C D E F G I J K L M N O Q R S T U V):W20 P A B C D E F G I J K L M N O Q R S T U V:=h
def F20 (P:a→b→c→d→e→f→g→h→i→j→k→l→m→n→o→p→q→r→s→t→Prop) (v:a×b×c×d×e×f×g×h×i×j×k×l×m×n×o×p×q×r×s×t):=P v.1 v.2.1 v.2.2.1 v.2.2.2.1 v.2.2.2.2.1 v.2.2.2.2.2.1 v.2.2.2.2.2.2.1 v.2.2.2.2.2.2.2.1 v.2.2.2.2.2.2.2.2.1 v.2.2.2.2.2.2.2.2.2.1 v.2.2.2.2.2.2.2.2.2.2.1 v.2.2.2.2.2.2.2.2.2.2.2.1 v.2.2.2.2.2.2.2.2.2.2.2.2.1 v.2.2.2.2.2.2.2.2.2.2.2.2.2.1 v.2.2.2.2.2.2.2.2.2.2.2.2.2.2.1 v.2.2.2.2.2.2.2.2.2.2.2.2.2.2.2.1 v.2.2.2.2.2.2.2.2.2.2.2.2.2.2.2.2.1 v.2.2.2.2.2.2.2.2.2.2.2.2.2.2.2.2.2.1 v.2.2.2.2.2.2.2.2.2.2.2.2.2.2.2.2.2.2.1 v.2.2.2.2.2.2.2.2.2.2.2.2.2.2.2.2.2.2.2
theorem hn20 (ne:∀ [Nonempty Shared] [Nonempty Around] [Nonempty World] [Nonempty Drawn] [Nonempty GenState] [Nonempty Zone],Nonempty (a×b×c×d×e×f×g×h×i×j×k×l×m×n×o×p×q×r×s×t)) {P:a→b→c→d→e→f→g→h→i→j→k→l→m→n→o→p→q→r→s→t→Prop} (h:have v:=H (NE.n @ne) (F20 P);have A:=v.1;have B:=v.2.1;have C:=v.2.2.1;have D:=v.2.2.2.1;have E:=v.2.2.2.2.1;have F:=v.2.2.2.2.2.1;have G:=v.2.2.2.2.2.2.1;have I:=v.2.2.2.2.2.2.2.1;have J:=v.2.2.2.2.2.2.2.2.1;have K:=v.2.2.2.2.2.2.2.2.2.1;have L:=v.2.2.2.2.2.2.2.2.2.2.1;have M:=v.2.2.2.2.2.2.2.2.2.2.2.1;have N:=v.2.2.2.2.2.2.2.2.2.2.2.2.1;have O:=v.2.2.2.2.2.2.2.2.2.2.2.2.2.1;have Q:=v.2.2.2.2.2.2.2.2.2.2.2.2.2.2.1;have R:=v.2.2.2.2.2.2.2.2.2.2.2.2.2.2.2.1;have S:=v.2.2.2.2.2.2.2.2.2.2.2.2.2.2.2.2.1;have T:=v.2.2.2.2.2.2.2.2.2.2.2.2.2.2.2.2.2.1;have U:=v.2.2.2.2.2.2.2.2.2.2.2.2.2.2.2.2.2.2.1;have V:=v.2.2.2.2.2.2.2.2.2.2.2.2.2.2.2.2.2.2.2;W20 P A B C D E F G I J K L M N O Q R S T U V) A B C D E F G I J K L M N O Q R S T U V:P A B C D E F G I J K L M N O Q R S T U V:=H_all (P:=F20 P) h (A,B,C,D,E,F,G,I,J,K,L,M,N,O,Q,R,S,T,U,V)
abbrev W21 (P:a→b→c→d→e→f→g→h→i→j→k→l→m→n→o→p→q→r→s→t→u→Prop) A B C D E F G I J K L M N O Q R S T U V X:=P A B C D E F G I J K L M N O Q R S T U V X
abbrev G21 (P:a→b→c→d→e→f→g→h→i→j→k→l→m→n→o→p→q→r→s→t→u→Prop):=∀ A B C D E F G I J K L M N O Q R S T U V X,W21 P A B C D E F G I J K L M N O Q R S T U V X
theorem w21 {P:a→b→c→d→e→f→g→h→i→j→k→l→m→n→o→p→q→r→s→t→u→Prop} A B C D E F G I J K L M N O Q R S T U V X (h:P A B C D E F G I J K L M N O Q R S T U V X):W21 P A B C D E F G I J K L M N O Q R S T U V X:=h
def F21 (P:a→b→c→d→e→f→g→h→i→j→k→l→m→n→o→p→q→r→s→t→u→Prop) (v:a×b×c×d×e×f×g×h×i×j×k×l×m×n×o×p×q×r×s×t×u):=P v.1 v.2.1 v.2.2.1 v.2.2.2.1 v.2.2.2.2.1 v.2.2.2.2.2.1 v.2.2.2.2.2.2.1 v.2.2.2.2.2.2.2.1 v.2.2.2.2.2.2.2.2.1 v.2.2.2.2.2.2.2.2.2.1 v.2.2.2.2.2.2.2.2.2.2.1 v.2.2.2.2.2.2.2.2.2.2.2.1 v.2.2.2.2.2.2.2.2.2.2.2.2.1 v.2.2.2.2.2.2.2.2.2.2.2.2.2.1 v.2.2.2.2.2.2.2.2.2.2.2.2.2.2.1 v.2.2.2.2.2.2.2.2.2.2.2.2.2.2.2.1 v.2.2.2.2.2.2.2.2.2.2.2.2.2.2.2.2.1 v.2.2.2.2.2.2.2.2.2.2.2.2.2.2.2.2.2.1 v.2.2.2.2.2.2.2.2.2.2.2.2.2.2.2.2.2.2.1 v.2.2.2.2.2.2.2.2.2.2.2.2.2.2.2.2.2.2.2.1 v.2.2.2.2.2.2.2.2.2.2.2.2.2.2.2.2.2.2.2.2
theorem hn21 (ne:∀ [Nonempty Shared] [Nonempty Around] [Nonempty World] [Nonempty Drawn] [Nonempty GenState] [Nonempty Zone],Nonempty (a×b×c×d×e×f×g×h×i×j×k×l×m×n×o×p×q×r×s×t×u)) {P:a→b→c→d→e→f→g→h→i→j→k→l→m→n→o→p→q→r→s→t→u→Prop} (h:have v:=H (NE.n @ne) (F21 P);have A:=v.1;have B:=v.2.1;have C:=v.2.2.1;have D:=v.2.2.2.1;have E:=v.2.2.2.2.1;have F:=v.2.2.2.2.2.1;have G:=v.2.2.2.2.2.2.1;have I:=v.2.2.2.2.2.2.2.1;have J:=v.2.2.2.2.2.2.2.2.1;have K:=v.2.2.2.2.2.2.2.2.2.1;have L:=v.2.2.2.2.2.2.2.2.2.2.1;have M:=v.2.2.2.2.2.2.2.2.2.2.2.1;have N:=v.2.2.2.2.2.2.2.2.2.2.2.2.1;have O:=v.2.2.2.2.2.2.2.2.2.2.2.2.2.1;have Q:=v.2.2.2.2.2.2.2.2.2.2.2.2.2.2.1;have R:=v.2.2.2.2.2.2.2.2.2.2.2.2.2.2.2.1;have S:=v.2.2.2.2.2.2.2.2.2.2.2.2.2.2.2.2.1;have T:=v.2.2.2.2.2.2.2.2.2.2.2.2.2.2.2.2.2.1;have U:=v.2.2.2.2.2.2.2.2.2.2.2.2.2.2.2.2.2.2.1;have V:=v.2.2.2.2.2.2.2.2.2.2.2.2.2.2.2.2.2.2.2.1;have X:=v.2.2.2.2.2.2.2.2.2.2.2.2.2.2.2.2.2.2.2.2;W21 P A B C D E F G I J K L M N O Q R S T U V X) A B C D E F G I J K L M N O Q R S T U V X:P A B C D E F G I J K L M N O Q R S T U V X:=H_all (P:=F21 P) h (A,B,C,D,E,F,G,I,J,K,L,M,N,O,Q,R,S,T,U,V,X)
abbrev W22 (P:a→b→c→d→e→f→g→h→i→j→k→l→m→n→o→p→q→r→s→t→u→v→Prop) A B C D E F G I J K L M N O Q R S T U V X Y:=P A B C D E F G I J K L M N O Q R S T U V X Y
abbrev G22 (P:a→b→c→d→e→f→g→h→i→j→k→l→m→n→o→p→q→r→s→t→u→v→Prop):=∀ A B C D E F G I J K L M N O Q R S T U V X Y,W22 P A B C D E F G I J K L M N O Q R S T U V X Y
theorem w22 {P:a→b→c→d→e→f→g→h→i→j→k→l→m→n→o→p→q→r→s→t→u→v→Prop} A B C D E F G I J K L M N O Q R S T U V X Y (h:P A B C D E F G I J K L M N O Q R S T U V X Y):W22 P A B C D E F G I J K L M N O Q R S T U V X Y:=h
def F22 (P:a→b→c→d→e→f→g→h→i→j→k→l→m→n→o→p→q→r→s→t→u→v→Prop) (v:a×b×c×d×e×f×g×h×i×j×k×l×m×n×o×p×q×r×s×t×u×v):=P v.1 v.2.1 v.2.2.1 v.2.2.2.1 v.2.2.2.2.1 v.2.2.2.2.2.1 v.2.2.2.2.2.2.1 v.2.2.2.2.2.2.2.1 v.2.2.2.2.2.2.2.2.1 v.2.2.2.2.2.2.2.2.2.1 v.2.2.2.2.2.2.2.2.2.2.1 v.2.2.2.2.2.2.2.2.2.2.2.1 v.2.2.2.2.2.2.2.2.2.2.2.2.1 v.2.2.2.2.2.2.2.2.2.2.2.2.2.1 v.2.2.2.2.2.2.2.2.2.2.2.2.2.2.1 v.2.2.2.2.2.2.2.2.2.2.2.2.2.2.2.1 v.2.2.2.2.2.2.2.2.2.2.2.2.2.2.2.2.1 v.2.2.2.2.2.2.2.2.2.2.2.2.2.2.2.2.2.1 v.2.2.2.2.2.2.2.2.2.2.2.2.2.2.2.2.2.2.1 v.2.2.2.2.2.2.2.2.2.2.2.2.2.2.2.2.2.2.2.1 v.2.2.2.2.2.2.2.2.2.2.2.2.2.2.2.2.2.2.2.2.1 v.2.2.2.2.2.2.2.2.2.2.2.2.2.2.2.2.2.2.2.2.2
theorem hn22 (ne:∀ [Nonempty Shared] [Nonempty Around] [Nonempty World] [Nonempty Drawn] [Nonempty GenState] [Nonempty Zone],Nonempty (a×b×c×d×e×f×g×h×i×j×k×l×m×n×o×p×q×r×s×t×u×v)) {P:a→b→c→d→e→f→g→h→i→j→k→l→m→n→o→p→q→r→s→t→u→v→Prop} (h:have v:=H (NE.n @ne) (F22 P);have A:=v.1;have B:=v.2.1;have C:=v.2.2.1;have D:=v.2.2.2.1;have E:=v.2.2.2.2.1;have F:=v.2.2.2.2.2.1;have G:=v.2.2.2.2.2.2.1;have I:=v.2.2.2.2.2.2.2.1;have J:=v.2.2.2.2.2.2.2.2.1;have K:=v.2.2.2.2.2.2.2.2.2.1;have L:=v.2.2.2.2.2.2.2.2.2.2.1;have M:=v.2.2.2.2.2.2.2.2.2.2.2.1;have N:=v.2.2.2.2.2.2.2.2.2.2.2.2.1;have O:=v.2.2.2.2.2.2.2.2.2.2.2.2.2.1;have Q:=v.2.2.2.2.2.2.2.2.2.2.2.2.2.2.1;have R:=v.2.2.2.2.2.2.2.2.2.2.2.2.2.2.2.1;have S:=v.2.2.2.2.2.2.2.2.2.2.2.2.2.2.2.2.1;have T:=v.2.2.2.2.2.2.2.2.2.2.2.2.2.2.2.2.2.1;have U:=v.2.2.2.2.2.2.2.2.2.2.2.2.2.2.2.2.2.2.1;have V:=v.2.2.2.2.2.2.2.2.2.2.2.2.2.2.2.2.2.2.2.1;have X:=v.2.2.2.2.2.2.2.2.2.2.2.2.2.2.2.2.2.2.2.2.1;have Y:=v.2.2.2.2.2.2.2.2.2.2.2.2.2.2.2.2.2.2.2.2.2;W22 P A B C D E F G I J K L M N O Q R S T U V X Y) A B C D E F G I J K L M N O Q R S T U V X Y:P A B C D E F G I J K L M N O Q R S T U V X Y:=H_all (P:=F22 P) h (A,B,C,D,E,F,G,I,J,K,L,M,N,O,Q,R,S,T,U,V,X,Y)
abbrev W24 (P:a→b→c→d→e→f→g→h→i→j→k→l→m→n→o→p→q→r→s→t→u→v→w→x→Prop) A B C D E F G I J K L M N O Q R S T U V X Y Z Aa:=P A B C D E F G I J K L M N O Q R S T U V X Y Z Aa
abbrev G24 (P:a→b→c→d→e→f→g→h→i→j→k→l→m→n→o→p→q→r→s→t→u→v→w→x→Prop):=∀ A B C D E F G I J K L M N O Q R S T U V X Y Z Aa,W24 P A B C D E F G I J K L M N O Q R S T U V X Y Z Aa
theorem w24 {P:a→b→c→d→e→f→g→h→i→j→k→l→m→n→o→p→q→r→s→t→u→v→w→x→Prop} A B C D E F G I J K L M N O Q R S T U V X Y Z Aa (h:P A B C D E F G I J K L M N O Q R S T U V X Y Z Aa):W24 P A B C D E F G I J K L M N O Q R S T U V X Y Z Aa:=h
def F24 (P:a→b→c→d→e→f→g→h→i→j→k→l→m→n→o→p→q→r→s→t→u→v→w→x→Prop) (v:a×b×c×d×e×f×g×h×i×j×k×l×m×n×o×p×q×r×s×t×u×v×w×x):=P v.1 v.2.1 v.2.2.1 v.2.2.2.1 v.2.2.2.2.1 v.2.2.2.2.2.1 v.2.2.2.2.2.2.1 v.2.2.2.2.2.2.2.1 v.2.2.2.2.2.2.2.2.1 v.2.2.2.2.2.2.2.2.2.1 v.2.2.2.2.2.2.2.2.2.2.1 v.2.2.2.2.2.2.2.2.2.2.2.1 v.2.2.2.2.2.2.2.2.2.2.2.2.1 v.2.2.2.2.2.2.2.2.2.2.2.2.2.1 v.2.2.2.2.2.2.2.2.2.2.2.2.2.2.1 v.2.2.2.2.2.2.2.2.2.2.2.2.2.2.2.1 v.2.2.2.2.2.2.2.2.2.2.2.2.2.2.2.2.1 v.2.2.2.2.2.2.2.2.2.2.2.2.2.2.2.2.2.1 v.2.2.2.2.2.2.2.2.2.2.2.2.2.2.2.2.2.2.1 v.2.2.2.2.2.2.2.2.2.2.2.2.2.2.2.2.2.2.2.1 v.2.2.2.2.2.2.2.2.2.2.2.2.2.2.2.2.2.2.2.2.1 v.2.2.2.2.2.2.2.2.2.2.2.2.2.2.2.2.2.2.2.2.2.1 v.2.2.2.2.2.2.2.2.2.2.2.2.2.2.2.2.2.2.2.2.2.2.1 v.2.2.2.2.2.2.2.2.2.2.2.2.2.2.2.2.2.2.2.2.2.2.2
theorem hn24 (ne:∀ [Nonempty Shared] [Nonempty Around] [Nonempty World] [Nonempty Drawn] [Nonempty GenState] [Nonempty Zone],Nonempty (a×b×c×d×e×f×g×h×i×j×k×l×m×n×o×p×q×r×s×t×u×v×w×x)) {P:a→b→c→d→e→f→g→h→i→j→k→l→m→n→o→p→q→r→s→t→u→v→w→x→Prop} (h:have v:=H (NE.n @ne) (F24 P);have A:=v.1;have B:=v.2.1;have C:=v.2.2.1;have D:=v.2.2.2.1;have E:=v.2.2.2.2.1;have F:=v.2.2.2.2.2.1;have G:=v.2.2.2.2.2.2.1;have I:=v.2.2.2.2.2.2.2.1;have J:=v.2.2.2.2.2.2.2.2.1;have K:=v.2.2.2.2.2.2.2.2.2.1;have L:=v.2.2.2.2.2.2.2.2.2.2.1;have M:=v.2.2.2.2.2.2.2.2.2.2.2.1;have N:=v.2.2.2.2.2.2.2.2.2.2.2.2.1;have O:=v.2.2.2.2.2.2.2.2.2.2.2.2.2.1;have Q:=v.2.2.2.2.2.2.2.2.2.2.2.2.2.2.1;have R:=v.2.2.2.2.2.2.2.2.2.2.2.2.2.2.2.1;have S:=v.2.2.2.2.2.2.2.2.2.2.2.2.2.2.2.2.1;have T:=v.2.2.2.2.2.2.2.2.2.2.2.2.2.2.2.2.2.1;have U:=v.2.2.2.2.2.2.2.2.2.2.2.2.2.2.2.2.2.2.1;have V:=v.2.2.2.2.2.2.2.2.2.2.2.2.2.2.2.2.2.2.2.1;have X:=v.2.2.2.2.2.2.2.2.2.2.2.2.2.2.2.2.2.2.2.2.1;have Y:=v.2.2.2.2.2.2.2.2.2.2.2.2.2.2.2.2.2.2.2.2.2.1;have Z:=v.2.2.2.2.2.2.2.2.2.2.2.2.2.2.2.2.2.2.2.2.2.2.1;have Aa:=v.2.2.2.2.2.2.2.2.2.2.2.2.2.2.2.2.2.2.2.2.2.2.2;W24 P A B C D E F G I J K L M N O Q R S T U V X Y Z Aa) A B C D E F G I J K L M N O Q R S T U V X Y Z Aa:P A B C D E F G I J K L M N O Q R S T U V X Y Z Aa:=H_all (P:=F24 P) h (A,B,C,D,E,F,G,I,J,K,L,M,N,O,Q,R,S,T,U,V,X,Y,Z,Aa)
end
end
section
def hen {V : Type} (P : V → Prop) (d : V) : V := @Classical.epsilon V ⟨d⟩ fun v => ¬ P v
theorem hen_all {V : Type} {d : V} {P : V → Prop} (h : P (hen P d)) (v : V) : P v := Classical.byContradiction fun n => @Classical.epsilon_spec V (fun v => ¬ P v) ⟨v, n⟩ h
abbrev U {a F V : Type} (f : F → V → Prop) (P : a → F) (v : a × V) : Prop := f (P v.1) v.2
abbrev I0 {a : Type} (P : a → Prop) (x : a) : Prop := P x
def dW : World := aWorld 1
def dA : Around := {}
def dS : Shared := {}
end
section
structure Me (mod : List Addr) (h₀ h : Heap) (L : Addr) (m : Str → Option Value) (news : List (Addr × Obj)) : Prop where
 ext : Ext mod h₀ h
 ns : h.Ns L m
 nw : ∀ p ∈ news, h.get? p.1 = some p.2
 nd : (news.map (·.1)).Nodup
 ne : ∀ p ∈ news, p.1 ≠ L
 off : ∀ p ∈ news, p.1 ∈ mod ∨ h₀.get? p.1 = none
 offL : L ∈ mod ∨ h₀.get? L = none
section
theorem Me.at (D : Me mod h₀ h L m news) (i : Nat) (e : news[i]? = some (a, o)) : h.get? a = some o := D.nw _ (mem_of_getElem? e)
theorem Me.old (D : Me mod h₀ h L m news) (e : h₀.get? a = some o) (hc : hasCls o = true) (hm : a ∉ mod) : h.get? a = some o := D.ext.get e hc hm
theorem Me.top (D : Me mod h₀ h L m news) (T : TopH w h₀) (hm : ∀ a ∈ mod, 604 ≤ a) : TopH w h := T.ext D.ext hm
theorem Me.start (n : h'.Ns h.objs.size m) (k : ∀ b o, h.get? b = some o → h'.get? b = some o) : Me [] h h' h.objs.size m [] :=
 ⟨.of_keeps k, n, fun _ q => (nomatch q), nodup_nil, fun _ q => (nomatch q), fun _ q => (nomatch q), .inr (by
  cases q : h.get? h.objs.size with
  | none => rfl
  | some o => exact absurd (lt_size q) (lt_irrefl _))⟩
theorem Me.take (D : Me mod h₀ h L m news) (e : h.get? a = some o) (e₀ : ∃ o₀, h₀.get? a = some o₀) (hn : a ∉ news.map (·.1)) (hL : a ≠ L) : Me (a :: mod) h₀ h L m ((a, o) :: news) :=
 ⟨D.ext.mono fun _ q => .tail _ q, D.ns, fun p hp => by
  rcases mem_cons.mp hp with rfl | hp
  ·exact e
  ·exact D.nw p hp, by rw [map_cons]; exact nodup_cons.mpr ⟨hn, D.nd⟩, fun p hp => by
  rcases mem_cons.mp hp with rfl | hp
  ·exact hL
  ·exact D.ne p hp, fun p hp => by
  rcases mem_cons.mp hp with rfl | hp
  ·exact .inl (.head _)
  ·exact (D.off p hp).imp (fun q => .tail _ q) id, D.offL.imp (fun q => .tail _ q) id⟩
theorem Me.fresh (D : Me mod h₀ h L m news) : h₀.get? h.objs.size = none := by
 cases q : h₀.get? h.objs.size with
 | none => rfl
 | some o' =>
  obtain ⟨o₂, e₂⟩ := D.ext.there _ _ q;exact absurd (lt_size e₂) (lt_irrefl _)
theorem Me.push (D : Me mod h₀ h L m news) (o : Obj) (hf : o.isFreed = false := by rfl) : Me mod h₀ (h.push o) L m ((h.objs.size, o) :: news) := by
 refine ⟨D.ext.trans (.push h o) fun _ q => (nomatch q), D.ns.push o, fun p hp => ?_, ?_, fun p hp => ?_, fun p hp => ?_, D.offL⟩
 ·rcases mem_cons.mp hp with rfl | hp
  ·exact get?_push_size _ hf
  ·exact get?_push_of_some _ (D.nw p hp)
 ·rw [map_cons]
  refine nodup_cons.mpr ⟨fun q => ?_, D.nd⟩;obtain ⟨p, hp, e⟩ := mem_map.mp q;exact absurd (lt_size (D.nw p hp)) (by rw [e]; exact lt_irrefl _)
 ·rcases mem_cons.mp hp with rfl | hp
  ·exact ne_of_gt D.ns.lt
  ·exact D.ne p hp
 ·rcases mem_cons.mp hp with rfl | hp
  ·exact .inr D.fresh
  ·exact D.off p hp
theorem Me.store (D : Me mod h₀ h L m news) (n : h'.Ns L m') (hs : Heap.SameBut L h h') : Me mod h₀ h' L m' news :=
 ⟨D.ext.trans (.sameBut hs (let ⟨o, _, _, e, _⟩ := n; ⟨o, e⟩)) fun a q => by rw [mem_singleton.mp q]; exact D.offL,
 n, fun p hp => (hs.2 _ (D.ne p hp)).trans (D.nw p hp), D.nd, D.ne, D.off, D.offL⟩
theorem zhf {l : List (Addr × Obj)} {i : Nat} (e : l[i]? = some (a, o)) : (l.set i (a, o')).map (·.1) = l.map (·.1) := by
 rw [List.map_set];exact set_same (by rw [getElem?_map, e]; rfl)
theorem Me.turn (D : Me mod h₀ h L m news) (i : Nat) (e : news[i]? = some (a, o)) {mod' : List Addr} (x : Ext mod' h h') (hm : ∀ b ∈ mod', b = a) (ho : h'.get? a = some o')
  (hc : ∀ p ∈ news, hasCls p.2 = true := by (repeat' (first | exact List.forall_mem_nil _ | (refine List.forall_mem_cons.mpr ⟨rfl, ?_⟩)))) : Me mod h₀ h' L m (news.set i (a, o')) := by
 have hmem := mem_of_getElem? e;have em := zhf (o' := o') e;have nL : L ∉ mod' := fun q => D.ne _ hmem (hm _ q).symm;refine ⟨D.ext.trans x fun b q => by rw [hm b q]; exact D.off _ hmem, zaA x D.ns nL, fun p hp => ?_, by rw [em]; exact D.nd, fun p hp => ?_, fun p hp => ?_, D.offL⟩
 ·by_cases z : p.1 = a
  ·have hx : (a, o') ∈ news.set i (a, o') := List.mem_set (List.getElem?_eq_some_iff.mp e).1 _
   have : p = (a, o') := key_unique (by rw [em]; exact D.nd) hp hx z;subst this;exact ho
  ·rcases mem_or_eq_of_mem_set hp with hp | rfl
   ·exact x.get (D.nw p hp) (hc p hp) fun q => z (hm _ q)
   ·exact absurd rfl z
 ·rcases mem_or_eq_of_mem_set hp with hp | rfl
  ·exact D.ne p hp
  ·exact D.ne (a, o) hmem
 ·rcases mem_or_eq_of_mem_set hp with hp | rfl
  ·exact D.off p hp
  ·exact D.off (a, o) hmem
theorem Me.update (D : Me mod h₀ h L m news) (i : Nat) {f : Obj → Obj} (e : news[i]? = some (a, o)) (hf : (f o).isFreed = false) : Me mod h₀ (h.update a f) L m (news.set i (a, f o)) := by
 have ho := D.at i e;have hmem := mem_of_getElem? e;have em := zhf (o' := f o) e;have hs : Heap.SameBut a h (h.update a f) := Heap.SameBut.update ..;have ge : (h.update a f).get? a = some (f o) := by first | exact get?_update_self f ho hf | exact get?_update_self _ ho hf
 refine ⟨D.ext.trans (.sameBut hs ⟨_, ge⟩) fun b q => by rw [mem_singleton.mp q]; exact D.off _ hmem, D.ns.sameBut hs (fun q => D.ne _ hmem q.symm), fun p hp => ?_, by rw [em]; exact D.nd, fun p hp => ?_, fun p hp => ?_, D.offL⟩
 ·by_cases z : p.1 = a
  ·have hx : (a, f o) ∈ news.set i (a, f o) := List.mem_set (List.getElem?_eq_some_iff.mp e).1 _
   have : p = (a, f o) := key_unique (by rw [em]; exact D.nd) hp hx z;subst this;exact ge
  ·rcases mem_or_eq_of_mem_set hp with hp | rfl
   ·exact (hs.2 _ z).trans (D.nw p hp)
   ·exact absurd rfl z
 ·rcases mem_or_eq_of_mem_set hp with hp | rfl
  ·exact D.ne p hp
  ·exact D.ne (a, o) hmem
 ·rcases mem_or_eq_of_mem_set hp with hp | rfl
  ·exact D.off p hp
  ·exact D.off (a, o) hmem
theorem Me.call (D : Me mod h₀ h L m news) (x : Ext [] h h') (hc : ∀ p ∈ news, hasCls p.2 = true := by (repeat' (first | exact List.forall_mem_nil _ | (refine List.forall_mem_cons.mpr ⟨rfl, ?_⟩)))) : Me mod h₀ h' L m news :=
 ⟨D.ext.trans x fun _ q => (nomatch q), zaA x D.ns not_mem_nil, fun p hp => x.get (D.nw p hp) (hc p hp) not_mem_nil, D.nd, D.ne, D.off, D.offL⟩
theorem Me.drop (D : Me mod h₀ h L m news) (news' : List (Addr × Obj)) (s : List.Sublist news' news) : Me mod h₀ h L m news' :=
 ⟨D.ext, D.ns, fun p hp => D.nw p (s.subset hp), (s.map _).nodup D.nd, fun p hp => D.ne p (s.subset hp), fun p hp => D.off p (s.subset hp), D.offL⟩
theorem Me.setOld (D : Me mod h₀ h L m []) {o₀ : Obj} (e₀ : h₀.get? a = some o₀) (z : L ≠ a) (hs : Heap.SameBut a h h') (e' : h'.get? a = some o') : Me (a :: mod) h₀ h' L m [(a, o')] :=
 ⟨(D.ext.mono fun _ q => .tail _ q).trans (.sameBut hs ⟨_, e'⟩) fun b q => by rw [mem_singleton.mp q]; exact .inl (.head _), D.ns.sameBut hs z, fun p hp => by rw [mem_singleton.mp hp]; exact e',
 by simp, fun p hp => by rw [mem_singleton.mp hp]; exact Ne.symm z, fun p hp => by rw [mem_singleton.mp hp]; exact .inl (.head _), D.offL.imp (fun q => .tail _ q) id⟩
end
section
variable {x : Str}
theorem zaj (T : TopH w s.heap) (hg : env.globals = mainGlobals) (e : nsIn (KK w) mainGlobals x = some (some v)) (h : Q v s) (hk : env.scope.kind = .function := by rfl) (hx : env.kindOf x = some .globalImplicit := by rfl) (hd : (x == ("__debug__" : Str)) = false := by decide) :
  wpAny M A (eval (.Name x pos) env) Q E s := by
 obtain ⟨mg, n⟩ := T.g;exact Name_function_global hk hx (loadGlobal_global (by rw [hg]; exact n) (mg_of T.K n e) h) hd
theorem zae (T : TopH w s.heap) (hg : env.globals = mainGlobals) (hb : env.builtins = builtinsNs) (e : nsIn (KK w) mainGlobals x = some none) (hv : bootBuiltins x = some v) (hn : x ≠ "__name__") (h : Q v s) (hk : env.scope.kind = .function := by rfl) (hx : env.kindOf x = some .globalImplicit := by rfl) (hd : (x == ("__debug__" : Str)) = false := by decide) :
  wpAny M A (eval (.Name x pos) env) Q E s := by
 obtain ⟨mg, n⟩ := T.g;obtain ⟨mb, nb, r⟩ := T.b;exact Name_function_global hk hx (loadGlobal_builtin (by rw [hg]; exact n) (mg_none_of T.K n e) (by rw [hb]; exact nb) ((r x hn).trans hv) h) hd
theorem zaa (n : s.heap.Ns env.locals m) (hv : m x = some v) (h : Q v s) (hk : env.scope.kind = .function := by rfl) (hx : env.kindOf x = some .local := by rfl) (hd : (x == ("__debug__" : Str)) = false := by decide) :
  wpAny M A (eval (.Name x pos) env) Q E s := wpAny_Name (wpAny_loadName_local hk hx n hv h) hd
end
theorem zbw {w : World} {fd : FuncData} (binds : List (Str × Value)) {n : Nat} (hA : Rm n A) (T : TopH w s.heap)
  (ho : (KK w).lookup a = some o) (hdata : o.data = .func fd) (hcd : codeIn (KK w) fd.code fd.qualname = true)
  (hbody : fd.body = .stmts body) (hbind : BindsTo s fd args binds)
  (hcell : ∀ x ∈ fd.scope.names, x.2 ≠ .cell) (hloc : ∀ x ∈ binds, fd.scope.names.lookup x.1 = some .local)
  (h : ∀ h₁, Me [] s.heap h₁ s.heap.objs.size (fun x => binds.reverse.lookup x) [] → Rm (n + 1) (A.deeper (callEnv fd s.heap.objs.size a)) → (A.deeper (callEnv fd s.heap.objs.size a)).handled = A.handled →
   wpAny (model P w) (A.deeper (callEnv fd s.heap.objs.size a)) (execs body (callEnv fd s.heap.objs.size a)) (fun f s' => R (.ok (.ret (match f with | .ret v => v | _ => .none))) s')
    (fun e s' => wpAny (model P w) (A.deeper (callEnv fd s.heap.objs.size a)) (leaving (callEnv fd s.heap.objs.size a) e) (fun _ s'' => R (.error e) s'') (fun e' s'' => R (.error e') s'') s')
    { s with heap := h₁, toks := s.toks + binds.length })
  (hn : n ≤ 600 := by decide) (hco : fd.scope.isCoroutine = false := by rfl) (hgen : fd.scope.isGenerator = false := by rfl) (hk : fd.scope.kind = .function := by rfl) : codeAny (model P w) A (.call (.ref a) args) R s :=
 codeAny_call_def (hA.dlt hn) (T.K _ _ ho) hdata T.lim (codeRec_of T.K hcd) hbody hbind hcell hloc (fun h₁ n k => h h₁ (.start n k) (hA.deeper _) rfl) hco hgen hk
section
variable {f : Value}
theorem zcV (hk : keepIn (KK w) (.ref a) = true) (h : Heap) (T : TopH w h) : ∃ k, (k = Keeper.frame ∨ k = Keeper.machine ∨ k = Keeper.boundFrame) ∧ Looks (model P w) h (keeperOf (.ref a)) k := keeps_K hk h T.K
theorem call_fn {e : Expr} {rest : List Expr} (hk : keepIn (KK w) (.ref a) = true) (h : wpAny (model P w) A (spliced (backTo pos (starEach (e :: rest) env))) (fun vs s₁ => TopH w s₁.heap ∧ wpAny (model P w) A (call (.ref a) (first ++ vs)) Q E s₁) E s)
  (he : starEach (e :: rest) env = (false, eval e env) :: starEach rest env := by rfl) (hplain : (backTo pos (starEach rest env)).any (·.1) = false := by rfl) :
  wpAny (model P w) A (callWith pos (.ref a) first (backTo pos (starEach (e :: rest) env)) []) Q E s := by
 rw [he] at h ⊢;exact callWith_of (by show ((false || (backTo pos (starEach rest env)).any (·.1)) || false) = false; rw [hplain]; rfl) (zcV hk) (evalArgs_plain h)
theorem cf {e : Expr} {rest : List Expr} (hk : keepIn (KK w) (.ref a) = true) (he : starEach (e :: rest) env = (false, eval e env) :: starEach rest env) (hplain : (backTo pos (starEach rest env)).any (·.1) = false) (h : wpAny (model P w) A (spliced (backTo pos (starEach (e :: rest) env))) (fun vs s₁ => TopH w s₁.heap ∧ wpAny (model P w) A (call (.ref a) (first ++ vs)) Q E s₁) E s) : wpAny (model P w) A (callWith pos (.ref a) first (backTo pos (starEach (e :: rest) env)) []) Q E s := call_fn hk h he hplain
theorem za1 (hk : keepIn (KK w) (.ref a) = true) (T : TopH w s.heap) (h : wpAny (model P w) A (call (.ref a) (first ++ [])) Q E s) : wpAny (model P w) A (callWith pos (.ref a) first (backTo pos (starEach [] env)) []) Q E s :=
 callWith_of rfl (zcV hk) (evalArgs_nil3 ⟨T, h⟩)
theorem call_bi {e : Expr} {rest : List Expr} (h : wpAny (model P w) A (spliced (backTo pos (starEach (e :: rest) env))) (fun vs s₁ => wpAny (model P w) A (call f (first ++ vs)) Q E s₁) E s)
  (hf : keeperOf f = pure .machine := by rfl) (he : starEach (e :: rest) env = (false, eval e env) :: starEach rest env := by rfl) (hplain : (backTo pos (starEach rest env)).any (·.1) = false := by rfl) :
  wpAny (model P w) A (callWith pos f first (backTo pos (starEach (e :: rest) env)) []) Q E s := by
 rw [he] at h ⊢;exact callWith_of (P := fun _ => True) (by show ((false || (backTo pos (starEach rest env)).any (·.1)) || false) = false; rw [hplain]; rfl) (fun _ _ => ⟨.machine, .inr (.inl rfl), Looks.of_pure hf⟩) (evalArgs_plain (wpAny_mono h (fun _ _ x => ⟨trivial, x⟩) fun _ _ x => x))
theorem call_bi0 (h : wpAny (model P w) A (call f (first ++ [])) Q E s) (hf : keeperOf f = pure .machine := by rfl) : wpAny (model P w) A (callWith pos f first (backTo pos (starEach [] env)) []) Q E s :=
 callWith_of (P := fun _ => True) rfl (fun _ _ => ⟨.machine, .inr (.inl rfl), Looks.of_pure hf⟩) (evalArgs_nil3 ⟨trivial, h⟩)
end
theorem Ext.isList (x : Ext mod h h') (l : h.IsList a vs) (hm : a ∉ mod) : h'.IsList a vs := by
 obtain ⟨o, e, hc, r⟩ := l;exact ⟨o, x.get e (by unfold hasCls; rw [hc]) hm, hc, r⟩
theorem Ext.isTup (x : Ext mod h h') (l : IsTup h a vs) (hm : a ∉ mod) : IsTup h' a vs := by
 obtain ⟨o, e, hc, r⟩ := l;exact ⟨o, x.get e (by unfold hasCls; rw [hc]) hm, hc, r⟩
end
section
open PySem.SeqAt PySem.Spec
inductive Rd (b : Addr) (h : Heap) : Value → PyData → Prop
 | int (i : Int) (t : Tok) : Rd b h (.int i t) (.int i)
 | str (x : Str) (t : Tok) : Rd b h (.str x t) (.str x)
 | list {a : Addr} {vs : Array Value} {ds : List PyData} : b ≤ a → h.IsList a vs → vs.size = ds.length → (∀ (i : Nat) (v : Value) (d : PyData), vs[i]? = some v → ds[i]? = some d → Rd b h v d) → Rd b h (.ref a) (.list ds)
 | tup {a : Addr} {vs : Array Value} {ds : List PyData} : b ≤ a → IsTup h a vs → vs.size = ds.length → (∀ (i : Nat) (v : Value) (d : PyData), vs[i]? = some v → ds[i]? = some d → Rd b h v d) → Rd b h (.ref a) (.tuple ds)
section
variable {d : PyData}
theorem Rd.mono (x : Rd b h v d) (hb : b' ≤ b) : Rd b' h v d := by
 induction x with
 | int i t => exact .int i t
 | str x t => exact .str x t
 | list h1 h2 h3 _ ih => exact .list (le_trans hb h1) h2 h3 fun i v d e1 e2 => ih i v d e1 e2
 | tup h1 h2 h3 _ ih => exact .tup (le_trans hb h1) h2 h3 fun i v d e1 e2 => ih i v d e1 e2
theorem Rd.ext (x : Rd b h v d) (e : Ext mod h h') (hm : ∀ a ∈ mod, a < b ∨ h.get? a = none) : Rd b h' v d := by
 induction x with
 | int i t => exact .int i t
 | str x t => exact .str x t
 | list h1 h2 h3 _ ih => exact .list h1 (e.isList h2 fun q => (hm _ q).elim (fun z => absurd z (not_lt.mpr h1)) fun z => by obtain ⟨o, ho, _⟩ := h2; rw [z] at ho; cases ho) h3 fun i v d e1 e2 => ih i v d e1 e2
 | tup h1 h2 h3 _ ih => exact .tup h1 (e.isTup h2 fun q => (hm _ q).elim (fun z => absurd z (not_lt.mpr h1)) fun z => by obtain ⟨o, ho, _⟩ := h2; rw [z] at ho; cases ho) h3 fun i v d e1 e2 => ih i v d e1 e2
theorem Rd.ext0 (x : Rd b h v d) (e : Ext [] h h') : Rd b h' v d := x.ext e fun _ q => nomatch q
theorem Rd.intE {i : Int} (x : Rd b h v (.int i)) : ∃ t, v = .int i t := by cases x; exact ⟨_, rfl⟩
theorem Rd.strE {i : Str} (x : Rd b h v (.str i)) : ∃ t, v = .str i t := by cases x; exact ⟨_, rfl⟩
theorem Rd.listE (x : Rd b h v (.list ds)) : ∃ a vs, v = .ref a ∧ b ≤ a ∧ h.IsList a vs ∧ vs.size = ds.length ∧ (∀ (i : Nat) (v : Value) (d : PyData), vs[i]? = some v → ds[i]? = some d → Rd b h v d) := by cases x; exact ⟨_, _, rfl, ‹_›, ‹_›, ‹_›, ‹_›⟩
theorem Rd.tupE (x : Rd b h v (.tuple ds)) : ∃ a vs, v = .ref a ∧ b ≤ a ∧ IsTup h a vs ∧ vs.size = ds.length ∧ (∀ (i : Nat) (v : Value) (d : PyData), vs[i]? = some v → ds[i]? = some d → Rd b h v d) := by cases x; exact ⟨_, _, rfl, ‹_›, ‹_›, ‹_›, ‹_›⟩
theorem Rd.pairE {p q : PyData} (x : Rd b h v (.tuple [p, q])) : ∃ a u z, v = .ref a ∧ b ≤ a ∧ IsTup h a #[u, z] ∧ Rd b h u p ∧ Rd b h z q := by
 obtain ⟨a, vs, rfl, hb, ht, hs, hr⟩ := x.tupE;obtain ⟨l⟩ := vs;obtain ⟨u, z, rfl⟩ : ∃ u z, l = [u, z] := by
  match l, hs with
  | [u, z], _ => exact ⟨u, z, rfl⟩
 exact ⟨a, u, z, rfl, hb, ht, hr 0 u p rfl rfl, hr 1 z q rfl rfl⟩
theorem zbv : ∀ {l : List Value} {ds : List PyData}, l.length = ds.length → (∀ (i : Nat) (v : Value) (d : PyData), l[i]? = some v → ds[i]? = some d → ∃ as, Reads h v d as) → ∃ as, ReadsAll h l ds as
 | [], [], _, _ => ⟨[], .nil⟩
 | v :: l, d :: ds, hl, hr => by
  obtain ⟨as, r⟩ := hr 0 v d rfl rfl;obtain ⟨bs, rs⟩ := zbv (l := l) (ds := ds) (by simpa using hl) fun i v d e1 e2 => hr (i + 1) v d (by simpa using e1) (by simpa using e2);exact ⟨_, .cons r rs⟩
theorem Rd.reads (x : Rd b h v d) : ∃ as, Reads h v d as := by
 induction x with
 | int i t => exact ⟨_, .int i t⟩
 | str x t => exact ⟨_, .str x t⟩
 | list h1 h2 h3 _ ih =>
  obtain ⟨o, ho, hc, n, hd⟩ := h2;obtain ⟨as, rs⟩ := zbv (h := h) (l := _) (ds := _) (by rw [length_toList]; exact h3) fun i v d e1 e2 => ih i v d (by rwa [← getElem?_toList]) e2;exact ⟨_, .list ho hc hd rs⟩
 | tup h1 h2 h3 _ ih =>
  obtain ⟨o, ho, hc, n, hd⟩ := h2;obtain ⟨as, rs⟩ := zbv (h := h) (l := _) (ds := _) (by rw [length_toList]; exact h3) fun i v d e1 e2 => ih i v d (by rwa [← getElem?_toList]) e2;exact ⟨_, .tuple ho hc hd rs⟩
end
structure LsAt (b : Addr) (h : Heap) (a : Addr) (vs : Array Value) (ds : List PyData) : Prop where
 le : b ≤ a
 ls : h.IsList a vs
 sz : vs.size = ds.length
 rd : ∀ (i : Nat) (v : Value) (d : PyData), vs[i]? = some v → ds[i]? = some d → Rd b h v d
theorem LsAt.of (x : Rd b h v (.list ds)) : ∃ a vs, v = .ref a ∧ LsAt b h a vs ds := by
 obtain ⟨a, vs, rfl, h1, h2, h3, h4⟩ := x.listE;exact ⟨a, vs, rfl, h1, h2, h3, h4⟩
theorem LsAt.rdl (x : LsAt b h a vs ds) : Rd b h (.ref a) (.list ds) := .list x.le x.ls x.sz x.rd
theorem LsAt.ext {a : Addr} {mod : List Addr} (x : LsAt b h a vs ds) (e : Ext mod h h') (hm : ∀ a ∈ mod, a < b ∨ h.get? a = none) : LsAt b h' a vs ds :=
 ⟨x.le, e.isList x.ls fun q => (hm _ q).elim (fun z => absurd z (not_lt.mpr x.le)) fun z => (by obtain ⟨o, ho, _⟩ := x.ls; rw [z] at ho; cases ho), x.sz, fun i v d e1 e2 => (x.rd i v d e1 e2).ext e hm⟩
theorem LsAt.item (x : LsAt b h a vs ds) {i : Nat} {d : PyData} (e : ds[i]? = some d) : ∃ v, vs[i]? = some v ∧ Rd b h v d := by
 have hi : i < vs.size := by rw [x.sz]; exact (List.getElem?_eq_some_iff.mp e).1
 exact ⟨vs[i], Array.getElem?_eq_getElem hi, x.rd i _ d (Array.getElem?_eq_getElem hi) e⟩
mutual
theorem zbE : ∀ d : PyData, d.canLay0 = true → noMix d d = true
 | .none, _ => by rw [noMix]
 | .bool _, _ => by rw [noMix]
 | .int _, _ => by rw [noMix]
 | .str _, _ => by rw [noMix]
 | .list xs, h => by rw [noMix]; exact noMixAll_self xs (by rw [PyData.canLay0] at h; exact h)
 | .tuple xs, h => by rw [noMix]; exact noMixAll_self xs (by rw [PyData.canLay0] at h; exact h)
 | .dict _, h => by rw [PyData.canLay0] at h; cases h
theorem noMixAll_self : ∀ xs : List PyData, PyData.canLayAll0 xs = true → noMixAll xs xs = true
 | [], _ => by rw [noMixAll]
 | x :: xs, h => by
  rw [PyData.canLayAll0, and_eq_true] at h;rw [noMixAll, zbE x h.1, noMixAll_self xs h.2]; rfl
end
section
variable {d : PyData} {n : Nat}
theorem zia (hA : Rm n A) (ra : Rd b s.heap u d) (rb : Rd b' s.heap v d) (hd : shaped d = true) (h : Q (.bool true) s) (hn : n ≤ 600 := by decide) :
  wpAny (model P w) A (compareOp .Eq u v) Q E s := by
 obtain ⟨as, ra⟩ := ra.reads;obtain ⟨bs, rb⟩ := rb.reads;exact eq_dataH_same ra rb hd hd (hA.ult64 hn) (zbE d (canLay_of_shaped hd)) (by rw [Spec.same_self]; exact h)
theorem zdU (hA : Rm n A) (ra : Rd b s.heap u d) (rb : Rd b' s.heap v d) (hd : shaped d = true) (h : Q (.bool false) s) (hn : n ≤ 600 := by decide) :
  wpAny (model P w) A (compareOp .NotEq u v) Q E s := by
 obtain ⟨as, ra⟩ := ra.reads;obtain ⟨bs, rb⟩ := rb.reads;exact ne_dataH_same ra rb hd hd (hA.ult64 hn) (zbE d (canLay_of_shaped hd)) (by rw [Spec.same_self]; exact h)
theorem zhX (hA : Rm n A) (ra : Rd b s.heap u (.list ds)) (rb : Rd b' s.heap v (.list [])) (hd : shaped (.list ds) = true) (h : Q (.bool (!ds.isEmpty)) s) (hn : n ≤ 600 := by decide) :
  wpAny (model P w) A (compareOp .NotEq u v) Q E s := by
 obtain ⟨as, ra⟩ := ra.reads;obtain ⟨bs, rb⟩ := rb.reads;refine ne_dataH_same ra rb hd (by decide) (hA.ult64 hn) ?_ ?_
 ·rw [noMix]; cases ds <;> rw [noMixAll]
 ·rw [Spec.same]; cases ds with
  | nil => rw [Spec.sameAll]; exact h
  | cons x l => rw [show Spec.sameAll (x :: l) [] = false by simp [Spec.sameAll]]; exact h
end
end
section
theorem zhG : builtinKind "dict.__new__" = some .builtinFn := by decide +kernel
theorem zhc : splitId "dict.__new__" = some ("dict", "__new__") := by decide +kernel
def zeG (K : Frag) (C : Addr) : Bool := match K.lookup C with
 | some ⟨_, _, .cls cd, sl⟩ => !cd.abstract && !cd.hasDel && (sl.toList[4]?).join == some (.builtin "dict.__new__") && !cd.mro.isEmpty && cd.mro.contains (.ref C) && cd.mro.contains (.type "dict") &&
   !(cd.mro.any fun | .type n => !["dict", "object", "collections.defaultdict", "collections.OrderedDict"].contains n | _ => false) &&
   specialIn K (.ref C) "__call__" == some (some (.builtin "type.__call__")) && instIn K (.ref C) (.type "type") == some true
 | _ => false
structure MakesD (M : Model) (h : Heap) (C : Addr) : Prop where
 obj : ∃ oc od cd sl, h.get? C = some ⟨oc, od, .cls cd, sl⟩ ∧ cd.abstract = false ∧ cd.hasDel = false ∧ cd.mro.isEmpty = false ∧ (cd.mro.any fun | .type n => !["dict", "object", "collections.defaultdict", "collections.OrderedDict"].contains n | _ => false) = false
 made : Looks M h (Bind.madeBy (.ref C)) (some "dict.__new__")
 base : Looks M h (Bind.staticBase (.ref C)) (.ref C)
 self : Looks M h (isSubtype (.ref C) (.ref C)) true
 top : Looks M h (isSubtype (.ref C) (.type "dict")) true
 call : Looks M h (specialOf (.ref C) "__call__") (some (.builtin "type.__call__"))
 typ : Looks M h (isInstance (.ref C) (.type "type")) true
theorem zcv (X : K.In h) (e : zeG K C = true) : MakesD M h C := by
 unfold zeG at e
 split at e
 ·rename_i oc od cd sl ho
  simp only [and_eq_true, not_eq_true', beq_iff_eq] at e;obtain ⟨⟨⟨⟨⟨⟨⟨⟨e1, e2⟩, e3⟩, e4⟩, e5⟩, e6⟩, e9⟩, e7⟩, e8⟩ := e;have hc : clsIn K C = some cd := by unfold clsIn; rw [ho]
  have hm : Looks M h (mroOf (.ref C)) cd.mro := (looks_clsIn X hc).andThen .now;obtain ⟨c, l, hl⟩ : ∃ c l, cd.mro = c :: l := by cases q : cd.mro with | nil => rw [q] at e4; cases e4 | cons c l => exact ⟨c, l, rfl⟩
  have made : Looks M h (Bind.madeBy (.ref C)) (some "dict.__new__") := by
   intro A Q E s k q;unfold Bind.madeBy;refine wpAny_bind (hm A _ E s k ?_);rw [hl, forIn_cons];refine wpAny_bind (wpAny_bind (wpAny_bind (wpAny_bind (wpAny_loadPart (k _ _ (X _ _ ho)) (wpAny_pure ?_)))));ext d;rw [← getElem?_toList, e3];exact wpAny_pure (wpAny_pure (wpAny_pure q))
  refine ⟨⟨oc, od, cd, sl, X _ _ ho, e1, e2, e4, e9⟩, made, ?_, looks_mroIn X ?_, looks_mroIn X ?_, looks_specialIn X e7, looks_instIn X e8⟩
  ·intro A Q E s k q
   unfold Bind.staticBase;refine wpAny_bind (hm A _ E s k ?_);rw [hl, forIn_cons];exact wpAny_bind (wpAny_bind (wpAny_bind (made A _ E s k (wpAny_pure (wpAny_pure (wpAny_pure q))))))
  ·unfold mroIn; rw [hc, bind_some, if_neg (by rw [e4]; decide), e5]
  ·unfold mroIn; rw [hc, bind_some, if_neg (by rw [e4]; decide), e6]
 ·cases e
theorem zdi (w : World) : zeG (KK w) 437 = true := by kernel_rfl
theorem zgu (w : World) : zeG (KK w) 560 = true := by kernel_rfl
abbrev zba (C dx : Addr) : Obj := { cls := .ref C, dict := some dx, data := .dict #[] }
theorem zhb : entryFor table "dict.__new__" = some Builtin.«dict.__new__» := F.kt_entry_dict_new
section
theorem zax {α : Type} {c : Prop} [Decidable c] {a b : Sem α} {Q : α → Shared → Prop} (hc : ¬ c) (h : wpAny M A b Q E s) : wpAny M A (if c then a else b) Q E s := by rw [if_neg hc]; exact h
theorem zch {α : Type} {c : Prop} [Decidable c] {a b : Sem α} {Q : α → Shared → Prop} (hc : c) (h : wpAny M A a Q E s) : wpAny M A (if c then a else b) Q E s := by rw [if_pos hc]; exact h
end
theorem ziu {prog : Program} {w : World} {C : Addr} {R : Result → Shared → Prop} {h : Heap} : ∀ (Y : MakesD (model prog w) h C) (hq : R (.ok (.ret (.ref (h.objs.size + 1)))) ⟨(h.push emptyDict).push (zba C h.objs.size), g, d, t, os⟩), codeAny (model prog w) A (.call (.builtin "dict.__new__") ⟨.ref C :: rest, kw⟩) R ⟨h, g, d, t, os⟩ := by
 unhygienic
 revert hen prog w A C R h g d t os rest kw;obtain ⟨⟨oc, od, cd, sl, hC, e1, e2, e4, e5⟩, made, base, self, top, call, typ⟩ := Y;refine codeAny_call_builtin_code (Code.quiet_builtin _ (by decide +kernel)) ?_;simp only [checkBuiltinCall, zhG, zhc];have here : Looks (model prog w) h (Bind.madeHere "dict.__new__" (.ref C)) () := by
  refine base.andThen (made.andThen ?_)
  with_reducible refine Looks.of_pure ?_
  simp only [map_some, bne_self_eq_false, false_eq_true, if_false]
 have mro : Looks (model prog w) h (mroOf (.ref C)) cd.mro := ((Looks.ld (part := none) hC).andThen .now).andThen .now;have isT : Looks (model prog w) h (isType (.ref C)) true := (Looks.ld hC).andThen .now
 repeat (first | simp only [bne_self_eq_false, false_eq_true, if_false] | lk)
 refine codeAny_builtin zhb ?_;unfold Builtin.«dict.__new__»;have s1 : Looks (model prog w) h (isSubtype (.ref C) (.type "dict")) true := top
 repeat (first | simp only [Bool.not_true, false_eq_true, if_false] | lk)
 refine zax (fun q => nomatch (show false = true from e5.symm.trans q)) ?_;refine wpAny_bind (wpAny_alloc ?_);ext bind;show wpAny _ _ (newObjAsIs _ _ _) _ _ _;unfold newObjAsIs classHasDel;refine wpAny_bind (wpAny_alloc (wpAny_bind (wpAny_bind (wpAny_load (get?_push_of_some _ (get?_push_of_some _ hC)) (wpAny_pure ?_)))));rw [e2];refine wpAny_pure (wpAny_pure ?_);show R _ _;rw [size_push];exact hq
theorem zfH {prog : Program} {w : World} {C : Addr} {h : Heap} {init : Value} : ∀ (Y : MakesD (model prog w) h C) (hi : Looks (model prog w) h (typeLookup (.ref C) "__init__") (some init)) (hb : ∀ self, Looks (model prog w) h (bindSpecial init self) (init, [self])) (hq : codeAny (model prog w) (A.under (.builtin "type.__call__" ⟨.ref C :: rest, kw⟩)) (.call init ⟨.ref (h.objs.size + 1) :: rest, kw⟩) (InitBack (h.objs.size + 1) R) ⟨(h.push emptyDict).push (zba C h.objs.size), g, d, t, os⟩), codeAny (model prog w) A (.call (.ref C) ⟨rest, kw⟩) R ⟨h, g, d, t, os⟩ := by
 unhygienic
 revert hen prog w A C R h g d t os rest kw init;have Y' := Y;obtain ⟨⟨oc, od, cd, sl, hC, e1, e2, e4, e5⟩, made, base, self, top, call, typ⟩ := Y;ext o.codeAny_of_tree;show wpAny _ _ (callAny (.ref C) _) _ _ _;refine nd_load hC ?_;show wpAny _ _ (callAny.viaDunder (.ref C) _) _ _ _;unfold callAny.viaDunder;refine wpAny_bind (call.at ?_);ext d;rw [tc_bind];refine wpAny_bind (wpAny_pure (wpAny_bind (wpAny_pure ?_)));refine wpAny_pure (a := Fin.again (.call (.builtin "type.__call__") ⟨.ref C :: rest, kw⟩)) (And.intro rfl ?_);refine codeAny_call_builtin_at (Code.quiet_builtin _ (by decide +kernel)) entry_typeCall ?_
 with_reducible refine check_slot tc_kind tc_split typ (tc_args _ _ _) ?_
 unfold Builtin.«type.__call__»;have hm : Looks (model prog w) h (mroOf (.ref C)) cd.mro := ((Looks.ld (part := none) hC).andThen .now).andThen .now
 repeat (first | simp only [e4, false_eq_true, if_false] | with_reducible refine wpAny_call ?_ | lk)
 refine ziu Y' ?_;have k : ∀ b o, h.get? b = some o → ((h.push emptyDict).push (zba C h.objs.size)).get? b = some o := fun b o e => get?_push_of_some _ (get?_push_of_some _ e);have hx : ((h.push emptyDict).push (zba C h.objs.size)).get? (h.objs.size + 1) = some (zba C h.objs.size) := by heap_get
 have t1 : Looks (model prog w) ((h.push emptyDict).push (zba C h.objs.size)) (typeOf (.ref (h.objs.size + 1))) (.ref C) := (Looks.ld hx).andThen .now;have s1 := self.keeps k;have i1 := hi.keeps k;have b1 := (hb (.ref (h.objs.size + 1))).keeps k;unfold isInstance callSpecial? specialOf
 repeat (first | with_reducible refine wpAny_call ?_ | lk)
 refine codeAny_mono hq fun r s' z => ?_;rcases r with e | (v | _ | _ | _) <;> first | exact z | exact z.elim | skip
 obtain ⟨rfl, z⟩ := z;exact wpAny_pure (wpAny_pure z)
end
section
abbrev zdc (T id : String) (x : Addr) : Obj := { cls := .type T, data := .fields #[.builtin id, .ref x] }
structure WD (id : String) : Prop where
 ty : typeOf (.builtin id) = pure (.type "wrapper_descriptor")
 own : ".".intercalate (id.cutAt '.').dropLast = "dict"
structure MD (id : String) : Prop where
 ty : typeOf (.builtin id) = pure (.type "method_descriptor")
 own : ".".intercalate (id.cutAt '.').dropLast = "dict"
 told : Manifest.toldItsClass.contains id = false
theorem zdN : WD "dict.__init__" := ⟨by show builtinType _ = _; rw [builtinType_eq_fast]; kernel_rfl, by decide +kernel⟩
theorem zhI : WD "dict.__iter__" := ⟨by show builtinType _ = _; rw [builtinType_eq_fast]; kernel_rfl, by decide +kernel⟩
theorem zcL : MD "dict.__getitem__" := ⟨by show builtinType _ = _; rw [builtinType_eq_fast]; kernel_rfl, by decide +kernel, by decide +kernel⟩
theorem zc2 : MD "dict.setdefault" := ⟨by show builtinType _ = _; rw [builtinType_eq_fast]; kernel_rfl, by decide +kernel, by decide +kernel⟩
theorem zc3 : MD "dict.items" := ⟨by show builtinType _ = _; rw [builtinType_eq_fast]; kernel_rfl, by decide +kernel, by decide +kernel⟩
theorem zdu : typeLookup (.type "wrapper_descriptor") "__get__" = pure (some (.builtin "wrapper_descriptor.__get__")) := by rw [typeLookup_type, builtinLookup_eq_fast]; kernel_rfl
theorem zgz : typeLookup (.type "method_descriptor") "__get__" = pure (some (.builtin "method_descriptor.__get__")) := by rw [typeLookup_type, builtinLookup_eq_fast]; kernel_rfl
theorem zcN : entryFor table "wrapper_descriptor.__get__" = some Builtin.«wrapper_descriptor.__get__» := entryFor_of_tree (by kernel_rfl)
theorem ze2 : entryFor table "method_descriptor.__get__" = some Builtin.«method_descriptor.__get__» := entryFor_of_tree (by kernel_rfl)
theorem zct : Slot "wrapper_descriptor" "__get__" "wrapper_descriptor.__get__" := .of (owner := "wrapper_descriptor") (n := "__get__") (by rw [typeLookup_type, builtinLookup_eq_fast]; kernel_rfl) (by decide +kernel) (by decide +kernel) (by decide +kernel)
 (by first | exact .inl (by decide +kernel) | exact .inr (by decide +kernel)) (by rw [isSubtype_type]; kernel_rfl)
theorem zdY : Slot "method_descriptor" "__get__" "method_descriptor.__get__" := .of (owner := "method_descriptor") (n := "__get__") (by rw [typeLookup_type, builtinLookup_eq_fast]; kernel_rfl) (by decide +kernel) (by decide +kernel) (by decide +kernel)
 (by first | exact .inl (by decide +kernel) | exact .inr (by decide +kernel)) (by rw [isSubtype_type]; kernel_rfl)
theorem zb6 (a b c : Value) : argsOk "wrapper_descriptor.__get__" ⟨[a, b, c], []⟩ := by unfold argsOk; rw [Fast.signatureQ_eq]; kernel_rfl
theorem zd0 (a b c : Value) : argsOk "method_descriptor.__get__" ⟨[a, b, c], []⟩ := by unfold argsOk; rw [Fast.signatureQ_eq]; kernel_rfl
section
theorem zh2 {id : String} {Q : Fin → Shared → Prop} (W : WD id) (ht : Looks M h (typeOf (.ref x)) (.ref C)) (hs : Looks M h (isSubtype (.ref C) (.type "dict")) true)
  (hq : Q (.done (.ret (.ref h.objs.size))) ⟨h.push (zdc "method-wrapper" id x), g, d, t, os⟩) :
  wpAny M A (Builtin.«wrapper_descriptor.__get__» ⟨[.builtin id, .ref x, .ref C], []⟩) Q E ⟨h, g, d, t, os⟩ := by
 have hi : Looks M h (isInstance (.ref x) (.type (".".intercalate (id.cutAt '.').dropLast))) true := by rw [W.own]; exact ht.andThen hs
 unfold Builtin.«wrapper_descriptor.__get__»
 repeat (first | with_reducible refine Looks.at hi ?_ | lk)
 exact hq
theorem zhS {id : String} {x : Addr} {Q : Fin → Shared → Prop} (W : MD id) (ht : Looks M h (typeOf (.ref x)) (.ref C)) (hs : Looks M h (isSubtype (.ref C) (.type "dict")) true)
  (hq : Q (.done (.ret (.ref h.objs.size))) ⟨h.push (zdc "builtin_function_or_method" id x), g, d, t, os⟩) :
  wpAny M A (Builtin.«method_descriptor.__get__» ⟨[.builtin id, .ref x, .ref C], []⟩) Q E ⟨h, g, d, t, os⟩ := by
 have hi : Looks M h (isInstance (.ref x) (.type (".".intercalate (id.cutAt '.').dropLast))) true := by rw [W.own]; exact ht.andThen hs
 have told := W.told;unfold Builtin.«method_descriptor.__get__»
 repeat (first | simp -iota only [told, false_eq_true, if_false] | (show wpAny _ _ (isInstance _ _) _ _ _; refine Looks.at hi ?_) | lk)
 exact hq
end
theorem zgO {h : Heap} {G id : String} {so : Addr} {l₀ l : List Value} {name : Str} {Q : Fin → Shared → Prop} : ∀ (hso : h.get? so = some { cls := .type "super", dict := none, data := .fields #[.ref D, .ref x, .ref C], slots := #[] }) (hno : Looks (model prog w) h (opaqueClassAbove (.ref C)) none) (hC : Looks (model prog w) h (mroOf (.ref C)) l₀) (hl : (l₀.dropWhile (· != .ref D)).drop 1 = l) (X : K.In h) (hf : alongIn K name l = some (some (.builtin id))) (hty : typeOf (.builtin id) = pure (.type T)) (hlk : typeLookup (.type T) "__get__" = pure (some (.builtin G))) (S : Slot T "__get__" G) (ent : entryFor table G = some Bi) (args : ∀ a b c, argsOk G ⟨[a, b, c], []⟩) (hx : Looks (model prog w) h (typeOf (.ref x)) (.ref C)) (hget : ∀ A' E', wpAny (model prog w) A' (Bi ⟨[.builtin id, .ref x, .ref C], []⟩) (fun fin s' => fin = .done (.ret (.ref h.objs.size)) ∧ s' = ⟨h.push (zdc BT id x), g, d, t, os⟩) E' ⟨h, g, d, t, os⟩) (hxC : x ≠ C) (hn : (name == ("__class__" : Str)) = false) (hq : Q (.done (.ret (.ref h.objs.size))) ⟨h.push (zdc BT id x), g, d, t, os⟩), wpAny (model prog w) A (Builtin.«super.__getattribute__» ⟨[.ref so, .str name tk], []⟩) Q E ⟨h, g, d, t, os⟩ := by
 unhygienic
 revert hen prog w A E h g d t os T G BT id Bi so D x C l₀ l K name tk Q;have hne : (Value.ref x == Value.ref C) = false := by simp [hxC]
 have hdt : ({ cls := .type "super", dict := none, data := .fields #[.ref D, .ref x, .ref C], slots := #[] } : Obj).data = .fields #[.ref D, .ref x, .ref C] := rfl;have f0 : (#[.ref D, .ref x, .ref C] : Array Value)[0]? = some (.ref D) := rfl;have f1 : (#[.ref D, .ref x, .ref C] : Array Value)[1]? = some (.ref x) := rfl;have f2 : (#[.ref D, .ref x, .ref C] : Array Value)[2]? = some (.ref C) := rfl;have hTf : (⟨h, g, d, t, os⟩ : Shared).TypeIs (.builtin id) T := hty;unfold Builtin.«super.__getattribute__»;ext bind
 wp_delta
 ext pure;refine wpAny_ite_false rfl ?_;ext bind
 wp_delta
 ext pure bind;refine wpAny_field hso hdt f0 ?_;simp -iota only [hn, Bool.or_false];ext bind;refine wpAny_field hso hdt f1 ?_;ext bind;refine wpAny_field hso hdt f2 ?_;simp -iota only [hne, false_eq_true, if_false];refine wpAny_ite_false rfl ?_;ext bind;refine ks_wpAny_notOpaque hno ?_;refine wpAny_ite_false rfl ?_;ext bind;refine Looks.at hC ?_;rw [hl];ext bind;refine ks_forIn_along X (fun _ _ => rfl) rfl ?_ hf;ext bind;refine wpAny_of_eq hty ?_;ext bind;refine wpAny_of_eq hlk ?_;ext bind holding;refine wpAny_call_entry S hTf ent (wpAny_mono (hget _ _) (fun fin s' z => ?_) fun _ _ z => z) (args _ _ _);obtain ⟨rfl, rfl⟩ := z;refine ⟨_, rfl, ?_⟩;ext bind
 wp_delta
 ext pure pure pure;exact hq
section
theorem zaU {G id : String} {so : Addr} {l₀ l : List Value} {name : Str} {pl : Sem Bool} {Q : Value × List Value → Shared → Prop}
  (hso : h.get? so = some { cls := .type "super", dict := none, data := .fields #[.ref D, .ref x, .ref C], slots := #[] }) (hno : Looks (model prog w) h (opaqueClassAbove (.ref C)) none)
  (hC : Looks (model prog w) h (mroOf (.ref C)) l₀) (hl : (l₀.dropWhile (· != .ref D)).drop 1 = l) (X : K.In h)
  (hf : alongIn K name l = some (some (.builtin id))) (hty : typeOf (.builtin id) = pure (.type T)) (hlk : typeLookup (.type T) "__get__" = pure (some (.builtin G)))
  (S : Slot T "__get__" G) (ent : entryFor table G = some Bi) (args : ∀ a b c, argsOk G ⟨[a, b, c], []⟩)
  (hx : Looks (model prog w) h (typeOf (.ref x)) (.ref C))
  (hget : ∀ A' E', wpAny (model prog w) A' (Bi ⟨[.builtin id, .ref x, .ref C], []⟩) (fun fin s' => fin = .done (.ret (.ref h.objs.size)) ∧ s' = ⟨h.push (zdc BT id x), g, d, t + 1, os⟩) E' ⟨h, g, d, t + 1, os⟩)
  (hxC : x ≠ C) (hn : (name == ("__class__" : Str)) = false)
  (hq : Q (.ref h.objs.size, []) ⟨h.push (zdc BT id x), g, d, t + 1, os⟩) :
  wpAny (model prog w) A (getMethod (.ref so) name pl) Q E ⟨h, g, d, t, os⟩ := by
 have hlk' := F.ks_slot_super_ga.lookup;have hcan := F.ks_canon_super_ga;have hT : ∀ t', (⟨h, g, d, t', os⟩ : Shared).TypeIs (.ref so) "super" := fun _ => ⟨_, hso, rfl⟩;unfold getMethod;refine wpAny_bind (wpAny_specialOf (hT _) hlk' ?_);show wpAny _ _ (if (Manifest.canonical "super.__getattribute__" != "object.__getattribute__") = true then _ else _) _ _ _;rw [if_pos hcan];unfold getAttr getAttrBy;refine wpAny_bind (wpAny_bind (wpAny_mkText (wpAny_holding (wpAny_bind (wpAny_typeOf (hT _) (wpAny_bind (wpAny_of_eq hlk' ?_)))))));show wpAny _ _ (getAttrByItsOwn (.ref so) (.str name t) (.type "super") (.builtin "super.__getattribute__") true false) _ _ _;unfold getAttrByItsOwn hookBefore callGetattribute boundAndCalled;refine wpAny_bind (wpAny_of_eq (show (if onTheHeap (.type "super") then typeLookup (.type "super") "__getattr__" else pure none) = pure none from rfl) ?_);refine wpAny_bind (wpAny_attempt (wpAny_holding ?_));show wpAny _ _ (bindSpecial (.builtin "super.__getattribute__") (.ref so) >>= _) _ _ _;refine wpAny_bind (wpAny_of_eq (F.ks_slot_super_ga.bind _) ?_);refine wpAny_mono (Q := fun v s' => v = .ref h.objs.size ∧ s' = ⟨h.push (zdc BT id x), g, d, t + 1, os⟩) (E := fun _ _ => False)
  (wpAny_call_entry F.ks_slot_super_ga (hT _) F.ks_entry_super_ga (zgO hso hno hC hl X hf hty hlk S ent args hx hget hxC hn ⟨_, rfl, rfl, rfl⟩) (F.ks_gaArgs_super _ _)) (fun v s' hv => ?_) fun _ _ z => z.elim
 obtain ⟨rfl, rfl⟩ := hv;exact wpAny_pure (wpAny_pure hq)
end
end
section
structure Inst (h : Heap) (x C dx : Addr) (od : Obj) (es : Array DictEntry) (ep : Nat) : Prop where
 at_ : h.get? x = some { cls := .ref C, dict := some dx, data := .dict es ep, slots := #[] }
 own : h.get? dx = some od
theorem Inst.i (I : Inst h x C dx od es ep) : InstAt h x { cls := .ref C, dict := some dx, data := .dict es ep, slots := #[] } C (some od) := ⟨I.at_, rfl, rfl, I.own⟩
theorem Ext.and (x : Ext mod h h') (y : Ext [] h' h'') : Ext mod h h'' := x.trans y fun _ q => nomatch q
theorem Ext.fresh (x : Ext mod h h') (e : h'.get? a = none) : h.get? a = none := by
 cases q : h.get? a with
 | none => rfl
 | some o => obtain ⟨o', e'⟩ := x.there _ _ q; rw [e] at e'; cases e'
theorem zag (h : Heap) : h.get? h.objs.size = none := by
 cases q : h.get? h.objs.size with
 | none => rfl
 | some o => exact absurd (lt_size q) (lt_irrefl _)
theorem zaP (h : 604 ≤ x) : (x == sysModules) = false := by
 refine beq_false_of_ne fun e => ?_;rw [e] at h;exact absurd h (by decide)
theorem zgD (w : World) : nsIn (KK w) mainGlobals "super" = some none := by kernel_rfl
theorem zgc : (P.main.scope.names.lookup ("super" : Str)).isSome = false := by kernel_rfl
theorem zeR : bootBuiltins "super" = some (.type "super") := by kernel_rfl
theorem zbX (w : World) : nsIn (KK w) cStatics "thirdparty.any" = some none := by kernel_rfl
def zbA (K : Frag) (C D : Addr) : List Value := match clsIn K C with
 | some cd => (cd.mro.dropWhile (· != .ref D)).drop 1
 | none => []
section
variable {of : Obj} {cl : Value}
theorem zbL {attr : Str} {whole : Sem Value} {Q : Value → Shared → Prop} (T : TopH w s.heap) (n : s.heap.Ns env.locals m) (I : InstAt s.heap x ox C odx)
  (hf : (KK w).lookup f = some of) (hfd : of.data = .func fd) (hp : (fd.params.posonlyargs ++ fd.params.args).head? = some ar) (hv : m ar.arg = some (.ref x))
  (hcode : (KK w).lookup cda = some oc) (hoc : oc.data = .fields vs) (hvs : vs[2]? = some (.str file tf)) (hfile : ((P.main.file : Str) == file) = true)
  (hcell : (KK w).lookup cc = some ⟨cl, cld, .cell (some (.ref D)), csl⟩) (hD : (KK w).lookup D = some oD) (hDt : oD.data = .cls cdD) (hsub : mroIn (KK w) C (.ref D) = some true)
  (hg : env.globals = mainGlobals) (hb : env.builtins = builtinsNs) (hfu : env.func = some f) (hco : env.code = .ref cda) (hcl : env.cells.lookup ("__class__" : Str) = some cc) (hk : env.scope.kind = .function)
  (hks : env.kindOf "super" = some .globalImplicit) (hkc : env.kindOf "__class__" = some .free) (hka : env.kindOf ar.arg = some .local) (hat : (attr == ("__class__" : Str)) = false)
  (h : ∀ h', h'.get? s.heap.objs.size = some (ks_superObj D x C) → (∀ b o, s.heap.get? b = some o → h'.get? b = some o) → Q (.ref s.heap.objs.size) { s with heap := h' }) :
  PySem.wpAt (model P w) A (.func body env) (attributeBase (.Call (.Name "super" p0) [] [] p1) attr env whole) Q E s := by
 have X := T.K;obtain ⟨mg, ng⟩ := T.g;obtain ⟨mb, nb, rb⟩ := T.b;obtain ⟨hh, g, d, t, os⟩ := s;refine ks_wpAt_super_base (env := env) hks hkc hat hfu (X _ _ hf) hfd hp hco (X _ _ hcode) hoc hvs hfile zgc ?_;refine ks_loadName_global hk hks (loadGlobal_builtin (env := env) (by rw [hg]; exact ng) (mg_none_of X ng (zgD w)) (by rw [hb]; exact nb) ((rb _ (by decide +kernel)).trans zeR) ⟨rfl, ?_⟩);refine wpAny_loadName_free hk hkc hcl ⟨_, X _ _ hcell, rfl⟩ ?_;refine wpAny_loadName_local hk hka n hv ?_;refine ks_wpAny_isType_cls (X _ _ hD) hDt ⟨rfl, ?_⟩;refine ks_wpAny_call_super (X _ _ hD) hDt I.at_ I.cls (fun c e => ?_) (looks_mroIn X hsub) (fun h' e k => h h' e k);have := I.no;unfold notCls at this;rw [e] at this;exact Bool.noConfusion this
theorem zav {name : Str} {id : String} {apos pos : Pos} {args : List Expr} {pl : Sem Bool} {Q : Value → Shared → Prop} (T : TopH w s.heap) (n : s.heap.Ns env.locals m) (I : InstAt s.heap x ox C odx)
  (hf : (KK w).lookup f = some of) (hfd : of.data = .func fd) (hp : (fd.params.posonlyargs ++ fd.params.args).head? = some ar) (hv : m ar.arg = some (.ref x))
  (hcode : (KK w).lookup cda = some oc) (hoc : oc.data = .fields vs) (hvs : vs[2]? = some (.str file tf)) (hfile : ((P.main.file : Str) == file) = true)
  (hcell : (KK w).lookup cc = some ⟨cl, cld, .cell (some (.ref D)), csl⟩) (hD : (KK w).lookup D = some oD) (hDt : oD.data = .cls cdD) (hsub : mroIn (KK w) C (.ref D) = some true)
  (hcC : clsIn (KK w) C = some cdC) (hdict : mroIn (KK w) C (.type "dict") = some true) (hal : alongIn (KK w) name (zbA (KK w) C D) = some (some (.builtin id)))
  (hid : (WD id ∧ BT = "method-wrapper") ∨ (MD id ∧ BT = "builtin_function_or_method"))
  (hg : env.globals = mainGlobals) (hb : env.builtins = builtinsNs) (hfu : env.func = some f) (hco : env.code = .ref cda) (hcl : env.cells.lookup ("__class__" : Str) = some cc) (hk : env.scope.kind = .function)
  (hks : env.kindOf "super" = some .globalImplicit) (hkc : env.kindOf "__class__" = some .free) (hka : env.kindOf ar.arg = some .local) (hat : (name == ("__class__" : Str)) = false)
  (h : ∀ q h', s.heap.get? q = none → h'.get? q = some (zdc BT id x) → (∀ b o, s.heap.get? b = some o → h'.get? b = some o) →
   wpAny (model P w) A (callWith pos (.ref q) [] (backTo pos (starEach args env)) []) Q E { s with heap := h', toks := s.toks + 1 })
  (he : eval (.Call (.Attribute (.Call (.Name "super" p0) [] [] p1) name apos) args [] pos) env = (do
   let ov ← attributeBase (.Call (.Name "super" p0) [] [] p1) name env (eval (.Call (.Name "super" p0) [] [] p1) env)
   standAt apos.atName
   let (f, first) ← holding [ov] (getMethod ov name pl)
   callWith pos f first (backTo pos (starEach args env)) []) := by rfl) :
  PySem.wpAt (model P w) A (.func body env) (eval (.Call (.Attribute (.Call (.Name "super" p0) [] [] p1) name apos) args [] pos) env) Q E s := by
 refine ks_wpAt_MethodCall (zbL T n I hf hfd hp hv hcode hoc hvs hfile hcell hD hDt hsub hg hb hfu hco hcl hk hks hkc hka hat fun h' e k => ?_) he;obtain ⟨hh, g, d, t, os⟩ := s;have X : (KK w).In h' := fun b o e => k b o (T.K b o e);have I' : InstAt h' x ox C odx := ⟨k _ _ I.at_, I.cls, I.no, by
  have := I.dict;revert this;cases ox.dict <;> cases odx <;> first | exact fun z => z | exact fun z => k _ _ z⟩
 have hC : Looks (model P w) h' (mroOf (.ref C)) cdC.mro := (looks_clsIn X hcC).andThen .now;have hl : (cdC.mro.dropWhile (· != .ref D)).drop 1 = zbA (KK w) C D := by unfold zbA; rw [hcC]
 have hsub' : Looks (model P w) h' (isSubtype (.ref C) (.type "dict")) true := looks_mroIn X hdict;have hx : Looks (model P w) h' (typeOf (.ref x)) (.ref C) := I'.type;have hxC : x ≠ C := ks_ne X I' hcC;have nq : hh.get? h'.objs.size = none := by
  cases q : hh.get? h'.objs.size with
  | none => rfl
  | some o => exact absurd (lt_size (k _ _ q)) (lt_irrefl _)
 have fin := fun (BT : String) => h h'.objs.size (h'.push (zdc BT id x)) nq;rcases hid with ⟨W, rfl⟩ | ⟨W, rfl⟩
 ·refine zaU e (looks_opaque X (zbX w)) hC hl X hal W.ty zdu zct zcN zb6 hx (fun A' E' => zh2 W hx hsub' ⟨rfl, rfl⟩) hxC hat ?_
  exact fin _ (get?_push_size _ rfl) fun b o q => get?_push_of_some _ (k b o q)
 ·refine zaU e (looks_opaque X (zbX w)) hC hl X hal W.ty zgz zdY ze2 zd0 hx (fun A' E' => zhS W hx hsub' ⟨rfl, rfl⟩) hxC hat ?_
  exact fin _ (get?_push_size _ rfl) fun b o q => get?_push_of_some _ (k b o q)
end
end
section
structure Chk (m : Model) (h : Heap) (id : String) (args : Args) : Prop where
 l : Looks m h (checkBoundCall id args) ()
theorem Chk.of {m : Model} {id : String} (e : checkBoundCall id args = pure ()) : Chk m h id args := ⟨.of_pure e⟩
theorem zha {m : Model} (a : Value) : Chk m h "dict.__iter__" ⟨[a], []⟩ := .of (by unfold checkBoundCall; rw [Fast.signatureQ_eq]; kernel_rfl)
theorem zg7 {m : Model} (a : Value) : Chk m h "dict.__init__" ⟨[a], []⟩ := .of (by unfold checkBoundCall; rw [Fast.signatureQ_eq]; kernel_rfl)
theorem zdw {m : Model} (a b : Value) : Chk m h "dict.__init__" ⟨[a, b], []⟩ := .of (by unfold checkBoundCall; rw [Fast.signatureQ_eq]; kernel_rfl)
section
theorem zf1 {id : String} {args : List Value} (X : (KK w).In h) (I : InstAt h x ox C odx) (hc : clsIn (KK w) C = some cdC) (hm : mroIn (KK w) C (.type "module") = some false) (ht : typeIn (KK w) (.ref C) = some (.type "type"))
  (hk : builtinKind id = some .method) (hv : Manifest.varargsMethods.contains id = false) (ha : (match Manifest.signature? id with | some sig => Bind.checkArgs id { sig with full := s!"{cdC.qualname.toString}.{Bind.lastOf id}" } ⟨.ref x :: args, []⟩ | none => pure ()) = pure ()) :
  Chk (model P w) h id ⟨.ref x :: args, []⟩ := by
 unhygienic
 revert hen w h x C ox odx cdC id args;refine ⟨fun A Q E s k q => ?_⟩;obtain ⟨hh, g, d, t, os⟩ := s;have X' : (KK w).In hh := fun b o e => k b o (X b o e);have hx := k _ _ I.at_;have hcl := I.cls;have hn := I.no;obtain ⟨oc, odi, oda, osl⟩ := ox;dsimp only at hcl hx;subst hcl;have L1 : Looks (model P w) hh (isInstance (.ref x) (.type "module")) false := Looks.andThen (a := .ref C) ((Looks.ld hx).andThen .now) (looks_mroIn X' hm);have L2 : Looks (model P w) hh (isType (.ref x)) false := by
  refine (Looks.ld hx).andThen ?_;cases oda <;> first | exact .now | cases hn
 have L3 : Looks (model P w) hh (typeOf (.ref x)) (.ref C) := (Looks.ld hx).andThen .now;have L4 := looks_clsIn (M := model P w) X' hc;have L5 := looks_typeIn (M := model P w) X' ht;unfold checkBoundCall;cases hs : Manifest.signature? id with
 | none => exact wpAny_pure q
 | some sig =>
 rw [hs] at ha;dsimp only at ha;rw [hk];ext d;rw [if_neg (by decide)];refine wpAny_bind (L1.at ?_);rw [hv];simp -iota only [Bool.or_self, false_eq_true, if_false];refine wpAny_bind (L2.at ?_);simp -iota only [false_eq_true, if_false];refine wpAny_bind (L3.at ?_);ext d;refine wpAny_bind (L4.at (wpAny_bind (L5.at ?_)));simp -iota only [beq_self_eq_true, if_true];rw [ha];exact wpAny_pure q
theorem zcq {k : Value} (X : (KK w).In h) (I : InstAt h x ox 437 odx) : Chk (model P w) h "dict.__getitem__" ⟨[.ref x, k], []⟩ := zf1 (args := [k]) X I (by rfl) (by kernel_rfl) (by rfl) (by decide +kernel) (by decide +kernel) (by rw [Fast.signatureQ_eq]; kernel_rfl)
theorem zcD {k l : Value} (X : (KK w).In h) (I : InstAt h x ox 437 odx) : Chk (model P w) h "dict.setdefault" ⟨[.ref x, k, l], []⟩ := zf1 (args := [k, l]) X I (by rfl) (by kernel_rfl) (by rfl) (by decide +kernel) (by decide +kernel) (by rw [Fast.signatureQ_eq]; kernel_rfl)
theorem zcp (X : (KK w).In h) (I : InstAt h x ox 437 odx) : Chk (model P w) h "dict.items" ⟨[.ref x], []⟩ := zf1 (args := []) X I (by rfl) (by kernel_rfl) (by rfl) (by decide +kernel) (by decide +kernel) (by rw [Fast.signatureQ_eq]; kernel_rfl)
theorem zap {id : String} {q : Addr} (hT : T = "method-wrapper" ∨ T = "builtin_function_or_method") (hq : h.get? q = some (zdc T id x))
  (hc : Chk (model P w) h id ⟨.ref x :: args.pos, args.kw⟩) (hqt : ∀ a, (Code.builtin id a).quiet = true) (ent : entryFor table id = some Bi)
  (hb : wpAny (model P w) (A.under (.builtin id ⟨.ref x :: args.pos, args.kw⟩)) (Bi ⟨.ref x :: args.pos, args.kw⟩)
   (fun fin s' => match fin with | .done f => R (.ok f) s' | .again c' => c'.quiet = true ∧ codeAny (model P w) A c' R s') (fun e s' => R (.error e) s') ⟨h, g, d, t, os⟩) :
  codeAny (model P w) A (.call (.ref q) args) R ⟨h, g, d, t, os⟩ := by
 ext o.codeAny_of_tree;show wpAny _ A.in1 (callAny (.ref q) args) _ _ _;unfold callAny;refine wpAny_bind (wpAny_load hq ?_);ext d;rw [if_pos (by rcases hT with rfl | rfl <;> decide)];show wpAny _ _ (if (Value.type T != .type "method") = true then _ else _) _ _ _;rw [if_pos (by rcases hT with rfl | rfl <;> decide)];refine wpAny_bind (hc.l.at (wpAny_bind (wpAny_pure ?_)));exact wpAny_pure (And.intro (hqt _) (codeAny_builtin ent hb))
theorem zfr {id : String} (hT : T = "method-wrapper" ∨ T = "builtin_function_or_method") (h : Heap) (hq : h.get? q = some (zdc T id x)) : ∃ k, (k = Keeper.frame ∨ k = Keeper.machine ∨ k = Keeper.boundFrame) ∧ Looks (model P w) h (keeperOf (.ref q)) k := by
 refine ⟨.machine, .inr (.inl rfl), fun A Q E s k z => ?_⟩;unfold keeperOf;refine wpAny_bind (wpAny_load (k _ _ hq) ?_);ext d;rcases hT with rfl | rfl <;> exact wpAny_pure z
theorem zdo {id : String} {e : Expr} {rest : List Expr} (hT : T = "method-wrapper" ∨ T = "builtin_function_or_method")
  (h : wpAny (model P w) A (spliced (backTo pos (starEach (e :: rest) env))) (fun vs s₁ => s₁.heap.get? q = some (zdc T id x) ∧ wpAny (model P w) A (call (.ref q) ([] ++ vs)) Q E s₁) E s)
  (he : starEach (e :: rest) env = (false, eval e env) :: starEach rest env := by rfl) (hplain : (backTo pos (starEach rest env)).any (·.1) = false := by rfl) :
  wpAny (model P w) A (callWith pos (.ref q) [] (backTo pos (starEach (e :: rest) env)) []) Q E s := by
 rw [he] at h ⊢;exact callWith_of (P := fun h => h.get? q = some (zdc T id x)) (by show ((false || (backTo pos (starEach rest env)).any (·.1)) || false) = false; rw [hplain]; rfl) (zfr hT) (evalArgs_plain h)
theorem zbN {id : String} (hT : T = "method-wrapper" ∨ T = "builtin_function_or_method") (hq : s.heap.get? q = some (zdc T id x)) (h : wpAny (model P w) A (call (.ref q) ([] ++ [])) Q E s) : wpAny (model P w) A (callWith pos (.ref q) [] (backTo pos (starEach [] env)) []) Q E s :=
 callWith_of (P := fun h => h.get? q = some (zdc T id x)) rfl (zfr hT) (evalArgs_nil3 ⟨hq, h⟩)
theorem zaW {a : Addr} {fd : FuncData} {body : List Stmt} (binds : List (Str × Value)) {n : Nat} (hA : Rm n A) (T : TopH w s.heap)
  (ho : (KK w).lookup a = some o) (hdata : o.data = .func fd) (hcd : codeIn (KK w) fd.code fd.qualname = true)
  (hbody : fd.body = .stmts body) (hbind : BindsTo s fd args binds)
  (hcell : ∀ x ∈ fd.scope.names, x.2 ≠ .cell) (hloc : ∀ x ∈ binds, fd.scope.names.lookup x.1 = some .local)
  (h : ∀ h₁, Me [] s.heap h₁ s.heap.objs.size (fun x => binds.reverse.lookup x) [] → Rm (n + 1) (A.deeper (callEnv fd s.heap.objs.size a)) → (A.deeper (callEnv fd s.heap.objs.size a)).handled = A.handled →
   PySem.wpAt (model P w) (A.deeper (callEnv fd s.heap.objs.size a)) (.func body (callEnv fd s.heap.objs.size a)) (execs body (callEnv fd s.heap.objs.size a)) (fun f s' => R (.ok (.ret (match f with | .ret v => v | _ => .none))) s')
    (fun e s' => wpAny (model P w) (A.deeper (callEnv fd s.heap.objs.size a)) (leaving (callEnv fd s.heap.objs.size a) e) (fun _ s'' => R (.error e) s'') (fun e' s'' => R (.error e') s'') s')
    { s with heap := h₁, toks := s.toks + binds.length })
  (hn : n ≤ 600 := by decide) (hco : fd.scope.isCoroutine = false := by rfl) (hgen : fd.scope.isGenerator = false := by rfl) (hk : fd.scope.kind = .function := by rfl) : codeAny (model P w) A (.call (.ref a) args) R s :=
 ks_codeAny_call_defAt (hA.dlt hn) (T.K _ _ ho) hdata T.lim (codeRec_of T.K hcd) hbody hbind hcell hloc (fun h₁ n k => h h₁ (.start n k) (hA.deeper _) rfl) hco hgen hk
end
theorem zgX : entryFor table "dict.__iter__" = some Builtin.«dict.__iter__» := F.entry_dict_iter
section
variable {ep : Addr}
theorem zgL {Q : Fin → Shared → Prop} (X : (KK w).In h) (I : Inst h x C dx od es ep) (ho : mroIn (KK w) C (.type "collections.OrderedDict") = some false) (hx : (x == sysModules) = false)
  (hq : Q (.done (.ret (.ref h.objs.size))) ⟨h.push { cls := .type "dict_keyiterator", data := .fields #[.ref x, .int 0 0, .int es.size 0, .int ep 0] }, g, d, t, os⟩) :
  wpAny (model P w) A (Builtin.«dict.__iter__» ⟨[.ref x], []⟩) Q E ⟨h, g, d, t, os⟩ := by
 unhygienic
 revert hen w A E h g d t os x C dx ep od es Q;have hI := I.at_;have L : Looks (model P w) h (typeOf (.ref x)) (.ref C) := (Looks.ld hI).andThen .now;have L1 : Looks (model P w) h (isInstance (.ref x) (.type "collections.OrderedDict")) false := L.andThen (looks_mroIn X ho);have L2 : Looks (model P w) h (isSubtype (.ref C) (.type "collections.OrderedDict")) false := looks_mroIn X ho;unfold Builtin.«dict.__iter__»
 repeat (first | simp -iota only [hx, false_eq_true, if_false] | lk)
 exact hq
end
end
section
abbrev KD (w : World) : PySem.KeyKind P w Str := PySem.strKind P w
structure DD (w : World) (h : Heap) (d : Addr) (C : Value) (dx : Option Addr) (kvs : List (Str × Value)) (es : Array DictEntry) (ep : Nat) : Prop where
 at_ : h.get? d = some { cls := C, dict := dx, data := .dict es ep, slots := #[] }
 keys : KeysOf (KD w) es
 prs : Pairs (KD w) es.toList kvs
 nd : (kvs.map (·.1)).Nodup
section
variable {d : Addr} {C : Value} {dx : Option Addr} {t : Tok}
theorem DD.get (x : DD w h d C dx kvs es ep) (e : h'.get? d = h.get? d) : DD w h' d C dx kvs es ep := ⟨e.trans x.at_, x.keys, x.prs, x.nd⟩
theorem DD.ext (x : DD w h d C dx kvs es ep) (e : Ext mod h h') (hc : hasCls { cls := C, dict := dx, data := .dict es ep, slots := #[] : Obj } = true) (hm : d ∉ mod) : DD w h' d C dx kvs es ep := ⟨e.get x.at_ hc hm, x.keys, x.prs, x.nd⟩
theorem DD.keeps (x : DD w h d C dx kvs es ep) (e : ∀ b o, h.get? b = some o → h'.get? b = some o) : DD w h' d C dx kvs es ep := ⟨e _ _ x.at_, x.keys, x.prs, x.nd⟩
theorem DD.size (x : DD w h d C dx kvs es ep) : es.size = kvs.length := by rw [← x.prs.length]; simp
theorem DD.of (x : h.DictOf (KD w) d kvs) : ∃ es ep, DD w h d (.type "dict") none kvs es ep := by
 obtain ⟨⟨c, dd, dt, sl⟩, es, ep, ho, ⟨hc, hd, hs⟩, hdt, hk, hp, hn⟩ := x;dsimp only at hc hd hs hdt;subst hc hd hs hdt;exact ⟨es, ep, ho, hk, hp, hn⟩
theorem DD.new (h : Heap) : DD w (h.push { cls := .type "dict", data := .dict #[] }) h.objs.size (.type "dict") none [] #[] 0 := ⟨get?_push_size _ rfl, fun _ q => by simp at q, .nil, nodup_nil⟩
theorem zbJ (w : World) (k : Str) (t : Tok) : (KD w).is k (.str k t) = true := by show Value.isStrOf k (.str k t) = true; simp [Value.isStrOf]
theorem DD.find (x : DD w h d C dx kvs es ep) : (es.findIdx? fun e => (KD w).is k e.key) = kvs.findIdx? fun kv => decide (kv.1 = k) := by
 rw [← x.prs.findIdx k]; obtain ⟨l⟩ := es; simp
theorem zhl {Q : Option Value → Shared → Prop} (x : DD w s.heap d C dx kvs es ep) (q : Q (valueAt kvs k) { s with toks := s.toks + 1 }) : wpAny (model P w) A (dictGet d (.str k t)) Q E s := by
 unfold dictGet;refine wpAny_holding (wpAny_bind ((KD w).pyHash (zbJ w k t) (wpAny_bind (wpAny_dictFind_of (s := { s with toks := s.toks + 1 }) (zbJ w k t) x.at_ rfl x.keys ?_))));rw [← x.prs.find k] at q;cases hi : es.findIdx? fun e => (KD w).is k e.key with
 | none =>
  have : es.toList.find? (fun e => (KD w).is k e.key) = none := by
   rw [find?_eq_none];intro e he;simpa using Array.findIdx?_eq_none_iff.mp hi e (Array.mem_toList_iff.mp he)
  rw [this] at q;exact wpAny_pure q
 | some i =>
  refine wpAny_bind (wpAny_dictEntries (s := { s with toks := s.toks + 1 }) x.at_ rfl (wpAny_pure ?_));have hl : (es.toList.findIdx? fun e => (KD w).is k e.key) = some i := by rw [← hi]; obtain ⟨l⟩ := es; simp
  have e2 : es.toList.find? (fun e => (KD w).is k e.key) = es.toList[i]? := by
   obtain ⟨h1, h2, h3⟩ := List.findIdx?_eq_some_iff_getElem.mp hl;rw [getElem?_eq_getElem h1];exact List.find?_eq_some_iff_getElem.mpr ⟨h2, i, h1, rfl, fun j hj => by simpa using h3 j hj⟩
  rw [e2, getElem?_toList] at q;exact q
theorem DD.more (x : DD w h d C dx kvs es ep) (hn : k ∉ kvs.map (·.1)) : DD w (h.update d (Obj.mapDictKeys (·.push ⟨hashStr w k, .str k t, v⟩))) d C dx (kvs ++ [(k, v)]) (es.push ⟨hashStr w k, .str k t, v⟩) (ep + 1) := by
 refine ⟨?_, x.keys.push (zbJ w k t) v, ?_, ?_⟩
 ·have := get?_update_self (h := h) (Obj.mapDictKeys (·.push ⟨hashStr w k, .str k t, v⟩)) x.at_ rfl
  exact this
 ·have := x.prs.append (zbJ w k t) (hashStr w k) v
  obtain ⟨l⟩ := es;simpa using this
 ·rw [map_append, List.nodup_append]
  refine ⟨x.nd, by simp, ?_⟩;intro a ha b hb;simp only [map_cons, map_nil, mem_singleton] at hb;subst hb;exact fun e => hn (e ▸ ha)
theorem zbz (x : DD w s.heap d C dx kvs es ep) (hz : kvs.length ≤ 1000)
  (q1 : ∀ u, valueAt kvs k = some u → Q u { s with toks := s.toks + 1 })
  (q2 : k ∉ kvs.map (·.1) → ∀ h' es' ep', DD w h' d C dx (kvs ++ [(k, v)]) es' ep' → Heap.SameBut d s.heap h' → Q v { s with heap := h', toks := s.toks + 1 }) :
  wpAny (model P w) A (dictSetDefault d (.str k t) v) Q E s := by
 unfold dictSetDefault;refine wpAny_holding (wpAny_bind ((KD w).pyHash (zbJ w k t) (wpAny_bind (wpAny_dictFind_of (s := { s with toks := s.toks + 1 }) (zbJ w k t) x.at_ rfl x.keys ?_))));cases hi : es.findIdx? fun e => (KD w).is k e.key with
 | some i =>
  have hl : (es.toList.findIdx? fun e => (KD w).is k e.key) = some i := by rw [← hi]; obtain ⟨l⟩ := es; simp
  obtain ⟨e, he, hek, hev⟩ := x.prs.at hl;refine wpAny_bind (wpAny_dictEntries (s := { s with toks := s.toks + 1 }) x.at_ rfl ?_);rw [getElem?_toList] at he;rw [he];exact wpAny_bind (wpAny_rule (wpAny_pure (q1 _ hev)))
 | none =>
  have hn := not_mem_of_findIdx_none (x.find ▸ hi);refine wpAny_bind (wpAny_rule (wpAny_bind (wpAny_updateDictKeys (hz := by rw [x.size, sizeLine_eq]; omega) (s := { s with toks := s.toks + 1 }) x.at_ rfl (wpAny_pure (q2 hn _ _ _ (x.more hn) (Heap.SameBut.update ..))))))
theorem zbR {Q : Unit → Shared → Prop} (x : DD w s.heap d C dx kvs es ep) (hz : kvs.length ≤ 1000) (hn : k ∉ kvs.map (·.1))
  (q : ∀ h' es' ep', DD w h' d C dx (kvs ++ [(k, v)]) es' ep' → Heap.SameBut d s.heap h' → Q () { s with heap := h' }) :
  wpAny (model P w) A (dictSetHashed d (.str k t) (hashStr w k) v) Q E s := by
 unfold dictSetHashed;refine wpAny_holding (wpAny_bind (wpAny_dictFind_of (knd := KD w) (zbJ w k t) x.at_ rfl x.keys ?_));rw [x.find, List.findIdx?_eq_none_iff.mpr fun kv hkv => by rw [decide_eq_false_iff_not]; exact fun e => hn (by rw [← e]; exact mem_map_of_mem (f := (·.1)) hkv)];exact wpAny_bind (wpAny_rule (wpAny_updateDictKeys (hz := by rw [x.size, sizeLine_eq]; omega) x.at_ rfl (q _ _ _ (x.more hn) (Heap.SameBut.update ..))))
end
end
section
theorem zc9 : entryFor table "dict.__init__" = some Builtin.«dict.__init__» := F.entry_dict_init
section
variable {o : Addr} {C : Value} {more : List (Str × Value)}
theorem zh8 {C : Value} {dx : Option Addr} (y : DD w h o C dx more es ep) (hz : more.length ≤ 8) : (decide (es.size ≤ 8) && es.all fun e => (keyPart e.key).isSome) = true := by
 have hs : es.size ≤ 8 := by rw [y.size]; exact hz
 rw [decide_eq_true hs, Bool.true_and, Array.all_eq_true];intro i hi;obtain ⟨k, hk, _⟩ := y.keys es[i] (Array.getElem_mem hi);obtain ⟨t, e⟩ := Value.isStrOf_shape hk;rw [e]; rfl
end
theorem zgC {x o : Addr} {C : Value} {more : List (Str × Value)} {nm : String} {Q : Unit → Shared → Prop} : ∀ (hxo : x ≠ o) (ho : (o == sysModules) = false) (X : DD w s.heap x C dxo [] es ep) (Y : DD w s.heap o (.type "dict") none more es' ep') (hz : more.length ≤ 8) (q : ∀ h' es₁ ep₁, DD w h' x C dxo more es₁ ep₁ → Heap.SameBut x s.heap h' → Q () { s with heap := h' }), wpAny (model P w) A (Builtin.Dict.mergeDict nm x o) Q E s := by
 unhygienic
 revert hen w A E s x o C dxo more es es' ep ep' nm Q;unfold Builtin.Dict.mergeDict;rw [if_neg (by simpa using hxo)];unfold Builtin.Dict.showsAll;rw [if_neg (by rw [ho]; exact Bool.false_ne_true)];refine wpAny_bind (wpAny_pure ?_);refine wpAny_bind (wpAny_dictEntries Y.at_ rfl ?_);ext d;rw [zh8 Y hz];simp -iota only [Bool.not_true, false_eq_true, if_false];refine wpAny_bind (wpAny_dictEpoch Y.at_ rfl ?_);refine wpAny_bind (wpAny_dictEntries Y.at_ rfl ?_);ext bind;rw [Std.Legacy.Range.forIn_eq_forIn_range'];simp -iota only [Std.Legacy.Range.size, sub_zero, Nat.add_sub_cancel, Nat.div_one];have hn := Y.size;refine wpAny_forIn_list _
  (fun rest _ s' => ∃ h' i es₁ ep₁, s' = { s with heap := h' } ∧ rest = List.range' i (es'.size - i) ∧ i ≤ es'.size ∧ DD w h' x C dxo (more.take i) es₁ ep₁ ∧ Heap.SameBut x s.heap h') _ ?_ ?_ _ _
  ⟨s.heap, 0, es, ep, rfl, by simp, zero_le _, X, Heap.SameBut.refl _ _⟩
 ·rintro j rest b s' ⟨h', i, es₁, ep₁, rfl, hr, hi, D, sb⟩
  haveI hlt : i < es'.size := by
   rcases lt_or_ge i es'.size with z | z
   ·exact z
   ·rw [Nat.sub_eq_zero_of_le z] at hr; simp at hr
  obtain ⟨rfl, hrest⟩ : j = i ∧ rest = List.range' (i + 1) (es'.size - (i + 1)) := by
   rw [show es'.size - i = (es'.size - (i + 1)) + 1 by omega, List.range'_succ] at hr;injection hr with h1 h2
   exact ⟨h1, h2⟩
  haveI hY : h'.get? o = s.heap.get? o := sb.2 o (Ne.symm hxo)
  have Y' := Y.get hY;refine wpAny_bind (wpAny_dictEntries Y'.at_ rfl ?_);rw [Array.getElem?_eq_getElem hlt]
  haveI hlm : j < more.length := by omega
  obtain ⟨hkey, hval⟩ := Y.prs.get? (e := es'[j]) (k := more[j].1) (v := more[j].2) (by simp [hlt]) (getElem?_eq_getElem hlm);obtain ⟨k', hkey', hhash⟩ := Y.keys es'[j] (Array.getElem_mem hlt);obtain rfl : k' = more[j].1 := (KD w).inj _ _ _ hkey' hkey;obtain ⟨tk, etk⟩ := Value.isStrOf_shape hkey;show wpAny _ _ (holding [es'[j].key, es'[j].val] (dictSetHashed x es'[j].key es'[j].hash es'[j].val) >>= _) _ _ _;rw [hhash, hval, etk];have nk : more[j].1 ∉ (more.take j).map (·.1) := by
   intro q;obtain ⟨p, hp, e⟩ := mem_map.mp q;obtain ⟨i', hi', e'⟩ := List.mem_take_iff_getElem.mp hp
   haveI nd := List.pairwise_iff_getElem.mp Y.nd i' j (by rw [length_map]; omega) (by rw [length_map]; exact hlm) (by omega)
   rw [getElem_map, getElem_map] at nd;rw [e'] at nd;exact nd e
  refine wpAny_bind (wpAny_holding (zbR D (by rw [length_take]; omega) nk fun h'' es₂ ep₂ D₂ sb₂ => ?_));have Y'' := Y.get ((sb₂.2 o (Ne.symm hxo)).trans hY);refine wpAny_bind (wpAny_dictEpoch Y''.at_ rfl ?_);rw [if_neg (by simp)];refine wpAny_pure ⟨h'', j + 1, es₂, ep₂, rfl, hrest, hlt, ?_, sb.trans sb₂⟩;have : more.take (j + 1) = more.take j ++ [more[j]] := by rw [take_succ_eq_append_getElem hlm]
  rw [this]; exact D₂
 ·rintro b s' ⟨h', i, es₁, ep₁, rfl, hr, hi, D, sb⟩
  have : i = es'.size := by
   rcases lt_or_ge i es'.size with z | z
   ·rw [show es'.size - i = (es'.size - (i + 1)) + 1 by omega, List.range'_succ] at hr; exact nomatch hr
   ·omega
  rw [this, hn, take_length] at D;exact wpAny_pure (q _ _ _ D sb)
section
variable {o : Addr} {more : List (Str × Value)}
theorem zf8 {Q : Fin → Shared → Prop} (X : (KK w).In h) (I : DD w h x (.ref C) (some dx) [] es ep) (ho : mroIn (KK w) C (.type "collections.OrderedDict") = some false)
  (q : Q (.done (.ret .none)) ⟨h, g, d, t, os⟩) : wpAny (model P w) A (Builtin.«dict.__init__» ⟨[.ref x], []⟩) Q E ⟨h, g, d, t, os⟩ := by
 have hI := I.at_;have L : Looks (model P w) h (typeOf (.ref x)) (.ref C) := (Looks.ld hI).andThen .now;have L2 : Looks (model P w) h (isSubtype (.ref C) (.type "collections.OrderedDict")) false := looks_mroIn X ho;unfold Builtin.«dict.__init__»
 repeat (first | simp -iota only [false_eq_true, if_false] | lk)
 exact q
theorem zf2 {Q : Fin → Shared → Prop} (X : (KK w).In h) (I : DD w h x (.ref C) (some dx) [] es ep) (Y : DD w h o (.type "dict") none more es' ep') (hxo : x ≠ o) (hoS : (o == sysModules) = false) (hz : more.length ≤ 8) (ho : mroIn (KK w) C (.type "collections.OrderedDict") = some false)
  (q : ∀ h' es₁ ep₁, DD w h' x (.ref C) (some dx) more es₁ ep₁ → Heap.SameBut x h h' → Q (.done (.ret .none)) ⟨h', g, d, t, os⟩) : wpAny (model P w) A (Builtin.«dict.__init__» ⟨[.ref x, .ref o], []⟩) Q E ⟨h, g, d, t, os⟩ := by
 unhygienic
 revert hen w A E h g d t os x o C dx more es es' ep ep' Q;have hI := I.at_;have hY := Y.at_;have L : Looks (model P w) h (typeOf (.ref x)) (.ref C) := (Looks.ld hI).andThen .now;have L2 : Looks (model P w) h (isSubtype (.ref C) (.type "collections.OrderedDict")) false := looks_mroIn X ho;have L3 : Looks (model P w) h (typeOf (.ref o)) (.type "dict") := (Looks.ld hY).andThen .now;have L4 : Looks (model P w) h (isSubtype (.type "dict") (.type "dict")) true := Looks.of_pure isSubtype_dict_dict;have L5 : Looks (model P w) h (typeLookup (.type "dict") "__iter__") (some (.builtin "dict.__iter__")) := Looks.of_pure F.slot_dict_iter.lookup;unfold Builtin.«dict.__init__»
 repeat (first | (show wpAny _ _ (Builtin.Dict.mergeDict _ _ _) _ _ _; refine zgC (s := ⟨h, g, d, t, os⟩) hxo hoS I Y hz (fun h' es₁ ep₁ D sb => ?_)) | simp -iota only [false_eq_true, if_false] | lk)
 exact q _ _ _ D sb
end
end
section
abbrev zad (vs : Array Value) (n : Nat) : Obj := { cls := .type "list", data := .seq vs n }
def IL (b : Addr) (h : Heap) (a : Addr) (ns : List Int) : Prop := b ≤ a ∧ ∃ (vs : Array Value) (n : Nat), h.get? a = some (zad vs n) ∧ IntsAre vs.toList ns
theorem ia_len {l : List Value} {ns : List Int} (x : IntsAre l ns) : l.length = ns.length := by
 induction x with
 | nil => rfl
 | cons _ _ _ ih => simp [ih]
theorem zcF {l : List Value} {ns : List Int} (x : IntsAre l ns) : ∀ {i : Nat} {n : Int}, ns[i]? = some n → ∃ t, l[i]? = some (.int n t) := by
 induction x with
 | nil => intro i n e; simp at e
 | cons m t _ ih =>
  intro i n e;cases i with
  | zero => simp at e; subst e; exact ⟨t, rfl⟩
  | succ i => simpa using ih (by simpa using e)
theorem zeE {l : List Value} {ns : List Int} (x : IntsAre l ns) {l' : List Value} {ns' : List Int} (y : IntsAre l' ns') : IntsAre (l ++ l') (ns ++ ns') := by
 induction x with
 | nil => exact y
 | cons m t _ ih => exact .cons m t ih
theorem zib {l : List Value} {ns : List Int} (x : IntsAre l ns) {i : Nat} {d : PyData} (e1 : l[i]? = some v) (e2 : (ns.map PyData.int)[i]? = some d) : Rd b h v d := by
 rw [getElem?_map] at e2;obtain ⟨n, en, rfl⟩ := map_eq_some_iff.mp e2;obtain ⟨t, et⟩ := zcF x en;rw [e1] at et; cases et;exact .int n t
theorem IL.isList {ns : List Int} (x : IL b h a ns) : ∃ vs, h.IsList a vs := let ⟨_, vs, n, e, _⟩ := x; ⟨vs, _, e, rfl, n, rfl⟩
theorem IL.ls {ns : List Int} (x : IL b h a ns) : ∃ vs, LsAt b h a vs (ns.map .int) := by
 obtain ⟨hb, vs, n, e, hi⟩ := x;exact ⟨vs, hb, ⟨_, e, rfl, n, rfl⟩, by rw [length_map, ← ia_len hi]; simp, fun i v d e1 e2 => zib hi (by rwa [getElem?_toList]) e2⟩
theorem IL.rd {ns : List Int} (x : IL b h a ns) : Rd b h (.ref a) (.list (ns.map .int)) := let ⟨_, y⟩ := x.ls; y.rdl
theorem IL.ext {ns : List Int} (x : IL b h a ns) (e : Ext mod h h') (hm : a ∉ mod) : IL b h' a ns := let ⟨hb, vs, n, q, hi⟩ := x; ⟨hb, vs, n, e.get q rfl hm, hi⟩
theorem zbg {c : Addr} (x : h.IsList a vs) (e : Heap.SameBut c h h') (hm : a ≠ c) : h'.IsList a vs := let ⟨o, ho, r⟩ := x; ⟨o, (e.2 a hm).trans ho, r⟩
theorem IL.sb {c : Addr} {ns : List Int} (x : IL b h a ns) (e : Heap.SameBut c h h') (hm : a ≠ c) : IL b h' a ns := let ⟨hb, vs, n, q, hi⟩ := x; ⟨hb, vs, n, (e.2 a hm).trans q, hi⟩
theorem IL.keeps {b : Addr} {ns : List Int} (x : IL b h a ns) (e : ∀ b o, h.get? b = some o → h'.get? b = some o) : IL b h' a ns := let ⟨hb, vs, n, q, hi⟩ := x; ⟨hb, vs, n, e _ _ q, hi⟩
theorem IL.lt {ns : List Int} (x : IL b h a ns) : a < h.objs.size := let ⟨_, _, _, q, _⟩ := x; lt_size q
theorem zao {l : Addr} {n : Nat} {x : Value} (hl : s.heap.get? l = some (zad vs n)) (hz : vs.size ≤ 1000)
  (q : ∀ h' n', h'.get? l = some (zad (vs.push x) n') → Heap.SameBut l s.heap h' → Q .none { s with heap := h' }) : wpAny (model P w) A (call (.builtin "list.append") [.ref l, x]) Q E s := by
 refine wpAny_call_entry F.slot_list_append (show s.TypeIs (.ref l) "list" from ⟨_, hl, rfl⟩) F.entry_list_append ?_ (F.args_list_append_2 _ _);show wpAny _ _ (updateSeq l (·.push x) >>= fun _ => ret .none) _ _ s;ext bind;obtain ⟨n', e⟩ : ∃ n', Obj.mapSeq (·.push x) (zad vs n) = zad (vs.push x) n' := ⟨_, rfl⟩;refine wpAny_updateSeq (hz := by rw [sizeLine_eq]; omega) hl rfl (wpAny_pure ⟨.none, rfl, q _ n' ?_ (Heap.SameBut.update ..)⟩);rw [← e];exact get?_update_self _ hl rfl
abbrev Grp := List (Str × List Int)
def zaO (g : Grp) (k : Str) (n : Int) : Grp := if k ∈ g.map (·.1) then g.map (fun p => if p.1 = k then (p.1, p.2 ++ [n]) else p) else g ++ [(k, [n])]
def grp (ps : List (Str × Int)) : Grp := ps.foldl (fun g p => zaO g p.1 p.2) []
theorem zc5 (ps : List (Str × Int)) (k : Str) (n : Int) : grp (ps ++ [(k, n)]) = zaO (grp ps) k n := by simp [grp, foldl_append]
theorem zfF (g : Grp) (k : Str) (n : Int) : (zaO g k n).length ≤ g.length + 1 := by unfold zaO; split <;> simp
theorem zcU (ps : List (Str × Int)) : (grp ps).length ≤ ps.length := by
 have key : ∀ (l : List (Str × Int)) (g : Grp), (l.foldl (fun g p => zaO g p.1 p.2) g).length ≤ g.length + l.length := by
  intro l
  induction l with
  | nil => intro g; simp
  | cons p l ih => intro g; have := ih (zaO g p.1 p.2); have := zfF g p.1 p.2; simp only [foldl_cons, length_cons] at *; omega
 simpa [grp] using key ps []
theorem zfn {g : Grp} {k : Str} {n : Int} {m : Nat} (h : ∀ p ∈ g, p.2.length ≤ m) (hm : 1 ≤ m + 1) : ∀ p ∈ zaO g k n, p.2.length ≤ m + 1 := by
 intro p hp;unfold zaO at hp
 split at hp
 ·obtain ⟨q, hq, rfl⟩ := mem_map.mp hp
  have := h q hq
  split <;> simp <;> omega
 ·rcases mem_append.mp hp with hp | hp
  ·have := h p hp; omega
  ·rw [mem_singleton.mp hp]; simp
theorem zcS (ps : List (Str × Int)) : ∀ p ∈ grp ps, p.2.length ≤ ps.length := by
 have key : ∀ (l : List (Str × Int)) (g : Grp) (m : Nat), (∀ p ∈ g, p.2.length ≤ m) → ∀ p ∈ l.foldl (fun g p => zaO g p.1 p.2) g, p.2.length ≤ m + l.length := by
  intro l
  induction l with
  | nil => intro g m h; simpa using h
  | cons q l ih => intro g m h p hp; have := ih (zaO g q.1 q.2) (m + 1) (zfn h (by omega)) p hp; simp only [length_cons]; omega
 have := key ps [] 0 (fun _ q => nomatch q);simpa [grp] using this
structure GL (b : Addr) (h : Heap) (kvs : List (Str × Value)) (g : Grp) : Prop where
 len : kvs.length = g.length
 at_ : ∀ (i : Nat) (k : Str) (v : Value), kvs[i]? = some (k, v) → ∃ ns a, g[i]? = some (k, ns) ∧ v = .ref a ∧ IL b h a ns
 inj : ∀ (i j : Nat) (k k' : Str) (a : Addr), kvs[i]? = some (k, .ref a) → kvs[j]? = some (k', .ref a) → i = j
theorem GL.nil (b : Addr) (h : Heap) : GL b h [] [] := ⟨rfl, fun i k v e => by simp at e, fun i j k k' a e => by simp at e⟩
section
variable {g : Grp} {n : Int}
theorem GL.keys (x : GL b h kvs g) : kvs.map (·.1) = g.map (·.1) := by
 refine List.ext_getElem? fun i => ?_;rw [getElem?_map, getElem?_map];cases e : kvs[i]? with
 | none =>
  have : g[i]? = none := by rw [List.getElem?_eq_none_iff] at e ⊢; rw [← x.len]; exact e
  rw [this]; rfl
 | some p =>
  obtain ⟨ns, a, e', _⟩ := x.at_ i p.1 p.2 e;rw [e']; rfl
theorem GL.ext (x : GL b h kvs g) (e : Ext mod h h') (hm : ∀ a ∈ mod, a < b ∨ h.get? a = none) : GL b h' kvs g := by
 refine ⟨x.len, fun i k v q => ?_, x.inj⟩;obtain ⟨ns, a, e1, e2, e3⟩ := x.at_ i k v q;refine ⟨ns, a, e1, e2, e3.ext e fun z => ?_⟩;rcases hm a z with z | z
 ·exact absurd e3.1 (not_le.mpr z)
 ·obtain ⟨_, _, _, ho, _⟩ := e3
  rw [z] at ho;cases ho
theorem GL.keeps (x : GL b h kvs g) (e : ∀ b o, h.get? b = some o → h'.get? b = some o) : GL b h' kvs g := x.ext (.of_keeps e) fun _ q => nomatch q
theorem GL.sb (x : GL b h kvs g) {c : Addr} (e : Heap.SameBut c h h') (hc : ∀ (i : Nat) (k : Str) (a : Addr), kvs[i]? = some (k, .ref a) → a ≠ c) : GL b h' kvs g :=
 ⟨x.len, fun i k v q => by
  obtain ⟨ns, a, e1, e2, e3⟩ := x.at_ i k v q;subst e2;exact ⟨ns, a, e1, rfl, e3.sb e (hc i k a q)⟩, x.inj⟩
theorem GL.there (x : GL b h kvs g) (hv : valueAt kvs k = some u) : ∃ (i : Nat) (ns : List Int) (a : Addr), kvs[i]? = some (k, .ref a) ∧ g[i]? = some (k, ns) ∧ u = .ref a ∧ IL b h a ns := by
 unfold valueAt at hv;obtain ⟨p, hp, rfl⟩ := map_eq_some_iff.mp hv;obtain ⟨i, hi, hpi⟩ := List.mem_iff_getElem.mp (mem_of_find?_eq_some hp);have hk : p.1 = k := by simpa using find?_some hp
 have e : kvs[i]? = some (k, p.2) := by rw [getElem?_eq_getElem hi, hpi, ← hk]
 obtain ⟨ns, a, e1, e2, e3⟩ := x.at_ i k p.2 e;exact ⟨i, ns, a, by rw [e, e2], e1, e2, e3⟩
theorem GL.push (x : GL b h kvs g) (hk : k ∉ kvs.map (·.1)) (ha : IL b h a [n]) (hf : ∀ (i : Nat) (k' : Str) (a' : Addr), kvs[i]? = some (k', .ref a') → a' ≠ a) : GL b h (kvs ++ [(k, .ref a)]) (zaO g k n) := by
 have e0 : zaO g k n = g ++ [(k, [n])] := by unfold zaO; rw [if_neg (by rw [← x.keys]; exact hk)]
 rw [e0];refine ⟨by simp [x.len], fun i k' v e => ?_, fun i j k₁ k₂ a' e1 e2 => ?_⟩
 ·rcases lt_or_ge i kvs.length with z | z
  ·rw [getElem?_append_left z] at e
   obtain ⟨ns, a', e1, e2⟩ := x.at_ i k' v e;exact ⟨ns, a', by rw [getElem?_append_left (by rw [← x.len]; exact z)]; exact e1, e2⟩
  ·rw [getElem?_append_right z] at e
   cases q : i - kvs.length with
   | succ m => rw [q] at e; simp at e
   | zero =>
    rw [q] at e;simp at e;obtain ⟨rfl, rfl⟩ := e;exact ⟨[n], a, by rw [getElem?_append_right (by rw [← x.len]; exact z), ← x.len, q]; rfl, rfl, ha⟩
 ·have key : ∀ {i : Nat} {k' : Str} {a' : Addr}, (kvs ++ [(k, Value.ref a)])[i]? = some (k', .ref a') → (kvs[i]? = some (k', .ref a')) ∨ (i = kvs.length ∧ a' = a) := by
   intro i k' a' e;rcases lt_or_ge i kvs.length with z | z
   ·rw [getElem?_append_left z] at e; exact .inl e
   ·rw [getElem?_append_right z] at e
    cases q : i - kvs.length with
    | succ m => rw [q] at e; simp at e
    | zero => rw [q] at e; simp at e; exact .inr ⟨by omega, e.2.symm⟩
  rcases key e1 with z1 | ⟨z1, w1⟩ <;> rcases key e2 with z2 | ⟨z2, w2⟩
  ·exact x.inj i j k₁ k₂ a' z1 z2
  ·exact absurd w2 (hf _ _ _ z1)
  ·exact absurd w1 (hf _ _ _ z2)
  ·rw [z1, z2]
theorem GL.app (x : GL b h kvs g) (nd : (kvs.map (·.1)).Nodup) {i : Nat} {ns : List Int} (ei : kvs[i]? = some (k, .ref a)) (gi : g[i]? = some (k, ns)) (sb : Heap.SameBut a h h') (ha : IL b h' a (ns ++ [n])) : GL b h' kvs (zaO g k n) := by
 have hk : k ∈ g.map (·.1) := by rw [← x.keys]; exact mem_map_of_mem (f := (·.1)) (mem_of_getElem? ei)
 have e0 : zaO g k n = g.map (fun p => if p.1 = k then (p.1, p.2 ++ [n]) else p) := by unfold zaO; rw [if_pos hk]
 rw [e0];refine ⟨by simp [x.len], fun j k' v e => ?_, x.inj⟩;obtain ⟨ns', a', e1, rfl, e3⟩ := x.at_ j k' v e
 by_cases hij : j = i
 ·subst hij
  rw [ei] at e; cases e;rw [gi] at e1; cases e1;refine ⟨ns ++ [n], a, ?_, rfl, ha⟩;rw [getElem?_map, gi]; simp
 ·have hkk : k' ≠ k := by
   rintro rfl;obtain ⟨l1, q1⟩ := List.getElem?_eq_some_iff.mp e;obtain ⟨l2, q2⟩ := List.getElem?_eq_some_iff.mp ei;refine hij ((List.getElem_inj (xs := kvs.map (·.1)) (i := j) (j := i) (h₀ := by rw [length_map]; exact l1) (h₁ := by rw [length_map]; exact l2) nd).mp ?_);rw [getElem_map, getElem_map, q1, q2]
  have haa : a' ≠ a := fun q => hij (x.inj j i k' k a (by rw [e, q]) ei);refine ⟨ns', a', ?_, rfl, e3.sb sb haa⟩;rw [getElem?_map, e1]; simp [hkk]
end
end
section
theorem Me.own (D : Me mod h₀ h L m []) (sb : Heap.SameBut a h h') (there : ∃ o, h'.get? a = some o) (off : a ∈ mod ∨ h₀.get? a = none) (ne : L ≠ a) : Me mod h₀ h' L m [] :=
 ⟨D.ext.trans (.sameBut sb there) fun b q => by rw [mem_singleton.mp q]; exact off, D.ns.sameBut sb ne, fun _ q => (nomatch q), nodup_nil, fun _ q => (nomatch q), fun _ q => (nomatch q), D.offL⟩
theorem Me.ownE (D : Me mod h₀ h L m []) (he : Heap.ExtBut a h h') (off : h₀.get? a = none) (ne : L ≠ a) : Me mod h₀ h' L m [] := by
 have na : ∀ {b o}, h₀.get? b = some o → b ≠ a := fun {b o} e q => by rw [q, off] at e; cases e
 refine ⟨⟨fun b o e n => ?_, fun b o e => ?_⟩, ?_, fun _ q => (nomatch q), nodup_nil, fun _ q => (nomatch q), fun _ q => (nomatch q), D.offL⟩
 ·rcases D.ext.keep b o e n with q | ⟨ht, ps, more, rfl, q, kq⟩
  ·exact .inl (he b o (na e) q)
  ·exact .inr ⟨ht, ps, more, rfl, he b _ (na e) q, kq⟩
 ·obtain ⟨o', q⟩ := D.ext.there b o e
  exact ⟨o', he b o' (na e) q⟩
 ·obtain ⟨o, es, ep, e, r⟩ := D.ns
  exact ⟨o, es, ep, he L o ne e, r⟩
abbrev zan (p : Str × Int) : PyData := .tuple [.str p.1, .int p.2]
section
theorem zbn (X : DD w h x (.type "dict") none kvs es ep) (hx : (x == sysModules) = false) (hz : kvs.length ≤ 1000)
  (q1 : ∀ u, valueAt kvs k = some u → Q u ⟨h, g, d, t + 1, os⟩)
  (q2 : k ∉ kvs.map (·.1) → ∀ h' es' ep', DD w h' x (.type "dict") none (kvs ++ [(k, v)]) es' ep' → Heap.SameBut x h h' → Q v ⟨h', g, d, t + 1, os⟩) :
  wpAny (model P w) A (call (.builtin "dict.setdefault") [.ref x, .str k tk, v]) Q E ⟨h, g, d, t, os⟩ := by
 unhygienic
 revert hen w A E h g d t os x k tk v kvs es ep Q;have hI := X.at_;have hT : (⟨h, g, d, t, os⟩ : Shared).TypeIs (.ref x) "dict" := ⟨_, hI, rfl⟩;refine wpAny_call_entry F.slot_dict_setdefault hT F.entry_dict_setdefault ?_ (F.args_dict_setdefault_3 _ _ _);have L : Looks (model P w) h (typeOf (.ref x)) (.type "dict") := (Looks.ld hI).andThen .now;unfold Builtin.«dict.setdefault»
 repeat (first | (show wpAny _ _ (dictSetDefault _ _ _) _ _ _; refine zbz (s := ⟨h, g, d, t, os⟩) X hz (fun u hu => ?_) (fun hn h' es' ep' D sb => ?_)) | simp -iota only [hx, false_eq_true, if_false] | lk)
 ·exact ⟨_, rfl, q1 u hu⟩
 ·exact wpAny_pure ⟨_, rfl, q2 hn h' es' ep' D sb⟩
end
theorem zhO (w : World) : isNotIn (KK w) "list" 437 = true := by kernel_rfl
theorem zbF {it i : Addr} (I : h.IsListIter it r i) (l : h.IsList a vs) : a ≠ it := by
 rintro rfl;obtain ⟨o, ho, hc, _⟩ := I;obtain ⟨o', ho', hc', _⟩ := l;rw [ho] at ho'; cases ho'; rw [hc] at hc'; exact nomatch hc'
theorem zfh {d : Addr} {C : Value} {dx : Option Addr} (D : DD w h d C dx kvs es ep) (l : h.IsList a vs) : a ≠ d := by
 rintro rfl;obtain ⟨o', ho', hc', n, hd'⟩ := l;rw [D.at_] at ho'; cases ho'; exact nomatch hd'
theorem zcB (n : h.Ns L m) (l : h.IsList a vs) : L ≠ a := by
 rintro rfl;obtain ⟨o, es, ep, ho, hd, _⟩ := n;obtain ⟨o', ho', hc', n', hd'⟩ := l;rw [ho] at ho'; cases ho'; rw [hd] at hd'; exact nomatch hd'
theorem zbG {it i d : Addr} {C : Value} {dx : Option Addr} (I : h.IsListIter it r i) (D : DD w h d C dx kvs es ep) : d ≠ it := by
 rintro rfl;obtain ⟨o, ho, hc, hd⟩ := I;rw [D.at_] at ho; cases ho; exact nomatch hd
theorem GL.sb' {g : Grp} (x : GL b h kvs g) {c : Addr} (e : Heap.SameBut c h h') (hc : ∀ a vs, h.IsList a vs → a ≠ c) : GL b h' kvs g := x.sb e fun j k a q => by
 obtain ⟨_, a', _, e', il⟩ := x.at_ j k _ q;cases e';obtain ⟨vs', hl'⟩ := il.isList;exact hc _ _ hl'
theorem zgt {A : Around} {ep : Addr} {es : Array DictEntry} : ∀ (hA : Rm 500 A) (hh : A.handled = none) (T : TopH w s.heap) (I : DD w s.heap x (.ref 437) (some dx) [] es ep) (Io : s.heap.get? dx = some emptyDict) (hl : LsAt b0 s.heap r vs (ps.map zan)) (hz : ps.length ≤ 8) (hlow : 604 ≤ x) (hR : ∀ h' tk kvs es ep, Ext [x] s.heap h' → DD w h' x (.ref 437) (some dx) kvs es ep → GL s.heap.objs.size h' kvs (grp ps) → R (.ok (.ret .none)) ⟨h', s.gens, s.drawn, tk, s.os⟩), codeAny (model P w) A (.call (.ref 264) ⟨[.ref x, .ref r], []⟩) R s := by
 unhygienic
 revert hen w A s R x dx r b0 ep es vs ps;refine zaW [(Str.ofString "self", .ref x), (Str.ofString "mapping", .ref r)] hA T (by rfl) (by rfl) (by rfl) (by rfl) (binds_K T.K rfl (by rfl) rfl rfl rfl) (by decide) (locs rfl) fun h₁ D hA' hh' => ?_;replace hh' := hh'.trans hh;generalize hA1 : A.deeper _ = A₁ at hA' hh' ⊢;clear hA1;revert hen h₁ A₁;refine zeD fun Q0 E0 hQ => ?_;have T1 := D.top T (by simp);have hl1 := hl.ext D.ext (by simp);ext o.ks_wpAt_execs_cons;refine ks_wpAt_If (wpAt_of_wpAny ?_);ext isTrue_Compare1;refine zaa (Me.ns (by assumption)) (by first | assumption | rfl) ?_;ext Constant_none o.is_none truthy_bool;rw [if_neg (show ¬ ((Value.ref r == Value.none) = true) from Bool.false_ne_true)];ext o.ks_wpAt_execs_cons;refine ks_wpAt_If (wpAt_of_wpAny ?_);ext o.isTrue_plain Call_NameR;refine zae (by assumption) rfl rfl rfl (by boot_by_name) (by decide) ?_;ext o.call_bi items_cons;refine zaa (Me.ns (by assumption)) (by first | assumption | rfl) ?_;ext items_cons;refine zaj (by assumption) rfl (by rfl) ?_;ext items_nil;have ol : ∃ o, h₁.get? r = some o ∧ o.cls = .type "list" := let ⟨o, ho, hc, _⟩ := hl1.ls; ⟨o, ho, hc⟩
 refine isn_call (P := fun h => ∃ o, h.get? r = some o ∧ o.cls = .type "list") T1.K (fun M => let ⟨o, ho, hc⟩ := ol; hc ▸ (Looks.ld ho).andThen .now) (zhO w) (fun e => nomatch e) ol list_cls ?_;ext truthy_bool;rw [if_neg Bool.false_ne_true];ext o.ks_wpAt_execs_cons;refine ks_wpAt_If (wpAt_of_wpAny ?_);ext o.isTrue_plain Call_NameR;refine zae (by assumption) rfl rfl rfl (by boot_by_name) (by decide) ?_;ext o.call_bi items_cons;refine zaa (Me.ns (by assumption)) (by first | assumption | rfl) ?_;ext items_cons;refine zae (by assumption) rfl rfl rfl (by boot_by_name) (by decide) ?_;ext items_nil;refine call_isinstance (isinstance_false_list (by decide) (by rfl) (by rw [isSubtype_type]; kernel_rfl)) ⟨ol, ?_⟩;ext truthy_bool;rw [if_neg Bool.false_ne_true];refine ks_wpAt_execs_cons (wpAt_of_wpAny ?_);ext Assign_Name Dict_empty;have Dd := DD.new (w := w) h₁;have ltm : 604 ≤ h₁.objs.size := le_trans T.low (le_of_lt D.ns.lt);have nL : s.heap.objs.size ≠ h₁.objs.size := ne_of_lt D.ns.lt;have ftm : s.heap.get? h₁.objs.size = none := D.fresh;replace D := D.call (Ext.push h₁ { cls := .type "dict", data := .dict #[] });generalize h₁.objs.size = tm at Dd nL ftm ltm ⊢;generalize h₁.push { cls := .type "dict", data := .dict #[] } = h1' at D Dd ⊢;clear T1 hl1 ol;revert hen Q0 E0 tm h1';refine wpAny_storeName_local rfl D.ns (fun h2 hn hs => ?_) rfl;replace D := D.store hn hs;replace Dd := Dd.get (hs.2 _ (Ne.symm nL));ext d;clear hn hs;refine ks_wpAt_execs_cons (wpAt_of_wpAny (za5 fun Q1 E1 h1 => ?_));revert hen h2 Q1 E1;ext For;refine zaa (Me.ns (by assumption)) (by first | assumption | rfl) ?_;have hl2 := hl.ext D.ext (by simp);refine wpAny_pyIter_list hl2.ls ?_;have hit : (h2.push { cls := .type "list_iterator", data := .fields #[.ref r, .int 0 0] }).IsListIter h2.objs.size r 0 := ⟨_, get?_push_size _ rfl, rfl, rfl⟩;have fit : s.heap.get? h2.objs.size = none := D.fresh;have nit : s.heap.objs.size ≠ h2.objs.size := ne_of_lt D.ns.lt;replace Dd := Dd.keeps fun b o e => get?_push_of_some { cls := .type "list_iterator", data := .fields #[.ref r, .int 0 0] } e;replace D := D.call (Ext.push h2 { cls := .type "list_iterator", data := .fields #[.ref r, .int 0 0] });generalize h2.objs.size = it at hit fit nit ⊢;generalize h2.push { cls := .type "list_iterator", data := .fields #[.ref r, .int 0 0] } = h3 at D Dd hit ⊢;ext d;clear hl2;revert hen it h3;refine opq (p := fun (n : Nat) (s' : Shared) => ∃ i h' tk m kvs es ep, n + i = ps.length ∧ s' = ⟨h', s.gens, s.drawn, tk, s.os⟩ ∧ Me [] s.heap h' s.heap.objs.size m [] ∧ m "self" = some (.ref x) ∧ m "tmp" = some (.ref tm) ∧
  h'.IsListIter it r i ∧ DD w h' tm (.type "dict") none kvs es ep ∧ GL s.heap.objs.size h' kvs (grp (ps.take i))) fun I' hin hout => ?_
 revert hen I';refine codeAny_forLoop_any I' ?_ ps.length (hin _ _ ?_)
 rotate_left
 ·exact ⟨0, h3, _, _, [], _, _, by omega, rfl, D, by rfl, by rfl, hit, Dd, GL.nil _ _⟩
 clear D Dd hit;intro n s' hI;obtain ⟨i, h', tk, m, kvs, es', ep', hn, rfl, D, ms, mt, hit, Dd, G⟩ := hout _ _ hI;clear hI;have hl3 := hl.ext D.ext (by simp);cases n with
 | zero =>
  revert hen i h' tk m kvs es' ep';refine wpAny_pyNext_list_end hh' hit hl3.ls (by rw [Array.getElem?_eq_none_iff, hl3.sz, length_map]; omega) (fun h4 he => ?_);replace D := D.ownE he fit nit;replace Dd := Dd.get (show h4.get? tm = h'.get? tm by rw [Dd.at_]; exact he _ _ (zbG hit Dd) Dd.at_);have G4 : GL s.heap.objs.size h4 kvs (grp ps) := by
   have : ps.take i = ps := take_of_length_le (by omega);rw [this] at G;revert hen h4;refine ⟨G.len, fun j k v q => ?_, G.inj⟩;obtain ⟨ns, a, e1, e2, hb, va, na, ea, ia⟩ := G.at_ j k v q;revert hen j k v ns a va na;exact ⟨ns, a, e1, e2, hb, va, na, he _ _ (zbF hit ⟨_, ea, rfl, na, rfl⟩) ea, ia⟩
  clear he hit hl3 G;ext d;revert hen h4;ext execs_nil;refine h1 _ _ ?_;ext o.ks_wpAt_execs_cons o.ks_wpAt_Expr_any;have I4 := I.ext D.ext rfl (by simp);have J4 : Inst h4 x 437 dx emptyDict es ep := ⟨I4.at_, D.ext.get Io rfl (by simp)⟩;have T4 := D.top T (by simp);refine zav (x := x) (C := 437) (D := 437) (id := "dict.__init__") (BT := "method-wrapper") T4 D.ns J4.i (by rfl) rfl (by rfl) ms (by rfl) rfl (by rfl) (by rfl) (by rfl) (by rfl) rfl (by kernel_rfl) (by rfl) (by kernel_rfl) (by kernel_rfl)
   (.inl ⟨zdN, rfl⟩) rfl rfl rfl rfl rfl rfl rfl rfl rfl (by decide) (fun q h5 nq hq k => ?_)
  have fq : s.heap.get? q = none := D.ext.fresh nq;replace D := D.call (.of_keeps k);replace I4 := I4.keeps k;replace Dd := Dd.keeps k;replace G4 := G4.keeps k;replace T4 : TopH w h5 := T4.ext (.of_keeps k) (by simp);ext d;clear J4 nq;revert hen q h5;refine zdo (x := x) (T := "method-wrapper") (id := "dict.__init__") (.inl rfl) ?_;ext items_cons;refine zaa D.ns mt ?_;ext items_nil;refine ⟨hq, ?_⟩;ext call;refine zap (.inl rfl) hq (zdw _ _) (fun _ => Code.quiet_builtin _ (by decide +kernel)) zc9 ?_;have xtm : x ≠ tm := fun e => by have z := Dd.at_; rw [← e, I4.at_] at z; cases z
  refine zf2 T4.K I4 Dd xtm (zaP ltm) (by rw [G4.len]; have := zcU ps; omega) (by kernel_rfl) (fun h6 es6 ep6 D6 sb6 => ?_);ext d;revert hen h6 es6 ep6
  repeat (refine wpAt_of_wpAny (wpAny_execs_nil ?_); try dsimp only)
  refine hQ _ _ ?_;refine hR _ _ _ _ _ ((D.ext.mono (by simp)).trans (.sameBut sb6 ⟨_, D6.at_⟩) (by simp)) D6 (G4.sb' sb6 fun a vs l => zfh I4 l)
 | succ n =>
  have hi : i < ps.length := by omega
  obtain ⟨gi, eg, egt⟩ : ∃ gi, ps[i]? = some gi ∧ ps.take (i + 1) = ps.take i ++ [gi] := ⟨_, getElem?_eq_getElem hi, take_succ_eq_append_getElem hi⟩;obtain ⟨v, hv, rv⟩ := hl3.item (i := i) (d := zan gi) (by rw [getElem?_map, eg]; rfl);refine wpAny_pyNext_list_item hit hl3.ls hv (fun h4 hit4 sb4 => ?_);obtain ⟨ta, u, z, rfl, hb, ht, ru, rz⟩ := rv.pairE;obtain ⟨tu, rfl⟩ := ru.strE;obtain ⟨tz, rfl⟩ := rz.intE;replace D := D.own sb4 (let ⟨o, ho, _⟩ := hit4; ⟨o, ho⟩) (.inr fit) nit;have ht4 := (show IsTup h4 ta _ from let ⟨o, ho, hc, hd⟩ := ht; ⟨o, (sb4.2 ta (fun q => by obtain ⟨o', ho', hc', _⟩ := hit; rw [← q, ho] at ho'; cases ho'; rw [hc] at hc'; exact nomatch hc')).trans ho, hc, hd⟩);replace Dd := Dd.get (sb4.2 tm (zbG hit Dd));replace G := G.sb' sb4 fun a vs l => zbF hit l;clear hit ht hl3 rv sb4;revert hen i h' tk m kvs es' ep' n gi h4 ta tu tz;refine wpAny_letOwnedTupleGo_listiter hit4 ?_;refine assign_Tuple_tuple hh' ht4 rfl rfl (fun h5 he5 => ?_);dsimp only at he5 ⊢;replace D := D.call (Ext.of_extBut he5);have ext5 := Ext.of_extBut he5;replace Dd := Dd.ext ext5 rfl (by simp);replace G := G.ext ext5 (by simp);have hit5 : h5.IsListIter it r (i + 1) := let ⟨o, ho, hc, r⟩ := hit4; ⟨o, ext5.get ho (by unfold hasCls; rw [hc]) (by simp), hc, r⟩
  clear hit4 ht4 he5 ext5;ext assignInOrder_more assign_Name;refine wpAny_storeName_local rfl D.ns (fun h6 hn6 hs6 => ?_) rfl;replace G := G.sb' hs6 fun a vs l => Ne.symm (zcB D.ns l);replace D := D.store hn6 hs6;replace Dd := Dd.get (hs6.2 tm (Ne.symm nL));have hit6 := hit5.at fun o e => (hs6.2 it (Ne.symm nit)).trans e;dsimp only at hs6 ⊢;clear hn6 hs6 hit5;ext assignInOrder_more assign_Name;refine wpAny_storeName_local rfl D.ns (fun h7 hn7 hs7 => ?_) rfl;replace G := G.sb' hs7 fun a vs l => Ne.symm (zcB D.ns l);replace D := D.store hn7 hs7;replace Dd := Dd.get (hs7.2 tm (Ne.symm nL));have hit7 := hit6.at fun o e => (hs7.2 it (Ne.symm nit)).trans e;dsimp only at hs7 ⊢;clear hn7 hs7 hit6;revert hen h7;ext assignInOrder_none;refine zcg fun Q2 E2 h2 => ?_;ext Expr_any;refine wpAny_Call_method rfl rfl rfl F.plainAttrs_list F.slot_list_append F.type_list_append ?_;refine wpAny_Call_method rfl rfl rfl F.plainAttrs_dict F.slot_dict_setdefault F.type_dict_setdefault ?_;refine zaa D.ns ((if_neg (by decide)).trans ((if_neg (by decide)).trans mt)) ?_;refine ⟨⟨_, Dd.at_, rfl⟩, fun a e => by cases e; exact ⟨_, Dd.at_, rfl⟩, ?_⟩;ext o.call_bi items_cons;refine zaa D.ns ((if_neg (by decide)).trans (if_pos (by decide))) ?_;ext items_cons List items_nil;refine ⟨by simp, ?_⟩;ext items_nil;have fnl : s.heap.get? h7.objs.size = none := D.fresh;have lnl : s.heap.objs.size ≤ h7.objs.size := le_of_lt D.ns.lt;have nnl : ∀ a o, h7.get? a = some o → a ≠ h7.objs.size := fun a o q => ne_of_lt (lt_size q);have enl : (h7.push { cls := .type "list", data := .seq #[] }).get? h7.objs.size = some (zad #[] 0) := get?_push_size _ rfl;have hkv : kvs.length ≤ 8 := by rw [G.len]; have := zcU (ps.take i); rw [length_take] at this; omega
  have kp : ∀ b o, h7.get? b = some o → (h7.push { cls := .type "list", data := .seq #[] }).get? b = some o := fun b o e => get?_push_of_some _ e;have nG : ∀ (j : Nat) (k' : Str) (a' : Addr), kvs[j]? = some (k', .ref a') → a' ≠ h7.objs.size := fun j k' a' q => by
   obtain ⟨_, _, _, e', il⟩ := G.at_ j k' _ q;cases e';exact ne_of_lt il.lt
  replace G := G.keeps kp;have ndd := nnl _ _ Dd.at_;replace Dd := Dd.keeps kp;have nit7 : it ≠ h7.objs.size := let ⟨o, ho, _⟩ := hit7; nnl _ _ ho
  replace hit7 := hit7.at fun o e => kp _ _ e;have nLl : s.heap.objs.size ≠ h7.objs.size := ne_of_lt D.ns.lt;replace D := D.call (.of_keeps kp);ext d;change wpAny _ _ _ _ _ ⟨h7.push { cls := .type "list", data := .seq #[] }, _, _, _, _⟩;generalize h7.objs.size = nl at fnl lnl enl nG ndd nit7 nLl ⊢;generalize h7.push { cls := .type "list", data := .seq #[] } = h8 at enl G Dd hit7 D ⊢;clear nnl kp;have hps : ps.take (i + 1) = ps.take i ++ [gi] := by rw [egt]
  refine zbn Dd (zaP ltm) (by omega) ?_ ?_
  ·intro u hu
   obtain ⟨i', ns, a, ei, gi, rfl, il⟩ := G.there hu;obtain ⟨hba, va, na, ea, ia⟩ := id il;have haL : s.heap.objs.size ≠ a := zcB D.ns ⟨_, ea, rfl, na, rfl⟩;have haf : s.heap.get? a = none := by
    cases q : s.heap.get? a with
    | none => rfl
    | some o => exact absurd (lt_size q) (not_lt.mpr hba)
   refine ⟨⟨_, ea, rfl⟩, fun a e => by cases e; exact ⟨_, ea, rfl⟩, ?_⟩;ext o.call_bi items_cons;refine zaa D.ns ((if_pos (by decide))) ?_;ext items_nil;refine zao ea (by have := zcS (ps.take i) _ (mem_of_getElem? gi); rw [length_take] at this; have := ia_len ia; rw [length_toList] at this; dsimp only at *; omega) (fun h9 n9 e9 sb9 => ?_);dsimp only at sb9 ⊢;refine h2 _ ?_;ext execs_nil;refine ⟨n, lt_succ_self n, hin _ _ (xi7 (i + 1) h9 _ _ kvs _ _ ⟨by omega, rfl, D.own sb9 ⟨_, e9⟩ (.inr haf) haL, ?_, ?_, ?_, Dd.get (sb9.2 _ (Ne.symm (zfh Dd ⟨_, ea, rfl, na, rfl⟩))), ?_⟩)⟩
   ·exact (if_neg (by decide)).trans ((if_neg (by decide)).trans ms)
   ·exact (if_neg (by decide)).trans ((if_neg (by decide)).trans mt)
   ·exact hit7.at fun o e => (sb9.2 it (Ne.symm (zbF hit7 ⟨_, ea, rfl, na, rfl⟩))).trans e
   ·rw [hps, zc5]
    exact G.app Dd.nd ei gi sb9 ⟨hba, _, _, e9, by rw [toList_push]; exact zeE ia (.cons _ _ .nil)⟩
  ·intro hk h9 es9 ep9 D9 sb9
   dsimp only at sb9 ⊢;have e9 : h9.get? nl = some (zad #[] 0) := (sb9.2 nl (Ne.symm ndd)).trans enl;replace D := D.own sb9 ⟨_, D9.at_⟩ (.inr ftm) nL;replace G := G.sb' sb9 fun a vs l => zfh Dd l;have hit9 := hit7.at fun o e => (sb9.2 it (Ne.symm (zbG hit7 Dd))).trans e;clear Dd hit7 sb9 enl;refine ⟨⟨_, e9, rfl⟩, fun a e => by cases e; exact ⟨_, e9, rfl⟩, ?_⟩;ext o.call_bi items_cons;refine zaa D.ns ((if_pos (by decide))) ?_;ext items_nil;refine zao e9 (by simp) (fun h10 n10 e10 sb10 => ?_);dsimp only at sb10 ⊢;refine h2 _ ?_;ext execs_nil;refine ⟨n, lt_succ_self n, hin _ _ (xi7 (i + 1) h10 _ _ _ _ _ ⟨by omega, rfl, D.own sb10 ⟨_, e10⟩ (.inr fnl) nLl, ?_, ?_, ?_, D9.get (sb10.2 _ ndd), ?_⟩)⟩
   ·exact (if_neg (by decide)).trans ((if_neg (by decide)).trans ms)
   ·exact (if_neg (by decide)).trans ((if_neg (by decide)).trans mt)
   ·exact hit9.at fun o e => (sb10.2 it nit7).trans e
   ·rw [hps, zc5]
    exact (G.sb sb10 nG).push hk ⟨lnl, _, _, e10, .cons _ _ .nil⟩ nG
end
section
structure MDI (w : World) (b : Addr) (h : Heap) (x : Addr) (g : Grp) (dx : Addr) (kvs : List (Str × Value)) (es : Array DictEntry) (ep : Nat) : Prop where
 lx : b ≤ x
 ld : b ≤ dx
 dd : DD w h x (.ref 437) (some dx) kvs es ep
 own : h.get? dx = some emptyDict
 gl : GL b h kvs g
section
variable {g : Grp}
theorem MDI.ext (X : MDI w b h x g dx kvs es ep) (e : Ext mod h h') (hm : ∀ a ∈ mod, a < b ∨ h.get? a = none) : MDI w b h' x g dx kvs es ep := by
 have nm : ∀ {a o}, b ≤ a → h.get? a = some o → a ∉ mod := fun {a o} hb ho q => (hm a q).elim (fun z => absurd z (not_lt.mpr hb)) fun z => by rw [z] at ho; cases ho
 exact ⟨X.lx, X.ld, X.dd.ext e rfl (nm X.lx X.dd.at_), e.get X.own rfl (nm X.ld X.own), X.gl.ext e hm⟩
theorem MDI.inst (X : MDI w b h x g dx kvs es ep) : Inst h x 437 dx emptyDict es ep := ⟨X.dd.at_, X.own⟩
theorem MDI.mono (X : MDI w b h x g dx kvs es ep) (hb : b' ≤ b) : MDI w b' h x g dx kvs es ep :=
 ⟨le_trans hb X.lx, le_trans hb X.ld, X.dd, X.own, X.gl.len, fun i k v q => let ⟨ns, a, e1, e2, e3, r⟩ := X.gl.at_ i k v q; ⟨ns, a, e1, e2, le_trans hb e3, r⟩, X.gl.inj⟩
end
theorem zfs (hA : Rm 490 A) (hh : A.handled = none) (T : TopH w s.heap)
  (hl : LsAt b0 s.heap r vs (ps.map zan)) (hz : ps.length ≤ 8)
  (hR : ∀ h' tk x dx kvs es ep, Ext [] s.heap h' → MDI w s.heap.objs.size h' x (grp ps) dx kvs es ep → R (.ok (.ret (.ref x))) ⟨h', s.gens, s.drawn, tk, s.os⟩) :
  codeAny (model P w) A (.call (.ref 437) ⟨[.ref r], []⟩) R s := by
 obtain ⟨h, g, d, t, os⟩ := s;have X := T.K;refine zfH (zcv X (zdi w)) (looks_findIn X (show findIn (KK w) (.ref 437) "__init__" = some (some (.ref 264)) by kernel_rfl)) (fun self => bind_fn X self (by rfl)) ?_;dsimp only at T hl hR X;have k : ∀ b o, h.get? b = some o → ((h.push emptyDict).push (zba 437 h.objs.size)).get? b = some o := fun b o e => get?_push_of_some _ (get?_push_of_some _ e);have e1 : ((h.push emptyDict).push (zba 437 h.objs.size)).get? h.objs.size = some emptyDict := get?_push_of_some _ (get?_push_size _ rfl);have e2 : ((h.push emptyDict).push (zba 437 h.objs.size)).get? (h.objs.size + 1) = some (zba 437 h.objs.size) := by heap_get
 have hs : ((h.push emptyDict).push (zba 437 h.objs.size)).objs.size = h.objs.size + 2 := by rw [size_push, size_push]
 have f2 : h.get? (h.objs.size + 1) = none := by
  cases q : h.get? (h.objs.size + 1) with
  | none => rfl
  | some o => exact absurd (lt_size q) (not_lt.mpr (le_succ _))
 have ex := Ext.of_keeps k;refine zgt (x := h.objs.size + 1) (dx := h.objs.size) ((hA.under rfl).mono (by decide)) hh (T.ext ex (by simp)) ⟨e2, fun _ q => by simp at q, .nil, nodup_nil⟩ e1 (hl.ext ex (by simp)) hz (le_succ_of_le T.low) ?_;intro h' tk kvs es ep e D G;refine ⟨rfl, hR _ _ _ h.objs.size _ _ _ (ex.trans e (by simp [f2])) ⟨le_succ _, le_refl _, D, e.get e1 rfl (by simp), G.len, fun i k v q => ?_, G.inj⟩⟩;obtain ⟨ns, a, q1, q2, q3, r⟩ := G.at_ i k v q;exact ⟨ns, a, q1, q2, by dsimp only at q3; rw [hs] at q3; exact le_trans (le_add_right _ 2) q3, r⟩
end
section
theorem zgm {ep : Addr} (hA : Rm 500 A) (T : TopH w s.heap)
  (I : DD w s.heap x (.ref 560) (some dx) [] es ep) (Io : s.heap.get? dx = some od) (hc : hasCls od = true)
  (hR : ∀ h' tk, Ext [] s.heap h' → R (.ok (.ret .none)) ⟨h', s.gens, s.drawn, tk, s.os⟩) :
  codeAny (model P w) A (.call (.ref 264) ⟨[.ref x], []⟩) R s := by
 unhygienic
 revert hen w A s R x dx ep od es;refine zaW [(Str.ofString "self", .ref x), (Str.ofString "mapping", .none)] hA T (by rfl) (by rfl) (by rfl) (by rfl) (binds_K T.K rfl (by rfl) rfl rfl rfl) (by decide) (locs rfl) fun h₁ D hA' hh' => ?_;have T1 := D.top T (by simp);have I1 := I.ext D.ext rfl (by simp);have J1 : Inst h₁ x 560 dx od es ep := ⟨I1.at_, D.ext.get Io hc (by simp)⟩;ext o.ks_wpAt_execs_cons;refine ks_wpAt_If (wpAt_of_wpAny ?_);ext isTrue_Compare1;refine zaa (Me.ns (by assumption)) (by first | assumption | rfl) ?_;ext Constant_none o.is_none truthy_bool;rw [if_pos (show ((Value.none == Value.none) = true) from rfl)];ext o.ks_wpAt_execs_cons o.ks_wpAt_Expr_any;refine zav (x := x) (C := 560) (D := 437) (id := "dict.__init__") (BT := "method-wrapper") T1 D.ns J1.i (by rfl) rfl (by rfl) rfl (by rfl) rfl (by rfl) (by rfl) (by rfl) (by rfl) rfl (by kernel_rfl) (by rfl) (by kernel_rfl) (by kernel_rfl)
   (.inl ⟨zdN, rfl⟩) rfl rfl rfl rfl rfl rfl rfl rfl rfl (by decide) (fun q h5 nq hq k => ?_)
 refine zbN (x := x) (T := "method-wrapper") (id := "dict.__init__") (.inl rfl) hq ?_;ext call;have T2 : TopH w h5 := T1.ext (.of_keeps k) (by simp);refine zap (.inl rfl) hq (zg7 _) (fun _ => Code.quiet_builtin _ (by decide +kernel)) zc9 ?_;refine zf8 T2.K (I1.keeps k) (by kernel_rfl) ?_;ext d
 repeat (refine wpAt_of_wpAny (wpAny_execs_nil ?_); dsimp only)
 exact hR _ _ (D.ext.and (.of_keeps k))
theorem zfz (self : Value) : refuseLoop self "__setattr__" [.type "dict", .type "object"] = pure () := by kernel_rfl
abbrev ze1 (hsh : Int) (t : Tok) (l : Addr) (n : Nat) : Obj := { cls := .type "dict", data := .dict #[⟨hsh, .str "dicts" t, .ref l⟩] n }
theorem zhC (w : World) : ∃ cd, clsIn (KK w) 560 = some cd ∧ cd.mro = [.ref 560, .ref 216, .ref 166, .ref 437, .ref 243, .type "dict", .type "object"] ∧ cd.hasDict = true := ⟨_, by rfl, by rfl, by rfl⟩
theorem zfv {ep : Addr} {l : Addr} (T : TopH w h) (I : DD w h x (.ref 560) (some dx) [] es ep) (Io : h.get? dx = some emptyDict) (hR : ∀ h' hsh n, Heap.SameBut dx h h' → h'.get? dx = some (ze1 hsh t l n) → R (.ok (.ret .none)) ⟨h', g, d, t + 1, os⟩) :
  codeAny (model P w) A (.call (.builtin "object.__setattr__") ⟨[.ref x, .str "dicts" tk, .ref l], []⟩) R ⟨h, g, d, t, os⟩ := by
 have SF := PySem.F.store_object;have X := T.K;obtain ⟨cd, hc, hm, hd⟩ := zhC w;have hI := I.at_;have L0 : Looks (model P w) h (typeOf (.ref x)) (.ref 560) := (Looks.ld hI).andThen .now;have L1 : Looks (model P w) h (mroOf (.ref 560)) cd.mro := (looks_clsIn X hc).andThen .now;have L2 : Looks (model P w) h (isInstance (.ref x) (.type "object")) true := L0.andThen (looks_mroIn X (by kernel_rfl));have L3 : Looks (model P w) h (typeLookup (.ref 560) "dicts") none := looks_findIn X (by kernel_rfl);have L4 := looks_clsIn (M := model P w) X hc;refine codeAny_call_builtin SF.slot.plain SF.entry (@check_slot (model P w) _ _ ⟨h, g, d, t, os⟩ "object.__setattr__" "object" "__setattr__" (.ref x) [.str "dicts" tk, .ref l] [] _ SF.kind SF.split L2 (SF.args (.ref x) (.str "dicts" tk) (.ref l)) ?_);rw [osa_eq, refuse_eq];refine wpAny_bind (wpAny_bind (L0.at (wpAny_bind (L1.at ?_))));rw [hm, refuseLoop_ref, refuseLoop_ref, refuseLoop_ref, refuseLoop_ref, refuseLoop_ref, zfz];refine wpAny_pure (wpAny_bind (L0.at (wpAny_bind (L3.at (wpAny_bind (wpAny_pure ?_))))));ext d;unfold Builtin.ObjectAttr.storeInOwnDict
 repeat (first | simp -iota only [hd] | lk)
 obtain ⟨n, e⟩ : ∃ n, Obj.putName (Str.ofString "dicts") (if (Str.ofString "dicts").cps.isEmpty = true then 0 else reduceHash ((model P w).w.params.strHash (Str.ofString "dicts").cps)) (Value.str (Str.ofString "dicts") t) (Value.ref l) emptyDict = ze1 _ t l n := ⟨1, rfl⟩;show wpAny _ _ (updatePart dx _ _) _ _ _;refine wpAny_updatePart Io ?_;have e' := get?_update_self (h := h) (Obj.putName (Str.ofString "dicts") (if (Str.ofString "dicts").cps.isEmpty = true then 0 else reduceHash ((model P w).w.params.strHash (Str.ofString "dicts").cps)) (Value.str (Str.ofString "dicts") t) (Value.ref l)) Io (by rw [e]; rfl);rw [e] at e';refine wpAny_bind (wpAny_lookBehind e' (pastItsLine_dict (by simp [sizeLine_eq])) (wpAny_pure ?_));exact hR _ _ n (Heap.SameBut.update ..) e'
section
variable {f2 : Addr} {of : Obj} {cl : Value}
abbrev zh9 (f x : Addr) : Obj := { cls := .type "method", data := .fields #[.ref f, .ref x] }
theorem zcX {name : Str} {apos pos : Pos} {args : List Expr} {pl : Sem Bool} {Q : Value → Shared → Prop} (T : TopH w s.heap) (n : s.heap.Ns env.locals m) (I : InstAt s.heap x ox C odx)
  (hf : (KK w).lookup f = some of) (hfd : of.data = .func fd) (hp : (fd.params.posonlyargs ++ fd.params.args).head? = some ar) (hv : m ar.arg = some (.ref x))
  (hcode : (KK w).lookup cda = some oc) (hoc : oc.data = .fields vs) (hvs : vs[2]? = some (.str file tf)) (hfile : ((P.main.file : Str) == file) = true)
  (hcell : (KK w).lookup cc = some ⟨cl, cld, .cell (some (.ref D)), csl⟩) (hD : (KK w).lookup D = some oD) (hDt : oD.data = .cls cdD) (hsub : mroIn (KK w) C (.ref D) = some true)
  (hcC : clsIn (KK w) C = some cdC) (hal : alongIn (KK w) name (zbA (KK w) C D) = some (some (.ref f2))) (hty : typeIn (KK w) (.ref f2) = some (.type "function"))
  (hg : env.globals = mainGlobals) (hb : env.builtins = builtinsNs) (hfu : env.func = some f) (hco : env.code = .ref cda) (hcl : env.cells.lookup ("__class__" : Str) = some cc) (hk : env.scope.kind = .function)
  (hks : env.kindOf "super" = some .globalImplicit) (hkc : env.kindOf "__class__" = some .free) (hka : env.kindOf ar.arg = some .local) (hat : (name == ("__class__" : Str)) = false)
  (h : ∀ q h', s.heap.get? q = none → h'.get? q = some (zh9 f2 x) → (∀ b o, s.heap.get? b = some o → h'.get? b = some o) →
   wpAny (model P w) A (callWith pos (.ref q) [] (backTo pos (starEach args env)) []) Q E { s with heap := h', toks := s.toks + 1 })
  (he : eval (.Call (.Attribute (.Call (.Name "super" p0) [] [] p1) name apos) args [] pos) env = (do
   let ov ← attributeBase (.Call (.Name "super" p0) [] [] p1) name env (eval (.Call (.Name "super" p0) [] [] p1) env)
   standAt apos.atName
   let (f, first) ← holding [ov] (getMethod ov name pl)
   callWith pos f first (backTo pos (starEach args env)) []) := by rfl) :
  PySem.wpAt (model P w) A (.func body env) (eval (.Call (.Attribute (.Call (.Name "super" p0) [] [] p1) name apos) args [] pos) env) Q E s := by
 refine ks_wpAt_MethodCall (zbL T n I hf hfd hp hv hcode hoc hvs hfile hcell hD hDt hsub hg hb hfu hco hcl hk hks hkc hka hat fun h' e k => ?_) he;obtain ⟨hh, g, d, t, os⟩ := s;have X : (KK w).In h' := fun b o e => k b o (T.K b o e);have hC : Looks (model P w) h' (mroOf (.ref C)) cdC.mro := (looks_clsIn X hcC).andThen .now;have hl : (cdC.mro.dropWhile (· != .ref D)).drop 1 = zbA (KK w) C D := by unfold zbA; rw [hcC]
 have hxC : x ≠ C := ks_ne T.K I hcC;have nq : hh.get? h'.objs.size = none := by
  cases q : hh.get? h'.objs.size with
  | none => rfl
  | some o => exact absurd (lt_size (k _ _ q)) (lt_irrefl _)
 obtain ⟨o2, ho2, hc2⟩ := map_eq_some_iff.mp (show ((KK w).lookup f2).map (·.cls) = some (.type "function") from hty);exact ks_wpAny_getMethod_super e (looks_opaque X (zbX w)) hC hl X hal (X _ _ ho2) hc2 hxC hat (h _ _ nq (get?_push_size _ rfl) fun b o q => get?_push_of_some _ (k b o q))
theorem zhD {q : Addr} {o2 : Obj} {fd2 : FuncData} (hf2 : (KK w).lookup f2 = some o2) (hd2 : o2.data = .func fd2) (h : Heap) (z : h.get? q = some (zh9 f2 x) ∧ TopH w h) : ∃ k, (k = Keeper.frame ∨ k = Keeper.machine ∨ k = Keeper.boundFrame) ∧ Looks (model P w) h (keeperOf (.ref q)) k := by
 refine ⟨.boundFrame, .inr (.inr rfl), fun A Q E s k y => ?_⟩;unfold keeperOf;refine wpAny_bind (wpAny_load (k _ _ z.1) ?_);ext d;show wpAny _ _ (load f2 >>= _) _ _ _;refine wpAny_bind (wpAny_load (k _ _ (z.2.K _ _ hf2)) ?_);rw [hd2];exact wpAny_pure y
theorem zhF {q : Addr} {o2 : Obj} {fd2 : FuncData} (hf2 : (KK w).lookup f2 = some o2) (hd2 : o2.data = .func fd2) (T : TopH w s.heap) (hq : s.heap.get? q = some (zh9 f2 x))
  (h : codeAny (model P w) A (.call (.ref f2) ⟨[.ref x], []⟩) (fun r s' => match r with | .ok (.ret v) => Q v s' | .ok _ => False | .error e => E e s') s) : wpAny (model P w) A (callWith pos (.ref q) [] (backTo pos (starEach [] env)) []) Q E s := by
 refine callWith_of (P := fun h => h.get? q = some (zh9 f2 x) ∧ TopH w h) rfl (zhD hf2 hd2) (evalArgs_nil3 ⟨⟨hq, T⟩, ?_⟩);refine wpAny_call (ks_codeAny_call_bound hq (codeAny_mono h fun r s' z => ?_));rcases r with e | (v | _ | _ | _) <;> first | exact z | exact z.elim
end
theorem zgh {ep : Addr} {c : Nat} (hA : Rm 490 A) (T : TopH w s.heap)
  (I : DD w s.heap x (.ref 560) (some dx) [] es ep) (Io : s.heap.get? dx = some emptyDict) (hl : s.heap.get? dl = some (zad vs c)) (hz : vs.size ≤ 100)
  (hR : ∀ h' tk l hsh t n c, Ext [dx] s.heap h' → h'.get? dx = some (ze1 hsh t l n) → h'.get? l = some (zad vs c) → s.heap.get? l = none → s.heap.objs.size ≤ l → R (.ok (.ret .none)) ⟨h', s.gens, s.drawn, tk, s.os⟩) :
  codeAny (model P w) A (.call (.ref 456) ⟨[.ref x, .ref dl], []⟩) R s := by
 refine zaW [(Str.ofString "self", .ref x), (Str.ofString "dicts", .ref dl)] hA T (by rfl) (by rfl) (by rfl) (by rfl) (binds_K T.K rfl (by rfl) rfl rfl rfl) (by decide) (locs rfl) fun h₁ D hA' hh' => ?_;have T1 := D.top T (by simp);have I1 := I.ext D.ext rfl (by simp);have J1 : Inst h₁ x 560 dx emptyDict es ep := ⟨I1.at_, D.ext.get Io rfl (by simp)⟩;ext o.ks_wpAt_execs_cons o.ks_wpAt_Expr_any;refine zcX (x := x) (C := 560) (D := 560) (f2 := 264) T1 D.ns J1.i (by rfl) rfl (by rfl) rfl (by rfl) rfl (by rfl) (by rfl) (by rfl) (by rfl) rfl (by kernel_rfl) (by rfl) (by kernel_rfl) (by rfl)
   rfl rfl rfl rfl rfl rfl rfl rfl rfl (by decide) (fun q h5 nq hq k => ?_)
 have T2 : TopH w h5 := T1.ext (.of_keeps k) (by simp);refine zhF (x := x) (f2 := 264) (by rfl) rfl T2 hq ?_;refine zgm (hA'.mono (by decide)) T2 (I1.keeps k) (k _ _ J1.own) rfl (fun h6 tk6 e6 => ?_);ext d;replace D := (D.call (.of_keeps k)).call e6;clear e6 T2 hq nq k I1 J1 T1 h5 h₁;have T6 := D.top T (by simp);have I6 := I.ext D.ext rfl (by simp);have o6 : h6.get? dx = some emptyDict := D.ext.get Io rfl (by simp);have l6 : h6.get? dl = some (zad vs c) := D.ext.get hl rfl (by simp);ext o.ks_wpAt_execs_cons;refine ks_wpAt_Assign_Attr (wpAt_of_wpAny ?_);ext Call_NameR;refine zae (by assumption) rfl rfl rfl (by boot_by_name) (by decide) ?_;ext o.call_bi;refine wpAny_mono (E := fun _ _ => False) (Q := fun v s' => ∃ u o n U tk h7, v = [Value.ref u] ∧ s' = ⟨h7, s.gens, s.drawn, tk, s.os⟩ ∧ (U = "list" ∨ U = "tuple") ∧ h7.get? u = some o ∧ o.cls = .type U ∧ o.data = .seq vs n ∧ Ext [] h6 h7) ?_ ?_ (fun _ _ z => z.elim)
 ·ext items_cons o.BoolOp_or
  refine zaa (Me.ns (by assumption)) (by first | assumption | rfl) ?_;refine wpAny_truthy_list (items := vs) ⟨_, l6, rfl, c, rfl⟩ (by omega) ?_
  by_cases hv : vs.isEmpty = true
  ·rw [hv]
   ext o.BoolOp_one o.Tuple_ items_nil newTuple items_nil;have : vs = #[] := Array.isEmpty_iff.mp hv;subst this;exact ⟨_, _, 0, "tuple", _, _, rfl, rfl, .inr rfl, get?_push_size _ rfl, rfl, rfl, .push _ _⟩
  ·have : vs.isEmpty = false := by simpa using hv
   rw [this];ext items_nil;exact ⟨dl, _, c, "list", _, h6, rfl, rfl, .inl rfl, l6, rfl, rfl, .refl _⟩
 ·rintro _ _ ⟨u, o, n, U, tk, h7, rfl, rfl, hU, ho, hc, hd, e7⟩
  refine call_list_seq u hU ho hc hd (fun h8 c' k8 e8 => ?_) (by rw [sizeLine_eq]; omega);dsimp only at k8 e8 ⊢;have fl : s.heap.get? h7.objs.size = none := (D.ext.and e7).fresh (zag _);replace D := D.call e7;have ll : s.heap.objs.size ≤ h7.objs.size := le_of_lt D.ns.lt;replace D := D.call (.of_keeps k8);generalize h7.objs.size = l at e8 fl ll ⊢;clear ho e7 k8 h7 l6 o6 I6 T6 h6;have T8 := D.top T (by simp);have I8 := I.ext D.ext rfl (by simp);have o8 : h8.get? dx = some emptyDict := D.ext.get Io rfl (by simp);refine zaa (Me.ns (by assumption)) (by first | assumption | rfl) ?_;refine set_plain T8.K (⟨I8.at_, o8⟩ : Inst h8 x 560 dx emptyDict es ep).i (by kernel_rfl) ?_;refine zfv (w := w) T8 I8 o8 (fun h9 hsh n sb9 e9 => ?_);ext d;refine wpAt_of_wpAny (wpAny_execs_nil ?_);have dl' : dx ≠ l := fun q => by rw [← q, Io] at fl; cases fl
  exact hR _ _ _ _ _ _ _ ((D.ext.mono (by simp)).trans (.sameBut sb9 ⟨_, e9⟩) (by simp)) e9 ((sb9.2 _ (Ne.symm dl')).trans e8) fl ll
end
section
def LM (w : World) (b : Addr) (h : Heap) (vs : Array Value) (gs : List Grp) : Prop := vs.size = gs.length ∧ ∀ (i : Nat) (g : Grp), gs[i]? = some g → ∃ m dx kvs es ep, vs[i]? = some (.ref m) ∧ MDI w b h m g dx kvs es ep
structure WH (w : World) (b : Addr) (h : Heap) (x : Addr) (gs : List Grp) (dx l : Addr) (hsh : Int) (t : Tok) (n c : Nat) (vs : Array Value) (es : Array DictEntry) (ep : Nat) : Prop where
 lx : b ≤ x
 ld : b ≤ dx
 ll : b ≤ l
 dd : DD w h x (.ref 560) (some dx) [] es ep
 own : h.get? dx = some (ze1 hsh t l n)
 ls : h.get? l = some (zad vs c)
 md : LM w b h vs gs
section
variable {l : Addr} {t : Tok} {n : Nat}
theorem LM.ext (X : LM w b h vs gs) (e : Ext mod h h') (hm : ∀ a ∈ mod, a < b ∨ h.get? a = none) : LM w b h' vs gs :=
 ⟨X.1, fun i g q => let ⟨m, dx, kvs, es, ep, e1, e2⟩ := X.2 i g q; ⟨m, dx, kvs, es, ep, e1, e2.ext e hm⟩⟩
theorem WH.ext (X : WH w b h x gs dx l hsh t n c vs es ep) (e : Ext mod h h') (hm : ∀ a ∈ mod, a < b ∨ h.get? a = none) : WH w b h' x gs dx l hsh t n c vs es ep := by
 have nm : ∀ {a o}, b ≤ a → h.get? a = some o → a ∉ mod := fun {a o} hb ho q => (hm a q).elim (fun z => absurd z (not_lt.mpr hb)) fun z => by rw [z] at ho; cases ho
 exact ⟨X.lx, X.ld, X.ll, X.dd.ext e rfl (nm X.lx X.dd.at_), e.get X.own rfl (nm X.ld X.own), e.get X.ls rfl (nm X.ll X.ls), X.md.ext e hm⟩
theorem WH.ext0 (X : WH w b h x gs dx l hsh t n c vs es ep) (e : Ext [] h h') : WH w b h' x gs dx l hsh t n c vs es ep := X.ext e fun _ q => nomatch q
theorem WH.inst (X : WH w b h x gs dx l hsh t n c vs es ep) : Inst h x 560 dx (ze1 hsh t l n) es ep := ⟨X.dd.at_, X.own⟩
end
theorem zdx {c : Nat} (hA : Rm 480 A) (T : TopH w s.heap)
  (hl : s.heap.get? dl = some (zad vs c)) (hm : LM w b s.heap vs gs) (hb : b ≤ s.heap.objs.size) (hz : vs.size ≤ 100)
  (hR : ∀ h' tk x dx l hsh t n c es ep, Ext [] s.heap h' → WH w b h' x gs dx l hsh t n c vs es ep → R (.ok (.ret (.ref x))) ⟨h', s.gens, s.drawn, tk, s.os⟩) :
  codeAny (model P w) A (.call (.ref 560) ⟨[.ref dl], []⟩) R s := by
 obtain ⟨h, g, d, t, os⟩ := s;have X := T.K;refine zfH (zcv X (zgu w)) (looks_findIn X (show findIn (KK w) (.ref 560) "__init__" = some (some (.ref 456)) by kernel_rfl)) (fun self => bind_fn X self (by rfl)) ?_;dsimp only at T hl hR X hm hb;have k : ∀ b o, h.get? b = some o → ((h.push emptyDict).push (zba 560 h.objs.size)).get? b = some o := fun b o e => get?_push_of_some _ (get?_push_of_some _ e);have e1 : ((h.push emptyDict).push (zba 560 h.objs.size)).get? h.objs.size = some emptyDict := get?_push_of_some _ (get?_push_size _ rfl);have e2 : ((h.push emptyDict).push (zba 560 h.objs.size)).get? (h.objs.size + 1) = some (zba 560 h.objs.size) := by heap_get
 have hs : ((h.push emptyDict).push (zba 560 h.objs.size)).objs.size = h.objs.size + 2 := by rw [size_push, size_push]
 have ex := Ext.of_keeps k;have ne : h.objs.size + 1 ≠ h.objs.size := Nat.succ_ne_self _;refine zgh (x := h.objs.size + 1) (dx := h.objs.size) ((hA.under rfl).mono (by decide)) (T.ext ex (by simp)) ⟨e2, fun _ q => by simp at q, .nil, nodup_nil⟩ e1 (k _ _ hl) hz ?_;intro h' tk l hsh t n c' e q1 q2 fl ll;have ex2 : Ext [] h h' := ex.trans e (by simp [zag]);refine ⟨rfl, hR _ _ _ h.objs.size l hsh t n c' _ _ ex2 ⟨le_trans hb (le_succ _), hb, ?_, ⟨e.get e2 rfl (by simpa using ne), fun _ q => by simp at q, .nil, nodup_nil⟩, q1, q2, hm.ext ex2 (by simp)⟩⟩;dsimp only at ll;rw [hs] at ll;exact le_trans hb (le_trans (le_add_right _ 2) ll)
end
section
structure Fs (A : Around) (h : Heap) (l : List Env) : Prop where
 fr : A.frames = some l
 each : ∀ env ∈ l, env.scope.kind ≠ .module ∧ ∃ L m, env.frame = some L ∧ h.Ns L m ∧ 604 ≤ L
abbrev fa (l : List Env) : List Addr := l.filterMap (·.frame)
structure FExt (F : List Addr) (h h' : Heap) : Prop where
 ext : Ext F h h'
 ns : ∀ L ∈ F, ∀ m, h.Ns L m → h'.Ns L m
section
theorem FExt.trans (x : FExt F h h') (y : FExt F h' h'') : FExt F h h'' := ⟨x.ext.trans y.ext fun _ q => .inl q, fun L q m n => y.ns L q m (x.ns L q m n)⟩
theorem FExt.refl (F : List Addr) (h : Heap) : FExt F h h := ⟨(Ext.refl h).mono fun _ q => (nomatch q), fun _ _ _ n => n⟩
theorem FExt.of (x : Ext [] h h') : FExt F h h' := ⟨x.mono fun _ q => (nomatch q), fun _ _ _ n => zaA x n not_mem_nil⟩
theorem Fs.ext (x : Fs A h l) (y : FExt (fa l) h h') : Fs A h' l := ⟨x.fr, fun env he => by
 obtain ⟨hk, L, m, hf, n, hl⟩ := x.each env he;exact ⟨hk, L, m, hf, y.ns L (List.mem_filterMap.mpr ⟨env, he, hf⟩) m n, hl⟩⟩
theorem Fs.ext0 (x : Fs A h l) (y : Ext [] h h') : Fs A h' l := x.ext (.of y)
theorem Fs.deeper (x : Fs A h l) (hk : env.scope.kind ≠ .module) (hf : env.frame = some L) (n : h.Ns L m) (hlow : 604 ≤ L) (he : (A.deeper env).frames = A.frames.map (env :: ·) := by rfl) : Fs (A.deeper env) h (env :: l) :=
 ⟨by rw [he, x.fr]; rfl, fun e q => by
  rcases mem_cons.mp q with rfl | q
  ·exact ⟨hk, L, m, hf, n, hlow⟩
  ·exact x.each e q⟩
theorem Fs.call {n : Nat} (x : Fs A h l) (_ : Rm n (A.deeper (callEnv fd L a))) (n : h.Ns L m) (hlow : 604 ≤ L) (hk : fd.scope.kind = .function := by rfl) : Fs (A.deeper (callEnv fd L a)) h (callEnv fd L a :: l) :=
 x.deeper (by show fd.scope.kind ≠ _; rw [hk]; decide) rfl n hlow
theorem Fs.same {A' : Around} (x : Fs A h l) (e : A'.frames = A.frames) : Fs A' h l := ⟨by rw [e, x.fr], x.each⟩
theorem Fs.mem (x : Fs A h l) (q : L ∈ fa l) : (∃ m, h.Ns L m) ∧ 604 ≤ L := by
 obtain ⟨env, he, hf⟩ := List.mem_filterMap.mp q;obtain ⟨_, L', m, hf', n, hl⟩ := x.each env he;rw [hf] at hf'; cases hf';exact ⟨⟨m, n⟩, hl⟩
def zaR (h : Heap) (l : List Env) : Heap := hideAll h (fa l)
theorem Fs.fun (x : Fs A h l) : h.FunFrames (zaR h₀ l) l := by
 have key : ∀ l' : List Env, (∀ env ∈ l', env ∈ l) → h.FunFrames (zaR h₀ l) l' := by
  intro l'
  induction l' with
  | nil => intro _; trivial
  | cons env r ih =>
   intro hs;obtain ⟨hk, L, m, hf, n, _⟩ := x.each env (hs env (.head _));obtain ⟨o, es, ep, ho, hd, _⟩ := n;exact ⟨hk, ⟨L, o, hf, hideAll_none _ (List.mem_filterMap.mpr ⟨env, hs env (.head _), hf⟩), ho, fun vs q => by rw [hd] at q; cases q⟩, ih fun e q => hs e (.tail _ q)⟩
 exact key l fun _ q => q
theorem FExt.of_rest (x : Fs A h l) (k : (zaR h l).StaysIn h') (u : h.UpToSlots h') : FExt (fa l) h h' := by
 refine ⟨⟨fun b o e n => .inl (k b o (hideAll_get _ e n)), fun b o e => ?_⟩, fun L q m n => u.ns n⟩
 by_cases q : b ∈ fa l
 ·obtain ⟨⟨m, n⟩, _⟩ := x.mem q
  obtain ⟨o', _, _, e', _⟩ := u.ns n;exact ⟨o', e'⟩
 ·exact ⟨o, k b o (hideAll_get _ e q)⟩
theorem FExt.leave (x : Ext [] h₀ h) (y : FExt (L :: F) h h') (hL : h₀.get? L = none) : FExt F h₀ h' :=
 ⟨(x.mono (mod' := F) fun _ q => (nomatch q)).trans y.ext fun a q => by
  rcases mem_cons.mp q with rfl | q
  ·exact .inr hL
  ·exact .inl q, fun L' q m n => y.ns L' (.tail _ q) m (zaA x n not_mem_nil)⟩
theorem TopH.fext (T : TopH w h) (x : Fs A h l) (y : FExt (fa l) h h') : TopH w h' := T.ext y.ext fun a q => (x.mem q).2
end
section
variable {outer : List Env} {t : Addr}
abbrev zhU (cls : Value) (t : Addr) : Obj := { cls := cls, data := .fields #[.ref t, .none, .none, .none, .bool false, .none] }
structure Fly (h₀ : Heap) (l : List Env) (e : Addr) (cls a0 fl : Value) (h : Heap) : Prop where
 stays : (zaR h₀ l).StaysIn h
 up : h₀.UpToSlots h
 new : h₀.get? e = none
 at_ : h.TracedAtW (zaR h₀ l) e cls a0 fl
theorem zbj {l : List Addr} (q : h.get? e = none) : (hideAll h l).get? e = none := by
 cases z : (hideAll h l).get? e with
 | none => rfl
 | some o => have := of_hideAll _ z; rw [q] at this; cases this
theorem ze9 {Q : Unit → Shared → Prop} (F₀ : Fs A h₀ (env :: outer)) (k : ∀ b o, h₀.get? b = some o → s.heap.get? b = some o) (hf : env.frame = some L) (he : s.heap.get? e = some (zhU cls t)) (hen : h₀.get? e = none)
  (h : ∀ h', Fly h₀ (env :: outer) e cls (.ref t) (rawInt L) h' → Q () { s with heap := h' }) : wpAny (model P w) A (noteFrame (.ref e) env) Q E s := by
 have F : Fs A s.heap (env :: outer) := F₀.ext0 (.of_keeps k);unfold noteFrame;simp only [hf];refine wpAny_bind (wpAny_field he rfl (x := .none) rfl ?_);rw [if_neg (by decide)];refine wpAny_entryW (base := zaR h₀ (env :: outer)) F.fr F.fun hf he (fun b o q => k b o (of_hideAll _ q)) (zbj hen) rfl (by show 1 < 6; decide) (a0 := .ref t) rfl fun h' z => ?_;obtain ⟨z1, z2, z3, z4⟩ := z;exact h h' ⟨z1, fun b o q1 q2 => z4 b o (k b o q1) q2, hen, z3⟩
theorem za7 {Q : Unit → Shared → Prop} (F₀ : Fs A h₀ (env :: outer)) (hf : env.frame = some L) (z : Fly h₀ (env :: outer) e cls a0 .none s.heap)
  (h : ∀ h', Fly h₀ (env :: outer) e cls a0 (rawInt L) h' → Q () { s with heap := h' }) : wpAny (model P w) A (noteFrame (.ref e) env) Q E s := by
 have F : Fs A s.heap (env :: outer) := F₀.ext (.of_rest F₀ z.stays z.up);refine wpAny_noteFrame_onW (base := zaR h₀ (env :: outer)) F.fr F.fun hf z.at_ z.stays (zbj z.new) fun h' y => ?_;obtain ⟨z1, z2, z3, z4⟩ := y;exact h h' ⟨z1, z.up.trans z4, z.new, z3⟩
theorem zfp {Q : Unit → Shared → Prop} (F₀ : Fs A h₀ l) (z : Fly h₀ l e cls a0 fl s.heap) (h : ∀ h', Fly h₀ l e cls a0 .none h' → Q () { s with heap := h' }) :
  wpAny (model P w) A (setFlight (.ref e) none) Q E s := by
 have F : Fs A s.heap l := F₀.ext (.of_rest F₀ z.stays z.up);exact wpAny_setFlight_noneW (base := zaR h₀ l) z.stays F.fun z.at_ fun h' y1 y2 y3 y4 => h h' ⟨y1, z.up.trans fun b o q n => ⟨o.slots, y4 b o q n⟩, z.new, y3⟩
theorem Fly.fext (z : Fly h₀ l e cls a0 fl h) (F₀ : Fs A h₀ l) : FExt (fa l) h₀ h := .of_rest F₀ z.stays z.up
theorem Fly.isA (z : Fly h₀ l e cls a0 fl h) : ∃ o, h.get? e = some o ∧ o.cls = cls := z.at_.there
theorem Fly.keeps (z : Fly h₀ l e cls a0 fl h) (k : ∀ b o, h.get? b = some o → h'.get? b = some o) : Fly h₀ l e cls a0 fl h' := by
 refine ⟨fun b o q => k b o (z.stays b o q), z.up.trans (.of_keeps k), z.new, ?_⟩;obtain ⟨oe, vs, T, oT, ts, q1, q2, q3, q4, q5, q6, q7, q8⟩ := z.at_;exact ⟨oe, vs, T, oT, ts, k _ _ q1, q2, q3, q4, q5, q6, k _ _ q7, q8⟩
end
end
section
section
variable {α : Type} {c : Code}
theorem zdy {m : Sem α} {Q : Except Value α → Shared → Prop} (h : PySem.wpAt M A c m (fun a s' => Q (.ok a) s') (fun e s' => Q (.error e) s') s) : PySem.wpAt M A c m.attempt Q E s :=
 fun Γ p hc hΓ => by rw [Sem.wp_attempt]; exact h Γ p hc hΓ
theorem wpAt_Try {h₀ : ExceptHandler} {hs : List ExceptHandler} {Q : Flow → Shared → Prop}
  (h : PySem.wpAt M A c (execs body env) (fun f s₁ => match f with | .next => wpAny M A (execs orelse env) Q E s₁ | f => Q f s₁)
   (fun e s₁ => wpAny M A (noteFrame e env) (fun _ s₂ => wpAny M A (setFlight e none) (fun _ s₃ => wpAny M A (handleBy e env (h₀ :: hs)) Q E s₃) E s₂) E s₁) s) :
  PySem.wpAt M A c (exec (.Try body (h₀ :: hs) orelse [] pos) env) Q E s := by
 rw [arm_exec_Try];refine PySem.wpAt_bind (wpAt_of_wpAny (wpAny_standAt ?_));unfold tryStmt;simp -iota only [List.isEmpty_nil, if_true, List.isEmpty_cons, Bool.false_and, false_eq_true, if_false];refine PySem.wpAt_bind (zdy (ks_wpAt_mono h (fun f s₁ h₁ => ?_) fun e s₁ h₁ => ?_))
 ·cases f <;> first | exact wpAt_of_wpAny h₁ | exact wpAt_of_wpAny (wpAny_pure h₁)
 ·exact wpAt_of_wpAny (wpAny_bind (wpAny_mono h₁ (fun _ _ h₂ => wpAny_bind h₂) fun _ _ x => x))
end
theorem zb2 : entryFor table "dict.__getitem__" = some Builtin.«dict.__getitem__» := F.entry_dict_getitem
section
variable {ep : Addr}
theorem zcl {Q : Fin → Shared → Prop} (X : (KK w).In h) (I : DD w h x (.ref C) (some dx) kvs es ep) (hh : A.handled = none) (hx : (x == sysModules) = false) (hm : findIn (KK w) (.ref C) "__missing__" = some none)
  (q1 : ∀ u, valueAt kvs k = some u → Q (.done (.ret u)) ⟨h, g, d, t + 1, os⟩)
  (q2 : valueAt kvs k = none → ∀ h' e, Heap.MadeExc h h' e "KeyError" [.str k tk] → E (.ref e) ⟨h', g, d, t + 1, os⟩) :
  wpAny (model P w) A (Builtin.«dict.__getitem__» ⟨[.ref x, .str k tk], []⟩) Q E ⟨h, g, d, t, os⟩ := by
 unhygienic
 revert hen w A E h g d t os x C dx ep es k tk kvs Q;have hI := I.at_;have L : Looks (model P w) h (typeOf (.ref x)) (.ref C) := (Looks.ld hI).andThen .now;have L1 : Looks (model P w) h (typeLookup (.ref C) "__missing__") none := looks_findIn X hm;unfold Builtin.«dict.__getitem__»
 iterate 24 lk
 (show wpAny _ _ (dictGet _ _) _ _ _; refine zhl (s := ⟨h, g, d, t, os⟩) I ?_)
 cases hv : valueAt kvs k with
 | some u => exact wpAny_pure (q1 u hv)
 | none =>
  ext d;refine wpAny_bind (wpAny_missed_other hx ?_);refine wpAny_bind (L.at ?_);rw [if_pos (by simp)];ext bind;unfold callSpecial? specialOf;refine wpAny_bind (wpAny_bind (L.at (L1.at (wpAny_pure ?_))));ext d;refine wpAny_bind (wpAny_rule ?_);exact wpAny_bind (wpAny_newExc_plain plainExc_KeyError fun h' e hm => wpAny_raiseNew_none hh (q2 hv h' e hm))
end
def look (g : Grp) (k : Str) : List Int := ((g.find? fun p => decide (p.1 = k)).map (·.2)).getD []
theorem GL.look {g : Grp} (x : GL b h kvs g) (nd : (kvs.map (·.1)).Nodup) :
  (∀ u, valueAt kvs k = some u → ∃ a, u = .ref a ∧ IL b h a (Mine.look g k)) ∧ (valueAt kvs k = none → Mine.look g k = []) := by
 unhygienic
 revert hen b h kvs g k
 haveI ndg : (g.map (·.1)).Nodup := by rw [← x.keys]; exact nd
 constructor
 ·intro u hu
  obtain ⟨i, ns, a, e1, e2, rfl, il⟩ := x.there hu;refine ⟨a, rfl, ?_⟩;have : Mine.look g k = ns := by
   unfold Mine.look
   haveI hf : g.find? (fun p => decide (p.1 = k)) = some (k, ns) := by
    obtain ⟨hi, ei⟩ := List.getElem?_eq_some_iff.mp e2;rw [List.find?_eq_some_iff_getElem];refine ⟨by simp, i, hi, ei, fun j hj => ?_⟩;simp only [not_eq_true', decide_eq_false_iff_not];intro q
    haveI hjl : j < g.length := by omega
    haveI nd2 := List.pairwise_iff_getElem.mp ndg j i (by rw [length_map]; exact hjl) (by rw [length_map]; exact hi) hj
    rw [getElem_map, getElem_map, ei] at nd2;exact nd2 q
   rw [hf]; rfl
  rw [this]; exact il
 ·intro hn
  unfold Mine.look;have : g.find? (fun p => decide (p.1 = k)) = none := by
   rw [find?_eq_none];intro p hp;simp only [decide_eq_true_eq];intro q
   haveI hk : k ∈ kvs.map (·.1) := by rw [x.keys, ← q]; exact mem_map_of_mem (f := (·.1)) hp
   obtain ⟨kv, hkv, e⟩ := mem_map.mp hk;unfold valueAt at hn;rw [Option.map_eq_none_iff, find?_eq_none] at hn;exact hn kv hkv (by simpa using e)
  rw [this]; rfl
theorem zbW {g : Grp} {n : Nat} (hz : ∀ p ∈ g, p.2.length ≤ n) : (look g k).length ≤ n := by
 unfold look;cases e : g.find? fun p => decide (p.1 = k) with
 | none => simp
 | some p => exact hz p (mem_of_find?_eq_some e)
theorem zh4 : isSubtype (.type "KeyError") (.type "KeyError") = pure true := by rw [isSubtype_type]; kernel_rfl
theorem zhm : isSubtype (.type "KeyError") (.type "BaseException") = pure true := by rw [isSubtype_type]; kernel_rfl
theorem zhk : isSubtype (.type ((Manifest.find? "KeyError").elim "type" fun x => x.metatype)) (.type "tuple") = pure false := by rw [isSubtype_type]; kernel_rfl
theorem zdG {A : Around} {ep : Addr} {g : Grp} {tk : Tok} : ∀ (hA : Rm 500 A) (hh : A.handled = none) (T : TopH w s.heap) (X : MDI w b s.heap x g dx kvs es ep) (hlow : 604 ≤ x) (F : Fs A s.heap l) (hz : ∀ p ∈ g, p.2.length ≤ 100) (hR : ∀ h' tk a, FExt (fa l) s.heap h' → IL s.heap.objs.size h' a (look g k) → R (.ok (.ret (.ref a))) ⟨h', s.gens, s.drawn, tk, s.os⟩), codeAny (model P w) A (.call (.ref 305) ⟨[.ref x, .str k tk, .none], []⟩) R s := by
 unhygienic
 revert hen w A s R x dx b ep g kvs es k tk l;refine zaW [(Str.ofString "self", .ref x), (Str.ofString "key", .str k tk), (Str.ofString "kind", .none)] hA T (by rfl) (by rfl) (by rfl) (by rfl) (binds_K T.K rfl (by rfl) rfl rfl rfl) (by decide) (locs rfl) fun h₁ D hA' hh' => ?_;replace hh' := hh'.trans hh;revert hen h₁;refine zeD fun Q0 E0 hQ0 => ?_;have T1 := D.top T (by simp);have X1 := X.ext D.ext (by simp);have F1 := (F.ext0 D.ext).call hA' D.ns T.low;revert hen Q0 E0;ext o.ks_wpAt_execs_cons o.wpAt_Try o.ks_wpAt_execs_cons o.ks_wpAt_Assign_Name;refine zav (x := x) (C := 437) (D := 437) (id := "dict.__getitem__") (BT := "builtin_function_or_method") T1 D.ns X1.inst.i (by rfl) rfl (by rfl) (by rfl) (by rfl) rfl (by rfl) (by rfl) (by rfl) (by rfl) rfl (by kernel_rfl) (by rfl) (by kernel_rfl) (by kernel_rfl)
  (.inr ⟨zcL, rfl⟩) rfl rfl rfl rfl rfl rfl rfl rfl rfl (by decide) (fun q h2 nq hq kp => ?_)
 replace D := D.call (.of_keeps kp);have X2 := X1.ext (.of_keeps kp) (by simp);have T2 : TopH w h2 := T1.ext (.of_keeps kp) (by simp);replace F1 := F1.ext0 (.of_keeps kp);ext d;clear nq kp X1 T1;revert hen q h2;refine zdo (x := x) (T := "builtin_function_or_method") (id := "dict.__getitem__") (.inr rfl) ?_;ext items_cons;refine zaa (Me.ns (by assumption)) (by first | assumption | rfl) ?_;ext items_nil;refine ⟨hq, ?_⟩;ext call;refine zap (.inr rfl) hq (zcq T2.K X2.inst.i) (fun _ => Code.quiet_builtin _ (by decide +kernel)) zb2 ?_;refine zcl T2.K X2.dd hh' (zaP hlow) (by kernel_rfl) (fun u hu => ?_) (fun hn h3 e hm => ?_)
 ·obtain ⟨a, rfl, il⟩ := (X2.gl.look X2.dd.nd).1 u hu
  refine wpAny_storeName_local rfl D.ns (fun h3 hn hs => ?_) rfl;replace D := D.store hn hs;have X3 := X.ext D.ext (by simp);have T3 := D.top T (by simp);clear hn hs hq;ext d;revert hen a h3;refine wpAt_of_wpAny (wpAny_execs_nil ?_);ext d execs_nil d o.wpAt_of_wpAny execs_cons If isTrue_Compare1;refine zaa (Me.ns (by assumption)) (by first | assumption | rfl) ?_;ext Constant_none o.is_none truthy_bool;rw [if_pos (show ((Value.none == Value.none) = true) from rfl)];ext execs_cons Return_some Call_NameR;refine zae (by assumption) rfl rfl rfl (by boot_by_name) (by decide) ?_;ext o.call_bi items_cons;refine zaa (Me.ns (by assumption)) (by first | assumption | rfl) ?_;ext items_nil;obtain ⟨a', ea', il3⟩ := (X3.gl.look X3.dd.nd).1 _ hu;cases ea';obtain ⟨hb, va, na, ea, ia⟩ := id il3;have hva : va.size ≤ 100 := by have := zbW (k := k) hz; have := ia_len ia; rw [length_toList] at this; omega
  refine call_list_seq a (.inl rfl) ea rfl rfl (fun h4 c' k4 e4 => ?_) (by rw [sizeLine_eq]; omega);dsimp only at k4 e4 ⊢;refine hQ0 _ _ ?_;exact hR _ _ _ (.of (D.ext.and (.of_keeps k4))) ⟨le_of_lt D.ns.lt, va, c', e4, ia⟩
 ·have hlk := (X2.gl.look X2.dd.nd).2 hn
  obtain ⟨tt, et, -, -⟩ := hm.there;have DL : s.heap.get? s.heap.objs.size = none := zag _;revert hen h3 e tt;refine ze9 (h₀ := h2) F1 hm.keeps rfl et hm.new (fun h4 z4 => ?_);revert hen h4;refine zfp F1 z4 (fun h5 z5 => ?_);have x5 := z5.fext F1;have T5 := T2.fext F1 x5;have F5 := F1.ext x5;obtain ⟨oe, ee, ce⟩ := z5.isA;refine wpAny_handleBy_builtin (X := "KeyError") (T := "KeyError") (b := true) zhm zhk zh4 ?_;refine zae (by assumption) rfl rfl rfl (by boot_by_name) (by decide) ?_;refine ⟨rfl, ⟨oe, ee, ce⟩, ?_⟩;rw [if_pos rfl];refine zfp (F1.same rfl) z5 (fun h6 z6 => ?_);have x6 := z6.fext F1;ext execs_cons Return_some List items_nil;refine ⟨by simp, ?_⟩;have n6 : h6.Ns s.heap.objs.size _ := x6.ns _ (.head _) _ D.ns;rw [hlk] at hR;refine hQ0 _ _ ?_;exact hR _ _ _ ((FExt.leave D.ext x6 DL).trans (.of (.push _ _))) ⟨le_of_lt n6.lt, #[], 0, get?_push_size _ rfl, .nil⟩
end
section
theorem Fs.not (F : Fs A h l) (q : h.get? a = none) : a ∉ fa l := fun m => by
 obtain ⟨⟨m, o, _, _, e, _⟩, _⟩ := F.mem m;rw [q] at e; cases e
theorem Me.fcall (D : Me F h₀ h L m []) (y : FExt (L :: F) h h') : Me F h₀ h' L m [] :=
 ⟨D.ext.trans y.ext fun a q => by
  rcases mem_cons.mp q with rfl | q
  ·exact D.offL
  ·exact .inl q, y.ns L (.head _) m D.ns, fun _ q => (nomatch q), nodup_nil, fun _ q => (nomatch q), fun _ q => (nomatch q), D.offL⟩
theorem FExt.leave' (x : FExt F h₀ h) (y : FExt (L :: F) h h') (hL : h₀.get? L = none) : FExt F h₀ h' :=
 ⟨x.ext.trans y.ext fun a q => by
  rcases mem_cons.mp q with rfl | q
  ·exact .inr hL
  ·exact .inl q, fun L' q m n => y.ns L' (.tail _ q) m (x.ns L' q m n)⟩
theorem FExt.and (x : FExt F h₀ h) (y : Ext [] h h') : FExt F h₀ h' := x.trans (.of y)
theorem zfy : Manifest.canonical "dict.__getattribute__" = "object.__getattribute__" := by rw [Fast.canonicalQ_eq]; decide +kernel
theorem zfU : entryFor table "dict.__getattribute__" = some Builtin.«object.__getattribute__» := entryFor_alias (id' := "object.__getattribute__") (by rw [fastTable_eq_tree]; kernel_rfl) rfl (by rw [Fast.canonicalQ_eq]; decide +kernel) (by rw [fastTable_eq_tree]; kernel_rfl)
theorem zes : Slot "dict" "__getattribute__" "dict.__getattribute__" := .of (owner := "dict") (n := "__getattribute__") (by rw [typeLookup_type, builtinLookup_eq_fast]; kernel_rfl) (by decide +kernel) (by decide +kernel) (by decide +kernel)
 (by first | exact .inl (by decide +kernel) | exact .inr (by decide +kernel)) (by rw [isSubtype_type]; kernel_rfl)
theorem zgF (a b : Value) : argsOk "dict.__getattribute__" ⟨[a, b], []⟩ := by unfold argsOk; rw [Fast.signatureQ_eq]; kernel_rfl
theorem zg1 : builtinKind "dict.__getattribute__" = some .slot := by decide +kernel
theorem zfM : splitId "dict.__getattribute__" = some ("dict", "__getattribute__") := by decide +kernel
section
variable {od : Option Obj} {name : Str}
theorem zex {pl : Sem Bool} {Q : Value × List Value → Shared → Prop} (X : (KK w).In s.heap) (I : InstAt s.heap x ox C od) (hga : findIn (KK w) (.ref C) "__getattribute__" = some (some (.builtin "dict.__getattribute__"))) (hk : findIn (KK w) (.ref C) "__getattr__" = some none)
  (hf : findIn (KK w) (.ref C) name = some (some (.ref f))) (ht : typeIn (KK w) (.ref f) = some (.type "function")) (hs : shadowIn od name = some false) (h : Q (.ref f, [.ref x]) s) :
  wpAny (model P w) A (getMethod (.ref x) name pl) Q E s := by
 unhygienic
 revert hen w A E s x C ox od name f pl Q;unfold getMethod specialOf;refine wpAny_bind (wpAny_bind (I.type.here ((looks_findIn X hga).here ?_)));ext d;rw [zfy, if_neg (by decide)];refine wpAny_bind (wpAny_bind (I.type.here ((looks_findIn X hk).here ?_)));refine wpAny_bind (wpAny_bind (I.type.here ((looks_findIn X hf).here (wpAny_bind ((looks_typeIn X ht).here ?_)))));rw [if_neg (by decide +kernel)];refine wpAny_bind (wpAny_loadPart I.at_ ?_);have hd := I.dict;cases e : ox.dict with
 | none => exact wpAny_bind (wpAny_rule (wpAny_pure h))
 | some dx =>
  cases od with
  | none => rw [e] at hd; exact hd.elim
  | some o =>
   rw [e] at hd;obtain ⟨r, a, b⟩ := map_eq_some_iff.mp hs;refine wpAny_bind (wpAny_bind (wpAny_loadPart hd ?_));rw [nsLook_of a];ext pure;rw [b];exact wpAny_bind (wpAny_rule (wpAny_pure h))
theorem zil {expr : Bool} (X : (KK w).In s.heap) (I : InstAt s.heap x ox C od) (hga : findIn (KK w) (.ref C) "__getattribute__" = some (some (.builtin "dict.__getattribute__"))) (hk : findIn (KK w) (.ref C) "__getattr__" = some none)
  (hd : mroIn (KK w) C (.type "dict") = some true) (hf : findObj (KK w) C od name = some (.value v)) (hh : handedIn v = true) (h : Q v { s with toks := s.toks + 1 }) : wpAny (model P w) A (getAttr (.ref x) name expr) Q E s := by
 obtain ⟨hp, g, d, t, os⟩ := s;have L0 := I.type (M := model P w);have L1 := looks_findIn (M := model P w) X hga;have L2 := looks_find (M := model P w) X I hf;have L3 : Looks (model P w) hp (isInstance (.ref x) (.type "dict")) true := L0.andThen (looks_mroIn X hd);have L4 := looks_findIn (M := model P w) X hk;unfold getAttr getAttrBy;refine wpAny_bind (wpAny_mkText (wpAny_holding (wpAny_bind (L0.at (wpAny_bind (L1.at ?_))))));ext d;refine zax (show ¬ ((true && (Value.builtin "dict.__getattribute__" == Value.builtin "object.__getattribute__")) = true) by decide) ?_;unfold getAttrByItsOwn hookBefore;refine wpAny_bind (zch (by rfl) (L4.at ?_));refine wpAny_bind (wpAny_attempt (wpAny_holding ?_));unfold callGetattribute boundAndCalled;refine zax (by simp [onTheHeap]) ?_;rw [zes.bind];refine wpAny_bind (wpAny_pure ?_);ext call;refine codeAny_call_builtin zes.plain zfU (@check_slot (model P w) _ _ ⟨hp, g, d, t + 1, os⟩ "dict.__getattribute__" "dict" "__getattribute__" (.ref x) [.str name t] [] _ zg1 zfM L3 (zgF _ _) ?_);unfold Builtin.«object.__getattribute__»;refine wpAny_bind (wpAny_pure (wpAny_bind (wpAny_pure (wpAny_bind (L0.at (wpAny_bind (L2.at ?_)))))));ext pure d;rw [handedOut_of hh];exact wpAny_pure h
end
section
theorem zaM {l : Addr} {t : Tok} {n : Nat} {expr : Bool} (T : TopH w s.heap) (X : WH w b s.heap x gs dx l hsh t n c vs es ep)
  (h : Q (.ref l) { s with toks := s.toks + 1 }) : wpAny (model P w) A (getAttr (.ref x) "dicts" expr) Q E s :=
 zil T.K X.inst.i (by kernel_rfl) (by kernel_rfl) (by kernel_rfl) (by kernel_rfl) rfl h
end
theorem FExt.ownE (x : FExt (fa l) h₀ h) (he : Heap.ExtBut a h h') (off : h₀.get? a = none) (F : Fs A h₀ l) : FExt (fa l) h₀ h' := by
 have na : ∀ {b o}, h₀.get? b = some o → b ≠ a := fun {b o} e q => by rw [q, off] at e; cases e
 refine ⟨⟨fun b o e n => ?_, fun b o e => ?_⟩, fun L q m n => ?_⟩
 ·rcases x.ext.keep b o e n with q | ⟨ht, ps, more, rfl, q, kq⟩
  ·exact .inl (he b o (na e) q)
  ·exact .inr ⟨ht, ps, more, rfl, he b _ (na e) q, kq⟩
 ·obtain ⟨o', q⟩ := x.ext.there b o e
  exact ⟨o', he b o' (na e) q⟩
 ·have ne : L ≠ a := let ⟨_, _, _, e, _⟩ := n; na e
  obtain ⟨o, es, ep, e, r⟩ := x.ns L q m n;exact ⟨o, es, ep, he L o ne e, r⟩
theorem zfk {l : Addr} {n m : Nat} (hl : s.heap.get? l = some (zad vs n)) (hb : s.heap.get? b = some (zad us m)) (hz : vs.size + us.size ≤ 1000)
  (q : ∀ h' n', h'.get? l = some (zad (vs ++ us) n') → Heap.SameBut l s.heap h' → Q .none { s with heap := h' }) : wpAny (model P w) A (call (.builtin "list.extend") [.ref l, .ref b]) Q E s := by
 refine call_meets F.slot_list_extend (show s.TypeIs (.ref l) "list" from ⟨_, hl, rfl⟩) F.entry_list_extend (F.args_list_extend_2 _ _) (AutoSeq1.list_extend_list_list_0 l vs n b us m (extend_door (by rw [sizeLine_eq]; omega)) (by rw [sizeLine_eq]; omega) (by rw [sizeLine_eq]; omega)) ⟨hl, hb, ?_⟩;obtain ⟨n', e⟩ : ∃ n', Obj.mapSeq (fun x => x ++ us) (zad vs n) = zad (vs ++ us) n' := ⟨_, rfl⟩;refine q _ n' ?_ (Heap.SameBut.update ..);rw [← e];exact get?_update_self _ hl rfl
theorem zb9 {name : Str} {f : Addr} {pl : Sem Bool} {Q : Value × List Value → Shared → Prop} (T : TopH w s.heap) (I : Inst s.heap x 437 dx emptyDict es ep)
  (hf : findIn (KK w) (.ref 437) name = some (some (.ref f))) (ht : typeIn (KK w) (.ref f) = some (.type "function")) (h : Q (.ref f, [.ref x]) s) : wpAny (model P w) A (getMethod (.ref x) name pl) Q E s :=
 zex T.K I.i (by kernel_rfl) (by kernel_rfl) hf ht rfl h
theorem zgT {gs : List Grp} (hz : ∀ g ∈ gs, ∀ p ∈ g, p.2.length ≤ 100) : ((gs.map (look · k)).flatten).length ≤ 100 * gs.length := by
 induction gs with
 | nil => simp
 | cons g r ih =>
  have h1 := zbW (k := k) (hz g (.head _));have h2 := ih fun g' hg => hz g' (.tail _ hg);simp only [map_cons, flatten_cons, length_append, length_cons];omega
theorem zbO {A : Around} {gs : List Grp} {t tk : Tok} {n : Nat} {l : List Env} : ∀ (hA : Rm 490 A) (hh : A.handled = none) (T : TopH w s.heap) (X : WH w b s.heap x gs dx dl hsh t n c vs es ep) (hlow : 604 ≤ b) (F : Fs A s.heap l) (hF : ∀ a ∈ fa l, a < b) (hz : ∀ g ∈ gs, ∀ p ∈ g, p.2.length ≤ 100) (hg : gs.length ≤ 5) (hR : ∀ h' tk a, FExt (fa l) s.heap h' → IL s.heap.objs.size h' a (gs.map (look · k)).flatten → R (.ok (.ret (.ref a))) ⟨h', s.gens, s.drawn, tk, s.os⟩), codeAny (model P w) A (.call (.ref 479) ⟨[.ref x, .str k tk], []⟩) R s := by
 unhygienic
 revert hen w A s R x dx dl b gs hsh t tk n c ep vs es k l;refine zbw [(Str.ofString "self", .ref x), (Str.ofString "key", .str k tk), (Str.ofString "kind", .none)] hA T (by rfl) (by rfl) (by rfl) (by rfl) (binds_K T.K rfl (by rfl) rfl rfl rfl) (by decide) (locs rfl) fun h₁ D hA' hh' => ?_
 letI hh' := hh'.trans hh
 refine za5 fun Q0 E0 hQ0 => ?_;have X1 := X.ext0 D.ext;have F1 := (F.ext0 D.ext).call hA' D.ns T.low;ext execs_cons Assign_Name List items_nil;refine ⟨by simp, ?_⟩
 haveI frv : s.heap.get? h₁.objs.size = none := D.fresh
 haveI nrv : s.heap.objs.size ≠ h₁.objs.size := ne_of_lt D.ns.lt
 haveI lrv : s.heap.objs.size ≤ h₁.objs.size := le_of_lt D.ns.lt
 haveI erv : (h₁.push (zad #[] 0)).get? h₁.objs.size = some (zad #[] 0) := get?_push_size _ rfl
 letI D := D.call (Ext.push h₁ (zad #[] 0))
 replace F1 := F1.ext0 (Ext.push h₁ (zad #[] 0));ext d;change wpAny _ _ _ _ _ ⟨h₁.push (zad #[] 0), _, _, _, _⟩;generalize h₁.objs.size = rv at frv nrv lrv erv ⊢;generalize h₁.push (zad #[] 0) = h2 at D erv F1 ⊢;clear X1 h₁;revert hen Q0 E0 rv h2;refine wpAny_storeName_local rfl D.ns (fun h3 hn hs => ?_) rfl
 letI D := D.store hn hs
 letI erv := (hs.2 _ (Ne.symm nrv)).trans erv
 have F3 := (F.ext0 D.ext).call hA' D.ns T.low;ext d;clear hn hs F1;ext execs_cons For o.Attribute_Name_;refine zaa (Me.ns (by assumption)) (by first | assumption | rfl) ?_;have T3 := D.top T (by simp)
 haveI X3 := X.ext0 D.ext
 refine zaM T3 X3 ?_;refine wpAny_pyIter_list ⟨_, X3.ls, rfl, c, rfl⟩ ?_
 haveI fit : s.heap.get? h3.objs.size = none := D.fresh
 haveI nit : s.heap.objs.size ≠ h3.objs.size := ne_of_lt D.ns.lt
 haveI ri : rv ≠ h3.objs.size := ne_of_lt (lt_size erv)
 haveI hit : (h3.push { cls := .type "list_iterator", data := .fields #[.ref dl, .int 0 0] }).IsListIter h3.objs.size dl 0 := ⟨_, get?_push_size _ rfl, rfl, rfl⟩
 letI erv := get?_push_of_some { cls := .type "list_iterator", data := .fields #[.ref dl, .int 0 0] } erv
 letI D := D.call (Ext.push h3 { cls := .type "list_iterator", data := .fields #[.ref dl, .int 0 0] })
 replace F3 := F3.ext0 (Ext.push h3 { cls := .type "list_iterator", data := .fields #[.ref dl, .int 0 0] });ext d;generalize h3.objs.size = it at fit nit hit ri ⊢;generalize h3.push { cls := .type "list_iterator", data := .fields #[.ref dl, .int 0 0] } = h4 at D erv F3 hit ⊢;clear X3 T3 h3;revert hen it h4;refine opq (p := fun (n' : Nat) (s' : Shared) => ∃ i h' tk' m ys ny, n' + i = gs.length ∧ s' = ⟨h', s.gens, s.drawn, tk', s.os⟩ ∧ Me (fa l) s.heap h' s.heap.objs.size m [] ∧ FExt (fa l) s.heap h' ∧ m "key" = some (.str k tk) ∧ m "kind" = some .none ∧ m "rv" = some (.ref rv) ∧
  h'.IsListIter it dl i ∧ h'.get? rv = some (zad ys ny) ∧ IntsAre ys.toList ((gs.take i).map (look · k)).flatten) fun Iv1 hin1 hout1 => ?_
 revert hen Iv1;refine codeAny_forLoop Iv1 ?_ gs.length (hin1 _ _ ?_)
 rotate_left
 ·exact ⟨0, h4, _, _, #[], 0, by omega, rfl, ⟨D.ext.mono (by simp), D.ns, fun _ q => (nomatch q), nodup_nil, fun _ q => (nomatch q), fun _ q => (nomatch q), .inr (zag _)⟩, .of D.ext, by rfl, by rfl, by rfl, hit, erv, .nil⟩
 clear D F3 erv hit;intro n' s' hI;obtain ⟨i, h', tk', m, ys, ny, hn, rfl, D, FX, mk, mi, mr, hit, erv, iy⟩ := hout1 _ _ hI;clear hI
 haveI X5 := X.ext D.ext fun a q => .inl (hF a q)
 have T5 := T.fext F FX;have F5 := (F.ext FX).call hA' D.ns T.low;cases n' with
 | zero =>
  refine wpAny_pyNext_list_end hh' hit ⟨_, X5.ls, rfl, c, rfl⟩ (by rw [Array.getElem?_eq_none_iff, X5.md.1]; omega) (fun h4 he => ?_);ext d execs_nil execs_cons Return_some;replace D := D.ownE he fit nit;refine zaa D.ns mr ?_;have : gs.take i = gs := take_of_length_le (by omega);rw [this] at iy;refine hQ0 _ _ ?_;exact hR _ _ _ (FX.ownE he fit F) ⟨lrv, ys, ny, he _ _ ri erv, iy⟩
 | succ n' =>
  haveI hi : i < gs.length := by omega
  obtain ⟨gi, eg, hgm, egt⟩ : ∃ gi, gs[i]? = some gi ∧ gi ∈ gs ∧ gs.take (i + 1) = gs.take i ++ [gi] := ⟨_, getElem?_eq_getElem hi, getElem_mem hi, take_succ_eq_append_getElem hi⟩;obtain ⟨mm, dm, kvs, em, pm, em1, Xm⟩ := X5.md.2 i gi eg;revert hen i h' tk' m ys ny n' gi mm dm kvs em pm;refine wpAny_pyNext_list_item hit ⟨_, X5.ls, rfl, c, rfl⟩ em1 (fun h4 hit4 sb4 => ?_);replace FX := FX.ownE sb4.extBut fit F
  letI D := D.ownE sb4.extBut fit nit
  replace erv := (sb4.2 _ ri).trans erv;ext d;clear X5 T5 F5 hit sb4 Xm;ext assign_Name;refine wpAny_storeName_local rfl D.ns (fun h5 hn5 hs5 => ?_) rfl
  letI FX := FX.ownE hs5.extBut (zag _) F
  letI D := D.store hn5 hs5
  letI erv := (hs5.2 _ (Ne.symm nrv)).trans erv
  have hit5 := hit4.at fun o e => (hs5.2 it (Ne.symm nit)).trans e;ext d;clear hn5 hs5 hit4;ext execs_cons Expr_any;refine wpAny_Call_method rfl rfl rfl PySem.F.plainAttrs_list PySem.F.slot_list_extend PySem.F.type_list_extend ?_;refine zaa D.ns ((if_neg (by decide)).trans mr) ?_;refine ⟨⟨_, erv, rfl⟩, fun a e => by cases e; exact ⟨_, erv, rfl⟩, ?_⟩;ext o.call_bi items_cons o.methodCall_KW;refine zaa D.ns ((if_pos (by decide))) ?_;have X6 := X.ext D.ext fun a q => .inl (hF a q)
  haveI T6 := T.fext F FX
  have F6 := (F.ext FX).call hA' D.ns T.low;obtain ⟨mm', dm, kvs, em, pm, em2, Xm⟩ := X6.md.2 i gi eg;rw [em1] at em2; cases em2;refine zb9 (f := 305) T6 Xm.inst (by kernel_rfl) (by rfl) ?_;ext o.cf;ext items_cons;refine zaa D.ns ((if_neg (by decide)).trans mk) ?_;ext items_cons;refine zaa D.ns ((if_neg (by decide)).trans mi) ?_;ext items_nil;refine ⟨T6, ?_⟩;ext call;refine zdG (hA'.mono (by decide)) hh' T6 Xm (le_trans hlow Xm.lx) F6 (fun p hp => hz _ hgm p hp) (fun h7 tk7 a7 x7 il7 => ?_);dsimp only at x7 il7 ⊢;obtain ⟨hb7, va, na, ea, ia⟩ := il7;have nL : ∀ {a}, s.heap.get? a = none → s.heap.objs.size ≠ a → a ∉ s.heap.objs.size :: fa l := fun q1 q2 q3 => by
   rcases mem_cons.mp q3 with rfl | q3
   ·exact q2 rfl
   ·exact F.not q1 q3
  have rv7 : rv ≠ a7 := ne_of_lt (lt_of_lt_of_le (lt_size erv) hb7);replace D := D.fcall x7;replace FX := FX.leave' x7 (zag _);replace erv := x7.ext.get erv rfl (nL frv nrv);have hit7 : h7.IsListIter it dl (i + 1) := let ⟨o, ho, hc, hd⟩ := hit5; ⟨o, x7.ext.get ho (by unfold hasCls; rw [hc]) (nL fit nit), hc, hd⟩
  clear x7 X6 T6 F6 Xm hit5 hb7 h5;have b1 : ys.size ≤ 500 := by
   have q1 := ia_len iy;have q2 := zgT (k := k) (gs := gs.take i) fun g hg => hz g (List.mem_of_mem_take hg);rw [length_toList] at q1;rw [length_take] at q2;omega
  have b2 : va.size ≤ 100 := by
   have q1 := ia_len ia;have q2 := zbW (k := k) (hz _ hgm);rw [length_toList] at q1;omega
  ext items_nil;refine zfk erv ea (by omega) (fun h8 n8 e8 sb8 => ?_);replace D := D.ownE sb8.extBut frv nrv;replace FX := FX.ownE sb8.extBut frv F;ext d execs_nil;refine ⟨n', lt_succ_self n', hin1 _ _ (xi6 (i + 1) h8 _ _ _ n8 ⟨by omega, rfl, D, FX, ?_, ?_, ?_, hit7.at fun o e => (sb8.2 it (Ne.symm ri)).trans e, e8, ?_⟩)⟩
  ·exact (if_neg (by decide)).trans mk
  ·exact (if_neg (by decide)).trans mi
  ·exact (if_neg (by decide)).trans mr
  ·have : gs.take (i + 1) = gs.take i ++ [gi] := by rw [egt]
   rw [this, map_append, List.flatten_append, toList_append];refine zeE iy ?_;simpa using ia
end
section
theorem zdD : entryFor table "dict.__contains__" = some Builtin.«dict.__contains__» := PySem.entry_dict_contains
theorem zc7 : builtinKind "dict.__contains__" = some .method := by decide +kernel
theorem zcz : splitId "dict.__contains__" = some ("dict", "__contains__") := by decide +kernel
theorem zcC : plainId "dict.__contains__" = true := by decide +kernel
theorem zfm {i owner n : String} {self : Value} {Q : Unit → Shared → Prop}
  (hk : builtinKind i = some .method) (hs : splitId i = some (owner, n)) (hi : Looks M s.heap (isInstance self (.type owner)) true) (ha : argsOk i ⟨self :: rest, kw⟩) (q : Q () s) :
  wpAny M A (checkBuiltinCall i ⟨self :: rest, kw⟩) Q E s := by
 simp only [checkBuiltinCall, hk, hs];refine wpAny_bind (hi.here ?_);simp only [Bool.not_true, false_eq_true, if_false];cases hsig : Manifest.signature? i with
 | none => exact wpAny_pure q
 | some sig =>
  simp only [argsOk, hsig] at ha;have h2 : Bind.checkArgs i sig ⟨self :: rest, kw⟩ = pure () := ha;show wpAny M A (Bind.checkArgs i sig ⟨self :: rest, kw⟩) Q E s;rw [h2]; exact wpAny_pure q
theorem zg8 {w : World} {h : Heap} {x dx b ep : Addr} {g : Grp} {es : Array DictEntry} {k : Str} {kvs : List (Str × Value)} {Q : Value → Shared → Prop} : ∀ (T : TopH w h) (X : MDI w b h x g dx kvs es ep) (hx : 604 ≤ x) (q : Q (.bool (decide (k ∈ g.map (·.1)))) ⟨h, gn, d, t + 1, os⟩), wpAny (model P w) A (compareOp .In (.str k tk) (.ref x)) Q E ⟨h, gn, d, t, os⟩ := by
 unhygienic
 revert hen w A E h gn d t os x dx b ep g es k tk kvs Q;have I := X.dd;have hI := I.at_;have L : Looks (model P w) h (typeOf (.ref x)) (.ref 437) := (Looks.ld hI).andThen .now;have L1 : Looks (model P w) h (typeLookup (.ref 437) "__contains__") (some (.builtin "dict.__contains__")) := looks_findIn T.K (by kernel_rfl);have L2 : Looks (model P w) h (isInstance (.ref x) (.type "dict")) true := L.andThen (looks_mroIn T.K (by kernel_rfl));have hd : decide (k ∈ g.map (·.1)) = (valueAt kvs k).isSome := by
  rw [← X.gl.keys];unfold valueAt;rw [Option.isSome_map];cases e : List.find? (fun kv => decide (kv.fst = k)) kvs with
  | none =>
   rw [find?_eq_none] at e;refine decide_eq_false fun q => ?_;obtain ⟨kv, hkv, ek⟩ := mem_map.mp q;exact e kv hkv (by simpa using ek)
  | some kv => exact decide_eq_true (mem_map.mpr ⟨kv, mem_of_find?_eq_some e, by simpa using find?_some e⟩)
 show wpAny _ _ (do return .bool (← contains (.ref x) (.str k tk))) Q E _;ext bind;unfold contains
 iterate 32 lk
 with_reducible refine wpAny_call ?_
 show codeAny _ _ (.call (.builtin "dict.__contains__") ⟨[.ref x, .str k tk], []⟩) _ _;have ck := fun (Q : Unit → Shared → Prop) (E : Value → Shared → Prop) (q : Q () ⟨h, gn, d, t, os⟩) => zfm (A := A.in1) (E := E) (i := "dict.__contains__") (self := .ref x) (rest := [.str k tk]) (kw := []) (s := ⟨h, gn, d, t, os⟩) zc7 zcz L2 (PySem.args_dict_contains _ _) q;refine codeAny_call_builtin zcC zdD (ck _ _ ?_);unfold Builtin.«dict.__contains__»
 iterate 24 lk
 (show wpAny _ _ (dictGet _ _) _ _ _; refine zhl (s := ⟨h, gn, d, t, os⟩) I ?_)
 rw [hd] at q;cases hv : valueAt kvs k with
 | some u =>
  rw [hv] at q
  iterate 12 lk
  exact q
 | none =>
  rw [hv] at q;ext d;refine wpAny_bind (wpAny_pendingKey_other (zaP hx) ?_)
  iterate 12 lk
  exact q
theorem zhz {od : Option Obj} {value slice : Expr} {i : Value} (X : (KK w).In s.heap) (I : InstAt s.heap x ox C od)
  (hs : findIn (KK w) (.ref C) "__getitem__" = some (some (.ref f))) (hf : fnIn (KK w) f = true) (hfn : isFn (KK w) (.ref f) = true)
  (h : wpAny (model P w) A.in1 (call (.ref f) [.ref x, i]) Q E s)
  (hsl : subscripted slice true (.ref x) i = runValue (.builtin "lifetime.subscript" ⟨[.ref x, i], []⟩) := by with_unfolding_all rfl) :
  wpAny (model P w) A (subscriptTail value slice (.ref x) i) Q E s := by
 unfold fnIn at hf
 split at hf
 ·rename_i e
  unfold subscriptTail getitemInPython;refine wpAny_bind (wpAny_bind (wpAny_bind (I.type.here ((looks_findIn X hs).here ?_))));ext d;refine wpAny_bind (wpAny_load (X _ _ e) (wpAny_pure ?_));ext d;rw [hsl];refine wpAny_bind (wpAny_runValue (codeAny_builtin entry_sub ?_));unfold Builtin.«lifetime.subscript»;refine wpAny_bind (special_fn X I hs (beq_iff_eq.mp hfn) (wpAny_mono h (fun v s' z => ?_) fun _ _ z => z));ext pure;show wpAny (model P w) A (letTemporaryGo value (.ref x) v >>= fun _ => pure v) Q E s';exact wpAny_bind (wpAny_letTemporaryGo (wpAny_pure z))
 ·cases hf
theorem ze4 {g : Grp} (h : look g k ≠ []) : k ∈ g.map (·.1) := by
 unfold look at h;cases e : g.find? fun p => decide (p.1 = k) with
 | none => rw [e] at h; exact absurd rfl h
 | some p => exact mem_map.mpr ⟨p, mem_of_find?_eq_some e, by simpa using find?_some e⟩
theorem zdI {A : Around} {ep : Addr} {g : Grp} {tk : Tok} {n : Int} {r : List Int} : ∀ (hA : Rm 500 A) (hh : A.handled = none) (T : TopH w s.heap) (X : MDI w b s.heap x g dx kvs es ep) (hlow : 604 ≤ x) (hz : ∀ p ∈ g, p.2.length ≤ 100) (hk : look g k = n :: r) (hR : ∀ h' tk tn, Ext [] s.heap h' → R (.ok (.ret (.int n tn))) ⟨h', s.gens, s.drawn, tk, s.os⟩), codeAny (model P w) A (.call (.ref 280) ⟨[.ref x, .str k tk], []⟩) R s := by
 unhygienic
 revert hen w A s R x dx b ep g kvs es k tk n r;refine zaW [(Str.ofString "self", .ref x), (Str.ofString "key", .str k tk)] hA T (by rfl) (by rfl) (by rfl) (by rfl) (BindsTo.of_eq rfl) (by decide) (locs rfl) fun h₁ D hA' hh' => ?_;replace hh' := hh'.trans hh;have T1 := D.top T (by simp);have X1 := X.ext D.ext (by simp);ext o.ks_wpAt_execs_cons;refine ks_wpAt_If (wpAt_of_wpAny ?_);ext isTrue_Compare1;refine zaa (Me.ns (by assumption)) (by first | assumption | rfl) ?_;refine zaa (Me.ns (by assumption)) (by first | assumption | rfl) ?_;refine zg8 T1 X1 hlow ?_;ext truthy_bool;rw [if_pos (decide_eq_true (ze4 (by rw [hk]; simp)))];ext o.ks_wpAt_execs_cons o.ks_wpAt_Assign_Name;refine zav (x := x) (C := 437) (D := 437) (id := "dict.__getitem__") (BT := "builtin_function_or_method") T1 D.ns X1.inst.i (by rfl) rfl (by rfl) (by rfl) (by rfl) rfl (by rfl) (by rfl) (by rfl) (by rfl) rfl (by kernel_rfl) (by rfl) (by kernel_rfl) (by kernel_rfl)
  (.inr ⟨zcL, rfl⟩) rfl rfl rfl rfl rfl rfl rfl rfl rfl (by decide) (fun q h2 nq hq kp => ?_)
 replace D := D.call (.of_keeps kp)
 haveI X2 := X1.ext (.of_keeps kp) (by simp)
 have T2 : TopH w h2 := T1.ext (.of_keeps kp) (by simp);ext d;clear nq kp X1 T1 h₁;refine zdo (x := x) (T := "builtin_function_or_method") (id := "dict.__getitem__") (.inr rfl) ?_;ext items_cons;refine zaa (Me.ns (by assumption)) (by first | assumption | rfl) ?_;ext items_nil;refine ⟨hq, ?_⟩;ext call;refine zap (.inr rfl) hq (zcq T2.K X2.inst.i) (fun _ => Code.quiet_builtin _ (by decide +kernel)) zb2 ?_;refine zcl T2.K X2.dd hh' (zaP hlow) (by kernel_rfl) (fun u hu => ?_) (fun hn h3 e hm => ?_)
 ·obtain ⟨a, rfl, hb, va, na, ea, ia⟩ := (X2.gl.look X2.dd.nd).1 u hu
  rw [hk] at ia;have hva : va.size ≤ 100 := by have := zbW (k := k) hz; have := ia_len ia; rw [hk] at *; rw [length_toList] at this; omega
  have hv0 : 0 < va.size := by have := ia_len ia; rw [length_toList] at this; rw [this]; simp
  obtain ⟨tn, e0⟩ := zcF ia (i := 0) (n := n) rfl;rw [getElem?_toList] at e0;refine wpAny_storeName_local rfl D.ns (fun h3 hn3 hs3 => ?_) rfl;have na' : s.heap.objs.size ≠ a := zcB D.ns ⟨_, ea, rfl, na, rfl⟩;replace D := D.store hn3 hs3;have T3 := D.top T (by simp);have l3 : h3.IsList a va := ⟨_, (hs3.2 _ (Ne.symm na')).trans ea, rfl, na, rfl⟩;ext d;clear hn3 hs3 hq X2 T2 ea h2;ext o.wpAt_of_wpAny execs_cons If isTrue_Compare1 Call_NameR;refine zae (by assumption) rfl rfl rfl (by boot_by_name) (by decide) ?_;ext o.call_bi items_cons;refine zaa (Me.ns (by assumption)) (by first | assumption | rfl) ?_;ext items_nil;refine len_list l3 (by omega) ?_;ext Constant_int o.PyProof.Rows.gt_int truthy_bool;rw [if_pos (decide_eq_true (by omega))];ext execs_cons Return_some o.Subscript_;refine zaa (Me.ns (by assumption)) (by first | assumption | rfl) ?_;ext Constant_int;refine item_list l3 (by decide) (by omega) e0 ?_;exact hR _ _ _ D.ext
 ·exfalso
  have := (X2.gl.look X2.dd.nd).2 hn;rw [hk] at this; cases this
end
section
def zaQ (gs : List Grp) (k : Str) : Bool := gs.any fun g => decide (k ∈ g.map (·.1))
theorem zby {i : Nat} {g : Grp} (e : gs[i]? = some g) : zaQ (gs.take (i + 1)) k = (zaQ (gs.take i) k || decide (k ∈ g.map (·.1))) := by
 unfold zaQ;rw [take_succ, e, List.any_append]; simp
theorem zfX {i : Nat} {g : Grp} (e : gs[i]? = some g) (h : k ∈ g.map (·.1)) : zaQ gs k = true := by
 unfold zaQ;exact List.any_eq_true.mpr ⟨g, mem_of_getElem? e, decide_eq_true h⟩
theorem zda {A : Around} {t tk : Tok} {n : Nat} : ∀ (hA : Rm 490 A) (hh : A.handled = none) (T : TopH w s.heap) (X : WH w b s.heap x gs dx dl hsh t n c vs es ep) (hlow : 604 ≤ b) (hR : ∀ h' tk, Ext [] s.heap h' → R (.ok (.ret (.bool (zaQ gs k)))) ⟨h', s.gens, s.drawn, tk, s.os⟩), codeAny (model P w) A (.call (.ref 550) ⟨[.ref x, .str k tk], []⟩) R s := by
 unhygienic
 revert hen w A s R x dx dl b gs hsh t tk n c ep vs es k;refine zbw [(Str.ofString "self", .ref x), (Str.ofString "key", .str k tk)] hA T (by rfl) (by rfl) (by rfl) (by rfl) (BindsTo.of_eq rfl) (by decide) (locs rfl) fun h₁ D hA' hh' => ?_;replace hh' := hh'.trans hh;refine za5 fun Q0 E0 hQ0 => ?_
 haveI X1 := X.ext0 D.ext
 have T1 := D.top T (by simp);ext execs_cons For o.Attribute_Name_;refine zaa (Me.ns (by assumption)) (by first | assumption | rfl) ?_;refine zaM T1 X1 ?_;refine wpAny_pyIter_list ⟨_, X1.ls, rfl, c, rfl⟩ ?_
 haveI fit : s.heap.get? h₁.objs.size = none := D.fresh
 haveI nit : s.heap.objs.size ≠ h₁.objs.size := ne_of_lt D.ns.lt
 haveI hit : (h₁.push { cls := .type "list_iterator", data := .fields #[.ref dl, .int 0 0] }).IsListIter h₁.objs.size dl 0 := ⟨_, get?_push_size _ rfl, rfl, rfl⟩
 letI D := D.call (Ext.push h₁ { cls := .type "list_iterator", data := .fields #[.ref dl, .int 0 0] })
 ext d;generalize h₁.objs.size = it at fit nit hit ⊢;generalize h₁.push { cls := .type "list_iterator", data := .fields #[.ref dl, .int 0 0] } = h2 at D hit ⊢;clear X1 T1 h₁;refine opq (p := fun (n' : Nat) (s' : Shared) => ∃ i h' tk' m, n' + i = gs.length ∧ s' = ⟨h', s.gens, s.drawn, tk', s.os⟩ ∧ Me [] s.heap h' s.heap.objs.size m [] ∧ m "key" = some (.str k tk) ∧ h'.IsListIter it dl i ∧ zaQ (gs.take i) k = false) fun Iv1 hin1 hout1 => ?_;refine codeAny_forLoop Iv1 ?_ gs.length (hin1 _ _ ?_)
 rotate_left
 ·exact ⟨0, h2, _, _, by omega, rfl, D, by rfl, hit, rfl⟩
 clear D hit h2;intro n' s' hI;obtain ⟨i, h', tk', m, hn, rfl, D, mk, hit, hno⟩ := hout1 _ _ hI;clear hI
 haveI X2 := X.ext0 D.ext
 have T2 := D.top T (by simp);cases n' with
 | zero =>
  refine wpAny_pyNext_list_end hh' hit ⟨_, X2.ls, rfl, c, rfl⟩ (by rw [Array.getElem?_eq_none_iff, X2.md.1]; omega) (fun h4 he => ?_);replace D := D.ownE he fit nit;ext d execs_nil execs_cons Return_some Constant_bool;have : gs.take i = gs := take_of_length_le (by omega);rw [this] at hno;rw [hno] at hR;refine hQ0 _ _ ?_;exact hR _ _ D.ext
 | succ n' =>
  obtain ⟨gi, eg, hgm⟩ : ∃ g, gs[i]? = some g ∧ g ∈ gs := have hi : i < gs.length := (by omega); ⟨_, getElem?_eq_getElem hi, getElem_mem hi⟩;obtain ⟨mm, dm, kvs, em, pm, em1, Xm⟩ := X2.md.2 i gi eg;refine wpAny_pyNext_list_item hit ⟨_, X2.ls, rfl, c, rfl⟩ em1 (fun h4 hit4 sb4 => ?_)
  letI D := D.ownE sb4.extBut fit nit
  ext d;clear X2 T2 hit sb4 Xm;ext assign_Name;refine wpAny_storeName_local rfl D.ns (fun h5 hn5 hs5 => ?_) rfl
  letI D := D.store hn5 hs5
  have hit5 := hit4.at fun o e => (hs5.2 it (Ne.symm nit)).trans e;ext d;clear hn5 hs5 hit4 h4;have X6 := X.ext0 D.ext;have T6 := D.top T (by simp);obtain ⟨mm', dm, kvs, em, pm, em2, Xm⟩ := X6.md.2 i gi eg;rw [em1] at em2; cases em2;ext execs_cons If isTrue_Compare1;refine zaa D.ns ((if_neg (by decide)).trans mk) ?_;refine zaa D.ns ((if_pos (by decide))) ?_;refine zg8 T6 Xm (le_trans hlow Xm.lx) ?_;ext truthy_bool
  by_cases hk : k ∈ gi.map (·.1)
  ·rw [if_pos (decide_eq_true hk)]
   ext execs_cons Return_some Constant_bool;rw [zfX eg hk] at hR;refine hQ0 _ _ ?_;exact hR _ _ D.ext
  ·rw [if_neg (by simpa using hk)]
   ext execs_nil d execs_nil;refine ⟨n', lt_succ_self n', hin1 _ _ (xi4 (i + 1) h5 _ _ ⟨by omega, rfl, D, ?_, hit5, ?_⟩)⟩
   ·exact (if_neg (by decide)).trans mk
   ·rw [zby eg, hno, decide_eq_false hk]; rfl
def own (gs : List Grp) (k : Str) : List Int := (gs.map (look · k)).flatten
theorem zhx {g : Grp} (h : k ∉ g.map (·.1)) : look g k = [] := by
 unfold look;have : g.find? (fun p => decide (p.1 = k)) = none := by
  rw [find?_eq_none];intro p hp;simp only [decide_eq_true_eq];exact fun q => h (mem_map.mpr ⟨p, hp, q⟩)
 rw [this]; rfl
theorem zew {g : Grp} (hne : ∀ p ∈ g, p.2 ≠ []) (h : k ∈ g.map (·.1)) : ∃ n r, look g k = n :: r := by
 obtain ⟨p, hp, hk⟩ := mem_map.mp h;unfold look;cases e : g.find? fun p => decide (p.1 = k) with
 | none => rw [find?_eq_none] at e; exact absurd (by simpa using hk) (e p hp)
 | some q =>
  have := hne q (mem_of_find?_eq_some e);cases z : q.2 with
  | nil => exact absurd z this
  | cons n r => exact ⟨n, r, by simp [z]⟩
theorem zen (h : zaQ gs k = false) : own gs k = [] := by
 unfold own
 induction gs with
 | nil => rfl
 | cons g r ih =>
  unfold zaQ at h ih;rw [List.any_cons, Bool.or_eq_false_iff] at h;rw [map_cons, flatten_cons, zhx (of_decide_eq_false h.1), ih h.2]; rfl
theorem zhg {i : Nat} {g : Grp} (e' : gs[i]? = some g) (h : zaQ (gs.take i) k = false) {n : Int} {r : List Int} (hl : look g k = n :: r) : ∃ r', own gs k = n :: r' := by
 obtain ⟨hi, rfl⟩ := List.getElem?_eq_some_iff.mp e';have e : gs.take i ++ gs[i] :: gs.drop (i + 1) = gs := by rw [← drop_eq_getElem_cons hi, take_append_drop]
 refine ⟨r ++ own (gs.drop (i + 1)) k, ?_⟩;have e2 : own gs k = own (gs.take i ++ gs[i] :: gs.drop (i + 1)) k := by rw [e]
 rw [e2];unfold own;rw [map_append, List.flatten_append, map_cons, flatten_cons, hl];have := zen h;unfold own at this;rw [this]; simp
theorem zgP {dflt : Value} {A : Around} {gs : List Grp} {t tk : Tok} {n : Nat} : ∀ (hA : Rm 490 A) (hh : A.handled = none) (T : TopH w s.heap) (X : WH w b s.heap x gs dx dl hsh t n c vs es ep) (hlow : 604 ≤ b) (hz : ∀ g ∈ gs, ∀ p ∈ g, p.2.length ≤ 100) (hne : ∀ g ∈ gs, ∀ p ∈ g, p.2 ≠ []) (hR1 : ∀ n' r, own gs k = n' :: r → ∀ h' tk tn, Ext [] s.heap h' → R (.ok (.ret (.int n' tn))) ⟨h', s.gens, s.drawn, tk, s.os⟩) (hR2 : own gs k = [] → ∀ h' tk, Ext [] s.heap h' → R (.ok (.ret dflt)) ⟨h', s.gens, s.drawn, tk, s.os⟩), codeAny (model P w) A (.call (.ref 471) ⟨[.ref x, .str k tk, dflt], []⟩) R s := by
 unhygienic
 revert hen dflt w A s R x dx dl b gs hsh t tk n c ep vs es k;refine zbw [(Str.ofString "self", .ref x), (Str.ofString "key", .str k tk), (Str.ofString "default", dflt), (Str.ofString "kind", .none)] hA T (by rfl) (by rfl) (by rfl) (by rfl) (binds_K T.K rfl (by rfl) rfl rfl rfl) (by decide) (locs rfl) fun h₁ D hA' hh' => ?_;replace hh' := hh'.trans hh;revert hen h₁;refine za5 fun Q0 E0 hQ0 => ?_;have X1 := X.ext0 D.ext;have T1 := D.top T (by simp);revert hen Q0 E0;ext execs_cons For o.Attribute_Name_;refine zaa (Me.ns (by assumption)) (by first | assumption | rfl) ?_;refine zaM T1 X1 ?_;refine wpAny_pyIter_list ⟨_, X1.ls, rfl, c, rfl⟩ ?_;have fit : s.heap.get? h₁.objs.size = none := D.fresh
 haveI nit : s.heap.objs.size ≠ h₁.objs.size := ne_of_lt D.ns.lt
 haveI hit : (h₁.push { cls := .type "list_iterator", data := .fields #[.ref dl, .int 0 0] }).IsListIter h₁.objs.size dl 0 := ⟨_, get?_push_size _ rfl, rfl, rfl⟩
 letI D := D.call (Ext.push h₁ { cls := .type "list_iterator", data := .fields #[.ref dl, .int 0 0] })
 ext d;generalize h₁.objs.size = it at fit nit hit ⊢;generalize h₁.push { cls := .type "list_iterator", data := .fields #[.ref dl, .int 0 0] } = h2 at D hit ⊢;clear X1 T1;revert hen it h2;refine opq (p := fun (n' : Nat) (s' : Shared) => ∃ i h' tk' m, n' + i = gs.length ∧ s' = ⟨h', s.gens, s.drawn, tk', s.os⟩ ∧ Me [] s.heap h' s.heap.objs.size m [] ∧ m "key" = some (.str k tk) ∧ m "default" = some dflt ∧ m "kind" = some .none ∧ h'.IsListIter it dl i ∧ zaQ (gs.take i) k = false) fun Iv1 hin1 hout1 => ?_;revert hen Iv1;refine codeAny_forLoop Iv1 ?_ gs.length (hin1 _ _ ?_)
 rotate_left
 ·exact ⟨0, h2, _, _, by omega, rfl, D, by rfl, by rfl, by rfl, hit, rfl⟩
 clear D hit;intro n' s' hI;obtain ⟨i, h', tk', m, hn, rfl, D, mk, md, mi, hit, hno⟩ := hout1 _ _ hI;clear hI
 haveI X2 := X.ext0 D.ext
 have T2 := D.top T (by simp);cases n' with
 | zero =>
  refine wpAny_pyNext_list_end hh' hit ⟨_, X2.ls, rfl, c, rfl⟩ (by rw [Array.getElem?_eq_none_iff, X2.md.1]; omega) (fun h4 he => ?_);replace D := D.ownE he fit nit;ext d execs_nil execs_cons Return_some;refine zaa D.ns md ?_;have : gs.take i = gs := take_of_length_le (by omega);rw [this] at hno;refine hQ0 _ _ ?_;exact hR2 (zen hno) _ _ D.ext
 | succ n' =>
  obtain ⟨gi, eg, hgm⟩ : ∃ g, gs[i]? = some g ∧ g ∈ gs := have hi : i < gs.length := (by omega); ⟨_, getElem?_eq_getElem hi, getElem_mem hi⟩;obtain ⟨mm, dm, kvs, em, pm, em1, Xm⟩ := X2.md.2 i gi eg;revert hen i h' tk' m n' mm dm kvs em pm gi;refine wpAny_pyNext_list_item hit ⟨_, X2.ls, rfl, c, rfl⟩ em1 (fun h4 hit4 sb4 => ?_);replace D := D.ownE sb4.extBut fit nit;ext d;clear X2 T2 hit sb4 Xm;ext assign_Name;refine wpAny_storeName_local rfl D.ns (fun h5 hn5 hs5 => ?_) rfl
  letI D := D.store hn5 hs5
  have hit5 := hit4.at fun o e => (hs5.2 it (Ne.symm nit)).trans e;ext d;clear hn5 hs5 hit4 h4;have X6 := X.ext0 D.ext;have T6 := D.top T (by simp);obtain ⟨mm', dm, kvs, em, pm, em2, Xm⟩ := X6.md.2 i gi eg;rw [em1] at em2; cases em2;ext execs_cons If isTrue_Compare1;refine zaa D.ns ((if_neg (by decide)).trans mk) ?_;refine zaa D.ns ((if_pos (by decide))) ?_;refine zg8 T6 Xm (le_trans hlow Xm.lx) ?_;ext truthy_bool
  by_cases hk : k ∈ gi.map (·.1)
  ·rw [if_pos (decide_eq_true hk)]
   obtain ⟨n0, r0, hl0⟩ := zew (hne _ hgm) hk;ext execs_cons If isTrue_Compare1;refine zaa D.ns ((if_neg (by decide)).trans mi) ?_;ext Constant_none o.isNot_none truthy_bool;rw [if_neg (show ¬ ((!(Value.none == Value.none)) = true) from Bool.false_ne_true)];ext execs_nil d execs_cons Return_some o.Subscript_;refine zaa D.ns ((if_pos (by decide))) ?_;refine zaa D.ns ((if_neg (by decide)).trans mk) ?_;refine zhz (f := 280) T6.K Xm.inst.i (by kernel_rfl) (by rfl) (by rfl) ?_;ext call;refine zdI (hA'.in1.mono (by decide)) hh' T6 Xm (le_trans hlow Xm.lx) (hz _ hgm) hl0 (fun h7 tk7 tn e7 => ?_);obtain ⟨r1, hr1⟩ := zhg eg hno hl0;refine hQ0 _ _ ?_;exact hR1 _ _ hr1 _ _ _ (D.ext.and e7)
  ·rw [if_neg (by simpa using hk)]
   ext execs_nil d execs_nil;refine ⟨n', lt_succ_self n', hin1 _ _ (xi4 (i + 1) h5 _ _ ⟨by omega, rfl, D, ?_, ?_, ?_, hit5, ?_⟩)⟩
   ·exact (if_neg (by decide)).trans mk
   ·exact (if_neg (by decide)).trans md
   ·exact (if_neg (by decide)).trans mi
   ·rw [zby eg, hno, decide_eq_false hk]; rfl
end
section
section
abbrev zam (scope : Scope) (cl : List (Str × Addr)) (C : Addr) (env : Env) : Env := compEnvC scope cl C env
theorem zcr {scope : Scope} (hclos : closureFor scope env = pure cl)
  (hkind : scope.kind = .function) (hcell : ∀ x ∈ scope.names, x.2 ≠ .cell) (hnames : ∀ x ∈ scope.names, x.2 = .local → scope.names.lookup x.1 = some .local)
  (h : wpAny (model P w) A (eval iter env) (fun x s₁ => wpAny (model P w) A (pyIter x) (fun it s₂ =>
   (∀ (E' : Value → Shared → Prop) (Q' : Value → Shared → Prop) h', (∀ b o, s₂.heap.get? b = some o → h'.get? b = some o) → ∀ tk, Q' it { s₂ with heap := h', toks := tk } → wpAny (model P w) A (pyIter it) Q' E' { s₂ with heap := h', toks := tk }) ∧
   ∀ h' C tk, (∀ b o, s₂.heap.get? b = some o → h'.get? b = some o) → h'.get? s₂.heap.objs.size = some (zad #[] 0) → C = s₂.heap.objs.size + 1 → h'.Ns C (fun _ => none) →
    codeAny (model P w) A (.compLoop (.ListComp elt [⟨target, iter, [], 0⟩] scope pos) 0 it (.ref s₂.heap.objs.size) (zam scope cl C env))
     (fun r s' => match r with | .ok _ => ∃ m, s'.heap.Ns C m ∧ ∀ h', Heap.SameBut C s'.heap h' → Q (.ref s₂.heap.objs.size) { s' with heap := h' } | .error _ => False) { s₂ with heap := h', toks := tk }) E s₁) E s)
  (hs : ∀ x, foldedSetIterable iter env x = pure x := by intro _; rfl) :
  wpAny (model P w) A (eval (.ListComp elt [⟨target, iter, [], 0⟩] scope pos) env) Q E s := by
 unhygienic
 revert hen w A E s env elt target iter scope pos cl Q;rw [eval_ListComp];refine wpAny_comprehension_free (use := none) rfl hs hclos hkind hnames ?_;refine wpAny_mono h (fun x s₁ h₁ => wpAny_mono h₁ (fun it s₂ h₂ => ?_) fun _ _ z => z) fun _ _ z => z;obtain ⟨hi, hl⟩ := h₂;ext newList;refine wpAny_newFunctionEnv hcell (fun _ q => (nomatch q)) (fun h' hn hsb => ?_) hkind;have k1 : ∀ b o, s₂.heap.get? b = some o → (s₂.heap.push (zad #[] 0)).get? b = some o := fun b o e => get?_push_of_some _ e;have hsz : (s₂.heap.push (zad #[] 0)).objs.size = s₂.heap.objs.size + 1 := size_push ..;dsimp only at hn hsb ⊢;have hn' : h'.Ns (s₂.heap.objs.size + 1) (fun _ => none) := by have := hn; rw [show ([] : List Value).toArray = #[] from rfl, hsz] at this; exact this
 have k2 : ∀ b o, (s₂.heap.push (zad #[] 0)).get? b = some o → h'.get? b = some o := fun b o e => hsb.extBut b o (ne_of_lt (lt_size e)) (get?_push_of_some _ e);have k := fun b o e => k2 b o (k1 b o e);have ea : h'.get? s₂.heap.objs.size = some (zad #[] 0) := k2 _ _ (get?_push_size _ rfl);have loop := hl h' (s₂.heap.objs.size + 1) s₂.toks k ea rfl hn';have fin : codeAny (model P w) A (.compLoop (.ListComp elt [⟨target, iter, [], 0⟩] scope pos) 0 it (.ref s₂.heap.objs.size) (zam scope cl (s₂.heap.objs.size + 1) env)) (compPost (model P w) A E none Q (.ref s₂.heap.objs.size) (s₂.heap.objs.size + 1)) { s₂ with heap := h' } := by
  refine codeAny_mono loop fun r s' z => ?_;cases r with
  | ok f => exact z
  | error e => exact z.elim
 rw [show ([] : List Value).toArray = #[] from rfl, hsz];refine codeAny_compStart_list fin (hi _ _ h' k s₂.toks fin)
end
end
section
theorem Me.sb (D : Me mod h₀ h L m []) (sb : Heap.SameBut a h h') (off : h₀.get? a = none) (ne : L ≠ a) : Me mod h₀ h' L m [] := D.ownE sb.extBut off ne
theorem zii {l : List Value} (h : ∀ v ∈ l, ∃ n t, v = .int n t) : ∃ ns, IntsAre l ns := by
 induction l with
 | nil => exact ⟨[], .nil⟩
 | cons v l ih =>
  obtain ⟨n, t, rfl⟩ := h v (.head _);obtain ⟨ns, hn⟩ := ih fun v hv => h v (.tail _ hv);exact ⟨n :: ns, .cons n t hn⟩
theorem zhN {l : List Value} {ns : List Int} (x : IntsAre l ns) : ∀ v ∈ l, ∃ n t, v = .int n t := by
 induction x with
 | nil => intro v q; cases q
 | cons n t _ ih =>
  intro v q;rcases mem_cons.mp q with rfl | q
  ·exact ⟨n, t, rfl⟩
  ·exact ih v q
theorem zac (hs : h₀.objs.size ≤ a) : h₀.get? a = none := by
 cases q : h₀.get? a with
 | none => rfl
 | some o => exact absurd (lt_size q) (not_lt.mpr hs)
theorem zeV {A : Around} {ns : List Int} : ∀ (hA : Rm 490 A) (hh : A.handled = none) (T : TopH w s.heap) (hl : s.heap.IsList sc svs) (hi : IntsAre svs.toList ns) (hz : svs.size ≤ 1000) (hR : ∀ h' tk st nb vs ms c c' t, Ext [] s.heap h' → h'.get? st = some (zad #[.ref nb, .int 0 t] c) → h'.get? nb = some (zad vs c') → IntsAre vs.toList ms → 0 < vs.size → vs.size ≤ 100 → s.heap.objs.size ≤ st → nb ≠ st → s.heap.objs.size ≤ nb →
   R (.ok (.ret (.ref st))) ⟨h', s.gens, s.drawn, tk, s.os⟩), codeAny (model P w) A (.call (.ref 574) ⟨[.ref sc], []⟩) R s := by
 unhygienic
 revert hen w A s R sc svs ns;refine zbw [(Str.ofString "script", .ref sc)] hA T (by rfl) (by rfl) (by rfl) (by rfl) (BindsTo.of_eq rfl) (by decide) (locs rfl) fun h₁ D hA' hh' => ?_;replace hh' := hh'.trans hh;revert hen h₁;refine za5 fun Q0 E0 hQ0 => ?_;have T1 := D.top T (by simp);have l1 := D.ext.isList hl (by simp);revert hen Q0 E0;ext execs_cons Return_some List items_cons BinOp;refine zcr (cl := []) (by rfl) rfl (by decide) (by decide) ?_;ext Subscript_list_slice;refine zaa (Me.ns (by assumption)) (by first | assumption | rfl) ?_;rw [evalPart_none];ext pure;rw [evalPart_some];ext Constant_int;refine ⟨sc, svs, none, some 24, rfl, l1, by rw [sizeLine_eq]; omega, .none, .int _ _, ?_⟩;ext d;have hpk : slicePick svs none (some 24) none = (svs.toList.take 24).toArray := slicePick_upto' svs 24;rw [hpk];generalize hit0 : (svs.toList.take 24).toArray = items;have iit : ∀ v ∈ items.toList, ∃ n t, v = .int n t := by
  intro v hv;rw [← hit0] at hv;revert hen items v;exact zhN hi v (List.mem_of_mem_take (by simpa using hv))
 have zit : items.size ≤ 24 := by rw [← hit0]; simp; omega
 clear hpk hit0;have k1 : ∀ (x y : Obj) b o, h₁.get? b = some o → ((h₁.push x).push y).get? b = some o := fun x y b o e => get?_push_of_some _ (get?_push_of_some _ e);have e1 : ∀ (x : Obj), ((h₁.push x).push (zad items 0)).get? (h₁.objs.size + 1) = some (zad items 0) := fun x => by heap_get
 have x1 : ∀ (x : Obj), Me [] s.heap ((h₁.push x).push (zad items 0)) s.heap.objs.size _ [] := fun x => D.call (.of_keeps (k1 x _));revert hen items;refine wpAny_pyIter_list (items := items) ⟨_, e1 _, rfl, 0, rfl⟩ ?_;replace e1 := e1 { cls := .type "slice", data := .fields #[.none, .int 24 (s.toks + 1), .none] };replace D := x1 { cls := .type "slice", data := .fields #[.none, .int 24 (s.toks + 1), .none] };generalize h₁.objs.size + 1 = la at e1 ⊢;generalize (h₁.push { cls := .type "slice", data := .fields #[.none, .int 24 (s.toks + 1), .none] }).push (zad items 0) = h2 at D e1 ⊢
 try dsimp only
 clear x1 k1 l1 T1;have eit : (h2.push { cls := .type "list_iterator", data := .fields #[.ref la, .int 0 0] }).get? h2.objs.size = some { cls := .type "list_iterator", data := .fields #[.ref la, .int 0 0] } := get?_push_size _ rfl;have fit : s.heap.get? h2.objs.size = none := D.fresh;have nit : s.heap.objs.size ≠ h2.objs.size := ne_of_lt D.ns.lt;have li : la ≠ h2.objs.size := ne_of_lt (lt_size e1);replace e1 := get?_push_of_some { cls := .type "list_iterator", data := .fields #[.ref la, .int 0 0] } e1;replace D := D.call (Ext.push h2 { cls := .type "list_iterator", data := .fields #[.ref la, .int 0 0] })
 try dsimp only
 generalize h2.objs.size = it at eit fit nit li ⊢;generalize h2.push { cls := .type "list_iterator", data := .fields #[.ref la, .int 0 0] } = h3 at D e1 eit ⊢;clear h2;refine ⟨fun E' Q' h' k tk q => wpAny_pyIter_listiter (s := ⟨h', _, _, _, _⟩) ⟨_, k _ _ eit, rfl, rfl⟩ q, ?_⟩;intro h4 C tk k4 eacc hC nC;revert hen la it h3 h4 C tk
 try dsimp only at k4 eacc hC ⊢
 have facc : s.heap.get? h3.objs.size = none := D.fresh;have nacc : s.heap.objs.size ≠ h3.objs.size := ne_of_lt D.ns.lt;have lacc : s.heap.objs.size ≤ h3.objs.size := le_of_lt D.ns.lt;have ia : it ≠ h3.objs.size := ne_of_lt (lt_size eit);have la' : la ≠ h3.objs.size := ne_of_lt (lt_size e1);have fC : s.heap.get? C = none := zac (by rw [hC]; exact le_succ_of_le lacc);have nLC : s.heap.objs.size ≠ C := by rw [hC]; exact ne_of_lt (Nat.lt_succ_of_le lacc)
 have iC : it ≠ C := by rw [hC]; exact ne_of_lt (lt_succ_of_lt (lt_size eit))
 have lC : la ≠ C := by rw [hC]; exact ne_of_lt (lt_succ_of_lt (lt_size e1))
 have aC : h3.objs.size ≠ C := by rw [hC]; exact ne_of_lt (lt_succ_self _)
 replace e1 := k4 _ _ e1;replace eit := k4 _ _ eit;replace D := D.call (.of_keeps k4);generalize h3.objs.size = acc at *;clear k4 hC;replace D : ∃ m0, Me [] s.heap h4 s.heap.objs.size m0 [] := ⟨_, D⟩;obtain ⟨m0, D⟩ := D;refine opq (p := fun (n : Nat) (s' : Shared) => ∃ i h' tk' mC ys ny, n + i = items.size ∧ s' = ⟨h', s.gens, s.drawn, tk', s.os⟩ ∧ Me [] s.heap h' s.heap.objs.size m0 [] ∧ h'.Ns C mC ∧ h'.get? la = some (zad items 0) ∧ h'.IsListIter it la i ∧ h'.get? acc = some (zad ys ny) ∧ ys.size = i ∧ ∀ v ∈ ys.toList, ∃ n t, v = .int n t) fun Iv1 hin1 hout1 => ?_;refine codeAny_compLoop_list Iv1 ?_ items.size (hin1 _ _ ?_)
 rotate_left
 ·exact ⟨0, h4, _, _, #[], 0, by omega, rfl, D, nC, e1, ⟨_, eit, rfl, rfl⟩, eacc, rfl, fun v q => by simp at q⟩
 clear D nC e1 eit eacc;intro n s' hI;obtain ⟨i, h', tk', mC, ys, ny, hn, rfl, D, nC, e1, hit, ey, sy, iy⟩ := hout1 _ _ hI;clear hI;cases n with
 | zero =>
  refine wpAny_pyNext_list_end hh' hit ⟨_, e1, rfl, 0, rfl⟩ (by rw [Array.getElem?_eq_none_iff]; omega) (fun h5 he => ?_);replace D := D.ownE he fit nit;have nC5 : h5.Ns C mC := let ⟨o, es, ep, q, r⟩ := nC; ⟨o, es, ep, he _ _ (Ne.symm iC) q, r⟩
  replace ey := he _ _ (Ne.symm ia) ey
  try dsimp only
  refine ⟨mC, nC5, fun h6 sb6 => ?_⟩;replace D := D.sb sb6 fC nLC;replace ey := (sb6.2 _ aC).trans ey
  try dsimp only
  clear he hit e1 nC nC5 sb6 h5 h';ext List items_cons Constant_int items_cons Constant_int items_cons Constant_int items_nil;refine ⟨by show (3 : Nat) ≤ sizeLine; decide, ?_⟩;have e5 : ∀ o : Obj, o.isFreed = false → (h6.push o).get? h6.objs.size = some o := fun o ho => get?_push_size _ ho;have ey5 := fun o : Obj => get?_push_of_some o ey;refine PySem.P.add_list (ey5 _) (e5 _ rfl) ?_ (by show ys.size + 3 ≤ sizeLine; rw [sizeLine_eq]; omega);ext items_cons Constant_int items_nil;refine ⟨by show (2 : Nat) ≤ sizeLine; decide, ?_⟩
  try dsimp only
  obtain ⟨ms, hm⟩ := zii (l := (ys ++ #[Value.int 5 tk', Value.int 0 (tk' + 1), Value.int 11 (tk' + 1 + 1)]).toList) fun v hv => by
   rw [toList_append] at hv;rcases mem_append.mp hv with hv | hv
   ·exact iy v hv
   ·simp only [mem_cons, not_mem_nil, or_false] at hv
    rcases hv with rfl | rfl | rfl <;> exact ⟨_, _, rfl⟩
  have lL : s.heap.objs.size ≤ h6.objs.size := le_of_lt D.ns.lt;have hs5 : ∀ o : Obj, (h6.push o).objs.size = h6.objs.size + 1 := fun o => size_push ..;have hs6 : ∀ o p : Obj, ((h6.push o).push p).objs.size = h6.objs.size + 1 + 1 := fun o p => by rw [size_push, size_push]
  refine hQ0 _ _ ?_;refine hR _ _ _ _ _ ms _ _ _ (((D.ext.and (.push _ _)).and (.push _ _)).and (.push _ _)) (get?_push_size _ rfl) (get?_push_of_some _ (get?_push_size _ rfl)) hm ?_ ?_ ?_ ?_ ?_
  ·rw [size_append]; show 0 < ys.size + 3; omega
  ·rw [size_append]; show ys.size + 3 ≤ 100; omega
  ·rw [hs6]; exact le_trans lL (le_add_right _ 2)
  ·rw [hs5, hs6]; exact ne_of_lt (lt_succ_self _)
  ·rw [hs5]; exact le_succ_of_le lL
 | succ n =>
  have hi' : i < items.size := by omega
  refine wpAny_pyNext_list_item hit ⟨_, e1, rfl, 0, rfl⟩ (Array.getElem?_eq_getElem hi') (fun h5 hit5 sb5 => ?_);obtain ⟨nv, tv, ev⟩ := iit items[i] (by simp);rw [ev];replace D := D.sb sb5 fit nit;replace nC := nC.sameBut sb5 (Ne.symm iC);replace e1 := (sb5.2 _ li).trans e1;replace ey := (sb5.2 _ (Ne.symm ia)).trans ey
  try dsimp only
  clear sb5 hit h';ext assign_Name;refine wpAny_storeName_local rfl nC (fun h6 hn6 hs6 => ?_) rfl;replace D := D.sb hs6 fC nLC;replace e1 := (hs6.2 _ lC).trans e1;replace ey := (hs6.2 _ aC).trans ey;have hit6 := hit5.at fun o e => (hs6.2 it iC).trans e;have T6 := D.top T (by simp)
  try dsimp only
  clear hs6 hit5 nC h5;ext BinOp Call_NameR;refine zae (by assumption) rfl rfl rfl (by boot_by_name) (by decide) ?_;ext o.call_bi items_cons;refine zaa hn6 ((if_pos (by decide))) ?_;ext items_nil;refine call_abs_int (fun u tk' => ?_);ext Constant_int;refine mod_int' (by decide) ?_;refine zao ey (by omega) (fun h7 n7 e7 sb7 => ?_);replace D := D.sb sb7 facc nacc
  try dsimp only
  refine ⟨n, lt_succ_self n, hin1 _ _ (xi6 (i + 1) h7 _ _ _ n7 ⟨by omega, rfl, D, hn6.sameBut sb7 (Ne.symm aC), (sb7.2 _ la').trans e1, hit6.at fun o e => (sb7.2 _ ia).trans e, e7, by rw [Array.size_push, sy], ?_⟩)⟩;intro v hv;rw [toList_push] at hv;rcases mem_append.mp hv with hv | hv
  ·exact iy v hv
  ·rw [mem_singleton.mp hv]; exact ⟨_, _, rfl⟩
end
section
theorem zgI {l : List Value} {ns : List Int} (h : IntsAre l ns) : ∀ {i : Nat}, i < l.length → ∃ x tx, l[i]? = some (.int x tx) := by
 induction h with
 | nil => intro i hi; cases hi
 | cons _ _ _ ih =>
  intro i hi;cases i with
  | zero => exact ⟨_, _, rfl⟩
  | succ i => simpa using ih (by simpa using hi)
theorem zhs {ns : List Int} (h : IntsAre vs.toList ns) {i : Nat} (hi : i < vs.size) : ∃ x tx, vs[i]? = some (.int x tx) := by
 obtain ⟨x, tx, e⟩ := zgI h (i := i) (by simpa using hi);exact ⟨x, tx, by simpa [getElem?_toList] using e⟩
theorem zbf {A : Around} {st nb : Addr} {many : Int} {t1 t2 : Tok} {ns : List Int} : ∀ (hA : Rm 500 A) (hh : A.handled = none) (T : TopH w s.heap) (hst : s.heap.IsList st #[.ref nb, .int at_ t1]) (hnb : s.heap.IsList nb vs) (hi : IntsAre vs.toList ns) (hl : 0 < vs.size) (hl2 : vs.size ≤ 100) (ht : at_ < 1000000) (hm : 0 < many) (hm2 : many ≤ 100) (hne : nb ≠ st) (hlow : 604 ≤ st) (hR : ∀ h' tk v tv t3, Ext [st] s.heap h' → h'.IsList st #[.ref nb, .int (at_ + 1 : Nat) t3] → 0 ≤ v → v < many → R (.ok (.ret (.int v tv))) ⟨h', s.gens, s.drawn, tk, s.os⟩), codeAny (model P w) A (.call (.ref 569) ⟨[.ref st, .int many t2], []⟩) R s := by
 unhygienic
 revert hen w A s R st nb at_ many t1 t2 ns vs;refine zbw [(Str.ofString "state", .ref st), (Str.ofString "many", .int many t2)] hA T (by rfl) (by rfl) (by rfl) (by rfl) (BindsTo.of_eq rfl) (by decide) (locs rfl) fun h₁ D hA' hh' => ?_;replace hh' := hh'.trans hh;refine za5 fun Q0 E0 hQ0 => ?_
 haveI hst1 := D.ext.isList hst not_mem_nil
 revert hen h₁ Q0 E0;ext execs_cons;refine Assign_Tuple_swapped (names := [Str.ofString "numbers", Str.ofString "at"]) ?_ (by rfl) (by rfl);ext o.Tuple_ items_cons o.Subscript_;refine zaa (Me.ns (by assumption)) rfl ?_;ext Constant_int;refine item_list hst1 (by decide) (by decide) rfl ?_;ext items_cons o.Subscript_;refine zaa (Me.ns (by assumption)) rfl ?_;ext Constant_int;refine item_list hst1 (by decide) (by decide) rfl ?_;ext items_nil;refine wpAny_newObj_type ?_ (by show (2 : Nat) ≤ sizeLine; decide);replace D := D.call (Ext.push h₁ { cls := .type "tuple", data := .seq #[.ref nb, .int at_ t1] });refine wpAny_unpackItems_tuple (items := #[.ref nb, .int at_ t1]) hh' ⟨_, get?_push_size _ rfl, rfl, 0, rfl⟩ (fun h2 hx => ?_);dsimp only at hx ⊢
 letI D := D.call (Ext.of_extBut hx)
 clear hx hst1;ext assignInOrder_more bindName
 (rename Me _ _ _ _ _ _ => D0; refine wpAny_storeName_local rfl D0.ns (fun h1 hn hs => ?_) rfl; have D1 := D0.store hn hs; clear hn hs; (try clear D0); dsimp only)
 ext assignInOrder_more bindName
 (rename Me _ _ _ _ _ _ => D0; refine wpAny_storeName_local rfl D0.ns (fun h1 hn hs => ?_) rfl; have D1 := D0.store hn hs; clear hn hs; (try clear D0); dsimp only)
 ext assignInOrder_none execs_cons Assign_Subscript BinOp;refine zaa (Me.ns (by assumption)) rfl ?_;ext Constant_int o.add_int;refine zaa (Me.ns (by assumption)) rfl ?_;ext Constant_int
 rename Me _ _ _ _ _ _ => D
 have hst2 := D.ext.isList hst not_mem_nil;refine wpAny_setItem_list hst2 (by decide) (by decide) (by show (1 : Int) < 2; decide) (fun h3 l3 s3 => ?_);dsimp only at s3 l3 ⊢;obtain ⟨o0, e0, _⟩ := id hst;obtain ⟨o3, e3, c3, n3, f3⟩ := l3
 haveI D3 := D.setOld e0 (ne_of_gt (lt_size e0)) s3 e3
 clear D hst2;have hnb3 := D3.ext.isList hnb (by simpa using hne);ext execs_cons Assign_Name BinOp;refine zaa (Me.ns (by assumption)) rfl ?_;ext Call_NameR;have T3 := D3.top T (by simpa using hlow);refine zae (by assumption) rfl rfl rfl (by boot_by_name) (by decide) ?_;ext o.call_bi items_cons;refine zaa (Me.ns (by assumption)) rfl ?_;ext items_nil;refine len_list hnb3 (by omega (splitDisjunctions := true)) ?_;refine floordiv_int (by omega (splitDisjunctions := true)) ?_;clear hnb3;ext d
 (rename Me _ _ _ _ _ _ => D0; refine wpAny_storeName_local rfl D0.ns (fun h1 hn hs => ?_) rfl; have D1 := D0.store hn hs; clear hn hs; (try clear D0); dsimp only)
 rename Me _ _ _ _ _ _ => D4
 haveI hnb4 := D4.ext.isList hnb (by simpa using hne)
 have T4 := D4.top T (by simpa using hlow);clear T3;ext execs_cons Return_some BinOp BinOp BinOp o.Subscript_;refine zaa (Me.ns (by assumption)) rfl ?_;ext BinOp;refine zaa (Me.ns (by assumption)) rfl ?_;ext Call_NameR;refine zae (by assumption) rfl rfl rfl (by boot_by_name) (by decide) ?_;ext o.call_bi items_cons;refine zaa (Me.ns (by assumption)) rfl ?_;ext items_nil;refine len_list hnb4 (by omega (splitDisjunctions := true)) ?_;refine mod_int' (by omega (splitDisjunctions := true)) ?_;have hz : 0 < (vs.size : Int) := by omega (splitDisjunctions := true)
 have q0 : 0 ≤ Int.fmod (at_ : Int) (vs.size : Int) := by rw [Int.fmod_eq_emod_of_nonneg _ (by omega (splitDisjunctions := true))]; exact Int.emod_nonneg _ (by omega (splitDisjunctions := true))
 have q1 : Int.fmod (at_ : Int) (vs.size : Int) < vs.size := by rw [Int.fmod_eq_emod_of_nonneg _ (by omega (splitDisjunctions := true))]; exact Int.emod_lt_of_pos _ hz
 obtain ⟨x, tx, hx⟩ : ∃ x tx, vs[(Int.fmod (at_ : Int) (vs.size : Int)).toNat]? = some (.int x tx) := zhs hi (by omega (splitDisjunctions := true));refine item_list hnb4 q0 (by omega (splitDisjunctions := true)) hx ?_;ext BinOp Constant_int;refine zaa (Me.ns (by assumption)) rfl ?_;ext o.add_int;have d0 : 0 ≤ Int.fdiv (at_ : Int) (vs.size : Int) := by rw [Int.fdiv_eq_ediv_of_nonneg _ (by omega (splitDisjunctions := true))]; exact Int.ediv_nonneg (by omega (splitDisjunctions := true)) (by omega (splitDisjunctions := true))
 have d1 : Int.fdiv (at_ : Int) (vs.size : Int) ≤ at_ := by rw [Int.fdiv_eq_ediv_of_nonneg _ (by omega (splitDisjunctions := true))]; exact Int.ediv_le_self _ (by omega (splitDisjunctions := true))
 refine floordiv_int (by omega (splitDisjunctions := true)) ?_;ext BinOp Constant_int;refine zaa (Me.ns (by assumption)) rfl ?_;refine mul_int ?_ (IntMulOk.of_left (intBits_le_64 (by decide) (by decide)));ext o.add_int;refine zaa (Me.ns (by assumption)) rfl ?_;refine mod_int' (by omega (splitDisjunctions := true)) ?_;ext d;refine hQ0 _ _ ?_;refine hR _ _ _ _ _ D4.ext ⟨o3, D4.at 0 rfl, c3, n3, f3⟩ ?_ ?_
 ·rw [Int.fmod_eq_emod_of_nonneg _ (by omega (splitDisjunctions := true))]; exact Int.emod_nonneg _ (by omega (splitDisjunctions := true))
 ·rw [Int.fmod_eq_emod_of_nonneg _ (by omega (splitDisjunctions := true))]; exact Int.emod_lt_of_pos _ hm
end
section
theorem Ext.cell (x : Ext mod h h') {c : Addr} {v : Option Value} (q : h.IsCell c v) (hm : c ∉ mod) : h'.IsCell c v := by
 obtain ⟨o, e, hd⟩ := q;rcases x.keep c o e hm with z | ⟨_, ps, more, rfl, _⟩
 ·exact ⟨o, z, hd⟩
 ·cases hd
theorem zak {c : Addr} {v : Option Value} (q : h.IsCell c v) (he : Heap.ExtBut a h h') (ne : c ≠ a) : h'.IsCell c v := by
 obtain ⟨o, e, hd⟩ := q;exact ⟨o, he _ _ ne e, hd⟩
theorem Me.callM {mod' : List Addr} (D : Me mod h₀ h L m []) (x : Ext mod' h h') (hs : ∀ a ∈ mod', a ∈ mod ∨ h₀.get? a = none) (hL : L ∉ mod') : Me mod h₀ h' L m [] :=
 ⟨D.ext.trans x hs, zaA x D.ns hL, fun _ q => (nomatch q), nodup_nil, fun _ q => (nomatch q), fun _ q => (nomatch q), D.offL⟩
theorem Me.may {mod : List Addr} (D : Me mod h₀ h L m []) (hs : ∀ a ∈ mod, a ∈ mod') : Me mod' h₀ h L m [] :=
 ⟨D.ext.mono hs, D.ns, fun _ q => (nomatch q), nodup_nil, fun _ q => (nomatch q), fun _ q => (nomatch q), D.offL.imp (hs _) id⟩
theorem zf7 {w : World} {fd : FuncData} {vals : List Value} (binds : List (Str × Value)) {n : Nat} (hA : Rm n A) (T : TopH w s.heap)
  (ho : (KK w).lookup a = some o) (hdata : o.data = .func fd) (hcd : codeIn (KK w) fd.code fd.qualname = true)
  (hbody : fd.body = .stmts body) (hbind : bindArgs fd ⟨vals, []⟩ = pure binds) (hclo : fd.closure = [])
  (hkind : ∀ x ∈ binds, fd.scope.names.lookup x.1 = some .local ∨ (fd.scope.names.lookup x.1 = some .cell ∧ ((cellsFrom (s.heap.objs.size + 1) fd.scope.names []).lookup x.1).isSome = true))
  (h : ∀ h₁ tk, Me [] s.heap h₁ s.heap.objs.size (bindL (callEnvC fd s.heap.objs.size a).kindOf binds fun _ => none) [] →
   (∀ n c, (callEnvC fd s.heap.objs.size a).cells.lookup n = some c → h₁.IsCell c (bindC (callEnvC fd s.heap.objs.size a).kindOf binds (fun _ => none) n)) →
   Rm (n + 1) (A.deeper (callEnvC fd s.heap.objs.size a)) → (A.deeper (callEnvC fd s.heap.objs.size a)).handled = A.handled →
   wpAny (model P w) (A.deeper (callEnvC fd s.heap.objs.size a)) (execs body (callEnvC fd s.heap.objs.size a)) (fun f s' => R (.ok (.ret (match f with | .ret v => v | _ => .none))) s')
    (fun e s' => wpAny (model P w) (A.deeper (callEnvC fd s.heap.objs.size a)) (leaving (callEnvC fd s.heap.objs.size a) e) (fun _ s'' => R (.error e) s'') (fun e' s'' => R (.error e') s'') s')
    { s with heap := h₁, toks := tk })
  (hn : n ≤ 600 := by decide) (hco : fd.scope.isCoroutine = false := by rfl) (hgen : fd.scope.isGenerator = false := by rfl) (hk : fd.scope.kind = .function := by rfl) : codeAny (model P w) A (.call (.ref a) ⟨vals, []⟩) R s := by
 refine codeAny_call_cells (hA.dlt hn) (T.K _ _ ho) hdata T.lim (codeRec_of T.K hcd) hbody hbind hclo hkind (fun s₁ X => ?_) hco hgen hk;obtain ⟨h₁, tk, rfl, k⟩ := X.done;exact h h₁ tk (.start X.toInCall.ns k) X.cell (hA.deeper _) rfl
end
section
theorem Rd.keep {d : PyData} (x : Rd b h v d) (k : ∀ a o, b ≤ a → h.get? a = some o → h'.get? a = some o) : Rd b h' v d := by
 induction x with
 | int i t => exact .int i t
 | str x t => exact .str x t
 | list h1 h2 h3 _ ih => exact .list h1 (let ⟨o, e, r⟩ := h2; ⟨o, k _ _ h1 e, r⟩) h3 fun i v d e1 e2 => ih i v d e1 e2
 | tup h1 h2 h3 _ ih => exact .tup h1 (let ⟨o, e, r⟩ := h2; ⟨o, k _ _ h1 e, r⟩) h3 fun i v d e1 e2 => ih i v d e1 e2
def RdAll (b : Addr) (h : Heap) (vs : Array Value) (ds : List PyData) : Prop := vs.size = ds.length ∧ ∀ (i : Nat) (v : Value) (d : PyData), vs[i]? = some v → ds[i]? = some d → Rd b h v d
theorem RdAll.keep (x : RdAll b h vs ds) (k : ∀ a o, b ≤ a → h.get? a = some o → h'.get? a = some o) : RdAll b h' vs ds := ⟨x.1, fun i v d e1 e2 => (x.2 i v d e1 e2).keep k⟩
theorem RdAll.same (x : RdAll b h vs ds) (he : Heap.ExtBut a h h') (l : a < b) : RdAll b h' vs ds := x.keep fun c o q e => he c o (ne_of_gt (lt_of_lt_of_le l q)) e
theorem RdAll.ext {mod : List Addr} (x : RdAll b h vs ds) (e : Ext mod h h') (hm : ∀ a ∈ mod, a < b ∨ h.get? a = none) : RdAll b h' vs ds := ⟨x.1, fun i v d e1 e2 => (x.2 i v d e1 e2).ext e hm⟩
theorem RdAll.nil : RdAll b h #[] [] := ⟨rfl, fun i v d e1 => by simp at e1⟩
theorem RdAll.snoc {d : PyData} (x : RdAll b h vs ds) (r : Rd b h v d) : RdAll b h (vs.push v) (ds ++ [d]) := by
 refine ⟨by rw [Array.size_push, length_append, x.1]; rfl, fun i v' d' e1 e2 => ?_⟩
 by_cases hi : i < vs.size
 ·rw [getElem?_push, if_neg (by omega)] at e1
  rw [getElem?_append_left (by rw [← x.1]; exact hi)] at e2;exact x.2 i v' d' e1 e2
 ·rw [getElem?_push] at e1
  split at e1
  ·rename_i hz
   cases e1;rw [hz, x.1, getElem?_append_right (le_refl _), sub_self] at e2;cases e2;exact r
  ·rw [getElem?_eq_none (by omega)] at e1; cases e1
theorem RdAll.mono (x : RdAll b h vs ds) (l : b' ≤ b) : RdAll b' h vs ds := ⟨x.1, fun i v d e1 e2 => (x.2 i v d e1 e2).mono l⟩
theorem RdAll.at (x : RdAll b h vs ds) {n : Nat} (e : h.get? a = some (zad vs n)) (l : b ≤ a) : LsAt b h a vs ds := ⟨l, ⟨_, e, rfl, n, rfl⟩, x.1, x.2⟩
abbrev abcd : List Str := [Str.ofString "a", Str.ofString "b", Str.ofString "c", Str.ofString "d"]
theorem zhu {v : Int} (h0 : 0 ≤ v) (h4 : v < 4) : ∃ c : Nat, ((seqIndex? v (Str.ofString "abcd").length).bind ((Str.ofString "abcd").cps[·]?) = some c) ∧ (⟨#[c]⟩ : Str) ∈ abcd := by
 have : v = 0 ∨ v = 1 ∨ v = 2 ∨ v = 3 := by omega
 rcases this with rfl | rfl | rfl | rfl
 ·exact ⟨97, by rfl, by decide⟩
 ·exact ⟨98, by rfl, by decide⟩
 ·exact ⟨99, by rfl, by decide⟩
 ·exact ⟨100, by rfl, by decide⟩
theorem zfd {A : Around} {st nb : Addr} {t1 : Tok} {ns : List Int} : ∀ (hA : Rm 490 A) (hh : A.handled = none) (T : TopH w s.heap) (hst : s.heap.IsList st #[.ref nb, .int at_ t1]) (hnb : s.heap.IsList nb vs) (hi : IntsAre vs.toList ns) (hl : 0 < vs.size) (hl2 : vs.size ≤ 100) (ht : at_ < 900000) (hne : nb ≠ st) (hlow : 604 ≤ st) (hR : ∀ h' tk r us (ps : List (Str × Int)) at2 t3, Ext [st] s.heap h' → h'.IsList st #[.ref nb, .int (at2 : Nat) t3] → at2 ≤ at_ + 13 → LsAt s.heap.objs.size h' r us (ps.map zan) → ps.length ≤ 6 → (∀ p ∈ ps, p.1 ∈ abcd ∧ 0 ≤ p.2 ∧ p.2 < 9) →
   R (.ok (.ret (.ref r))) ⟨h', s.gens, s.drawn, tk, s.os⟩), codeAny (model P w) A (.call (.ref 579) ⟨[.ref st], []⟩) R s := by
 unhygienic
 revert hen w A s R st nb at_ t1 ns vs;refine zf7 [(Str.ofString "state", .ref st)] hA T (by rfl) (by rfl) (by rfl) (by rfl) (by rfl) (by rfl) (fun x q => by rw [mem_singleton.mp q]; exact .inr ⟨by rfl, by rfl⟩) fun h₁ tk0 D X hA' hh' => ?_;replace hh' := hh'.trans hh;refine za5 fun Q0 E0 hQ0 => ?_;have T1 := D.top T (by simp);have C := X (Str.ofString "state") (s.heap.objs.size + 1) rfl;have fC : s.heap.get? (s.heap.objs.size + 1) = none := zac (le_succ _);ext execs_cons Return_some;refine zcr (cl := [(Str.ofString "state", s.heap.objs.size + 1)]) (by rfl) rfl (by decide) (by decide) ?_;ext Call_NameR;refine zae (by assumption) rfl rfl rfl (by boot_by_name) (by decide) ?_;ext o.call_bi items_cons Call_NameR;refine zaj (by assumption) rfl (by rfl) ?_;ext o.cf;ext items_cons;refine wpAny_Name (wpAny_loadName_cell rfl rfl (c := s.heap.objs.size + 1) rfl C ?_) (by decide);ext items_cons Constant_int items_nil;refine ⟨T1, ?_⟩;ext call;have hst1 := D.ext.isList hst not_mem_nil;have hnb1 := D.ext.isList hnb not_mem_nil;have nst : s.heap.objs.size ≠ st := fun q => by obtain ⟨o, e, _⟩ := hst; rw [← q] at e; exact absurd (lt_size e) (lt_irrefl _)
 have nstC : s.heap.objs.size + 1 ≠ st := fun q => by obtain ⟨o, e, _⟩ := hst; rw [← q] at e; exact absurd (lt_size e) (not_lt.mpr (le_succ _))
 refine zbf (hA'.mono (by decide)) hh' T1 hst1 hnb1 hi hl hl2 (by omega) (by decide) (by decide) hne hlow (fun h2 tk2 cnt tcn t3 e2 hst2 hc0 hc7 => ?_);replace D := (D.may (mod' := [st]) (by simp)).callM e2 (fun a q => .inl q) (by rw [mem_singleton]; exact nst);replace C := e2.cell C (by rw [mem_singleton]; exact nstC);revert hen h₁ tk0 Q0 E0 h2 tk2 cnt tcn t3
 try dsimp only
 clear e2 hst1 hnb1 T1 X;ext items_nil o.call_range_1
 try dsimp only
 refine wpAny_pyIter_range (IsRange.new ..) (small_one (by decide) (by decide) (by omega) (by omega)) ?_;rw [rangeSize_one];have hcn : (if (0 : Int) < cnt then cnt - 0 else 0) = cnt := by split <;> omega
 rw [hcn]
 try dsimp only
 replace D := D.call (Ext.push h2 { cls := .type "range", data := .fields #[.int 0 tk2, .int cnt tcn, .int 1 (tk2 + 1)] });replace hst2 := (Ext.push h2 { cls := .type "range", data := .fields #[.int 0 tk2, .int cnt tcn, .int 1 (tk2 + 1)] }).isList hst2 not_mem_nil;replace C := (Ext.push h2 { cls := .type "range", data := .fields #[.int 0 tk2, .int cnt tcn, .int 1 (tk2 + 1)] }).cell C not_mem_nil;generalize h2.push { cls := .type "range", data := .fields #[.int 0 tk2, .int cnt tcn, .int 1 (tk2 + 1)] } = h3 at D hst2 C ⊢;have fit : s.heap.get? h3.objs.size = none := D.fresh;have nit : s.heap.objs.size ≠ h3.objs.size := ne_of_lt D.ns.lt;have Cit : s.heap.objs.size + 1 ≠ h3.objs.size := by obtain ⟨o, e, _⟩ := C; exact ne_of_lt (lt_size e)
 have stit : st ≠ h3.objs.size := by obtain ⟨o, e, _⟩ := hst2; exact ne_of_lt (lt_size e)
 have hit : IsRangeIter (h3.push { cls := .type "range_iterator", data := .fields #[rawInt 0, rawInt cnt, rawInt 1] }) h3.objs.size 0 cnt 1 := get?_push_size _ rfl;replace D := D.call (Ext.push h3 { cls := .type "range_iterator", data := .fields #[rawInt 0, rawInt cnt, rawInt 1] });replace hst2 := (Ext.push h3 { cls := .type "range_iterator", data := .fields #[rawInt 0, rawInt cnt, rawInt 1] }).isList hst2 not_mem_nil;replace C := (Ext.push h3 { cls := .type "range_iterator", data := .fields #[rawInt 0, rawInt cnt, rawInt 1] }).cell C not_mem_nil;generalize h3.objs.size = it at fit nit Cit stit hit ⊢;generalize h3.push { cls := .type "range_iterator", data := .fields #[rawInt 0, rawInt cnt, rawInt 1] } = h4 at D hst2 C hit ⊢;clear h3;revert hen it h4;refine ⟨fun E' Q' h' k tk q => wpAny_pyIter_rangeiter (s := ⟨h', _, _, _, _⟩) (k _ _ hit) q, ?_⟩;intro h5 Cc tk k5 eacc hC nC;revert hen h5 Cc tk
 try dsimp only at k5 eacc hC ⊢
 have facc : s.heap.get? h4.objs.size = none := D.fresh;have nacc : s.heap.objs.size ≠ h4.objs.size := ne_of_lt D.ns.lt;have lacc : s.heap.objs.size ≤ h4.objs.size := le_of_lt D.ns.lt;have ia : it < h4.objs.size := lt_size hit;have Ca : s.heap.objs.size + 1 < h4.objs.size := by obtain ⟨o, e, _⟩ := C; exact lt_size e
 have sta : st < h4.objs.size := by obtain ⟨o, e, _⟩ := hst2; exact lt_size e
 have fCc : s.heap.get? Cc = none := zac (by rw [hC]; exact le_succ_of_le lacc);have nLC : s.heap.objs.size ≠ Cc := by rw [hC]; exact ne_of_lt (Nat.lt_succ_of_le lacc)
 have aC : h4.objs.size < Cc := by rw [hC]; exact lt_succ_self _
 replace hit : IsRangeIter h5 it 0 cnt 1 := k5 _ _ hit;replace hst2 := (Ext.of_keeps k5).isList hst2 not_mem_nil;replace C := (Ext.of_keeps k5).cell C not_mem_nil;replace D := D.call (.of_keeps k5);generalize h4.objs.size = acc at *;clear k5 hC;have hC5 : Cc < h5.objs.size := nC.lt;replace D : ∃ m0, Me [st] s.heap h5 s.heap.objs.size m0 [] := ⟨_, D⟩;obtain ⟨m0, D⟩ := D;revert hen acc m0;refine opq (p := fun (n : Nat) (s' : Shared) => ∃ (i : Nat), ∃ h' tk' mC ys ny, ∃ (at2 : Nat), ∃ t2, ∃ ps : List (Str × Int), (n : Int) + (i : Int) = cnt ∧ s' = ⟨h', s.gens, s.drawn, tk', s.os⟩ ∧ Me [st] s.heap h' s.heap.objs.size m0 [] ∧ h'.IsCell (s.heap.objs.size + 1) (some (.ref st)) ∧ h'.Ns Cc mC ∧ IsRangeIter h' it (i : Int) (cnt - (i : Int)) 1 ∧ h'.get? acc = some (zad ys ny) ∧ RdAll (Cc + 1) h' ys (ps.map zan) ∧ ps.length = i ∧ h'.IsList st #[.ref nb, .int (at2 : Nat) t2] ∧ at2 ≤ at_ + 1 + 2 * i ∧ ∀ p ∈ ps, p.1 ∈ abcd ∧ 0 ≤ p.2 ∧ p.2 < 9) fun Iv1 hin1 hout1 => ?_;revert hen Iv1;refine codeAny_compLoop_list Iv1 ?_ cnt.toNat (hin1 _ _ ?_)
 rotate_left
 ·exact ⟨0, h5, _, _, #[], 0, at_ + 1, _, [], by omega, rfl, D, C, nC, by simpa using hit, eacc, .nil, rfl, hst2, by omega, fun p q => nomatch q⟩
 clear D C nC hst2 hit eacc hC5;intro n s' hI;obtain ⟨i, h', tk', mC, ys, ny, at2, t2, ps, hn, rfl, D, C, nC, hit, ey, rd, lp, hst2, lat, good⟩ := hout1 _ _ hI;clear hI;cases n with
 | zero =>
  revert hen i h' tk' mC ys ny at2 t2 ps;refine wpAny_pyNext_range_end hh' hit (by omega) (fun h6 he => ?_);have itC : it ≠ Cc := ne_of_lt (lt_trans ia aC);replace D := D.ownE he fit nit;have nC6 : h6.Ns Cc mC := let ⟨o, es, ep, q, r⟩ := nC; ⟨o, es, ep, he _ _ (Ne.symm itC) q, r⟩
  replace ey := he _ _ (ne_of_gt ia) ey;replace rd := rd.same he (lt_succ_of_lt (lt_trans ia aC));replace hst2 : h6.IsList st _ := let ⟨o, q, r⟩ := hst2; ⟨o, he _ _ stit q, r⟩
  revert hen h6
  try dsimp only
  refine ⟨mC, nC6, fun h7 sb7 => ?_⟩;replace D := D.sb sb7 fCc nLC;replace ey := (sb7.2 _ (ne_of_lt aC)).trans ey;replace rd := rd.same sb7.extBut (lt_succ_self _);replace hst2 : h7.IsList st _ := let ⟨o, q, r⟩ := hst2; ⟨o, (sb7.2 _ (ne_of_lt (lt_trans sta aC))).trans q, r⟩
  refine hQ0 _ _ ?_;exact hR _ _ _ _ ps at2 _ D.ext hst2 (by omega) ((rd.mono (le_succ_of_le (le_of_lt (lt_of_le_of_lt lacc aC)))).at ey lacc) (by omega) good
 | succ n =>
  revert hen i h' tk' mC ys ny at2 t2 ps n;refine wpAny_pyNext_range_item hit (by omega) (fun h5 hit5 sb5 => ?_);have itC : it ≠ Cc := ne_of_lt (lt_trans ia aC);have stC : st ≠ Cc := ne_of_lt (lt_trans sta aC);have CC : s.heap.objs.size + 1 ≠ Cc := ne_of_lt (lt_trans Ca aC);replace D := D.sb sb5 fit nit;replace C := zak C sb5.extBut Cit;replace nC := nC.sameBut sb5 (Ne.symm itC);replace ey := (sb5.2 _ (ne_of_gt ia)).trans ey;replace rd := rd.same sb5.extBut (lt_succ_of_lt (lt_trans ia aC));replace hst2 : h5.IsList st _ := let ⟨o, q, r⟩ := hst2; ⟨o, (sb5.2 _ stit).trans q, r⟩
  try dsimp only
  clear sb5 hit;ext assign_Name;refine wpAny_storeName_local rfl nC (fun h6 hn6 hs6 => ?_) rfl;replace D := D.sb hs6 fCc nLC;replace C := zak C hs6.extBut CC;replace ey := (hs6.2 _ (ne_of_lt aC)).trans ey;replace rd := rd.same hs6.extBut (lt_succ_self _);replace hst2 : h6.IsList st _ := let ⟨o, q, r⟩ := hst2; ⟨o, (hs6.2 _ stC).trans q, r⟩
  replace hit5 : IsRangeIter h6 it _ _ _ := (hs6.2 _ itC).trans hit5;have T6 := D.top T (by simp [hlow]);revert hen h5 h6
  try dsimp only
  clear hs6 nC;ext o.Tuple_ items_cons o.Subscript_ Constant_str Call_NameR;refine zaj (by assumption) rfl (by rfl) ?_;ext o.cf;ext items_cons;refine wpAny_Name (wpAny_loadName_cell rfl rfl (c := s.heap.objs.size + 1) rfl C ?_) (by decide);ext items_cons Constant_int items_nil;refine ⟨T6, ?_⟩;ext call;have nb6 := D.ext.isList hnb (by rw [mem_singleton]; exact hne);refine zbf (hA'.mono (by decide)) hh' T6 hst2 nb6 hi hl hl2 (by omega) (by decide) (by decide) hne hlow (fun h7 tk7 v1 tv1 t7 e7 hst7 hv0 hv4 => ?_);replace D := D.callM e7 (fun a q => .inl q) (by rw [mem_singleton]; exact nst);replace C := e7.cell C (by rw [mem_singleton]; exact nstC);replace hn6 := zaA e7 hn6 (by rw [mem_singleton]; exact Ne.symm stC);replace ey := e7.get ey rfl (by rw [mem_singleton]; exact ne_of_gt sta);replace rd := rd.ext e7 (fun a q => by rw [mem_singleton.mp q]; exact .inl (lt_succ_of_lt (lt_trans sta aC)));replace hit5 : IsRangeIter h7 it _ _ _ := e7.get hit5 rfl (by rw [mem_singleton]; exact Ne.symm stit);revert hen h7 tk7 v1 tv1 t7
  try dsimp only
  clear e7 hst2 T6 nb6;have T7 := D.top T (by simp [hlow]);have nb7 := D.ext.isList hnb (by rw [mem_singleton]; exact hne);obtain ⟨c, hc, hin⟩ := zhu hv0 hv4;revert hen c;refine subscriptTail_builtin (typeIs_str _ _ _) PySem.F.slot_str_getitem.lookup (PySem.P.getItem_str (by rw [Bool.or_eq_false_iff]; exact ⟨decide_eq_false (by omega), decide_eq_false (by omega)⟩) hc ?_)
  try dsimp only
  ext items_cons Call_NameR;refine zaj (by assumption) rfl (by rfl) ?_;ext o.cf;ext items_cons;refine wpAny_Name (wpAny_loadName_cell rfl rfl (c := s.heap.objs.size + 1) rfl C ?_) (by decide);ext items_cons Constant_int items_nil;refine ⟨T7, ?_⟩;ext call;refine zbf (hA'.mono (by decide)) hh' T7 hst7 nb7 hi hl hl2 (by omega) (by decide) (by decide) hne hlow (fun h8 tk8 v2 tv2 t8 e8 hst8 hv0' hv9 => ?_);replace D := D.callM e8 (fun a q => .inl q) (by rw [mem_singleton]; exact nst);replace C := e8.cell C (by rw [mem_singleton]; exact nstC);replace hn6 := zaA e8 hn6 (by rw [mem_singleton]; exact Ne.symm stC);replace ey := e8.get ey rfl (by rw [mem_singleton]; exact ne_of_gt sta);replace rd := rd.ext e8 (fun a q => by rw [mem_singleton.mp q]; exact .inl (lt_succ_of_lt (lt_trans sta aC)));replace hit5 : IsRangeIter h8 it _ _ _ := e8.get hit5 rfl (by rw [mem_singleton]; exact Ne.symm stit);revert hen h8 tk8 v2 tv2 t8
  try dsimp only
  clear e8 hst7 T7 nb7;ext items_nil;refine wpAny_newObj_type ?_ (by show (2 : Nat) ≤ sizeLine; decide)
  try dsimp only
  have lC8 : Cc + 1 ≤ h8.objs.size := hn6.lt;have rp : Rd (Cc + 1) (h8.push { cls := .type "tuple", data := .seq #[.str ⟨#[c]⟩ tk7, .int v2 tv2] }) (.ref h8.objs.size) (zan (⟨#[c]⟩, v2)) := by
   refine .tup lC8 ⟨_, get?_push_size _ rfl, rfl, 0, rfl⟩ rfl (fun i v d e1 e2 => ?_)
   match i with
   | 0 => cases e1; cases e2; exact .str _ _
   | 1 => cases e1; cases e2; exact .int _ _
   | i + 2 => simp at e1
  have ex8 := Ext.push h8 { cls := .type "tuple", data := .seq #[.str ⟨#[c]⟩ tk7, .int v2 tv2] };replace D := D.call ex8;replace C := ex8.cell C not_mem_nil;replace hn6 := zaA ex8 hn6 not_mem_nil;replace ey := ex8.get ey rfl not_mem_nil;replace rd := (rd.ext ex8 (fun a q => nomatch q)).snoc rp;replace hit5 : IsRangeIter _ it _ _ _ := ex8.get hit5 rfl not_mem_nil;replace hst8 := ex8.isList hst8 not_mem_nil;generalize h8.objs.size = ta at rd ⊢;generalize h8.push { cls := .type "tuple", data := .seq #[.str ⟨#[c]⟩ tk7, .int v2 tv2] } = h9 at D C hn6 ey rd hit5 hst8 ⊢;clear rp ex8 lC8;have sy : ys.size = i := by have := rd.1; rw [Array.size_push, length_append, length_map, List.length_singleton] at this; omega
  refine zao ey (by omega) (fun h10 n10 e10 sb10 => ?_)
  try dsimp only
  refine ⟨n, lt_succ_self n, hin1 _ _ (xi9 (i + 1) h10 _ _ _ n10 (at2 + 1 + 1) t8 (ps ++ [(⟨#[c]⟩, v2)]) ⟨by omega, rfl, D.sb sb10 facc nacc, zak C sb10.extBut (ne_of_lt Ca), hn6.sameBut sb10 (ne_of_gt aC), ?_, e10, ?_, by rw [length_append, lp]; rfl, ?_, ?_, ?_⟩)⟩
  ·have := (sb10.2 _ (ne_of_lt ia)).trans hit5
   have z : cnt - ((i + 1 : Nat) : Int) = cnt - (i : Int) - 1 := by omega
   rw [z];exact this
  ·rw [map_append]
   exact rd.same sb10.extBut (lt_succ_of_lt aC)
  ·exact let ⟨o, q, r⟩ := hst8; ⟨o, (sb10.2 _ (ne_of_lt sta)).trans q, r⟩
  ·omega
  ·intro p hp
   rcases mem_append.mp hp with hp | hp
   ·exact good p hp
   ·rw [mem_singleton.mp hp]; exact ⟨hin, hv0', hv9⟩
end
section
inductive RdP (p : Addr → Prop) (h : Heap) : Value → PyData → Prop
 | int (i : Int) (t : Tok) : RdP p h (.int i t) (.int i)
 | str (x : Str) (t : Tok) : RdP p h (.str x t) (.str x)
 | list {a : Addr} {vs : Array Value} {ds : List PyData} : p a → h.IsList a vs → vs.size = ds.length → (∀ (i : Nat) (v : Value) (d : PyData), vs[i]? = some v → ds[i]? = some d → RdP p h v d) → RdP p h (.ref a) (.list ds)
 | tup {a : Addr} {vs : Array Value} {ds : List PyData} : p a → IsTup h a vs → vs.size = ds.length → (∀ (i : Nat) (v : Value) (d : PyData), vs[i]? = some v → ds[i]? = some d → RdP p h v d) → RdP p h (.ref a) (.tuple ds)
section
variable {p q : Addr → Prop} {d : PyData}
theorem RdP.toRd (x : RdP p h v d) (k : ∀ a, p a → b ≤ a) : Rd b h v d := by
 induction x with
 | int i t => exact .int i t
 | str x t => exact .str x t
 | list h1 h2 h3 _ ih => exact .list (k _ h1) h2 h3 fun i v d e1 e2 => ih i v d e1 e2
 | tup h1 h2 h3 _ ih => exact .tup (k _ h1) h2 h3 fun i v d e1 e2 => ih i v d e1 e2
theorem Rd.toP (x : Rd b h v d) (k : ∀ a o, b ≤ a → h.get? a = some o → p a) : RdP p h v d := by
 induction x with
 | int i t => exact .int i t
 | str x t => exact .str x t
 | list h1 h2 h3 _ ih => exact .list (let ⟨o, e, _⟩ := h2; k _ _ h1 e) h2 h3 fun i v d e1 e2 => ih i v d e1 e2
 | tup h1 h2 h3 _ ih => exact .tup (let ⟨o, e, _⟩ := h2; k _ _ h1 e) h2 h3 fun i v d e1 e2 => ih i v d e1 e2
theorem RdP.keep (x : RdP p h v d) (k : ∀ a o, p a → h.get? a = some o → h'.get? a = some o) : RdP p h' v d := by
 induction x with
 | int i t => exact .int i t
 | str x t => exact .str x t
 | list h1 h2 h3 _ ih => exact .list h1 (let ⟨o, e, r⟩ := h2; ⟨o, k _ _ h1 e, r⟩) h3 fun i v d e1 e2 => ih i v d e1 e2
 | tup h1 h2 h3 _ ih => exact .tup h1 (let ⟨o, e, r⟩ := h2; ⟨o, k _ _ h1 e, r⟩) h3 fun i v d e1 e2 => ih i v d e1 e2
theorem RdP.same (x : RdP p h v d) {c : Addr} (he : Heap.ExtBut c h h') (n : ¬ p c) : RdP p h' v d := x.keep fun a o q e => he a o (fun z => n (z ▸ q)) e
theorem RdP.pairE {x y : PyData} (r : RdP p h v (.tuple [x, y])) : ∃ a u z, v = .ref a ∧ p a ∧ IsTup h a #[u, z] ∧ RdP p h u x ∧ RdP p h z y := by
 cases r with
 | tup h1 h2 h3 h4 =>
  rename_i a vs
  obtain ⟨l⟩ := vs;obtain ⟨u, z, rfl⟩ : ∃ u z, l = [u, z] := by
   match l, h3 with
   | [u, z], _ => exact ⟨u, z, rfl⟩
  exact ⟨a, u, z, rfl, h1, h2, h4 0 u _ rfl rfl, h4 1 z _ rfl rfl⟩
def RowP (p : Addr → Prop) (h : Heap) (vs : Array Value) (ds : List PyData) : Prop := vs.size = ds.length ∧ ∀ (i : Nat) (v : Value) (d : PyData), vs[i]? = some v → ds[i]? = some d → RdP p h v d
theorem RowP.keep (x : RowP p h vs ds) (k : ∀ a o, p a → h.get? a = some o → h'.get? a = some o) : RowP p h' vs ds := ⟨x.1, fun i v d e1 e2 => (x.2 i v d e1 e2).keep k⟩
theorem RowP.same (x : RowP p h vs ds) {c : Addr} (he : Heap.ExtBut c h h') (n : ¬ p c) : RowP p h' vs ds := ⟨x.1, fun i v d e1 e2 => (x.2 i v d e1 e2).same he n⟩
theorem RowP.nil : RowP p h #[] [] := ⟨rfl, fun i v d e1 => by simp at e1⟩
theorem RowP.snoc (x : RowP p h vs ds) (r : RdP p h v d) : RowP p h (vs.push v) (ds ++ [d]) := by
 refine ⟨by rw [Array.size_push, length_append, x.1]; rfl, fun i v' d' e1 e2 => ?_⟩
 by_cases hi : i < vs.size
 ·rw [getElem?_push, if_neg (by omega)] at e1
  rw [getElem?_append_left (by rw [← x.1]; exact hi)] at e2;exact x.2 i v' d' e1 e2
 ·rw [getElem?_push] at e1
  split at e1
  ·rename_i hz
   cases e1;rw [hz, x.1, getElem?_append_right (le_refl _), sub_self] at e2;cases e2;exact r
  ·rw [getElem?_eq_none (by omega)] at e1; cases e1
theorem RowP.rd (x : RowP p h vs ds) (k : ∀ a, p a → b ≤ a) : RdAll b h vs ds := ⟨x.1, fun i v d e1 e2 => (x.2 i v d e1 e2).toRd k⟩
end
section
theorem zbi {it acc : Value} (I : Nat → Shared → Prop)
  (turn : ∀ n s, I n s → wpAny (model prog w) A (pyNext it) (fun r s₁ => match r with
   | none => R (.ok .next) s₁
   | some v => wpAny (model prog w) A (letOwnedTupleGo target it v) (fun _ s₁' => wpAny (model prog w) A (assign target env v) (fun _ s₂ =>
     wpAny (model prog w) A (forIn ifs true fun c r => if r = true then do let ok ← isTrue c env (eval c env); pure (ForInStep.yield ok) else pure (ForInStep.yield r)) (fun ok s₃ =>
      if ok = true then wpAny (model prog w) A (eval elt env) (fun x s₄ =>
       wpAny (model prog w) A (call (.builtin "list.append") [acc, x]) (fun _ s₅ => ∃ m, m < n ∧ I m s₅) (notedBy (model prog w) A env fun e s' => R (.error e) s') s₄) (notedBy (model prog w) A env fun e s' => R (.error e) s') s₃
      else ∃ m, m < n ∧ I m s₃) (notedBy (model prog w) A env fun e s' => R (.error e) s') s₂) (notedBy (model prog w) A env fun e s' => R (.error e) s') s₁') (notedBy (model prog w) A env fun e s' => R (.error e) s') s₁) (notedBy (model prog w) A env fun e s' => R (.error e) s') s)
  (n : Nat) (h : I n s) :
  codeAny (model prog w) A (.compLoop (.ListComp elt [⟨target, iter, ifs, 0⟩] scope pos) 0 it acc env) R s := by
 unhygienic
 revert hen prog w A R s elt target iter ifs scope pos it acc env I n;refine codeAny_loop rfl I (fun n s hI => ?_) n h;show wpAny _ A ((compTurn (.ListComp elt [⟨target, iter, ifs, 0⟩] scope pos) 0 it acc env).onRaise (fun x => do noteFrame x env; theTreesLotGoes x)) _ _ s;ext noted;rw [compTurn_list];refine wpAny_bind (wpAny_standAt (wpAny_bind (wpAny_mono (turn n s hI) (fun r s₁ h₁ => ?_) fun _ _ h' => h')));cases r with
 | none => exact wpAny_pure h₁
 | some v =>
  refine wpAny_bind (wpAny_mono h₁ (fun _ s₁' h₁' => ?_) fun _ _ h' => h');refine wpAny_bind (wpAny_mono h₁' (fun _ s₂ h₂ => wpAny_bind (wpAny_mono h₂ (fun ok s₃ h₃ => ?_) fun _ _ h' => h')) fun _ _ h' => h');cases ok with
  | false => exact wpAny_pure ⟨rfl, h₃⟩
  | true =>
   exact wpAny_bind (wpAny_bind (wpAny_mono h₃ (fun x s₄ h₄ => wpAny_bind (wpAny_mono h₄ (fun _ s₅ h₅ => wpAny_pure (wpAny_pure ⟨rfl, h₅⟩)) fun _ _ h' => h')) fun _ _ h' => h'))
end
section
theorem zcI {scope : Scope} (hclos : closureFor scope env = pure cl)
  (hkind : scope.kind = .function) (hcell : ∀ x ∈ scope.names, x.2 ≠ .cell) (hnames : ∀ x ∈ scope.names, x.2 = .local → scope.names.lookup x.1 = some .local)
  (h : wpAny (model P w) A (eval iter env) (fun x s₁ => wpAny (model P w) A (pyIter x) (fun it s₂ =>
   (∀ (E' : Value → Shared → Prop) (Q' : Value → Shared → Prop) h', (∀ b o, s₂.heap.get? b = some o → h'.get? b = some o) → ∀ tk, Q' it { s₂ with heap := h', toks := tk } → wpAny (model P w) A (pyIter it) Q' E' { s₂ with heap := h', toks := tk }) ∧
   ∀ h' C tk, (∀ b o, s₂.heap.get? b = some o → h'.get? b = some o) → h'.get? s₂.heap.objs.size = some (zad #[] 0) → C = s₂.heap.objs.size + 1 → h'.Ns C (fun _ => none) →
    codeAny (model P w) A (.compLoop (.ListComp elt [⟨target, iter, ifs, 0⟩] scope pos) 0 it (.ref s₂.heap.objs.size) (zam scope cl C env))
     (fun r s' => match r with | .ok _ => ∃ m, s'.heap.Ns C m ∧ ∀ h', Heap.SameBut C s'.heap h' → Q (.ref s₂.heap.objs.size) { s' with heap := h' } | .error _ => False) { s₂ with heap := h', toks := tk }) E s₁) E s)
  (hs : ∀ x, foldedSetIterable iter env x = pure x := by intro _; rfl) :
  wpAny (model P w) A (eval (.ListComp elt [⟨target, iter, ifs, 0⟩] scope pos) env) Q E s := by
 unhygienic
 revert hen w A E s env elt target iter ifs scope pos cl Q;rw [eval_ListComp];refine wpAny_comprehension_free (use := none) rfl hs hclos hkind hnames ?_;refine wpAny_mono h (fun x s₁ h₁ => wpAny_mono h₁ (fun it s₂ h₂ => ?_) fun _ _ z => z) fun _ _ z => z;obtain ⟨hi, hl⟩ := h₂;ext newList;refine wpAny_newFunctionEnv hcell (fun _ q => (nomatch q)) (fun h' hn hsb => ?_) hkind;have k1 : ∀ b o, s₂.heap.get? b = some o → (s₂.heap.push (zad #[] 0)).get? b = some o := fun b o e => get?_push_of_some _ e;have hsz : (s₂.heap.push (zad #[] 0)).objs.size = s₂.heap.objs.size + 1 := size_push ..;dsimp only at hn hsb ⊢;have hn' : h'.Ns (s₂.heap.objs.size + 1) (fun _ => none) := by have := hn; rw [show ([] : List Value).toArray = #[] from rfl, hsz] at this; exact this
 have k2 : ∀ b o, (s₂.heap.push (zad #[] 0)).get? b = some o → h'.get? b = some o := fun b o e => hsb.extBut b o (ne_of_lt (lt_size e)) (get?_push_of_some _ e);have k := fun b o e => k2 b o (k1 b o e);have ea : h'.get? s₂.heap.objs.size = some (zad #[] 0) := k2 _ _ (get?_push_size _ rfl);have loop := hl h' (s₂.heap.objs.size + 1) s₂.toks k ea rfl hn';have fin : codeAny (model P w) A (.compLoop (.ListComp elt [⟨target, iter, ifs, 0⟩] scope pos) 0 it (.ref s₂.heap.objs.size) (zam scope cl (s₂.heap.objs.size + 1) env)) (compPost (model P w) A E none Q (.ref s₂.heap.objs.size) (s₂.heap.objs.size + 1)) { s₂ with heap := h' } := by
  refine codeAny_mono loop fun r s' z => ?_;cases r with
  | ok f => exact z
  | error e => exact z.elim
 rw [show ([] : List Value).toArray = #[] from rfl, hsz];refine codeAny_compStart_list fin (hi _ _ h' k s₂.toks fin)
abbrev zaz (h h' : Heap) : Prop := ∀ a o, h.get? a = some o → h'.get? a = some o
def Turned (C : Addr) (s : Shared) (h : Heap) (s' : Shared) : Prop := ∃ h' tk m, s' = ⟨h', s.gens, s.drawn, tk, s.os⟩ ∧ Heap.ExtBut C h h' ∧ h'.Ns C m
def TurnOk (w : World) (A : Around) (elt target : Expr) (ifs : List Expr) (scope : Scope) (cl : List (Str × Addr)) (env : Env) (s₁ : Shared) (l : Addr) (d : PyData) (f : PyData → Option PyData) : Prop :=
 ∀ (E : Value → Shared → Prop) (p : Addr → Prop) h' tk C mC it j v, (∀ a, C < a → p a) → ¬ p C → zaz s₁.heap h' → h'.IsListIter it l j → h'.Ns C mC → s₁.heap.get? C = none → RdP p h' v d →
  wpAny (model P w) A (letOwnedTupleGo target (.ref it) v) (fun _ s₁' => wpAny (model P w) A (assign target (zam scope cl C env) v) (fun _ s₂ =>
   wpAny (model P w) A (forIn ifs true fun c r => if r = true then do let ok ← isTrue c (zam scope cl C env) (eval c (zam scope cl C env)); pure (ForInStep.yield ok) else pure (ForInStep.yield r)) (fun ok s₃ =>
    match f d with
    | none => ok = false ∧ Turned C s₁ h' s₃
    | some d' => ok = true ∧ wpAny (model P w) A (eval elt (zam scope cl C env)) (fun u s₄ => RdP p s₄.heap u d' ∧ Turned C s₁ h' s₄) E s₃) E s₂) E s₁') E ⟨h', s₁.gens, s₁.drawn, tk, s₁.os⟩
end
theorem zc8 {scope : Scope} (f : PyData → Option PyData) (hh : A.handled = none) (hclos : closureFor scope env = pure cl) (hkind : scope.kind = .function) (hcell : ∀ x ∈ scope.names, x.2 ≠ .cell) (hnames : ∀ x ∈ scope.names, x.2 = .local → scope.names.lookup x.1 = some .local) (h : wpAny (model P w) A (eval iter env) (fun x s₁ => ∃ a vs ds b, x = .ref a ∧ LsAt b s₁.heap a vs ds ∧ ds.length ≤ 1000 ∧ b ≤ s₁.heap.objs.size ∧ (∀ d ∈ ds, TurnOk w A elt target ifs scope cl env s₁ a d f) ∧
   ∀ h' r us tk, zaz s₁.heap h' → LsAt b h' r us (ds.filterMap f) → s₁.heap.objs.size ≤ r → Q (.ref r) ⟨h', s₁.gens, s₁.drawn, tk, s₁.os⟩) E s) (hs : ∀ x, foldedSetIterable iter env x = pure x := by intro _; rfl) :
  wpAny (model P w) A (eval (.ListComp elt [⟨target, iter, ifs, 0⟩] scope pos) env) Q E s := by
 unhygienic
 revert hen w A E s env elt target iter ifs scope pos cl Q f;refine zcI hclos hkind hcell hnames ?_ hs;refine wpAny_mono h (fun x s₁ z => ?_) fun _ _ z => z;obtain ⟨a, vs, ds, b, rfl, hl, hz, hb, turn, fin⟩ := z;clear h;obtain ⟨h1, g1, d1, t1, o1⟩ := s₁;dsimp only at hl hb turn fin ⊢;revert hen a vs ds b h1 g1 d1 t1 o1;refine wpAny_pyIter_list hl.ls ?_
 haveI fit : h1.get? h1.objs.size = none := zac (le_refl _)
 haveI kit : zaz h1 (h1.push { cls := .type "list_iterator", data := .fields #[.ref a, .int 0 0] }) := fun _ _ e => get?_push_of_some _ e
 haveI hit : (h1.push { cls := .type "list_iterator", data := .fields #[.ref a, .int 0 0] }).IsListIter h1.objs.size a 0 := ⟨_, get?_push_size _ rfl, rfl, rfl⟩
 haveI lit : h1.objs.size < (h1.push { cls := .type "list_iterator", data := .fields #[.ref a, .int 0 0] }).objs.size := by rw [size_push]; exact lt_succ_self _
 generalize h1.push { cls := .type "list_iterator", data := .fields #[.ref a, .int 0 0] } = h2 at kit hit lit ⊢;obtain ⟨it, eit⟩ : ∃ it, it = h1.objs.size := ⟨_, rfl⟩;rw [← eit] at fit hit lit ⊢;refine ⟨fun E' Q' h' k tk q => wpAny_pyIter_listiter (s := ⟨h', _, _, _, _⟩) (hit.at fun o e => k _ _ e) q, fun h5 C tk k5 eacc hC nC => ?_⟩;dsimp only at k5 eacc hC ⊢;obtain ⟨acc, ea⟩ : ∃ acc, acc = h2.objs.size := ⟨_, rfl⟩;rw [← ea] at lit eacc hC ⊢
 haveI aC : acc < C := by rw [hC]; exact lt_succ_self _
 haveI iC : it < C := lt_trans lit aC
 have bit : b ≤ it := by rw [eit]; exact hb
 haveI lacc : h1.objs.size ≤ acc := by rw [← eit]; exact le_of_lt lit
 haveI facc : h1.get? acc = none := zac lacc
 haveI fC : h1.get? C = none := zac (le_trans lacc (le_of_lt aC))
 letI kit : zaz h1 h5 := fun x o e => k5 x o (kit x o e)
 letI hit : h5.IsListIter it a 0 := hit.at fun o e => k5 _ _ e
 clear k5 ea hC eit h2;have hp : ∀ x, C < x → b ≤ x ∧ x ≠ it ∧ x ≠ acc ∧ x ≠ C := fun x l =>
  ⟨le_trans bit (le_of_lt (lt_trans iC l)), ne_of_gt (lt_trans iC l), ne_of_gt (lt_trans aC l), ne_of_gt l⟩
 have old : ∀ x o, b ≤ x → h1.get? x = some o → b ≤ x ∧ x ≠ it ∧ x ≠ acc ∧ x ≠ C := fun x o l e =>
  ⟨l, fun q => (by rw [q, fit] at e; cases e), fun q => (by rw [q, facc] at e; cases e), fun q => (by rw [q, fC] at e; cases e)⟩
 haveI lsat : ∀ h', zaz h1 h' → h'.IsList a vs := fun h' k => let ⟨o, e, r⟩ := hl.ls; ⟨o, k _ _ e, r⟩
 revert hen it h5 C tk acc;refine opq (p := fun (n : Nat) (s' : Shared) => ∃ (i : Nat), ∃ h' tk' mC ys ny, n + i = ds.length ∧ s' = ⟨h', g1, d1, tk', o1⟩ ∧ zaz h1 h' ∧ h'.Ns C mC ∧ h'.IsListIter it a i ∧ h'.get? acc = some (zad ys ny) ∧ ys.size ≤ i ∧ RowP (fun x => b ≤ x ∧ x ≠ it ∧ x ≠ acc ∧ x ≠ C) h' ys ((ds.take i).filterMap f)) fun Iv1 hin1 hout1 => ?_;revert hen Iv1;refine zbi Iv1 ?_ ds.length (hin1 _ _ ?_)
 rotate_left
 ·exact ⟨0, h5, tk, _, #[], 0, by omega, rfl, kit, nC, hit, eacc, le_refl _, .nil⟩
 clear kit nC hit eacc;intro n s' hI;obtain ⟨i, h', tk', mC, ys, ny, hn, rfl, kit, nC, hit, ey, sy, row⟩ := hout1 _ _ hI;clear hI;have keepE : ∀ {c : Addr} {h' h'' : Heap}, h1.get? c = none → zaz h1 h' → Heap.ExtBut c h' h'' → zaz h1 h'' := fun fc k he x o e => he x o (fun q => by rw [q, fc] at e; cases e) (k x o e);cases n with
 | zero =>
  refine wpAny_pyNext_list_end hh hit (lsat _ kit) (by rw [Array.getElem?_eq_none_iff, hl.sz]; omega) (fun h4 he => ?_);replace kit := keepE fit kit he;have nC4 : h4.Ns C mC := let ⟨o, es, ep, q, r⟩ := nC; ⟨o, es, ep, he _ _ (ne_of_gt iC) q, r⟩
  replace ey := he _ _ (ne_of_gt lit) ey;replace row := row.same he (fun q => q.2.1 rfl);ext d;refine ⟨mC, nC4, fun h6 sb6 => ?_⟩;replace kit := keepE fC kit sb6.extBut;replace ey := sb6.extBut _ _ (ne_of_lt aC) ey
  letI row := row.same sb6.extBut (fun q => q.2.2.2 rfl)
  rw [take_of_length_le (by omega)] at row;exact fin _ _ _ _ kit ((row.rd fun x q => q.1).at ey (le_trans hb lacc)) lacc
 | succ n =>
  haveI hi : i < ds.length := by omega
  haveI hiv : i < vs.size := by rw [hl.sz]; exact hi
  refine wpAny_pyNext_list_item hit (lsat _ kit) (Array.getElem?_eq_getElem hiv) (fun h4 hit4 sb4 => ?_);have rv := ((hl.rd i vs[i] ds[i] (Array.getElem?_eq_getElem hiv) (getElem?_eq_getElem hi)).toP old).keep (h' := h') fun x o _ e => kit x o e;replace rv := rv.same sb4.extBut (fun q => q.2.1 rfl)
  letI kit := keepE fit kit sb4.extBut
  replace nC := nC.sameBut sb4 (ne_of_gt iC)
  letI ey := sb4.extBut _ _ (ne_of_gt lit) ey
  letI row := row.same sb4.extBut (fun q => q.2.1 rfl)
  ext d;clear sb4 hit h';have t := fun E => turn ds[i] (getElem_mem hi) E _ h4 tk' C mC it (i + 1) vs[i] hp (fun q => q.2.2.2 rfl) kit hit4 nC fC rv
  haveI tk1 : ds.take (i + 1) = ds.take i ++ [ds[i]] := by rw [List.take_add_one, getElem?_eq_getElem hi]; rfl
  refine wpAny_mono (t _) (fun _ s1 z1 => wpAny_mono z1 (fun _ s2 z2 => wpAny_mono z2 (fun ok s3 z3 => ?_) (fun _ _ q => q)) (fun _ _ q => q)) (fun _ _ q => q);clear t z1 z2 turn;cases hf : f ds[i] with
  | none =>
   rw [hf] at z3;obtain ⟨rfl, h6, tk6, m6, rfl, he6, n6⟩ := z3;rw [if_neg Bool.false_ne_true];refine ⟨n, lt_succ_self n, hin1 _ _ (xi6 (i + 1) h6 tk6 m6 ys ny ⟨by omega, rfl, keepE fC kit he6, n6, hit4.at fun o e => he6 _ _ (ne_of_lt iC) e, he6 _ _ (ne_of_lt aC) ey, by omega, ?_⟩)⟩;rw [tk1, List.filterMap_append, List.filterMap_cons_none hf, filterMap_nil, append_nil];exact row.same he6 (fun q => q.2.2.2 rfl)
  | some d' =>
   rw [hf] at z3;obtain ⟨rfl, z4⟩ := z3;rw [if_pos rfl];refine wpAny_mono z4 (fun u s4 z5 => ?_) (fun _ _ q => q);obtain ⟨ru, h6, tk6, m6, rfl, he6, n6⟩ := z5;dsimp only at ru;replace row := (row.same he6 (fun q => q.2.2.2 rfl)).snoc ru;refine zao (he6 _ _ (ne_of_lt aC) ey) (by omega) (fun h7 n7 e7 sb7 => ?_);ext d;refine ⟨n, lt_succ_self n, hin1 _ _ (xi6 (i + 1) h7 tk6 m6 (ys.push u) n7 ⟨by omega, rfl, keepE facc (keepE fC kit he6) sb7.extBut, n6.sameBut sb7 (ne_of_gt aC), hit4.at fun o e => sb7.extBut _ _ (ne_of_lt lit) (he6 _ _ (ne_of_lt iC) e), e7, by rw [Array.size_push]; omega, ?_⟩)⟩;rw [tk1, List.filterMap_append, filterMap_cons_some hf, filterMap_nil];exact row.same sb7.extBut (fun q => q.2.2.1 rfl)
section
theorem Turned.back (x : Turned C s h' s') (he : Heap.ExtBut C h h') : Turned C s h s' := by
 obtain ⟨h'', tk, m, rfl, e, n⟩ := x;exact ⟨h'', tk, m, rfl, fun b o z q => e b o z (he b o z q), n⟩
theorem TurnOk.pair {x y : Str} {l k : Nat} {dx dy : PyData} {f : PyData → Option PyData} (hh : A.handled = none)
  (hk : scope.kind = .function) (hx : ∀ C, (zam scope cl C env).kindOf x = some .local) (hy : ∀ C, (zam scope cl C env).kindOf y = some .local) (xy : x ≠ y)
  (h : ∀ (E : Value → Shared → Prop) (p : Addr → Prop) h' tk C m u z, (∀ a, C < a → p a) → ¬ p C → zaz s₁.heap h' → h'.Ns C m → s₁.heap.get? C = none → m x = some u → m y = some z → RdP p h' u dx → RdP p h' z dy →
   wpAny (model P w) A (forIn ifs true fun c r => if r = true then do let ok ← isTrue c (zam scope cl C env) (eval c (zam scope cl C env)); pure (ForInStep.yield ok) else pure (ForInStep.yield r)) (fun ok s₃ =>
    match f (.tuple [dx, dy]) with
    | none => ok = false ∧ Turned C s₁ h' s₃
    | some d' => ok = true ∧ wpAny (model P w) A (eval elt (zam scope cl C env)) (fun u s₄ => RdP p s₄.heap u d' ∧ Turned C s₁ h' s₄) E s₃) E ⟨h', s₁.gens, s₁.drawn, tk, s₁.os⟩) :
  TurnOk w A elt (.Tuple [.Name x px, .Name y py] k pos) ifs scope cl env s₁ l (.tuple [dx, dy]) f := by
 intro E p h' tk C mC it j v hp hC kp hit nC fC rv;obtain ⟨ta, u, z, rfl, pa, ht, ru, rz⟩ := rv.pairE;refine wpAny_letOwnedTupleGo_listiter (s := ⟨h', _, _, _, _⟩) hit ?_;refine assign_Tuple_tuple (s := ⟨h', _, _, _, _⟩) hh ht rfl rfl (fun h5 he5 => ?_);dsimp only at he5 ⊢;have hk' : ∀ C, ((zam scope cl C env).scope.kind == .class || ((zam scope cl C env).scope.kind == .module && (zam scope cl C env).locals != (zam scope cl C env).globals)) = false := fun C => by
  show (scope.kind == .class || (scope.kind == .module && _)) = false;rw [hk]; rfl
 have e5 : zaz h' h5 := fun b o q => he5 b o (ne_of_lt (lt_size q)) q;have n5 : h5.Ns C mC := let ⟨o, es, ep, q, r⟩ := nC; ⟨o, es, ep, e5 _ _ q, r⟩
 ext assignInOrder_more assign_Name;refine wpAny_storeName_local (s := ⟨h5, _, _, _, _⟩) (hx C) n5 (fun h6 n6 s6 => ?_) (hk' C);dsimp only at n6 s6 ⊢;ext assignInOrder_more assign_Name;refine wpAny_storeName_local (s := ⟨h6, _, _, _, _⟩) (hy C) n6 (fun h7 n7 s7 => ?_) (hk' C);dsimp only at n7 s7 ⊢;ext assignInOrder_none;have e7 : Heap.ExtBut C h' h7 := fun b o q e => s7.extBut b o q (s6.extBut b o q (e5 b o e));refine wpAny_mono (h E p h7 _ C _ u z hp hC (fun b o e => e7 b o (fun q => by rw [q, fC] at e; cases e) (kp b o e)) n7 fC (by rw [if_neg xy, if_pos rfl]) (by rw [if_pos rfl]) (ru.same e7 hC) (rz.same e7 hC)) (fun ok s₃ z => ?_) fun _ _ q => q;cases hf : f (.tuple [dx, dy]) with
 | none => rw [hf] at z; exact ⟨z.1, z.2.back e7⟩
 | some d' =>
  rw [hf] at z;exact ⟨z.1, wpAny_mono z.2 (fun _ _ q => ⟨q.1, q.2.back e7⟩) fun _ _ q => q⟩
end
end
section
def dk (ps : List (Str × Int)) : List Str := ps.foldl (fun l p => if p.1 ∈ l then l else l ++ [p.1]) []
def zaf (ps : List (Str × Int)) (k : Str) : List Int := (ps.filter fun p => decide (p.1 = k)).map (·.2)
def zaZ (ps : List (Str × Int)) : Grp := (dk ps).map fun k => (k, zaf ps k)
abbrev zd1 (p : Str × List Int) : PyData := .tuple [.str p.1, .list (p.2.map .int)]
theorem zck (ps : List (Str × Int)) (p : Str × Int) : dk (ps ++ [p]) = if p.1 ∈ dk ps then dk ps else dk ps ++ [p.1] := by unfold dk; rw [foldl_append]; rfl
theorem zdK (ps : List (Str × Int)) : (dk ps).length ≤ ps.length := by
 have key : ∀ (l : List (Str × Int)) (g : List Str), (l.foldl (fun l p => if p.1 ∈ l then l else l ++ [p.1]) g).length ≤ g.length + l.length := by
  intro l
  induction l with
  | nil => intro g; simp
  | cons p l ih =>
   intro g;have := ih (if p.1 ∈ g then g else g ++ [p.1]);have h2 : (if p.1 ∈ g then g else g ++ [p.1]).length ≤ g.length + 1 := by split <;> simp
   simp only [foldl_cons, length_cons] at *; omega
 simpa [dk] using key ps []
def zc4 : PyData → Option PyData
 | .tuple [k, _] => some k
 | _ => none
def zbt (k : Str) : PyData → Option PyData
 | .tuple [.str k', v] => if k' = k then some v else none
 | _ => none
theorem zdF (g : List (Str × List Int)) : (g.map zd1).filterMap zc4 = (g.map (·.1)).map .str := by
 induction g with
 | nil => rfl
 | cons p g ih => rw [map_cons, filterMap_cons_some (show zc4 (zd1 p) = some (.str p.1) from rfl), ih]; rfl
theorem zet (ps : List (Str × Int)) (k : Str) : (ps.map zan).filterMap (zbt k) = (zaf ps k).map .int := by
 induction ps with
 | nil => rfl
 | cons p g ih =>
  by_cases h : p.1 = k
  ·rw [map_cons, filterMap_cons_some (show zbt k (zan p) = some (.int p.2) by unfold zbt zan; simp [h]), ih]
   simp [zaf, h]
  ·rw [map_cons, List.filterMap_cons_none (show zbt k (zan p) = none by unfold zbt zan; simp [h]), ih]
   simp [zaf, h]
theorem zdT : ∀ {l : List Value} {ks : List Str}, RdAll b h l.toArray (ks.map .str) → StrsAre l ks
 | [], [], _ => .nil
 | v :: l, k :: ks, r => by
  obtain ⟨t, rfl⟩ := (r.2 0 v (.str k) rfl rfl).strE;exact .cons k t (zdT ⟨by have := r.1; simpa using this, fun i v d e1 e2 => r.2 (i + 1) v d (by simpa using e1) (by simpa using e2)⟩)
 | [], _ :: _, r => by have := r.1; simp at this
 | _ :: _, [], r => by have := r.1; simp at this
theorem LsAt.ints {c : Addr} {ns : List Int} (x : LsAt b h a vs (ns.map .int)) (l : c ≤ a) : LsAt c h a vs (ns.map .int) :=
 ⟨l, x.ls, x.sz, fun i v d e1 e2 => by
  have r := x.rd i v d e1 e2;rw [getElem?_map] at e2;cases e : ns[i]? with
  | none => rw [e] at e2; cases e2
  | some n => rw [e] at e2; cases e2; obtain ⟨t, rfl⟩ := r.intE; exact .int _ _⟩
theorem za2 {A : Around} : ∀ (hA : Rm 490 A) (hh : A.handled = none) (T : TopH w s.heap) (hl : LsAt b0 s.heap r vs (ps.map zan)) (hz : ps.length ≤ 200) (hb0 : b0 ≤ s.heap.objs.size) (hR : ∀ h' tk r' us, Ext [] s.heap h' → LsAt s.heap.objs.size h' r' us ((zaZ ps).map zd1) → R (.ok (.ret (.ref r'))) ⟨h', s.gens, s.drawn, tk, s.os⟩), codeAny (model P w) A (.call (.ref 584) ⟨[.ref r], []⟩) R s := by
 unhygienic
 revert hen w A s R r b0 vs ps;refine zf7 [(Str.ofString "pairs", .ref r)] hA T (by rfl) (by rfl) (by rfl) (by rfl) (by rfl) (by rfl) (fun x q => by rw [mem_singleton.mp q]; exact .inl (by rfl)) fun h₁ tk0 D X hA' hh' => ?_
 letI hh' := hh'.trans hh
 have C : h₁.IsCell (s.heap.objs.size + 1) none := X (Str.ofString "key") (s.heap.objs.size + 1) rfl;have fC : s.heap.get? (s.heap.objs.size + 1) = none := zac (le_succ _);clear X;revert hen h₁ tk0;refine za5 fun Q0 E0 hQ => ?_;revert hen Q0 E0;refine zcg fun Q1 E1 h0 => ?_;revert hen Q1 E1;ext Assign_Name List items_nil;refine ⟨by show (0 : Nat) ≤ sizeLine; decide, ?_⟩
 try dsimp only
 have efd : (h₁.push (zad #[] 0)).get? h₁.objs.size = some (zad #[] 0) := get?_push_size _ rfl;have ffd : s.heap.get? h₁.objs.size = none := D.fresh
 haveI nfd : s.heap.objs.size ≠ h₁.objs.size := ne_of_lt D.ns.lt
 haveI Cfd : s.heap.objs.size + 1 < h₁.objs.size := by obtain ⟨o, e, _⟩ := C; exact lt_size e
 replace D := D.call (Ext.push h₁ (zad #[] 0));replace C := (Ext.push h₁ (zad #[] 0)).cell C not_mem_nil;generalize h₁.objs.size = fd at efd ffd nfd Cfd ⊢;generalize h₁.push (zad #[] 0) = h2 at D C efd ⊢;refine wpAny_storeName_local rfl D.ns (fun h3 hn hs => ?_) rfl
 letI D := D.store hn hs
 replace C := zak C hs.extBut (ne_of_gt (lt_succ_self _));replace efd := hs.extBut _ _ (Ne.symm nfd) efd
 try dsimp only
 clear hn hs h2;refine h0 _ ?_;refine zcg fun Q1 E1 h1 => ?_;revert hen fd h3 Q1 E1;ext For;refine zaa (Me.ns (by assumption)) (by first | assumption | rfl) ?_;have hl1 := hl.ext D.ext (by simp);refine wpAny_pyIter_list hl1.ls ?_;have fit : s.heap.get? h3.objs.size = none := D.fresh
 haveI nit : s.heap.objs.size ≠ h3.objs.size := ne_of_lt D.ns.lt
 haveI fdit : fd < h3.objs.size := lt_size efd
 haveI hit : (h3.push { cls := .type "list_iterator", data := .fields #[.ref r, .int 0 0] }).IsListIter h3.objs.size r 0 := ⟨_, get?_push_size _ rfl, rfl, rfl⟩
 letI D := D.call (Ext.push h3 { cls := .type "list_iterator", data := .fields #[.ref r, .int 0 0] })
 letI C := (Ext.push h3 { cls := .type "list_iterator", data := .fields #[.ref r, .int 0 0] }).cell C not_mem_nil
 letI efd := get?_push_of_some { cls := .type "list_iterator", data := .fields #[.ref r, .int 0 0] } efd
 generalize h3.objs.size = it at fit nit fdit hit ⊢;generalize h3.push { cls := .type "list_iterator", data := .fields #[.ref r, .int 0 0] } = h4 at D C efd hit ⊢;revert hen it h4
 try dsimp only
 clear hl1
 haveI Cit : s.heap.objs.size + 1 < it := lt_trans Cfd fdit
 have sit : s.heap.objs.size < it := Nat.lt_of_succ_lt Cit;refine opq (p := fun (n : Nat) (s' : Shared) => ∃ (i : Nat), ∃ h' tk m kv xs nx, n + i = ps.length ∧ s' = ⟨h', s.gens, s.drawn, tk, s.os⟩ ∧ Me [] s.heap h' s.heap.objs.size m [] ∧ m "pairs" = some (.ref r) ∧ m "found" = some (.ref fd) ∧
  h'.IsCell (s.heap.objs.size + 1) kv ∧ h'.IsListIter it r i ∧ h'.get? fd = some (zad xs nx) ∧ RdAll (it + 1) h' xs (((dk (ps.take i)).map fun k => (k, zaf ps k)).map zd1)) fun I hin hout => ?_
 revert hen I;refine codeAny_forLoop_any I ?_ ps.length (hin _ _ ?_)
 rotate_left
 ·exact ⟨0, h4, _, _, _, #[], 0, by omega, rfl, D, by rfl, by rfl, C, hit, efd, .nil⟩
 clear D C hit efd;intro n s' hI;obtain ⟨i, h', tk, m, kv, xs, nx, hn, rfl, D, mp, mf, C, hit, efd, row⟩ := hout _ _ hI;clear hI
 haveI hl3 := hl.ext D.ext (by simp)
 cases n with
 | zero =>
  refine wpAny_pyNext_list_end hh' hit hl3.ls (by rw [Array.getElem?_eq_none_iff, hl3.sz, length_map]; omega) (fun h4 he => ?_);replace D := D.ownE he fit nit;replace efd := he _ _ (ne_of_lt fdit) efd;replace row := row.same he (lt_succ_self _)
  try dsimp only
  ext execs_nil;refine h1 _ ?_;ext execs_cons Return_some;refine zaa D.ns mf ?_;rw [take_of_length_le (by omega)] at row;refine hQ _ _ ?_;exact hR _ _ _ _ D.ext ((row.mono (le_of_lt (lt_succ_of_lt sit))).at efd (le_of_lt (Nat.lt_of_succ_lt Cfd)))
 | succ n =>
  have hi : i < ps.length := by omega
  obtain ⟨gi, eg, egt⟩ : ∃ gi, ps[i]? = some gi ∧ ps.take (i + 1) = ps.take i ++ [gi] := ⟨_, getElem?_eq_getElem hi, take_succ_eq_append_getElem hi⟩;obtain ⟨v, hv, rv⟩ := hl3.item (i := i) (d := zan gi) (by rw [getElem?_map, eg]; rfl);refine wpAny_pyNext_list_item hit hl3.ls hv (fun h4 hit4 sb4 => ?_);obtain ⟨ta, u, z, rfl, hb, ht, ru, rz⟩ := rv.pairE;obtain ⟨tu, rfl⟩ := ru.strE;obtain ⟨tz, rfl⟩ := rz.intE;replace D := D.ownE sb4.extBut fit nit;have ht4 := (show IsTup h4 ta _ from let ⟨o, ho, hc, hd⟩ := ht; ⟨o, (sb4.2 ta (fun q => by obtain ⟨o', ho', hc', _⟩ := hit; rw [← q, ho] at ho'; cases ho'; rw [hc] at hc'; exact nomatch hc')).trans ho, hc, hd⟩);replace C := zak C sb4.extBut (ne_of_lt Cit);replace efd := sb4.extBut _ _ (ne_of_lt fdit) efd;replace row := row.same sb4.extBut (lt_succ_self _);clear hit ht hl3 rv sb4;revert hen i h' tk m kv xs nx n gi h4 ta tu tz;refine wpAny_letOwnedTupleGo_listiter hit4 ?_;refine assign_Tuple_tuple hh' ht4 rfl rfl (fun h5 he5 => ?_);revert hen h5
  try dsimp only at he5 ⊢
  haveI k5 : zaz h4 h5 := fun b o q => he5 b o (ne_of_lt (lt_size q)) q
  replace D := D.call (Ext.of_keeps k5);replace C := (Ext.of_keeps k5).cell C not_mem_nil;replace efd := k5 _ _ efd;replace row := row.keep fun a o _ e => k5 a o e;have hit5 := hit4.at fun o e => k5 _ _ e;clear hit4 ht4 he5 k5;ext assignInOrder_more assign_Name;refine wpAny_storeName_cell rfl rfl (c := s.heap.objs.size + 1) rfl C (fun h6 C6 sb6 => ?_);replace D := D.ownE sb6.extBut fC (ne_of_lt (lt_succ_self _));replace efd := sb6.extBut _ _ (ne_of_gt Cfd) efd;replace row := row.same sb6.extBut (lt_succ_of_lt Cit);have hit6 := hit5.at fun o e => sb6.extBut _ _ (ne_of_gt Cit) e;revert hen h6
  try dsimp only
  clear hit5 C sb6;ext assignInOrder_more assign_Name;refine wpAny_storeName_local rfl D.ns (fun h7 hn7 hs7 => ?_) rfl;replace D := D.store hn7 hs7;replace C6 := zak C6 hs7.extBut (ne_of_gt (lt_succ_self _));replace efd := hs7.extBut _ _ (Ne.symm nfd) efd;replace row := row.same hs7.extBut (lt_succ_of_lt sit);have hit7 := hit6.at fun o e => hs7.extBut _ _ (Ne.symm nit) e;revert hen h7
  try dsimp only
  clear hn7 hs7 hit6;ext assignInOrder_none;have lrow := row.1;rw [length_map, length_map] at lrow;have ldk := zdK (ps.take i);rw [length_take] at ldk;refine zcg fun Q2 E2 h2 => ?_;ext If isTrue_Compare1;refine wpAny_Name (wpAny_loadName_cell rfl rfl (c := s.heap.objs.size + 1) rfl C6 ?_) (by decide);refine zc8 (cl := []) zc4 hh' (by rfl) rfl (by decide) (by decide) ?_;refine zaa D.ns ((if_neg (by decide)).trans mf) ?_;refine ⟨fd, xs, _, s.heap.objs.size, rfl, (row.mono (le_of_lt (lt_succ_of_lt sit))).at efd (le_of_lt (Nat.lt_of_succ_lt Cfd)), by rw [length_map, length_map]; omega, le_of_lt D.ns.lt, fun d hd => ?_, ?_⟩
  ·obtain ⟨p, _, rfl⟩ := mem_map.mp hd
   refine TurnOk.pair hh' rfl (fun _ => by rfl) (fun _ => by rfl) (by decide) fun E p' h' tk C m u z hp hC kp nC fC mx my ru rz => ?_;refine wpAny_tests_nil ⟨rfl, ?_⟩;refine zaa nC mx ?_;exact ⟨ru, _, _, _, rfl, fun _ _ _ e => e, nC⟩
  intro h8 r8 us8 tk8 k8 l8 b8
  try dsimp only at k8 b8 ⊢
  rw [zdF, map_map] at l8;have hst8 : StrsAre us8.toList (dk (ps.take i)) := zdT (b := s.heap.objs.size) ⟨by rw [Array.toArray_toList, l8.sz]; simp, fun j v d e1 e2 => l8.rd j v d (by simpa using e1) (by rw [getElem?_map] at e2 ⊢; simpa using e2)⟩;refine notin_list_strs (vs := us8.toList) (ys := dk (ps.take i)) (by rw [Array.toArray_toList]; exact l8.ls) hst8 ?_;ext truthy_bool
  letI D := D.call (.of_keeps k8)
  letI C6 := (Ext.of_keeps k8).cell C6 not_mem_nil
  letI efd := k8 _ _ efd
  replace row := row.keep fun a o _ e => k8 a o e;have hit8 := hit7.at fun o e => k8 _ _ e;clear k8 l8 b8 hst8 hit7;have hps : ps.take (i + 1) = ps.take i ++ [gi] := by rw [egt]
  by_cases hk : gi.1 ∈ dk (ps.take i)
  ·rw [if_neg (by simpa using hk)]
   ext execs_nil
   try dsimp only
   refine h2 _ ?_;ext execs_nil
   try dsimp only
   refine ⟨n, lt_succ_self n, hin _ _ (xi7 (i + 1) h8 _ _ _ xs nx ⟨by omega, rfl, D, ?_, ?_, C6, hit8, efd, ?_⟩)⟩
   ·exact (if_neg (by decide)).trans mp
   ·exact (if_neg (by decide)).trans mf
   ·rw [hps, zck, if_pos hk]; exact row
  ·rw [if_pos (by simp only [not_eq_true', List.any_eq_false, beq_iff_eq]; exact fun y hy q => hk (q ▸ hy))]
   refine zcg fun Q3 E3 h3 => ?_;ext Expr_any;refine wpAny_Call_method rfl rfl rfl PySem.F.plainAttrs_list PySem.F.slot_list_append PySem.F.type_list_append ?_;refine zaa D.ns ((if_neg (by decide)).trans mf) ?_;refine ⟨⟨_, efd, rfl⟩, fun a e => by cases e; exact ⟨_, efd, rfl⟩, ?_⟩;ext o.call_bi items_cons o.Tuple_ items_cons;refine wpAny_Name (wpAny_loadName_cell rfl rfl (c := s.heap.objs.size + 1) rfl C6 ?_) (by decide);ext items_cons;refine zc8 (cl := [(Str.ofString "key", s.heap.objs.size + 1)]) (zbt gi.1) hh' (by rfl) rfl (by decide) (by decide) ?_;refine zaa D.ns ((if_neg (by decide)).trans mp) ?_;refine ⟨r, vs, _, b0, rfl, hl.ext D.ext (by simp), by rw [length_map]; omega, le_trans hb0 (le_of_lt D.ns.lt), fun d hd => ?_, ?_⟩
   ·obtain ⟨p, _, rfl⟩ := mem_map.mp hd
    refine TurnOk.pair hh' rfl (fun _ => by rfl) (fun _ => by rfl) (by decide) fun E p' h' tk C m u z hp hC kp nC fC mx my ru rz => ?_;obtain ⟨t1, rfl⟩ : ∃ t1, u = .str p.1 t1 := by cases ru; exact ⟨_, rfl⟩
    ext tests_one isTrue_Compare1;refine zaa nC mx ?_;refine wpAny_Name (wpAny_loadName_cell rfl rfl (c := s.heap.objs.size + 1) rfl ((Ext.of_keeps kp).cell C6 not_mem_nil) ?_) (by decide);ext o.PyProof.Rows.eq_str truthy_bool
    by_cases he : p.1 = gi.1
    ·rw [show zbt gi.1 (zan p) = some (.int p.2) by unfold zbt; simp only [if_pos he]]
     refine ⟨by simpa using he, ?_⟩;refine zaa nC my ?_;exact ⟨rz, _, _, _, rfl, fun _ _ _ e => e, nC⟩
    ·rw [show zbt gi.1 (zan p) = none by unfold zbt; simp only [if_neg he]]
     exact ⟨by simpa using he, _, _, _, rfl, fun _ _ _ e => e, nC⟩
   intro h9 r9 us9 tk9 k9 l9 b9
   try dsimp only at k9 b9 ⊢
   rw [zet] at l9;have r9it : it + 1 ≤ r9 := le_trans (by obtain ⟨o, e, _⟩ := hit8; exact succ_le_of_lt (lt_size e)) b9;replace l9 := l9.ints r9it;replace D := D.call (.of_keeps k9);replace C6 := (Ext.of_keeps k9).cell C6 not_mem_nil;replace efd := k9 _ _ efd;replace row := row.keep fun a o _ e => k9 a o e;have hit9 := hit8.at fun o e => k9 _ _ e;clear k9 b9 hit8 h8;ext items_nil;refine wpAny_newObj_type ?_ (by show (2 : Nat) ≤ sizeLine; decide)
   try dsimp only
   ext items_nil;have lit9 : it + 1 ≤ h9.objs.size := by obtain ⟨o, e, _⟩ := hit9; exact succ_le_of_lt (lt_size e)
   haveI ex9 := Ext.push h9 { cls := .type "tuple", data := .seq #[.str gi.1 tu, .ref r9] }
   have rp : Rd (it + 1) (h9.push { cls := .type "tuple", data := .seq #[.str gi.1 tu, .ref r9] }) (.ref h9.objs.size) (zd1 (gi.1, zaf ps gi.1)) := by
    refine .tup lit9 ⟨_, get?_push_size _ rfl, rfl, 0, rfl⟩ rfl (fun i v d e1 e2 => ?_)
    match i with
    | 0 => cases e1; cases e2; exact .str _ _
    | 1 => cases e1; cases e2; exact l9.rdl.ext0 ex9
    | i + 2 => simp at e1
   replace D := D.call ex9;replace C6 := ex9.cell C6 not_mem_nil;replace efd := ex9.get efd rfl not_mem_nil;replace row := (row.ext ex9 (fun a q => nomatch q)).snoc rp;have hit10 := hit9.at fun o e => get?_push_of_some { cls := .type "tuple", data := .seq #[.str gi.1 tu, .ref r9] } e;generalize h9.objs.size = ta9 at row ⊢;generalize h9.push { cls := .type "tuple", data := .seq #[.str gi.1 tu, .ref r9] } = h10 at D C6 efd row hit10 ⊢;clear rp ex9 lit9 l9 hit9 h9;refine zao efd (by omega) (fun h11 n11 e11 sb11 => ?_)
   try dsimp only
   refine h3 _ ?_;ext execs_nil
   try dsimp only
   refine h2 _ ?_;ext execs_nil
   try dsimp only
   refine ⟨n, lt_succ_self n, hin _ _ (xi7 (i + 1) h11 _ _ _ _ n11 ⟨by omega, rfl, D.sb sb11 ffd nfd, ?_, ?_, zak C6 sb11.extBut (ne_of_lt Cfd), hit10.at fun o e => (sb11.2 _ (ne_of_gt fdit)).trans e, e11, ?_⟩)⟩
   ·exact (if_neg (by decide)).trans mp
   ·exact (if_neg (by decide)).trans mf
   ·rw [hps, zck, if_neg hk, map_append, map_append]
    exact row.same sb11.extBut (lt_succ_of_lt fdit)
end
section
theorem zb7 (ps : List (Str × Int)) (k k' : Str) (n : Int) : zaf (ps ++ [(k, n)]) k' = zaf ps k' ++ if k = k' then [n] else [] := by
 unfold zaf;rw [List.filter_append, map_append]
 by_cases h : k = k' <;> simp [h]
theorem zaV (ps qs : List (Str × Int)) (k : Str) : zaf (ps ++ qs) k = zaf ps k ++ zaf qs k := by
 unfold zaf; rw [List.filter_append, map_append]
theorem zbT {α : Type} {p : List α → Prop} (h0 : p []) (h1 : ∀ l a, p l → p (l ++ [a])) : ∀ l, p l := by
 intro l;have : ∀ n (l : List α), l.length = n → p l := by
  intro n
  induction n with
  | zero => intro l h; rw [List.length_eq_zero_iff.mp h]; exact h0
  | succ n ih =>
   intro l h;have hne : l ≠ [] := fun q => by rw [q] at h; cases h
   rw [← List.dropLast_concat_getLast hne];exact h1 _ _ (ih _ (by rw [List.length_dropLast, h]; rfl))
 exact this _ l rfl
theorem zge (ps : List (Str × Int)) (k : Str) : k ∈ dk ps ↔ ∃ n, (k, n) ∈ ps := by
 induction ps using zbT with
 | h0 => simp [dk]
 | h1 l a ih =>
  rw [zck];obtain ⟨a, n⟩ := a;ext d
  by_cases h : a ∈ dk l
  ·rw [if_pos h, ih]
   constructor
   ·rintro ⟨m, hm⟩; exact ⟨m, List.mem_append_left _ hm⟩
   ·rintro ⟨m, hm⟩
    rcases mem_append.mp hm with hm | hm
    ·exact ⟨m, hm⟩
    ·have e := mem_singleton.mp hm
     cases e;exact ih.mp h
  ·rw [if_neg h, mem_append, ih, mem_singleton]
   constructor
   ·rintro (⟨m, hm⟩ | rfl)
    ·exact ⟨m, List.mem_append_left _ hm⟩
    ·exact ⟨n, List.mem_append_right _ (.head _)⟩
   ·rintro ⟨m, hm⟩
    rcases mem_append.mp hm with hm | hm
    ·exact .inl ⟨m, hm⟩
    ·have e := mem_singleton.mp hm
     cases e;exact .inr rfl
theorem zaS (ps : List (Str × Int)) : (dk ps).Nodup := by
 induction ps using zbT with
 | h0 => simp [dk]
 | h1 l a ih =>
  rw [zck]
  split
  ·exact ih
  ·rename_i h
   exact List.nodup_append.mpr ⟨ih, by simp, fun x hx y hy q => h (by rw [← mem_singleton.mp hy, ← q]; exact hx)⟩
theorem zbb (h : k ∉ dk ps) : zaf ps k = [] := by
 unfold zaf;rw [List.filter_eq_nil_iff.mpr, map_nil];intro p hp;simp only [decide_eq_true_eq];rintro rfl;exact h ((zge ps _).mpr ⟨p.2, hp⟩)
theorem zaD (h : k ∈ dk ps) : zaf ps k ≠ [] := by
 obtain ⟨n, hn⟩ := (zge ps k).mp h;unfold zaf;intro q;have := List.map_eq_nil_iff.mp q;rw [List.filter_eq_nil_iff] at this;exact this _ hn (by simp)
theorem zaY (ps : List (Str × Int)) : (zaZ ps).map (·.1) = dk ps := by unfold zaZ; rw [map_map]; exact map_id _
theorem zaG (ps : List (Str × Int)) : grp ps = zaZ ps := by
 induction ps using zbT with
 | h0 => rfl
 | h1 l a ih =>
  obtain ⟨k, n⟩ := a;rw [zc5, ih];unfold zaO;rw [zaY];unfold zaZ;rw [zck];ext d
  by_cases h : k ∈ dk l
  ·rw [if_pos h, if_pos h, map_map]
   refine map_congr_left fun k' hk' => ?_;simp only [Function.comp];rw [zb7]
   by_cases e : k' = k
   ·rw [if_pos e, if_pos e.symm]
   ·rw [if_neg e, if_neg (Ne.symm e), append_nil]
  ·rw [if_neg h, if_neg h, map_append]
   congr 1
   ·refine map_congr_left fun k' hk' => ?_
    have ne : k ≠ k' := fun e => h (by rw [e]; exact hk');rw [zb7, if_neg ne, append_nil]
   ·rw [List.map_singleton, zb7, if_pos rfl, zbb h]; rfl
theorem zeC {α : Type} (f : Str → α) (k : Str) : ∀ l : List Str, (l.map fun k => (k, f k)).find? (fun p => decide (p.1 = k)) = if k ∈ l then some (k, f k) else none
 | [] => rfl
 | x :: l => by
  rw [map_cons, List.find?_cons]
  by_cases h : x = k
  ·subst h; simp
  ·rw [show decide ((x, f x).1 = k) = false from decide_eq_false h]
   simp only [zeC f k l, mem_cons, Ne.symm h, false_or]
theorem zey (ps : List (Str × Int)) (k : Str) : look (grp ps) k = zaf ps k := by
 rw [zaG];unfold look zaZ;rw [zeC]
 by_cases h : k ∈ dk ps
 ·rw [if_pos h]; rfl
 ·rw [if_neg h, zbb h]; rfl
def un (g : Grp) : List (Str × Int) := g.flatMap fun p => p.2.map fun n => (p.1, n)
theorem zef (ps : List (Str × Int)) (k : Str) : zaf (un (zaZ ps)) k = zaf ps k := by
 have key : ∀ (l : List Str), l.Nodup → zaf (un (l.map fun k => (k, zaf ps k))) k = if k ∈ l then zaf ps k else [] := by
  intro l
  induction l with
  | nil => intro _; rfl
  | cons x l ih =>
   intro hn;obtain ⟨hx, hl⟩ := nodup_cons.mp hn;unfold un at ih ⊢;rw [map_cons, flatMap_cons, zaV, ih hl];have e : zaf ((zaf ps x).map fun n => (x, n)) k = if x = k then zaf ps x else [] := by
    generalize zaf ps x = ns
    induction ns with
    | nil => split <;> rfl
    | cons n ns ih2 =>
     unfold zaf at ih2 ⊢;rw [map_cons, filter_cons]
     by_cases h : x = k
     ·rw [if_pos (decide_eq_true h), map_cons, ih2, if_pos h, if_pos h]
     ·rw [if_neg (by simpa using h), ih2, if_neg h, if_neg h]
   rw [e]
   by_cases h : x = k
   ·subst h; simp [hx]
   ·rw [if_neg h, List.nil_append]
    simp [Ne.symm h]
 unfold zaZ;rw [key _ (zaS ps)]
 by_cases h : k ∈ dk ps
 ·rw [if_pos h]
 ·rw [if_neg h, zbb h]
def zab (rows : List (List (Str × Int))) : List (Str × Int) := rows.flatMap fun r => un (zaZ r)
theorem zbl (rows : List (List (Str × Int))) (k : Str) : own (rows.map grp) k = zaf (zab rows) k := by
 induction rows with
 | nil => rfl
 | cons r rows ih =>
  unfold own at ih ⊢;rw [map_cons, map_cons, flatten_cons, zey, ih];unfold zab;rw [flatMap_cons, zaV, zef]
theorem zbQ (rows : List (List (Str × Int))) (k : Str) : zaQ (rows.map grp) k = decide (zaf (zab rows) k ≠ []) := by
 rw [← zbl];cases h : zaQ (rows.map grp) k with
 | false => rw [zen h]; simp
 | true =>
  symm
  rw [decide_eq_true_eq];unfold zaQ at h;obtain ⟨g, hg, hk⟩ := List.any_eq_true.mp h;obtain ⟨r, hr, rfl⟩ := mem_map.mp hg;have hk' : k ∈ dk r := by rw [← zaY, ← zaG]; simpa using hk
  have hv := zaD hk';rw [← zey] at hv;intro q;unfold own at q;rw [List.flatten_eq_nil_iff] at q;exact hv (q _ (mem_map.mpr ⟨_, hg, rfl⟩))
end
section
def Flown (h₀ : Heap) (l : List Env) (e : Addr) (cls : Value) (h : Heap) : Prop := ∃ h₁ a0, Ext [] h₀ h₁ ∧ Fly h₁ l e cls a0 .none h
section
variable {outer : List Env}
theorem zdh (hf : env.frame = some L) (q : (zaR (hideAll h₁ [L]) outer).get? b = some o) : (zaR h₁ (env :: outer)).get? b = some o := by
 have q1 := of_hideAll _ q;have q2 := of_hideAll _ q1;refine hideAll_get _ q2 fun z => ?_;have e1 : fa (env :: outer) = L :: fa outer := by unfold fa; rw [filterMap_cons_some hf]
 rw [e1] at z;rcases mem_cons.mp z with z | z
 ·rw [hideAll_none _ (by rw [z]; exact .head _)] at q1; cases q1
 ·unfold zaR at q; rw [hideAll_none _ z] at q; cases q
theorem zeL (x : Ext [] h₀ h₁) (hL : h₀.get? L = none) : Ext [] h₀ (hideAll h₁ [L]) := by
 have ne : ∀ {b o}, h₀.get? b = some o → b ∉ [L] := fun {b o} e q => by rw [mem_singleton.mp q, hL] at e; cases e
 refine ⟨fun b o e n => ?_, fun b o e => ?_⟩
 ·rcases x.keep b o e n with q | ⟨t, ps, more, rfl, q, kq⟩
  ·exact .inl (hideAll_get _ q (ne e))
  ·exact .inr ⟨t, ps, more, rfl, hideAll_get _ q (ne e), kq⟩
 ·obtain ⟨o', q⟩ := x.there b o e
  exact ⟨o', hideAll_get _ q (ne e)⟩
theorem zeJ (x : Ext [] h₀ h₁) (hf : env.frame = some L) (hL : h₀.get? L = none) (hen : h₁.get? e = none) (up : h₁.UpToSlots h)
  (z : (zaR h₁ (env :: outer)).StaysIn h') (t : h'.TracedW (zaR h₁ (env :: outer)) e cls a0) (u : h.UpToSlots h') : Flown h₀ outer e cls h' := by
 refine ⟨hideAll h₁ [L], a0, zeL x hL, fun b o q => z b o (zdh hf q), fun b o q n => (up.trans u) b o (of_hideAll _ q) n, zbj hen, ?_⟩;obtain ⟨oe, vs, T, oT, ts, q1, q2, q3, q4, q5, q6⟩ := t;refine ⟨oe, vs, T, oT, ts, q1, q2, q3, q4, ?_, q6⟩;cases y : (zaR (hideAll h₁ [L]) outer).get? T with
 | none => rfl
 | some o => rw [zdh hf y] at q5; cases q5
theorem zcc {oe : Obj} {Q : Unit → Shared → Prop} (x : Ext [] h₀ h₁) (F : Fs A h₁ (env :: outer)) (k : zaz h₁ s.heap) (hf : env.frame = some L) (hL : h₀.get? L = none)
  (he : s.heap.get? e = some oe) (hen : h₁.get? e = none) (hd : oe.data = .fields vs) (v0 : vs[0]? = some a0) (v1 : vs[1]? = some .none)
  (h : ∀ h', Flown h₀ outer e oe.cls h' → Q () { s with heap := h' }) : wpAny (model P w) A (leaving env (.ref e)) Q E s := by
 have F' : Fs A s.heap (env :: outer) := F.ext0 (.of_keeps k);refine wpAny_leaving_firstW (base := zaR h₁ (env :: outer)) F.fr F'.fun hf he (fun b o q => k b o (of_hideAll _ q)) (zbj hen) hd v1 v0 fun h' z => ?_;exact h h' (zeJ x hf hL hen (.of_keeps k) z.1 z.2.2.1 z.2.2.2)
theorem zbo {Q : Unit → Shared → Prop} (x : Ext [] h₀ h₁) (F : Fs A h₁ (env :: outer)) (hf : env.frame = some L) (hL : h₀.get? L = none) (fl : Flown h₁ (env :: outer) e cls s.heap)
  (h : ∀ h', Flown h₀ outer e cls h' → Q () { s with heap := h' }) : wpAny (model P w) A (leaving env (.ref e)) Q E s := by
 obtain ⟨h₂, a0, x2, z⟩ := fl;have F2 : Fs A h₂ (env :: outer) := F.ext0 x2;have F' : Fs A s.heap (env :: outer) := F2.ext (.of_rest F2 z.stays z.up);refine wpAny_leaving_nextW (base := zaR h₂ (env :: outer)) F.fr F'.fun hf z.at_ z.stays (zbj z.new) fun h' y => ?_;exact h h' (zeJ (x.trans x2 fun _ q => nomatch q) hf hL z.new z.up y.1 y.2.2.1 y.2.2.2)
theorem Flown.fext (F : Fs A h₀ outer) (fl : Flown h₀ outer e cls h) : FExt (fa outer) h₀ h := by
 obtain ⟨h₁, a0, x, z⟩ := fl;exact (FExt.of x).trans (z.fext (F.ext0 x))
theorem Flown.isA (fl : Flown h₀ outer e cls h) : ∃ o, h.get? e = some o ∧ o.cls = cls := let ⟨_, _, _, z⟩ := fl; z.isA
end
end
section
def isNm : Option Value → Bool
 | some (.str x _) => x == Str.ofString "CombinedMultiDict"
 | _ => false
theorem c560 (w : World) : ∃ o u, (KK w).lookup 560 = some o ∧ o.cls = .type "type" ∧ (o.slots[2]?).join = some (.str (Str.ofString "CombinedMultiDict") u) := by
 have h1 : (((KK w).lookup 560).map fun o => (o.cls == .type "type" && isNm (o.slots[2]?).join)) = some true := by kernel_rfl
 cases e : (KK w).lookup 560 with
 | none => rw [e] at h1; cases h1
 | some o =>
  rw [e] at h1;injection h1 with h1
  rw [and_eq_true] at h1;obtain ⟨a1, a2⟩ := h1;unfold isNm at a2
  split at a2
  ·rename_i x u hx
   exact ⟨o, u, rfl, by simpa using a1, by rw [hx, show x = _ by simpa using a2]⟩
  ·cases a2
theorem zfA : entryFor table "type.__getattribute__" = some Builtin.«type.__getattribute__» := entryFor_of_tree (by kernel_rfl)
theorem zcT : Slot "type" "__getattribute__" "type.__getattribute__" := .of (owner := "type") (n := "__getattribute__") (by rw [typeLookup_type, builtinLookup_eq_fast]; kernel_rfl) (by decide +kernel) (by decide +kernel) (by decide +kernel)
 (by first | exact .inl (by decide +kernel) | exact .inr (by decide +kernel)) (by rw [isSubtype_type]; kernel_rfl)
theorem zhd (a b : Value) : argsOk "type.__getattribute__" ⟨[a, b], []⟩ := by unfold argsOk; rw [Fast.signatureQ_eq]; kernel_rfl
theorem zgR : builtinKind "type.__getattribute__" = some .slot := by decide +kernel
theorem zfT : splitId "type.__getattribute__" = some ("type", "__getattribute__") := by decide +kernel
theorem zis : typeLookup (.type "type") "__name__" = pure (some (.builtin "type.__name__")) := by rw [typeLookup_type, builtinLookup_eq_fast]; kernel_rfl
theorem zh3 : isSubtype (.type "type") (.type "type") = pure true := by rw [isSubtype_type]; kernel_rfl
theorem zfO : nsIn (KK w) cStatics "thirdparty.any" = some none := by kernel_rfl
theorem gsT : typeOf (.builtin "type.__name__") = pure (.type "getset_descriptor") := by show builtinType _ = _; rw [builtinType_eq_fast]; kernel_rfl
theorem zhQ : specialOf (.builtin "type.__name__") "__get__" = pure (some (.builtin "getset_descriptor.__get__")) := by unfold specialOf; rw [gsT]; show typeLookup (.type "getset_descriptor") _ = _; rw [typeLookup_type, builtinLookup_eq_fast]; kernel_rfl
theorem zhY : specialOf (.builtin "type.__name__") "__set__" = pure (some (.builtin "getset_descriptor.__set__")) := by unfold specialOf; rw [gsT]; show typeLookup (.type "getset_descriptor") _ = _; rw [typeLookup_type, builtinLookup_eq_fast]; kernel_rfl
theorem zfJ : entryFor table "getset_descriptor.__get__" = some Builtin.«getset_descriptor.__get__» := entryFor_of_tree (by kernel_rfl)
theorem zgU : Slot "getset_descriptor" "__get__" "getset_descriptor.__get__" := .of (owner := "getset_descriptor") (n := "__get__") (by rw [typeLookup_type, builtinLookup_eq_fast]; kernel_rfl) (by decide +kernel) (by decide +kernel) (by decide +kernel)
 (by first | exact .inl (by decide +kernel) | exact .inr (by decide +kernel)) (by rw [isSubtype_type]; kernel_rfl)
theorem zgS (a b c : Value) : argsOk "getset_descriptor.__get__" ⟨[a, b, c], []⟩ := by unfold argsOk; rw [Fast.signatureQ_eq]; kernel_rfl
theorem zgN : builtinKind "getset_descriptor.__get__" = some .slot := by decide +kernel
theorem zfP : splitId "getset_descriptor.__get__" = some ("getset_descriptor", "__get__") := by decide +kernel
theorem zhy : isInstance (.builtin "type.__name__") (.type "getset_descriptor") = pure true := by
 unfold isInstance; rw [gsT]; show isSubtype (.type "getset_descriptor") (.type "getset_descriptor") = _; rw [isSubtype_type]; kernel_rfl
theorem zfL : entryFor table "type.__name__" = some Builtin.«type.__name__» := entryFor_of_tree (by kernel_rfl)
theorem dnc : PySem.Builtin.Getset_descriptor.descrNameAndClass (.builtin "type.__name__") = pure (Str.ofString "__name__", .type "type") := by kernel_rfl
theorem n560 (T : TopH w s.heap) (h : ∀ u, Q (.str (Str.ofString "CombinedMultiDict") u) { s with toks := s.toks + 1 }) : wpAny (model P w) A (getAttr (.ref 560) "__name__" true) Q E s := by
 obtain ⟨hp, g, d, t, os⟩ := s;obtain ⟨o, u, ho, hc, hs⟩ := c560 w;have eo := T.K _ _ ho;have L0 : Looks (model P w) hp (typeOf (.ref 560)) (.type "type") := hc ▸ (Looks.ld eo).andThen .now;have L3 : Looks (model P w) hp (isInstance (.ref 560) (.type "type")) true := L0.andThen (Looks.of_pure zh3);unfold getAttr getAttrBy;refine wpAny_bind (wpAny_mkText (wpAny_holding (wpAny_bind (L0.at ?_))));refine wpAny_bind ((Looks.of_pure zcT.lookup).at ?_);ext d;refine zax (show ¬ ((onTheHeap (.type "type") && (Value.builtin "type.__getattribute__" == Value.builtin "object.__getattribute__")) = true) by decide) ?_;unfold getAttrByItsOwn hookBefore;refine wpAny_bind (zax (by decide) (wpAny_pure ?_));refine wpAny_bind (wpAny_attempt (wpAny_holding ?_));unfold callGetattribute boundAndCalled;refine zax (by simp [onTheHeap]) ?_;rw [zcT.bind];refine wpAny_bind (wpAny_pure ?_);ext call;refine codeAny_call_builtin zcT.plain zfA (@check_slot (model P w) _ _ ⟨hp, g, d, t + 1, os⟩ "type.__getattribute__" "type" "__getattribute__" (.ref 560) [.str "__name__" t] [] _ zgR zfT L3 (zhd _ _) ?_);unfold Builtin.«type.__getattribute__»;ext d;refine wpAny_bind (wpAny_pure ?_);have LO : Looks (model P w) hp (opaqueClassAbove (.ref 560)) none := by
  unfold opaqueClassAbove anyOpaqueLoaded;ext d;exact Looks.andThen (Looks.andThen (looks_nsIn T.K zfO) (Looks.of_pure rfl)) (Looks.of_pure rfl)
 ext d;refine wpAny_bind (LO.at ?_);ext d;refine wpAny_bind (L0.at ?_);refine wpAny_bind ((Looks.of_pure zis).at ?_);ext d;refine wpAny_bind ((Looks.of_pure zhQ).at ?_);ext d;refine wpAny_bind ((Looks.of_pure zhY).at ?_);refine zch (by rfl) ?_;refine wpAny_bind (wpAny_pure ?_);refine zch (by rfl) ?_;refine wpAny_bind (wpAny_holding ?_);ext call;refine codeAny_call_builtin zgU.plain zfJ (@check_slot (model P w) _ _ ⟨hp, g, d, t + 1, os⟩ "getset_descriptor.__get__" "getset_descriptor" "__get__" (.builtin "type.__name__") [.ref 560, .type "type"] [] _ zgN zfP (Looks.of_pure zhy) (zgS _ _ _) ?_);unfold Builtin.«getset_descriptor.__get__»;show wpAny _ _ ((pure (Value.builtin "type.__name__", some (Value.ref 560), some (Value.type "type")) : Sem _) >>= fun x => PySem.Builtin.Getset_descriptor.descrGetter x.1 x.2.1) _ _ _;refine wpAny_bind (wpAny_pure ?_);have LD : Looks (model P w) hp (PySem.Builtin.Getset_descriptor.descrCheckInstance (.builtin "type.__name__") (.ref 560)) () := by
  unfold PySem.Builtin.Getset_descriptor.descrCheckInstance;rw [dnc];exact Looks.andThen (Looks.of_pure rfl) (Looks.andThen L3 (Looks.of_pure rfl))
 refine wpAny_bind (LD.at ?_);ext pure;refine ⟨Code.quiet_builtin _ (by decide +kernel), codeAny_builtin zfL ?_⟩;unfold Builtin.«type.__name__»;show wpAny _ _ (Builtin.keptObject (.ref 560) 2 "__name__" _) _ _ _;unfold Builtin.keptObject slotAt;refine wpAny_bind (wpAny_bind (wpAny_loadPart eo ?_));ext pure;rw [hs];ext pure d pure d;rw [show handedOut (.str (Str.ofString "CombinedMultiDict") u) = pure (.str (Str.ofString "CombinedMultiDict") u) from rfl];exact wpAny_pure (h u)
end
section
theorem rn : reprText (Str.ofString "CombinedMultiDict") = Str.ofString "'CombinedMultiDict'" := by decide +kernel
theorem rl1 : (Str.ofString "'CombinedMultiDict'").length ≤ sizeLine := by decide +kernel
theorem rl2 : (Str.empty ++ Str.ofString "'CombinedMultiDict'").length ≤ sizeLine := by decide +kernel
theorem rl3 : (Str.empty ++ Str.ofString "'CombinedMultiDict'" ++ Str.ofString " objects are immutable").length ≤ sizeLine := by decide +kernel
theorem zbS (hA : Rm 500 A) (hh : A.handled = none) (T : TopH w s.heap) (F : Fs A s.heap l)
  (ho : s.heap.get? x = some o) (hc : o.cls = .ref 560)
  (hR : ∀ h' tk e, Flown s.heap l e (.type "TypeError") h' → R (.error (.ref e)) ⟨h', s.gens, s.drawn, tk, s.os⟩) :
  codeAny (model P w) A (.call (.ref 98) ⟨[.ref x], []⟩) R s := by
 unhygienic
 revert hen w A s R x o l;refine zbw [(Str.ofString "self", .ref x)] hA T (by rfl) (by rfl) (by rfl) (by rfl) (BindsTo.of_eq rfl) (by decide) (locs rfl) fun h₁ D hA' hh' => ?_;replace hh' := hh'.trans hh;have T1 := D.top T (by simp);ext execs_cons;refine Raise_new hh' ?_;ext Call_NameR;refine zae (by assumption) rfl rfl rfl (by boot_by_name) (by decide) ?_;ext o.call_bi items_cons JoinedStr FormattedValue_repr o.Attribute_any_ Call_NameR;refine zae (by assumption) rfl rfl rfl (by boot_by_name) (by decide) ?_;ext o.call_bi items_cons;refine zaa D.ns (by rfl) ?_;ext items_nil;have o1 : h₁.get? x = some o := D.ext.get ho (by unfold hasCls; rw [hc]) (by simp);refine call_type_obj o1 (by rw [hc]; rfl) ?_;rw [hc];refine n560 T1 fun u => ?_;refine pyReprObj_str (hx := by rw [rn]; exact rl1) ?_;rw [rn];refine PyProof.Rows.formatField_str (hsz := rl1) (fun t1 tk1 => ?_);refine ⟨_, _, rfl, rl2, ?_⟩;ext Constant_str;refine ⟨_, _, rfl, rl3, ?_⟩;refine ⟨rl3, ?_⟩
 try dsimp only
 ext items_nil;refine call_exc_raise excClass_TypeError (fun h2 e hx => ?_);have F1 := (F.ext0 D.ext).call hA' D.ns T.low;obtain ⟨ob, t2, he, hcls, hd⟩ := hx.there;rw [← hcls] at hR;refine zcc D.ext F1 hx.keeps rfl (zac (le_refl _)) he hx.new hd rfl rfl (fun h3 fl => ?_);exact hR _ _ _ fl
end
section
theorem zgV {k : Value} (hA : Rm 495 A) (hh : A.handled = none) (T : TopH w s.heap) (F : Fs A s.heap l)
  (ho : s.heap.get? x = some o) (hc : o.cls = .ref 560)
  (hR : ∀ h' tk e, Flown s.heap l e (.type "TypeError") h' → R (.error (.ref e)) ⟨h', s.gens, s.drawn, tk, s.os⟩) :
  codeAny (model P w) A (.call (.ref 184) ⟨[.ref x, k, v], []⟩) R s := by
 refine zbw [(Str.ofString "self", .ref x), (Str.ofString "key", k), (Str.ofString "value", v)] hA T (by rfl) (by rfl) (by rfl) (by rfl) (BindsTo.of_eq rfl) (by decide) (locs rfl) fun h₁ D hA' hh' => ?_;replace hh' := hh'.trans hh;have T1 := D.top T (by simp);have F1 := (F.ext0 D.ext).call hA' D.ns T.low;have o1 : h₁.get? x = some o := D.ext.get ho (by unfold hasCls; rw [hc]) (by simp);ext execs_cons Expr_any Call_NameR;refine zaj (by assumption) rfl (by rfl) ?_;ext o.cf;ext items_cons;refine zaa D.ns (by rfl) ?_;ext items_nil;refine ⟨T1, ?_⟩;ext call;refine zbS (hA'.mono (by decide)) hh' T1 F1 o1 hc (fun h2 tk e fl => ?_);exact zbo D.ext F1 rfl (zac (le_refl _)) fl fun h3 fl3 => hR _ _ _ fl3
theorem zdm {k : Value} (hA : Rm 495 A) (hh : A.handled = none) (T : TopH w s.heap) (F : Fs A s.heap l)
  (ho : s.heap.get? x = some o) (hc : o.cls = .ref 560)
  (hR : ∀ h' tk e, Flown s.heap l e (.type "TypeError") h' → R (.error (.ref e)) ⟨h', s.gens, s.drawn, tk, s.os⟩) :
  codeAny (model P w) A (.call (.ref 205) ⟨[.ref x, k, v], []⟩) R s := by
 refine zbw [(Str.ofString "self", .ref x), (Str.ofString "key", k), (Str.ofString "new_list", v)] hA T (by rfl) (by rfl) (by rfl) (by rfl) (BindsTo.of_eq rfl) (by decide) (locs rfl) fun h₁ D hA' hh' => ?_;replace hh' := hh'.trans hh;have T1 := D.top T (by simp);have F1 := (F.ext0 D.ext).call hA' D.ns T.low;have o1 : h₁.get? x = some o := D.ext.get ho (by unfold hasCls; rw [hc]) (by simp);ext execs_cons Expr_any Call_NameR;refine zaj (by assumption) rfl (by rfl) ?_;ext o.cf;ext items_cons;refine zaa D.ns (by rfl) ?_;ext items_nil;refine ⟨T1, ?_⟩;ext call;refine zbS (hA'.mono (by decide)) hh' T1 F1 o1 hc (fun h2 tk e fl => ?_);exact zbo D.ext F1 rfl (zac (le_refl _)) fl fun h3 fl3 => hR _ _ _ fl3
theorem zgA {k : Value} (hA : Rm 495 A) (hh : A.handled = none) (T : TopH w s.heap) (F : Fs A s.heap l)
  (ho : s.heap.get? x = some o) (hc : o.cls = .ref 560)
  (hR : ∀ h' tk e, Flown s.heap l e (.type "TypeError") h' → R (.error (.ref e)) ⟨h', s.gens, s.drawn, tk, s.os⟩) :
  codeAny (model P w) A (.call (.ref 135) ⟨[.ref x, k], []⟩) R s := by
 refine zbw [(Str.ofString "self", .ref x), (Str.ofString "key", k), (Str.ofString "default", .none)] hA T (by rfl) (by rfl) (by rfl) (by rfl) (binds_K T.K rfl (by rfl) rfl rfl rfl) (by decide) (locs rfl) fun h₁ D hA' hh' => ?_;replace hh' := hh'.trans hh;have T1 := D.top T (by simp);have F1 := (F.ext0 D.ext).call hA' D.ns T.low;have o1 : h₁.get? x = some o := D.ext.get ho (by unfold hasCls; rw [hc]) (by simp);ext execs_cons Expr_any Call_NameR;refine zaj (by assumption) rfl (by rfl) ?_;ext o.cf;ext items_cons;refine zaa D.ns (by rfl) ?_;ext items_nil;refine ⟨T1, ?_⟩;ext call;refine zbS (hA'.mono (by decide)) hh' T1 F1 o1 hc (fun h2 tk e fl => ?_);exact zbo D.ext F1 rfl (zac (le_refl _)) fl fun h3 fl3 => hR _ _ _ fl3
end
section
theorem zhV {w : World} {A : Around} {fd : FuncData} (binds : List (Str × Value)) {n : Nat} (hA : Rm n A) (T : TopH w s.heap)
  (ho : (KK w).lookup a = some o) (hdata : o.data = .func fd) (hcd : codeIn (KK w) fd.code fd.qualname = true)
  (hbody : fd.body = .stmts body) (hbind : ∀ (M : Model) (A : Around) (E : Value → Shared → Prop) (Q : List (Str × Value) → Shared → Prop), Q binds s₁ → wpAny M A (bindArgs fd args) Q E s) (hk1 : zaz s.heap s₁.heap) (hs1 : s.heap.objs.size ≤ s₁.heap.objs.size)
  (hcell : ∀ x ∈ fd.scope.names, x.2 ≠ .cell) (hloc : ∀ x ∈ binds, fd.scope.names.lookup x.1 = some .local)
  (h : ∀ h₁, Me [] s.heap h₁ s₁.heap.objs.size (fun x => binds.reverse.lookup x) [] → Rm (n + 1) (A.deeper (callEnv fd s₁.heap.objs.size a)) → (A.deeper (callEnv fd s₁.heap.objs.size a)).handled = A.handled →
   wpAny (model P w) (A.deeper (callEnv fd s₁.heap.objs.size a)) (execs body (callEnv fd s₁.heap.objs.size a)) (fun f s' => R (.ok (.ret (match f with | .ret v => v | _ => .none))) s')
    (fun e s' => wpAny (model P w) (A.deeper (callEnv fd s₁.heap.objs.size a)) (leaving (callEnv fd s₁.heap.objs.size a) e) (fun _ s'' => R (.error e) s'') (fun e' s'' => R (.error e') s'') s')
    { s₁ with heap := h₁, toks := s₁.toks + binds.length })
  (hn : n ≤ 600 := by decide) (hco : fd.scope.isCoroutine = false := by rfl) (hgen : fd.scope.isGenerator = false := by rfl) (hk : fd.scope.kind = .function := by rfl) : codeAny (model P w) A (.call (.ref a) args) R s := by
 have T1 : TopH w s₁.heap := T.ext (.of_keeps hk1) (by simp);refine codeAny_call_function (hA.dlt hn) (T.K _ _ ho) hdata hco hgen hbody (codeRec_of T.K hcd) (hbind _ _ _ _ ?_);refine wpAny_newFunctionEnv hcell hloc (fun h₀ hns₀ hsb₀ => ⟨T1.lim.fresh _ hsb₀, codeAny_func (h h₀ ?_ (hA.deeper _) rfl)⟩) hk;have k0 : zaz s₁.heap h₀ := fun b o e => hsb₀.extBut b o (ne_of_lt (lt_size e)) (get?_push_of_some _ e);exact ⟨.of_keeps fun b o e => k0 b o (hk1 b o e), hns₀, fun _ q => (nomatch q), nodup_nil, fun _ q => (nomatch q), fun _ q => (nomatch q), .inr (zac hs1)⟩
theorem zd6 {k : Value} (hA : Rm 495 A) (hh : A.handled = none) (T : TopH w s.heap) (F : Fs A s.heap l)
  (ho : s.heap.get? x = some o) (hc : o.cls = .ref 560)
  (hR : ∀ h' tk e, Flown s.heap l e (.type "TypeError") h' → R (.error (.ref e)) ⟨h', s.gens, s.drawn, tk, s.os⟩) :
  codeAny (model P w) A (.call (.ref 120) ⟨[.ref x, k], []⟩) R s := by
 unhygienic
 revert hen w A s R x o l k;refine zhV (s₁ := { s with heap := s.heap.push { cls := .type "dict", data := .dict #[] } }) [(Str.ofString "self", .ref x), (Str.ofString "arg", k), (Str.ofString "kwargs", .ref s.heap.objs.size)] hA T (by rfl) (by rfl) (by rfl) (by rfl) ?_ (fun _ _ e => get?_push_of_some _ e) (by rw [size_push]; exact le_succ _) (by decide) (locs rfl) fun h₁ D hA' hh' => ?_
 ·intro M A E Q q
  conv => arg 3; whnf
  ext o.nd_alloc
  conv => arg 3; whnf
  ext pure;exact q
 ·replace hh' := hh'.trans hh
  haveI T1 := D.top T (by simp)
  haveI F1 : Fs _ h₁ (_ :: l) := (F.ext0 D.ext).call hA' D.ns (by show 604 ≤ (s.heap.push _).objs.size; rw [size_push]; exact le_succ_of_le T.low)
  have o1 : h₁.get? x = some o := D.ext.get ho (by unfold hasCls; rw [hc]) (by simp);ext execs_cons Expr_any Call_NameR;refine zaj (by assumption) rfl (by rfl) ?_;ext o.cf;ext items_cons;refine zaa D.ns (by rfl) ?_;ext items_nil;refine ⟨T1, ?_⟩;ext call;refine zbS (hA'.mono (by decide)) hh' T1 F1 o1 hc (fun h2 tk e fl => ?_);exact zbo D.ext F1 rfl (zac (by show _ ≤ (s.heap.push _).objs.size; rw [size_push]; exact le_succ _)) fl fun h3 fl3 => hR _ _ _ fl3
end
section
theorem zez : isSubtype (.type "TypeError") (.type "BaseException") = pure true := by rw [isSubtype_type]; kernel_rfl
theorem zc6 : isSubtype (.type ((Manifest.find? "TypeError").elim "type" fun x => x.metatype)) (.type "tuple") = pure false := by rw [isSubtype_type]; kernel_rfl
theorem zeF : isSubtype (.type "TypeError") (.type "TypeError") = pure true := by rw [isSubtype_type]; kernel_rfl
theorem zaB {l : Addr} {hsh : Int} {t : Tok} {n : Nat} {name : Str} {pl : Sem Bool} {Q : Value × List Value → Shared → Prop} (T : TopH w s.heap) (X : WH w b s.heap x gs dx l hsh t n c vs es ep)
  (hf : findIn (KK w) (.ref 560) name = some (some (.ref f))) (ht : typeIn (KK w) (.ref f) = some (.type "function")) (hs : shadowIn (some (ze1 hsh t l n)) name = some false) (h : Q (.ref f, [.ref x]) s) : wpAny (model P w) A (getMethod (.ref x) name pl) Q E s :=
 zex T.K X.inst.i (by kernel_rfl) (by kernel_rfl) hf ht hs h
theorem zdH {A : Around} {t td : Tok} {n : Nat} {d : Int} : ∀ (hA : Rm 480 A) (hh : A.handled = none) (T : TopH w s.heap) (X : WH w b s.heap x gs dx dl hsh t n c vs es ep) (F : Fs A s.heap l) (hR : ∀ h' tk, FExt (fa l) s.heap h' → R (.ok (.ret (.bool true))) ⟨h', s.gens, s.drawn, tk, s.os⟩), codeAny (model P w) A (.call (.ref 591) ⟨[.ref x, .int d td], []⟩) R s := by
 unhygienic
 revert hen w A s R x dx dl b gs hsh t td n c ep vs es d l;refine zaW [(Str.ofString "whole", .ref x), (Str.ofString "deed", .int d td)] hA T (by rfl) (by rfl) (by rfl) (by rfl) (BindsTo.of_eq rfl) (by decide) (locs rfl) fun h₁ D hA' hh' => ?_
 letI hh' := hh'.trans hh
 revert hen h₁;refine zeD fun Q0 E0 hQ0 => ?_
 haveI T1 := D.top T (by simp)
 haveI X1 := X.ext0 D.ext
 haveI F1 := (F.ext0 D.ext).call hA' D.ns T.low
 revert hen Q0 E0;ext o.ks_wpAt_execs_cons o.wpAt_Try o.wpAt_of_wpAny execs_cons If isTrue_Compare1;refine zaa D.ns (by rfl) ?_;ext Constant_int o.eq_int truthy_bool
 by_cases h0 : d = 0
 ·rw [if_pos (by simpa using h0)]
  ext execs_cons Expr_any o.methodCall_KW;refine zaa D.ns (by rfl) ?_;refine zaB (f := 184) T1 X1 (by kernel_rfl) (by rfl) (by rfl) ?_;ext o.cf;ext items_cons Constant_str items_cons Constant_int items_nil;refine ⟨T1, ?_⟩;ext call;refine zgV (hA'.mono (by decide)) hh' T1 F1 X1.inst.at_ rfl (fun h2 tk2 e fl => ?_);obtain ⟨hm, a0, xm, zf⟩ := fl
  haveI Fm := F1.ext0 xm
  refine za7 Fm rfl zf (fun h4 z4 => ?_);refine zfp Fm z4 (fun h5 z5 => ?_);have x5 := z5.fext Fm;have T5 := (T1.ext xm (by simp)).fext Fm x5;obtain ⟨oe, ee, ce⟩ := z5.isA;refine wpAny_handleBy_builtin (X := "TypeError") (T := "TypeError") (b := true) zez zc6 zeF ?_;refine zae (by assumption) rfl rfl rfl (by boot_by_name) (by decide) ?_;refine ⟨rfl, ⟨oe, ee, ce⟩, ?_⟩;rw [if_pos rfl];refine zfp (Fm.same rfl) z5 (fun h6 z6 => ?_);have x6 := z6.fext Fm;ext execs_cons Return_some Constant_bool;refine hQ0 _ _ ?_;exact hR _ _ (FExt.leave (D.ext.trans xm fun _ q => nomatch q) x6 (zag _))
 rw [if_neg (by simpa using h0)];ext execs_cons If isTrue_Compare1;refine zaa D.ns (by rfl) ?_;ext Constant_int o.eq_int truthy_bool
 by_cases h1 : d = 1
 ·rw [if_pos (by simpa using h1)]
  ext execs_cons Expr_any o.methodCall_KW;refine zaa D.ns (by rfl) ?_;refine zaB (f := 205) T1 X1 (by kernel_rfl) (by rfl) (by rfl) ?_;ext o.cf;ext items_cons Constant_str items_cons List items_cons Constant_int items_nil;refine ⟨by show (1 : Nat) ≤ sizeLine; decide, ?_⟩
  try dsimp only
  ext items_nil;generalize hq : h₁.push _ = hp
  haveI exl : Ext [] h₁ hp := by rw [← hq]; exact Ext.push h₁ _
  have X2 := X1.ext0 exl;have T2 : TopH w hp := T1.ext exl (by simp);have F2 := F1.ext0 exl;have DX := D.ext.trans exl fun _ q => nomatch q;refine ⟨T2, ?_⟩;ext call;refine zdm (hA'.mono (by decide)) hh' T2 F2 X2.inst.at_ rfl (fun h2 tk2 e fl => ?_);obtain ⟨hm, a0, xm, zf⟩ := fl
  haveI Fm := F2.ext0 xm
  refine za7 Fm rfl zf (fun h4 z4 => ?_);refine zfp Fm z4 (fun h5 z5 => ?_);have x5 := z5.fext Fm;have T5 := (T2.ext xm (by simp)).fext Fm x5;obtain ⟨oe, ee, ce⟩ := z5.isA;refine wpAny_handleBy_builtin (X := "TypeError") (T := "TypeError") (b := true) zez zc6 zeF ?_;refine zae (by assumption) rfl rfl rfl (by boot_by_name) (by decide) ?_;refine ⟨rfl, ⟨oe, ee, ce⟩, ?_⟩;rw [if_pos rfl];refine zfp (Fm.same rfl) z5 (fun h6 z6 => ?_);have x6 := z6.fext Fm;ext execs_cons Return_some Constant_bool;refine hQ0 _ _ ?_;exact hR _ _ (FExt.leave (DX.trans xm fun _ q => nomatch q) x6 (zag _))
 rw [if_neg (by simpa using h1)];ext execs_cons If isTrue_Compare1;refine zaa D.ns (by rfl) ?_;ext Constant_int o.eq_int truthy_bool
 by_cases h2 : d = 2
 ·rw [if_pos (by simpa using h2)]
  ext execs_cons Expr_any o.methodCall_KW;refine zaa D.ns (by rfl) ?_;refine zaB (f := 135) T1 X1 (by kernel_rfl) (by rfl) (by rfl) ?_;ext o.cf;ext items_cons Constant_str items_nil;refine ⟨T1, ?_⟩;ext call;refine zgA (hA'.mono (by decide)) hh' T1 F1 X1.inst.at_ rfl (fun h2 tk2 e fl => ?_);obtain ⟨hm, a0, xm, zf⟩ := fl
  haveI Fm := F1.ext0 xm
  refine za7 Fm rfl zf (fun h4 z4 => ?_);refine zfp Fm z4 (fun h5 z5 => ?_);have x5 := z5.fext Fm;have T5 := (T1.ext xm (by simp)).fext Fm x5;obtain ⟨oe, ee, ce⟩ := z5.isA;refine wpAny_handleBy_builtin (X := "TypeError") (T := "TypeError") (b := true) zez zc6 zeF ?_;refine zae (by assumption) rfl rfl rfl (by boot_by_name) (by decide) ?_;refine ⟨rfl, ⟨oe, ee, ce⟩, ?_⟩;rw [if_pos rfl];refine zfp (Fm.same rfl) z5 (fun h6 z6 => ?_);have x6 := z6.fext Fm;ext execs_cons Return_some Constant_bool;refine hQ0 _ _ ?_;exact hR _ _ (FExt.leave (D.ext.trans xm fun _ q => nomatch q) x6 (zag _))
 rw [if_neg (by simpa using h2)];ext execs_cons Expr_any o.methodCall_KW;refine zaa D.ns (by rfl) ?_;refine zaB (f := 120) T1 X1 (by kernel_rfl) (by rfl) (by rfl) ?_;show wpAny _ _ (callWith _ (.ref _) _ (backTo _ (starEach _ _)) []) _ _ _;ext o.cf;ext items_cons List items_cons o.Tuple_ items_cons Constant_str items_cons Constant_int items_nil;refine wpAny_newObj_type ?_ (by show (2 : Nat) ≤ sizeLine; decide);ext items_nil;refine ⟨by show (1 : Nat) ≤ sizeLine; decide, ?_⟩
 try dsimp only
 ext items_nil;generalize hq : (h₁.push _).push _ = hp
 haveI exl : Ext [] h₁ hp := by rw [← hq]; exact (Ext.push h₁ _).trans (Ext.push _ _) fun _ q => nomatch q
 have X2 := X1.ext0 exl;have T2 : TopH w hp := T1.ext exl (by simp);have F2 := F1.ext0 exl;have DX := D.ext.trans exl fun _ q => nomatch q;refine ⟨T2, ?_⟩;ext call;refine zd6 (hA'.mono (by decide)) hh' T2 F2 X2.inst.at_ rfl (fun h2 tk2 e fl => ?_);obtain ⟨hm, a0, xm, zf⟩ := fl
 haveI Fm := F2.ext0 xm
 refine za7 Fm rfl zf (fun h4 z4 => ?_);refine zfp Fm z4 (fun h5 z5 => ?_);have x5 := z5.fext Fm;have T5 := (T2.ext xm (by simp)).fext Fm x5;obtain ⟨oe, ee, ce⟩ := z5.isA;refine wpAny_handleBy_builtin (X := "TypeError") (T := "TypeError") (b := true) zez zc6 zeF ?_;refine zae (by assumption) rfl rfl rfl (by boot_by_name) (by decide) ?_;refine ⟨rfl, ⟨oe, ee, ce⟩, ?_⟩;rw [if_pos rfl];refine zfp (Fm.same rfl) z5 (fun h6 z6 => ?_);have x6 := z6.fext Fm;ext execs_cons Return_some Constant_bool;refine hQ0 _ _ ?_;exact hR _ _ (FExt.leave (DX.trans xm fun _ q => nomatch q) x6 (zag _))
end
section
def zdL (g : Grp) (k : Str) (ns : List Int) : Grp := if k ∈ g.map (·.1) then g.map (fun p => if p.1 = k then (p.1, p.2 ++ ns) else p) else g ++ [(k, ns)]
theorem zfe {g : Grp} {n : Int} (h : k ∈ g.map (·.1)) : (zaO g k n).map (·.1) = g.map (·.1) := by
 unfold zaO;rw [if_pos h, map_map];refine map_congr_left fun p _ => ?_;simp only [Function.comp]
 split <;> rfl
theorem zeh : ∀ (ns : List Int) (g : Grp), k ∈ g.map (·.1) → ns.foldl (fun g n => zaO g k n) g = g.map (fun p => if p.1 = k then (p.1, p.2 ++ ns) else p)
 | [], g, _ => by
  rw [List.foldl_nil]
  conv => lhs; rw [← map_id g]
  refine map_congr_left fun p _ => ?_
  split
  ·simp
  ·rfl
 | n :: ns, g, h => by
  rw [foldl_cons, zeh ns _ (by rw [zfe h]; exact h)];unfold zaO;rw [if_pos h, map_map];refine map_congr_left fun p _ => ?_;simp only [Function.comp]
  by_cases e : p.1 = k
  ·simp [e]
  ·simp [e]
theorem zf5 (g : Grp) (k : Str) (ns : List Int) (h : ns ≠ []) : zdL g k ns = ns.foldl (fun g n => zaO g k n) g := by
 by_cases hk : k ∈ g.map (·.1)
 ·rw [zeh ns g hk]; unfold zdL; rw [if_pos hk]
 ·cases ns with
  | nil => exact absurd rfl h
  | cons n ns =>
   have e : zaO g k n = g ++ [(k, [n])] := by unfold zaO; rw [if_neg hk]
   rw [foldl_cons, e, zeh ns _ (by rw [map_append]; exact List.mem_append_right _ (.head _))];unfold zdL;rw [if_neg hk, map_append]
   congr 1
   ·conv => lhs; rw [← map_id g]
    refine map_congr_left fun p hp => ?_;have : p.1 ≠ k := fun q => hk (by rw [← q]; exact mem_map_of_mem (f := (·.1)) hp);simp [this]
   ·simp
theorem ze6 (g0 : Grp) (g : Grp) (h : ∀ p ∈ g, p.2 ≠ []) : g.foldl (fun r p => zdL r p.1 p.2) g0 = (un g).foldl (fun r p => zaO r p.1 p.2) g0 := by
 induction g generalizing g0 with
 | nil => rfl
 | cons p g ih =>
  rw [foldl_cons, ih _ fun q hq => h q (.tail _ hq)];unfold un;rw [flatMap_cons, foldl_append, zf5 _ _ _ (h p (.head _)), List.foldl_map]
theorem zd7 (rows : List (List (Str × Int))) : (rows.map grp).foldl (fun r g => g.foldl (fun r p => zdL r p.1 p.2) r) [] = zaZ (zab rows) := by
 have key : ∀ (rows : List (List (Str × Int))) (g0 : Grp), (rows.map grp).foldl (fun r g => g.foldl (fun r p => zdL r p.1 p.2) r) g0 = (zab rows).foldl (fun r p => zaO r p.1 p.2) g0 := by
  intro rows
  induction rows with
  | nil => intro g0; rfl
  | cons r rows ih =>
   intro g0;rw [map_cons, foldl_cons, ih]
   rewrite [ze6 _ _ (fun p hp => ?_)]
   ·unfold zab
    rw [flatMap_cons, foldl_append, zaG]
   ·rw [zaG] at hp
    obtain ⟨k, hk, rfl⟩ := mem_map.mp hp;exact zaD hk
 rw [key, ← zaG]; rfl
end
section
def zgx (K : Frag) (C : Addr) : Bool := match K.lookup C with
 | some ⟨_, _, .cls cd, sl⟩ => !cd.abstract && !cd.hasDel && (sl.toList[4]?).join == some (.builtin "Exception.__new__") && !cd.mro.isEmpty && cd.mro.contains (.ref C) && cd.mro.contains (.type "Exception") &&
   specialIn K (.ref C) "__call__" == some (some (.builtin "type.__call__")) && instIn K (.ref C) (.type "type") == some true
 | _ => false
structure MakesE (M : Model) (h : Heap) (C : Addr) : Prop where
 obj : ∃ oc od cd sl, h.get? C = some ⟨oc, od, .cls cd, sl⟩ ∧ cd.abstract = false ∧ cd.hasDel = false ∧ cd.mro.isEmpty = false
 made : Looks M h (Bind.madeBy (.ref C)) (some "Exception.__new__")
 base : Looks M h (Bind.staticBase (.ref C)) (.ref C)
 self : Looks M h (isSubtype (.ref C) (.ref C)) true
 top : Looks M h (isSubtype (.ref C) (.type "Exception")) true
 call : Looks M h (specialOf (.ref C) "__call__") (some (.builtin "type.__call__"))
 typ : Looks M h (isInstance (.ref C) (.type "type")) true
theorem zgo (X : K.In h) (e : zgx K C = true) : MakesE M h C := by
 unfold zgx at e
 split at e
 ·rename_i oc od cd sl ho
  simp only [and_eq_true, not_eq_true', beq_iff_eq] at e;obtain ⟨⟨⟨⟨⟨⟨⟨e1, e2⟩, e3⟩, e4⟩, e5⟩, e6⟩, e7⟩, e8⟩ := e;have hc : clsIn K C = some cd := by unfold clsIn; rw [ho]
  have hm : Looks M h (mroOf (.ref C)) cd.mro := (looks_clsIn X hc).andThen .now;obtain ⟨c, l, hl⟩ : ∃ c l, cd.mro = c :: l := by cases q : cd.mro with | nil => rw [q] at e4; cases e4 | cons c l => exact ⟨c, l, rfl⟩
  have made : Looks M h (Bind.madeBy (.ref C)) (some "Exception.__new__") := by
   intro A Q E s k q;unfold Bind.madeBy;refine wpAny_bind (hm A _ E s k ?_);rw [hl, forIn_cons];refine wpAny_bind (wpAny_bind (wpAny_bind (wpAny_bind (wpAny_loadPart (k _ _ (X _ _ ho)) (wpAny_pure ?_)))));ext d;rw [← getElem?_toList, e3];exact wpAny_pure (wpAny_pure (wpAny_pure q))
  refine ⟨⟨oc, od, cd, sl, X _ _ ho, e1, e2, e4⟩, made, ?_, looks_mroIn X ?_, looks_mroIn X ?_, looks_specialIn X e7, looks_instIn X e8⟩
  ·intro A Q E s k q
   unfold Bind.staticBase;refine wpAny_bind (hm A _ E s k ?_);rw [hl, forIn_cons];exact wpAny_bind (wpAny_bind (wpAny_bind (made A _ E s k (wpAny_pure (wpAny_pure (wpAny_pure q))))))
  ·unfold mroIn; rw [hc, bind_some, if_neg (by rw [e4]; decide), e5]
  ·unfold mroIn; rw [hc, bind_some, if_neg (by rw [e4]; decide), e6]
 ·cases e
theorem zej : (Option.map Manifest.canonical (some "Exception.__new__") != some (Manifest.canonical "BaseException.__new__")) = false := by rw [map_some, PySem.F.excBase_Exception.canon, bne_self_eq_false]
theorem zgH (w : World) : zgx (KK w) 66 = true := by kernel_rfl
theorem zim {prog : Program} {w : World} {C : Addr} {R : Result → Shared → Prop} {h : Heap} {rest : List Value} : ∀ (Y : MakesE (model prog w) h C) (na : Looks (model prog w) h (isSubtype (.ref C) (.type "AttributeError")) false) (nn : Looks (model prog w) h (isSubtype (.ref C) (.type "NameError")) false) (hrest : rest.length ≤ sizeLine) (hq : R (.ok (.ret (.ref (h.objs.size + 1)))) ⟨(h.push { cls := .type "tuple", data := .seq rest.toArray }).push { cls := .ref C, data := .fields #[.ref h.objs.size, .none, .none, .none, .bool false, .none] }, g, d, t, os⟩), codeAny (model prog w) A (.call (.builtin "Exception.__new__") ⟨.ref C :: rest, []⟩) R ⟨h, g, d, t, os⟩ := by
 unhygienic
 revert hen prog w A C R h g d t os rest;obtain ⟨⟨oc, od, cd, sl, hC, e1, e2, e4⟩, made, base, self, top, call, typ⟩ := Y;have Fn := PySem.F.excBase_Exception;have hstar := Fn.noStar;refine codeAny_call_builtin_code (Code.quiet_builtin _ (by decide +kernel)) ?_;simp only [checkBuiltinCall, Fn.newKind, Fn.newSplit, Fn.newRow];have here : Looks (model prog w) h (Bind.madeHere "Exception.__new__" (.ref C)) () := by
  refine base.andThen (made.andThen ?_)
  with_reducible refine Looks.of_pure ?_
  simp only [map_some, bne_self_eq_false, false_eq_true, if_false]
 have isT : Looks (model prog w) h (isType (.ref C)) true := (Looks.ld hC).andThen .now
 iterate 31 (first | simp only [bne_self_eq_false, false_eq_true, if_false] | lk)
 have hends := Fn.ends;refine codeAny_builtinAt Fn.entry ?_;unfold Builtin.«BaseException.__new__»;ext o.PySem.wpAt_bind;show PySem.wpAt _ _ _ (stack >>= _) _ _ _;refine PySem.wpAt_bind (PySem.wpAt_stack fun p below => wpAt_of_wpAny ?_)
 ((with_reducible apply PySem.wpAny_ite_true); focus (simp [*]; done))
 ext pure;ext o.PySem.wpAt_of_wpAny;rw [Fn.owner]
 iterate 30 (first | simp only [zej, Bool.not_true, false_eq_true, if_false] | lk)
 ((with_reducible apply PySem.wpAny_ite_false); focus (simp [*]; done))
 iterate 22 (first | simp only [zej, Bool.not_true, false_eq_true, if_false] | lk)
 refine wpAny_load (get?_push_of_some _ (get?_push_of_some _ hC)) ?_;ext pure;rw [e2];refine wpAny_pure (wpAny_pure ?_);show R _ _;rw [size_push];exact hq
abbrev zdf (C ta : Addr) : Obj := { cls := .ref C, data := .fields #[.ref ta, .none, .none, .none, .bool false, .none] }
theorem zh7 {prog : Program} {w : World} {C : Addr} {h : Heap} {rest : List Value} {init : Value} : ∀ (Y : MakesE (model prog w) h C) (na : Looks (model prog w) h (isSubtype (.ref C) (.type "AttributeError")) false) (nn : Looks (model prog w) h (isSubtype (.ref C) (.type "NameError")) false) (hrest : rest.length ≤ sizeLine) (hi : Looks (model prog w) h (typeLookup (.ref C) "__init__") (some init)) (hb : ∀ self, Looks (model prog w) h (bindSpecial init self) (init, [self])) (hq : codeAny (model prog w) (A.under (.builtin "type.__call__" ⟨.ref C :: rest, []⟩)) (.call init ⟨.ref (h.objs.size + 1) :: rest, []⟩) (InitBack (h.objs.size + 1) R) ⟨(h.push { cls := .type "tuple", data := .seq rest.toArray }).push (zdf C h.objs.size), g, d, t, os⟩), codeAny (model prog w) A (.call (.ref C) ⟨rest, []⟩) R ⟨h, g, d, t, os⟩ := by
 unhygienic
 revert hen prog w A C R h g d t os rest init;have Y' := Y;obtain ⟨⟨oc, od, cd, sl, hC, e1, e2, e4⟩, made, base, self, top, call, typ⟩ := Y;ext o.codeAny_of_tree;show wpAny _ _ (callAny (.ref C) _) _ _ _;refine nd_load hC ?_;show wpAny _ _ (callAny.viaDunder (.ref C) _) _ _ _;unfold callAny.viaDunder;refine wpAny_bind (call.at ?_);ext d;rw [tc_bind];refine wpAny_bind (wpAny_pure (wpAny_bind (wpAny_pure ?_)));refine wpAny_pure (a := Fin.again (.call (.builtin "type.__call__") ⟨.ref C :: rest, []⟩)) (And.intro rfl ?_);refine codeAny_call_builtin_at (Code.quiet_builtin _ (by decide +kernel)) entry_typeCall ?_
 with_reducible refine check_slot tc_kind tc_split typ (tc_args _ _ _) ?_
 unfold Builtin.«type.__call__»;have hm : Looks (model prog w) h (mroOf (.ref C)) cd.mro := ((Looks.ld (part := none) hC).andThen .now).andThen .now
 iterate 13 (first | simp only [e4, false_eq_true, if_false] | lk)
 with_reducible refine wpAny_call ?_
 refine zim Y' na nn hrest ?_;have k : ∀ b o, h.get? b = some o → ((h.push { cls := .type "tuple", data := .seq rest.toArray }).push (zdf C h.objs.size)).get? b = some o := fun b o e => get?_push_of_some _ (get?_push_of_some _ e);have hx : ((h.push { cls := .type "tuple", data := .seq rest.toArray }).push (zdf C h.objs.size)).get? (h.objs.size + 1) = some (zdf C h.objs.size) := by heap_get
 have t1 : Looks (model prog w) ((h.push { cls := .type "tuple", data := .seq rest.toArray }).push (zdf C h.objs.size)) (typeOf (.ref (h.objs.size + 1))) (.ref C) := (Looks.ld hx).andThen .now;have s1 := self.keeps k;have i1 := hi.keeps k;have b1 := (hb (.ref (h.objs.size + 1))).keeps k;unfold isInstance callSpecial? specialOf
 iterate 15 lk
 with_reducible refine wpAny_call ?_
 refine codeAny_mono hq fun r s' z => ?_;rcases r with e | (v | _ | _ | _) <;> first | exact z | exact z.elim | skip
 obtain ⟨rfl, z⟩ := z;exact wpAny_pure (wpAny_pure z)
end
section
theorem zeZ (w : World) : alongIn (KK w) "__init__" (zbA (KK w) 66 41) = some (some (.builtin "KeyError.__init__")) := by kernel_rfl
theorem zh1 : typeOf (.builtin "KeyError.__init__") = pure (.type "wrapper_descriptor") := by show builtinType _ = _; rw [builtinType_eq_fast]; kernel_rfl
theorem zhn : ".".intercalate ("KeyError.__init__".cutAt '.').dropLast = "KeyError" := by decide +kernel
theorem zhK : entryFor table "KeyError.__init__" = some Builtin.«BaseException.__init__» := entryFor_alias (id' := "BaseException.__init__") (by rw [fastTable_eq_tree]; kernel_rfl) (by first | rfl | decide +kernel) (by decide +kernel) (by rw [fastTable_eq_tree]; kernel_rfl)
theorem zeB (w : World) : ∃ cd, clsIn (KK w) 66 = some cd ∧ cd.mro = [.ref 66, .ref 54, .ref 41, .type "KeyError", .type "LookupError", .type "Exception", .type "BaseException", .type "object"] ∧ cd.hasDict = true := ⟨_, by rfl, by rfl, by rfl⟩
theorem zfE (w : World) : ∃ x u, findIn (KK w) (.ref 66) "description" = some (some (.str x u)) := ⟨_, _, by rfl⟩
theorem zcO (self : Value) : refuseLoop self "__setattr__" [.type "KeyError", .type "LookupError", .type "Exception", .type "BaseException", .type "object"] = pure () := by kernel_rfl
theorem zhr (X : (KK w).In h) (I : InstAt h x ox 66 odx) : Looks (model P w) h (checkBoundCall "KeyError.__init__" ⟨[.ref x], []⟩) () := by
 unhygienic
 revert hen w h x ox odx;have hc := excClass_KeyError;obtain ⟨cd, hcd, hm, -⟩ := zeB w;have L0 : Looks (model P w) h (typeOf (.ref x)) (.ref 66) := I.type;have L1 := looks_clsIn (M := model P w) X hcd;unfold checkBoundCall;rw [hc.initSig, hc.initKind];ext d;rw [if_pos (by decide)];unfold Bind.checkArgs;ext d;have LP : Looks (model P w) h (Bind.printed "*" true ⟨.positional, "*", "KeyError", .self, [⟨"args", .varPos, false⟩]⟩ (some (.ref x))) cd.name.toString := by
  unfold Bind.printed Bind.receiverType;rw [if_neg (by decide)];ext d;rw [if_neg (by decide)];ext o.L0.andThen;refine Looks.andThen (a := cd.name.toString) ?_ .now;unfold typeNameWhole;exact L1.andThen .now
 have LQ : Looks (model P w) h (Bind.printed "KeyError" false ⟨.positional, "*", "KeyError", .self, [⟨"args", .varPos, false⟩]⟩ (some (.ref x))) "KeyError" := by
  unfold Bind.printed;rw [if_pos (by decide)];exact .now
 have hp := check_varPos "KeyError" cd.name.toString "KeyError" 0;refine Looks.andThen LP (Looks.andThen LQ ?_);show Looks _ _ ((Bind.check _ cd.name.toString "KeyError" 0 []).onRaise _) _;rw [hp];exact .now
section
theorem zhA {Q : Fin → Shared → Prop} (ht : Looks M h (typeOf (.ref x)) (.ref C)) (hs : Looks M h (isSubtype (.ref C) (.type "KeyError")) true)
  (hq : Q (.done (.ret (.ref h.objs.size))) ⟨h.push (zdc "method-wrapper" "KeyError.__init__" x), g, d, t, os⟩) :
  wpAny M A (Builtin.«wrapper_descriptor.__get__» ⟨[.builtin "KeyError.__init__", .ref x, .ref C], []⟩) Q E ⟨h, g, d, t, os⟩ := by
 have hi : Looks M h (isInstance (.ref x) (.type (".".intercalate ("KeyError.__init__".cutAt '.').dropLast))) true := by rw [zhn]; exact ht.andThen hs
 unfold Builtin.«wrapper_descriptor.__get__»
 repeat (first | with_reducible refine Looks.at hi ?_ | lk)
 exact hq
end
section
variable {of : Obj} {cl : Value}
theorem zeb {apos pos : Pos} {pl : Sem Bool} {Q : Value → Shared → Prop} (T : TopH w s.heap) (n : s.heap.Ns env.locals m) (I : InstAt s.heap x ox 66 odx)
  (hf : (KK w).lookup f = some of) (hfd : of.data = .func fd) (hp : (fd.params.posonlyargs ++ fd.params.args).head? = some ar) (hv : m ar.arg = some (.ref x))
  (hcode : (KK w).lookup cda = some oc) (hoc : oc.data = .fields vs) (hvs : vs[2]? = some (.str file tf)) (hfile : ((P.main.file : Str) == file) = true)
  (hcell : (KK w).lookup cc = some ⟨cl, cld, .cell (some (.ref 41)), csl⟩) (hD : (KK w).lookup 41 = some oD) (hDt : oD.data = .cls cdD)
  (hg : env.globals = mainGlobals) (hb : env.builtins = builtinsNs) (hfu : env.func = some f) (hco : env.code = .ref cda) (hcl : env.cells.lookup ("__class__" : Str) = some cc) (hk : env.scope.kind = .function)
  (hks : env.kindOf "super" = some .globalImplicit) (hkc : env.kindOf "__class__" = some .free) (hka : env.kindOf ar.arg = some .local)
  (h : ∀ q h', s.heap.get? q = none → h'.get? q = some (zdc "method-wrapper" "KeyError.__init__" x) → (∀ b o, s.heap.get? b = some o → h'.get? b = some o) →
   wpAny (model P w) A (callWith pos (.ref q) [] (backTo pos (starEach [] env)) []) Q E { s with heap := h', toks := s.toks + 1 })
  (he : eval (.Call (.Attribute (.Call (.Name "super" p0) [] [] p1) "__init__" apos) [] [] pos) env = (do
   let ov ← attributeBase (.Call (.Name "super" p0) [] [] p1) "__init__" env (eval (.Call (.Name "super" p0) [] [] p1) env)
   standAt apos.atName
   let (f, first) ← holding [ov] (getMethod ov "__init__" pl)
   callWith pos f first (backTo pos (starEach [] env)) []) := by rfl) :
  PySem.wpAt (model P w) A (.func body env) (eval (.Call (.Attribute (.Call (.Name "super" p0) [] [] p1) "__init__" apos) [] [] pos) env) Q E s := by
 refine ks_wpAt_MethodCall (zbL T n I hf hfd hp hv hcode hoc hvs hfile hcell hD hDt (by kernel_rfl) hg hb hfu hco hcl hk hks hkc hka (by decide) fun h' e k => ?_) he;obtain ⟨hh, g, d, t, os⟩ := s;obtain ⟨cdC, hcC, hm, -⟩ := zeB w;have X : (KK w).In h' := fun b o e => k b o (T.K b o e);have I' : InstAt h' x ox 66 odx := ⟨k _ _ I.at_, I.cls, I.no, by
  have := I.dict;revert this;cases ox.dict <;> cases odx <;> first | exact fun z => z | exact fun z => k _ _ z⟩
 have hC : Looks (model P w) h' (mroOf (.ref 66)) cdC.mro := (looks_clsIn X hcC).andThen .now;have hl : (cdC.mro.dropWhile (· != .ref 41)).drop 1 = zbA (KK w) 66 41 := by unfold zbA; rw [hcC]
 have hsub' : Looks (model P w) h' (isSubtype (.ref 66) (.type "KeyError")) true := looks_mroIn X (by kernel_rfl);have hx : Looks (model P w) h' (typeOf (.ref x)) (.ref 66) := I'.type;have hxC : x ≠ 66 := ks_ne X I' hcC;have nq : hh.get? h'.objs.size = none := by
  cases q : hh.get? h'.objs.size with
  | none => rfl
  | some o => exact absurd (lt_size (k _ _ q)) (lt_irrefl _)
 refine zaU e (looks_opaque X (zbX w)) hC hl X (zeZ w) zh1 zdu zct zcN zb6 hx (fun A' E' => zhA hx hsub' ⟨rfl, rfl⟩) hxC (by decide) ?_;exact h _ _ nq (get?_push_size _ rfl) fun b o q => get?_push_of_some _ (k b o q)
end
theorem zeq {name : Str} {tk : Tok} {ns : List Str} {Q : Fin → Shared → Prop}
  (hns : h.Ns1 dx mA) (hw : Within mA ns) (hz : ns.length ≤ 10) (hQ : ∀ h' tk, h'.Ns1 dx (fun y => if y = name then some v else mA y) → Heap.SameBut dx h h' → (∃ o, h'.get? dx = some o) → Q (.done (.ret .none)) ⟨h', g, d, tk, os⟩) :
  wpAny (model P w) A (Builtin.ObjectAttr.storeInDict dx (.str name tk) name v) Q E ⟨h, g, d, t, os⟩ := by
 unfold Builtin.ObjectAttr.storeInDict Builtin.ObjectAttr.newKeyGuard;refine wpAny_bind (wpAny_pure (wpAny_bind (wpAny_nsSet1 hns fun h' hn' hs => ?_)));obtain ⟨oD, esD, epD, hoD, hdD, hcD⟩ := hn'.count (Within.cons name v hw);refine wpAny_bind (wpAny_lookBehind hoD (by rw [hdD]; exact pastItsLine_dict (le_trans hcD (by rw [length_cons, sizeLine_eq]; omega))) (wpAny_pure ?_));exact hQ _ _ hn' hs ⟨_, hoD⟩
abbrev zel (d : Option Addr) (vs : Array Value) : Obj := { cls := .ref 66, dict := d, data := .fields vs }
section
variable {name : Str} {fo : Option Value}
theorem zgY (T : TopH w h) (hx : h.get? x = some (zel none vs)) (hf : findIn (KK w) (.ref 66) name = some fo) (hn : Looks (model P w) h (Builtin.ObjectAttr.storeTaker? fo) none)
  (hR : ∀ h' tk dx, h'.get? x = some (zel (some dx) vs) → h'.Ns1 dx (fun y => if y = name then some v else none) → x ≠ dx → h.get? dx = none → Ext [x] h h' → R (.ok (.ret .none)) ⟨h', g, d, tk, os⟩) :
  codeAny (model P w) A (.call (.builtin "object.__setattr__") ⟨[.ref x, .str name tk, v], []⟩) R ⟨h, g, d, t, os⟩ := by
 unhygienic
 revert hen w A h g d t os x vs name v tk R fo;have SF := PySem.F.store_object;have X := T.K;obtain ⟨cd, hc, hm, hd⟩ := zeB w;have L0 : Looks (model P w) h (typeOf (.ref x)) (.ref 66) := (Looks.ld hx).andThen .now;have L1 : Looks (model P w) h (mroOf (.ref 66)) cd.mro := (looks_clsIn X hc).andThen .now;have L2 : Looks (model P w) h (isInstance (.ref x) (.type "object")) true := L0.andThen (looks_mroIn X (by kernel_rfl));have L3 : Looks (model P w) h (typeLookup (.ref 66) name) fo := looks_findIn X hf;refine codeAny_call_builtin SF.slot.plain SF.entry (@check_slot (model P w) _ _ ⟨h, g, d, t, os⟩ "object.__setattr__" "object" "__setattr__" (.ref x) [.str name tk, v] [] _ SF.kind SF.split L2 (SF.args (.ref x) (.str name tk) v) ?_);rw [osa_eq, refuse_eq];refine wpAny_bind (wpAny_bind (L0.at (wpAny_bind (L1.at ?_))));rw [hm, refuseLoop_ref, refuseLoop_ref, refuseLoop_ref, zcO];refine wpAny_pure (wpAny_bind (L0.at (wpAny_bind (L3.at (wpAny_bind (hn.at ?_))))));ext d;have L4 := looks_clsIn (M := model P w) X hc;unfold Builtin.ObjectAttr.storeInOwnDict
 repeat (first | simp -iota only [hd] | lk)
 have hxs : x ≠ h.objs.size := ne_of_lt (lt_size hx);have hx₁ : (h.push { cls := .type "dict", data := .dict #[] }).get? x = some (zel none vs) := get?_push_of_some _ hx;refine wpAny_update' hx₁ ?_;ext pure;have hgd : ((h.push { cls := .type "dict", data := .dict #[] }).update x fun o => { cls := o.cls, dict := some h.objs.size, data := o.data, slots := o.slots }).get? h.objs.size
   = some { cls := .type "dict", data := .dict #[] } := (Heap.get?_update_ne _ _ _ _ hxs.symm).trans (Heap.get?_push_at rfl rfl)
 have hnd : ((h.push { cls := .type "dict", data := .dict #[] }).update x fun o => { cls := o.cls, dict := some h.objs.size, data := o.data, slots := o.slots }).Ns h.objs.size (fun _ => none) :=
  ⟨_, #[], _, hgd, rfl, fun e he => absurd he (by simp), fun _ => rfl⟩
 have hx2 : ((h.push { cls := .type "dict", data := .dict #[] }).update x fun o => { cls := o.cls, dict := some h.objs.size, data := o.data, slots := o.slots }).get? x = some (zel (some h.objs.size) vs) := get?_update_self _ hx₁ rfl;have x1 : Ext [x] h ((h.push { cls := .type "dict", data := .dict #[] }).update x fun o => { cls := o.cls, dict := some h.objs.size, data := o.data, slots := o.slots }) :=
  ((Ext.push h _).mono (mod' := [x]) (by simp)).trans (.sameBut (Heap.SameBut.update ..) ⟨_, hx2⟩) fun _ q => .inl q
 show wpAny _ _ (Builtin.ObjectAttr.storeInDict h.objs.size (.str name tk) name v) _ _ _;refine zeq (Heap.Ns1.of_empty hnd) Within.nil (by simp) fun h' tk' hn' hs ho => ?_;exact hR _ _ h.objs.size ((hs.2 x hxs).trans hx2) hn' hxs (zag _) (x1.trans (.sameBut hs ho) fun b q => by rw [mem_singleton.mp q]; exact .inr (zag _))
theorem zgW (T : TopH w h) (hx : h.get? x = some (zel (some dx) vs)) (hns : h.Ns1 dx mA) {ns : List Str} (hw : Within mA ns) (hz : ns.length ≤ 10) (hxd : x ≠ dx) (hf : findIn (KK w) (.ref 66) name = some fo) (hn : Looks (model P w) h (Builtin.ObjectAttr.storeTaker? fo) none)
  (hR : ∀ h' tk, h'.get? x = some (zel (some dx) vs) → Ext [dx] h h' → R (.ok (.ret .none)) ⟨h', g, d, tk, os⟩) :
  codeAny (model P w) A (.call (.builtin "object.__setattr__") ⟨[.ref x, .str name tk, v], []⟩) R ⟨h, g, d, t, os⟩ := by
 unhygienic
 revert hen w A h g d t os x dx vs name v tk R fo mA ns;have SF := PySem.F.store_object;have X := T.K;obtain ⟨cd, hc, hm, hd⟩ := zeB w;have L0 : Looks (model P w) h (typeOf (.ref x)) (.ref 66) := (Looks.ld hx).andThen .now;have L1 : Looks (model P w) h (mroOf (.ref 66)) cd.mro := (looks_clsIn X hc).andThen .now;have L2 : Looks (model P w) h (isInstance (.ref x) (.type "object")) true := L0.andThen (looks_mroIn X (by kernel_rfl));have L3 : Looks (model P w) h (typeLookup (.ref 66) name) fo := looks_findIn X hf;refine codeAny_call_builtin SF.slot.plain SF.entry (@check_slot (model P w) _ _ ⟨h, g, d, t, os⟩ "object.__setattr__" "object" "__setattr__" (.ref x) [.str name tk, v] [] _ SF.kind SF.split L2 (SF.args (.ref x) (.str name tk) v) ?_);rw [osa_eq, refuse_eq];refine wpAny_bind (wpAny_bind (L0.at (wpAny_bind (L1.at ?_))));rw [hm, refuseLoop_ref, refuseLoop_ref, refuseLoop_ref, zcO];refine wpAny_pure (wpAny_bind (L0.at (wpAny_bind (L3.at (wpAny_bind (hn.at ?_))))));ext d;have L4 := looks_clsIn (M := model P w) X hc;unfold Builtin.ObjectAttr.storeInOwnDict
 repeat (first | (with_reducible refine zeq hns hw hz fun h' tk' hn' hs ho => ?_) | simp -iota only [hd] | lk)
 exact hR _ _ ((hs.2 x hxd).trans hx) (.sameBut hs ho)
theorem zeQ : Looks (model P w) h (Builtin.ObjectAttr.storeTaker? none) none := .now
theorem zf3 {x : Str} {u : Tok} : Looks (model P w) h (Builtin.ObjectAttr.storeTaker? (some (.str x u))) none := by
 unfold Builtin.ObjectAttr.storeTaker?;exact Looks.andThen (a := false) (Looks.of_pure (by kernel_rfl)) .now
end
theorem zgG {A : Around} {ta : Addr} {tk : Tok} : ∀ (hA : Rm 500 A) (hh : A.handled = none) (T : TopH w s.heap) (hx : s.heap.get? x = some (zel none #[.ref ta, .none, .none, .none, .bool false, .none])) (hlow : 604 ≤ x) (hR : ∀ h' tk ta' dx, h'.get? x = some (zel dx #[.ref ta', .none, .none, .none, .bool false, .none]) → Ext [x] s.heap h' → R (.ok (.ret .none)) ⟨h', s.gens, s.drawn, tk, s.os⟩), codeAny (model P w) A (.call (.ref 38) ⟨[.ref x, .str k tk], []⟩) R s := by
 unhygienic
 revert hen w A s R x ta k tk;refine zaW [(Str.ofString "self", .ref x), (Str.ofString "description", .str k tk), (Str.ofString "response", .none)] hA T (by rfl) (by rfl) (by rfl) (by rfl) (binds_K T.K rfl (by rfl) rfl rfl rfl) (by decide) (locs rfl) fun h₁ D hA' hh' => ?_;replace hh' := hh'.trans hh
 haveI T1 := D.top T (by simp)
 haveI x1 := D.ext.get hx rfl (by simp)
 have I1 : InstAt h₁ x (zel none #[.ref ta, .none, .none, .none, .bool false, .none]) 66 none := ⟨x1, rfl, rfl, trivial⟩;ext o.ks_wpAt_execs_cons o.ks_wpAt_Expr_any;refine zeb (x := x) T1 D.ns I1 (by rfl) rfl (by rfl) rfl (by rfl) rfl (by rfl) (by rfl) (by rfl) (by rfl) rfl rfl rfl rfl rfl rfl rfl rfl rfl rfl (fun q h2 nq hq kp => ?_);ext d;refine zbN (x := x) (T := "method-wrapper") (id := "KeyError.__init__") (.inl rfl) hq ?_;ext call;have T2 : TopH w h2 := T1.ext (.of_keeps kp) (by simp)
 haveI x2 := kp _ _ x1
 have I2 : InstAt h2 x (zel none #[.ref ta, .none, .none, .none, .bool false, .none]) 66 none := ⟨x2, rfl, rfl, trivial⟩;refine zap (.inl rfl) hq ⟨zhr T2.K I2⟩ (fun _ => Code.quiet_builtin _ (by decide +kernel)) zhK ?_;refine owsi_base x2 rfl rfl ?_;have xp := get?_push_of_some (h := h2) { cls := .type "tuple", data := .seq #[] } x2
 haveI x3 : ((h2.push { cls := .type "tuple", data := .seq #[] }).update x (Obj.mapFields (·.setIfInBounds 0 (.ref h2.objs.size)))).get? x = some (zel none #[.ref h2.objs.size, .none, .none, .none, .bool false, .none]) := by rw [get?_update_self _ xp rfl]; rfl
 haveI e3 : Ext [x] h2 ((h2.push { cls := .type "tuple", data := .seq #[] }).update x (Obj.mapFields (·.setIfInBounds 0 (.ref h2.objs.size)))) :=
  ((Ext.push h2 _).mono (mod' := [x]) (by simp)).trans (.sameBut (Heap.SameBut.update ..) ⟨_, x3⟩) fun _ q => .inl q
 ext d;generalize h2.objs.size = ta' at x3 e3 ⊢;generalize (h2.push { cls := .type "tuple", data := .seq #[] }).update x (Obj.mapFields (·.setIfInBounds 0 (.ref ta'))) = h3 at x3 e3 ⊢
 haveI xL : s.heap.objs.size ≠ x := fun q => by rw [← q, zag] at hx; cases hx
 haveI mx : ∀ a ∈ [x], 604 ≤ a := fun a q => by rw [mem_singleton.mp q]; exact hlow
 letI D := ((D.call (.of_keeps kp)).may (mod' := [x]) (by simp)).callM e3 (fun a q => .inl q) (by simpa using xL)
 clear e3 xp hq nq kp I1 I2 T2 T1 x1 x2 h2 h₁;refine ks_wpAt_execs_cons (wpAt_of_wpAny ?_);ext If isTrue_Compare1;refine zaa (Me.ns (by assumption)) (by first | assumption | rfl) ?_;ext Constant_none o.isNot_none truthy_bool;rw [if_pos (show (!(Value.str k tk == Value.none)) = true from rfl)]
 haveI T3 := D.top T mx
 ext execs_cons o.plainObj_wpAny_Assign_Attribute;refine zaa (Me.ns (by assumption)) (by first | assumption | rfl) ?_;refine zaa (Me.ns (by assumption)) (by first | assumption | rfl) ?_;refine set_plain T3.K (⟨x3, rfl, rfl, trivial⟩ : InstAt h3 x (zel none #[.ref ta', .none, .none, .none, .bool false, .none]) 66 none) (by kernel_rfl) ?_;obtain ⟨xd, ud, hfd⟩ := zfE w;refine zgY T3 x3 hfd zf3 (fun h4 tk4 dx x4 n4 ne4 f4 e4 => ?_);ext d;have fdx : s.heap.get? dx = none := D.ext.fresh f4;have Ldx : s.heap.objs.size ≠ dx := fun q => by
  obtain ⟨o, _, _, z, _⟩ := D.ns;rw [q, f4] at z; cases z
 letI D := D.callM e4 (fun a q => .inl q) (by simpa using xL)
 haveI T4 := D.top T mx
 clear e4 f4 T3 x3 h3;ext execs_nil d o.wpAt_of_wpAny execs_cons o.plainObj_wpAny_Assign_Attribute;refine zaa (Me.ns (by assumption)) (by first | assumption | rfl) ?_;refine zaa (Me.ns (by assumption)) (by first | assumption | rfl) ?_;obtain ⟨on, _, _, eon, _⟩ := id n4;refine set_plain T4.K (⟨x4, rfl, rfl, eon⟩ : InstAt h4 x (zel (some dx) #[.ref ta', .none, .none, .none, .bool false, .none]) 66 (some on)) (by kernel_rfl) ?_;refine zgW T4 x4 n4 (Within.cons _ _ Within.nil) (by simp) ne4 (fo := none) (by kernel_rfl) zeQ (fun h5 tk5 x5 e5 => ?_);ext d execs_nil;exact hR _ _ _ _ x5 (D.ext.trans e5 fun a q => by rw [mem_singleton.mp q]; exact .inr fdx)
end
section
def zfx (E : Value → Shared → Prop) (v : Value) (s₁ : Shared) : Prop :=
 ∃ a ob vs, v = .ref a ∧ s₁.heap.get? a = some ob ∧ ob.cls = .ref 66 ∧ ob.data = .fields vs ∧ vs[1]? = some .none ∧ E (.ref a) s₁
section
theorem zhJ {e : Expr} {Q : Flow → Shared → Prop} (hh : A.handled = none)
  (h : wpAny (model P w) A (eval e env) (fun v s₁ => TopH w s₁.heap ∧ zfx E v s₁) E s) : wpAny (model P w) A (exec (.Raise (some e) none pos) env) Q E s := by
 show wpAny _ A (do standAt pos; raiseStmt env (some (do let v ← eval e env; standAt pos; pure v)) none) Q E s;refine wpAny_bind (wpAny_standAt ?_);unfold raiseStmt;ext d;refine wpAny_bind (wpAny_bind (wpAny_mono h (fun v s₁ h₁ => wpAny_bind (wpAny_standAt (wpAny_pure ?_))) fun _ _ x => x));obtain ⟨T, a, ob, vs, rfl, ha, hcls, hd, h1, hE⟩ := h₁;have hnt : ∀ {Q' : Bool → Shared → Prop}, Q' false s₁ → wpAny (model P w) A (isType (.ref a)) Q' E s₁ := by
  intro Q' hq;simp -iota only [isType, loadHead];refine wpAny_bind (wpAny_loadPart ha ?_);rw [hd]; exact wpAny_pure hq
 have L0 : Looks (model P w) s₁.heap (typeOf (.ref a)) (.ref 66) := hcls ▸ (Looks.ld ha).andThen .now;have L1 : Looks (model P w) s₁.heap (isInstance (.ref a) (.type "BaseException")) true := L0.andThen (looks_mroIn T.K (by kernel_rfl));have L2 : Looks (model P w) s₁.heap (typeOf (.ref 66)) (.type "type") := looks_typeIn T.K (by rfl);refine wpAny_bind (wpAny_pure ?_);ext d;refine wpAny_bind (wpAny_holding ?_);unfold excFromValue isExcClass;refine wpAny_bind (wpAny_bind (hnt ?_));simp only [false_eq_true, if_false];ext pure;simp only [false_eq_true, if_false];refine wpAny_bind (L1.here ?_);simp only [if_true];ext pure;refine wpAny_bind (hnt ?_);simp only [false_eq_true, if_false];unfold raisedInstance;refine wpAny_bind (wpAny_bind (L0.here (wpAny_bind (L2.here ?_))));rw [if_pos (by decide)];ext pure;unfold setFlight raiseNew;refine wpAny_bind (wpAny_bind (wpAny_field ha hd h1 ?_));rw [if_neg (by decide)];refine wpAny_pure (wpAny_bind (wpAny_handled ?_));rw [hh]
 first
  | exact wpAny_throw hE
  | exact wpAny_bind (wpAny_pure (wpAny_throw hE))
end
theorem zgM {tk : Tok} (hA : Rm 490 A) (hh : A.handled = none) (T : TopH w s.heap)
  (hR : ∀ h' tk e dx ta, h'.get? e = some (zel dx #[.ref ta, .none, .none, .none, .bool false, .none]) → s.heap.get? e = none → Ext [] s.heap h' → R (.ok (.ret (.ref e))) ⟨h', s.gens, s.drawn, tk, s.os⟩) :
  codeAny (model P w) A (.call (.ref 66) ⟨[.str k tk], []⟩) R s := by
 obtain ⟨h, g, d, t, os⟩ := s;have X := T.K;refine zh7 (zgo X (zgH w)) (looks_mroIn X (by kernel_rfl)) (looks_mroIn X (by kernel_rfl)) (by show (1 : Nat) ≤ sizeLine; decide) (looks_findIn X (show findIn (KK w) (.ref 66) "__init__" = some (some (.ref 38)) by kernel_rfl)) (fun self => bind_fn X self (by rfl)) ?_;dsimp only at T hR X;have k1 : ∀ b o, h.get? b = some o → ((h.push { cls := .type "tuple", data := .seq [Value.str k tk].toArray }).push (zdf 66 h.objs.size)).get? b = some o := fun b o e => get?_push_of_some _ (get?_push_of_some _ e);have hx : ((h.push { cls := .type "tuple", data := .seq [Value.str k tk].toArray }).push (zdf 66 h.objs.size)).get? (h.objs.size + 1) = some (zdf 66 h.objs.size) := by heap_get
 have fx : h.get? (h.objs.size + 1) = none := zac (le_succ _);refine zgG (x := h.objs.size + 1) ((hA.under rfl).mono (by decide)) hh (T.ext (.of_keeps k1) (by simp)) hx (le_succ_of_le T.low) (fun h' tk' ta' dx e1 e2 => ?_);exact ⟨rfl, hR _ _ _ _ _ e1 fx ((Ext.of_keeps k1).trans e2 fun a q => by rw [mem_singleton.mp q]; exact .inr fx)⟩
theorem ze7 {outer : List Env} {oe : Obj} {Q : Unit → Shared → Prop} (x : Ext [] h₀ h₁) (y : Ext [] h₁ s.heap) (F : Fs A h₁ (env :: outer)) (hf : env.frame = some L) (hL : h₀.get? L = none)
  (he : s.heap.get? e = some oe) (hen : h₁.get? e = none) (hd : oe.data = .fields vs) (v0 : vs[0]? = some a0) (v1 : vs[1]? = some .none)
  (h : ∀ h', Flown h₀ outer e oe.cls h' → Q () { s with heap := h' }) : wpAny (model P w) A (leaving env (.ref e)) Q E s := by
 have y' : Ext [] h₁ (hideAll s.heap [e]) := zeL y hen;exact zcc (x.and y') (F.ext0 y') (fun b o q => of_hideAll _ q) hf hL he (hideAll_none _ (.head _)) hd v0 v1 h
theorem zfS {A : Around} {gs : List Grp} {t tk : Tok} {n : Nat} : ∀ (hA : Rm 480 A) (hh : A.handled = none) (T : TopH w s.heap) (X : WH w b s.heap x gs dx dl hsh t n c vs es ep) (hlow : 604 ≤ b) (F : Fs A s.heap l) (hz : ∀ g ∈ gs, ∀ p ∈ g, p.2.length ≤ 100) (hne : ∀ g ∈ gs, ∀ p ∈ g, p.2 ≠ []) (hR1 : ∀ n' r, own gs k = n' :: r → ∀ h' tk tn, Ext [] s.heap h' → R (.ok (.ret (.int n' tn))) ⟨h', s.gens, s.drawn, tk, s.os⟩) (hR2 : own gs k = [] → ∀ h' tk e, Flown s.heap l e (.ref 66) h' → R (.error (.ref e)) ⟨h', s.gens, s.drawn, tk, s.os⟩), codeAny (model P w) A (.call (.ref 463) ⟨[.ref x, .str k tk], []⟩) R s := by
 unhygienic
 revert hen w A s R x dx dl b gs hsh t tk n c ep vs es k l;refine zbw [(Str.ofString "self", .ref x), (Str.ofString "key", .str k tk)] hA T (by rfl) (by rfl) (by rfl) (by rfl) (BindsTo.of_eq rfl) (by decide) (locs rfl) fun h₁ D hA' hh' => ?_
 letI hh' := hh'.trans hh
 haveI X1 := X.ext0 D.ext
 have T1 := D.top T (by simp);revert hen h₁;ext execs_cons For o.Attribute_Name_;refine zaa (Me.ns (by assumption)) (by first | assumption | rfl) ?_;refine zaM T1 X1 ?_;refine wpAny_pyIter_list ⟨_, X1.ls, rfl, c, rfl⟩ ?_
 haveI fit : s.heap.get? h₁.objs.size = none := D.fresh
 haveI nit : s.heap.objs.size ≠ h₁.objs.size := ne_of_lt D.ns.lt
 haveI hit : (h₁.push { cls := .type "list_iterator", data := .fields #[.ref dl, .int 0 0] }).IsListIter h₁.objs.size dl 0 := ⟨_, get?_push_size _ rfl, rfl, rfl⟩
 letI D := D.call (Ext.push h₁ { cls := .type "list_iterator", data := .fields #[.ref dl, .int 0 0] })
 ext d;generalize h₁.objs.size = it at fit nit hit ⊢;generalize h₁.push { cls := .type "list_iterator", data := .fields #[.ref dl, .int 0 0] } = h2 at D hit ⊢;clear X1 T1;refine codeAny_forLoop (fun n' s' => ∃ i h' tk' m, n' + i = gs.length ∧ s' = ⟨h', s.gens, s.drawn, tk', s.os⟩ ∧ Me [] s.heap h' s.heap.objs.size m [] ∧ m "self" = some (.ref x) ∧ m "key" = some (.str k tk) ∧ h'.IsListIter it dl i ∧ zaQ (gs.take i) k = false) ?_ gs.length
  ⟨0, h2, _, _, by omega, rfl, D, by rfl, by rfl, hit, rfl⟩
 clear D hit h2;rintro n' s' ⟨i, h', tk', m, hn, rfl, D, ms, mk, hit, hno⟩
 haveI X2 := X.ext0 D.ext
 have T2 := D.top T (by simp);cases n' with
 | zero =>
  refine wpAny_pyNext_list_end hh' hit ⟨_, X2.ls, rfl, c, rfl⟩ (by rw [Array.getElem?_eq_none_iff, X2.md.1]; omega) (fun h4 he => ?_)
  letI D := D.ownE he fit nit
  haveI T4 := D.top T (by simp)
  ext d execs_nil;have : gs.take i = gs := take_of_length_le (by omega);rw [this] at hno;ext execs_cons;refine zhJ hh' ?_;ext Call_NameR;refine zaj (by assumption) rfl (by rfl) ?_;ext o.cf;ext items_cons;refine zaa (Me.ns (by assumption)) (by first | assumption | rfl) ?_;ext items_nil;refine ⟨T4, ?_⟩;ext call;refine zgM (hA'.mono (by decide)) hh' T4 (fun h5 tk5 e dx5 ta5 ee fe e5 => ?_);ext d;refine ⟨T4.ext e5 (by simp), e, _, _, rfl, ee, rfl, rfl, rfl, ?_⟩;have F4 := (F.ext0 D.ext).call hA' D.ns T.low;refine ze7 D.ext e5 F4 rfl (zag _) ee fe rfl rfl rfl (fun h6 fl => ?_);exact hR2 (zen hno) _ _ _ fl
 | succ n' =>
  obtain ⟨gi, eg, hgm⟩ : ∃ g, gs[i]? = some g ∧ g ∈ gs := have hi : i < gs.length := (by omega); ⟨_, getElem?_eq_getElem hi, getElem_mem hi⟩;obtain ⟨mm, dm, kvs, em, pm, em1, Xm⟩ := X2.md.2 i gi eg;revert hen it i h' tk' m n' mm dm kvs em pm gi;refine wpAny_pyNext_list_item hit ⟨_, X2.ls, rfl, c, rfl⟩ em1 (fun h4 hit4 sb4 => ?_)
  letI D := D.ownE sb4.extBut fit nit
  ext d;clear X2 T2 hit sb4 Xm;ext assign_Name;refine wpAny_storeName_local rfl D.ns (fun h5 hn5 hs5 => ?_) rfl
  letI D := D.store hn5 hs5
  have hit5 := hit4.at fun o e => (hs5.2 it (Ne.symm nit)).trans e;ext d;clear hn5 hs5 hit4 h4;have X6 := X.ext0 D.ext
  haveI T6 := D.top T (by simp)
  obtain ⟨mm', dm, kvs, em, pm, em2, Xm⟩ := X6.md.2 i gi eg;rw [em1] at em2; cases em2;ext execs_cons If isTrue_Compare1;refine zaa D.ns ((if_neg (by decide)).trans mk) ?_;refine zaa D.ns ((if_pos (by decide))) ?_;refine zg8 T6 Xm (le_trans hlow Xm.lx) ?_;ext truthy_bool
  by_cases hk : k ∈ gi.map (·.1)
  ·rw [if_pos (decide_eq_true hk)]
   obtain ⟨n0, r0, hl0⟩ := zew (hne _ hgm) hk;ext execs_cons Return_some o.Subscript_;refine zaa D.ns ((if_pos (by decide))) ?_;refine zaa D.ns ((if_neg (by decide)).trans mk) ?_;refine zhz (f := 280) T6.K Xm.inst.i (by kernel_rfl) (by rfl) (by rfl) ?_;ext call;refine zdI (hA'.in1.mono (by decide)) hh' T6 Xm (le_trans hlow Xm.lx) (hz _ hgm) hl0 (fun h7 tk7 tn e7 => ?_);obtain ⟨r1, hr1⟩ := zhg eg hno hl0;exact hR1 _ _ hr1 _ _ _ (D.ext.and e7)
  ·rw [if_neg (by simpa using hk)]
   ext execs_nil d execs_nil;refine ⟨n', lt_succ_self n', i + 1, h5, _, _, by omega, rfl, D, ?_, ?_, hit5, ?_⟩
   ·exact (if_neg (by decide)).trans ms
   ·exact (if_neg (by decide)).trans mk
   ·rw [zby eg, hno, decide_eq_false hk]; rfl
end
section
section
theorem zcw {Q : Bool → Shared → Prop} (hT : Looks (model P w) s.heap (typeOf (.ref a)) (.ref C)) (hexc : isSubtype (.type T) (.type "BaseException") = pure true) (hnt : isSubtype (.type ((Manifest.find? T).elim "type" fun x => x.metatype)) (.type "tuple") = pure false)
  (hs : Looks (model P w) s.heap (isSubtype (.ref C) (.type T)) true) (h : Q true s) : wpAny (model P w) A (excMatches (.ref a) (.type T)) Q E s := by
 unhygienic
 revert hen w A E s a T C Q;obtain ⟨hp, g, d, tk, os⟩ := s;unfold excMatches;ext bind
 wp_delta
 ext bind
 wp_delta
 ext pure;refine wpAny_of_eq ‹_› ?_;refine wpAny_ite_false rfl ?_;ext bind pure bind
 iterate 4 (wp_delta)
 ext bind bind
 wp_delta
 ext bind
 wp_delta
 ext pure;refine wpAny_ite_true rfl ?_;refine wpAny_of_eq ‹_› ?_;refine wpAny_ite_false rfl ?_;ext pure
 iterate 2 (wp_delta)
 ext pure bind
 (with_reducible refine Looks.at (by assumption) ?_)
 ext bind
 iterate 4 (wp_delta)
 ext bind bind
 (with_reducible refine Looks.at (by assumption) ?_)
 refine wpAny_ite_true rfl ?_;ext pure pure pure;exact h
theorem zde {t : Expr} {b₀ : Stmt} {suite : List Stmt} {rest : List ExceptHandler} {Q : Flow → Shared → Prop}
  (hexc : isSubtype (.type T) (.type "BaseException") = pure true) (hnt : isSubtype (.type ((Manifest.find? T).elim "type" fun x => x.metatype)) (.type "tuple") = pure false)
  (h : wpAny (model P w) (A.mark (some (.ref e))) (eval t env) (fun c s₁ => c = .type T ∧ Looks (model P w) s₁.heap (typeOf (.ref e)) (.ref C) ∧ Looks (model P w) s₁.heap (isSubtype (.ref C) (.type T)) true ∧
   wpAny (model P w) (A.mark (some (.ref e))) (setFlight (.ref e) none) (fun _ s₂ => wpAny (model P w) (A.mark (some (.ref e))) (execs (b₀ :: suite) env) Q (notedBy (model P w) (A.mark (some (.ref e))) env (cameBackBy (model P w) A env E)) s₂) (notedBy (model P w) (A.mark (some (.ref e))) env (cameBackBy (model P w) A env E)) s₁) (notedBy (model P w) (A.mark (some (.ref e))) env (cameBackBy (model P w) A env E)) s) :
  wpAny (model P w) A (handleBy (.ref e) env (.ExceptHandler (some t) none (b₀ :: suite) pos :: rest)) Q E s := by
 unhygienic
 revert hen w A E s env e T C t b₀ suite pos rest Q;refine wpAny_handleBy_cons (codeAny_handlers_test (wpAny_mono h (fun c s₁ h₁ => ?_) fun _ _ x => x)) (by intro q; cases q);obtain ⟨rfl, hX, hs, hk⟩ := h₁;refine zcw hX hexc hnt hs ?_;exact codeAny_handlers_suite hk
end
theorem ze8 {A : Around} {gs : List Grp} {t tk : Tok} {n : Nat} : ∀ (hA : Rm 470 A) (hh : A.handled = none) (T : TopH w s.heap) (X : WH w b s.heap x gs dx dl hsh t n c vs es ep) (hlow : 604 ≤ b) (F : Fs A s.heap l) (hz : ∀ g ∈ gs, ∀ p ∈ g, p.2.length ≤ 100) (hne : ∀ g ∈ gs, ∀ p ∈ g, p.2 ≠ []) (hR : ∀ h' tk a, FExt (fa l) s.heap h' → IL s.heap.objs.size h' a ((own gs k).take 1) → R (.ok (.ret (.ref a))) ⟨h', s.gens, s.drawn, tk, s.os⟩), codeAny (model P w) A (.call (.ref 598) ⟨[.ref x, .str k tk], []⟩) R s := by
 unhygienic
 revert hen w A s R x dx dl b gs hsh t tk n c ep vs es k l;refine zaW [(Str.ofString "whole", .ref x), (Str.ofString "key", .str k tk)] hA T (by rfl) (by rfl) (by rfl) (by rfl) (BindsTo.of_eq rfl) (by decide) (locs rfl) fun h₁ D hA' hh' => ?_;replace hh' := hh'.trans hh;have T1 := D.top T (by simp);have X1 := X.ext0 D.ext;have F1 := (F.ext0 D.ext).call hA' D.ns T.low;ext o.ks_wpAt_execs_cons o.wpAt_Try o.wpAt_of_wpAny execs_cons Return_some List items_cons o.Subscript_;refine zaa (Me.ns (by assumption)) (by first | assumption | rfl) ?_;refine zaa (Me.ns (by assumption)) (by first | assumption | rfl) ?_;refine zhz (f := 463) T1.K X1.inst.i (by kernel_rfl) (by rfl) (by rfl) ?_;ext call;refine zfS (hA'.in1.mono (by decide)) hh' T1 X1 hlow (F1.same rfl) hz hne (fun n' r ho h2 tk2 tn e2 => ?_) (fun ho h2 tk2 e fl => ?_)
 ·ext d items_nil
  refine ⟨by show (1 : Nat) ≤ sizeLine; decide, ?_⟩;ext d;rw [ho] at hR;replace D := D.call e2;exact hR _ _ _ (.of (D.ext.and (.push _ _))) ⟨le_of_lt D.ns.lt, #[.int n' tn], 0, get?_push_size _ rfl, .cons _ _ .nil⟩
 ·ext d
  obtain ⟨hm, a0, xm, zf⟩ := fl
  haveI Fm := F1.ext0 xm
  refine za7 Fm rfl zf (fun h4 z4 => ?_);refine zfp Fm z4 (fun h5 z5 => ?_);have x5 := z5.fext Fm;have T5 := (T1.ext xm (by simp)).fext Fm x5;obtain ⟨oe, ee, ce⟩ := z5.isA;refine zde (T := "KeyError") (C := 66) zhm zhk ?_;refine zae (by assumption) rfl rfl rfl (by boot_by_name) (by decide) ?_;refine ⟨rfl, ce ▸ (Looks.ld ee).andThen .now, looks_mroIn T5.K (by kernel_rfl), ?_⟩;refine zfp (Fm.same rfl) z5 (fun h6 z6 => ?_);have x6 := z6.fext Fm;ext execs_cons Return_some List items_nil;refine ⟨by simp, ?_⟩;have nm : hm.Ns s.heap.objs.size _ := zaA xm D.ns (by simp);have n6 : h6.Ns s.heap.objs.size _ := x6.ns _ (.head _) _ nm;rw [ho] at hR;exact hR _ _ _ ((FExt.leave (D.ext.and xm) x6 (zag _)).trans (.of (.push _ _))) ⟨le_of_lt n6.lt, #[], 0, get?_push_size _ rfl, .nil⟩
end
section
theorem zca : entryFor table "dict.items" = some Builtin.«dict.items» := F.entry_dict_items
abbrev zbU (d : Addr) : Obj := { cls := .type "dict_items", data := .fields #[.ref d] }
section
variable {dx : Option Addr}
theorem zce {Q : Fin → Shared → Prop} (X : (KK w).In h) (I : DD w h x (.ref C) dx kvs es ep) (ho : mroIn (KK w) C (.type "collections.OrderedDict") = some false) (hx : (x == sysModules) = false)
  (hq : Q (.done (.ret (.ref h.objs.size))) ⟨h.push (zbU x), g, d, t, os⟩) : wpAny (model P w) A (Builtin.«dict.items» ⟨[.ref x], []⟩) Q E ⟨h, g, d, t, os⟩ := by
 have hI := I.at_;have L : Looks (model P w) h (typeOf (.ref x)) (.ref C) := (Looks.ld hI).andThen .now;have L1 : Looks (model P w) h (isInstance (.ref x) (.type "collections.OrderedDict")) false := L.andThen (looks_mroIn X ho);have L2 : Looks (model P w) h (isSubtype (.ref C) (.type "collections.OrderedDict")) false := looks_mroIn X ho;unfold Builtin.«dict.items»
 iterate 75 (first | simp -iota only [hx, false_eq_true, if_false] | lk)
 exact hq
theorem za4 {v : Addr} (hv : h.get? v = some (zbU x)) (I : DD w h x Cv dx kvs es ep) (hz : kvs.length ≤ 1000)
  (hQ : Q (.ref h.objs.size) ⟨h.push { cls := .type "dict_itemiterator", data := .fields #[.none, .bool false, .ref x, .int 0 0, .int kvs.length 0, .int ep 0, .none, .none] }, g, d, t, os⟩) :
  wpAny (model P w) A (pyIter (.ref v)) Q E ⟨h, g, d, t, os⟩ := by
 unhygienic
 revert hen w A E h g d t os x dx Cv kvs es ep v Q;have hV : (⟨h, g, d, t, os⟩ : Shared).TypeIs (.ref v) "dict_items" := ⟨_, hv, rfl⟩;have hI := I.at_;have hs := I.size;refine wpAny_pyIter_slot hV F.slot_dict_items_iter (wpAny_call_entry F.slot_dict_items_iter hV F.entry_dict_items_iter ?_ (F.args_dict_items_iter_1 _));unfold Builtin.«dict_items.__iter__»
 iterate 66 (first | simp -iota only [false_eq_true, if_false] | lk)
 refine ⟨_, rfl, "dict_itemiterator", _, ⟨_, get?_push_size _ rfl, rfl⟩, F.slot_dict_itemiterator_next.lookup, ?_⟩;rw [show Builtin.Dict_items.ownsTuple "dict_itemiterator" = true by decide, if_pos rfl, hs];exact hQ
def Held (p : Prop) : Prop := p
theorem Held.out {p : Prop} (h : Held p) : p := h
theorem Held.in {p : Prop} (h : p) : Held p := h
end
theorem zbD {w : World} {h : Heap} {x : Addr} {dx : Option Addr} {Cv : Value} {kvs : List (Str × Value)} {es : Array DictEntry} {ep : Nat} {it : Addr} {i : Nat} {ok ov : Value} {Q : Option Value → Shared → Prop} : ∀ (hit : IsItemIter h it x i kvs.length ep ok ov) (I : DD w h x Cv dx kvs es ep) (hx : kvs[i]? = some (k, v)) (hQ : ∀ tk h', IsItemIterOut h' it x (i + 1) kvs.length ep (.str k tk) v h.objs.size →
   h'.get? h.objs.size = some { cls := .type "tuple", data := .seq #[.str k tk, v] } →
   (∀ b o, b ≠ it → h.get? b = some o → h'.get? b = some o) → Q (some (.ref h.objs.size)) ⟨h', g, d, t, os⟩), wpAny (model P w) A (pyNext (.ref it)) Q E ⟨h, g, d, t, os⟩ := by
 unhygienic
 revert hen w A E h g d t os x dx Cv kvs es ep it i k v ok ov Q;have hT : (⟨h, g, d, t, os⟩ : Shared).TypeIs (.ref it) "dict_itemiterator" := ⟨_, hit, rfl⟩;have hI := I.at_;have hs := I.size;have hi : i < kvs.length := (List.getElem?_eq_some_iff.mp hx).1;have hi' : i < es.size := by rw [hs]; exact hi
 obtain ⟨hkey, hval⟩ := I.prs.get? (e := es[i]) (k := k) (v := v) (by simp [hi']) hx;obtain ⟨tk, etk⟩ := Value.isStrOf_shape hkey;have hown : Builtin.Dict_items.ownsTuple "dict_itemiterator" = true := by decide
 have LN : ∀ {h'} {od : Option Addr} {da : Data} {sl : Array (Option Value)}, h'.get? it = some { cls := .type "dict_itemiterator", dict := od, data := da, slots := sl } → Looks (model P w) h' (typeNameOfWhole (.ref it)) "dict_itemiterator" := fun e A Q E s k q => wpAny_typeNameOfWhole_itemiter (s := s) ⟨_, k _ _ e, rfl⟩ q;have LB : ∀ {h'} {od : Option Addr} {da : Data} {sl : Array (Option Value)} (types : List String), h'.get? it = some { cls := .type "dict_itemiterator", dict := od, data := da, slots := sl } → Looks (model P w) h' (Builtin.Dict_items.isOneOf (.ref it) types) (types.any fun t => [Value.type "dict_itemiterator", Value.type "object"].contains (.type t)) := fun types e A Q E s k q => wpAny_isOneOf_itemiter (s := s) ⟨_, k _ _ e, rfl⟩ q;have L0 := LN hit;unfold pyNext;refine wpAny_bind (wpAny_attempt (wpAny_callSpecial?_slot (name := Str.ofString "__next__") hT F.slot_dict_itemiterator_next
  (wpAny_call_entry F.slot_dict_itemiterator_next hT F.entry_dict_itemiterator_next ?_ (F.args_dict_itemiterator_next_1 _))))
 unfold Builtin.«dict_itemiterator.__next__»
 iterate 5 lk
 iterate 2 (with_reducible refine zax (by simp [hs]) ?_)
 iterate 24 (first | simp -iota only [hown, if_true] | lk)
 (with_reducible refine zax (by simp [hs]) ?_)
 iterate 13 lk
 (with_reducible refine zax (by simp [hs]) ?_)
 iterate 13 lk
 (with_reducible refine zax (by simp [hs]) ?_)
 iterate 2 lk
 rw [if_neg (show ¬ ((i : Int) < 0) by omega), Int.toNat_natCast, Array.getElem?_eq_getElem hi'];ext d
 iterate 8 (first | simp only [hown, if_true] | lk)
 (with_reducible refine Looks.at (LB _ hit) ?_)
 lk
 (with_reducible refine wpAny_setField_rec hit (by simp) fun h₁ he₁ hs₁ => Held.out ?_)
 simp only [hown, if_true];ext o.Held.in;replace he₁ : IsItemIter h₁ it x (i + 1) kvs.length ep ok ov := by
  have e : ((i + 1 : Nat) : Int) = (i : Int) + 1 := by omega
  unfold IsItemIter; rw [e]; exact he₁
 replace hs₁ : Heap.SameBut it h h₁ := hs₁;have he₂ := get?_push_of_some (h := h₁) { cls := .type "tuple", data := .seq [es[i].key, es[i].val].toArray } he₁
 iterate 104 (first | simp -iota only [if_true] | lk)
 (with_reducible refine wpAny_setField_rec he₂ (by simp) fun h₃ he₃ hs₃ => Held.out ?_)
 simp -iota only [if_true];ext o.Held.in;replace he₃ : IsItemIter h₃ it x (i + 1) kvs.length ep es[i].key ov := he₃;lk
 (with_reducible refine wpAny_setField_rec he₃ (by simp) fun h₄ he₄ hs₄ => Held.out ?_)
 ext o.Held.in;replace he₄ : IsItemIter h₄ it x (i + 1) kvs.length ep es[i].key es[i].val := he₄;lk
 (with_reducible refine wpAny_setField_rec he₄ (by simp) fun h₅ he₅ hs₅ => Held.out ?_)
 ext o.Held.in;replace he₅ : IsItemIterOut h₅ it x (i + 1) kvs.length ep es[i].key es[i].val h₁.objs.size := he₅;lk
 (with_reducible refine wpAny_setField_rec he₅ (by simp) fun h₆ he₆ hs₆ => Held.out ?_)
 ext o.Held.in;replace he₆ : IsItemIterOut h₆ it x (i + 1) kvs.length ep es[i].key es[i].val h₁.objs.size := he₆;lk
 (with_reducible refine wpAny_letGo ?_)
 iterate 5 lk
 have z₁ : h₁.objs.size = h.objs.size := hs₁.1;have hil : it < h.objs.size := lt_size hit;rw [etk, hval, z₁] at he₆;refine ⟨_, rfl, wpAny_pure ?_⟩;rw [z₁];have kb : ∀ {b : Addr} {o : Obj}, b ≠ it → (h₁.push { cls := .type "tuple", data := .seq [es[i].key, es[i].val].toArray }).get? b = some o → h₆.get? b = some o := fun hb e => hs₆.extBut _ _ hb (hs₅.extBut _ _ hb (hs₄.extBut _ _ hb (hs₃.extBut _ _ hb e)));refine hQ tk h₆ he₆ ?_ (fun b o hb e => kb hb (get?_push_of_some _ (hs₁.extBut _ _ hb e)));rw [← etk, ← hval];refine kb (ne_of_gt hil) ?_;rw [← z₁];exact get?_push_size _ rfl
theorem zaC {dx : Option Addr} {it : Addr} {i : Nat} {Q : Option Value → Shared → Prop} (hh : A.handled = none) (hit : IsItemIter h it x i kvs.length ep ok ov) (I : DD w h x Cv dx kvs es ep) (hx : kvs.length ≤ i) (hQ : ∀ h', Heap.ExtBut it h h' → Q none ⟨h', g, d, t, os⟩) :
  wpAny (model P w) A (pyNext (.ref it)) Q E ⟨h, g, d, t, os⟩ := by
 unhygienic
 revert hen w A E h g d t os x dx Cv kvs es ep it i ok ov Q;have hT : (⟨h, g, d, t, os⟩ : Shared).TypeIs (.ref it) "dict_itemiterator" := ⟨_, hit, rfl⟩;have hI := I.at_;have hs := I.size;have hown : Builtin.Dict_items.ownsTuple "dict_itemiterator" = true := by decide
 have LN : ∀ {h'} {od : Option Addr} {da : Data} {sl : Array (Option Value)}, h'.get? it = some { cls := .type "dict_itemiterator", dict := od, data := da, slots := sl } → Looks (model P w) h' (typeNameOfWhole (.ref it)) "dict_itemiterator" := fun e A Q E s k q => wpAny_typeNameOfWhole_itemiter (s := s) ⟨_, k _ _ e, rfl⟩ q;have L0 := LN hit;unfold pyNext;refine wpAny_bind (wpAny_attempt (wpAny_callSpecial?_slot (name := Str.ofString "__next__") hT F.slot_dict_itemiterator_next
  (wpAny_call_entry F.slot_dict_itemiterator_next hT F.entry_dict_itemiterator_next ?_ (F.args_dict_itemiterator_next_1 _))))
 unfold Builtin.«dict_itemiterator.__next__»
 iterate 5 lk
 iterate 2 (with_reducible refine zax (by simp [hs]) ?_)
 iterate 24 (first | simp -iota only [hown, if_true] | lk)
 (with_reducible refine zax (by simp [hs]) ?_)
 iterate 13 lk
 (with_reducible refine zax (by simp [hs]) ?_)
 iterate 13 lk
 (with_reducible refine zax (by simp [hs]) ?_)
 iterate 2 lk
 rw [if_neg (show ¬ ((i : Int) < 0) by omega), Int.toNat_natCast, getElem?_eq_none (by rw [hs]; exact hx)];ext d
 iterate 8 (first | simp only [hown, if_true] | lk)
 (with_reducible refine wpAny_setField hit rfl (by simp) (Held.out ?_))
 simp only [hown, if_true];ext o.Held.in;have sbh := Heap.SameBut.update (a := it) (h := h) (f := Obj.mapFields fun x => x.setIfInBounds 2 Value.none);generalize h.update it (Obj.mapFields fun x => x.setIfInBounds 2 Value.none) = h₁ at sbh ⊢;ext bind;unfold newExc newTuple;refine wpAny_bind (wpAny_newObj_type ?_ (by size_fits));refine wpAny_bind (wpAny_of_eq (a := Value.none) (by first | rfl | (simp only [firstArgMember]; rfl)) (wpAny_newObj_type ?_ (by size_fits)));refine wpAny_raiseNew_none (A := A.in1) hh ?_;refine wpAny_bind (wpAny_isInstance (T := "StopIteration") (b := true) ⟨_, get?_push_size _ rfl, rfl⟩ isSubtype_stop ?_);exact wpAny_pure (hQ _ ((sbh.extBut.push _).push _))
end
section
abbrev No : Value → Shared → Prop := fun _ _ => False
section
variable {R : GenEnd} {n : Nat} {c : Code} {K : Flow → Sem Fin} {H : Value → Sem Fin} {gd : Bool → Bool} {lv : List Value → List Value}
theorem zcb {α : Type} {m : Sem α} {f : α → Sem Flow} (h : wpAny M (A.over c fs) m (fun a s' => Seg M A R Y n s₀ c ((f a).wrap K H gd lv) fs s') No s) : Seg M A R Y n s₀ c ((m >>= f).wrap K H gd lv) fs s := by
 rw [Sem.bind_eq_wrap', Sem.wrap_wrap];exact seg_wrap (wpAny_mono h (fun _ _ z => z) fun _ _ z => z.elim)
theorem zbM {m : Sem Flow} (h : wpAny M (A.over c fs) m (fun a s' => Seg M A R Y n s₀ c (K a) fs s') No s) : Seg M A R Y n s₀ c (m.wrap K H gd lv) fs s :=
 seg_wrap (wpAny_mono h (fun _ _ z => z) fun _ _ z => z.elim)
theorem zfc {α : Type} {m : Sem α} {K : α → Sem Fin} {H : Value → Sem Fin} {gd lv} (h : PySem.wpAt M (A.over c []) c m (fun a s' => Seg M A R Y n s₀ c (K a) [] s') No s) : Seg M A R Y n s₀ c (m.wrap K H gd lv) [] s := by
 rw [seg_iff];rintro Γ p rfl hΓ;exact runs_wrap_of_wp K H gd lv m (h (Γ.over []) p rfl (hΓ.over [])) (fun a p' s' h' => seg_iff.mp h' Γ p' rfl hΓ) (fun x p' s' h' => h'.elim)
theorem zg3 {α : Type} {m : Sem α} {f : α → Sem Flow} (h : PySem.wpAt M (A.over c []) c m (fun a s' => Seg M A R Y n s₀ c ((f a).wrap K H gd lv) [] s') No s) : Seg M A R Y n s₀ c ((m >>= f).wrap K H gd lv) [] s := by
 rw [Sem.bind_eq_wrap', Sem.wrap_wrap];exact zfc h
theorem seg_stand {p : Pos} {m : Sem Flow} (h : Seg M A R Y n s₀ c (m.wrap K H gd lv) fs s) : Seg M A R Y n s₀ c ((standAt p >>= fun _ => m).wrap K H gd lv) fs s :=
 zcb (wpAny_standAt h)
abbrev zhP (env : Env) (K : Flow → Sem Fin) (H : Value → Sem Fin) (gd : Bool → Bool) (lv : List Value → List Value) : Result → Sem Fin :=
 fun r => ((match r with | .ok f => (.pure f : Sem Flow) | .error e => .raise e).onRaise fun (x : Value) => do
    if (← field x 1) == Value.none then unsupported "frame.own-activation:exception-without-traceback"
    setFlight x env.frame).wrap K H gd lv
theorem zcs
  (h : wpAny M (A.over c fs) (eval iter env) (fun x s₁ => wpAny M (A.over c fs) (pyIter x) (fun it s₂ => ∀ p, Seg M A R Y n s₀ (.forLoop target it body orelse env) (M.den (.forLoop target it body orelse env))
   (.ret (zhP env K H gd lv) none (gd false) (lv []) c p [] :: fs) s₂) No s₁) No s) (hs : ∀ x, foldedSetIterable iter env x = pure x := by intro _; rfl) :
  Seg M A R Y n s₀ c ((exec (.For target iter body orelse pos) env).wrap K H gd lv) fs s := by
 rw [exec_For];ext o.seg_stand;refine zcb (wpAny_mono h (fun x s₁ h₁ => ?_) fun _ _ z => z);rw [hs x];refine zcb (wpAny_pure ?_);ext o.seg_stand;refine zcb (wpAny_holding (wpAny_mono h₁ (fun it s₂ h₂ => ?_) fun _ _ z => z));exact seg_call h₂
theorem seg_ForAt
  (h : PySem.wpAt M (A.over c []) c (eval iter env) (fun x s₁ => wpAny M (A.over c []) (pyIter x) (fun it s₂ => ∀ p, Seg M A R Y n s₀ (.forLoop target it body orelse env) (M.den (.forLoop target it body orelse env))
   [.ret (zhP env K H gd lv) none (gd false) (lv []) c p []] s₂) No s₁) No s) (hs : ∀ x, foldedSetIterable iter env x = pure x := by intro _; rfl) :
  Seg M A R Y n s₀ c ((exec (.For target iter body orelse pos) env).wrap K H gd lv) [] s := by
 rw [exec_For];ext o.seg_stand;refine zg3 (ks_wpAt_mono h (fun x s₁ h₁ => ?_) fun _ _ z => z);rw [hs x];refine zcb (wpAny_pure ?_);ext o.seg_stand;refine zcb (wpAny_holding (wpAny_mono h₁ (fun it s₂ h₂ => ?_) fun _ _ z => z));exact seg_call h₂
theorem zdt {test : Expr}
  (h : wpAny M (A.over c fs) (isTrue test env (eval test env)) (fun b s₁ => Seg M A R Y n s₀ c ((execs (if b = true then body else orelse) env).wrap K H gd lv) fs s₁) No s) :
  Seg M A R Y n s₀ c ((exec (.If test body orelse pos) env).wrap K H gd lv) fs s := by
 have e : exec (.If test body orelse pos) env = (standAt pos >>= fun _ => isTrue test env (eval test env) >>= fun b => execs (if b = true then body else orelse) env) := by
  show (do standAt pos; if ← isTrue test env (eval test env) then execs body env else execs orelse env) = _
  congr 1
  funext _
  congr 1
  funext b;cases b <;> rfl
 rw [e];exact seg_stand (zcb h)
end
section
variable {R : GenEnd} {n : Nat}
abbrev zfB (target : Expr) (it : Value) (body : List Stmt) (env : Env) : Flow → Sem Fin := fun f => match f with
 | .next | .cont => .pure (.again (.forLoop target it body [] env))
 | .brk => .pure (.done .next)
 | .ret v => .pure (.done (.ret v))
abbrev zgi (env : Env) : Value → Sem Fin := fun e => (do noteFrame e env; theTreesLotGoes e : Sem Unit).wrap (fun _ => .raise e) .raise id id
theorem zdV {it : Value} {k h g l c₁ p₁}
  (q : wpAny (model P w) (A.over (.forLoop target it body [] env) (.ret k h g l c₁ p₁ [] :: fs)) (pyNext it) (fun r s₁ => match r with
   | none => Seg (model P w) A R Y n s₀ c₁ (k (.ok .next)) fs s₁
   | some v => wpAny (model P w) (A.over (.forLoop target it body [] env) (.ret k h g l c₁ p₁ [] :: fs)) (letOwnedTupleGo target it v) (fun _ s₂ =>
     wpAny (model P w) (A.over (.forLoop target it body [] env) (.ret k h g l c₁ p₁ [] :: fs)) (assign target env v) (fun _ s₃ =>
      Seg (model P w) A R Y n s₀ (.forLoop target it body [] env) ((execs body env).wrap (zfB target it body env) (zgi env) id id) (.ret k h g l c₁ p₁ [] :: fs) s₃) No s₂) No s₁) No s) :
  Seg (model P w) A R Y n s₀ (.forLoop target it body [] env) ((model P w).den (.forLoop target it body [] env)) (.ret k h g l c₁ p₁ [] :: fs) s := by
 unhygienic
 revert hen w A R Y n s₀ fs s env target it body k h g l c₁ p₁;show Seg _ A R Y n s₀ _ ((forTurn target it body [] env).onRaise (fun x => do noteFrame x env; theTreesLotGoes x)) _ s;rw [Sem.onRaise_eq_wrap];unfold forTurn;rw [Sem.bind_eq_wrap', Sem.wrap_wrap];refine seg_wrap (wpAny_standAt ?_);rw [Sem.bind_eq_wrap', Sem.wrap_wrap];refine seg_wrap (wpAny_onRaise (wpAny_mono q (fun r s₁ h₁ => ?_) fun _ _ z => z.elim));cases r with
 | none =>
  dsimp only at h₁ ⊢;show Seg _ A R Y n s₀ _ (.pure (.again (.block [] env))) _ s₁;refine seg_again rfl ?_;exact seg_leaf (.ok .next) h₁
 | some v =>
  dsimp only at h₁ ⊢;rw [Sem.bind_eq_wrap', Sem.wrap_wrap];refine seg_wrap (wpAny_mono h₁ (fun _ s₂ h₂ => ?_) fun _ _ z => z.elim);rw [Sem.bind_eq_wrap', Sem.wrap_wrap];refine seg_wrap (wpAny_mono h₂ (fun _ s₃ h₃ => ?_) fun _ _ z => z.elim);rw [Sem.bind_eq_wrap', Sem.wrap_wrap];refine cast (congrArg (fun t => Seg (model P w) A R Y n s₀ (.forLoop target it body [] env) t (.ret k h g l c₁ p₁ [] :: fs) s₃) ?_) h₃;exact Sem.wrap_congr _ _ _ (fun f => by cases f <;> rfl) (fun e => (Sem.bind_eq_wrap _ _).symm)
end
end
section
def zho : List Value := [.type "frame", .type "list_iterator", .type "dict_itemiterator", .type "dict_keyiterator", .type "set"]
def gown (o : Obj) : Prop := (∃ es n, o.data = .dict es n) ∨ o.cls ∈ zho
def kown (o : Obj) : Prop := gown o ∨ o.cls ∈ [Value.type "generator", Value.type "cell"]
structure ExtP (mod : Addr → Obj → Prop) (h h' : Heap) : Prop where
 keep : ∀ b o, h.get? b = some o → ¬ mod b o → h'.get? b = some o ∨ (b ∈ zco ∧ ∃ ps more, o = tableObj ps ∧ h'.get? b = some (tableObj (ps ++ more)) ∧ (TriplesOk ps.toList → TriplesOk (ps ++ more).toList))
def Zone.gm (z : Zone) (a : Addr) (o : Obj) : Prop := z.B ≤ a ∧ a ∉ z.C ∧ gown o
def Zone.cm (z : Zone) (a : Addr) (o : Obj) : Prop := ¬ (a < z.b0 ∧ a ∉ z.C) ∧ ¬ (z.B ≤ a ∧ a ∉ z.C ∧ kown o)
section
variable {mod mod' : Addr → Obj → Prop}
theorem ExtP.refl (mod : Addr → Obj → Prop) (h : Heap) : ExtP mod h h := ⟨fun _ _ e _ => .inl e⟩
theorem ExtP.mono (x : ExtP mod h h') (hs : ∀ a o, mod a o → mod' a o) : ExtP mod' h h' := ⟨fun b o e n => x.keep b o e fun m => n (hs b o m)⟩
theorem ExtP.trans (x : ExtP mod h h') (y : ExtP mod h' h'') (ht : ∀ b ∈ zco, ∀ o, ¬ mod b o) : ExtP mod h h'' := by
 refine ⟨fun b o e n => ?_⟩;rcases x.keep b o e n with q | ⟨t, ps, more, rfl, q, kq⟩
 ·exact y.keep b o q n
 ·rcases y.keep b _ q (ht b t _) with r | ⟨_, ps', more', e', r, kr⟩
  ·exact .inr ⟨t, ps, more, rfl, r, kq⟩
  ·have : ps' = ps ++ more := by
    have z : (tableObj (ps ++ more)).data = (tableObj ps').data := congrArg Obj.data e';injection z with z; exact z.symm
   subst this;exact .inr ⟨t, ps, more ++ more', rfl, by rw [r, append_assoc], fun z => by rw [← append_assoc]; exact kr (kq z)⟩
theorem ExtP.of (x : Ext [] h h') : ExtP mod h h' := ⟨fun b o e _ => x.keep b o e (by simp)⟩
theorem ExtP.get (x : ExtP mod h h') (e : h.get? b = some o) (hc : hasCls o = true) (hm : ¬ mod b o) : h'.get? b = some o := by
 rcases x.keep b o e hm with q | ⟨_, ps, more, rfl, _⟩
 ·exact q
 ·cases hc
theorem ExtP.but (x : Heap.ExtBut a h h') (hm : ∀ o, h.get? a = some o → mod a o) : ExtP mod h h' :=
 ⟨fun b o e n => .inl (x b o (fun q => n (by subst q; exact hm o e)) e)⟩
theorem ExtP.ns (x : ExtP mod h h') (n : h.Ns L m) (hm : ∀ o, h.get? L = some o → (∃ es n, o.data = .dict es n) → ¬ mod L o) : h'.Ns L m := by
 obtain ⟨o, es, ep, e, hd, r⟩ := n;rcases x.keep L o e (hm o e ⟨_, _, hd⟩) with q | ⟨_, ps, more, rfl, _⟩
 ·exact ⟨o, es, ep, q, hd, r⟩
 ·cases hd
structure Zone.Ok (z : Zone) : Prop where
 low : 604 ≤ z.b0
 le : z.b0 ≤ z.B
 c : ∀ a ∈ z.C, 604 ≤ a
theorem zbV (h : b ∈ zco) : b < 604 := by
 unfold zco at h;rcases mem_cons.mp h with rfl | h
 ·decide
 ·rcases mem_cons.mp h with rfl | h
  ·decide
  ·cases h
theorem Zone.Ok.gm_tabs (k : z.Ok) : ∀ b ∈ zco, ∀ o, ¬ z.gm b o := fun b hb o q => absurd (zbV hb) (not_lt.mpr (le_trans k.low (le_trans k.le q.1)))
theorem Zone.Ok.cm_tabs (k : z.Ok) : ∀ b ∈ zco, ∀ o, ¬ z.cm b o := fun b hb o q => q.1 ⟨lt_of_lt_of_le (zbV hb) k.low, fun m => absurd (zbV hb) (not_lt.mpr (k.c b m))⟩
def zaT (g : Array GenState) : Prop := ∀ x ∈ g, x.bare = true
structure Turn (z : Zone) (s s' : Shared) : Prop where
 heap : ExtP z.gm s.heap s'.heap
 gens : ∀ i, i ≤ z.g → s'.gens[i]? = s.gens[i]?
 bare : zaT s.gens → zaT s'.gens
 drawn : s'.drawn = s.drawn
 os : s'.os = s.os
structure Calm (z : Zone) (s s' : Shared) : Prop where
 heap : ExtP z.cm s.heap s'.heap
 there : ∀ a ∈ z.C, ∀ o, s.heap.get? a = some o → ∃ o', s'.heap.get? a = some o'
 gens : ∀ i, z.g ≤ i → s'.gens[i]? = s.gens[i]?
theorem Turn.refl (z : Zone) (s : Shared) : Turn z s s := ⟨.refl _ _, fun _ _ => rfl, id, rfl, rfl⟩
theorem Turn.trans (k : z.Ok) (x : Turn z s s') (y : Turn z s' s'') : Turn z s s'' :=
 ⟨x.heap.trans y.heap k.gm_tabs, fun i hi => (y.gens i hi).trans (x.gens i hi), fun b => y.bare (x.bare b), y.drawn.trans x.drawn, y.os.trans x.os⟩
theorem Calm.refl (z : Zone) (s : Shared) : Calm z s s := ⟨.refl _ _, fun _ _ o e => ⟨o, e⟩, fun _ _ => rfl⟩
theorem Calm.trans (k : z.Ok) (x : Calm z s s') (y : Calm z s' s'') : Calm z s s'' :=
 ⟨x.heap.trans y.heap k.cm_tabs, fun a m o e => let ⟨o', e'⟩ := x.there a m o e; y.there a m o' e', fun i hi => (y.gens i hi).trans (x.gens i hi)⟩
theorem Turn.step {h₂ : Heap} {g d t t' os} (x : ExtP z.gm h₁ h₂) : Turn z ⟨h₁, g, d, t, os⟩ ⟨h₂, g, d, t', os⟩ := ⟨x, fun _ _ => rfl, id, rfl, rfl⟩
def Base (z : Zone) (h₀ h : Heap) : Prop := Ext z.C h₀ h
theorem zhp {ps ps' more : Array Value} (e : tableObj (ps ++ more) = tableObj ps') : ps' = ps ++ more := by
 have z : (tableObj (ps ++ more)).data = (tableObj ps').data := congrArg Obj.data e;injection z with z; exact z.symm
theorem Ext.p {m : List Addr} (x : Ext m h₀ h) (y : ExtP mod h h') (hb : ∀ a o o', h₀.get? a = some o → h.get? a = some o' → a ∉ m → ¬ mod a o') (ht : ∀ b ∈ zco, ∀ o, ¬ mod b o)
  (hm : ∀ a ∈ m, ∀ o, h.get? a = some o → ∃ o', h'.get? a = some o') : Ext m h₀ h' := by
 have kp : ∀ b o, h₀.get? b = some o → b ∉ m → h'.get? b = some o ∨ (b ∈ zco ∧ ∃ ps more, o = tableObj ps ∧ h'.get? b = some (tableObj (ps ++ more)) ∧ (TriplesOk ps.toList → TriplesOk (ps ++ more).toList)) := by
  intro b o e n;rcases x.keep b o e n with q | ⟨t, ps, more, rfl, q, kq⟩
  ·exact y.keep b o q (hb b o o e q n)
  ·rcases y.keep b _ q (ht b t _) with r | ⟨_, ps', more', e', r, kr⟩
   ·exact .inr ⟨t, ps, more, rfl, r, kq⟩
   ·have := zhp e'
    subst this;exact .inr ⟨t, ps, more ++ more', rfl, by rw [r, append_assoc], fun z => by rw [← append_assoc]; exact kr (kq z)⟩
 refine ⟨kp, fun b o e => ?_⟩
 by_cases q : b ∈ m
 ·obtain ⟨o', e'⟩ := x.there b o e
  exact hm b q o' e'
 ·rcases kp b o e q with r | ⟨_, _, _, _, r, _⟩ <;> exact ⟨_, r⟩
theorem ExtP.still (y : ExtP mod h h') (e : h.get? a = some o) (n : ¬ mod a o) : ∃ o', h'.get? a = some o' := by
 rcases y.keep a o e n with r | ⟨_, _, _, _, r, _⟩ <;> exact ⟨_, r⟩
theorem Base.turn (k : z.Ok) (hz : h₀.objs.size ≤ z.b0) (x : Base z h₀ h) (y : ExtP z.gm h h') : Base z h₀ h' :=
 Ext.p x y (fun a o o' e _ _ q => absurd (lt_size e) (not_lt.mpr (le_trans hz (le_trans k.le q.1)))) k.gm_tabs fun a m o e => y.still e fun q => q.2.1 m
theorem Base.calm (k : z.Ok) (hz : h₀.objs.size ≤ z.b0) (x : Base z h₀ s.heap) (y : Calm z s s') : Base z h₀ s'.heap :=
 Ext.p x y.heap (fun a o o' e _ n q => q.1 ⟨lt_of_lt_of_le (lt_size e) hz, n⟩) k.cm_tabs y.there
structure Zone.In (z' z : Zone) : Prop where
 b0 : z'.b0 = z.b0
 B : z.B ≤ z'.B
 C : ∀ a ∈ z.C, a ∈ z'.C
 g : z.g < z'.g
theorem Turn.outer (n : z'.In z) (x : Turn z' s s') : Turn z s s' :=
 ⟨x.heap.mono fun a o q => ⟨le_trans n.B q.1, fun m => q.2.1 (n.C a m), q.2.2⟩, fun i hi => x.gens i (le_trans hi (le_of_lt n.g)), x.bare, x.drawn, x.os⟩
theorem Calm.inner (n : z'.In z) (x : Calm z s s') (hc : ∀ a ∈ z'.C, a ∉ z.C → ∀ o, s.heap.get? a = some o → z.B ≤ a ∧ kown o) : Calm z' s s' :=
 ⟨x.heap.mono fun a o q => ⟨fun m => q.1 ⟨n.b0 ▸ m.1, fun r => m.2 (n.C a r)⟩, fun m => q.2 ⟨le_trans n.B m.1, fun r => m.2.1 (n.C a r), m.2.2⟩⟩,
  fun a m o e => by
   by_cases q : a ∈ z.C
   ·exact x.there a q o e
   ·obtain ⟨h1, h2⟩ := hc a m q o e
    exact x.heap.still e fun r => r.2 ⟨h1, q, h2⟩,
  fun i hi => x.gens i (le_trans (le_of_lt n.g) hi)⟩
end
def Zone.fr (z : Zone) (h : Heap) (a : Addr) : Prop := z.B ≤ a ∧ a ∉ z.C ∧ ∀ o, h.get? a = some o → z.gm a o
def Yg (all : List PyData) (z : Zone) : Protocol := fun m s₀ v s kap => ∃ d, all[all.length - 1 - m]? = some d ∧ RdP (z.fr s₀.heap) s.heap v d ∧ Turn z s₀ s ∧ ∀ s'', Calm z s s'' → kap (.send .none) s''
def Rg (fin : Result) (z : Zone) : GenEnd := fun n s₀ r s => r = fin ∧ n = 0 ∧ Turn z s₀ s
def Cs (z : Zone) (h : Heap) : Prop := ∀ c ∈ z.C, ∃ o, h.get? c = some o
structure Feed (w : World) (A : Around) (z : Zone) (fin : Result) (a : Addr) (all : List PyData) (j : Nat) (s : Shared) : Prop where
 ok : z.Ok
 le : j ≤ all.length
 gen : s.heap.IsGen a z.g
 own : z.B ≤ a ∧ a ∉ z.C
 lim : s.heap.NoLimit
 goes : ∃ gs, s.gens[z.g]? = some gs ∧ gs.bare = true ∧ ∀ s'', Calm z (s.setGen z.g .running) s'' → Cs z s''.heap → gs.Goes (model P w) A.in1 (Rg fin z) (Yg all z) (all.length - j) (.send .none) s''
section
structure Woke (z : Zone) (s s' : Shared) : Prop where
 heap : ExtP z.gm s.heap s'.heap
 gens : ∀ i, i < z.g → s'.gens[i]? = s.gens[i]?
 bare : zaT s.gens → zaT s'.gens
 drawn : s'.drawn = s.drawn
 os : s'.os = s.os
theorem zas {g i : Nat} {x : GenState} (h : i ≠ g) : (s.setGen g x).gens[i]? = s.gens[i]? := by
 unfold setGen;ext d;rw [Array.getElem?_setIfInBounds];rw [if_neg (Ne.symm h)]
theorem zb1 {i : Nat} {x : GenState} (h : zaT g) (hx : x.bare = true) : zaT (g.setIfInBounds i x) := by
 intro y hy;rcases Array.mem_or_eq_of_mem_setIfInBounds hy with hy | rfl
 ·exact h y hy
 ·exact hx
theorem zhR (h : Heap) (e : Addr) (he : ∃ o, h.get? e = some o ∧ o.cls = .type "StopIteration") (M : Model) : Looks M h (isInstance (.ref e) (.type "StopIteration")) true := by
 obtain ⟨o, ho, hc⟩ := he;exact Looks.andThen (a := .type "StopIteration") (hc ▸ (Looks.ld ho).andThen .now) (Looks.of_pure isSubtype_stop)
theorem zei {R : GenEnd} {n g : Nat} {gs : GenState} {Q : Option Value → Shared → Prop} (hh : A.handled = none) (hl : s.heap.NoLimit) (hroom : A.depth < recursionLimit) (hfin : fin = .ok (.ret .none) ∨ fin = .ok .next)
  (hg : s.heap.IsGen a g) (hgs : s.gens[g]? = some gs) (hgo : gs.Goes (model P w) A.in1 R Y n (.send .none) (s.setGen g .running))
  (hR : ∀ x s₁, R n (s.setGen g .running) x s₁ → x = fin ∧ ∀ h', zaz s₁.heap h' → Q none { s₁.setGen g .finished with heap := h' })
  (hY : ∀ v s₁ gs', gs'.bare = true → Y (n - 1) (s.setGen g .running) v s₁ (fun r' s'' => match n with | 0 => False | m + 1 => gs'.Goes (model P w) A.in1 R Y m r' s'') → Q (some v) (s₁.setGen g gs')) :
  wpAny (model P w) A (pyNext (.ref a)) Q E s := by
 unhygienic
 revert hen w A E fin a s R Y n g gs Q
 haveI hT := hg.typeIs
 unfold pyNext;refine wpAny_bind (wpAny_attempt (wpAny_callSpecial?_slot (name := Str.ofString "__next__") hT slot_gen_next (wpAny_call_entry slot_gen_next hT entry_gen_next ?_ (args_gen_next _))));unfold Builtin.«generator.__next__»;refine wpAny_bind (wpAny_pure ?_);ext d;unfold Builtin.Generator.genWake;refine wpAny_bind (wpAny_holding (wpAny_genNumber hg ?_));refine wpAny_bind (wpAny_genState hgs ?_)
 haveI stop : ∀ (f : Unit → Sem PySem.Fin) (s₁ : Shared), (∀ h', zaz s₁.heap h' → Q none { s₁.setGen g .finished with heap := h' }) → wpAny (model P w) A.in1 (newExc (.type "StopIteration") [] >>= fun e => (raiseNew e : Sem Unit) >>= f) (fun fin s' => ∃ v, fin = Fin.done (Flow.ret v) ∧ wpAny (model P w) A (pure (some v)) Q E s')
    (fun e s' => wpAny (model P w) A (do let __do_lift ← isInstance e (Value.type "StopIteration"); if __do_lift = true then pure none else throw e) Q E s') (s₁.setGen g .finished) := by
  intro f s₁ q;ext bind;unfold newExc newTuple;refine wpAny_bind (wpAny_newObj_type ?_ (by size_fits));refine wpAny_bind (wpAny_of_eq (a := Value.none) (by first | rfl | (simp only [firstArgMember]; rfl)) (wpAny_newObj_type ?_ (by size_fits)));refine wpAny_bind (wpAny_raiseNew_none (A := A.in1) hh ?_);refine wpAny_bind ((zhR _ _ ⟨_, get?_push_size _ rfl, rfl⟩ _).here ?_);exact wpAny_pure (q _ fun b o e => get?_push_of_some _ (get?_push_of_some _ e))
 cases gs with
 | running => exact hgo.elim
 | finished => exact hgo.elim
 | _ =>
  refine wpAny_bind (wpAny_roomToWake hl hroom ?_);show wpAny _ A.in1 (.resume g (.send .none) [] _) _ _ s;refine wpAny_resumeQ hgs hgo (fun x s₁ hx => ?_) (fun v s₁ gs' hb hy => ?_)
  ·obtain ⟨rfl, q⟩ := hR x s₁ hx
   rcases hfin with rfl | rfl
   ·exact stop _ s₁ q
   ·exact stop _ s₁ q
  ·exact wpAny_pure ⟨v, rfl, wpAny_pure (hY v s₁ gs' hb hy)⟩
theorem Feed.next {d : PyData} {Q : Option Value → Shared → Prop} (f : Feed w A z fin a all j s) (hC : Cs z s.heap) (hh : A.handled = none) (hroom : A.depth < recursionLimit) (hfin : fin = .ok (.ret .none) ∨ fin = .ok .next) (hd : all[j]? = some d)
  (q : ∀ v s', RdP (z.fr s.heap) s'.heap v d → Woke z s s' → Feed w A z fin a all (j + 1) s' → Q (some v) s') : wpAny (model P w) A (pyNext (.ref a)) Q E s := by
 obtain ⟨ok, le, gen, own, lim, gs, hgs, hb, goes⟩ := f;have hj : j < all.length := (List.getElem?_eq_some_iff.mp hd).1;obtain ⟨m, hm⟩ : ∃ m, all.length - j = m + 1 := ⟨all.length - j - 1, by omega⟩;rw [hm] at goes;have gsm : all.length - (j + 1) = m := by omega
 have gidx : all.length - 1 - (m + 1 - 1) = j := by omega
 refine zei (n := m + 1) hh lim hroom hfin gen hgs (goes _ (.refl _ _) hC) (fun x s₁ hx => absurd hx.2.1 (Nat.succ_ne_zero m)) (fun v s₁ gs' hb' hy => ?_);obtain ⟨d', hd', rd, tn, kp⟩ := hy;rw [gidx, hd] at hd'; cases hd';have run : s₁.gens[z.g]? = some .running := (tn.gens z.g (le_refl _)).trans (setGen_self hgs);refine q v _ rd ⟨tn.heap, fun i hi => ?_, fun b => ?_, tn.drawn, tn.os⟩ ⟨ok, hj, ?_, own, ?_, gs', setGen_self run, hb', fun s'' c _ => ?_⟩
 ·rw [zas (ne_of_lt hi)]
  exact (tn.gens i (le_of_lt hi)).trans (zas (ne_of_lt hi))
 ·exact zb1 (tn.bare (zb1 b rfl)) hb'
 ·obtain ⟨o, nm, qn, ho, hc, r⟩ := gen
  exact ⟨o, nm, qn, tn.heap.get ho (by unfold hasCls; rw [hc]) (fun k => by
   rcases k.2.2 with ⟨es, n, q⟩ | q
   ·rw [r.1] at q; cases q
   ·rw [hc] at q; exact absurd q (by decide)), hc, r⟩
 ·obtain ⟨mc, hn, hnn⟩ := lim
  exact ⟨mc, tn.heap.ns hn (fun o _ _ k => absurd (le_trans ok.low (le_trans ok.le k.1)) (by decide)), hnn⟩
 ·rw [gsm]
  refine kp s'' ⟨c.heap, c.there, fun i hi => (c.gens i hi).trans ?_⟩
  by_cases e : i = z.g
  ·subst e
   rw [setGen_self (setGen_self run), run]
  ·rw [zas e, zas e]
theorem Feed.stop {Q : Option Value → Shared → Prop} (f : Feed w A z fin a all j s) (hC : Cs z s.heap) (hh : A.handled = none) (hroom : A.depth < recursionLimit) (hfin : fin = .ok (.ret .none) ∨ fin = .ok .next) (hj : j = all.length)
  (q : ∀ s', Woke z s s' → Q none s') : wpAny (model P w) A (pyNext (.ref a)) Q E s := by
 unhygienic
 revert hen w A E z fin a all j s Q;obtain ⟨ok, le, gen, own, lim, gs, hgs, hb, goes⟩ := f;subst hj;rw [sub_self] at goes;refine zei (n := 0) hh lim hroom hfin gen hgs (goes _ (.refl _ _) hC) (fun x s₁ hx => ⟨hx.1, fun h' k => ?_⟩) (fun v s₁ gs' hb' hy => ?_)
 ·have tn := hx.2.2
  refine q _ ⟨tn.heap.trans (.of (.of_keeps k)) ok.gm_tabs, fun i hi => ?_, fun b => zb1 (tn.bare (zb1 b rfl)) rfl, tn.drawn, tn.os⟩;show (s₁.setGen z.g .finished).gens[i]? = _;rw [zas (ne_of_lt hi)];exact (tn.gens i (le_of_lt hi)).trans (zas (ne_of_lt hi))
 ·obtain ⟨_, _, _, _, kp⟩ := hy
  exact (kp _ (.refl _ _)).elim
theorem Feed.calm (f : Feed w A z fin a all j s) (c : Calm z s s') : Feed w A z fin a all j s' := by
 unhygienic
 revert hen w A z fin a all j s s';obtain ⟨ok, le, gen, own, lim, gs, hgs, hb, goes⟩ := f;refine ⟨ok, le, ?_, own, ?_, gs, (c.gens z.g (le_refl _)).trans hgs, hb, fun s'' c' cs => goes s'' (Calm.trans (s' := s'.setGen z.g .running) ok ⟨c.heap, c.there, fun i hi => ?_⟩ c') cs⟩
 ·obtain ⟨o, nm, qn, ho, hc, r⟩ := gen
  exact ⟨o, nm, qn, c.heap.get ho (by unfold hasCls; rw [hc]) (fun k => k.2 ⟨own.1, own.2, .inr (by rw [hc]; decide)⟩), hc, r⟩
 ·obtain ⟨mc, hn, hnn⟩ := lim
  exact ⟨mc, c.heap.ns hn (fun o _ _ k => k.1 ⟨lt_of_lt_of_le (by decide) ok.low, fun m => absurd (ok.c _ m) (by decide)⟩), hnn⟩
 ·by_cases e : i = z.g
  ·subst e
   exact (setGen_self ((c.gens _ hi).trans hgs)).trans (setGen_self hgs).symm
  ·exact (zas e).trans ((c.gens i hi).trans (zas e).symm)
theorem Woke.cs (x : Woke z s s') (hC : Cs z s.heap) : Cs z s'.heap := fun c m => let ⟨o, e⟩ := hC c m; x.heap.still e fun q => q.2.1 m
end
structure GS (z : Zone) (h₀ : Heap) (L : Addr) (m : Str → Option Value) (s₀ s : Shared) : Prop where
 ok : z.Ok
 hz : h₀.objs.size ≤ z.b0
 turn : Turn z s₀ s
 base : Base z h₀ s.heap
 ns : s.heap.Ns L m
 L : z.B ≤ L ∧ L ∉ z.C
 cs : Cs z s.heap
section
theorem GS.step (x : GS z h₀ L m s₀ ⟨h, g, d, t, os⟩) (y : ExtP z.gm h h') (n : h'.Ns L m') : GS z h₀ L m' s₀ ⟨h', g, d, t', os⟩ :=
 ⟨x.ok, x.hz, x.turn.trans x.ok (.step y), x.base.turn x.ok x.hz y, n, x.L, fun c q => let ⟨o, e⟩ := x.cs c q; y.still e fun r => r.2.1 q⟩
theorem GS.toks (x : GS z h₀ L m s₀ ⟨h, g, d, t, os⟩) : GS z h₀ L m s₀ ⟨h, g, d, t', os⟩ := x.step (.refl _ _) x.ns
theorem GS.keeps (x : GS z h₀ L m s₀ ⟨h, g, d, t, os⟩) (k : zaz h h') : GS z h₀ L m s₀ ⟨h', g, d, t', os⟩ :=
 x.step (.of (.of_keeps k)) (zaA (.of_keeps k) x.ns (by simp))
theorem GS.ext (x : GS z h₀ L m s₀ ⟨h, g, d, t, os⟩) (k : Ext [] h h') : GS z h₀ L m s₀ ⟨h', g, d, t', os⟩ :=
 x.step (.of k) (zaA k x.ns (by simp))
theorem GS.store (x : GS z h₀ L m s₀ ⟨h, g, d, t, os⟩) (n : h'.Ns L m') (hs : Heap.SameBut L h h') : GS z h₀ L m' s₀ ⟨h', g, d, t', os⟩ := by
 refine x.step (.but hs.extBut fun o e => ⟨x.L.1, x.L.2, .inl ?_⟩) n;obtain ⟨o', es, ep, e', hd, _⟩ := x.ns;rw [show o = o' from Option.some.inj (e.symm.trans e')];exact ⟨es, ep, hd⟩
theorem GS.ne (x : GS z h₀ L m s₀ s) {a : Addr} {o : Obj} (e : s.heap.get? a = some o) (hd : ∀ es n, o.data ≠ .dict es n) : L ≠ a := by
 rintro rfl;obtain ⟨o', es, ep, e', hd', _⟩ := x.ns;rw [show o = o' from Option.some.inj (e.symm.trans e')] at hd;exact hd _ _ hd'
theorem GS.fresh (x : GS z h₀ L m s₀ s) : z.B ≤ s.heap.objs.size ∧ s.heap.objs.size ∉ z.C :=
 ⟨le_trans x.L.1 (le_of_lt x.ns.lt), fun q => by obtain ⟨o, e⟩ := x.cs _ q; exact absurd (lt_size e) (lt_irrefl _)⟩
theorem GS.fr (x : GS z h₀ L m s₀ s) (e : s.heap.get? a = none) (hB : z.B ≤ a) (hC : a ∉ z.C) : z.fr s₀.heap a :=
 ⟨hB, hC, fun o q => by
  by_cases n : z.gm a o
  ·exact n
  ·obtain ⟨o', e'⟩ := x.turn.heap.still q n
   rw [e] at e'; cases e'⟩
theorem GS.frs (x : GS z h₀ L m s₀ s) : z.fr s₀.heap s.heap.objs.size := x.fr (zag _) x.fresh.1 x.fresh.2
theorem GS.own (x : GS z h₀ L m s₀ ⟨h, g, d, t, os⟩) (he : Heap.ExtBut a h h') (e : h.get? a = some o) (hd : ∀ es n, o.data ≠ .dict es n) (hc : o.cls ∈ zho) (hB : z.B ≤ a) (hC : a ∉ z.C) : GS z h₀ L m s₀ ⟨h', g, d, t', os⟩ := by
 refine x.step (.but he fun o' e' => ⟨hB, hC, .inr ?_⟩) ?_
 ·rw [show o' = o from Option.some.inj (e'.symm.trans e)]; exact hc
 ·obtain ⟨o', es, ep, q, r⟩ := x.ns
  exact ⟨o', es, ep, he _ _ (x.ne e hd) q, r⟩
theorem GS.woken (x : GS z h₀ L m s₀ s) (c : Calm z s s') : GS z h₀ L m s' s' :=
 ⟨x.ok, x.hz, .refl _ _, x.base.calm x.ok x.hz c, c.heap.ns x.ns fun o e hd q => q.2 ⟨x.L.1, x.L.2, .inl (.inl hd)⟩, x.L, fun a q => let ⟨o, e⟩ := x.cs a q; c.there a q o e⟩
theorem Calm.kept (c : Calm z s s') (e : s.heap.get? a = some o) (hc : o.cls ∈ zho) (hB : z.B ≤ a) (hC : a ∉ z.C) : s'.heap.get? a = some o := by
 refine c.heap.get e ?_ fun q => q.2 ⟨hB, hC, .inl (.inr hc)⟩;unfold hasCls;cases h : o.cls <;> first | rfl | (rw [h] at hc; revert hc; decide)
end
end
section
theorem Rm.over {n : Nat} (x : Rm n A) {c : Code} {fs : List Frame} (h : c.isCaller = false) (hf : ∀ f ∈ fs, (f.where_).1.isCaller = false) : Rm (n + 5 * (fs.length + 1)) (A.over c fs) := by
 have key : ∀ fs : List Frame, (∀ f ∈ fs, (f.where_).1.isCaller = false) → frameCount (fs.map Frame.where_) ≤ 5 * fs.length ∧ unitsOf (fs.map Frame.where_) ≤ 10 * fs.length := by
  intro fs
  induction fs with
  | nil => intro _; exact ⟨le_refl _, le_refl _⟩
  | cons f r ih =>
   intro hf;obtain ⟨h1, h2⟩ := ih fun f' q => hf f' (.tail _ q);have hw := zb3 (hf f (.head _));have hu := zb5 (f.where_).1;rw [map_cons, length_cons];obtain ⟨c', p'⟩ : ∃ c' p', f.where_ = (c', p') := ⟨_, _, rfl⟩;rw [show f.where_ = ((f.where_).1, (f.where_).2) from rfl, frameCount_cons, unitsOf_cons];omega
 obtain ⟨k1, k2⟩ := key fs hf;have hw := zb3 h;have hu := zb5 c;exact ⟨by have := x.depth; show A.depth + frameCount (fs.map Frame.where_) + c.weight ≤ _; omega, by have := x.units; show A.units + unitsOf (fs.map Frame.where_) + c.cUnits ≤ _; omega⟩
theorem zbB {w : World} {s : Shared} {a : Addr} {fd : FuncData} {body : List Stmt} (binds : List (Str × Value)) {n : Nat} (hA : Rm n A) (T : TopH w s.heap)
  (ho : (KK w).lookup a = some o) (hdata : o.data = .func fd) (hcd : codeIn (KK w) fd.code fd.qualname = true)
  (hbody : fd.body = .stmts body) (hbind : BindsTo s fd args binds)
  (hcell : ∀ x ∈ fd.scope.names, x.2 ≠ .cell) (hloc : ∀ x ∈ binds, fd.scope.names.lookup x.1 = some .local)
  (h : ∀ h' tk, zaz s.heap h' → h'.Ns s.heap.objs.size (fun x => binds.reverse.lookup x) → h'.IsGen (s.heap.objs.size + 1) s.gens.size →
   R (.ok (.ret (.ref (s.heap.objs.size + 1)))) ⟨h', s.gens.push (.fresh (.func body (callEnv fd s.heap.objs.size a))), s.drawn, tk, s.os⟩)
  (hn : n ≤ 600 := by decide) (hco : fd.scope.isCoroutine = false := by rfl) (hgen : fd.scope.isGenerator = true := by rfl) (hk : fd.scope.kind = .function := by rfl) : codeAny (model P w) A (.call (.ref a) args) R s := by
 refine codeAny_call_generator (hA.dlt hn) (T.K _ _ ho) hdata hco hgen hbody (codeRec_of T.K hcd) (hbind _ _ _ _ ?_);refine wpAny_newFunctionEnv hcell hloc (fun h₀ hns hsb => ?_) hk;have k0 : zaz s.heap h₀ := fun b o e => hsb.extBut b o (ne_of_lt (lt_size e)) (get?_push_of_some _ e);have hsz : h₀.objs.size = s.heap.objs.size + 1 := by rw [hsb.1, size_push]
 refine ⟨(T.ext (.of_keeps k0) (by simp)).lim, ?_⟩;ext d;rw [hsz];refine h _ _ (fun b o e => get?_push_of_some _ (k0 b o e)) (hns.push _) ?_;refine ⟨{ cls := .type "generator", data := .fields #[.int s.gens.size 0, .str fd.name (s.toks + binds.length), .str fd.qualname (s.toks + binds.length + 1)] }, _, _, ?_, rfl, rfl, rfl⟩;have := get?_push_size (h := h₀) (o := { cls := .type "generator", data := .fields #[.int s.gens.size 0, .str fd.name (s.toks + binds.length), .str fd.qualname (s.toks + binds.length + 1)] }) rfl
 rwa [hsz] at this
theorem zeu {R : GenEnd} {it : Value} {k h g l c₁ p₁} {fs : List Frame} (I : Nat → Nat → Shared → Shared → Prop)
  (turn : ∀ m n s₀ s, I m n s₀ s → (∀ m' n' s₀' s', m' < m → I m' n' s₀' s' → Seg (model P w) A R Y n' s₀' (.forLoop target it body [] env) (.pure (.again (.forLoop target it body [] env))) (.ret k h g l c₁ p₁ [] :: fs) s') →
   wpAny (model P w) (A.over (.forLoop target it body [] env) (.ret k h g l c₁ p₁ [] :: fs)) (pyNext it) (fun r s₁ => match r with
   | none => Seg (model P w) A R Y n s₀ c₁ (k (.ok .next)) fs s₁
   | some v => wpAny (model P w) (A.over (.forLoop target it body [] env) (.ret k h g l c₁ p₁ [] :: fs)) (letOwnedTupleGo target it v) (fun _ s₂ =>
     wpAny (model P w) (A.over (.forLoop target it body [] env) (.ret k h g l c₁ p₁ [] :: fs)) (assign target env v) (fun _ s₃ =>
      Seg (model P w) A R Y n s₀ (.forLoop target it body [] env) ((execs body env).wrap (zfB target it body env) (zgi env) id id) (.ret k h g l c₁ p₁ [] :: fs) s₃) No s₂) No s₁) No s)
  (m n : Nat) (s₀ s : Shared) (i : I m n s₀ s) :
  Seg (model P w) A R Y n s₀ (.forLoop target it body [] env) ((model P w).den (.forLoop target it body [] env)) (.ret k h g l c₁ p₁ [] :: fs) s := by
 induction m using Nat.strongRecOn generalizing n s₀ s with
 | _ m ih =>
  refine zdV (turn m n s₀ s i fun m' n' s₀' s' hm i' => ?_);exact seg_again rfl (ih m' hm n' s₀' s' i')
theorem za3 {R : GenEnd} {it : Value} {k h g l c₁ p₁} {fs : List Frame} (I : Nat → Nat → Shared → Shared → Prop)
  (turn : ∀ (S : Nat → Shared → Shared → Prop) (F : List Frame), (∀ n s₀ s, Seg (model P w) A R Y n s₀ c₁ (k (.ok .next)) fs s → S n s₀ s) → F = .ret k h g l c₁ p₁ [] :: fs →
   ∀ m n s₀ s, I m n s₀ s → (∀ m' n' s₀' s', m' < m → I m' n' s₀' s' → Seg (model P w) A R Y n' s₀' (.forLoop target it body [] env) (.pure (.again (.forLoop target it body [] env))) F s') →
   wpAny (model P w) (A.over (.forLoop target it body [] env) F) (pyNext it) (fun r s₁ => match r with
   | none => S n s₀ s₁
   | some v => wpAny (model P w) (A.over (.forLoop target it body [] env) F) (letOwnedTupleGo target it v) (fun _ s₂ =>
     wpAny (model P w) (A.over (.forLoop target it body [] env) F) (assign target env v) (fun _ s₃ =>
      Seg (model P w) A R Y n s₀ (.forLoop target it body [] env) ((execs body env).wrap (zfB target it body env) (zgi env) id id) F s₃) No s₂) No s₁) No s)
  (m n : Nat) (s₀ s : Shared) (i : I m n s₀ s) :
  Seg (model P w) A R Y n s₀ (.forLoop target it body [] env) ((model P w).den (.forLoop target it body [] env)) (.ret k h g l c₁ p₁ [] :: fs) s := by
 refine zeu I (fun m n s₀ s i ih => ?_) m n s₀ s i;refine wpAny_mono (turn _ _ (fun _ _ _ z => z) rfl m n s₀ s i ih) (fun r s₁ z => ?_) fun _ _ z => z;cases r <;> exact z
theorem zhM {α β γ δ : Type} {p : α → β → γ → δ → Prop} {G : Prop} (h : ∀ I : α → β → γ → δ → Prop, (∀ a b c d, p a b c d → I a b c d) → (∀ a b c d, I a b c d → p a b c d) → G) : G := h p (fun _ _ _ _ x => x) fun _ _ _ _ x => x
theorem opq5 {ζ α β γ δ : Type} {p : ζ → α → β → γ → δ → Prop} {G : Prop} (h : ∀ I : ζ → α → β → γ → δ → Prop, (∀ z a b c d, p z a b c d → I z a b c d) → (∀ z a b c d, I z a b c d → p z a b c d) → G) : G := h p (fun _ _ _ _ _ x => x) fun _ _ _ _ _ x => x
end
section
theorem zd2 {A₁ : Around} {di : Addr} {i n0 : Nat} {mm : Str → Option Value} {vv : Value} {kk : Str} {dx : Option Addr} {S B : Shared → Prop}
  (hh : A₁.handled = none) (hk : env.kindOf "key" = some .local) (hv : env.kindOf "values" = some .local) (hl : env.locals = L) (hp : (env.scope.kind == .class || (env.scope.kind == .module && env.locals != env.globals)) = false)
  (G : GS z h₀ L mm s₀ ⟨h, gn, d, t, os⟩) (hit : IsItemIter h di x i kvs.length ep ok ov) (D : DD w h x Cv dx kvs es ep) (dB : z.B ≤ di) (dC : di ∉ z.C) (e : kvs[i]? = some (kk, vv))
  (k : ∀ h7 tk t7, GS z h₀ L (fun y => if y = "values" then some vv else if y = "key" then some (.str kk tk) else mm y) s₀ ⟨h7, gn, d, t7, os⟩ → IsItemIter h7 di x (i + 1) kvs.length ep (.str kk tk) vv → B ⟨h7, gn, d, t7, os⟩) :
  wpAny (model P w) A₁ (pyNext (.ref di)) (fun r s₁ => match r with
   | none => S s₁
   | some v => wpAny (model P w) A₁ (letOwnedTupleGo (.Tuple [.Name "key" p1, .Name "values" p2] n0 p3) (.ref di) v) (fun _ s₂ =>
     wpAny (model P w) A₁ (assign (.Tuple [.Name "key" p1, .Name "values" p2] n0 p3) env v) (fun _ s₃ => B s₃) No s₂) No s₁) No ⟨h, gn, d, t, os⟩ := by
 subst hl;refine zbD (k := kk) (v := vv) hit D e (fun tk h' hout htup kb => ?_);have gkeep : h'.get? h.objs.size = some { cls := .type "tuple", data := .seq #[.str kk tk, vv] } := htup;replace G := G.own (t' := t) (h' := h') (fun b o q e => kb b o q e) hit (fun _ _ q => nomatch q) (.tail _ (.tail _ (.head _))) dB dC;ext d;refine wpAny_letOwnedTupleGo_items hout (fun h3 hit3 sb3 => ?_);have tne : h.objs.size ≠ di := ne_of_gt (lt_size hit);have tup3 : IsTup h3 h.objs.size #[.str kk tk, vv] := ⟨_, (sb3.2 _ tne).trans gkeep, rfl, 0, rfl⟩;replace G := G.own (t' := t) (h' := h3) sb3.extBut hout (fun _ _ q => nomatch q) (.tail _ (.tail _ (.head _))) dB dC;ext d;refine assign_Tuple_tuple hh tup3 rfl rfl (fun h5 he5 => ?_);dsimp only at he5 ⊢;have ext5 := Ext.of_extBut he5;replace G := G.ext (t' := t) ext5;have hit5 : IsItemIter h5 di x (i + 1) kvs.length ep (.str kk tk) vv := ext5.get hit3 rfl (by simp);clear hit hout htup kb gkeep tne tup3 sb3 hit3 he5 ext5 D h' h3 h;ext assignInOrder_more assign_Name;refine wpAny_storeName_local hk G.ns (fun h6 hn6 hs6 => ?_) hp;have hit6 : IsItemIter h6 di x (i + 1) kvs.length ep (.str kk tk) vv := (hs6.2 di (Ne.symm (G.ne hit5 fun _ _ q => nomatch q))).trans hit5;replace G := G.store (t' := t + 1) hn6 hs6;ext d;clear hn6 hs6 hit5 h5;ext assignInOrder_more assign_Name;refine wpAny_storeName_local hv G.ns (fun h7 hn7 hs7 => ?_) hp;have hit7 : IsItemIter h7 di x (i + 1) kvs.length ep (.str kk tk) vv := (hs7.2 di (Ne.symm (G.ne hit6 fun _ _ q => nomatch q))).trans hit6;replace G := G.store (t' := t + 1 + 1) hn7 hs7;ext d assignInOrder_none;exact k _ _ _ G hit7
end
section
def zal (g : Grp) : List PyData := g.flatMap fun p => p.2.map fun n => zan (p.1, n)
theorem zgl {g : Grp} {i : Nat} (hi : i < g.length) {ns : List Int} (e : g[i] = (k, ns)) (hj : j < ns.length) (hn : n' + 1 = ns.length - j + (zal (g.drop (i + 1))).length) :
  (zal g)[(zal g).length - 1 - n']? = some (zan (k, ns[j])) := by
 have eg : g = g.take i ++ (k, ns) :: g.drop (i + 1) := by rw [← e, ← drop_eq_getElem_cons hi, take_append_drop]
 have es : zal g = zal (g.take i) ++ ((ns.map fun n => zan (k, n)) ++ zal (g.drop (i + 1))) := by
  conv => lhs; rw [eg]
  unfold zal;rw [flatMap_append, flatMap_cons]
 have hl : (zal g).length = (zal (g.take i)).length + (ns.length + (zal (g.drop (i + 1))).length) := by rw [es, length_append, length_append, length_map]
 have hidx : (zal g).length - 1 - n' = (zal (g.take i)).length + j := by omega
 rw [hidx, es, getElem?_append_right (by omega), Nat.add_sub_cancel_left, getElem?_append_left (by rw [length_map]; exact hj), getElem?_map, getElem?_eq_getElem hj];rfl
theorem zfG : Value.type "dict_itemiterator" ∈ zho := by decide
theorem zeH : Value.type "list_iterator" ∈ zho := by decide
theorem zeS {g : Grp} {i : Nat} {ns : List Int} (eg : g[i]? = some (k, ns)) {d : Int} (ed : ns[j]? = some d) (hn : n' + 1 = ns.length - j + (zal (g.drop (i + 1))).length) : (zal g)[(zal g).length - 1 - n']? = some (zan (k, d)) := by
 obtain ⟨hi, e⟩ := List.getElem?_eq_some_iff.mp eg;obtain ⟨hj, rfl⟩ := List.getElem?_eq_some_iff.mp ed;exact zgl hi e hj hn
theorem zeO {w : World} {A : Around} {s : Shared} {h₀ : Heap} {b0 b x dx ep : Addr} {g : Grp} {kvs : List (Str × Value)} {es : Array DictEntry} : ∀ (hA : Rm 480 A) (T : TopH w s.heap) (T₀ : TopH w h₀) (X : MDI w b h₀ x g dx kvs es ep) (hlow : 604 ≤ b) (hb0 : 604 ≤ b0) (hz : h₀.objs.size ≤ b0) (hb : b0 ≤ s.heap.objs.size) (hg : g.length ≤ 100) (hv : ∀ p ∈ g, p.2.length ≤ 100) (hR : ∀ h' tk gs, zaz s.heap h' → gs.bare = true →
   (∀ A' C, Rm 480 A' → A'.handled = none → (∀ c ∈ C, 604 ≤ c ∧ (c < b ∨ h₀.get? c = none) ∧ c ≠ s.heap.objs.size ∧ c ≠ s.heap.objs.size + 1) → Ext C h₀ h' →
    Feed w A' ⟨b0, s.heap.objs.size, C, s.gens.size⟩ (.ok (.ret .none)) (s.heap.objs.size + 1) (zal g) 0 ⟨h', s.gens.push gs, s.drawn, tk, s.os⟩) →
   R (.ok (.ret (.ref (s.heap.objs.size + 1)))) ⟨h', s.gens.push gs, s.drawn, tk, s.os⟩), codeAny (model P w) A (.call (.ref 338) ⟨[.ref x, .bool true], []⟩) R s := by
 unhygienic
 revert hen w A s R h₀ b0 b x dx ep g kvs es;refine zbB [(Str.ofString "self", .ref x), (Str.ofString "multi", .bool true)] hA T (by rfl) (by rfl) (by rfl) (by rfl) (binds_K T.K rfl (by rfl) rfl rfl rfl) (by decide) (locs rfl) fun h' tk k n gen => ?_;revert hen h' tk;refine hR _ _ _ k rfl fun A' C hA' hh' hC hE => ?_;obtain ⟨L, eL⟩ : ∃ L, L = s.heap.objs.size := ⟨_, rfl⟩;have hCL : L ∉ C := fun q => (hC L q).2.2.1 eL;have hCa : s.heap.objs.size + 1 ∉ C := fun q => (hC _ q).2.2.2 rfl
 haveI ok : Zone.Ok ⟨b0, s.heap.objs.size, C, s.gens.size⟩ := ⟨hb0, hb, fun c q => (hC c q).1⟩
 revert hen A' C L;refine ⟨ok, zero_le _, gen, ⟨le_succ _, hCa⟩, (T.ext (.of_keeps k) (by simp)).lim, _, getElem?_push_size, rfl, fun s₁ cm cs => ⟨rfl, ?_⟩⟩;rw [← eL] at n ok cm cs hb ⊢;have ns₁ : s₁.heap.Ns L _ := cm.heap.ns n fun o e hd q => q.2 ⟨le_refl _, hCL, .inl (.inl hd)⟩
 haveI G : GS ⟨b0, L, C, s.gens.size⟩ h₀ L _ s₁ s₁ := ⟨ok, hz, .refl _ _, Base.calm (s := (setGen ⟨h', s.gens.push _, s.drawn, tk, s.os⟩ s.gens.size .running)) ok hz hE cm, ns₁, ⟨le_refl _, hCL⟩, cs⟩
 clear ns₁ cm cs hE k gen n hR hA
 try clear A
 rw [sub_zero];generalize hz' : (⟨b0, L, C, s.gens.size⟩ : Zone) = z at G ok ⊢;have zC : z.C = C := by rw [← hz']
 have zB : z.B = L := by rw [← hz']
 have c604 : ∀ c ∈ z.C, 604 ≤ c := fun c q => (hC c (zC ▸ q)).1
 haveI cX : ∀ c ∈ z.C, c < b ∨ h₀.get? c = none := fun c q => (hC c (zC ▸ q)).2.1
 have xlow : 604 ≤ x := le_trans hlow X.lx;have hkv : kvs.length = g.length := X.gl.len;clear hz' hC hCa hCL eL T
 try clear s
 try clear R
 revert hen s₁ z;refine (fun (key : ∀ s₀, GS z h₀ L _ s₀ s₁ → Seg (model P w) _ _ _ _ s₀ _ _ _ s₁) => key _ G) ?_;clear G;intro s₀ G;obtain ⟨h, gn, d, t, os⟩ := s₁;revert hen s₀ h gn d t os;ext o.seg_func o.seg_execs_cons;refine zbM (wpAny_AnnAssign_bare ?_);ext d o.seg_execs_cons o.seg_ForAt;have T1 : TopH w h := T₀.ext G.base c604;have X1 := X.ext G.base cX;refine zav (x := x) (C := 437) (D := 437) (id := "dict.items") (BT := "builtin_function_or_method") T1 G.ns X1.inst.i (by rfl) rfl (by rfl) (by rfl) (by rfl) rfl (by rfl) (by rfl) (by rfl) (by rfl) rfl (by kernel_rfl) (by rfl) (by kernel_rfl) (by kernel_rfl)
  (.inr ⟨zc3, rfl⟩) rfl rfl rfl rfl rfl rfl rfl rfl rfl (by decide) (fun q h2 nq hq kp => ?_)
 letI G := G.keeps (t' := t) kp
 have X2 := X.ext G.base cX;have T2 : TopH w h2 := T₀.ext G.base c604;dsimp only at hq ⊢;clear nq kp X1 T1;revert hen q h2;refine zbN (x := x) (T := "builtin_function_or_method") (id := "dict.items") (.inr rfl) hq ?_;ext call;refine zap (.inr rfl) hq (zcp T2.K X2.inst.i) (fun _ => Code.quiet_builtin _ (by decide +kernel)) zca ?_;refine zce T2.K X2.dd (by kernel_rfl) (zaP xlow) ?_;ext d;refine za4 (get?_push_size _ rfl) (X2.dd.keeps fun b o e => get?_push_of_some _ e) (by rw [hkv]; omega) ?_;intro p;have fB := (G.keeps (t' := t) (fun b o e => get?_push_of_some (zbU x) e)).fresh
 haveI hit : IsItemIter ((h2.push (zbU x)).push { cls := .type "dict_itemiterator", data := .fields #[.none, .bool false, .ref x, .int 0 0, .int kvs.length 0, .int ep 0, .none, .none] }) (h2.push (zbU x)).objs.size x 0 kvs.length ep .none .none := get?_push_size _ rfl
 letI G := G.keeps (t' := t) (h' := (h2.push (zbU x)).push { cls := .type "dict_itemiterator", data := .fields #[.none, .bool false, .ref x, .int 0 0, .int kvs.length 0, .int ep 0, .none, .none] }) fun b o e => get?_push_of_some _ (get?_push_of_some _ e)
 clear X2 T2 hq;dsimp only at fB;generalize (h2.push (zbU x)).objs.size = di at fB hit ⊢;generalize (h2.push (zbU x)).push { cls := .type "dict_itemiterator", data := .fields #[.none, .bool false, .ref x, .int 0 0, .int kvs.length 0, .int ep 0, .none, .none] } = h at hit G ⊢;obtain ⟨dB, dC⟩ := fB;revert hen p di h;refine zhM (p := fun (m n : Nat) (s₀ s : Shared) => ∃ i mm ok ov, m + i = g.length ∧ n = (zal (g.drop i)).length ∧ GS z h₀ L mm s₀ s ∧ mm "multi" = some (.bool true) ∧ IsItemIter s.heap di x i kvs.length ep ok ov) fun Iv1 hin1 hout1 => ?_;revert hen Iv1;refine za3 Iv1 ?_ g.length _ _ _ (hin1 _ _ _ _ ?_)
 rotate_left
 ·exact ⟨0, _, _, _, rfl, rfl, G.toks, by rfl, hit⟩
 clear G hit;intro Sx1 Fr1 hSx1 eF m n s₀ s1 hI IH;have hhF : ∀ c, (A'.in1.over c Fr1).handled = none := fun c => by rw [eF]; exact hh'
 have hhF2 : ∀ c k g l c1 p1 kept, (A'.in1.over c (.ret k none g l c1 p1 kept :: Fr1)).handled = none := fun c k g l c1 p1 kept => by rw [eF]; exact hh'
 have gF : splitAtGen Fr1 = none := by rw [eF]; rfl
 have gF' : Fr1.any Frame.guarded = false := by rw [eF]; rfl
 clear eF;obtain ⟨h, gn, d, t, os⟩ := s1;obtain ⟨i, mm, ov, kv, hm, hn, G, mM, hit⟩ := hout1 _ _ _ _ hI;clear hI;have X1 := X.ext G.base cX;dsimp only at hit;cases m with
 | zero =>
  have hi : i = g.length := by omega
  refine zaC (hhF _) hit X1.dd (by omega) (fun h' he => ?_);ext d;replace G := G.own (t' := t) he hit (fun _ _ q => nomatch q) zfG dB dC;have : n = 0 := by rw [hn, hi, drop_length]; rfl
  refine hSx1 _ _ _ ?_;exact seg_end (.ok (.ret .none)) ⟨rfl, this, G.turn⟩
 | succ m =>
  obtain ⟨kk, vv, ek⟩ : ∃ k v, kvs[i]? = some (k, v) := have hik : i < kvs.length := (by omega); ⟨kvs[i].1, kvs[i].2, getElem?_eq_getElem hik⟩;obtain ⟨ns, la, eg, ev, hla, va, na, ela, ia⟩ := X1.gl.at_ i kk vv ek;revert hen Sx1 Fr1 n s₀ h gn d t os i mm ov kv m kk vv ns la va na;refine zd2 (hhF _) rfl rfl rfl rfl G hit X1.dd dB dC ek (fun h7 tk t Gk hit7 => ?_);clear G X1 hit ela ia;ext o.seg_execs_cons;refine zdt (za5 fun Q5 E5 hq5 => ?_);revert hen h7 tk t Q5 E5;ext o.isTrue_plain;refine zaa Gk.ns ((if_neg (by decide)).trans ((if_neg (by decide)).trans mM)) ?_;ext truthy_bool
  (refine hq5 _ _ ?_; clear hq5)
  rw [if_pos rfl];ext o.seg_execs_cons;refine zcs (za5 fun Q6 E6 hq6 => ?_);refine zaa Gk.ns ((if_pos (by decide))) ?_;have X7 := X.ext Gk.base cX;obtain ⟨ns', la', eg', ev', hla', va, na, ela, ia⟩ := X7.gl.at_ i kk vv ek;rw [ev] at ev'; cases ev';have nse : ns = ns' := by rw [eg] at eg'; exact congrArg Prod.snd (Option.some.inj eg')
  subst nse;rw [ev]
  (refine hq6 _ _ ?_; clear hq6)
  refine wpAny_pyIter_list ⟨_, ela, rfl, na, rfl⟩ ?_;intro p';ext d;obtain ⟨lB, lC⟩ := Gk.fresh;have tid : di ≠ h7.objs.size := ne_of_lt (lt_size hit7);have hit8 : IsItemIter (h7.push { cls := .type "list_iterator", data := .fields #[.ref la, .int 0 0] }) di x (i + 1) kvs.length ep (.str kk tk) vv := get?_push_of_some _ hit7
  haveI lit : (h7.push { cls := .type "list_iterator", data := .fields #[.ref la, .int 0 0] }).IsListIter h7.objs.size la 0 := ⟨_, get?_push_size _ rfl, rfl, rfl⟩
  letI Gk := Gk.keeps (t' := t) (h' := h7.push { cls := .type "list_iterator", data := .fields #[.ref la, .int 0 0] }) fun b o e => get?_push_of_some _ e
  clear X7 ela ia hit7;dsimp only at lB lC;generalize h7.objs.size = li at lB lC tid lit ⊢;generalize h7.push { cls := .type "list_iterator", data := .fields #[.ref la, .int 0 0] } = h8 at hit8 lit Gk ⊢;refine zhM (p := fun (m' n : Nat) (s₀ s : Shared) => ∃ j mm, m' + j = ns.length ∧ n = (ns.length - j) + (zal (g.drop (i + 1))).length ∧ GS z h₀ L mm s₀ s ∧ mm "multi" = some (.bool true) ∧ mm "key" = some (.str kk tk) ∧
   IsItemIter s.heap di x (i + 1) kvs.length ep (.str kk tk) vv ∧ s.heap.IsListIter li la j) fun Iv2 hin2 hout2 => ?_
  refine za3 Iv2 ?_ ns.length _ _ _ (hin2 _ _ _ _ ?_)
  rotate_left
  ·refine ⟨0, _, rfl, ?_, Gk.toks, ?_, ?_, hit8, lit⟩
   ·skip
    obtain ⟨hi, egi⟩ := List.getElem?_eq_some_iff.mp eg; rw [hn, drop_eq_getElem_cons hi, egi];unfold zal;rw [flatMap_cons, length_append, length_map, sub_zero]
   ·rw [if_neg (by decide), if_neg (by decide)]; exact mM
   ·rw [if_neg (by decide), if_pos (by decide)]
  clear Gk hit8 lit hn mM h8;intro Sx2 Fr2 hSx2 eF m' n s₀ s1 hI IH2;have hhG : ∀ {c}, (A'.in1.over c Fr2).handled = none := fun {c} => by rw [eF]; exact hhF2 ..
  have gF2 : splitAtGen Fr2 = none := by rw [eF]; show (splitAtGen Fr1).map _ = none; rw [gF]; rfl
  have gF3 : Fr2.any Frame.guarded = false := by rw [eF]; exact gF'
  clear eF;obtain ⟨h, gn, d, t, os⟩ := s1;obtain ⟨j, mm, hm', hn, Gk, mM, mK, hit, lit⟩ := hout2 _ _ _ _ hI;clear hI;dsimp only at hit lit;have X1 := X.ext Gk.base cX;obtain ⟨ns', la', eg', ev', hla', va, na, ela, ia⟩ := X1.gl.at_ i kk vv ek;rw [ev] at ev'; cases ev';have nse : ns = ns' := by rw [eg] at eg'; exact congrArg Prod.snd (Option.some.inj eg')
  subst nse;have hva : va.size = ns.length := by have := ia_len ia; rwa [length_toList] at this
  obtain ⟨ol, eol, col, dol⟩ := id lit;cases m' with
  | zero =>
   have hj : j = ns.length := by omega
   refine wpAny_pyNext_list_end hhG lit ⟨_, ela, rfl, na, rfl⟩ (by rw [Array.getElem?_eq_none_iff]; omega) (fun h4 he => ?_);refine hSx2 _ _ _ ?_;have hit4 : IsItemIter h4 di x (i + 1) kvs.length ep (.str kk tk) vv := he _ _ tid hit;replace Gk := Gk.own (t' := t) he eol (fun _ _ q => by rw [dol] at q; exact nomatch q) (by rw [col]; exact zeH) lB lC;exact IH m n s₀ _ (lt_succ_self m) (hin1 _ _ _ _ (xi4 (i + 1) mm _ _ ⟨by omega, by rw [hn, hj]; omega, Gk, mM, hit4⟩))
  | succ m' =>
   obtain ⟨n0, en0⟩ : ∃ n0, ns[j]? = some n0 := have hj : j < ns.length := (by omega); ⟨_, getElem?_eq_getElem hj⟩;obtain ⟨tv, etv⟩ := zcF ia (i := j) (n := n0) en0;rw [getElem?_toList] at etv;refine za5 fun Q7 E7 hq7 => ?_;refine wpAny_pyNext_list_item lit ⟨_, ela, rfl, na, rfl⟩ etv (fun h4 lit4 sb4 => ?_)
   (refine hq7 _ _ ?_; clear hq7)
   ext d;have hit4 : IsItemIter h4 di x (i + 1) kvs.length ep (.str kk tk) vv := sb4.extBut _ _ tid hit
   letI Gk := Gk.own (t' := t) (h' := h4) sb4.extBut eol (fun _ _ q => by rw [dol] at q; exact nomatch q) (by rw [col]; exact zeH) lB lC
   clear X1 ela ia hit lit eol col dol sb4;ext pure assign_Name;refine wpAny_storeName_local rfl Gk.ns (fun h5 hn5 hs5 => ?_) rfl;obtain ⟨ol, eol, col, dol⟩ := id lit4;have hit5 : IsItemIter h5 di x (i + 1) kvs.length ep (.str kk tk) vv := (hs5.2 di (Ne.symm (Gk.ne hit4 fun _ _ q => nomatch q))).trans hit4;have lit5 := lit4.at fun o e => (hs5.2 li (Ne.symm (Gk.ne eol fun _ _ q => by rw [dol] at q; exact nomatch q))).trans e
   letI Gk := Gk.store (t' := t) hn5 hs5
   ext d;clear hn5 hs5 hit4 lit4 eol col dol h4;ext o.seg_execs_cons;obtain ⟨n', rfl⟩ : ∃ n', n = n' + 1 := ⟨n - 1, by omega⟩;refine seg_Expr_Yield gF2 rfl gF3 (za5 fun Q8 E8 hq8 => ?_);ext o.Tuple_ items_cons;refine zaa Gk.ns ((if_neg (by decide)).trans mK) ?_;ext items_cons;refine zaa Gk.ns ((if_pos (by decide))) ?_;ext items_nil;refine wpAny_newObj_type ?_ (by show (2 : Nat) ≤ sizeLine; decide)
   (refine hq8 _ _ ?_; clear hq8)
   intro kap hk;ext d;have frs := Gk.frs;have k5 : zaz h5 (h5.push { cls := .type "tuple", data := .seq #[.str kk tk, .int n0 tv] }) := fun b o e => get?_push_of_some _ e;have G6 := Gk.keeps (t' := t + 1) k5;refine ⟨_, zeS eg en0 (by omega), .tup frs ⟨_, get?_push_size _ rfl, rfl, 0, rfl⟩ rfl ?_, G6.turn, fun s'' cm => hk .none s'' ?_⟩
   ·intro i' v' d' e1 e2
    match i', e1, e2 with
    | 0, e1, e2 => cases e1; cases e2; exact .str _ _
    | 1, e1, e2 => cases e1; cases e2; exact .int _ _
    | n + 2, e1, e2 => simp at e1
   ·ext d
    obtain ⟨ol, eol, col, dol⟩ := id lit5;refine IH2 m' n' s'' s'' (lt_succ_self m') (hin2 _ _ _ _ (xi2 (j + 1) _ ⟨by omega, by omega, G6.woken cm, ?_, ?_, cm.kept (k5 _ _ hit5) zfG dB dC, ol, cm.kept (k5 _ _ eol) (by rw [col]; exact zeH) lB lC, col, dol⟩))
    ·exact (if_neg (by decide)).trans mM
    ·exact (if_neg (by decide)).trans mK
end
section
def zbH (g : Grp) : List PyData := g.map fun p => zan (p.1, p.2.headD 0)
theorem zdb {α β : Type} (l : List α) (f : α → β) {i : Nat} {p : α} (e : l[i]? = some p) (hn : n' + 1 = l.length - i) : (l.map f)[(l.map f).length - 1 - n']? = some (f p) := by
 have : (l.map f).length - 1 - n' = i := by rw [length_map]; omega
 rw [this, getElem?_map, e]; rfl
theorem zdQ {w : World} {A : Around} {s : Shared} {h₀ : Heap} {b0 b x dx ep : Addr} {g : Grp} {kvs : List (Str × Value)} {es : Array DictEntry} : ∀ (hA : Rm 480 A) (T : TopH w s.heap) (T₀ : TopH w h₀) (X : MDI w b h₀ x g dx kvs es ep) (hlow : 604 ≤ b) (hb0 : 604 ≤ b0) (hz : h₀.objs.size ≤ b0) (hb : b0 ≤ s.heap.objs.size) (hg : g.length ≤ 100) (hv : ∀ p ∈ g, p.2.length ≤ 100) (hne : ∀ p ∈ g, p.2 ≠ []) (hR : ∀ h' tk gs, zaz s.heap h' → gs.bare = true →
   (∀ A' C, Rm 480 A' → A'.handled = none → (∀ c ∈ C, 604 ≤ c ∧ (c < b ∨ h₀.get? c = none) ∧ c ≠ s.heap.objs.size ∧ c ≠ s.heap.objs.size + 1) → Ext C h₀ h' →
    Feed w A' ⟨b0, s.heap.objs.size, C, s.gens.size⟩ (.ok (.ret .none)) (s.heap.objs.size + 1) (zbH g) 0 ⟨h', s.gens.push gs, s.drawn, tk, s.os⟩) →
   R (.ok (.ret (.ref (s.heap.objs.size + 1)))) ⟨h', s.gens.push gs, s.drawn, tk, s.os⟩), codeAny (model P w) A (.call (.ref 338) ⟨[.ref x, .bool false], []⟩) R s := by
 unhygienic
 revert hen w A s R h₀ b0 b x dx ep g kvs es;refine zbB [(Str.ofString "self", .ref x), (Str.ofString "multi", .bool false)] hA T (by rfl) (by rfl) (by rfl) (by rfl) (binds_K T.K rfl (by rfl) rfl rfl rfl) (by decide) (locs rfl) fun h' tk k n gen => ?_;revert hen h' tk;refine hR _ _ _ k rfl fun A' C hA' hh' hC hE => ?_;obtain ⟨L, eL⟩ : ∃ L, L = s.heap.objs.size := ⟨_, rfl⟩;have hCL : L ∉ C := fun q => (hC L q).2.2.1 eL;have hCa : s.heap.objs.size + 1 ∉ C := fun q => (hC _ q).2.2.2 rfl;have ok : Zone.Ok ⟨b0, s.heap.objs.size, C, s.gens.size⟩ := ⟨hb0, hb, fun c q => (hC c q).1⟩;revert hen A' C L;refine ⟨ok, zero_le _, gen, ⟨le_succ _, hCa⟩, (T.ext (.of_keeps k) (by simp)).lim, _, getElem?_push_size, rfl, fun s₁ cm cs => ⟨rfl, ?_⟩⟩;rw [← eL] at n ok cm cs hb ⊢;have ns₁ : s₁.heap.Ns L _ := cm.heap.ns n fun o e hd q => q.2 ⟨le_refl _, hCL, .inl (.inl hd)⟩;have G : GS ⟨b0, L, C, s.gens.size⟩ h₀ L _ s₁ s₁ := ⟨ok, hz, .refl _ _, Base.calm (s := (setGen ⟨h', s.gens.push _, s.drawn, tk, s.os⟩ s.gens.size .running)) ok hz hE cm, ns₁, ⟨le_refl _, hCL⟩, cs⟩;clear ns₁ cm cs hE k gen n hR hA
 try clear A
 rw [sub_zero];generalize hz' : (⟨b0, L, C, s.gens.size⟩ : Zone) = z at G ok ⊢;have zC : z.C = C := by rw [← hz']
 have zB : z.B = L := by rw [← hz']
 have c604 : ∀ c ∈ z.C, 604 ≤ c := fun c q => (hC c (zC ▸ q)).1;have cX : ∀ c ∈ z.C, c < b ∨ h₀.get? c = none := fun c q => (hC c (zC ▸ q)).2.1;have xlow : 604 ≤ x := le_trans hlow X.lx;have hkv : kvs.length = g.length := X.gl.len;clear hz' hC hCa hCL eL T
 try clear s
 try clear R
 refine (fun (key : ∀ s₀, GS z h₀ L _ s₀ s₁ → Seg (model P w) _ _ _ _ s₀ _ _ _ s₁) => key _ G) ?_;clear G;intro s₀ G;obtain ⟨h, gn, d, t, os⟩ := s₁;revert hen z s₀ h gn d t os;ext o.seg_func o.seg_execs_cons;refine zbM (wpAny_AnnAssign_bare ?_);ext d o.seg_execs_cons o.seg_ForAt;have T1 : TopH w h := T₀.ext G.base c604;have X1 := X.ext G.base cX;refine zav (x := x) (C := 437) (D := 437) (id := "dict.items") (BT := "builtin_function_or_method") T1 G.ns X1.inst.i (by rfl) rfl (by rfl) (by rfl) (by rfl) rfl (by rfl) (by rfl) (by rfl) (by rfl) rfl (by kernel_rfl) (by rfl) (by kernel_rfl) (by kernel_rfl)
  (.inr ⟨zc3, rfl⟩) rfl rfl rfl rfl rfl rfl rfl rfl rfl (by decide) (fun q h2 nq hq kp => ?_)
 replace G := G.keeps (t' := t) kp;have X2 := X.ext G.base cX;have T2 : TopH w h2 := T₀.ext G.base c604;dsimp only at hq ⊢;clear nq kp X1 T1;revert hen q h2;refine zbN (x := x) (T := "builtin_function_or_method") (id := "dict.items") (.inr rfl) hq ?_;ext call;refine zap (.inr rfl) hq (zcp T2.K X2.inst.i) (fun _ => Code.quiet_builtin _ (by decide +kernel)) zca ?_;refine zce T2.K X2.dd (by kernel_rfl) (zaP xlow) ?_;ext d;refine za4 (get?_push_size _ rfl) (X2.dd.keeps fun b o e => get?_push_of_some _ e) (by rw [hkv]; omega) ?_;intro p;have fB := (G.keeps (t' := t) (fun b o e => get?_push_of_some (zbU x) e)).fresh;have hit : IsItemIter ((h2.push (zbU x)).push { cls := .type "dict_itemiterator", data := .fields #[.none, .bool false, .ref x, .int 0 0, .int kvs.length 0, .int ep 0, .none, .none] }) (h2.push (zbU x)).objs.size x 0 kvs.length ep .none .none := get?_push_size _ rfl;replace G := G.keeps (t' := t) (h' := (h2.push (zbU x)).push { cls := .type "dict_itemiterator", data := .fields #[.none, .bool false, .ref x, .int 0 0, .int kvs.length 0, .int ep 0, .none, .none] }) fun b o e => get?_push_of_some _ (get?_push_of_some _ e);clear X2 T2 hq;dsimp only at fB;generalize (h2.push (zbU x)).objs.size = di at fB hit ⊢;generalize (h2.push (zbU x)).push { cls := .type "dict_itemiterator", data := .fields #[.none, .bool false, .ref x, .int 0 0, .int kvs.length 0, .int ep 0, .none, .none] } = h at hit G ⊢;obtain ⟨dB, dC⟩ := fB;revert hen p di h;refine zhM (p := fun (m n : Nat) (s₀ s : Shared) => ∃ i mm ok ov, m + i = g.length ∧ n = g.length - i ∧ GS z h₀ L mm s₀ s ∧ mm "multi" = some (.bool false) ∧ IsItemIter s.heap di x i kvs.length ep ok ov) fun Iv1 hin1 hout1 => ?_;revert hen Iv1;refine za3 Iv1 ?_ g.length _ _ _ (hin1 _ _ _ _ ?_)
 rotate_left
 ·exact ⟨0, _, _, _, rfl, by rw [sub_zero]; exact length_map .., G.toks, by rfl, hit⟩
 clear G hit;intro Sx1 Fr1 hSx1 eF m n s₀ s1 hI IH;have hhF : ∀ c, (A'.in1.over c Fr1).handled = none := fun c => by rw [eF]; exact hh'
 have hhF2 : ∀ c k g l c1 p1 kept, (A'.in1.over c (.ret k none g l c1 p1 kept :: Fr1)).handled = none := fun c k g l c1 p1 kept => by rw [eF]; exact hh'
 have gF : splitAtGen Fr1 = none := by rw [eF]; rfl
 have gF' : Fr1.any Frame.guarded = false := by rw [eF]; rfl
 clear eF;obtain ⟨h, gn, d, t, os⟩ := s1;obtain ⟨i, mm, ov, kv, hm, hn, G, mM, hit⟩ := hout1 _ _ _ _ hI;clear hI;have X1 := X.ext G.base cX;dsimp only at hit;cases m with
 | zero =>
  have hi : i = g.length := by omega
  refine zaC (hhF _) hit X1.dd (by omega) (fun h' he => ?_);ext d;replace G := G.own (t' := t) he hit (fun _ _ q => nomatch q) zfG dB dC;have : n = 0 := by omega
  refine hSx1 _ _ _ ?_;exact seg_end (.ok (.ret .none)) ⟨rfl, this, G.turn⟩
 | succ m =>
  obtain ⟨kk, vv, ek⟩ : ∃ k v, kvs[i]? = some (k, v) := have hik : i < kvs.length := (by omega); ⟨kvs[i].1, kvs[i].2, getElem?_eq_getElem hik⟩;obtain ⟨ns, la, eg, ev, hla, va, na, ela, ia⟩ := X1.gl.at_ i kk vv ek;refine zd2 (hhF _) rfl rfl rfl rfl G hit X1.dd dB dC ek (fun h7 tk t Gk hit7 => ?_);clear G X1 hit ela ia va na;ext o.seg_execs_cons;refine zdt (za5 fun Q5 E5 hq5 => ?_);ext o.isTrue_plain;refine zaa Gk.ns ((if_neg (by decide)).trans ((if_neg (by decide)).trans mM)) ?_;ext truthy_bool
  (refine hq5 _ _ ?_; clear hq5)
  rw [if_neg Bool.false_ne_true];ext o.seg_execs_cons;obtain ⟨n', rfl⟩ : ∃ n', n = n' + 1 := ⟨n - 1, by omega⟩;have X7 := X.ext Gk.base cX;obtain ⟨ns', la', eg', ev', hla', va, na, ela, ia⟩ := X7.gl.at_ i kk vv ek;rw [ev] at ev'; cases ev';have nse : ns = ns' := by rw [eg] at eg'; exact congrArg Prod.snd (Option.some.inj eg')
  subst nse;have hns : ns ≠ [] := hne _ (mem_of_getElem? eg);have hns0 : ns.length ≤ 100 := hv _ (mem_of_getElem? eg);obtain ⟨n0, r0, e0⟩ : ∃ n0 r0, ns = n0 :: r0 := by cases ns with | nil => exact absurd rfl hns | cons a l => exact ⟨a, l, rfl⟩
  have hva : va.size = ns.length := by have := ia_len ia; rwa [length_toList] at this
  obtain ⟨tv, etv⟩ := zcF ia (i := 0) (n := n0) (by rw [e0]; rfl);rw [getElem?_toList] at etv;refine seg_Expr_Yield gF rfl gF' (za5 fun Q8 E8 hq8 => ?_);ext o.Tuple_ items_cons;refine zaa Gk.ns ((if_neg (by decide)).trans (if_pos (by decide))) ?_;ext items_cons o.Subscript_;refine zaa Gk.ns ((if_pos (by decide))) ?_;ext Constant_int;rw [ev];refine item_list ⟨_, ela, rfl, na, rfl⟩ (by decide) (by decide) etv ?_;ext items_nil;refine wpAny_newObj_type ?_ (by show (2 : Nat) ≤ sizeLine; decide)
  (refine hq8 _ _ ?_; clear hq8)
  intro kap hk;ext d;have frs := Gk.frs;have k5 : zaz h7 (h7.push { cls := .type "tuple", data := .seq #[.str kk tk, .int n0 tv] }) := fun b o e => get?_push_of_some _ e;have G6 := Gk.keeps (t' := t + 1) k5;refine ⟨_, zdb g _ eg (by omega), .tup frs ⟨_, get?_push_size _ rfl, rfl, 0, rfl⟩ rfl ?_, G6.turn, fun s'' cm => hk .none s'' ?_⟩
  ·intro i' v' d' e1 e2
   rw [e0] at e2
   match i', e1, e2 with
   | 0, e1, e2 => cases e1; cases e2; exact .str _ _
   | 1, e1, e2 => cases e1; cases e2; exact .int _ _
   | n + 2, e1, e2 => simp at e1
  ·ext d
   refine IH m n' s'' s'' (lt_succ_self m) (hin1 _ _ _ _ (xi4 (i + 1) _ _ _ ⟨by omega, by omega, G6.woken cm, ?_, cm.kept (k5 _ _ hit7) zfG dB dC⟩));exact (if_neg (by decide)).trans ((if_neg (by decide)).trans mM)
end
section
def zbe (g : Grp) : List PyData := g.map fun p => .tuple [.str p.1, .list (p.2.map .int)]
theorem zgd {p : Addr → Prop} {l : List Value} {ns : List Int} (x : IntsAre l ns) {i : Nat} {d : PyData} (e1 : l[i]? = some v) (e2 : (ns.map PyData.int)[i]? = some d) : RdP p h v d := by
 rw [getElem?_map] at e2;obtain ⟨n, en, rfl⟩ := map_eq_some_iff.mp e2;obtain ⟨t, et⟩ := zcF x en;rw [e1] at et; cases et;exact .int n t
theorem zff {w : World} {A : Around} {s : Shared} {h₀ : Heap} {b0 b x dx ep : Addr} {g : Grp} {kvs : List (Str × Value)} {es : Array DictEntry} : ∀ (hA : Rm 480 A) (T : TopH w s.heap) (T₀ : TopH w h₀) (X : MDI w b h₀ x g dx kvs es ep) (hlow : 604 ≤ b) (hb0 : 604 ≤ b0) (hz : h₀.objs.size ≤ b0) (hb : b0 ≤ s.heap.objs.size) (hg : g.length ≤ 100) (hv : ∀ p ∈ g, p.2.length ≤ 100) (hR : ∀ h' tk gs, zaz s.heap h' → gs.bare = true →
   (∀ A' C, Rm 480 A' → A'.handled = none → (∀ c ∈ C, 604 ≤ c ∧ (c < b ∨ h₀.get? c = none) ∧ c ≠ s.heap.objs.size ∧ c ≠ s.heap.objs.size + 1) → Ext C h₀ h' →
    Feed w A' ⟨b0, s.heap.objs.size, C, s.gens.size⟩ (.ok (.ret .none)) (s.heap.objs.size + 1) (zbe g) 0 ⟨h', s.gens.push gs, s.drawn, tk, s.os⟩) →
   R (.ok (.ret (.ref (s.heap.objs.size + 1)))) ⟨h', s.gens.push gs, s.drawn, tk, s.os⟩), codeAny (model P w) A (.call (.ref 346) ⟨[.ref x], []⟩) R s := by
 unhygienic
 revert hen w A s R h₀ b0 b x dx ep g kvs es;refine zbB [(Str.ofString "self", .ref x)] hA T (by rfl) (by rfl) (by rfl) (by rfl) (BindsTo.of_eq rfl) (by decide) (locs rfl) fun h' tk k n gen => ?_;refine hR _ _ _ k rfl fun A' C hA' hh' hC hE => ?_;obtain ⟨L, eL⟩ : ∃ L, L = s.heap.objs.size := ⟨_, rfl⟩;have hCL : L ∉ C := fun q => (hC L q).2.2.1 eL;have hCa : s.heap.objs.size + 1 ∉ C := fun q => (hC _ q).2.2.2 rfl;have ok : Zone.Ok ⟨b0, s.heap.objs.size, C, s.gens.size⟩ := ⟨hb0, hb, fun c q => (hC c q).1⟩;revert hen h' tk A' C L;refine ⟨ok, zero_le _, gen, ⟨le_succ _, hCa⟩, (T.ext (.of_keeps k) (by simp)).lim, _, getElem?_push_size, rfl, fun s₁ cm cs => ⟨rfl, ?_⟩⟩;rw [← eL] at n ok cm cs hb ⊢;have ns₁ : s₁.heap.Ns L _ := cm.heap.ns n fun o e hd q => q.2 ⟨le_refl _, hCL, .inl (.inl hd)⟩;have G : GS ⟨b0, L, C, s.gens.size⟩ h₀ L _ s₁ s₁ := ⟨ok, hz, .refl _ _, Base.calm (s := (setGen ⟨h', s.gens.push _, s.drawn, tk, s.os⟩ s.gens.size .running)) ok hz hE cm, ns₁, ⟨le_refl _, hCL⟩, cs⟩;clear ns₁ cm cs hE k gen n tk h' hR hA
 try clear A
 rw [sub_zero];generalize hz' : (⟨b0, L, C, s.gens.size⟩ : Zone) = z at G ok ⊢;have zC : z.C = C := by rw [← hz']
 have zB : z.B = L := by rw [← hz']
 have c604 : ∀ c ∈ z.C, 604 ≤ c := fun c q => (hC c (zC ▸ q)).1;have cX : ∀ c ∈ z.C, c < b ∨ h₀.get? c = none := fun c q => (hC c (zC ▸ q)).2.1;have xlow : 604 ≤ x := le_trans hlow X.lx;have hkv : kvs.length = g.length := X.gl.len;clear hz' hC hCa hCL eL T
 try clear s
 try clear R
 refine (fun (key : ∀ s₀, GS z h₀ L _ s₀ s₁ → Seg (model P w) _ _ _ _ s₀ _ _ _ s₁) => key _ G) ?_;clear G;intro s₀ G;obtain ⟨h, gn, d, t, os⟩ := s₁;ext o.seg_func o.seg_execs_cons;refine zbM (wpAny_AnnAssign_bare ?_);ext d o.seg_execs_cons o.seg_ForAt;have T1 : TopH w h := T₀.ext G.base c604;have X1 := X.ext G.base cX;refine zav (x := x) (C := 437) (D := 437) (id := "dict.items") (BT := "builtin_function_or_method") T1 G.ns X1.inst.i (by rfl) rfl (by rfl) (by rfl) (by rfl) rfl (by rfl) (by rfl) (by rfl) (by rfl) rfl (by kernel_rfl) (by rfl) (by kernel_rfl) (by kernel_rfl)
  (.inr ⟨zc3, rfl⟩) rfl rfl rfl rfl rfl rfl rfl rfl rfl (by decide) (fun q h2 nq hq kp => ?_)
 replace G := G.keeps (t' := t) kp;have X2 := X.ext G.base cX;have T2 : TopH w h2 := T₀.ext G.base c604;dsimp only at hq ⊢;clear nq kp X1 T1 h;revert hen A' C L z s₀ gn d t os q h2;refine zbN (x := x) (T := "builtin_function_or_method") (id := "dict.items") (.inr rfl) hq ?_;ext call;refine zap (.inr rfl) hq (zcp T2.K X2.inst.i) (fun _ => Code.quiet_builtin _ (by decide +kernel)) zca ?_;refine zce T2.K X2.dd (by kernel_rfl) (zaP xlow) ?_;ext d;refine za4 (get?_push_size _ rfl) (X2.dd.keeps fun b o e => get?_push_of_some _ e) (by rw [hkv]; omega) ?_;intro p;have fB := (G.keeps (t' := t) (fun b o e => get?_push_of_some (zbU x) e)).fresh;have hit : IsItemIter ((h2.push (zbU x)).push { cls := .type "dict_itemiterator", data := .fields #[.none, .bool false, .ref x, .int 0 0, .int kvs.length 0, .int ep 0, .none, .none] }) (h2.push (zbU x)).objs.size x 0 kvs.length ep .none .none := get?_push_size _ rfl;replace G := G.keeps (t' := t) (h' := (h2.push (zbU x)).push { cls := .type "dict_itemiterator", data := .fields #[.none, .bool false, .ref x, .int 0 0, .int kvs.length 0, .int ep 0, .none, .none] }) fun b o e => get?_push_of_some _ (get?_push_of_some _ e);clear X2 T2 hq q;dsimp only at fB;generalize (h2.push (zbU x)).objs.size = di at fB hit ⊢;generalize (h2.push (zbU x)).push { cls := .type "dict_itemiterator", data := .fields #[.none, .bool false, .ref x, .int 0 0, .int kvs.length 0, .int ep 0, .none, .none] } = h at hit G ⊢;obtain ⟨dB, dC⟩ := fB;refine zhM (p := fun (m n : Nat) (s₀ s : Shared) => ∃ i mm ok ov, m + i = g.length ∧ n = g.length - i ∧ GS z h₀ L mm s₀ s ∧ IsItemIter s.heap di x i kvs.length ep ok ov) fun Iv1 hin1 hout1 => ?_;refine za3 Iv1 ?_ g.length _ _ _ (hin1 _ _ _ _ ?_)
 rotate_left
 ·exact ⟨0, _, _, _, rfl, by rw [sub_zero]; exact length_map .., G.toks, hit⟩
 clear G hit h2 s₀ gn d t os h;intro Sx1 Fr1 hSx1 eF m n s₀ s1 hI IH;have hhF : ∀ c, (A'.in1.over c Fr1).handled = none := fun c => by rw [eF]; exact hh'
 have hhF2 : ∀ c k g l c1 p1 kept, (A'.in1.over c (.ret k none g l c1 p1 kept :: Fr1)).handled = none := fun c k g l c1 p1 kept => by rw [eF]; exact hh'
 have gF : splitAtGen Fr1 = none := by rw [eF]; rfl
 have gF' : Fr1.any Frame.guarded = false := by rw [eF]; rfl
 clear eF;obtain ⟨h, gn, d, t, os⟩ := s1;obtain ⟨i, mm, ov, kv, hm, hn, G, hit⟩ := hout1 _ _ _ _ hI;clear hI;have X1 := X.ext G.base cX;dsimp only at hit;cases m with
 | zero =>
  have hi : i = g.length := by omega
  refine zaC (hhF _) hit X1.dd (by omega) (fun h' he => ?_);ext d;replace G := G.own (t' := t) he hit (fun _ _ q => nomatch q) zfG dB dC;have : n = 0 := by omega
  refine hSx1 _ _ _ ?_;exact seg_end (.ok (.ret .none)) ⟨rfl, this, G.turn⟩
 | succ m =>
  obtain ⟨kk, vv, ekv⟩ : ∃ kk vv, kvs[i]? = some (kk, vv) :=
   have hik : i < kvs.length := by omega
   ⟨_, _, getElem?_eq_getElem hik⟩
  obtain ⟨ns, la, eg, ev, hla, va, na, ela, ia⟩ := X1.gl.at_ i kk vv ekv;refine zd2 (kk := kk) (vv := vv) (hhF _) rfl rfl rfl rfl G hit X1.dd dB dC ekv (fun h7 tk t Gk hit7 => ?_);clear G X1 hit ela ia h va na;ext o.seg_execs_cons;obtain ⟨n', rfl⟩ : ∃ n', n = n' + 1 := ⟨n - 1, by omega⟩;have X7 := X.ext Gk.base cX;obtain ⟨ns', la', eg', ev', hla', va, na, ela, ia⟩ := X7.gl.at_ i kk vv ekv;rw [ev] at ev'; cases ev';have nse : ns = ns' := by rw [eg] at eg'; exact congrArg Prod.snd (Option.some.inj eg')
  subst nse;have hns0 : ns.length ≤ 100 := by exact hv _ (mem_of_getElem? eg)
  have hva : va.size = ns.length := by have := ia_len ia; rwa [length_toList] at this
  refine seg_Expr_Yield gF rfl gF' (za5 fun Q8 E8 hq8 => ?_);ext o.Tuple_ items_cons;refine zaa Gk.ns ((if_neg (by decide)).trans (if_pos (by decide))) ?_;ext items_cons Call_NameR;have T7 : TopH w h7 := T₀.ext Gk.base c604;refine zae (by assumption) rfl rfl rfl (by boot_by_name) (by decide) ?_;ext o.call_bi items_cons;refine zaa Gk.ns ((if_pos (by decide))) ?_;ext items_nil;rw [ev];refine call_list_seq la (.inl rfl) ela rfl rfl (fun h8 c' k8 e8 => ?_) (by rw [sizeLine_eq]; omega);dsimp only at k8 e8 ⊢;have frl := Gk.frs;have hit8 := k8 _ _ hit7;replace Gk := Gk.keeps (t' := t) k8;dsimp only at frl;generalize h7.objs.size = nl at e8 frl ⊢;clear T7 X7 ela k8 hit7 h7;ext items_nil;refine wpAny_newObj_type ?_ (by show (2 : Nat) ≤ sizeLine; decide)
  (refine hq8 _ _ ?_; clear hq8)
  intro kap hk;ext d;have frs := Gk.frs;have k5 : zaz h8 (h8.push { cls := .type "tuple", data := .seq #[.str kk tk, .ref nl] }) := fun b o e => get?_push_of_some _ e;have G6 := Gk.keeps (t' := t) k5;refine ⟨_, zdb g _ eg (by omega), .tup frs ⟨_, get?_push_size _ rfl, rfl, 0, rfl⟩ rfl ?_, G6.turn, fun s'' cm => hk .none s'' ?_⟩
  ·intro i' v' d' e1 e2
   match i', e1, e2 with
   | 0, e1, e2 => cases e1; cases e2; exact .str _ _
   | 1, e1, e2 => cases e1; cases e2; exact .list frl ⟨_, k5 _ _ e8, rfl, c', rfl⟩ (by rw [length_map]; exact hva) fun i v d e1 e2 => zgd ia (by rwa [getElem?_toList]) e2
   | n + 2, e1, e2 => simp at e1
  ·ext d
   exact IH m n' s'' s'' (lt_succ_self m) (hin1 _ _ _ _ (xi4 (i + 1) _ _ _ ⟨by omega, by omega, G6.woken cm, cm.kept (k5 _ _ hit8) zfG dB dC⟩))
end
section
section
theorem Woke.outer (n : z'.In z) (x : Woke z' s s') : Turn z s s' :=
 ⟨x.heap.mono fun a o q => ⟨le_trans n.B q.1, fun m => q.2.1 (n.C a m), q.2.2⟩, fun i hi => x.gens i (lt_of_le_of_lt hi n.g), x.bare, x.drawn, x.os⟩
theorem GS.by (x : GS z h₀ L m s₀ s) (y : Turn z s s') (n : s'.heap.Ns L m') : GS z h₀ L m' s₀ s' :=
 ⟨x.ok, x.hz, x.turn.trans x.ok y, x.base.turn x.ok x.hz y.heap, n, x.L, fun c q => let ⟨o, e⟩ := x.cs c q; y.heap.still e fun r => r.2.1 q⟩
theorem Turn.made (hg : z.g < g.size) {x : GenState} (hb : x.bare = true) (k : zaz h h') : Turn z ⟨h, g, d, t, os⟩ ⟨h', g.push x, d, t', os⟩ :=
 ⟨.of (.of_keeps k), fun i hi => by
  have : i < g.size := lt_of_le_of_lt hi hg;show (g.push x)[i]? = g[i]?;rw [getElem?_push, if_neg (by omega)], fun b y hy => by
  rcases mem_push.mp hy with hy | rfl
  ·exact b y hy
  ·exact hb, rfl, rfl⟩
theorem Calm.keeps (k : zaz h h') : Calm z ⟨h, g, d, t, os⟩ ⟨h', g, d, t', os⟩ := ⟨.of (.of_keeps k), fun a _ o e => ⟨o, k a o e⟩, fun _ _ => rfl⟩
theorem Calm.ext (k : Ext [] h h') : Calm z ⟨h, g, d, t, os⟩ ⟨h', g, d, t', os⟩ := ⟨.of k, fun a _ o e => k.there a o e, fun _ _ => rfl⟩
theorem Calm.but {c : Addr} (hc : c ∈ z.C) (he : Heap.ExtBut c h h') (ht : ∃ o, h'.get? c = some o) : Calm z ⟨h, g, d, t, os⟩ ⟨h', g, d, t', os⟩ :=
 ⟨.but he fun o e => ⟨fun q => q.2 hc, fun q => q.2.1 hc⟩, fun a _ o e => by
  by_cases q : a = c
  ·rw [q]; exact ht
  ·exact ⟨o, he a o q e⟩, fun _ _ => rfl⟩
theorem Calm.list {c : Addr} (hb : z.b0 ≤ c) (he : Heap.ExtBut c h h') (ht : ∃ o, h'.get? c = some o) (hl : ∀ o, h.get? c = some o → o.cls = .type "list" ∧ ∀ es n, o.data ≠ .dict es n) : Calm z ⟨h, g, d, t, os⟩ ⟨h', g, d, t', os⟩ :=
 ⟨.but he fun o e => ⟨fun q => absurd q.1 (not_lt.mpr hb), fun q => by
  obtain ⟨h1, h2⟩ := hl o e;rcases q.2.2 with (⟨es, n, h3⟩ | h3) | h3
  ·exact h2 _ _ h3
  ·rw [h1] at h3; exact absurd h3 (by decide)
  ·rw [h1] at h3; exact absurd h3 (by decide)⟩, fun a _ o e => by
  by_cases q : a = c
  ·rw [q]; exact ht
  ·exact ⟨o, he a o q e⟩, fun _ _ => rfl⟩
end
theorem zf6 {R : GenEnd} {it : Value} {k h g l c₁ p₁} {fs : List Frame} (I : Around → Nat → Nat → Shared → Shared → Prop)
  (turn : ∀ A₂, A₂ = A.over (.forLoop target it body [] env) (.ret k h g l c₁ p₁ [] :: fs) → ∀ m n s₀ s, I A₂ m n s₀ s → (∀ m' n' s₀' s', m' < m → I A₂ m' n' s₀' s' → Seg (model P w) A R Y n' s₀' (.forLoop target it body [] env) (.pure (.again (.forLoop target it body [] env))) (.ret k h g l c₁ p₁ [] :: fs) s') →
   wpAny (model P w) A₂ (pyNext it) (fun r s₁ => match r with
   | none => Seg (model P w) A R Y n s₀ c₁ (k (.ok .next)) fs s₁
   | some v => wpAny (model P w) A₂ (letOwnedTupleGo target it v) (fun _ s₂ =>
     wpAny (model P w) A₂ (assign target env v) (fun _ s₃ =>
      Seg (model P w) A R Y n s₀ (.forLoop target it body [] env) ((execs body env).wrap (zfB target it body env) (zgi env) id id) (.ret k h g l c₁ p₁ [] :: fs) s₃) No s₂) No s₁) No s)
  (m n : Nat) (s₀ s : Shared) (i : I (A.over (.forLoop target it body [] env) (.ret k h g l c₁ p₁ [] :: fs)) m n s₀ s) :
  Seg (model P w) A R Y n s₀ (.forLoop target it body [] env) ((model P w).den (.forLoop target it body [] env)) (.ret k h g l c₁ p₁ [] :: fs) s :=
 zeu (I (A.over (.forLoop target it body [] env) (.ret k h g l c₁ p₁ [] :: fs))) (fun m n s₀ s i ih => turn _ rfl m n s₀ s i ih) m n s₀ s i
theorem zcH {R : GenEnd} {it : Value} {k h g l c₁ p₁} {fs : List Frame} (I : Around → Nat → Nat → Shared → Shared → Prop)
  (turn : ∀ (S : Nat → Shared → Shared → Prop) (F : List Frame), (∀ n s₀ s, Seg (model P w) A R Y n s₀ c₁ (k (.ok .next)) fs s → S n s₀ s) → F = .ret k h g l c₁ p₁ [] :: fs → ∀ A₂, A₂ = A.over (.forLoop target it body [] env) F → ∀ m n s₀ s, I A₂ m n s₀ s → (∀ m' n' s₀' s', m' < m → I A₂ m' n' s₀' s' → Seg (model P w) A R Y n' s₀' (.forLoop target it body [] env) (.pure (.again (.forLoop target it body [] env))) F s') →
   wpAny (model P w) A₂ (pyNext it) (fun r s₁ => match r with
   | none => S n s₀ s₁
   | some v => wpAny (model P w) A₂ (letOwnedTupleGo target it v) (fun _ s₂ =>
     wpAny (model P w) A₂ (assign target env v) (fun _ s₃ =>
      Seg (model P w) A R Y n s₀ (.forLoop target it body [] env) ((execs body env).wrap (zfB target it body env) (zgi env) id id) F s₃) No s₂) No s₁) No s)
  (m n : Nat) (s₀ s : Shared) (i : I (A.over (.forLoop target it body [] env) (.ret k h g l c₁ p₁ [] :: fs)) m n s₀ s) :
  Seg (model P w) A R Y n s₀ (.forLoop target it body [] env) ((model P w).den (.forLoop target it body [] env)) (.ret k h g l c₁ p₁ [] :: fs) s := by
 refine zf6 I (fun A₂ eA m n s₀ s i ih => ?_) m n s₀ s i;refine wpAny_mono (turn _ _ (fun _ _ _ z => z) rfl A₂ eA m n s₀ s i ih) (fun r s₁ z => ?_) fun _ _ z => z;cases r <;> exact z
theorem Rm.over1 {n : Nat} {c : Code} {f : Frame} (x : Rm n A) (h : c.isCaller = false) (hf : (f.where_).1.isCaller = false) : Rm (n + 10) (A.over c [f]) :=
 Rm.over (fs := [f]) x h fun f' q => by rw [mem_singleton.mp q]; exact hf
theorem Rm.over2 {n : Nat} {c : Code} {f f₂ : Frame} (x : Rm n A) (h : c.isCaller = false) (hf : (f.where_).1.isCaller = false) (hf₂ : (f₂.where_).1.isCaller = false) : Rm (n + 15) (A.over c [f, f₂]) :=
 Rm.over (fs := [f, f₂]) x h fun f' q => by
  rcases mem_cons.mp q with rfl | q
  ·exact hf
  ·rw [mem_singleton.mp q]; exact hf₂
theorem zb8 {elts : List Expr} {x1} {pos : Pos} {a r : Addr} {g : Nat} {Q : Unit → Shared → Prop} (hg : s.heap.IsGen a g) (hQ : Q () s) :
  wpAny (model P w) A (letOwnedTupleGo (.Tuple elts x1 pos) (.ref a) (.ref r)) Q E s := by
 obtain ⟨o, nm, qn, ho, hc, hd, _⟩ := hg;unfold letOwnedTupleGo;refine wpAny_bind (wpAny_load ho ?_);rw [hc, hd];ext d;rw [if_neg (by simp)];exact wpAny_pure hQ
theorem RdP.strE {p : Addr → Prop} {x : Str} (r : RdP p h u (.str x)) : ∃ t, u = .str x t := by cases r; exact ⟨_, rfl⟩
theorem RdP.intE {p : Addr → Prop} {x : Int} (r : RdP p h u (.int x)) : ∃ t, u = .int x t := by cases r; exact ⟨_, rfl⟩
theorem zed {g : Grp} (hj : j < (zal g).length) : ∃ k n, (zal g)[j] = zan (k, n) := by
 have := getElem_mem hj;unfold zal at this;obtain ⟨p, _, hp⟩ := mem_flatMap.mp this;obtain ⟨n, _, e⟩ := mem_map.mp hp;exact ⟨p.1, n, e.symm⟩
end
section
theorem zhw : Value.type "set" ∈ zho := by decide
def zaw (gs : List Grp) : List PyData := gs.flatMap zal
theorem zgw {i : Nat} (hi : i < gs.length) (hj : j < (zal gs[i]).length) (hn : n' + 1 = (zal gs[i]).length - j + (zaw (gs.drop (i + 1))).length) :
  (zaw gs)[(zaw gs).length - 1 - n']? = some (zal gs[i])[j] := by
 have eg : gs = gs.take i ++ gs[i] :: gs.drop (i + 1) := by rw [← drop_eq_getElem_cons hi, take_append_drop]
 have es : zaw gs = zaw (gs.take i) ++ (zal gs[i] ++ zaw (gs.drop (i + 1))) := by
  have : zaw gs = zaw (gs.take i ++ gs[i] :: gs.drop (i + 1)) := congrArg zaw eg;rw [this];unfold zaw;rw [flatMap_append, flatMap_cons]
 have hl : (zaw gs).length = (zaw (gs.take i)).length + ((zal gs[i]).length + (zaw (gs.drop (i + 1))).length) := by rw [es, length_append, length_append]
 have hidx : (zaw gs).length - 1 - n' = (zaw (gs.take i)).length + j := by omega
 rw [hidx, es, getElem?_append_right (by omega), Nat.add_sub_cancel_left, getElem?_append_left hj, getElem?_eq_getElem hj]
theorem zfi {g : Grp} {i : Nat} (eg : gs[i]? = some g) {d : PyData} (ed : (zal g)[j]? = some d) (hn : n' + 1 = (zal g).length - j + (zaw (gs.drop (i + 1))).length) : (zaw gs)[(zaw gs).length - 1 - n']? = some d := by
 obtain ⟨hi, rfl⟩ := List.getElem?_eq_some_iff.mp eg;obtain ⟨hj, rfl⟩ := List.getElem?_eq_some_iff.mp ed;exact zgw hi hj hn
def citems_feed.ST (w : World) (A : Around) (s : Shared) (R : Result → Shared → Prop) (b x dx dl ep : Addr) (gs : List Grp) (hsh : Int) (t : Tok) (n c : Nat) (vs : Array Value) (es : Array DictEntry) : Prop :=
 ∀ (hA : Rm 440 A) (T₀ : TopH w s.heap) (X : WH w b s.heap x gs dx dl hsh t n c vs es ep) (hlow : 604 ≤ b) (hg : ∀ g ∈ gs, g.length ≤ 100) (hv : ∀ g ∈ gs, ∀ p ∈ g, p.2.length ≤ 100) (hR : ∀ h' tk gn, zaz s.heap h' → gn.bare = true →
   (∀ A' C, Rm 440 A' → A'.handled = none → (∀ c ∈ C, 604 ≤ c ∧ (c < b ∨ s.heap.get? c = none) ∧ c ≠ s.heap.objs.size ∧ c ≠ s.heap.objs.size + 1) →
    Feed w A' ⟨s.heap.objs.size, s.heap.objs.size, C, s.gens.size⟩ (.ok (.ret .none)) (s.heap.objs.size + 1) (zaw gs) 0 ⟨h', s.gens.push gn, s.drawn, tk, s.os⟩) →
   R (.ok (.ret (.ref (s.heap.objs.size + 1)))) ⟨h', s.gens.push gn, s.drawn, tk, s.os⟩), codeAny (model P w) A (.call (.ref 508) ⟨[.ref x], [(Str.ofString "multi", .bool true)]⟩) R s
def citems_feed.CT := hen ((U<|U<|U<|U<|U<|U<|U<|U<|U<|U<|U<|U<|U<|U<|U<|I0) citems_feed.ST) (dW, dA, dS, fun _ _ => True, 0, 0, 0, 0, 0, [], 0, 0, 0, 0, #[], #[])
def citems_feed.wK := citems_feed.CT.1
def citems_feed.AK := citems_feed.CT.2.1
def citems_feed.sK := citems_feed.CT.2.2.1
def citems_feed.bK := citems_feed.CT.2.2.2.2.1
def citems_feed.xK := citems_feed.CT.2.2.2.2.2.1
def citems_feed.dlK := citems_feed.CT.2.2.2.2.2.2.2.1
def citems_feed.gsK := citems_feed.CT.2.2.2.2.2.2.2.2.2.1
def citems_feed.nK := citems_feed.CT.2.2.2.2.2.2.2.2.2.2.2.2.1
def citems_feed.cK := citems_feed.CT.2.2.2.2.2.2.2.2.2.2.2.2.2.1
theorem citems_feed.core : ST wK AK sK CT.2.2.2.1 bK xK CT.2.2.2.2.2.2.1 dlK CT.2.2.2.2.2.2.2.2.1 gsK CT.2.2.2.2.2.2.2.2.2.2.1 CT.2.2.2.2.2.2.2.2.2.2.2.1 nK cK CT.2.2.2.2.2.2.2.2.2.2.2.2.2.2.1 CT.2.2.2.2.2.2.2.2.2.2.2.2.2.2.2 := by
 unhygienic
 intro hA T₀ X hlow hg hv hR;refine zbB [(Str.ofString "self", .ref xK), (Str.ofString "multi", .bool true)] hA T₀ (by rfl) (by rfl) (by rfl) (by rfl) (binds_K T₀.K rfl (by rfl) rfl rfl rfl) (by decide) (locs rfl) fun h' tk k nK gen => ?_;revert hen h' tk;refine hR _ _ _ k rfl fun A' C hA' hh' hC => ?_;obtain ⟨L, eL⟩ : ∃ L, L = sK.heap.objs.size := ⟨_, rfl⟩
 haveI hCL : L ∉ C := fun q => (hC L q).2.2.1 eL
 have hCa : sK.heap.objs.size + 1 ∉ C := fun q => (hC _ q).2.2.2 rfl
 haveI ok : Zone.Ok ⟨sK.heap.objs.size, sK.heap.objs.size, C, sK.gens.size⟩ := ⟨T₀.low, le_refl _, fun cK q => (hC cK q).1⟩
 revert hen A' C L;refine ⟨ok, zero_le _, gen, ⟨le_succ _, hCa⟩, (T₀.ext (.of_keeps k) (by simp)).lim, _, getElem?_push_size, rfl, fun s₁ cm cs => ⟨rfl, ?_⟩⟩
 haveI run : s₁.gens[sK.gens.size]? = some .running := (cm.gens _ (le_refl _)).trans (setGen_self (s := ⟨h', sK.gens.push _, sK.drawn, tk, sK.os⟩) getElem?_push_size)
 have hE : Ext C sK.heap h' := (Ext.of_keeps k).mono (by simp);have bs : Base ⟨sK.heap.objs.size, sK.heap.objs.size, C, sK.gens.size⟩ sK.heap s₁.heap := Base.calm (s := (setGen ⟨h', sK.gens.push _, sK.drawn, tk, sK.os⟩ sK.gens.size .running)) ok (le_refl _) hE cm;have ns₁ : s₁.heap.Ns L _ := cm.heap.ns (eL ▸ nK) fun o e hd q => q.2 ⟨le_of_eq eL.symm, hCL, .inl (.inl hd)⟩
 haveI G : GS ⟨sK.heap.objs.size, sK.heap.objs.size, C, sK.gens.size⟩ sK.heap L _ s₁ s₁ := ⟨ok, le_refl _, .refl _ _, bs, ns₁, ⟨le_of_eq eL.symm, hCL⟩, cs⟩
 rw [← eL] at G ok ⊢;rw [sub_zero];generalize hz' : (⟨L, L, C, sK.gens.size⟩ : Zone) = z at G ok ⊢
 haveI zC : z.C = C := by rw [← hz']
 have zb0 : z.b0 = L := by rw [← hz']
 haveI zB : z.B = L := by rw [← hz']
 have zg : z.g = sK.gens.size := by rw [← hz']
 rw [← zg] at run
 haveI c604 : ∀ cK ∈ z.C, 604 ≤ cK := fun cK q => (hC cK (zC ▸ q)).1
 haveI cX : ∀ cK ∈ z.C, cK < bK ∨ sK.heap.get? cK = none := fun cK q => (hC cK (zC ▸ q)).2.1
 have xlow : 604 ≤ xK := le_trans hlow X.lx
 haveI hz : sK.heap.objs.size ≤ L := le_of_eq eL.symm
 haveI L604 : 604 ≤ L := le_trans T₀.low hz
 generalize sK.heap = h₀ at T₀ X G hz cX;clear hz' hC hCa hCL eL zg bs ns₁ cm cs hE k gen
 try clear nK
 clear hR hA
 try clear AK
 try clear sK
 refine (fun (key : ∀ s₀, GS z h₀ L _ s₀ s₁ → Seg (model P wK) _ _ _ _ s₀ _ _ _ s₁) => key _ G) ?_;clear G;intro s₀ G;obtain ⟨h, gn, d, t', os⟩ := s₁;dsimp only at run;ext o.seg_func o.seg_execs_cons;have T1 : TopH wK h := T₀.ext G.base c604;refine zbM (za5 fun Q0 E0 hq0 => wpAny_Assign_Name ?_);ext Call_NameR;refine zae (by assumption) rfl rfl rfl (by boot_by_name) (by decide) ?_;ext o.call_bi0;refine call_set_0 (fun led => ?_)
 letI G := G.keeps (t' := t') (h' := h.push { cls := .type "set", dict := none, data := .set #[] 0 (.fresh 0 0 led) }) fun bK o e => get?_push_of_some _ e
 dsimp only at G ⊢;generalize h.objs.size = fo;generalize h.push { cls := .type "set", dict := none, data := .set #[] 0 (.fresh 0 0 led) } = h1 at G ⊢;clear T1 h;refine wpAny_storeName_local rfl G.ns (fun h2 hn2 hs2 => ?_) rfl
 letI G := G.store (t' := t') hn2 hs2
 ext d;clear hn2 hs2 h1
 (refine hq0 _ _ ?_; clear hq0)
 ext o.seg_execs_cons;refine zcs (za5 fun Q0 E0 hq0 => ?_);have T2 : TopH wK h2 := T₀.ext G.base c604
 haveI X2 := X.ext G.base cX
 revert hen z h₀ s₀ gn d t' os fo h2 Q0 E0;ext o.Attribute_Name_;refine zaa G.ns ((if_neg (by decide)).trans rfl) ?_;refine zaM T2 X2 ?_
 (refine hq0 _ _ ?_; clear hq0)
 refine wpAny_pyIter_list ⟨_, X2.ls, rfl, cK, rfl⟩ ?_;intro p;obtain ⟨iB, iC⟩ := G.fresh
 haveI hit : (h2.push { cls := .type "list_iterator", data := .fields #[.ref dlK, .int 0 0] }).IsListIter h2.objs.size dlK 0 := ⟨_, get?_push_size _ rfl, rfl, rfl⟩
 letI G := G.keeps (t' := t') (h' := h2.push { cls := .type "list_iterator", data := .fields #[.ref dlK, .int 0 0] }) fun bK o e => get?_push_of_some _ e
 dsimp only at iB iC G ⊢;generalize h2.objs.size = it at iB iC hit ⊢;generalize h2.push { cls := .type "list_iterator", data := .fields #[.ref dlK, .int 0 0] } = h3 at hit G ⊢;clear T2 X2;revert hen p it h3;refine zhM (p := fun (m nK : Nat) (s₀ sK : Shared) => ∃ i mm, m + i = gsK.length ∧ nK = (zaw (gsK.drop i)).length ∧ GS z h₀ L mm s₀ sK ∧ mm "multi" = some (.bool true) ∧ sK.heap.IsListIter it dlK i ∧ sK.gens[z.g]? = some .running) fun Iv1 hin1 hout1 => ?_;revert hen Iv1;refine za3 Iv1 ?_ gsK.length _ _ _ (hin1 _ _ _ _ ?_)
 rotate_left
 ·exact ⟨0, _, rfl, rfl, G.toks, by rw [if_neg (by decide)]; rfl, hit, run⟩
 clear G hit run;intro Sx1 Fr1 hSx1 eF m nK s₀ s1 hI IH;have rF : ∀ cK, cK.isCaller = false → Rm 451 (A'.in1.over cK Fr1) := fun cK q => by rw [eF]; exact hA'.in1.over1 q rfl
 haveI rF2 : ∀ cK (f2 : Frame), cK.isCaller = false → (f2.where_).1.isCaller = false → Rm 456 (A'.in1.over cK (f2 :: Fr1)) := fun cK f2 q q' => by rw [eF]; exact hA'.in1.over2 q q' rfl
 have hhF : ∀ cK, (A'.in1.over cK Fr1).handled = none := fun cK => by rw [eF]; exact hh'
 haveI hhF2 : ∀ cK k g l c1 p1 kept, (A'.in1.over cK (.ret k none g l c1 p1 kept :: Fr1)).handled = none := fun cK k g l c1 p1 kept => by rw [eF]; exact hh'
 have gF : splitAtGen Fr1 = none := by rw [eF]; rfl
 have gF' : Fr1.any Frame.guarded = false := by rw [eF]; rfl
 clear eF;obtain ⟨h, gn, d, t', os⟩ := s1;obtain ⟨i, mm, hm, hn, G, mM, hit, run⟩ := hout1 _ _ _ _ hI;clear hI;dsimp only at hit run
 haveI X1 := X.ext G.base cX
 obtain ⟨oi, eoi, coi, doi⟩ := id hit;cases m with
 | zero =>
  have hi : i = gsK.length := by omega
  refine wpAny_pyNext_list_end (hhF _) hit ⟨_, X1.ls, rfl, cK, rfl⟩ (by rw [Array.getElem?_eq_none_iff, X1.md.1]; omega) (fun h' he => ?_);ext d;replace G := G.own (t' := t') he eoi (fun _ _ q => by rw [doi] at q; exact nomatch q) (by rw [coi]; exact zeH) iB iC;have : nK = 0 := by rw [hn, hi, drop_length]; rfl
  refine hSx1 _ _ _ ?_;exact seg_end (.ok (.ret .none)) ⟨rfl, this, G.turn⟩
 | succ m =>
  haveI hi : i < gsK.length := by omega
  obtain ⟨gi, eg, hgm, egd⟩ : ∃ gi, gsK[i]? = some gi ∧ gi ∈ gsK ∧ gsK.drop i = gi :: gsK.drop (i + 1) := ⟨_, getElem?_eq_getElem hi, getElem_mem hi, drop_eq_getElem_cons hi⟩;obtain ⟨mm0, dm, kvs, em, pm, em0, Xm⟩ := X.md.2 i gi eg;revert hen Sx1 Fr1 nK s₀ h gn d t' os i mm oi m gi mm0 dm kvs em pm;refine za5 fun Q1 E1 hq1 => ?_;revert hen Q1 E1;refine wpAny_pyNext_list_item hit ⟨_, X1.ls, rfl, cK, rfl⟩ em0 (fun h4 hit4 sb4 => ?_);revert hen h4
  (refine hq1 _ _ ?_; clear hq1)
  ext d
  letI G := G.own (t' := t') (h' := h4) sb4.extBut eoi (fun _ _ q => by rw [doi] at q; exact nomatch q) (by rw [coi]; exact zeH) iB iC
  clear X1 hit eoi coi doi sb4;ext pure;refine za5 fun Q1 E1 hq1 => ?_;revert hen Q1 E1;ext assign_Name;refine wpAny_storeName_local rfl G.ns (fun h5 hn5 hs5 => ?_) rfl;obtain ⟨oi, eoi, coi, doi⟩ := id hit4
  haveI hit5 := hit4.at fun o e => (hs5.2 it (Ne.symm (G.ne eoi fun _ _ q => by rw [doi] at q; exact nomatch q))).trans e
  letI G := G.store (t' := t') hn5 hs5
  ext d;clear hn5 hs5 hit4 eoi coi doi
  (refine hq1 _ _ ?_; clear hq1)
  ext o.seg_execs_cons;refine zcs (za5 fun Q2 E2 hq2 => ?_)
  haveI T6 : TopH wK h5 := T₀.ext G.base c604
  have X6 := Xm.ext G.base cX;revert hen h5 Q2 E2;ext o.methodCall_KW;refine zaa G.ns ((if_pos (by decide))) ?_;refine zb9 (f := 338) T6 X6.inst (by kernel_rfl) (by rfl) ?_;ext o.cf;ext items_cons;refine zaa G.ns ((if_neg (by decide)).trans mM) ?_;ext items_nil;refine ⟨T6, ?_⟩;ext call;refine zeO ((rF _ rfl).mono (by decide)) T6 T₀ Xm hlow L604 hz (le_of_lt G.ns.lt) (hg _ hgm) (hv _ hgm) (fun h7 tk7 gn7 k7 b7 feed => ?_);dsimp only at k7 feed ⊢
  haveI gsz : z.g < gn.size := by
   rcases lt_or_ge z.g gn.size with q | q
   ·exact q
   ·rw [getElem?_eq_none q] at run; cases run
  have hit7 : h7.IsListIter it dlK (i + 1) := let ⟨o, e, r⟩ := hit5; ⟨o, k7 _ _ e, r⟩
  have tn7 : Turn z ⟨h5, gn, d, t', os⟩ ⟨h7, gn.push gn7, d, tk7, os⟩ := Turn.made gsz b7 k7;have ns7 : h7.Ns L _ := zaA (.of_keeps k7) G.ns (by simp);have bnd : z.B ≤ h5.objs.size := G.fresh.1;have C' : ∀ cK ∈ L :: it :: z.C, 604 ≤ cK ∧ (cK < bK ∨ h₀.get? cK = none) ∧ cK ≠ h5.objs.size ∧ cK ≠ h5.objs.size + 1 := by
   intro c' q;have lt : ∀ {a : Addr} {o : Obj}, h5.get? a = some o → a ≠ h5.objs.size ∧ a ≠ h5.objs.size + 1 := fun e => ⟨ne_of_lt (lt_size e), ne_of_lt (lt_succ_of_lt (lt_size e))⟩;rcases mem_cons.mp q with rfl | q
   ·obtain ⟨o, _, _, e, _⟩ := G.ns
    exact ⟨L604, .inr (zac hz), lt e⟩
   ·rcases mem_cons.mp q with rfl | q
    ·obtain ⟨o, e, _⟩ := hit5
     exact ⟨le_trans L604 (zB ▸ iB), .inr (zac (le_trans hz (zB ▸ iB))), lt e⟩
    ·obtain ⟨o, e⟩ := G.cs c' q
     exact ⟨c604 c' q, cX c' q, lt e⟩
  have E' : Ext (L :: it :: z.C) h₀ h7 := (Ext.and G.base (.of_keeps k7)).mono fun a q => .tail _ (.tail _ q);obtain ⟨z', ez'⟩ : ∃ z' : Zone, z' = ⟨L, h5.objs.size, L :: it :: z.C, gn.size⟩ := ⟨_, rfl⟩
  haveI hin : z'.In z := by rw [ez']; exact ⟨zb0.symm, bnd, fun a q => .tail _ (.tail _ q), gsz⟩
  haveI z'C : z'.C = L :: it :: z.C := by rw [ez']
  haveI feed' := fun A₂ hA₂ hh₂ => feed A₂ (L :: it :: z.C) hA₂ hh₂ C' E'
  rw [← ez'] at feed';revert hen h7 tk7 gn7 z'
  (refine hq2 _ _ ?_; clear hq2)
  refine wpAny_pyIter_gen (feed' A'.in1 (hA'.in1.mono (by decide)) hh').gen ?_;intro p';have g' : z'.g = gn.size := by rw [ez']
  letI G := G.by tn7 ns7
  have run7 : (gn.push gn7)[z.g]? = some .running := by rw [getElem?_push, if_neg (by omega)]; exact run
  clear feed E' C' bnd tn7 ns7 k7 b7 hit5 run T6 X6 ez' gsz g';generalize h5.objs.size + 1 = ga at feed' ⊢;revert hen p' ga;refine opq5 (p := fun (A₂ : Around) (m' nK : Nat) (s₀ sK : Shared) => ∃ j mm, m' + j = (zal gi).length ∧ nK = ((zal gi).length - j) + (zaw (gsK.drop (i + 1))).length ∧ GS z h₀ L mm s₀ sK ∧ mm "multi" = some (.bool true) ∧ sK.heap.IsListIter it dlK (i + 1) ∧
   sK.gens[z.g]? = some .running ∧ Feed wK A₂ z' (.ok (.ret .none)) ga (zal gi) j sK) fun Iv2 hin2 hout2 => ?_
  revert hen Iv2;refine zcH Iv2 ?_ (zal gi).length _ _ _ (hin2 _ _ _ _ _ ?_)
  rotate_left
  ·refine ⟨0, _, rfl, ?_, G, ?_, hit7, run7, feed' _ ((rF2 _ _ rfl rfl).mono (by decide)) (hhF2 ..)⟩
   ·skip
    rw [hn, egd];unfold zaw;rw [flatMap_cons, length_append, sub_zero]
   ·exact (if_neg (by decide)).trans mM
  clear G hit7 run7 feed' hn mM;intro Sx2 Fr2 hSx2 eF A₂ eA m' nK s₀ sK hI IH2;obtain ⟨j, mm, hm', hn, G, mM, hit, run, F⟩ := hout2 _ _ _ _ _ hI;clear hI
  haveI hh2 : A₂.handled = none := by rw [eA, eF]; exact hhF2 ..
  haveI hr2 : Rm 460 A₂ := by rw [eA, eF]; exact (rF2 _ _ rfl rfl).mono (by decide)
  have gF2 : splitAtGen Fr2 = none := by rw [eF]; show (splitAtGen Fr1).map _ = none; rw [gF]; rfl
  have gF3 : Fr2.any Frame.guarded = false := by rw [eF]; exact gF'
  clear eA eF
  haveI hC2 : Cs z' sK.heap := by
   intro c' q;rw [z'C] at q;rcases mem_cons.mp q with rfl | q
   ·obtain ⟨o, _, _, e, _⟩ := G.ns; exact ⟨o, e⟩
   ·rcases mem_cons.mp q with rfl | q
    ·obtain ⟨o, e, _⟩ := hit; exact ⟨o, e⟩
    ·exact G.cs c' q
  haveI LC' : L ∈ z'.C := by rw [z'C]; exact .head _
  have iC' : it ∈ z'.C := by rw [z'C]; exact .tail _ (.head _)
  haveI gon : ∀ s', Woke z' sK s' → GS z h₀ L mm s₀ s' ∧ s'.heap.IsListIter it dlK (i + 1) ∧ s'.gens[z.g]? = some .running := by
   intro s' wk;refine ⟨G.by (wk.outer hin) (wk.heap.ns G.ns fun o _ _ q => q.2.1 LC'), ?_, (wk.gens _ hin.g).trans run⟩;obtain ⟨o, e, hc, r⟩ := hit;exact ⟨o, wk.heap.get e (by unfold hasCls; rw [hc]) fun q => q.2.1 iC', hc, r⟩
  cases m' with
  | zero =>
   haveI hj : j = (zal gi).length := by omega
   refine F.stop hC2 hh2 (hr2.dlt) (.inl rfl) hj (fun s' wk => ?_);obtain ⟨G', hit', run'⟩ := gon s' wk;refine hSx2 _ _ _ ?_;exact IH m nK s₀ _ (lt_succ_self m) (hin1 _ _ _ _ (xi2 (i + 1) mm ⟨by omega, by rw [hn, hj]; omega, G', mM, hit', run'⟩))
  | succ m' =>
   haveI hj : j < (zal gi).length := by omega
   obtain ⟨k0, n0, edd⟩ : ∃ k0 n0, (zal gi)[j]? = some (zan (k0, n0)) := let ⟨k, nK, e⟩ := zed hj; ⟨k, nK, e ▸ getElem?_eq_getElem hj⟩
   revert hen Sx2 Fr2 A₂ nK s₀ sK j mm m' k0 n0;refine za5 fun Q3 E3 hq3 => ?_;refine F.next hC2 hh2 (hr2.dlt) (.inl rfl) edd (fun v s' rd wk F' => ?_);obtain ⟨G', hit', run'⟩ := gon s' wk;obtain ⟨ta, u, zz, rfl, pa, tup, ru, rz⟩ := rd.pairE;obtain ⟨tu, rfl⟩ := ru.strE;obtain ⟨tz, rfl⟩ := rz.intE;clear G hit run F hC2 gon wk rd ru rz pa
   (refine hq3 _ _ ?_; clear hq3)
   ext d;obtain ⟨h, gn, d, t', os⟩ := s';refine zb8 F'.gen ?_;refine za5 fun Q4 E4 hq4 => ?_;revert hen ta tu tz h gn d t' os Q4 E4;refine assign_Tuple_tuple hh2 tup rfl rfl (fun h5 he5 => ?_);dsimp only at he5 hit' run' ⊢
   haveI ext5 := Ext.of_extBut he5
   letI G' := G'.ext (t' := t') ext5
   replace F' := F'.calm (Calm.ext (t' := t') ext5)
   haveI hit5 : h5.IsListIter it dlK (i + 1) := let ⟨o, e, hc, r⟩ := hit'; ⟨o, ext5.get e (by unfold hasCls; rw [hc]) (by simp), hc, r⟩
   clear tup he5 ext5 hit';have Lns : ∀ {h : Heap}, GS z h₀ L mm s₀ ⟨h, gn, d, t', os⟩ → ∃ o, h.get? L = some o := fun g => let ⟨o, _, _, e, _⟩ := g.ns; ⟨o, e⟩
   ext assignInOrder_more assign_Name;refine wpAny_storeName_local rfl G'.ns (fun h6 hn6 hs6 => ?_) rfl;obtain ⟨oi, eoi, coi, doi⟩ := id hit5
   haveI hit6 := hit5.at fun o e => (hs6.2 it (Ne.symm (G'.ne eoi fun _ _ q => by rw [doi] at q; exact nomatch q))).trans e
   letI G' := G'.store (t' := t') hn6 hs6
   replace F' := F'.calm (Calm.but (t' := t') LC' hs6.extBut (let ⟨o, _, _, e, _⟩ := G'.ns; ⟨o, e⟩));ext d;clear hn6 hs6 hit5 eoi coi doi Lns;ext assignInOrder_more assign_Name;refine wpAny_storeName_local rfl G'.ns (fun h7 hn7 hs7 => ?_) rfl;obtain ⟨oi, eoi, coi, doi⟩ := id hit6;have hit7 := hit6.at fun o e => (hs7.2 it (Ne.symm (G'.ne eoi fun _ _ q => by rw [doi] at q; exact nomatch q))).trans e
   letI G' := G'.store (t' := t') hn7 hs7
   replace F' := F'.calm (Calm.but (t' := t') LC' hs7.extBut (let ⟨o, _, _, e, _⟩ := G'.ns; ⟨o, e⟩));ext d;clear hn7 hs7 hit6 eoi coi doi h6;revert hen h7;ext assignInOrder_none
   (refine hq4 _ _ ?_; clear hq4)
   ext o.seg_execs_cons;refine zdt (za5 fun Q5 E5 hq5 => ?_);ext o.isTrue_plain;refine zaa G'.ns ((if_neg (by decide)).trans ((if_neg (by decide)).trans mM)) ?_;ext truthy_bool
   (refine hq5 _ _ ?_; clear hq5)
   rw [if_pos rfl];ext o.seg_execs_cons;obtain ⟨n', en⟩ : ∃ n', nK = n' + 1 := ⟨nK - 1, by omega⟩;rw [en] at hn ⊢;refine seg_Expr_Yield gF2 rfl gF3 (za5 fun Q8 E8 hq8 => ?_);ext o.Tuple_ items_cons;refine zaa G'.ns ((if_neg (by decide)).trans (if_pos (by decide))) ?_;ext items_cons;refine zaa G'.ns ((if_pos (by decide))) ?_;ext items_nil;refine wpAny_newObj_type ?_ (by show (2 : Nat) ≤ sizeLine; decide)
   (refine hq8 _ _ ?_; clear hq8)
   intro kap hk;ext d;have frs := G'.frs
   haveI k5 : zaz h7 (h7.push { cls := .type "tuple", data := .seq #[.str k0 tu, .int n0 tz] }) := fun bK o e => get?_push_of_some _ e
   haveI G6 := G'.keeps (t' := t' + 1 + 1) k5
   refine ⟨zan (k0, n0), ?_, .tup frs ⟨_, get?_push_size _ rfl, rfl, 0, rfl⟩ rfl ?_, G6.turn, fun s'' cm => hk .none s'' ?_⟩
   ·exact zfi eg edd (by omega)
   ·intro i' v' d' e1 e2
    match i', e1, e2 with
    | 0, e1, e2 => cases e1; cases e2; exact .str _ _
    | 1, e1, e2 => cases e1; cases e2; exact .int _ _
    | nK + 2, e1, e2 => simp at e1
   ·ext d
    obtain ⟨ol, eol, col, dol⟩ := id hit7;have F6 := F'.calm (Calm.keeps (t' := t' + 1 + 1) k5);refine IH2 m' n' s'' s'' (lt_succ_self m') (hin2 _ _ _ _ _ (xi2 (j + 1) _ ⟨by omega, by omega, G6.woken cm, ?_, ⟨ol, cm.kept (k5 _ _ eol) (by rw [col]; exact zeH) iB iC, col, dol⟩, (cm.gens z.g (le_refl _)).trans run', F6.calm (cm.inner hin ?_)⟩))
    ·exact (if_neg (by decide)).trans ((if_neg (by decide)).trans mM)
    ·intro c' q n' o e
     rw [z'C] at q;rcases mem_cons.mp q with rfl | q
     ·obtain ⟨o', es', ep', e', hd', _⟩ := G6.ns
      exact ⟨G6.L.1, .inl (.inl ⟨es', ep', by rw [show o = o' from Option.some.inj (e.symm.trans e')]; exact hd'⟩)⟩
     ·rcases mem_cons.mp q with rfl | q
      ·refine ⟨iB, .inl (.inr ?_)⟩
       rw [show o = ol from Option.some.inj (e.symm.trans (k5 _ _ eol)), col]; exact zeH
      ·exact absurd q n'
theorem citems_feed {w A s R b x dx dl ep gs hsh t n c vs es} : citems_feed.ST w A s R b x dx dl ep gs hsh t n c vs es := @hen_all _ _ ((U<|U<|U<|U<|U<|U<|U<|U<|U<|U<|U<|U<|U<|U<|U<|I0) citems_feed.ST) @citems_feed.core (w, A, s, R, b, x, dx, dl, ep, gs, hsh, t, n, c, vs, es)
end
section
def zai (g : Grp) : List (Str × Int) := g.map fun p => (p.1, p.2.headD 0)
theorem zcP (g : Grp) : zbH g = (zai g).map zan := by unfold zbH zai; rw [map_map]; rfl
def zau : List Str → List (Str × Int) → List (Str × Int)
 | _, [] => []
 | seen, p :: r => if p.1 ∈ seen then zau seen r else p :: zau (p.1 :: seen) r
def zc1 (gs : List Grp) : List PyData := (zau [] (gs.flatMap zai)).map zan
theorem zaL {S : Str → Bool} {n : Nat} (x : h.SetOf (KD w) a S n) (e : ∀ o, h.get? a = some o → o.cls = .type "set" → (∀ es n, o.data ≠ .dict es n) → h'.get? a = some o) : h'.SetOf (KD w) a S n := by
 obtain ⟨o, es, ep, t, ho, hx, hd, r⟩ := x;exact ⟨o, es, ep, t, e o ho hx.1 (fun _ _ q => by rw [hd] at q; cases q), hx, hd, r⟩
theorem zaX {S : Str → Bool} {n : Nat} (x : h.SetOf (KD w) a S n) : ∃ o, h.get? a = some o ∧ o.cls = .type "set" ∧ ∀ es n, o.data ≠ .dict es n := by
 obtain ⟨o, es, ep, t, ho, hx, hd, r⟩ := x;exact ⟨o, ho, hx.1, fun _ _ q => by rw [hd] at q; cases q⟩
theorem zdz {α : Type} {l pre : List α} {d : α} {r : List α} (e : l = pre ++ d :: r) (hn : n' = r.length) : l[l.length - 1 - n']? = some d := by
 have : l.length - 1 - n' = pre.length := by rw [e, length_append, length_cons]; omega
 rw [this, e, getElem?_append_right (le_refl _), sub_self]; rfl
theorem zdv {w : World} {A : Around} {s : Shared} {b x dx dl ep : Addr} {gs : List Grp} {hsh : Int} {t : Tok} {n c : Nat} {vs : Array Value} {es : Array DictEntry} : ∀ (hA : Rm 440 A) (T₀ : TopH w s.heap) (X : WH w b s.heap x gs dx dl hsh t n c vs es ep) (hlow : 604 ≤ b) (hg : ∀ g ∈ gs, g.length ≤ 100) (hv : ∀ g ∈ gs, ∀ p ∈ g, p.2.length ≤ 100) (hne : ∀ g ∈ gs, ∀ p ∈ g, p.2 ≠ []) (hall : (gs.flatMap zai).length ≤ 1000) (hR : ∀ h' tk gn, zaz s.heap h' → gn.bare = true →
   (∀ A' C, Rm 440 A' → A'.handled = none → (∀ c ∈ C, 604 ≤ c ∧ (c < b ∨ s.heap.get? c = none) ∧ c ≠ s.heap.objs.size ∧ c ≠ s.heap.objs.size + 1) →
    Feed w A' ⟨s.heap.objs.size, s.heap.objs.size, C, s.gens.size⟩ (.ok (.ret .none)) (s.heap.objs.size + 1) (zc1 gs) 0 ⟨h', s.gens.push gn, s.drawn, tk, s.os⟩) →
   R (.ok (.ret (.ref (s.heap.objs.size + 1)))) ⟨h', s.gens.push gn, s.drawn, tk, s.os⟩), codeAny (model P w) A (.call (.ref 508) ⟨[.ref x], []⟩) R s := by
 unhygienic
 revert hen w A s R b x dx dl ep gs hsh t n c vs es;refine zbB [(Str.ofString "self", .ref x), (Str.ofString "multi", .bool false)] hA T₀ (by rfl) (by rfl) (by rfl) (by rfl) (binds_K T₀.K rfl (by rfl) rfl rfl rfl) (by decide) (locs rfl) fun h' tk k n gen => ?_;refine hR _ _ _ k rfl fun A' C hA' hh' hC => ?_;obtain ⟨L, eL⟩ : ∃ L, L = s.heap.objs.size := ⟨_, rfl⟩
 haveI hCL : L ∉ C := fun q => (hC L q).2.2.1 eL
 have hCa : s.heap.objs.size + 1 ∉ C := fun q => (hC _ q).2.2.2 rfl
 haveI ok : Zone.Ok ⟨s.heap.objs.size, s.heap.objs.size, C, s.gens.size⟩ := ⟨T₀.low, le_refl _, fun c q => (hC c q).1⟩
 refine ⟨ok, zero_le _, gen, ⟨le_succ _, hCa⟩, (T₀.ext (.of_keeps k) (by simp)).lim, _, getElem?_push_size, rfl, fun s₁ cm cs => ⟨rfl, ?_⟩⟩
 haveI run : s₁.gens[s.gens.size]? = some .running := (cm.gens _ (le_refl _)).trans (setGen_self (s := ⟨h', s.gens.push _, s.drawn, tk, s.os⟩) getElem?_push_size)
 have hE : Ext C s.heap h' := (Ext.of_keeps k).mono (by simp);have bs : Base ⟨s.heap.objs.size, s.heap.objs.size, C, s.gens.size⟩ s.heap s₁.heap := Base.calm (s := (setGen ⟨h', s.gens.push _, s.drawn, tk, s.os⟩ s.gens.size .running)) ok (le_refl _) hE cm;have ns₁ : s₁.heap.Ns L _ := cm.heap.ns (eL ▸ n) fun o e hd q => q.2 ⟨le_of_eq eL.symm, hCL, .inl (.inl hd)⟩
 haveI G : GS ⟨s.heap.objs.size, s.heap.objs.size, C, s.gens.size⟩ s.heap L _ s₁ s₁ := ⟨ok, le_refl _, .refl _ _, bs, ns₁, ⟨le_of_eq eL.symm, hCL⟩, cs⟩
 rw [← eL] at G ok ⊢;rw [sub_zero];generalize hz' : (⟨L, L, C, s.gens.size⟩ : Zone) = z at G ok ⊢
 haveI zC : z.C = C := by rw [← hz']
 have zb0 : z.b0 = L := by rw [← hz']
 haveI zB : z.B = L := by rw [← hz']
 have zg : z.g = s.gens.size := by rw [← hz']
 rw [← zg] at run
 haveI c604 : ∀ c ∈ z.C, 604 ≤ c := fun c q => (hC c (zC ▸ q)).1
 haveI cX : ∀ c ∈ z.C, c < b ∨ s.heap.get? c = none := fun c q => (hC c (zC ▸ q)).2.1
 have xlow : 604 ≤ x := le_trans hlow X.lx
 haveI hz : s.heap.objs.size ≤ L := le_of_eq eL.symm
 haveI L604 : 604 ≤ L := le_trans T₀.low hz
 generalize s.heap = h₀ at T₀ X G hz cX;clear hz' hC hCa hCL eL zg bs ns₁ cm cs hE k gen
 try clear n
 clear tk h' hR hA
 try clear A
 try clear s
 refine (fun (key : ∀ s₀, GS z h₀ L _ s₀ s₁ → Seg (model P w) _ _ _ _ s₀ _ _ _ s₁) => key _ G) ?_;clear G;intro s₀ G;obtain ⟨h, gn, d, t', os⟩ := s₁;dsimp only at run;revert hen A' C L z h₀ s₀ h gn d t' os;ext o.seg_func o.seg_execs_cons;have T1 : TopH w h := T₀.ext G.base c604;refine zbM (za5 fun Q0 E0 hq0 => wpAny_Assign_Name ?_);ext Call_NameR;refine zae (by assumption) rfl rfl rfl (by boot_by_name) (by decide) ?_;ext o.call_bi0;refine call_set_0 (fun led => ?_)
 haveI fF := G.fresh
 letI G := G.keeps (t' := t') (h' := h.push { cls := .type "set", dict := none, data := .set #[] 0 (.fresh 0 0 led) }) fun b o e => get?_push_of_some _ e
 haveI hS : (h.push { cls := .type "set", dict := none, data := .set #[] 0 (.fresh 0 0 led) }).SetOf (KD w) h.objs.size (fun _ => false) 0 :=
  ⟨_, #[], 0, _, get?_push_size _ rfl, ⟨rfl, rfl, rfl⟩, rfl, fun e he => by simp at he, fun k => by simp, by decide, by rfl, rfl⟩
 dsimp only at G fF ⊢;obtain ⟨fB, fC⟩ := fF;generalize h.objs.size = fo at hS fB fC ⊢;generalize h.push { cls := .type "set", dict := none, data := .set #[] 0 (.fresh 0 0 led) } = h1 at G hS ⊢;clear T1;refine wpAny_storeName_local rfl G.ns (fun h2 hn2 hs2 => ?_) rfl;replace hS := zaL hS fun o e _ hd => (hs2.2 fo (Ne.symm (G.ne e hd))).trans e
 letI G := G.store (t' := t') hn2 hs2
 ext d;clear hn2 hs2 h1
 (refine hq0 _ _ ?_; clear hq0)
 ext o.seg_execs_cons;refine zcs (za5 fun Q0 E0 hq0 => ?_);have T2 : TopH w h2 := T₀.ext G.base c604
 haveI X2 := X.ext G.base cX
 ext o.Attribute_Name_;refine zaa G.ns ((if_neg (by decide)).trans rfl) ?_;refine zaM T2 X2 ?_
 (refine hq0 _ _ ?_; clear hq0)
 refine wpAny_pyIter_list ⟨_, X2.ls, rfl, c, rfl⟩ ?_;intro p;obtain ⟨iB, iC⟩ := G.fresh
 haveI hit : (h2.push { cls := .type "list_iterator", data := .fields #[.ref dl, .int 0 0] }).IsListIter h2.objs.size dl 0 := ⟨_, get?_push_size _ rfl, rfl, rfl⟩
 letI G := G.keeps (t' := t') (h' := h2.push { cls := .type "list_iterator", data := .fields #[.ref dl, .int 0 0] }) fun b o e => get?_push_of_some _ e
 letI hS := zaL hS fun o e _ _ => get?_push_of_some { cls := .type "list_iterator", data := .fields #[.ref dl, .int 0 0] } e
 haveI fi : fo ≠ h2.objs.size := let ⟨o, e, _⟩ := zaX hS; fun q => by rw [q] at hS; obtain ⟨o', e', c', _⟩ := zaX hS; obtain ⟨o'', e'', c'', _⟩ := hit; rw [e''] at e'; cases e'; rw [c''] at c'; exact nomatch c'
 dsimp only at iB iC G ⊢;generalize h2.objs.size = it at iB iC hit fi ⊢;generalize h2.push { cls := .type "list_iterator", data := .fields #[.ref dl, .int 0 0] } = h3 at hit G hS ⊢;clear T2 X2 h2;revert hen fo p it h3;refine zhM (p := fun (m n : Nat) (s₀ s : Shared) => ∃ i mm seen pre S nS, m + i = gs.length ∧ n = (zau seen ((gs.drop i).flatMap zai)).length ∧ zau [] (gs.flatMap zai) = pre ++ zau seen ((gs.drop i).flatMap zai) ∧
   seen.length + ((gs.drop i).flatMap zai).length ≤ 1000 ∧ s.heap.SetOf (KD w) fo S nS ∧ (∀ k, S k = decide (k ∈ seen)) ∧ nS ≤ seen.length ∧ GS z h₀ L mm s₀ s ∧ mm "multi" = some (.bool false) ∧ mm "found" = some (.ref fo) ∧ s.heap.IsListIter it dl i ∧ s.gens[z.g]? = some .running) fun Iv1 hin1 hout1 => ?_
 refine za3 Iv1 ?_ gs.length _ _ _ (hin1 _ _ _ _ ?_)
 rotate_left
 ·exact ⟨0, _, [], [], _, _, rfl, by rw [drop_zero]; exact length_map .., by rw [drop_zero]; rfl, by rw [drop_zero]; simpa using hall, hS, fun k => by simp, le_refl _, G.toks, by rw [if_neg (by decide)]; rfl, by rw [if_pos (by decide)], hit, run⟩
 clear G hit run hS;intro Sx1 Fr1 hSx1 eF m n s₀ s1 hI IH;have rF : ∀ c, c.isCaller = false → Rm 451 (A'.in1.over c Fr1) := fun c q => by rw [eF]; exact hA'.in1.over1 q rfl
 haveI rF2 : ∀ c (f2 : Frame), c.isCaller = false → (f2.where_).1.isCaller = false → Rm 456 (A'.in1.over c (f2 :: Fr1)) := fun c f2 q q' => by rw [eF]; exact hA'.in1.over2 q q' rfl
 have hhF : ∀ c, (A'.in1.over c Fr1).handled = none := fun c => by rw [eF]; exact hh'
 haveI hhF2 : ∀ c k g l c1 p1 kept, (A'.in1.over c (.ret k none g l c1 p1 kept :: Fr1)).handled = none := fun c k g l c1 p1 kept => by rw [eF]; exact hh'
 have gF : splitAtGen Fr1 = none := by rw [eF]; rfl
 have gF' : Fr1.any Frame.guarded = false := by rw [eF]; rfl
 clear eF;obtain ⟨h, gn, d, t', os⟩ := s1;obtain ⟨i, mm, seen, pre, S, nS, hm, hn, hpre, hle, hS, hSk, hnS, G, mM, mF, hit, run⟩ := hout1 _ _ _ _ hI;clear hI;dsimp only at hit run hS
 haveI X1 := X.ext G.base cX
 obtain ⟨oi, eoi, coi, doi⟩ := id hit;cases m with
 | zero =>
  have hi : i = gs.length := by omega
  refine wpAny_pyNext_list_end (hhF _) hit ⟨_, X1.ls, rfl, c, rfl⟩ (by rw [Array.getElem?_eq_none_iff, X1.md.1]; omega) (fun h' he => ?_);ext d;replace G := G.own (t' := t') he eoi (fun _ _ q => by rw [doi] at q; exact nomatch q) (by rw [coi]; exact zeH) iB iC;have : n = 0 := by rw [hn, hi, drop_length]; cases seen <;> rfl
  refine hSx1 _ _ _ ?_;exact seg_end (.ok (.ret .none)) ⟨rfl, this, G.turn⟩
 | succ m =>
  revert hen Iv1 Sx1 Fr1 n s₀ h gn d t' os i mm seen pre S nS oi m;obtain ⟨gi, eg, hgm, egd⟩ : ∃ gi, gs[i]? = some gi ∧ gi ∈ gs ∧ gs.drop i = gi :: gs.drop (i + 1) :=
   haveI hi : i < gs.length := by omega
   ⟨gs[i], getElem?_eq_getElem hi, getElem_mem hi, drop_eq_getElem_cons hi⟩
  obtain ⟨mm0, dm, kvs, em, pm, em0, Xm⟩ := X.md.2 i gi eg;refine za5 fun Q1 E1 hq1 => ?_;refine wpAny_pyNext_list_item hit ⟨_, X1.ls, rfl, c, rfl⟩ em0 (fun h4 hit4 sb4 => ?_)
  (refine hq1 _ _ ?_; clear hq1)
  ext d;replace hS := zaL hS fun o e _ _ => (sb4.2 fo fi).trans e
  letI G := G.own (t' := t') (h' := h4) sb4.extBut eoi (fun _ _ q => by rw [doi] at q; exact nomatch q) (by rw [coi]; exact zeH) iB iC
  clear X1 hit eoi coi doi sb4;ext pure;refine za5 fun Q1 E1 hq1 => ?_;ext assign_Name;refine wpAny_storeName_local rfl G.ns (fun h5 hn5 hs5 => ?_) rfl;obtain ⟨oi, eoi, coi, doi⟩ := id hit4
  haveI hit5 := hit4.at fun o e => (hs5.2 it (Ne.symm (G.ne eoi fun _ _ q => by rw [doi] at q; exact nomatch q))).trans e
  letI hS := zaL hS fun o e _ hd => (hs5.2 fo (Ne.symm (G.ne e hd))).trans e
  letI G := G.store (t' := t') hn5 hs5
  ext d;clear hn5 hs5 hit4 eoi coi doi h4
  (refine hq1 _ _ ?_; clear hq1)
  ext o.seg_execs_cons;refine zcs (za5 fun Q2 E2 hq2 => ?_)
  haveI T6 : TopH w h5 := T₀.ext G.base c604
  have X6 := Xm.ext G.base cX;ext o.methodCall_KW;refine zaa G.ns ((if_pos (by decide))) ?_;refine zb9 (f := 338) T6 X6.inst (by kernel_rfl) (by rfl) ?_;ext o.cf;ext items_cons;refine zaa G.ns ((if_neg (by decide)).trans mM) ?_;ext items_nil;refine ⟨T6, ?_⟩;ext call;refine zdQ ((rF _ rfl).mono (by decide)) T6 T₀ Xm hlow L604 hz (le_of_lt G.ns.lt) (hg _ hgm) (hv _ hgm) (hne _ hgm) (fun h7 tk7 gn7 k7 b7 feed => ?_);dsimp only at k7 feed ⊢
  haveI gsz : z.g < gn.size := by
   rcases lt_or_ge z.g gn.size with q | q
   ·exact q
   ·rw [getElem?_eq_none q] at run; cases run
  have hit7 : h7.IsListIter it dl (i + 1) := let ⟨o, e, r⟩ := hit5; ⟨o, k7 _ _ e, r⟩
  have tn7 : Turn z ⟨h5, gn, d, t', os⟩ ⟨h7, gn.push gn7, d, tk7, os⟩ := Turn.made gsz b7 k7;have ns7 : h7.Ns L _ := zaA (.of_keeps k7) G.ns (by simp);have bnd : z.B ≤ h5.objs.size := G.fresh.1;have C' : ∀ c ∈ L :: it :: fo :: z.C, 604 ≤ c ∧ (c < b ∨ h₀.get? c = none) ∧ c ≠ h5.objs.size ∧ c ≠ h5.objs.size + 1 := by
   intro c' q;have lt : ∀ {a : Addr} {o : Obj}, h5.get? a = some o → a ≠ h5.objs.size ∧ a ≠ h5.objs.size + 1 := fun e => ⟨ne_of_lt (lt_size e), ne_of_lt (lt_succ_of_lt (lt_size e))⟩;rcases mem_cons.mp q with rfl | q
   ·obtain ⟨o, _, _, e, _⟩ := G.ns
    exact ⟨L604, .inr (zac hz), lt e⟩
   ·rcases mem_cons.mp q with rfl | q
    ·obtain ⟨o, e, _⟩ := hit5
     exact ⟨le_trans L604 (zB ▸ iB), .inr (zac (le_trans hz (zB ▸ iB))), lt e⟩
    ·rcases mem_cons.mp q with rfl | q
     ·obtain ⟨o, e, _⟩ := zaX hS
      exact ⟨le_trans L604 (zB ▸ fB), .inr (zac (le_trans hz (zB ▸ fB))), lt e⟩
     ·obtain ⟨o, e⟩ := G.cs c' q
      exact ⟨c604 c' q, cX c' q, lt e⟩
  have E' : Ext (L :: it :: fo :: z.C) h₀ h7 := (Ext.and G.base (.of_keeps k7)).mono fun a q => .tail _ (.tail _ (.tail _ q));obtain ⟨z', ez'⟩ : ∃ z' : Zone, z' = ⟨L, h5.objs.size, L :: it :: fo :: z.C, gn.size⟩ := ⟨_, rfl⟩
  haveI hin : z'.In z := by rw [ez']; exact ⟨zb0.symm, bnd, fun a q => .tail _ (.tail _ (.tail _ q)), gsz⟩
  haveI z'C : z'.C = L :: it :: fo :: z.C := by rw [ez']
  haveI feed' := fun A₂ hA₂ hh₂ => feed A₂ (L :: it :: fo :: z.C) hA₂ hh₂ C' E'
  rw [← ez'] at feed'
  (refine hq2 _ _ ?_; clear hq2)
  refine wpAny_pyIter_gen (feed' A'.in1 (hA'.in1.mono (by decide)) hh').gen ?_;intro p';have g' : z'.g = gn.size := by rw [ez']
  letI hS := zaL hS fun o e _ _ => k7 _ _ e
  letI G := G.by tn7 ns7
  have run7 : (gn.push gn7)[z.g]? = some .running := by rw [getElem?_push, if_neg (by omega)]; exact run
  clear feed E' C' bnd tn7 ns7 k7 b7 hit5 run T6 X6 ez' gsz g';generalize h5.objs.size + 1 = ga at feed' ⊢;have hlen : (zbH gi).length = (zai gi).length := by rw [zcP, length_map]
  revert hen gi mm0 dm kvs em pm h7 tk7 gn7 z' p' ga;refine opq5 (p := fun (A₂ : Around) (m' n : Nat) (s₀ s : Shared) => ∃ j mm seen pre S nS, m' + j = (zai gi).length ∧ n = (zau seen ((zai gi).drop j ++ (gs.drop (i + 1)).flatMap zai)).length ∧
   zau [] (gs.flatMap zai) = pre ++ zau seen ((zai gi).drop j ++ (gs.drop (i + 1)).flatMap zai) ∧ seen.length + ((zai gi).drop j ++ (gs.drop (i + 1)).flatMap zai).length ≤ 1000 ∧
   s.heap.SetOf (KD w) fo S nS ∧ (∀ k, S k = decide (k ∈ seen)) ∧ nS ≤ seen.length ∧ GS z h₀ L mm s₀ s ∧ mm "multi" = some (.bool false) ∧ mm "found" = some (.ref fo) ∧ s.heap.IsListIter it dl (i + 1) ∧
   s.gens[z.g]? = some .running ∧ Feed w A₂ z' (.ok (.ret .none)) ga (zbH gi) j s) fun Iv2 hin2 hout2 => ?_
  refine zcH Iv2 ?_ (zai gi).length _ _ _ (hin2 _ _ _ _ _ ?_)
  rotate_left
  ·refine ⟨0, _, seen, pre, S, nS, rfl, ?_, ?_, ?_, hS, hSk, hnS, G, ?_, ?_, hit7, run7, feed' _ ((rF2 _ _ rfl rfl).mono (by decide)) (hhF2 ..)⟩
   ·rw [hn, egd, flatMap_cons, drop_zero]
   ·rw [hpre, egd, flatMap_cons, drop_zero]
   ·rw [egd, flatMap_cons] at hle; rw [drop_zero]; exact hle
   ·exact (if_neg (by decide)).trans mM
   ·exact (if_neg (by decide)).trans mF
  clear G hit7 run7 feed' hn hpre hle hS hSk hnS mM mF h5;intro Sx2 Fr2 hSx2 eF A₂ eA m' n s₀ s hI IH2;obtain ⟨j, mm, seen, pre, S, nS, hm', hn, hpre, hle, hS, hSk, hnS, G, mM, mF, hit, run, F⟩ := hout2 _ _ _ _ _ hI;clear hI
  haveI hh2 : A₂.handled = none := by rw [eA, eF]; exact hhF2 ..
  haveI hr2 : Rm 460 A₂ := by rw [eA, eF]; exact (rF2 _ _ rfl rfl).mono (by decide)
  have gF2 : splitAtGen Fr2 = none := by rw [eF]; show (splitAtGen Fr1).map _ = none; rw [gF]; rfl
  have gF3 : Fr2.any Frame.guarded = false := by rw [eF]; exact gF'
  clear eA eF
  haveI hC2 : Cs z' s.heap := by
   intro c' q;rw [z'C] at q;rcases mem_cons.mp q with rfl | q
   ·obtain ⟨o, _, _, e, _⟩ := G.ns; exact ⟨o, e⟩
   ·rcases mem_cons.mp q with rfl | q
    ·obtain ⟨o, e, _⟩ := hit; exact ⟨o, e⟩
    ·rcases mem_cons.mp q with rfl | q
     ·obtain ⟨o, e, _⟩ := zaX hS; exact ⟨o, e⟩
     ·exact G.cs c' q
  haveI LC' : L ∈ z'.C := by rw [z'C]; exact .head _
  have iC' : it ∈ z'.C := by rw [z'C]; exact .tail _ (.head _)
  haveI fC' : fo ∈ z'.C := by rw [z'C]; exact .tail _ (.tail _ (.head _))
  haveI gon : ∀ s', Woke z' s s' → GS z h₀ L mm s₀ s' ∧ s'.heap.SetOf (KD w) fo S nS ∧ s'.heap.IsListIter it dl (i + 1) ∧ s'.gens[z.g]? = some .running := by
   intro s' wk;refine ⟨G.by (wk.outer hin) (wk.heap.ns G.ns fun o _ _ q => q.2.1 LC'), zaL hS fun o e hc _ => wk.heap.get e (by unfold hasCls; rw [hc]) fun q => q.2.1 fC', ?_, (wk.gens _ hin.g).trans run⟩;obtain ⟨o, e, hc, r⟩ := hit;exact ⟨o, wk.heap.get e (by unfold hasCls; rw [hc]) fun q => q.2.1 iC', hc, r⟩
  cases m' with
  | zero =>
   haveI hj : j = (zai gi).length := by omega
   refine F.stop hC2 hh2 (hr2.dlt) (.inl rfl) (by rw [hlen]; exact hj) (fun s' wk => ?_);obtain ⟨G', hS', hit', run'⟩ := gon s' wk;refine hSx2 _ _ _ ?_;rw [hj, drop_length, List.nil_append] at hn hpre hle;exact IH m n s₀ _ (lt_succ_self m) (hin1 _ _ _ _ (xi6 (i + 1) mm seen pre S nS ⟨by omega, hn, hpre, hle, hS', hSk, hnS, G', mM, mF, hit', run'⟩))
  | succ m' =>
   haveI hj : j < (zai gi).length := by omega
   obtain ⟨k0, n0, edd, ecut⟩ : ∃ k0 n0, (zbH gi)[j]? = some (zan (k0, n0)) ∧ (zai gi).drop j ++ (gs.drop (i + 1)).flatMap zai = (k0, n0) :: ((zai gi).drop (j + 1) ++ (gs.drop (i + 1)).flatMap zai) := ⟨_, _, by rw [zcP, getElem?_map, getElem?_eq_getElem hj]; rfl, by rw [drop_eq_getElem_cons hj]; rfl⟩;rw [ecut] at hn hpre hle;clear ecut;rw [length_cons] at hle;revert hen Iv2 Sx2 Fr2 A₂ n s₀ s j mm seen pre S nS m' k0 n0;refine za5 fun Q3 E3 hq3 => ?_;refine F.next hC2 hh2 (hr2.dlt) (.inl rfl) edd (fun v s' rd wk F' => ?_);obtain ⟨G', hS', hit', run'⟩ := gon s' wk;obtain ⟨ta, u, zz, rfl, pa, tup, ru, rz⟩ := rd.pairE;obtain ⟨tu, rfl⟩ := ru.strE;obtain ⟨tz, rfl⟩ := rz.intE;clear G hit run hS F hC2 gon wk rd ru rz pa
   (refine hq3 _ _ ?_; clear hq3)
   ext d;obtain ⟨h, gn, d, t', os⟩ := s';revert hen ta tu tz h gn d t' os;refine zb8 F'.gen ?_;refine za5 fun Q4 E4 hq4 => ?_;refine assign_Tuple_tuple hh2 tup rfl rfl (fun h5 he5 => ?_);dsimp only at he5 hit' run' hS' ⊢
   haveI ext5 := Ext.of_extBut he5
   letI G' := G'.ext (t' := t') ext5
   replace F' := F'.calm (Calm.ext (t' := t') ext5)
   haveI hit5 : h5.IsListIter it dl (i + 1) := let ⟨o, e, hc, r⟩ := hit'; ⟨o, ext5.get e (by unfold hasCls; rw [hc]) (by simp), hc, r⟩
   replace hS' := zaL hS' fun o e hc _ => ext5.get e (by unfold hasCls; rw [hc]) (by simp);clear tup he5 ext5 hit';ext assignInOrder_more assign_Name;refine wpAny_storeName_local rfl G'.ns (fun h6 hn6 hs6 => ?_) rfl;obtain ⟨oi, eoi, coi, doi⟩ := id hit5
   haveI hit6 := hit5.at fun o e => (hs6.2 it (Ne.symm (G'.ne eoi fun _ _ q => by rw [doi] at q; exact nomatch q))).trans e
   replace hS' := zaL hS' fun o e _ hd => (hs6.2 fo (Ne.symm (G'.ne e hd))).trans e
   letI G' := G'.store (t' := t') hn6 hs6
   replace F' := F'.calm (Calm.but (t' := t') LC' hs6.extBut (let ⟨o, _, _, e, _⟩ := G'.ns; ⟨o, e⟩));ext d;clear hn6 hs6 hit5 eoi coi doi h5;ext assignInOrder_more assign_Name;refine wpAny_storeName_local rfl G'.ns (fun h7 hn7 hs7 => ?_) rfl;obtain ⟨oi, eoi, coi, doi⟩ := id hit6
   haveI hit7 := hit6.at fun o e => (hs7.2 it (Ne.symm (G'.ne eoi fun _ _ q => by rw [doi] at q; exact nomatch q))).trans e
   letI hS' := zaL hS' fun o e _ hd => (hs7.2 fo (Ne.symm (G'.ne e hd))).trans e
   letI G' := G'.store (t' := t') hn7 hs7
   letI F' := F'.calm (Calm.but (t' := t') LC' hs7.extBut (let ⟨o, _, _, e, _⟩ := G'.ns; ⟨o, e⟩))
   ext d;clear hn7 hs7 hit6 eoi coi doi h6;ext assignInOrder_none
   (refine hq4 _ _ ?_; clear hq4)
   ext o.seg_execs_cons;refine zdt (za5 fun Q5 E5 hq5 => ?_);ext o.isTrue_plain;refine zaa G'.ns ((if_neg (by decide)).trans ((if_neg (by decide)).trans mM)) ?_;ext truthy_bool
   (refine hq5 _ _ ?_; clear hq5)
   rw [if_neg Bool.false_ne_true];ext o.seg_execs_cons;refine zdt (za5 fun Q5 E5 hq5 => ?_);ext isTrue_Compare1;refine zaa G'.ns ((if_neg (by decide)).trans (if_pos (by decide))) ?_;refine zaa G'.ns ((if_neg (by decide)).trans ((if_neg (by decide)).trans mF)) ?_;refine wpAny_notInSet_of (knd := KD w) (zbJ w k0 tu) rfl hS' ?_;ext truthy_bool
   (refine hq5 _ _ ?_; clear hq5)
   obtain ⟨oi, eoi, coi, doi⟩ := id hit7
   by_cases hk : k0 ∈ seen
   ·rw [if_neg (by rw [hSk k0, decide_eq_true hk]; decide)]
    have eu : zau seen ((k0, n0) :: ((zai gi).drop (j + 1) ++ (gs.drop (i + 1)).flatMap zai)) = zau seen ((zai gi).drop (j + 1) ++ (gs.drop (i + 1)).flatMap zai) := by
     conv => lhs; unfold zau
     rw [if_pos hk]
    rw [eu] at hn hpre;refine IH2 m' n s₀ _ (lt_succ_self m') (hin2 _ _ _ _ _ (xi6 (j + 1) _ seen pre S nS ⟨by omega, hn, hpre, by omega, hS', hSk, hnS, G'.toks, ?_, ?_, hit7, run', F'.calm (Calm.keeps fun _ _ e => e)⟩))
    ·exact (if_neg (by decide)).trans ((if_neg (by decide)).trans mM)
    ·exact (if_neg (by decide)).trans ((if_neg (by decide)).trans mF)
   rw [if_pos (by rw [hSk k0, decide_eq_false hk]; rfl)];have eu : zau seen ((k0, n0) :: ((zai gi).drop (j + 1) ++ (gs.drop (i + 1)).flatMap zai)) = (k0, n0) :: zau (k0 :: seen) ((zai gi).drop (j + 1) ++ (gs.drop (i + 1)).flatMap zai) := by
    conv => lhs; unfold zau
    rw [if_neg hk]
   rw [eu] at hn hpre;rw [length_cons] at hn;ext o.seg_execs_cons;refine zbM (za5 fun Q7 E7 hq7 => wpAny_Expr_any ?_);refine wpAny_Call_method rfl rfl rfl PySem.F.plainAttrs_set PySem.F.slot_set_add PySem.F.type_set_add ?_;refine zaa G'.ns ((if_neg (by decide)).trans ((if_neg (by decide)).trans mF)) ?_;refine ⟨hS'.typeIs, hS'.noDict, ?_⟩;ext o.call_bi items_cons;refine zaa G'.ns ((if_neg (by decide)).trans (if_pos (by decide))) ?_;ext items_nil;refine call_set_add (knd := KD w) (zbJ w k0 tu) rfl hS' (by show nS + 1 < 4096; omega) (fun h8 sb8 S8 => ?_);obtain ⟨so, eso, cso, dso⟩ := zaX hS'
   letI G' := G'.own (t' := t') (h' := h8) sb8.extBut eso dso (by rw [cso]; exact zhw) fB fC
   replace F' := F'.calm (Calm.but (t' := t') fC' sb8.extBut (let ⟨o, e, _⟩ := zaX S8; ⟨o, e⟩));have hit8 : h8.IsListIter it dl (i + 1) := ⟨oi, (sb8.2 it (Ne.symm fi)).trans eoi, coi, doi⟩;rw [if_neg (by rw [hSk k0, decide_eq_false hk]; decide)] at S8
   try dsimp only
   clear hit7 eoi hS' sb8 eso
   (refine hq7 _ _ ?_; clear hq7)
   ext o.seg_execs_cons;obtain ⟨n', en⟩ : ∃ n', n = n' + 1 := ⟨_, hn⟩;rw [en] at hn ⊢;refine seg_Expr_Yield gF2 rfl gF3 (za5 fun Q8 E8 hq8 => ?_);ext o.Tuple_ items_cons;refine zaa G'.ns ((if_neg (by decide)).trans (if_pos (by decide))) ?_;ext items_cons;refine zaa G'.ns ((if_pos (by decide))) ?_;ext items_nil;refine wpAny_newObj_type ?_ (by show (2 : Nat) ≤ sizeLine; decide)
   (refine hq8 _ _ ?_; clear hq8)
   intro kap hkap;ext d;have frs := G'.frs
   haveI k5 : zaz h8 (h8.push { cls := .type "tuple", data := .seq #[.str k0 tu, .int n0 tz] }) := fun b o e => get?_push_of_some _ e
   haveI G6 := G'.keeps (t' := t' + 1 + 1 + 1 + 1) k5
   refine ⟨zan (k0, n0), ?_, .tup frs ⟨_, get?_push_size _ rfl, rfl, 0, rfl⟩ rfl ?_, G6.turn, fun s'' cm => hkap .none s'' ?_⟩
   ·have := zdz (n' := n') hpre (by omega)
    unfold zc1;rw [length_map, getElem?_map, this]; rfl
   ·intro i' v' d' e1 e2
    match i', e1, e2 with
    | 0, e1, e2 => cases e1; cases e2; exact .str _ _
    | 1, e1, e2 => cases e1; cases e2; exact .int _ _
    | n + 2, e1, e2 => simp at e1
   ·ext d
    obtain ⟨ol, eol, col, dol⟩ := id hit8;have F6 := F'.calm (Calm.keeps (t' := t' + 1 + 1 + 1 + 1) k5);refine IH2 m' n' s'' s'' (lt_succ_self m') (hin2 _ _ _ _ _ (xi6 (j + 1) _ (k0 :: seen) (pre ++ [(k0, n0)]) _ _ ⟨by omega, by omega, by rw [hpre, List.append_assoc]; rfl, by rw [length_cons]; omega, zaL S8 fun o e hc _ => cm.kept (k5 _ _ e) (by rw [hc]; exact zhw) fB fC, fun k => by rw [hSk k, Bool.or_comm]; simp only [mem_cons, Bool.decide_or], by rw [length_cons]; omega, G6.woken cm, ?_, ?_, ⟨ol, cm.kept (k5 _ _ eol) (by rw [col]; exact zeH) iB iC, col, dol⟩, (cm.gens z.g (le_refl _)).trans run', F6.calm (cm.inner hin ?_)⟩))
    ·exact (if_neg (by decide)).trans ((if_neg (by decide)).trans mM)
    ·exact (if_neg (by decide)).trans ((if_neg (by decide)).trans mF)
    ·intro c' q n' o e
     rw [z'C] at q;rcases mem_cons.mp q with rfl | q
     ·obtain ⟨o', es', ep', e', hd', _⟩ := G6.ns
      exact ⟨G6.L.1, .inl (.inl ⟨es', ep', by rw [show o = o' from Option.some.inj (e.symm.trans e')]; exact hd'⟩)⟩
     ·rcases mem_cons.mp q with rfl | q
      ·refine ⟨iB, .inl (.inr ?_)⟩
       rw [show o = ol from Option.some.inj (e.symm.trans (k5 _ _ eol)), col]; exact zeH
      ·rcases mem_cons.mp q with rfl | q
       ·obtain ⟨so, eso, cso, dso⟩ := zaX S8
        refine ⟨fB, .inl (.inr ?_)⟩;rw [show o = so from Option.some.inj (e.symm.trans (k5 _ _ eso)), cso]; exact zhw
       ·exact absurd q n'
end
section
theorem RdP.keepS {p : Addr → Prop} {d : PyData} (x : RdP p h v d) (k : ∀ a o, p a → h.get? a = some o → (o.cls = .type "list" ∨ o.cls = .type "tuple") → (∀ es n, o.data ≠ .dict es n) → h'.get? a = some o) : RdP p h' v d := by
 induction x with
 | int i t => exact .int i t
 | str x t => exact .str x t
 | list h1 h2 h3 _ ih =>
  obtain ⟨o, e, hc, n, hd⟩ := h2;exact .list h1 ⟨o, k _ _ h1 e (.inl hc) (fun _ _ q => by rw [hd] at q; cases q), hc, n, hd⟩ h3 ih
 | tup h1 h2 h3 _ ih =>
  obtain ⟨o, e, hc, n, hd⟩ := h2;exact .tup h1 ⟨o, k _ _ h1 e (.inr hc) (fun _ _ q => by rw [hd] at q; cases q), hc, n, hd⟩ h3 ih
theorem RdP.imp {p q : Addr → Prop} {d : PyData} (x : RdP p h v d) (k : ∀ a o, p a → h.get? a = some o → q a) : RdP q h v d := by
 induction x with
 | int i t => exact .int i t
 | str x t => exact .str x t
 | list h1 h2 h3 _ ih => exact .list (let ⟨o, e, _⟩ := h2; k _ _ h1 e) h2 h3 ih
 | tup h1 h2 h3 _ ih => exact .tup (let ⟨o, e, _⟩ := h2; k _ _ h1 e) h2 h3 ih
theorem RowP.keepS {p : Addr → Prop} (x : RowP p h vs ds) (k : ∀ a o, p a → h.get? a = some o → (o.cls = .type "list" ∨ o.cls = .type "tuple") → (∀ es n, o.data ≠ .dict es n) → h'.get? a = some o) : RowP p h' vs ds :=
 ⟨x.1, fun i v d e1 e2 => (x.2 i v d e1 e2).keepS k⟩
structure Took (z : Zone) (s s' : Shared) : Prop where
 heap : ExtP z.gm s.heap s'.heap
 bare : zaT s.gens → zaT s'.gens
 drawn : s'.drawn = s.drawn
 os : s'.os = s.os
theorem za8 (hc : o.cls = .type "list" ∨ o.cls = .type "tuple") (hd : ∀ es n, o.data ≠ .dict es n) : ¬ z.gm a o := by
 rintro ⟨_, _, ⟨es, n, q⟩ | q⟩
 ·exact hd _ _ q
 ·rcases hc with hc | hc <;> (rw [hc] at q; exact absurd q (by decide))
theorem zbp {n : String} (h : o.cls = .type n) : hasCls o = true := by unfold hasCls; rw [h]
section
structure TookS (z : Zone) (S : Addr) (s s' : Shared) : Prop where
 heap : ExtP (fun a o => z.gm a o ∨ a = S) s.heap s'.heap
 bare : zaT s.gens → zaT s'.gens
 drawn : s'.drawn = s.drawn
 os : s'.os = s.os
theorem TookS.trans (ht : ∀ b ∈ zco, ∀ o, ¬ (z.gm b o ∨ b = S)) (x : TookS z S s s') (y : TookS z S s' s'') : TookS z S s s'' :=
 ⟨x.heap.trans y.heap ht, fun b => y.bare (x.bare b), y.drawn.trans x.drawn, y.os.trans x.os⟩
theorem TookS.of_woke (x : Woke z s s') : TookS z S s s' := ⟨x.heap.mono fun _ _ q => .inl q, x.bare, x.drawn, x.os⟩
theorem TookS.of_but {g d t t' os} (x : Heap.ExtBut S h h') : TookS z S ⟨h, g, d, t, os⟩ ⟨h', g, d, t', os⟩ := ⟨.but x fun _ _ => .inr rfl, id, rfl, rfl⟩
theorem zbc (ok : z.Ok) (hS : 604 ≤ S) : ∀ b ∈ zco, ∀ o, ¬ (z.gm b o ∨ b = S) := fun b hb o q => by
 rcases q with q | rfl
 ·exact ok.gm_tabs b hb o q
 ·exact absurd (zbV hb) (not_lt.mpr hS)
theorem zdP {res : Value} (hh : A.handled = none) (hA : Rm 500 A) (hfin : fin = .ok (.ret .none) ∨ fin = .ok .next) (hz : all.length ≤ 1000) (hS : z.b0 ≤ S) (hC : z.C = []) (hSB : z.B ≤ S) :
  ∀ (m j : Nat) (s : Shared) (ys : Array Value) (ny : Nat), m + j = all.length → Feed w A.in1 z fin a all j s → s.heap.get? S = some (zad ys ny) → RowP (fun x => z.B ≤ x ∧ x ≠ S) s.heap ys (all.take j) →
  (∀ s' ys' ny', TookS z S s s' → s'.heap.get? S = some (zad ys' ny') → RowP (fun x => z.B ≤ x ∧ x ≠ S) s'.heap ys' all → R (.ok (.ret res)) s') →
  codeAny (model P w) A (.builtin "list.extend.loop" ⟨[.ref S, .ref a, res], []⟩) R s := by
 intro m
 induction m with
 | zero =>
  intro j s ys ny hm F eS row hR;have hj : j = all.length := by omega
  refine codeAny_builtin PySem.F.entry_extend_loop ?_;rw [Around.under_plainId PySem.F.plain_extend_loop];unfold Builtin.«list.extend.loop»;refine wpAny_bind (F.stop (fun c q => by rw [hC] at q; cases q) hh (hA.in1.dlt) hfin hj (fun s' wk => ?_));ext pure;have nS : ∀ o, s.heap.get? S = some o → ¬ z.gm S o := fun o e => by rw [e] at eS; cases eS; exact za8 (.inl rfl) (fun _ _ q => nomatch q)
  refine hR s' ys ny (.of_woke wk) (wk.heap.get eS rfl (nS _ eS)) ?_;rw [hj, take_length] at row;exact row.keepS fun b o _ e hc hd => wk.heap.get e (by rcases hc with hc | hc <;> exact zbp hc) (za8 hc hd)
 | succ m ih =>
  intro j s ys ny hm F eS row hR;have hj : j < all.length := by omega
  refine codeAny_builtin PySem.F.entry_extend_loop ?_;rw [Around.under_plainId PySem.F.plain_extend_loop];unfold Builtin.«list.extend.loop»;refine wpAny_bind (F.next (fun c q => by rw [hC] at q; cases q) hh (hA.in1.dlt) hfin (getElem?_eq_getElem hj) (fun v s' rd wk F' => ?_));have nS : ∀ o, s.heap.get? S = some o → ¬ z.gm S o := fun o e => by rw [e] at eS; cases eS; exact za8 (.inl rfl) (fun _ _ q => nomatch q)
  have eS' := wk.heap.get eS rfl (nS _ eS);have row' := row.keepS fun b o _ e hc hd => wk.heap.get e (by rcases hc with hc | hc <;> exact zbp hc) (za8 hc hd);have rd' : RdP (fun x => z.B ≤ x ∧ x ≠ S) s'.heap v all[j] := rd.imp fun b o q e => ⟨q.1, fun r => by rw [r] at q; exact nS _ eS (q.2.2 _ eS)⟩;have row2 := row'.snoc rd';have hys : ys.size ≤ 1000 := by rw [row.1, length_take]; omega
  have tw : TookS z S s s' := .of_woke wk;have ok := F'.ok;clear F rd rd' row row' nS eS wk;obtain ⟨h, gn, d, t, os⟩ := s';dsimp only at eS' row2;ext bind;show wpAny _ _ (updateSeq S (·.push v)) _ _ _;refine wpAny_updateSeq (hz := by rw [sizeLine_eq]; omega) eS' rfl ?_;obtain ⟨n', e⟩ : ∃ n', Obj.mapSeq (·.push v) (zad ys ny) = zad (ys.push v) n' := ⟨_, rfl⟩;have sb : Heap.SameBut S h (h.update S (Obj.mapSeq (·.push v))) := Heap.SameBut.update ..;have e2 : (h.update S (Obj.mapSeq (·.push v))).get? S = some (zad (ys.push v) n') := by rw [← e]; exact get?_update_self _ eS' rfl
  dsimp only at sb e2 ⊢;generalize h.update S (Obj.mapSeq (·.push v)) = h2 at sb e2 ⊢;refine wpAny_pure ⟨plainId_quiet PySem.F.plain_extend_loop _, ih (j + 1) _ _ n' (by omega) (F'.calm (Calm.list hS sb.extBut ⟨_, e2⟩ fun o q => by rw [q] at eS'; cases eS'; exact ⟨rfl, fun _ _ q => nomatch q⟩)) e2 ?_ (fun s'' ys' ny' tk e' r' => hR s'' ys' ny' (.trans (zbc ok (le_trans ok.low hS)) (.trans (zbc ok (le_trans ok.low hS)) tw (.of_but sb.extBut)) tk) e' r')⟩;have : all.take (j + 1) = all.take j ++ [all[j]] := by rw [take_succ_eq_append_getElem hj]
  rw [this];exact row2.keepS fun b o q e _ _ => (sb.2 b q.2).trans e
theorem zdd (hh : A.handled = none) (hA : Rm 490 A) (hfin : fin = .ok (.ret .none) ∨ fin = .ok .next) (hz : all.length ≤ 1000) (hC : z.C = [])
  (F : Feed w A.in1.in1 z fin a all 0 s)
  (hQ : ∀ s' S ys, Took z s s' → LsAt z.B s'.heap S ys all → Q (.ref S) s') :
  wpAny (model P w) A (call (.type "list") [.ref a]) Q E s := by
 unhygienic
 revert hen w A E z fin a all s Q;refine callType_codes (Q₁ := fun obj s₁ => obj = .ref s.heap.objs.size ∧ s₁ = { s with heap := s.heap.push { cls := .type "list", data := .seq #[] } }) PySem.F.called_list (PySem.F.typeCall_list_1 _) PySem.F.entry_list_init
  (code_list_new _ ⟨rfl, rfl⟩) fun obj s₁ h₁ => ?_
 obtain ⟨rfl, rfl⟩ := h₁;obtain ⟨h, gn, d, t, os⟩ := s;have ok := F.ok
 haveI lS : z.B ≤ h.objs.size := by obtain ⟨o, _, _, e, _⟩ := F.gen; exact le_trans F.own.1 (le_of_lt (lt_size e))
 have hT := F.gen.typeIs
 haveI hS : (h.push { cls := .type "list", data := .seq #[] }).get? h.objs.size = some (zad #[] 0) := get?_push_size _ rfl
 have k1 : zaz h (h.push { cls := .type "list", data := .seq #[] }) := fun b o e => get?_push_of_some _ e;have F1 := F.calm (Calm.keeps (t' := t) k1);have fS : h.get? h.objs.size = none := zag _;ext d;revert hen h gn d t os;refine ⟨⟨_, hS, rfl⟩, PySem.F.args_list_init_2 _ _, ?_⟩;have aS : h.objs.size ≠ a := by obtain ⟨o, _, _, e, _⟩ := F.gen; exact ne_of_gt (lt_size e)
 generalize h.objs.size = S at hS fS lS aS ⊢;generalize h.push { cls := .type "list", data := .seq #[] } = h1 at hS k1 F1 ⊢;have lst : ∀ {h' : Heap} {ys : Array Value} {n : Nat}, h'.get? S = some (zad ys n) → ∀ o, h'.get? S = some o → o.cls = .type "list" ∧ ∀ es n, o.data ≠ .dict es n := fun e o q => by rw [e] at q; cases q; exact ⟨rfl, fun _ _ q => nomatch q⟩
 haveI b0S : z.b0 ≤ S := le_trans ok.le lS
 show wpAny _ _ (do let old ← Builtin.List.listItems (.ref S); Builtin.List.listUpdate (.ref S) (fun _ => #[]); letGo old.toList.reverse; Builtin.List.listExtendWith (.ref S) (.ref a) .none) _ _ _;ext bind;unfold Builtin.List.listItems;refine wpAny_bind (wpAny_seqItems hS rfl (wpAny_pure ?_));ext bind;show wpAny _ _ (updateSeq S (fun _ => #[])) _ _ _;refine wpAny_updateSeq hS rfl ?_;have s2 : Heap.SameBut S h1 (h1.update S (Obj.mapSeq (fun _ => (#[] : Array Value)))) := Heap.SameBut.update ..;obtain ⟨n2, e2⟩ : ∃ n2, (h1.update S (Obj.mapSeq (fun _ => (#[] : Array Value)))).get? S = some (zad #[] n2) := ⟨_, get?_update_self _ hS rfl⟩
 haveI F2 := F1.calm (Calm.list (t' := t) b0S s2.extBut ⟨_, e2⟩ (lst hS))
 ext d;generalize h1.update S (Obj.mapSeq (fun _ => (#[] : Array Value))) = h2 at s2 e2 F2 ⊢;refine wpAny_bind (wpAny_letGo ?_);unfold Builtin.List.listExtendWith;have hT2 := F2.gen.typeIs;refine wpAny_bind (wpAny_typeOf hT2 ?_);have q1 : Builtin.List.listSameRef (.ref S) (.ref a) = false := by simp [Builtin.List.listSameRef, aS]
 have q2 : (Value.type "generator" == Value.type "list") = false := by decide
 have q3 : (Value.type "generator" == Value.type "tuple") = false := by decide
 simp -iota only [q1, q2, q3, Bool.or_false, false_eq_true, if_false];refine wpAny_bind (wpAny_pyIter_gen F2.gen ?_);refine wpAny_bind (wpAny_holding ?_);unfold Builtin.List.listLengthHint;refine wpAny_bind (wpAny_specialOf hT2 PySem.F.gen_no_len ?_);show wpAny _ _ (specialOf (Value.ref a) (Str.ofString "__length_hint__") >>= _) _ _ _;refine wpAny_bind (wpAny_specialOf hT2 PySem.F.gen_no_hint ?_);ext pure;show wpAny _ _ (rule "list.extend.makes-room" >>= fun _ => Builtin.List.listTouch (.ref S) >>= fun _ => again (.builtin "list.extend.loop" ⟨[.ref S, .ref a, .none], []⟩)) _ _ _;refine wpAny_bind (wpAny_rule ?_);ext bind;show wpAny _ _ (updateSeq S (·.push .none) >>= fun _ => updateSeq S (·.pop)) _ _ _;refine wpAny_bind (wpAny_updateSeq e2 rfl ?_);have s3 : Heap.SameBut S h2 (h2.update S (Obj.mapSeq (·.push Value.none))) := Heap.SameBut.update ..;obtain ⟨n3, e3⟩ : ∃ n3, (h2.update S (Obj.mapSeq (·.push Value.none))).get? S = some (zad #[.none] n3) := ⟨_, get?_update_self _ e2 rfl⟩;have F3 := F2.calm (Calm.list (t' := t) b0S s3.extBut ⟨_, e3⟩ (lst e2));ext d;generalize h2.update S (Obj.mapSeq (·.push Value.none)) = h3 at s3 e3 F3 ⊢;refine wpAny_updateSeq (hz := by show (1 : Nat) ≤ sizeLine; decide) e3 rfl ?_;have s4 : Heap.SameBut S h3 (h3.update S (Obj.mapSeq (·.pop))) := Heap.SameBut.update ..;obtain ⟨n4, e4⟩ : ∃ n4, (h3.update S (Obj.mapSeq (·.pop))).get? S = some (zad #[] n4) := ⟨_, get?_update_self _ e3 rfl⟩;have F4 := F3.calm (Calm.list (t' := t) b0S s4.extBut ⟨_, e4⟩ (lst e3));ext d;generalize h3.update S (Obj.mapSeq (·.pop)) = h4 at s4 e4 F4 ⊢;refine wpAny_pure ⟨plainId_quiet PySem.F.plain_extend_loop _, ?_⟩;refine zdP (A := A.in1) (z := z) hh (hA.in1.mono (by decide)) hfin hz b0S hC lS all.length 0 _ _ n4 (Nat.add_zero _) F4 e4 ⟨rfl, fun i v d e1 => by simp at e1⟩ (fun s' ys' ny' tk e' r' => ?_)
 haveI tab := zbc ok (le_trans ok.low b0S)
 have t1 : ExtP (fun x o => z.gm x o ∨ x = S) h h4 := ((((ExtP.of (.of_keeps k1)).trans (.but s2.extBut fun _ _ => .inr rfl) tab).trans (.but s3.extBut fun _ _ => .inr rfl) tab).trans (.but s4.extBut fun _ _ => .inr rfl) tab);have t2 := t1.trans tk.heap tab;refine ⟨rfl, hQ s' S ys' ⟨⟨fun b o e n => t2.keep b o e fun q => q.elim n fun q => by rw [q, fS] at e; cases e⟩, tk.bare, tk.drawn, tk.os⟩ ?_⟩;exact (r'.rd fun x q => q.1).at e' lS
end
end
section
section
variable {g : Grp} {ns : List Int}
theorem GL.pushL (x : GL b h kvs g) (hk : k ∉ kvs.map (·.1)) (ha : IL b h a ns) (hf : ∀ (i : Nat) (k' : Str) (a' : Addr), kvs[i]? = some (k', .ref a') → a' ≠ a) : GL b h (kvs ++ [(k, .ref a)]) (zdL g k ns) := by
 have e0 : zdL g k ns = g ++ [(k, ns)] := by unfold zdL; rw [if_neg (by rw [← x.keys]; exact hk)]
 rw [e0];refine ⟨by simp [x.len], fun i k' v e => ?_, fun i j k₁ k₂ a' e1 e2 => ?_⟩
 ·rcases lt_or_ge i kvs.length with z | z
  ·rw [getElem?_append_left z] at e
   obtain ⟨ns', a', e1, e2⟩ := x.at_ i k' v e;exact ⟨ns', a', by rw [getElem?_append_left (by rw [← x.len]; exact z)]; exact e1, e2⟩
  ·rw [getElem?_append_right z] at e
   cases q : i - kvs.length with
   | succ m => rw [q] at e; simp at e
   | zero =>
    rw [q] at e;simp at e;obtain ⟨rfl, rfl⟩ := e;exact ⟨ns, a, by rw [getElem?_append_right (by rw [← x.len]; exact z), ← x.len, q]; rfl, rfl, ha⟩
 ·have key : ∀ {i : Nat} {k' : Str} {a' : Addr}, (kvs ++ [(k, Value.ref a)])[i]? = some (k', .ref a') → (kvs[i]? = some (k', .ref a')) ∨ (i = kvs.length ∧ a' = a) := by
   intro i k' a' e;rcases lt_or_ge i kvs.length with z | z
   ·rw [getElem?_append_left z] at e; exact .inl e
   ·rw [getElem?_append_right z] at e
    cases q : i - kvs.length with
    | succ m => rw [q] at e; simp at e
    | zero => rw [q] at e; simp at e; exact .inr ⟨by omega, e.2.symm⟩
  rcases key e1 with z1 | ⟨z1, w1⟩ <;> rcases key e2 with z2 | ⟨z2, w2⟩
  ·exact x.inj i j k₁ k₂ a' z1 z2
  ·exact absurd w2 (hf _ _ _ z1)
  ·exact absurd w1 (hf _ _ _ z2)
  ·rw [z1, z2]
theorem GL.appL (x : GL b h kvs g) (nd : (kvs.map (·.1)).Nodup) {i : Nat} {ms : List Int} (ei : kvs[i]? = some (k, .ref a)) (gi : g[i]? = some (k, ms)) (sb : Heap.SameBut a h h') (ha : IL b h' a (ms ++ ns)) : GL b h' kvs (zdL g k ns) := by
 unhygienic
 revert hen b h h' kvs g k ns i a ms
 haveI hk : k ∈ g.map (·.1) := by rw [← x.keys]; exact mem_map_of_mem (f := (·.1)) (mem_of_getElem? ei)
 haveI e0 : zdL g k ns = g.map (fun p => if p.1 = k then (p.1, p.2 ++ ns) else p) := by unfold zdL; rw [if_pos hk]
 rw [e0];refine ⟨by simp [x.len], fun j k' v e => ?_, x.inj⟩;obtain ⟨ns', a', e1, rfl, e3⟩ := x.at_ j k' v e
 by_cases hij : j = i
 ·subst hij
  rw [ei] at e; cases e;rw [gi] at e1; cases e1;refine ⟨ms ++ ns, a, ?_, rfl, ha⟩;rw [getElem?_map, gi]; simp
 ·have hkk : k' ≠ k := by
   rintro rfl;obtain ⟨l1, q1⟩ := List.getElem?_eq_some_iff.mp e;obtain ⟨l2, q2⟩ := List.getElem?_eq_some_iff.mp ei;refine hij ((List.getElem_inj (xs := kvs.map (·.1)) (i := j) (j := i) (h₀ := by rw [length_map]; exact l1) (h₁ := by rw [length_map]; exact l2) nd).mp ?_);rw [getElem_map, getElem_map, q1, q2]
  haveI haa : a' ≠ a := fun q => hij (x.inj j i k' k a (by rw [e, q]) ei)
  refine ⟨ns', a', ?_, rfl, e3.sb sb haa⟩;rw [getElem?_map, e1]; simp [hkk]
theorem GL.p {mod : Addr → Obj → Prop} (x : GL b h kvs g) (e : ExtP mod h h') (hm : ∀ a vs n, h.get? a = some (zad vs n) → ¬ mod a (zad vs n)) : GL b h' kvs g := by
 refine ⟨x.len, fun i k v q => ?_, x.inj⟩;obtain ⟨ns, a, e1, e2, hb, vs, n, e3, ia⟩ := x.at_ i k v q;exact ⟨ns, a, e1, e2, hb, vs, n, e.get e3 rfl (hm a vs n e3), ia⟩
end
theorem zfK {n : Nat} : ¬ z.gm a (zad vs n) := za8 (.inl rfl) fun _ _ q => nomatch q
theorem RdP.intsE {p : Addr → Prop} {ns : List Int} (r : RdP p h u (.list (ns.map PyData.int))) : ∃ a vs, u = .ref a ∧ p a ∧ h.IsList a vs ∧ IntsAre vs.toList ns := by
 cases r with
 | list h1 h2 h3 h4 =>
  rename_i a vs
  refine ⟨a, vs, rfl, h1, h2, ?_⟩;have hl : vs.toList.length = ns.length := by rw [length_toList, h3, length_map]
  have hv : ∀ (i : Nat) (v : Value) (n : Int), vs.toList[i]? = some v → ns[i]? = some n → ∃ t, v = Value.int n t := fun i v n e1 e2 => (h4 i v (.int n) (by rwa [← getElem?_toList]) (by rw [getElem?_map, e2]; rfl)).intE;clear h1 h2 h3 h4;generalize vs.toList = l at hl hv
  induction l generalizing ns with
  | nil =>
   cases ns with
   | nil => exact .nil
   | cons n ns => simp at hl
  | cons v l ih =>
   cases ns with
   | nil => simp at hl
   | cons n ns =>
    obtain ⟨t, rfl⟩ := hv 0 v n rfl rfl;exact .cons n t (ih (by simpa using hl) fun i v n e1 e2 => hv (i + 1) v n (by simpa using e1) (by simpa using e2))
theorem Me.took {mod : List Addr} (D : Me mod h₀ h L m []) (ok : z.Ok) (x : ExtP z.gm h h') (hb : h₀.objs.size ≤ z.B) (hL : L < z.B ∨ L ∈ z.C) (hm : ∀ a ∈ mod, a < z.B ∨ a ∈ z.C) : Me mod h₀ h' L m [] := by
 have no : ∀ {a : Addr}, a < z.B ∨ a ∈ z.C → ∀ o, ¬ z.gm a o := fun q o r => q.elim (fun q => absurd q (not_lt.mpr r.1)) r.2.1;exact ⟨Ext.p D.ext x (fun a o o' e _ _ => no (.inl (lt_of_lt_of_le (lt_size e) hb)) _) ok.gm_tabs (fun a q o e => x.still e (no (hm a q) _)), x.ns D.ns fun o _ _ => no hL _, fun _ q => (nomatch q), nodup_nil, fun _ q => (nomatch q), fun _ q => (nomatch q), D.offL⟩
theorem zds {l : Addr} {n : Nat} (hl : s.heap.get? l = some (zad vs n)) (hb : s.heap.IsList b us) (hz : vs.size + us.size ≤ 1000)
  (q : ∀ h' n', h'.get? l = some (zad (vs ++ us) n') → Heap.SameBut l s.heap h' → Q .none { s with heap := h' }) : wpAny (model P w) A (call (.builtin "list.extend") [.ref l, .ref b]) Q E s := by
 unhygienic
 revert hen w A E s l b vs us n Q;obtain ⟨ob, eb, cb, m, db⟩ := hb;have hT : s.TypeIs (.ref b) "list" := ⟨ob, eb, cb⟩;refine wpAny_call_entry PySem.F.slot_list_extend (show s.TypeIs (.ref l) "list" from ⟨_, hl, rfl⟩) PySem.F.entry_list_extend ?_ (PySem.F.args_list_extend_2 _ _);show wpAny _ _ (Builtin.List.listExtendWith (.ref l) (.ref b) .none) _ _ s;unfold Builtin.List.listExtendWith;refine wpAny_bind (wpAny_typeOf hT ?_);rw [if_pos (by simp)];unfold Builtin.List.listItems;refine wpAny_bind (wpAny_bind (wpAny_seqItems eb db (wpAny_pure (wpAny_bind (wpAny_bind (wpAny_seqItems hl rfl (wpAny_pure ?_)))))));have long : Builtin.List.listTooLong (vs.size + us.size) = false := by
  unfold Builtin.List.listTooLong;rw [sizeLine_eq];simp;omega
 ext d;rw [long, Bool.and_false];simp only [false_eq_true, if_false];ext bind;show wpAny _ _ (updateSeq l (· ++ us)) _ _ _;obtain ⟨n', e⟩ : ∃ n', Obj.mapSeq (fun x => x ++ us) (zad vs n) = zad (vs ++ us) n' := ⟨_, rfl⟩;refine wpAny_updateSeq (hz := by rw [sizeLine_eq]; omega) hl rfl (wpAny_pure ⟨.none, rfl, q _ n' ?_ (Heap.SameBut.update ..)⟩);rw [← e];exact get?_update_self _ hl rfl
end
section
def zay (r g : Grp) : Grp := g.foldl (fun r p => zdL r p.1 p.2) r
def zaI (gs : List Grp) : Grp := gs.foldl zay []
theorem zfR {g : Grp} {k : Str} {ns : List Int} {m : Nat} (h : ∀ p ∈ g, p.2.length ≤ m) (hn : ns.length ≤ c) : ∀ p ∈ zdL g k ns, p.2.length ≤ m + c := by
 intro p hp;unfold zdL at hp
 split at hp
 ·obtain ⟨q, hq, rfl⟩ := mem_map.mp hp
  have := h q hq
  split <;> simp <;> omega
 ·rcases mem_append.mp hp with hp | hp
  ·have := h p hp; omega
  ·rw [mem_singleton.mp hp]; show ns.length ≤ m + c; omega
theorem zdB (I : DD w h x (.type "dict") none kvs es ep) (hx : (x == sysModules) = false)
  (hq : Q (.ref h.objs.size) ⟨h.push (zbU x), g, d, t, os⟩) : wpAny (model P w) A (call (.builtin "dict.items") [.ref x]) Q E ⟨h, g, d, t, os⟩ := by
 unhygienic
 revert hen w A E h g d t os x kvs es ep Q;have hI := I.at_;have hT : (⟨h, g, d, t, os⟩ : Shared).TypeIs (.ref x) "dict" := ⟨_, hI, rfl⟩;have L : Looks (model P w) h (typeOf (.ref x)) (.type "dict") := (Looks.ld hI).andThen .now;have L1 : Looks (model P w) h (isInstance (.ref x) (.type "collections.OrderedDict")) false := L.andThen (Looks.of_pure (by rw [isSubtype_type]; kernel_rfl));have L2 : Looks (model P w) h (isSubtype (.type "dict") (.type "collections.OrderedDict")) false := Looks.of_pure (by rw [isSubtype_type]; kernel_rfl);refine wpAny_call_entry PySem.F.slot_dict_items hT PySem.F.entry_dict_items ?_ (PySem.F.args_dict_items_1 _);unfold Builtin.«dict.items»
 repeat (first | simp only [hx, false_eq_true, if_false] | lk)
 exact ⟨_, rfl, hq⟩
def clists_spec.ST (w : World) (A : Around) (s : Shared) (R : Result → Shared → Prop) (x dx dl b : Addr) (gs : List Grp) (hsh : Int) (t : Tok) (n c ep : Nat) (vs : Array Value) (es : Array DictEntry) : Prop :=
 ∀ (hA : Rm 450 A) (hh : A.handled = none) (T : TopH w s.heap) (X : WH w b s.heap x gs dx dl hsh t n c vs es ep) (hlow : 604 ≤ b) (hg : ∀ g ∈ gs, g.length ≤ 6) (hv : ∀ g ∈ gs, ∀ p ∈ g, p.2.length ≤ 6) (hn : gs.length ≤ 5) (hR : ∀ h' gn' tk v rv kvs es ep, Ext [] s.heap h' → (zaT s.gens → zaT gn') → h'.get? v = some (zbU rv) → DD w h' rv (.type "dict") none kvs es ep → GL s.heap.objs.size h' kvs (zaI gs) → s.heap.objs.size ≤ rv →
   R (.ok (.ret (.ref v))) ⟨h', gn', s.drawn, tk, s.os⟩), codeAny (model P w) A (.call (.ref 522) ⟨[.ref x], []⟩) R s
def clists_spec.CT := hen ((U<|U<|U<|U<|U<|U<|U<|U<|U<|U<|U<|U<|U<|U<|U<|I0) clists_spec.ST) (dW, dA, dS, fun _ _ => True, 0, 0, 0, 0, [], 0, 0, 0, 0, 0, #[], #[])
def clists_spec.wK := clists_spec.CT.1
def clists_spec.AK := clists_spec.CT.2.1
def clists_spec.sK := clists_spec.CT.2.2.1
def clists_spec.xK := clists_spec.CT.2.2.2.2.1
def clists_spec.dlK := clists_spec.CT.2.2.2.2.2.2.1
def clists_spec.bK := clists_spec.CT.2.2.2.2.2.2.2.1
def clists_spec.gsK := clists_spec.CT.2.2.2.2.2.2.2.2.1
def clists_spec.nK := clists_spec.CT.2.2.2.2.2.2.2.2.2.2.2.1
def clists_spec.cK := clists_spec.CT.2.2.2.2.2.2.2.2.2.2.2.2.1
def clists_spec.epK := clists_spec.CT.2.2.2.2.2.2.2.2.2.2.2.2.2.1
def clists_spec.vsK := clists_spec.CT.2.2.2.2.2.2.2.2.2.2.2.2.2.2.1
def clists_spec.esK := clists_spec.CT.2.2.2.2.2.2.2.2.2.2.2.2.2.2.2
theorem clists_spec.core : ST wK AK sK CT.2.2.2.1 xK CT.2.2.2.2.2.1 dlK bK gsK CT.2.2.2.2.2.2.2.2.2.1 CT.2.2.2.2.2.2.2.2.2.2.1 nK cK epK vsK esK := by
 intro hA hh T X hlow hg hv hn hR;refine zbw [(Str.ofString "self", .ref xK)] hA T (by rfl) (by rfl) (by rfl) (by rfl) (BindsTo.of_eq rfl) (by decide) (locs rfl) fun h₁ D hA' hh' => ?_;replace hh' := hh'.trans hh;generalize hA1 : AK.deeper _ = A₁ at hA' hh' ⊢;clear hA1;refine za5 fun Q0 E0 hQ => ?_;refine zcg fun Q1 E1 h1 => ?_;ext Assign_Name Dict_empty;have Dd := DD.new (w := wK) h₁;have frv : sK.heap.get? h₁.objs.size = none := D.fresh;have lrv : sK.heap.objs.size ≤ h₁.objs.size := le_of_lt D.ns.lt;have nrv : sK.heap.objs.size ≠ h₁.objs.size := ne_of_lt D.ns.lt;replace D := D.call (Ext.push h₁ { cls := .type "dict", data := .dict #[] });ext d;change wpAny _ _ _ _ _ ⟨h₁.push { cls := .type "dict", data := .dict #[] }, _, _, _, _⟩;generalize h₁.objs.size = rv at Dd frv lrv nrv ⊢;generalize h₁.push { cls := .type "dict", data := .dict #[] } = h2 at D Dd ⊢;clear h₁;refine wpAny_storeName_local rfl D.ns (fun h3 hn3 hs3 => ?_) rfl;replace D := D.store hn3 hs3;replace Dd := Dd.get (hs3.2 _ (Ne.symm nrv));ext d;clear hn3 hs3 h2;refine h1 _ ?_;refine zcg fun Q1 E1 h1 => ?_;ext For o.Attribute_Name_;refine zaa (Me.ns (by assumption)) (by first | assumption | rfl) ?_;have T3 := D.top T (by simp);have X3 := X.ext0 D.ext;refine zaM T3 X3 ?_;refine wpAny_pyIter_list ⟨_, X3.ls, rfl, cK, rfl⟩ ?_;have fit : sK.heap.get? h3.objs.size = none := D.fresh;have nit : sK.heap.objs.size ≠ h3.objs.size := ne_of_lt D.ns.lt;have lit0 : sK.heap.objs.size ≤ h3.objs.size := le_of_lt D.ns.lt;have hit : (h3.push { cls := .type "list_iterator", data := .fields #[.ref dlK, .int 0 0] }).IsListIter h3.objs.size dlK 0 := ⟨_, get?_push_size _ rfl, rfl, rfl⟩;replace Dd := Dd.keeps fun bK o e => get?_push_of_some { cls := .type "list_iterator", data := .fields #[.ref dlK, .int 0 0] } e;replace D := D.call (Ext.push h3 { cls := .type "list_iterator", data := .fields #[.ref dlK, .int 0 0] });ext d;generalize h3.objs.size = it at fit nit hit lit0 ⊢;generalize h3.push { cls := .type "list_iterator", data := .fields #[.ref dlK, .int 0 0] } = h4 at D Dd hit ⊢;clear X3 T3 h3;refine opq (p := fun (n' : Nat) (s' : Shared) => ∃ i h' gn' tk' m kvs esK epK, n' + i = gsK.length ∧ s' = ⟨h', gn', sK.drawn, tk', sK.os⟩ ∧ (zaT sK.gens → zaT gn') ∧ Me [] sK.heap h' sK.heap.objs.size m [] ∧ m "self" = some (.ref xK) ∧ m "rv" = some (.ref rv) ∧
  h'.IsListIter it dlK i ∧ DD wK h' rv (.type "dict") none kvs esK epK ∧ GL sK.heap.objs.size h' kvs ((gsK.take i).foldl zay []) ∧ kvs.length ≤ 6 * i ∧ ∀ p ∈ (gsK.take i).foldl zay [], p.2.length ≤ 36 * i) fun I hin hout => ?_
 refine codeAny_forLoop I ?_ gsK.length (hin _ _ ?_)
 rotate_left
 ·exact ⟨0, h4, _, _, _, [], _, _, by omega, rfl, id, D, by rfl, by rfl, hit, Dd, GL.nil _ _, le_refl _, fun p q => by cases q⟩
 clear D Dd hit h4;intro n' s' hI;obtain ⟨i, h', gn', tk', m, kvs, es', ep', hn', rfl, bar, D, ms, mr, hit, Dd, G, hk1, hk2⟩ := hout _ _ hI;clear hI;have X2 := X.ext0 D.ext;have T2 := D.top T (by simp);cases n' with
 | zero =>
  refine wpAny_pyNext_list_end hh' hit ⟨_, X2.ls, rfl, cK, rfl⟩ (by rw [Array.getElem?_eq_none_iff, X2.md.1]; omega) (fun h4 he => ?_);have ri : rv ≠ it := zbG hit Dd;replace G : GL sK.heap.objs.size h4 kvs ((gsK.take i).foldl zay []) := by
   refine ⟨G.len, fun j k v q => ?_, G.inj⟩;obtain ⟨ns, a, e1, e2, hb, va, na, ea, ia⟩ := G.at_ j k v q;exact ⟨ns, a, e1, e2, hb, va, na, he _ _ (zbF hit ⟨_, ea, rfl, na, rfl⟩) ea, ia⟩
  replace Dd := Dd.get (show h4.get? rv = h'.get? rv by rw [Dd.at_]; exact he _ _ ri Dd.at_);replace D := D.ownE he fit nit;ext d execs_nil;refine h1 _ ?_;ext execs_cons Return_some;refine wpAny_Call_method rfl rfl rfl PySem.F.plainAttrs_dict PySem.F.slot_dict_items PySem.F.type_dict_items ?_;refine zaa D.ns mr ?_;refine ⟨⟨_, Dd.at_, rfl⟩, fun a e => by cases e; exact ⟨_, Dd.at_, rfl⟩, ?_⟩;ext o.call_bi0;refine zdB Dd (zaP (le_trans T.low lrv)) ?_;have kv : zaz h4 (h4.push (zbU rv)) := fun bK o e => get?_push_of_some _ e;have tk : gsK.take i = gsK := take_of_length_le (by omega);rw [tk] at G;refine hQ _ _ ?_;exact hR _ _ _ _ rv kvs _ _ (D.ext.and (.of_keeps kv)) bar (get?_push_size _ rfl) (Dd.keeps kv) (G.keeps kv) lrv
 | succ n' =>
  obtain ⟨gi, eg, hgm⟩ : ∃ g, gsK[i]? = some g ∧ g ∈ gsK := have hi : i < gsK.length := (by omega); ⟨_, getElem?_eq_getElem hi, getElem_mem hi⟩;obtain ⟨mm0, dm, kvm, em, pm, em0, Xm⟩ := X.md.2 i gi eg;refine wpAny_pyNext_list_item hit ⟨_, X2.ls, rfl, cK, rfl⟩ em0 (fun h4 hit4 sb4 => ?_);have ri : rv ≠ it := zbG hit Dd;replace D := D.ownE sb4.extBut fit nit;replace G := G.sb' sb4 fun a vsK l => zbF hit l;replace Dd := Dd.get (sb4.2 rv ri);ext d;clear X2 T2 hit sb4;ext assign_Name;refine wpAny_storeName_local rfl D.ns (fun h5 hn5 hs5 => ?_) rfl;replace G := G.sb' hs5 fun a vsK l => Ne.symm (zcB D.ns l);replace D := D.store hn5 hs5;replace Dd := Dd.get (hs5.2 _ (Ne.symm nrv));have hit5 := hit4.at fun o e => (hs5.2 it (Ne.symm nit)).trans e;ext d;clear hn5 hs5 hit4 h4;have T6 := D.top T (by simp);have X6 := Xm.ext D.ext (by simp);refine zcg fun Q2 E2 h2 => ?_;ext For o.methodCall_KW;refine zaa D.ns ((if_pos (by decide))) ?_;refine zb9 (f := 346) T6 X6.inst (by kernel_rfl) (by rfl) ?_;refine za1 (by rfl) T6 ?_;ext call;refine zff (b0 := sK.heap.objs.size) (hA'.mono (by decide)) T6 T Xm hlow T.low (le_refl _) (le_of_lt D.ns.lt) (le_trans (hg _ hgm) (by decide)) (fun p q => le_trans (hv _ hgm p q) (by decide)) (fun h7 tk7 gn7 k7 b7 feed => ?_);dsimp only at k7 feed ⊢;have lt5 : ∀ {a : Addr} {o : Obj}, h5.get? a = some o → a ≠ h5.objs.size ∧ a ≠ h5.objs.size + 1 := fun e => ⟨ne_of_lt (lt_size e), ne_of_lt (lt_succ_of_lt (lt_size e))⟩;have C' : ∀ cK ∈ [sK.heap.objs.size, rv], 604 ≤ cK ∧ (cK < bK ∨ sK.heap.get? cK = none) ∧ cK ≠ h5.objs.size ∧ cK ≠ h5.objs.size + 1 := by
   intro c' q;rcases mem_cons.mp q with rfl | q
   ·obtain ⟨o, _, _, e, _⟩ := D.ns
    exact ⟨T.low, .inr (zag _), lt5 e⟩
   ·rw [mem_singleton.mp q]
    exact ⟨le_trans T.low lrv, .inr frv, lt5 Dd.at_⟩
  have feed' := fun A₂ hA₂ hh₂ => feed A₂ [sK.heap.objs.size, rv] hA₂ hh₂ C' ((D.ext.and (.of_keeps k7)).mono (by simp));have lb5 : sK.heap.objs.size ≤ h5.objs.size := le_of_lt D.ns.lt;have li5 : it < h5.objs.size := by obtain ⟨o, e, _⟩ := hit5; exact lt_size e
  obtain ⟨z, ez⟩ : ∃ z : Zone, z = ⟨sK.heap.objs.size, h5.objs.size, [sK.heap.objs.size, rv], gn'.size⟩ := ⟨_, rfl⟩;rw [← ez] at feed';have zb0 : z.b0 = sK.heap.objs.size := by rw [ez]
  have zB : sK.heap.objs.size ≤ z.B := by rw [ez]; exact lb5
  have ziB : it < z.B := by rw [ez]; exact li5
  have LC : sK.heap.objs.size ∈ z.C := by rw [ez]; exact .head _
  have rC : rv ∈ z.C := by rw [ez]; exact .tail _ (.head _)
  have zC : ∀ cK ∈ z.C, cK = sK.heap.objs.size ∨ cK = rv := by rw [ez]; intro cK q; simpa using q
  refine wpAny_pyIter_gen (feed' A₁ (hA'.mono (by decide)) hh').gen ?_;have hit7 : h7.IsListIter it dlK (i + 1) := let ⟨o, e, r⟩ := hit5; ⟨o, k7 _ _ e, r⟩
  replace G := G.keeps k7;replace Dd := Dd.keeps k7;replace D := D.call (.of_keeps k7);have bar7 : zaT sK.gens → zaT (gn'.push gn7) := fun q y hy => by
   rcases mem_push.mp hy with hy | rfl
   ·exact bar q y hy
   ·exact b7
  have F0 := feed' A₁ (hA'.mono (by decide)) hh';clear feed feed' C' lt5 k7 hit5 T6 X6 ez lb5 li5 bar b7;generalize h5.objs.size + 1 = ga at F0 ⊢;generalize gn'.push gn7 = gn8 at F0 bar7 ⊢;have hll : (zbe gi).length = gi.length := by unfold zbe; rw [length_map]
  obtain ⟨r0, er0⟩ : ∃ r0, r0 = (gsK.take i).foldl zay [] := ⟨_, rfl⟩;rw [← er0] at G hk2;refine opq (p := fun (m' : Nat) (s' : Shared) => ∃ j h' gn' tk' mm kvs esK epK, m' + j = gi.length ∧ s' = ⟨h', gn', sK.drawn, tk', sK.os⟩ ∧ (zaT sK.gens → zaT gn') ∧ Me [] sK.heap h' sK.heap.objs.size mm [] ∧ mm "self" = some (.ref xK) ∧ mm "rv" = some (.ref rv) ∧
   h'.IsListIter it dlK (i + 1) ∧ DD wK h' rv (.type "dict") none kvs esK epK ∧ GL sK.heap.objs.size h' kvs (zay r0 (gi.take j)) ∧ kvs.length ≤ 6 * i + j ∧ (∀ p ∈ zay r0 (gi.take j), p.2.length ≤ 36 * i + 6 * j) ∧ Feed wK A₁ z (.ok (.ret .none)) ga (zbe gi) j s') fun I2 in2 out2 => ?_
  refine codeAny_forLoop_any I2 ?_ gi.length (in2 _ _ ?_)
  rotate_left
  ·refine ⟨0, h7, gn8, _, _, kvs, _, _, rfl, rfl, bar7, D, ?_, ?_, hit7, Dd, G, hk1, hk2, F0⟩
   ·exact (if_neg (by decide)).trans ms
   ·exact (if_neg (by decide)).trans mr
  clear D Dd hit7 G F0 hk1 hk2 bar7 ms mr h7 gn8 h5 tk7 kvs es' ep' m gn';intro m' s' hI;obtain ⟨j, h', gn', tk', mm, kvs, es', ep', hm', rfl, bar, D, ms, mr, hit, Dd, G, hk1, hk2, F⟩ := out2 _ _ hI;clear hI;have hC2 : Cs z h' := by
   intro c' q;rcases zC c' q with rfl | rfl
   ·obtain ⟨o, _, _, e, _⟩ := D.ns; exact ⟨o, e⟩
   ·exact ⟨_, Dd.at_⟩
  have gon : ∀ s', Woke z ⟨h', gn', sK.drawn, tk', sK.os⟩ s' → Me [] sK.heap s'.heap sK.heap.objs.size mm [] ∧ s'.heap.IsListIter it dlK (i + 1) ∧ DD wK s'.heap rv (.type "dict") none kvs es' ep' ∧ GL sK.heap.objs.size s'.heap kvs (zay r0 (gi.take j)) ∧ (zaT sK.gens → zaT s'.gens) := by
   intro s' wk;refine ⟨D.took F.ok wk.heap zB (.inr LC) (by simp), ?_, ?_, G.p wk.heap fun a vsK nK _ => zfK, fun q => wk.bare (bar q)⟩
   ·obtain ⟨o, e, hc, r⟩ := hit
    exact ⟨o, wk.heap.get e (by unfold hasCls; rw [hc]) fun q => absurd ziB (not_lt.mpr q.1), hc, r⟩
   ·exact ⟨wk.heap.get Dd.at_ rfl fun q => q.2.1 rC, Dd.keys, Dd.prs, Dd.nd⟩
  cases m' with
  | zero =>
   have hj : j = gi.length := by omega
   refine F.stop hC2 hh' (hA'.dlt) (.inl rfl) (by rw [hll]; exact hj) (fun s' wk => ?_);obtain ⟨D', hit', Dd', G', bar'⟩ := gon s' wk;obtain ⟨h8, gn8, d8, t8, o8⟩ := s';obtain rfl : d8 = sK.drawn := wk.drawn;obtain rfl : o8 = sK.os := wk.os;ext d execs_nil;refine h2 _ ?_;ext execs_nil;have tk1 : (gsK.take (i + 1)).foldl zay [] = zay r0 gi := by rw [take_succ, eg, foldl_append, ← er0]; rfl
   rw [hj, take_length] at G' hk2;refine ⟨n', lt_succ_self n', hin _ _ (xi8 (i + 1) h8 gn8 _ mm kvs _ _ ⟨by omega, rfl, bar', D', ms, mr, hit', Dd', by rw [tk1]; exact G', ?_, ?_⟩)⟩
   ·have := hg _ hgm; omega
   ·rw [tk1]; intro p q; have := hk2 p q; have := hg _ hgm; omega
  | succ m' =>
   obtain ⟨k0, ns, ej⟩ : ∃ k nK, gi[j]? = some (k, nK) := have hj : j < gi.length := (by omega); ⟨_, _, getElem?_eq_getElem hj⟩;have edd : (zbe gi)[j]? = some (.tuple [.str k0, .list (ns.map .int)]) := by unfold zbe; rw [getElem?_map, ej]; rfl
   refine F.next hC2 hh' (hA'.dlt) (.inl rfl) edd (fun v s' rd wk F' => ?_);obtain ⟨D', hit', Dd', G', bar'⟩ := gon s' wk;obtain ⟨h8, gn8, d8, t8, o8⟩ := s';obtain rfl : d8 = sK.drawn := wk.drawn;obtain rfl : o8 = sK.os := wk.os;dsimp only at hit' Dd' G' D' bar' rd ⊢;clear D Dd hit G F bar hC2 gon wk;obtain ⟨ta, u, zz, rfl, pa, tup, ru, rz⟩ := rd.pairE;obtain ⟨tu, rfl⟩ := ru.strE;obtain ⟨la, lv, rfl, pl, ll, il⟩ := rz.intsE;clear rd ru rz pa pl h';refine zb8 F'.gen ?_;refine assign_Tuple_tuple hh' tup rfl rfl (fun h5 he5 => ?_);dsimp only at he5 ⊢;have ext5 := Ext.of_extBut he5;replace F' := F'.calm (Calm.ext (t' := t8) ext5);replace D' := D'.call ext5;replace hit' : h5.IsListIter it dlK (i + 1) := let ⟨o, e, hc, r⟩ := hit'; ⟨o, ext5.get e (by unfold hasCls; rw [hc]) (by simp), hc, r⟩
   replace Dd' := Dd'.ext ext5 rfl (by simp);replace G' := G'.ext ext5 (by simp);replace ll := ext5.isList ll (by simp);clear tup he5 ext5 h8;ext assignInOrder_more assign_Name;refine wpAny_storeName_local rfl D'.ns (fun h6 hn6 hs6 => ?_) rfl;replace G' := G'.sb' hs6 fun a vsK l => Ne.symm (zcB D'.ns l);replace ll := zbg ll hs6 (Ne.symm (zcB D'.ns ll));replace D' := D'.store hn6 hs6;replace Dd' := Dd'.get (hs6.2 rv (Ne.symm nrv));replace hit' := hit'.at fun o e => (hs6.2 it (Ne.symm nit)).trans e;replace F' := F'.calm (Calm.but (t' := t8) LC hs6.extBut (let ⟨o, _, _, e, _⟩ := D'.ns; ⟨o, e⟩));dsimp only at hs6 ⊢;clear hn6 hs6 h5;ext assignInOrder_more assign_Name;refine wpAny_storeName_local rfl D'.ns (fun h7 hn7 hs7 => ?_) rfl;replace G' := G'.sb' hs7 fun a vsK l => Ne.symm (zcB D'.ns l);replace ll := zbg ll hs7 (Ne.symm (zcB D'.ns ll));replace D' := D'.store hn7 hs7;replace Dd' := Dd'.get (hs7.2 rv (Ne.symm nrv));replace hit' := hit'.at fun o e => (hs7.2 it (Ne.symm nit)).trans e;replace F' := F'.calm (Calm.but (t' := t8) LC hs7.extBut (let ⟨o, _, _, e, _⟩ := D'.ns; ⟨o, e⟩));dsimp only at hs7 ⊢;clear hn7 hs7 h6;ext assignInOrder_none;refine zcg fun Q3 E3 h3 => ?_;ext Expr_any;refine wpAny_Call_method rfl rfl rfl PySem.F.plainAttrs_list PySem.F.slot_list_extend PySem.F.type_list_extend ?_;refine wpAny_Call_method rfl rfl rfl PySem.F.plainAttrs_dict PySem.F.slot_dict_setdefault PySem.F.type_dict_setdefault ?_;refine zaa D'.ns ((if_neg (by decide)).trans ((if_neg (by decide)).trans mr)) ?_;refine ⟨⟨_, Dd'.at_, rfl⟩, fun a e => by cases e; exact ⟨_, Dd'.at_, rfl⟩, ?_⟩;ext o.call_bi items_cons;refine zaa D'.ns ((if_neg (by decide)).trans (if_pos (by decide))) ?_;ext items_cons List items_nil;refine ⟨by simp, ?_⟩;ext items_nil;have fnl : sK.heap.get? h7.objs.size = none := D'.fresh;have lnl : sK.heap.objs.size ≤ h7.objs.size := le_of_lt D'.ns.lt;have nnl : ∀ a o, h7.get? a = some o → a ≠ h7.objs.size := fun a o q => ne_of_lt (lt_size q);have enl : (h7.push { cls := .type "list", data := .seq #[] }).get? h7.objs.size = some (zad #[] 0) := get?_push_size _ rfl;have kp : zaz h7 (h7.push { cls := .type "list", data := .seq #[] }) := fun bK o e => get?_push_of_some _ e;have nG : ∀ (j : Nat) (k' : Str) (a' : Addr), kvs[j]? = some (k', .ref a') → a' ≠ h7.objs.size := fun j k' a' q => by
    obtain ⟨_, _, _, e', il⟩ := G'.at_ j k' _ q;cases e';exact ne_of_lt il.lt
   replace G' := G'.keeps kp;have ndd := nnl _ _ Dd'.at_;have nla : la ≠ h7.objs.size := let ⟨o, e, _⟩ := ll; nnl _ _ e
   replace Dd' := Dd'.keeps kp;replace ll : Heap.IsList _ la lv := let ⟨o, e, r⟩ := ll; ⟨o, kp _ _ e, r⟩
   have nit7 : it ≠ h7.objs.size := let ⟨o, ho, _⟩ := hit'; nnl _ _ ho
   replace hit' := hit'.at fun o e => kp _ _ e;have nLl : sK.heap.objs.size ≠ h7.objs.size := ne_of_lt D'.ns.lt;replace D' := D'.call (.of_keeps kp);replace F' := F'.calm (Calm.keeps (t' := t8) kp);ext d;change wpAny _ _ _ _ _ ⟨h7.push { cls := .type "list", data := .seq #[] }, _, _, _, _⟩;generalize h7.objs.size = nl at fnl lnl enl nG ndd nit7 nLl nla ⊢;generalize h7.push { cls := .type "list", data := .seq #[] } = h8 at enl G' Dd' hit' D' F' ll ⊢;clear nnl kp h7;have hns : ns.length ≤ 6 := hv _ hgm _ (mem_of_getElem? ej);have hlv : lv.size = ns.length := by have := ia_len il; rwa [length_toList] at this
   have htk : zay r0 (gi.take (j + 1)) = zdL (zay r0 (gi.take j)) k0 ns := by rw [take_succ, ej]; unfold zay; rw [foldl_append]; rfl
   have hgi := hg _ hgm;have each : ∀ p ∈ zay r0 (gi.take (j + 1)), p.2.length ≤ 36 * i + 6 * (j + 1) := by rw [htk]; intro p q; have := zfR hk2 hns p q; omega
   refine zbn Dd' (zaP (le_trans T.low lrv)) (by omega) ?_ ?_
   ·intro u hu
    obtain ⟨i', ms', a, ei, gi, rfl, ila⟩ := G'.there hu;obtain ⟨hba, va, na, ea, ia⟩ := id ila;have haL : sK.heap.objs.size ≠ a := zcB D'.ns ⟨_, ea, rfl, na, rfl⟩;have haf : sK.heap.get? a = none := zac hba;have hva : va.size ≤ 400 := by have := hk2 _ (mem_of_getElem? gi); have := ia_len ia; rw [length_toList] at this; dsimp only at *; omega
    refine ⟨⟨_, ea, rfl⟩, fun a e => by cases e; exact ⟨_, ea, rfl⟩, ?_⟩;ext o.call_bi items_cons;refine zaa D'.ns ((if_pos (by decide))) ?_;ext items_nil;refine zds ea ll (by omega) (fun h9 n9 e9 sb9 => ?_);dsimp only at sb9 ⊢;refine h3 _ ?_;ext execs_nil;refine ⟨m', lt_succ_self m', in2 _ _ (xi8 (j + 1) h9 gn8 _ _ kvs _ _ ⟨by omega, rfl, bar', D'.own sb9 ⟨_, e9⟩ (.inr haf) haL, ?_, ?_, ?_, Dd'.get (sb9.2 _ (Ne.symm (zfh Dd' ⟨_, ea, rfl, na, rfl⟩))), ?_, by omega, each, ?_⟩)⟩
    ·exact (if_neg (by decide)).trans ((if_neg (by decide)).trans ms)
    ·exact (if_neg (by decide)).trans ((if_neg (by decide)).trans mr)
    ·exact hit'.at fun o e => (sb9.2 it (Ne.symm (zbF hit' ⟨_, ea, rfl, na, rfl⟩))).trans e
    ·rw [htk]
     exact G'.appL Dd'.nd ei gi sb9 ⟨hba, _, _, e9, by rw [toList_append]; exact zeE ia il⟩
    ·exact F'.calm (Calm.list (zb0 ▸ hba) sb9.extBut ⟨_, e9⟩ fun o q => by rw [ea] at q; cases q; exact ⟨rfl, fun _ _ q => nomatch q⟩)
   ·intro hk h9 es9 ep9 D9 sb9
    dsimp only at sb9 ⊢;have e9 : h9.get? nl = some (zad #[] 0) := (sb9.2 nl (Ne.symm ndd)).trans enl;replace D' := D'.own sb9 ⟨_, D9.at_⟩ (.inr frv) nrv;replace G' := G'.sb' sb9 fun a vsK l => zfh Dd' l;replace ll := zbg ll sb9 (zfh Dd' ll);have hit9 := hit'.at fun o e => (sb9.2 it (Ne.symm (zbG hit' Dd'))).trans e;replace F' := F'.calm (Calm.but (t' := t8 + 1) rC sb9.extBut ⟨_, D9.at_⟩);clear Dd' hit' sb9 enl;refine ⟨⟨_, e9, rfl⟩, fun a e => by cases e; exact ⟨_, e9, rfl⟩, ?_⟩;ext o.call_bi items_cons;refine zaa D'.ns ((if_pos (by decide))) ?_;ext items_nil;refine zds e9 ll (by rw [hlv]; show 0 + _ ≤ 1000; omega) (fun h10 n10 e10 sb10 => ?_);dsimp only at sb10 ⊢;refine h3 _ ?_;ext execs_nil;refine ⟨m', lt_succ_self m', in2 _ _ (xi8 (j + 1) h10 gn8 _ _ _ _ _ ⟨by omega, rfl, bar', D'.own sb10 ⟨_, e10⟩ (.inr fnl) nLl, ?_, ?_, ?_, D9.get (sb10.2 _ ndd), ?_, by rw [length_append, List.length_singleton]; omega, each, ?_⟩)⟩
    ·exact (if_neg (by decide)).trans ((if_neg (by decide)).trans ms)
    ·exact (if_neg (by decide)).trans ((if_neg (by decide)).trans mr)
    ·exact hit9.at fun o e => (sb10.2 it nit7).trans e
    ·rw [htk]
     exact (G'.sb sb10 nG).pushL hk ⟨lnl, _, _, e10, by rw [toList_append]; exact zeE .nil il⟩ nG
    ·exact F'.calm (Calm.list (zb0 ▸ lnl) sb10.extBut ⟨_, e10⟩ fun o q => by rw [e9] at q; cases q; exact ⟨rfl, fun _ _ q => nomatch q⟩)
theorem clists_spec {w A s R x dx dl b gs hsh t n c ep vs es} : clists_spec.ST w A s R x dx dl b gs hsh t n c ep vs es := @hen_all _ _ ((U<|U<|U<|U<|U<|U<|U<|U<|U<|U<|U<|U<|U<|U<|U<|I0) clists_spec.ST) @clists_spec.core (w, A, s, R, x, dx, dl, b, gs, hsh, t, n, c, ep, vs, es)
end
section
abbrev zcn (x : Addr) (i n ep : Nat) : Obj := { cls := .type "dict_keyiterator", data := .fields #[.ref x, .int i 0, .int n 0, .int ep 0] }
theorem zgq {ep : Addr} (hA : Rm 500 A) (T : TopH w s.heap) (I : Inst s.heap x 437 dx emptyDict es ep) (hlow : 604 ≤ x)
  (hR : ∀ h' it tk, Ext [] s.heap h' → h'.get? it = some (zcn x 0 es.size ep) → s.heap.get? it = none → s.heap.objs.size ≤ it → R (.ok (.ret (.ref it))) ⟨h', s.gens, s.drawn, tk, s.os⟩) :
  codeAny (model P w) A (.call (.ref 272) ⟨[.ref x], []⟩) R s := by
 unhygienic
 revert hen w A s R x dx ep es;refine zaW [(Str.ofString "self", .ref x)] hA T (by rfl) (by rfl) (by rfl) (by rfl) (BindsTo.of_eq rfl) (by decide) (locs rfl) fun h₁ D hA' hh' => ?_;ext o.ks_wpAt_execs_cons o.ks_wpAt_Return_some;have T1 := D.top T (by simp);have I1 : Inst h₁ x 437 dx emptyDict es ep := ⟨D.ext.get I.at_ rfl not_mem_nil, D.ext.get I.own rfl not_mem_nil⟩;refine zav (x := x) (C := 437) (D := 437) (id := "dict.__iter__") (BT := "method-wrapper") T1 D.ns I1.i (by rfl) rfl (by rfl) (by rfl) (by rfl) rfl (by rfl) (by rfl) (by rfl) (by rfl) rfl (by kernel_rfl) (by rfl) (by kernel_rfl) (by kernel_rfl)
  (.inl ⟨zhI, rfl⟩) rfl rfl rfl rfl rfl rfl rfl rfl rfl (by decide) (fun q h' nq hq k => ?_)
 refine zbN (.inl rfl) hq ?_;have T2 : TopH w h' := T1.ext (.of_keeps k) (by simp);have I2 : Inst h' x 437 dx emptyDict es ep := ⟨k _ _ I1.at_, k _ _ I1.own⟩;ext call;refine zap (.inl rfl) hq (zha _) (fun _ => Code.quiet_builtin _ (by decide +kernel)) zgX ?_;refine zgL T2.K I2 (by kernel_rfl) (zaP hlow) ?_;ext d;have e2 := D.ext.and (.of_keeps k);exact hR _ _ _ (e2.and (.push _ _)) (get?_push_size _ rfl) (e2.fresh (zag _)) (by obtain ⟨o, _, _, e, _⟩ := D.ns; exact le_of_lt (lt_size (k _ _ e)))
end
section
section
variable {dx : Option Addr}
theorem zgr : mroOf (.type "dict_keyiterator") = pure [.type "dict_keyiterator", .type "object"] := by rw [mroOf_type]; kernel_rfl
end
theorem zfV {dx : Option Addr} {it : Addr} {i : Nat} {Q : Option Value → Shared → Prop} (hit : h.get? it = some (zcn x i kvs.length ep)) (I : DD w h x Cv dx kvs es ep) (hx : kvs[i]? = some (k, v)) (hQ : ∀ tk h', h'.get? it = some (zcn x (i + 1) kvs.length ep) → Heap.SameBut it h h' → Q (some (.str k tk)) ⟨h', g, d, t, os⟩) :
  wpAny (model P w) A (pyNext (.ref it)) Q E ⟨h, g, d, t, os⟩ := by
 unhygienic
 revert hen w A E h g d t os x dx Cv kvs es ep it i k v Q;have hT : (⟨h, g, d, t, os⟩ : Shared).TypeIs (.ref it) "dict_keyiterator" := ⟨_, hit, rfl⟩;have hI := I.at_;have hs := I.size;have hi : i < kvs.length := (List.getElem?_eq_some_iff.mp hx).1;have hi' : i < es.size := by rw [hs]; exact hi
 obtain ⟨hkey, hval⟩ := I.prs.get? (e := es[i]) (k := k) (v := v) (by simp [hi']) hx;obtain ⟨tk, etk⟩ := Value.isStrOf_shape hkey;have hown : Builtin.Dict_items.ownsTuple "dict_keyiterator" = false := by decide
 have L0 : ∀ {h'} {od : Option Addr} {da : Data} {sl : Array (Option Value)}, h'.get? it = some { cls := .type "dict_keyiterator", dict := od, data := da, slots := sl } → Looks (model P w) h' (typeOf (.ref it)) (.type "dict_keyiterator") := fun e => (Looks.ld e).andThen .now;have LN : ∀ {h'} {od : Option Addr} {da : Data} {sl : Array (Option Value)}, h'.get? it = some { cls := .type "dict_keyiterator", dict := od, data := da, slots := sl } → Looks (model P w) h' (typeNameOfWhole (.ref it)) "dict_keyiterator" := fun e => by
  unfold typeNameOfWhole shownTypeOf;refine Looks.andThen (a := .type "dict_keyiterator") ((L0 e).andThen (Looks.of_pure (by rfl))) (Looks.of_pure ?_);show typeName (.type "dict_keyiterator") = _;unfold typeName; rw [find?_eq_fast]; kernel_rfl
 have LB : ∀ {h'} {od : Option Addr} {da : Data} {sl : Array (Option Value)} (types : List String), h'.get? it = some { cls := .type "dict_keyiterator", dict := od, data := da, slots := sl } → Looks (model P w) h' (Builtin.Dict_items.isOneOf (.ref it) types) (types.any fun t => [Value.type "dict_keyiterator", Value.type "object"].contains (.type t)) := fun types e => by
  unfold Builtin.Dict_items.isOneOf;exact (L0 e).andThen ((Looks.of_pure zgr).andThen .now)
 have N0 := LN hit;unfold pyNext;refine wpAny_bind (wpAny_attempt (wpAny_callSpecial?_slot (name := Str.ofString "__next__") hT F.slot_dict_keyiterator_next
  (wpAny_call_entry F.slot_dict_keyiterator_next hT F.entry_dict_keyiterator_next ?_ (F.args_dict_keyiterator_next_1 _))))
 unfold Builtin.«dict_keyiterator.__next__»
 iterate 5 lk
 iterate 2 (with_reducible refine zax (by simp [hs]) ?_)
 iterate 24 (first | simp -iota only [hown, false_eq_true, if_false] | lk)
 (with_reducible refine zax (by simp [hs]) ?_)
 iterate 13 lk
 (with_reducible refine zax (by simp [hs]) ?_)
 iterate 13 lk
 (with_reducible refine zax (by simp [hs]) ?_)
 iterate 2 lk
 rw [if_neg (show ¬ ((i : Int) < 0) by omega), Int.toNat_natCast, Array.getElem?_eq_getElem hi'];ext d
 iterate 8 (first | simp only [hown, false_eq_true, if_false] | lk)
 (with_reducible refine Looks.at (LB _ hit) ?_)
 lk
 (with_reducible refine wpAny_setField_rec hit (by simp) fun h₁ he₁ hs₁ => Held.out ?_)
 simp only [hown, false_eq_true, if_false];ext o.Held.in;replace he₁ : h₁.get? it = some (zcn x (i + 1) kvs.length ep) := by
  have e : ((i + 1 : Nat) : Int) = (i : Int) + 1 := by omega
  show _ = some ({ cls := .type "dict_keyiterator", data := .fields #[.ref x, .int ((i + 1 : Nat) : Int) 0, .int kvs.length 0, .int ep 0] } : Obj);rw [e]; exact he₁
 replace hs₁ : Heap.SameBut it h h₁ := hs₁
 iterate 4 lk
 (with_reducible refine Looks.at (LB _ he₁) ?_)
 iterate 6 lk
 rw [etk];exact ⟨_, rfl, wpAny_pure (hQ tk h₁ he₁ hs₁)⟩
section
variable {dx : Option Addr}
theorem zcZ {it : Addr} {i : Nat} {Q : Option Value → Shared → Prop} (hh : A.handled = none) (hit : h.get? it = some (zcn x i kvs.length ep)) (I : DD w h x Cv dx kvs es ep) (hx : kvs.length ≤ i)
  (hQ : ∀ h', Heap.ExtBut it h h' → Q none ⟨h', g, d, t, os⟩) :
  wpAny (model P w) A (pyNext (.ref it)) Q E ⟨h, g, d, t, os⟩ := by
 unhygienic
 revert hen w A E h g d t os x dx Cv kvs es ep it i Q;have hT : (⟨h, g, d, t, os⟩ : Shared).TypeIs (.ref it) "dict_keyiterator" := ⟨_, hit, rfl⟩;have hI := I.at_;have hs := I.size;have hown : Builtin.Dict_items.ownsTuple "dict_keyiterator" = false := by decide
 have L0 : Looks (model P w) h (typeOf (.ref it)) (.type "dict_keyiterator") := (Looks.ld hit).andThen .now;have LN : Looks (model P w) h (typeNameOfWhole (.ref it)) "dict_keyiterator" := by
  unfold typeNameOfWhole shownTypeOf;refine Looks.andThen (a := .type "dict_keyiterator") (L0.andThen (Looks.of_pure (by rfl))) (Looks.of_pure ?_);show typeName (.type "dict_keyiterator") = _;unfold typeName; rw [find?_eq_fast]; kernel_rfl
 unfold pyNext;refine wpAny_bind (wpAny_attempt (wpAny_callSpecial?_slot (name := Str.ofString "__next__") hT F.slot_dict_keyiterator_next
  (wpAny_call_entry F.slot_dict_keyiterator_next hT F.entry_dict_keyiterator_next ?_ (F.args_dict_keyiterator_next_1 _))))
 unfold Builtin.«dict_keyiterator.__next__»
 iterate 5 lk
 iterate 2 (with_reducible refine zax (by simp [hs]) ?_)
 iterate 24 (first | simp -iota only [hown, false_eq_true, if_false] | lk)
 (with_reducible refine zax (by simp [hs]) ?_)
 iterate 13 lk
 (with_reducible refine zax (by simp [hs]) ?_)
 iterate 13 lk
 (with_reducible refine zax (by simp [hs]) ?_)
 iterate 2 lk
 rw [if_neg (show ¬ ((i : Int) < 0) by omega), Int.toNat_natCast, getElem?_eq_none (by rw [hs]; exact hx)];ext d
 iterate 8 (first | simp only [hown, false_eq_true, if_false] | lk)
 (with_reducible refine wpAny_setField hit rfl (by simp) (Held.out ?_))
 simp only [hown, false_eq_true, if_false];ext o.Held.in;have sbh := Heap.SameBut.update (a := it) (h := h) (f := Obj.mapFields fun x => x.setIfInBounds 0 Value.none);generalize h.update it (Obj.mapFields fun x => x.setIfInBounds 0 Value.none) = h₁ at sbh ⊢;ext bind;unfold newExc newTuple;refine wpAny_bind (wpAny_newObj_type ?_ (by size_fits));refine wpAny_bind (wpAny_of_eq (a := Value.none) (by first | rfl | (simp only [firstArgMember]; rfl)) (wpAny_newObj_type ?_ (by size_fits)));refine wpAny_raiseNew_none (A := A.in1) hh ?_;refine wpAny_bind (wpAny_isInstance (T := "StopIteration") (b := true) ⟨_, get?_push_size _ rfl, rfl⟩ isSubtype_stop ?_);exact wpAny_pure (hQ _ ((sbh.extBut.push _).push _))
end
end
section
def zh6 (all : List PyData) (z : Zone) (n : Nat) (s₀ : Shared) (v : Value) (s : Shared) (P : Shared → Prop) : Prop :=
 ∃ d, all[all.length - 1 - n]? = some d ∧ RdP (z.fr s₀.heap) s.heap v d ∧ Turn z s₀ s ∧ ∀ s'', Calm z s s'' → P s''
section
variable {n : Nat} {c : Code}
theorem zeo {K' : Unit → Sem PySem.Fin} {H : Value → Sem PySem.Fin} (hco : env.scope.isCoroutine = false) (hfs : splitAtGen fs = none) (hfg : fs.any Frame.guarded = false)
  (h : wpAny (model P w) (A.over c fs) (eval elt env) (fun y s' => ∃ n', n = n' + 1 ∧ zh6 all z n' s₀ y s' fun s'' => Seg (model P w) A (Rg fin z) (Yg all z) n' s'' c (K' ()) fs s'') No s) :
  Seg (model P w) A (Rg fin z) (Yg all z) n s₀ c ((do let v ← eval elt env; standAt elt.pos; let _ ← yieldOut env v; pure () : Sem Unit).wrap K' H id id) fs s := by
 have hy : ∀ v, yieldOut env v = yieldValue v := fun v => by simp only [yieldOut, hco, false_eq_true, if_false]
 simp only [hy];rw [Sem.bind_eq_wrap', Sem.wrap_wrap];refine seg_wrap (wpAny_mono h (fun y s' h' => ?_) fun _ _ q => q.elim);obtain ⟨n', rfl, d, hd, rd, tn, kp⟩ := h';exact seg_at (seg_yield hfs rfl hfg ⟨d, hd, rd, tn, fun s'' cm => kp s'' cm⟩)
theorem zgZ {it : Value} (hco : env.scope.isCoroutine = false)
  (h : wpAny (model P w) (A.over (.compLoop (.GeneratorExp elt [⟨target, iter, [], 0⟩] scope pos) 0 it .none env) []) (pyNext it) (fun r s₁ => match r with
   | none => Rg fin z n s₀ (.ok .next) s₁
   | some v => wpAny (model P w) (A.over (.compLoop (.GeneratorExp elt [⟨target, iter, [], 0⟩] scope pos) 0 it .none env) []) (letOwnedTupleGo target it v) (fun _ s₂ =>
     wpAny (model P w) (A.over (.compLoop (.GeneratorExp elt [⟨target, iter, [], 0⟩] scope pos) 0 it .none env) []) (assign target env v) (fun _ s₃ =>
      wpAny (model P w) (A.over (.compLoop (.GeneratorExp elt [⟨target, iter, [], 0⟩] scope pos) 0 it .none env) []) (eval elt env) (fun y s₄ => ∃ n', n = n' + 1 ∧ zh6 all z n' s₀ y s₄ fun s'' =>
       Seg (model P w) A (Rg fin z) (Yg all z) n' s'' (.compLoop (.GeneratorExp elt [⟨target, iter, [], 0⟩] scope pos) 0 it .none env) (.pure (.again (.compLoop (.GeneratorExp elt [⟨target, iter, [], 0⟩] scope pos) 0 it .none env))) [] s'') No s₃) No s₂) No s₁) No s) :
  Seg (model P w) A (Rg fin z) (Yg all z) n s₀ (.compLoop (.GeneratorExp elt [⟨target, iter, [], 0⟩] scope pos) 0 it .none env) ((model P w).den (.compLoop (.GeneratorExp elt [⟨target, iter, [], 0⟩] scope pos) 0 it .none env)) [] s := by
 unhygienic
 revert hen w A all z fin n s₀ s env elt target iter scope pos it;show Seg _ A _ _ _ s₀ _ ((compTurn (.GeneratorExp elt [⟨target, iter, [], 0⟩] scope pos) 0 it .none env).onRaise (leaving env)) [] s;rw [compTurn_gen, Sem.onRaise_eq_wrap];rw [Sem.bind_eq_wrap', Sem.wrap_wrap];refine seg_wrap (wpAny_standAt ?_);rw [Sem.bind_eq_wrap', Sem.wrap_wrap];refine seg_wrap (wpAny_mono h (fun r s₁ h₁ => ?_) fun _ _ q => q.elim);cases r with
 | none => exact seg_end (.ok .next) h₁
 | some v =>
  dsimp only at h₁ ⊢;rw [Sem.bind_eq_wrap', Sem.wrap_wrap];refine seg_wrap (wpAny_mono h₁ (fun _ s₂ h₂ => ?_) fun _ _ q => q.elim);rw [Sem.bind_eq_wrap', Sem.wrap_wrap];refine seg_wrap (wpAny_mono h₂ (fun _ s₃ h₃ => ?_) fun _ _ q => q.elim);rw [Sem.bind_eq_wrap', Sem.wrap_wrap];refine seg_wrap (wpAny_pure ?_);simp only [if_true];rw [Sem.bind_eq_wrap', Sem.wrap_wrap];exact zeo hco rfl rfl h₃
theorem zeN {it : Value} {k h g l c₁ p₁} (hco : env.scope.isCoroutine = false) (hfs : splitAtGen fs = none) (hg : g = false) (hfg : fs.any Frame.guarded = false)
  (q : wpAny (model P w) (A.over (.compLoop (.GeneratorExp elt [⟨t1, i1, [], 0⟩, ⟨t2, i2, [], 0⟩] scope pos) 1 it .none env) (.ret k h g l c₁ p₁ [] :: fs)) (pyNext it) (fun r s₁ => match r with
   | none => Seg (model P w) A (Rg fin z) (Yg all z) n s₀ c₁ (k (.ok .next)) fs s₁
   | some v => wpAny (model P w) (A.over (.compLoop (.GeneratorExp elt [⟨t1, i1, [], 0⟩, ⟨t2, i2, [], 0⟩] scope pos) 1 it .none env) (.ret k h g l c₁ p₁ [] :: fs)) (letOwnedTupleGo t2 it v) (fun _ s₂ =>
     wpAny (model P w) (A.over (.compLoop (.GeneratorExp elt [⟨t1, i1, [], 0⟩, ⟨t2, i2, [], 0⟩] scope pos) 1 it .none env) (.ret k h g l c₁ p₁ [] :: fs)) (assign t2 env v) (fun _ s₃ =>
      wpAny (model P w) (A.over (.compLoop (.GeneratorExp elt [⟨t1, i1, [], 0⟩, ⟨t2, i2, [], 0⟩] scope pos) 1 it .none env) (.ret k h g l c₁ p₁ [] :: fs)) (eval elt env) (fun y s₄ => ∃ n', n = n' + 1 ∧ zh6 all z n' s₀ y s₄ fun s'' =>
       Seg (model P w) A (Rg fin z) (Yg all z) n' s'' (.compLoop (.GeneratorExp elt [⟨t1, i1, [], 0⟩, ⟨t2, i2, [], 0⟩] scope pos) 1 it .none env) (.pure (.again (.compLoop (.GeneratorExp elt [⟨t1, i1, [], 0⟩, ⟨t2, i2, [], 0⟩] scope pos) 1 it .none env))) (.ret k h g l c₁ p₁ [] :: fs) s'') No s₃) No s₂) No s₁) No s) :
  Seg (model P w) A (Rg fin z) (Yg all z) n s₀ (.compLoop (.GeneratorExp elt [⟨t1, i1, [], 0⟩, ⟨t2, i2, [], 0⟩] scope pos) 1 it .none env) ((model P w).den (.compLoop (.GeneratorExp elt [⟨t1, i1, [], 0⟩, ⟨t2, i2, [], 0⟩] scope pos) 1 it .none env)) (.ret k h g l c₁ p₁ [] :: fs) s := by
 have e : compTurn (.GeneratorExp elt [⟨t1, i1, [], 0⟩, ⟨t2, i2, [], 0⟩] scope pos) 1 it .none env = (do
   standAt i2.pos
   match ← pyNext it with
   | none => pure (.done .next)
   | some v =>
    letOwnedTupleGo t2 it v
    assign t2 env v
    let mut ok := true
    for c in ([] : List Expr) do
     if ok then ok ← isTrue c env (eval c env)
    if ok then
     (do let v ← eval elt env; standAt elt.pos; let _ ← yieldOut env v)
    again (.compLoop (.GeneratorExp elt [⟨t1, i1, [], 0⟩, ⟨t2, i2, [], 0⟩] scope pos) 1 it .none env)) := by rfl
 show Seg _ A _ _ _ s₀ _ ((compTurn (.GeneratorExp elt [⟨t1, i1, [], 0⟩, ⟨t2, i2, [], 0⟩] scope pos) 1 it .none env).onRaise (fun x => do noteFrame x env; theTreesLotGoes x)) _ s;rw [e, Sem.onRaise_eq_wrap];rw [Sem.bind_eq_wrap', Sem.wrap_wrap];refine seg_wrap (wpAny_standAt ?_);rw [Sem.bind_eq_wrap', Sem.wrap_wrap];refine seg_wrap (wpAny_mono q (fun r s₁ h₁ => ?_) fun _ _ q => q.elim);cases r with
 | none => exact seg_leaf (.ok .next) h₁
 | some v =>
  dsimp only at h₁ ⊢;rw [Sem.bind_eq_wrap', Sem.wrap_wrap];refine seg_wrap (wpAny_mono h₁ (fun _ s₂ h₂ => ?_) fun _ _ q => q.elim);rw [Sem.bind_eq_wrap', Sem.wrap_wrap];refine seg_wrap (wpAny_mono h₂ (fun _ s₃ h₃ => ?_) fun _ _ q => q.elim);rw [Sem.bind_eq_wrap', Sem.wrap_wrap];refine seg_wrap (wpAny_pure ?_);simp only [if_true];rw [Sem.bind_eq_wrap', Sem.wrap_wrap];exact zeo hco (by simp only [splitAtGen, hfs, Option.map_none]) (by rw [List.any_cons, hfg, hg]; rfl) h₃
theorem zgK {it : Value} (hs : ∀ x, foldedSetIterable i2 env x = pure x)
  (q : wpAny (model P w) (A.over (.compLoop (.GeneratorExp elt [⟨t1, i1, [], 0⟩, ⟨t2, i2, [], 0⟩] scope pos) 0 it .none env) []) (pyNext it) (fun r s₁ => match r with
   | none => Rg fin z n s₀ (.ok .next) s₁
   | some v => wpAny (model P w) (A.over (.compLoop (.GeneratorExp elt [⟨t1, i1, [], 0⟩, ⟨t2, i2, [], 0⟩] scope pos) 0 it .none env) []) (letOwnedTupleGo t1 it v) (fun _ s₂ =>
     wpAny (model P w) (A.over (.compLoop (.GeneratorExp elt [⟨t1, i1, [], 0⟩, ⟨t2, i2, [], 0⟩] scope pos) 0 it .none env) []) (assign t1 env v) (fun _ s₃ =>
      wpAny (model P w) (A.over (.compLoop (.GeneratorExp elt [⟨t1, i1, [], 0⟩, ⟨t2, i2, [], 0⟩] scope pos) 0 it .none env) []) (eval i2 env) (fun x s₄ => wpAny (model P w) (A.over (.compLoop (.GeneratorExp elt [⟨t1, i1, [], 0⟩, ⟨t2, i2, [], 0⟩] scope pos) 0 it .none env) []) (pyIter x) (fun it2 s₅ =>
       ∀ (k : Result → Sem PySem.Fin) p, k (.ok .next) = .pure (.again (.compLoop (.GeneratorExp elt [⟨t1, i1, [], 0⟩, ⟨t2, i2, [], 0⟩] scope pos) 0 it .none env)) →
        Seg (model P w) A (Rg fin z) (Yg all z) n s₀ (.compStart (.GeneratorExp elt [⟨t1, i1, [], 0⟩, ⟨t2, i2, [], 0⟩] scope pos) 1 it2 .none env) ((model P w).den (.compStart (.GeneratorExp elt [⟨t1, i1, [], 0⟩, ⟨t2, i2, [], 0⟩] scope pos) 1 it2 .none env))
         [.ret k none false [] (.compLoop (.GeneratorExp elt [⟨t1, i1, [], 0⟩, ⟨t2, i2, [], 0⟩] scope pos) 0 it .none env) p []] s₅) No s₄) No s₃) No s₂) No s₁) No s) :
  Seg (model P w) A (Rg fin z) (Yg all z) n s₀ (.compLoop (.GeneratorExp elt [⟨t1, i1, [], 0⟩, ⟨t2, i2, [], 0⟩] scope pos) 0 it .none env) ((model P w).den (.compLoop (.GeneratorExp elt [⟨t1, i1, [], 0⟩, ⟨t2, i2, [], 0⟩] scope pos) 0 it .none env)) [] s := by
 unhygienic
 revert hen w A all z fin n s₀ s env elt t1 t2 i1 i2 scope pos it;have e : compTurn (.GeneratorExp elt [⟨t1, i1, [], 0⟩, ⟨t2, i2, [], 0⟩] scope pos) 0 it .none env = (do
   standAt i1.pos
   match ← pyNext it with
   | none => pure (.done .next)
   | some v =>
    letOwnedTupleGo t1 it v
    assign t1 env v
    let mut ok := true
    for c in ([] : List Expr) do
     if ok then ok ← isTrue c env (eval c env)
    if ok then
     let x ← eval i2 env
     standAt i2.pos
     let x ← foldedSetIterable i2 env x
     let _ ← runOwn (.compStart (.GeneratorExp elt [⟨t1, i1, [], 0⟩, ⟨t2, i2, [], 0⟩] scope pos) 1 (← holding [x] (pyIter x)) .none env) env
    again (.compLoop (.GeneratorExp elt [⟨t1, i1, [], 0⟩, ⟨t2, i2, [], 0⟩] scope pos) 0 it .none env)) := by rfl
 show Seg _ A _ _ _ s₀ _ ((compTurn (.GeneratorExp elt [⟨t1, i1, [], 0⟩, ⟨t2, i2, [], 0⟩] scope pos) 0 it .none env).onRaise (leaving env)) [] s;rw [e, Sem.onRaise_eq_wrap];rw [Sem.bind_eq_wrap', Sem.wrap_wrap];refine seg_wrap (wpAny_standAt ?_);rw [Sem.bind_eq_wrap', Sem.wrap_wrap];refine seg_wrap (wpAny_mono q (fun r s₁ h₁ => ?_) fun _ _ q => q.elim);cases r with
 | none => exact seg_end (.ok .next) h₁
 | some v =>
  dsimp only at h₁ ⊢;rw [Sem.bind_eq_wrap', Sem.wrap_wrap];refine seg_wrap (wpAny_mono h₁ (fun _ s₂ h₂ => ?_) fun _ _ q => q.elim);rw [Sem.bind_eq_wrap', Sem.wrap_wrap];refine seg_wrap (wpAny_mono h₂ (fun _ s₃ h₃ => ?_) fun _ _ q => q.elim);rw [Sem.bind_eq_wrap', Sem.wrap_wrap];refine seg_wrap (wpAny_pure ?_);simp only [if_true];rw [Sem.bind_eq_wrap', Sem.wrap_wrap];refine seg_wrap (wpAny_mono h₃ (fun x s₄ h₄ => ?_) fun _ _ q => q.elim);rw [Sem.bind_eq_wrap', Sem.wrap_wrap];refine seg_wrap (wpAny_standAt ?_);rw [hs x, Sem.bind_eq_wrap', Sem.wrap_wrap];refine seg_wrap (wpAny_pure ?_);rw [Sem.bind_eq_wrap', Sem.wrap_wrap];refine seg_wrap (wpAny_holding (wpAny_mono h₄ (fun it2 s₅ h₅ => ?_) fun _ _ q => q.elim));exact seg_call (fun p => h₅ _ p rfl)
theorem zcm {gens : List Comprehension} {it : Value} {d : Nat} {hd : Value → Sem Unit} {g0 : Comprehension}
  (hden : (model P w).den (.compStart (.GeneratorExp elt gens scope pos) d it .none env) = (compStart (.GeneratorExp elt gens scope pos) d it .none env).onRaise hd) (hg : gens[d]? = some g0) (hna : (g0.is_async != 0) = false)
  (hi : ∀ Q : Value → Shared → Prop, Q it s → wpAny (model P w) (A.over (.compStart (.GeneratorExp elt gens scope pos) d it .none env) fs) (pyIter it) Q No s)
  (q : Seg (model P w) A (Rg fin z) (Yg all z) n s₀ (.compLoop (.GeneratorExp elt gens scope pos) d it .none env) ((model P w).den (.compLoop (.GeneratorExp elt gens scope pos) d it .none env)) fs s) :
  Seg (model P w) A (Rg fin z) (Yg all z) n s₀ (.compStart (.GeneratorExp elt gens scope pos) d it .none env) ((model P w).den (.compStart (.GeneratorExp elt gens scope pos) d it .none env)) fs s := by
 unhygienic
 revert hen w A all z fin n s₀ s env fs elt gens scope pos it d hd g0;rw [hden];unfold compStart;rw [Sem.onRaise_eq_wrap]
 haveI hc : (clausesOf (.GeneratorExp elt gens scope pos))[d]? = some g0 := hg
 simp only [hc, Option.elim_some, hna, false_eq_true, if_false];rw [Sem.bind_eq_wrap', Sem.wrap_wrap];refine seg_wrap (wpAny_askSetting ?_)
 split
 ·exact seg_again rfl q
 ·rw [Sem.bind_eq_wrap', Sem.wrap_wrap]
  refine seg_wrap (wpAny_rule ?_);rw [Sem.bind_eq_wrap', Sem.wrap_wrap];refine seg_wrap (wpAny_standAt ?_);rw [Sem.bind_eq_wrap', Sem.wrap_wrap];refine seg_wrap (wpAny_mono (hi (fun v s' => v = it ∧ s' = s) ⟨rfl, rfl⟩) (fun v s' e => ?_) fun _ _ q => q.elim);obtain ⟨rfl, rfl⟩ := e;exact seg_again rfl q
end
def zcY (o : Obj) (a : Addr) : Bool := match o.cls, o.data with
 | .type n, .fields vs => n == "code" && vs[11]? == some (.ref a) && (match vs.getD 18 .none with | .str .. => true | _ => false) && (match vs.getD 7 .none with | .int .. => true | _ => false) && (match vs.getD 9 .none with | .bool _ => true | _ => false) && (match vs.getD 10 .none with | .int .. => true | _ => false)
 | _, _ => false
section
theorem zdZ (elt target iter : Expr) (more : List Comprehension) (scope : Scope) (pos : Pos) (hco : scope.isCoroutine = false) (hs : ∀ x, genexprIterable false (⟨target, iter, [], 0⟩ :: more) env x = pure x) :
  eval (.GeneratorExp elt (⟨target, iter, [], 0⟩ :: more) scope pos) env = (do
   let x ← eval iter env
   standAt iter.pos
   let it ← holding [x] (pyIter x)
   enterFrame
   let cl ← closureFor scope env
   let code ← genexprCode env pos (env.qual ++ "<genexpr>") scope
   let bi ← builtinsFor env.globals env.builtins
   let cenv ← newFunctionEnv scope env.globals cl [(".0", it)] (env.qual ++ "<genexpr>.") none code none bi
   newGenerator (.compStart (.GeneratorExp elt (⟨target, iter, [], 0⟩ :: more) scope pos) 0 it .none cenv) "<genexpr>" (env.qual ++ "<genexpr>")) := by
 rw [arm_eval_GeneratorExp];simp only [hco, false_eq_true, if_false];show (do
   let x ← eval iter env
   standAt iter.pos
   let x ← genexprIterable false (⟨target, iter, [], 0⟩ :: more) env x
   let it ← holding [x] (pyIter x)
   enterFrame
   let cl ← closureFor scope env
   let code ← genexprCode env pos (env.qual ++ "<genexpr>") scope
   let bi ← builtinsFor env.globals env.builtins
   let cenv ← newFunctionEnv scope env.globals cl [(".0", it)] (env.qual ++ "<genexpr>.") none code none bi
   newGenerator (.compStart (.GeneratorExp elt (⟨target, iter, [], 0⟩ :: more) scope pos) 0 it .none cenv) "<genexpr>" (env.qual ++ "<genexpr>")) = _
 simp only [hs];rfl
theorem TopH.code (T : TopH w h) {c : Addr} (ha : a ∈ zco) (ho : (KK w).lookup c = some oc) (hok : zcY oc a = true) : ∃ ps, h.TableAt c a ps ∧ h.IsCode c a ps := by
 unhygienic
 obtain ⟨ps, e, k⟩ := T.tab a ha;have ec := T.K _ _ ho;have hca : c ≠ a := fun q => (zbZ w c oc ho).2 (q ▸ ha);revert hen w h c a oc ps;unfold zcY at hok
 split at hok
 ·rename_i n vs hcl hd
  simp -iota only [and_eq_true, beq_iff_eq] at hok;obtain ⟨⟨⟨⟨⟨h1, h2⟩, h3⟩, h4⟩, h5⟩, h6⟩ := hok;subst h1;have h11 : vs.getD 11 .none = .ref a := by rw [Array.getD_eq_getD_getElem?, h2]; rfl
  revert hen w h c a oc ps vs
  split at h3
  ·rename_i f tf h18
   split at h4
   ·rename_i fl tg h7
    split at h5
    ·rename_i inF h9
     split at h6
     ·rename_i tx tt h10
      exact ⟨ps, ⟨⟨oc, vs, ec, hcl, hd, h2⟩, e⟩, oc, vs, f, tf, fl, tg, inF, tx, tt, _, ec, hd, h11, h18, h7, h9, h10, e, rfl, k, hca⟩
     ·cases h6
    ·cases h5
   ·cases h4
  ·cases h3
 ·cases hok
theorem zec {c : Addr} {qualname : Str} (T : TopH w s.heap) (hc : env.code = .ref c) (ha : a ∈ zco) (ho : (KK w).lookup c = some oc) (hok : zcY oc a = true)
  (h : ∀ code h' tk, Ext [] s.heap h' → s.heap.objs.size ≤ h'.objs.size → Q code { s with heap := h', toks := tk }) : wpAny (model P w) A (genexprCode env pos qualname scope) Q E s := by
 unhygienic
 revert hen w A E s env c a pos qualname scope Q oc;obtain ⟨ps, ht, hi⟩ := T.code ha ho hok;cases hf : codeAmong pos ps.toList with
 | some c' => exact wpAny_genexprCode_hit hc hi hf (h c' s.heap s.toks (.refl _) (le_refl _))
 | none =>
  refine wpAny_genexprCodeX hc hi ht hf fun c' h' tk he hc1 hc2 hi' _ ht' _ => h _ _ _ ⟨fun b o e n => ?_, fun b o e => ?_⟩ (by omega)
  ·by_cases q : b = a
   ·subst q
    refine .inr ⟨ha, ps, _, Option.some.inj (e.symm.trans ht.2), ht'.2, fun _ => ?_⟩;obtain ⟨_, _, _, _, _, _, _, _, _, op, _, _, _, _, _, _, _, ho', hd', k, _⟩ := hi';exact k
   ·exact .inl (he b o q e)
  ·by_cases q : b = a
   ·subst q; exact ⟨_, ht'.2⟩
   ·exact ⟨o, he b o q e⟩
theorem zih : nsIn (KK w) mainGlobals "__builtins__" = some (some (.ref 4)) := by kernel_rfl
end
theorem zci {env : Env} {more : List Comprehension} {scope : Scope} {c : Addr} (hroom : A.depth < recursionLimit) (hco : scope.isCoroutine = false) (hclos : closureFor scope env = pure []) (hcell : ∀ y ∈ scope.names, y.2 ≠ .cell) (h0 : scope.names.lookup (".0" : Str) = some NameKind.local) (hkind : scope.kind = .function) (hc : env.code = .ref c) (ha : a ∈ zco) (ho : (KK w).lookup c = some oc) (hok : zcY oc a = true) (hbi : env.builtins = builtinsNs) (hgl : env.globals = mainGlobals) (h : wpAny (model P w) A (eval iter env) (fun xv s₁ => wpAny (model P w) A (pyIter xv) (fun it s₂ => TopH w s₂.heap ∧
   ∀ code h' tk L, Ext [] s₂.heap h' → h'.Ns L (fun y => if y = ".0" then some it else none) → s₂.heap.objs.size ≤ L → h'.IsGen (L + 1) s₂.gens.size → s₂.heap.get? L = none → (∀ o, h'.get? (L + 1) = some o → o.dict = none) →
    Q (.ref (L + 1)) ⟨h', s₂.gens.push (.fresh (.compStart (.GeneratorExp elt (⟨target, iter, [], 0⟩ :: more) scope pos) 0 it .none (genEnv scope [] L code builtinsNs env))), s₂.drawn, tk, s₂.os⟩) E s₁) E s) (hs : ∀ x, genexprIterable false (⟨target, iter, [], 0⟩ :: more) env x = pure x := by intro _; rfl) :
  wpAny (model P w) A (eval (.GeneratorExp elt (⟨target, iter, [], 0⟩ :: more) scope pos) env) Q E s := by
 unhygienic
 revert hen w A E s env elt target iter more scope pos Q c a oc;rw [zdZ _ _ _ _ _ _ hco hs, hclos];refine wpAny_bind (wpAny_mono h (fun xv s₁ h₁ => ?_) fun _ _ q => q);refine wpAny_bind (wpAny_standAt ?_);refine wpAny_bind (wpAny_holding (wpAny_mono h₁ (fun it s₂ h₂ => ?_) fun _ _ q => q));obtain ⟨T, h₂⟩ := h₂;refine wpAny_bind (wpAny_enterFrame T.lim hroom ?_);refine wpAny_bind (wpAny_pure ?_);refine wpAny_bind (zec T hc ha ho hok fun code h' tk e hle => ?_)
 haveI T' : TopH w h' := T.ext e (by simp)
 obtain ⟨mg, ng⟩ := T'.g;obtain ⟨ob, eb, cb, db, dab⟩ := T'.bi;rw [hgl];refine wpAny_bind (wpAny_builtinsFor ng (mg_of T'.K ng zih) (by decide) eb cb db dab ?_);have hbinds : ∀ y ∈ ([((".0" : Str), it)] : List (Str × Value)), scope.names.lookup y.1 = some NameKind.local := by
  intro y hy;rw [mem_singleton.mp hy]; exact h0
 refine wpAny_bind (wpAny_newFunctionEnv hcell hbinds (fun h3 hn3 hs3 => ?_) hkind);have e0 : (fun y : Str => ([((".0" : Str), it)] : List (Str × Value)).reverse.lookup y) = fun y : Str => if y = (".0" : Str) then some it else none := by
  funext y
  by_cases hy : y = ".0"
  ·subst hy; simp
  ·have : (y == (".0" : Str)) = false := by simpa using hy
   simp [List.lookup, this, hy]
 rw [e0] at hn3;dsimp only at hn3 hs3 ⊢;have k3 : zaz h' h3 := fun b o e => hs3.extBut b o (ne_of_lt (lt_size e)) (get?_push_of_some _ e)
 haveI hsz : h3.objs.size = h'.objs.size + 1 := by rw [hs3.1, size_push]
 simp only [newGenerator, newFields];refine wpAny_bind (wpAny_newGen (wpAny_bind (wpAny_mkText (wpAny_bind (wpAny_mkText (wpAny_newObj_type ?_ (by size_fits)))))));ext d;rw [hsz]
 haveI h₃ := fun h' tk => h₂ code h' tk
 unfold genEnv at h₃;rw [hgl] at h₃;refine h₃ _ _ h'.objs.size ((e.trans (.of_keeps k3) (by simp)).trans (.push _ _) (by simp)) (hn3.push _) hle ?_ (Heap.get?_none_of_le hle) (fun o q => ?_)
 ·exact ⟨_, _, _, by rw [← hsz]; exact get?_push_size _ rfl, rfl, rfl, rfl⟩
 ·rw [← hsz, get?_push_size _ rfl] at q; cases q; rfl
end
section
def zar (w : World) : Bool := w.params.followText "set-order"
def SetL (w : World) (h : Heap) (a : Addr) (S : Str → Bool) (n : Nat) : Prop :=
 ∃ o es ep t, h.get? a = some o ∧ o.ExactSet ∧ o.data = .set es ep t ∧ ElemsOf (KD w) es.toList ∧ (∀ k, S k = true ↔ ∃ e ∈ es.toList, (KD w).is k e.2 = true)
  ∧ es.size < scanBound ∧ t.fits es.size = true ∧ es.size = n ∧ (zar w = false → t.led = true) ∧ (0 < es.size → t.plain = false)
section
variable {S : Str → Bool} {n : Nat}
theorem SetL.of (x : SetL w h a S n) : h.SetOf (KD w) a S n := by
 obtain ⟨o, es, ep, t, h1, h2, h3, h4, h5, h6, h7, h8, _⟩ := x;exact ⟨o, es, ep, t, h1, h2, h3, h4, h5, h6, h7, h8⟩
theorem SetL.at (x : SetL w h a S n) (k : ∀ o, h.get? a = some o → o.cls = .type "set" → (∀ es n, o.data ≠ .dict es n) → h'.get? a = some o) : SetL w h' a S n := by
 obtain ⟨o, es, ep, t, h1, h2, h3, r⟩ := x;exact ⟨o, es, ep, t, k o h1 h2.1 (fun _ _ q => by rw [h3] at q; cases q), h2, h3, r⟩
theorem SetL.congr (x : SetL w h a S n) (e : ∀ k, S k = S' k) (en : n = n') : SetL w h a S' n' := by
 have : S = S' := funext e;subst this; subst en; exact x
theorem SetL.obj (x : SetL w h a S n) : ∃ o, h.get? a = some o ∧ o.cls = .type "set" ∧ ∀ es n, o.data ≠ .dict es n := by
 obtain ⟨o, es, ep, t, ho, hx, hd, r⟩ := x;exact ⟨o, ho, hx.1, fun _ _ q => by rw [hd] at q; cases q⟩
theorem zfa (t : SetTable) (es : Array (Int × Value)) (k : Int) (x : Value) : (layNew t es k x).2.1.led = t.led ∧ (t.plain = false → (layNew t es k x).2.1.plain = false) := by
 unhygienic
 revert hen t es k x;unfold layNew
 split
 ·rename_i slot wd _
  have e : ∀ n, (((t.put slot).1).orStandIn n).led = t.led ∧ (t.plain = false → (((t.put slot).1).orStandIn n).plain = false) := by
   intro n;unfold SetTable.orStandIn
   split
   ·exact ⟨rfl, id⟩
   ·exact ⟨rfl, fun _ => rfl⟩
  exact e _
 ·exact ⟨rfl, fun _ => rfl⟩
theorem zdk (t : SetTable) (es : Array (Int × Value)) (m : Nat) : (relayAll t es m).2.1.led = t.led ∧ (t.plain = false → (relayAll t es m).2.1.plain = false) := by
 unhygienic
 revert hen t es m;unfold relayAll
 split
 ·rename_i t' order e
  haveI e' : t'.led = t.led ∧ t'.plain = t.plain := by
   unfold SetTable.relaid SetTable.laid at e;simp only [Option.bind_eq_bind, Option.bind_eq_some_iff, Option.pure_def, Option.some.injEq, Prod.mk.injEq] at e;obtain ⟨_, _, rfl, _⟩ := e;exact ⟨rfl, rfl⟩
  ext d
  split
  ·exact ⟨e'.1, fun q => e'.2.trans q⟩
  ·exact ⟨rfl, fun _ => rfl⟩
 ·exact ⟨rfl, fun _ => rfl⟩
theorem zcM {es : Array (Int × Value)} {t : SetTable} (ho : h.get? a = some o) (hex : o.ExactSet) (hd : o.data = .set es ep t)
  {es' : Array (Int × Value)} {t' : SetTable} (hel : ElemsOf (KD w) es'.toList) (hmem : ∀ k, S' k = true ↔ ∃ e ∈ es'.toList, (KD w).is k e.2 = true) (hb : es'.size < scanBound) (hf : t'.fits es'.size = true) (hl : zar w = false → t'.led = true) (hp : t'.plain = false) :
  (h.update a (Obj.putSet es' t')).get? a = some { o with data := .set es' (ep + 1) t' } ∧ SetL w (h.update a (Obj.putSet es' t')) a S' es'.size := by
 obtain ⟨hg, _⟩ := SetOf_store (knd := KD w) ho hex hd hel hmem hb hf;exact ⟨hg, _, es', ep + 1, t', hg, hex, rfl, hel, hmem, hb, hf, rfl, hl, fun _ => hp⟩
theorem zeA {g : Bool → Sem Unit} (hg : ∀ (b : Bool) (s₁ : Shared) (Q' : Unit → Shared → Prop), Q' () s₁ → wpAny (model P w) A (g b) Q' E s₁)
 {es : Array (Int × Value)} {t : SetTable} (ho : s.heap.get? a = some o) (hex : o.ExactSet) (hd : o.data = .set es ep t)
  {es1 : Array (Int × Value)} {t2 : SetTable} (hel1 : ElemsOf (KD w) es1.toList) (hmem1 : ∀ k', S' k' = true ↔ ∃ e ∈ es1.toList, (KD w).is k' e.2 = true)
  (hb1 : es1.size < scanBound) (hf2 : t2.fits es1.size = true) (hl : zar w = false → t2.led = true) (hpl : t2.plain = false) {wasDummy : Bool} {R : Option Bool → Shared → Prop}
  (h : ∀ h', Heap.SameBut a s.heap h' → SetL w h' a S' es1.size → R (some true) { s with heap := h' }) :
  wpAny (model P w) A (do
    storeSet a es1 t2
    if (!wasDummy && t2.tooFull) = true then do
      g (relayAll t2 es1 (SetTable.grown es1.size)).2.2
      storeSet a (relayAll t2 es1 (SetTable.grown es1.size)).1 (relayAll t2 es1 (SetTable.grown es1.size)).2.1
      pure (some true)
     else pure (some true)) R E s := by
 refine wpAny_bind (wpAny_storeSet_of ho hd ?_ (fits_of_scanBound hb1));obtain ⟨ho1, hS1⟩ := zcM ho hex hd hel1 hmem1 hb1 hf2 hl hpl;have hsb1 := Heap.SameBut.update s.heap a (Obj.putSet es1 t2)
 split
 ·
  have hp := relayAll_perm t2 es1 (SetTable.grown es1.size);have hfr := relayAll_fits t2 es1 (SetTable.grown es1.size);have hlr := zdk t2 es1 (SetTable.grown es1.size);generalize hRl : relayAll t2 es1 (SetTable.grown es1.size) = Rl at hp hfr hlr ⊢;obtain ⟨es2, t3, gave2⟩ := Rl;dsimp only at hp hfr hlr ⊢;have hel2 : ElemsOf (KD w) es2.toList := hel1.perm hp;have hmem2 : ∀ k', S' k' = true ↔ ∃ e ∈ es2.toList, (KD w).is k' e.2 = true := fun k' => (hmem1 k').trans ⟨fun ⟨e, he, q⟩ => ⟨e, hp.mem_iff.mpr he, q⟩, fun ⟨e, he, q⟩ => ⟨e, hp.mem_iff.mp he, q⟩⟩;have hsz : es2.size = es1.size := by rw [← length_toList, hp.length_eq, length_toList]
  have hb2 : es2.size < scanBound := by rw [hsz]; exact hb1
  refine wpAny_bind (hg _ _ _ ?_);refine wpAny_bind (wpAny_storeSet_of ho1 rfl ?_ (fits_of_scanBound hb2));obtain ⟨_, hS2⟩ := zcM (w := w) ho1 hex rfl hel2 hmem2 hb2 hfr (fun q => hlr.1.trans (hl q)) (hlr.2 hpl);rw [hsz] at hS2;exact wpAny_pure (h _ (hsb1.trans (Heap.SameBut.update _ a _)) hS2)
 ·exact wpAny_pure (h _ hsb1 hS1)
end
theorem zhq {w : World} {s : Shared} {a : Addr} {S : Str → Bool} {n : Nat} {Q : Bool → Shared → Prop} : ∀ (hS : SetL w s.heap a S n) (hroom : n + 1 < scanBound) (h : ∀ h', Heap.SameBut a s.heap h' → SetL w h' a (fun k' => S k' || decide (k' = k)) (if S k then n else n + 1) → Q (!S k) { s with heap := h' }), wpAny (model P w) A (setAddHashed a (.str k tk) ((KD w).hash k)) Q E s := by
 unhygienic
 revert hen w A E s a S n k tk Q;have hkey := zbJ w k tk;have hsc : (Value.str k tk).scannable = true := rfl;obtain ⟨o, es, ep, t, ho, hex, hd, hel, hmem, hb, hf, hn, hl, hpl⟩ := hS;have hb1 : es.size + 1 < scanBound := by rw [hn]; exact hroom
 unfold setAddHashed setAddHashedIn;refine wpAny_holding (wpAny_bind (wpAny_setState_of ho hd hf ?_));ext d;rw [byScan_of hsc hb hel];simp only [↓reduceIte];unfold setAddByScan;ext bind;refine wpAny_bind (wpAny_rule ?_);refine wpAny_bind (wpAny_setScan_of hkey ho hd hf hel ?_);cases hr : List.findIdx? (fun e => (KD w).is k e.2) es.toList with
 | some j =>
  ext d;obtain ⟨hj, hpj, _⟩ := List.findIdx?_eq_some_iff_getElem.mp hr;have hSk : S k = true := (hmem k).mpr ⟨es.toList[j], getElem_mem hj, hpj⟩;refine wpAny_pure (wpAny_pure ?_);have e : s = { s with heap := s.heap } := by cases s; rfl
  have := h s.heap (Heap.SameBut.refl a s.heap) ⟨o, es, ep, t, ho, hex, hd, hel, fun k' => by
   rw [Bool.or_eq_true, decide_eq_true_eq, ← hmem k'];exact ⟨fun hk => hk.elim id (fun e => e ▸ hSk), .inl⟩, hb, hf, by rw [hSk]; exact hn, hl, hpl⟩
  rw [hSk] at this; rw [e]; exact this
 | none =>
  ext d;have hSk : S k = false := by
   cases hk : S k with
   | false => rfl
   | true => obtain ⟨e, he, hp⟩ := (hmem k).mp hk; have := List.findIdx?_eq_none_iff.mp hr e he; rw [hp] at this; exact Bool.noConfusion this
  have hgw : ∀ (b : Bool) {s₁ : Shared} {Q' : Unit → Shared → Prop}, Q' () s₁ → wpAny (model P w) A (match b with | true => rule "set.scan.the-table-gave-way" | false => pure ()) Q' E s₁ :=
   fun b s₁ Q' hq => by cases b <;> first | exact wpAny_pure hq | exact wpAny_rule hq
  have hperm := layNew_perm t es ((KD w).hash k) (.str k tk);have hfits := layNew_fits t es ((KD w).hash k) (.str k tk);have hled := zfa t es ((KD w).hash k) (.str k tk);generalize hL : layNew t es ((KD w).hash k) (.str k tk) = L at hperm hfits hled ⊢;obtain ⟨es1, t1, wasDummy, gave⟩ := L;dsimp only at hperm hfits hled ⊢;rw [toList_push] at hperm;have hel1 : ElemsOf (KD w) es1.toList := (hel.push hkey hsc).perm hperm;have hmem1 : ∀ k', (S k' || decide (k' = k)) = true ↔ ∃ e ∈ es1.toList, (KD w).is k' e.2 = true := mem_push_iff hkey hmem hperm;have hb1' : es1.size < scanBound := by rw [← length_toList, hperm.length_eq, length_append, length_toList]; simpa using hb1
  refine wpAny_bind (hgw _ ?_);have hsz1 : es1.size = n + 1 := by rw [← length_toList, hperm.length_eq, length_append, length_toList, hn]; rfl
  have hend : ∀ h', Heap.SameBut a s.heap h' → SetL w h' a (fun k' => S k' || decide (k' = k)) es1.size → Q true { s with heap := h' } := by
   intro h' hsb hS'; have := h h' hsb; rw [hSk] at this; rw [hsz1] at hS'; exact this hS'
  split
  ·ext bind
   rw [hashByValue_scannable 8 hsc];ext pure;refine zeA ?_ ho hex hd hel1 hmem1 hb1' ?_ ?_ ?_ ?_
   ·intro b s₁ Q' hq; cases b <;> first | exact wpAny_pure hq | exact wpAny_rule hq
   ·exact SetTable.fits_plain_off hfits
   ·exact fun q => hled.1.trans (hl q)
   ·rfl
   ·intro h' hsb hS'; dsimp only; exact wpAny_pure (hend h' hsb hS')
  ·rename_i np
   refine wpAny_bind (wpAny_pure ?_);simp only [↓reduceIte];refine zeA ?_ ho hex hd hel1 hmem1 hb1' hfits (fun q => hled.1.trans (hl q)) (by simpa using np) ?_
   ·intro b s₁ Q' hq; cases b <;> first | exact wpAny_pure hq | exact wpAny_rule hq
   ·intro h' hsb hS'; dsimp only; exact wpAny_pure (hend h' hsb hS')
section
variable {S : Str → Bool} {n : Nat}
theorem zeM (w : World) (hS : h.get? a = some { cls := .type "set", dict := none, data := .set #[] 0 (.fresh 0 0 (!zar w)) }) : SetL w h a (fun _ => false) 0 :=
 ⟨_, #[], 0, .fresh 0 0 (!zar w), hS, ⟨rfl, rfl, rfl⟩, rfl, (fun e he => by simp at he), (fun k => by simp), (by unfold scanBound; decide), rfl, rfl, (fun q => by rw [q]; rfl), (fun q => absurd q (by decide))⟩
theorem zf4 (x : Value) {Q₁ : Value → Shared → Prop}
  (h : Q₁ (.ref s.heap.objs.size) { s with heap := s.heap.push { cls := .type "set", dict := none, data := .set #[] 0 (.fresh 0 0 (!zar w)) } }) :
  codeAny (model P w) A (.call (.builtin "set.__new__") ⟨[.type "set", x], []⟩) (wants Q₁ E) s := by
 unhygienic
 revert hen w A E s x Q₁;ext o.codeAny_of_tree;show wpAny _ A.in1 (do checkBuiltinCall "set.__new__" ⟨[.type "set", x], []⟩; again (.builtin "set.__new__" ⟨[.type "set", x], []⟩)) _ _ s;refine wpAny_bind (wpAny_of_eq (F.newCall_set_1 x) (wpAny_pure ⟨plainId_quiet F.plain_set_new _, codeAny_builtin F.entry_set_new ?_⟩));rw [Around.under_plainId F.plain_set_new _];unfold Builtin.«set.__new__» Builtin.Frozenset.newClass;have hsub := sub_set_self;obtain ⟨hp, g, d, tk, os⟩ := s;ext d;ext bind bind
 wp_delta
 ext pure;refine wpAny_ite_false rfl ?_;ext bind;refine wpAny_of_eq ‹_› ?_;refine wpAny_ite_false rfl ?_;ext pure bind
 wp_delta
 ext bind
 wp_delta
 ext bind;refine wpAny_askSetting (wpAny_pure ?_);ext d;simp only [newObj];refine wpAny_bind (wpAny_alloc (wpAny_pure ?_));exact wpAny_pure h
end
end
section
def zfo (l : List Str) (k : Str) : List Str := if k ∈ l then l else l ++ [k]
def zah (ks : List Str) : List Str := ks.foldl zfo []
theorem zek (l : List Str) (k k' : Str) : k' ∈ zfo l k ↔ k' ∈ l ∨ k' = k := by
 unfold zfo; split
 ·rename_i h; exact ⟨.inl, fun q => q.elim id fun e => e ▸ h⟩
 ·simp
theorem zbm (ks : List Str) (k : Str) : k ∈ zah ks ↔ k ∈ ks := by
 have key : ∀ (ks l : List Str), k ∈ ks.foldl zfo l ↔ k ∈ l ∨ k ∈ ks := by
  intro ks
  induction ks with
  | nil => intro l; simp
  | cons a ks ih => intro l; rw [foldl_cons, ih, zek, mem_cons, or_assoc]
 unfold zah;rw [key]; simp
theorem zer (l : List Str) (k : Str) : (zfo l k).length = if k ∈ l then l.length else l.length + 1 := by unfold zfo; split <;> simp
theorem zbu (ks : List Str) : (zah ks).length ≤ ks.length := by
 have key : ∀ (ks l : List Str), (ks.foldl zfo l).length ≤ l.length + ks.length := by
  intro ks
  induction ks with
  | nil => intro l; simp
  | cons a ks ih => intro l; rw [foldl_cons, length_cons]; have := ih (zfo l a); rw [zer] at this; split at this <;> omega
 simpa [zah] using key ks []
section
theorem zgB (hh : A.handled = none) (hA : Rm 500 A) (hfin : fin = .ok (.ret .none) ∨ fin = .ok .next) (hz : ks.length ≤ 1000) (hC : z.C = [S]) :
  ∀ (m j : Nat) (s : Shared), m + j = ks.length → Feed w A.in1 z fin a (ks.map .str) j s → SetL w s.heap S (fun k => decide (k ∈ zah (ks.take j))) (zah (ks.take j)).length →
  (∀ s', TookS z S s s' → SetL w s'.heap S (fun k => decide (k ∈ zah ks)) (zah ks).length → R (.ok (.ret .none)) s') →
  codeAny (model P w) A (.builtin "set.update.loop" ⟨[.ref S, .ref a], []⟩) R s := by
 have sC : S ∈ z.C := by rw [hC]; exact .head _
 intro m
 induction m with
 | zero =>
  intro j s hm Fe hS hR;have hj : j = ks.length := by omega
  have hCs : Cs z s.heap := fun c q => by rw [hC, mem_singleton] at q; obtain ⟨o, e, _⟩ := SetL.obj hS; exact ⟨o, q ▸ e⟩
  refine codeAny_builtin F.entry_set_update_loop ?_;rw [Around.under_plainId F.plain_set_update_loop];unfold Builtin.«set.update.loop»;refine wpAny_bind (Fe.stop hCs hh (hA.in1.dlt) hfin (by rw [length_map]; exact hj) (fun s' wk => ?_));ext pure;rw [hj, take_length] at hS;exact hR s' (.of_woke wk) (SetL.at hS fun o e hc _ => wk.heap.get e (zbp hc) fun q => q.2.1 sC)
 | succ m ih =>
  intro j s hm Fe hS hR;have hj : j < ks.length := by omega
  have hCs : Cs z s.heap := fun c q => by rw [hC, mem_singleton] at q; obtain ⟨o, e, _⟩ := SetL.obj hS; exact ⟨o, q ▸ e⟩
  refine codeAny_builtin F.entry_set_update_loop ?_;rw [Around.under_plainId F.plain_set_update_loop];unfold Builtin.«set.update.loop»;refine wpAny_bind (Fe.next hCs hh (hA.in1.dlt) hfin (by rw [getElem?_map, getElem?_eq_getElem hj]; rfl) (fun v s' rd wk Fe' => ?_));obtain ⟨t, rfl⟩ := rd.strE;have hS' := SetL.at hS fun o e hc _ => wk.heap.get e (zbp hc) fun q => q.2.1 sC;have tw : TookS z S s s' := .of_woke wk;have ok := Fe'.ok;clear Fe hS wk rd hCs;obtain ⟨h, gn, d, tk, os⟩ := s';dsimp only at hS' ⊢;refine wpAny_bind (wpAny_holding ?_);unfold setAdd;ext holding;refine wpAny_bind ((KD w).pyHash (k := ks[j]) (zbJ w _ t) ?_);have hroom : (zah (ks.take j)).length + 1 < scanBound := by have := zbu (ks.take j); rw [length_take] at this; show _ < 4096; omega
  refine zhq (s := ⟨h, gn, d, tk + 1, os⟩) hS' hroom fun h' hsb hS2 => ?_;have htk : zah (ks.take (j + 1)) = zfo (zah (ks.take j)) ks[j] := by rw [take_succ_eq_append_getElem hj]; unfold zah; rw [foldl_append]; rfl
  have hS3 : SetL w h' S (fun k => decide (k ∈ zah (ks.take (j + 1)))) (zah (ks.take (j + 1))).length :=
   SetL.congr hS2 (fun k => by rw [htk]; simp [zek]) (by rw [htk, zer]; simp)
  refine wpAny_pure ⟨plainId_quiet F.plain_set_update_loop _, ih (j + 1) _ (by omega) (Fe'.calm (Calm.but sC hsb.extBut (let ⟨o, e, _⟩ := SetL.obj hS3; ⟨o, e⟩))) hS3 (fun s'' tk r' => hR s'' ?_ r')⟩;have sl : 604 ≤ S := ok.c S sC;exact .trans (zbc ok sl) (.trans (zbc ok sl) tw (.of_but hsb.extBut)) tk
theorem zg9 (hh : A.handled = none) (hA : Rm 490 A) (hfin : fin = .ok (.ret .none) ∨ fin = .ok .next) (hz : ks.length ≤ 1000) (hC : z.C = [s.heap.objs.size])
  (Fe : Feed w A.in1.in1.in1 z fin a (ks.map .str) 0 s)
  (hQ : ∀ s' S, Took z s s' → SetL w s'.heap S (fun k => decide (k ∈ zah ks)) (zah ks).length → s.heap.get? S = none → S < s'.heap.objs.size → Q (.ref S) s') :
  wpAny (model P w) A (call (.type "set") [.ref a]) Q E s := by
 unhygienic
 revert hen w A E z fin a ks s Q;obtain ⟨c, tl, hmro⟩ := F.called_set.mro;have hmade := F.called_set.made;have hsub := F.called_set.sub;refine wpAny_call (codeAny_of_tree ?_);show wpAny _ _ (callAny (.type "set") _) _ _ _;refine wpAny_pure ⟨Code.quiet_builtin _ (by decide +kernel), codeAny_builtin F.entry_type_call ?_⟩;rw [Around.under_plain (weight_type_call_type "set" [.ref a] []) rfl];have h1 := F.called_set.notType;have h2 := F.called_set.canCreate;have hct := F.typeCall_set_1 (.ref a);unfold Builtin.«type.__call__»;refine wpAny_ite_false rfl ?_;refine wpAny_ite_false rfl ?_;ext bind;refine wpAny_of_eq ‹_› ?_;ext bind;refine wpAny_of_eq ‹_› ?_;refine wpAny_ite_false rfl ?_;ext bind;refine wpAny_of_eq ‹_› ?_;ext bind pure bind holding call;refine codeAny_mono (zf4 (.ref a) (E := E) (Q₁ := fun obj s₁ => obj = .ref s.heap.objs.size ∧ s₁ = { s with heap := s.heap.push { cls := .type "set", dict := none, data := .set #[] 0 (.fresh 0 0 (!zar w)) } }) ⟨rfl, rfl⟩) fun r s₁ hr => ?_;cases r with
 | error e => exact hr
 | ok fl =>
  cases fl with
  | ret obj =>
   obtain ⟨rfl, rfl⟩ := hr;obtain ⟨h, gn, d, tk, os⟩ := s;have ok := Fe.ok;have sC : h.objs.size ∈ z.C := by rw [hC]; exact .head _
   have hS : (h.push { cls := .type "set", dict := none, data := .set #[] 0 (.fresh 0 0 (!zar w)) }).get? h.objs.size = some { cls := .type "set", dict := none, data := .set #[] 0 (.fresh 0 0 (!zar w)) } := get?_push_size _ rfl;have k1 : zaz h (h.push { cls := .type "set", dict := none, data := .set #[] 0 (.fresh 0 0 (!zar w)) }) := fun b o e => get?_push_of_some _ e;have Fe1 := Fe.calm (Calm.keeps (t' := tk) k1);have fS : h.get? h.objs.size = none := zag _;have lS : h.objs.size < (h.push { cls := .type "set", dict := none, data := .set #[] 0 (.fresh 0 0 (!zar w)) }).objs.size := by rw [size_push]; exact lt_succ_self _
   dsimp only at hC ⊢;generalize h.objs.size = S at hS fS sC lS hC ⊢;generalize h.push { cls := .type "set", dict := none, data := .set #[] 0 (.fresh 0 0 (!zar w)) } = h1 at hS k1 Fe1 lS ⊢;have hT : Shared.TypeIs ⟨h1, gn, d, tk, os⟩ (.ref S) "set" := ⟨_, hS, rfl⟩;have hTg : Shared.TypeIs ⟨h1, gn, d, tk, os⟩ (.ref a) "generator" := Fe1.gen.typeIs;have hli := F.called_set.init.lookup;have hbi := F.called_set.init.bind (.ref S);ext bind;refine wpAny_isInstance ‹_› ‹_› ?_;refine wpAny_ite_false rfl ?_;ext bind holding
   wp_delta
   ext bind;refine wpAny_specialOf ‹_› ‹_› ?_;ext holding bind;refine wpAny_of_eq ‹_› ?_;ext bind call;refine codeAny_mono (codeAny_call_builtin (R := fun r s' => r = .ok (.ret .none) ∧ TookS z S ⟨h1, gn, d, tk, os⟩ s' ∧ SetL w s'.heap S (fun k => decide (k ∈ zah ks)) (zah ks).length) F.called_set.init.plain F.entry_set_init (check_set_init_1 hT ?_)) fun r₂ s₂ hr₂ => ?_
   ·have hs1 : isSubtype (.type "generator") (.type "set") = pure false := by rw [isSubtype_type]; kernel_rfl
    have hs2 : isSubtype (.type "generator") (.type "frozenset") = pure false := by rw [isSubtype_type]; kernel_rfl
    have hne : (Value.type "generator" == Value.type "dict") = false := by decide
    unfold Builtin.«set.__init__» noKeywords Builtin.Frozenset.updateFrom;generalize hPI : pyIter = PI;ext bind;refine wpAny_ite_true rfl ?_;ext pure
    wp_delta
    ext bind
    wp_delta
    ext bind
    wp_delta
    ext bind;refine wpAny_typeOf ‹_› ?_;refine wpAny_ite_false rfl ?_;ext pure
    wp_delta
    wp_delta
    ext pure bind
    wp_delta
    refine wpAny_ite_false rfl ?_;refine wpAny_ite_false rfl ?_;refine wpAny_ite_false rfl ?_;ext pure bind
    wp_delta
    ext pure bind
    wp_delta
    ext bind
    wp_delta
    ext bind;refine wpAny_load' hS ?_;refine wpAny_ite_false rfl ?_;ext pure pure;refine wpAny_ite_false rfl ?_
    wp_delta
    ext bind bind
    wp_delta
    wp_delta
    ext bind;refine wpAny_isInstance ‹_› ‹_› ?_
    wp_delta
    refine wpAny_isInstance ‹_› ‹_› ?_;refine wpAny_ite_false rfl ?_;ext bind;refine wpAny_typeOf ‹_› ?_;refine wpAny_ite_false rfl ?_;ext bind;subst hPI;refine wpAny_pyIter_gen Fe1.gen ?_;refine wpAny_bind (wpAny_runValue ?_);have hh2 : A.in1.in1.handled = none := by simp [hh]
    have hS0 : SetL w h1 S (fun k => decide (k ∈ zah (ks.take 0))) (zah (ks.take 0)).length :=
     SetL.congr (zeM w hS) (fun _ => rfl) rfl
    refine zgB (A := A.in1.in1) hh2 (hA.in1.in1.mono (by decide)) hfin hz hC ks.length 0 _ rfl Fe1 hS0 fun s' tk' hS' => ?_;show wpAny _ _ _ _ _ _;ext pure;exact wpAny_pure ⟨rfl, tk', hS'⟩
   ·obtain ⟨rfl, tk', hS'⟩ := hr₂
    ext pure;refine wpAny_ite_false rfl ?_
    wp_delta
    ext pure;have tab := zbc ok (ok.c S sC);have t2 := (ExtP.of (mod := fun x o => z.gm x o ∨ x = S) (.of_keeps k1)).trans tk'.heap tab;obtain ⟨oS, eS, _⟩ := SetL.obj hS';exact hQ s₂ S ⟨⟨fun b o e n => t2.keep b o e fun q => q.elim n fun q => by rw [q, fS] at e; cases e⟩, tk'.bare, tk'.drawn, tk'.os⟩ hS' fS (lt_size eS)
  | _ => exact hr.elim
end
end
section
section
theorem zfD {it : Value} (hco : env.scope.isCoroutine = false) (I : Nat → Nat → Shared → Shared → Prop)
  (turn : ∀ m n s₀ s, I m n s₀ s → (∀ m' n' s₀' s', m' < m → I m' n' s₀' s' → Seg (model P w) A (Rg fin z) (Yg all z) n' s₀' (.compLoop (.GeneratorExp elt [⟨target, iter, [], 0⟩] scope pos) 0 it .none env) (.pure (.again (.compLoop (.GeneratorExp elt [⟨target, iter, [], 0⟩] scope pos) 0 it .none env))) [] s') →
   wpAny (model P w) (A.over (.compLoop (.GeneratorExp elt [⟨target, iter, [], 0⟩] scope pos) 0 it .none env) []) (pyNext it) (fun r s₁ => match r with
   | none => Rg fin z n s₀ (.ok .next) s₁
   | some v => wpAny (model P w) (A.over (.compLoop (.GeneratorExp elt [⟨target, iter, [], 0⟩] scope pos) 0 it .none env) []) (letOwnedTupleGo target it v) (fun _ s₂ =>
     wpAny (model P w) (A.over (.compLoop (.GeneratorExp elt [⟨target, iter, [], 0⟩] scope pos) 0 it .none env) []) (assign target env v) (fun _ s₃ =>
      wpAny (model P w) (A.over (.compLoop (.GeneratorExp elt [⟨target, iter, [], 0⟩] scope pos) 0 it .none env) []) (eval elt env) (fun y s₄ => ∃ n', n = n' + 1 ∧ zh6 all z n' s₀ y s₄ fun s'' =>
       Seg (model P w) A (Rg fin z) (Yg all z) n' s'' (.compLoop (.GeneratorExp elt [⟨target, iter, [], 0⟩] scope pos) 0 it .none env) (.pure (.again (.compLoop (.GeneratorExp elt [⟨target, iter, [], 0⟩] scope pos) 0 it .none env))) [] s'') No s₃) No s₂) No s₁) No s)
  (m n : Nat) (s₀ s : Shared) (i : I m n s₀ s) :
  Seg (model P w) A (Rg fin z) (Yg all z) n s₀ (.compLoop (.GeneratorExp elt [⟨target, iter, [], 0⟩] scope pos) 0 it .none env) ((model P w).den (.compLoop (.GeneratorExp elt [⟨target, iter, [], 0⟩] scope pos) 0 it .none env)) [] s := by
 induction m using Nat.strongRecOn generalizing n s₀ s with
 | _ m ih =>
  refine zgZ hco (turn m n s₀ s i fun m' n' s₀' s' hm i' => ?_);exact seg_again rfl (ih m' hm n' s₀' s' i')
theorem zfY {it : Value} (hs : ∀ x, foldedSetIterable i2 env x = pure x) (I : Nat → Nat → Shared → Shared → Prop)
  (turn : ∀ m n s₀ s, I m n s₀ s → (∀ m' n' s₀' s', m' < m → I m' n' s₀' s' → Seg (model P w) A (Rg fin z) (Yg all z) n' s₀' (.compLoop (.GeneratorExp elt [⟨t1, i1, [], 0⟩, ⟨t2, i2, [], 0⟩] scope pos) 0 it .none env) (.pure (.again (.compLoop (.GeneratorExp elt [⟨t1, i1, [], 0⟩, ⟨t2, i2, [], 0⟩] scope pos) 0 it .none env))) [] s') →
   wpAny (model P w) (A.over (.compLoop (.GeneratorExp elt [⟨t1, i1, [], 0⟩, ⟨t2, i2, [], 0⟩] scope pos) 0 it .none env) []) (pyNext it) (fun r s₁ => match r with
   | none => Rg fin z n s₀ (.ok .next) s₁
   | some v => wpAny (model P w) (A.over (.compLoop (.GeneratorExp elt [⟨t1, i1, [], 0⟩, ⟨t2, i2, [], 0⟩] scope pos) 0 it .none env) []) (letOwnedTupleGo t1 it v) (fun _ s₂ =>
     wpAny (model P w) (A.over (.compLoop (.GeneratorExp elt [⟨t1, i1, [], 0⟩, ⟨t2, i2, [], 0⟩] scope pos) 0 it .none env) []) (assign t1 env v) (fun _ s₃ =>
      wpAny (model P w) (A.over (.compLoop (.GeneratorExp elt [⟨t1, i1, [], 0⟩, ⟨t2, i2, [], 0⟩] scope pos) 0 it .none env) []) (eval i2 env) (fun x s₄ => wpAny (model P w) (A.over (.compLoop (.GeneratorExp elt [⟨t1, i1, [], 0⟩, ⟨t2, i2, [], 0⟩] scope pos) 0 it .none env) []) (pyIter x) (fun it2 s₅ =>
       ∀ (k : Result → Sem PySem.Fin) p, k (.ok .next) = .pure (.again (.compLoop (.GeneratorExp elt [⟨t1, i1, [], 0⟩, ⟨t2, i2, [], 0⟩] scope pos) 0 it .none env)) →
        Seg (model P w) A (Rg fin z) (Yg all z) n s₀ (.compStart (.GeneratorExp elt [⟨t1, i1, [], 0⟩, ⟨t2, i2, [], 0⟩] scope pos) 1 it2 .none env) ((model P w).den (.compStart (.GeneratorExp elt [⟨t1, i1, [], 0⟩, ⟨t2, i2, [], 0⟩] scope pos) 1 it2 .none env))
         [.ret k none false [] (.compLoop (.GeneratorExp elt [⟨t1, i1, [], 0⟩, ⟨t2, i2, [], 0⟩] scope pos) 0 it .none env) p []] s₅) No s₄) No s₃) No s₂) No s₁) No s)
  (m n : Nat) (s₀ s : Shared) (i : I m n s₀ s) :
  Seg (model P w) A (Rg fin z) (Yg all z) n s₀ (.compLoop (.GeneratorExp elt [⟨t1, i1, [], 0⟩, ⟨t2, i2, [], 0⟩] scope pos) 0 it .none env) ((model P w).den (.compLoop (.GeneratorExp elt [⟨t1, i1, [], 0⟩, ⟨t2, i2, [], 0⟩] scope pos) 0 it .none env)) [] s := by
 induction m using Nat.strongRecOn generalizing n s₀ s with
 | _ m ih =>
  refine zgK hs (turn m n s₀ s i fun m' n' s₀' s' hm i' => ?_);exact seg_again rfl (ih m' hm n' s₀' s' i')
theorem zee {it : Value} {k h g l c₁ p₁} (hco : env.scope.isCoroutine = false) (hfs : splitAtGen fs = none) (hg : g = false) (hfg : fs.any Frame.guarded = false) (I : Nat → Nat → Shared → Shared → Prop)
  (turn : ∀ m n s₀ s, I m n s₀ s → (∀ m' n' s₀' s', m' < m → I m' n' s₀' s' → Seg (model P w) A (Rg fin z) (Yg all z) n' s₀' (.compLoop (.GeneratorExp elt [⟨t1, i1, [], 0⟩, ⟨t2, i2, [], 0⟩] scope pos) 1 it .none env) (.pure (.again (.compLoop (.GeneratorExp elt [⟨t1, i1, [], 0⟩, ⟨t2, i2, [], 0⟩] scope pos) 1 it .none env))) (.ret k h g l c₁ p₁ [] :: fs) s') →
   wpAny (model P w) (A.over (.compLoop (.GeneratorExp elt [⟨t1, i1, [], 0⟩, ⟨t2, i2, [], 0⟩] scope pos) 1 it .none env) (.ret k h g l c₁ p₁ [] :: fs)) (pyNext it) (fun r s₁ => match r with
   | none => Seg (model P w) A (Rg fin z) (Yg all z) n s₀ c₁ (k (.ok .next)) fs s₁
   | some v => wpAny (model P w) (A.over (.compLoop (.GeneratorExp elt [⟨t1, i1, [], 0⟩, ⟨t2, i2, [], 0⟩] scope pos) 1 it .none env) (.ret k h g l c₁ p₁ [] :: fs)) (letOwnedTupleGo t2 it v) (fun _ s₂ =>
     wpAny (model P w) (A.over (.compLoop (.GeneratorExp elt [⟨t1, i1, [], 0⟩, ⟨t2, i2, [], 0⟩] scope pos) 1 it .none env) (.ret k h g l c₁ p₁ [] :: fs)) (assign t2 env v) (fun _ s₃ =>
      wpAny (model P w) (A.over (.compLoop (.GeneratorExp elt [⟨t1, i1, [], 0⟩, ⟨t2, i2, [], 0⟩] scope pos) 1 it .none env) (.ret k h g l c₁ p₁ [] :: fs)) (eval elt env) (fun y s₄ => ∃ n', n = n' + 1 ∧ zh6 all z n' s₀ y s₄ fun s'' =>
       Seg (model P w) A (Rg fin z) (Yg all z) n' s'' (.compLoop (.GeneratorExp elt [⟨t1, i1, [], 0⟩, ⟨t2, i2, [], 0⟩] scope pos) 1 it .none env) (.pure (.again (.compLoop (.GeneratorExp elt [⟨t1, i1, [], 0⟩, ⟨t2, i2, [], 0⟩] scope pos) 1 it .none env))) (.ret k h g l c₁ p₁ [] :: fs) s'') No s₃) No s₂) No s₁) No s)
  (m n : Nat) (s₀ s : Shared) (i : I m n s₀ s) :
  Seg (model P w) A (Rg fin z) (Yg all z) n s₀ (.compLoop (.GeneratorExp elt [⟨t1, i1, [], 0⟩, ⟨t2, i2, [], 0⟩] scope pos) 1 it .none env) ((model P w).den (.compLoop (.GeneratorExp elt [⟨t1, i1, [], 0⟩, ⟨t2, i2, [], 0⟩] scope pos) 1 it .none env)) (.ret k h g l c₁ p₁ [] :: fs) s := by
 induction m using Nat.strongRecOn generalizing n s₀ s with
 | _ m ih =>
  refine zeN hco hfs hg hfg (turn m n s₀ s i fun m' n' s₀' s' hm i' => ?_);exact seg_again rfl (ih m' hm n' s₀' s' i')
end
section
variable {ep : Addr} {g : Grp}
theorem zga (hA : Rm 480 A) (T : TopH w h) (X : MDI w b h x g dx kvs es ep) (hx : 604 ≤ x)
  (hQ : ∀ h' it tk, Ext [] h h' → h'.get? it = some (zcn x 0 kvs.length ep) → h.get? it = none → h.objs.size ≤ it → Q (.ref it) ⟨h', gn, d, tk, os⟩) :
  wpAny (model P w) A (pyIter (.ref x)) Q E ⟨h, gn, d, t, os⟩ := by
 unhygienic
 revert hen w A E h gn d t os x dx b ep g es kvs Q;have I := X.inst;have hI := I.at_;have L : Looks (model P w) h (typeOf (.ref x)) (.ref 437) := (Looks.ld hI).andThen .now;have L1 : Looks (model P w) h (typeLookup (.ref 437) "__iter__") (some (.ref 272)) := looks_findIn T.K (by kernel_rfl);obtain ⟨of, eof, cof⟩ : ∃ o, (KK w).lookup 272 = some o ∧ o.cls = .type "function" := ⟨_, rfl, rfl⟩;have L2 : Looks (model P w) h (typeOf (.ref 272)) (.type "function") := cof ▸ (Looks.ld (T.K _ _ eof)).andThen .now;have cl : wpAny (model P w) A (call (.ref 272) [.ref x]) (fun it s' => ∃ h' a tk, it = .ref a ∧ s' = ⟨h', gn, d, tk, os⟩ ∧ Ext [] h h' ∧ h'.get? a = some (zcn x 0 kvs.length ep) ∧ h.get? a = none ∧ h.objs.size ≤ a) E ⟨h, gn, d, t, os⟩ := by
  ext call;refine zgq (hA.mono (by decide)) T I hx fun h' it tk e hi hn hle => ?_;exact ⟨h', it, tk, rfl, rfl, e, by rw [hi, X.dd.size], hn, hle⟩
 have Ls : Looks (model P w) h (specialOf (.ref x) "__iter__") (some (.ref 272)) := L.andThen L1;have Lb : Looks (model P w) h (bindSpecial (.ref 272) (.ref x)) (.ref 272, [.ref x]) := L2.andThen .now;have fin : wpAny (model P w) A (if (Value.ref 272 == Value.none) = true then ((do rule "iter.none"; raiseError "TypeError" s!"'{← typeNameOf (.ref x)}' object is not iterable" : Sem Value) >>= fun v => pure (some v)) else (call (.ref 272) [.ref x] >>= fun v => pure (some v)))
   (fun r s' => ∃ it, r = some it ∧ ∃ h' a tk, it = .ref a ∧ s' = ⟨h', gn, d, tk, os⟩ ∧ Ext [] h h' ∧ h'.get? a = some (zcn x 0 kvs.length ep) ∧ h.get? a = none ∧ h.objs.size ≤ a) E ⟨h, gn, d, t, os⟩ := by
  rw [if_neg (show ¬ ((Value.ref 272 == Value.none) = true) from Bool.false_ne_true)];exact wpAny_bind (wpAny_mono cl (fun v s' h' => wpAny_pure ⟨v, rfl, h'⟩) fun _ _ h' => h')
 unfold pyIter;refine wpAny_bind (Ls.here ?_);ext d bind;refine wpAny_mono (Q := fun r s' => ∃ it, r = some it ∧ ∃ h' a tk, it = .ref a ∧ s' = ⟨h', gn, d, tk, os⟩ ∧ Ext [] h h' ∧ h'.get? a = some (zcn x 0 kvs.length ep) ∧ h.get? a = none ∧ h.objs.size ≤ a) ?_ (fun r s' q => ?_) fun _ _ q => q
 ·unfold callSpecialIfBoundUnlessNone? bindSpecialIfBound?
  refine wpAny_holding (wpAny_bind (wpAny_bind (Ls.here ?_)));refine wpAny_bind (wpAny_askSetting (wpAny_ite ?_))
  split
  ·refine wpAny_bind (Lb.here (wpAny_pure ?_))
   exact fin
  ·refine wpAny_tryCatch (wpAny_bind (Lb.here (wpAny_pure ?_)))
   exact fin
 ·obtain ⟨_, rfl, h', a, tk, rfl, rfl, e, hi, hn, hle⟩ := q
  ext d;have hT : (⟨h', gn, d, tk, os⟩ : Shared).TypeIs (.ref a) "dict_keyiterator" := ⟨_, hi, rfl⟩;refine wpAny_bind (wpAny_specialOf hT F.slot_dict_keyiterator_next.lookup ?_);exact wpAny_pure (hQ h' a tk e hi hn hle)
end
end
section
def zaE (gs : List Grp) : List Str := gs.flatMap fun g => g.map (·.1)
theorem kg : Value.type "dict_keyiterator" ∈ zho := by decide
theorem zdg {A : Around} {t : Tok} {n : Nat} : ∀ (hA : Rm 450 A) (hh : A.handled = none) (T : TopH w s.heap) (X : WH w b s.heap x gs dx dl hsh t n c vs es ep) (hlow : 604 ≤ b) (hk : (zaE gs).length ≤ 1000) (hR : ∀ h' gn' tk S, Ext [] s.heap h' → (zaT s.gens → zaT gn') → SetL w h' S (fun k => decide (k ∈ zah (zaE gs))) (zah (zaE gs)).length → s.heap.get? S = none →
   R (.ok (.ret (.ref S))) ⟨h', gn', s.drawn, tk, s.os⟩), codeAny (model P w) A (.call (.ref 486) ⟨[.ref x], []⟩) R s := by
 unhygienic
 revert hen w A s R x dx dl b gs hsh t n c ep vs es;refine zbw [(Str.ofString "self", .ref x)] hA T (by rfl) (by rfl) (by rfl) (by rfl) (BindsTo.of_eq rfl) (by decide) (locs rfl) fun h₁ D hA' hh' => ?_
 letI hh' := hh'.trans hh
 revert hen h₁;refine za5 fun Q0 E0 hQ0 => ?_;generalize hA1 : A.deeper _ = A₁ at hA' hh' ⊢;clear hA1
 haveI T1 := D.top T (by simp)
 haveI X1 := X.ext0 D.ext
 revert hen Q0 E0 A₁;ext execs_cons Return_some Call_NameR;refine zae (by assumption) rfl rfl rfl (by boot_by_name) (by decide) ?_;ext o.call_bi items_cons;refine zci (c := 485) (a := 481) (hA'.dlt) rfl rfl (by decide) (by rfl) rfl rfl (by decide) rfl (by rfl) rfl rfl ?_;ext o.Attribute_Name_;refine zaa D.ns (by rfl) ?_;refine zaM T1 X1 ?_;refine wpAny_pyIter_list ⟨_, X1.ls, rfl, c, rfl⟩ ?_
 haveI hit : (h₁.push { cls := .type "list_iterator", data := .fields #[.ref dl, .int 0 0] }).IsListIter h₁.objs.size dl 0 := ⟨_, get?_push_size _ rfl, rfl, rfl⟩
 have fit : h₁.get? h₁.objs.size = none := zag _
 haveI b604 : 604 ≤ h₁.objs.size := T1.low
 haveI szp : (h₁.push { cls := .type "list_iterator", data := .fields #[.ref dl, .int 0 0] }).objs.size = h₁.objs.size + 1 := by rw [size_push]
 letI D := D.call (Ext.push h₁ { cls := .type "list_iterator", data := .fields #[.ref dl, .int 0 0] })
 haveI E2 : Ext [] h₁ (h₁.push { cls := .type "list_iterator", data := .fields #[.ref dl, .int 0 0] }) := Ext.push _ _
 ext d;have z0 : h₁.objs.size ≤ h₁.objs.size := le_refl _;have k2 : ∀ a o, h₁.get? a = some o → a < h₁.objs.size := fun a o e => lt_size e;generalize hitv : h₁.objs.size = it at hit fit b604 szp z0 k2 ⊢;generalize h₁.push { cls := .type "list_iterator", data := .fields #[.ref dl, .int 0 0] } = h2 at D hit szp E2 ⊢;revert hen it h2;refine ⟨T1.ext E2 (by simp), fun code h3 tk L E3 n3 le3 gen3 nL ndict => ?_⟩;revert hen code h3 tk L;ext items_nil
 haveI ok : Zone.Ok ⟨it, it, [h3.objs.size], s.gens.size⟩ := ⟨b604, le_refl _, fun a q => by
  rw [mem_singleton.mp q];obtain ⟨o, _, _, e, _⟩ := gen3;exact le_trans b604 (le_of_lt (lt_of_lt_of_le (by omega) (le_of_lt (lt_size e))))⟩
 haveI Lh3 : L + 1 < h3.objs.size := by obtain ⟨o, _, _, e, _⟩ := gen3; exact lt_size e
 haveI itl : it < L := lt_of_lt_of_le (szp ▸ lt_succ_self it) le3
 have itL : it ≤ L + 1 := le_succ_of_le (le_of_lt itl);have T3 : TopH w h3 := T1.ext (E2.trans E3 (by simp)) (by simp)
 haveI D3 := D.call E3
 refine zg9 (z := ⟨it, it, [h3.objs.size], s.gens.size⟩) (fin := .ok .next) (ks := zaE gs) hh' (hA'.mono (by decide)) (.inr rfl) hk rfl ?feed (fun s' S tw so nS lS => ?post)
 case post =>
  obtain ⟨h', gn', d', tk', os'⟩ := s';obtain ⟨t1, t2, rfl, rfl⟩ := tw;have sit : s.heap.objs.size ≤ it := Nat.le_of_lt_succ (by have := D.ns.lt; rw [szp] at this; exact this);revert hen S h' gn' tk';refine hQ0 _ _ ?_;exact hR h' gn' tk' S (Ext.p D3.ext t1 (fun a o o' e _ _ q => absurd (lt_of_lt_of_le (lt_size e) sit) (not_lt.mpr q.1)) ok.gm_tabs (by simp)) (fun q => t2 fun y hy => by
   rcases mem_push.mp hy with hy | rfl
   ·exact q y hy
   ·rfl) so (D3.ext.fresh nS)
 case feed =>
  refine ⟨ok, zero_le _, gen3, ⟨itL, fun q => ne_of_lt Lh3 (mem_singleton.mp q)⟩, T3.lim, _, getElem?_push_size, rfl, fun s₁ cm cs => ⟨rfl, ?_⟩⟩;have E13 : Ext [] h₁ h3 := E2.trans E3 (by simp);have X3 := X1
  haveI hCL : L ∉ [h3.objs.size] := fun q => ne_of_lt (lt_trans (lt_succ_self L) Lh3) (mem_singleton.mp q)
  haveI hCi : it ∉ [h3.objs.size] := fun q => ne_of_lt (lt_trans itl (lt_trans (lt_succ_self L) Lh3)) (mem_singleton.mp q)
  have ns₁ : s₁.heap.Ns L _ := cm.heap.ns n3 fun o e hd q => q.2 ⟨le_of_lt itl, hCL, .inl (.inl hd)⟩;have hit3 : h3.IsListIter it dl 0 := by
   obtain ⟨o, e, hc, hd⟩ := hit;exact ⟨o, E3.get e (by unfold hasCls; rw [hc]) (by simp), hc, hd⟩
  haveI hit1 : s₁.heap.IsListIter it dl 0 := by
   obtain ⟨o, e, hc, hd⟩ := hit3;exact ⟨o, cm.kept (s := (setGen ⟨h3, s.gens.push _, s.drawn, tk, s.os⟩ s.gens.size .running)) e (by rw [hc]; decide) (le_refl _) hCi, hc, hd⟩
  haveI run : s₁.gens[s.gens.size]? = some .running := (cm.gens _ (le_refl _)).trans (setGen_self (s := ⟨h3, s.gens.push _, s.drawn, tk, s.os⟩) getElem?_push_size)
  haveI G : GS ⟨it, it, [h3.objs.size], s.gens.size⟩ h₁ L _ s₁ s₁ := ⟨ok, hitv ▸ le_refl _, .refl _ _, Base.calm (s := (setGen ⟨h3, s.gens.push _, s.drawn, tk, s.os⟩ s.gens.size .running)) ok (hitv ▸ le_refl _) (E13.mono (by simp)) cm, ns₁, ⟨le_of_lt itl, hCL⟩, cs⟩
  haveI c604 : ∀ c ∈ [h3.objs.size], 604 ≤ c := ok.c
  haveI cX : ∀ c ∈ [h3.objs.size], c < b ∨ h₁.get? c = none := fun c q => .inr (zac (by rw [mem_singleton.mp q, hitv]; exact le_of_lt (lt_trans itl (lt_trans (lt_succ_self L) Lh3))))
  haveI hA₂ : Rm 460 A₁.in1.in1.in1.in1 := hA'.in1.in1.in1.in1.mono (by decide)
  haveI hh₂ : A₁.in1.in1.in1.in1.handled = none := hh'
  generalize A₁.in1.in1.in1.in1 = A₂ at hA₂ hh₂ ⊢;rw [sub_zero, length_map];generalize hz' : (⟨it, it, [h3.objs.size], s.gens.size⟩ : Zone) = z at G ok ⊢;have zC : z.C = [h3.objs.size] := by rw [← hz']
  have zB : z.B = it := by rw [← hz']
  have zg : z.g = s.gens.size := by rw [← hz']
  rw [← zg] at run;rw [← zC] at c604 cX hCi
  haveI iB : z.B ≤ it := le_of_eq zB
  clear ndict hz' zC zB zg hit3 ns₁ cm cs gen3 n3 hit hCL E13 itL itl le3 nL Lh3 szp k2 z0 E3 E2 D3 D T3 X3 hA hA' hh hh' T X hQ0 hR
  try clear A
  try clear R
  obtain ⟨all, eall⟩ : ∃ all, all = (zaE gs).map PyData.str := ⟨_, rfl⟩;rw [← eall];revert hen s₁ A₂ z all;refine (fun (key : ∀ s₀, GS z h₁ L _ s₀ s₁ → Seg (model P w) _ _ _ _ s₀ _ _ _ s₁) => key _ G) ?_;clear G;intro s₀ G;obtain ⟨h, gn, d, t', os⟩ := s₁;refine zcm (d := 0) rfl rfl rfl (fun Q q => wpAny_pyIter_listiter hit1 q) ?_;refine zfY (fun _ => rfl) (fun m n s₀ s => ∃ i mm, m + i = gs.length ∧ n = (zaE (gs.drop i)).length ∧ GS z h₁ L mm s₀ s ∧ s.heap.IsListIter it dl i ∧ s.gens[z.g]? = some .running) ?_ gs.length _ _ _ ⟨0, _, rfl, rfl, G, hit1, run⟩;clear G hit1 run h gn d t' os s₀;rintro m n s₀ ⟨h, gn, d, t', os⟩ ⟨i, mm, hm, hn, G, hit, run⟩ IH;dsimp only at hit run
  haveI X2 := X1.ext G.base cX
  obtain ⟨oi, eoi, coi, doi⟩ := id hit;cases m with
  | zero =>
   have hi : i = gs.length := by omega
   refine wpAny_pyNext_list_end (A := A₂.over _ _) hh₂ hit ⟨_, X2.ls, rfl, c, rfl⟩ (by rw [Array.getElem?_eq_none_iff, X2.md.1]; omega) (fun h' he => ?_);ext d;replace G := G.own (t' := t') he eoi (fun _ _ q => by rw [doi] at q; exact nomatch q) (by rw [coi]; exact zeH) iB hCi;have : n = 0 := by rw [hn, hi, drop_length]; rfl
   exact ⟨rfl, this, G.turn⟩
  | succ m =>
   haveI hi : i < gs.length := by omega
   obtain ⟨gi, eg, egd⟩ : ∃ gi, gs[i]? = some gi ∧ gs.drop i = gi :: gs.drop (i + 1) := ⟨_, getElem?_eq_getElem hi, drop_eq_getElem_cons hi⟩;obtain ⟨mm0, dm, kvs, em, pm, em0, Xm⟩ := X1.md.2 i gi eg;revert hen n s₀ h gn d t' os i mm oi m gi mm0 dm kvs em pm;refine wpAny_pyNext_list_item hit ⟨_, X2.ls, rfl, c, rfl⟩ em0 (fun h4 hit4 sb4 => ?_);ext d
   letI G := G.own (t' := t') (h' := h4) sb4.extBut eoi (fun _ _ q => by rw [doi] at q; exact nomatch q) (by rw [coi]; exact zeH) iB hCi
   clear X2 hit eoi coi doi sb4;ext pure assign_Name;refine wpAny_storeName_local rfl G.ns (fun h5 hn5 hs5 => ?_) rfl;obtain ⟨oi, eoi, coi, doi⟩ := id hit4;have hit5 := hit4.at fun o e => (hs5.2 it (Ne.symm (G.ne eoi fun _ _ q => by rw [doi] at q; exact nomatch q))).trans e
   letI G := G.store (t' := t') hn5 hs5
   ext d;clear hn5 hs5 hit4 eoi coi doi h4;have T6 : TopH w h5 := T1.ext G.base c604;have X6 := Xm.ext G.base cX;refine zaa G.ns ((if_pos (by decide))) ?_;refine zga ((hA₂.over (c := .compLoop _ _ _ _ _) (fs := []) rfl (by simp)).mono (by decide)) T6 X6 (le_trans hlow Xm.lx) (fun h7 ki tk7 e7 hki nki lki => ?_);intro k p hkk
   haveI kB : z.B ≤ ki := le_trans G.fresh.1 lki
   haveI kC : ki ∉ z.C := fun q => by obtain ⟨o, e⟩ := G.cs ki q; rw [nki] at e; cases e
   haveI hit7 : h7.IsListIter it dl (i + 1) := let ⟨o, e, hc, hd⟩ := hit5; ⟨o, e7.get e (by unfold hasCls; rw [hc]) (by simp), hc, hd⟩
   letI G := G.ext (t' := tk7) e7
   clear T6 X6 hit5 e7 nki lki h5;refine zcm (d := 1) rfl rfl rfl (fun Q q => wpAny_pyIter_keyiter ⟨_, hki, rfl, rfl⟩ q) ?_;have hkg : kvs.map (·.1) = gi.map (·.1) := Xm.gl.keys;have hkl : kvs.length = gi.length := Xm.gl.len
   haveI hin : it ≠ ki := fun q => by obtain ⟨o, e, hc, _⟩ := hit7; rw [q, hki] at e; cases e; exact absurd (show Value.type "dict_keyiterator" = .type "list_iterator" from hc) (by decide)
   have esp : gs = gs.take i ++ gi :: gs.drop (i + 1) := by rw [← egd, take_append_drop]
   have ek : zaE gs = zaE (gs.take i) ++ (kvs.map (·.1) ++ zaE (gs.drop (i + 1))) := by
    conv => lhs; rw [esp]
    unfold zaE;rw [flatMap_append, flatMap_cons, hkg]
   refine zee rfl rfl rfl rfl (fun m n s₀ s => ∃ j mm, m + j = kvs.length ∧ n = (kvs.length - j) + (zaE (gs.drop (i + 1))).length ∧ GS z h₁ L mm s₀ s ∧ s.heap.IsListIter it dl (i + 1) ∧ s.heap.get? ki = some (zcn mm0 j kvs.length pm) ∧ s.gens[z.g]? = some .running) ?_ kvs.length _ _ _ ⟨0, _, rfl, ?_, G, hit7, hki, run⟩
   case refine_2 =>
    rw [hn, egd];unfold zaE;rw [flatMap_cons, length_append, length_map, hkl, sub_zero]
   clear G hit7 hki run h7 tk7 hn;rintro m' n s₀ ⟨h, gn, d, t', os⟩ ⟨j, mm, hm', hn, G, hit, hki, run⟩ IH2;dsimp only at hit hki run
   haveI X2 := Xm.ext G.base cX
   cases m' with
   | zero =>
    have hj : j = kvs.length := by omega
    refine zcZ (A := A₂.over _ _) hh₂ hki X2.dd (by omega) (fun h' he => ?_);ext d;replace G := G.own (t' := t') he hki (fun _ _ q => nomatch q) kg kB kC;rw [hkk];refine IH m _ _ _ (lt_succ_self m) ⟨i + 1, mm, by omega, ?_, G, ?_, run⟩
    ·rw [hn, hj, sub_self, Nat.zero_add]
    ·obtain ⟨o, e, r⟩ := hit; exact ⟨o, he _ _ hin e, r⟩
   | succ m' =>
    obtain ⟨k0, v0, ek0, ed0⟩ : ∃ k v, kvs[j]? = some (k, v) ∧ (kvs.map (·.1)).drop j = k :: (kvs.map (·.1)).drop (j + 1) := by
     haveI hj : j < kvs.length := by omega
     refine ⟨kvs[j].1, kvs[j].2, getElem?_eq_getElem hj, ?_⟩;have e := drop_eq_getElem_cons (l := kvs.map (·.1)) (i := j) (by rw [length_map]; exact hj)
     rwa [getElem_map] at e
    refine zfV hki X2.dd ek0 (fun tk' h' hki' sb => ?_);ext d
    letI G := G.own (t' := t') (h' := h') sb.extBut hki (fun _ _ q => nomatch q) kg kB kC
    letI hit := hit.at fun o e => (sb.2 it hin).trans e
    clear X2 sb hki;ext pure assign_Name;refine wpAny_storeName_local rfl G.ns (fun h5 hn5 hs5 => ?_) rfl;obtain ⟨oi, eoi, coi, doi⟩ := id hit;have hit5 := hit.at fun o e => (hs5.2 it (Ne.symm (G.ne eoi fun _ _ q => by rw [doi] at q; exact nomatch q))).trans e;have hki5 : h5.get? ki = some (zcn mm0 (j + 1) kvs.length pm) := (hs5.2 ki (Ne.symm (G.ne hki' fun _ _ q => nomatch q))).trans hki'
    letI G := G.store (t' := t') hn5 hs5
    ext d;clear hn5 hs5 hit hki' eoi coi doi;refine zaa G.ns ((if_pos (by decide))) ?_
    letI G := G.toks (t' := t' + 1)
    refine ⟨(kvs.length - (j + 1)) + (zaE (gs.drop (i + 1))).length, by omega, .str k0, ?_, .str _ _, G.turn, fun s'' cm => ?_⟩
    ·refine zdz (pre := (zaE (gs.take i) ++ (kvs.map (·.1)).take j).map .str) (r := ((kvs.map (·.1)).drop (j + 1) ++ zaE (gs.drop (i + 1))).map .str) ?_ ?_
     ·have : kvs.map (·.1) = (kvs.map (·.1)).take j ++ k0 :: (kvs.map (·.1)).drop (j + 1) := by rw [← ed0, take_append_drop]
      rw [eall, ek]
      conv => lhs; rw [this]
      simp
     ·simp
    ·have run' : s''.gens[z.g]? = some .running := (cm.gens _ (le_refl _)).trans run
     have hit' : s''.heap.IsListIter it dl (i + 1) := by
      obtain ⟨o, e, hc, hd⟩ := hit5;exact ⟨o, cm.kept e (by rw [hc]; exact zeH) iB hCi, hc, hd⟩
     have hki' := cm.kept hki5 kg kB kC;exact IH2 m' _ _ _ (lt_succ_self m') ⟨j + 1, _, by omega, rfl, G.woken cm, hit', hki', run'⟩
end
section
section
variable {t : Tok} {n : Nat}
theorem zgy (hA : Rm 440 A) (hh : A.handled = none) (T : TopH w s.heap)
  (X : WH w b s.heap x gs dx dl hsh t n c vs es ep) (hlow : 604 ≤ b) (hk : (zaE gs).length ≤ 1000)
  (hR : ∀ h' gn' tk S, Ext [] s.heap h' → (zaT s.gens → zaT gn') → SetL w h' S (fun k => decide (k ∈ zah (zaE gs))) (zah (zaE gs)).length → s.heap.get? S = none →
   R (.ok (.ret (.ref S))) ⟨h', gn', s.drawn, tk, s.os⟩) :
  codeAny (model P w) A (.call (.ref 493) ⟨[.ref x], []⟩) R s := by
 refine zbw [(Str.ofString "self", .ref x)] hA T (by rfl) (by rfl) (by rfl) (by rfl) (BindsTo.of_eq rfl) (by decide) (locs rfl) fun h₁ D hA' hh' => ?_;replace hh' := hh'.trans hh;have T1 := D.top T (by simp);have X1 := X.ext0 D.ext;ext execs_cons Return_some o.methodCall_KW;refine zaa D.ns (by rfl) ?_;refine zaB (f := 486) T1 X1 (by kernel_rfl) (by rfl) (by kernel_rfl) ?_;refine za1 (by rfl) T1 ?_;ext call;refine zdg (hA'.mono (by decide)) hh' T1 X1 hlow hk fun h' gn' tk S e bar so nS => ?_;exact hR h' gn' tk S (D.ext.and e) bar so (D.ext.fresh nS)
theorem zgE (hA : Rm 440 A) (hh : A.handled = none) (T : TopH w s.heap)
  (X : WH w b s.heap x gs dx dl hsh t n c vs es ep) (hlow : 604 ≤ b) (hk : (zaE gs).length ≤ 1000)
  (hR : ∀ h' gn' tk tk', Ext [] s.heap h' → (zaT s.gens → zaT gn') → R (.ok (.ret (.int (zah (zaE gs)).length tk'))) ⟨h', gn', s.drawn, tk, s.os⟩) :
  codeAny (model P w) A (.call (.ref 543) ⟨[.ref x], []⟩) R s := by
 unhygienic
 revert hen w A s R x dx dl b gs hsh t n c ep vs es;refine zbw [(Str.ofString "self", .ref x)] hA T (by rfl) (by rfl) (by rfl) (by rfl) (BindsTo.of_eq rfl) (by decide) (locs rfl) fun h₁ D hA' hh' => ?_;replace hh' := hh'.trans hh;have T1 := D.top T (by simp);have X1 := X.ext0 D.ext;ext execs_cons Return_some Call_NameR;refine zae (by assumption) rfl rfl rfl (by boot_by_name) (by decide) ?_;ext o.call_bi items_cons o.methodCall_KW;refine zaa D.ns (by rfl) ?_;refine zaB (f := 486) T1 X1 (by kernel_rfl) (by rfl) (by kernel_rfl) ?_;refine za1 (by rfl) T1 ?_;ext call;refine zdg (hA'.mono (by decide)) hh' T1 X1 hlow hk fun h' gn' tk S e bar so nS => ?_;ext items_nil;obtain ⟨o, es', ep', tb, h1, h2, h3, _, _, h6, h7, h8, _⟩ := so;have := zbu (zaE gs);refine call_len_set (s := ⟨h', gn', _, tk, _⟩) h1 h2 h3 h7 (by omega) ?_;rw [h8];exact hR h' gn' _ _ (D.ext.and e) bar
theorem zdO (hA : Rm 430 A) (hh : A.handled = none) (T : TopH w s.heap)
  (X : WH w b s.heap x gs dx dl hsh t n c vs es ep) (hlow : 604 ≤ b) (hk : (zaE gs).length ≤ 1000)
  (hQ : ∀ h' gn' tk tk', Ext [] s.heap h' → (zaT s.gens → zaT gn') → Q (.int (zah (zaE gs)).length tk') ⟨h', gn', s.drawn, tk, s.os⟩) :
  wpAny (model P w) A (call (.builtin "len") [.ref x]) Q E s := by
 unhygienic
 revert hen w A E s x dx dl b gs hsh t n c ep vs es Q;refine Calls.call_function_entry kind_len plain_len entry_len (args_len1 _) ?_;unfold Builtin.«len»;obtain ⟨h, gn, d, tk, os⟩ := s;have hI := X.inst.at_;have L : Looks (model P w) h (typeOf (.ref x)) (.ref 560) := (Looks.ld hI).andThen .now;have L1 : Looks (model P w) h (typeLookup (.ref 560) "__len__") (some (.ref 543)) := looks_findIn T.K (by kernel_rfl);obtain ⟨of, eof, cof⟩ : ∃ o, (KK w).lookup 543 = some o ∧ o.cls = .type "function" := ⟨_, rfl, rfl⟩;have L2 : Looks (model P w) h (typeOf (.ref 543)) (.type "function") := cof ▸ (Looks.ld (T.K _ _ eof)).andThen .now;have Ls : Looks (model P w) h (specialOf (.ref x) "__len__") (some (.ref 543)) := L.andThen L1;have Lb : Looks (model P w) h (bindSpecial (.ref 543) (.ref x)) (.ref 543, [.ref x]) := L2.andThen .now;refine wpAny_bind (m := oneArg "len" _) (wpAny_pure ?_);refine wpAny_bind (m := callSpecial? (.ref x) (Str.ofString "__len__")) ?_;unfold callSpecial?;refine wpAny_bind (Ls.here ?_);ext d;refine wpAny_holding (wpAny_bind (Lb.here ?_));ext bind call;refine zgE (hA.in1.mono (by decide)) hh T X hlow hk fun h' gn' tk1 tk' e bar => ?_;ext pure;have := zbu (zaE gs);ext d;refine wpAny_bind (wpAny_holding (wpAny_pure ?_));refine wpAny_bind (wpAny_letGo ?_);show wpAny _ _ (if (((zah (zaE gs)).length : Nat) : Int) < 0 then _ else _) _ _ _;rw [if_neg (by omega)];show wpAny _ _ (if (((zah (zaE gs)).length : Nat) : Int) ≥ 2 ^ 63 then _ else _) _ _ _;rw [if_neg (by omega)];exact wpAny_bind (wpAny_mkInt (wpAny_pure ⟨_, rfl, hQ h' gn' _ _ e bar⟩))
end
end
section
open PySem.Spec
def isMd (K : Frag) : Bool := (clsIn K 437).isSome && typeIn K (.ref 437) == some (.type "type") && instIn K (.ref 437) (.type "type") == some true && mroIn K 560 (.ref 437) == some true
theorem zir (w : World) : isMd (KK w) = true := by kernel_rfl
section
theorem zeP {dep : Int} {Q : PySem.Fin → Shared → Prop} (X : (KK w).In s.heap) (ht : Looks (model P w) s.heap (typeOf (.ref x)) (.ref 560))
  (h : Q (.done (.ret (.bool true))) s) :
  wpAny (model P w) A (Builtin.«isinstance.nested» ⟨[.ref x, .ref 437, .int dep tk], []⟩) Q E s := by
 unhygienic
 revert hen w A E s x dep tk Q;obtain ⟨hh, g, d, tt, os⟩ := s;unfold Builtin.«isinstance.nested»;refine wpAny_bind (ht.at ?_);rw [if_neg (fun q => by cases beq_iff_eq.mp q)];have e := zir w;unfold isMd at e;rw [and_eq_true, and_eq_true, and_eq_true] at e;obtain ⟨⟨⟨e0, e1⟩, e2⟩, e3⟩ := e;have L1 := looks_typeIn (M := model P w) X (beq_iff_eq.mp e1);have L2 := looks_instIn (M := model P w) X (beq_iff_eq.mp e2);have L4 : Looks (model P w) hh (isSubtype (.ref 560) (.ref 437)) true := looks_mroIn X (beq_iff_eq.mp e3);have L3 : Looks (model P w) hh (isInstance (.ref x) (.ref 437)) true := ht.andThen L4;refine wpAny_bind (L1.at ?_);rw [if_pos (by decide)]
 k_delta "plainIsInstance"
 unfold isType
 repeat lk
 unfold clsIn at e0
 split at e0
 ·rename_i ho
  refine nd_load (X _ _ ho) (nd_pure (wpAny_pure ?_));simp -iota only [Bool.not_true, false_eq_true, if_false];refine wpAny_bind (L3.at ?_);simp -iota only [if_true];exact wpAny_pure (wpAny_pure h)
 ·cases e0
end
end
section
theorem zbx : Slot "generator" "__getattribute__" "object.__getattribute__" :=
 .of (owner := "object") (n := "__getattribute__") (by rw [typeLookup_type, builtinLookup_eq_fast]; kernel_rfl) (by decide +kernel) (by decide +kernel) (by decide +kernel)
  (by first | exact .inl (by decide +kernel) | exact .inr (by decide +kernel)) (by rw [isSubtype_type]; kernel_rfl)
theorem zd5 : typeLookup (.type "generator") "keys" = pure none := by rw [typeLookup_type, builtinLookup_eq_fast]; kernel_rfl
theorem zea : typeLookup (.type "generator") "__getattr__" = pure none := by rw [typeLookup_type, builtinLookup_eq_fast]; kernel_rfl
theorem zdM (a : Addr) (xs : Array Value) (sl : Array (Option Value)) (u : Tok) :
  Meets (Builtin.«object.__getattribute__» ⟨[.ref a, .str "keys" u], []⟩) (fun A R s => s.heap.get? a = some { cls := .type "generator", dict := none, data := .fields xs, slots := sl } ∧ raisesAttr (.ref a) "keys" A R s) :=
 Meets.of_wp fun prog w A R s hs => by
  obtain ⟨hp, g, d, tk, os⟩ := s;obtain ⟨hx, hs⟩ := hs;have hT : (⟨hp, g, d, tk, os⟩ : Shared).TypeIs (.ref a) "generator" := ⟨_, hx, rfl⟩;have hmiss := zd5;have hname : (["__module__", "__name__", "__qualname__", "__doc__", "__annotations__"] : List Str).contains "keys" = false := by decide
  unfold Builtin.«object.__getattribute__»;ext bind
  wp_delta
  refine wpAny_ite_false rfl ?_;refine wpAny_ite_false rfl ?_;ext pure bind
  wp_delta
  ext pure bind;refine wpAny_typeOf ‹_› ?_;ext bind
  wp_delta
  ext bind;refine wpAny_of_eq ‹_› ?_;ext bind
  wp_delta
  ext pure bind
  wp_delta
  ext pure
  wp_delta
  wp_delta
  ext bind
  wp_delta
  ext bind
  wp_delta
  ext bind
  wp_delta
  refine wpAny_loadPart' hx ?_
  wp_delta
  wp_delta
  ext bind;refine wpAny_loadPart' hx ?_;refine wpAny_ite_true rfl ?_;ext pure
  wp_delta
  ext pure bind
  wp_delta
  refine wpAny_ite_false rfl ?_;ext pure
  wp_delta
  ext bind rule pure;refine wpAny_ite_false rfl ?_;refine wpAny_ite_false rfl ?_
  wp_delta
  wp_delta
  ext bind
  wp_delta
  ext bind
  wp_delta
  ext bind;refine wpAny_typeOf ‹_› ?_;refine wpAny_ite_false rfl ?_;ext pure
  wp_delta
  wp_delta
  ext pure;exact wpAny_raiseAttrError hs.1 hs.2 (attrMsg_fits (by decide +kernel) (by decide))
section
variable {n : Nat}
theorem zfZ {Q : Option Value → Shared → Prop} (hh : A.handled = none) (hg : h.IsGen a n) (hdn : ∀ o, h.get? a = some o → o.dict = none)
  (hQ : ∀ h' tk, zaz h h' → Q none ⟨h', g, d, tk, os⟩) : wpAny (model P w) A (getAttr? (.ref a) "keys") Q E ⟨h, g, d, t, os⟩ := by
 unhygienic
 revert hen w A E h g d t os a n Q;obtain ⟨o, nm, qn, hx, hc, hdat, _⟩ := hg;have hd := hdn o hx;obtain ⟨c, dct, dat, sl⟩ := o;simp only at hc hdat hd;subst hc hdat hd;have hT : ∀ tk', (⟨h, g, d, tk', os⟩ : Shared).TypeIs (.ref a) "generator" := fun _ => ⟨_, hx, rfl⟩;have f1 := sub_AttributeError;have f3 := zbx.lookup;have f4 := zbx.bind (.ref a);have f5 := zea;unfold getAttr? getAttrBy? getAttrBy;ext bind
 wp_delta
 ext bind fresh' pure bind attempt holding bind
 wp_delta
 ext bind;refine wpAny_loadPart' hx ?_;ext pure bind;refine wpAny_of_eq ‹_› ?_;refine wpAny_ite_false rfl ?_
 wp_delta
 ext bind
 wp_delta
 refine wpAny_ite_false rfl ?_;ext pure bind attempt holding
 wp_delta
 refine wpAny_ite_false rfl ?_
 wp_delta
 ext bind;refine wpAny_of_eq ‹_› ?_;refine call_meets zbx (hT _) F.entry_object_getattribute (F.args_object_getattribute_2 _ _) (zdM a _ sl _) ⟨hx, hh, fun h' tk' e hx' => ?_⟩;obtain ⟨t', u', he⟩ := hx'.there;have k := hx'.keeps;show wpAny _ _ (getattributeRaised _ _ _ _ _ _ _) _ _ _;unfold getattributeRaised;ext bind
 wp_delta
 ext bind
 wp_delta
 ext bind;refine wpAny_loadPart' he ?_;ext pure;refine wpAny_of_eq ‹_› ?_;refine wpAny_ite_true rfl ?_;ext bind
 wp_delta
 refine wpAny_ite_false rfl ?_;refine wpAny_of_eq ‹_› ?_
 wp_delta
 wp_delta
 refine wpAny_ite_true rfl ?_;ext bind throw bind
 wp_delta
 ext bind
 wp_delta
 ext bind;refine wpAny_loadPart' he ?_;ext pure;refine wpAny_of_eq ‹_› ?_;refine wpAny_ite_true rfl ?_;ext pure;exact hQ _ _ k
end
end
section
theorem zbs : entryFor table "dict.update.loop" = some Builtin.«dict.update.loop» := entryFor_of_tree (by kernel_rfl)
theorem zaK : plainId "dict.update.loop" = true := by decide +kernel
section
variable {o : Addr} {C : Value} {dx : Option Addr}
theorem DD.at' (D : DD w h o C dx kvs es ep) (x : ExtP z.gm h h') (hc : ∀ c, C = c → (∃ n, c = .type n) ∨ ∃ m, c = .ref m) (hC : o ∈ z.C) : DD w h' o C dx kvs es ep := by
 ext o.D.get;rw [D.at_];refine x.get D.at_ ?_ fun q => q.2.1 hC;rcases hc C rfl with ⟨n, rfl⟩ | ⟨m, rfl⟩ <;> rfl
end
def upd_loop.ST (w : World) (A : Around) (z : Zone) (fin : Result) (a o : Addr) (C : Value) (dx : Option Addr) (ks : List Str) (all : List PyData) (R : Result → Shared → Prop) : Prop :=
 ∀ (hh : A.handled = none) (hA : Rm 500 A) (hfin : fin = .ok (.ret .none) ∨ fin = .ok .next) (hz : all.length ≤ 1000) (hC : z.C = [o]) (hnd : ks.Nodup) (hcls : C = .ref 437) (hl : ks.length = all.length) (hall : ∀ (j : Nat) (k : Str), ks[j]? = some k → ∃ d, all[j]? = some (PyData.tuple [PyData.str k, d])), ∀ (m j : Nat) (s : Shared) (kvs : List (Str × Value)) (es : Array DictEntry) (ep : Nat), m + j = all.length → Feed w A.in1 z fin a all j s → DD w s.heap o C dx kvs es ep → kvs.map (·.1) = ks.take j →
  (∀ s' kvs' es' ep', TookS z o s s' → DD w s'.heap o C dx kvs' es' ep' → kvs'.map (·.1) = ks → R (.ok (.ret .none)) s') →
  codeAny (model P w) A (.builtin "dict.update.loop" ⟨[.ref o, .ref a, .int (j : Int) 0, .none], []⟩) R s
def upd_loop.CT := hen ((U<|U<|U<|U<|U<|U<|U<|U<|U<|U<|I0) upd_loop.ST) (dW, dA, ⟨0, 0, [], 0⟩, default, 0, 0, .none, none, [], [], fun _ _ => True)
def upd_loop.wK := upd_loop.CT.1
def upd_loop.zK := upd_loop.CT.2.2.1
def upd_loop.oK := upd_loop.CT.2.2.2.2.2.1
def upd_loop.CK := upd_loop.CT.2.2.2.2.2.2.1
def upd_loop.ksK := upd_loop.CT.2.2.2.2.2.2.2.2.1
def upd_loop.allK := upd_loop.CT.2.2.2.2.2.2.2.2.2.1
theorem upd_loop.core : ST wK CT.2.1 zK CT.2.2.2.1 CT.2.2.2.2.1 oK CK CT.2.2.2.2.2.2.2.1 ksK allK CT.2.2.2.2.2.2.2.2.2.2 := by
 intro hh hA hfin hz hC hnd hcls hl hall;have oC : oK ∈ zK.C := by rw [hC]; exact .head _
 have hcc : ∀ c, CK = c → (∃ n, c = .type n) ∨ ∃ m, c = .ref m := fun c q => .inr ⟨437, q ▸ hcls⟩;intro m
 induction m with
 | zero =>
  intro j s kvs es ep hm Fe D hk hR;have hj : j = allK.length := by omega
  have hCs : Cs zK s.heap := fun c q => by rw [hC, mem_singleton] at q; exact ⟨_, q ▸ D.at_⟩
  refine codeAny_builtin zbs ?_;rw [Around.under_plainId zaK];unfold Builtin.«dict.update.loop»;refine wpAny_bind (Fe.stop hCs hh (hA.in1.dlt) hfin hj (fun s' wk => ?_));ext d;unfold Builtin.Dict.addKeywords;refine wpAny_bind (wpAny_pure ?_);ext pure;exact hR s' kvs es ep (.of_woke wk) (D.at' wk.heap hcc oC) (by rw [hk, take_of_length_le (by omega)])
 | succ m ih =>
  intro j s kvs es ep hm Fe D hk hR;have hj : j < ksK.length := by omega
  have hCs : Cs zK s.heap := fun c q => by rw [hC, mem_singleton] at q; exact ⟨_, q ▸ D.at_⟩
  obtain ⟨d, hd⟩ := hall j ksK[j] (getElem?_eq_getElem hj);refine codeAny_builtin zbs ?_;rw [Around.under_plainId zaK];unfold Builtin.«dict.update.loop»;refine wpAny_bind (Fe.next hCs hh (hA.in1.dlt) hfin hd (fun v s' rd wk Fe' => ?_));have D' := D.at' wk.heap hcc oC;have tw : TookS zK oK s s' := .of_woke wk;have ok := Fe'.ok;obtain ⟨ta, us, rfl, hfr, htp, hsz, hel⟩ : ∃ ta us, v = .ref ta ∧ zK.fr s.heap ta ∧ IsTup s'.heap ta us ∧ us.size = 2 ∧ ∀ (i : Nat) (v : Value) (d' : PyData), us[i]? = some v → [PyData.str ksK[j], d][i]? = some d' → RdP (zK.fr s.heap) s'.heap v d' := by
   cases rd with
   | tup h1 h2 h3 h4 => exact ⟨_, _, rfl, h1, h2, h3, h4⟩
  obtain ⟨l⟩ := us;obtain ⟨u, y, rfl⟩ : ∃ u y, l = [u, y] := by
   match l, hsz with
   | [u, y], _ => exact ⟨u, y, rfl⟩
  obtain ⟨tk, rfl⟩ := (hel 0 u _ rfl rfl).strE;clear Fe D wk rd hCs hel hfr hsz;obtain ⟨h, gn, dr, t, os⟩ := s';dsimp only at D' htp ⊢;obtain ⟨ot, eot, cot, nt, dot⟩ := htp;have LT : Looks (model P wK) h (typeOf (.ref ta)) (.type "tuple") := cot ▸ (Looks.ld eot).andThen .now;refine wpAny_bind (wpAny_holding (wpAny_bind ?_));ext tryCatch;unfold Builtin.Dict.pairItems;refine wpAny_bind (LT.here ?_);have q3 : (Value.type "tuple" == Value.type "list") = false := by decide
  have q4 : (Value.type "tuple" == Value.type "tuple") = true := by decide
  rw [if_pos (by rw [q3, q4]; rfl)];refine wpAny_bind (wpAny_seqItems eot dot (wpAny_pure ?_));dsimp only [Option.getD_some];ext holding;unfold dictSet;refine wpAny_holding (wpAny_bind ((KD wK).pyHash (zbJ wK ksK[j] tk) ?_));have hn : ksK[j] ∉ kvs.map (·.1) := by
   rw [hk];intro q;obtain ⟨i', hi', e'⟩ := List.mem_take_iff_getElem.mp q;have := List.pairwise_iff_getElem.mp hnd i' j (by omega) hj (by omega);exact this e'
  have hkl : kvs.length = j := by
   have := congrArg length hk;rw [length_map, length_take] at this;omega
  refine zbR (s := ⟨h, gn, dr, t + 1, os⟩) D' (by omega) hn fun h2 es2 ep2 D2 sb2 => ?_;have ob : ∀ h3 : Heap, h3 = h2 → ∃ o', h3.get? oK = some o' := fun _ e => ⟨_, e ▸ D2.at_⟩;have e1 : (rawInt ((j : Int) + 1)) = Value.int ((j + 1 : Nat) : Int) 0 := by unfold rawInt; congr 1
  rw [e1];refine wpAny_pure ⟨plainId_quiet zaK _, ih (j + 1) _ _ es2 ep2 (by omega) (Fe'.calm (Calm.but oC sb2.extBut ⟨_, D2.at_⟩)) D2 ?_ (fun s'' kvs' es' ep' tk' D3 hk3 => hR s'' kvs' es' ep' ?_ D3 hk3)⟩
  ·rw [map_append, hk, take_succ_eq_append_getElem hj]; rfl
  ·have sl : 604 ≤ oK := ok.c oK oC
   exact .trans (zbc ok sl) (.trans (zbc ok sl) tw (.of_but sb2.extBut)) tk'
theorem upd_loop {w A z fin a o C dx ks all R} : upd_loop.ST w A z fin a o C dx ks all R := @hen_all _ _ ((U<|U<|U<|U<|U<|U<|U<|U<|U<|U<|I0) upd_loop.ST) @upd_loop.core (w, A, z, fin, a, o, C, dx, ks, all, R)
section
variable {n : Nat}
theorem zdl {Q : PySem.Fin → Shared → Prop} (hh : A.handled = none) (X : (KK w).In h) (I : DD w h x (.ref C) (some dx) kvs es ep) (hg : h.IsGen a n) (hdn : ∀ o, h.get? a = some o → o.dict = none) (ho : mroIn (KK w) C (.type "collections.OrderedDict") = some false)
  (q : ∀ h' tk, zaz h h' → Q (.again (.builtin "dict.update.loop" ⟨[.ref x, .ref a, rawInt 0, .none], []⟩)) ⟨h', g, d, tk, os⟩) : wpAny (model P w) A (Builtin.«dict.__init__» ⟨[.ref x, .ref a], []⟩) Q E ⟨h, g, d, t, os⟩ := by
 have hI := I.at_;obtain ⟨og, _, _, eg, cg, _⟩ := id hg;have L : Looks (model P w) h (typeOf (.ref x)) (.ref C) := (Looks.ld hI).andThen .now;have L2 : Looks (model P w) h (isSubtype (.ref C) (.type "collections.OrderedDict")) false := looks_mroIn X ho;have L3 : Looks (model P w) h (typeOf (.ref a)) (.type "generator") := cg ▸ (Looks.ld eg).andThen .now;unfold Builtin.«dict.__init__»
 iterate 48 (first | simp only [false_eq_true, if_false] | lk)
 (show wpAny _ _ (getAttr? _ _) _ _ _; refine zfZ hh hg hdn (fun h' tk k => Held.out ?_))
 ext o.Held.in;refine zch rfl ?_;refine wpAny_bind (wpAny_rule ?_);refine wpAny_bind (wpAny_pyIter_gen (hg.keeps k) ?_);exact wpAny_pure (q h' tk k)
end
end
section
theorem zf0 {A : Around} {o dxo ep0 : Addr} {es0 : Array DictEntry} {gs : List Grp} {t : Tok} {n ep : Nat} {es : Array DictEntry} : ∀ (hA : Rm 430 A) (hh : A.handled = none) (T : TopH w s.heap) (I : DD w s.heap o (.ref 437) (some dxo) [] es0 ep0) (Io : s.heap.get? dxo = some emptyDict) (ho : 604 ≤ o) (X : WH w b s.heap x gs dx dl hsh t n c vs es ep) (hlow : 604 ≤ b) (hg : ∀ g ∈ gs, g.length ≤ 6) (hv : ∀ g ∈ gs, ∀ p ∈ g, p.2.length ≤ 6) (hn : gs.length ≤ 5) (hnd : ((zaI gs).map (·.1)).Nodup) (hml : (zaI gs).length ≤ 100) (hmv : ∀ p ∈ zaI gs, p.2.length ≤ 1000) (hR : ∀ h' gn' tk kvs es ep, Ext [o] s.heap h' → (zaT s.gens → zaT gn') → DD w h' o (.ref 437) (some dxo) kvs es ep → kvs.map (·.1) = (zaI gs).map (·.1) → R (.ok (.ret .none)) ⟨h', gn', s.drawn, tk, s.os⟩), codeAny (model P w) A (.call (.ref 264) ⟨[.ref o, .ref x], []⟩) R s := by
 unhygienic
 revert hen w A s R o dxo b x dx dl ep0 es0 gs hsh t n c ep vs es;refine zaW [(Str.ofString "self", .ref o), (Str.ofString "mapping", .ref x)] hA T (by rfl) (by rfl) (by rfl) (by rfl) (binds_K T.K rfl (by rfl) rfl rfl rfl) (by decide) (locs rfl) fun h₁ D hA' hh' => ?_
 letI hh' := hh'.trans hh
 refine zeD fun Q0 E0 hQ0 => ?_
 haveI T1 := D.top T (by simp)
 haveI X1 := X.ext0 D.ext
 ext o.ks_wpAt_execs_cons;refine ks_wpAt_If (wpAt_of_wpAny ?_);ext isTrue_Compare1;refine zaa (Me.ns (by assumption)) (by first | assumption | rfl) ?_;ext Constant_none o.is_none truthy_bool;rw [if_neg (show ¬ ((Value.ref x == Value.none) = true) from Bool.false_ne_true)];ext o.ks_wpAt_execs_cons;refine ks_wpAt_If (wpAt_of_wpAny ?_);ext o.isTrue_plain Call_NameR;refine zae (by assumption) rfl rfl rfl (by boot_by_name) (by decide) ?_;ext o.call_bi items_cons;refine zaa (Me.ns (by assumption)) (by first | assumption | rfl) ?_;ext items_cons;refine zaj (by assumption) rfl (by rfl) ?_;ext items_nil;refine call_isinstance_of (zeP T1.K ((Looks.ld X1.inst.at_).andThen .now) ?_) (fun q => by cases q);ext truthy_bool;rw [if_pos rfl];ext o.ks_wpAt_execs_cons o.ks_wpAt_Expr_any
 haveI I4 := I.ext D.ext rfl (by simp)
 have J4 : Inst h₁ o 437 dxo emptyDict es0 ep0 := ⟨I4.at_, D.ext.get Io rfl (by simp)⟩;refine zav (x := o) (C := 437) (D := 437) (id := "dict.__init__") (BT := "method-wrapper") T1 D.ns J4.i (by rfl) rfl (by rfl) (by rfl) (by rfl) rfl (by rfl) (by rfl) (by rfl) (by rfl) rfl (by kernel_rfl) (by rfl) (by kernel_rfl) (by kernel_rfl)
  (.inl ⟨zdN, rfl⟩) rfl rfl rfl rfl rfl rfl rfl rfl rfl (by decide) (fun q h5 nq hq k => ?_)
 have fq : s.heap.get? q = none := D.ext.fresh nq
 letI D := D.call (.of_keeps k)
 letI I4 := I4.keeps k
 letI X1 := X1.ext0 (.of_keeps k)
 letI T1 : TopH w h5 := T1.ext (.of_keeps k) (by simp)
 ext d;clear J4 nq k h₁;revert hen Q0 E0 q h5;refine zdo (x := o) (T := "method-wrapper") (id := "dict.__init__") (.inl rfl) ?_;ext items_cons;refine zci (c := 263) (a := 259) (hA'.dlt) rfl rfl (by decide) (by rfl) rfl rfl (by decide) rfl (by rfl) rfl rfl ?_
 haveI oL : o < h5.objs.size := lt_size I4.at_
 ext o.methodCall_KW;refine zaa D.ns (by rfl) ?_;refine zaB (f := 522) T1 X1 (by kernel_rfl) (by rfl) (by kernel_rfl) ?_;refine za1 (by rfl) T1 ?_;ext call;refine clists_spec (hA'.mono (by decide)) hh' T1 X1 hlow hg hv hn (fun h6 gn6 tk6 v rv kvs es6 ep6 e6 bar6 hv6 Dr Gr lrv => ?_);ext d;have kl : kvs.length = (zaI gs).length := Gr.len;refine za4 hv6 Dr (by omega) ?_
 letI D := D.call e6
 haveI T6 : TopH w h6 := T1.ext e6 (by simp)
 have I6 := I4.ext e6 rfl (by simp)
 haveI E7 : Ext [] h6 (h6.push { cls := .type "dict_itemiterator", data := .fields #[.none, .bool false, .ref rv, .int 0 0, .int kvs.length 0, .int ep6 0, .none, .none] }) := Ext.push _ _
 haveI hit7 : IsItemIter (h6.push { cls := .type "dict_itemiterator", data := .fields #[.none, .bool false, .ref rv, .int 0 0, .int kvs.length 0, .int ep6 0, .none, .none] }) h6.objs.size rv 0 kvs.length ep6 .none .none := get?_push_size _ rfl
 haveI szp : (h6.push { cls := .type "dict_itemiterator", data := .fields #[.none, .bool false, .ref rv, .int 0 0, .int kvs.length 0, .int ep6 0, .none, .none] }).objs.size = h6.objs.size + 1 := by rw [size_push]
 haveI dlow : 604 ≤ h6.objs.size := T6.low
 haveI o6 : o < h6.objs.size := lt_size I6.at_
 haveI s6 : s.heap.objs.size < h6.objs.size := D.ns.lt
 letI D := D.call E7
 generalize hdi : h6.objs.size = di at hit7 szp dlow o6 s6 ⊢;generalize h6.push { cls := .type "dict_itemiterator", data := .fields #[.none, .bool false, .ref rv, .int 0 0, .int kvs.length 0, .int ep6 0, .none, .none] } = h7 at D E7 hit7 szp ⊢;revert hen h6 gn6 tk6 v rv kvs es6 ep6 di h7;refine ⟨T6.ext E7 (by simp), fun code h8 tk8 L E8 n8 le8 gen8 nL hdict => ?_⟩;revert hen code h8 tk8 L;ext items_nil
 haveI e58 : Ext [] h5 h8 := (e6.trans E7 (by simp)).trans E8 (by simp)
 haveI hq8 : h8.get? q = some (zdc "method-wrapper" "dict.__init__" o) := e58.get hq rfl (by simp)
 refine ⟨hq8, ?_⟩;ext call
 haveI T8 : TopH w h8 := T1.ext e58 (by simp)
 haveI I8 := I4.ext e58 rfl (by simp)
 have D8 := D.call E8
 haveI dil : di < L := lt_of_lt_of_le (szp ▸ lt_succ_self di) le8
 haveI hCL : L ∉ [o] := fun q => ne_of_gt (lt_trans o6 dil) (mem_singleton.mp q)
 haveI hCd : di ∉ [o] := fun q => ne_of_gt o6 (mem_singleton.mp q)
 have hCg : L + 1 ∉ [o] := fun q => ne_of_gt (lt_trans o6 (lt_succ_of_lt dil)) (mem_singleton.mp q)
 haveI ok : Zone.Ok ⟨di, di, [o], gn6.size⟩ := ⟨dlow, le_refl _, fun a q => by rw [mem_singleton.mp q]; exact ho⟩
 refine zap (.inl rfl) hq8 (zdw _ _) (fun _ => Code.quiet_builtin _ (by decide +kernel)) zc9 ?_;refine zdl hh' T8.K I8 gen8 hdict (by kernel_rfl) (fun h9 tk9 k9 => ?_);revert hen h9 tk9;refine ⟨plainId_quiet zaK _, ?_⟩;refine upd_loop (z := ⟨di, di, [o], gn6.size⟩) (ks := (zaI gs).map (·.1)) (all := zbe (zaI gs)) (fin := .ok .next) hh' (hA'.mono (by decide)) (.inr rfl) (by unfold zbe; rw [length_map]; omega) rfl hnd rfl (by unfold zbe; rw [length_map, length_map])
  (fun j k e => ?_) _ 0 _ [] _ _ (Nat.add_zero _) (Feed.calm ?feed (Calm.keeps (t := tk8) k9)) (I8.keeps k9) rfl (fun s' kvs' es' ep' tw D' hk' => ?_)
 case feed =>
  refine ⟨ok, zero_le _, gen8, ⟨le_succ_of_le (le_of_lt dil), hCg⟩, T8.lim, _, getElem?_push_size, rfl, fun s₁ cm cs => ⟨rfl, ?_⟩⟩;have E68 : Ext [] h6 h8 := E7.trans E8 (by simp);have ns₁ : s₁.heap.Ns L _ := cm.heap.ns n8 fun o' e hd q => q.2 ⟨le_of_lt dil, hCL, .inl (.inl hd)⟩;have hit8 : IsItemIter h8 di rv 0 kvs.length ep6 .none .none := E8.get hit7 rfl (by simp)
  haveI hit1 : IsItemIter s₁.heap di rv 0 kvs.length ep6 .none .none := cm.kept (s := (setGen ⟨h8, gn6.push _, s.drawn, tk8, s.os⟩ gn6.size .running)) hit8 zfG (le_refl _) hCd
  haveI G : GS ⟨di, di, [o], gn6.size⟩ h6 L _ s₁ s₁ := ⟨ok, hdi ▸ le_refl _, .refl _ _, Base.calm (s := (setGen ⟨h8, gn6.push _, s.drawn, tk8, s.os⟩ gn6.size .running)) ok (hdi ▸ le_refl _) (E68.mono (by simp)) cm, ns₁, ⟨le_of_lt dil, hCL⟩, cs⟩
  have c604 : ∀ c ∈ [o], 604 ≤ c := ok.c
  haveI cG : ∀ c ∈ [o], c < h5.objs.size ∨ h6.get? c = none := fun c q => .inl (by rw [mem_singleton.mp q]; exact oL)
  haveI cR : rv ∉ [o] := fun q => ne_of_gt (lt_of_lt_of_le oL lrv) (mem_singleton.mp q)
  have lll : (zbe (zaI gs)).length = kvs.length := by unfold zbe; rw [length_map, kl]
  rw [sub_zero, lll];generalize hA2 : (A.deeper _).in1.in1 = A₂
  haveI hh₂ : A₂.handled = none := by rw [← hA2]; exact hh'
  clear hA2;generalize hz' : (⟨di, di, [o], gn6.size⟩ : Zone) = z at G ok ⊢;have zC : z.C = [o] := by rw [← hz']
  have zB : z.B = di := by rw [← hz']
  rw [← zC] at c604 cG cR hCd
  haveI dB : z.B ≤ di := le_of_eq zB
  generalize hmg : zaI gs = mg at *;clear hz' zC zB hit8 ns₁ cm cs gen8 n8 hit7 hCL hCg dil le8 nL szp D D8 I8 I6 I4 X X1 hQ0 hR hdict e58 E8 E7 E68 T8 hq hq8 fq bar6 hdi hmg hA' hh' hv6 T T1 e6 lll k9;refine (fun (key : ∀ s₀, GS z h6 L _ s₀ s₁ → Seg (model P w) _ _ _ _ s₀ _ _ _ s₁) => key _ G) ?_;clear G;intro s₀ G;obtain ⟨h, gn, d, t, os⟩ := s₁;refine zcm (d := 0) rfl rfl rfl (fun Q q => kcp_self hit1 q) ?_;refine zfD rfl (fun m n s₀ s => ∃ i mm ok ov, m + i = kvs.length ∧ n = kvs.length - i ∧ GS z h6 L mm s₀ s ∧ IsItemIter s.heap di rv i kvs.length ep6 ok ov) ?_ kvs.length _ _ _ ⟨0, _, _, _, rfl, rfl, G, hit1⟩;clear G hit1 h gn d os s₀
  try clear t
  rintro m n s₀ ⟨h, gn, d, t, os⟩ ⟨i, mm, ov, kv, hm, hn, G, hit⟩ IH
  haveI Dx := Dr.ext G.base rfl cR
  have Gx := Gr.ext G.base cG;dsimp only at hit;cases m with
  | zero =>
   have hi : i = kvs.length := by omega
   refine zaC (A := A₂.over _ _) hh₂ hit Dx (by omega) (fun h' he => ?_);ext d;replace G := G.own (t' := t) he hit (fun _ _ q => nomatch q) zfG dB hCd;exact ⟨rfl, by omega, G.turn⟩
  | succ m =>
   obtain ⟨kk, vv, ek⟩ : ∃ k v, kvs[i]? = some (k, v) := have hik : i < kvs.length := (by omega); ⟨kvs[i].1, kvs[i].2, getElem?_eq_getElem hik⟩;obtain ⟨ns, la, eg, ev, hla, va, na, ela, ia⟩ := Gx.at_ i kk vv ek;refine zbD hit Dx ek (fun tk h' hout htup kb => ?_);have gkeep : h'.get? h.objs.size = some { cls := .type "tuple", data := .seq #[.str kk tk, vv] } := htup;replace G := G.own (t' := t) (h' := h') (fun b o q e => kb b o q e) hit (fun _ _ q => nomatch q) zfG dB hCd;ext d;refine wpAny_letOwnedTupleGo_items hout (fun h3 hit3 sb3 => ?_);have tne : h.objs.size ≠ di := ne_of_gt (lt_size hit);have tup3 : IsTup h3 h.objs.size #[.str kk tk, vv] := ⟨_, (sb3.2 _ tne).trans gkeep, rfl, 0, rfl⟩;replace G := G.own (t' := t) (h' := h3) sb3.extBut hout (fun _ _ q => nomatch q) zfG dB hCd;ext d;refine assign_Tuple_tuple (A := A₂.over _ _) hh₂ tup3 rfl rfl (fun h5' he5 => ?_);dsimp only at he5 ⊢
   haveI ext5 := Ext.of_extBut he5
   letI G := G.ext (t' := t) ext5
   haveI hit5 : IsItemIter h5' di rv (i + 1) kvs.length ep6 (.str kk tk) vv := ext5.get hit3 rfl (by simp)
   clear Dx Gx hit hout htup kb gkeep tne tup3 sb3 hit3 he5 ext5 ela ia h' h3 h va na;ext assignInOrder_more assign_Name;refine wpAny_storeName_local rfl G.ns (fun h6' hn6 hs6 => ?_) rfl
   haveI hit6 : IsItemIter h6' di rv (i + 1) kvs.length ep6 (.str kk tk) vv := (hs6.2 di (Ne.symm (G.ne hit5 fun _ _ q => nomatch q))).trans hit5
   letI G := G.store (t' := t) hn6 hs6
   ext d;clear hn6 hs6 hit5 h5';ext assignInOrder_more assign_Name;refine wpAny_storeName_local rfl G.ns (fun h7' hn7 hs7 => ?_) rfl;have hit7 : IsItemIter h7' di rv (i + 1) kvs.length ep6 (.str kk tk) vv := (hs7.2 di (Ne.symm (G.ne hit6 fun _ _ q => nomatch q))).trans hit6
   letI G := G.store (t' := t) hn7 hs7
   ext d;clear hn7 hs7 hit6 h6';ext assignInOrder_none;obtain ⟨n', rfl⟩ : ∃ n', n = n' + 1 := ⟨n - 1, by omega⟩;have Gx := Gr.ext G.base cG;obtain ⟨ns', la', eg', ev', hla', va, na, ela, ia⟩ := Gx.at_ i kk vv ek;rw [ev] at ev'; cases ev';have nse : ns = ns' := by rw [eg] at eg'; exact congrArg Prod.snd (Option.some.inj eg')
   subst nse;have hns0 : ns.length ≤ 1000 := hmv _ (mem_of_getElem? eg);have hva : va.size = ns.length := by have := ia_len ia; rwa [length_toList] at this
   ext o.Tuple_ items_cons;refine zaa G.ns ((if_neg (by decide)).trans (if_pos (by decide))) ?_;ext items_cons Subscript_list_slice;refine zaa G.ns ((if_pos (by decide))) ?_;ext evalPart_none evalPart_none;refine ⟨la, va, none, none, ev, ⟨_, ela, rfl, na, rfl⟩, by rw [sizeLine_eq]; omega, .none, .none, ?_⟩;ext d;rw [slicePick_all]
   haveI kS : zaz h7' (h7'.push { cls := .type "slice", data := .fields #[.none, .none, .none] }) := fun b o e => get?_push_of_some _ e
   have szS : h7'.objs.size + 1 = (h7'.push { cls := .type "slice", data := .fields #[.none, .none, .none] }).objs.size := by rw [size_push]
   rw [szS]
   letI G := G.keeps (t' := t) kS
   haveI hit8 := kS _ _ hit7
   generalize h7'.push { cls := .type "slice", data := .fields #[.none, .none, .none] } = h8' at G hit8 ⊢
   haveI frl := G.frs
   haveI kL : zaz h8' (h8'.push { cls := .type "list", data := .seq va }) := fun b o e => get?_push_of_some _ e
   haveI eL : (h8'.push { cls := .type "list", data := .seq va }).get? h8'.objs.size = some { cls := .type "list", data := .seq va } := get?_push_size _ rfl
   letI G := G.keeps (t' := t) kL
   haveI hit9 := kL _ _ hit8
   dsimp only at frl;generalize h8'.objs.size = nl at eL frl ⊢;generalize h8'.push { cls := .type "list", data := .seq va } = h9' at G eL hit9 ⊢;clear kL kS szS hit8 hit7 ela Gx h8' h7';ext items_nil;refine wpAny_newObj_type ?_ (by show (2 : Nat) ≤ sizeLine; decide);have frs := G.frs
   haveI k5 : zaz h9' (h9'.push { cls := .type "tuple", data := .seq #[.str kk tk, .ref nl] }) := fun b o e => get?_push_of_some _ e
   haveI G6 := G.keeps (t' := t + 1 + 1) k5
   refine ⟨n', rfl, _, zdb mg _ eg (by omega), .tup frs ⟨_, get?_push_size _ rfl, rfl, 0, rfl⟩ rfl ?_, G6.turn, fun s'' cm => ?_⟩
   ·intro i' v' d' e1 e2
    match i', e1, e2 with
    | 0, e1, e2 => cases e1; cases e2; exact .str _ _
    | 1, e1, e2 => cases e1; cases e2; exact .list frl ⟨_, k5 _ _ eL, rfl, 0, rfl⟩ (by rw [length_map]; exact hva) fun i v d e1 e2 => zgd ia (by rwa [getElem?_toList]) e2
    | n + 2, e1, e2 => simp at e1
   ·exact IH m n' s'' s'' (lt_succ_self m) ⟨i + 1, _, _, _, by omega, by omega, G6.woken cm, cm.kept (k5 _ _ hit9) zfG dB hCd⟩
 ·unfold zbe
  rw [getElem?_map] at e ⊢;obtain ⟨p, ep, rfl⟩ := map_eq_some_iff.mp e;rw [ep];exact ⟨_, rfl⟩
 ·obtain ⟨h', gn', d', tk', os'⟩ := s'
  obtain ⟨t1, t2, rfl, rfl⟩ := tw;have D9 := D8.call (.of_keeps k9);dsimp only at t1 t2 D' ⊢
  repeat (refine wpAt_of_wpAny (wpAny_execs_nil ?_); try dsimp only)
  refine hQ0 _ _ ?_;refine hR h' gn' tk' kvs' es' ep' (Ext.p (m := [o]) (D9.ext.mono (by simp)) t1 (fun a o' o'' e _ n q => ?_) (zbc ok ho) fun a q o' e => ?_) (fun q => t2 fun y hy => ?_) D' hk'
  ·rcases q with q | q
   ·exact absurd (lt_trans (lt_size e) s6) (not_lt.mpr q.1)
   ·exact n (mem_singleton.mpr q)
  ·rw [mem_singleton.mp q]; exact ⟨_, D'.at_⟩
  ·rcases mem_push.mp hy with hy | rfl
   ·exact bar6 q y hy
   ·rfl
end
section
section
variable {t : Tok} {n : Nat}
theorem zgb (hA : Rm 420 A) (hh : A.handled = none) (T : TopH w s.heap)
  (X : WH w b s.heap x gs dx dl hsh t n c vs es ep) (hlow : 604 ≤ b) (hg : ∀ g ∈ gs, g.length ≤ 6) (hv : ∀ g ∈ gs, ∀ p ∈ g, p.2.length ≤ 6) (hn : gs.length ≤ 5)
  (hnd : ((zaI gs).map (·.1)).Nodup) (hml : (zaI gs).length ≤ 100) (hmv : ∀ p ∈ zaI gs, p.2.length ≤ 1000)
  (hR : ∀ h' gn' tk o dxo kvs es ep, Ext [] s.heap h' → (zaT s.gens → zaT gn') → s.heap.objs.size ≤ o → s.heap.objs.size ≤ dxo → h'.get? dxo = some emptyDict → DD w h' o (.ref 437) (some dxo) kvs es ep → kvs.map (·.1) = (zaI gs).map (·.1) → R (.ok (.ret (.ref o))) ⟨h', gn', s.drawn, tk, s.os⟩) :
  codeAny (model P w) A (.call (.ref 437) ⟨[.ref x], []⟩) R s := by
 obtain ⟨h, g, d, t, os⟩ := s;have K := T.K;refine zfH (zcv K (zdi w)) (looks_findIn K (show findIn (KK w) (.ref 437) "__init__" = some (some (.ref 264)) by kernel_rfl)) (fun self => bind_fn K self (by rfl)) ?_;dsimp only at T X hR K;have k : ∀ b o, h.get? b = some o → ((h.push emptyDict).push (zba 437 h.objs.size)).get? b = some o := fun b o e => get?_push_of_some _ (get?_push_of_some _ e);have e1 : ((h.push emptyDict).push (zba 437 h.objs.size)).get? h.objs.size = some emptyDict := get?_push_of_some _ (get?_push_size _ rfl);have e2 : ((h.push emptyDict).push (zba 437 h.objs.size)).get? (h.objs.size + 1) = some (zba 437 h.objs.size) := by heap_get
 have f2 : h.get? (h.objs.size + 1) = none := by
  cases q : h.get? (h.objs.size + 1) with
  | none => rfl
  | some o => exact absurd (lt_size q) (not_lt.mpr (le_succ _))
 have ex := Ext.of_keeps k;refine zf0 (o := h.objs.size + 1) (dxo := h.objs.size) ((hA.under rfl).mono (by decide)) hh (T.ext ex (by simp)) ⟨e2, fun _ q => by simp at q, .nil, nodup_nil⟩ e1 (le_succ_of_le T.low) (X.ext0 ex) hlow hg hv hn hnd hml hmv ?_;intro h' gn' tk kvs es ep e bar D hk;refine ⟨rfl, hR h' gn' tk _ h.objs.size kvs es ep (ex.trans e (by simp [f2])) bar (le_succ _) (le_refl _) (e.get e1 rfl (by simp)) D hk⟩
theorem zgs (hA : Rm 400 A) (hh : A.handled = none) (T : TopH w s.heap)
  (X : WH w b s.heap x gs dx dl hsh t n c vs es ep) (hlow : 604 ≤ b) (hg : ∀ g ∈ gs, g.length ≤ 6) (hv : ∀ g ∈ gs, ∀ p ∈ g, p.2.length ≤ 6) (hn : gs.length ≤ 5)
  (hnd : ((zaI gs).map (·.1)).Nodup) (hml : (zaI gs).length ≤ 100) (hmv : ∀ p ∈ zaI gs, p.2.length ≤ 1000)
  (hR : ∀ h' gn' tk o dxo kvs es ep, Ext [] s.heap h' → (zaT s.gens → zaT gn') → s.heap.objs.size ≤ o → s.heap.objs.size ≤ dxo → h'.get? dxo = some emptyDict → DD w h' o (.ref 437) (some dxo) kvs es ep → kvs.map (·.1) = (zaI gs).map (·.1) → R (.ok (.ret (.ref o))) ⟨h', gn', s.drawn, tk, s.os⟩) :
  codeAny (model P w) A (.call (.ref 536) ⟨[.ref x], []⟩) R s := by
 refine zbw [(Str.ofString "self", .ref x)] hA T (by rfl) (by rfl) (by rfl) (by rfl) (BindsTo.of_eq rfl) (by decide) (locs rfl) fun h₁ D hA' hh' => ?_;replace hh' := hh'.trans hh;have T1 := D.top T (by simp);have X1 := X.ext0 D.ext;have sz : s.heap.objs.size ≤ h₁.objs.size := le_of_lt D.ns.lt;ext execs_cons Return_some Call_NameR;refine zaj (by assumption) rfl (by rfl) ?_;ext o.cf;ext items_cons;refine zaa D.ns (by rfl) ?_;ext items_nil;refine ⟨T1, ?_⟩;ext call;refine zgb (hA'.mono (by decide)) hh' T1 X1 hlow hg hv hn hnd hml hmv fun h' gn' tk o dxo kvs es ep e bar lo ldx ed Dd hk => ?_;exact hR h' gn' tk o dxo kvs es ep (D.ext.and e) bar (le_trans sz lo) (le_trans sz ldx) ed Dd hk
end
end
section
theorem zcy : entryFor table "dict.setdefault" = some Builtin.«dict.setdefault» := F.entry_dict_setdefault
section
theorem zcA {Q : PySem.Fin → Shared → Prop} (X : (KK w).In h) (I : DD w h x (.ref C) (some dx) kvs es ep) (hx : (x == sysModules) = false) (ho : mroIn (KK w) C (.type "collections.OrderedDict") = some false) (hz : kvs.length ≤ 1000) (hk : k ∉ kvs.map (·.1))
  (q : ∀ h' es' ep', DD w h' x (.ref C) (some dx) (kvs ++ [(k, v)]) es' ep' → Heap.SameBut x h h' → Q (.done (.ret v)) ⟨h', g, d, t + 1, os⟩) :
  wpAny (model P w) A (Builtin.«dict.setdefault» ⟨[.ref x, .str k tk, v], []⟩) Q E ⟨h, g, d, t, os⟩ := by
 unhygienic
 revert hen w A E h g d t os x C dx es ep kvs k tk v Q;have hI := I.at_;have L : Looks (model P w) h (typeOf (.ref x)) (.ref C) := (Looks.ld hI).andThen .now;have L2 : Looks (model P w) h (isSubtype (.ref C) (.type "collections.OrderedDict")) false := looks_mroIn X ho;unfold Builtin.«dict.setdefault»
 repeat (first | (show wpAny _ _ (dictSetDefault _ _ _) _ _ _; refine zbz (s := ⟨h, g, d, t, os⟩) I hz (fun u hu => Held.out ?_) (fun hn h' es' ep' D sb => Held.out ?_)) | simp -iota only [hx, false_eq_true, if_false] | lk)
 ·ext o.Held.in
  unfold valueAt at hu;obtain ⟨kv, e, _⟩ := map_eq_some_iff.mp hu;exact absurd (mem_map.mpr ⟨kv, mem_of_find?_eq_some e, by simpa using find?_some e⟩) hk
 ·ext o.Held.in
  exact wpAny_pure (q _ _ _ D sb)
end
theorem zfC {A : Around} {o dxo ep : Addr} {tk tv : Tok} {v : Int} : ∀ (hA : Rm 500 A) (hh : A.handled = none) (T : TopH w s.heap) (I : DD w s.heap o (.ref 437) (some dxo) kvs es ep) (Io : s.heap.get? dxo = some emptyDict) (ho : 604 ≤ o) (hz : kvs.length ≤ 1000) (hk : k ∉ kvs.map (·.1)) (hR : ∀ h' tk, Ext [o] s.heap h' → R (.ok (.ret .none)) ⟨h', s.gens, s.drawn, tk, s.os⟩), codeAny (model P w) A (.call (.ref 296) ⟨[.ref o, .str k tk, .int v tv], []⟩) R s := by
 unhygienic
 revert hen w A s R o dxo ep kvs es k tk tv v;refine zaW [(Str.ofString "self", .ref o), (Str.ofString "key", .str k tk), (Str.ofString "value", .int v tv)] hA T (by rfl) (by rfl) (by rfl) (by rfl) (BindsTo.of_eq rfl) (by decide) (locs rfl) fun h₁ D hA' hh' => ?_;replace hh' := hh'.trans hh
 haveI T1 := D.top T (by simp)
 haveI I1 := I.ext D.ext rfl (by simp)
 haveI J1 : Inst h₁ o 437 dxo emptyDict es ep := ⟨I1.at_, D.ext.get Io rfl (by simp)⟩
 ext o.ks_wpAt_execs_cons o.ks_wpAt_Expr_any o.ks_wpAt_MethodCall;refine zav (x := o) (C := 437) (D := 437) (id := "dict.setdefault") (BT := "builtin_function_or_method") T1 D.ns J1.i (by rfl) rfl (by rfl) (by rfl) (by rfl) rfl (by rfl) (by rfl) (by rfl) (by rfl) rfl (by kernel_rfl) (by rfl) (by kernel_rfl) (by kernel_rfl)
  (.inr ⟨zc2, rfl⟩) rfl rfl rfl rfl rfl rfl rfl rfl rfl (by decide) (fun q h2 nq hq kp => ?_)
 have fq : s.heap.get? q = none := D.ext.fresh nq
 letI D := D.call (.of_keeps kp)
 letI I1 := I1.keeps kp
 replace T1 : TopH w h2 := T1.ext (.of_keeps kp) (by simp);have J2 : Inst h2 o 437 dxo emptyDict es ep := ⟨I1.at_, kp _ _ J1.own⟩;ext d;clear J1 nq kp h₁;refine zdo (x := o) (T := "builtin_function_or_method") (id := "dict.setdefault") (.inr rfl) ?_;ext items_cons;refine zaa (Me.ns (by assumption)) (by first | assumption | rfl) ?_;ext items_cons List items_nil;refine ⟨by simp, ?_⟩;ext items_nil
 haveI kl : zaz h2 (h2.push { cls := .type "list", data := .seq #[] }) := fun b o e => get?_push_of_some _ e
 haveI el : (h2.push { cls := .type "list", data := .seq #[] }).get? h2.objs.size = some (zad #[] 0) := get?_push_size _ rfl
 haveI fl : s.heap.get? h2.objs.size = none := D.fresh
 have nl : s.heap.objs.size ≠ h2.objs.size := ne_of_lt D.ns.lt
 haveI no : h2.objs.size ≠ o := ne_of_gt (lt_size I1.at_)
 letI D := D.call (.of_keeps kl)
 letI I1 := I1.keeps kl
 letI T1 := T1.ext (.of_keeps kl) (by simp)
 letI hq := kl _ _ hq
 letI J2 : Inst _ o 437 dxo emptyDict es ep := ⟨I1.at_, kl _ _ J2.own⟩
 ext d;change _ ∧ wpAny _ _ _ _ _ ⟨h2.push { cls := .type "list", data := .seq #[] }, _, _, _, _⟩;generalize h2.objs.size = l at el fl nl no ⊢;generalize h2.push { cls := .type "list", data := .seq #[] } = h3 at el D I1 T1 hq J2 ⊢;refine ⟨hq, ?_⟩;ext call;refine zap (.inr rfl) hq (zcD T1.K J2.i) (fun _ => Code.quiet_builtin _ (by decide +kernel)) zcy ?_;refine zcA T1.K I1 (zaP ho) (by kernel_rfl) hz hk (fun h4 es4 ep4 D4 sb4 => ?_);ext d
 haveI el4 : h4.get? l = some (zad #[] 0) := (sb4.2 l no).trans el
 have oL : s.heap.objs.size ≠ o := ne_of_gt (lt_size I.at_);have n4 := D.ns.sameBut sb4 oL;have E4 : Ext [o] s.heap h4 := (D.ext.mono (by simp)).trans (.sameBut sb4 ⟨_, D4.at_⟩) (by simp);refine getMethod_builtin ⟨_, el4, rfl⟩ F.plainAttrs_list F.slot_list_append F.type_list_append (fun b e => by cases e; exact ⟨_, el4, rfl⟩) ?_;ext o.call_bi items_cons;refine zaa n4 (by rfl) ?_;ext items_nil;refine zao el4 (by simp) (fun h5 n5 e5 sb5 => ?_);ext d
 repeat (refine wpAt_of_wpAny (wpAny_execs_nil ?_); dsimp only)
 exact hR _ _ (E4.trans (.sameBut sb5 ⟨_, e5⟩) (fun a q => .inr (by rw [mem_singleton.mp q]; exact fl)))
end
section
theorem zcE : entryFor table "set.__iter__" = some Builtin.«frozenset.__iter__» :=
 entryFor_alias (id' := "frozenset.__iter__") (by rw [fastTable_eq_tree]; kernel_rfl) rfl (by rw [Fast.canonicalQ_eq]; decide +kernel) (by rw [fastTable_eq_tree]; kernel_rfl)
theorem zaF : Slot "set_iterator" "__next__" "set_iterator.__next__" :=
 .of (owner := "set_iterator") (n := "__next__") (by rw [typeLookup_type, builtinLookup_eq_fast]; kernel_rfl) (by decide +kernel) (by decide +kernel) (by decide +kernel)
  (by first | exact .inl (by decide +kernel) | exact .inr (by decide +kernel)) (by rw [isSubtype_type]; kernel_rfl)
theorem zbk : entryFor table "set_iterator.__next__" = some Builtin.«set_iterator.__next__» := entryFor_of_tree (by kernel_rfl)
theorem zbr (a : Value) : argsOk "set_iterator.__next__" ⟨[a], []⟩ := by unfold argsOk; rw [Fast.signatureQ_eq]; kernel_rfl
section
variable {α : Type}
theorem wpAny_choose {src : Source} {n : Nat} {Q : Nat → Shared → Prop} (hn : n ≠ 0) (h : ∀ i, i < n → Q i { s with drawn := s.drawn.bump src }) : wpAny M A (choose src n) Q E s := fun Γ p hΓ => by
 unfold choose;rw [Sem.wp_choose];exact ⟨hn, h _ (Nat.mod_lt _ (Nat.pos_of_ne_zero hn))⟩
theorem zbI : ∀ {l : List α} {i : Nat} (hi : i < l.length), (l[i] :: l.eraseIdx i).Perm l
 | a :: l, 0, _ => .refl _
 | a :: l, i + 1, hi => (List.Perm.swap _ _ _).trans (.cons a (zbI (l := l) (i := i) (by simpa using hi)))
theorem zbC : ∀ (n : Nat) (xs : List α) {s : Shared} {Q : List α → Shared → Prop}, xs.length = n → (∀ ys d', ys.Perm xs → Q ys { s with drawn := d' }) → wpAny M A (drawOrder n xs) Q E s
 | 0, xs, s, Q, hl, h => by
  obtain rfl := List.length_eq_zero_iff.mp hl;unfold drawOrder;exact wpAny_pure (h [] s.drawn (.refl _))
 | n + 1, [], s, Q, hl, h => by cases hl
 | n + 1, x :: l, s, Q, hl, h => by
  unfold drawOrder;refine wpAny_bind (wpAny_choose (by simp) fun i hi => ?_);rw [getElem?_eq_getElem hi];refine wpAny_bind (zbC n ((x :: l).eraseIdx i) (by rw [List.length_eraseIdx, if_pos hi, hl]; rfl) fun ys d' p => ?_);exact wpAny_pure (h _ d' ((List.Perm.cons _ p).trans (zbI hi)))
theorem zfQ (f : Nat → Nat) : ∀ (n k : Nat) (l : List α) (out : Array α), l.length = n → (pickOrder.go f n k l out).toList.Perm (out.toList ++ l)
 | 0, k, l, out, hl => by
  obtain rfl := List.length_eq_zero_iff.mp hl;unfold pickOrder.go;simp
 | n + 1, k, l, out, hl => by
  unfold pickOrder.go;have hi : f k % l.length < l.length := Nat.mod_lt _ (by omega);rw [getElem?_eq_getElem hi];ext d;refine (zfQ f n (k + 1) _ _ (by rw [List.length_eraseIdx, if_pos hi, hl]; rfl)).trans ?_;rw [toList_push, List.append_assoc];exact List.Perm.append_left _ (zbI hi)
theorem zf9 (f : Nat → Nat) (xs : Array α) : (pickOrder f xs).toList.Perm xs.toList := by
 unfold pickOrder;exact (zfQ f xs.size 0 xs.toList #[] (by simp)).trans (by simp)
end
abbrev sIt (first : Value) (i : Nat) (S : Addr) (n ep : Nat) : Obj := { cls := .type "set_iterator", data := .fields #[first, .int (i : Int) 0, .ref S, .int (n : Int) 0, .int (ep : Int) 0] }
structure SIt (w : World) (h : Heap) (it S : Addr) (vs : List Value) (i : Nat) : Prop where
 at_ : ∃ o es ep t first, h.get? S = some o ∧ o.ExactSet ∧ o.data = .set es ep t ∧ t.fits es.size = true ∧ (zar w = false → t.led = true) ∧ h.get? it = some (sIt first i S es.size ep) ∧
  ((zar w = true ∧ first = .int 0 0 ∧ vs = (pickOrder (w.params.setOrder S ep) es).toList.map (·.2)) ∨
  (zar w = false ∧ ∃ tp, ∃ places : List Nat, first = .ref tp ∧ IsTup h tp (places.map fun p : Nat => Value.int (p : Int) 0).toArray ∧ places.Perm (List.range es.size) ∧ vs = places.filterMap (fun p => es[p]?.map (·.2))) ∨
  (zar w = false ∧ es.size ≤ 1 ∧ ∃ slot : Nat, first = .int (slot : Int) 0 ∧ SetTable.below t.place slot = i ∧ vs = es.toList.map (·.2)))
section
variable {it : Addr} {vs : List Value} {i n : Nat}
theorem zbq (h : Heap) : Looks (model P w) h setsByText (zar w) := fun _ _ _ _ _ q => by
 unfold setsByText;exact wpAny_bind (wpAny_askSetting (wpAny_pure q))
theorem zaH {es : Array (Int × Value)} (ho : h.get? S = some o) (hd : o.data = .set es ep tb) (hf : tb.fits es.size = true) : Looks (model P w) h (setState S) (es, ep, tb) :=
 fun _ _ _ _ k q => wpAny_setState_of (k _ _ ho) hd hf q
end
theorem zfg {n : Nat} (X : SetL w h S Sf n) (hQ : ∀ h' it d' vs es, (∃ o ep tb, h.get? S = some o ∧ o.data = .set es ep tb) → zaz h h' → SIt w h' it S vs 0 → vs.Perm (es.toList.map (·.2)) → h.get? it = none → h.objs.size ≤ it → Q (.ref it) ⟨h', gn, d', t, os⟩) :
  wpAny (model P w) A (pyIter (.ref S)) Q E ⟨h, gn, d, t, os⟩ := by
 unhygienic
 obtain ⟨o, es, ep, tb, ho, hx, hd, hel, _, hb, hf, hn, hl, hp⟩ := X
 haveI hT : (⟨h, gn, d, t, os⟩ : Shared).TypeIs (.ref S) "set" := ⟨o, ho, hx.1⟩
 have Ls : ∀ h, h.get? S = some o → Looks (model P w) h (setState S) (es, ep, tb) := fun h ho => zaH ho hd hf;revert hen w A E h gn d t os S n Sf Q o es ep tb;refine wpAny_pyIter_slot hT F.slot_set_iter (wpAny_call_entry F.slot_set_iter hT zcE ?_ (F.args_set_iter_1 _));unfold Builtin.«frozenset.__iter__» Builtin.Frozenset.slot0 slotArgs;simp -iota only [List.isEmpty_nil, Bool.not_true, false_eq_true, ↓reduceIte, bind_assoc, List.length_nil, bne_self_eq_false];unfold Builtin.Frozenset.addrOf Builtin.Frozenset.sizeOf setDrawn;have L1 := Ls h ho;have L2 := zbq (w := w) h
 repeat lk
 change wpAny _ _ (if (!zar w && (!tb.plain && decide (es.size > 1))) = true then _ else _) _ _ _
 haveI fin : ∀ (first : Value) (h1 : Heap) (d1 : Drawn) (vs : List Value), zaz h h1 → h.objs.size ≤ h1.objs.size → vs.Perm (es.toList.map (·.2)) →
   ((zar w = true ∧ first = .int 0 0 ∧ vs = (pickOrder (w.params.setOrder S ep) es).toList.map (·.2)) ∨
   (zar w = false ∧ ∃ tp, ∃ places : List Nat, first = .ref tp ∧ IsTup h1 tp (places.map fun p : Nat => Value.int (p : Int) 0).toArray ∧ places.Perm (List.range es.size) ∧ vs = places.filterMap (fun p => es[p]?.map (·.2))) ∨
   (zar w = false ∧ es.size ≤ 1 ∧ ∃ slot : Nat, first = .int (slot : Int) 0 ∧ SetTable.below tb.place slot = 0 ∧ vs = es.toList.map (·.2))) →
   wpAny (model P w) A.in1 (do let e ← setEpoch S; let v ← newFields "set_iterator" [first, rawInt 0, .ref S, rawInt es.size, rawInt e]; ret v)
    (fun fin s' => ∃ r, fin = Fin.done (Flow.ret r) ∧ (∃ T' r', s'.TypeIs r T' ∧ typeLookup (.type T') "__next__" = pure (some r') ∧ Q r s')) E ⟨h1, gn, d1, t, os⟩ := by
  intro first h1 d1 vs k hsz hp hord
  refine wpAny_bind (wpAny_setEpoch_of (k _ _ ho) hd hf ?_);refine wpAny_bind (wpAny_newObj_type ?_)
  haveI k2 : zaz h1 (h1.push (sIt first 0 S es.size ep)) := fun b o e => get?_push_of_some _ e
  haveI e2 : (h1.push (sIt first 0 S es.size ep)).get? h1.objs.size = some (sIt first 0 S es.size ep) := get?_push_size _ rfl
  refine wpAny_pure ⟨_, rfl, "set_iterator", _, ⟨_, e2, rfl⟩, zaF.lookup, hQ _ _ d1 vs es ⟨o, ep, tb, ho, hd⟩ (fun b o e => k2 b o (k b o e)) ⟨o, es, ep, tb, first, k2 _ _ (k _ _ ho), hx, hd, hf, hl, e2, ?_⟩ hp (zac hsz) hsz⟩;rcases hord with q | ⟨hby, tp, places, q1, ⟨ot, et, r⟩, q3, q4⟩ | q
  ·exact .inl q
  ·exact .inr (.inl ⟨hby, tp, places, q1, ⟨ot, k2 _ _ et, r⟩, q3, q4⟩)
  ·exact .inr (.inr q)
 by_cases hby : zar w = true
 ·rw [if_neg (by rw [hby]; simp)]
  refine wpAny_bind (wpAny_pure ?_);exact fin _ h d _ (fun _ _ e => e) (le_refl _) ((zf9 _ es).map _) (.inl ⟨hby, rfl, rfl⟩)
 ·have hby : zar w = false := by simpa using hby
  by_cases hsz : 1 < es.size
  ·rw [if_pos (by rw [hby, hp (by omega)]; simpa using hsz)]
   refine wpAny_bind (zbC es.size _ (List.length_range) fun ys d' p => ?_);unfold newTuple;refine wpAny_bind (wpAny_newObj_type ?_ (by show (List.map (fun i : Nat => rawInt (i : Int)) ys).toArray.size ≤ sizeLine; rw [List.size_toArray, length_map, p.length_eq, List.length_range]; exact fits_of_scanBound hb));refine fin _ _ d' (ys.filterMap fun p => es[p]?.map (·.2)) (fun b o e => get?_push_of_some _ e) (by rw [size_push]; exact le_succ _) ?_ (.inr (.inl ⟨hby, _, ys, rfl, ⟨_, get?_push_size _ rfl, rfl, 0, rfl⟩, p, rfl⟩));refine (p.filterMap _).trans ?_;have : (List.range es.size).filterMap (fun p => es[p]?.map (·.2)) = es.toList.map (·.2) := by
    rw [← filterMap_getElem?_range es, List.map_filterMap]
   rw [this]
  ·rw [if_neg (by simp; omega)]
   refine wpAny_bind (wpAny_pure ?_);refine fin _ h d _ (fun _ _ e => e) (le_refl _) (.refl _) (.inr (.inr ⟨hby, by omega, 0, rfl, ?_, rfl⟩));have hpl : tb.place.size = es.size := by
    simp -iota only [SetTable.fits, and_eq_true, beq_iff_eq, decide_eq_true_eq] at hf;exact hf.1
   have h01 : tb.place.size = 0 ∨ tb.place.size = 1 := by omega
   unfold SetTable.below;rcases h01 with q | q <;> rw [q] <;> simp [SetTable.below.go]
section
variable {it : Addr} {vs : List Value} {i n : Nat}
theorem ze5 {es : Array (Int × Value)} (ho : h.get? S = some o) (hd : o.data = .set es ep tb) (hf : tb.fits es.size = true) (hby : zar w = true) : Looks (model P w) h (setWalk S) (pickOrder (w.params.setOrder S ep) es) := by
 unfold setWalk;refine (zaH ho hd hf).andThen ?_;refine (zbq h).andThen ?_;rw [hby];simp -iota only [if_true];exact fun _ _ _ _ _ q => wpAny_bind (wpAny_askSetting (wpAny_pure q))
theorem zb4 {es : Array (Int × Value)} (ho : h.get? S = some o) (hd : o.data = .set es ep tb) (hf : tb.fits es.size = true) (hby : zar w = true) (slot : Nat) :
  Looks (model P w) h (setNext S slot i ep) ((pickOrder (w.params.setOrder S ep) es)[i]?.map fun e => (e.2, slot)) := by
 unfold setNext;refine (zaH ho hd hf).andThen ?_;refine (zbq h).andThen ?_;rw [hby];simp -iota only [if_true, bne_self_eq_false, false_eq_true, if_false];exact (ze5 ho hd hf hby).andThen .now
theorem zcd {es : Array (Int × Value)} (ho : h.get? S = some o) (hd : o.data = .set es ep tb) (hf : tb.fits es.size = true) (hby : zar w = false) (hl : tb.led = true) (h1 : es.size ≤ 1) (slot : Nat) :
  Looks (model P w) h (setNext S slot i ep) (match es[SetTable.below tb.place slot]?, tb.place[SetTable.below tb.place slot]? with
   | some (_, x), some j => some (x, j + 1)
   | _, _ => none) := by
 have e : setNext S slot i ep = (do
   let (es, epoch, t) ← setState S
   if ← setsByText then
    if epoch != ep then unsupported "set_iterator.__next__:elements-changed"
    return ((← setWalk S)[i]?).map fun e => (e.2, slot)
   if !t.plain && es.size > 1 then unsupported "set_iterator.__next__:the-table-is-plain-no-more"
   let _ ← (if (!t.led && !es.isEmpty) = true then (unsupported "set:maker-not-led" : Sem Unit) else pure ())
   let i := SetTable.below t.place slot
   return match es[i]?, t.place[i]? with
    | some (_, x), some j => some (x, j + 1)
    | _, _ => none) := by rfl
 rw [e];refine (zaH ho hd hf).andThen ?_;refine (zbq h).andThen ?_;rw [hby, hl];simp -iota only [false_eq_true, if_false, Bool.not_true, Bool.false_and, gt_iff_lt, show ¬ (1 < es.size) by omega, decide_false, Bool.and_false];exact Looks.andThen (a := ()) .now .now
theorem zdX {es : Array (Int × Value)} (ho : h.get? S = some o) (hd : o.data = .set es ep tb) (hf : tb.fits es.size = true) {p : Nat} {k : Int} (hv : es[p]? = some (k, v)) :
  Looks (model P w) h (setNextDrawn S p ep) v := by
 unfold setNextDrawn;refine (zaH ho hd hf).andThen ?_;simp only [bne_self_eq_false, false_eq_true, if_false];rw [hv];exact .now
theorem zcQ {es : Array (Int × Value)} : ∀ {places : List Nat} {i : Nat} {v : Value}, (∀ p ∈ places, p < es.size) → (places.filterMap (fun p => es[p]?.map (·.2)))[i]? = some v → ∃ p k, places[i]? = some p ∧ es[p]? = some (k, v)
 | [], i, v, _, h => by simp at h
 | p :: l, i, v, hp, h => by
  have hp0 := hp p (.head _);rw [filterMap_cons_some (b := es[p].2) (by rw [Array.getElem?_eq_getElem hp0]; rfl)] at h;cases i with
  | zero => exact ⟨p, es[p].1, rfl, by rw [Array.getElem?_eq_getElem hp0]; simp at h; rw [← h]⟩
  | succ i => exact zcQ (places := l) (fun q m => hp q (.tail _ m)) h
theorem zcK {es : Array (Int × Value)} : ∀ {places : List Nat}, (∀ p ∈ places, p < es.size) → (places.filterMap (fun p => es[p]?.map (·.2))).length = places.length
 | [], _ => rfl
 | p :: l, hp => by
  rw [filterMap_cons_some (b := es[p]'(hp p (.head _)) |>.2) (by rw [Array.getElem?_eq_getElem (hp p (.head _))]; rfl), length_cons, zcK (places := l) (fun q m => hp q (.tail _ m)), length_cons]
theorem zg2 {Q : Option Value → Shared → Prop} (X : SIt w h it S vs i) (hx : vs[i]? = some v) (hne : S ≠ it)
  (hQ : ∀ h', SIt w h' it S vs (i + 1) → Heap.SameBut it h h' → Q (some v) ⟨h', gn, d, t, os⟩) :
  wpAny (model P w) A (pyNext (.ref it)) Q E ⟨h, gn, d, t, os⟩ := by
 unhygienic
 revert hen w A E h gn d t os S it vs i v Q;obtain ⟨o, es, ep, tb, first, ho, hx2, hd, hf, hl, hit, hord⟩ := X
 haveI hT : (⟨h, gn, d, t, os⟩ : Shared).TypeIs (.ref it) "set_iterator" := ⟨_, hit, rfl⟩
 have L1 : Looks (model P w) h (setState S) (es, ep, tb) := zaH ho hd hf;have L2 := zbq (w := w) h;revert hen w A E h gn d t os S it vs i v Q o es ep tb first
 unfold pyNext;refine wpAny_bind (wpAny_attempt (wpAny_callSpecial?_slot (name := Str.ofString "__next__") hT zaF
  (wpAny_call_entry zaF hT zbk ?_ (zbr _))))
 unfold Builtin.«set_iterator.__next__»
 repeat (first | (with_reducible refine zax (by simp) ?_) | lk)
 rcases hord with ⟨hby, rfl, rfl⟩ | ⟨hby, tp, places, rfl, htp, hpp, rfl⟩ | ⟨hby, h1, slot, rfl, hsl, rfl⟩
 ·ext d
  haveI Ln := zb4 (i := i) ho hd hf hby 0
  rw [getElem?_map, getElem?_toList] at hx;cases hp : (pickOrder (w.params.setOrder S ep) es)[i]? with
  | none => rw [hp] at hx; cases hx
  | some e =>
   rw [hp] at hx Ln
   letI hx : e.2 = v := Option.some.inj hx
   replace Ln : Looks (model P w) h (setNext S 0 i ep) (some (e.2, 0)) := Ln;simp only [Int.toNat_natCast, Int.toNat_zero]
   repeat (first | (with_reducible refine wpAny_setField_rec hit (by simp) fun h₁ he₁ hs₁ => Held.out ?_) | lk)
   ext o.Held.in
   haveI he₁' : h₁.get? it = some (sIt (.int 0 0) i S es.size ep) := he₁
   repeat (first | (with_reducible refine wpAny_setField_rec he₁' (by simp) fun h₂ he₂ hs₂ => Held.out ?_) | lk)
   ext o.Held.in;refine wpAny_pure ⟨_, rfl, wpAny_pure ?_⟩;rw [hx]
   haveI he₂' : h₂.get? it = some (sIt (.int 0 0) (i + 1) S es.size ep) := by
    haveI e : ((i + 1 : Nat) : Int) = (i : Int) + 1 := by omega
    show _ = some ({ cls := .type "set_iterator", data := .fields #[.int 0 0, .int ((i + 1 : Nat) : Int) 0, .ref S, .int (es.size : Int) 0, .int (ep : Int) 0] } : Obj);rw [e]; exact he₂
   haveI sb : Heap.SameBut it h h₂ := Heap.SameBut.trans hs₁ hs₂
   exact hQ h₂ ⟨o, es, ep, tb, _, (sb.2 S hne).trans ho, hx2, hd, hf, hl, he₂', .inl ⟨hby, rfl, rfl⟩⟩ sb
 ·obtain ⟨p, k, hpl, hpe⟩ := zcQ (fun p q => List.mem_range.mp (hpp.mem_iff.mp q)) hx
  obtain ⟨ot, eot, cot, nt, dot⟩ := htp;have Lq : Looks (model P w) h (seqItems? (.ref tp)) (some (places.map fun p : Nat => Value.int (p : Int) 0).toArray) := fun _ _ _ _ k q => wpAny_seqItems (k _ _ eot) dot q;have Ln := zdX (w := w) ho hd hf hpe
  haveI hpl2 : (places.map fun p : Nat => Value.int (p : Int) 0).toArray[i]? = some (.int (p : Int) 0) := by rw [List.getElem?_toArray, getElem?_map, hpl]; rfl
  haveI tne : tp ≠ it := fun q => by rw [q, hit] at eot; cases eot; exact absurd (show Value.type "set_iterator" = .type "tuple" from cot) (by decide)
  ext d;simp only [Int.toNat_natCast]
  repeat lk
  rw [hpl2];simp only [Int.toNat_natCast]
  repeat (first | (with_reducible refine wpAny_setField_rec hit (by simp) fun h₁ he₁ hs₁ => Held.out ?_) | lk)
  ext o.Held.in;refine wpAny_pure ⟨_, rfl, wpAny_pure ?_⟩
  haveI he₁' : h₁.get? it = some (sIt (.ref tp) (i + 1) S es.size ep) := by
   haveI e : ((i + 1 : Nat) : Int) = (i : Int) + 1 := by omega
   show _ = some ({ cls := .type "set_iterator", data := .fields #[.ref tp, .int ((i + 1 : Nat) : Int) 0, .ref S, .int (es.size : Int) 0, .int (ep : Int) 0] } : Obj);rw [e]; exact he₁
  letI hs₁ : Heap.SameBut it h h₁ := hs₁
  exact hQ h₁ ⟨o, es, ep, tb, _, (hs₁.2 S hne).trans ho, hx2, hd, hf, hl, he₁', .inr (.inl ⟨hby, tp, places, rfl, ⟨ot, (hs₁.2 tp tne).trans eot, cot, nt, dot⟩, hpp, rfl⟩)⟩ hs₁
 ·have Ln := zcd (i := i) ho hd hf hby (hl hby) h1 slot
  rw [hsl] at Ln;rw [getElem?_map, getElem?_toList] at hx
  haveI hi : i < es.size := by
   rcases lt_or_ge i es.size with q | q
   ·exact q
   ·rw [getElem?_eq_none q] at hx; cases hx
  have hpl : tb.place.size = es.size := by
   simp only [SetTable.fits, and_eq_true, beq_iff_eq, decide_eq_true_eq] at hf;exact hf.1
  haveI hip : i < tb.place.size := by omega
  rw [Array.getElem?_eq_getElem hi] at hx Ln;rw [Array.getElem?_eq_getElem hip] at Ln
  letI hx : es[i].2 = v := Option.some.inj hx
  replace Ln : Looks (model P w) h (setNext S slot i ep) (some (es[i].2, tb.place[i] + 1)) := Ln
  haveI hi0 : i = 0 := by omega
  haveI hb1 : SetTable.below tb.place (tb.place[i] + 1) = i + 1 := by
   subst hi0
   haveI q : tb.place.size = 1 := by omega
   unfold SetTable.below;rw [q];simp [SetTable.below.go, Array.getD_eq_getD_getElem?, Array.getElem?_eq_getElem hip]
  ext d;simp only [Int.toNat_natCast]
  repeat (first | (with_reducible refine wpAny_setField_rec hit (by simp) fun h₁ he₁ hs₁ => Held.out ?_) | lk)
  ext o.Held.in
  haveI he₁' : h₁.get? it = some (sIt (.int ((tb.place[i] + 1 : Nat) : Int) 0) i S es.size ep) := he₁
  repeat (first | (with_reducible refine wpAny_setField_rec he₁' (by simp) fun h₂ he₂ hs₂ => Held.out ?_) | lk)
  ext o.Held.in;refine wpAny_pure ⟨_, rfl, wpAny_pure ?_⟩;rw [hx]
  haveI he₂' : h₂.get? it = some (sIt (.int ((tb.place[i] + 1 : Nat) : Int) 0) (i + 1) S es.size ep) := by
   haveI e : ((i + 1 : Nat) : Int) = (i : Int) + 1 := by omega
   show _ = some ({ cls := .type "set_iterator", data := .fields #[.int ((tb.place[i] + 1 : Nat) : Int) 0, .int ((i + 1 : Nat) : Int) 0, .ref S, .int (es.size : Int) 0, .int (ep : Int) 0] } : Obj);rw [e]; exact he₂
  haveI sb : Heap.SameBut it h h₂ := Heap.SameBut.trans hs₁ hs₂
  exact hQ h₂ ⟨o, es, ep, tb, _, (sb.2 S hne).trans ho, hx2, hd, hf, hl, he₂', .inr (.inr ⟨hby, h1, _, rfl, hb1, rfl⟩)⟩ sb
theorem zdA {Q : Option Value → Shared → Prop} (hh : A.handled = none) (X : SIt w h it S vs i) (hx : vs.length ≤ i) (hne : S ≠ it)
  (hQ : ∀ h', Heap.ExtBut it h h' → Q none ⟨h', gn, d, t, os⟩) :
  wpAny (model P w) A (pyNext (.ref it)) Q E ⟨h, gn, d, t, os⟩ := by
 unhygienic
 revert hen w A E h gn d t os S it vs i Q;obtain ⟨o, es, ep, tb, first, ho, hx2, hd, hf, hl, hit, hord⟩ := X
 haveI hT : (⟨h, gn, d, t, os⟩ : Shared).TypeIs (.ref it) "set_iterator" := ⟨_, hit, rfl⟩
 have L1 : Looks (model P w) h (setState S) (es, ep, tb) := zaH ho hd hf;have L2 := zbq (w := w) h;revert hen w A E h gn d t os S it vs i Q o es ep tb first
 unfold pyNext;refine wpAny_bind (wpAny_attempt (wpAny_callSpecial?_slot (name := Str.ofString "__next__") hT zaF
  (wpAny_call_entry zaF hT zbk ?_ (zbr _))))
 unfold Builtin.«set_iterator.__next__»
 repeat (first | (with_reducible refine zax (by simp) ?_) | lk)
 haveI stop : ∀ (h1 : Heap), Heap.ExtBut it h h1 → wpAny (model P w) A.in1 (newExc (.type "StopIteration") [] >>= fun e => (raiseNew e : Sem PySem.Fin)) (fun fin s' => ∃ v, fin = Fin.done (Flow.ret v) ∧ wpAny (model P w) A (pure (some v)) Q E s')
    (fun e s' => wpAny (model P w) A (do let __do_lift ← isInstance e (Value.type "StopIteration"); if __do_lift = true then pure none else throw e) Q E s') ⟨h1, gn, d, t, os⟩ := by
  intro h1 he;ext bind;unfold newExc newTuple;refine wpAny_bind (wpAny_newObj_type ?_ (by size_fits));refine wpAny_bind (wpAny_of_eq (a := Value.none) (by first | rfl | (simp -iota only [firstArgMember]; rfl)) (wpAny_newObj_type ?_ (by size_fits)));refine wpAny_raiseNew_none (A := A.in1) hh ?_;refine wpAny_bind (wpAny_isInstance (T := "StopIteration") (b := true) ⟨_, get?_push_size _ rfl, rfl⟩ isSubtype_stop ?_);exact wpAny_pure (hQ _ ((he.push _).push _))
 rcases hord with ⟨hby, rfl, rfl⟩ | ⟨hby, tp, places, rfl, htp, hpp, rfl⟩ | ⟨hby, h1, slot, rfl, hsl, rfl⟩
 ·have Ln := zb4 (i := i) ho hd hf hby 0
  rw [getElem?_eq_none (by simpa using hx)] at Ln;replace Ln : Looks (model P w) h (setNext S 0 i ep) none := Ln;ext d;simp -iota only [Int.toNat_natCast, Int.toNat_zero]
  repeat (first | (with_reducible refine wpAny_setField hit rfl (by simp) (Held.out ?_)) | lk)
  ext o.Held.in;exact stop _ (Heap.SameBut.update ..).extBut
 ·obtain ⟨ot, eot, cot, nt, dot⟩ := htp
  have Lq : Looks (model P w) h (seqItems? (.ref tp)) (some (places.map fun p : Nat => Value.int (p : Int) 0).toArray) := fun _ _ _ _ k q => wpAny_seqItems (k _ _ eot) dot q;have hpl2 : (places.map fun p : Nat => Value.int (p : Int) 0).toArray[i]? = none := by
   rw [zcK (fun p q => List.mem_range.mp (hpp.mem_iff.mp q))] at hx;rw [getElem?_eq_none]; simpa using hx
  ext d;simp -iota only [Int.toNat_natCast]
  repeat lk
  rw [hpl2];ext d
  repeat (first | (with_reducible refine wpAny_setField_rec hit (by simp) fun h₁ he₁ hs₁ => Held.out ?_) | lk)
  ext o.Held.in
  repeat (first | (with_reducible refine wpAny_setField he₁ rfl (by simp) (Held.out ?_)) | lk)
  ext o.Held.in;exact stop _ (Heap.SameBut.trans hs₁ (Heap.SameBut.update ..)).extBut
 ·have Ln := zcd (i := i) ho hd hf hby (hl hby) h1 slot
  rw [hsl] at Ln;rw [getElem?_eq_none (by simpa using hx)] at Ln;replace Ln : Looks (model P w) h (setNext S slot i ep) none := Ln;ext d;simp -iota only [Int.toNat_natCast]
  repeat (first | (with_reducible refine wpAny_setField hit rfl (by simp) (Held.out ?_)) | lk)
  ext o.Held.in;exact stop _ (Heap.SameBut.update ..).extBut
end
end
section
section
variable {vs : List Value} {n : Nat}
theorem zfq {Pp : PySem.Fin → Shared → Prop} (hS : StrsAre vs ss) (h64 : vs.length < 64)
  (hQ : ∀ h' L out ss', zaz h h' → h.get? L = none → h.objs.size ≤ L → h'.IsList L out → StrsAre out.toList ss' → ss'.Perm ss → sortedS ss' = true → Pp (.done (.ret (.ref L))) ⟨h', gn, d, t, os⟩) :
  wpAny (model P w) A (do let l ← newList vs; let _ ← holding [l] (call (.builtin "list.sort") [l] []); ret l) Pp E ⟨h, gn, d, t, os⟩ := by
 refine wpAny_bind (wpAny_newList ?_);have hoL : (h.push (seqObj "list" vs.toArray 0)).get? h.objs.size = some (seqObj "list" vs.toArray 0) := get?_push_size _ rfl;ext d;refine wpAny_bind (wpAny_holding (wpAny_call_entry slot_list_sort ⟨_, hoL, rfl⟩ entry_list_sort (list_sort_treeK strKind_oneLt hoL hS.keysOf (fun v₁ v₂ rest e => keyKind_strs (by rw [← e]; exact hS)) h64 fun st' hp hs => ⟨_, rfl, ?_⟩) (args_list_sort _)));obtain ⟨ss', h1, h2, h3⟩ := sorted_out_str hS hp hs;obtain ⟨e, he⟩ := sortedHeap_at (vs := vs) (out := (arrOf st').map (·.2)) (n := 0) hoL;refine wpAny_pure (hQ _ h.objs.size _ ss' (fun b o q => ?_) (zag _) (le_refl _) ⟨_, he, rfl, _, rfl⟩ h1 h2 h3);have lt := lt_size q;refine (sortedHeap_old (ne_of_lt lt) (by rw [size_push]; exact lt_succ_of_lt lt)).trans ?_;exact get?_push_of_some _ q
theorem SIt.keep {it : Addr} {i : Nat} (X : SIt w h it S vs i) (k : ∀ b o, h.get? b = some o → o.cls ≠ .type "list" → h'.get? b = some o) : SIt w h' it S vs i := by
 unhygienic
 revert hen w h S vs h' it i;obtain ⟨o, es, ep, tb, first, ho, hx2, hd, hf, hl, hit, hord⟩ := X;revert hen w h S vs h' it i o es ep tb first
 refine ⟨o, es, ep, tb, first, k _ _ ho (by rw [hx2.1]; decide), hx2, hd, hf, hl, k _ _ hit (by show Value.type "set_iterator" ≠ _; decide), ?_⟩;rcases hord with q | ⟨hby, tp, places, q1, ⟨ot, eot, cot, r⟩, q2⟩ | q
 ·exact .inl q
 ·exact .inr (.inl ⟨hby, tp, places, q1, ⟨ot, k _ _ eot (by rw [cot]; decide), cot, r⟩, q2⟩)
 ·exact .inr (.inr q)
theorem ze3 {N it : Addr} {res : Value} (hh : A.handled = none) (hne : S ≠ it) (hNi : N ≠ it) (hz : vs.length ≤ 1000) :
  ∀ (m i : Nat) (h : Heap) (ys : Array Value) (ny : Nat), m + i = vs.length → SIt w h it S vs i → h.get? N = some (zad ys ny) → ys.toList = vs.take i →
  (∀ h' ny', (∀ b o, b ≠ it → b ≠ N → h.get? b = some o → h'.get? b = some o) → h'.get? N = some (zad vs.toArray ny') → R (.ok (.ret res)) ⟨h', gn, d, t, os⟩) →
  codeAny (model P w) A (.builtin "list.extend.loop" ⟨[.ref N, .ref it, res], []⟩) R ⟨h, gn, d, t, os⟩ := by
 intro m
 induction m with
 | zero =>
  intro i h ys ny hm X eN hy hR;have hi : vs.length ≤ i := by omega
  refine codeAny_builtin PySem.F.entry_extend_loop ?_;rw [Around.under_plainId PySem.F.plain_extend_loop];unfold Builtin.«list.extend.loop»;refine wpAny_bind (zdA (A := A.in1) hh X hi hne fun h' he => ?_);ext pure;rw [take_of_length_le hi] at hy;have : ys = vs.toArray := by rw [← hy]
  exact hR h' ny (fun b o n1 _ e => he b o n1 e) (by rw [← this]; exact he _ _ hNi eN)
 | succ m ih =>
  intro i h ys ny hm X eN hy hR;have hi : i < vs.length := by omega
  refine codeAny_builtin PySem.F.entry_extend_loop ?_;rw [Around.under_plainId PySem.F.plain_extend_loop];unfold Builtin.«list.extend.loop»;refine wpAny_bind (zg2 (A := A.in1) X (getElem?_eq_getElem hi) hne fun h1 X1 sb1 => ?_);have eN1 : h1.get? N = some (zad ys ny) := (sb1.2 N hNi).trans eN;have hys : ys.size ≤ 1000 := by rw [← length_toList, hy, length_take]; omega
  ext bind;show wpAny _ _ (updateSeq N (·.push vs[i])) _ _ _;refine wpAny_updateSeq (hz := by rw [sizeLine_eq]; omega) eN1 rfl ?_;obtain ⟨n', e⟩ : ∃ n', Obj.mapSeq (·.push vs[i]) (zad ys ny) = zad (ys.push vs[i]) n' := ⟨_, rfl⟩;have sb : Heap.SameBut N h1 (h1.update N (Obj.mapSeq (·.push vs[i]))) := Heap.SameBut.update ..;have e2 : (h1.update N (Obj.mapSeq (·.push vs[i]))).get? N = some (zad (ys.push vs[i]) n') := by rw [← e]; exact get?_update_self _ eN1 rfl
  dsimp only at sb e2 ⊢;generalize h1.update N (Obj.mapSeq (·.push vs[i])) = h2 at sb e2 ⊢;have X2 : SIt w h2 it S vs (i + 1) := X1.keep fun b o q c => by
   by_cases n : b = N
   ·subst n; rw [eN1] at q; cases q; exact absurd rfl c
   ·exact (sb.2 b n).trans q
  refine wpAny_pure ⟨plainId_quiet PySem.F.plain_extend_loop _, ih (i + 1) h2 _ n' (by omega) X2 e2 (by rw [toList_push, hy, take_succ_eq_append_getElem hi]) (fun h' ny' k e' => hR h' ny' (fun b o n1 n2 q => k b o n1 n2 ((sb.2 b n2).trans ((sb1.2 b n1).trans q))) e')⟩
end
theorem zg5 {h : Heap} {S : Addr} : ∀ (eS : h.get? S = some o) (cS : o.cls = .type "set"), Looks (model P w) h (Builtin.List.listLengthHint (.ref S)) false := by
 unhygienic
 revert hen w h S o;intro A Q E s k q;obtain ⟨h2, gn, d2, t, os⟩ := s;have eS2 := k _ _ eS;dsimp only at eS2;have hT2 : (⟨h2, gn, d2, t, os⟩ : Shared).TypeIs (.ref S) "set" := ⟨o, eS2, cS⟩;unfold Builtin.List.listLengthHint;refine wpAny_bind (wpAny_specialOf hT2 F.slot_set_len.lookup ?_);have LT : Looks (model P w) h2 (typeOf (.ref S)) (.type "set") := cS ▸ (Looks.ld eS2).andThen .now;have LI : Looks (model P w) h2 (isInstance (.ref S) (.type "set")) true := LT.andThen (Looks.of_pure sub_set_self);have hsp : splitId "set.__len__" = some ("set", "__len__") := by kernel_rfl
 simp -iota only [hsp]
 repeat (first | lk)
 exact q
theorem zdR {A : Around} {n : Nat} {Q : List Value → Shared → Prop} : ∀ (hh : A.handled = none) (X : SetL w h S Sf n) (hz : n ≤ 1000) (hQ : ∀ h' d' vs es, (∃ o ep tb, h.get? S = some o ∧ o.data = .set es ep tb) → zaz h h' → vs.Perm (es.toList.map (·.2)) → h.objs.size ≤ h'.objs.size → Q vs ⟨h', gn, d', t, os⟩), wpAny (model P w) A (collect (.ref S)) Q E ⟨h, gn, d, t, os⟩ := by
 unhygienic
 revert hen w A E h gn d t os S n Sf Q;unfold collect;refine wpAny_bind (wpAny_runValue (codeAny_builtin entry_proto_collect' ?_));show wpAny _ _ (do again (.builtin "list.__iadd__" ⟨[← newList [], .ref S], []⟩)) _ _ _;refine wpAny_bind (wpAny_newList (wpAny_pure ⟨Code.quiet_builtin _ (by decide +kernel), codeAny_builtin entry_list_iadd' ?_⟩));show wpAny _ _ (Builtin.List.listExtendWith (.ref h.objs.size) (.ref S) (.ref h.objs.size)) _ _ ⟨h.push (zad #[] 0), _, _, _, _⟩;have eN : (h.push (zad #[] 0)).get? h.objs.size = some (zad #[] 0) := get?_push_size _ rfl;have k1 : zaz h (h.push (zad #[] 0)) := fun b o e => get?_push_of_some _ e;have fN : h.get? h.objs.size = none := zag _;have sN : h.objs.size < (h.push (zad #[] 0)).objs.size := by rw [size_push]; exact lt_succ_self _
 have X1 : SetL w (h.push (zad #[] 0)) S Sf n := X.at fun o e _ _ => k1 _ _ e;have hz0 : h.objs.size ≤ h.objs.size := le_refl _;generalize hN : h.objs.size = N at eN fN sN hz0 ⊢;generalize h.push (zad #[] 0) = h1 at eN k1 sN X1 ⊢;obtain ⟨oS, eS, cS, _⟩ := X1.obj;have hT : (⟨h1, gn, d, t, os⟩ : Shared).TypeIs (.ref S) "set" := ⟨oS, eS, cS⟩;have hSN : S ≠ N := fun q => by obtain ⟨o, e, _⟩ := X.obj; rw [q, fN] at e; cases e
 unfold Builtin.List.listExtendWith;refine wpAny_bind (wpAny_typeOf hT ?_);have q1 : Builtin.List.listSameRef (.ref N) (.ref S) = false := by simp [Builtin.List.listSameRef, Ne.symm hSN]
 have q2 : (Value.type "set" == Value.type "list") = false := by decide
 have q3 : (Value.type "set" == Value.type "tuple") = false := by decide
 simp -iota only [q1, q2, q3, Bool.or_false, false_eq_true, if_false];refine wpAny_bind (zfg X1 fun h2 it d2 vs es hes k2 X2 pm nit lit => ?_);have LH := zg5 (w := w) (k2 _ _ eS) cS;refine wpAny_bind (wpAny_holding (LH.here ?_));refine zch (by kernel_rfl) ?_;refine wpAny_bind (wpAny_rule ?_);have eN2 : h2.get? N = some (zad #[] 0) := k2 _ _ eN;have iN : it ≠ N := fun q => by rw [q, eN] at nit; cases nit
 have iS : S ≠ it := fun q => by rw [← q, eS] at nit; cases nit
 ext bind;show wpAny _ _ (updateSeq N (·.push .none) >>= fun _ => updateSeq N (·.pop)) _ _ _;refine wpAny_bind (wpAny_updateSeq eN2 rfl ?_);have s3 : Heap.SameBut N h2 (h2.update N (Obj.mapSeq (·.push Value.none))) := Heap.SameBut.update ..;obtain ⟨n3, e3⟩ : ∃ n3, (h2.update N (Obj.mapSeq (·.push Value.none))).get? N = some (zad #[.none] n3) := ⟨_, get?_update_self _ eN2 rfl⟩;ext d;generalize h2.update N (Obj.mapSeq (·.push Value.none)) = h3 at s3 e3 ⊢;refine wpAny_updateSeq (hz := by show (1 : Nat) ≤ sizeLine; decide) e3 rfl ?_;have s4 : Heap.SameBut N h3 (h3.update N (Obj.mapSeq (·.pop))) := Heap.SameBut.update ..;obtain ⟨n4, e4⟩ : ∃ n4, (h3.update N (Obj.mapSeq (·.pop))).get? N = some (zad #[] n4) := ⟨_, get?_update_self _ e3 rfl⟩;ext d;generalize h3.update N (Obj.mapSeq (·.pop)) = h4 at s4 e4 ⊢;have sb4 : ∀ b, b ≠ N → h4.get? b = h2.get? b := fun b n => (s4.2 b n).trans (s3.2 b n);have X4 : SIt w h4 it S vs 0 := X2.keep fun b o q c => by
  by_cases n : b = N
  ·subst n; rw [eN2] at q; cases q; exact absurd rfl c
  ·exact (sb4 b n).trans q
 have esz : vs.length = n := by
  obtain ⟨o, ep, tb, e1, e2⟩ := hes;obtain ⟨o', es', ep', tb', f1, f2, f3, _, _, _, _, f8, _⟩ := X1;rw [e1] at f1; cases f1; rw [e2] at f3; cases f3;rw [pm.length_eq, length_map, length_toList]; exact f8
 refine wpAny_pure ⟨plainId_quiet PySem.F.plain_extend_loop _, ?_⟩;refine ze3 hh iS (Ne.symm iN) (by omega) vs.length 0 h4 _ n4 (Nat.add_zero _) X4 e4 rfl (fun h' ny' k e' => ?_);show wpAny _ _ (do let o ← load N; match o.data with | .seq xs _ => pure xs.toList | _ => unsupported "internal:collect") _ _ _;refine wpAny_bind (wpAny_load e' ?_);ext pure;show Q vs _;have hes' : ∃ o ep tb, h.get? S = some o ∧ o.data = .set es ep tb := by
  obtain ⟨o, ep, tb, e1, e2⟩ := hes;obtain ⟨o', e3, _⟩ := X.obj;rw [k1 _ _ e3] at e1; cases e1;exact ⟨_, ep, tb, e3, e2⟩
 refine hQ h' d2 vs es hes' (fun b o q => ?_) pm (by rw [hN]; exact le_of_lt (lt_size e'));have bN : b ≠ N := fun z => by rw [z, fN] at q; cases q
 have bi : b ≠ it := fun z => by have := k1 _ _ q; rw [z, nit] at this; cases this
 exact k b o bi bN ((sb4 b bN).trans (k2 _ _ (k1 _ _ q)))
section
variable {vs : List Value} {n : Nat}
theorem zeW (hh : A.handled = none) (X : SetL w h S Sf n) (hz : n < 64)
  (hQ : ∀ h' d' L out ss, zaz h h' → h.get? L = none → h.objs.size ≤ L → h'.IsList L out → StrsAre out.toList ss → sortedS ss = true → ss.length = n → (∀ k, Sf k = true ↔ k ∈ ss) → Q (.ref L) ⟨h', gn, d', t, os⟩) :
  wpAny (model P w) A (call (.builtin "sorted") [.ref S]) Q E ⟨h, gn, d, t, os⟩ := by
 unhygienic
 revert hen w A E h gn d t os S n Sf Q;refine Calls.call_function_entry kind_sorted plain_sorted entry_sorted (args_sorted1 _) ?_;unfold Builtin.«sorted»;refine wpAny_bind (m := checkCount "sorted" 1 1 _) (wpAny_pure ?_);refine wpAny_bind (zdR (A := A.in1) hh X (by omega) fun h1 d1 vs es hes k1 pm sz => ?_);obtain ⟨o, ep, tb, e1, e2⟩ := hes;obtain ⟨o', es', ep', tb', f1, f2, f3, f4, f5, _, _, f8, _⟩ := X;rw [e1] at f1; cases f1; rw [e2] at f3; cases f3
 haveI hall : ∀ v, v ∈ vs → ∃ x t, v = .str x t := fun v hv => by
  obtain ⟨e, he, rfl⟩ := mem_map.mp (pm.mem_iff.mp hv);obtain ⟨⟨k, hk, _⟩, _⟩ := f4 e he;obtain ⟨tk, e⟩ := Value.isStrOf_shape hk;exact ⟨k, tk, e⟩
 haveI hS := strsAre_map vs hall
 haveI hlen : vs.length = n := by rw [pm.length_eq, length_map, length_toList]; exact f8
 refine zfq hS (by omega) fun h' L out ss' k2 nL lL il sa p so => ?_;refine ⟨_, rfl, hQ h' d1 L out ss' (fun b o e => k2 b o (k1 b o e)) ?_ (le_trans sz lL) il sa so (by rw [p.length_eq, length_map]; exact hlen) fun k => ?_⟩
 ·exact zac (le_trans sz lL)
 ·rw [f5, p.mem_iff]
  constructor
  ·rintro ⟨e, he, hk⟩
   obtain ⟨tk, ek⟩ := Value.isStrOf_shape hk;exact mem_map.mpr ⟨e.2, pm.mem_iff.mpr (mem_map.mpr ⟨e, he, rfl⟩), by rw [ek]; rfl⟩
  ·intro hk
   obtain ⟨v, hv, ev⟩ := mem_map.mp hk;obtain ⟨e, he, rfl⟩ := mem_map.mp (pm.mem_iff.mp hv);obtain ⟨x, tk, ex⟩ := hall _ hv;refine ⟨e, he, ?_⟩;rw [ex] at ev ⊢
   letI ev : x = k := ev
   rw [← ev]; exact zbJ w x tk
theorem zd3 {l : Addr} (hl : h.IsList l ws) (hS : StrsAre ws.toList ks) (hz : ks.length < 64)
  (hQ : ∀ h' L out ss, zaz h h' → h.get? L = none → h.objs.size ≤ L → h'.IsList L out → StrsAre out.toList ss → sortedS ss = true → ss.Perm ks → Q (.ref L) ⟨h', gn, d, t, os⟩) :
  wpAny (model P w) A (call (.builtin "sorted") [.ref l]) Q E ⟨h, gn, d, t, os⟩ := by
 have hz2 : ws.toList.length < 64 := by rw [StrsAre.length hS]; exact hz
 refine sorted_strs (s := ⟨h, gn, d, t, os⟩) (vs := ws.toList) hl hS hz2 fun out ss' a1 a2 a3 => ?_;obtain ⟨e, he⟩ := sortedAll_at h ws.toList out;exact hQ _ _ out ss' (fun b o q => sortedAll_old q) (zac (le_succ _)) (le_succ _) ⟨_, he, rfl, _, rfl⟩ a1 a3 a2
end
end
section
def zht (w : World) : FuncData := match (KK w).lookup 603 with
 | some o => (match o.data with | .func fd => fd | _ => default)
 | none => default
@[irreducible] noncomputable def zat (w : World) (i : Nat) : Stmt := match (zht w).body with
 | .stmts b => b.getD i (.Pass default)
 | _ => .Pass default
abbrev zaq (w : World) (L : Addr) : Env := callEnvC (zht w) L 603
theorem nin {a : Nat} (h : a ≠ c) : a ∉ [c] := fun q => h (mem_singleton.mp q)
structure LW (w : World) (h₀ : Heap) (b : Nat) (h : Heap) (m : Str → Option Value) (kv : Option Value) (st nb : Nat) (at_ : Nat) (x : Addr) (rows : List (List (Str × Int))) (pl : Addr) : Prop where
 T₀ : TopH w h₀
 D : Me [] h₀ h h₀.objs.size m []
 Ck : h.IsCell (h₀.objs.size + 2) kv
 Cs : h.IsCell (h₀.objs.size + 1) (some (.ref st))
 hb : h₀.objs.size + 2 < st ∧ st < b ∧ nb < b ∧ nb ≠ st ∧ h₀.objs.size + 2 < nb
 at_lt : at_ < 900000
 st : ∃ t1, h.IsList st #[.ref nb, .int at_ t1]
 nb : ∃ vs ns, h.IsList nb vs ∧ IntsAre vs.toList ns ∧ 0 < vs.size ∧ vs.size ≤ 100
 X : ∃ dx dl hsh t n c vs es ep, WH w b h x (rows.map grp) dx dl hsh t n c vs es ep
 pl : ∃ us, LsAt b h pl us ((zab rows).map zan)
 nr : rows.length ≤ 4
 row : ∀ ps ∈ rows, ps.length ≤ 6 ∧ ∀ p ∈ ps, p.1 ∈ abcd ∧ 0 ≤ p.2 ∧ p.2 < 9
section
variable {b : Nat}
theorem LW.top (X : LW w h₀ b h m kv st nb at_ x rows pl) : TopH w h := X.D.top X.T₀ (by simp)
theorem Me.fext (D : Me [] h₀ h L m []) (y : FExt [L] h h') : Me [] h₀ h' L m [] :=
 ⟨D.ext.trans y.ext fun a q => by rw [mem_singleton.mp q]; exact D.offL, y.ns L (.head _) m D.ns, fun _ q => (nomatch q), nodup_nil, fun _ q => (nomatch q), fun _ q => (nomatch q), D.offL⟩
theorem LW.fext (X : LW w h₀ b h m kv st nb at_ x rows pl) (y : FExt [h₀.objs.size] h h') : LW w h₀ b h' m kv st nb at_ x rows pl := by
 obtain ⟨b1, b2, b3, b4, b5⟩ := X.hb;have hm : ∀ a ∈ [h₀.objs.size], a < b ∨ h.get? a = none := fun a q => .inl (by rw [mem_singleton.mp q]; omega);obtain ⟨t1, est⟩ := X.st;obtain ⟨vs, ns, enb, r⟩ := X.nb;obtain ⟨dx, dl, hsh, t, n, c, vs', es, ep, W⟩ := X.X;obtain ⟨us, ep'⟩ := X.pl;exact ⟨X.T₀, X.D.fext y, y.ext.cell X.Ck (nin (by omega)), y.ext.cell X.Cs (nin (by omega)), X.hb, X.at_lt, ⟨t1, y.ext.isList est (nin (by omega))⟩, ⟨vs, ns, y.ext.isList enb (nin (by omega)), r⟩,
  ⟨dx, dl, hsh, t, n, c, vs', es, ep, W.ext y.ext hm⟩, ⟨us, ep'.ext y.ext hm⟩, X.nr, X.row⟩
theorem LW.ext (X : LW w h₀ b h m kv st nb at_ x rows pl) (y : Ext [] h h') : LW w h₀ b h' m kv st nb at_ x rows pl := X.fext (.of y)
theorem LW.store (X : LW w h₀ b h m kv st nb at_ x rows pl) (n : h'.Ns h₀.objs.size m') (hs : Heap.SameBut h₀.objs.size h h') : LW w h₀ b h' m' kv st nb at_ x rows pl := by
 obtain ⟨b1, b2, b3, b4, b5⟩ := X.hb;have y : Ext [h₀.objs.size] h h' := .sameBut hs (let ⟨o, _, _, e, _⟩ := n; ⟨o, e⟩);have hm : ∀ a ∈ [h₀.objs.size], a < b ∨ h.get? a = none := fun a q => .inl (by rw [mem_singleton.mp q]; omega);obtain ⟨t1, est⟩ := X.st;obtain ⟨vs, ns, enb, r⟩ := X.nb;obtain ⟨dx, dl, hsh, t, n', c, vs', es, ep, W⟩ := X.X;obtain ⟨us, ep'⟩ := X.pl;exact ⟨X.T₀, X.D.store n hs, y.cell X.Ck (nin (by omega)), y.cell X.Cs (nin (by omega)), X.hb, X.at_lt, ⟨t1, y.isList est (nin (by omega))⟩, ⟨vs, ns, y.isList enb (nin (by omega)), r⟩,
  ⟨dx, dl, hsh, t, n', c, vs', es, ep, W.ext y hm⟩, ⟨us, ep'.ext y hm⟩, X.nr, X.row⟩
theorem LW.key (X : LW w h₀ b h m kv st nb at_ x rows pl) (c : h'.IsCell (h₀.objs.size + 2) kv') (hs : Heap.SameBut (h₀.objs.size + 2) h h') (off : h₀.get? (h₀.objs.size + 2) = none) : LW w h₀ b h' m kv' st nb at_ x rows pl := by
 obtain ⟨b1, b2, b3, b4, b5⟩ := X.hb;have y : Ext [h₀.objs.size + 2] h h' := .sameBut hs (let ⟨o, e, _⟩ := c; ⟨o, e⟩);have hm : ∀ a ∈ [h₀.objs.size + 2], a < b ∨ h.get? a = none := fun a q => .inl (by rw [mem_singleton.mp q]; omega);obtain ⟨t1, est⟩ := X.st;obtain ⟨vs, ns, enb, r⟩ := X.nb;obtain ⟨dx, dl, hsh, t, n', c', vs', es, ep, W⟩ := X.X;obtain ⟨us, ep'⟩ := X.pl;have D' : Me [] h₀ h' h₀.objs.size m [] := X.D.own hs (let ⟨o, e, _⟩ := c; ⟨o, e⟩) (.inr off) (ne_of_lt (lt_add_of_pos_right (by decide)));exact ⟨X.T₀, D', c, y.cell X.Cs (nin (by omega)), X.hb, X.at_lt, ⟨t1, y.isList est (nin (by omega))⟩, ⟨vs, ns, y.isList enb (nin (by omega)), r⟩,
  ⟨dx, dl, hsh, t, n', c', vs', es, ep, W.ext y hm⟩, ⟨us, ep'.ext y hm⟩, X.nr, X.row⟩
theorem LW.next (X : LW w h₀ b h m kv st nb at_ x rows pl) {t3 : Tok} {k : Nat} (y : Ext [st] h h') (l : h'.IsList st #[.ref nb, .int (k : Nat) t3]) (hk : k < 900000) : LW w h₀ b h' m kv st nb k x rows pl := by
 obtain ⟨b1, b2, b3, b4, b5⟩ := X.hb;have hm : ∀ a ∈ [st], a < b ∨ h.get? a = none := fun a q => .inl (by rw [mem_singleton.mp q]; omega);obtain ⟨vs, ns, enb, r⟩ := X.nb;obtain ⟨dx, dl, hsh, t, n', c', vs', es, ep, W⟩ := X.X;obtain ⟨us, ep'⟩ := X.pl;have off : h₀.get? st = none := zac (by omega);have D' : Me [] h₀ h' h₀.objs.size m [] := ⟨X.D.ext.trans y fun a q => by rw [mem_singleton.mp q]; exact .inr off, zaA y X.D.ns (nin (by omega)), fun _ q => (nomatch q), nodup_nil, fun _ q => (nomatch q), fun _ q => (nomatch q), X.D.offL⟩;exact ⟨X.T₀, D', y.cell X.Ck (nin (by omega)), y.cell X.Cs (nin (by omega)), X.hb, hk, ⟨t3, l⟩, ⟨vs, ns, y.isList enb (nin (by omega)), r⟩,
  ⟨dx, dl, hsh, t, n', c', vs', es, ep, W.ext y hm⟩, ⟨us, ep'.ext y hm⟩, X.nr, X.row⟩
end
end
section
theorem zd9 (rows : List (List (Str × Int))) : zaw (rows.map grp) = (zab rows).map zan := by
 unfold zaw zab;rw [List.flatMap_map, List.map_flatMap]
 congr 1
 funext r;rw [zaG];unfold zal un;rw [List.map_flatMap]
 congr 1
 funext p;rw [map_map];rfl
theorem zcG (rows : List (List (Str × Int))) (k : Str) : zaf (zab rows) k = rows.flatMap fun r => zaf r k := by
 induction rows with
 | nil => rfl
 | cons r rows ih =>
  rw [flatMap_cons, ← ih];unfold zab;rw [flatMap_cons, zaV, zef]
theorem zfw : k ∈ dk ps ↔ zaf ps k ≠ [] := ⟨zaD, fun h => Decidable.byContradiction fun q => h (zbb q)⟩
theorem zgg (a b : List (Str × Int)) : dk (a ++ b) = b.foldl (fun l p => if p.1 ∈ l then l else l ++ [p.1]) (dk a) := by
 unfold dk; rw [foldl_append]
theorem ze0 (l : List Str) (ps : List (Str × Int)) : ∀ (ks : List Str), (∀ k ∈ ks, zaf ps k ≠ []) →
  (un (ks.map fun k => (k, zaf ps k))).foldl (fun l p => if p.1 ∈ l then l else l ++ [p.1]) l = ks.foldl (fun l k => if k ∈ l then l else l ++ [k]) l := by
 intro ks
 induction ks generalizing l with
 | nil => intro _; rfl
 | cons k ks ih =>
  intro h;have hk := h k (.head _);unfold un;rw [map_cons, flatMap_cons, foldl_append, foldl_cons];have : ∀ (ns : List Int) (l : List Str), ns ≠ [] → (ns.map fun n => (k, n)).foldl (fun l p => if p.1 ∈ l then l else l ++ [p.1]) l = if k ∈ l then l else l ++ [k] := by
   intro ns
   induction ns with
   | nil => intro l h; exact absurd rfl h
   | cons n ns ihn =>
    intro l _;rw [map_cons, foldl_cons];ext d
    by_cases hl : k ∈ l
    ·rw [if_pos hl]
     cases ns with
     | nil => rfl
     | cons m ns => rw [ihn l (by simp), if_pos hl]
    ·rw [if_neg hl]
     cases ns with
     | nil => rfl
     | cons m ns => rw [ihn _ (by simp), if_pos (by simp)]
  rw [this _ _ hk];exact ih _ fun q m => h q (.tail _ m)
theorem zhh (s : List Str) (p : Str × Int) (r : List (Str × Int)) : zau s (p :: r) = if p.1 ∈ s then zau s r else p :: zau (p.1 :: s) r := rfl
theorem zfb (f : List (Str × Int)) : ∀ (seen : List Str) (a : List (Str × Int)), zau seen (a ++ f) = zau seen a ++ zau ((zau seen a).reverse.map (·.1) ++ seen) f := by
 intro seen a
 induction a generalizing seen with
 | nil => rfl
 | cons p a ih =>
  rw [List.cons_append, zhh, zhh]
  by_cases hp : p.1 ∈ seen
  ·rw [if_pos hp, if_pos hp]; exact ih seen
  ·rw [if_neg hp, if_neg hp, ih, List.cons_append, List.reverse_cons, map_append]
   simp
theorem zdJ (f : List (Str × Int)) : ∀ (s : List Str), (f.map (·.1)).Nodup → zau s f = f.filter fun p => decide (p.1 ∉ s) := by
 induction f with
 | nil => intro s _; rfl
 | cons p f ih =>
  intro s h;rw [map_cons, nodup_cons] at h;unfold zau
  by_cases hp : p.1 ∈ s
  ·rw [if_pos hp, ih s h.2, filter_cons, if_neg (by simpa using hp)]
  ·rw [if_neg hp, ih _ h.2, filter_cons, if_pos (by simpa using hp)]
   congr 1
   refine List.filter_congr fun q hq => ?_;have : q.1 ≠ p.1 := fun e => h.1 (by rw [← e]; exact mem_map_of_mem (f := (·.1)) hq);simp [this]
theorem zg0 (ks : List Str) : ∀ l : List Str, ks.Nodup → ks.foldl (fun l k => if k ∈ l then l else l ++ [k]) l = l ++ ks.filter fun k => decide (k ∉ l) := by
 induction ks with
 | nil => intro l _; simp
 | cons k ks ih =>
  intro l h;rw [nodup_cons] at h;rw [foldl_cons]
  by_cases hk : k ∈ l
  ·rw [if_pos hk, ih l h.2, filter_cons, if_neg (by simpa using hk)]
  ·rw [if_neg hk, ih _ h.2, filter_cons, if_pos (by simpa using hk), List.append_assoc]
   congr 1
   rw [List.singleton_append]
   congr 1
   refine List.filter_congr fun q hq => ?_;have : q ≠ k := fun e => h.1 (e ▸ hq);simp [this]
theorem zbK (rows : List (List (Str × Int))) (r : List (Str × Int)) : zab (rows ++ [r]) = zab rows ++ un (zaZ r) := by
 unfold zab; rw [flatMap_append, flatMap_cons, List.flatMap_nil, append_nil]
theorem zcW (rows : List (List (Str × Int))) (r : List (Str × Int)) : dk (zab (rows ++ [r])) = dk (zab rows) ++ (dk r).filter fun k => decide (k ∉ dk (zab rows)) := by
 rw [zbK, zgg];unfold zaZ;rw [ze0 _ r (dk r) fun k h => zaD h, zg0 _ _ (zaS r)]
theorem zdq (rows : List (List (Str × Int))) : zau [] ((rows.map grp).flatMap zai) = (dk (zab rows)).map fun k => (k, (zaf (zab rows) k).headD 0) := by
 unhygienic
 revert hen rows
 induction rows using zbT with
 | h0 => rfl
 | h1 rows r ih =>
  rw [map_append, flatMap_append, zfb, ih, zcW, map_append];have hkeys : ((dk (zab rows)).map fun k => (k, (zaf (zab rows) k).headD 0)).reverse.map (·.1) = (dk (zab rows)).reverse := by
   rw [← List.map_reverse, map_map]; exact map_id _
  congr 1
  ·refine map_congr_left fun k hk => ?_
   have h1 : zaf (zab (rows ++ [r])) k = zaf (zab rows) k ++ zaf (un (zaZ r)) k := by rw [zbK, zaV]
   have h2 := zaD hk;rw [h1];cases h : zaf (zab rows) k with
   | nil => exact absurd h h2
   | cons n ns => rfl
  ·rw [hkeys, map_cons, map_nil, flatMap_cons, List.flatMap_nil, append_nil, append_nil]
   have hf : zai (grp r) = (dk r).map fun k => (k, (zaf r k).headD 0) := by rw [zaG]; unfold zai zaZ; rw [map_map]; rfl
   have hn : ((zai (grp r)).map (·.1)).Nodup := by
    rw [hf, map_map];have : (fun p : Str × Int => p.1) ∘ (fun k => (k, (zaf r k).headD 0)) = id := rfl;rw [this, map_id]; exact zaS r
   rw [zdJ _ _ hn, hf, List.filter_map];have e1 : ((fun p : Str × Int => decide (p.1 ∉ (dk (zab rows)).reverse)) ∘ fun k => (k, (zaf r k).headD 0)) = fun k => decide (k ∉ dk (zab rows)) := by
    funext k; simp
   rw [e1];refine map_congr_left fun k hk => ?_;obtain ⟨h1, h2⟩ := List.mem_filter.mp hk;have h3 : zaf (zab (rows ++ [r])) k = zaf r k := by
    rw [zbK, zaV, zbb (by simpa using h2), zef]; rfl
   rw [h3]
abbrev headD (p : Str × List Int) : PyData := zan (p.1, p.2.headD 0)
theorem zdC (rows : List (List (Str × Int))) : zc1 (rows.map grp) = (zaZ (zab rows)).map headD := by
 unfold zc1;rw [zdq];unfold zaZ;rw [map_map, map_map];rfl
theorem zaN (rows : List (List (Str × Int))) : zaI (rows.map grp) = zaZ (zab rows) := zd7 rows
theorem zcu {α β : Type} (f : α → List β) (c : Nat) : ∀ l : List α, (∀ x ∈ l, (f x).length ≤ c) → (l.flatMap f).length ≤ c * l.length
 | [], _ => by simp
 | x :: l, h => by
  rw [flatMap_cons, length_append, length_cons, Nat.mul_succ];have h1 := h x (.head _);have h2 := zcu f c l fun y hy => h y (.tail _ hy);omega
theorem plain_len {rows : List (List (Str × Int))} (hn : rows.length ≤ 4) (hr : ∀ ps ∈ rows, ps.length ≤ 6) : (zab rows).length ≤ 144 := by
 unfold zab;have := zcu (fun r : List (Str × Int) => un (zaZ r)) 36 rows fun r hr' => by
  unfold un;have h1 := zcu (fun p : Str × List Int => p.2.map fun n => (p.1, n)) 6 (zaZ r) fun p hp => by
   rw [length_map];rw [← zaG] at hp;exact le_trans (zcS r p hp) (hr r hr')
  have h2 : (zaZ r).length ≤ 6 := by rw [← zaG]; exact le_trans (zcU r) (hr r hr')
  omega
 omega
theorem za9 {α : Type} [BEq α] [LawfulBEq α] : ∀ (l m : List α), l.Nodup → (∀ x ∈ l, x ∈ m) → l.length ≤ m.length
 | [], _, _, _ => zero_le _
 | x :: l, m, hn, hs => by
  rw [nodup_cons] at hn;have hx : x ∈ m := hs x (.head _);have := za9 l (m.erase x) hn.2 fun y hy => by
   have hne : y ≠ x := fun e => hn.1 (e ▸ hy);exact (List.mem_erase_of_ne hne).mpr (hs y (.tail _ hy))
  rw [List.length_erase_of_mem hx] at this;have : 0 < m.length := List.length_pos_of_mem hx;rw [length_cons]; omega
theorem zeI {α : Type} [BEq α] [LawfulBEq α] : ∀ (l m : List α), l.Nodup → (∀ x ∈ l, x ∈ m) → m.length ≤ l.length → m.Perm l
 | [], m, _, _, h => by
  have : m = [] := List.length_eq_zero_iff.mp (by simpa using h);rw [this]
 | x :: l, m, hn, hs, h => by
  rw [nodup_cons] at hn;have hx : x ∈ m := hs x (.head _);have := zeI l (m.erase x) hn.2 (fun y hy => by
   have hne : y ≠ x := fun e => hn.1 (e ▸ hy);exact (List.mem_erase_of_ne hne).mpr (hs y (.tail _ hy))) (by rw [List.length_erase_of_mem hx]; rw [length_cons] at h; omega)
  exact (List.perm_cons_erase hx).trans (this.cons x)
theorem zgj {rows : List (List (Str × Int))} (h : k ∈ dk (zab rows)) : ∃ ps ∈ rows, ∃ n, (k, n) ∈ ps := by
 unhygienic
 revert hen rows k;have h1 := zaD h;rw [zcG] at h1;obtain ⟨n, hn⟩ := List.exists_mem_of_ne_nil _ h1;obtain ⟨ps, hps, hm⟩ := mem_flatMap.mp hn;obtain ⟨p, hp, e⟩ := mem_map.mp hm;obtain ⟨hp1, hp2⟩ := List.mem_filter.mp hp;have : p.1 = k := by simpa using hp2
 exact ⟨ps, hps, n, by rw [← this, ← e]; exact hp1⟩
theorem zaJ {rows : List (List (Str × Int))} (hr : ∀ ps ∈ rows, ps.length ≤ 6 ∧ ∀ p ∈ ps, p.1 ∈ abcd ∧ 0 ≤ p.2 ∧ p.2 < 9) (h : k ∈ dk (zab rows)) : k ∈ abcd := by
 obtain ⟨ps, hps, n, hn⟩ := zgj h;exact ((hr ps hps).2 _ hn).1
theorem zcj : k ∈ zaE (rows.map grp) ↔ k ∈ dk (zab rows) := by
 unhygienic
 revert hen rows k;rw [zfw, zcG];unfold zaE;rw [List.flatMap_map, mem_flatMap];constructor
 ·rintro ⟨r, hr, hk⟩
  rw [zaG, zaY] at hk;have := zaD hk;obtain ⟨n, hn⟩ := List.exists_mem_of_ne_nil _ this;exact List.ne_nil_of_mem (mem_flatMap.mpr ⟨r, hr, hn⟩)
 ·intro h
  obtain ⟨n, hn⟩ := List.exists_mem_of_ne_nil _ h;obtain ⟨r, hr, hm⟩ := mem_flatMap.mp hn;exact ⟨r, hr, by rw [zaG, zaY, zfw]; exact List.ne_nil_of_mem hm⟩
theorem zeY (l : List Str) (k : Str) (h : l.Nodup) : (zfo l k).Nodup := by
 unfold zfo
 split
 ·exact h
 ·rename_i hk
  exact List.nodup_append.mpr ⟨h, by simp, fun x hx y hy q => hk (by rw [← mem_singleton.mp hy, ← q]; exact hx)⟩
theorem zcx (ks : List Str) : (zah ks).Nodup := by
 have key : ∀ (ks l : List Str), l.Nodup → (ks.foldl zfo l).Nodup := by
  intro ks
  induction ks with
  | nil => intro l h; exact h
  | cons a ks ih => intro l h; rw [foldl_cons]; exact ih _ (zeY l a h)
 exact key ks [] nodup_nil
theorem za0 (rows : List (List (Str × Int))) : (zah (zaE (rows.map grp))).length = (dk (zab rows)).length := by
 refine Nat.le_antisymm (za9 _ _ (zcx _) fun x hx => ?_) (za9 _ _ (zaS _) fun x hx => ?_)
 ·exact zcj.mp ((zbm _ _).mp hx)
 ·exact (zbm _ _).mpr (zcj.mpr hx)
end
section
open PySem.SeqAt PySem.Spec
theorem zgp {α : Type} (f : α → PyData) : ∀ l : List α, (∀ x ∈ l, (f x).canLay0 = true) → PyData.canLayAll0 (l.map f) = true
 | [], _ => rfl
 | x :: l, h => by rw [map_cons, PyData.canLayAll0, h x (.head _), zgp f l fun y hy => h y (.tail _ hy)]; rfl
theorem zft {α : Type} (f : α → PyData) (c : Nat) : ∀ l : List α, (∀ x ∈ l, (f x).depth ≤ c) → PyData.depthAll (l.map f) ≤ c
 | [], _ => zero_le _
 | x :: l, h => by
  rw [map_cons, PyData.depthAll];have h1 := h x (.head _);have h2 := zft f c l fun y hy => h y (.tail _ hy);exact Nat.max_le.mpr ⟨h1, h2⟩
theorem za6 {α : Type} (f : α → PyData) (c : Nat) (l : List α) (hc : c ≤ 60) (h1 : ∀ x ∈ l, (f x).canLay0 = true) (h2 : ∀ x ∈ l, (f x).depth ≤ c) : shaped (.list (l.map f)) = true := by
 unfold shaped;rw [PyData.canLay0, zgp f l h1, Bool.true_and];ext o.decide_eq_true;rw [PyData.depth];have := zft f c l h2;omega
theorem zeg (h : k ∈ abcd) : PyData.strOk k = true := by
 unfold abcd at h;simp only [mem_cons, not_mem_nil, or_false] at h;rcases h with rfl | rfl | rfl | rfl <;> decide +kernel
theorem zeK {p : Str × Int} (h : p.1 ∈ abcd) : (zan p).canLay0 = true := by
 simp [PyData.canLay0, PyData.canLayAll0, zeg h]
theorem zcR (p : Str × Int) : (zan p).depth ≤ 3 := by
 simp [PyData.depth, PyData.depthAll]
theorem zg6 {p : Str × List Int} (h : p.1 ∈ abcd) : (zd1 p).canLay0 = true := by
 have : PyData.canLayAll0 (p.2.map .int) = true := zgp _ _ fun _ _ => rfl;simp [PyData.canLay0, PyData.canLayAll0, zeg h, this]
theorem zfl (p : Str × List Int) : (zd1 p).depth ≤ 6 := by
 have : PyData.depthAll (p.2.map .int) ≤ 1 := zft _ 1 _ fun _ _ => by simp [PyData.depth]
 simp [PyData.depth, PyData.depthAll];omega
theorem zeX (hr : ∀ ps ∈ rows, ps.length ≤ 6 ∧ ∀ p ∈ ps, p.1 ∈ abcd ∧ 0 ≤ p.2 ∧ p.2 < 9) {p : Str × Int} (h : p ∈ zab rows) : p.1 ∈ abcd :=
 zaJ hr ((zge _ _).mpr ⟨p.2, h⟩)
theorem zbP (hr : ∀ ps ∈ rows, ps.length ≤ 6 ∧ ∀ p ∈ ps, p.1 ∈ abcd ∧ 0 ≤ p.2 ∧ p.2 < 9) : shaped (.list ((zab rows).map zan)) = true :=
 za6 _ 3 _ (by decide) (fun p hp => zeK (zeX hr hp)) fun p _ => zcR p
theorem zdn (hr : ∀ ps ∈ rows, ps.length ≤ 6 ∧ ∀ p ∈ ps, p.1 ∈ abcd ∧ 0 ≤ p.2 ∧ p.2 < 9) : shaped (.list ((zaZ (zab rows)).map headD)) = true := by
 refine za6 _ 3 _ (by decide) (fun p hp => ?_) fun p _ => zcR _;obtain ⟨k, hk, rfl⟩ := mem_map.mp hp;exact zeK (zaJ hr hk)
theorem zdS (hr : ∀ ps ∈ rows, ps.length ≤ 6 ∧ ∀ p ∈ ps, p.1 ∈ abcd ∧ 0 ≤ p.2 ∧ p.2 < 9) : shaped (.list ((zaZ (zab rows)).map zd1)) = true := by
 refine za6 _ 6 _ (by decide) (fun p hp => ?_) fun p _ => zfl _;obtain ⟨k, hk, rfl⟩ := mem_map.mp hp;exact zg6 (zaJ hr hk)
theorem zbd (ns : List Int) : shaped (.list (ns.map .int)) = true :=
 za6 _ 1 _ (by decide) (fun _ _ => rfl) fun _ _ => by simp [PyData.depth]
theorem zdW {ks : List Str} (h : ∀ k ∈ ks, k ∈ abcd) : shaped (.list (ks.map .str)) = true :=
 za6 _ 1 _ (by decide) (fun k hk => by rw [PyData.canLay0]; exact zeg (h k hk)) fun _ _ => by simp [PyData.depth]
end
section
open PySem.SeqAt PySem.Spec
section
theorem zdr {kws : List Keyword} (hk : keepIn (KK w) (.ref a) = true)
  (h : wpAny (model P w) A (evalAll ((backToKw pos (keywordEach kws env)).map (·.2))) (fun ks s₂ => TopH w s₂.heap ∧ wpAny (model P w) A (call (.ref a) (first ++ []) (((backToKw pos (keywordEach kws env)).filterMap (·.1)).zip ks)) Q E s₂) E s)
  (hall : (backToKw pos (keywordEach kws env)).all (·.1.isSome) = true := by rfl) (hplain : ((backTo pos (starEach [] env)).any (·.1) || (backToKw pos (keywordEach kws env)).any (·.1.isNone)) = false := by rfl) :
  wpAny (model P w) A (callWith pos (.ref a) first (backTo pos (starEach [] env)) (backToKw pos (keywordEach kws env))) Q E s :=
 callWith_of hplain (zcV hk) (evalArgs_kw2_nil hall h)
end
section
variable {b : Nat}
theorem zbh (hr : ∀ ps ∈ rows, ps.length ≤ 6 ∧ ∀ p ∈ ps, p.1 ∈ abcd ∧ 0 ≤ p.2 ∧ p.2 < 9) : (∀ g ∈ rows.map grp, g.length ≤ 6) ∧ (∀ g ∈ rows.map grp, ∀ p ∈ g, p.2.length ≤ 6) ∧ (∀ g ∈ rows.map grp, ∀ p ∈ g, p.2 ≠ []) := by
 refine ⟨fun g q => ?_, fun g q p hp => ?_, fun g q p hp => ?_⟩
 ·obtain ⟨ps, hps, rfl⟩ := mem_map.mp q
  exact le_trans (zcU ps) (hr ps hps).1
 ·obtain ⟨ps, hps, rfl⟩ := mem_map.mp q
  exact le_trans (zcS ps p hp) (hr ps hps).1
 ·obtain ⟨ps, hps, rfl⟩ := mem_map.mp q
  rw [zaG] at hp;obtain ⟨k, hk, rfl⟩ := mem_map.mp hp;exact zaD hk
theorem zcf {Q₀ : Value → Shared → Prop} (hK : ∀ g s₁, wpAny (model P w) A (call (.type "list") [g]) Q E s₁ → Q₀ g s₁) (hA : Rm 420 A) (hh : A.handled = none) (X : LW w h₀ b h m kv st nb at_ x rows pl)
  (hQ : ∀ h' gn' tk S ys, LW w h₀ b h' m kv st nb at_ x rows pl → (zaT gn → zaT gn') → LsAt h.objs.size h' S ys ((zab rows).map zan) → Ext [] h h' → Q (.ref S) ⟨h', gn', d, tk, os⟩) :
  wpAny (model P w) A (call (.ref 508) [.ref x] [(Str.ofString "multi", .bool true)]) Q₀ E ⟨h, gn, d, t, os⟩ := by
 unhygienic
 revert hen w A E h₀ h gn d t os b st nb m kv x pl at_ rows Q Q₀;refine wpAny_mono (Q := fun g s₁ => wpAny (model P w) A (call (.type "list") [g]) Q E s₁) ?_ hK fun _ _ q => q;have T := X.top;obtain ⟨dx, dl, hsh, t', n, c, vs, es, ep, W⟩ := X.X;have low : 604 ≤ b := le_trans X.T₀.low (by have := X.hb; omega);obtain ⟨g1, g2, g3⟩ := zbh X.row;ext call;refine citems_feed (hA.mono (by decide)) T W low (fun g q => le_trans (g1 g q) (by decide)) (fun g q p hp => le_trans (g2 g q p hp) (by decide)) (fun h' tk gn' k bg feed => ?_);have F := feed A.in1.in1 [] (hA.in1.in1.mono (by decide)) hh (by simp);dsimp only at k F ⊢;rw [zd9] at F;refine zdd (hh := hh) (hA.mono (by decide)) (.inl rfl) ?_ rfl F (fun s' S ys tk' ls => ?_)
 ·rw [length_map]; have := plain_len X.nr fun ps q => (X.row ps q).1; omega
 ·obtain ⟨h2, gn2, d2, t2, os2⟩ := s'
  obtain ⟨e1, e2, rfl, rfl⟩ := tk';have e : Ext [] h h2 := Ext.p (.of_keeps k) e1 (fun a o o' e _ _ q => absurd (lt_size e) (not_lt.mpr q.1)) F.ok.gm_tabs (by simp);exact hQ h2 gn2 t2 S ys (X.ext e) (fun q => e2 fun y hy => by
   rcases mem_push.mp hy with hy | rfl
   ·exact q y hy
   ·exact bg) ls e
theorem zd4 {Q₀ : Value → Shared → Prop} (hK : ∀ g s₁, wpAny (model P w) A (call (.type "list") [g]) Q E s₁ → Q₀ g s₁) (hA : Rm 420 A) (hh : A.handled = none) (X : LW w h₀ b h m kv st nb at_ x rows pl)
  (hQ : ∀ h' gn' tk S ys, LW w h₀ b h' m kv st nb at_ x rows pl → (zaT gn → zaT gn') → LsAt h.objs.size h' S ys ((zaZ (zab rows)).map headD) → Ext [] h h' → Q (.ref S) ⟨h', gn', d, tk, os⟩) :
  wpAny (model P w) A (call (.ref 508) [.ref x] []) Q₀ E ⟨h, gn, d, t, os⟩ := by
 unhygienic
 revert hen w A E h₀ h gn d t os b st nb m kv x pl at_ rows Q Q₀;refine wpAny_mono (Q := fun g s₁ => wpAny (model P w) A (call (.type "list") [g]) Q E s₁) ?_ hK fun _ _ q => q;have T := X.top;obtain ⟨dx, dl, hsh, t', n, c, vs, es, ep, W⟩ := X.X;have low : 604 ≤ b := le_trans X.T₀.low (by have := X.hb; omega);obtain ⟨g1, g2, g3⟩ := zbh X.row;have hpl := plain_len X.nr fun ps q => (X.row ps q).1;have hdk := zdK (zab rows);ext call;refine zdv (hA.mono (by decide)) T W low (fun g q => le_trans (g1 g q) (by decide)) (fun g q p hp => le_trans (g2 g q p hp) (by decide)) g3 ?_ (fun h' tk gn' k bg feed => ?_)
 ·have := zcu zai 6 (rows.map grp) fun g q => by unfold zai; rw [length_map]; exact g1 g q
  rw [length_map] at this;have := X.nr;omega
 have F := feed A.in1.in1 [] (hA.in1.in1.mono (by decide)) hh (by simp);dsimp only at k F ⊢;rw [zdC] at F;refine zdd (hh := hh) (hA.mono (by decide)) (.inl rfl) ?_ rfl F (fun s' S ys tk' ls => ?_)
 ·rw [length_map]; unfold zaZ; rw [length_map]; omega
 ·obtain ⟨h2, gn2, d2, t2, os2⟩ := s'
  obtain ⟨e1, e2, rfl, rfl⟩ := tk';have e : Ext [] h h2 := Ext.p (.of_keeps k) e1 (fun a o o' e _ _ q => absurd (lt_size e) (not_lt.mpr q.1)) F.ok.gm_tabs (by simp);exact hQ h2 gn2 t2 S ys (X.ext e) (fun q => e2 fun y hy => by
   rcases mem_push.mp hy with hy | rfl
   ·exact q y hy
   ·exact bg) ls e
def zem : PyData → Option PyData
 | .tuple [.str k, .list (.int n :: _)] => some (.tuple [.str k, .int n])
 | _ => none
theorem zgQ (g : Grp) (h : ∀ p ∈ g, p.2 ≠ []) : (g.map zd1).filterMap zem = g.map headD := by
 induction g with
 | nil => rfl
 | cons p g ih =>
  have hp := h p (.head _);obtain ⟨k, ns⟩ := p;cases ns with
  | nil => exact absurd rfl hp
  | cons n ns =>
   rw [map_cons, filterMap_cons_some (b := headD (k, n :: ns)) (by rfl), map_cons, ih fun q m => h q (.tail _ m)]
theorem LW.bsz (X : LW w h₀ b h m kv st nb at_ x rows pl) : b ≤ h.objs.size := by
 obtain ⟨dx, dl, hsh, t', n, c, vs, es, ep, W⟩ := X.X;exact le_trans W.lx (le_of_lt (lt_size W.dd.at_))
theorem zgn {l : Addr} {p4 : Pos} {k : Nat} {ck : Nat} (hh : A.handled = none) (hk : scope.kind = .function)
  (hx : ∀ C, (zam scope cl C env).kindOf "key" = some .local) (hy : ∀ C, (zam scope cl C env).kindOf "values" = some .local) {g : Str × List Int} (hg : g.2 ≠ []) (hz : g.2.length ≤ 1000) :
  TurnOk w A (.Tuple [.Name "key" p1, .Subscript (.Name "values" p2) (.Constant (.int 0) ck p3) p4] k pos) (.Tuple [.Name "key" px, .Name "values" py] k pos) [] scope cl env s₁ l (zd1 g) zem := by
 unhygienic
 revert hen w A l s₁ cl env scope px py pos p1 p2 p3 p4 k ck g;obtain ⟨key, ns⟩ := g;dsimp only at hg hz;cases ns with
 | nil => exact absurd rfl hg
 | cons n ns =>
  refine TurnOk.pair hh hk hx hy (by decide) fun E p h' tk C mm u z hp hC kp nC fC mx my ru rz => ?_;rw [show zem (.tuple [.str key, .list ((n :: ns).map .int)]) = some (.tuple [.str key, .int n]) from rfl];refine wpAny_tests_nil ⟨rfl, ?_⟩;obtain ⟨a, vs, rfl, _, la, ia⟩ := rz.intsE;have hva : vs.size ≤ 1000 := by have := ia_len ia; rw [length_toList] at this; dsimp only at this; omega
  have hv0 : 0 < vs.size := by have := ia_len ia; rw [length_toList] at this; rw [this]; simp
  obtain ⟨tn, e0⟩ := zcF ia (i := 0) (n := n) rfl;rw [getElem?_toList] at e0;ext o.Tuple_ items_cons;refine zaa nC mx ?_ hk (hx C);ext items_cons o.Subscript_;refine zaa nC my ?_ hk (hy C);ext Constant_int;refine item_list la (by decide) (by omega) e0 ?_;ext items_nil;refine wpAny_newObj_type ?_ (by show (2 : Nat) ≤ sizeLine; decide);have kt : zaz h' (h'.push { cls := .type "tuple", data := .seq #[u, .int n tn] }) := fun b o e => get?_push_of_some _ e;refine ⟨.tup (hp _ nC.lt) ⟨_, get?_push_size _ rfl, rfl, 0, rfl⟩ rfl fun i v d e1 e2 => ?_, _, _, _, rfl, fun b o _ e => kt b o e, nC.push _⟩
  match i, e1, e2 with
  | 0, e1, e2 => cases e1; cases e2; exact ru.keep fun a o _ e => kt a o e
  | 1, e1, e2 => cases e1; cases e2; exact .int _ _
  | i + 2, e1, e2 => simp at e1
end
theorem zio {A : Around} {b : Nat} {Q : Flow → Shared → Prop} : ∀ (hA : Rm 400 A) (hh : A.handled = none) (X : LW w h₀ b h m kv st nb at_ x rows pl) (mw : m "whole" = some (.ref x)) (mp : m "plain" = some (.ref pl)) (hQ : ∀ h' gn' tk, LW w h₀ b h' m kv st nb at_ x rows pl → (zaT gn → zaT gn') → Ext [] h h' → Q .next ⟨h', gn', d, tk, os⟩), wpAny (model P w) A (exec (zat w 7) (zaq w h₀.objs.size)) Q E ⟨h, gn, d, t, os⟩ := by
 unhygienic
 revert hen w A E h₀ h gn d t os b st nb m kv x pl at_ rows Q;delta zat;ext If o.isTrue_or isTrue_Compare1;have T := X.top;ext Call_NameR;refine zae (by assumption) rfl rfl rfl (by boot_by_name) (by decide) ?_;ext o.call_bi items_cons o.methodCall_KW;refine zaa X.D.ns mw ?_;obtain ⟨dx, dl, hsh, t', n, c, vs, es, ep, W⟩ := X.X;refine zaB (f := 508) T W (by kernel_rfl) (by rfl) (by kernel_rfl) ?_;refine zdr (by rfl) ?_;ext o.kwAll_cons Constant_bool o.kwAll_nil;refine ⟨T, ?_⟩;refine zcf (fun g s₁ q => wpAny_items_nil q) (hA.mono (by decide)) hh X (fun h2 gn2 tk2 S ys X2 b2 ls e02 => ?_);have T2 := X2.top;refine zaa X2.D.ns mp ?_;obtain ⟨us, lp⟩ := X2.pl;refine zdU hA ls.rdl lp.rdl (zbP X.row) ?_;ext truthy_bool;rw [if_neg Bool.false_ne_true];clear T W ls;ext o.isTrue_or isTrue_Compare1 Call_NameR;refine zae (by assumption) rfl rfl rfl (by boot_by_name) (by decide) ?_;ext o.call_bi items_cons o.methodCall_KW;refine zaa X2.D.ns mw ?_;obtain ⟨dx, dl, hsh, t', n, c, vs, es, ep, W⟩ := X2.X;refine zaB (f := 508) T2 W (by kernel_rfl) (by rfl) (by kernel_rfl) ?_;refine za1 (by rfl) T2 ?_;refine zd4 (fun g s₁ q => wpAny_items_nil q) (hA.mono (by decide)) hh X2 (fun h3 gn3 tk3 S3 ys3 X3 b3 ls3 e23 => ?_);have T3 := X3.top;clear W lp us T2;refine zc8 (cl := []) zem hh (by rfl) rfl (by decide) (by decide) ?_;ext Call_NameR;refine zaj (by assumption) rfl (by rfl) ?_;ext o.cf;ext items_cons;refine zaa X3.D.ns mp ?_;ext items_nil;refine ⟨T3, ?_⟩;ext call;obtain ⟨us, lp⟩ := X3.pl;have hpl := plain_len X.nr fun ps q => (X.row ps q).1;refine za2 (hA.mono (by decide)) hh T3 lp (by omega) X3.bsz (fun h4 tk4 r4 us4 e4 l4 => ?_);refine ⟨r4, us4, _, h3.objs.size, rfl, l4, ?_, ?_, fun dd hd => ?_, fun h5 r5 us5 tk5 k5 l5 s5 => ?_⟩
 ·rw [length_map]; unfold zaZ; rw [length_map]; have := zdK (zab rows); omega
 ·obtain ⟨o, e, _⟩ := l4.ls; exact le_trans l4.le (le_of_lt (lt_size e))
 ·obtain ⟨g, hg, rfl⟩ := mem_map.mp hd
  obtain ⟨k, hk, rfl⟩ := mem_map.mp hg;refine zgn hh rfl (fun _ => by rfl) (fun _ => by rfl) (zaD hk) ?_;have : (zaf (zab rows) k).length ≤ (zab rows).length := by unfold zaf; rw [length_map]; exact List.length_filter_le _ _
  dsimp only; omega
 ·rw [zgQ _ fun p hp => by obtain ⟨k, hk, rfl⟩ := mem_map.mp hp; exact zaD hk] at l5
  dsimp only at k5;have e5 : Ext [] h3 h5 := e4.and (.of_keeps k5);refine zdU hA (ls3.rdl.ext0 e5) l5.rdl (zdn X.row) ?_;ext truthy_bool d;rw [if_neg Bool.false_ne_true];ext o.isTrue_or_nil;rw [if_neg Bool.false_ne_true];ext execs_nil;exact hQ h5 gn3 tk5 (X3.ext e5) (fun q => b3 (b2 q)) (e02.and (e23.and e5))
end
section
def comp_view.ST (w : World) (A : Around) (E : Value → Shared → Prop) (s : Shared) (env : Env) (iter : Expr) (scope : Scope) (px py p1 p2 pos pos2 pos3 : Pos) (k1 k2 : Nat) (Q : Value → Shared → Prop) : Prop :=
 ∀ (hh : A.handled = none) (hclos : closureFor scope env = pure []) (hkind : scope.kind = .function) (hcell : ∀ x ∈ scope.names, x.2 ≠ .cell) (hnames : ∀ x ∈ scope.names, x.2 = .local → scope.names.lookup x.1 = some .local) (hx : ∀ C, (zam scope [] C env).kindOf "key" = some .local) (hy : ∀ C, (zam scope [] C env).kindOf "values" = some .local) (h : wpAny (model P w) A (eval iter env) (fun xv s₁ => ∃ v rv Cv dx kvs es ep g b, xv = .ref v ∧ s₁.heap.get? v = some (zbU rv) ∧ DD w s₁.heap rv Cv dx kvs es ep ∧ GL b s₁.heap kvs g ∧ kvs.length ≤ 900 ∧ b ≤ s₁.heap.objs.size ∧
   ∀ h' r us tk, zaz s₁.heap h' → LsAt b h' r us (g.map zd1) → Q (.ref r) ⟨h', s₁.gens, s₁.drawn, tk, s₁.os⟩) E s) (hs : ∀ x, foldedSetIterable iter env x = pure x := by intro _; rfl), wpAny (model P w) A (eval (.ListComp (.Tuple [.Name "key" p1, .Name "values" p2] k1 pos) [⟨.Tuple [.Name "key" px, .Name "values" py] k2 pos2, iter, [], 0⟩] scope pos3) env) Q E s
def comp_view.CT := hen ((U<|U<|U<|U<|U<|U<|U<|U<|U<|U<|U<|U<|U<|U<|U<|U<|I0) comp_view.ST) (dW, dA, fun _ _ => True, dS, default, default, default, default, default, default, default, default, default, default, 0, 0, fun _ _ => True)
def comp_view.sK := comp_view.CT.2.2.2.1
def comp_view.envK := comp_view.CT.2.2.2.2.1
def comp_view.scopeK := comp_view.CT.2.2.2.2.2.2.1
theorem comp_view.core : ST CT.1 CT.2.1 CT.2.2.1 sK envK CT.2.2.2.2.2.1 scopeK CT.2.2.2.2.2.2.2.1 CT.2.2.2.2.2.2.2.2.1 CT.2.2.2.2.2.2.2.2.2.1 CT.2.2.2.2.2.2.2.2.2.2.1 CT.2.2.2.2.2.2.2.2.2.2.2.1 CT.2.2.2.2.2.2.2.2.2.2.2.2.1 CT.2.2.2.2.2.2.2.2.2.2.2.2.2.1 CT.2.2.2.2.2.2.2.2.2.2.2.2.2.2.1 CT.2.2.2.2.2.2.2.2.2.2.2.2.2.2.2.1 CT.2.2.2.2.2.2.2.2.2.2.2.2.2.2.2.2 := by
 unhygienic
 intro hh hclos hkind hcell hnames hx hy h hs;refine zcI hclos hkind hcell hnames ?_ hs;refine wpAny_mono h (fun x s₁ z => ?_) fun _ _ z => z;obtain ⟨v, rv, Cv, dx, kvs, es, ep, g, b, rfl, hv, Dr, Gr, hz, hb, fin⟩ := z;clear h;obtain ⟨h1, g1, d1, t1, o1⟩ := s₁;dsimp only at hv Dr Gr hb fin ⊢;revert hen v rv Cv dx kvs es ep g b h1 g1 d1 t1 o1;refine za4 hv Dr (by omega) ?_
 haveI fit : h1.get? h1.objs.size = none := zac (le_refl _)
 haveI kit : zaz h1 (h1.push { cls := .type "dict_itemiterator", data := .fields #[.none, .bool false, .ref rv, .int 0 0, .int kvs.length 0, .int ep 0, .none, .none] }) := fun _ _ e => get?_push_of_some _ e
 haveI hit : IsItemIter (h1.push { cls := .type "dict_itemiterator", data := .fields #[.none, .bool false, .ref rv, .int 0 0, .int kvs.length 0, .int ep 0, .none, .none] }) h1.objs.size rv 0 kvs.length ep .none .none := get?_push_size _ rfl
 haveI lit : h1.objs.size < (h1.push { cls := .type "dict_itemiterator", data := .fields #[.none, .bool false, .ref rv, .int 0 0, .int kvs.length 0, .int ep 0, .none, .none] }).objs.size := by rw [size_push]; exact lt_succ_self _
 generalize h1.push { cls := .type "dict_itemiterator", data := .fields #[.none, .bool false, .ref rv, .int 0 0, .int kvs.length 0, .int ep 0, .none, .none] } = h2 at kit hit lit ⊢;obtain ⟨it, eit⟩ : ∃ it, it = h1.objs.size := ⟨_, rfl⟩;rw [← eit] at fit hit lit ⊢;refine ⟨fun E' Q' h' k tk q => kcp_self (s := ⟨h', _, _, _, _⟩) (it := it) (k _ _ hit) q, fun h5 C tk k5 eacc hC nC => ?_⟩;dsimp only at k5 eacc hC ⊢;obtain ⟨acc, ea⟩ : ∃ acc, acc = h2.objs.size := ⟨_, rfl⟩;rw [← ea] at lit eacc hC ⊢
 haveI aC : acc < C := by rw [hC]; exact lt_succ_self _
 haveI iC : it < C := lt_trans lit aC
 have bit : b ≤ it := by rw [eit]; exact hb
 haveI lacc : h1.objs.size ≤ acc := by rw [← eit]; exact le_of_lt lit
 haveI facc : h1.get? acc = none := zac lacc
 haveI fC : h1.get? C = none := zac (le_trans lacc (le_of_lt aC))
 letI kit : zaz h1 h5 := fun x o e => k5 x o (kit x o e)
 letI hit : IsItemIter h5 it rv 0 kvs.length ep .none .none := k5 _ _ hit
 clear k5 ea hC eit h2;have hp : ∀ x, C < x → b ≤ x ∧ x ≠ it ∧ x ≠ acc ∧ x ≠ C := fun x l =>
  ⟨le_trans bit (le_of_lt (lt_trans iC l)), ne_of_gt (lt_trans iC l), ne_of_gt (lt_trans aC l), ne_of_gt l⟩
 have old : ∀ x o, b ≤ x → h1.get? x = some o → b ≤ x ∧ x ≠ it ∧ x ≠ acc ∧ x ≠ C := fun x o l e =>
  ⟨l, fun q => (by rw [q, fit] at e; cases e), fun q => (by rw [q, facc] at e; cases e), fun q => (by rw [q, fC] at e; cases e)⟩
 have gl : g.length = kvs.length := Gr.len.symm;revert hen it h5 C tk acc;refine opq (p := fun (n : Nat) (s' : Shared) => ∃ (i : Nat), ∃ h' tk' mC ys ny ok ov, n + i = kvs.length ∧ s' = ⟨h', g1, d1, tk', o1⟩ ∧ zaz h1 h' ∧ h'.Ns C mC ∧ IsItemIter h' it rv i kvs.length ep ok ov ∧ h'.get? acc = some (zad ys ny) ∧ ys.size ≤ i ∧ RowP (fun x => b ≤ x ∧ x ≠ it ∧ x ≠ acc ∧ x ≠ C) h' ys ((g.take i).map zd1)) fun Iv1 hin1 hout1 => ?_;revert hen Iv1;refine zbi Iv1 ?_ kvs.length (hin1 _ _ ?_)
 rotate_left
 ·exact ⟨0, h5, tk, _, #[], 0, _, _, by omega, rfl, kit, nC, hit, eacc, le_refl _, .nil⟩
 clear kit nC hit eacc;intro n s' hI;obtain ⟨i, h', tk', mC, ys, ny, ok, ov, hn, rfl, kit, nC, hit, ey, sy, row⟩ := hout1 _ _ hI;clear hI;have keepE : ∀ {c : Addr} {h' h'' : Heap}, h1.get? c = none → zaz h1 h' → Heap.ExtBut c h' h'' → zaz h1 h'' := fun fc k he x o e => he x o (fun q => by rw [q, fc] at e; cases e) (k x o e);have D' := Dr.keeps kit;cases n with
 | zero =>
  refine zaC hh hit D' (by omega) (fun h4 he => ?_);replace kit := keepE fit kit he;have nC4 : h4.Ns C mC := let ⟨o, es, ep, q, r⟩ := nC; ⟨o, es, ep, he _ _ (ne_of_gt iC) q, r⟩
  replace ey := he _ _ (ne_of_gt lit) ey;replace row := row.same he (fun q => q.2.1 rfl);ext d;refine ⟨mC, nC4, fun h6 sb6 => ?_⟩;replace kit := keepE fC kit sb6.extBut;replace ey := sb6.extBut _ _ (ne_of_lt aC) ey
  letI row := row.same sb6.extBut (fun q => q.2.2.2 rfl)
  rw [take_of_length_le (by omega)] at row;exact fin _ _ _ _ kit ((row.rd fun x q => q.1).at ey (le_trans hb lacc))
 | succ n =>
  obtain ⟨kk, vv, ekv⟩ : ∃ k v, kvs[i]? = some (k, v) := have hik : i < kvs.length := (by omega); ⟨_, _, getElem?_eq_getElem hik⟩;obtain ⟨ns, la, eg, ev, hla, va, na, ela, ia⟩ := Gr.at_ i kk vv ekv;have hva : va.size = ns.length := by have := ia_len ia; rwa [length_toList] at this
  have nt : it ≠ h'.objs.size := ne_of_lt (lt_size hit);revert hen i h' tk' mC ys ny ok ov n ns la va na kk vv;refine zbD (k := kk) (v := vv) hit D' ekv (fun tk h4 hout htup kb => ?_);have tup4 : h4.get? h'.objs.size = some { cls := .type "tuple", data := .seq #[.str kk tk, vv] } := htup;replace kit : zaz h1 h4 := fun x o e => kb x o (fun q => by rw [q, fit] at e; cases e) (kit x o e);replace nC : h4.Ns C mC := let ⟨o, es, ep, q, r⟩ := nC; ⟨o, es, ep, kb _ _ (ne_of_gt iC) q, r⟩
  replace ey := kb _ _ (ne_of_gt lit) ey;replace row := row.keep (h' := h4) fun a o q e => kb a o q.2.1 e;ext d;refine wpAny_letOwnedTupleGo_items hout (fun h6 hit6 sb6 => ?_);have tup6 : IsTup h6 h'.objs.size #[.str kk tk, vv] := ⟨_, (sb6.2 _ (Ne.symm nt)).trans tup4, rfl, 0, rfl⟩;replace kit := keepE fit kit sb6.extBut;replace nC := nC.sameBut sb6 (ne_of_gt iC);replace ey := sb6.extBut _ _ (ne_of_gt lit) ey;replace row := row.same sb6.extBut (fun q => q.2.1 rfl);ext d;refine assign_Tuple_tuple hh tup6 rfl rfl (fun h7 he7 => ?_);dsimp only at he7 ⊢
  haveI hk' : ((zam scopeK [] C envK).scope.kind == .class || ((zam scopeK [] C envK).scope.kind == .module && (zam scopeK [] C envK).locals != (zam scopeK [] C envK).globals)) = false := by
   show (scopeK.kind == .class || (scopeK.kind == .module && _)) = false;rw [hkind]; rfl
  haveI e7 : zaz h6 h7 := fun b o q => he7 b o (ne_of_lt (lt_size q)) q
  replace nC : h7.Ns C mC := let ⟨o, es, ep, q, r⟩ := nC; ⟨o, es, ep, e7 _ _ q, r⟩
  replace kit : zaz h1 h7 := fun x o e => e7 x o (kit x o e);replace ey := e7 _ _ ey;replace row := row.keep (h' := h7) fun a o _ e => e7 a o e;have hit7 : IsItemIter h7 it rv (i + 1) kvs.length ep (.str kk tk) vv := e7 _ _ hit6;clear e7 he7 hit6 tup6 sb6 hout htup tup4 kb hit D' h6 h4 nt;ext assignInOrder_more assign_Name;refine wpAny_storeName_local (s := ⟨h7, _, _, _, _⟩) (hx C) nC (fun h8 n8 s8 => ?_) hk';dsimp only at n8 s8 ⊢;replace kit := keepE fC kit s8.extBut;replace ey := s8.extBut _ _ (ne_of_lt aC) ey;replace row := row.same s8.extBut (fun q => q.2.2.2 rfl);have hit8 : IsItemIter h8 it rv (i + 1) kvs.length ep (.str kk tk) vv := s8.extBut _ _ (ne_of_lt iC) hit7;clear s8 hit7 nC h7;ext assignInOrder_more assign_Name;refine wpAny_storeName_local (s := ⟨h8, _, _, _, _⟩) (hy C) n8 (fun h9 n9 s9 => ?_) hk';dsimp only at n9 s9 ⊢;replace kit := keepE fC kit s9.extBut;replace ey := s9.extBut _ _ (ne_of_lt aC) ey;replace row := row.same s9.extBut (fun q => q.2.2.2 rfl);have hit9 : IsItemIter h9 it rv (i + 1) kvs.length ep (.str kk tk) vv := s9.extBut _ _ (ne_of_lt iC) hit8;clear s9 hit8 n8 h8;ext assignInOrder_none tests_nil;rw [if_pos rfl];ext o.Tuple_ items_cons;refine zaa n9 ((if_neg (by decide)).trans (if_pos (by decide))) ?_ hkind (hx C);ext items_cons;refine zaa n9 ((if_pos (by decide))) ?_ hkind (hy C);ext items_nil;refine wpAny_newObj_type ?_ (by show (2 : Nat) ≤ sizeLine; decide)
  haveI kt : zaz h9 (h9.push { cls := .type "tuple", data := .seq #[.str kk tk, vv] }) := fun b o e => get?_push_of_some _ e
  haveI et : (h9.push { cls := .type "tuple", data := .seq #[.str kk tk, vv] }).get? h9.objs.size = some { cls := .type "tuple", data := .seq #[.str kk tk, vv] } := get?_push_size _ rfl
  haveI lt : C < h9.objs.size := n9.lt
  letI kit : zaz h1 (h9.push { cls := .type "tuple", data := .seq #[.str kk tk, vv] }) := fun x o e => kt x o (kit x o e)
  letI ey := kt _ _ ey
  letI row := row.keep fun a o _ e => kt a o e
  haveI n10 := n9.push { cls := .type "tuple", data := .seq #[.str kk tk, vv] }
  haveI hit10 := kt _ _ hit9
  ext d;generalize h9.objs.size = ta at et lt ⊢;generalize h9.push { cls := .type "tuple", data := .seq #[.str kk tk, vv] } = h10 at kit ey row n10 hit10 et ⊢;clear kt n9 hit9 h9;have ru : RdP (fun x => b ≤ x ∧ x ≠ it ∧ x ≠ acc ∧ x ≠ C) h10 (.ref ta) (zd1 (kk, ns)) := by
   refine .tup (hp _ lt) ⟨_, et, rfl, 0, rfl⟩ rfl fun i' v' d' e1 e2 => ?_
   match i', e1, e2 with
   | 0, e1, e2 => cases e1; cases e2; exact .str _ _
   | 1, e1, e2 =>
    cases e1; cases e2;rw [ev];exact .list (old _ _ hla ela) ⟨_, kit _ _ ela, rfl, na, rfl⟩ (by rw [length_map]; exact hva) fun i v d e1 e2 => zgd ia (by rwa [getElem?_toList]) e2
   | n + 2, e1, e2 => simp at e1
  replace row := row.snoc ru;refine zao ey (by omega) (fun h11 n11 e11 sb11 => ?_);ext d;refine ⟨n, lt_succ_self n, hin1 _ _ (xi8 (i + 1) h11 _ _ (ys.push (.ref ta)) n11 _ _ ⟨by omega, rfl, keepE facc kit sb11.extBut, n10.sameBut sb11 (ne_of_gt aC), sb11.extBut _ _ (ne_of_lt lit) hit10, e11, by rw [Array.size_push]; omega, ?_⟩)⟩;have tk1 : g.take (i + 1) = g.take i ++ [(kk, ns)] := by rw [take_succ, eg]; rfl
  rw [tk1, map_append];exact row.same sb11.extBut (fun q => q.2.2.1 rfl)
theorem comp_view {w A E s env iter scope px py p1 p2 pos pos2 pos3 k1 k2 Q} : comp_view.ST w A E s env iter scope px py p1 p2 pos pos2 pos3 k1 k2 Q := @hen_all _ _ ((U<|U<|U<|U<|U<|U<|U<|U<|U<|U<|U<|U<|U<|U<|U<|U<|I0) comp_view.ST) @comp_view.core (w, A, E, s, env, iter, scope, px, py, p1, p2, pos, pos2, pos3, k1, k2, Q)
end
section
section
theorem zcJ {scope : Scope} {y : Str} {spos : Pos} {Q : Flow → Shared → Prop} (hsw : swapsWith (.ListComp elt [⟨target, iter, ifs, 0⟩] scope pos) (some (.Name y py)) spos.line env = pure true) (hclos : closureFor scope env = pure cl)
  (hkind : scope.kind = .function) (hcell : ∀ x ∈ scope.names, x.2 ≠ .cell) (hnames : ∀ x ∈ scope.names, x.2 = .local → scope.names.lookup x.1 = some .local)
  (h : wpAny (model P w) A (eval iter env) (fun x s₁ => wpAny (model P w) A (pyIter x) (fun it s₂ =>
   (∀ (E' : Value → Shared → Prop) (Q' : Value → Shared → Prop) h', (∀ b o, s₂.heap.get? b = some o → h'.get? b = some o) → ∀ tk, Q' it { s₂ with heap := h', toks := tk } → wpAny (model P w) A (pyIter it) Q' E' { s₂ with heap := h', toks := tk }) ∧
   ∀ h' C tk, (∀ b o, s₂.heap.get? b = some o → h'.get? b = some o) → h'.get? s₂.heap.objs.size = some (zad #[] 0) → C = s₂.heap.objs.size + 1 → h'.Ns C (fun _ => none) →
    codeAny (model P w) A (.compLoop (.ListComp elt [⟨target, iter, ifs, 0⟩] scope pos) 0 it (.ref s₂.heap.objs.size) (zam scope cl C env))
     (fun r s' => match r with | .ok _ => wpAny (model P w) A (assign (.Name y py) env (.ref s₂.heap.objs.size)) (fun _ s'' => ∃ m, s''.heap.Ns C m ∧ ∀ h', Heap.SameBut C s''.heap h' → Q .next { s'' with heap := h' }) E s' | .error _ => False) { s₂ with heap := h', toks := tk }) E s₁) E s)
  (hs : ∀ x, foldedSetIterable iter env x = pure x := by intro _; rfl) :
  wpAny (model P w) A (exec (.Assign [.Name y py] (.ListComp elt [⟨target, iter, ifs, 0⟩] scope pos) spos) env) Q E s := by
 unhygienic
 revert hen w A E s env elt target iter ifs scope pos cl y py spos Q;rw [exec_Assign_Name_used _ _ _ _ hsw];refine wpAny_bind (wpAny_standAt (wpAny_bind ?_));show wpAny _ A (do let _ ← comprehension (.ListComp elt [⟨target, iter, ifs, 0⟩] scope pos) scope env _ (newList []) false (eval iter env) (some (assign (.Name y py) env))) _ _ s;refine wpAny_bind (wpAny_mono (Q := fun _ s' => Q .next s') ?_ (fun _ s' hq => wpAny_pure (wpAny_pure hq)) fun _ _ e => e);refine wpAny_comprehension_free (use := some (assign (.Name y py) env)) (Q := fun _ s' => Q .next s') rfl hs hclos hkind hnames ?_;refine wpAny_mono h (fun x s₁ h₁ => wpAny_mono h₁ (fun it s₂ h₂ => ?_) fun _ _ z => z) fun _ _ z => z;obtain ⟨hi, hl⟩ := h₂;ext newList;refine wpAny_newFunctionEnv hcell (fun _ q => (nomatch q)) (fun h' hn hsb => ?_) hkind;have k1 : ∀ b o, s₂.heap.get? b = some o → (s₂.heap.push (zad #[] 0)).get? b = some o := fun b o e => get?_push_of_some _ e;have hsz : (s₂.heap.push (zad #[] 0)).objs.size = s₂.heap.objs.size + 1 := size_push ..;dsimp only at hn hsb ⊢;have hn' : h'.Ns (s₂.heap.objs.size + 1) (fun _ => none) := by have := hn; rw [show ([] : List Value).toArray = #[] from rfl, hsz] at this; exact this
 have k2 : ∀ b o, (s₂.heap.push (zad #[] 0)).get? b = some o → h'.get? b = some o := fun b o e => hsb.extBut b o (ne_of_lt (lt_size e)) (get?_push_of_some _ e);have k := fun b o e => k2 b o (k1 b o e);have ea : h'.get? s₂.heap.objs.size = some (zad #[] 0) := k2 _ _ (get?_push_size _ rfl);have loop := hl h' (s₂.heap.objs.size + 1) s₂.toks k ea rfl hn';have fin : codeAny (model P w) A (.compLoop (.ListComp elt [⟨target, iter, ifs, 0⟩] scope pos) 0 it (.ref s₂.heap.objs.size) (zam scope cl (s₂.heap.objs.size + 1) env)) (compPost (model P w) A E (some (assign (.Name y py) env)) (fun _ s' => Q .next s') (.ref s₂.heap.objs.size) (s₂.heap.objs.size + 1)) { s₂ with heap := h' } := by
  refine codeAny_mono loop fun r s' z => ?_;cases r with
  | ok f => exact z
  | error e => exact z.elim
 rw [show ([] : List Value).toArray = #[] from rfl, hsz];refine codeAny_compStart_list fin (hi _ _ h' k s₂.toks fin)
end
def comp_rdA.ST (w : World) (A : Around) (E : Value → Shared → Prop) (s : Shared) (env : Env) (elt target iter : Expr) (ifs : List Expr) (scope : Scope) (pos : Pos) (cl : List (Str × Addr)) (y : Str) (py spos : Pos) (L : Addr) (mL : Str → Option Value) (Q : Flow → Shared → Prop) (f : PyData → Option PyData) : Prop :=
 ∀ (hh : A.handled = none) (hsw : swapsWith (.ListComp elt [⟨target, iter, ifs, 0⟩] scope pos) (some (.Name y py)) spos.line env = pure true) (hy : env.kindOf y = some .local) (hek : env.scope.kind = .function) (hL : env.locals = L) (hclos : closureFor scope env = pure cl) (hkind : scope.kind = .function) (hcell : ∀ x ∈ scope.names, x.2 ≠ .cell) (hnames : ∀ x ∈ scope.names, x.2 = .local → scope.names.lookup x.1 = some .local) (h : wpAny (model P w) A (eval iter env) (fun x s₁ => ∃ a vs ds b, x = .ref a ∧ LsAt b s₁.heap a vs ds ∧ ds.length ≤ 1000 ∧ b ≤ s₁.heap.objs.size ∧ (∀ d ∈ ds, TurnOk w A elt target ifs scope cl env s₁ a d f) ∧
   L < b ∧ s₁.heap.Ns L mL ∧ ∀ h' r us tk, (∀ c o, c ≠ L → s₁.heap.get? c = some o → h'.get? c = some o) → h'.Ns L (fun z => if z = y then some (.ref r) else mL z) → LsAt b h' r us (ds.filterMap f) → s₁.heap.objs.size ≤ r → Q .next ⟨h', s₁.gens, s₁.drawn, tk, s₁.os⟩) E s) (hs : ∀ x, foldedSetIterable iter env x = pure x := by intro _; rfl), wpAny (model P w) A (exec (.Assign [.Name y py] (.ListComp elt [⟨target, iter, ifs, 0⟩] scope pos) spos) env) Q E s
def comp_rdA.CT := hen ((U<|U<|U<|U<|U<|U<|U<|U<|U<|U<|U<|U<|U<|U<|U<|U<|U<|U<|I0) comp_rdA.ST) (dW, dA, fun _ _ => True, dS, default, default, default, default, [], default, default, [], "", default, default, 0, fun _ => none, fun _ _ => True, fun _ => none)
def comp_rdA.EK := comp_rdA.CT.2.2.1
def comp_rdA.sK := comp_rdA.CT.2.2.2.1
def comp_rdA.LK := comp_rdA.CT.2.2.2.2.2.2.2.2.2.2.2.2.2.2.2.1
def comp_rdA.mLK := comp_rdA.CT.2.2.2.2.2.2.2.2.2.2.2.2.2.2.2.2.1
def comp_rdA.fK := comp_rdA.CT.2.2.2.2.2.2.2.2.2.2.2.2.2.2.2.2.2.2
theorem comp_rdA.core : ST CT.1 CT.2.1 EK sK CT.2.2.2.2.1 CT.2.2.2.2.2.1 CT.2.2.2.2.2.2.1 CT.2.2.2.2.2.2.2.1 CT.2.2.2.2.2.2.2.2.1 CT.2.2.2.2.2.2.2.2.2.1 CT.2.2.2.2.2.2.2.2.2.2.1 CT.2.2.2.2.2.2.2.2.2.2.2.1 CT.2.2.2.2.2.2.2.2.2.2.2.2.1 CT.2.2.2.2.2.2.2.2.2.2.2.2.2.1 CT.2.2.2.2.2.2.2.2.2.2.2.2.2.2.1 LK mLK CT.2.2.2.2.2.2.2.2.2.2.2.2.2.2.2.2.2.1 fK := by
 unhygienic
 intro hh hsw hy hek hL hclos hkind hcell hnames h hs;refine zcJ hsw hclos hkind hcell hnames ?_ hs;refine wpAny_mono h (fun x s₁ z => ?_) fun _ _ z => z;obtain ⟨a, vs, ds, b, rfl, hl, hz, hb, turn, hLb, nL, fin⟩ := z;clear h;obtain ⟨h1, g1, d1, t1, o1⟩ := s₁;dsimp only at hl hb turn nL fin ⊢;revert hen a vs ds b h1 g1 d1 t1 o1;refine wpAny_pyIter_list hl.ls ?_
 haveI fit : h1.get? h1.objs.size = none := zac (le_refl _)
 haveI kit : zaz h1 (h1.push { cls := .type "list_iterator", data := .fields #[.ref a, .int 0 0] }) := fun _ _ e => get?_push_of_some _ e
 haveI hit : (h1.push { cls := .type "list_iterator", data := .fields #[.ref a, .int 0 0] }).IsListIter h1.objs.size a 0 := ⟨_, get?_push_size _ rfl, rfl, rfl⟩
 haveI lit : h1.objs.size < (h1.push { cls := .type "list_iterator", data := .fields #[.ref a, .int 0 0] }).objs.size := by rw [size_push]; exact lt_succ_self _
 generalize h1.push { cls := .type "list_iterator", data := .fields #[.ref a, .int 0 0] } = h2 at kit hit lit ⊢;obtain ⟨it, eit⟩ : ∃ it, it = h1.objs.size := ⟨_, rfl⟩;rw [← eit] at fit hit lit ⊢;revert hen h2 it;refine ⟨fun E' Q' h' k tk q => wpAny_pyIter_listiter (s := ⟨h', _, _, _, _⟩) (hit.at fun o e => k _ _ e) q, fun h5 C tk k5 eacc hC nC => ?_⟩;dsimp only at k5 eacc hC ⊢;obtain ⟨acc, ea⟩ : ∃ acc, acc = h2.objs.size := ⟨_, rfl⟩;rw [← ea] at lit eacc hC ⊢
 haveI aC : acc < C := by rw [hC]; exact lt_succ_self _
 haveI iC : it < C := lt_trans lit aC
 have bit : b ≤ it := by rw [eit]; exact hb
 haveI lacc : h1.objs.size ≤ acc := by rw [← eit]; exact le_of_lt lit
 haveI facc : h1.get? acc = none := zac lacc
 haveI fC : h1.get? C = none := zac (le_trans lacc (le_of_lt aC))
 letI kit : zaz h1 h5 := fun x o e => k5 x o (kit x o e)
 letI hit : h5.IsListIter it a 0 := hit.at fun o e => k5 _ _ e
 clear k5 ea hC eit;have hp : ∀ x, C < x → b ≤ x ∧ x ≠ it ∧ x ≠ acc ∧ x ≠ C := fun x l =>
  ⟨le_trans bit (le_of_lt (lt_trans iC l)), ne_of_gt (lt_trans iC l), ne_of_gt (lt_trans aC l), ne_of_gt l⟩
 have old : ∀ x o, b ≤ x → h1.get? x = some o → b ≤ x ∧ x ≠ it ∧ x ≠ acc ∧ x ≠ C := fun x o l e =>
  ⟨l, fun q => (by rw [q, fit] at e; cases e), fun q => (by rw [q, facc] at e; cases e), fun q => (by rw [q, fC] at e; cases e)⟩
 haveI lsat : ∀ h', zaz h1 h' → h'.IsList a vs := fun h' k => let ⟨o, e, r⟩ := hl.ls; ⟨o, k _ _ e, r⟩
 revert hen h5 C tk acc;refine opq (p := fun (n : Nat) (s' : Shared) => ∃ (i : Nat), ∃ h' tk' mC ys ny, n + i = ds.length ∧ s' = ⟨h', g1, d1, tk', o1⟩ ∧ zaz h1 h' ∧ h'.Ns C mC ∧ h'.IsListIter it a i ∧ h'.get? acc = some (zad ys ny) ∧ ys.size ≤ i ∧ RowP (fun x => b ≤ x ∧ x ≠ it ∧ x ≠ acc ∧ x ≠ C) h' ys ((ds.take i).filterMap fK)) fun Iv1 hin1 hout1 => ?_;revert hen Iv1;refine zbi Iv1 ?_ ds.length (hin1 _ _ ?_)
 rotate_left
 ·exact ⟨0, h5, tk, _, #[], 0, by omega, rfl, kit, nC, hit, eacc, le_refl _, .nil⟩
 clear kit nC hit eacc;intro n s' hI;obtain ⟨i, h', tk', mC, ys, ny, hn, rfl, kit, nC, hit, ey, sy, row⟩ := hout1 _ _ hI;clear hI;have keepE : ∀ {c : Addr} {h' h'' : Heap}, h1.get? c = none → zaz h1 h' → Heap.ExtBut c h' h'' → zaz h1 h'' := fun fc k he x o e => he x o (fun q => by rw [q, fc] at e; cases e) (k x o e);cases n with
 | zero =>
  revert hen i h' tk' mC ys ny;refine wpAny_pyNext_list_end hh hit (lsat _ kit) (by rw [Array.getElem?_eq_none_iff, hl.sz]; omega) (fun h4 he => ?_)
  letI kit := keepE fit kit he
  have nC4 : h4.Ns C mC := let ⟨o, es, ep, q, r⟩ := nC; ⟨o, es, ep, he _ _ (ne_of_gt iC) q, r⟩
  replace ey := he _ _ (ne_of_gt lit) ey;replace row := row.same he (fun q => q.2.1 rfl);ext d;have nL4 : h4.Ns LK mLK := let ⟨o, es, ep, q, r⟩ := nL; ⟨o, es, ep, kit _ _ q, r⟩
  ext assign_Name;refine wpAny_storeName_local hy (hL ▸ nL4) (fun hS nS sS => ?_) (by rw [hek]; rfl);rw [hL] at nS sS
  haveI LC : LK ≠ C := fun q => by obtain ⟨o, _, _, e, _⟩ := nL; rw [q, fC] at e; cases e
  have La : LK ≠ acc := fun q => by obtain ⟨o, _, _, e, _⟩ := nL; rw [q, facc] at e; cases e
  refine ⟨mC, nC4.sameBut sS (Ne.symm LC), fun h6 sb6 => ?_⟩;dsimp only at sS sb6 ⊢;have nL6 := nS.sameBut sb6 LC;replace kit : ∀ c o, c ≠ LK → h1.get? c = some o → h6.get? c = some o := fun c o n e => sb6.extBut _ _ (fun q => by rw [q, fC] at e; cases e) (sS.extBut _ _ n (kit _ _ e));replace ey := sb6.extBut _ _ (ne_of_lt aC) (sS.extBut _ _ (Ne.symm La) ey)
  letI row := (row.same sS.extBut (fun q => absurd q.1 (not_le.mpr hLb))).same sb6.extBut (fun q => q.2.2.2 rfl)
  rw [take_of_length_le (by omega)] at row;exact fin _ _ _ _ kit nL6 ((row.rd fun x q => q.1).at ey (le_trans hb lacc)) lacc
 | succ n =>
  haveI hi : i < ds.length := by omega
  haveI hiv : i < vs.size := by rw [hl.sz]; exact hi
  revert hen i h' tk' mC ys ny n;refine wpAny_pyNext_list_item hit (lsat _ kit) (Array.getElem?_eq_getElem hiv) (fun h4 hit4 sb4 => ?_);have rv := ((hl.rd i vs[i] ds[i] (Array.getElem?_eq_getElem hiv) (getElem?_eq_getElem hi)).toP old).keep (h' := h') fun x o _ e => kit x o e;replace rv := rv.same sb4.extBut (fun q => q.2.1 rfl)
  letI kit := keepE fit kit sb4.extBut
  replace nC := nC.sameBut sb4 (ne_of_gt iC)
  letI ey := sb4.extBut _ _ (ne_of_gt lit) ey
  letI row := row.same sb4.extBut (fun q => q.2.1 rfl)
  ext d;clear sb4 hit;have t := fun EK => turn ds[i] (getElem_mem hi) EK _ h4 tk' C mC it (i + 1) vs[i] hp (fun q => q.2.2.2 rfl) kit hit4 nC fC rv
  haveI tk1 : ds.take (i + 1) = ds.take i ++ [ds[i]] := by rw [List.take_add_one, getElem?_eq_getElem hi]; rfl
  refine wpAny_mono (t _) (fun _ s1 z1 => wpAny_mono z1 (fun _ s2 z2 => wpAny_mono z2 (fun ok s3 z3 => ?_) (fun _ _ q => q)) (fun _ _ q => q)) (fun _ _ q => q);clear t z1 z2 turn;cases hf : fK ds[i] with
  | none =>
   rw [hf] at z3;obtain ⟨rfl, h6, tk6, m6, rfl, he6, n6⟩ := z3;rw [if_neg Bool.false_ne_true];refine ⟨n, lt_succ_self n, hin1 _ _ (xi6 (i + 1) h6 tk6 m6 ys ny ⟨by omega, rfl, keepE fC kit he6, n6, hit4.at fun o e => he6 _ _ (ne_of_lt iC) e, he6 _ _ (ne_of_lt aC) ey, by omega, ?_⟩)⟩;rw [tk1, List.filterMap_append, List.filterMap_cons_none hf, filterMap_nil, append_nil];exact row.same he6 (fun q => q.2.2.2 rfl)
  | some d' =>
   rw [hf] at z3;obtain ⟨rfl, z4⟩ := z3;rw [if_pos rfl];refine wpAny_mono z4 (fun u s4 z5 => ?_) (fun _ _ q => q);obtain ⟨ru, h6, tk6, m6, rfl, he6, n6⟩ := z5;dsimp only at ru;replace row := (row.same he6 (fun q => q.2.2.2 rfl)).snoc ru;refine zao (he6 _ _ (ne_of_lt aC) ey) (by omega) (fun h7 n7 e7 sb7 => ?_);ext d;refine ⟨n, lt_succ_self n, hin1 _ _ (xi6 (i + 1) h7 tk6 m6 (ys.push u) n7 ⟨by omega, rfl, keepE facc (keepE fC kit he6) sb7.extBut, n6.sameBut sb7 (ne_of_gt aC), hit4.at fun o e => sb7.extBut _ _ (ne_of_lt lit) (he6 _ _ (ne_of_lt iC) e), e7, by rw [Array.size_push]; omega, ?_⟩)⟩;rw [tk1, List.filterMap_append, filterMap_cons_some hf, filterMap_nil];exact row.same sb7.extBut (fun q => q.2.2.1 rfl)
theorem comp_rdA {w A E s env elt target iter ifs scope pos cl y py spos L mL Q} (f) : comp_rdA.ST w A E s env elt target iter ifs scope pos cl y py spos L mL Q f := @hen_all _ _ ((U<|U<|U<|U<|U<|U<|U<|U<|U<|U<|U<|U<|U<|U<|U<|U<|U<|U<|I0) comp_rdA.ST) @comp_rdA.core (w, A, E, s, env, elt, target, iter, ifs, scope, pos, cl, y, py, spos, L, mL, Q, f)
end
section
open PySem.SeqAt PySem.Spec
section
variable {b : Nat}
theorem LW.storeE (X : LW w h₀ b h m kv st nb at_ x rows pl) (n : h'.Ns h₀.objs.size m') (he : ∀ c o, c ≠ h₀.objs.size → h.get? c = some o → h'.get? c = some o) : LW w h₀ b h' m' kv st nb at_ x rows pl := by
 obtain ⟨b1, b2, b3, b4, b5⟩ := X.hb;have y : Ext [h₀.objs.size] h h' := ⟨fun c o e q => .inl (he c o (fun z => q (mem_singleton.mpr z)) e), fun c o e => by
  by_cases z : c = h₀.objs.size
  ·obtain ⟨o, _, _, e, _⟩ := n; exact ⟨o, z ▸ e⟩
  ·exact ⟨o, he c o z e⟩⟩
 have hm : ∀ a ∈ [h₀.objs.size], a < b ∨ h.get? a = none := fun a q => .inl (by rw [mem_singleton.mp q]; omega);obtain ⟨t1, est⟩ := X.st;obtain ⟨vs, ns, enb, r⟩ := X.nb;obtain ⟨dx, dl, hsh, t, n', c, vs', es, ep, W⟩ := X.X;obtain ⟨us, ep'⟩ := X.pl;have D' : Me [] h₀ h' h₀.objs.size m' [] := ⟨X.D.ext.trans y fun a q => by rw [mem_singleton.mp q]; exact X.D.offL, n, fun _ q => (nomatch q), nodup_nil, fun _ q => (nomatch q), fun _ q => (nomatch q), X.D.offL⟩;exact ⟨X.T₀, D', y.cell X.Ck (nin (by omega)), y.cell X.Cs (nin (by omega)), X.hb, X.at_lt, ⟨t1, y.isList est (nin (by omega))⟩, ⟨vs, ns, y.isList enb (nin (by omega)), r⟩,
  ⟨dx, dl, hsh, t, n', c, vs', es, ep, W.ext y hm⟩, ⟨us, ep'.ext y hm⟩, X.nr, X.row⟩
theorem zie {Q : Flow → Shared → Prop} (hA : Rm 400 A) (hh : A.handled = none) (X : LW w h₀ b h m kv st nb at_ x rows pl) (mp : m "plain" = some (.ref pl))
  (hQ : ∀ h' tk kr us, LW w h₀ b h' (fun y => if y = "keys" then some (.ref kr) else m y) kv st nb at_ x rows pl → LsAt h.objs.size h' kr us ((dk (zab rows)).map .str) → Q .next ⟨h', gn, d, tk, os⟩) :
  wpAny (model P w) A (exec (zat w 6) (zaq w h₀.objs.size)) Q E ⟨h, gn, d, t, os⟩ := by
 unhygienic
 revert hen w A E h₀ h gn d t os b st nb m kv x pl at_ rows Q;have T := X.top;delta zat;refine comp_rdA (cl := []) (L := h₀.objs.size) (mL := m) zc4 hh (by rfl) (by rfl) (by rfl) (by rfl) (by rfl) rfl (by decide) (by decide) ?_;ext Call_NameR;refine zaj (by assumption) rfl (by rfl) ?_;ext o.cf;ext items_cons;refine zaa X.D.ns mp ?_;ext items_nil;refine ⟨T, ?_⟩;ext call;obtain ⟨us, lp⟩ := X.pl;have hpl := plain_len X.nr fun ps q => (X.row ps q).1;refine za2 (hA.mono (by decide)) hh T lp (by omega) X.bsz (fun h4 tk4 r4 us4 e4 l4 => ?_);refine ⟨r4, us4, _, h.objs.size, rfl, l4, ?_, ?_, fun dd hd => ?_, X.D.ns.lt, (X.ext e4).D.ns, fun h5 r5 us5 tk5 k5 n5 l5 s5 => ?_⟩
 ·rw [length_map]; unfold zaZ; rw [length_map]; have := zdK (zab rows); omega
 ·obtain ⟨o, e, _⟩ := l4.ls; exact le_trans l4.le (le_of_lt (lt_size e))
 ·obtain ⟨p, _, rfl⟩ := mem_map.mp hd
  refine TurnOk.pair hh rfl (fun _ => by rfl) (fun _ => by rfl) (by decide) fun E p' h' tk C m u z hp hC kp nC fC mx my ru rz => ?_;refine wpAny_tests_nil ⟨rfl, ?_⟩;refine zaa nC mx ?_;exact ⟨ru, _, _, _, rfl, fun _ _ _ e => e, nC⟩
 ·rw [zdF, zaY] at l5
  exact hQ h5 tk5 r5 us5 ((X.ext e4).storeE n5 k5) l5
theorem zgf (l : h.IsList a vs) (hS : StrsAre vs.toList ks) : Rd 0 h (.ref a) (.list (ks.map .str)) := by
 refine .list (zero_le _) l (by rw [length_map, ← StrsAre.length hS, length_toList]) fun i v d e1 e2 => ?_;have key : ∀ {l : List Value} {ks : List Str}, StrsAre l ks → ∀ {i : Nat} {v : Value} {d : PyData}, l[i]? = some v → (ks.map PyData.str)[i]? = some d → Rd 0 h v d := by
  intro l ks x
  induction x with
  | nil => intro i v d e1; simp at e1
  | cons x t r ih =>
   intro i v d e1 e2;cases i with
   | zero => cases e1; cases e2; exact .str _ _
   | succ i => exact ih (by simpa using e1) (by simpa using e2)
 exact key hS (by rwa [getElem?_toList]) e2
def leS (a b : Str) : Prop := ltCps b.cps.toList a.cps.toList = false
theorem zfI {a b c : Str} (h1 : leS a b) (h2 : leS b c) : leS a c := by
 unfold leS at *;rw [ltCps_eq, decide_eq_false_iff_not] at *;exact List.not_lt.mpr (List.le_trans (List.not_lt.mp h1) (List.not_lt.mp h2))
theorem zg4 {a b : Str} (h1 : leS a b) (h2 : leS b a) : a = b := by
 unfold leS at *;rw [ltCps_eq, decide_eq_false_iff_not] at *;have := List.le_antisymm (List.not_lt.mp h1) (List.not_lt.mp h2);obtain ⟨⟨x⟩⟩ := a;obtain ⟨⟨y⟩⟩ := b;dsimp only at this;rw [this]
theorem zdE : ∀ (p : Str) (l : List Str), risingS p l = true → (p :: l).Pairwise leS
 | p, [], _ => List.pairwise_singleton _ _
 | p, x :: r, h => by
  have h' : (!ltCps x.cps.toList p.cps.toList && risingS x r) = true := h;rw [and_eq_true, not_eq_true'] at h';have ih := zdE x r h'.2;refine pairwise_cons.mpr ⟨fun y hy => ?_, ih⟩;rcases mem_cons.mp hy with rfl | hy
  ·exact h'.1
  ·exact zfI h'.1 ((pairwise_cons.mp ih).1 y hy)
theorem zdp : ∀ (l : List Str), sortedS l = true → l.Pairwise leS
 | [], _ => .nil
 | x :: r, h => zdE x r h
theorem zhZ : ∀ (l l' : List Str), l.Perm l' → l.Pairwise leS → l'.Pairwise leS → l = l'
 | [], l', p, _, _ => (List.nil_perm.mp p).symm
 | x :: l, [], p, _, _ => absurd p.length_eq (by simp)
 | x :: l, y :: l', p, h1, h2 => by
  have e : x = y := by
   have hx : x ∈ y :: l' := p.mem_iff.mp (.head _);have hy : y ∈ x :: l := p.mem_iff.mpr (.head _);rcases mem_cons.mp hx with q | hx
   ·exact q
   ·rcases mem_cons.mp hy with q | hy
    ·exact q.symm
    ·exact zg4 ((pairwise_cons.mp h1).1 y hy) ((pairwise_cons.mp h2).1 x hx)
  subst e;rw [zhZ l l' (List.perm_cons _ |>.mp p) (pairwise_cons.mp h1).2 (pairwise_cons.mp h2).2]
theorem zfN {l l' : List Str} (p : l.Perm l') (h1 : sortedS l = true) (h2 : sortedS l' = true) : l = l' := zhZ l l' p (zdp l h1) (zdp l' h2)
end
theorem zin {A : Around} {b : Nat} {Q : Flow → Shared → Prop} {kr c : Addr} {ks : Array Value} : ∀ (hA : Rm 400 A) (hh : A.handled = none) (X : LW w h₀ b h m kv st nb at_ x rows pl) (mw : m "whole" = some (.ref x)) (mp : m "plain" = some (.ref pl)) (mk : m "keys" = some (.ref kr)) (lk : LsAt c h kr ks ((dk (zab rows)).map .str)) (hQ : ∀ h' gn' tk d', LW w h₀ b h' m kv st nb at_ x rows pl → (zaT gn → zaT gn') → Q .next ⟨h', gn', d', tk, os⟩), wpAny (model P w) A (exec (zat w 8) (zaq w h₀.objs.size)) Q E ⟨h, gn, d, t, os⟩ := by
 unhygienic
 revert hen w A E h₀ h gn d t os b st nb m kv x pl at_ rows Q kr c ks
 haveI low : 604 ≤ b := le_trans X.T₀.low (by have := X.hb; omega)
 obtain ⟨g1, g2, g3⟩ := zbh X.row;have hpl := plain_len X.nr fun ps q => (X.row ps q).1;have hdk := zdK (zab rows)
 haveI hkc : (zaE (rows.map grp)).length ≤ 1000 := by
  have := zcu (fun g : Grp => g.map (·.1)) 6 (rows.map grp) fun g q => by rw [length_map]; exact g1 g q
  have := X.nr;rw [length_map] at *;unfold zaE; omega
 delta zat;ext If o.isTrue_or isTrue_Compare1
 haveI T := X.top
 refine comp_view hh (by rfl) rfl (by decide) (by decide) (fun _ => by rfl) (fun _ => by rfl) ?_;ext o.methodCall_KW;refine zaa X.D.ns mw ?_;obtain ⟨dx, dl, hsh, t', n, c', vs, es, ep, W⟩ := X.X;refine zaB (f := 522) T W (by kernel_rfl) (by rfl) (by kernel_rfl) ?_;refine za1 (by rfl) T ?_;ext call;refine clists_spec (hA.mono (by decide)) hh T W low g1 g2 (by rw [length_map]; have := X.nr; omega) (fun h2 gn2 tk2 v rv kvs es2 ep2 e2 bar2 hv2 Dr Gr lrv => ?_);rw [zaN] at Gr;have kl : kvs.length = (zaZ (zab rows)).length := Gr.len;have gl : (zaZ (zab rows)).length ≤ 144 := by unfold zaZ; rw [length_map]; omega
 haveI s2 : h.objs.size ≤ h2.objs.size := le_trans lrv (le_of_lt (lt_size Dr.at_))
 refine ⟨v, rv, _, _, kvs, _, _, _, h.objs.size, rfl, hv2, Dr, Gr, by omega, s2, fun h3 r3 us3 tk3 k3 l3 => ?_⟩;dsimp only at k3 ⊢
 haveI X3 := X.ext (e2.and (.of_keeps k3))
 haveI lk3 := lk.ext (e2.and (.of_keeps k3)) (by simp)
 clear T W e2 hv2 Dr Gr lrv k3 kl s2
 haveI T3 := X3.top
 ext Call_NameR;refine zaj (by assumption) rfl (by rfl) ?_;ext o.cf;ext items_cons;refine zaa X3.D.ns mp ?_;ext items_nil;refine ⟨T3, ?_⟩;ext call;obtain ⟨us, lp⟩ := X3.pl;refine za2 (hA.mono (by decide)) hh T3 lp (by omega) X3.bsz (fun h4 tk4 r4 us4 e4 l4 => ?_)
 haveI X4 := X3.ext e4
 letI lk3 := lk3.ext e4 (by simp)
 refine zdU hA (l3.rdl.ext0 e4) l4.rdl (zdS X.row) ?_;ext truthy_bool d;rw [if_neg Bool.false_ne_true];clear T3 lp us l3 l4 e4 X3 h3 h2 X
 haveI T4 := X4.top
 ext o.isTrue_or isTrue_Compare1 Call_NameR;refine zae (by assumption) rfl rfl rfl (by boot_by_name) (by decide) ?_;ext o.call_bi items_cons;refine zaa X4.D.ns mw ?_;ext items_nil;obtain ⟨dx, dl, hsh, t', n, c', vs, es, ep, W⟩ := X4.X;refine zdO (s := ⟨h4, gn2, d, tk4, os⟩) (hA.mono (by decide)) hh T4 W low hkc (fun h5 gn5 tk5 tk5' e5 b5 => ?_);ext d
 haveI X5 := X4.ext e5
 haveI lk5 := lk3.ext e5 (by simp)
 haveI T5 := X5.top
 ext Call_NameR;refine zae (by assumption) rfl rfl rfl (by boot_by_name) (by decide) ?_;ext o.call_bi items_cons;refine zaa X5.D.ns mk ?_;ext items_nil;refine len_list lk5.ls (by rw [lk5.sz, length_map]; omega) ?_;ext o.PyProof.Rows.ne_int truthy_bool d;rw [if_neg (by rw [lk5.sz, length_map, za0]; simp)];clear T4 W lk3 e5 X4;dsimp only at b5 bar2;ext o.isTrue_or isTrue_Compare1 Call_NameR;refine zae (by assumption) rfl rfl rfl (by boot_by_name) (by decide) ?_;ext o.call_bi items_cons o.methodCall_KW;refine zaa X5.D.ns mw ?_;obtain ⟨dx, dl, hsh, t', n, c', vs, es, ep, W⟩ := X5.X;refine zaB (f := 493) T5 W (by kernel_rfl) (by rfl) (by kernel_rfl) ?_;refine za1 (by rfl) T5 ?_;ext call;refine zgy (hA.mono (by decide)) hh T5 W low hkc (fun h6 gn6 tk6 S6 e6 b6 so6 nS6 => ?_);ext items_nil
 haveI hd5 : (zah (zaE (rows.map grp))).length ≤ 4 := by
  rw [za0];exact za9 _ abcd (zaS _) fun k hk => zaJ X5.row hk
 refine zeW hh so6 (by omega) (fun h7 d7 L7 out7 ss7 k7 nL7 lL7 il7 sa7 so7 len7 mem7 => ?_)
 haveI X7 := (X5.ext e6).ext (.of_keeps k7)
 haveI lk7 := (lk5.ext e6 (by simp)).ext (.of_keeps k7) (by simp)
 have T7 := X7.top;clear T5 W e6 so6 X5 lk5;ext Call_NameR;refine zae (by assumption) rfl rfl rfl (by boot_by_name) (by decide) ?_;ext o.call_bi items_cons;refine zaa X7.D.ns mk ?_;ext items_nil
 haveI hks : StrsAre ks.toList (dk (zab rows)) := zdT (b := c) ⟨by rw [Array.toArray_toList, lk7.sz], fun j v d e1 e2 => lk7.rd j v d (by simpa using e1) e2⟩
 have hd7 : (dk (zab rows)).length ≤ 4 := by rw [← za0]; exact hd5
 refine zd3 lk7.ls hks (by omega) (fun h8 L8 out8 ss8 k8 nL8 lL8 il8 sa8 so8 p8 => ?_)
 haveI X8 := X7.ext (.of_keeps k8)
 haveI ess : ss7 = ss8 := by
  refine zfN ((zeI _ _ (zaS (zab rows)) (fun k hk => ?_) ?_).trans p8.symm) so7 so8
  ·exact (mem7 k).mp (decide_eq_true ((zbm _ _).mpr (zcj.mpr hk)))
  ·exact le_of_eq (len7.trans (za0 rows))
 subst ess
 haveI ab : ∀ k ∈ ss7, k ∈ abcd := fun k hk => zaJ X7.row (p8.mem_iff.mp hk)
 refine zdU hA (d := .list (ss7.map .str)) (b := 0) (b' := 0) (zgf (il7.at fun o e => k8 _ _ e) sa7) (zgf il8 sa8) (zdW ab) ?_;ext truthy_bool d;rw [if_neg Bool.false_ne_true];ext o.isTrue_or_nil;rw [if_neg Bool.false_ne_true];ext execs_nil;exact hQ h8 gn6 _ d7 X8 (fun q => b6 (b5 (bar2 q)))
end
section
open PySem.SeqAt PySem.Spec
section
variable {b : Nat}
theorem LW.storeX (X : LW w h₀ b h m kv st nb at_ x rows pl) (n : h'.Ns h₀.objs.size m') (y : Ext [h₀.objs.size] h h') : LW w h₀ b h' m' kv st nb at_ x rows pl := by
 obtain ⟨b1, b2, b3, b4, b5⟩ := X.hb;have hm : ∀ a ∈ [h₀.objs.size], a < b ∨ h.get? a = none := fun a q => .inl (by rw [mem_singleton.mp q]; omega);obtain ⟨t1, est⟩ := X.st;obtain ⟨vs, ns, enb, r⟩ := X.nb;obtain ⟨dx, dl, hsh, t, n', c, vs', es, ep, W⟩ := X.X;obtain ⟨us, ep'⟩ := X.pl;have D' : Me [] h₀ h' h₀.objs.size m' [] := ⟨X.D.ext.trans y fun a q => by rw [mem_singleton.mp q]; exact X.D.offL, n, fun _ q => (nomatch q), nodup_nil, fun _ q => (nomatch q), fun _ q => (nomatch q), X.D.offL⟩;exact ⟨X.T₀, D', y.cell X.Ck (nin (by omega)), y.cell X.Cs (nin (by omega)), X.hb, X.at_lt, ⟨t1, y.isList est (nin (by omega))⟩, ⟨vs, ns, y.isList enb (nin (by omega)), r⟩,
  ⟨dx, dl, hsh, t, n', c, vs', es, ep, W.ext y hm⟩, ⟨us, ep'.ext y hm⟩, X.nr, X.row⟩
structure Cp (w : World) (h₀ hb h : Heap) (m : Str → Option Value) (o : Nat) (rows : List (List (Str × Int))) : Prop where
 ext : Ext [h₀.objs.size] hb h
 ns : h.Ns h₀.objs.size m
 new : hb.get? o = none
 low : 604 ≤ o
 nL : o ≠ h₀.objs.size
 dd : ∃ dxo kvs es ep, h.get? dxo = some emptyDict ∧ DD w h o (.ref 437) (some dxo) kvs es ep ∧ kvs.map (·.1) = dk (zab rows)
theorem zik {Q : Flow → Shared → Prop} (hA : Rm 380 A) (hh : A.handled = none) (X : LW w h₀ b h m kv st nb at_ x rows pl) (mw : m "whole" = some (.ref x))
  (hQ : ∀ h' gn' tk o, Cp w h₀ h h' (fun y => if y = "other" then some (.ref o) else m y) o rows → (zaT gn → zaT gn') → Q .next ⟨h', gn', d, tk, os⟩) :
  wpAny (model P w) A (exec (zat w 9) (zaq w h₀.objs.size)) Q E ⟨h, gn, d, t, os⟩ := by
 have low : 604 ≤ b := le_trans X.T₀.low (by have := X.hb; omega);obtain ⟨g1, g2, g3⟩ := zbh X.row;have hpl := plain_len X.nr fun ps q => (X.row ps q).1;have hd5 : (dk (zab rows)).length ≤ 4 := za9 _ abcd (zaS _) fun k hk => zaJ X.row hk;have T := X.top;obtain ⟨dx, dl, hsh, t', n, c', vs, es, ep, W⟩ := X.X;delta zat;ext Assign_Name o.methodCall_KW;refine zaa X.D.ns mw ?_;refine zaB (f := 536) T W (by kernel_rfl) (by rfl) (by kernel_rfl) ?_;refine za1 (by rfl) T ?_;ext call;refine zgs (hA.mono (by decide)) hh T W low g1 g2 (by rw [length_map]; have := X.nr; omega) (by rw [zaN, zaY]; exact zaS _) (by rw [zaN]; unfold zaZ; rw [length_map]; omega) (fun p hp => ?_) (fun h2 gn2 tk2 o dxo kvs es2 ep2 e2 bar lo ldx ed Dd hk => ?_)
 ·rw [zaN] at hp
  obtain ⟨k, _, rfl⟩ := mem_map.mp hp;have : (zaf (zab rows) k).length ≤ (zab rows).length := by unfold zaf; rw [length_map]; exact List.length_filter_le _ _
  dsimp only; omega
 ·rw [zaN, zaY] at hk
  have Lh : h₀.objs.size < h.objs.size := X.D.ns.lt;have oL : o ≠ h₀.objs.size := ne_of_gt (lt_of_lt_of_le Lh lo);have n2 := (X.ext e2).D.ns;refine wpAny_storeName_local rfl n2 (fun h3 hn3 hs3 => ?_) rfl;have dL : dxo ≠ h₀.objs.size := ne_of_gt (lt_of_lt_of_le Lh ldx);exact hQ h3 gn2 _ o ⟨(e2.mono (by simp)).trans (.sameBut hs3 (let ⟨o, _, _, e, _⟩ := hn3; ⟨o, e⟩)) (fun a q => .inl q), hn3, zac lo, le_trans low (le_trans X.bsz lo), oL, dxo, kvs, es2, ep2, (hs3.2 _ dL).trans ed, Dd.get (hs3.2 _ oL), hk⟩ bar
theorem zhT {Q : Flow → Shared → Prop} {hb : Heap} {o : Nat} (hA : Rm 380 A) (hh : A.handled = none) (X : LW w h₀ b hb m kv st nb at_ x rows pl) (C : Cp w h₀ hb h m' o rows) (mo : m' "other" = some (.ref o))
  (hQ : ∀ h' tk, LW w h₀ b h' m' kv st nb at_ x rows pl → Q .next ⟨h', gn, d, tk, os⟩) :
  wpAny (model P w) A (exec (zat w 10) (zaq w h₀.objs.size)) Q E ⟨h, gn, d, t, os⟩ := by
 have X1 := X.storeX C.ns C.ext;have T := X1.top;obtain ⟨dxo, kvs, es, ep, ed, Dd, hk⟩ := C.dd;have hd5 : (dk (zab rows)).length ≤ 4 := za9 _ abcd (zaS _) fun k hk => zaJ X.row hk;have kl : kvs.length ≤ 4 := by rw [← length_map (f := (·.1)), hk]; exact hd5
 delta zat;ext Expr_any o.methodCall_KW;refine zaa C.ns mo ?_;refine zb9 (f := 296) T ⟨Dd.at_, ed⟩ (by kernel_rfl) (by rfl) ?_;ext o.cf;ext items_cons Constant_str items_cons Constant_int items_nil;refine ⟨T, ?_⟩;ext call;refine zfC (hA.mono (by decide)) hh T Dd ed C.low (by omega) (by rw [hk]; exact fun q => absurd (zaJ X.row q) (by decide +kernel)) (fun h2 tk2 e2 => ?_);have n2 : h2.Ns h₀.objs.size m' := zaA e2 C.ns (nin (Ne.symm C.nL));exact hQ h2 tk2 (X.storeX n2 (C.ext.trans e2 fun a q => .inr (by rw [mem_singleton.mp q]; exact C.new)))
end
end
section
open PySem.SeqAt PySem.Spec
section
variable {b : Nat}
theorem zh0 (hA : Rm 480 A) (hh : A.handled = none) (X : LW w h₀ b h m kv st nb at_ x rows pl)
  (hQ : ∀ h' tk', Ext [] h h' → Q (.bool (zaQ (rows.map grp) k)) ⟨h', gn, d, tk', os⟩) :
  wpAny (model P w) A (compareOp .In (.str k tk) (.ref x)) Q E ⟨h, gn, d, t, os⟩ := by
 have T := X.top;have low : 604 ≤ b := le_trans X.T₀.low (by have := X.hb; omega);obtain ⟨dx, dl, hsh, t', n, c', vs, es, ep, W⟩ := X.X;have L : Looks (model P w) h (typeOf (.ref x)) (.ref 560) := (Looks.ld W.inst.at_).andThen .now;have L1 : Looks (model P w) h (typeLookup (.ref 560) "__contains__") (some (.ref 550)) := looks_findIn T.K (by kernel_rfl);obtain ⟨of, eof, cof⟩ : ∃ o, (KK w).lookup 550 = some o ∧ o.cls = .type "function" := ⟨_, rfl, rfl⟩;have L2 : Looks (model P w) h (typeOf (.ref 550)) (.type "function") := cof ▸ (Looks.ld (T.K _ _ eof)).andThen .now;show wpAny _ _ (do return .bool (← contains (.ref x) (.str k tk))) Q E _;ext bind;unfold contains
 repeat (first | with_reducible refine wpAny_call ?_ | lk)
 show codeAny _ _ (.call (.ref 550) ⟨[.ref x, .str k tk], []⟩) _ _;refine zda (hA.mono (by decide)) hh T W low fun h' tk' e => ?_;ext d pure truthy_bool;exact wpAny_pure (hQ h' tk' e)
end
theorem zh5 {A : Around} {b : Nat} {Q : Flow → Shared → Prop} : ∀ (hA : Rm 380 A) (hh : A.handled = none) (F : A.frames = some [zaq w h₀.objs.size]) (X : LW w h₀ b h m kv st nb at_ x rows pl) (mw : m "whole" = some (.ref x)) (mp : m "plain" = some (.ref pl)) (hat : at_ < 800000) (hQ : ∀ h' gn' tk k, LW w h₀ b h' m kv st nb k x rows pl → (zaT gn → zaT gn') → Q .next ⟨h', gn', d, tk, os⟩), wpAny (model P w) A (exec (zat w 11) (zaq w h₀.objs.size)) Q E ⟨h, gn, d, t, os⟩ := by
 unhygienic
 revert hen w A E h₀ h gn d t os b st nb m kv x pl at_ rows Q;have low : 604 ≤ b := le_trans X.T₀.low (by have := X.hb; omega);have hz : ("z" : Str) ∉ dk (zab rows) := fun q => absurd (zaJ X.row q) (by decide +kernel);delta zat;ext If o.isTrue_or isTrue_Compare1 Constant_str;refine zaa X.D.ns mw ?_;refine zh0 (hA.mono (by decide)) hh X fun h1 tk1 e1 => ?_;ext truthy_bool d;rw [zbQ, zbb hz, if_neg (by simp)]
 letI X := X.ext e1
 clear e1
 haveI T := X.top
 ext o.isTrue_or o.isTrue_not o.isTrue_plain Call_NameR;refine zaj (by assumption) rfl (by rfl) ?_;ext o.cf;ext items_cons;refine zaa X.D.ns mw ?_;ext items_cons Call_NameR;refine zaj (by assumption) rfl (by rfl) ?_;ext o.cf;ext items_cons;refine wpAny_Name (wpAny_loadName_cell rfl rfl (c := h₀.objs.size + 1) rfl X.Cs ?_) (by decide);ext items_cons Constant_int items_nil;refine ⟨T, ?_⟩;ext call;obtain ⟨t1, est⟩ := X.st;obtain ⟨nvs, ns, enb, hi, hl, hl2⟩ := X.nb;obtain ⟨b1, b2, b3, b4, b5⟩ := X.hb;refine zbf (hA.mono (by decide)) hh T est enb hi hl hl2 (by omega) (by decide) (by decide) b4 (le_trans X.T₀.low (by omega)) (fun h2 tk2 v tv t3 e2 l2 v0 v4 => ?_);ext d
 letI X := X.next e2 l2 (by omega)
 clear e2 l2 est enb T
 haveI T := X.top
 ext items_nil;refine ⟨T, ?_⟩;ext call;obtain ⟨dx, dl, hsh, t', n, c', vs, es, ep, W⟩ := X.X;have Fs0 : Fs A h2 [zaq w h₀.objs.size] := ⟨F, fun env he => by
  rw [mem_singleton.mp he];exact ⟨(fun q => by rw [show (zaq w h₀.objs.size).scope.kind = ScopeKind.function from rfl] at q; cases q), h₀.objs.size, m, rfl, X.D.ns, X.T₀.low⟩⟩
 refine zdH (hA.mono (by decide)) hh T W Fs0 (fun h3 tk3 e3 => ?_);ext d
 letI X := X.fext e3
 clear e3 W Fs0 T
 haveI T := X.top
 ext truthy_bool;rw [if_neg (by simp)];ext o.isTrue_or isTrue_Compare1 Call_NameR;refine zae (by assumption) rfl rfl rfl (by boot_by_name) (by decide) ?_;ext o.call_bi items_cons o.methodCall_KW;refine zaa X.D.ns mw ?_;obtain ⟨dx, dl, hsh, t', n, c, vs, es, ep, W⟩ := X.X;refine zaB (f := 508) T W (by kernel_rfl) (by rfl) (by kernel_rfl) ?_;refine zdr (by rfl) ?_;ext o.kwAll_cons Constant_bool o.kwAll_nil;refine ⟨T, ?_⟩;refine zcf (fun g s₁ q => wpAny_items_nil q) (hA.mono (by decide)) hh X (fun h4 gn4 tk4 S ys X4 b4 ls _ => ?_);refine zaa X4.D.ns mp ?_;obtain ⟨us, lp⟩ := X4.pl;refine zdU hA ls.rdl lp.rdl (zbP X.row) ?_;ext truthy_bool;rw [if_neg Bool.false_ne_true];ext o.isTrue_or_nil;rw [if_neg Bool.false_ne_true];ext execs_nil;exact hQ h4 gn4 tk4 _ X4 b4
end
section
open PySem.SeqAt PySem.Spec
section
variable {b : Nat}
theorem zhj {env : Env} {p4 p5 : Pos} {c1 c2 k1 : Nat} {key : Str} {n : Int} (hA : Rm 400 A) (hh : A.handled = none) (T : TopH w h) (hg : env.globals = mainGlobals) (hk : env.scope.kind = .function) (hx : env.kindOf "MultiDict" = some .globalImplicit)
  (hQ : ∀ h' tk x dx kvs es ep, Ext [] h h' → MDI w h.objs.size h' x [(key, [n])] dx kvs es ep → Q (.ref x) ⟨h', gn, d, tk, os⟩) :
  wpAny (model P w) A (eval (.Call (.Name "MultiDict" p0) [.List [.Tuple [.Constant (.str key) c1 p1, .Constant (.int n) c2 p2] k1 p3] p4] [] p5) env) Q E ⟨h, gn, d, t, os⟩ := by
 unhygienic
 revert hen w A E h gn d t os env p0 p1 p2 p3 p4 p5 c1 c2 k1 key n Q;ext Call_NameR;refine zaj T hg (by rfl) ?_ hk hx;ext o.cf;ext items_cons List items_cons o.Tuple_ items_cons Constant_str items_cons Constant_int items_nil;refine wpAny_newObj_type ?_ (by show (2 : Nat) ≤ sizeLine; decide);ext d;have e1 : Ext [] h (h.push { cls := .type "tuple", data := .seq #[.str key (t + 1 - 1), .int n (t + 1)] }) := Ext.push _ _;have tp : IsTup (h.push { cls := .type "tuple", data := .seq #[.str key t, .int n (t + 1)] }) h.objs.size #[.str key t, .int n (t + 1)] := ⟨_, get?_push_size _ rfl, rfl, 0, rfl⟩;replace e1 : Ext [] h (h.push { cls := .type "tuple", data := .seq #[.str key t, .int n (t + 1)] }) := Ext.push _ _;have sz1 : (h.push { cls := .type "tuple", data := .seq #[.str key t, .int n (t + 1)] }).objs.size = h.objs.size + 1 := size_push ..;change wpAny _ _ _ _ _ ⟨h.push { cls := .type "tuple", data := .seq #[.str key t, .int n (t + 1)] }, _, _, _, _⟩;generalize hta : h.objs.size = ta at tp sz1 ⊢;generalize h.push { cls := .type "tuple", data := .seq #[.str key t, .int n (t + 1)] } = h1 at e1 tp sz1 ⊢;ext items_nil;refine ⟨by simp [sizeLine_eq], ?_⟩;ext items_nil;have e2 : Ext [] h1 (h1.push { cls := .type "list", data := .seq #[.ref ta] }) := Ext.push _ _;have ls : (h1.push { cls := .type "list", data := .seq #[.ref ta] }).IsList h1.objs.size #[.ref ta] := ⟨_, get?_push_size _ rfl, rfl, 0, rfl⟩;have tp2 : IsTup (h1.push { cls := .type "list", data := .seq #[.ref ta] }) ta #[.str key t, .int n (t + 1)] := e2.isTup tp (by simp);change _ ∧ wpAny _ _ _ _ _ ⟨h1.push { cls := .type "list", data := .seq #[.ref ta] }, _, _, _, _⟩;have sz2 : (h1.push { cls := .type "list", data := .seq #[.ref ta] }).objs.size = h1.objs.size + 1 := size_push ..;generalize h1.objs.size = la at ls sz1 sz2 ⊢;generalize h1.push { cls := .type "list", data := .seq #[.ref ta] } = h2 at e2 ls tp2 sz2 ⊢;have e02 : Ext [] h h2 := e1.and e2;refine ⟨T.ext e02 (by simp), ?_⟩;ext call;have lsat : LsAt ta h2 la #[.ref ta] ([(key, n)].map zan) := by
  refine ⟨by rw [sz1]; exact le_succ _, ls, rfl, fun i v d q1 q2 => ?_⟩
  match i, q1, q2 with
  | 0, q1, q2 =>
   cases q1; cases q2;refine .tup (le_refl _) tp2 rfl fun i v d q1 q2 => ?_
   match i, q1, q2 with
   | 0, q1, q2 => cases q1; cases q2; exact .str _ _
   | 1, q1, q2 => cases q1; cases q2; exact .int _ _
   | i + 2, q1, q2 => simp at q1
  | i + 1, q1, q2 => simp at q1
 refine zfs (hA.mono (by decide)) hh (T.ext e02 (by simp)) lsat (by simp) (fun h3 tk3 x dx kvs es ep e3 M => ?_);exact hQ h3 tk3 x dx kvs es ep (e02.and e3) (M.mono (by show h.objs.size ≤ h2.objs.size; rw [hta, sz2, sz1]; exact le_succ_of_le (le_succ _)))
end
theorem zhW {b : Nat} {Q : Flow → Shared → Prop} (hA : Rm 380 A) (hh : A.handled = none) (F : A.frames = some [zaq w h₀.objs.size]) (X : LW w h₀ b h m kv st nb at_ x rows pl) (hQ : ∀ h' tk, LW w h₀ b h' m kv st nb at_ x rows pl → Q (.ret (.bool true)) ⟨h', gn, d, tk, os⟩) :
  wpAny (model P w) A (exec (zat w 12) (zaq w h₀.objs.size)) Q E ⟨h, gn, d, t, os⟩ := by
 unhygienic
 revert hen w A E h₀ h gn d t os b st nb m kv x pl at_ rows Q;have T := X.top;delta zat;ext Return_some Compare1 o.methodCall_KW Call_NameR;refine zaj (by assumption) rfl (by rfl) ?_;ext o.cf;ext items_cons List items_cons;refine zhj (hA.mono (by decide)) hh T rfl rfl rfl (fun h1 tk1 x1 dx1 kvs1 es1 ep1 e1 M1 => ?_);have T1 := T.ext e1 (by simp);ext items_cons;refine zhj (hA.mono (by decide)) hh T1 rfl rfl rfl (fun h2 tk2 x2 dx2 kvs2 es2 ep2 e2 M2 => ?_);have T2 := T1.ext e2 (by simp);have lh : h.objs.size ≤ h1.objs.size := le_trans M1.lx (le_of_lt (lt_size M1.dd.at_));have lh2 : h1.objs.size ≤ h2.objs.size := le_trans M2.lx (le_of_lt (lt_size M2.dd.at_));have M1' := M1.ext e2 (by simp);have M2' := M2.mono lh;ext items_nil;refine ⟨by simp [sizeLine_eq], ?_⟩;ext items_nil;have e3 : Ext [] h2 (h2.push (zad #[.ref x1, .ref x2] 0)) := Ext.push _ _;have ls : (h2.push (zad #[.ref x1, .ref x2] 0)).get? h2.objs.size = some (zad #[.ref x1, .ref x2] 0) := get?_push_size _ rfl;change _ ∧ wpAny _ _ _ _ _ ⟨h2.push (zad #[.ref x1, .ref x2] 0), _, _, _, _⟩;have T3 := T2.ext e3 (by simp);have N1 := M1'.ext e3 (by simp);have N2 := M2'.ext e3 (by simp);have lh3 : h2.objs.size ≤ (h2.push (zad #[.ref x1, .ref x2] 0)).objs.size := by rw [size_push]; exact le_succ _
 ext d;generalize h2.objs.size = la at ls ⊢;generalize h2.push (zad #[.ref x1, .ref x2] 0) = h3 at e3 ls T3 N1 N2 lh3 ⊢;refine ⟨T3, ?_⟩;ext call;refine zdx (gs := [[("a", [1])], [("a", [2])]]) (b := h.objs.size) (hA.mono (by decide)) T3 ls ?_ (le_trans lh (le_trans lh2 lh3)) (by show (2 : Nat) ≤ 100; decide) (fun h4 tk4 y dx l hsh tt n c es ep e4 W => ?_)
 ·refine ⟨rfl, fun i g q => ?_⟩
  match i, q with
  | 0, q => cases q; exact ⟨x1, dx1, kvs1, es1, ep1, rfl, N1⟩
  | 1, q => cases q; exact ⟨x2, dx2, kvs2, es2, ep2, rfl, N2⟩
  | i + 2, q => simp at q
 have e04 : Ext [] h h4 := (((e1.trans e2 (by simp)).trans e3 (by simp)).trans e4 (by simp));have T4 := T.ext e04 (by simp);have X4 := X.ext e04;ext d;refine zaB (f := 479) T4 W (by kernel_rfl) (by rfl) (by kernel_rfl) ?_;ext o.cf;ext items_cons Constant_str items_nil;refine ⟨T4, ?_⟩;ext call;have Fs0 : Fs A h4 [zaq w h₀.objs.size] := ⟨F, fun env he => by
  rw [mem_singleton.mp he];exact ⟨(fun q => by rw [show (zaq w h₀.objs.size).scope.kind = ScopeKind.function from rfl] at q; cases q), h₀.objs.size, m, rfl, X4.D.ns, X.T₀.low⟩⟩
 have Lh : h₀.objs.size < h.objs.size := X.D.ns.lt;refine zbO (hA.mono (by decide)) hh T4 W (le_trans X.T₀.low (le_of_lt Lh)) Fs0 (fun a q => by rw [mem_singleton.mp (show a ∈ [h₀.objs.size] from q)]; exact Lh) (by decide) (by decide) (fun h5 tk5 a e5 il => ?_);have X5 := X4.fext e5;ext d List items_cons Constant_int items_cons Constant_int items_nil;refine ⟨by simp [sizeLine_eq], ?_⟩;change wpAny _ _ (compareOp .Eq (.ref a) (.ref h5.objs.size)) _ _ ⟨h5.push { cls := .type "list", data := .seq #[.int 1 tk5, .int 2 (tk5 + 1)] }, _, _, _, _⟩;have e6 : Ext [] h5 (h5.push { cls := .type "list", data := .seq #[.int 1 tk5, .int 2 (tk5 + 1)] }) := Ext.push _ _;have ra := il.rd.ext0 e6;refine zia hA (d := .list (([1, 2] : List Int).map .int)) (b' := 0) ra (.list (vs := #[.int 1 tk5, .int 2 (tk5 + 1)]) (zero_le _) ⟨_, get?_push_size _ rfl, rfl, 0, rfl⟩ rfl fun i v d q1 q2 => ?_) (zbd _) ?_
 ·match i, q1, q2 with
  | 0, q1, q2 => cases q1; cases q2; exact .int _ _
  | 1, q1, q2 => cases q1; cases q2; exact .int _ _
  | i + 2, q1, q2 => simp at q1
 ·exact hQ _ _ (X5.ext e6)
end
section
open PySem.SeqAt PySem.Spec
section
variable {b : Nat}
theorem zhi {l c : Addr} (hl : h.IsList l vs) (hb : h.IsList c ws) (hsz : vs.size + ws.size ≤ 1000)
  (hQ : Q (.ref h.objs.size) ⟨h.push { cls := .type "list", data := .seq (vs ++ ws) }, gn, d, t, os⟩) : wpAny (model P w) A (binaryOp .Add (.ref l) (.ref c)) Q E ⟨h, gn, d, t, os⟩ := by
 obtain ⟨⟨cls, dd, data, sl⟩, ho, hc, n, hd⟩ := id hl;obtain ⟨⟨cls2, dd2, data2, sl2⟩, ho2, hc2, n2, hd2⟩ := id hb;simp only at hc hd hc2 hd2;subst hc hd hc2 hd2;exact concat_meets ⟨_, ho, rfl⟩ ⟨_, ho2, rfl⟩ noFill_list_add seq_list_add PySem.F.slot_list_add PySem.F.entry_list_add (PySem.F.args_list_add_2 _ _) (list_addW l c vs ws n n2 dd dd2 sl sl2 (by rw [sizeLine_eq]; omega)) ⟨ho, ho2, hQ⟩
theorem LW.re {hb : Heap} {M : List Addr} (X : LW w h₀ b hb m kv st nb at_ x rows pl) (y : Ext M hb h') (hM : ∀ a ∈ M, a = h₀.objs.size ∨ a = h₀.objs.size + 2 ∨ hb.get? a = none) (n : h'.Ns h₀.objs.size m') (c : h'.IsCell (h₀.objs.size + 2) kv') : LW w h₀ b h' m' kv' st nb at_ x rows pl := by
 obtain ⟨b1, b2, b3, b4, b5⟩ := X.hb;have hm : ∀ a ∈ M, a < b ∨ hb.get? a = none := fun a q => by
  rcases hM a q with rfl | rfl | z
  ·exact .inl (lt_trans (lt_of_le_of_lt (le_add_right _ 2) b1) b2)
  ·exact .inl (lt_trans b1 b2)
  ·exact .inr z
 have out : ∀ (a : Nat) o, hb.get? a = some o → a ≠ h₀.objs.size → a ≠ h₀.objs.size + 2 → a ∉ M := fun a o e n1 n2 q => by
  rcases hM a q with z | z | z
  ·exact n1 z
  ·exact n2 z
  ·rw [z] at e; cases e
 obtain ⟨t1, est⟩ := X.st;obtain ⟨vs, ns, enb, r⟩ := X.nb;obtain ⟨dx, dl, hsh, t, n', c', vs', es, ep, W⟩ := X.X;obtain ⟨us, ep'⟩ := X.pl;have D' : Me [] h₀ h' h₀.objs.size m' [] := ⟨X.D.ext.trans y fun a q => by
  rcases hM a q with rfl | rfl | z
  ·exact .inr (zag _)
  ·exact .inr (zac (le_add_right _ _))
  ·exact .inr (X.D.ext.fresh z), n, fun _ q => (nomatch q), nodup_nil, fun _ q => (nomatch q), fun _ q => (nomatch q), X.D.offL⟩
 have oc : h₀.objs.size + 1 ∉ M := by
  obtain ⟨o, e, _⟩ := X.Cs;exact out _ o e (ne_of_gt (lt_succ_self _)) (ne_of_lt (lt_succ_self _))
 have ost : st ∉ M := by obtain ⟨o, e, _⟩ := est; exact out _ o e (by omega) (by omega)
 have onb : nb ∉ M := by obtain ⟨o, e, _⟩ := enb; exact out _ o e (by omega) (by omega)
 exact ⟨X.T₀, D', c, y.cell X.Cs oc, X.hb, X.at_lt, ⟨t1, y.isList est ost⟩, ⟨vs, ns, y.isList enb onb, r⟩,
  ⟨dx, dl, hsh, t, n', c', vs', es, ep, W.ext y hm⟩, ⟨us, ep'.ext y hm⟩, X.nr, X.row⟩
theorem zgk {value slice : Expr} {l : Addr} {items : Array Value} {k : Int} {u : Tok} {y : Value} (hl : s.heap.IsList l items)
  (h0 : 0 ≤ k) (hfit : k < 2 ^ 63) (hx : items[k.toNat]? = some y) (h : Q y s)
  (hs : subscripted slice false (.ref l) (.int k u) = operate [.ref l, .int k u] (getItem (.ref l) (.int k u)) := by with_unfolding_all rfl) :
  wpAny (model P w) A (subscriptTail value slice (.ref l) (.int k u)) Q E s := by
 have hT := hl.typeIs;unfold subscriptTail;ext bind;rw [getitemInPython_of_ne hT.not_modules];refine wpAny_bind (wpAny_specialOf hT slot_list_getitem.lookup ?_);have fin : wpAny (model P w) A (subscripted slice false (.ref l) (.int k u)) (fun r s₃ => wpAny (model P w) A (letTemporaryGo value (.ref l) r >>= fun _ => pure r) Q E s₃) E s := by
  rw [hs];exact wpAny_operating (wpAny_mono (wpAny_getItem_list (Q := Q) hl h0 hfit hx h) (fun r s₃ h₃ => wpAny_bind (wpAny_letTemporaryGo (wpAny_pure h₃))) fun _ _ x => x)
 first
  | exact wpAny_pure (wpAny_bind fin)
  | exact wpAny_bind (wpAny_pure (wpAny_bind fin))
  | exact wpAny_bind fin
theorem zbY {p : Pos} (C : h.IsCell (L + 2) (some v)) (hq : Q v ⟨h, gn, d, t, os⟩) : wpAny (model P w) A (eval (.Name (Str.ofString "key") p) (zaq w L)) Q E ⟨h, gn, d, t, os⟩ :=
 wpAny_Name (wpAny_loadName_cell rfl rfl (c := L + 2) rfl C hq) (by decide)
def zfu : List Str := ["a", "b", "c", "d", "e"]
end
theorem ziq {A : Around} {b : Nat} {Q : Flow → Shared → Prop} : ∀ (hA : Rm 380 A) (hh : A.handled = none) (F : A.frames = some [zaq w h₀.objs.size]) (X : LW w h₀ b h m kv st nb at_ x rows pl) (mw : m "whole" = some (.ref x)) (mp : m "plain" = some (.ref pl)) (hQ : ∀ h' tk m' kv', LW w h₀ b h' m' kv' st nb at_ x rows pl → m' "whole" = some (.ref x) → m' "plain" = some (.ref pl) → Q .next ⟨h', gn, d, tk, os⟩), wpAny (model P w) A (exec (zat w 5) (zaq w h₀.objs.size)) Q E ⟨h, gn, d, t, os⟩ := by
 unhygienic
 revert hen w A E h₀ h gn d t os b st nb m kv x pl at_ rows Q;have off : h₀.get? (h₀.objs.size + 2) = none := zac (le_add_right _ _);have low : 604 ≤ b := le_trans X.T₀.low (by have := X.hb; omega);delta zat;ext For List items_cons Constant_str items_cons Constant_str items_cons Constant_str items_cons Constant_str items_cons Constant_str items_nil;refine ⟨by simp [sizeLine_eq], ?_⟩;have Lh : h₀.objs.size < h.objs.size := X.D.ns.lt;have Ch : h₀.objs.size + 2 < h.objs.size := by obtain ⟨o, e, _⟩ := X.Ck; exact lt_size e
 have e1 : Ext [] h (h.push { cls := .type "list", data := .seq #[.str "a" t, .str "b" (t + 1), .str "c" (t + 1 + 1), .str "d" (t + 1 + 1 + 1), .str "e" (t + 1 + 1 + 1 + 1)] }) := Ext.push _ _;have l1 : (h.push { cls := .type "list", data := .seq #[.str "a" t, .str "b" (t + 1), .str "c" (t + 1 + 1), .str "d" (t + 1 + 1 + 1), .str "e" (t + 1 + 1 + 1 + 1)] }).IsList h.objs.size #[.str "a" t, .str "b" (t + 1), .str "c" (t + 1 + 1), .str "d" (t + 1 + 1 + 1), .str "e" (t + 1 + 1 + 1 + 1)] := ⟨_, get?_push_size _ rfl, rfl, 0, rfl⟩;change wpAny _ _ (pyIter (.ref h.objs.size)) _ _ ⟨h.push { cls := .type "list", data := .seq #[.str "a" t, .str "b" (t + 1), .str "c" (t + 1 + 1), .str "d" (t + 1 + 1 + 1), .str "e" (t + 1 + 1 + 1 + 1)] }, _, _, _, _⟩;have five_at : ∀ (i : Nat) (v : Value), (#[.str "a" t, .str "b" (t + 1), .str "c" (t + 1 + 1), .str "d" (t + 1 + 1 + 1), .str "e" (t + 1 + 1 + 1 + 1)] : Array Value)[i]? = some v → ∃ k tk, v = .str k tk := by
  intro i v q
  match i, q with
  | 0, q => cases q; exact ⟨_, _, rfl⟩
  | 1, q => cases q; exact ⟨_, _, rfl⟩
  | 2, q => cases q; exact ⟨_, _, rfl⟩
  | 3, q => cases q; exact ⟨_, _, rfl⟩
  | 4, q => cases q; exact ⟨_, _, rfl⟩
  | i + 5, q => simp at q
 have kL : h.objs.size ≠ h₀.objs.size := ne_of_gt Lh;have kC : h.objs.size ≠ h₀.objs.size + 2 := ne_of_gt Ch;obtain ⟨zfu, efive⟩ : ∃ zfu : Array Value, zfu = #[.str "a" t, .str "b" (t + 1), .str "c" (t + 1 + 1), .str "d" (t + 1 + 1 + 1), .str "e" (t + 1 + 1 + 1 + 1)] := ⟨_, rfl⟩;have f5 : zfu.size = 5 := by rw [efive]; rfl
 rw [← efive] at l1 five_at e1 ⊢;clear efive;have X1 := X.ext e1;have sz1 : h.objs.size < (h.push { cls := .type "list", data := .seq zfu }).objs.size := by rw [size_push]; exact lt_succ_self _
 generalize h.objs.size = kl at l1 kL kC sz1 Lh Ch ⊢;generalize h.push { cls := .type "list", data := .seq zfu } = h1 at e1 l1 X1 sz1 ⊢;revert hen zfu kl h1;refine wpAny_pyIter_list l1 ?_;have e2 : Ext [] h1 (h1.push { cls := .type "list_iterator", data := .fields #[.ref kl, .int 0 0] }) := Ext.push _ _;have hit : (h1.push { cls := .type "list_iterator", data := .fields #[.ref kl, .int 0 0] }).IsListIter h1.objs.size kl 0 := ⟨_, get?_push_size _ rfl, rfl, rfl⟩;have X2 := X1.ext e2;have nit1 : h1.get? h1.objs.size = none := zag _;have l2 := e2.isList l1 (by simp);have iL : h1.objs.size ≠ h₀.objs.size := ne_of_gt (lt_trans Lh sz1);have iC : h1.objs.size ≠ h₀.objs.size + 2 := ne_of_gt (lt_trans Ch sz1);have fit : h₀.get? h1.objs.size = none := zac (le_of_lt (lt_trans Lh sz1));have iK : h1.objs.size ≠ kl := ne_of_gt sz1;ext d;generalize h1.objs.size = it at hit iL iC fit iK nit1 ⊢;generalize h1.push { cls := .type "list_iterator", data := .fields #[.ref kl, .int 0 0] } = h2 at X2 l2 hit e2 ⊢;clear e1 l1 X sz1;have hM : ∀ a ∈ [h₀.objs.size, h₀.objs.size + 2, it], a = h₀.objs.size ∨ a = h₀.objs.size + 2 ∨ h1.get? a = none := fun a q => by
  rcases mem_cons.mp q with rfl | q
  ·exact .inl rfl
  ·rcases mem_cons.mp q with rfl | q
   ·exact .inr (.inl rfl)
   ·exact .inr (.inr (by rw [mem_singleton.mp q]; exact nit1))
 revert hen it h2;refine opq (p := fun (n : Nat) (s' : Shared) => ∃ i h' tk' m' kv', n + i = 5 ∧ s' = ⟨h', gn, d, tk', os⟩ ∧ Ext [h₀.objs.size, h₀.objs.size + 2, it] h1 h' ∧ LW w h₀ b h' m' kv' st nb at_ x rows pl ∧ m' "whole" = some (.ref x) ∧ m' "plain" = some (.ref pl) ∧ h'.IsListIter it kl i ∧ h'.IsList kl zfu) fun I hin hout => ?_;revert hen I;refine codeAny_forLoop_any I ?_ 5 (hin _ _ ?_)
 rotate_left
 ·exact ⟨0, h2, _, m, kv, rfl, rfl, e2.mono (by simp), X2, mw, mp, hit, l2⟩
 clear X2 mw mp hit l2 e2;intro n s' hI;obtain ⟨i, h2, tk1, m', kv', hn, rfl, y, X, mw, mp, hit, ls⟩ := hout _ _ hI;clear hI;have atit : ∀ h3, Heap.ExtBut it h2 h3 → Ext [h₀.objs.size, h₀.objs.size + 2, it] h1 h3 ∧ LW w h₀ b h3 m' kv' st nb at_ x rows pl := fun h3 he => by
  have ni : ∀ {c o}, h1.get? c = some o → c ≠ it := fun {c o} e z => by rw [z, nit1] at e; cases e
  have y3 : Ext [h₀.objs.size, h₀.objs.size + 2, it] h1 h3 := ⟨fun c o e q => by
   rcases y.keep c o e q with z | ⟨ht, ps, more, rfl, z, kz⟩
   ·exact .inl (he c o (ni e) z)
   ·exact .inr ⟨ht, ps, more, rfl, he c _ (ni e) z, kz⟩, fun c o e => by
   obtain ⟨o', z⟩ := y.there c o e;exact ⟨o', he c o' (ni e) z⟩⟩
  refine ⟨y3, X1.re y3 hM ?_ (zak X.Ck he (Ne.symm iC))⟩;obtain ⟨o, es, ep, e, r⟩ := X.D.ns;exact ⟨o, es, ep, he _ _ (Ne.symm iL) e, r⟩
 cases n with
 | zero =>
  refine wpAny_pyNext_list_end hh hit ls (by rw [Array.getElem?_eq_none_iff, f5]; omega) (fun h3 he => ?_);obtain ⟨y3, X3⟩ := atit h3 he;ext d execs_nil;exact hQ h3 tk1 m' kv' X3 mw mp
 | succ n =>
  have hi : i < zfu.size := by omega
  obtain ⟨k, tk, ek⟩ := five_at i zfu[i] (Array.getElem?_eq_getElem hi);revert hen i h2 tk1 m' kv' n k tk;refine wpAny_pyNext_list_item hit ls (by rw [Array.getElem?_eq_getElem hi, ek]) (fun h3 hit3 sb3 => ?_);obtain ⟨y3, X3⟩ := atit h3 sb3.extBut;replace ls := zbg ls sb3 (Ne.symm iK);ext d;clear atit X y hit sb3;ext pure assign_Name;refine wpAny_storeName_cell rfl rfl (c := h₀.objs.size + 2) rfl X3.Ck (fun h4 C4 sb4 => ?_);have X4 := X3.key C4 sb4 off;have y4 := y3.trans (.sameBut sb4 (let ⟨o, e, _⟩ := C4; ⟨o, e⟩)) (fun a q => .inl (by rw [mem_singleton.mp q]; simp));have hit4 := hit3.at fun o e => (sb4.2 it iC).trans e;replace ls := zbg ls sb4 kC;ext d;clear X3 y3 hit3 sb4 C4 h3;revert hen h4
  with_reducible refine zcg fun Q1 E1 h1 => ?_
  refine comp_rdA (cl := [(Str.ofString "key", h₀.objs.size + 2)]) (L := h₀.objs.size) (mL := m') (zbt k) hh (by rfl) (by rfl) (by rfl) (by rfl) (by rfl) rfl (by decide) (by decide) ?_;refine zaa X4.D.ns mp ?_;obtain ⟨us, lp⟩ := X4.pl;have hpl := plain_len X4.nr fun ps q => (X4.row ps q).1;refine ⟨pl, us, _, b, rfl, lp, by rw [length_map]; omega, X4.bsz, fun dd hd => ?_, lt_trans (lt_of_le_of_lt (le_add_right _ 2) X4.hb.1) X4.hb.2.1, X4.D.ns, fun h5 r5 us5 tk5 k5 n5 l5 s5 => ?_⟩
  ·obtain ⟨p, _, rfl⟩ := mem_map.mp hd
   refine TurnOk.pair hh rfl (fun _ => by rfl) (fun _ => by rfl) (by decide) fun E p' h' tk' C m u z hp hC kp nC fC mx my ru rz => ?_;obtain ⟨t1, rfl⟩ := ru.strE;ext tests_one isTrue_Compare1;refine zaa nC mx ?_;refine wpAny_Name (wpAny_loadName_cell rfl rfl (c := h₀.objs.size + 2) rfl ((Ext.of_keeps kp).cell X4.Ck not_mem_nil) ?_) (by decide);ext o.PyProof.Rows.eq_str truthy_bool
   by_cases he : p.1 = k
   ·rw [show zbt k (zan p) = some (.int p.2) by unfold zbt; simp only [if_pos he]]
    refine ⟨by simpa using he, ?_⟩;refine zaa nC my ?_;exact ⟨rz, _, _, _, rfl, fun _ _ _ e => e, nC⟩
   ·rw [show zbt k (zan p) = none by unfold zbt; simp only [if_neg he]]
    exact ⟨by simpa using he, _, _, _, rfl, fun _ _ _ e => e, nC⟩
  ·rw [zet] at l5
   dsimp only at k5 n5;obtain ⟨mm, X5, mow, mwh, mpl⟩ : ∃ mm : Str → Option Value, LW w h₀ b h5 mm (some (.str k tk)) st nb at_ x rows pl ∧ mm "own" = some (.ref r5) ∧ mm "whole" = some (.ref x) ∧ mm "plain" = some (.ref pl) :=
    ⟨_, X4.storeE n5 k5, if_pos rfl, (if_neg (by decide)).trans mw, (if_neg (by decide)).trans mp⟩
   have y5 := y4.trans (mod' := [h₀.objs.size]) ⟨fun c o e q => .inl (k5 c o (fun z => q (mem_singleton.mpr z)) e), fun c o e => by
    by_cases z : c = h₀.objs.size
    ·obtain ⟨o, _, _, e, _⟩ := n5; exact ⟨o, z ▸ e⟩
    ·exact ⟨o, k5 c o z e⟩⟩ (fun a q => .inl (by rw [mem_singleton.mp q]; simp))
   have hit5 := hit4.at fun o e => k5 _ _ iL e;have ls5 : h5.IsList kl zfu := let ⟨o, e, r⟩ := ls; ⟨o, k5 _ _ kL e, r⟩
   clear X4 y4 hit4 ls lp k5 n5;have Lb : h₀.objs.size < b := lt_trans (lt_of_le_of_lt (le_add_right _ 2) X5.hb.1) X5.hb.2.1;have hm5 : ∀ a ∈ [h₀.objs.size], a < b ∨ h5.get? a = none := fun a q => .inl (by rw [mem_singleton.mp q]; exact Lb);obtain ⟨g1, g2, g3⟩ := zbh X5.row;have g100 : ∀ g ∈ rows.map grp, ∀ p ∈ g, p.2.length ≤ 100 := fun g q p hp => le_trans (g2 g q p hp) (by decide);have hvl : (zaf (zab rows) k).length ≤ 144 := by
    have : (zaf (zab rows) k).length ≤ (zab rows).length := by unfold zaf; rw [length_map]; exact List.length_filter_le _ _
    omega
   have us5l : us5.size = (zaf (zab rows) k).length := by rw [l5.sz, length_map]
   have Fs0 : ∀ h6, LW w h₀ b h6 mm (some (.str k tk)) st nb at_ x rows pl → Fs A h6 [zaq w h₀.objs.size] := fun h6 X6 => ⟨F, fun env he => by
    rw [mem_singleton.mp he];exact ⟨(fun q => by rw [show (zaq w h₀.objs.size).scope.kind = ScopeKind.function from rfl] at q; cases q), h₀.objs.size, _, rfl, X6.D.ns, X6.T₀.low⟩⟩
   refine h1 _ ?_
   with_reducible refine zcg fun Q2 E2 h2 => ?_
   ext If
   with_reducible refine isTrue_or (za5 fun Q6 E6 hq6 => ?_)
   ext isTrue_Compare1;have T5 := X5.top;ext o.methodCall_KW;refine zaa X5.D.ns mwh ?_;obtain ⟨dx, dl, hsh, t', nn, c', vs, es, ep, W⟩ := X5.X;refine zaB (f := 479) T5 W (by kernel_rfl) (by rfl) (by kernel_rfl) ?_;show wpAny _ _ (callWith _ (.ref _) _ (backTo _ (starEach _ _)) []) _ _ _;ext o.cf;ext items_cons
   with_reducible refine zbY X5.Ck ?_
   ext items_nil;refine ⟨T5, ?_⟩;ext call;refine zbO (hA.mono (by decide)) hh T5 W low (Fs0 _ X5) (fun a q => by rw [mem_singleton.mp (show a ∈ [h₀.objs.size] from q)]; exact Lb) g100 (by rw [length_map]; have := X5.nr; omega) (fun h6 tk6 a6 z6 il6 => ?_);replace z6 : FExt [h₀.objs.size] h5 h6 := z6;have il6' : IL h5.objs.size h6 a6 (zaf (zab rows) k) := by rw [← zbl]; exact il6
   have X6 := X5.fext z6;have l6 := l5.ext z6.ext hm5;have T6 := X6.top;clear W il6 T5;ext d;refine zaa X6.D.ns mow ?_;refine zdU hA il6'.rd l6.rdl (zbd _) ?_;ext truthy_bool;refine hq6 _ _ ?_;rw [if_neg Bool.false_ne_true];clear il6'
   with_reducible refine isTrue_or (za5 fun Q6 E6 hq6 => ?_)
   ext isTrue_Compare1 Call_NameR;refine zaj (by assumption) rfl (by rfl) ?_;show wpAny _ _ (callWith _ (.ref _) _ (backTo _ (starEach _ _)) []) _ _ _;ext o.cf;ext items_cons;refine zaa X6.D.ns mwh ?_;ext items_cons
   with_reducible refine zbY X6.Ck ?_
   ext items_nil;refine ⟨T6, ?_⟩;ext call;obtain ⟨dx, dl, hsh, t', nn, c', vs, es, ep, W⟩ := X6.X;refine ze8 (hA.mono (by decide)) hh T6 W low (Fs0 _ X6) g100 g3 (fun h7 tk7 a7 z7' il7 => ?_);replace z7' : FExt [h₀.objs.size] h6 h7 := z7';have z7 := z6.trans z7';rw [zbl] at il7;have X7 := X5.fext z7;have l7 := l5.ext z7.ext hm5;have T7 := X7.top;clear W z7' z6 X6 l6 T6;dsimp only at il7 ⊢;ext Subscript_list_slice;refine zaa X7.D.ns mow ?_;ext evalPart_none evalPart_some Constant_int;refine (⟨r5, us5, none, some 1, rfl, l7.ls, by rw [sizeLine_eq]; omega, .none, .int _ _, ?_⟩);ext d;have e8 : Ext [] h7 ((h7.push { cls := .type "slice", data := .fields #[.none, .int 1 tk7, .none] }).push { cls := .type "list", data := .seq (slicePick us5 none (some 1) none) }) := (Ext.push _ _).trans (Ext.push _ _) (by simp);have ls8 : ((h7.push { cls := .type "slice", data := .fields #[.none, .int 1 tk7, .none] }).push { cls := .type "list", data := .seq (slicePick us5 none (some 1) none) }).IsList (h7.objs.size + 1) (slicePick us5 none (some 1) none) := by
    refine ⟨{ cls := .type "list", data := .seq (slicePick us5 none (some 1) none) }, ?_, rfl, 0, rfl⟩;have := get?_push_size (h7.push { cls := .type "slice", data := .fields #[.none, .int 1 tk7, .none] }) (o := { cls := .type "list", data := .seq (slicePick us5 none (some 1) none) }) rfl
    rwa [size_push] at this
   generalize (h7.push { cls := .type "slice", data := .fields #[.none, .int 1 tk7, .none] }).push { cls := .type "list", data := .seq (slicePick us5 none (some 1) none) } = h8 at e8 ls8 ⊢;have z8 := z7.trans (.of e8);have X8 := X5.fext z8;have l8 := l5.ext z8.ext hm5;have rs8 : Rd 0 h8 (.ref (h7.objs.size + 1)) (.list (((zaf (zab rows) k).take 1).map .int)) := by
    rw [show slicePick us5 none (some 1) none = (us5.toList.take 1).toArray from slicePick_upto' us5 1] at ls8;refine .list (zero_le _) ls8 (by simp [us5l]) fun i' v' d' q1 q2 => ?_;have hi1 : i' < 1 := by
     rcases lt_or_ge i' 1 with z | z
     ·exact z
     ·rw [List.getElem?_toArray, List.getElem?_take, if_neg (by omega)] at q1; cases q1
    rw [List.getElem?_toArray, List.getElem?_take, if_pos hi1, getElem?_toList] at q1;rw [List.map_take, List.getElem?_take, if_pos hi1] at q2;exact (l8.rd i' v' d' q1 q2).mono (zero_le _)
   refine zdU hA (il7.rd.ext0 e8) rs8 (zbd _) ?_;ext truthy_bool;refine hq6 _ _ ?_;rw [if_neg Bool.false_ne_true];clear rs8 ls8 e8 il7 T7 l7 X7 z7;have T8 := X8.top
   with_reducible refine isTrue_or (za5 fun Q6 E6 hq6 => ?_)
   ext isTrue_Compare1 o.methodCall_KW;refine zaa X8.D.ns mwh ?_;obtain ⟨dx, dl, hsh, t', nn, c', vs, es, ep, W⟩ := X8.X;refine zaB (f := 471) T8 W (by kernel_rfl) (by rfl) (by kernel_rfl) ?_;show wpAny _ _ (callWith _ (.ref _) _ (backTo _ (starEach _ _)) []) _ _ _;ext o.cf;ext items_cons
   with_reducible refine zbY X8.Ck ?_
   ext items_cons Constant_str items_nil;refine ⟨T8, ?_⟩;ext call;refine codeAny_mono (R := fun r s' => ∃ h9 tk9 v9, r = .ok (.ret v9) ∧ s' = ⟨h9, gn, d, tk9, os⟩ ∧ Ext [] h8 h9 ∧ ((∃ n' r' tn, zaf (zab rows) k = n' :: r' ∧ v9 = .int n' tn) ∨ (zaf (zab rows) k = [] ∧ ∃ tn, v9 = .str "none" tn))) ?_ (fun r s' q => ?_)
   ·refine zgP (hA.mono (by decide)) hh T8 W low g100 g3 (fun n' r' q h9 tk9 tn e9 => ?_) (fun q h9 tk9 e9 => ?_)
    ·rw [zbl] at q
     exact ⟨h9, tk9, _, rfl, rfl, e9, .inl ⟨n', r', tn, q, rfl⟩⟩
    ·rw [zbl] at q
     exact ⟨h9, tk9, _, rfl, rfl, e9, .inr ⟨q, _, rfl⟩⟩
   obtain ⟨h9, tk9, v9, rfl, rfl, e9, hv9⟩ := q;have z9 := z8.trans (.of e9);have X9 := X5.fext z9;have l9 := l5.ext z9.ext hm5;clear W T8 X8 l8 z8 e9;ext d o.Subscript_ BinOp;refine zaa X9.D.ns mow ?_;ext List items_cons Constant_str items_nil;refine ⟨by simp [sizeLine_eq], ?_⟩;change wpAny _ _ (binaryOp .Add (.ref r5) (.ref h9.objs.size)) _ _ ⟨h9.push { cls := .type "list", data := .seq #[.str "none" tk9] }, _, _, _, _⟩;have e10 : Ext [] h9 (h9.push { cls := .type "list", data := .seq #[.str "none" tk9] }) := Ext.push _ _;have ls10 : (h9.push { cls := .type "list", data := .seq #[.str "none" tk9] }).IsList h9.objs.size #[.str "none" tk9] := ⟨_, get?_push_size _ rfl, rfl, 0, rfl⟩;generalize h9.push { cls := .type "list", data := .seq #[.str "none" tk9] } = h10 at e10 ls10 ⊢;have l10 := l9.ext e10 (by simp);refine zhi l10.ls ls10 (by rw [us5l]; show _ + 1 ≤ 1000; omega) ?_;have e11 : Ext [] h10 (h10.push { cls := .type "list", data := .seq (us5 ++ #[.str "none" tk9]) }) := Ext.push _ _;have ls11 : (h10.push { cls := .type "list", data := .seq (us5 ++ #[.str "none" tk9]) }).IsList h10.objs.size (us5 ++ #[.str "none" tk9]) := ⟨_, get?_push_size _ rfl, rfl, 0, rfl⟩;have l11 := l10.ext e11 (by simp);ext d;generalize h10.push { cls := .type "list", data := .seq (us5 ++ #[.str "none" tk9]) } = h11 at e11 ls11 l11 ⊢;have z11 := z9.trans (.of (e10.and e11));have X11 := X5.fext z11;obtain ⟨y0, hy0, hcmp⟩ : ∃ y0, (us5 ++ #[.str "none" tk9])[0]? = some y0 ∧ ∀ (s' : Shared) (Q' E' : Value → Shared → Prop), Q' (.bool false) s' → wpAny (model P w) A (compareOp .NotEq v9 y0) Q' E' s' := by
    rcases hv9 with ⟨n', r', tn, q, rfl⟩ | ⟨q, tn, rfl⟩
    ·have h0 : 0 < us5.size := by rw [us5l, q]; simp
     have r0 := l11.rd 0 us5[0] (.int n') (Array.getElem?_eq_getElem h0) (by rw [q]; rfl);obtain ⟨t0, e0⟩ := r0.intE;refine ⟨.int n' t0, by rw [Array.getElem?_append_left h0, Array.getElem?_eq_getElem h0, e0], fun s' Q' E' hq => ?_⟩;ext o.PyProof.Rows.ne_int;rw [show (n' != n') = false by simp]; exact hq
    ·have h0 : us5.size = 0 := by rw [us5l, q]; rfl
     have q1 : (us5 ++ #[.str "none" tk9])[0]? = some (Value.str "none" tk9) := by rw [Array.getElem?_append_right (by omega), h0]; eq_refl
     refine ⟨_, q1, fun s' Q' E' hq => ?_⟩;ext o.PyProof.Rows.ne_str;rw [show (("none" : Str) != "none") = false by simp]; exact hq
   clear hv9 ls10 e10 e11 l9 l10 X9 z9;ext Constant_int;refine zgk ls11 (by decide) (by decide) hy0 ?_;refine hcmp _ _ _ ?_;ext truthy_bool;refine hq6 _ _ ?_;rw [if_neg Bool.false_ne_true];clear hcmp hy0 ls11
   with_reducible refine isTrue_or (za5 fun Q6 E6 hq6 => ?_)
   ext isTrue_Compare1 Compare1
   with_reducible refine zbY X11.Ck ?_
   refine zaa X11.D.ns mwh ?_;refine zh0 (hA.mono (by decide)) hh X11 fun h12 tk12 e12 => ?_;have z12 := z11.trans (.of e12);have X12 := X5.fext z12;have l12 := l11.ext e12 (by simp);ext d Compare1;refine zaa X12.D.ns mow ?_;ext List items_nil;refine ⟨by simp, ?_⟩;change wpAny _ _ (compareOp .NotEq (.ref r5) (.ref h12.objs.size)) _ _ ⟨h12.push { cls := .type "list", data := .seq #[] }, _, _, _, _⟩;have e13 : Ext [] h12 (h12.push { cls := .type "list", data := .seq #[] }) := Ext.push _ _;have ls13 : (h12.push { cls := .type "list", data := .seq #[] }).IsList h12.objs.size #[] := ⟨_, get?_push_size _ rfl, rfl, 0, rfl⟩;generalize h12.push { cls := .type "list", data := .seq #[] } = h13 at e13 ls13 ⊢;have z13 := z12.trans (.of e13);have X13 := X5.fext z13;have l13 := l12.ext e13 (by simp);refine zhX hA l13.rdl (.list (b := 0) (zero_le _) ls13 rfl fun i v d q => by simp at q) (zbd _) ?_;ext o.PyProof.Rows.ne_bool truthy_bool;refine hq6 _ _ ?_;rw [if_neg (by rw [zbQ]; cases zaf (zab rows) k <;> simp)];ext o.isTrue_or_nil;rw [if_neg Bool.false_ne_true];ext execs_nil;refine h2 _ ?_;ext execs_nil;refine ⟨n, lt_succ_self n, hin _ _ (xi5 (i + 1) h13 _ mm _ ⟨by omega, rfl, y5.trans z13.ext (fun a q => .inl (by rw [mem_singleton.mp q]; simp)), X13, mwh, mpl, ?_, z13.ext.isList ls5 (nin kL)⟩)⟩;obtain ⟨o, e, hc, hd⟩ := hit5;exact ⟨o, z13.ext.get e (by unfold hasCls; rw [hc]) (nin iL), hc, hd⟩
end
section
open PySem.SeqAt PySem.Spec
abbrev zhE (ps : List (Str × Int)) : PyData := .list (ps.map zan)
def zc0 (ps : List (Str × Int)) : Prop := ps.length ≤ 6 ∧ ∀ p ∈ ps, p.1 ∈ abcd ∧ 0 ≤ p.2 ∧ p.2 < 9
structure LS (w : World) (h₀ : Heap) (h : Heap) (m : Str → Option Value) (kv : Option Value) (st nb : Nat) (at_ : Nat) : Prop where
 T₀ : TopH w h₀
 D : Me [] h₀ h h₀.objs.size m []
 Ck : h.IsCell (h₀.objs.size + 2) kv
 Cs : h.IsCell (h₀.objs.size + 1) (some (.ref st))
 hb : h₀.objs.size + 2 < st ∧ nb ≠ st ∧ h₀.objs.size + 2 < nb
 at_lt : at_ < 900000
 st : ∃ t1, h.IsList st #[.ref nb, .int at_ t1]
 nb : ∃ vs ns, h.IsList nb vs ∧ IntsAre vs.toList ns ∧ 0 < vs.size ∧ vs.size ≤ 100
section
theorem LS.top (X : LS w h₀ h m kv st nb at_) : TopH w h := X.D.top X.T₀ (by simp)
theorem LS.re {M : List Addr} (X : LS w h₀ h m kv st nb at_) (y : Ext M h h') (hM : ∀ a ∈ M, a = h₀.objs.size ∨ a = h₀.objs.size + 2 ∨ h.get? a = none) (n : h'.Ns h₀.objs.size m') (c : h'.IsCell (h₀.objs.size + 2) kv') : LS w h₀ h' m' kv' st nb at_ := by
 obtain ⟨b1, b4, b5⟩ := X.hb;have out : ∀ (a : Nat) o, h.get? a = some o → a ≠ h₀.objs.size → a ≠ h₀.objs.size + 2 → a ∉ M := fun a o e n1 n2 q => by
  rcases hM a q with z | z | z
  ·exact n1 z
  ·exact n2 z
  ·rw [z] at e; cases e
 obtain ⟨t1, est⟩ := X.st;obtain ⟨vs, ns, enb, r⟩ := X.nb;have D' : Me [] h₀ h' h₀.objs.size m' [] := ⟨X.D.ext.trans y fun a q => by
  rcases hM a q with rfl | rfl | z
  ·exact .inr (zag _)
  ·exact .inr (zac (le_add_right _ _))
  ·exact .inr (X.D.ext.fresh z), n, fun _ q => (nomatch q), nodup_nil, fun _ q => (nomatch q), fun _ q => (nomatch q), X.D.offL⟩
 have oc : h₀.objs.size + 1 ∉ M := by
  obtain ⟨o, e, _⟩ := X.Cs;exact out _ o e (ne_of_gt (lt_succ_self _)) (ne_of_lt (lt_succ_self _))
 have ost : st ∉ M := by obtain ⟨o, e, _⟩ := est; exact out _ o e (by omega) (by omega)
 have onb : nb ∉ M := by obtain ⟨o, e, _⟩ := enb; exact out _ o e (by omega) (by omega)
 exact ⟨X.T₀, D', c, y.cell X.Cs oc, X.hb, X.at_lt, ⟨t1, y.isList est ost⟩, ⟨vs, ns, y.isList enb onb, r⟩⟩
theorem LS.next (X : LS w h₀ h m kv st nb at_) {t3 : Tok} {k : Nat} (y : Ext [st] h h') (l : h'.IsList st #[.ref nb, .int (k : Nat) t3]) (hk : k < 900000) : LS w h₀ h' m kv st nb k := by
 obtain ⟨b1, b4, b5⟩ := X.hb;obtain ⟨vs, ns, enb, r⟩ := X.nb;have off : h₀.get? st = none := zac (by omega);have D' : Me [] h₀ h' h₀.objs.size m [] := ⟨X.D.ext.trans y fun a q => by rw [mem_singleton.mp q]; exact .inr off, zaA y X.D.ns (nin (by omega)), fun _ q => (nomatch q), nodup_nil, fun _ q => (nomatch q), fun _ q => (nomatch q), X.D.offL⟩;exact ⟨X.T₀, D', y.cell X.Ck (nin (by omega)), y.cell X.Cs (nin (by omega)), X.hb, hk, ⟨t3, l⟩, ⟨vs, ns, y.isList enb (nin (by omega)), r⟩⟩
theorem LS.ext (X : LS w h₀ h m kv st nb at_) (y : Ext [] h h') : LS w h₀ h' m kv st nb at_ :=
 X.re y (fun _ q => nomatch q) (zaA y X.D.ns (by simp)) (y.cell X.Ck (by simp))
end
theorem zij {A : Around} {Q : Flow → Shared → Prop} : ∀ (hA : Rm 380 A) (hh : A.handled = none) (X : LS w h₀ h m kv st nb at_) (hat : at_ < 1000) (hQ : ∀ h' tk rl rus (pss : List (List (Str × Int))) at2, LS w h₀ h' (fun y => if y = "rows" then some (.ref rl) else m y) kv st nb at2 → LsAt (h₀.objs.size + 3) h' rl rus (pss.map zhE) → pss.length ≤ 4 → (∀ ps ∈ pss, zc0 ps) → at2 < 2000 → Q .next ⟨h', gn, d, tk, os⟩), wpAny (model P w) A (exec (zat w 1) (zaq w h₀.objs.size)) Q E ⟨h, gn, d, t, os⟩ := by
 unhygienic
 revert hen w A E h₀ h gn d t os st nb m kv at_ Q
 haveI T := X.top
 obtain ⟨b1, b4, b5⟩ := X.hb;obtain ⟨t1, est⟩ := X.st;obtain ⟨nvs, ns, enb, hi, hl, hl2⟩ := X.nb;have Lst : st ≠ h₀.objs.size := by omega
 have Cst : h₀.objs.size + 1 ≠ st := by omega
 haveI stlow : 604 ≤ st := le_trans X.T₀.low (by omega)
 have sth : st < h.objs.size := by obtain ⟨o, e, _⟩ := est; exact lt_size e
 have Lh : h₀.objs.size < h.objs.size := X.D.ns.lt;revert hen t1 nvs ns;delta zat
 conv => arg 3; arg 1; whnf
 with_reducible refine zcJ (cl := [(Str.ofString "state", h₀.objs.size + 1)]) ?_ ?_ ?_ ?_ ?_ ?_ fun _ => ?_
 iterate 3 rfl
 iterate 2 decide
 rotate_left
 rfl;ext Call_NameR;refine zae (by assumption) rfl rfl rfl (by boot_by_name) (by decide) ?_;ext o.call_bi items_cons Call_NameR;refine zaj (by assumption) rfl (by rfl) ?_;ext o.cf;ext items_cons;refine wpAny_Name (wpAny_loadName_cell rfl rfl (c := h₀.objs.size + 1) rfl X.Cs ?_) (by decide);ext items_cons Constant_int items_nil;refine ⟨T, ?_⟩;ext call;refine zbf (hA.mono (by decide)) hh T est enb hi hl hl2 (by omega) (by decide) (by decide) b4 stlow (fun h2 tk2 cnt tcn t3 y2 hst2 hc0 hc5 => ?_);ext d;revert hen h2 tk2 cnt tcn t3;ext items_nil o.call_range_1
 try dsimp only
 refine wpAny_pyIter_range (IsRange.new ..) (small_one (by decide) (by decide) (by omega) (by omega)) ?_;rw [rangeSize_one];have hcn : (if (0 : Int) < cnt then cnt - 0 else 0) = cnt := by split <;> omega
 rw [hcn]
 try dsimp only
 have X2 := X.next y2 hst2 (by omega)
 haveI e3 : Ext [] h2 (h2.push { cls := .type "range", data := .fields #[.int 0 tk2, .int cnt tcn, .int 1 (tk2 + 1)] }) := Ext.push _ _
 haveI X3 := X2.ext e3
 haveI y3 : Ext [st] h (h2.push { cls := .type "range", data := .fields #[.int 0 tk2, .int cnt tcn, .int 1 (tk2 + 1)] }) := y2.and e3
 letI hst2 := e3.isList hst2 (by simp)
 generalize h2.push { cls := .type "range", data := .fields #[.int 0 tk2, .int cnt tcn, .int 1 (tk2 + 1)] } = h3 at X3 y3 hst2 ⊢;clear X2 e3 y2
 haveI nit : h.get? h3.objs.size = none := y3.fresh (zag _)
 haveI e4 : Ext [] h3 (h3.push { cls := .type "range_iterator", data := .fields #[rawInt 0, rawInt cnt, rawInt 1] }) := Ext.push _ _
 haveI hit : IsRangeIter (h3.push { cls := .type "range_iterator", data := .fields #[rawInt 0, rawInt cnt, rawInt 1] }) h3.objs.size 0 cnt 1 := get?_push_size _ rfl
 haveI X4 := X3.ext e4
 haveI y4 := y3.and e4
 letI hst2 := e4.isList hst2 (by simp)
 haveI Lit : h₀.objs.size < h3.objs.size := X3.D.ns.lt
 haveI Cit : h₀.objs.size + 2 < h3.objs.size := by obtain ⟨o, e, _⟩ := X3.Ck; exact lt_size e
 haveI stit : st < h3.objs.size := by obtain ⟨_, o, e, _⟩ := X3.st; exact lt_size e
 generalize h3.objs.size = it at nit hit Lit Cit stit ⊢;generalize h3.push { cls := .type "range_iterator", data := .fields #[rawInt 0, rawInt cnt, rawInt 1] } = h4 at X4 y4 hst2 hit ⊢;clear e4 X3 y3 h3;refine ⟨fun E' Q' h' k tk q => wpAny_pyIter_rangeiter (s := ⟨h', _, _, _, _⟩) (k _ _ hit) q, ?_⟩;intro h5 Cc tk k5 eacc hC nC;revert hen it h4 h5 Cc tk
 try dsimp only at k5 eacc hC ⊢
 haveI nacc : h.get? h4.objs.size = none := y4.fresh (zag _)
 haveI ia : it < h4.objs.size := lt_size hit
 haveI aC : h4.objs.size < Cc := by rw [hC]; exact lt_succ_self _
 haveI nCc : h.get? Cc = none := y4.fresh (zac (le_of_lt aC))
 letI hit : IsRangeIter h5 it 0 cnt 1 := k5 _ _ hit
 replace hst2 := (Ext.of_keeps k5).isList hst2 (by simp);have X5 := X4.ext (.of_keeps k5);have y5 := y4.and (.of_keeps k5);generalize h4.objs.size = acc at *;clear k5 hC y4 X4;revert hen acc;refine codeAny_compLoop_list (fun n s' => ∃ (i : Nat), ∃ h' tk' mC ys ny, ∃ (at2 : Nat), ∃ pss : List (List (Str × Int)), (n : Int) + (i : Int) = cnt ∧ s' = ⟨h', gn, d, tk', os⟩ ∧ Ext [st] h h' ∧ LS w h₀ h' m kv st nb at2 ∧ h'.Ns Cc mC ∧ IsRangeIter h' it (i : Int) (cnt - (i : Int)) 1 ∧ h'.get? acc = some (zad ys ny) ∧ RdAll (Cc + 1) h' ys (pss.map zhE) ∧ pss.length = i ∧ at2 ≤ at_ + 1 + 13 * i ∧ ∀ ps ∈ pss, zc0 ps) ?_ cnt.toNat
  ⟨0, h5, _, _, #[], 0, at_ + 1, [], by omega, rfl, y5, X5, nC, by simpa using hit, eacc, .nil, rfl, by omega, fun p q => nomatch q⟩
 clear X5 y5 nC hst2 hit eacc;rintro n s' ⟨i, h', tk', mC, ys, ny, at2, pss, hn, rfl, y, X', nC, hit, ey, rd, lp, lat, good⟩;have LC : Cc ≠ h₀.objs.size := ne_of_gt (lt_trans Lit (lt_trans ia aC));have La : acc ≠ h₀.objs.size := ne_of_gt (lt_trans Lit ia)
 haveI Cia : it ≠ Cc := ne_of_lt (lt_trans ia aC)
 have cC : Cc ≠ h₀.objs.size + 2 := ne_of_gt (lt_trans Cit (lt_trans ia aC));have iC : it ≠ h₀.objs.size + 2 := ne_of_gt Cit;have iL : it ≠ h₀.objs.size := ne_of_gt Lit;have exL : ∃ o, h.get? h₀.objs.size = some o := by obtain ⟨o, _, _, e, _⟩ := X.D.ns; exact ⟨o, e⟩
 have exk : ∃ o, h.get? (h₀.objs.size + 2) = some o := by obtain ⟨o, e, _⟩ := X.Ck; exact ⟨o, e⟩
 have exs : ∃ o, h.get? (h₀.objs.size + 1) = some o := by obtain ⟨o, e, _⟩ := X.Cs; exact ⟨o, e⟩
 haveI est' : ∃ o, h.get? st = some o := by obtain ⟨o, e, _⟩ := est; exact ⟨o, e⟩
 have enb' : ∃ o, h.get? nb = some o := by obtain ⟨o, e, _⟩ := enb; exact ⟨o, e⟩
 have nx : ∀ {a c : Nat}, h.get? a = none → (∃ o, h.get? c = some o) → c ≠ a := fun {a c} na ⟨o, e⟩ z => by rw [z, na] at e; cases e
 have ownL : ∀ (h1 h2 : Heap) (m1 : Str → Option Value) (a : Nat) (atn : Nat), h.get? a = none → LS w h₀ h1 m1 kv st nb atn → Heap.ExtBut a h1 h2 → LS w h₀ h2 m1 kv st nb atn := by
  intro h1 h2 m1 a atn na Z he;refine ⟨Z.T₀, ?_, zak Z.Ck he (nx na exk), zak Z.Cs he (nx na exs), Z.hb, Z.at_lt, ?_, ?_⟩
  ·exact Z.D.ownE he (X.D.ext.fresh na) (nx na exL)
  ·obtain ⟨t1, o, e, r⟩ := Z.st; exact ⟨t1, o, he _ _ (nx na est') e, r⟩
  ·obtain ⟨vs, ns, ⟨o, e, r⟩, r2⟩ := Z.nb; exact ⟨vs, ns, ⟨o, he _ _ (nx na enb') e, r⟩, r2⟩
 haveI ownY : ∀ (h1 h2 : Heap) (a : Nat), h.get? a = none → Ext [st] h h1 → Heap.ExtBut a h1 h2 → Ext [st] h h2 := by
  intro h1 h2 a na y1 he;refine ⟨fun c o e q => ?_, fun c o e => ?_⟩
  ·rcases y1.keep c o e q with z | ⟨ht, ps, more, rfl, z, kz⟩
   ·exact .inl (he c o (nx na ⟨_, e⟩) z)
   ·exact .inr ⟨ht, ps, more, rfl, he c _ (nx na ⟨_, e⟩) z, kz⟩
  ·obtain ⟨o', z⟩ := y1.there c o e
   exact ⟨o', he c o' (nx na ⟨_, e⟩) z⟩
 cases n with
 | zero =>
  refine wpAny_pyNext_range_end hh hit (by omega) (fun h6 he => ?_)
  haveI X6 := ownL _ h6 _ _ _ nit X' he
  have nC6 : h6.Ns Cc mC := let ⟨o, es, ep, q, r⟩ := nC; ⟨o, es, ep, he _ _ (Ne.symm Cia) q, r⟩
  replace ey := he _ _ (ne_of_gt ia) ey;replace rd := rd.same he (lt_succ_of_lt (lt_trans ia aC));ext d assign_Name;refine wpAny_storeName_local rfl X6.D.ns (fun h7 hn7 hs7 => ?_) rfl
  letI hs7 : Heap.SameBut h₀.objs.size h6 h7 := hs7
  have X7 : LS w h₀ h7 (fun y => if y = "rows" then some (.ref acc) else m y) kv st nb at2 := X6.re (M := [h₀.objs.size]) (.sameBut hs7 (let ⟨o, _, _, e, _⟩ := hn7; ⟨o, e⟩)) (fun a q => .inl (mem_singleton.mp q)) hn7 (zak X6.Ck hs7.extBut (ne_of_gt (lt_add_of_pos_right (by decide))));refine ⟨mC, nC6.sameBut hs7 LC, fun h8 sb8 => ?_⟩;ext d;have X8 := ownL _ h8 _ _ _ nCc X7 sb8.extBut;replace ey := (sb8.2 _ (ne_of_lt aC)).trans ((hs7.2 _ La).trans ey);replace rd := (rd.same hs7.extBut (lt_succ_of_lt (lt_trans Lit (lt_trans ia aC)))).same sb8.extBut (lt_succ_self _)
  haveI b3 : h₀.objs.size + 3 ≤ acc := le_trans (succ_le_of_lt Cit) (le_of_lt ia)
  refine hQ h8 _ acc ys pss at2 X8 ((rd.mono (le_trans b3 (le_succ_of_le (le_of_lt aC)))).at ey b3) (by omega) good (by omega)
 | succ n =>
  revert hen i h' tk' mC ys ny at2 pss n;refine wpAny_pyNext_range_item hit (by omega) (fun h5 hit5 sb5 => ?_)
  letI sb5 : Heap.SameBut it h' h5 := sb5
  have X5 := ownL _ h5 _ _ _ nit X' sb5.extBut;have y5 := ownY _ h5 _ nit y sb5.extBut;replace nC := nC.sameBut sb5 (Ne.symm Cia);replace ey := (sb5.2 _ (ne_of_gt ia)).trans ey;replace rd := rd.same sb5.extBut (lt_succ_of_lt (lt_trans ia aC));ext d;clear sb5 hit X' y;ext assign_Name;refine wpAny_storeName_local rfl nC (fun h6 hn6 hs6 => ?_) rfl
  letI hs6 : Heap.SameBut Cc h5 h6 := hs6
  haveI X6 := ownL _ h6 _ _ _ nCc X5 hs6.extBut
  have y6 := ownY _ h6 _ nCc y5 hs6.extBut;replace ey := (hs6.2 _ (ne_of_lt aC)).trans ey;replace rd := rd.same hs6.extBut (lt_succ_self _);replace hit5 : IsRangeIter h6 it _ _ _ := (hs6.2 _ Cia).trans hit5;ext d;clear hs6 nC X5 y5
  haveI T6 := X6.top
  obtain ⟨t2, est6⟩ := X6.st;obtain ⟨nvs6, ns6, enb6, hi6, hl6, hl26⟩ := X6.nb;revert hen h6 t2 nvs6 ns6;ext Call_NameR;refine zaj (by assumption) rfl (by rfl) ?_;ext o.cf;ext items_cons;refine wpAny_Name (wpAny_loadName_cell rfl rfl (c := h₀.objs.size + 1) rfl X6.Cs ?_) (by decide);ext items_nil;refine ⟨T6, ?_⟩;ext call;refine zfd (hA.mono (by decide)) hh T6 est6 enb6 hi6 hl6 hl26 (by omega) b4 stlow (fun h7 tk7 r us ps at3 t4 e7 l7 la3 ls7 lps gps => ?_);dsimp only at ls7 ⊢;have C6 : Cc < h6.objs.size := hn6.lt;have X7 := X6.next e7 l7 (by omega);have y7 := y6.trans e7 (fun a q => .inl q);have stC : st ≠ Cc := nx nCc est';have sta : st ≠ acc := nx nacc est';have sti : st ≠ it := nx nit est';replace hn6 := zaA e7 hn6 (nin (Ne.symm stC));replace ey := e7.get ey rfl (nin (Ne.symm sta))
  letI rd := (rd.ext e7 (fun a q => .inl (by rw [mem_singleton.mp q]; exact lt_succ_of_lt (lt_trans stit (lt_trans ia aC))))).snoc (ls7.rdl.mono (b' := Cc + 1) C6)
  replace hit5 : IsRangeIter h7 it _ _ _ := e7.get hit5 rfl (nin (Ne.symm sti));have sy : ys.size = i := by have := rd.1; rw [Array.size_push, length_append, length_map, List.length_singleton] at this; omega
  revert hen h7 tk7 r us ps at3 t4;refine zao ey (by omega) (fun h10 n10 e10 sb10 => ?_)
  letI sb10 : Heap.SameBut acc h7 h10 := sb10
  ext d;revert hen h10 n10;refine ⟨n, lt_succ_self n, i + 1, h10, _, _, _, n10, at3, pss ++ [ps], by omega, rfl, ownY _ h10 _ nacc y7 sb10.extBut, ownL _ h10 _ _ _ nacc X7 sb10.extBut, hn6.sameBut sb10 (ne_of_gt aC), ?_, e10, ?_, by rw [length_append, lp]; rfl, by omega, ?_⟩
  ·have := (sb10.2 _ (ne_of_lt ia)).trans hit5
   have z : cnt - ((i + 1 : Nat) : Int) = cnt - (i : Int) - 1 := by omega
   rw [z];exact this
  ·rw [map_append]
   exact rd.same sb10.extBut (lt_succ_of_lt aC)
  ·intro p hp
   rcases mem_append.mp hp with hp | hp
   ·exact good p hp
   ·rw [mem_singleton.mp hp]; exact ⟨lps, gps⟩
end
section
open PySem.SeqAt PySem.Spec
section
theorem Ext.own (y : Ext [] h h1) (na : h.get? a = none) (he : Heap.ExtBut a h1 h2) : Ext [] h h2 := by
 have nx : ∀ {c o}, h.get? c = some o → c ≠ a := fun e z => by rw [z, na] at e; cases e
 refine ⟨fun c o e q => ?_, fun c o e => ?_⟩
 ·rcases y.keep c o e q with z | ⟨ht, ps, more, rfl, z, kz⟩
  ·exact .inl (he c o (nx e) z)
  ·exact .inr ⟨ht, ps, more, rfl, he c _ (nx e) z, kz⟩
 ·obtain ⟨o', z⟩ := y.there c o e
  exact ⟨o', he c o' (nx e) z⟩
theorem MDI.ownE {ep : Addr} {g : Grp} (X : MDI w b h1 x g dx kvs es ep) (he : Heap.ExtBut a h1 h2) (ha : a < b) : MDI w b h2 x g dx kvs es ep := by
 have ne : ∀ {c : Addr}, b ≤ c → c ≠ a := fun {c} hc q => absurd (q ▸ hc) (not_le.mpr ha);refine ⟨X.lx, X.ld, X.dd.get ((he _ _ (ne X.lx) X.dd.at_).trans X.dd.at_.symm), he _ _ (ne X.ld) X.own, X.gl.len, fun i k v q => ?_, X.gl.inj⟩;obtain ⟨ns, c, e1, e2, hb, va, na, ea, ia⟩ := X.gl.at_ i k v q;exact ⟨ns, c, e1, e2, hb, va, na, he _ _ (ne hb) ea, ia⟩
theorem LM.ownE {ys : Array Value} (X : LM w b h1 ys gs) (he : Heap.ExtBut a h1 h2) (ha : a < b) : LM w b h2 ys gs :=
 ⟨X.1, fun i g q => let ⟨m, dx, kvs, es, ep, e1, e2⟩ := X.2 i g q; ⟨m, dx, kvs, es, ep, e1, e2.ownE he ha⟩⟩
theorem LM.snoc {ep : Addr} {ys : Array Value} {g : Grp} (X : LM w b h ys gs) (M : MDI w b h x g dx kvs es ep) : LM w b h (ys.push (.ref x)) (gs ++ [g]) := by
 refine ⟨by rw [Array.size_push, length_append, X.1]; rfl, fun i g' q => ?_⟩
 by_cases hi : i < gs.length
 ·rw [getElem?_append_left hi] at q
  obtain ⟨m, dx', kvs', es', ep', e1, e2⟩ := X.2 i g' q;have hi' : i < ys.size := by rw [X.1]; exact hi
  exact ⟨m, dx', kvs', es', ep', by rw [getElem?_push, if_neg (by omega)]; exact e1, e2⟩
 ·have hl := (List.getElem?_eq_some_iff.mp q).1
  rw [length_append, List.length_singleton] at hl;have : i = gs.length := by omega
  subst this;rw [getElem?_append_right (le_refl _), sub_self] at q;cases q;exact ⟨x, dx, kvs, es, ep, by rw [getElem?_push, if_pos X.1.symm], M⟩
end
theorem zig {A : Around} {t : Nat} {pss : List (List (Str × Int))} {Q : Flow → Shared → Prop} : ∀ (hA : Rm 380 A) (hh : A.handled = none) (X : LS w h₀ h m kv st nb at_) (mr : m "rows" = some (.ref rl)) (lr : LsAt (h₀.objs.size + 3) h rl rus (pss.map zhE)) (hn : pss.length ≤ 4) (hg : ∀ ps ∈ pss, zc0 ps) (hQ : ∀ h' tk x (b : Nat), LS w h₀ h' (fun y => if y = "whole" then some (.ref x) else m y) kv st nb at_ → (∃ dx dl hsh t n c vs es ep, WH w b h' x (pss.map grp) dx dl hsh t n c vs es ep) → LsAt (h₀.objs.size + 3) h' rl rus (pss.map zhE) → st < b → nb < b → Q .next ⟨h', gn, d, tk, os⟩), wpAny (model P w) A (exec (zat w 2) (zaq w h₀.objs.size)) Q E ⟨h, gn, d, t, os⟩ := by
 unhygienic
 revert hen w A E h₀ h gn d t os st nb m kv at_ rl rus pss Q
 haveI T := X.top
 haveI Lh : h₀.objs.size < h.objs.size := X.D.ns.lt
 haveI sth : st < h.objs.size := by obtain ⟨_, o, e, _⟩ := X.st; exact lt_size e
 haveI nbh : nb < h.objs.size := by obtain ⟨_, _, ⟨o, e, _⟩, _⟩ := X.nb; exact lt_size e
 delta zat;ext Assign_Name Call_NameR;refine zaj (by assumption) rfl (by rfl) ?_;ext o.cf;ext items_cons;refine zcr (cl := []) (by rfl) rfl (by decide) (by decide) ?_;refine zaa X.D.ns mr ?_;refine wpAny_pyIter_list lr.ls ?_
 haveI nit : h.get? h.objs.size = none := zag _
 have lit0 : h.objs.size ≤ h.objs.size := le_refl _
 haveI y2 : Ext [] h (h.push { cls := .type "list_iterator", data := .fields #[.ref rl, .int 0 0] }) := Ext.push _ _
 haveI hit : (h.push { cls := .type "list_iterator", data := .fields #[.ref rl, .int 0 0] }).IsListIter h.objs.size rl 0 := ⟨_, get?_push_size _ rfl, rfl, rfl⟩
 haveI sz2 : h.objs.size < (h.push { cls := .type "list_iterator", data := .fields #[.ref rl, .int 0 0] }).objs.size := by rw [size_push]; exact lt_succ_self _
 ext d;generalize hit0 : h.objs.size = it at nit hit sz2 lit0 ⊢;generalize h.push { cls := .type "list_iterator", data := .fields #[.ref rl, .int 0 0] } = h2 at y2 hit sz2 ⊢;refine ⟨fun E' Q' h' k tk q => wpAny_pyIter_listiter (s := ⟨h', _, _, _, _⟩) (hit.at fun o e => k _ _ e) q, ?_⟩;intro h5 Cc tk k5 eacc hC nC;have nacc : h.get? h2.objs.size = none := y2.fresh (zag _)
 haveI ia : it < h2.objs.size := sz2
 haveI aC : h2.objs.size < Cc := by rw [hC]; exact lt_succ_self _
 haveI nCc : h.get? Cc = none := y2.fresh (zac (le_of_lt aC))
 letI hit := hit.at fun o e => k5 _ _ e
 have y5 := y2.and (.of_keeps k5);generalize h2.objs.size = acc at *;clear k5 hC y2 sz2 h2
 haveI Cia : it ≠ Cc := ne_of_lt (lt_trans ia aC)
 have stC : st < Cc + 1 := by rw [hit0] at sth; exact lt_succ_of_lt (lt_trans sth (lt_trans ia aC))
 have nbC : nb < Cc + 1 := by rw [hit0] at nbh; exact lt_succ_of_lt (lt_trans nbh (lt_trans ia aC))
 revert hen it h5 Cc tk acc;refine codeAny_compLoop_list (fun n s' => ∃ (i : Nat), ∃ h' tk' mC ys ny, n + i = pss.length ∧ s' = ⟨h', gn, d, tk', os⟩ ∧ Ext [] h h' ∧ h'.Ns Cc mC ∧ h'.IsListIter it rl i ∧ h'.get? acc = some (zad ys ny) ∧ LM w (Cc + 1) h' ys ((pss.take i).map grp)) ?_ pss.length
  ⟨0, h5, _, _, #[], 0, rfl, rfl, y5, nC, hit, eacc, ⟨rfl, fun i g q => by simp at q⟩⟩
 clear y5 nC hit eacc;rintro n s' ⟨i, h', tk', mC, ys, ny, hn', rfl, y, nC, hit, ey, lm⟩
 haveI lr' := lr.ext y (by simp)
 cases n with
 | zero =>
  have hi : i = pss.length := by omega
  refine wpAny_pyNext_list_end hh hit lr'.ls (by rw [Array.getElem?_eq_none_iff, lr'.sz, length_map]; omega) (fun h6 he => ?_);have y6 := y.own nit he
  haveI nC6 : h6.Ns Cc mC := let ⟨o, es, ep, q, r⟩ := nC; ⟨o, es, ep, he _ _ (Ne.symm Cia) q, r⟩
  replace ey := he _ _ (ne_of_gt ia) ey;have lm6 : LM w (Cc + 1) h6 ys (pss.map grp) := by
   rw [hi, take_length] at lm;exact lm.ownE he (lt_succ_of_lt (lt_trans ia aC))
  ext d;refine ⟨mC, nC6, fun h7 sb7 => ?_⟩
  haveI y7 := y6.own nCc sb7.extBut
  replace ey := (sb7.2 _ (ne_of_lt aC)).trans ey
  letI sb7 : Heap.SameBut Cc h6 h7 := sb7
  haveI lm7 := lm6.ownE sb7.extBut (lt_succ_self _)
  ext items_nil
  haveI T7 := T.ext y7 (by simp)
  refine ⟨T7, ?_⟩;ext call;have sz7 : Cc + 1 ≤ h7.objs.size := by rw [sb7.1]; exact succ_le_of_lt nC6.lt
  refine zdx (hA.mono (by decide)) T7 ey lm7 sz7 (by rw [lm7.1, length_map]; omega) (fun h8 tk8 x dx l hsh tt n c es ep e8 W => ?_);ext d
  haveI X8 := X.ext (y7.and e8)
  refine wpAny_storeName_local rfl X8.D.ns (fun h9 hn9 hs9 => ?_) rfl
  letI hs9 : Heap.SameBut h₀.objs.size h8 h9 := hs9
  haveI y9 : Ext [h₀.objs.size] h8 h9 := .sameBut hs9 (let ⟨o, _, _, e, _⟩ := hn9; ⟨o, e⟩)
  have X9 := X8.re y9 (fun a q => .inl (mem_singleton.mp q)) hn9 (zak X8.Ck hs9.extBut (ne_of_gt (lt_add_of_pos_right (by decide))));have LC : h₀.objs.size < Cc + 1 := by rw [hit0] at Lh; exact lt_succ_of_lt (lt_trans Lh (lt_trans ia aC))
  exact hQ h9 _ x (Cc + 1) X9 ⟨_, _, _, _, _, _, _, _, _, W.ext y9 fun a q => .inl (by rw [mem_singleton.mp q]; exact LC)⟩ ((lr.ext (y7.and e8) (by simp)).ext y9 fun a q => .inl (by rw [mem_singleton.mp q]; exact lt_add_of_pos_right (by decide))) stC nbC
 | succ n =>
  haveI hi : i < pss.length := by omega
  obtain ⟨v, hv, rv⟩ := lr.item (i := i) (d := zhE pss[i]) (by rw [getElem?_map, getElem?_eq_getElem hi]; rfl);obtain ⟨ra, rvs, rfl, lra⟩ := LsAt.of rv;refine wpAny_pyNext_list_item hit lr'.ls hv (fun h5 hit5 sb5 => ?_)
  letI sb5 : Heap.SameBut it h' h5 := sb5
  have y5 := y.own nit sb5.extBut;replace nC := nC.sameBut sb5 (Ne.symm Cia);replace ey := (sb5.2 _ (ne_of_gt ia)).trans ey;replace lm := lm.ownE sb5.extBut (lt_succ_of_lt (lt_trans ia aC));ext d assign_Name;refine wpAny_storeName_local rfl nC (fun h6 hn6 hs6 => ?_) rfl
  letI hs6 : Heap.SameBut Cc h5 h6 := hs6
  haveI y6 := y5.own nCc hs6.extBut
  replace ey := (hs6.2 _ (ne_of_lt aC)).trans ey;replace hit5 := hit5.at fun o e => (hs6.2 it Cia).trans e
  letI lm := lm.ownE hs6.extBut (lt_succ_self _)
  have lra6 : LsAt (h₀.objs.size + 3) h6 ra rvs (pss[i].map zan) := lra.ext y6 (by simp);ext d;clear sb5 hs6 nC y5 y
  haveI T6 := T.ext y6 (by simp)
  ext Call_NameR;refine zaj (by assumption) rfl (by rfl) ?_;ext o.cf;ext items_cons;refine zaa hn6 ((if_pos (by decide))) ?_;ext items_nil;refine ⟨T6, ?_⟩;ext call;refine zfs (hA.mono (by decide)) hh T6 lra6 (by have := (hg _ (getElem_mem hi)).1; omega) (fun h7 tk7 x dx kvs es ep e7 M => ?_);dsimp only at M ⊢;have C6 : Cc + 1 ≤ h6.objs.size := succ_le_of_lt hn6.lt;replace ey := e7.get ey rfl (by simp);have lm7 := lm.ext e7 (by simp);have sy : ys.size ≤ 4 := by rw [lm.1, length_map, length_take]; omega
  refine zao ey (by omega) (fun h10 n10 e10 sb10 => ?_)
  letI sb10 : Heap.SameBut acc h7 h10 := sb10
  ext d;refine ⟨n, lt_succ_self n, i + 1, h10, _, _, _, n10, by omega, rfl, (y6.and e7).own nacc sb10.extBut, (zaA e7 hn6 (by simp)).sameBut sb10 (ne_of_gt aC), ?_, e10, ?_⟩
  ·obtain ⟨o, e, hc, hd⟩ := hit5
   exact ⟨o, (sb10.2 _ (ne_of_lt ia)).trans (e7.get e (by unfold hasCls; rw [hc]) (by simp)), hc, hd⟩
  ·have tk1 : pss.take (i + 1) = pss.take i ++ [pss[i]] := by rw [take_succ_eq_append_getElem hi]
   rw [tk1, map_append];exact (lm7.snoc (M.mono C6)).ownE sb10.extBut (lt_succ_of_lt aC)
end
section
open PySem.SeqAt PySem.Spec
theorem IsList.butIt {it l : Addr} {i : Nat} (hit : h.IsListIter it l i) (he : Heap.ExtBut it h h') (x : h.IsList a vs) : h'.IsList a vs := by
 obtain ⟨o, e, hc, hd⟩ := x;refine ⟨o, he a o (fun q => ?_) e, hc, hd⟩;obtain ⟨o', e', hc', _⟩ := hit;rw [q, e'] at e; cases e; rw [hc'] at hc; exact nomatch hc
theorem IsTup.butIt {it l : Addr} {i : Nat} (hit : h.IsListIter it l i) (he : Heap.ExtBut it h h') (x : IsTup h a vs) : IsTup h' a vs := by
 obtain ⟨o, e, hc, hd⟩ := x;refine ⟨o, he a o (fun q => ?_) e, hc, hd⟩;obtain ⟨o', e', hc', _⟩ := hit;rw [q, e'] at e; cases e; rw [hc'] at hc; exact nomatch hc
theorem Rd.butIt {it l : Addr} {i : Nat} {d : PyData} (hit : h.IsListIter it l i) (he : Heap.ExtBut it h h') (x : Rd b h v d) : Rd b h' v d := by
 induction x with
 | int i t => exact .int i t
 | str x t => exact .str x t
 | list h1 h2 h3 _ ih => exact .list h1 (IsList.butIt hit he h2) h3 ih
 | tup h1 h2 h3 _ ih => exact .tup h1 (IsTup.butIt hit he h2) h3 ih
theorem LsAt.butIt {it l : Addr} {i : Nat} (hit : h.IsListIter it l i) (he : Heap.ExtBut it h h') (x : LsAt b h a vs ds) : LsAt b h' a vs ds :=
 ⟨x.le, IsList.butIt hit he x.ls, x.sz, fun i v d e1 e2 => (x.rd i v d e1 e2).butIt hit he⟩
theorem LsAt.mono {c : Addr} (x : LsAt b h a vs ds) (l : c ≤ b) : LsAt c h a vs ds :=
 ⟨le_trans l x.le, x.ls, x.sz, fun i v d e1 e2 => (x.rd i v d e1 e2).mono l⟩
theorem RdAll.app {es : List PyData} (x : RdAll b h vs ds) (y : RdAll b h ws es) : RdAll b h (vs ++ ws) (ds ++ es) := by
 refine ⟨by rw [size_append, length_append, x.1, y.1], fun i v d e1 e2 => ?_⟩
 by_cases hi : i < vs.size
 ·rw [Array.getElem?_append_left hi] at e1
  rw [getElem?_append_left (by rw [← x.1]; exact hi)] at e2;exact x.2 i v d e1 e2
 ·rw [Array.getElem?_append_right (by omega)] at e1
  rw [getElem?_append_right (by rw [← x.1]; omega), ← x.1] at e2;exact y.2 _ v d e1 e2
theorem Ext.ownM {M : List Addr} (y : Ext M h h1) (na : h.get? a = none) (he : Heap.ExtBut a h1 h2) : Ext M h h2 := by
 have nx : ∀ {c o}, h.get? c = some o → c ≠ a := fun e z => by rw [z, na] at e; cases e
 refine ⟨fun c o e q => ?_, fun c o e => ?_⟩
 ·rcases y.keep c o e q with z | ⟨ht, ps, more, rfl, z, kz⟩
  ·exact .inl (he c o (nx e) z)
  ·exact .inr ⟨ht, ps, more, rfl, he c _ (nx e) z, kz⟩
 ·obtain ⟨o', z⟩ := y.there c o e
  exact ⟨o', he c o' (nx e) z⟩
section
theorem TurnOk.name {x : Str} {l : Nat} {dx : PyData} {f : PyData → Option PyData}
  (hk : scope.kind = .function) (hx : ∀ C, (zam scope cl C env).kindOf x = some .local)
  (h : ∀ (E : Value → Shared → Prop) (p : Addr → Prop) h' tk C m u, (∀ a, C < a → p a) → ¬ p C → zaz s₁.heap h' → h'.Ns C m → s₁.heap.get? C = none → m x = some u → RdP p h' u dx →
   wpAny (model P w) A (forIn ifs true fun c r => if r = true then do let ok ← isTrue c (zam scope cl C env) (eval c (zam scope cl C env)); pure (ForInStep.yield ok) else pure (ForInStep.yield r)) (fun ok s₃ =>
    match f dx with
    | none => ok = false ∧ Turned C s₁ h' s₃
    | some d' => ok = true ∧ wpAny (model P w) A (eval elt (zam scope cl C env)) (fun u s₄ => RdP p s₄.heap u d' ∧ Turned C s₁ h' s₄) E s₃) E ⟨h', s₁.gens, s₁.drawn, tk, s₁.os⟩) :
  TurnOk w A elt (.Name x px) ifs scope cl env s₁ l dx f := by
 intro E p h' tk C mC it j v hp hC kp hit nC fC rv;have hk' : ∀ C, ((zam scope cl C env).scope.kind == .class || ((zam scope cl C env).scope.kind == .module && (zam scope cl C env).locals != (zam scope cl C env).globals)) = false := fun C => by
  show (scope.kind == .class || (scope.kind == .module && _)) = false;rw [hk]; rfl
 ext pure assign_Name;refine wpAny_storeName_local (s := ⟨h', _, _, _, _⟩) (hx C) nC (fun h7 n7 s7 => ?_) (hk' C);dsimp only at n7 s7 ⊢;have e7 : Heap.ExtBut C h' h7 := s7.extBut;refine wpAny_mono (h E p h7 _ C _ v hp hC (fun b o e => e7 b o (fun q => by rw [q, fC] at e; cases e) (kp b o e)) n7 fC (by rw [if_pos rfl]) (rv.same e7 hC)) (fun ok s₃ z => ?_) fun _ _ q => q;cases hf : f dx with
 | none => rw [hf] at z; exact ⟨z.1, z.2.back e7⟩
 | some d' =>
  rw [hf] at z;exact ⟨z.1, wpAny_mono z.2 (fun _ _ q => ⟨q.1, q.2.back e7⟩) fun _ _ q => q⟩
end
structure LP (L b x rl : Nat) (h h' : Heap) (m' : Str → Option Value) (kv' : Option Value) (pl : Addr) (qs : List (Str × Int)) : Prop where
 y : Ext [L, L + 2] h h'
 n : h'.Ns L m'
 c : h'.IsCell (L + 2) kv'
 mw : m' "whole" = some (.ref x)
 mr : m' "rows" = some (.ref rl)
 mp : m' "plain" = some (.ref pl)
 lp : ∃ us, LsAt b h' pl us (qs.map zan)
 off : L + 2 < b
 eL : ∃ o, h.get? L = some o
 eC : ∃ o, h.get? (L + 2) = some o
section
variable {L b x rl : Nat} {m'' : Str → Option Value} {kv'' : Option Value} {pl' : Addr} {qs : List (Str × Int)}
theorem LP.it (P : LP L b x rl h h' m' kv' pl qs) {l : Addr} {i : Nat} (na : h.get? a = none) (hit : h'.IsListIter a l i) (he : Heap.ExtBut a h' h'') : LP L b x rl h h'' m' kv' pl qs := by
 have nx : ∀ {c}, (∃ o, h.get? c = some o) → c ≠ a := fun ⟨o, e⟩ z => by rw [z, na] at e; cases e
 refine ⟨P.y.ownM na he, ?_, zak P.c he (nx P.eC), P.mw, P.mr, P.mp, ?_, P.off, P.eL, P.eC⟩
 ·obtain ⟨o, es, ep, e, r⟩ := P.n
  exact ⟨o, es, ep, he _ _ (nx P.eL) e, r⟩
 ·obtain ⟨us, lp⟩ := P.lp; exact ⟨us, lp.butIt hit he⟩
theorem LP.ext (P : LP L b x rl h h' m' kv' pl qs) (e : Ext [] h' h'') : LP L b x rl h h'' m' kv' pl qs :=
 ⟨P.y.trans e (fun a q => nomatch q), zaA e P.n (by simp), e.cell P.c (by simp), P.mw, P.mr, P.mp, P.lp.elim fun us lp => ⟨us, lp.ext e (by simp)⟩, P.off, P.eL, P.eC⟩
theorem LP.put (P : LP L b x rl h h' m' kv' pl qs) (n : h''.Ns L m'') (hs : Heap.SameBut L h' h'') (mw : m'' "whole" = some (.ref x)) (mr : m'' "rows" = some (.ref rl)) (mp : m'' "plain" = some (.ref pl)) : LP L b x rl h h'' m'' kv' pl qs := by
 have y : Ext [L] h' h'' := .sameBut hs (let ⟨o, _, _, e, _⟩ := n; ⟨o, e⟩);exact ⟨P.y.trans y fun a q => .inl (by rw [mem_singleton.mp q]; simp), n, zak P.c hs.extBut (ne_of_gt (lt_add_of_pos_right (by decide))), mw, mr, mp, P.lp.elim fun us lp => ⟨us, lp.ext y fun a q => .inl (by rw [mem_singleton.mp q]; exact lt_of_le_of_lt (le_add_right L 2) P.off)⟩, P.off, P.eL, P.eC⟩
theorem LP.plain (P : LP L b x rl h h' m' kv' pl qs) {rs : List (Str × Int)} (l : LsAt b h' pl' us (rs.map zan)) (n : h''.Ns L m'') (hs : Heap.SameBut L h' h'') (mw : m'' "whole" = some (.ref x)) (mr : m'' "rows" = some (.ref rl)) (mp : m'' "plain" = some (.ref pl')) : LP L b x rl h h'' m'' kv' pl' rs := by
 have y : Ext [L] h' h'' := .sameBut hs (let ⟨o, _, _, e, _⟩ := n; ⟨o, e⟩);exact ⟨P.y.trans y fun a q => .inl (by rw [mem_singleton.mp q]; simp), n, zak P.c hs.extBut (ne_of_gt (lt_add_of_pos_right (by decide))), mw, mr, mp, ⟨us, l.ext y fun a q => .inl (by rw [mem_singleton.mp q]; exact lt_of_le_of_lt (le_add_right L 2) P.off)⟩, P.off, P.eL, P.eC⟩
theorem LP.key (P : LP L b x rl h h' m' kv' pl qs) (c : h''.IsCell (L + 2) kv'') (hs : Heap.SameBut (L + 2) h' h'') : LP L b x rl h h'' m' kv'' pl qs := by
 have y : Ext [L + 2] h' h'' := .sameBut hs (let ⟨o, e, _⟩ := c; ⟨o, e⟩);refine ⟨P.y.trans y fun a q => .inl (by rw [mem_singleton.mp q]; simp), P.n.sameBut hs (ne_of_lt (lt_add_of_pos_right (by decide))), c, P.mw, P.mr, P.mp, P.lp.elim fun us lp => ⟨us, lp.ext y fun a q => .inl (by rw [mem_singleton.mp q]; exact P.off)⟩, P.off, P.eL, P.eC⟩
end
def zev (k : Str) : PyData → Option PyData
 | .int n => some (zan (k, n))
 | _ => none
theorem zeT (k : Str) (ns : List Int) : (ns.map PyData.int).filterMap (zev k) = (ns.map fun n => (k, n)).map zan := by
 induction ns with
 | nil => rfl
 | cons n ns ih => rw [map_cons, filterMap_cons_some (show zev k (.int n) = some (zan (k, n)) from rfl), ih]; rfl
theorem zhv {g : Grp} (hj : j < g.length) : un (g.take (j + 1)) = un (g.take j) ++ g[j].2.map fun n => (g[j].1, n) := by
 unfold un;rw [take_succ_eq_append_getElem hj, flatMap_append, List.flatMap_singleton]
theorem zfW (g : Grp) (j : Nat) : (un (g.take j)).length ≤ (un g).length := by
 have : un g = un (g.take j) ++ un (g.drop j) := by unfold un; rw [← flatMap_append, take_append_drop]
 rw [this, length_append]; omega
theorem zeU {i : Nat} (hi : i < pss.length) : zab (pss.take (i + 1)) = zab (pss.take i) ++ un (zaZ pss[i]) := by
 unfold zab;rw [take_succ_eq_append_getElem hi, flatMap_append, List.flatMap_singleton]
end
section
open PySem.SeqAt PySem.Spec
section
variable {b : Nat}
theorem zic {Q : Flow → Shared → Prop} (X : LS w h₀ h m kv st nb at_)
  (hQ : ∀ h' tk pl, LS w h₀ h' (fun y => if y = "plain" then some (.ref pl) else m y) kv st nb at_ → Ext [h₀.objs.size] h h' → LsAt h.objs.size h' pl #[] [] → Q .next ⟨h', gn, d, tk, os⟩) :
  wpAny (model P w) A (exec (zat w 3) (zaq w h₀.objs.size)) Q E ⟨h, gn, d, t, os⟩ := by
 delta zat;ext Assign_Name List items_nil;refine ⟨by simp, ?_⟩;have e1 : Ext [] h (h.push { cls := .type "list", data := .seq #[] }) := Ext.push _ _;have ls1 : (h.push { cls := .type "list", data := .seq #[] }).IsList h.objs.size #[] := ⟨_, get?_push_size _ rfl, rfl, 0, rfl⟩;have Lh : h₀.objs.size < h.objs.size := X.D.ns.lt;change wpAny _ _ _ _ _ ⟨h.push { cls := .type "list", data := .seq #[] }, _, _, _, _⟩;generalize h.push { cls := .type "list", data := .seq #[] } = h1 at e1 ls1 ⊢;have X1 := X.ext e1;refine wpAny_storeName_local rfl X1.D.ns (fun h9 hn9 hs9 => ?_) rfl;replace hs9 : Heap.SameBut h₀.objs.size h1 h9 := hs9;have y9 : Ext [h₀.objs.size] h1 h9 := .sameBut hs9 (let ⟨o, _, _, e, _⟩ := hn9; ⟨o, e⟩);have X9 := X1.re y9 (fun a q => .inl (mem_singleton.mp q)) hn9 (zak X1.Ck hs9.extBut (ne_of_gt (lt_add_of_pos_right (by decide))));exact hQ h9 _ _ X9 ((e1.mono (by simp)).trans y9 fun a q => .inl q) ⟨le_refl _, y9.isList ls1 (nin (ne_of_gt Lh)), rfl, fun i v d e => by simp at e⟩
end
theorem zid {A : Around} {t : Nat} {b : Nat} {pss : List (List (Str × Int))} {Q : Flow → Shared → Prop} {p0 : Addr} : ∀ (hA : Rm 380 A) (hh : A.handled = none) (X : LS w h₀ h m kv st nb at_) (mr : m "rows" = some (.ref rl)) (mw : m "whole" = some (.ref x)) (mp : m "plain" = some (.ref p0)) (lr : LsAt (h₀.objs.size + 3) h rl rus (pss.map zhE)) (lp : LsAt b h p0 #[] []) (hn : pss.length ≤ 4) (hg : ∀ ps ∈ pss, zc0 ps) (hW : ∃ dx dl hsh t n c vs es ep, WH w b h x (pss.map grp) dx dl hsh t n c vs es ep) (bst : st < b) (bnb : nb < b) (hQ : ∀ h' tk m' kv' pl, LW w h₀ b h' m' kv' st nb at_ x pss pl → m' "whole" = some (.ref x) → m' "plain" = some (.ref pl) → Q .next ⟨h', gn, d, tk, os⟩), wpAny (model P w) A (exec (zat w 4) (zaq w h₀.objs.size)) Q E ⟨h, gn, d, t, os⟩ := by
 unhygienic
 revert hen w A E h₀ h gn d t os st nb b m kv at_ rl x rus pss Q p0;have T := X.top;obtain ⟨hb1, hb2, hb3⟩ := X.hb
 haveI offL : h₀.objs.size + 2 < b := by omega
 haveI bsz : b ≤ h.objs.size := by obtain ⟨_, _, _, _, _, _, _, _, _, W⟩ := hW; exact le_trans W.lx (le_of_lt (lt_size W.dd.at_))
 haveI exL : ∃ o, h.get? h₀.objs.size = some o := by obtain ⟨o, _, _, e, _⟩ := X.D.ns; exact ⟨o, e⟩
 haveI exC : ∃ o, h.get? (h₀.objs.size + 2) = some o := by obtain ⟨o, e, _⟩ := X.Ck; exact ⟨o, e⟩
 have Ck : h.IsCell (h₀.objs.size + 2) kv := X.Ck;have P0 : LP h₀.objs.size b x rl h h m kv p0 [] := ⟨(Ext.refl h).mono (by simp), X.D.ns, Ck, mw, mr, mp, ⟨_, lp⟩, offL, exL, exC⟩
 haveI hM : ∀ a ∈ [h₀.objs.size, h₀.objs.size + 2], a = h₀.objs.size ∨ a = h₀.objs.size + 2 ∨ h.get? a = none := fun a q => by
  rcases mem_cons.mp q with rfl | q
  ·exact .inl rfl
  ·exact .inr (.inl (mem_singleton.mp q))
 have hM3 : ∀ a ∈ [h₀.objs.size, h₀.objs.size + 2], a < h₀.objs.size + 3 ∨ h.get? a = none := fun a q => by
  rcases mem_cons.mp q with rfl | q
  ·exact .inl (lt_add_of_pos_right (by decide))
  ·exact .inl (by rw [mem_singleton.mp q]; exact lt_succ_self _)
 have hMb : ∀ a ∈ [h₀.objs.size, h₀.objs.size + 2], a < b ∨ h.get? a = none := fun a q => by
  rcases mem_cons.mp q with rfl | q
  ·exact .inl (lt_of_le_of_lt (le_add_right _ 2) offL)
  ·exact .inl (by rw [mem_singleton.mp q]; exact offL)
 have top : ∀ {h' m' kv' pl qs}, LP h₀.objs.size b x rl h h' m' kv' pl qs → TopH w h' := fun {h' m' kv' pl qs} P => (X.re P.y hM (P.n) (P.c)).top;delta zat;ext For;refine zaa X.D.ns mr ?_;refine wpAny_pyIter_list lr.ls ?_
 haveI nit : h.get? h.objs.size = none := zag _
 haveI hit0 : (h.push { cls := .type "list_iterator", data := .fields #[.ref rl, .int 0 0] }).IsListIter h.objs.size rl 0 := ⟨_, get?_push_size _ rfl, rfl, rfl⟩
 haveI P1 := P0.ext (Ext.push h { cls := .type "list_iterator", data := .fields #[.ref rl, .int 0 0] })
 haveI itL : h.objs.size ≠ h₀.objs.size := fun q => by obtain ⟨o, e⟩ := exL; rw [← q, nit] at e; cases e
 haveI itC : h.objs.size ≠ h₀.objs.size + 2 := fun q => by obtain ⟨o, e⟩ := exC; rw [← q, nit] at e; cases e
 ext d;generalize h.objs.size = it at nit hit0 itL itC bsz ⊢;generalize h.push { cls := .type "list_iterator", data := .fields #[.ref rl, .int 0 0] } = h1 at P1 hit0 ⊢;refine opq (p := fun (n : Nat) (s' : Shared) => ∃ i h' tk' m' kv' pl, n + i = pss.length ∧ s' = ⟨h', gn, d, tk', os⟩ ∧ LP h₀.objs.size b x rl h h' m' kv' pl (zab (pss.take i)) ∧ h'.IsListIter it rl i) fun Iv1 hin1 hout1 => ?_;refine codeAny_forLoop_any Iv1 ?_ pss.length (hin1 _ _ ?_)
 rotate_left
 ·exact ⟨0, h1, _, m, kv, p0, rfl, rfl, P1, hit0⟩
 clear P1 P0 hit0 h1;intro n s' hI;obtain ⟨i, h2, tk2, m2, kv2, pl2, hni, rfl, P2, hit⟩ := hout1 _ _ hI;clear hI
 haveI lr2 := lr.ext P2.y hM3
 cases n with
 | zero =>
  refine wpAny_pyNext_list_end hh hit lr2.ls (by rw [Array.getElem?_eq_none_iff, lr2.sz, length_map]; omega) (fun h3 he => ?_)
  haveI P3 := P2.it nit hit he
  rw [take_of_length_le (by omega)] at P3;ext d execs_nil;obtain ⟨dx, dl, hsh, t1, n1, c1, vs1, es1, ep1, W⟩ := hW;obtain ⟨us, lp3⟩ := P3.lp
  haveI X3 := X.re P3.y hM (P3.n) (P3.c)
  exact hQ h3 tk2 m2 kv2 pl2 ⟨X3.T₀, X3.D, X3.Ck, X3.Cs, ⟨hb1, bst, bnb, hb2, hb3⟩, X3.at_lt, X3.st, X3.nb, ⟨dx, dl, hsh, t1, n1, c1, vs1, es1, ep1, W.ext P3.y hMb⟩, ⟨us, lp3⟩, hn, hg⟩ P3.mw P3.mp
 | succ n =>
  obtain ⟨gi, eg, hgm, eps⟩ : ∃ g, pss[i]? = some g ∧ g ∈ pss ∧ zab (pss.take (i + 1)) = zab (pss.take i) ++ un (zaZ g) :=
   haveI hi : i < pss.length := by omega
   ⟨pss[i], getElem?_eq_getElem hi, getElem_mem hi, zeU hi⟩
  haveI hgi := hg _ hgm
  obtain ⟨v, hv, rv⟩ := lr2.item (i := i) (d := zhE gi) (by rw [getElem?_map, eg]; rfl);obtain ⟨ra, rvs, rfl, lra⟩ := LsAt.of rv;refine wpAny_pyNext_list_item hit lr2.ls hv (fun h3 hit3 sb3 => ?_)
  letI sb3 : Heap.SameBut it h2 h3 := sb3
  haveI P3 := P2.it nit hit sb3.extBut
  replace lra := lra.butIt hit sb3.extBut;ext d;clear P2 hit lr2 rv sb3 hv;ext pure assign_Name;refine wpAny_storeName_local rfl (P3.n) (fun h4 hn4 hs4 => ?_) rfl
  haveI P4 := P3.put hn4 hs4 ((if_neg (by decide)).trans P3.mw) ((if_neg (by decide)).trans P3.mr) ((if_neg (by decide)).trans P3.mp)
  letI hs4 : Heap.SameBut h₀.objs.size h3 h4 := hs4
  haveI hit4 := hit3.at fun o e => (hs4.2 _ itL).trans e
  have lra4 : LsAt (h₀.objs.size + 3) h4 ra rvs (gi.map zan) := lra.ext (.sameBut hs4 (let ⟨o, _, _, e, _⟩ := hn4; ⟨o, e⟩) : Ext [h₀.objs.size] h3 h4) fun a q => .inl (by rw [mem_singleton.mp q]; exact lt_add_of_pos_right (by decide));ext d;clear P3 hit3 lra hs4;revert hen it Iv1 i tk2 m2 kv2 pl2 n ra rvs h4 gi;ext execs_cons For
  haveI T4 := top P4
  ext Call_NameR;refine zaj (by assumption) rfl (by rfl) ?_;ext o.cf;ext items_cons;refine zaa hn4 (if_pos rfl) ?_;ext items_nil;refine ⟨T4, ?_⟩;ext call
  haveI L4 : h₀.objs.size + 3 ≤ h4.objs.size := by obtain ⟨o, e, _⟩ := P4.c; exact succ_le_of_lt (lt_size e)
  refine za2 (hA.mono (by decide)) hh T4 lra4 (by have := hgi.1; omega) L4 (fun h5 tk5 r5 us5 e5 l5 => ?_);dsimp only at l5 ⊢
  haveI b4 : b ≤ h4.objs.size := le_trans bsz (le_of_lt (by obtain ⟨o, e, _⟩ := hit4; exact lt_size e))
  have it4 : it < h4.objs.size := by obtain ⟨o, e, _⟩ := hit4; exact lt_size e
  haveI P5 := P4.ext e5
  haveI hit5 : h5.IsListIter it rl (i + 1) := let ⟨o, e, hc, hd⟩ := hit4; ⟨o, e5.get e (by unfold hasCls; rw [hc]) (by simp), hc, hd⟩
  clear P4 hit4 lra4 e5 T4 hn4;generalize h4.objs.size = b5 at l5 b4 L4 it4;clear h4 h3 h2;refine wpAny_pyIter_list l5.ls ?_
  haveI nit2 : h.get? h5.objs.size = none := P5.y.fresh (zag _)
  haveI hit20 : (h5.push { cls := .type "list_iterator", data := .fields #[.ref r5, .int 0 0] }).IsListIter h5.objs.size r5 0 := ⟨_, get?_push_size _ rfl, rfl, rfl⟩
  haveI e6 : Ext [] h5 (h5.push { cls := .type "list_iterator", data := .fields #[.ref r5, .int 0 0] }) := Ext.push _ _
  haveI P6 := P5.ext e6
  haveI l6 := l5.ext e6 (by simp)
  haveI hit6 : (h5.push { cls := .type "list_iterator", data := .fields #[.ref r5, .int 0 0] }).IsListIter it rl (i + 1) := hit5.at fun o e => get?_push_of_some _ e
  haveI it25 : it ≠ h5.objs.size := by obtain ⟨o, e, _⟩ := hit5; exact ne_of_lt (lt_size e)
  haveI it2L : h5.objs.size ≠ h₀.objs.size := fun q => by obtain ⟨o, e⟩ := exL; rw [← q, nit2] at e; cases e
  haveI it2C : h5.objs.size ≠ h₀.objs.size + 2 := fun q => by obtain ⟨o, e⟩ := exC; rw [← q, nit2] at e; cases e
  have b55 : b5 ≤ h5.objs.size := by obtain ⟨o, e, _⟩ := l5.ls; exact le_trans l5.le (le_of_lt (lt_size e))
  ext d;generalize h5.objs.size = it2 at nit2 hit20 it25 it2L it2C b55 ⊢;generalize h5.push { cls := .type "list_iterator", data := .fields #[.ref r5, .int 0 0] } = h6 at P6 l6 hit6 hit20 ⊢;clear P5 l5 hit5 e6 h5;have hn4 : (pss.take i).length ≤ 4 := by rw [length_take]; omega
  have lpl := plain_len hn4 fun ps q => (hg ps (List.mem_of_mem_take q)).1;have lun : (un (zaZ gi)).length ≤ 144 := by
   have := plain_len (rows := [gi]) (by simp) fun ps q => by rw [mem_singleton.mp q]; exact hgi.1
   simpa [zab] using this
  haveI hMb5 : ∀ a ∈ [h₀.objs.size, h₀.objs.size + 2], a < b5 := fun a q => by
   rcases mem_cons.mp q with rfl | q
   ·exact lt_of_lt_of_le (lt_add_of_pos_right (by decide)) L4
   ·rw [mem_singleton.mp q]; exact lt_of_lt_of_le (lt_succ_self _) L4
  refine opq (p := fun (n2 : Nat) (s' : Shared) => ∃ j h' tk' m' kv' pl, n2 + j = (zaZ gi).length ∧ s' = ⟨h', gn, d, tk', os⟩ ∧ LP h₀.objs.size b x rl h h' m' kv' pl (zab (pss.take i) ++ un ((zaZ gi).take j)) ∧ h'.IsListIter it rl (i + 1) ∧ h'.IsListIter it2 r5 j ∧ LsAt b5 h' r5 us5 ((zaZ gi).map zd1)) fun Iv2 hin2 hout2 => ?_;refine codeAny_forLoop_any Iv2 ?_ (zaZ gi).length (hin2 _ _ ?_)
  rotate_left
  ·exact ⟨0, h6, _, _, _, _, rfl, rfl, by simpa [un] using P6, hit6, hit20, l6⟩
  clear P6 hit6 hit20 l6 h6;intro n2 s' hI;obtain ⟨j, h7, tk7, m7, kv7, pl7, hn2, rfl, P7, hita, hit, l7⟩ := hout2 _ _ hI;clear hI;cases n2 with
  | zero =>
   refine wpAny_pyNext_list_end hh hit l7.ls (by rw [Array.getElem?_eq_none_iff, l7.sz, length_map]; omega) (fun h8 he => ?_)
   haveI P8 := P7.it nit2 hit he
   have hj : j = (zaZ gi).length := by omega
   rw [hj, take_length] at P8;rw [← eps] at P8;ext d execs_nil execs_nil;exact ⟨n, lt_succ_self n, hin1 _ _ (xi6 (i + 1) h8 tk7 m7 kv7 pl7 ⟨by omega, rfl, P8, hita.at fun o e => he _ _ it25 e⟩)⟩
  | succ n2 =>
   obtain ⟨G, ej, eun⟩ : ∃ G, (zaZ gi)[j]? = some G ∧ un ((zaZ gi).take (j + 1)) = un ((zaZ gi).take j) ++ G.2.map fun n => (G.1, n) :=
    haveI hj : j < (zaZ gi).length := by omega
    ⟨_, getElem?_eq_getElem hj, zhv hj⟩
   obtain ⟨v, hv, rv⟩ := l7.item (i := j) (d := zd1 G) (by rw [getElem?_map, ej]; rfl);refine wpAny_pyNext_list_item hit l7.ls hv (fun h8 hit8 sb8 => ?_)
   letI sb8 : Heap.SameBut it2 h7 h8 := sb8
   have P8 := P7.it nit2 hit sb8.extBut;replace l7 := l7.butIt hit sb8.extBut;replace rv := rv.butIt hit sb8.extBut;replace hita := hita.at fun o e => sb8.extBut _ _ it25 e;obtain ⟨ta, u, z, rfl, _, ht, ru, rz⟩ := rv.pairE;obtain ⟨tu, rfl⟩ := ru.strE;obtain ⟨va, vvs, rfl, lv⟩ := LsAt.of rz;have hgj : G.2.length ≤ 144 := by
    have h1 := zfW (zaZ gi) (j + 1);rw [eun, length_append, length_map] at h1;omega
   have huj := zfW (zaZ gi) j;ext d;clear hit P7 sb8 rv rz ru hv;refine wpAny_letOwnedTupleGo_listiter hit8 ?_;refine assign_Tuple_tuple hh ht rfl rfl (fun h9 he9 => ?_)
   try dsimp only at he9 ⊢
   haveI k9 : zaz h8 h9 := fun b o q => he9 b o (ne_of_lt (lt_size q)) q
   haveI P9 := P8.ext (.of_keeps k9)
   replace l7 := l7.ext (.of_keeps k9) (by simp);replace lv := lv.ext (.of_keeps k9) (by simp);replace hita := hita.at fun o e => k9 _ _ e;have hit9 := hit8.at fun o e => k9 _ _ e;clear P8 hit8 ht he9 k9 h8 h7;ext assignInOrder_more assign_Name;refine wpAny_storeName_cell rfl rfl (c := h₀.objs.size + 2) rfl P9.c (fun h10 C10 sb10 => ?_)
   haveI P10 := P9.key C10 sb10
   haveI y10 : Ext [h₀.objs.size + 2] h9 h10 := .sameBut sb10 (let ⟨o, e, _⟩ := C10; ⟨o, e⟩)
   replace l7 := l7.ext y10 (fun a q => .inl (hMb5 a (List.mem_cons_of_mem _ q)));replace lv := lv.ext y10 (fun a q => .inl (hMb5 a (List.mem_cons_of_mem _ q)));replace hita := hita.at fun o e => (sb10.2 _ itC).trans e;have hit10 := hit9.at fun o e => (sb10.2 _ it2C).trans e;ext d;clear P9 C10 sb10 y10 hit9 h9;ext assignInOrder_more assign_Name;refine wpAny_storeName_local rfl P10.n (fun h11 hn11 hs11 => ?_) rfl
   letI hs11 : Heap.SameBut h₀.objs.size h10 h11 := hs11
   haveI P11 := P10.put hn11 hs11 ((if_neg (by decide)).trans P10.mw) ((if_neg (by decide)).trans P10.mr) ((if_neg (by decide)).trans P10.mp)
   haveI y11 : Ext [h₀.objs.size] h10 h11 := .sameBut hs11 (let ⟨o, _, _, e, _⟩ := hn11; ⟨o, e⟩)
   haveI hm11 : ∀ a ∈ [h₀.objs.size], a < b5 ∨ h10.get? a = none := fun a q => .inl (hMb5 a (by rw [mem_singleton.mp q]; exact .head _))
   replace l7 := l7.ext y11 hm11
   letI lv := lv.ext y11 hm11
   replace hita := hita.at fun o e => (hs11.2 _ itL).trans e;have hit11 := hit10.at fun o e => (hs11.2 _ it2L).trans e;ext d;clear P10 hs11 y11 hm11 hit10 h10;ext assignInOrder_none execs_cons Assign_Name BinOp;refine zaa P11.n P11.mp ?_;refine zc8 (cl := [(Str.ofString "key", h₀.objs.size + 2)]) (zev G.1) hh (by rfl) rfl (by decide) (by decide) ?_;refine zaa P11.n (if_pos rfl) ?_;refine ⟨va, vvs, _, b5, rfl, lv, by rw [length_map]; omega, ?_, fun dd hd => ?_, ?_⟩
   ·obtain ⟨o, e, _⟩ := lv.ls; exact le_trans lv.le (le_of_lt (lt_size e))
   ·obtain ⟨n0, _, rfl⟩ := mem_map.mp hd
    refine TurnOk.name rfl (fun _ => by rfl) fun E p' h' tk' C mm u hp hC kp nC fC mx ru => ?_;obtain ⟨t1, rfl⟩ := ru.intE;rw [show zev G.1 (.int n0) = some (zan (G.1, n0)) from rfl];refine wpAny_tests_nil ⟨rfl, ?_⟩;ext o.Tuple_ items_cons;refine wpAny_Name (wpAny_loadName_cell rfl rfl (c := h₀.objs.size + 2) rfl ((Ext.of_keeps kp).cell P11.c not_mem_nil) ?_) (by decide);ext items_cons;refine zaa nC mx ?_;ext items_nil;refine wpAny_newObj_type ?_ (by show (2 : Nat) ≤ sizeLine; decide);have kt : zaz h' (h'.push { cls := .type "tuple", data := .seq #[.str G.1 tu, .int n0 t1] }) := fun b o e => get?_push_of_some _ e;refine ⟨.tup (hp _ nC.lt) ⟨_, get?_push_size _ rfl, rfl, 0, rfl⟩ rfl fun i v d e1 e2 => ?_, _, _, _, rfl, fun b o _ e => kt b o e, nC.push _⟩
    match i, e1, e2 with
    | 0, e1, e2 => cases e1; cases e2; exact .str _ _
    | 1, e1, e2 => cases e1; cases e2; exact .int _ _
    | i + 2, e1, e2 => simp at e1
   intro h12 r12 us12 tk12 k12 l12 b12
   try dsimp only at k12 b12 ⊢
   rw [zeT] at l12
   haveI P12 := P11.ext (.of_keeps k12)
   replace l7 := l7.ext (.of_keeps k12) (by simp);replace hita := hita.at fun o e => k12 _ _ e;have hit12 := hit11.at fun o e => k12 _ _ e;clear P11 hit11 k12 hn11 b12 lv h11;obtain ⟨us, lp12⟩ := P12.lp;have z1 := lp12.sz;have z2 := l12.sz;rw [length_map, length_append] at z1;rw [length_map, length_map] at z2;refine zhi lp12.ls l12.ls (by omega) ?_
   haveI e13 : Ext [] h12 (h12.push { cls := .type "list", data := .seq (us ++ us12) }) := Ext.push _ _
   have ls13 : (h12.push { cls := .type "list", data := .seq (us ++ us12) }).IsList h12.objs.size (us ++ us12) := ⟨_, get?_push_size _ rfl, rfl, 0, rfl⟩;have bz12 : b ≤ h12.objs.size := by obtain ⟨o, e, _⟩ := lp12.ls; exact le_trans lp12.le (le_of_lt (lt_size e))
   have row : RdAll b _ (us ++ us12) ((zab (pss.take i) ++ un ((zaZ gi).take j)).map zan ++ (G.2.map fun n => (G.1, n)).map zan) :=
    (show RdAll b h12 us _ from ⟨lp12.sz, lp12.rd⟩).app (show RdAll b h12 us12 _ from ⟨(l12.mono b4).sz, (l12.mono b4).rd⟩)
   haveI lp13 : LsAt b (h12.push { cls := .type "list", data := .seq (us ++ us12) }) h12.objs.size (us ++ us12) ((zab (pss.take i) ++ un ((zaZ gi).take (j + 1))).map zan) := by
    haveI row13 := row.ext e13 (by simp)
    rw [← map_append, List.append_assoc, ← eun] at row13;exact ⟨bz12, ls13, row13.1, row13.2⟩
   haveI P13 := P12.ext e13
   replace l7 := l7.ext e13 (by simp);replace hita : (h12.push { cls := .type "list", data := .seq (us ++ us12) }).IsListIter it rl (i + 1) := hita.at fun o e => get?_push_of_some _ e;have hit13 : (h12.push { cls := .type "list", data := .seq (us ++ us12) }).IsListIter it2 r5 (j + 1) := hit12.at fun o e => get?_push_of_some _ e;clear P12 hit12 row e13 ls13 lp12 l12;generalize h12.objs.size = pl13 at lp13 ⊢;generalize h12.push { cls := .type "list", data := .seq (us ++ us12) } = h13 at *;refine wpAny_storeName_local rfl P13.n (fun h14 hn14 hs14 => ?_) rfl
   letI hs14 : Heap.SameBut h₀.objs.size h13 h14 := hs14
   have P14 := P13.plain lp13 hn14 hs14 ((if_neg (by decide)).trans P13.mw) ((if_neg (by decide)).trans P13.mr) (if_pos rfl);have y14 : Ext [h₀.objs.size] h13 h14 := .sameBut hs14 (let ⟨o, _, _, e, _⟩ := hn14; ⟨o, e⟩);have hm14 : ∀ a ∈ [h₀.objs.size], a < b5 ∨ h13.get? a = none := fun a q => .inl (hMb5 a (by rw [mem_singleton.mp q]; exact .head _));replace l7 := l7.ext y14 hm14;replace hita := hita.at fun o e => (hs14.2 _ itL).trans e;have hit14 := hit13.at fun o e => (hs14.2 _ it2L).trans e;ext execs_nil;exact ⟨n2, lt_succ_self n2, hin2 _ _ (xi6 (j + 1) h14 _ _ _ pl13 ⟨by omega, rfl, P14, hita, hit14, l7⟩)⟩
end
section
open PySem.SeqAt PySem.Spec
section
theorem dl0 {m m' : Sem Flow} {Q : Flow → Shared → Prop} (e : m = m') (h : wpAny M A m' Q E s) : wpAny M A m Q E s := e ▸ h
theorem zgJ {ns : List Int} (hA : Rm 379 A) (hh : A.handled = none) (F : A.frames = some []) (T : TopH w s.heap)
  (hl : s.heap.IsList sc svs) (hi : IntsAre svs.toList ns) (hz : svs.size ≤ 1000)
  (hR : ∀ h' gn' tk d', Ext [] s.heap h' → (zaT s.gens → zaT gn') → R (.ok (.ret (.bool true))) ⟨h', gn', d', tk, s.os⟩) :
  codeAny (model P w) A (.call (.ref 603) ⟨[.ref sc], []⟩) R s := by
 unhygienic
 revert hen w A s R sc svs ns;refine zf7 (fd := zht w) (body := [zat w 0, zat w 1, zat w 2, zat w 3, zat w 4, zat w 5, zat w 6, zat w 7, zat w 8, zat w 9, zat w 10, zat w 11, zat w 12]) [(Str.ofString "script", .ref sc)] hA T (by rfl) (by rfl) (by rfl) (by kernel_rfl) (by kernel_rfl) (by rfl) (fun x q => by rw [mem_singleton.mp q]; exact .inl (by rfl)) (fun h₁ tk0 D X hA' hh' => ?_);replace hh' := hh'.trans hh;have F' : (A.deeper (zaq w s.heap.objs.size)).frames = some [zaq w s.heap.objs.size] := by
  show A.frames.map _ = _;rw [F]; rfl
 obtain ⟨h₀, gn, d, t, os⟩ := s;dsimp only at T hl hR D X hA' hh' F' ⊢;have Cs : h₁.IsCell (h₀.objs.size + 1) none := X (Str.ofString "state") (h₀.objs.size + 1) rfl;have Ck : h₁.IsCell (h₀.objs.size + 2) none := X (Str.ofString "key") (h₀.objs.size + 2) rfl;clear X;have T1 := D.top T (by simp);revert hen h₁ tk0 h₀ gn d os;ext execs_cons;change wpAny _ _ (exec (zat w 0) (zaq w h₀.objs.size)) _ _ _;refine dl0 (by delta zat; exact rfl) ?_;generalize A.deeper (zaq w h₀.objs.size) = A1 at hA' hh' F' ⊢;ext Assign_Name Call_NameR;refine zaj (by assumption) rfl (by rfl) ?_;ext o.cf;ext items_cons;refine zaa D.ns (by rfl) ?_;ext items_nil;refine ⟨T1, ?_⟩;ext call;refine zeV (hA'.mono (by decide)) hh' T1 (D.ext.isList hl (by simp)) hi hz (fun h2 tk2 st nb vs ms c c' t1 e2 est enb hms h0 h100 lst nst lnb => ?_);dsimp only at lst lnb e2 ⊢;have C1 : h₀.objs.size + 2 < h₁.objs.size := by obtain ⟨o, e, _⟩ := Ck; exact lt_size e
 have D2 := D.call e2;replace Cs := e2.cell Cs (by simp);replace Ck := e2.cell Ck (by simp);refine wpAny_storeName_cell rfl rfl (c := h₀.objs.size + 1) rfl Cs (fun h3 C3 sb3 => ?_);have n1 : h₀.objs.size + 1 ≠ st := by omega (splitDisjunctions := true)
 have n2 : h₀.objs.size + 1 ≠ nb := by omega (splitDisjunctions := true)
 have fC : h₀.get? (h₀.objs.size + 1) = none := zac (le_succ _);have D3 := D2.own sb3 (let ⟨o, e, _⟩ := C3; ⟨o, e⟩) (.inr fC) (ne_of_lt (lt_succ_self _));have Ck3 := zak Ck sb3.extBut (ne_of_gt (lt_succ_self _));have est3 : h3.IsList st #[.ref nb, .int (0 : Nat) t1] := ⟨_, (sb3.2 _ (Ne.symm n1)).trans est, rfl, c, rfl⟩;have enb3 : h3.IsList nb vs := ⟨_, (sb3.2 _ (Ne.symm n2)).trans enb, rfl, c', rfl⟩;have S : LS w h₀ h3 _ none st nb 0 := ⟨T, D3, Ck3, C3, ⟨lt_of_lt_of_le C1 lst, nst, lt_of_lt_of_le C1 lnb⟩, by decide, ⟨t1, est3⟩, ⟨vs, ms, enb3, hms, h0, h100⟩⟩;clear D3 Ck3 est3 enb3 C3 sb3 n1 n2 fC Cs Ck D2 est enb hms h0 h100 lst nst lnb C1 e2 T1 D;generalize (bindL _ _ _ : Str → Option Value) = m at S;ext d execs_cons;refine zij (hA'.mono (by decide)) hh' S (by decide) (fun h4 tk4 rl rus pss at2 S4 lr hn hg hat => ?_);ext d;clear S h3;ext execs_cons;refine zig (hA'.mono (by decide)) hh' S4 (if_pos rfl) lr hn hg (fun h5 tk5 x b S5 hW lr5 bst bnb => ?_);ext d;clear S4 lr h4;obtain ⟨bsz, hW⟩ : b ≤ h5.objs.size ∧ _ := ⟨by obtain ⟨_, _, _, _, _, _, _, _, _, W⟩ := hW; exact le_trans W.lx (le_of_lt (lt_size W.dd.at_)), hW⟩;ext execs_cons;refine zic S5 (fun h6 tk6 p0 S6 y6 lp6 => ?_);ext d;have hb := S5.hb;have hM3 : ∀ a ∈ [h₀.objs.size], a < h₀.objs.size + 3 ∨ h5.get? a = none := fun a q => .inl (by rw [mem_singleton.mp q]; exact lt_add_of_pos_right (by decide));have hMb : ∀ a ∈ [h₀.objs.size], a < b ∨ h5.get? a = none := fun a q => .inl (by rw [mem_singleton.mp q]; exact lt_trans (lt_of_le_of_lt (le_add_right _ 2) hb.1) bst);ext execs_cons;refine zid (hA'.mono (by decide)) hh' S6 (m := fun y => if y = "plain" then some (.ref p0) else if y = "whole" then some (.ref x) else if y = "rows" then some (.ref rl) else m y) (by rfl) (by rfl) (by rfl) (lr5.ext y6 hM3) (lp6.mono bsz) hn hg
  (let ⟨a1, a2, a3, a4, a5, a6, a7, a8, a9, W⟩ := hW; ⟨a1, a2, a3, a4, a5, a6, a7, a8, a9, W.ext y6 hMb⟩) bst bnb (fun h7 tk7 m7 kv7 pl X7 mw7 mp7 => ?_)
 ext d;clear S5 S6 y6 lp6 lr5 hW hM3 hMb hb bsz;ext execs_cons;refine ziq (hA'.mono (by decide)) hh' F' X7 mw7 mp7 (fun h8 tk8 m8 kv8 X8 mw8 mp8 => ?_);ext d;clear X7 mw7 mp7;ext execs_cons;refine zie (hA'.mono (by decide)) hh' X8 mp8 (fun h9 tk9 kr us9 X9 lk9 => ?_);ext d;clear X8;ext execs_cons;refine zio (hA'.mono (by decide)) hh' X9 ((if_neg (by decide)).trans mw8) ((if_neg (by decide)).trans mp8) (fun h10 gn10 tk10 X10 b10 e10 => ?_);ext d;replace lk9 := lk9.ext e10 (by simp);clear X9 e10;ext execs_cons;refine zin (hA'.mono (by decide)) hh' X10 ((if_neg (by decide)).trans mw8) ((if_neg (by decide)).trans mp8) (if_pos rfl) lk9 (fun h11 gn11 tk11 d11 X11 b11 => ?_);ext d;clear X10 lk9;ext execs_cons;refine zik (hA'.mono (by decide)) hh' X11 ((if_neg (by decide)).trans mw8) (fun h12 gn12 tk12 o12 C12 b12 => ?_);ext d execs_cons;refine zhT (hA'.mono (by decide)) hh' X11 C12 (if_pos rfl) (fun h13 tk13 X13 => ?_);ext d;clear X11 C12;ext execs_cons;refine zh5 (hA'.mono (by decide)) hh' F' X13 ((if_neg (by decide)).trans ((if_neg (by decide)).trans mw8)) ((if_neg (by decide)).trans ((if_neg (by decide)).trans mp8)) (by omega (splitDisjunctions := true)) (fun h14 gn14 tk14 k14 X14 b14 => ?_);ext d;clear X13;ext execs_cons;refine zhW (hA'.mono (by decide)) hh' F' X14 (fun h15 tk15 X15 => ?_);exact hR h15 gn14 tk15 d11 X15.D.ext (fun q => b14 (b12 (b11 (b10 q))))
end
end
section
def K2 (P : Params) : Frag := (481, tableObj #[]) :: (259, tableObj #[]) :: (4, { cls := .type "module", dict := some 0, data := .plain }) :: K1 P
def zd8 : List Addr := (K1 dW.params).map (·.1)
def zif : List Addr := 481 :: 259 :: 4 :: zd8
theorem zep : ∀ P, zif = (K2 P).map (·.1) := fun _ => by kernel_rfl
def unf : Obj → Option Obj
 | ⟨_, _, .freed, _⟩ => none
 | o => o
def pk (xs : List Obj) : Nat → List Nat → List (Option Obj) :=
 List.rec (fun _ _ => []) (fun x _ ih n l => match l with
  | [] => []
  | a :: r => match beq a n with
   | true => unf x :: ih (n + 1) r
   | false => ih (n + 1) (a :: r)) xs
theorem zhe : ∀ (xs pre : List Obj) (l : List Nat), h.objs.toList = pre ++ xs → (pk xs pre.length l).length = l.length → pk xs pre.length l = l.map h.get?
 | [], _, [], _, _ => rfl
 | [], _, _ :: _, _, z => nomatch (show (0 : Nat) = _ + 1 from z)
 | x :: xs, pre, [], _, _ => rfl
 | x :: xs, pre, a :: r, e, z => by
  have IH := fun l => zhe xs (pre ++ [x]) l (by rw [e, List.append_assoc]; rfl);rw [length_append] at IH;change (match beq a pre.length with | true => unf x :: pk xs (pre.length + 1) r | false => pk xs (pre.length + 1) (a :: r)).length = _ at z;change (match beq a pre.length with | true => unf x :: pk xs (pre.length + 1) r | false => pk xs (pre.length + 1) (a :: r)) = _;cases q : beq a pre.length with
  | false => rw [q] at z; exact IH _ z
  | true =>
   rw [q] at z;have g : h.get? a = unf x := by
    unfold Heap.get?;rw [Nat.eq_of_beq_eq_true q, ← getElem?_toList, e, getElem?_append_right (le_refl _), sub_self];obtain ⟨_, _, dt, _⟩ := x;cases dt <;> rfl
   rw [map_cons, g];exact congrArg _ (IH r (Nat.succ.inj z))
theorem zhB (w : World) (s : Shared) (e : (s.heap.get? 481 :: s.heap.get? 259 :: s.heap.get? 4 :: pk s.heap.objs.toList 0 zd8) = (K2 w.params).map fun p => some p.2) : InK K2 w s.heap := by
 refine InK.of zep w s ?_;have z : (pk s.heap.objs.toList 0 zd8).length = zd8.length := by
  have a := congrArg length e;have b := congrArg length (zep w.params);rw [length_map] at a b;exact Nat.succ.inj (Nat.succ.inj (Nat.succ.inj (a.trans b.symm)))
 rw [← e, show pk s.heap.objs.toList 0 zd8 = _ from zhe s.heap.objs.toList [] zd8 rfl z];rfl
abbrev hook2 : Hook := ⟨List (Option Obj), fun s => s.heap.get? 481 :: s.heap.get? 259 :: s.heap.get? 4 :: pk s.heap.objs.toList 0 zd8, fun w => (K2 w.params).map fun p => some p.2, InK K2, zhB, InK.keeps⟩
theorem zgv (K : (KK w).In h) : ∀ a ∈ zco, isCodeTable h a := fun a q => by
 unfold zco at q;rcases mem_cons.mp q with rfl | q
 ·exact ⟨485, _, _, K 485 _ (by rfl), by rfl, by rfl, by rfl⟩
 ·rw [mem_singleton.mp q]; exact ⟨263, _, _, K 263 _ (by rfl), by rfl, by rfl, by rfl⟩
theorem zhH (K : (KK w).In h) (y : Ext [] h h') : OldK h h' := by
 refine ⟨fun b o e => ?_, fun b o e => y.there b o e⟩;rcases y.keep b o e (fun q => nomatch q) with z | ⟨ht, ps, more, rfl, z, _⟩
 ·exact .inl z
 ·exact .inr (.inl ⟨zgv K b ht, rfl, ps, more, rfl, z⟩)
theorem no4 (w : World) : ∀ p ∈ (KK w).map (·.1), p ≠ 4 := by
 have e : ((KK w).map (·.1)).all (fun p => decide (p ≠ 4)) = true := by kernel_rfl
 intro p hp;simpa using List.all_eq_true.mp e p hp
theorem zfj (e : K.lookup a = some o) : a ∈ K.map (·.1) := by
 induction K with
 | nil => cases e
 | cons x l ih =>
  obtain ⟨b, ob⟩ := x;rw [lookup_cons] at e
  by_cases q : (a == b) = true
  ·have : a = b := by simpa using q
   subst this; exact .head _
  ·simp only [q] at e
   exact .tail _ (ih e)
theorem zhL {mg mb : Str → Option Value} (X : (K2 w.params).In h) (g : h.Ns mainGlobals mg) (b : h.Ns builtinsNs mb) (hb : ∀ x : Str, x ≠ "__name__" → mb x = bootBuiltins x) (lim : h.NoLimit) : TopH w h where
 K := fun a o e => by
  have h1 := zbZ w a o e;have h4 := no4 w a (zfj e);have n1 : a ≠ 481 := fun q => h1.2 (q ▸ .head _);have n2 : a ≠ 259 := fun q => h1.2 (q ▸ .tail _ (.head _));refine X a o ?_;unfold K2;rw [lookup_cons, lookup_cons, lookup_cons, show (a == 481) = false from beq_false_of_ne n1, show (a == 259) = false from beq_false_of_ne n2, show (a == 4) = false from beq_false_of_ne h4];exact e
 g := ⟨mg, g⟩
 b := ⟨mb, b, hb⟩
 lim := lim
 tab := fun a q => by
  unfold zco at q;rcases mem_cons.mp q with rfl | q
  ·exact ⟨#[], X 481 _ (by rfl), trivial⟩
  ·rw [mem_singleton.mp q]; exact ⟨#[], X 259 _ (by rfl), trivial⟩
 bi := ⟨_, X 4 _ (by rfl), rfl, rfl, rfl⟩
theorem fin_law {mg mb : Str → Option Value} {c : ClaimW} {cl : Str → Option Addr} {mean : ExcName → Option Value} {args : List WData} {fa : Addr} {ns : List Int}
  (X : (K2 w.params).In s₁.heap) (g : s₁.heap.Ns mainGlobals mg) (b : s₁.heap.Ns builtinsNs mb) (hb : ∀ x : Str, x ≠ "__name__" → mb x = bootBuiltins x) (lim : s₁.heap.NoLimit)
  (hfa : mg "law" = some (.ref fa)) (hg : s₁.gens = #[]) (hl : s₁.heap.IsList sc svs) (hi : IntsAre svs.toList ns) (hz : svs.size ≤ 1000) (hr : ∀ cls, c.raises args cls = false) (hp : c.post args (.bool true) args = true) :
  codeAny (model P w) callerA (.call (.ref fa) ⟨[.ref sc], []⟩) (GoodWG c cl mean args s₁) s₁ := by
 have T := zhL X g b hb lim;have e : nsIn (K2 w.params) mainGlobals "law" = some (some (.ref 603)) := by kernel_rfl
 have hm := mg_of X g e;rw [hfa] at hm;cases hm;refine zgJ (ns := ns) ⟨by decide, by decide⟩ rfl rfl T hl hi hz fun h' gn' tk d' y bg => ?_;exact ⟨.inl ⟨_, _, [], rfl, hr, ReadsW.bool true, hp, fun _ => ⟨nodup_nil, fun _ hm => (nomatch hm)⟩⟩, zhH T.K y, rfl, bg fun x q => by rw [hg] at q; simp at q⟩
end
end Mine
end
noncomputable section
open PySem PySem.W PySem.W.X PyProof.Rows PySem.Calls
namespace Mine
def loose0 : List PySem.Str := ["HTTPException", "BadRequest", "BadRequestKeyError", "_missing", "ImmutableMultiDictMixin", "TypeConversionDict", "MultiDict", "CombinedMultiDict"].map PySem.Str.ofString
theorem left1 : LeftO PySem.Challenge.pw_bf0059_01 hd.view_1_2 loose0 (fun s => xlAt hd.view_1_2 [] s && recOk [] s) hook2.obs hook2.val 8500 :=
 LeftO.of_pieces (boot_open hd._proof_1_5 rfl hd._proof_1_6) hd._proof_1_946 hd._proof_1_944 rfl
  (fun w => funext fun os => looks_pair (congrArg Prod.fst (hd._proof_1_977 w os)) (looks_pair (congrArg (fun z => z.2.1) (hd._proof_1_977 w os)) (by kernel_rfl)))
end Mine
theorem PySem.Challenge.cw_bf0059_01_holds : PySem.Challenge.rw_bf0059_01.Holds := by
 w_on
 o_law
 refine holds_open (q := Mine.hd.view_1_2) (loose := Mine.loose0) (Xt := fun s => xlAt Mine.hd.view_1_2 [] s && recOk [] s) (XP := XL Mine.hd.view_1_2 []) (Yf := Mine.hook2.obs) (Ya := Mine.hook2.val) (YP := Mine.hook2.says) (N := 8500) Mine.left1 Mine.hook2.of Mine.hook2.keeps (fun s e => xl_of s (Bool.and_eq_true_iff.mp e).1) XL.keeps (by rfl) (by rfl) (by rfl) (fun s e => recFacts_of (Bool.and_eq_true_iff.mp e).2) (by rfl) (by first | assumption | decide +kernel) (look_both (Bool.and_eq_true_iff.mp Mine.hd._proof_1_3).1 (by decide +kernel)) ⟨rfl, rfl, rfl, rfl, rfl, by decide +kernel⟩ ?hw ?hc
 case hw => w_witness2
 k_fill
 intro w s₀ s₁ mg mb G Y fa o pm cd doc dV kV ho hd hcd hD hmg hg args vals as hpre hlay hrd hwl hlo;have KX : (Mine.K2 w.params).In _ := Y;refine Ground.open G ?_;intro T B D TE TW;clear hd hcd hD TE TW B
 wrow_args hpre hlay hrd hwl hlo
 all_goals (
  first | refine callC_kw (enter_call ?_) | refine enter_call ?_ | refine callC_kw (enter_callW ?_) | refine enter_callW ?_ | w_how)
 w_top on
 rename_i zs _ _ _ _ _ _ _ sc us _ hL _ _ _ hI _ hc _
 refine Mine.fin_law (ns := zs) KX T.g T.b T.builtins T.nolimit hmg hg hL (by simpa using hI) ?_ (fun _ => rfl) ?_
 ·have := Mine.ia_len hI
  rw [List.size_toArray];omega
 ·first | rfl | wrow_post
end
