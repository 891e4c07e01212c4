import PyProof.Rows.All
import Wide.All
import OpenK.AllK
import Wide.FinOn
import Lean
import PySem.Challenge.RW_wo0082_01
open PySem PySem.W PyProof.Rows
namespace Mine
theorem x.tw17925319200732492229 : True := trivial
theorem x.tw9471003062986669584 : True := trivial
theorem x.tw1178663802933040105 : True := trivial
theorem x.tw4937251303242651148 : True := trivial
theorem x.tw12798177846227877703 : True := trivial
theorem x.tw13834552128573546884 : True := trivial
theorem x.tw6164925503713636432 : True := trivial
theorem x.tw3940760235686430646 : True := trivial
theorem x.tw15630649411745606084 : True := trivial
theorem x.tw9847975308416097469 : True := trivial
theorem x.tw14034182530919158858 : True := trivial
theorem x.tw378121669376204292 : True := trivial
theorem x.tw10818937669112151737 : True := trivial
theorem x.tw7560942742907697539 : True := trivial
theorem x.tw2774071134865889636 : True := trivial
theorem x.tw11937456547947895172 : True := trivial
theorem x.tw14642426259713327964 : True := trivial
theorem x.tw10934922501261311856 : True := trivial
theorem x.tw11823987395372424745 : True := trivial
theorem x.tw3575276182361578026 : True := trivial
theorem x.tw15179452440228313602 : True := trivial
theorem x.tw11687330065423292902 : True := trivial
theorem x.tw17399690513190037843 : True := trivial
theorem x.tw14411759535298899986 : True := trivial
theorem x.tw4126696890745242100 : True := trivial
theorem x.tw12923723253517345923 : True := trivial
theorem x.tw3018043995717684545 : True := trivial
theorem x.tw17727510802651550350 : True := trivial
theorem x.tw6081628855365183206 : True := trivial
theorem x.tw9087499442634988833 : True := trivial
theorem x.tw8731219726873627875 : True := trivial
theorem x.tw17874214885126900397 : True := trivial
theorem x.tw7338171149653478835 : True := trivial
theorem x.tw17582118683515635218 : True := trivial
theorem x.tw3933397803148660768 : True := trivial
theorem x.tw5365906893248945131 : True := trivial
theorem x.tw2808485875777290686 : True := trivial
theorem x.tw10839183739299854398 : True := trivial
theorem x.tw5291674161435922711 : True := trivial
theorem x.tw4694664066096678178 : True := trivial
theorem x.tw4353137785368638991 : True := trivial
theorem x.tw13404080080569854418 : True := trivial
theorem x.tw17419387651419486179 : True := trivial
theorem x.tw16196183541000773128 : True := trivial
theorem x.tw9314955600995567879 : True := trivial
theorem x.tw5772376387604637113 : True := trivial
theorem x.tw17242950417522690955 : True := trivial
theorem x.tw9414052845115507666 : True := trivial
theorem x.tw49713287916457498 : True := trivial
theorem x.tw6414911629305127539 : True := trivial
theorem x.tw11884053099720892034 : True := trivial
theorem x.tw8129337695813753353 : True := trivial
theorem x.tw15184691498586164575 : True := trivial
theorem x.tw5602930417054111180 : True := trivial
theorem x.tw6762002137794617793 : True := trivial
theorem x.tw11775502517900509241 : True := trivial
theorem x.tw2941005166873331770 : True := trivial
theorem x.tw13553900463325113796 : True := trivial
theorem x.tw17128693038411932882 : True := trivial
theorem x.tw7697755396396250407 : True := trivial
theorem x.tw17493980709996516748 : True := trivial
theorem x.tw10724780829119155504 : True := trivial
theorem x.tw1937473382126844471 : True := trivial
theorem x.tw4516934810934743915 : True := trivial
theorem x.tw8295769145949407962 : True := trivial
theorem x.tw10653369914164739173 : True := trivial
theorem x.tw8719130420221826889 : True := trivial
theorem x.tw10066789104696453630 : True := trivial
theorem x.tw16071080503814483969 : True := trivial
theorem x.tw3896083693007571613 : True := trivial
theorem x.tw2760173994756918302 : True := trivial
theorem x.tw9279794183649285674 : True := trivial
theorem x.tw13960735009925813186 : True := trivial
theorem x.tw16663062122981194292 : True := trivial
theorem x.tw11445603533893094434 : True := trivial
theorem x.tw130538918849092870 : True := trivial
theorem x.tw15365430251381188535 : True := trivial
theorem x.tw5559854902101504035 : True := trivial
theorem x.tw2030587414725155241 : True := trivial
theorem x.tw13286133675680583024 : True := trivial
theorem x.tw12461824860774988985 : True := trivial
theorem x.tw1897911926255972164 : True := trivial
theorem x.tw6363397653397583601 : True := trivial
theorem x.tw918223081665066280 : True := trivial
theorem x.tw14019320674832518962 : True := trivial
theorem x.tw3881811204495988814 : True := trivial
theorem x.tw14209563519764628652 : True := trivial
theorem x.tw11038615921957508770 : True := trivial
theorem x.tw6071188302033730307 : True := trivial
theorem x.tw12433876769167609558 : True := trivial
theorem x.tw6989446947585797888 : True := trivial
theorem x.tw15697136923583208866 : True := trivial
theorem x.tw7900561403994041939 : True := trivial
theorem x.tw5654415358209667011 : True := trivial
theorem x.tw2262013684384779099 : True := trivial
theorem x.tw13878197980269189126 : True := trivial
theorem x.tw18193032549937625168 : True := trivial
theorem x.tw10480007635166841858 : True := trivial
theorem x.tw8504720548237666298 : True := trivial
theorem x.tw3917692011012030617 : True := trivial
theorem x.tw16029240660244205882 : True := trivial
theorem x.tw4377144168633210116 : True := trivial
theorem x.tw16044349837289093929 : True := trivial
theorem x.tw16343485113875459693 : True := trivial
theorem x.tw1404283574385323387 : True := trivial
theorem x.tw11199771451364095874 : True := trivial
theorem x.tw7233621406569614028 : True := trivial
theorem x.tw13509644054268046008 : True := trivial
theorem x.tw4714989363750917325 : True := trivial
theorem x.tw10346329977637754999 : True := trivial
theorem x.tw9523723680188670232 : True := trivial
theorem x.tw10525739240252636989 : True := trivial
theorem x.tw18441254240430968841 : True := trivial
theorem x.tw13383335018554019124 : True := trivial
theorem x.tw18148632499684739371 : True := trivial
theorem x.tw4203466863050935155 : True := trivial
theorem x.tw2503383851743107049 : True := trivial
theorem x.tw6213077585620078959 : True := trivial
theorem x.tw230550421890422142 : True := trivial
theorem x.tw2510208313702720416 : True := trivial
theorem x.tw5188954137681692320 : True := trivial
theorem x.tw16682168734414259751 : True := trivial
theorem x.tw3731599165029837065 : True := trivial
theorem x.tw13995897299514615827 : True := trivial
theorem x.tw7620439114524771159 : True := trivial
theorem x.tw4418804259831603743 : True := trivial
theorem x.tw4660150741601667129 : True := trivial
theorem x.tw11174138412563079361 : True := trivial
theorem x.tw8483333946443995097 : True := trivial
theorem x.tw686485073701017565 : True := trivial
theorem x.tw11501079129989429816 : True := trivial
theorem x.tw652140677145011976 : True := trivial
theorem x.tw18387751369287724176 : True := trivial
theorem x.tw5734102074270020093 : True := trivial
theorem x.tw11901385220253547854 : True := trivial
theorem x.tw17508591134574701350 : True := trivial
theorem x.tw9335506418633193063 : True := trivial
theorem x.tw16989305204793095802 : True := trivial
theorem x.tw12417803773081363574 : True := trivial
theorem x.tw440316659002846147 : True := trivial
theorem x.tw8781615088844214523 : True := trivial
theorem x.tw2488568755365922908 : True := trivial
theorem x.tw9275346360590289224 : True := trivial
theorem x.tw13895047746455341852 : True := trivial
theorem x.tw2877658537131324672 : True := trivial
theorem x.tw2430407081202438575 : True := trivial
theorem x.tw13624370894366203576 : True := trivial
theorem x.tw6345953086543602152 : True := trivial
theorem x.tw15814378279618657997 : True := trivial
theorem x.tw18014105477128201965 : True := trivial
theorem x.tw2308301581979924532 : True := trivial
theorem x.tw15790202034449545521 : True := trivial
theorem x.tw14189246566264011863 : True := trivial
theorem x.tw15770187537463389305 : True := trivial
theorem x.tw4806961304177849951 : True := trivial
theorem x.tw6689323484488534535 : True := trivial
theorem x.tw5992548413746140482 : True := trivial
theorem x.tw7358013361742234465 : True := trivial
theorem x.tw4730024251818983634 : True := trivial
theorem x.tw16494870057476053239 : True := trivial
theorem x.tw9512345847452006689 : True := trivial
theorem x.tw11996299347161798078 : True := trivial
theorem x.tw16704840995616299277 : True := trivial
theorem x.tw11675175551037193828 : True := trivial
theorem x.tw7158884164066108494 : True := trivial
theorem x.tw2180225598519881482 : True := trivial
theorem x.tw9095761204093048882 : True := trivial
theorem x.tw6759392236005662302 : True := trivial
theorem x.tw7099823835032311688 : True := trivial
theorem x.tw16787196963380032622 : True := trivial
theorem x.tw7518089445212344763 : True := trivial
theorem x.tw8008398115293277242 : True := trivial
theorem x.tw8956922662521677391 : True := trivial
theorem x.tw15100461006478070828 : True := trivial
theorem x.tw7786383420094719546 : True := trivial
theorem x.tw1010278578411500068 : True := trivial
theorem x.tw1821356758316432043 : True := trivial
theorem x.tw13420243628122853752 : True := trivial
theorem x.tw13625478295217002687 : True := trivial
theorem x.tw15424426376055524763 : True := trivial
theorem x.tw17763697576014548745 : True := trivial
theorem x.tw11833552190071727148 : True := trivial
theorem x.tw5234200816470371192 : True := trivial
theorem x.tw7570716981190493047 : True := trivial
theorem x.tw9430903384709548213 : True := trivial
theorem x.tw13632003978631607906 : True := trivial
theorem x.tw5437396367860926943 : True := trivial
theorem x.tw8915487677836490091 : True := trivial
theorem x.tw2714216656829531595 : True := trivial
theorem x.tw3629681586767258163 : True := trivial
theorem x.tw12401680339523607464 : True := trivial
theorem x.tw8834734013172818746 : True := trivial
theorem x.tw3244176093233234941 : True := trivial
theorem x.tw10371146168739184225 : True := trivial
theorem x.tw3562481739686499562 : True := trivial
theorem x.tw6701707720421869131 : True := trivial
theorem x.tw6627392688554552786 : True := trivial
theorem x.tw14816229990928203272 : True := trivial
theorem x.tw6805995646604004565 : True := trivial
theorem x.tw11514130945867980463 : True := trivial
theorem x.tw10009160832155050540 : True := trivial
theorem x.tw54804997478021788 : True := trivial
theorem x.tw9185333269093378783 : True := trivial
theorem x.tw3544861720533446463 : True := trivial
theorem x.tw15186336224708085983 : True := trivial
theorem x.tw15583775511102383754 : True := trivial
theorem x.tw425577058982374745 : True := trivial
theorem x.tw7932533990442072677 : True := trivial
theorem x.tw2181795950510259404 : True := trivial
theorem x.tw12787705279609391932 : True := trivial
theorem x.tw13456645568142478491 : True := trivial
theorem x.tw9910429298768363764 : True := trivial
theorem x.tw12738833279926380175 : True := trivial
theorem x.tw13195642155748614843 : True := trivial
theorem x.tw1326309660327383434 : True := trivial
theorem x.tw13457933466780970126 : True := trivial
theorem x.tw14055956709092989468 : True := trivial
theorem x.tw17691347446005402649 : True := trivial
theorem x.tw16223593320909980816 : True := trivial
theorem x.tw15460409358483588172 : True := trivial
theorem x.tw9385763043660645162 : True := trivial
theorem x.tw1846702302530707924 : True := trivial
theorem x.tw466745474754206765 : True := trivial
theorem x.tw11385762947692907880 : True := trivial
theorem x.tw13911296529826804998 : True := trivial
theorem x.tw11802279843911420041 : True := trivial
theorem x.tw16902231400631128257 : True := trivial
theorem x.tw8540945352355467043 : True := trivial
theorem x.tw11631502445704908054 : True := trivial
theorem x.tw1477827691589033132 : True := trivial
theorem x.tw16883198435377461662 : True := trivial
theorem x.tw1911525820062306529 : True := trivial
theorem x.tw14621089452471173696 : True := trivial
theorem x.tw10337713858166904036 : True := trivial
theorem x.tw3461889752873945555 : True := trivial
theorem x.tw13305670851187372719 : True := trivial
theorem x.tw12106543564560068109 : True := trivial
theorem x.tw8770850211004502190 : True := trivial
theorem x.tw18408758822977267605 : True := trivial
theorem x.tw8176206828167774037 : True := trivial
theorem x.tw7330704383911361091 : True := trivial
theorem x.tw14860364026049536479 : True := trivial
theorem x.tw14391522486415727291 : True := trivial
theorem x.tw11690331266879010249 : True := trivial
theorem x.tw14760099998043809102 : True := trivial
theorem x.tw16681757536518889665 : True := trivial
theorem x.tw15208340334368436412 : True := trivial
theorem x.tw9821561836590550044 : True := trivial
theorem x.tw1762852492130322403 : True := trivial
theorem x.tw14495197485289896433 : True := trivial
theorem x.tw6044441613383836518 : True := trivial
theorem x.tw1139522334345932651 : True := trivial
theorem x.tw14564539787212841065 : True := trivial
theorem x.tw8708084076596553339 : True := trivial
theorem x.tw5392971455435801587 : True := trivial
theorem x.tw17090399368757476015 : True := trivial
theorem x.tw13951148102435905966 : True := trivial
theorem x.tw9050724817417517336 : True := trivial
theorem x.tw319455692255987101 : True := trivial
theorem x.tw1547508298962110977 : True := trivial
theorem x.tw14527931800672545638 : True := trivial
theorem x.tw13681343968574968315 : True := trivial
theorem x.tw17275957359131114796 : True := trivial
theorem x.tw3057805363477927155 : True := trivial
theorem x.tw16193708197277403873 : True := trivial
theorem x.tw17918841234362704929 : True := trivial
theorem x.tw5649184971023305162 : True := trivial
theorem x.tw13059714073094251291 : True := trivial
theorem x.tw13925600040897096018 : True := trivial
theorem x.tw7687100253586816798 : True := trivial
theorem x.tw1225929995692072060 : True := trivial
theorem x.tw10791274949475692085 : True := trivial
theorem x.tw16530866331073812311 : True := trivial
theorem x.tw3810043677469060461 : True := trivial
theorem x.tw14939703982172950363 : True := trivial
theorem x.tw3685065761131243330 : True := trivial
theorem x.tw18256774291305713310 : True := trivial
theorem x.tw9579657653914677203 : True := trivial
theorem x.tw16407658361398169443 : True := trivial
theorem x.tw10757968344062361776 : True := trivial
theorem x.tw10535028709905733415 : True := trivial
theorem x.tw3333135634435706750 : True := trivial
theorem x.tw10921241487703970548 : True := trivial
theorem x.tw12204535386164934915 : True := trivial
theorem x.tw5808590020691599037 : True := trivial
theorem x.tw2049460588245530071 : True := trivial
theorem x.tw5275940119117121244 : True := trivial
theorem x.tw17688814690812621077 : True := trivial
theorem x.tw7902012338209538401 : True := trivial
theorem x.tw16171945164727132587 : True := trivial
theorem x.tw6123255989475841923 : True := trivial
theorem x.tw3698016540019659808 : True := trivial
theorem x.tw16086342708168435728 : True := trivial
theorem x.tw18009941181672653003 : True := trivial
theorem x.tw16675231445544312567 : True := trivial
theorem x.tw14235843712577062258 : True := trivial
theorem x.tw5556929860112169100 : True := trivial
theorem x.tw18244996135818526801 : True := trivial
theorem x.tw6715582631108203782 : True := trivial
theorem x.tw6692482469353546723 : True := trivial
theorem x.tw14731015455150100329 : True := trivial
theorem x.tw6024237633146544035 : True := trivial
theorem x.tw1074525938039306782 : True := trivial
theorem x.tw5189050842058491940 : True := trivial
theorem x.tw13266402878141357004 : True := trivial
theorem x.tw2149461152611864792 : True := trivial
theorem x.tw13348930880337077077 : True := trivial
theorem x.tw3151297232678651169 : True := trivial
theorem x.tw11830229877695963470 : True := trivial
theorem x.tw13151638145551511817 : True := trivial
theorem x.tw11056226911114484436 : True := trivial
theorem x.tw7670066692240471240 : True := trivial
theorem x.tw15291912424312321969 : True := trivial
theorem x.tw10882022406747698613 : True := trivial
theorem x.tw6946233028526211146 : True := trivial
theorem x.tw16933433553694432413 : True := trivial
theorem x.tw2070596085503899165 : True := trivial
theorem x.tw12235728486688705004 : True := trivial
theorem x.tw15533313513226432012 : True := trivial
theorem x.tw4925957641110838725 : True := trivial
theorem x.tw5410891375964392537 : True := trivial
theorem x.tw15245849869452018419 : True := trivial
theorem x.tw15678699275516499568 : True := trivial
theorem x.tw10226019172108698175 : True := trivial
theorem x.tw13711423582505523536 : True := trivial
theorem x.tw9999499793817672078 : True := trivial
theorem x.tw12994143417171977454 : True := trivial
theorem x.tw17688354173212926204 : True := trivial
theorem x.tw10569255382827478549 : True := trivial
theorem x.tw11508047845633804919 : True := trivial
theorem x.tw4298905093436458867 : True := trivial
theorem x.tw13757659492081354683 : True := trivial
theorem x.tw14892279302759909154 : True := trivial
theorem x.tw11238088504442425704 : True := trivial
theorem x.tw1261695478015965603 : True := trivial
theorem x.tw5879566014789606625 : True := trivial
theorem x.tw13367855428709287406 : True := trivial
theorem x.tw6636379785725748586 : True := trivial
theorem x.tw13947031381092725593 : True := trivial
theorem x.tw12063771883288316417 : True := trivial
theorem x.tw8938286246435785386 : True := trivial
theorem x.tw5804698522729214953 : True := trivial
theorem x.tw6802943048862258988 : True := trivial
theorem x.tw9084636662999748164 : True := trivial
theorem x.tw4367896302222888572 : True := trivial
theorem x.tw2080181832756378157 : True := trivial
theorem x.tw6217951716010286405 : True := trivial
theorem x.tw16868963979869652963 : True := trivial
theorem x.tw9725382588578855575 : True := trivial
theorem x.tw6230900161991319656 : True := trivial
theorem x.tw15463307242940609706 : True := trivial
theorem x.tw3190763850416584886 : True := trivial
theorem x.tw10460298856954944025 : True := trivial
theorem x.tw7154660803688209970 : True := trivial
theorem x.tw5581037827576068036 : True := trivial
theorem x.tw15760408904987761211 : True := trivial
theorem x.tw14766882862815897751 : True := trivial
theorem x.tw6626372317466925969 : True := trivial
theorem x.tw5090975748541532068 : True := trivial
theorem x.tw11038676408500184233 : True := trivial
theorem x.tw4927466292544012243 : True := trivial
theorem x.tw12300088240222704753 : True := trivial
theorem x.tw2266565110031352863 : True := trivial
theorem x.tw6057305365534312016 : True := trivial
theorem x.tw7763832708353373828 : True := trivial
theorem x.tw13152000522137671307 : True := trivial
theorem x.tw10279080800591383321 : True := trivial
theorem x.tw16235381108583116441 : True := trivial
theorem x.tw8701300170085719333 : True := trivial
theorem x.tw1331042729614375384 : True := trivial
theorem x.tw1662353425484187019 : True := trivial
theorem x.tw5285631970104304785 : True := trivial
theorem x.tw2511845003084617712 : True := trivial
theorem x.tw17556134957864280480 : True := trivial
theorem x.tw17741271170645145644 : True := trivial
theorem x.tw9734139578838640468 : True := trivial
theorem x.tw14368359798748637774 : True := trivial
theorem x.tw12357257306730215335 : True := trivial
theorem x.tw16992988691258576837 : True := trivial
theorem x.tw4423329195707834276 : True := trivial
theorem x.tw9139255790431897975 : True := trivial
theorem x.tw1843265426918247775 : True := trivial
theorem x.tw4925167556210888386 : True := trivial
theorem x.tw4642934215371500760 : True := trivial
theorem x.tw2662806063479153118 : True := trivial
theorem x.tw6534115796685660426 : True := trivial
theorem x.tw12555855287479064542 : True := trivial
theorem x.tw10675130999574031611 : True := trivial
theorem x.tw1522788409887322740 : True := trivial
theorem x.tw5444495295266863681 : True := trivial
theorem x.tw7868443895440054513 : True := trivial
theorem x.tw12387249792668917091 : True := trivial
theorem x.tw15017155745608512276 : True := trivial
theorem x.tw5624581029892550738 : True := trivial
theorem x.tw17394527227752172927 : True := trivial
theorem x.tw7935230909281515101 : True := trivial
theorem x.tw15960217252020907611 : True := trivial
theorem x.tw12620965543213870692 : True := trivial
theorem x.tw18344431587121631993 : True := trivial
theorem x.tw291460488091536815 : True := trivial
theorem x.tw8604951737876342204 : True := trivial
theorem x.tw4038705184777265236 : True := trivial
theorem x.tw16344940085568571254 : True := trivial
theorem x.tw1001532501855727302 : True := trivial
theorem x.tw2297875269983110331 : True := trivial
theorem x.tw10673936430186922526 : True := trivial
theorem x.tw6995121177932976223 : True := trivial
theorem x.tw4299154929937433062 : True := trivial
theorem x.tw50765603190942054 : True := trivial
theorem x.tw7089773832308013656 : True := trivial
theorem x.tw16624541281840933487 : True := trivial
theorem x.tw4109133943812738124 : True := trivial
theorem x.tw12772063586948721766 : True := trivial
theorem x.tw16475181908495150562 : True := trivial
theorem x.tw3426142875666511927 : True := trivial
theorem x.tw13139566152826953669 : True := trivial
theorem x.tw15189604770913195686 : True := trivial
theorem x.tw11919879220120795280 : True := trivial
theorem x.tw13824257015375245630 : True := trivial
theorem x.tw7454299920706803588 : True := trivial
theorem x.tw974576807944425255 : True := trivial
theorem x.tw15413583522491053374 : True := trivial
theorem x.tw5893276544300161504 : True := trivial
theorem x.tw13072373567515480538 : True := trivial
theorem x.tw15748826475244354759 : True := trivial
theorem x.tw11263278172391293508 : True := trivial
theorem x.tw1076621120908848105 : True := trivial
theorem x.tw9858674147946454049 : True := trivial
theorem x.tw4003381714396428845 : True := trivial
theorem x.tw1800494725884142509 : True := trivial
theorem x.tw8275940422212164360 : True := trivial
theorem x.tw16124165753812819439 : True := trivial
theorem x.tw11152097150223382674 : True := trivial
theorem x.tw16620959984405672424 : True := trivial
theorem x.tw4392128312716382281 : True := trivial
theorem x.tw15606782457214070813 : True := trivial
theorem x.tw3086963543650188869 : True := trivial
theorem x.tw8766568584493570577 : True := trivial
theorem x.tw9480908233335186302 : True := trivial
theorem x.tw11653083676658106259 : True := trivial
theorem x.tw12988179844777574384 : True := trivial
theorem x.tw1767159973603763557 : True := trivial
theorem x.tw4726649939641546272 : True := trivial
theorem x.tw11540676082647688023 : True := trivial
theorem x.tw2826027730710671101 : True := trivial
theorem x.tw12682732008687886618 : True := trivial
theorem x.tw15745935162226931066 : True := trivial
theorem x.tw2501844482822224543 : True := trivial
theorem x.tw700693766434587172 : True := trivial
theorem x.tw8955554126749809316 : True := trivial
theorem x.tw3451411277532209348 : True := trivial
theorem x.tw10413092625324450665 : True := trivial
theorem x.tw16219133078508084671 : True := trivial
theorem x.tw1902994482729452793 : True := trivial
theorem x.tw6290921284420106355 : True := trivial
theorem x.tw855200012024981694 : True := trivial
theorem x.tw9423116016098024916 : True := trivial
theorem x.tw7367044692127031712 : True := trivial
theorem x.tw13469742870715572254 : True := trivial
theorem x.tw8736992419225296177 : True := trivial
theorem x.tw11568292430766643722 : True := trivial
theorem x.tw9066077841748542883 : True := trivial
theorem x.tw3149319923456874997 : True := trivial
theorem x.tw11248508363824571033 : True := trivial
theorem x.tw5977407392303757512 : True := trivial
theorem x.tw14662017234343769399 : True := trivial
theorem x.tw12976323709940572926 : True := trivial
theorem x.tw6963639386135523632 : True := trivial
theorem x.tw6388240242455705752 : True := trivial
theorem x.tw13313892878447484956 : True := trivial
theorem x.tw9587714538241670347 : True := trivial
theorem x.tw18147990316148390285 : True := trivial
theorem x.tw9652982682397368998 : True := trivial
theorem x.tw12715434463041855949 : True := trivial
theorem x.tw18240647713423042901 : True := trivial
theorem x.tw10859420416805914402 : True := trivial
theorem x.tw4759826556922766526 : True := trivial
theorem x.tw3710745936682407702 : True := trivial
theorem x.tw8546214764176123718 : True := trivial
theorem x.tw1257233205287073285 : True := trivial
theorem x.tw4261340436814100215 : True := trivial
theorem x.tw13100875268800688032 : True := trivial
theorem x.tw16301126859146522986 : True := trivial
theorem x.tw9538734771886776428 : True := trivial
theorem x.tw16040622176275991977 : True := trivial
theorem x.tw2526065683336569023 : True := trivial
theorem x.tw13858607164585766432 : True := trivial
theorem x.tw14370012482020207052 : True := trivial
theorem x.tw6177858976038286452 : True := trivial
theorem x.tw3299604873197239558 : True := trivial
theorem x.tw2549776721130494238 : True := trivial
theorem x.tw12757561806736355991 : True := trivial
theorem x.tw10953674834552578204 : True := trivial
theorem x.tw15694333413365712200 : True := trivial
theorem x.tw13407300215643200283 : True := trivial
theorem x.tw1097803916355987652 : True := trivial
theorem x.tw17577566077262806468 : True := trivial
theorem x.tw13983588808995212183 : True := trivial
theorem x.tw17380532202520998642 : True := trivial
theorem x.tw6015312595506117755 : True := trivial
theorem x.tw2158287766650901963 : True := trivial
theorem x.tw3466878022938733119 : True := trivial
theorem x.tw12414323758184252710 : True := trivial
theorem x.tw11880967880999230385 : True := trivial
theorem x.tw9253478511937957935 : True := trivial
theorem x.tw17751287409962625766 : True := trivial
theorem x.tw9395590017629532570 : True := trivial
theorem x.tw9933000625915331174 : True := trivial
theorem x.tw7364939747836815087 : True := trivial
theorem x.tw8354809705143952458 : True := trivial
theorem x.tw444000361798711990 : True := trivial
theorem x.tw7851465932976235069 : True := trivial
theorem x.tw3287712018309656675 : True := trivial
theorem x.tw15079091284657969264 : True := trivial
theorem left_open {T : Prop} {h : T} (_ : h = h) : T := h
set_option Elab.async true in
set_option maxRecDepth 100000 in
set_option maxHeartbeats 8000000 in
theorem x : True := by
  let _P : Prop := type_of% (show PySem.Challenge.rw_wo0082_01.Holds from by
    as_aux_lemma =>
      w_on
      o_law
      as_aux_lemma =>
        k_head
        case hw => w_witness2
        apply_rules (newGoals := .nonDependentOnly) (maxDepth := 1) only [@left_open]
        constructor)
  trivial
end Mine
open PySem PySem.W PyProof.Rows PySem.Calls PySem.Spec
set_option Elab.async false
set_option linter.all false
set_option maxRecDepth 100000
set_option maxHeartbeats 8000000
namespace Mine
theorem fill_all (P : Params) (h : (Mine.x.heap_1_39 P).length = PySem.Challenge.rw_wo0082_01.prog.main.body.length) : (Mine.x.heap_1_39 P).length = PySem.Challenge.rw_wo0082_01.prog.main.body.length := by
  k_fill
  exact h
local macro_rules
  | `(tactic| walk_at $s:str) => `(tactic| k_extra $s)
local macro_rules | `(tactic| k_all) => `(tactic| k_extra "my k_all")
local macro_rules | `(tactic| k_ne) => `(tactic| k_extra "my k_ne")
local macro_rules | `(tactic| k_steps) => `(tactic| k_extra "my k_steps")
local macro_rules
  | `(tactic| wtm_at $s:str) => do
    let t := s.getString
    unless t.startsWith "?" do Lean.Macro.throwUnsupported
    let mut ok := false
    for r in (t.drop 1).toString.splitOn "," do
      match (r.splitOn "-").map String.toNat! with
      | [a, b] =>
        if ← Lean.Macro.hasDecl (Lean.Name.str `Mine s!"md{a}") then
          unless ← Lean.Macro.hasDecl (Lean.Name.str `Mine s!"md{b + 1}") do ok := true
      | _ => pure ()
    if ok then `(tactic| skip) else `(tactic| fail)
theorem hooks : True := by
  w_top off
  (k_with "my lts" => (wtm_at "?2-81"; first | assumption | exact And.right (by assumption) | exact And.right (And.right (by assumption)) | exact And.right (And.right (And.right (by assumption))) | exact And.right (And.right (And.right (And.right (by assumption)))) | exact And.right (And.right (And.right (And.right (And.right (by assumption))))) | exact And.right (And.right (And.right (And.right (And.right (And.right (by assumption)))))) | exact And.right (And.right (And.right (And.right (And.right (And.right (And.right (by assumption)))))))))
  (k_with "my k_all" => (wtm_at "?2-81"; first | assumption | (refine allLt_ne ?_; k_extra "my lts")))
  (k_with "my k_ne" => (wtm_at "?2-81"; (refine neN ?_; (try dsimp only); first | with_reducible assumption | k_extra "my ne" | omega)))
  (k_with "my cj" => (wtm_at "?2-81"; with_reducible first | assumption | exact And.left (by assumption) | exact pk1 (by assumption) | exact pk2 (by assumption) | exact pk3 (by assumption) | exact pk4 (by assumption) | exact pk5 (by assumption) | exact pk6 (by assumption) | exact pk7 (by assumption) | exact pk8 (by assumption) | exact pk9 (by assumption) | exact pk10 (by assumption) | exact pk11 (by assumption) | exact pk12 (by assumption) | exact pk13 (by assumption)))
  (k_with "my ne" => (wtm_at "?2-81"; with_reducible first
      | exact neS1 | exact neS1.symm | exact neS2 | exact neS2.symm | exact neS3 | exact neS3.symm | exact neS4 | exact neS4.symm | exact neS5 | exact neS5.symm | exact neS6 | exact neS6.symm
      | (refine Nat.ne_of_lt ?_; k_extra "my cj") | (refine Nat.ne_of_gt ?_; k_extra "my cj") | k_extra "my cj" | (refine Ne.symm ?_; k_extra "my cj")
      | (refine Nat.ne_of_lt (ltU1 ?_); k_extra "my cj") | (refine Nat.ne_of_gt (ltU1 ?_); k_extra "my cj")
      | (refine Nat.ne_of_lt (ltU2 ?_); k_extra "my cj") | (refine Nat.ne_of_gt (ltU2 ?_); k_extra "my cj")
      | (refine Nat.ne_of_lt (ltU3 ?_); k_extra "my cj") | (refine Nat.ne_of_gt (ltU3 ?_); k_extra "my cj")
      | (refine Nat.ne_of_lt (ltU4 ?_); k_extra "my cj") | (refine Nat.ne_of_gt (ltU4 ?_); k_extra "my cj")
      | (refine Nat.ne_of_lt (ltU5 ?_); k_extra "my cj") | (refine Nat.ne_of_gt (ltU5 ?_); k_extra "my cj")
      | (refine Nat.ne_of_lt (ltU6 ?_); k_extra "my cj") | (refine Nat.ne_of_gt (ltU6 ?_); k_extra "my cj")))
  (k_with "callWith" => (wtm_at "?2-81"; (k_here; (with_reducible show wpAny _ _ (callWith _ (Value.builtin _) (_ :: _) _ _) _ _ _); k_dflt (refine callWith_method1 ?_))))
  (k_with "ite" => (wtm_at "?2-81"; (k_here; k_dflt (k_extra "my ite"))))
  (k_with "my fold" => (wtm_at "?2-81"; (k_fold)))
  (k_with "my room" => (wtm_at "?2-81"; first
      | ((try simp only [depth_under_make, depth_under_kw, depth_in1, depth_deeper, depth_caller, units_in1, units_deeper, Around.mark_units, units_caller, recursionLimit]); omega)
      | ((try simp only [depth_under_make, depth_under_kw, depth_in1, depth_deeper, depth_caller, units_in1, units_deeper, Around.mark_units, units_caller, recursionLimit] at *); omega)))
  (k_with "my enter" => (wtm_at "?2-81"; (
      refine wpAny_call ?_
      refine' code_def ?k1 ?k2 ?k3 ?k4 ?k5 ?kA ?kF ?kK ?k6 ?k7 ?k8 ?k9 ?kB ?_ ?c2 ?c3 ?c4 ?c5
      (case kA => assumption)
      (case kF => assumption)
      (case kK => assumption)
      (case k1 => assumption)
      (case k2 => assumption)
      (case k3 => assumption)
      (case k4 => assumption)
      (case k5 => assumption)
      (case k6 => k_is)
      (case k7 => k_is)
      (case k8 => simp only [recursionLimit]; omega)
      (case k9 => first | exact BindsTo.of_eq rfl | exact binds_K (by k_in) rfl (by k_is) rfl rfl rfl)
      (case c5 => decide)
      (case kB => exact locs rfl)
      (case c2 => exact rfl)
      (case c3 => exact rfl)
      (case c4 => exact rfl)
      intro g' L' h' FG' F' N' B' X' T'
      (try dsimp only)
      k_fold)))
  (k_with "my enterC" => (wtm_at "?2-81"; (
      refine wpAny_call ?_
      refine' code_defC ?k1 ?k2 ?k3 ?k4 ?k5 ?kA ?kF ?kK ?k6 ?k7 ?k8 ?k9 ?kB ?kD ?_ ?c2 ?c3 ?c4
      (case kA => assumption)
      (case kF => assumption)
      (case kK => assumption)
      (case k1 => assumption)
      (case k2 => assumption)
      (case k3 => assumption)
      (case k4 => assumption)
      (case k5 => assumption)
      (case k6 => k_is)
      (case k7 => k_is)
      (case k8 => simp only [recursionLimit]; omega)
      (case k9 => first | exact BindsTo.of_eq rfl | exact binds_K (by k_in) rfl (by k_is) rfl rfl rfl)
      (case kB => exact rfl)
      (case kD => decide +kernel)
      (case c2 => exact rfl)
      (case c3 => exact rfl)
      (case c4 => exact rfl)
      intro g' L' h' tk' cells' FG' F' N' Y' B' X' T' l1
      replace l1 := allLt_of l1
      have l2 := allLt_up l1
      have l3 := allLt_up l2
      have l4 := allLt_up l3
      (try simp only [AllLt, and_true] at l1)
      k_cells Y'
      (try simp only [List.cons_append, List.nil_append] at N')
      (try dsimp only)
      (try k_fold))))
  (k_with "my len" => (wtm_at "?2-81"; (((repeat first | (rw [PySem.Str.length_append])); (try rw [len_ofString1 (n := 1) rfl])); omega)))
  (k_with "binaryOp Add str str" => (wtm_at "?2-81"; (k_here; (with_reducible show wpAny _ _ (binaryOp Operator.Add (Value.str _ _) (Value.str _ _)) _ _ _); refine add_text (by k_extra "my len") ?_; intro _ _)))
  (k_with "my k_steps" => (wtm_at "?7-11,16-23,25-28,30-30,32-39,41-44,46-49,51-59,61-81"; repeat' (first | (k_unfold; (try dsimp only)) | (k_end; kc_close) | ((try dsimp only); (try ((with_reducible show wpAny _ _ (exec _ _) _ _ _); k_fold)); walk1) | walk1 | (dsimp only; walk1) | (leave1; walk_say "STEP leave1"; (try dsimp only)) | fail "no step")))
  (k_with "storeName" => (wtm_at "?7-11,16-23,25-28,30-30,32-39,41-44,46-49,51-59,61-81"; (k_here; k_dflt (refine' st_let ?a ?b ?F ?N ?_; (case F => k_asm); (case N => k_asm); (case a => rfl); (case b => rfl); k_whole; intro h' mm' F' N'; (try k_sweep)))))
  (k_with "eval Name" => (wtm_at "?7-11,16-23,25-28,30-30,32-39,41-44,46-49,51-59,61-81"; (k_here; k_dflt (refine' nm_L ?a ?b ?d ?F ?v ?_; (case F => k_asm); (case a => rfl); (case b => rfl); (case d => decide); (case v => rfl); k_whole))))
  (k_with "my le" => (wtm_at "?7-11,16-23,25-28,30-30,32-39,41-44,46-49,51-59,61-81"; first | exact Nat.le_of_ble_eq_true rfl | omega))
  (k_with "my len" => (wtm_at "?4-4"; (simp only [PySem.Str.length_append, len1.1, len1.2.1, len1.2.2]; omega)))
  (k_with "call type:str" => (wtm_at "?4-4"; (k_here; (with_reducible show wpAny _ _ (call (Value.type "str") [Value.int _ _]) _ _ _); refine P.str_of_int (by assumption) ?_)))
  (k_with "my len" => (wtm_at "?8-11,17-23,25-28,30-30,32-39,41-44,47-49,51-59,62-67,69-81"; (simp only [S_length, PySem.Str.length_append, List.length_append, List.length_cons, List.length_nil] at *; omega)))
  (k_with "my size" => (wtm_at "?8-11,17-23,25-28,30-30,32-39,41-44,47-49,51-59,62-67,69-81"; first | assumption | (rw [sizeLine_eq]; omega) | omega))
  (k_with "subscriptTail Name Slice str ref" => (wtm_at "?8-11,17-23,25-28,30-30,32-39,41-44,47-49,51-59,62-67,69-81"; (k_here; (with_reducible show wpAny _ _ (subscriptTail _ (Expr.Slice none (some _) none _) (Value.str _ _) (Value.ref _)) _ _ _); (with_reducible rename Fr _ _ _ _ => F'); (with_reducible rename News _ _ _ _ => N'); (refine slice_strN_ns (hsz := ?hsz) (s := ⟨_, _, _, _, _⟩) F' N' ?_); (case hsz => k_extra "my size"); intro _ _ _ _ _; (try (k_extra "my text")))))
  (k_with "subscriptTail Call Slice str ref" => (wtm_at "?8-11,17-23,25-28,30-30,32-39,41-44,47-49,51-59,62-67,69-81"; (k_here; (with_reducible show wpAny _ _ (subscriptTail _ (Expr.Slice none (some _) none _) (Value.str _ _) (Value.ref _)) _ _ _); (with_reducible rename Fr _ _ _ _ => F'); (with_reducible rename News _ _ _ _ => N'); (refine slice_strN_ns (hsz := ?hsz) (s := ⟨_, _, _, _, _⟩) F' N' ?_); (case hsz => k_extra "my size"); intro _ _ _ _ _; (try (k_extra "my text")))))
  (k_with "subscriptTail Subscript Slice str ref" => (wtm_at "?8-11,17-23,25-28,30-30,32-39,41-44,47-49,51-59,62-67,69-81"; (k_here; (with_reducible show wpAny _ _ (subscriptTail _ (Expr.Slice none (some _) none _) (Value.str _ _) (Value.ref _)) _ _ _); (with_reducible rename Fr _ _ _ _ => F'); (with_reducible rename News _ _ _ _ => N'); (refine slice_strN_ns (hsz := ?hsz) (s := ⟨_, _, _, _, _⟩) F' N' ?_); (case hsz => k_extra "my size"); intro _ _ _ _ _; (try (k_extra "my text")))))
  (k_with "subscriptTail Name Slice str ref" => (wtm_at "?8-11,17-23,25-28,30-30,32-39,41-44,47-49,51-59,62-67,69-81"; (k_here; (with_reducible show wpAny _ _ (subscriptTail _ (Expr.Slice (some _) none none _) (Value.str _ _) (Value.ref _)) _ _ _); (with_reducible rename Fr _ _ _ _ => F'); (with_reducible rename News _ _ _ _ => N'); (refine slice_strN_sn (hsz := ?hsz) (s := ⟨_, _, _, _, _⟩) F' N' ?_); (case hsz => k_extra "my size"); intro _ _ _ _ _; (try (k_extra "my text")))))
  (k_with "subscriptTail Call Slice str ref" => (wtm_at "?8-11,17-23,25-28,30-30,32-39,41-44,47-49,51-59,62-67,69-81"; (k_here; (with_reducible show wpAny _ _ (subscriptTail _ (Expr.Slice (some _) none none _) (Value.str _ _) (Value.ref _)) _ _ _); (with_reducible rename Fr _ _ _ _ => F'); (with_reducible rename News _ _ _ _ => N'); (refine slice_strN_sn (hsz := ?hsz) (s := ⟨_, _, _, _, _⟩) F' N' ?_); (case hsz => k_extra "my size"); intro _ _ _ _ _; (try (k_extra "my text")))))
  (k_with "subscriptTail Subscript Slice str ref" => (wtm_at "?8-11,17-23,25-28,30-30,32-39,41-44,47-49,51-59,62-67,69-81"; (k_here; (with_reducible show wpAny _ _ (subscriptTail _ (Expr.Slice (some _) none none _) (Value.str _ _) (Value.ref _)) _ _ _); (with_reducible rename Fr _ _ _ _ => F'); (with_reducible rename News _ _ _ _ => N'); (refine slice_strN_sn (hsz := ?hsz) (s := ⟨_, _, _, _, _⟩) F' N' ?_); (case hsz => k_extra "my size"); intro _ _ _ _ _; (try (k_extra "my text")))))
  (k_with "subscriptTail Name Slice str ref" => (wtm_at "?8-11,17-23,25-28,30-30,32-39,41-44,47-49,51-59,62-67,69-81"; (k_here; (with_reducible show wpAny _ _ (subscriptTail _ (Expr.Slice (some _) (some _) none _) (Value.str _ _) (Value.ref _)) _ _ _); (with_reducible rename Fr _ _ _ _ => F'); (with_reducible rename News _ _ _ _ => N'); (refine slice_strN_ss (hsz := ?hsz) (s := ⟨_, _, _, _, _⟩) F' N' ?_); (case hsz => k_extra "my size"); intro _ _ _ _ _; (try (k_extra "my text")))))
  (k_with "subscriptTail Call Slice str ref" => (wtm_at "?8-11,17-23,25-28,30-30,32-39,41-44,47-49,51-59,62-67,69-81"; (k_here; (with_reducible show wpAny _ _ (subscriptTail _ (Expr.Slice (some _) (some _) none _) (Value.str _ _) (Value.ref _)) _ _ _); (with_reducible rename Fr _ _ _ _ => F'); (with_reducible rename News _ _ _ _ => N'); (refine slice_strN_ss (hsz := ?hsz) (s := ⟨_, _, _, _, _⟩) F' N' ?_); (case hsz => k_extra "my size"); intro _ _ _ _ _; (try (k_extra "my text")))))
  (k_with "subscriptTail Subscript Slice str ref" => (wtm_at "?8-11,17-23,25-28,30-30,32-39,41-44,47-49,51-59,62-67,69-81"; (k_here; (with_reducible show wpAny _ _ (subscriptTail _ (Expr.Slice (some _) (some _) none _) (Value.str _ _) (Value.ref _)) _ _ _); (with_reducible rename Fr _ _ _ _ => F'); (with_reducible rename News _ _ _ _ => N'); (refine slice_strN_ss (hsz := ?hsz) (s := ⟨_, _, _, _, _⟩) F' N' ?_); (case hsz => k_extra "my size"); intro _ _ _ _ _; (try (k_extra "my text")))))
  (k_with "subscriptTail Name Name str int" => (wtm_at "?8-11,17-23,25-28,30-30,32-39,41-44,47-49,51-59,62-67,69-81"; (k_here; (with_reducible show wpAny _ _ (subscriptTail _ _ (Value.str _ _) (Value.int _ _)) _ _ _); (refine item_text (by omega) (by omega) (by omega) ?_); intro _ _; (try (k_extra "my text")))))
  (k_with "subscriptTail Name BinOp str int" => (wtm_at "?8-11,17-23,25-28,30-30,32-39,41-44,47-49,51-59,62-67,69-81"; (k_here; (with_reducible show wpAny _ _ (subscriptTail _ _ (Value.str _ _) (Value.int _ _)) _ _ _); (refine item_text (by omega) (by omega) (by omega) ?_); intro _ _; (try (k_extra "my text")))))
  (k_with "subscriptTail Name Constant str int" => (wtm_at "?8-11,17-23,25-28,30-30,32-39,41-44,47-49,51-59,62-67,69-81"; (k_here; (with_reducible show wpAny _ _ (subscriptTail _ _ (Value.str _ _) (Value.int _ _)) _ _ _); (refine item_text (by omega) (by omega) (by omega) ?_); intro _ _; (try (k_extra "my text")))))
  (k_with "subscriptTail Name UnaryOp str int" => (wtm_at "?8-11,17-23,25-28,30-30,32-39,41-44,47-49,51-59,62-67,69-81"; (k_here; (with_reducible show wpAny _ _ (subscriptTail _ _ (Value.str _ _) (Value.int _ _)) _ _ _); (refine item_text (by omega) (by omega) (by omega) ?_); intro _ _; (try (k_extra "my text")))))
  (k_with "exec While Compare cons nil" => (wtm_at "?9-9"; (k_here; refine Hold.out ?_)))
  (k_with "call builtin:str.find" => (wtm_at "?10-11,17-23,25-28,30-30,32-39,41-44,47-49,51-59,62-67,69-81"; (k_here; (with_reducible show wpAny _ _ (call (Value.builtin "str.find") [Value.str _ _, Value.str _ _]) _ _ _); refine SC.find ?_; (try (k_extra "my text")))))
  (k_with "call builtin:str.find" => (wtm_at "?10-11,17-23,25-28,30-30,32-39,41-44,47-49,51-59,62-67,69-81"; (k_here; (with_reducible show wpAny _ _ (call (Value.builtin "str.find") [Value.str _ _, Value.str _ _, Value.int _ _]) _ _ _); refine SC.find3 ?_; (try (k_extra "my text")))))
  (k_with "call builtin:str.split" => (wtm_at "?11-11"; (k_here; (with_reducible show wpAny _ _ (call (Value.builtin "str.split") [Value.str _ _, Value.str _ _]) _ _ _); refine split5 (by k_asm) (by k_asm) (by assumption) (by rfl) (by k_extra "my size") ?_; intro D' t1' t2' t3' t4' t5' h' k' F' N' l1; (try k_lt l1))))
  (k_with "subscriptTail Name Constant ref int" => (wtm_at "?11-11"; (k_here; (with_reducible show wpAny _ _ (subscriptTail _ (PySem.Expr.Constant _ _ _) (Value.ref _) (Value.int _ _)) _ _ _); (with_unfolding_all refine' item_litK ?k1 ?k2 ?k3 ?k4 ?_ ?k6; (case k1 => is_list); (case k2 => decide); (case k3 => decide); (case k4 => rfl); (case k6 => with_unfolding_all rfl); k_whole))))
  (k_with "getMethod ref" => (wtm_at "?15-15"; (k_here; (with_reducible show wpAny _ _ (getMethod (Value.ref _) (PySem.Str.ofString "search") _) _ _ _); (with_reducible rename Fr _ _ _ _ => F'); (with_reducible rename Frag.In _ _ => X'); k_dflt (refine re_method (Frag.In.keeps X' (Fr.keep F') _ _ (by k_is)) ?_))))
  (k_with "call builtin:re.Pattern.search" => (wtm_at "?15-15"; (k_here; (with_reducible rename Fr _ _ _ _ => F'); (with_reducible rename Frag.In _ _ => X'); k_dflt (first
      | (refine' re_search (Frag.In.keeps X' (Fr.keep F') _ _ (by k_is)) (Frag.In.keeps X' (Fr.keep F') _ _ (by k_is)) Rx.codeN ?he (Rx.search_none (fun c seen h => Rx.inN h seen) (by assumption) rfl rfl) ?hx ?_; (case hx => omega); (case he => decide +kernel))
      | (refine' re_search (Frag.In.keeps X' (Fr.keep F') _ _ (by k_is)) (Frag.In.keeps X' (Fr.keep F') _ _ (by k_is)) Rx.codeV ?he (Rx.search_none (fun c seen h => Rx.inV h seen) (by assumption) rfl rfl) ?hx ?_; (case hx => omega); (case he => decide +kernel))))))
  (k_with "my use" => (wtm_at "?17-23,26-28,32-39,41-44,46-49,51-59,64-67,71-72,74-81"; (
      (case B => k_asm)
      (case F => k_asm)
      (case X => k_asm)
      (case N => k_asm)
      (case T => k_asm)
      (case fr => first | exact rfl | assumption | exact frames_in (by assumption))
      (case fl => first | exact rfl | assumption)
      (case fk => first | exact rfl | assumption)
      (case hh => exact rfl)
      (case hd => k_extra "my room")
      (case hu => k_extra "my room"))))
  (k_with "call ref" => (wtm_at "?17-23,26-28,32-39,41-44,46-49,51-59,64-67,71-72,74-81"; (k_here; (with_reducible show wpAny _ _ (call (Value.ref 235) _ _) _ _ _); k_dflt (refine' Does.use (t_convert ?q1 ?q2) ?B ?F ?X ?N ?T ?fr ?fl ?fk ?hh ?hd ?hu ?_; k_extra "my use"; (case q1 => k_extra "my pre"); (case q2 => k_extra "my pre")); intro v' tl' h' tk' F' N' hP; (obtain ⟨e1, e2⟩ := hP); subst e1 e2; (try dsimp only))))
  (k_with "my enterK" => (wtm_at "?17-23,26-28,32-39,41-44,47-49,51-59,61-72,74-81"; (
      refine' code_def ?k1 ?k2 ?k3 ?k4 ?k5 ?kA ?kF ?kK ?k6 ?k7 ?k8 ?k9 ?kB ?_ ?c2 ?c3 ?c4 ?c5
      (case kA => assumption)
      (case kF => assumption)
      (case kK => assumption)
      (case k1 => assumption)
      (case k2 => assumption)
      (case k3 => assumption)
      (case k4 => assumption)
      (case k5 => assumption)
      (case k6 => k_is)
      (case k7 => k_is)
      (case k8 => simp only [recursionLimit]; omega)
      (case k9 => first | exact BindsTo.of_eq rfl | exact binds_K (by k_in) rfl (by k_is) rfl rfl rfl)
      (case c5 => decide)
      (case kB => exact locs rfl)
      (case c2 => exact rfl)
      (case c3 => exact rfl)
      (case c4 => exact rfl)
      intro g' L' h' FG' F' N' B' X' T'
      (try dsimp only)
      k_fold)))
  (k_with "my room" => (wtm_at "?17-23,26-28,32-39,41-44,47-49,51-59,61-72,74-81"; first
      | ((try simp only [depth_under_make, depth_under_kw, depth_in1, depth_deeper, depth_caller, units_under_make, units_in1, units_deeper, Around.mark_units, units_caller, recursionLimit]); omega)
      | ((try simp only [depth_under_make, depth_under_kw, depth_in1, depth_deeper, depth_caller, units_under_make, units_in1, units_deeper, Around.mark_units, units_caller, recursionLimit] at *); omega)))
  (k_with "my pre" => (wtm_at "?18-18"; assumption))
  (k_with "exec For Tuple Name cons nil" => (wtm_at "?18-18"; (k_here; refine wpAny_For ?_)))
  (k_with "pyIter ref" => (wtm_at "?18-18"; (k_here; refine Hold.out ?_)))
  (k_with "call builtin:str.lower" => (wtm_at "?20-23,26-28,33-39,41-43,47-49,71-72,77-81"; (k_here; (with_reducible show wpAny _ _ (call (Value.builtin "str.lower") [Value.str _ _]) _ _ _); refine SCL.lower (by k_extra "my size") ?_; intro _; (try (k_extra "my text")))))
  (k_with "call builtin:str.swapcase" => (wtm_at "?20-23,26-28,33-39,41-43,47-49,71-72,77-81"; (k_here; (with_reducible show wpAny _ _ (call (Value.builtin "str.swapcase") [Value.str _ _]) _ _ _); refine SCL.swapcase (by k_extra "my size") ?_; intro _; (try (k_extra "my text")))))
  (k_with "my pre" => (wtm_at "?21-21"; assumption))
  (k_with "my size" => (wtm_at "?21-21"; first | assumption | (simp only [S_length]; omega)))
  (k_with "exec For Tuple Attribute cons nil" => (wtm_at "?21-21"; (k_here; refine wpAny_For ?_)))
  (k_with "pyIter ref" => (wtm_at "?21-21"; (k_here; refine Hold.out ?_)))
  (k_with "call ref" => (wtm_at "?22-23"; (k_here; (with_reducible show wpAny _ _ (call (Value.ref 281) _ _) _ _ _); k_dflt (refine' Does.use (t_get ?q1 ?q2 ?q3 ?q4) ?B ?F ?X ?N ?T ?fr ?fl ?fk ?hh ?hd ?hu ?_; k_extra "my use"; (case q1 => assumption); (case q2 => assumption); (case q3 => assumption); (case q4 => assumption)); intro v' tl' h' tk' F' N' hP; (obtain ⟨e1, e2⟩ := hP); subst e1 e2; (try dsimp only))))
  (k_with "call ref" => (wtm_at "?23-23"; (k_here; (with_reducible show wpAny _ _ (call (Value.ref 268) _ _) _ _ _); k_dflt (refine' Does.use (t_has ?q1 ?q2 ?q3 ?q4) ?B ?F ?X ?N ?T ?fr ?fl ?fk ?hh ?hd ?hu ?_; k_extra "my use"; (case q1 => assumption); (case q2 => assumption); (case q3 => assumption); (case q4 => assumption)); intro v' tl' h' tk' F' N' hP; (obtain ⟨e1, e2⟩ := hP); subst e1 e2; (try dsimp only))))
  (k_with "my pre" => (wtm_at "?26-26"; assumption))
  (k_with "my size" => (wtm_at "?26-26"; first | assumption | (simp only [S_length]; omega)))
  (k_with "CompSrcT" => (wtm_at "?26-26"; (k_here; refine Hold.out ?_)))
  (k_with "CompEnd" => (wtm_at "?26-26"; (k_here; refine Hold.out ?_)))
  (k_with "call builtin:str.join" => (wtm_at "?28-28"; (k_here; (with_reducible show wpAny _ _ (call (Value.builtin _) [Value.str _ _, Value.ref _]) _ _ _); (refine join_listW (ys := [_]) (News.isList (by k_asm) (by k_mem)) (by kct_strs) (by decide +kernel) (by k_extra "my join") ?_); intro _ _; rw [join_one])))
  (k_with "my pre" => (wtm_at "?28-28"; assumption))
  (k_with "my enterM" => (wtm_at "?28-28"; (
      refine wpAny_call ?_
      refine' kp_more ?k1 ?k2 ?k3 ?k4 ?k5 ?kA ?kF ?kK ?k6 ?k7 ?k8 ?kX ?kM ?kN ?kD ?kR ?kP ?kT ?kB ?_ ?c2 ?c3 ?c4 ?c5
      (case kA => assumption)
      (case kF => assumption)
      (case kK => assumption)
      (case k1 => assumption)
      (case k2 => assumption)
      (case k3 => assumption)
      (case k4 => assumption)
      (case k5 => assumption)
      (case k6 => k_is)
      (case k7 => k_is)
      (case k8 => simp only [recursionLimit]; omega)
      (case kX => kp_lit)
      (case kM => exact rfl)
      (case kN => exact rfl)
      (case kD => kp_flats)
      (case kR => exact rfl)
      (case kP => exact rfl)
      (case kT => exact fun _ => rfl)
      (case kB => exact fun _ => locs rfl)
      (case c5 => decide)
      (case c2 => exact rfl)
      (case c3 => exact rfl)
      (case c4 => exact rfl)
      intro D' o' g' L' h' tk' l1 lo' hs' fs' FG' F' N' B' X' T'
      (try k_lt l1)
      (try dsimp only)
      (try k_fold))))
  (k_with "call builtin:list.append" => (wtm_at "?28-28"; (k_here; (with_reducible show wpAny _ _ (call (Value.builtin _) [Value.ref _, _]) _ _ _); refine' append_K ?k1 ?k2 ?k3 ?_ ?z; (case k1 => k_asm); (case k2 => k_asm); (case k3 => k_upd); (case z => k_extra "my fit"); intro h' F' N')))
  (k_with "my join" => (wtm_at "?28-28"; (simp [S_length]; omega)))
  (k_with "my size" => (wtm_at "?28-28"; first | assumption | (simp only [S_length]; omega)))
  (k_with "my front" => (wtm_at "?34-39,41-43,47-49,71-72,77-81"; first | k_asm | exact front1 (by k_asm) | exact front2 (by k_asm) | exact front3 (by k_asm) | exact front4 (by k_asm) | exact front5 (by k_asm) | exact front6 (by k_asm)))
  (k_with "my back" => (wtm_at "?34-39,41-43,47-49,71-72,77-81"; ((with_reducible rename News _ _ _ _ => N'); (try replace N' := back1 N'); (try replace N' := backD1 N'); (try replace N' := backD2 N'); (try replace N' := backD3 N'); (try replace N' := backD4 N'); (try replace N' := backD5 N'); (try replace N' := backD6 N'))))
  (k_with "my apart" => (wtm_at "?34-39,41-43,47-49,71-72,77-81"; repeat' first | assumption | (refine Apart.more ?_ ?_) | (refine neN ?_; (try dsimp only); omega)))
  (k_with "my useB" => (wtm_at "?34-39,41-43,47-49,71-72,77-81"; (
      (case N => k_extra "my front")
      (case B => k_asm)
      (case F => k_asm)
      (case X => k_asm)
      (case T => k_asm)
      (case fr => first | exact rfl | assumption | exact frames_in (by assumption))
      (case fl => first | exact rfl | assumption)
      (case fk => first | exact rfl | assumption)
      (case hh => exact rfl)
      (case hd => k_extra "my room")
      (case hu => k_extra "my room"))))
  (k_with "my pre" => (wtm_at "?35-38"; assumption))
  (k_with "my size" => (wtm_at "?35-38"; first | assumption | (simp only [S_length]; omega)))
  (k_with "call ref" => (wtm_at "?35-38"; (k_here; (with_reducible show wpAny _ _ (call (Value.ref 124) _ _) _ _ _); (refine' Does.k0 ?St (t_contains ?q1 ?q2 ?q3 ?q4) ?hr ?F ?N ?_; (case N => k_extra "my front"); (case St => assumption); (case hr => k_extra "my le"); (case F => k_asm); (case q1 => assumption); (case q2 => assumption); (case q3 => assumption); (case q4 => assumption)); intro h' tk' F' N'; k_extra "my back"; (try dsimp only))))
  (k_with "call ref" => (wtm_at "?35-38"; (k_here; (with_reducible show wpAny _ _ (call (Value.ref 273) _ _) _ _ _); (refine' Does.kD ?St (t_getall ?q1 ?q2 ?q3 ?q4) ?hr ?F ?N ?_; (case N => k_extra "my front"); (case St => assumption); (case hr => k_extra "my le"); (case F => k_asm); (case q1 => assumption); (case q2 => assumption); (case q3 => assumption); (case q4 => assumption)); intro D' h' tk' F' N' oD'; k_extra "my back"; (try (k_extra "my led")); (try dsimp only))))
  (k_with "call ref" => (wtm_at "?35-38"; (k_here; (with_reducible show wpAny _ _ (call (Value.ref 281) _ _) _ _ _); (refine' Does.k0 ?St (t_get ?q1 ?q2 ?q3 ?q4) ?hr ?F ?N ?_; (case N => k_extra "my front"); (case St => assumption); (case hr => k_extra "my le"); (case F => k_asm); (case q1 => assumption); (case q2 => assumption); (case q3 => assumption); (case q4 => assumption)); intro h' tk' F' N'; k_extra "my back"; (try (k_extra "my val")); (try dsimp only))))
  (k_with "my len" => (wtm_at "?36-38"; (simp only [S_length, PySem.Str.length_append, lenA.1, lenA.2.1, lenA.2.2.1, lenA.2.2.2]; omega)))
  (k_with "call ref" => (wtm_at "?36-38"; (k_here; (with_reducible show wpAny _ _ (call (Value.ref 82) _ _) _ _ _); (k_extra "my 229"); (refine' Does.kT ?St (t_read ?q1 ?q2) ?hr ?F ?N ?_; (case N => k_asm); (case St => assumption); (case hr => k_extra "my le"); (case F => k_asm); (case q1 => assumption); (case q2 => k_extra "my pre")); intro a' t' h' tk' F' N' o1' o2'; simp only [AllLt, and_true] at o2'; (replace o1' := ltN o1'); (try dsimp only))))
  (k_with "CompEnd" => (wtm_at "?37-38"; (k_here; refine end2 (by k_asm) (by k_asm) (by k_asm) ⟨by k_ne, by k_ne, by k_ne⟩ ⟨by k_ne, by k_ne, by k_ne⟩ (by first | exact .inr ⟨_, by kcj_m, rfl, _, rfl⟩ | trivial) ?_)))
  (k_with "eval ListComp" => (wtm_at "?37-38"; (k_here; (with_reducible show wpAny _ _ (eval (Expr.ListComp _ (⟨Expr.Tuple _ _ _, _, [_], _⟩ :: _) _ _) _) _ _ _); refine Hold.out ?_)))
  (k_with "exec Assign cons ListComp" => (wtm_at "?37-38"; (k_here; (with_reducible show wpAny _ _ (exec (Stmt.Assign _ (Expr.ListComp _ (⟨Expr.Tuple _ _ _, _, [_], _⟩ :: _) _ _) _) _) _ _ _); refine wpAny_Assign_Name ?_)))
  (k_with "exec Return some ListComp" => (wtm_at "?37-38"; (k_here; (with_reducible show wpAny _ _ (exec (Stmt.Return (some (Expr.ListComp _ (⟨Expr.Tuple _ _ _, _, [_], _⟩ :: _) _ _)) _) _) _ _ _); refine wpAny_Return_some ?_)))
  (k_with "subscriptTail Name Constant ref int" => (wtm_at "?38-38"; (k_here; (with_reducible show wpAny _ _ (subscriptTail _ (PySem.Expr.Constant _ _ _) (Value.ref _) (Value.int _ _)) _ _ _); (with_unfolding_all refine' item_litK ?k1 ?k2 ?k3 ?k4 ?_ ?k6; (case k1 => is_list); (case k2 => decide); (case k3 => decide); (case k4 => rfl); (case k6 => with_unfolding_all rfl); k_whole))))
  (k_with "my len" => (wtm_at "?41-43,80-81"; (simp only [S_length, PySem.Str.length_append, List.length_cons, List.length_nil, List.length_replicate, lenA.1, lenA.2.1, lenA.2.2.1, lenA.2.2.2]; omega)))
  (k_with "inplaceOp Add str str" => (wtm_at "?41-43,80-81"; (k_here; (with_reducible show wpAny _ _ (inplaceOp Operator.Add (Value.str _ _) (Value.str _ _)) _ _ _); refine iadd_text (by k_extra "my len") ?_; intro _ _; (try (k_extra "my cat")))))
  (k_with "my pre" => (wtm_at "?41-43,80-81"; assumption))
  (k_with "my size" => (wtm_at "?41-43,80-81"; first | assumption | (simp only [S_length]; omega) | (simp only [S_length, sizeLine_eq]; omega)))
  (k_with "my len" => (wtm_at "?41-43,80-81"; (simp only [S_length, PySem.Str.length_append, List.length_cons, List.length_nil, lenA.1, lenA.2.1, lenA.2.2.1, lenA.2.2.2]; omega)))
  (k_with "call ref" => (wtm_at "?41-43,80-81"; (k_here; (with_reducible show wpAny _ _ (call (Value.ref 124) _ _) _ _ _); (refine' Does.k0 ?St (t_contains ?q1 ?q2 ?q3 ?q4) ?hr ?F ?N ?_; (case N => k_extra "my front"); (case St => assumption); (case hr => k_extra "my le"); (case F => k_asm); (case q1 => assumption); (case q2 => assumption); (case q3 => assumption); (case q4 => assumption)); intro h' tk' F' N'; k_extra "my back"; (try dsimp only))))
  (k_with "call ref" => (wtm_at "?41-43,80-81"; (k_here; (with_reducible show wpAny _ _ (call (Value.ref 89) _ _) _ _ _); (k_extra "my 257"); (refine' Does.k1 ?St (t_parse257 ?q1 ?q2 ?q3) ?hr ?F ?N ?_; (case N => k_asm); (case St => assumption); (case hr => k_extra "my le"); (case F => k_asm); (case q1 => assumption); (case q2 => assumption); (case q3 => assumption)); intro t' h' tk' F' N'; (k_extra "my go"); (try dsimp only))))
  (k_with "call ref" => (wtm_at "?41-43,80-81"; (k_here; (with_reducible show wpAny _ _ (call (Value.ref 96) _ _) _ _ _); (refine' Does.k1 ?St (t_plus ) ?hr ?F ?N ?_; (case N => k_asm); (case St => assumption); (case hr => k_extra "my le"); (case F => k_asm)); intro t' h' tk' F' N'; (try dsimp only))))
  (k_with "call ref" => (wtm_at "?41-43,80-81"; (k_here; (with_reducible show wpAny _ _ (call (Value.ref 117) _ _) _ _ _); (refine' Does.k1 ?St (t_sub ) ?hr ?F ?N ?_; (case N => k_asm); (case St => assumption); (case hr => k_extra "my le"); (case F => k_asm)); intro t' h' tk' F' N'; (try dsimp only))))
  (k_with "call ref" => (wtm_at "?41-43,80-81"; (k_here; (with_reducible show wpAny _ _ (call (Value.ref 110) _ _) _ _ _); (refine' Does.k1 ?St (t_mul ?q1) ?hr ?F ?N ?_; (case N => k_asm); (case St => assumption); (case hr => k_extra "my le"); (case F => k_asm); (case q1 => assumption)); intro t' h' tk' F' N'; (try dsimp only))))
  (k_with "call ref" => (wtm_at "?41-43,80-81"; (k_here; (with_reducible show wpAny _ _ (call (Value.ref 331) _ _) _ _ _); refine Hold.out ?_)))
  (k_with "call ref" => (wtm_at "?41-43,80-81"; (k_here; (with_reducible show wpAny _ _ (call (Value.ref 352) _ _) _ _ _); (k_extra "my num"); (refine' Does.k1 ?St (t_written ?q1 ?q2 ?q3) ?hr ?F ?N ?_; (case N => k_asm); (case St => assumption); (case hr => k_extra "my le"); (case F => k_asm); (case q1 => rfl); (case q2 => assumption); (case q3 => assumption)); intro t' h' tk' F' N'; (rw [written_S]); (try dsimp only))))
  (k_with "call ref" => (wtm_at "?41-43,80-81"; (k_here; (with_reducible show wpAny _ _ (call (Value.ref 273) _ _) _ _ _); (refine' Does.kD ?St (t_getall ?q1 ?q2 ?q3 ?q4) ?hr ?F ?N ?_; (case N => k_extra "my front"); (case St => assumption); (case hr => k_extra "my le"); (case F => k_asm); (case q1 => assumption); (case q2 => assumption); (case q3 => assumption); (case q4 => assumption)); intro D' h' tk' F' N' oD'; k_extra "my back"; (try (k_extra "my led")); (try dsimp only))))
  (k_with "call ref" => (wtm_at "?41-43,80-81"; (k_here; (with_reducible show wpAny _ _ (call (Value.ref 281) _ _) _ _ _); (refine' Does.k0 ?St (t_get ?q1 ?q2 ?q3 ?q4) ?hr ?F ?N ?_; (case N => k_extra "my front"); (case St => assumption); (case hr => k_extra "my le"); (case F => k_asm); (case q1 => assumption); (case q2 => assumption); (case q3 => assumption); (case q4 => assumption)); intro h' tk' F' N'; k_extra "my back"; (try (k_extra "my val")); (try dsimp only))))
  (k_with "call ref" => (wtm_at "?41-43,80-81"; (k_here; (with_reducible show wpAny _ _ (call (Value.ref 82) _ _) _ _ _); (k_extra "my 229"); (refine' Does.kT ?St (t_read ?q1 ?q2) ?hr ?F ?N ?_; (case N => k_asm); (case St => assumption); (case hr => k_extra "my le"); (case F => k_asm); (case q1 => assumption); (case q2 => k_extra "my pre")); intro a' t' h' tk' F' N' o1' o2'; simp only [AllLt, and_true] at o2'; (replace o1' := ltN o1'); (try dsimp only))))
  (k_with "CompEnd" => (wtm_at "?41-43,80-81"; (k_here; refine end2 (by k_asm) (by k_asm) (by k_asm) ⟨by k_ne, by k_ne, by k_ne⟩ ⟨by k_ne, by k_ne, by k_ne⟩ (by first | exact .inr ⟨_, by kcj_m, rfl, _, rfl⟩ | trivial) ?_)))
  (k_with "eval ListComp" => (wtm_at "?41-43,80-81"; (k_here; (with_reducible show wpAny _ _ (eval (Expr.ListComp _ (⟨Expr.Tuple _ _ _, _, [_], _⟩ :: _) _ _) _) _ _ _); refine Hold.out ?_)))
  (k_with "exec Assign cons ListComp" => (wtm_at "?41-43,80-81"; (k_here; (with_reducible show wpAny _ _ (exec (Stmt.Assign _ (Expr.ListComp _ (⟨Expr.Tuple _ _ _, _, [_], _⟩ :: _) _ _) _) _) _ _ _); refine wpAny_Assign_Name ?_)))
  (k_with "exec Return some ListComp" => (wtm_at "?41-43,80-81"; (k_here; (with_reducible show wpAny _ _ (exec (Stmt.Return (some (Expr.ListComp _ (⟨Expr.Tuple _ _ _, _, [_], _⟩ :: _) _ _)) _) _) _ _ _); refine wpAny_Return_some ?_)))
  (k_with "subscriptTail Name Constant ref int" => (wtm_at "?42-42"; (k_here; (with_reducible show wpAny _ _ (subscriptTail _ (PySem.Expr.Constant _ _ _) (Value.ref _) (Value.int _ _)) _ _ _); (with_unfolding_all refine' item_litK ?k1 ?k2 ?k3 ?k4 ?_ ?k6; (case k1 => is_list); (case k2 => decide); (case k3 => decide); (case k4 => rfl); (case k6 => with_unfolding_all rfl); k_whole))))
  (k_with "my k_all" => (wtm_at "?47-49,51-59,64-67,71-72,74-75,77-81"; first | assumption | (refine allLt_ne ?_; k_extra "my lts") | ((simp only [List.forall_mem_cons, List.forall_mem_append]); (repeat' (first | assumption | exact allNe_nil | refine And.intro ?_ ?_ | k_ne | (refine allLt_ne ?_; k_extra "my lts"))); done)))
  (k_with "my slice3" => (wtm_at "?47-49,51-59,64-67,71-72,74-75,77-81"; (refine' krv_flat ?F ?N ?l (IsPart.int _ _) ?i ?_ ?s ?t ?z; (case F => k_asm); (case N => k_asm); (case l => exact News.isList (by k_asm) (by kcj_m)); (case i => assumption); (case s => with_unfolding_all rfl); (case t => (intro _; with_unfolding_all rfl)); (case z => (k_extra "my sz")))))
  (k_with "binaryOp Mult str int" => (wtm_at "?47-49,57-59,71-72,78-81"; (k_here; (with_reducible show wpAny _ _ (binaryOp Operator.Mult (Value.str _ _) (Value.int _ _)) _ _ _); (k_extra "my mul"); refine SB.mul (mul_ok1 (by omega)) ?_; intro _ _; rw [mul_rep]; (try (k_extra "my rep")))))
  (k_with "exec While Compare cons nil" => (wtm_at "?46-46"; (k_here; refine Hold.out ?_)))
  (k_with "call ref" => (wtm_at "?46-46"; (k_here; (with_reducible show wpAny _ _ (call (Value.ref 103) _ _) _ _ _); (refine' Does.u1 (t_mod ?q1) ?B ?F ?X ?N ?T ?fr ?fl ?fk ?hh ?hd ?hu ?_; k_extra "my use"; (case q1 => assumption)); intro t' h' tk' F' N'; (try dsimp only))))
  (k_with "exec For Name Name cons nil" => (wtm_at "?48-49"; (k_here; refine wpAny_For ?_)))
  (k_with "pyIter ref" => (wtm_at "?48-49"; (k_here; refine Hold.out ?_)))
  (k_with "exec While Compare cons nil" => (wtm_at "?48-49"; (k_here; refine Hold.out ?_)))
  (k_with "subscriptTail Name Slice ref ref" => (wtm_at "?48-49"; (k_here; (with_reducible show wpAny _ _ (subscriptTail _ (PySem.Expr.Slice none none (some _) _) (Value.ref _) (Value.ref _)) _ _ _); k_extra "my slice3"; intro D' ws' h' F' N' l1 hI' hC'; (try k_lt l1))))
  (k_with "subscriptTail Name Slice ref ref" => (wtm_at "?48-49"; (k_here; (with_reducible show wpAny _ _ (subscriptTail _ (PySem.Expr.Slice (some _) (some _) none _) (Value.ref _) (Value.ref _)) _ _ _); (refine' kmk_slice_lit ?F ?N ?l (IsPart.int _ _) (IsPart.int _ _) ?e ?_ ?s ?t ?z; (case F => k_asm); (case N => k_asm); (case l => exact News.isList (by k_asm) (by kcj_m)); (case e => k_extra "my pick"); (case s => with_unfolding_all rfl); (case t => (intro _; with_unfolding_all rfl)); (case z => (k_extra "my sz"))); intro D' h' F' N' l1; (try k_lt l1))))
  (k_with "call ref" => (wtm_at "?48-49"; (k_here; (with_reducible show wpAny _ _ (call (Value.ref 352) _ _) _ _ _); (try (k_extra "my num")); (refine' Does.k1 ?St (t_written ?q1 ?q2 ?q3) ?hr ?F ?N ?_; (case N => k_asm); (case St => assumption); (case hr => k_extra "my le"); (case F => k_asm); (case q1 => rfl); (case q2 => assumption); (case q3 => assumption)); intro t' h' tk' F' N'; (rw [written_S]); (try dsimp only))))
  (k_with "CompEnd" => (wtm_at "?49-49"; (k_here; refine end1 (by k_asm) (by k_asm) (by k_asm) ⟨by k_ne, by k_ne, by k_ne⟩ (by first | exact .inr ⟨_, by kcj_m, rfl, _, rfl⟩ | trivial) ?_)))
  (k_with "CompSrc" => (wtm_at "?49-49"; (k_here; k_dflt ((refine LCg.CompSrc.ledger (by rfl) (by k_asm) (by k_asm) (by k_mem) (by first | size_fits | exact Nat.le_of_ble_eq_true rfl) ?_); intro g'; lcg_lit))))
  (k_with "my size" => (wtm_at "?49-49"; first | assumption | (simp only [S_length]; omega) | (simp only [S_length, sizeLine_eq]; omega)))
  (k_with "my len" => (wtm_at "?49-49"; (simp only [S_length, PySem.Str.length_append, List.length_cons, List.length_nil, List.length_replicate]; omega)))
  (k_with "binaryOp Add str str" => (wtm_at "?49-49"; (k_here; (with_reducible show wpAny _ _ (binaryOp Operator.Add (Value.str _ _) (Value.str _ _)) _ _ _); refine add_text (by k_extra "my len") ?_; intro _ _; rw [S_app])))
  (k_with "call builtin:list.extend" => (wtm_at "?49-49"; (k_here; refine Hold.out ?_)))
  (k_with "call builtin:list.append" => (wtm_at "?49-49"; (k_here; (with_reducible show wpAny _ _ (call (Value.builtin _) [Value.ref _, _]) _ _ _); refine' append_K ?k1 ?k2 ?k3 ?_ ?z; (case k1 => k_asm); (case k2 => k_asm); (case k3 => k_upd); (case z => k_extra "my sz"); intro h' F' N')))
  (k_with "compareOp NotIn int ref" => (wtm_at "?49-49"; (k_here; refine notin_list_ints (News.isList (by k_asm) (by kcj_m)) (by assumption) ?_; (try (k_extra "my any")))))
  (k_with "exec For Name Attribute cons nil" => (wtm_at "?52-52"; (k_here; k_dflt (refine wpAny_For ?_))))
  (k_with "pyIter str" => (wtm_at "?52-52"; (k_here; refine Hold.out ?_)))
  (k_with "call builtin:len" => (wtm_at "?52-52"; (k_here; (with_reducible show wpAny _ _ (call (Value.builtin "len") [Value.ref _]) _ _ _); (refine' KM.len_K ?N ?m ?c ?f ?_; (case N => k_asm); (case m => kcj_m); (case c => (k_extra "my cnt")); (case f => omega)))))
  (k_with "binaryOp Mult ref int" => (wtm_at "?52-52"; (k_here; (with_reducible show wpAny _ _ (binaryOp Operator.Mult (Value.ref _) (Value.int _ _)) _ _ _); (refine' KMa.mul (vs := [_]) ?F ?N ?l ?lo ?hi ?z rfl ?_; (case F => k_asm); (case N => k_asm); (case l => exact News.isList (by k_asm) (by kcj_m)); (case lo => omega); (case hi => omega); (case z => ((simp only [List.length_cons, List.length_nil]); omega))); intro D' h' F' N' l1; (try k_lt l1))))
  (k_with "binaryOp Add ref ref" => (wtm_at "?52-52"; (k_here; (with_reducible show wpAny _ _ (binaryOp _ (Value.ref _) (Value.ref _)) _ _ _); k_dflt (refine' kmk_add_ints ?F ?N ?a ?b ?i (ints_zeros _) ?_ ?z; (case F => k_asm); (case N => k_asm); (case a => exact News.isList (by k_asm) (by kcj_m)); (case b => exact News.isList (by k_asm) (by kcj_m)); (case i => assumption); (case z => k_extra "my sum")); intro D' ws' h' F' N' l1 hI'; (try k_lt l1))))
  (k_with "subscriptTail Name Name ref int" => (wtm_at "?52-52"; (k_here; (with_reducible show wpAny _ _ (subscriptTail _ _ (Value.ref _) (Value.int _ _)) _ _ _); refine' ksa_sub ?k1 ?k2 ?k3 ?k4 ?k5 ?k6 ?_ ?k7; (case k1 => k_asm); (case k2 => kcj_m); (case k3 => assumption); (case k4 => omega); (case k5 => k_extra "my idx"); (case k6 => omega); (case k7 => with_unfolding_all rfl); intro _)))
  (k_with "setItem ref int" => (wtm_at "?52-52"; (k_here; (with_reducible show wpAny _ _ (setItem (Value.ref _) (Value.int _ _) (Value.int _ _)) _ _ _); refine' ksa_set ?k1 ?k2 ?k3 ?k4 ?k5 ?k6 ?k7 ?_; (case k1 => k_asm); (case k2 => k_asm); (case k3 => k_upd); (case k4 => assumption); (case k5 => omega); (case k6 => k_extra "my idx"); (case k7 => omega); intro h' F' N' hi' hl' hs')))
  (k_with "call type:tuple" => (wtm_at "?52-52"; (k_here; (with_reducible show wpAny _ _ (call (Value.type _) [Value.ref _]) _ _ _); k_dflt (refine' kde_tupleOf ?k1 ?k2 ?k3 ?k4 rfl ?_; (case k1 => k_asm); (case k2 => k_asm); (case k3 => exact News.isList (by k_asm) (by kcj_m)); (case k4 => (k_extra "my tup"))); intro D' h' F' N' l1; (try k_lt l1))))
  (k_with "call builtin:len" => (wtm_at "?55-55"; (k_here; (with_reducible show wpAny _ _ (call (Value.builtin "len") [Value.ref _]) _ _ _); (refine len_tuple (News.isTup (by k_asm) (by kcj_m)) (by k_extra "my fit") ?_); (try (k_extra "my len2")))))
  (k_with "call type:range" => (wtm_at "?55-55"; (k_here; (with_reducible show wpAny _ _ (call (Value.type "range") [Value.int _ _, Value.int _ _]) _ _ _); (refine range2_rows (by k_asm) (by k_asm) ?_); intro h' tk' t' u' v' hR' F' N' hX'; clear hX')))
  (k_with "subscriptTail Name Name ref int" => (wtm_at "?55-55"; (k_here; (with_reducible show wpAny _ _ (subscriptTail _ _ (Value.ref _) (Value.int _ _)) _ _ _); (refine item_tuple_ints (News.isTup (by k_asm) (by kcj_m)) (by assumption) (by omega) (by k_extra "my idx") (by omega) ?_); intro _)))
  (k_with "exec For Name Call cons nil" => (wtm_at "?55-55"; (k_here; k_dflt (refine wpAny_For ?_))))
  (k_with "pyIter ref" => (wtm_at "?55-55"; (k_here; refine Hold.out ?_)))
  (k_with "my use2" => (wtm_at "?58-59"; (
      (case B => k_asm)
      (case F => k_asm)
      (case X => k_asm)
      (case T => k_asm)
      (case fr => first | exact rfl | assumption | exact frames_in (by assumption))
      (case fl => first | exact rfl | assumption)
      (case fk => first | exact rfl | assumption)
      (case hh => exact rfl)
      (case hd => k_extra "my room")
      (case hu => k_extra "my room"))))
  (k_with "my len" => (wtm_at "?58-59"; (simp only [S_length, PySem.Str.length_append, List.length_append, List.length_cons, List.length_nil, List.length_replicate, lenB.1, lenB.2]; omega)))
  (k_with "binaryOp Add str str" => (wtm_at "?58-59"; (k_here; (with_reducible show wpAny _ _ (binaryOp Operator.Add (Value.str _ _) (Value.str _ _)) _ _ _); refine add_text (by k_extra "my len") ?_; intro _ _; (try (k_extra "my cat")))))
  (k_with "call ref" => (wtm_at "?58-59"; (k_here; (with_reducible show wpAny _ _ (call (Value.ref 186) _ _) _ _ _); (k_dflt (refine' call_cls ?k1 ?k2 ?k3 ?k4 ?k5 ?k6 ?_; (case k1 => k_asm); (case k2 => k_asm); (case k3 => k_asm); (case k4 => k_is); (case k5 => k_is); (case k6 => k_is); k_whole; intro x' d' h' F' N' l1 l2)); (try dsimp only); (refine' white_use (go_lead _ _) ?q1 ?q2 ?q3 ?q4 ?B ?F ?X ?N ?T ?fr ?fl ?fk ?hh ?hd ?hu ?_; k_extra "my use"; (case q1 => k_extra "my wl"); (case q2 => assumption); (case q3 => assumption); (case q4 => exact allLt_of l1)); (try k_lt l1); (try k_lt2 l2); intro q1' q2' q3' q4' q5' q6' q7' q8' q9' q10' vs' q11' h' tk' F' N' hV' l3' l4'; refine ⟨rfl, ?_⟩; (try dsimp only))))
  (k_with "call ref" => (wtm_at "?58-59"; (k_here; (with_reducible show wpAny _ _ (call (Value.ref 155) _ _) _ _ _); (refine' Does.k1 ?St (t_indent (fin := ⟨_, _, _, _⟩) ?q1 ?q2 ?q3 ?q4 ?q5 ?q6) ?hr ?F ?N ?_; (case N => exact w_front (by k_asm)); (case St => assumption); (case hr => k_extra "my le"); (case F => k_asm); (case q1 => assumption); (case q2 => assumption); (case q3 => assumption); (case q4 => omega); (case q5 => omega); (case q6 => exact Nat.le_of_ble_eq_true rfl)); intro t' h' tk' F' N'; replace N' := w_back N'; (try dsimp only))))
  (k_with "CompSrc" => (wtm_at "?58-59"; (k_here; refine Hold.out ?_)))
  (k_with "CompEnd" => (wtm_at "?58-59"; (k_here; refine Hold.out ?_)))
  (k_with "CompSrcT" => (wtm_at "?58-59"; (k_here; refine Hold.out ?_)))
  (k_with "subscriptTail Name Constant ref int" => (wtm_at "?59-59"; (k_here; (with_reducible show wpAny _ _ (subscriptTail _ (PySem.Expr.Constant _ _ _) (Value.ref _) (Value.int _ _)) _ _ _); k_extra "my el"; k_dflt (refine item_lit (vs := [_, _]) (News.isList (by k_asm) (by kcj_m)) (by decide) (by decide) (by rfl) ?_))))
  (k_with "subscriptTail Name BinOp ref int" => (wtm_at "?59-59"; (k_here; (with_reducible show wpAny _ _ (subscriptTail _ _ (Value.ref _) (Value.int _ _)) _ _ _); k_dflt (refine item_list_intsR (by is_list) (by assumption) (by first | decide | omega) (by first | idx_side | (simp; omega)) (by first | decide | omega) ?_; intro _))))
  (k_with "call type:str" => (wtm_at "?62-72,78-78,80-81"; (k_here; (with_reducible show wpAny _ _ (call (Value.type "str") [Value.ref _]) _ _ _); (refine' str_own ?u ?X (OwnExc.got (by assumption) (by assumption)) ?s ?m ?_; (case u => k_extra "my cline"); (case X => k_in); (case s => k_is); (case m => k_is)))))
  (k_with "my cline" => (wtm_at "?62-72,78-78,80-81"; ((try simp only [units_under_make, units_in1, units_deeper, Around.mark_units, units_caller, cLine]); omega)))
  (k_with "my enterT" => (wtm_at "?62-72,78-78,80-81"; (
      refine wpAny_call ?_
      refine' code_T ?k1 ?k2 ?k3 ?k4 ?k5 ?kXB ?kTB ?kDD ?kA ?kF ?kK ?k6 ?k7 ?k8 ?k9 ?kB ?_ ?c2 ?c3 ?c4 ?c5
      (case kXB => assumption)
      (case kTB => assumption)
      (case kDD => assumption)
      (case kA => assumption)
      (case kF => assumption)
      (case kK => assumption)
      (case k1 => assumption)
      (case k2 => assumption)
      (case k3 => assumption)
      (case k4 => assumption)
      (case k5 => assumption)
      (case k6 => k_is)
      (case k7 => k_is)
      (case k8 => simp only [recursionLimit]; omega)
      (case k9 => first | exact BindsTo.of_eq rfl | exact binds_K (by k_in) rfl (by k_is) rfl rfl rfl)
      (case c5 => decide)
      (case kB => exact locs rfl)
      (case c2 => exact rfl)
      (case c3 => exact rfl)
      (case c4 => exact rfl)
      intro g' L' h' F' N' B' X' T' D'
      (try dsimp only)
      k_fold)))
  (k_with "my enterI" => (wtm_at "?62-72,78-78,80-81"; (
      refine wpAny_call ?_
      refine' code_def ?k1 ?k2 ?k3 ?k4 ?k5 ?kA ?kF ?kK ?k6 ?k7 ?k8 ?k9 ?kB ?_ ?c2 ?c3 ?c4 ?c5
      (case kA => first | exact frames_in (by assumption) | assumption)
      (case kF => exact rfl)
      (case kK => exact rfl)
      (case k1 => assumption)
      (case k2 => k_asm)
      (case k3 => k_asm)
      (case k4 => k_asm)
      (case k5 => k_asm)
      (case k6 => k_is)
      (case k7 => k_is)
      (case k8 => k_extra "my room")
      (case k9 => first | exact BindsTo.of_eq rfl | exact binds_K (by k_in) rfl (by k_is) rfl rfl rfl)
      (case c5 => decide)
      (case kB => exact locs rfl)
      (case c2 => exact rfl)
      (case c3 => exact rfl)
      (case c4 => exact rfl)
      intro g' L' h' FG' F' N' B' X' T'
      (try dsimp only)
      k_fold)))
  (k_with "call ref" => (wtm_at "?62-63"; (k_here; (with_reducible show wpAny _ _ (call (Value.ref 82) _ _) _ _ _); k_extra "my enterI")))
  (k_with "call builtin:str.split" => (wtm_at "?63-63"; (k_here; (with_reducible show wpAny _ _ (call (Value.builtin "str.split") [Value.str _ _, Value.str _ _]) _ _ _); refine split_n (by k_asm) (by k_asm) (by assumption) (by rfl) (by k_extra "my size") ?_; intro D' vs' h' k' hv' F' N' l1; (try k_lt l1))))
  (k_with "call builtin:len" => (wtm_at "?63-63"; (k_here; (with_reducible show wpAny _ _ (call (Value.builtin "len") [Value.ref _]) _ _ _); (refine' KM.len_K ?N ?m ?c ?f ?_; (case N => k_asm); (case m => kcj_m); (case c => (exact (List.size_toArray (as := _)).trans (by assumption))); (case f => omega)))))
  (k_with "my useT" => (wtm_at "?65-67,71-72,78-78,80-81"; (
      (case B => k_asm)
      (case F => k_asm)
      (case X => k_asm)
      (case N => k_asm)
      (case T => k_asm)
      (case fr => first | exact rfl | assumption | exact frames_in (by assumption))
      (case fl => first | exact rfl | assumption)
      (case fk => first | exact rfl | assumption)
      (case hh => exact rfl)
      (case hd => k_extra "my room")
      (case hu => k_extra "my room"))))
  (k_with "compareOp Eq ref ref" => (wtm_at "?66-66"; (k_here; refine Hold.out ?_)))
  (k_with "exec For Name List cons nil" => (wtm_at "?66-66"; (k_here; k_dflt (refine wpAny_For ?_))))
  (k_with "pyIter ref" => (wtm_at "?66-66"; (k_here; refine Hold.out ?_)))
  (k_with "call ref" => (wtm_at "?66-66"; (k_here; (with_reducible show wpAny _ _ (call (Value.ref 89) _ _) _ _ _); k_extra "my enterI")))
  (k_with "call ref" => (wtm_at "?66-66"; (k_here; (with_reducible show wpAny _ _ (call (Value.ref 89) _ _) _ _ _); (refine' Does.u1 (t_p257_none ?q1 ?q2 ?q3) ?B ?F ?X ?N ?T ?fr ?fl ?fk ?hh ?hd ?hu ?_; (case q3 => with_reducible assumption); (case q1 => with_reducible assumption); (case q2 => with_reducible assumption); k_extra "my useT"); intro t' h' tk' F' N'; (try dsimp only))))
  (k_with "call ref" => (wtm_at "?66-66"; (k_here; (with_reducible show wpAny _ _ (call (Value.ref 89) _ _) _ _ _); (refine' Does.u1 (t_parse257 ?q1 ?q2 ?q3) ?B ?F ?X ?N ?T ?fr ?fl ?fk ?hh ?hd ?hu ?_; (case q3 => with_reducible assumption); (case q1 => with_reducible assumption); (case q2 => with_reducible assumption); k_extra "my useT"); intro t' h' tk' F' N'; (k_extra "my go"); (try dsimp only))))
  (k_with "CompEnd" => (wtm_at "?66-66"; (k_here; refine end0 (by k_asm) (by k_asm) (by k_asm) (by first | exact .inr ⟨_, by kcj_m, rfl, _, rfl⟩ | trivial) ?_)))
  (k_with "my len" => (wtm_at "?66-66"; (simp only [S_length, PySem.Str.length_append, List.length_append, List.length_cons, List.length_nil, List.length_replicate, lenC.1, lenC.2.1, lenC.2.2.1, lenC.2.2.2.1, lenC.2.2.2.2, nm_length]; omega)))
  (k_with "binaryOp Add str str" => (wtm_at "?66-66"; (k_here; (with_reducible show wpAny _ _ (binaryOp Operator.Add (Value.str _ _) (Value.str _ _)) _ _ _); refine' add_text_eq ?e ?z ?_; (case e => with_reducible (k_extra "my cat")); (case z => k_extra "my len"); intro _ _)))
  (k_with "my enterTC" => (wtm_at "?71-72,78-78,80-81"; (
      refine wpAny_call ?_
      refine' code_TC ?k1 ?k2 ?k3 ?k4 ?k5 ?kXB ?kTB ?kDD ?kA ?kF ?kK ?k6 ?k7 ?k8 ?k9 ?kB ?kD ?_ ?c2 ?c3 ?c4
      (case kXB => assumption)
      (case kTB => assumption)
      (case kDD => assumption)
      (case kA => assumption)
      (case kF => assumption)
      (case kK => assumption)
      (case k1 => assumption)
      (case k2 => assumption)
      (case k3 => assumption)
      (case k4 => assumption)
      (case k5 => assumption)
      (case k6 => k_is)
      (case k7 => k_is)
      (case k8 => simp only [recursionLimit]; omega)
      (case k9 => first | exact BindsTo.of_eq rfl | exact binds_K (by k_in) rfl (by k_is) rfl rfl rfl)
      (case kB => exact rfl)
      (case kD => decide +kernel)
      (case c2 => exact rfl)
      (case c3 => exact rfl)
      (case c4 => exact rfl)
      intro g' L' h' tk' cells' F' N' Y' B' X' T' D' l1 tkl
      replace l1 := allLt_of l1
      have l2 := allLt_up l1
      have l3 := allLt_up l2
      have l4 := allLt_up l3
      (try simp only [AllLt, and_true] at l1)
      k_cells Y'
      (try simp only [List.cons_append, List.nil_append] at N')
      (try dsimp only)
      (try k_fold))))
  (k_with "my k_all" => (wtm_at "?72-72"; first | assumption | (refine allLt_ne ?_; k_extra "my lts") | (refine off1_all ?_; k_extra "my lts") | ((simp only [List.forall_mem_cons, List.forall_mem_append]); (repeat' (first | assumption | exact allNe_nil | refine And.intro ?_ ?_ | k_ne | (refine allLt_ne ?_; k_extra "my lts") | (refine off1_all ?_; k_extra "my lts"))); done)))
  (k_with "execs cons" => (wtm_at "?72-72"; (k_here; refine Hold.out ?_)))
  (k_with "my size" => (wtm_at "?72-72"; first | assumption | (simp only [S_length, wr_length, sizeLine_eq]; omega)))
  (k_with "my len" => (wtm_at "?72-72"; (simp only [S_length, PySem.Str.length_append, List.length_append, List.length_cons, List.length_nil, List.length_replicate, wr_length, mid229_length, L1.1, L1.2.1, L1.2.2.1, L1.2.2.2.1, L1.2.2.2.2.1, L1.2.2.2.2.2.1, L1.2.2.2.2.2.2.1, L1.2.2.2.2.2.2.2]; omega)))
  (k_with "CompEnd" => (wtm_at "?72-72"; (k_here; refine end1 (by k_asm) (by k_asm) (by k_asm) ⟨by k_ne, by k_ne, by k_ne⟩ (by first | exact .inr ⟨_, by kcj_m, rfl, _, rfl⟩ | trivial) ?_)))
  (k_with "CompSrc" => (wtm_at "?72-72"; (k_here; k_dflt ((refine LCg.CompSrc.ledger (by rfl) (by k_asm) (by k_asm) (by k_mem) (by first | size_fits | exact Nat.le_of_ble_eq_true rfl) ?_); intro g'; lcg_lit))))
  (k_with "binaryOp Add str str" => (wtm_at "?72-72"; (k_here; (with_reducible show wpAny _ _ (binaryOp Operator.Add (Value.str _ _) (Value.str _ _)) _ _ _); refine' add_text_eq ?e ?z ?_; (case e => with_reducible (k_extra "my cat")); (case z => k_extra "my len"); intro _ _)))
  (k_with "binaryOp Add str str" => (wtm_at "?72-72"; (k_here; (with_reducible show wpAny _ _ (binaryOp Operator.Add (Value.str (S [_]) _) (Value.str (S [_]) _)) _ _ _); refine add_marks ?_)))
  (k_with "call builtin:str.replace" => (wtm_at "?72-72"; (k_here; refine rep_marks (by assumption) (by assumption) (by assumption) (by k_extra "my tok") ?_; intro _ _)))
  (k_with "my tok" => (wtm_at "?72-72"; ((with_reducible rename TokIs _ _ => hT'); exact ⟨Nat.le_trans hT'.le (by first | omega | (dsimp only; omega))⟩)))
  (k_with "call builtin:list.extend" => (wtm_at "?72-72"; (k_here; (first | refine ext_at (pre := [_, _, _]) (by k_asm) (by k_asm) (by k_all) (by k_all) (.head _) (by simp; omega) ?_ | refine ext_at (pre := [_, _, _, _]) (by k_asm) (by k_asm) (by k_all) (by k_all) (.head _) (by simp; omega) ?_); intro h' n' F' N'; (simp only [List.cons_append, List.nil_append] at N'))))
  (k_with "call builtin:list.append" => (wtm_at "?72-72"; (k_here; (with_reducible show wpAny _ _ (call (Value.builtin _) [Value.ref _, _]) _ _ _); refine' append_K ?k1 ?k2 ?k3 ?_ ?z; (case k1 => k_asm); (case k2 => k_asm); (case k3 => k_upd); (case z => (simp; first | done | (rw [sizeLine_eq]; omega))); intro h' F' N')))
  (k_with "eval ListComp" => (wtm_at "?72-72"; (k_here; (with_reducible show wpAny _ _ (eval (Expr.ListComp _ (⟨Expr.Tuple _ _ _, _, [], _⟩ :: _) _ _) _) _ _ _); refine Hold.out ?_)))
  (k_with "compareOp Eq ref ref" => (wtm_at "?72-72"; (k_here; refine Hold.out ?_)))
  (k_with "call ref" => (wtm_at "?72-72"; (k_here; (with_reducible show wpAny _ _ (call (Value.ref 381) _ _) _ _ _); refine Hold.out ?_)))
  (k_with "exec For Name Call cons nil" => (wtm_at "?75-75"; (k_here; k_dflt (refine wpAny_For ?_))))
  (k_with "pyIter ref" => (wtm_at "?75-75"; (k_here; refine Hold.out ?_)))
  (k_with "call builtin:len" => (wtm_at "?75-75"; (k_here; refine Hold.out ?_)))
  (k_with "subscriptTail Name Name ref int" => (wtm_at "?75-75"; (k_here; refine Hold.out ?_)))
  (k_with "my k_steps" => (wtm_at "?76-76"; repeat' (first | (k_unfold; (try dsimp only)) | (k_end; kc_close) | walk1 | (dsimp only; walk1) | (leave1; walk_say "STEP leave1"; (try dsimp only)) | fail "no step")))
  (k_with "execs cons" => (wtm_at "?81-81"; (k_here; refine Hold.out ?_)))
  (k_with "subscriptTail" => (wtm_at "?81-81"; (k_here; (with_reducible show wpAny _ _ (subscriptTail _ _ (Value.str _ _) (Value.int (Int.fmod _ _) _)) _ _ _); refine item_str_fmod (by decide) (by decide) (by decide) ?_; intro _)))
  (k_with "call ref" => (wtm_at "?81-81"; (k_here; (with_reducible show wpAny _ _ (call (Value.ref 345) _ _) _ _ _); refine Hold.out ?_)))
  (k_with "call ref" => (wtm_at "?81-81"; (k_here; (with_reducible show wpAny _ _ (call (Value.ref 352) _ _) _ _ _); refine Hold.out ?_)))
  (k_with "call ref" => (wtm_at "?81-81"; (k_here; (with_reducible show wpAny _ _ (call (Value.ref 334) _ _) _ _ _); refine Hold.out ?_)))
  (k_with "call ref" => (wtm_at "?81-81"; (k_here; (with_reducible show wpAny _ _ (call (Value.ref 357) _ _) _ _ _); refine Hold.out ?_)))
  (k_with "binaryOp Add str str" => (wtm_at "?81-81"; (k_here; (with_reducible show wpAny _ _ (binaryOp Operator.Add (Value.str _ _) (Value.str _ _)) _ _ _); k_dflt (refine add_text (by k_extra "my len") ?_); intro _ _; (try (k_extra "my cat")))))
  (k_with "my len" => (wtm_at "?81-81"; (simp only [S_length, PySem.Str.length_append, List.length_append, List.length_cons, List.length_nil, List.length_replicate]; omega)))
  (k_with "call ref" => (wtm_at "?81-81"; (k_here; (with_reducible show wpAny _ _ (call (Value.ref 374) _ _) _ _ _); refine Hold.out ?_)))
  (k_with "call ref" => (wtm_at "?81-81"; (k_here; (with_reducible show wpAny _ _ (call (Value.ref 298) _ _) _ _ _); refine Hold.out ?_)))
  (k_with "call ref" => (wtm_at "?81-81"; (k_here; (with_reducible show wpAny _ _ (call (Value.ref 369) _ _) _ _ _); refine Hold.out ?_)))
  (k_with "subscriptTail" => (wtm_at "?81-81"; (k_here; (with_reducible show wpAny _ _ (subscriptTail _ (PySem.Expr.Constant _ _ _) (Value.ref _) (Value.int _ _)) _ _ _); refine item_list (News.isList (by k_asm) (by kcj_m)) (by decide) (by decide) (by rfl) ?_)))
  (k_with "call ref" => (wtm_at "?81-81"; (k_here; (with_reducible show wpAny _ _ (call (Value.ref 124) _ _) _ _ _); refine Hold.out ?_)))
  (k_with "call ref" => (wtm_at "?81-81"; (k_here; (with_reducible show wpAny _ _ (call (Value.ref 386) _ _) _ _ _); refine Hold.out ?_)))
  (k_with "call ref" => (wtm_at "?81-81"; (k_here; (with_reducible show wpAny _ _ (call (Value.ref 391) _ _) _ _ _); refine Hold.out ?_)))
  (k_with "call ref" => (wtm_at "?81-81"; (k_here; (with_reducible show wpAny _ _ (call (Value.ref 362) _ _) _ _ _); refine Hold.out ?_)))
  (k_with "exec For Name Call cons nil" => (wtm_at "?81-81"; (k_here; k_dflt (refine wpAny_For ?_))))
  (k_with "pyIter ref" => (wtm_at "?81-81"; (k_here; refine Hold.out ?_)))
  (k_with "call builtin:max" => (wtm_at "?81-81"; (k_here; refine Hold.out ?_)))
  (k_with "subscriptTail Name UnaryOp ref int" => (wtm_at "?81-81"; (k_here; first | (refine row_m1 (News.isList (by k_asm) (by kcj_m)) (by assumption) ?_; intro _) | (refine row_m2 (News.isList (by k_asm) (by kcj_m)) (by assumption) ?_; intro _))))
  (k_with "my 352" => (wtm_at "?81-81"; (refine ⟨?_⟩; (refine' Does.k1 ?St (t_written ?q1 ?q2 ?q3) ?hr ?F ?N ?_; (case N => k_asm); (case St => assumption); (case hr => k_extra "my le"); (case F => k_asm); (case q1 => rfl); (case q2 => assumption); (case q3 => assumption)); intro t' h' tk' F' N'; (rw [written_S]); (try dsimp only))))
  (k_with "subscriptTail Name Slice ref ref" => (wtm_at "?81-81"; (k_here; (with_reducible show wpAny _ _ (subscriptTail _ (PySem.Expr.Slice (some _) (some _) none _) (Value.ref _) (Value.ref _)) _ _ _); (refine' kmk_slice_lit ?F ?N ?l (IsPart.int _ _) (IsPart.int _ _) ?e ?_ ?s ?t ?z; (case F => k_asm); (case N => k_asm); (case l => exact News.isList (by k_asm) (by kcj_m)); (case e => k_extra "my pick"); (case s => with_unfolding_all rfl); (case t => (intro _; with_unfolding_all rfl)); (case z => (k_extra "my sz"))); intro D' h' F' N' l1; (try k_lt l1))))
  (k_with "CompSrc" => (wtm_at "?81-81"; (k_here; refine Hold.out ?_)))
  (k_with "CompEnd" => (wtm_at "?81-81"; (k_here; refine Hold.out ?_)))
  (k_with "CompSrcT" => (wtm_at "?81-81"; (k_here; refine Hold.out ?_)))
  (k_with "compareOp NotEq ref ref" => (wtm_at "?81-81"; (k_here; refine Hold.out ?_)))
  (k_with "my useN" => (wtm_at "?81-81"; (
      (case N => k_asm)
      (case B => k_asm)
      (case F => k_asm)
      (case X => k_asm)
      (case T => k_asm)
      (case fr => first | exact rfl | assumption)
      (case fl => exact rfl)
      (case fk => exact rfl)
      (case hh => exact rfl)
      (case hd => k_extra "my room")
      (case hu => k_extra "my room"))))
  (k_with "call builtin:list.append" => (wtm_at "?81-81"; (k_here; (with_reducible show wpAny _ _ (call (Value.builtin _) [Value.ref _, _]) _ _ _); refine' append_K ?k1 ?k2 ?k3 ?_ ?z; (case k1 => k_asm); (case k2 => k_asm); (case k3 => k_upd); (case z => (simp; first | done | (rw [sizeLine_eq]; omega))); intro h' F' N')))
  trivial
theorem md1 : True := trivial
noncomputable abbrev theLoose : List Str := (looseW Mine.x.view_1_40 [Str.ofString "Whitespace", Str.ofString "tspecials", Str.ofString "_name_disallowed_re", Str.ofString "_value_disallowed_re", Str.ofString "_formatparam"])
noncomputable abbrev theProg : Program := PySem.Challenge.rw_wo0082_01.prog

/- what stands around a call -/
structure Here (w : World) (mean : ExcName → Option Value) (mg mb : Str → Option Value) (A₀ A : Around) (env : Env) (outer : List Env) (base h₀ h : Heap) (L : Addr) (m : Str → Option Value) (news : List (Addr × Obj)) : Prop where
  B : Below A₀ base outer h₀
  F : Fr h₀ L h m
  X : (Mine.x.heap_1_39 w.params).In h₀
  N : News h₀ L h news
  T : Top Mine.x.view_1_40 theLoose mean mg mb h₀
  fr : A.frames = some (env :: outer)
  fl : env.frame = some L
  fk : env.scope.kind = .function
  hh : A.handled = none

/- a call's contract: from the ledger `news`, with room for `n` frames: what comes back and the ledger behind it -/
noncomputable def Does (w : World) (mean : ExcName → Option Value) (mg mb : Str → Option Value) (n : Nat) (f : Value) (vs : List Value) (kw : List (Str × Value)) (news : List (Addr × Obj)) (Post : Value → List (Addr × Obj) → Prop) : Prop :=
  ∀ (A₀ A : Around) (env : Env) (outer : List Env) (base h₀ : Heap) (L : Addr) (m : Str → Option Value) (s : Shared) (Q E : Value → Shared → Prop),
    Here w mean mg mb A₀ A env outer base h₀ s.heap L m news → A.depth + n < 900 → A.units + 8 * n < 9000 →
    (∀ v tl h' tk', Fr h₀ L h' m → News h₀ L h' tl → Post v tl → Q v { s with heap := h', toks := tk' }) →
    wpAny (model theProg w) A (call f vs kw) Q E s

theorem Does.use {w : World} {mean : ExcName → Option Value} {mg mb : Str → Option Value} {n : Nat} {f : Value} {vs : List Value} {kw : List (Str × Value)} {news : List (Addr × Obj)} {Post : Value → List (Addr × Obj) → Prop}
    {A₀ A : Around} {env : Env} {outer : List Env} {base h₀ : Heap} {L : Addr} {m : Str → Option Value} {s : Shared} {Q E : Value → Shared → Prop}
    (D : Does w mean mg mb n f vs kw news Post) (B : Below A₀ base outer h₀) (F : Fr h₀ L s.heap m) (X : (Mine.x.heap_1_39 w.params).In h₀) (N : News h₀ L s.heap news) (T : Top Mine.x.view_1_40 theLoose mean mg mb h₀)
    (fr : A.frames = some (env :: outer)) (fl : env.frame = some L) (fk : env.scope.kind = .function) (hh : A.handled = none) (hd : A.depth + n < 900) (hu : A.units + 8 * n < 9000)
    (h : ∀ v tl h' tk', Fr h₀ L h' m → News h₀ L h' tl → Post v tl → Q v { s with heap := h', toks := tk' }) : wpAny (model theProg w) A (call f vs kw) Q E s :=
  D _ _ _ _ _ _ _ _ _ _ _ ⟨B, F, X, N, T, fr, fl, fk, hh⟩ hd hu h

/- no exception is being handled -/
noncomputable def calm (A : Around) : Around := { A with handled := none }
theorem calm_of {A : Around} (h : A.handled = none) : calm A = A := by
  obtain ⟨a, b, c, d, e⟩ := A
  simp only at h
  subst h
  rfl
theorem Does.intro {w : World} {mean : ExcName → Option Value} {mg mb : Str → Option Value} {n : Nat} {f : Value} {vs : List Value} {kw : List (Str × Value)} {news : List (Addr × Obj)} {Post : Value → List (Addr × Obj) → Prop}
    (h : ∀ (A₀ A : Around) (env : Env) (outer : List Env) (base h₀ : Heap) (L : Addr) (m : Str → Option Value) (s : Shared) (Q E : Value → Shared → Prop),
      Here w mean mg mb A₀ (calm A) env outer base h₀ s.heap L m news → (calm A).depth + n < 900 → (calm A).units + 8 * n < 9000 →
      (∀ v tl h' tk', Fr h₀ L h' m → News h₀ L h' tl → Post v tl → Q v { s with heap := h', toks := tk' }) →
      wpAny (model theProg w) (calm A) (call f vs kw) Q E s) : Does w mean mg mb n f vs kw news Post := by
  intro A₀ A env outer base h₀ L m s Q E H hd hu hret
  have e := calm_of H.hh
  have := h A₀ A env outer base h₀ L m s Q E (e.symm ▸ H) (e.symm ▸ hd) (e.symm ▸ hu) hret
  exact e ▸ this
theorem frames_in {A : Around} {e : Env} {l : List Env} (h : A.frames = some l) : (A.deeper e).frames = some (e :: l) := by
  show A.frames.map (e :: ·) = _
  rw [h]; rfl
theorem allLt_up {d : Nat} : ∀ {l : List (Addr × Obj)}, AllLt d l → AllLt (d + 1) l
  | [], _ => trivial
  | _ :: _, h => ⟨Nat.lt_succ_of_lt h.1, allLt_up h.2⟩
theorem len_ofString1 {x : String} {n : Nat} (h : (Str.ofString x).cps.size = n) : (Str.ofString x).length = n := h
theorem add_text {w : World} {A : Around} {E : Value → Shared → Prop} {s : Shared} {x y : Str} {t u : Tok} {Q : Value → Shared → Prop} (hsz : x.length + y.length ≤ 16777216)
    (h : ∀ t' c, Q (.str (x ++ y) t') { s with toks := c }) : wpAny (model theProg w) A (binaryOp .Add (.str x t) (.str y u)) Q E s :=
  SBL.add (fun t' c _ => h t' c) (by rw [sizeLine_eq]; omega)
theorem allLt_ne {d : Addr} : ∀ {l : List (Addr × Obj)}, AllLt d l → ∀ p ∈ l, p.1 ≠ d := fun h p hp => Nat.ne_of_lt (ktn_ltOf h p hp)
/- a goal that the walk leaves alone -/
structure Hold (P : Prop) : Prop where
  out : P
/- the names that a frame's map is known to hold -/
noncomputable def Has (m : Str → Option Value) : List (Str × Value) → Prop
  | [] => True
  | p :: r => m p.1 = some p.2 ∧ Has m r
theorem Has.all {m : Str → Option Value} : ∀ {ps : List (Str × Value)}, Has m ps → ∀ p ∈ ps, m p.1 = some p.2
  | [], _, _, h => nomatch h
  | q :: r, ⟨h1, h2⟩, p, h => by
    rcases List.mem_cons.mp h with rfl | h
    · exact h1
    · exact h2.all p h
/- a name holds an int, a text -/
noncomputable def HasI (m : Str → Option Value) (x : Str) (k : Int) : Prop := ∃ t, m x = some (.int k t)
noncomputable def HasS (m : Str → Option Value) (x : Str) (y : Str) : Prop := ∃ t, m x = some (.str y t)
theorem hasI_of {m : Str → Option Value} {x : Str} {k k' : Int} {t : Tok} (h : m x = some (.int k t)) (e : k = k') : HasI m x k' := ⟨t, e ▸ h⟩
theorem hasS_of {m : Str → Option Value} {x : Str} {y y' : Str} {t : Tok} (h : m x = some (.str y t)) (e : y = y') : HasS m x y' := ⟨t, e ▸ h⟩
theorem fr_as {h₀ h : Heap} {L : Addr} {m : Str → Option Value} {ps : List (Str × Value)} (F : Fr h₀ L h m) (hp : Has m ps) : Fr h₀ L h (kstB m ps) := by
  have e : kstB m ps = m := by
    funext z
    exact kstB_eq hp.all fun _ => rfl
  rw [e]; exact F
theorem News.sub {h₀ h : Heap} {L : Addr} {news news' : List (Addr × Obj)} (N : News h₀ L h news') (hs : ∀ p ∈ news, p ∈ news') : News h₀ L h news := fun p hp => N p (hs p hp)
section
variable {g h : Heap} {L : Addr} {x : Addr × Obj} {l l' l1 l2 : List (Addr × Obj)}
theorem nwT (N : News g L h (x :: l)) : News g L h l := fun p hp => N p (.tail _ hp)
theorem nwC (H : News g L h (x :: l')) (N : News g L h l) : News g L h (x :: l) := fun p hp => by
  cases hp with
  | head => exact H _ (.head _)
  | tail _ hp => exact N p hp
theorem nwA (N : News g L h l1) (M : News g L h l2) : News g L h (l1 ++ l2) := fun p hp => (List.mem_append.mp hp).elim (N p) (M p)
theorem nwL (N : News g L h (l1 ++ l2)) : News g L h l1 := fun p hp => N p (List.mem_append_left _ hp)
theorem nwR (N : News g L h (l1 ++ l2)) : News g L h l2 := fun p hp => N p (List.mem_append_right _ hp)
end
theorem ex1 {α : Sort _} {P : α → Prop} {c : Prop} (h : ∃ a0, P a0) (k : ∀ a0, P a0 → c) : c := by
  obtain ⟨a0, h⟩ := h
  exact k a0 h
theorem ex2 {α β : Sort _} {P : α → β → Prop} {c : Prop} (h : ∃ a0 a1, P a0 a1) (k : ∀ a0 a1, P a0 a1 → c) : c := by
  obtain ⟨a0, a1, h⟩ := h
  exact k a0 a1 h
theorem ex3 {α β γ : Sort _} {P : α → β → γ → Prop} {c : Prop} (h : ∃ a0 a1 a2, P a0 a1 a2) (k : ∀ a0 a1 a2, P a0 a1 a2 → c) : c := by
  obtain ⟨a0, a1, a2, h⟩ := h
  exact k a0 a1 a2 h
theorem ex4 {α β γ δ : Sort _} {P : α → β → γ → δ → Prop} {c : Prop} (h : ∃ a0 a1 a2 a3, P a0 a1 a2 a3) (k : ∀ a0 a1 a2 a3, P a0 a1 a2 a3 → c) : c := by
  obtain ⟨a0, a1, a2, a3, h⟩ := h
  exact k a0 a1 a2 a3 h
theorem ex5 {α β γ δ ε : Sort _} {P : α → β → γ → δ → ε → Prop} {c : Prop} (h : ∃ a0 a1 a2 a3 a4, P a0 a1 a2 a3 a4) (k : ∀ a0 a1 a2 a3 a4, P a0 a1 a2 a3 a4 → c) : c := by
  obtain ⟨a0, a1, a2, a3, a4, h⟩ := h
  exact k a0 a1 a2 a3 a4 h
theorem ex6 {α β γ δ ε ζ : Sort _} {P : α → β → γ → δ → ε → ζ → Prop} {c : Prop} (h : ∃ a0 a1 a2 a3 a4 a5, P a0 a1 a2 a3 a4 a5) (k : ∀ a0 a1 a2 a3 a4 a5, P a0 a1 a2 a3 a4 a5 → c) : c := by
  obtain ⟨a0, a1, a2, a3, a4, a5, h⟩ := h
  exact k a0 a1 a2 a3 a4 a5 h
theorem ex7 {α β γ δ ε ζ η : Sort _} {P : α → β → γ → δ → ε → ζ → η → Prop} {c : Prop} (h : ∃ a0 a1 a2 a3 a4 a5 a6, P a0 a1 a2 a3 a4 a5 a6) (k : ∀ a0 a1 a2 a3 a4 a5 a6, P a0 a1 a2 a3 a4 a5 a6 → c) : c := by
  obtain ⟨a0, a1, a2, a3, a4, a5, a6, h⟩ := h
  exact k a0 a1 a2 a3 a4 a5 a6 h
theorem an2 {p0 p1 c : Prop} (h : p0 ∧ p1) (k : p0 → p1 → c) : c := k h.1 h.2
theorem an3 {p0 p1 p2 c : Prop} (h : p0 ∧ p1 ∧ p2) (k : p0 → p1 → p2 → c) : c := k h.1 h.2.1 h.2.2
theorem an4 {p0 p1 p2 p3 c : Prop} (h : p0 ∧ p1 ∧ p2 ∧ p3) (k : p0 → p1 → p2 → p3 → c) : c := k h.1 h.2.1 h.2.2.1 h.2.2.2
theorem an5 {p0 p1 p2 p3 p4 c : Prop} (h : p0 ∧ p1 ∧ p2 ∧ p3 ∧ p4) (k : p0 → p1 → p2 → p3 → p4 → c) : c := k h.1 h.2.1 h.2.2.1 h.2.2.2.1 h.2.2.2.2
theorem an6 {p0 p1 p2 p3 p4 p5 c : Prop} (h : p0 ∧ p1 ∧ p2 ∧ p3 ∧ p4 ∧ p5) (k : p0 → p1 → p2 → p3 → p4 → p5 → c) : c := k h.1 h.2.1 h.2.2.1 h.2.2.2.1 h.2.2.2.2.1 h.2.2.2.2.2
theorem an7 {p0 p1 p2 p3 p4 p5 p6 c : Prop} (h : p0 ∧ p1 ∧ p2 ∧ p3 ∧ p4 ∧ p5 ∧ p6) (k : p0 → p1 → p2 → p3 → p4 → p5 → p6 → c) : c := k h.1 h.2.1 h.2.2.1 h.2.2.2.1 h.2.2.2.2.1 h.2.2.2.2.2.1 h.2.2.2.2.2.2
theorem an8 {p0 p1 p2 p3 p4 p5 p6 p7 c : Prop} (h : p0 ∧ p1 ∧ p2 ∧ p3 ∧ p4 ∧ p5 ∧ p6 ∧ p7) (k : p0 → p1 → p2 → p3 → p4 → p5 → p6 → p7 → c) : c := k h.1 h.2.1 h.2.2.1 h.2.2.2.1 h.2.2.2.2.1 h.2.2.2.2.2.1 h.2.2.2.2.2.2.1 h.2.2.2.2.2.2.2
theorem an9 {p0 p1 p2 p3 p4 p5 p6 p7 p8 c : Prop} (h : p0 ∧ p1 ∧ p2 ∧ p3 ∧ p4 ∧ p5 ∧ p6 ∧ p7 ∧ p8) (k : p0 → p1 → p2 → p3 → p4 → p5 → p6 → p7 → p8 → c) : c := k h.1 h.2.1 h.2.2.1 h.2.2.2.1 h.2.2.2.2.1 h.2.2.2.2.2.1 h.2.2.2.2.2.2.1 h.2.2.2.2.2.2.2.1 h.2.2.2.2.2.2.2.2
theorem an10 {p0 p1 p2 p3 p4 p5 p6 p7 p8 p9 c : Prop} (h : p0 ∧ p1 ∧ p2 ∧ p3 ∧ p4 ∧ p5 ∧ p6 ∧ p7 ∧ p8 ∧ p9) (k : p0 → p1 → p2 → p3 → p4 → p5 → p6 → p7 → p8 → p9 → c) : c := k h.1 h.2.1 h.2.2.1 h.2.2.2.1 h.2.2.2.2.1 h.2.2.2.2.2.1 h.2.2.2.2.2.2.1 h.2.2.2.2.2.2.2.1 h.2.2.2.2.2.2.2.2.1 h.2.2.2.2.2.2.2.2.2
theorem an11 {p0 p1 p2 p3 p4 p5 p6 p7 p8 p9 p10 c : Prop} (h : p0 ∧ p1 ∧ p2 ∧ p3 ∧ p4 ∧ p5 ∧ p6 ∧ p7 ∧ p8 ∧ p9 ∧ p10) (k : p0 → p1 → p2 → p3 → p4 → p5 → p6 → p7 → p8 → p9 → p10 → c) : c := k h.1 h.2.1 h.2.2.1 h.2.2.2.1 h.2.2.2.2.1 h.2.2.2.2.2.1 h.2.2.2.2.2.2.1 h.2.2.2.2.2.2.2.1 h.2.2.2.2.2.2.2.2.1 h.2.2.2.2.2.2.2.2.2.1 h.2.2.2.2.2.2.2.2.2.2
theorem an12 {p0 p1 p2 p3 p4 p5 p6 p7 p8 p9 p10 p11 c : Prop} (h : p0 ∧ p1 ∧ p2 ∧ p3 ∧ p4 ∧ p5 ∧ p6 ∧ p7 ∧ p8 ∧ p9 ∧ p10 ∧ p11) (k : p0 → p1 → p2 → p3 → p4 → p5 → p6 → p7 → p8 → p9 → p10 → p11 → c) : c := k h.1 h.2.1 h.2.2.1 h.2.2.2.1 h.2.2.2.2.1 h.2.2.2.2.2.1 h.2.2.2.2.2.2.1 h.2.2.2.2.2.2.2.1 h.2.2.2.2.2.2.2.2.1 h.2.2.2.2.2.2.2.2.2.1 h.2.2.2.2.2.2.2.2.2.2.1 h.2.2.2.2.2.2.2.2.2.2.2
theorem an13 {p0 p1 p2 p3 p4 p5 p6 p7 p8 p9 p10 p11 p12 c : Prop} (h : p0 ∧ p1 ∧ p2 ∧ p3 ∧ p4 ∧ p5 ∧ p6 ∧ p7 ∧ p8 ∧ p9 ∧ p10 ∧ p11 ∧ p12) (k : p0 → p1 → p2 → p3 → p4 → p5 → p6 → p7 → p8 → p9 → p10 → p11 → p12 → c) : c := k h.1 h.2.1 h.2.2.1 h.2.2.2.1 h.2.2.2.2.1 h.2.2.2.2.2.1 h.2.2.2.2.2.2.1 h.2.2.2.2.2.2.2.1 h.2.2.2.2.2.2.2.2.1 h.2.2.2.2.2.2.2.2.2.1 h.2.2.2.2.2.2.2.2.2.2.1 h.2.2.2.2.2.2.2.2.2.2.2.1 h.2.2.2.2.2.2.2.2.2.2.2.2
theorem neS1 {a : Nat} : a ≠ a + 1 := by omega
theorem neS2 {a : Nat} : a ≠ a + 1 + 1 := by omega
theorem neS3 {a : Nat} : a ≠ a + 1 + 1 + 1 := by omega
theorem neS4 {a : Nat} : a ≠ a + 1 + 1 + 1 + 1 := by omega
theorem neS5 {a : Nat} : a ≠ a + 1 + 1 + 1 + 1 + 1 := by omega
theorem neS6 {a : Nat} : a ≠ a + 1 + 1 + 1 + 1 + 1 + 1 := by omega
theorem ltU1 {a b : Nat} (h : a < b) : a < b + 1 := by omega
theorem ltU2 {a b : Nat} (h : a < b) : a < b + 1 + 1 := by omega
theorem ltU3 {a b : Nat} (h : a < b) : a < b + 1 + 1 + 1 := by omega
theorem ltU4 {a b : Nat} (h : a < b) : a < b + 1 + 1 + 1 + 1 := by omega
theorem ltU5 {a b : Nat} (h : a < b) : a < b + 1 + 1 + 1 + 1 + 1 := by omega
theorem ltU6 {a b : Nat} (h : a < b) : a < b + 1 + 1 + 1 + 1 + 1 + 1 := by omega
theorem pk1 {p0 q r : Prop} (h : p0 ∧ q ∧ r) : q := h.2.1
theorem pk2 {p0 p1 q r : Prop} (h : p0 ∧ p1 ∧ q ∧ r) : q := h.2.2.1
theorem pk3 {p0 p1 p2 q r : Prop} (h : p0 ∧ p1 ∧ p2 ∧ q ∧ r) : q := h.2.2.2.1
theorem pk4 {p0 p1 p2 p3 q r : Prop} (h : p0 ∧ p1 ∧ p2 ∧ p3 ∧ q ∧ r) : q := h.2.2.2.2.1
theorem pk5 {p0 p1 p2 p3 p4 q r : Prop} (h : p0 ∧ p1 ∧ p2 ∧ p3 ∧ p4 ∧ q ∧ r) : q := h.2.2.2.2.2.1
theorem pk6 {p0 p1 p2 p3 p4 p5 q r : Prop} (h : p0 ∧ p1 ∧ p2 ∧ p3 ∧ p4 ∧ p5 ∧ q ∧ r) : q := h.2.2.2.2.2.2.1
theorem pk7 {p0 p1 p2 p3 p4 p5 p6 q r : Prop} (h : p0 ∧ p1 ∧ p2 ∧ p3 ∧ p4 ∧ p5 ∧ p6 ∧ q ∧ r) : q := h.2.2.2.2.2.2.2.1
theorem pk8 {p0 p1 p2 p3 p4 p5 p6 p7 q r : Prop} (h : p0 ∧ p1 ∧ p2 ∧ p3 ∧ p4 ∧ p5 ∧ p6 ∧ p7 ∧ q ∧ r) : q := h.2.2.2.2.2.2.2.2.1
theorem pk9 {p0 p1 p2 p3 p4 p5 p6 p7 p8 q r : Prop} (h : p0 ∧ p1 ∧ p2 ∧ p3 ∧ p4 ∧ p5 ∧ p6 ∧ p7 ∧ p8 ∧ q ∧ r) : q := h.2.2.2.2.2.2.2.2.2.1
theorem pk10 {p0 p1 p2 p3 p4 p5 p6 p7 p8 p9 q r : Prop} (h : p0 ∧ p1 ∧ p2 ∧ p3 ∧ p4 ∧ p5 ∧ p6 ∧ p7 ∧ p8 ∧ p9 ∧ q ∧ r) : q := h.2.2.2.2.2.2.2.2.2.2.1
theorem pk11 {p0 p1 p2 p3 p4 p5 p6 p7 p8 p9 p10 q r : Prop} (h : p0 ∧ p1 ∧ p2 ∧ p3 ∧ p4 ∧ p5 ∧ p6 ∧ p7 ∧ p8 ∧ p9 ∧ p10 ∧ q ∧ r) : q := h.2.2.2.2.2.2.2.2.2.2.2.1
theorem pk12 {p0 p1 p2 p3 p4 p5 p6 p7 p8 p9 p10 p11 q r : Prop} (h : p0 ∧ p1 ∧ p2 ∧ p3 ∧ p4 ∧ p5 ∧ p6 ∧ p7 ∧ p8 ∧ p9 ∧ p10 ∧ p11 ∧ q ∧ r) : q := h.2.2.2.2.2.2.2.2.2.2.2.2.1
theorem pk13 {p0 p1 p2 p3 p4 p5 p6 p7 p8 p9 p10 p11 p12 q r : Prop} (h : p0 ∧ p1 ∧ p2 ∧ p3 ∧ p4 ∧ p5 ∧ p6 ∧ p7 ∧ p8 ∧ p9 ∧ p10 ∧ p11 ∧ p12 ∧ q ∧ r) : q := h.2.2.2.2.2.2.2.2.2.2.2.2.2.1

--needs: 10
theorem md2 : True := trivial
/- what stands fixed around a frame's walk -/
noncomputable abbrev Bd := World × (ExcName → Option Value) × (Str → Option Value) × (Str → Option Value) × Around × Around × Heap × List Env × Heap × Addr × Array GenState × Drawn × OsState × (Flow → Shared → Prop) × (Value → Shared → Prop) × Heap × Nat
noncomputable section
@[irreducible] noncomputable def bw (b : Bd) : World := b.1
@[irreducible] noncomputable def bMean (b : Bd) : ExcName → Option Value := b.2.1
@[irreducible] noncomputable def bMg (b : Bd) : Str → Option Value := b.2.2.1
@[irreducible] noncomputable def bMb (b : Bd) : Str → Option Value := b.2.2.2.1
@[irreducible] noncomputable def bA0 (b : Bd) : Around := b.2.2.2.2.1
@[irreducible] noncomputable def bAr (b : Bd) : Around := b.2.2.2.2.2.1
@[irreducible] noncomputable def bBase (b : Bd) : Heap := b.2.2.2.2.2.2.1
@[irreducible] noncomputable def bOuter (b : Bd) : List Env := b.2.2.2.2.2.2.2.1
@[irreducible] noncomputable def bG (b : Bd) : Heap := b.2.2.2.2.2.2.2.2.1
@[irreducible] noncomputable def bL (b : Bd) : Addr := b.2.2.2.2.2.2.2.2.2.1
@[irreducible] noncomputable def bGens (b : Bd) : Array GenState := b.2.2.2.2.2.2.2.2.2.2.1
@[irreducible] noncomputable def bDrawn (b : Bd) : Drawn := b.2.2.2.2.2.2.2.2.2.2.2.1
@[irreducible] noncomputable def bOs (b : Bd) : OsState := b.2.2.2.2.2.2.2.2.2.2.2.2.1
@[irreducible] noncomputable def bQ (b : Bd) : Flow → Shared → Prop := b.2.2.2.2.2.2.2.2.2.2.2.2.2.1
@[irreducible] noncomputable def bE (b : Bd) : Value → Shared → Prop := b.2.2.2.2.2.2.2.2.2.2.2.2.2.2.1
@[irreducible] noncomputable def bH (b : Bd) : Heap := b.2.2.2.2.2.2.2.2.2.2.2.2.2.2.2.1
@[irreducible] noncomputable def bK (b : Bd) : Nat := b.2.2.2.2.2.2.2.2.2.2.2.2.2.2.2.2
/- a function's code -/
noncomputable def codeAt (w : World) (f : Addr) : List Stmt × Str × Scope × Value := match (Mine.x.heap_1_39 w.params).lookup f with
  | some ⟨_, _, .func fd, _⟩ => (match fd.body with | .stmts b => b | _ => [], fd.qualname, fd.scope, fd.code)
  | _ => ([], default, default, default)
end
theorem codeAt_of {w : World} {f : Addr} {name qual : Str} {params : Arguments} {body : List Stmt} {scope : Scope} {dV kV doc pm cdv ct oc : Value} {an od : Option Addr} {osl : Array (Option Value)}
    (ho : (Mine.x.heap_1_39 w.params).lookup f = some ⟨oc, od, .func (fnOf name qual params body scope dV kV doc pm an cdv ct), osl⟩) : codeAt w f = (body, qual, scope, cdv) := by
  unfold codeAt
  rw [ho]
/- what stands and holds around a frame's walk, with room for `r` frames -/
structure Stat (w : World) (mean : ExcName → Option Value) (mg mb : Str → Option Value) (A₀ A : Around) (env : Env) (outer : List Env) (base h₀ : Heap) (L : Addr) (r : Nat) : Prop where
  B : Below A₀ base outer h₀
  X : (Mine.x.heap_1_39 w.params).In h₀
  T : Top Mine.x.view_1_40 theLoose mean mg mb h₀
  fr : A.frames = some (env :: outer)
  fl : env.frame = some L
  fk : env.scope.kind = .function
  hh : A.handled = none
  hd : A.depth + r < 900
  hu : A.units + 8 * r < 9000
/- a frame's walk, from its ledger `news` and its names `mm`: what it hands back and the ledger behind it -/
noncomputable def BodyE (b : Bd) (n : Nat) (env : Env) (body : List Stmt) (mm : Str → Option Value) (news : List (Addr × Obj)) (Post : Value → List (Addr × Obj) → Prop) : Prop :=
  Stat (bw b) (bMean b) (bMg b) (bMb b) (bA0 b) (calm (bAr b)) env (bOuter b) (bBase b) (bG b) (bL b) n → Fr (bG b) (bL b) (bH b) mm → News (bG b) (bL b) (bH b) news → PassesOwn (model theProg (bw b)) (calm (bAr b)) env (bE b) →
  (∀ v tl h' k' m', Fr (bG b) (bL b) h' m' → News (bG b) (bL b) h' tl → Post v tl → bQ b (.ret v) ⟨h', bGens b, bDrawn b, k', bOs b⟩) →
  (∀ tl h' k' m', Fr (bG b) (bL b) h' m' → News (bG b) (bL b) h' tl → Post .none tl → bQ b .next ⟨h', bGens b, bDrawn b, k', bOs b⟩) →
  wpAny (model theProg (bw b)) (calm (bAr b)) (execs body env) (bQ b) (bE b) ⟨bH b, bGens b, bDrawn b, bK b, bOs b⟩
@[irreducible] noncomputable def BodyP (b : Bd) (n : Nat) (f : Addr) (mm : Str → Option Value) (news : List (Addr × Obj)) (Post : Value → List (Addr × Obj) → Prop) : Prop :=
  BodyE b n (envOf (codeAt (bw b) f).2.1 (codeAt (bw b) f).2.2.1 (bL b) f (codeAt (bw b) f).2.2.2) (codeAt (bw b) f).1 mm news Post
/- the same, of a frame with cells -/
@[irreducible] noncomputable def BodyC (b : Bd) (n : Nat) (f : Addr) (binds : List (Str × Value)) (news : List (Addr × Obj)) (Post : Value → List (Addr × Obj) → Prop) : Prop :=
  BodyE b n (envOfC (codeAt (bw b) f).2.1 (codeAt (bw b) f).2.2.1 (bL b) f (codeAt (bw b) f).2.2.2) (codeAt (bw b) f).1 (bindL (envOfC (codeAt (bw b) f).2.1 (codeAt (bw b) f).2.2.1 (bL b) f (codeAt (bw b) f).2.2.2).kindOf binds fun _ => none) news Post
section
variable {b : Bd} {n : Nat} {f : Addr} {mm : Str → Option Value} {news : List (Addr × Obj)} {Post : Value → List (Addr × Obj) → Prop} {name qual : Str} {params : Arguments} {body : List Stmt} {scope : Scope} {dV kV doc pm cdv ct oc : Value} {an od : Option Addr} {osl : Array (Option Value)}
theorem BodyP.start (ho : (Mine.x.heap_1_39 (bw b).params).lookup f = some ⟨oc, od, .func (fnOf name qual params body scope dV kV doc pm an cdv ct), osl⟩)
    (h : BodyE b n (envOf qual scope (bL b) f cdv) body mm news Post) : BodyP b n f mm news Post := by
  rw [BodyP, codeAt_of ho]
  exact h
theorem BodyC.start (ho : (Mine.x.heap_1_39 (bw b).params).lookup f = some ⟨oc, od, .func (fnOf name qual params body scope dV kV doc pm an cdv ct), osl⟩)
    {binds : List (Str × Value)} (h : BodyE b n (envOfC qual scope (bL b) f cdv) body (bindL (envOfC qual scope (bL b) f cdv).kindOf binds fun _ => none) news Post) : BodyC b n f binds news Post := by
  rw [BodyC, codeAt_of ho]
  exact h
end
theorem BodyP.out {b : Bd} {n : Nat} {f : Addr} {mm : Str → Option Value} {news : List (Addr × Obj)} {Post : Value → List (Addr × Obj) → Prop} {body : List Stmt} {qual : Str} {scope : Scope} {cdv : Value} (h : BodyP b n f mm news Post) (e : codeAt (bw b) f = (body, qual, scope, cdv)) :
    BodyE b n (envOf qual scope (bL b) f cdv) body mm news Post := by
  rw [BodyP, e] at h
  exact h
theorem BodyC.out {b : Bd} {n : Nat} {f : Addr} {binds : List (Str × Value)} {news : List (Addr × Obj)} {Post : Value → List (Addr × Obj) → Prop} {body : List Stmt} {qual : Str} {scope : Scope} {cdv : Value} (h : BodyC b n f binds news Post) (e : codeAt (bw b) f = (body, qual, scope, cdv)) :
    BodyE b n (envOfC qual scope (bL b) f cdv) body (bindL (envOfC qual scope (bL b) f cdv).kindOf binds fun _ => none) news Post := by
  rw [BodyC, e] at h
  exact h
section
variable {w : World} {mean : ExcName → Option Value} {mg mb : Str → Option Value} {n : Nat} {f : Addr} {vs : List Value} {kw : List (Str × Value)} {news : List (Addr × Obj)} {Post : Value → List (Addr × Obj) → Prop}
    {name qual : Str} {params : Arguments} {body : List Stmt} {scope : Scope} {dV kV doc pm cdv ct oc : Value} {an od : Option Addr} {osl : Array (Option Value)} {binds : List (Str × Value)}
theorem Does.of_body (ho : (Mine.x.heap_1_39 w.params).lookup f = some ⟨oc, od, .func (fnOf name qual params body scope dV kV doc pm an cdv ct), osl⟩) (hcd : codeIn (Mine.x.heap_1_39 w.params) cdv qual = true)
    (hbind : ∀ s : Shared, (Mine.x.heap_1_39 w.params).In s.heap → BindsTo s (fnOf name qual params body scope dV kV doc pm an cdv ct) ⟨vs, kw⟩ binds) (hloc : ∀ y ∈ binds, scope.names.lookup y.1 = some .local)
    (hco : scope.isCoroutine = false) (hgen : scope.isGenerator = false) (hk : scope.kind = .function) (hcell : ∀ x ∈ scope.names, x.2 ≠ .cell)
    (h : ∀ b : Bd, bw b = w → bMean b = mean → bMg b = mg → bMb b = mb → BodyP b n f (fun y => binds.reverse.lookup y) news Post) : Does w mean mg mb (n + 1) (.ref f) vs kw news Post := by
  refine Does.intro ?_
  intro A₀ A env outer base h₀ L m s Q E ⟨B, F, X, N, T, hA, hfr, hfk, hh⟩ hd hu hret
  refine wpAny_call ?_
  refine code_def B F X N T hA hfr hfk ho hcd (by simp only [recursionLimit]; omega) (hbind _ (X.keeps F.keep)) hloc ?_ hco hgen hk hcell
  intro g L' h₁ FG F' N' B' X' T'
  have hb := h (w, mean, mg, mb, calm A, (calm A).deeper (envOf qual scope L' f cdv), base, env :: outer, g, L', s.gens, s.drawn, s.os,
    (fun fl s' => LeaveK h₀ L m g (fun r s' => match r with | .ok (.ret v) => Q v s' | .ok _ => False | .error e => E e s') (match fl with | .ret v => v | _ => .none) s'),
    (fun e s' => wpAny (model theProg w) ((calm A).deeper (envOf qual scope L' f cdv)) (leaving (envOf qual scope L' f cdv) e) (fun _ s'' => E e s'') (fun e' s'' => E e' s'') s'), h₁, s.toks + binds.length)
  replace hb := (hb (by with_unfolding_all rfl) (by with_unfolding_all rfl) (by with_unfolding_all rfl) (by with_unfolding_all rfl)).out (by with_unfolding_all exact codeAt_of ho)
  with_unfolding_all refine hb ⟨B', X', T', frames_in hA, rfl, hk, rfl, by show (calm A).depth + 1 + n < 900; omega, by show (calm A).units + 3 + 8 * n < 9000; omega⟩ F' N' PassesOwn.leaving ?_ ?_
  · intro v tl h' k' m' F₂ N₂ hp
    with_unfolding_all show LeaveK h₀ L m g (fun r s' => match r with | .ok (.ret v) => Q v s' | .ok _ => False | .error e => E e s') v ⟨h', s.gens, s.drawn, k', s.os⟩
    with_unfolding_all exact leaveK_ F₂ N₂ fun F₃ N₃ => hret _ _ _ _ F₃ N₃ hp
  · intro tl h' k' m' F₂ N₂ hp
    with_unfolding_all show LeaveK h₀ L m g (fun r s' => match r with | .ok (.ret v) => Q v s' | .ok _ => False | .error e => E e s') .none ⟨h', s.gens, s.drawn, k', s.os⟩
    with_unfolding_all exact leaveK_ F₂ N₂ fun F₃ N₃ => hret _ _ _ _ F₃ N₃ hp
theorem Does.of_bodyC (ho : (Mine.x.heap_1_39 w.params).lookup f = some ⟨oc, od, .func (fnOf name qual params body scope dV kV doc pm an cdv ct), osl⟩) (hcd : codeIn (Mine.x.heap_1_39 w.params) cdv qual = true)
    (hbind : ∀ s : Shared, (Mine.x.heap_1_39 w.params).In s.heap → BindsTo s (fnOf name qual params body scope dV kV doc pm an cdv ct) ⟨vs, kw⟩ binds) (hkind : (binds.all fun y => scope.names.lookup y.1 == some .local || scope.names.lookup y.1 == some .cell) = true)
    (hnd : ((cellsFrom 0 scope.names []).map (·.1)).Nodup) (hco : scope.isCoroutine = false) (hgen : scope.isGenerator = false) (hk : scope.kind = .function)
    (h : ∀ (b : Bd) (cells : List (Addr × Obj)), CellsAre (bindC (envOfC qual scope (bL b) f cdv).kindOf binds fun _ => none) (cellsFrom (bL b + 1) scope.names []) cells → (∀ p ∈ news, p.1 < bL b) →
      bw b = w → bMean b = mean → bMg b = mg → bMb b = mb → BodyC b n f binds (cells ++ news) Post) : Does w mean mg mb (n + 1) (.ref f) vs kw news Post := by
  refine Does.intro ?_
  intro A₀ A env outer base h₀ L m s Q E ⟨B, F, X, N, T, hA, hfr, hfk, hh⟩ hd hu hret
  refine wpAny_call ?_
  refine code_defC B F X N T hA hfr hfk ho hcd (by simp only [recursionLimit]; omega) (hbind _ (X.keeps F.keep)) hkind hnd ?_ hco hgen hk
  intro g L' h₁ tk cells FG F' N' Y' B' X' T' l1
  have hb := h (w, mean, mg, mb, calm A, (calm A).deeper (envOfC qual scope L' f cdv), base, env :: outer, g, L', s.gens, s.drawn, s.os,
    (fun fl s' => LeaveK h₀ L m g (fun r s' => match r with | .ok (.ret v) => Q v s' | .ok _ => False | .error e => E e s') (match fl with | .ret v => v | _ => .none) s'),
    (fun e s' => wpAny (model theProg w) ((calm A).deeper (envOfC qual scope L' f cdv)) (leaving (envOfC qual scope L' f cdv) e) (fun _ s'' => E e s'') (fun e' s'' => E e' s'') s'), h₁, tk) cells
  replace hb := (hb (by with_unfolding_all exact Y') (by with_unfolding_all exact l1) (by with_unfolding_all rfl) (by with_unfolding_all rfl) (by with_unfolding_all rfl) (by with_unfolding_all rfl)).out (by with_unfolding_all exact codeAt_of ho)
  with_unfolding_all refine hb ⟨B', X', T', frames_in hA, rfl, hk, rfl, by show (calm A).depth + 1 + n < 900; omega, by show (calm A).units + 3 + 8 * n < 9000; omega⟩ F' N' PassesOwn.leaving ?_ ?_
  · intro v tl h' k' m' F₂ N₂ hp
    with_unfolding_all show LeaveK h₀ L m g (fun r s' => match r with | .ok (.ret v) => Q v s' | .ok _ => False | .error e => E e s') v ⟨h', s.gens, s.drawn, k', s.os⟩
    with_unfolding_all exact leaveK_ F₂ N₂ fun F₃ N₃ => hret _ _ _ _ F₃ N₃ hp
  · intro tl h' k' m' F₂ N₂ hp
    with_unfolding_all show LeaveK h₀ L m g (fun r s' => match r with | .ok (.ret v) => Q v s' | .ok _ => False | .error e => E e s') .none ⟨h', s.gens, s.drawn, k', s.os⟩
    with_unfolding_all exact leaveK_ F₂ N₂ fun F₃ N₃ => hret _ _ _ _ F₃ N₃ hp
end
theorem bd_ne : Nonempty Bd := ⟨(⟨fun _ _ => 0, { strHash := fun _ => 0, shareClass := fun _ => 0, mergeTok := id, idOf := fun _ => 0, idOfShared := fun _ _ => 0, followText := fun _ => false, idOfImm := fun _ => 0 }⟩, fun _ => none, fun _ => none, fun _ => none, {}, {}, {}, [], {}, 0, #[], {}, {}, fun _ _ => True, fun _ _ => True, {}, 0)⟩
theorem does_as {w : World} {mean : ExcName → Option Value} {mg mb : Str → Option Value} {n n' : Nat} {f : Value} {vs : List Value} {kw : List (Str × Value)} {news : List (Addr × Obj)} {Post : Value → List (Addr × Obj) → Prop} (e : n = n') (D : Does w mean mg mb n f vs kw news Post) : Does w mean mg mb n' f vs kw news Post := e ▸ D
/- what holds of the choice that would break it holds of all -/
theorem eps_at {α : Type} {P : α → Prop} {ne : Nonempty α} (h : P (@Classical.epsilon α ne fun d => ¬ P d)) : ∀ d, P d := by
  intro d
  refine Classical.byContradiction fun hd => ?_
  exact Classical.epsilon_spec (p := fun d => ¬ P d) ⟨d, hd⟩ h
section
variable {w : World} {mean : ExcName → Option Value} {mg mb : Str → Option Value} {A₀ A : Around} {env : Env} {outer : List Env} {base h₀ : Heap} {L : Addr} {r : Nat} {gg : Array GenState} {dd : Drawn} {oo : OsState} {E : Value → Shared → Prop}
/- contracts in use: what comes back is taken apart once and for all -/
theorem Does.kk {n : Nat} {f : Value} {vs : List Value} {kw : List (Str × Value)} {news : List (Addr × Obj)} {Post : Value → List (Addr × Obj) → Prop} {h : Heap} {k : Nat} {m : Str → Option Value} {Q : Value → Shared → Prop}
    (St : Stat w mean mg mb A₀ A env outer base h₀ L r) (D : Does w mean mg mb n f vs kw news Post) (hr : n ≤ r) (F : Fr h₀ L h m) (N : News h₀ L h news)
    (hq : ∀ v tl, Post v tl → ∀ h' k', Fr h₀ L h' m → News h₀ L h' tl → Q v ⟨h', gg, dd, k', oo⟩) : wpAny (model theProg w) A (call f vs kw) Q E ⟨h, gg, dd, k, oo⟩ :=
  D _ _ _ _ _ _ _ _ ⟨h, gg, dd, k, oo⟩ _ _ ⟨St.B, F, St.X, N, St.T, St.fr, St.fl, St.fk, St.hh⟩ (by have := St.hd; omega) (by have := St.hu; omega) fun v tl h' k' F' N' hp => hq v tl hp h' k' F' N'
theorem Does.k0 {n : Nat} {f : Value} {vs : List Value} {kw : List (Str × Value)} {news news' : List (Addr × Obj)} {val : Value} {h : Heap} {k : Nat} {m : Str → Option Value} {Q : Value → Shared → Prop}
    (St : Stat w mean mg mb A₀ A env outer base h₀ L r) (D : Does w mean mg mb n f vs kw news (fun v tl => v = val ∧ tl = news')) (hr : n ≤ r) (F : Fr h₀ L h m) (N : News h₀ L h news)
    (hq : ∀ h' k', Fr h₀ L h' m → News h₀ L h' news' → Q val ⟨h', gg, dd, k', oo⟩) : wpAny (model theProg w) A (call f vs kw) Q E ⟨h, gg, dd, k, oo⟩ :=
  Does.kk St D hr F N fun v tl hp h' k' F' N' => by obtain ⟨rfl, rfl⟩ := hp; exact hq h' k' F' N'
theorem Does.k1 {n : Nat} {f : Value} {vs : List Value} {kw : List (Str × Value)} {news news' : List (Addr × Obj)} {val : Tok → Value} {h : Heap} {k : Nat} {m : Str → Option Value} {Q : Value → Shared → Prop}
    (St : Stat w mean mg mb A₀ A env outer base h₀ L r) (D : Does w mean mg mb n f vs kw news (fun v tl => (∃ t, v = val t) ∧ tl = news')) (hr : n ≤ r) (F : Fr h₀ L h m) (N : News h₀ L h news)
    (hq : ∀ t h' k', Fr h₀ L h' m → News h₀ L h' news' → Q (val t) ⟨h', gg, dd, k', oo⟩) : wpAny (model theProg w) A (call f vs kw) Q E ⟨h, gg, dd, k, oo⟩ :=
  Does.kk St D hr F N fun v tl hp h' k' F' N' => by obtain ⟨⟨t, rfl⟩, rfl⟩ := hp; exact hq t h' k' F' N'
theorem Does.u1 {n : Nat} {f : Value} {vs : List Value} {kw : List (Str × Value)} {news news' : List (Addr × Obj)} {val : Tok → Value} {h : Heap} {k : Nat} {m : Str → Option Value} {Q : Value → Shared → Prop}
    (D : Does w mean mg mb n f vs kw news (fun v tl => (∃ t, v = val t) ∧ tl = news')) (B : Below A₀ base outer h₀) (F : Fr h₀ L h m) (X : (Mine.x.heap_1_39 w.params).In h₀) (N : News h₀ L h news) (T : Top Mine.x.view_1_40 theLoose mean mg mb h₀)
    (fr : A.frames = some (env :: outer)) (fl : env.frame = some L) (fk : env.scope.kind = .function) (hh : A.handled = none) (hd : A.depth + n < 900) (hu : A.units + 8 * n < 9000)
    (hq : ∀ t h' k', Fr h₀ L h' m → News h₀ L h' news' → Q (val t) ⟨h', gg, dd, k', oo⟩) : wpAny (model theProg w) A (call f vs kw) Q E ⟨h, gg, dd, k, oo⟩ :=
  D _ _ _ _ _ _ _ _ ⟨h, gg, dd, k, oo⟩ _ _ ⟨B, F, X, N, T, fr, fl, fk, hh⟩ hd hu fun v tl h' k' F' N' hp => by obtain ⟨⟨t, rfl⟩, rfl⟩ := hp; exact hq t h' k' F' N'
/- a new object comes back -/
theorem Does.kD {n : Nat} {f : Value} {vs : List Value} {kw : List (Str × Value)} {news : List (Addr × Obj)} {led : Addr → List (Addr × Obj)} {C : Addr → Prop} {h : Heap} {k : Nat} {m : Str → Option Value} {Q : Value → Shared → Prop}
    (St : Stat w mean mg mb A₀ A env outer base h₀ L r) (D : Does w mean mg mb n f vs kw news (fun v tl => ∃ D : Addr, v = .ref D ∧ tl = led D ∧ C D)) (hr : n ≤ r) (F : Fr h₀ L h m) (N : News h₀ L h news)
    (hq : ∀ D h' k', Fr h₀ L h' m → News h₀ L h' (led D) → C D → Q (.ref D) ⟨h', gg, dd, k', oo⟩) : wpAny (model theProg w) A (call f vs kw) Q E ⟨h, gg, dd, k, oo⟩ :=
  Does.kk St D hr F N fun v tl hp h' k' F' N' => by obtain ⟨D, rfl, rfl, hc⟩ := hp; exact hq D h' k' F' N' hc
/- a new object of a token comes back -/
theorem Does.kT {n : Nat} {f : Value} {vs : List Value} {kw : List (Str × Value)} {news : List (Addr × Obj)} {led : Addr → Tok → List (Addr × Obj)} {C1 C2 : Addr → Tok → Prop} {h : Heap} {k : Nat} {m : Str → Option Value} {Q : Value → Shared → Prop}
    (St : Stat w mean mg mb A₀ A env outer base h₀ L r) (D : Does w mean mg mb n f vs kw news (fun v tl => ∃ (D : Addr) (t : Tok), v = .ref D ∧ tl = led D t ∧ C1 D t ∧ C2 D t)) (hr : n ≤ r) (F : Fr h₀ L h m) (N : News h₀ L h news)
    (hq : ∀ D t h' k', Fr h₀ L h' m → News h₀ L h' (led D t) → C1 D t → C2 D t → Q (.ref D) ⟨h', gg, dd, k', oo⟩) : wpAny (model theProg w) A (call f vs kw) Q E ⟨h, gg, dd, k, oo⟩ :=
  Does.kk St D hr F N fun v tl hp h' k' F' N' => by obtain ⟨D, t, rfl, rfl, hc1, hc2⟩ := hp; exact hq D t h' k' F' N' hc1 hc2
end
section
variable {M : Model} {A : Around} {E : Value → Shared → Prop} {h₀ : Heap} {L : Addr} {gg : Array GenState} {dd : Drawn} {oo : OsState} {cn : Str} {cs : Scope} {a : Addr} {ccd : Value} {cl : List (Str × Addr)} {x : Str}
theorem st_let {v : Value} {h : Heap} {k : Nat} {m : Str → Option Value} {news : List (Addr × Obj)} {Q : Unit → Shared → Prop} (hk : cs.kind = .function) (hx : (envX cn cs L a ccd cl).kindOf x = some .local) (F : Fr h₀ L h m) (N : News h₀ L h news)
    (hq : ∀ h', let m' := (fun y => if y = x then some v else m y); Fr h₀ L h' m' → News h₀ L h' news → Q () ⟨h', gg, dd, k + 1, oo⟩) :
    wpAny M A (storeName (envX cn cs L a ccd cl) x v) Q E ⟨h, gg, dd, k, oo⟩ := storeX_L F N (fun h' F' N' => hq h' F' N') hk hx
theorem nm_L {pos : Pos} {v : Value} {h : Heap} {k : Nat} {m : Str → Option Value} {Q : Value → Shared → Prop} (hk : cs.kind = .function) (hx : (envX cn cs L a ccd cl).kindOf x = some .local) (hd : (x == ("__debug__" : Str)) = false) (F : Fr h₀ L h m) (hv : m x = some v)
    (hq : Q v ⟨h, gg, dd, k, oo⟩) : wpAny M A (eval (.Name x pos) (envX cn cs L a ccd cl)) Q E ⟨h, gg, dd, k, oo⟩ := nameX_L F hv hq hk hx hd
end

--needs: 10
theorem md3 : True := trivial
noncomputable def written (mark : Str) (n : Int) : Str := Str.ofString "(" ++ mark ++ Str.ofString "9" ++ mark ++ mark ++ Str.ofString (toString n) ++ mark ++ Str.ofString ")"
theorem len1 : (Str.ofString "(").length = 1 ∧ (Str.ofString "9").length = 1 ∧ (Str.ofString ")").length = 1 := ⟨rfl, rfl, rfl⟩
theorem md4 : True := trivial
theorem t_written {w : World} {mean : ExcName → Option Value} {mg mb : Str → Option Value} {mark : Str} {tm : Tok} {n : Int} {tn : Tok} {news : List (Addr × Obj)} (hm : mark.length = 1) (hn : n.natAbs.log2 < 1920) (hl : (Str.ofString (toString n)).length ≤ 1000) :
    Does w mean mg mb 2 (.ref 352) [.str mark tm, .int n tn] [] news (fun v tl => (∃ t, v = .str (written mark n) t) ∧ tl = news) := by
  intro A₀ A env outer base h₀ L m s Q E ⟨B, F, X, N, T, hA, hf, hk, hh⟩ hd hu hret
  k_extra "my enter"
  k_steps
  exact hret _ _ _ _ (by k_asm) (by k_asm) ⟨⟨_, rfl⟩, rfl⟩

--needs: 10
theorem md5 : True := trivial
/- a text by its signs -/
noncomputable def S (l : List Nat) : Str := ⟨l.toArray⟩
theorem S_list (l : List Nat) : (S l).cps.toList = l := rfl
theorem S_length (l : List Nat) : (S l).length = l.length := by simp [S, Str.length]
theorem S_app (a b : List Nat) : S a ++ S b = S (a ++ b) := Str.ext' (by simp [S, Str.cps_append])
theorem S_inj {a b : List Nat} : S a = S b ↔ a = b := ⟨fun h => by have := congrArg (fun x : Str => x.cps.toList) h; simpa [S] using this, fun h => h ▸ rfl⟩
theorem S_of (x : Str) : x = S x.cps.toList := by simp [S]
theorem S_beq (a b : List Nat) : (S a == S b) = (a == b) := by
  rw [Bool.eq_iff_iff, beq_iff_eq, beq_iff_eq, S_inj]
theorem S_item {l : List Nat} {i : Nat} {c : Nat} (h : l[i]? = some c) : Txt.item (S l) (i : Int) = S [c] := by
  unfold Txt.item Txt.charAt
  rw [StrLaws.at_nonneg (by omega) (n := c) (by simpa [S] using h)]
  rfl
theorem slice_eq (x : Str) (l u : Option Int) : Txt.slice x l u = StrLaws.sliceText x l u := rfl
theorem S_slice {l : List Nat} {i j : Nat} (hij : i ≤ j) (hj : j ≤ l.length) : Txt.slice (S l) (some (i : Int)) (some (j : Int)) = S ((l.take j).drop i) := by
  rw [slice_eq, StrLaws.sliceText_nat _ hij (by rw [S_length]; exact hj), S_list, List.drop_take]; rfl
theorem S_slice_to {l : List Nat} {j : Nat} (hj : j ≤ l.length) : Txt.slice (S l) none (some (j : Int)) = S (l.take j) := by
  have e : Txt.slice (S l) none (some (j : Int)) = Txt.slice (S l) (some ((0 : Nat) : Int)) (some (j : Int)) := by
    rw [slice_eq, slice_eq]; unfold StrLaws.sliceText; rw [StrLaws.sliceIdx_none_lo]; rfl
  rw [e, S_slice (Nat.zero_le _) hj, List.drop_zero]
theorem S_slice_most {l : List Nat} {c : Nat} : Txt.slice (S (l ++ [c])) none (some (-1)) = S l := by
  rw [slice_eq, StrLaws.sliceText_to_neg (by omega) (by rw [S_length]; simp; omega), S_list, S_length]
  have e : ((-1 : Int) + ((l ++ [c]).length : Nat) - 0).toNat = l.length := by simp; omega
  rw [e, List.drop_zero, List.take_left]; rfl
theorem S_slice_last {l : List Nat} {c : Nat} : Txt.slice (S (l ++ [c])) (some (-1)) none = S [c] := by
  rw [slice_eq, StrLaws.sliceText_from_neg (by omega) (by rw [S_length]; simp; omega), S_list, S_length]
  have e : ((-1 : Int) + ((l ++ [c]).length : Nat)).toNat = l.length := by simp; omega
  have e2 : (((l ++ [c]).length : Int) - ((-1 : Int) + ((l ++ [c]).length : Nat))).toNat = 1 := by omega
  rw [e, e2, List.drop_left]; rfl
theorem S_slice_last0 : Txt.slice (S []) (some (-1)) none = S [] := by decide +kernel

/- the places of a sign -/
noncomputable def pos (c : Nat) : List Nat → Nat → List Nat
  | [], _ => []
  | a :: r, k => if a = c then k :: pos c r (k + 1) else pos c r (k + 1)
theorem pos_mem {c : Nat} : ∀ {l : List Nat} {k i : Nat}, i ∈ pos c l k → k ≤ i
  | [], _, _, h => nomatch h
  | a :: r, k, i, h => by
    unfold pos at h
    split at h
    · rcases List.mem_cons.mp h with rfl | h
      · exact Nat.le_refl _
      · exact Nat.le_of_succ_le (pos_mem h)
    · exact Nat.le_of_succ_le (pos_mem h)

theorem At_one {l : List Nat} {c i : Nat} : StrLaws.At (S l) (S [c]) (S l).length i ↔ l[i]? = some c := StrLaws.subAt_one (S l) c i

theorem find_at {pre post : List Nat} {c : Nat} (h : c ∉ pre) : Txt.find (S (pre ++ c :: post)) (S [c]) = (pre.length : Int) := by
  unfold Txt.find
  rcases StrLaws.occ_head (S (pre ++ c :: post)) (S [c]) 1 (Nat.le_refl 1) with ⟨_, hn⟩ | ⟨i, r, e, ha, hn⟩
  · exact absurd (At_one.mpr (by simp)) (hn pre.length)
  · rw [e]
    show (i : Int) = _
    have hi : ¬ pre.length < i := fun q => hn _ q (At_one.mpr (by simp))
    have h1 := At_one.mp ha
    have h2 : ¬ i < pre.length := fun q => h (by rw [List.getElem?_append_left q] at h1; exact List.mem_of_getElem? h1)
    omega
theorem find_none {l : List Nat} {c : Nat} (h : c ∉ l) : Txt.find (S l) (S [c]) = -1 := by
  unfold Txt.find
  rcases StrLaws.occ_head (S l) (S [c]) 1 (Nat.le_refl 1) with ⟨e, _⟩ | ⟨i, r, e, ha, hn⟩
  · rw [e]
  · exact absurd (List.mem_of_getElem? (At_one.mp ha)) h
theorem from_nat {n i : Nat} (h : i ≤ n) : fromIndex n (i : Int) = i := by
  unfold fromIndex
  have : ¬ ((i : Int) < 0) := by omega
  rw [if_neg this]
  omega
theorem find3_at {a pre post : List Nat} {c : Nat} (h : c ∉ pre) : Txt.find3 (S (a ++ (pre ++ c :: post))) (S [c]) (a.length : Int) = ((a.length + pre.length : Nat) : Int) := by
  unfold Txt.find3
  rw [from_nat (by rw [S_length]; simp)]
  rcases StrLaws.occ_head_from (S (a ++ (pre ++ c :: post))) (S [c]) a.length 1 (Nat.le_refl 1) with ⟨_, hn⟩ | ⟨i, r, e, hlo, ha, hn⟩
  · exact absurd (At_one.mpr (by rw [List.getElem?_append_right (by omega)]; simp)) (hn (a.length + pre.length) (by omega))
  · rw [e]
    show (i : Int) = _
    have hi : ¬ a.length + pre.length < i := fun q => hn _ (by omega) q (At_one.mpr (by rw [List.getElem?_append_right (by omega)]; simp))
    have h1 := At_one.mp ha
    have h2 : ¬ i < a.length + pre.length := fun q => h (by
      rw [List.getElem?_append_right hlo, List.getElem?_append_left (by omega)] at h1
      exact List.mem_of_getElem? h1)
    omega
theorem find3_none {a l : List Nat} {c : Nat} (h : c ∉ l) : Txt.find3 (S (a ++ l)) (S [c]) (a.length : Int) = -1 := by
  unfold Txt.find3
  rw [from_nat (by rw [S_length]; simp)]
  rcases StrLaws.occ_head_from (S (a ++ l)) (S [c]) a.length 1 (Nat.le_refl 1) with ⟨e, _⟩ | ⟨i, r, e, hlo, ha, hn⟩
  · rw [e]
  · have h1 := At_one.mp ha
    rw [List.getElem?_append_right hlo] at h1
    exact absurd (List.mem_of_getElem? h1) h

/- the places found by a left to right look: P holds there, and it is free -/
noncomputable def occF (P : Nat → Bool) (w : Nat) : List Nat → Nat → List Nat
  | [], _ => []
  | i :: r, f => if f ≤ i ∧ P i = true then i :: occF P w r (i + w) else occF P w r f
theorem occ_run (x y : Str) (hi lim : Nat) : ∀ (l : List Nat) (st : Array Nat × Nat), st.1.size + l.length ≤ lim →
    (forIn (m := Id) l st (StrLaws.occBody x y hi lim)).run.fst.toList = st.1.toList ++ occF (fun i => decide (i + y.length ≤ hi) && Builtin.Str.subAt x y i) y.length l st.2
  | [], st, _ => by simp [occF]
  | i :: r, (acc, f), h => by
    rw [List.forIn_cons]
    unfold occF
    by_cases hc : f ≤ i ∧ (decide (i + y.length ≤ hi) && Builtin.Str.subAt x y i) = true
    · rw [if_pos hc]
      have hs : acc.size < lim := by simp at h; omega
      have hc2 := hc.2
      simp only [Bool.and_eq_true, decide_eq_true_eq] at hc2
      have e : StrLaws.occBody x y hi lim i (acc, f) = pure (ForInStep.yield (acc.push i, i + y.length)) := by
        unfold StrLaws.occBody
        rw [if_pos ⟨⟨⟨hs, hc.1⟩, hc2.1⟩, hc2.2⟩]
      rw [e]
      have := occ_run x y hi lim r (acc.push i, i + y.length) (by simp at h ⊢; omega)
      simp only [pure_bind]
      rw [this]
      simp
    · rw [if_neg hc]
      have e : StrLaws.occBody x y hi lim i (acc, f) = pure (ForInStep.yield (acc, f)) := by
        unfold StrLaws.occBody
        rw [if_neg]
        rintro ⟨⟨⟨_, h2⟩, h3⟩, h4⟩
        exact hc ⟨h2, by simp [h3, h4]⟩
      rw [e]
      simp only [pure_bind]
      exact occ_run x y hi lim r (acc, f) (by simp at h ⊢; omega)
theorem occ_is (x y : Str) : Builtin.Str.occurrences x y 0 x.length (x.length + 1) = occF (fun i => decide (i + y.length ≤ x.length) && Builtin.Str.subAt x y i) y.length (List.range' 0 (x.length + 1)) 0 := by
  rw [StrLaws.occ_eq, occ_run _ _ _ _ _ _ (by simp)]
  simp

theorem occF_pos {L : List Nat} {c : Nat} : ∀ (l p : List Nat) (f : Nat), L = p ++ l → f ≤ p.length →
    occF (fun i => decide (i + (S [c]).length ≤ (S L).length) && Builtin.Str.subAt (S L) (S [c]) i) 1 (List.range' p.length (l.length + 1)) f = pos c l p.length
  | [], p, f, e, hf => by
    have : (decide (p.length + (S [c]).length ≤ (S L).length)) = false := by rw [S_length, S_length, e]; simp
    simp [occF, pos, this]
  | a :: r, p, f, e, hf => by
    rw [List.length_cons, List.range'_succ]
    unfold occF pos
    have hat : (decide (p.length + (S [c]).length ≤ (S L).length) && Builtin.Str.subAt (S L) (S [c]) p.length) = decide (a = c) := by
      rw [Bool.eq_iff_iff, Bool.and_eq_true, decide_eq_true_eq, decide_eq_true_eq]
      rw [show (p.length + (S [c]).length ≤ (S L).length ∧ Builtin.Str.subAt (S L) (S [c]) p.length = true) ↔ _ from At_one (l := L) (c := c) (i := p.length)]
      rw [e]; simp
    have ih := occF_pos (L := L) (c := c) r (p ++ [a])
    rw [List.length_append, List.length_singleton] at ih
    by_cases hac : a = c
    · rw [if_pos ⟨hf, by rw [hat]; exact decide_eq_true hac⟩, if_pos hac, ih _ (by simp [e]) (by omega)]
    · rw [if_neg (fun q => hac (by have := q.2; rw [hat] at this; exact of_decide_eq_true this)), if_neg hac, ih _ (by simp [e]) (by omega)]
theorem occ_one (l : List Nat) (c : Nat) : Builtin.Str.occurrences (S l) (S [c]) 0 (S l).length ((S l).length + 1) = pos c l 0 := by
  rw [occ_is]
  have := occF_pos (L := l) (c := c) l [] 0 rfl (Nat.le_refl _)
  rw [List.length_nil] at this
  rw [S_length] at this ⊢
  rw [S_length, List.length_singleton]
  rw [S_length, List.length_singleton] at this
  exact this
/- a text cut at a sign -/
noncomputable def cut (c : Nat) : List Nat → List Nat → List (List Nat)
  | q, [] => [q]
  | q, a :: r => if a = c then q :: cut c [] r else cut c (q ++ [a]) r
theorem S_sub {p q r : List Nat} : Builtin.Str.strSub (S (p ++ (q ++ r))) p.length (p.length + q.length) = S q := by
  refine Str.ext' ?_
  show ((p ++ (q ++ r)).toArray).extract _ _ = q.toArray
  simp [List.extract]
theorem parts_cut {c : Nat} : ∀ (l p q L : List Nat), L = p ++ (q ++ l) → StrLaws.partsFrom (S L) 1 p.length (pos c l (p.length + q.length)) = (cut c q l).map S
  | [], p, q, L, e => by
    unfold pos cut StrLaws.partsFrom
    have := S_sub (p := p) (q := q) (r := [])
    rw [List.append_nil] at this e
    rw [e, S_length, List.length_append, this]; rfl
  | a :: r, p, q, L, e => by
    unfold pos cut
    by_cases h : a = c
    · rw [if_pos h, if_pos h]
      unfold StrLaws.partsFrom
      rw [List.map_cons]
      have h1 := parts_cut (c := c) r (p ++ (q ++ [a])) [] L (by rw [e]; simp)
      have e1 : (p ++ (q ++ [a])).length = p.length + q.length + 1 := by simp; omega
      rw [e1, List.length_nil, Nat.add_zero] at h1
      rw [h1, e, S_sub]
    · rw [if_neg h, if_neg h]
      have h1 := parts_cut (c := c) r p (q ++ [a]) L (by rw [e]; simp)
      rw [List.length_append, List.length_singleton, ← Nat.add_assoc] at h1
      exact h1
theorem kind_one {l : List Nat} (hl : ∀ a ∈ l, a < 256) : Builtin.Str.strKind (S l) = 1 := by
  unfold Builtin.Str.strKind
  rw [if_pos]
  simp only [S]
  rw [List.all_toArray, List.all_eq_true]
  intro a ha; simpa using hl a ha
theorem split_is {l : List Nat} {c : Nat} (hl : ∀ a ∈ l, a < 256) (hc : c < 256) (hn : c ∈ l) : Txt.split (S l) (S [c]) = (cut c [] l).map S := by
  unfold Txt.split
  have hlen : 1 ≤ l.length := List.length_pos_of_mem hn
  rw [if_neg, occ_one]
  · have hp : (pos c l 0).isEmpty = false := by
      have : ∀ (l : List Nat) k, c ∈ l → pos c l k ≠ [] := by
        intro l
        induction l with
        | nil => intro k h; cases h
        | cons a r ih =>
          intro k h
          unfold pos
          split
          · simp
          · rename_i hne
            exact ih _ (by rcases List.mem_cons.mp h with h | h; exact absurd h.symm hne; exact h)
      have := this l 0 hn
      cases h : pos c l 0 with
      | nil => exact absurd h this
      | cons => rfl
    rw [if_neg (by rw [hp]; exact Bool.false_ne_true), StrLaws.partsBetween_eq, S_length, List.length_singleton]
    have := parts_cut (c := c) l [] [] l rfl
    simpa using this
  · rw [kind_one hl, kind_one (l := [c]) (by simpa using hc), S_length, S_length]
    simp; exact fun e => by rw [e] at hlen; simp at hlen
theorem cut_at {c : Nat} {b post : List Nat} : ∀ {q : List Nat}, c ∉ b → cut c q (b ++ c :: post) = (q ++ b) :: cut c [] post := by
  induction b with
  | nil => intro q _; simp [cut]
  | cons a r ih =>
    intro q h
    have h1 : a ≠ c := fun e => h (e ▸ .head _)
    show cut c q (a :: (r ++ c :: post)) = _
    rw [cut, if_neg h1, ih fun e => h (.tail _ e), List.append_assoc]; rfl
theorem cut_end {c : Nat} {b : List Nat} : ∀ {q : List Nat}, c ∉ b → cut c q b = [q ++ b] := by
  induction b with
  | nil => intro q _; simp [cut]
  | cons a r ih =>
    intro q h
    have h1 : a ≠ c := fun e => h (e ▸ .head _)
    rw [cut, if_neg h1, ih fun e => h (.tail _ e)]; simp

--needs: 10
theorem md6 : True := trivial
theorem mul_ok {a b : Int} (ha : a.natAbs < 2 ^ 1000) (hb : b.natAbs < 2 ^ 1000) : IntMulOk a b :=
  IntMulOk.of_bits (Nat.le_trans (intBits_le ha) (by decide)) (Nat.le_trans (intBits_le hb) (by decide))
theorem t_plus {w : World} {mean : ExcName → Option Value} {mg mb : Str → Option Value} {a b : Int} {ta tb : Tok} {news : List (Addr × Obj)} :
    Does w mean mg mb 2 (.ref 96) [.int a ta, .int b tb] [] news (fun v tl => (∃ t, v = .int (a + b) t) ∧ tl = news) := by
  refine Does.intro ?_
  intro A₀ A env outer base h₀ L m s Q E ⟨B, F, X, N, T, hA, hf, hfk, hh⟩ hd hu hret
  k_extra "my enter"
  k_steps
  exact hret _ _ _ _ (by k_asm) (by k_asm) ⟨⟨_, rfl⟩, rfl⟩
theorem t_mul {w : World} {mean : ExcName → Option Value} {mg mb : Str → Option Value} {a b : Int} {ta tb : Tok} {news : List (Addr × Obj)} (hm : IntMulOk a b) :
    Does w mean mg mb 2 (.ref 110) [.int a ta, .int b tb] [] news (fun v tl => (∃ t, v = .int (a * b) t) ∧ tl = news) := by
  refine Does.intro ?_
  intro A₀ A env outer base h₀ L m s Q E ⟨B, F, X, N, T, hA, hf, hfk, hh⟩ hd hu hret
  k_extra "my enter"
  k_steps
  exact hret _ _ _ _ (by k_asm) (by k_asm) ⟨⟨_, rfl⟩, rfl⟩
theorem t_sub {w : World} {mean : ExcName → Option Value} {mg mb : Str → Option Value} {a b : Int} {ta tb : Tok} {news : List (Addr × Obj)} :
    Does w mean mg mb 2 (.ref 117) [.int a ta, .int b tb] [] news (fun v tl => (∃ t, v = .int (a - b) t) ∧ tl = news) := by
  refine Does.intro ?_
  intro A₀ A env outer base h₀ L m s Q E ⟨B, F, X, N, T, hA, hf, hfk, hh⟩ hd hu hret
  k_extra "my enter"
  k_steps
  exact hret _ _ _ _ (by k_asm) (by k_asm) ⟨⟨_, rfl⟩, rfl⟩
theorem t_mod {w : World} {mean : ExcName → Option Value} {mg mb : Str → Option Value} {a b : Int} {ta tb : Tok} {news : List (Addr × Obj)} (hb : b ≠ 0) :
    Does w mean mg mb 2 (.ref 103) [.int a ta, .int b tb] [] news (fun v tl => (∃ t, v = .int (Int.fmod a b) t) ∧ tl = news) := by
  refine Does.intro ?_
  intro A₀ A env outer base h₀ L m s Q E ⟨B, F, X, N, T, hA, hf, hfk, hh⟩ hd hu hret
  k_extra "my enter"
  k_steps
  exact hret _ _ _ _ (by k_asm) (by k_asm) ⟨⟨_, rfl⟩, rfl⟩

--needs: 10 11 20
theorem md7 : True := trivial
theorem item_text {w : World} {A : Around} {E : Value → Shared → Prop} {s : Shared} {value slice : Expr} {x : Str} {t u : Tok} {i : Int} {Q : Value → Shared → Prop} (h0 : 0 ≤ i) (h1 : i < (x.length : Int)) (hn : x.length ≤ 16777216)
    (h : ∀ t' c, Q (.str (Txt.item x i) t') { s with toks := c })
    (hs : subscripted slice false (.str x t) (.int i u) = operate [.str x t, .int i u] (getItem (.str x t) (.int i u)) := by with_unfolding_all rfl)
    (ht : ∀ r, letTemporaryGo value (.str x t) r = pure () := by intro _; with_unfolding_all rfl) :
    wpAny (model theProg w) A (subscriptTail value slice (.str x t) (.int i u)) Q E s :=
  item_str (fitsSsize_of (N := 9223372036854775808) (by omega) (by omega) (Int.le_refl _)) (by omega) (by omega) (fun _ => h _ _) hs ht
theorem md8 : True := trivial
/- what parse257 tells of the signs behind the opening mark -/
noncomputable def go257 : List Nat → List Nat
  | [] => []
  | [c] => if c = 34 then [] else [c]
  | c :: e :: r => if c = 34 then (if e = 34 then 34 :: go257 r else []) else c :: go257 (e :: r)
theorem go257_ne {c : Nat} {r : List Nat} (h : c ≠ 34) : go257 (c :: r) = c :: go257 r := by
  cases r <;> simp [go257, h]
theorem drop_cons {l : List Nat} {i : Nat} (h : i < l.length) : ∃ c r, l.drop i = c :: r ∧ l[i]? = some c ∧ l.drop (i + 1) = r := by
  refine ⟨l[i], l.drop (i + 1), List.drop_eq_getElem_cons h, by simp [h], rfl⟩
theorem q34 : Str.ofString "\"" = S [34] := rfl
section
theorem md9 : True := trivial
noncomputable def J257 (l : List Nat) (tx : Tok) (news : List (Addr × Obj)) (n : Nat) (m : Str → Option Value) (news₁ : List (Addr × Obj)) : Prop :=
  news₁ = news ∧ ∃ (i : Nat) (d : List Nat), HasI m "i" i ∧ HasS m "dirname" (S d) ∧ HasI m "n" ((S l).length : Nat) ∧ m "resp" = some (.str (S l) tx) ∧
    d ++ go257 (l.drop i) = go257 (l.drop 5) ∧ d.length ≤ i ∧ n = l.length - i
noncomputable section
noncomputable def Px22 (bb : Bd) (l : List Nat) (tx : Tok) (news : List (Addr × Obj)) : Prop :=
  l.length ≤ 10000 → Txt.slice (S l) none (some 3) = Str.ofString "257" → Txt.slice (S l) (some 3) (some 5) = Str.ofString " \"" →
  BodyP bb 1 89 (fun y => [(Str.ofString "resp", Value.str (S l) tx)].reverse.lookup y) news (fun v tl => (∃ t, v = .str (S (go257 (l.drop 5))) t) ∧ tl = news)
theorem ne22 : Nonempty (Bd × (List Nat) × Tok × (List (Addr × Obj))) := bd_ne.elim fun bb => ⟨(bb, [], 0, [])⟩
@[irreducible] noncomputable def D22 : Bd × (List Nat) × Tok × (List (Addr × Obj)) := @Classical.epsilon _ ne22 fun d => ¬ Px22 d.1 d.2.1 d.2.2.1 d.2.2.2
namespace V22
@[irreducible] noncomputable def bb : Bd := D22.1
@[irreducible] noncomputable def l : List Nat := D22.2.1
@[irreducible] noncomputable def tx : Tok := D22.2.2.1
@[irreducible] noncomputable def news : List (Addr × Obj) := D22.2.2.2
end V22
end
theorem ep22 (h : Px22 V22.bb V22.l V22.tx V22.news) (bb : Bd) (l : List Nat) (tx : Tok) (news : List (Addr × Obj)) : Px22 bb l tx news := eps_at (P := fun d : Bd × (List Nat) × Tok × (List (Addr × Obj)) => Px22 d.1 d.2.1 d.2.2.1 d.2.2.2) (ne := ne22) (by with_unfolding_all exact h) (bb, l, tx, news)
section
open V22
theorem w22 : Px22 bb l tx news := by
  intro hx h3 h5
  refine BodyP.start (by k_is) ?_
  intro St F N hPO hret hnx
  have X := St.X
  have T := St.T
  have hxl := S_length l
  k_with "my ite" => (wtm_at "?7-9"; (refine ite_neg (by first | (rw [h3]; decide) | (rw [h5]; decide)) ?_))
  k_steps
  refine ⟨?_⟩
  rename Fr _ _ _ _ => F2
  rename News _ _ _ _ => N2
  refine While_inv2 (J257 l tx news) F2 N2 ⟨rfl, 5, [], hasI_of rfl rfl, hasS_of rfl rfl, hasI_of rfl rfl, rfl, by simp, by simp, rfl⟩ ?_
  clear F2 N2
  rintro n m₁ news₁ h₁ tk₁ F₁ N₁ ⟨rfl, i, d, ⟨ti, q1⟩, ⟨td, q2⟩, ⟨tn, q3⟩, q4, hgo, hdl, hn⟩
  replace F₁ := fr_as (ps := [("i", _), ("dirname", _), ("n", _), ("resp", _)]) F₁ ⟨q1, q2, q3, q4, trivial⟩
  simp only [kstB] at F₁
  clear q1 q2 q3 q4
  by_cases hi : i < l.length
  · obtain ⟨c, r, h1, h2, h4⟩ := drop_cons hi
    have hc := S_item h2
    rw [h1] at hgo
    have hlen : r.length + i + 1 = l.length := by have := congrArg List.length h1; simp at this; omega
    by_cases c34 : c = 34
    · subst c34
      cases r with
      | nil =>
        k_with "my text" => (wtm_at "?7-9"; (rw [hc]))
        k_with "my ite" => (wtm_at "?7-9"; first | (refine ite_pos (by simp at hlen ⊢; omega) ?_) | (refine ite_pos (by decide) ?_))
        k_steps
        dsimp only [WhileStep2]
        k_steps
        refine hret _ _ _ _ _ (by k_asm) (by k_asm) ⟨⟨td, ?_⟩, rfl⟩
        have : go257 [34] = [] := rfl
        rw [← hgo, this, List.append_nil]
      | cons e r =>
        have h5' : l[i + 1]? = some e := by
          have : (l.drop (i + 1))[0]? = some e := by rw [h4]; rfl
          rw [List.getElem?_drop] at this; exact this
        have he := S_item h5'
        rw [show ((i + 1 : Nat) : Int) = (i : Int) + 1 by omega] at he
        simp only [List.length_cons] at hlen
        by_cases e34 : e = 34
        · subst e34
          k_with "my text" => (wtm_at "?7-9"; first | (rw [hc]) | (rw [he]))
          k_with "my ite" => (wtm_at "?7-9"; first | (refine ite_pos (by simp; omega) ?_) | (refine ite_neg (by simp; omega) ?_) | (refine ite_pos (by decide) ?_) | (refine ite_neg (by decide) ?_))
          k_steps
          refine ⟨_, _, _, _, l.length - (i + 2), rfl, (by k_asm), (by k_asm), by omega, rfl, i + 2, d ++ [34], hasI_of rfl (by omega), hasS_of rfl (S_app _ _), hasI_of rfl rfl, rfl, ?_, by simp; omega, rfl⟩
          rw [← hgo, ← List.drop_drop, h1, List.append_assoc]; rfl
        · k_with "my text" => (wtm_at "?7-9"; first | (rw [hc]) | (rw [he]))
          k_with "my ite" => (wtm_at "?7-9"; first | (refine ite_pos (by simp; omega) ?_) | (refine ite_neg (by simp; omega) ?_) | (refine ite_pos (by decide) ?_) | (refine ite_pos (by simp only [q34, bne, S_beq]; simpa using e34) ?_))
          k_steps
          dsimp only [WhileStep2]
          k_steps
          refine hret _ _ _ _ _ (by k_asm) (by k_asm) ⟨⟨td, ?_⟩, rfl⟩
          rw [← hgo]; simp [go257, e34]
    · k_with "my text" => (wtm_at "?7-9"; (rw [hc]))
      k_with "my ite" => (wtm_at "?7-9"; first | (refine ite_pos (by simp; omega) ?_) | (refine ite_neg (by rw [q34, S_beq]; simpa using c34) ?_))
      k_steps
      refine ⟨_, _, _, _, l.length - (i + 1), rfl, (by k_asm), (by k_asm), by omega, rfl, i + 1, d ++ [c], hasI_of rfl (by omega), hasS_of rfl (S_app _ _), hasI_of rfl rfl, rfl, ?_, by simp; omega, rfl⟩
      rw [← hgo, h4, go257_ne c34, List.append_assoc]; rfl
  · k_with "my ite" => (wtm_at "?7-9"; (refine ite_neg (by simp; omega) ?_))
    k_steps
    refine hret _ _ _ _ _ (by k_asm) (by k_asm) ⟨⟨td, ?_⟩, rfl⟩
    rw [← hgo, List.drop_eq_nil_of_le (by omega)]; simp [go257]
end
theorem t_parse257 {w : World} {mean : ExcName → Option Value} {mg mb : Str → Option Value} {l : List Nat} {tx : Tok} {news : List (Addr × Obj)} (hx : l.length ≤ 10000)
    (h3 : Txt.slice (S l) none (some 3) = Str.ofString "257") (h5 : Txt.slice (S l) (some 3) (some 5) = Str.ofString " \"") :
    Does w mean mg mb 2 (.ref 89) [.str (S l) tx] [] news (fun v tl => (∃ t, v = .str (S (go257 (l.drop 5))) t) ∧ tl = news) :=
  Does.of_body (by k_is) (by k_is) (fun s _ => BindsTo.of_eq rfl) (locs rfl) rfl rfl rfl (by decide) fun b _ _ _ _ => ep22 w22 b l tx news hx h3 h5
end

--needs: 10 11 20 22
theorem md10 : True := trivial
theorem split5 {w : World} {A : Around} {E : Value → Shared → Prop} {s : Shared} {h₀ : Heap} {L : Addr} {m : Str → Option Value} {news : List (Addr × Obj)} {x y a b c d e : Str} {t u : Tok} {Q : Value → Shared → Prop}
    (hF : Fr h₀ L s.heap m) (hN : News h₀ L s.heap news) (hs : Txt.split x y = [a, b, c, d, e]) (hy : (y.length == 0) = false) (hsz : x.length + 2 ≤ sizeLine)
    (h : ∀ D t1 t2 t3 t4 t5 h' k, Fr h₀ L h' m → News h₀ L h' ((D, listOf [.str a t1, .str b t2, .str c t3, .str d t4, .str e t5].toArray 0) :: news) → (∀ p ∈ news, p.1 < D) → Q (.ref D) { s with heap := h', toks := k }) :
    wpAny (model theProg w) A (call (.builtin "str.split") [.str x t, .str y u]) Q E s := by
  refine KSpl.split1 hF hN hy ?_ hsz
  intro D l h' k e' a' F' N' l1
  rw [hs] at e'
  obtain ⟨t1, l1', h1, e1⟩ := KSpl.cons_of e'
  obtain ⟨t2, l2', h2, e2⟩ := KSpl.cons_of e1
  obtain ⟨t3, l3', h3, e3⟩ := KSpl.cons_of e2
  obtain ⟨t4, l4', h4, e4⟩ := KSpl.cons_of e3
  obtain ⟨t5, l5', h5, e5⟩ := KSpl.cons_of e4
  have h6 := KSpl.nil_of e5
  subst h6 h5 h4 h3 h2 h1
  exact h _ _ _ _ _ _ _ _ F' N' l1
noncomputable abbrev tupOf (vs : List Value) : Obj := { cls := .type "tuple", data := .seq vs.toArray }
section
noncomputable section
theorem md11 : True := trivial
noncomputable def Px24 (bb : Bd) (l : List Nat) (tx : Tok) (pa : Addr) (ph : Value) (pm : Value) (pn : Nat) (rest : List (Addr × Obj)) (lf : Nat) (rt : Nat) (mk : Nat) (mid : List Nat) (ds : List Nat) (n : Int) : Prop :=
  l.length ≤ 10000 → Txt.slice (S l) none (some 3) = Str.ofString "229" → Txt.find (S l) (Str.ofString "(") = (lf : Int) → Txt.find3 (S l) (Str.ofString ")") ((lf : Int) + 1) = (rt : Int) → lf + 1 < rt ∧ rt ≤ l.length → Txt.item (S l) ((lf : Int) + 1) = S [mk] → Txt.item (S l) ((rt : Int) - 1) = S [mk] → Txt.slice (S l) (some ((lf : Int) + 1)) (some (rt : Int)) = S mid → mid.length ≤ 10000 → Txt.split (S mid) (S [mk]) = [S [], S [57], S [], S ds, S []] → PySem.intText? (S ds) = some n → (S ds).length ≤ 640 →
  BodyP bb (1) 82 (fun y => ([("resp", .str (S l) tx), ("peer", .ref pa)] : List (Str × Value)).reverse.lookup y) ((pa, listOf [ph, pm].toArray pn) :: rest)
    (fun v tl => ∃ a t, v = .ref a ∧ tl = (a, tupOf [ph, .int n t]) :: (pa, listOf [ph, pm].toArray pn) :: rest ∧ pa < a ∧ AllLt a rest)
theorem ne24 : Nonempty (Bd × (List Nat) × Tok × Addr × Value × Value × Nat × (List (Addr × Obj)) × Nat × Nat × Nat × (List Nat) × (List Nat) × Int) := bd_ne.elim fun bb => ⟨(bb, [], 0, 0, .none, .none, 0, [], 0, 0, 0, [], [], 0)⟩
@[irreducible] noncomputable def D24 : Bd × (List Nat) × Tok × Addr × Value × Value × Nat × (List (Addr × Obj)) × Nat × Nat × Nat × (List Nat) × (List Nat) × Int := @Classical.epsilon _ ne24 fun d => ¬ Px24 d.1 d.2.1 d.2.2.1 d.2.2.2.1 d.2.2.2.2.1 d.2.2.2.2.2.1 d.2.2.2.2.2.2.1 d.2.2.2.2.2.2.2.1 d.2.2.2.2.2.2.2.2.1 d.2.2.2.2.2.2.2.2.2.1 d.2.2.2.2.2.2.2.2.2.2.1 d.2.2.2.2.2.2.2.2.2.2.2.1 d.2.2.2.2.2.2.2.2.2.2.2.2.1 d.2.2.2.2.2.2.2.2.2.2.2.2.2
namespace V24
@[irreducible] noncomputable def bb : Bd := D24.1
@[irreducible] noncomputable def l : List Nat := D24.2.1
@[irreducible] noncomputable def tx : Tok := D24.2.2.1
@[irreducible] noncomputable def pa : Addr := D24.2.2.2.1
@[irreducible] noncomputable def ph : Value := D24.2.2.2.2.1
@[irreducible] noncomputable def pm : Value := D24.2.2.2.2.2.1
@[irreducible] noncomputable def pn : Nat := D24.2.2.2.2.2.2.1
@[irreducible] noncomputable def rest : List (Addr × Obj) := D24.2.2.2.2.2.2.2.1
@[irreducible] noncomputable def lf : Nat := D24.2.2.2.2.2.2.2.2.1
@[irreducible] noncomputable def rt : Nat := D24.2.2.2.2.2.2.2.2.2.1
@[irreducible] noncomputable def mk : Nat := D24.2.2.2.2.2.2.2.2.2.2.1
@[irreducible] noncomputable def mid : List Nat := D24.2.2.2.2.2.2.2.2.2.2.2.1
@[irreducible] noncomputable def ds : List Nat := D24.2.2.2.2.2.2.2.2.2.2.2.2.1
@[irreducible] noncomputable def n : Int := D24.2.2.2.2.2.2.2.2.2.2.2.2.2
end V24
end
theorem ep24 (h : Px24 V24.bb V24.l V24.tx V24.pa V24.ph V24.pm V24.pn V24.rest V24.lf V24.rt V24.mk V24.mid V24.ds V24.n) (bb : Bd) (l : List Nat) (tx : Tok) (pa : Addr) (ph : Value) (pm : Value) (pn : Nat) (rest : List (Addr × Obj)) (lf : Nat) (rt : Nat) (mk : Nat) (mid : List Nat) (ds : List Nat) (n : Int) : Px24 bb l tx pa ph pm pn rest lf rt mk mid ds n := eps_at (P := fun d : Bd × (List Nat) × Tok × Addr × Value × Value × Nat × (List (Addr × Obj)) × Nat × Nat × Nat × (List Nat) × (List Nat) × Int => Px24 d.1 d.2.1 d.2.2.1 d.2.2.2.1 d.2.2.2.2.1 d.2.2.2.2.2.1 d.2.2.2.2.2.2.1 d.2.2.2.2.2.2.2.1 d.2.2.2.2.2.2.2.2.1 d.2.2.2.2.2.2.2.2.2.1 d.2.2.2.2.2.2.2.2.2.2.1 d.2.2.2.2.2.2.2.2.2.2.2.1 d.2.2.2.2.2.2.2.2.2.2.2.2.1 d.2.2.2.2.2.2.2.2.2.2.2.2.2) (ne := ne24) (by with_unfolding_all exact h) (bb, l, tx, pa, ph, pm, pn, rest, lf, rt, mk, mid, ds, n)
section
open V24
theorem w24 : Px24 bb l tx pa ph pm pn rest lf rt mk mid ds n := by
  intro hx h3 hlf hrt hin hi1 hi2 hsl hml hsp hnum hds
  refine BodyP.start (by k_is) ?_
  intro St F N hPO hret hnx
  obtain ⟨B, X, T, hA, _, _, hh, hd, hu⟩ := id St
  have hxl := S_length l
  have hml2 := S_length mid
  k_with "my text" => (wtm_at "?10-11"; first | (rw [hlf]) | (rw [hrt]) | (rw [hi1]) | (rw [hi2]) | (rw [hsl]))
  k_with "my ite" => (wtm_at "?10-11"; first | (refine ite_neg (by rw [h3]; decide) ?_) | (refine ite_neg (by simp; omega) ?_) | (refine ite_neg (by simp) ?_))
  k_steps
  refine' hret _ _ _ _ _ (by k_asm) (News.sub (by k_asm) ?sub) ⟨_, _, rfl, rfl, ?lt⟩
  case sub => kcj_in
  case lt =>
    exact And.right (by assumption)
end
theorem t_parse229 {w : World} {mean : ExcName → Option Value} {mg mb : Str → Option Value} {l : List Nat} {tx : Tok} {pa : Addr} {ph pm : Value} {pn : Nat} {rest : List (Addr × Obj)} {lf rt mk : Nat} {mid ds : List Nat} {n : Int} (hx : l.length ≤ 10000)
    (h3 : Txt.slice (S l) none (some 3) = Str.ofString "229") (hlf : Txt.find (S l) (Str.ofString "(") = (lf : Int)) (hrt : Txt.find3 (S l) (Str.ofString ")") ((lf : Int) + 1) = (rt : Int))
    (hin : lf + 1 < rt ∧ rt ≤ l.length)
    (hi1 : Txt.item (S l) ((lf : Int) + 1) = S [mk]) (hi2 : Txt.item (S l) ((rt : Int) - 1) = S [mk]) (hsl : Txt.slice (S l) (some ((lf : Int) + 1)) (some (rt : Int)) = S mid) (hml : mid.length ≤ 10000)
    (hsp : Txt.split (S mid) (S [mk]) = [S [], S [57], S [], S ds, S []]) (hnum : PySem.intText? (S ds) = some n) (hds : (S ds).length ≤ 640) :
    Does w mean mg mb 2 (.ref 82) [.str (S l) tx, .ref pa] [] ((pa, listOf [ph, pm].toArray pn) :: rest) (fun v tl => ∃ a t, v = .ref a ∧ tl = (a, tupOf [ph, .int n t]) :: (pa, listOf [ph, pm].toArray pn) :: rest ∧ pa < a ∧ AllLt a rest) := by
  refine does_as (n := 1 + 1) (by omega) (Does.of_body (binds := [("resp", .str (S l) tx), ("peer", .ref pa)]) (by k_is) (by k_is) (fun s _ => BindsTo.of_eq rfl) (locs rfl) rfl rfl rfl (by decide) ?_)
  intro bb e1 e2 e3 e4
  subst e1 e2 e3 e4
  exact ep24 w24 bb l tx pa ph pm pn rest lf rt mk mid ds n hx h3 hlf hrt hin hi1 hi2 hsl hml hsp hnum hds
end

--needs: 10 20
theorem md12 : True := trivial
noncomputable def sw1 (c : Nat) : Nat := if Unicode.isUpper c then lo1 c else if Unicode.isLower c then up1 c else c
theorem lowerAt_ascii {s : Array Nat} {i c : Nat} (h : s[i]? = some c) (hc : c < 128) : Unicode.lowerAt s i = [lo1 c] := by
  unfold Unicode.lowerAt
  rw [h]
  have hne : (c == 0x3A3) = false := by rw [beq_eq_false_iff_ne]; omega
  simp only [hne, Bool.false_and, Bool.false_eq_true, if_false]
  exact lowerOf_ascii c hc
theorem lower_S {l : List Nat} (h : ∀ c ∈ l, c < 128) : Txt.lower (S l) = S (l.map lo1) := by
  rw [lower_ascii (x := S l) (by simpa [S] using h)]
  simp [S]
theorem swap_S {l : List Nat} (h : ∀ c ∈ l, c < 128) : Txt.swapcase (S l) = S (l.map sw1) := by
  have hA : ∀ c ∈ (S l).cps.toList, c < 128 := by simpa [S] using h
  unfold Txt.swapcase
  rw [placed_single (S l) _ sw1 fun i c hc => by
    have hc' : (S l).cps[i]? = some c := by simpa using hc
    have hlt := hA c (List.mem_of_getElem? hc)
    unfold sw1
    rw [lowerAt_ascii hc' hlt, upperOf_ascii c hlt]
    split
    · rfl
    · split <;> rfl]
  simp [S]
/- a name of the law's: k quote marks and the letter -/
noncomputable def nm (k c : Nat) : List Nat := List.replicate k 34 ++ [c]
theorem nm_length (k c : Nat) : (nm k c).length = k + 1 := by simp [nm]
theorem nm_inj {k j c d : Nat} (h : nm k c = nm j d) : k = j := by
  have := congrArg List.length h
  simp [nm] at this
  exact this
/- the letters of the law -/
noncomputable def Letter (c : Nat) : Prop := c = 122 ∨ c = 81 ∨ c = 107 ∨ c = 82
theorem nm_lt {k c : Nat} (hc : Letter c) : ∀ x ∈ nm k c, 32 ≤ x ∧ x < 127 := by
  intro x hx
  rcases List.mem_append.mp hx with h | h
  · have := List.eq_of_mem_replicate h; omega
  · have := List.mem_singleton.mp h; subst this; rcases hc with h | h | h | h <;> omega
theorem nm_ascii {k c : Nat} (hc : Letter c) : ∀ x ∈ nm k c, x < 128 := fun x hx => by have := nm_lt hc x hx; omega
theorem nm_map {k c : Nat} {f : Nat → Nat} (h : f 34 = 34) : (nm k c).map f = nm k (f c) := by
  simp [nm, List.map_append, List.map_replicate, h]
theorem sw_letter {c : Nat} (hc : Letter c) : lo1 (sw1 c) = lo1 c ∧ sw1 c < 128 ∧ 32 ≤ sw1 c := by
  rcases hc with rfl | rfl | rfl | rfl <;> decide +kernel

--needs: 10
theorem md13 : True := trivial
noncomputable def ForPost (h₀ : Heap) (L : Addr) (own : List (Addr × Obj)) (I : Addr) (J : (Str → Option Value) → List (Addr × Obj) → Prop) (s₁ : Shared) (Q : Flow → Shared → Prop) (f : Flow) (s₂ : Shared) : Prop :=
  match f with
  | .ret v => Q (.ret v) s₂
  | .brk => Q .next s₂
  | _ => ∃ h' tk m' news', s₂ = { s₁ with heap := h', toks := tk } ∧ Fr h₀ L h' m' ∧ News h₀ L h' (news' ++ own) ∧ (∀ p ∈ news', p.1 ≠ I) ∧ J m' news'
theorem ForPost.go {h₀ h' : Heap} {L : Addr} {own news' : List (Addr × Obj)} {I : Addr} {J : (Str → Option Value) → List (Addr × Obj) → Prop} {s₁ : Shared} {Q : Flow → Shared → Prop} {tk : Nat} {m' : Str → Option Value}
    (F : Fr h₀ L h' m') (N : News h₀ L h' (news' ++ own)) (hI : ∀ p ∈ news', p.1 ≠ I) (hJ : J m' news') : ForPost h₀ L own I J s₁ Q .next { s₁ with heap := h', toks := tk } := ⟨h', tk, m', news', rfl, F, N, hI, hJ⟩
theorem News.swap {h₀ h : Heap} {L : Addr} {a b : List (Addr × Obj)} (N : News h₀ L h (a ++ b)) : News h₀ L h (b ++ a) := fun p hp => N p (by
  rcases List.mem_append.mp hp with h | h
  · exact List.mem_append_right _ h
  · exact List.mem_append_left _ h)
section
variable {w : World} {A : Around} {E : Value → Shared → Prop} {s : Shared} {env : Env} {h₀ : Heap} {target : Expr} {body : List Stmt} {Q : Flow → Shared → Prop}
theorem for_turns {I : Addr} {fp : List Addr} {n : Nat} {P : Nat → Value → Prop} {St : Nat → Heap → Prop} {m : Str → Option Value} {news : List (Addr × Obj)} (W : Walks theProg w A I fp [I] n P St)
    (hLf : env.locals ∉ fp) (hI : h₀.get? I = none) (hnw : ∀ p ∈ news, p.1 ≠ I) (hst : St 0 s.heap) (F : Fr h₀ env.locals s.heap m) (N : News h₀ env.locals s.heap news)
    (hgo : ∀ i (s' : Shared) v (Q' : Unit → Shared → Prop), St i s'.heap → Q' () s' → wpAny (model theProg w) A (letOwnedTupleGo target (.ref I) v) Q' E s')
    (hE : PassesOwn (model theProg w) A env E)
    (J : Nat → (Str → Option Value) → List (Addr × Obj) → Prop) (h0 : J 0 m news)
    (step : ∀ i v m₁ news₁ h tk own, i < n → P i v → J i m₁ news₁ → (∀ p ∈ news₁, p.1 ≠ I) → (∀ p ∈ own, p.1 ∈ fp) → Fr h₀ env.locals h m₁ → News h₀ env.locals h (news₁ ++ own) → St (i + 1) h → (∀ o, h.get? I = some o → (I, o) ∈ own) →
      wpAny (model theProg w) A (assign target env v) (fun _ s₂ => wpAny (model theProg w) A (execs body env) (ForPost h₀ env.locals own I (J (i + 1)) { s with heap := h, toks := tk } Q) E s₂) E { s with heap := h, toks := tk })
    (done : ∀ m' news' h' tk, Fr h₀ env.locals h' m' → News h₀ env.locals h' news' → J n m' news' → Q .next { s with heap := h', toks := tk }) :
    codeAny (model theProg w) A (.forLoop target (.ref I) body [] env) (fun r s' => match r with | .ok f => Q f s' | .error e => cameBackBy (model theProg w) A env E e s') s := by
  have hLw : env.locals ≠ I := fun h => hLf (h ▸ W.sub _ (by simp))
  have old : ∀ b o, h₀.get? b = some o → b ∉ [I] := fun b o e hb => by rw [List.mem_singleton.mp hb, hI] at e; cases e
  refine codeAny_forLoop_any
    (fun k s' => ∃ h' tk m' news' i, s' = { s with heap := h', toks := tk } ∧ St i h' ∧ Fr h₀ env.locals h' m' ∧ News h₀ env.locals h' news' ∧ (∀ p ∈ news', p.1 ≠ I) ∧ J i m' news' ∧ i ≤ n ∧ k = n + 1 - i) ?_ (n + 1)
    ⟨s.heap, s.toks, m, news, 0, rfl, hst, F, N, hnw, h0, Nat.zero_le _, rfl⟩
  intro k s' q₀
  refine ex5 (q₀) fun h' tk m' news' i q₁ => ?_
  clear q₀
  refine an8 q₁ fun e0₀ hst' F' N' hnw' hJ hi e7₀ => ?_
  clear q₁
  subst e0₀
  subst e7₀
  have next : ∀ h₁ : Heap, (∀ b o, b ∉ [I] → h'.get? b = some o → h₁.get? b = some o) → Fr h₀ env.locals h₁ m' ∧ News h₀ env.locals h₁ news' := fun h₁ hk₁ =>
    ⟨⟨F'.ns.at' fun o e => hk₁ _ o (by simpa using hLw) e, fun b o e => hk₁ b o (old b o e) (F'.keep b o e), F'.above⟩, fun p hp => ⟨hk₁ _ _ (by simpa using hnw' p hp) (N' p hp).1, (N' p hp).2⟩⟩
  by_cases hlt : i < n
  · refine W.item i _ _ _ hlt hst' fun v h₁ tk₁ hP hst₁ hk₁ => ?_
    obtain ⟨F₁, N₁⟩ := next h₁ hk₁
    have Nown : News h₀ env.locals h₁ (ownOf h₀ fp h₁) := news_ownOf hLf
    refine wpAny_mono (hgo (i + 1) _ v _ hst₁ ?_) (fun _ _ x => x) hE
    refine wpAny_mono (step i v m' news' h₁ tk₁ (ownOf h₀ fp h₁) hlt hP hJ hnw' ownOf_sub F₁ (N₁.append Nown) hst₁ fun o e => mem_ownOf (W.sub _ (by simp)) hI e)
      (fun _ s₂ h₂ => wpAny_mono h₂ (fun f s₃ h₃ => ?_) hE) hE
    have fin : (∃ h'' tk m'' news'', s₃ = { { s with heap := h₁, toks := tk₁ } with heap := h'', toks := tk } ∧ Fr h₀ env.locals h'' m'' ∧ News h₀ env.locals h'' (news'' ++ ownOf h₀ fp h₁) ∧ (∀ p ∈ news'', p.1 ≠ I) ∧ J (i + 1) m'' news'') →
        ∃ k, k < n + 1 - i ∧ ∃ h' tk m' news' i, s₃ = { s with heap := h', toks := tk } ∧ St i h' ∧ Fr h₀ env.locals h' m' ∧ News h₀ env.locals h' news' ∧ (∀ p ∈ news', p.1 ≠ I) ∧ J i m' news' ∧ i ≤ n ∧ k = n + 1 - i := by
      intro q₀
      refine ex4 (q₀) fun h₃' tk₃ m₂ news₂ q₁ => ?_
      clear q₀
      refine an5 q₁ fun e0₀ F₃ N₃ ha₃ hJ₃ => ?_
      clear q₁
      subst e0₀
      refine ⟨n + 1 - (i + 1), by omega, h₃', tk₃, m₂, news₂, i + 1, rfl, ?_, F₃, fun p hp => N₃ p (List.mem_append_left _ hp), ha₃, hJ₃, hlt, rfl⟩
      refine W.frame _ _ _ hst₁ fun b hb o e => ?_
      cases hn : h₀.get? b with
      | some o₀ =>
        have : o₀ = o := by have := F₁.keep b o₀ hn; rw [e] at this; exact (Option.some.inj this).symm
        exact this ▸ F₃.keep b o₀ hn
      | none => exact (N₃ _ (List.mem_append_right _ (mem_ownOf hb hn e))).1
    cases f with
    | ret v => exact h₃
    | brk => exact h₃
    | next => exact fin h₃
    | cont => exact fin h₃
  · have hin : i = n := by omega
    subst hin
    refine W.done _ _ _ hst' fun h₁ tk₁ hk₁ => wpAny_execs_nil ?_
    obtain ⟨F₁, N₁⟩ := next h₁ hk₁
    exact done m' news' h₁ tk₁ F₁ N₁ hJ

/- a loop over a list of the ledger's that the loop leaves as it is; the iterator stands among the loop's own -/
theorem iter_list2 {l : Addr} {items : Array Value} {k : Nat} {m : Str → Option Value} {news : List (Addr × Obj)} (hh : A.handled = none)
    (hE : PassesOwn (model theProg w) A env E) (F : Fr h₀ env.locals s.heap m) (N : News h₀ env.locals s.heap news) (hl : (l, listOf items k) ∈ news)
    (J : Nat → (Str → Option Value) → List (Addr × Obj) → Prop) (h0 : J 0 m news)
    (step : ∀ i v m₁ news₁ h tk own I, items[i]? = some v → J i m₁ news₁ → (∀ p ∈ news₁, p.1 ≠ I) → AllLt I news → (∀ p ∈ own, p.1 = I ∨ p.1 = l) → (∃ o, (I, o) ∈ own ∧ o.cls = .type "list_iterator") → Fr h₀ env.locals h m₁ → News h₀ env.locals h (news₁ ++ own) →
      wpAny (model theProg w) A (assign target env v) (fun _ s₂ => wpAny (model theProg w) A (execs body env) (ForPost h₀ env.locals own I (J (i + 1)) { s with heap := h, toks := tk } Q) E s₂) E { s with heap := h, toks := tk })
    (done : ∀ m' news' h' tk, Fr h₀ env.locals h' m' → News h₀ env.locals h' news' → J items.size m' news' → Q .next { s with heap := h', toks := tk }) :
    wpAny (model theProg w) A (pyIter (.ref l)) (fun it s₂ => codeAny (model theProg w) A (.forLoop target it body [] env) (fun r s' => match r with | .ok f => Q f s' | .error e => cameBackBy (model theProg w) A env E e s') s₂) E s := by
  have hL : s.heap.IsList l items := News.isList N hl
  have hne : l ≠ s.heap.objs.size := Nat.ne_of_lt (Heap.lt_size (N _ hl).1)
  have lt : AllLt s.heap.objs.size news := allLt_of fun p hp => Heap.lt_size (N p hp).1
  refine wpAny_pyIter_list hL ?_
  have W := Walks.list (prog := theProg) (w := w) hh s.heap.objs.size l hne items
  refine for_turns W ?_ (next_is_new F) (fun p hp => Nat.ne_of_lt (Heap.lt_size (N p hp).1)) ⟨⟨_, Heap.get?_push_size _ rfl, rfl, rfl⟩, hL.at fun o e => Heap.get?_push_of_some _ e⟩ (F.push _) (fun p hp => ⟨Heap.get?_push_of_some _ (N p hp).1, (N p hp).2⟩) ?_ hE J h0 ?_ ?_
  · intro hm
    rcases List.mem_cons.mp hm with e | hm
    · exact absurd F.ns.lt (e ▸ Nat.lt_irrefl _)
    · exact (N _ hl).2.1 (List.mem_singleton.mp hm).symm
  · intro i s' v Q' hst hq
    unfold letOwnedTupleGo
    split
    · obtain ⟨o, ho, hc, hd⟩ := hst.1
      split
      · rename_i r a e1
        cases e1
        refine wpAny_bind (wpAny_load ho ?_)
        rw [hc, hd]
        simp only []
        rw [if_neg (fun h => absurd (Bool.and_eq_true_iff.mp h).1 (by decide))]
        exact wpAny_pure hq
      · exact wpAny_pure hq
    · obtain ⟨o, ho, hc, hd⟩ := hst.1
      split
      · rename_i r a e1
        cases e1
        refine wpAny_bind (wpAny_load ho ?_)
        rw [hc, hd]
        simp only []
        rw [if_neg (fun h => absurd (Bool.and_eq_true_iff.mp h).1 (by decide))]
        exact wpAny_pure hq
      · exact wpAny_pure hq
    · exact wpAny_pure hq
  · intro i v m₁ news₁ h tk own hi hP hJ hnI hown F₁ N₁ hst hmem
    obtain ⟨o, ho, hc, _⟩ := hst.1
    exact step i v m₁ news₁ h tk own _ hP hJ hnI lt (fun p hp => by simpa using hown p hp) ⟨o, hmem o ho, hc⟩ F₁ N₁
  · exact done

/- a loop over a list of the ledger's that the loop leaves as it is -/
theorem iter_list {l : Addr} {items : Array Value} {k : Nat} {m : Str → Option Value} {news : List (Addr × Obj)} (hh : A.handled = none)
    (hE : PassesOwn (model theProg w) A env E) (F : Fr h₀ env.locals s.heap m) (N : News h₀ env.locals s.heap news) (hl : (l, listOf items k) ∈ news)
    (J : Nat → (Str → Option Value) → List (Addr × Obj) → Prop) (h0 : J 0 m news)
    (step : ∀ i v m₁ news₁ h tk own I, items[i]? = some v → J i m₁ news₁ → (∀ p ∈ news₁, p.1 ≠ I) → AllLt I news → (∀ p ∈ own, p.1 = I ∨ p.1 = l) → Fr h₀ env.locals h m₁ → News h₀ env.locals h (news₁ ++ own) →
      wpAny (model theProg w) A (assign target env v) (fun _ s₂ => wpAny (model theProg w) A (execs body env) (ForPost h₀ env.locals own I (J (i + 1)) { s with heap := h, toks := tk } Q) E s₂) E { s with heap := h, toks := tk })
    (done : ∀ m' news' h' tk, Fr h₀ env.locals h' m' → News h₀ env.locals h' news' → J items.size m' news' → Q .next { s with heap := h', toks := tk }) :
    wpAny (model theProg w) A (pyIter (.ref l)) (fun it s₂ => codeAny (model theProg w) A (.forLoop target it body [] env) (fun r s' => match r with | .ok f => Q f s' | .error e => cameBackBy (model theProg w) A env E e s') s₂) E s := by
  exact iter_list2 hh hE F N hl J h0 (fun i v m₁ news₁ h tk own I h1 h2 h3 h4 h5 _ h6 h7 => step i v m₁ news₁ h tk own I h1 h2 h3 h4 h5 h6 h7) done

/- a loop over a range by ones -/
theorem iter_range {r : Addr} {a₀ b₀ : Int} {t₀ u₀ v₀ : Tok} {n : Nat} {m : Str → Option Value} {news : List (Addr × Obj)} {x : Str} {px : Pos} (hh : A.handled = none)
    (hE : PassesOwn (model theProg w) A env E) (hr : IsRange s.heap r a₀ b₀ 1 t₀ u₀ v₀) (hsmall : Builtin.Range.small a₀ b₀ 1 = true) (hn : Builtin.Range.rangeSize a₀ b₀ 1 = (n : Int)) (F : Fr h₀ env.locals s.heap m) (N : News h₀ env.locals s.heap news)
    (J : Nat → (Str → Option Value) → List (Addr × Obj) → Prop) (h0 : J 0 m news)
    (step : ∀ i t m₁ news₁ h tk own I, i < n → J i m₁ news₁ → (∀ p ∈ news₁, p.1 ≠ I) → AllLt I news → (∀ p ∈ own, p.1 = I) → Fr h₀ env.locals h m₁ → News h₀ env.locals h (news₁ ++ own) →
      wpAny (model theProg w) A (assign (.Name x px) env (.int (a₀ + (i : Int)) t)) (fun _ s₂ => wpAny (model theProg w) A (execs body env) (ForPost h₀ env.locals own I (J (i + 1)) { s with heap := h, toks := tk } Q) E s₂) E { s with heap := h, toks := tk })
    (done : ∀ m' news' h' tk, Fr h₀ env.locals h' m' → News h₀ env.locals h' news' → J n m' news' → Q .next { s with heap := h', toks := tk }) :
    wpAny (model theProg w) A (pyIter (.ref r)) (fun it s₂ => codeAny (model theProg w) A (.forLoop (.Name x px) it body [] env) (fun r s' => match r with | .ok f => Q f s' | .error e => cameBackBy (model theProg w) A env E e s') s₂) E s := by
  have lt : AllLt s.heap.objs.size news := allLt_of fun p hp => Heap.lt_size (N p hp).1
  refine wpAny_pyIter_range hr hsmall ?_
  have W := Walks.range (prog := theProg) (w := w) hh s.heap.objs.size a₀ 1 n
  refine for_turns W ?_ (next_is_new F) (fun p hp => Nat.ne_of_lt (Heap.lt_size (N p hp).1)) (by show IsRangeIter _ _ _ _ _; rw [hn]; simpa using Heap.get?_push_size _ rfl) (F.push _) (fun p hp => ⟨Heap.get?_push_of_some _ (N p hp).1, (N p hp).2⟩) ?_ hE J h0 ?_ ?_
  · intro hm
    exact absurd F.ns.lt ((List.mem_singleton.mp hm) ▸ Nat.lt_irrefl _)
  · intro i s' v Q' hst hq
    exact wpAny_pure hq
  · rintro i v m₁ news₁ h tk own hi ⟨t, rfl⟩ hJ hnI hown F₁ N₁ _ _
    rw [Int.mul_one]
    exact step i t m₁ news₁ h tk own _ hi hJ hnI lt (fun p hp => by simpa using hown p hp) F₁ N₁
  · exact done
end

--needs: 10
theorem md14 : True := trivial
theorem slot_re_search : Slot "re.Pattern" "search" "re.Pattern.search" :=
  .of (owner := "re.Pattern") (n := "search") (by rw [typeLookup_type, builtinLookup_eq_fast]; kernel_rfl) (by decide +kernel) (by decide +kernel) (by decide +kernel)
    (by first | exact .inl (by decide +kernel) | exact .inr (by decide +kernel)) (by rw [isSubtype_type]; kernel_rfl)
theorem type_re_search : typeOf (.builtin "re.Pattern.search") = pure (.type "method_descriptor") := by show builtinType _ = _; rw [builtinType_eq_fast]; kernel_rfl
theorem entry_re_search : entryFor table "re.Pattern.search" = some Builtin.«re.Pattern.search» := entryFor_of_tree (by kernel_rfl)
theorem plainAttrs_re : PlainAttrs "re.Pattern" :=
  ⟨⟨"object.__getattribute__", by rw [typeLookup_type, builtinLookup_eq_fast]; kernel_rfl, by decide +kernel⟩, by rw [typeLookup_type, builtinLookup_eq_fast]; kernel_rfl⟩
theorem args_re_search (a b : Value) : argsOk "re.Pattern.search" ⟨[a, b], []⟩ := by unfold argsOk; kernel_rfl

namespace Rx
open PySem.Sre (M inSet header forSearch)
noncomputable def codeN : Array Nat := #[14, 10, 4, 1, 1, 22, 0, 31, 16, 127, 0, 13, 7, 22, 0, 31, 16, 127, 0, 1]
noncomputable def codeV : Array Nat := #[14, 14, 4, 1, 1, 9, 4294966783, 0, 0, 2147483648, 0, 0, 0, 0, 0, 13, 11, 9, 4294966783, 0, 0, 2147483648, 0, 0, 0, 0, 0, 1]
noncomputable def Plain (text : Array Nat) : Prop := ∀ i, i < text.size → 32 ≤ text.getD i 0 ∧ text.getD i 0 < 127
theorem inN {c : Nat} (h : 32 ≤ c ∧ c < 127) (seen : Sre.Seen) : ∃ s', inSet codeN c 20 5 true seen = .ok (false, s') := by
  have h1 : (decide (0 ≤ c) && decide (c ≤ 31)) = false := by simp; omega
  have h2 : (c == 127) = false := by simp; omega
  show ∃ s', (if (decide (0 ≤ c) && decide (c ≤ 31)) = true then _ else _) = _
  rw [h1, if_neg Bool.false_ne_true]
  show ∃ s', (if (c == 127) = true then _ else _) = _
  rw [h2, if_neg Bool.false_ne_true]
  exact ⟨_, rfl⟩
theorem inV_bit : ∀ c, c < 127 → 32 ≤ c → (codeV.getD (5 + (1 + c / 32)) 0).testBit (c % 32) = false := by decide +kernel
theorem inV {c : Nat} (h : 32 ≤ c ∧ c < 127) (seen : Sre.Seen) : ∃ s', inSet codeV c 28 5 true seen = .ok (false, s') := by
  have h1 : (decide (c < 256) && (codeV.getD (5 + (1 + c / 32)) 0).testBit (c % 32)) = false := by rw [inV_bit c h.2 h.1, Bool.and_false]
  show ∃ s', (if (decide (c < 256) && (codeV.getD (5 + (1 + c / 32)) 0).testBit (c % 32)) = true then _ else _) = _
  rw [h1, if_neg Bool.false_ne_true]
  exact ⟨_, rfl⟩
theorem admitted_none {m : M} (hin : ∀ c seen, 32 ≤ c ∧ c < 127 → ∃ s', inSet m.code c m.code.size 5 true seen = .ok (false, s')) (ht : Plain m.text) (hl : m.lim = m.text.size) : ∀ fuel s seen, ∃ s', M.admitted m fuel s seen = .ok (none, s')
  | 0, s, seen => ⟨seen, rfl⟩
  | fuel + 1, s, seen => by
    by_cases h : s ≥ m.lim
    · exact ⟨seen, if_pos h⟩
    · show ∃ s', (if s ≥ m.lim then _ else _) = _
      rw [if_neg h]
      obtain ⟨s', e⟩ := hin (m.text.getD s 0) seen (ht s (by omega))
      rw [e]
      exact admitted_none hin ht hl fuel (s + 1) s'
theorem run_false {m : M} (h1 : m.answer = some false) (h2 : m.frames = []) (h3 : m.outcome = none) : (m.runFor 4).outcome = some .failed := by
  have hs : (m.step).outcome = some .failed := by
    unfold M.step
    rw [h3]
    simp only [Option.isSome_none, Bool.false_eq_true, if_false]
    rw [h1, h2]
    rfl
  have stay : ∀ n (m' : M), m'.outcome = some .failed → (m'.runFor n).outcome = some .failed := by
    intro n
    induction n with
    | zero => intro m' h; exact h
    | succ n ih => intro m' h; rw [M.runFor, h]; exact h
  rw [M.runFor, h3]
  exact stay 3 _ hs
theorem attempt_none {m : M} (hin : ∀ c seen, 32 ≤ c ∧ c < 127 → ∃ s', inSet m.code c m.code.size 5 true seen = .ok (false, s')) (ht : Plain m.text) (hl : m.lim = m.text.size) (h0 : m.code.getD 0 0 = 14) (h2 : m.code.getD 2 0 = 4)
    (hf : m.frames = []) (ho : m.outcome = none) : ((m.attemptFrom 0 true).runFor 4).outcome = some .failed := by
  unfold M.attemptFrom
  have hfs : m.hasFirstSet = true := by unfold M.hasFirstSet; rw [h0, h2]; rfl
  rw [if_neg (by rw [hfs]; decide)]
  obtain ⟨s', e⟩ := admitted_none hin ht hl (m.lim + 1 - 0) 0 m.seen
  rw [e]
  exact run_false rfl hf ho
theorem search_none {code text : Array Nat} (hin : ∀ c seen, 32 ≤ c ∧ c < 127 → ∃ s', inSet code c code.size 5 true seen = .ok (false, s')) (ht : Plain text)
    (h0 : code.getD 0 0 = 14) (h2 : code.getD 2 0 = 4) : ((forSearch code text 0 0 text.size false).runFor 4).outcome = some .failed := by
  unfold forSearch
  simp only []
  split
  · exact run_false rfl rfl rfl
  · exact attempt_none hin ht rfl h0 h2 rfl rfl
theorem drive {m : M} : ∀ {n : Nat}, 0 < n → ((m.runFor 4).outcome).isSome = true → Builtin.Re.reDrive n m = pure (m.runFor 4)
  | 0, h, _ => absurd h (by decide)
  | n + 1, _, h => by
    rw [Builtin.Re.reDrive]
    show (if ((m.runFor 4).outcome).isSome = true then _ else _) = _
    rw [if_pos h]; rfl
theorem rules_skip {M : Model} {A : Around} {E : Value → Shared → Prop} {s : Shared} {Q : PUnit → Shared → Prop} {p : Nat → Bool} {tag : Nat → String} : ∀ (l : List Nat), Q ⟨⟩ s → wpAny M A (forIn l PUnit.unit fun i _ => do
    if p i then rule (tag i)
    pure (ForInStep.yield PUnit.unit)) Q E s
  | [], h => wpAny_pure h
  | i :: r, h => by
    rw [List.forIn_cons]
    refine wpAny_bind ?_
    cases p i with
    | true =>
      simp only [if_true]
      exact wpAny_bind (wpAny_rule (wpAny_pure (rules_skip r h)))
    | false =>
      simp only [Bool.false_eq_true, if_false]
      exact wpAny_pure (rules_skip r h)
theorem to_end {M : Model} {A : Around} {E : Value → Shared → Prop} {s : Shared} {Q : Option Sre.M → Shared → Prop} {m : Sre.M} (hm : (m.runFor 4).outcome = some .failed) (h : Q none s) : wpAny M A (Builtin.Re.reRunToEnd m) Q E s := by
  unfold Builtin.Re.reRunToEnd
  refine wpAny_bind ?_
  rw [drive (by decide) (by rw [hm]; rfl)]
  refine wpAny_pure ?_
  refine wpAny_bind (rules_skip _ ?_)
  rw [hm]
  exact wpAny_pure h
theorem named (x : Value) : Builtin.Re.reNamed "re.Pattern.search" "search" ["string", "pos", "endpos"] 1 [x] [] = pure [some x, none, none] := by kernel_rfl
theorem target {M : Model} {A : Around} {E : Value → Shared → Prop} {s : Shared} {Q : Builtin.Re.ReTarget → Shared → Prop} {p c : Addr} {ps : Value} {fl : Tok} {its : List Value} {n : Nat} {x : Str} {t : Tok} {sl : Array (Option Value)}
    (hp : s.heap.get? p = some ⟨.type "re.Pattern", none, .fields #[ps, .int 32 fl, .int 0 0, .none, .none, .ref c, .int 0 0], sl⟩)
    (hc : s.heap.get? c = some ⟨.type "tuple", none, .seq its.toArray n, #[]⟩)
    (h : ∀ r : Builtin.Re.ReTarget, r.code = (its.toArray.map Builtin.Re.reRawOf).map (·.toNat) → r.text = x.cps → r.groups = 0 → r.pos = 0 → r.lim = min (2 ^ 63 - 1) x.cps.size → Q r s) :
    wpAny M A (Builtin.Re.reTarget "re.Pattern.search" "search" ⟨[.ref p, .str x t], []⟩) Q E s := by
  unfold Builtin.Re.reTarget
  simp only []
  rw [Rx.named]
  repeat wp_step
  exact h _ rfl rfl rfl rfl rfl
end Rx
/- a pattern's search that finds nothing -/
theorem re_search {w : World} {A : Around} {E : Value → Shared → Prop} {s : Shared} {Q : Value → Shared → Prop} {p c : Addr} {ps : Value} {fl : Tok} {its : List Value} {n : Nat} {x : Str} {t : Tok} {sl : Array (Option Value)}
    (hp : s.heap.get? p = some ⟨.type "re.Pattern", none, .fields #[ps, .int 32 fl, .int 0 0, .none, .none, .ref c, .int 0 0], sl⟩)
    (hc : s.heap.get? c = some ⟨.type "tuple", none, .seq its.toArray n, #[]⟩)
    (code : Array Nat) (he : (its.toArray.map Builtin.Re.reRawOf).map (·.toNat) = code) (hm : ((Sre.forSearch code x.cps 0 0 x.cps.size false).runFor 4).outcome = some .failed) (hx : x.cps.size < 2 ^ 62) (h : Q .none s) :
    wpAny (model theProg w) A (call (.builtin "re.Pattern.search") [.ref p, .str x t]) Q E s := by
  refine wpAny_call (codeAny_call_builtin slot_re_search.plain entry_re_search (slot_re_search.check _ _ _ _ _ _ _ _ ⟨_, hp, rfl⟩ (args_re_search _ _) ?_))
  unfold Builtin.«re.Pattern.search»
  refine wpAny_bind (Rx.target hp hc fun r e1 e2 e3 e4 e5 => ?_)
  unfold Builtin.Re.reAnswer
  refine wpAny_bind (Rx.to_end ?_ (wpAny_pure h))
  rw [e1, e2, e3, e4, e5, Nat.min_eq_right (by omega), he]
  exact hm
theorem re_method {w : World} {A : Around} {E : Value → Shared → Prop} {s : Shared} {Q : Value × List Value → Shared → Prop} {pl : Sem Bool} {p : Addr} {fs : Array Value} {sl : Array (Option Value)}
    (hp : s.heap.get? p = some ⟨.type "re.Pattern", none, .fields fs, sl⟩) (h : Q (.builtin "re.Pattern.search", [.ref p]) s) : wpAny (model theProg w) A (getMethod (.ref p) "search" pl) Q E s :=
  getMethod_builtin (T := "re.Pattern") ⟨_, hp, rfl⟩ plainAttrs_re slot_re_search type_re_search (fun a e => by cases e; exact ⟨_, hp, rfl⟩) h

--needs: 10 32
section
theorem md15 : True := trivial
theorem t_convert {w : World} {mean : ExcName → Option Value} {mg mb : Str → Option Value} {x : Str} {tx : Tok} {self : Value} {b : Bool} {news : List (Addr × Obj)} (hx : x.cps.size ≤ 10000) (hp : Rx.Plain x.cps) :
    Does w mean mg mb 2 (.ref 235) [self, .str x tx] [("name", .bool b)] news (fun v tl => v = .str x tx ∧ tl = news) := by
  intro A₀ A env outer base h₀ L m s Q E ⟨B, F, X, N, T, hA, hf, hk, hh⟩ hd hu hret
  cases b <;> (k_extra "my enter"; k_steps; exact hret _ _ _ _ (by k_asm) (by k_asm) ⟨rfl, rfl⟩)
end

--needs: 10 11
theorem md16 : True := trivial
/- a call's contract, at the level of the code -/
noncomputable def DoesC (w : World) (mean : ExcName → Option Value) (mg mb : Str → Option Value) (n : Nat) (f : Value) (vs : List Value) (kw : List (Str × Value)) (news : List (Addr × Obj)) (Post : Value → List (Addr × Obj) → Prop) : Prop :=
  ∀ (A₀ A : Around) (env : Env) (outer : List Env) (base h₀ : Heap) (L : Addr) (m : Str → Option Value) (s : Shared) (R : Result → Shared → Prop),
    Here w mean mg mb A₀ A env outer base h₀ s.heap L m news → A.depth + n < 900 → A.units + 8 * n < 9000 →
    (∀ v tl h' tk', Fr h₀ L h' m → News h₀ L h' tl → Post v tl → R (.ok (.ret v)) { s with heap := h', toks := tk' }) →
    codeAny (model theProg w) A (.call f ⟨vs, kw⟩) R s
theorem DoesC.intro {w : World} {mean : ExcName → Option Value} {mg mb : Str → Option Value} {n : Nat} {f : Value} {vs : List Value} {kw : List (Str × Value)} {news : List (Addr × Obj)} {Post : Value → List (Addr × Obj) → Prop}
    (h : ∀ (A₀ A : Around) (env : Env) (outer : List Env) (base h₀ : Heap) (L : Addr) (m : Str → Option Value) (s : Shared) (R : Result → Shared → Prop),
      Here w mean mg mb A₀ (calm A) env outer base h₀ s.heap L m news → (calm A).depth + n < 900 → (calm A).units + 8 * n < 9000 →
      (∀ v tl h' tk', Fr h₀ L h' m → News h₀ L h' tl → Post v tl → R (.ok (.ret v)) { s with heap := h', toks := tk' }) →
      codeAny (model theProg w) (calm A) (.call f ⟨vs, kw⟩) R s) : DoesC w mean mg mb n f vs kw news Post := by
  intro A₀ A env outer base h₀ L m s R H hd hu hret
  have e := calm_of H.hh
  have := h A₀ A env outer base h₀ L m s R (e.symm ▸ H) (e.symm ▸ hd) (e.symm ▸ hu) hret
  exact e ▸ this
theorem DoesC.use {w : World} {mean : ExcName → Option Value} {mg mb : Str → Option Value} {n : Nat} {f : Value} {vs : List Value} {kw : List (Str × Value)} {news : List (Addr × Obj)} {Post : Value → List (Addr × Obj) → Prop}
    {A₀ A : Around} {env : Env} {outer : List Env} {base h₀ : Heap} {L : Addr} {m : Str → Option Value} {s : Shared} {R : Result → Shared → Prop}
    (D : DoesC w mean mg mb n f vs kw news Post) (B : Below A₀ base outer h₀) (F : Fr h₀ L s.heap m) (X : (Mine.x.heap_1_39 w.params).In h₀) (N : News h₀ L s.heap news) (T : Top Mine.x.view_1_40 theLoose mean mg mb h₀)
    (fr : A.frames = some (env :: outer)) (fl : env.frame = some L) (fk : env.scope.kind = .function) (hh : A.handled = none) (hd : A.depth + n < 900) (hu : A.units + 8 * n < 9000)
    (h : ∀ v tl h' tk', Fr h₀ L h' m → News h₀ L h' tl → Post v tl → R (.ok (.ret v)) { s with heap := h', toks := tk' }) : codeAny (model theProg w) A (.call f ⟨vs, kw⟩) R s :=
  D _ _ _ _ _ _ _ _ _ _ ⟨B, F, X, N, T, fr, fl, fk, hh⟩ hd hu h
theorem does_asC {w : World} {mean : ExcName → Option Value} {mg mb : Str → Option Value} {n n' : Nat} {f : Value} {vs : List Value} {kw : List (Str × Value)} {news : List (Addr × Obj)} {Post : Value → List (Addr × Obj) → Prop} (e : n = n') (D : DoesC w mean mg mb n f vs kw news Post) : DoesC w mean mg mb n' f vs kw news Post := e ▸ D
theorem DoesC.of_body {w : World} {mean : ExcName → Option Value} {mg mb : Str → Option Value} {n : Nat} {f : Addr} {vs : List Value} {kw : List (Str × Value)} {news : List (Addr × Obj)} {Post : Value → List (Addr × Obj) → Prop}
    {name qual : Str} {params : Arguments} {body : List Stmt} {scope : Scope} {dV kV doc pm cdv ct oc : Value} {an od : Option Addr} {osl : Array (Option Value)} {binds : List (Str × Value)}
    (ho : (Mine.x.heap_1_39 w.params).lookup f = some ⟨oc, od, .func (fnOf name qual params body scope dV kV doc pm an cdv ct), osl⟩) (hcd : codeIn (Mine.x.heap_1_39 w.params) cdv qual = true)
    (hbind : ∀ s : Shared, (Mine.x.heap_1_39 w.params).In s.heap → BindsTo s (fnOf name qual params body scope dV kV doc pm an cdv ct) ⟨vs, kw⟩ binds) (hloc : ∀ y ∈ binds, scope.names.lookup y.1 = some .local)
    (hco : scope.isCoroutine = false) (hgen : scope.isGenerator = false) (hk : scope.kind = .function) (hcell : ∀ x ∈ scope.names, x.2 ≠ .cell)
    (h : ∀ b : Bd, bw b = w → bMean b = mean → bMg b = mg → bMb b = mb → BodyP b n f (fun y => binds.reverse.lookup y) news Post) : DoesC w mean mg mb (n + 1) (.ref f) vs kw news Post := by
  refine DoesC.intro ?_
  intro A₀ A env outer base h₀ L m s R ⟨B, F, X, N, T, hA, hfr, hfk, hh⟩ hd hu hret
  refine code_def B F X N T hA hfr hfk ho hcd (by simp only [recursionLimit]; omega) (hbind _ (X.keeps F.keep)) hloc ?_ hco hgen hk hcell
  intro g L' h₁ FG F' N' B' X' T'
  have hb := h (w, mean, mg, mb, calm A, (calm A).deeper (envOf qual scope L' f cdv), base, env :: outer, g, L', s.gens, s.drawn, s.os,
    (fun fl s' => LeaveK h₀ L m g R (match fl with | .ret v => v | _ => .none) s'),
    (fun e s' => wpAny (model theProg w) ((calm A).deeper (envOf qual scope L' f cdv)) (leaving (envOf qual scope L' f cdv) e) (fun _ s'' => R (.error e) s'') (fun e' s'' => R (.error e') s'') s'), h₁, s.toks + binds.length)
  replace hb := (hb (by with_unfolding_all rfl) (by with_unfolding_all rfl) (by with_unfolding_all rfl) (by with_unfolding_all rfl)).out (by with_unfolding_all exact codeAt_of ho)
  with_unfolding_all refine hb ⟨B', X', T', frames_in hA, rfl, hk, rfl, by show (calm A).depth + 1 + n < 900; omega, by show (calm A).units + 3 + 8 * n < 9000; omega⟩ F' N' PassesOwn.leaving ?_ ?_
  · intro v tl h' k' m' F₂ N₂ hp
    with_unfolding_all show LeaveK h₀ L m g R v ⟨h', s.gens, s.drawn, k', s.os⟩
    with_unfolding_all exact leaveK_ F₂ N₂ fun F₃ N₃ => hret _ _ _ _ F₃ N₃ hp
  · intro tl h' k' m' F₂ N₂ hp
    with_unfolding_all show LeaveK h₀ L m g R .none ⟨h', s.gens, s.drawn, k', s.os⟩
    with_unfolding_all exact leaveK_ F₂ N₂ fun F₃ N₃ => hret _ _ _ _ F₃ N₃ hp

--needs: 10 11 24 30 32 34 35
theorem md17 : True := trivial
noncomputable abbrev hdict (w : World) (tok : Tok) (gl : Addr) : Obj := dictOf [{ hash := PyData.keyHash w.params (Str.ofString "_headers"), key := Value.str (Str.ofString "_headers") tok, val := Value.ref gl }] 1
section
noncomputable section
theorem md18 : True := trivial
noncomputable def Px36 (bb : Bd) (b : Addr) (bd : Addr) (gl : Addr) (t0 : Addr) (t1 : Addr) (k : Str) (v0 : Str) (v1 : Str) (tk0 : Tok) (tk1 : Tok) (tv0 : Tok) (tv1 : Tok) (n : Nat) (rest : List (Addr × Obj)) : Prop :=
  k.cps.size ≤ 10000 → v0.cps.size ≤ 10000 → v1.cps.size ≤ 10000 → Rx.Plain k.cps → Rx.Plain v0.cps → Rx.Plain v1.cps → @LT.lt Nat _ bd b → @LT.lt Nat _ gl bd → @LT.lt Nat _ t0 bd → @LT.lt Nat _ t1 bd → AllLt bd rest →
  BodyP bb (3) 228 (fun y => ([("self", .ref b), ("headers", .ref gl)] : List (Str × Value)).reverse.lookup y) ((b, instObj 334 bd) :: (bd, dictOf [] 0) :: (gl, listOf [.ref t0, .ref t1].toArray n) :: (t0, tupOf [.str k tk0, .str v0 tv0]) :: (t1, tupOf [.str k tk1, .str v1 tv1]) :: rest)
    (fun v tl => v = .none ∧ ∃ tok, tl = ((b, instObj 334 bd) :: (bd, hdict (bw bb) tok gl) :: (gl, listOf [.ref t0, .ref t1].toArray n) :: (t0, tupOf [.str k tk0, .str v0 tv0]) :: (t1, tupOf [.str k tk1, .str v1 tv1]) :: rest))
theorem ne36 : Nonempty (Bd × Addr × Addr × Addr × Addr × Addr × Str × Str × Str × Tok × Tok × Tok × Tok × Nat × (List (Addr × Obj))) := bd_ne.elim fun bb => ⟨(bb, 0, 0, 0, 0, 0, ⟨#[]⟩, ⟨#[]⟩, ⟨#[]⟩, 0, 0, 0, 0, 0, [])⟩
@[irreducible] noncomputable def D36 : Bd × Addr × Addr × Addr × Addr × Addr × Str × Str × Str × Tok × Tok × Tok × Tok × Nat × (List (Addr × Obj)) := @Classical.epsilon _ ne36 fun d => ¬ Px36 d.1 d.2.1 d.2.2.1 d.2.2.2.1 d.2.2.2.2.1 d.2.2.2.2.2.1 d.2.2.2.2.2.2.1 d.2.2.2.2.2.2.2.1 d.2.2.2.2.2.2.2.2.1 d.2.2.2.2.2.2.2.2.2.1 d.2.2.2.2.2.2.2.2.2.2.1 d.2.2.2.2.2.2.2.2.2.2.2.1 d.2.2.2.2.2.2.2.2.2.2.2.2.1 d.2.2.2.2.2.2.2.2.2.2.2.2.2.1 d.2.2.2.2.2.2.2.2.2.2.2.2.2.2
namespace V36
@[irreducible] noncomputable def bb : Bd := D36.1
@[irreducible] noncomputable def b : Addr := D36.2.1
@[irreducible] noncomputable def bd : Addr := D36.2.2.1
@[irreducible] noncomputable def gl : Addr := D36.2.2.2.1
@[irreducible] noncomputable def t0 : Addr := D36.2.2.2.2.1
@[irreducible] noncomputable def t1 : Addr := D36.2.2.2.2.2.1
@[irreducible] noncomputable def k : Str := D36.2.2.2.2.2.2.1
@[irreducible] noncomputable def v0 : Str := D36.2.2.2.2.2.2.2.1
@[irreducible] noncomputable def v1 : Str := D36.2.2.2.2.2.2.2.2.1
@[irreducible] noncomputable def tk0 : Tok := D36.2.2.2.2.2.2.2.2.2.1
@[irreducible] noncomputable def tk1 : Tok := D36.2.2.2.2.2.2.2.2.2.2.1
@[irreducible] noncomputable def tv0 : Tok := D36.2.2.2.2.2.2.2.2.2.2.2.1
@[irreducible] noncomputable def tv1 : Tok := D36.2.2.2.2.2.2.2.2.2.2.2.2.1
@[irreducible] noncomputable def n : Nat := D36.2.2.2.2.2.2.2.2.2.2.2.2.2.1
@[irreducible] noncomputable def rest : List (Addr × Obj) := D36.2.2.2.2.2.2.2.2.2.2.2.2.2.2
end V36
end
theorem ep36 (h : Px36 V36.bb V36.b V36.bd V36.gl V36.t0 V36.t1 V36.k V36.v0 V36.v1 V36.tk0 V36.tk1 V36.tv0 V36.tv1 V36.n V36.rest) (bb : Bd) (b : Addr) (bd : Addr) (gl : Addr) (t0 : Addr) (t1 : Addr) (k : Str) (v0 : Str) (v1 : Str) (tk0 : Tok) (tk1 : Tok) (tv0 : Tok) (tv1 : Tok) (n : Nat) (rest : List (Addr × Obj)) : Px36 bb b bd gl t0 t1 k v0 v1 tk0 tk1 tv0 tv1 n rest := eps_at (P := fun d : Bd × Addr × Addr × Addr × Addr × Addr × Str × Str × Str × Tok × Tok × Tok × Tok × Nat × (List (Addr × Obj)) => Px36 d.1 d.2.1 d.2.2.1 d.2.2.2.1 d.2.2.2.2.1 d.2.2.2.2.2.1 d.2.2.2.2.2.2.1 d.2.2.2.2.2.2.2.1 d.2.2.2.2.2.2.2.2.1 d.2.2.2.2.2.2.2.2.2.1 d.2.2.2.2.2.2.2.2.2.2.1 d.2.2.2.2.2.2.2.2.2.2.2.1 d.2.2.2.2.2.2.2.2.2.2.2.2.1 d.2.2.2.2.2.2.2.2.2.2.2.2.2.1 d.2.2.2.2.2.2.2.2.2.2.2.2.2.2) (ne := ne36) (by with_unfolding_all exact h) (bb, b, bd, gl, t0, t1, k, v0, v1, tk0, tk1, tv0, tv1, n, rest)
section
open V36
theorem w36 : Px36 bb b bd gl t0 t1 k v0 v1 tk0 tk1 tv0 tv1 n rest := by
  intro hk h0 h1 pk p0 p1 d1 d2 d3 d4 dr
  refine BodyP.start (by k_is) ?_
  intro St F N hPO hret hnx
  obtain ⟨B, X, T, hA, _, _, hh, hd, hu⟩ := id St
  k_steps
  refine ⟨?_⟩
  rename Fr _ _ _ _ => FC
  rename News _ _ _ _ => NC
  refine iter_list (items := [.ref t0, .ref t1].toArray) (k := n) rfl (by passes_own) FC NC (by kcj_m) (fun _ m' nw => ∃ tok, nw = ((b, instObj 334 bd) :: (bd, hdict (bw bb) tok gl) :: (gl, listOf [.ref t0, .ref t1].toArray n) :: (t0, tupOf [.str k tk0, .str v0 tv0]) :: (t1, tupOf [.str k tk1, .str v1 tv1]) :: rest) ∧ Has m' [("self", .ref b)]) ⟨_, rfl, rfl, trivial⟩ ?_ ?_
  · rintro i v m₁ news₁ h₁ tk₁ own I hi ⟨tok, rfl, q1, -⟩ hnI hlt hown F₁ N₁
    have hi' : v = .ref t0 ∨ v = .ref t1 := by
      match i, hi with
      | 0, hi => exact .inl (Option.some.inj hi).symm
      | 1, hi => exact .inr (Option.some.inj hi).symm
    clear FC NC
    dsimp only [envOf] at F₁ N₁
    replace F₁ := fr_as (ps := [("self", _)]) F₁ ⟨q1, trivial⟩
    simp only [kstB] at F₁
    rcases hi' with rfl | rfl
    · k_steps
      exact ForPost.go (by k_asm) (by k_asm) hnI ⟨_, rfl, rfl, trivial⟩
    · k_steps
      exact ForPost.go (by k_asm) (by k_asm) hnI ⟨_, rfl, rfl, trivial⟩
  · rintro m₁ news₁ h₁ tk₁ F₁ N₁ ⟨tok, rfl, q1, -⟩
    dsimp only [envOf] at F₁ N₁
    k_steps
    exact hnx _ _ _ _ (by k_asm) (by k_asm) ⟨rfl, _, rfl⟩
end
theorem t_init {w : World} {mean : ExcName → Option Value} {mg mb : Str → Option Value} {b bd gl t0 t1 : Addr} {k v0 v1 : Str} {tk0 tk1 tv0 tv1 : Tok} {n : Nat} {rest : List (Addr × Obj)} (hk : k.cps.size ≤ 10000) (h0 : v0.cps.size ≤ 10000) (h1 : v1.cps.size ≤ 10000) (pk : Rx.Plain k.cps) (p0 : Rx.Plain v0.cps) (p1 : Rx.Plain v1.cps)
  (d1 : @LT.lt Nat _ bd b) (d2 : @LT.lt Nat _ gl bd) (d3 : @LT.lt Nat _ t0 bd) (d4 : @LT.lt Nat _ t1 bd) (dr : AllLt bd rest) :
    DoesC w mean mg mb 4 (.ref 228) [.ref b, .ref gl] [] ((b, instObj 334 bd) :: (bd, dictOf [] 0) :: (gl, listOf [.ref t0, .ref t1].toArray n) :: (t0, tupOf [.str k tk0, .str v0 tv0]) :: (t1, tupOf [.str k tk1, .str v1 tv1]) :: rest)
      (fun v tl => v = .none ∧ ∃ tok, tl = ((b, instObj 334 bd) :: (bd, hdict w tok gl) :: (gl, listOf [.ref t0, .ref t1].toArray n) :: (t0, tupOf [.str k tk0, .str v0 tv0]) :: (t1, tupOf [.str k tk1, .str v1 tv1]) :: rest)) := by
  refine does_asC (n := 3 + 1) (by omega) (DoesC.of_body (binds := [("self", .ref b), ("headers", .ref gl)]) (by k_is) (by k_is) (fun s X => by first | exact BindsTo.of_eq rfl | exact binds_K X rfl (by k_is) rfl rfl rfl) (locs rfl) rfl rfl rfl (by decide) ?_)
  intro bb e1 e2 e3 e4
  subst e1 e2 e3 e4
  exact ep36 w36 bb b bd gl t0 t1 k v0 v1 tk0 tk1 tv0 tv1 n rest hk h0 h1 pk p0 p1 d1 d2 d3 d4 dr
end

--needs: 10 20 24 26 30 32 34 36
theorem md19 : True := trivial
/- one entry of a book -/
structure Ent where
  a : Addr
  n : List Nat
  tn : Tok
  v : List Nat
  tv : Tok
noncomputable abbrev Ent.obj (e : Ent) : Addr × Obj := (e.a, tupOf [.str (S e.n) e.tn, .str (S e.v) e.tv])
noncomputable abbrev refs (es : List Ent) : List Value := es.map fun e => .ref e.a
/- a book's objects -/
noncomputable abbrev book (w : World) (tok : Tok) (b bd gl : Addr) (es : List Ent) (n : Nat) (rest : List (Addr × Obj)) : List (Addr × Obj) :=
  (b, instObj 334 bd) :: (bd, hdict w tok gl) :: (gl, listOf (refs es).toArray n) :: (es.map Ent.obj ++ rest)
/- the names and values that a book holds -/
structure Fine (es : List Ent) : Prop where
  n : ∀ e ∈ es, ∀ c ∈ e.n, 32 ≤ c ∧ c < 127
  v : ∀ e ∈ es, ∀ c ∈ e.v, 32 ≤ c ∧ c < 127
  nl : ∀ e ∈ es, e.n.length ≤ 9000
  vl : ∀ e ∈ es, e.v.length ≤ 9000
  len : es.length ≤ 5000
theorem ent_mem {es : List Ent} {i : Nat} {e : Ent} (h : es[i]? = some e) : e ∈ es := List.mem_of_getElem? h
theorem refs_at {es : List Ent} {i : Nat} {v : Value} (h : (refs es).toArray[i]? = some v) : ∃ e, es[i]? = some e ∧ v = .ref e.a := by
  simp only [refs, List.getElem?_toArray, List.getElem?_map, Option.map_eq_some_iff] at h
  obtain ⟨e, h1, h2⟩ := h
  exact ⟨e, h1, h2.symm⟩
theorem obj_mem {w : World} {tok : Tok} {b bd gl : Addr} {es : List Ent} {n : Nat} {rest : List (Addr × Obj)} {e : Ent} (h : e ∈ es) : e.obj ∈ book w tok b bd gl es n rest :=
  .tail _ (.tail _ (.tail _ (List.mem_append_left _ (List.mem_map_of_mem h))))
theorem News.also {h₀ h : Heap} {L : Addr} {news : List (Addr × Obj)} {p : Addr × Obj} (N : News h₀ L h news) (hp : p ∈ news) : News h₀ L h (p :: news) := fun q hq => by
  rcases List.mem_cons.mp hq with rfl | h
  · exact N _ hp
  · exact N q h
theorem plain_S {l : List Nat} (h : ∀ c ∈ l, 32 ≤ c ∧ c < 127) : Rx.Plain (S l).cps := by
  intro i hi
  have hl : i < l.length := by simpa [S] using hi
  have : (S l).cps.getD i 0 = l[i] := by simp [S, Array.getD, hl]
  rw [this]
  exact h _ (List.getElem_mem hl)
theorem plain_map {l : List Nat} {f : Nat → Nat} (hf : ∀ c, 32 ≤ c → c < 127 → 32 ≤ f c ∧ f c < 127) (h : ∀ c ∈ l, 32 ≤ c ∧ c < 127) : ∀ c ∈ l.map f, 32 ≤ c ∧ c < 127 := by
  intro c hc
  obtain ⟨d, hd, rfl⟩ := List.mem_map.mp hc
  exact hf d (h d hd).1 (h d hd).2
theorem lo1_plain : ∀ c, 32 ≤ c → c < 127 → 32 ≤ lo1 c ∧ lo1 c < 127 := by
  intro c h1 h2
  unfold lo1
  split <;> omega
theorem size_S (l : List Nat) : (S l).cps.size = l.length := by simp [S]

--needs: 10 11 20 24 26 30 32 34 36 37
theorem md20 : True := trivial
/- the first value under a lowered name -/
noncomputable def got (es : List Ent) (ln : List Nat) : Value := match es.find? (fun e => e.n.map lo1 == ln) with | some e => .str (S e.v) e.tv | none => .none
theorem find_first {α : Type} {l : List α} {p : α → Bool} {i : Nat} {e : α} (he : l[i]? = some e) (hp : p e = true) (hno : ∀ j e', j < i → l[j]? = some e' → p e' = false) : l.find? p = some e := by
  induction l generalizing i with
  | nil => simp at he
  | cons x r ih =>
    cases i with
    | zero =>
      simp at he
      subst he
      simp [hp]
    | succ i =>
      have h0 := hno 0 x (Nat.succ_pos _) rfl
      rw [List.find?_cons_of_neg (by simp [h0])]
      exact ih (by simpa using he) fun j e' hj h => hno (j + 1) e' (by omega) (by simpa using h)
section
noncomputable section
theorem md21 : True := trivial
noncomputable def Px38 (bb : Bd) (tok : Tok) (tx : Tok) (b : Addr) (bd : Addr) (gl : Addr) (es : List Ent) (k : Nat) (rest : List (Addr × Obj)) (xs : List Nat) (ln : List Nat) : Prop :=
  Fine es → (∀ c ∈ xs, 32 ≤ c ∧ c < 127) → xs.length ≤ 9000 → xs.map lo1 = ln →
  BodyP bb (3) 281 (fun y => ([("self", .ref b), ("name", .str (S xs) tx), ("default", .none)] : List (Str × Value)).reverse.lookup y) (book (bw bb) tok b bd gl es k rest)
    (fun v tl => v = got es ln ∧ tl = book (bw bb) tok b bd gl es k rest)
theorem ne38 : Nonempty (Bd × Tok × Tok × Addr × Addr × Addr × (List Ent) × Nat × (List (Addr × Obj)) × (List Nat) × (List Nat)) := bd_ne.elim fun bb => ⟨(bb, 0, 0, 0, 0, 0, [], 0, [], [], [])⟩
@[irreducible] noncomputable def D38 : Bd × Tok × Tok × Addr × Addr × Addr × (List Ent) × Nat × (List (Addr × Obj)) × (List Nat) × (List Nat) := @Classical.epsilon _ ne38 fun d => ¬ Px38 d.1 d.2.1 d.2.2.1 d.2.2.2.1 d.2.2.2.2.1 d.2.2.2.2.2.1 d.2.2.2.2.2.2.1 d.2.2.2.2.2.2.2.1 d.2.2.2.2.2.2.2.2.1 d.2.2.2.2.2.2.2.2.2.1 d.2.2.2.2.2.2.2.2.2.2
namespace V38
@[irreducible] noncomputable def bb : Bd := D38.1
@[irreducible] noncomputable def tok : Tok := D38.2.1
@[irreducible] noncomputable def tx : Tok := D38.2.2.1
@[irreducible] noncomputable def b : Addr := D38.2.2.2.1
@[irreducible] noncomputable def bd : Addr := D38.2.2.2.2.1
@[irreducible] noncomputable def gl : Addr := D38.2.2.2.2.2.1
@[irreducible] noncomputable def es : List Ent := D38.2.2.2.2.2.2.1
@[irreducible] noncomputable def k : Nat := D38.2.2.2.2.2.2.2.1
@[irreducible] noncomputable def rest : List (Addr × Obj) := D38.2.2.2.2.2.2.2.2.1
@[irreducible] noncomputable def xs : List Nat := D38.2.2.2.2.2.2.2.2.2.1
@[irreducible] noncomputable def ln : List Nat := D38.2.2.2.2.2.2.2.2.2.2
end V38
end
theorem ep38 (h : Px38 V38.bb V38.tok V38.tx V38.b V38.bd V38.gl V38.es V38.k V38.rest V38.xs V38.ln) (bb : Bd) (tok : Tok) (tx : Tok) (b : Addr) (bd : Addr) (gl : Addr) (es : List Ent) (k : Nat) (rest : List (Addr × Obj)) (xs : List Nat) (ln : List Nat) : Px38 bb tok tx b bd gl es k rest xs ln := eps_at (P := fun d : Bd × Tok × Tok × Addr × Addr × Addr × (List Ent) × Nat × (List (Addr × Obj)) × (List Nat) × (List Nat) => Px38 d.1 d.2.1 d.2.2.1 d.2.2.2.1 d.2.2.2.2.1 d.2.2.2.2.2.1 d.2.2.2.2.2.2.1 d.2.2.2.2.2.2.2.1 d.2.2.2.2.2.2.2.2.1 d.2.2.2.2.2.2.2.2.2.1 d.2.2.2.2.2.2.2.2.2.2) (ne := ne38) (by with_unfolding_all exact h) (bb, tok, tx, b, bd, gl, es, k, rest, xs, ln)
section
open V38
theorem w38 : Px38 bb tok tx b bd gl es k rest xs ln := by
  intro hf hx hxl hln
  refine BodyP.start (by k_is) ?_
  intro St F N hPO hret hnx
  obtain ⟨B, X, T, hA, _, _, hh, hd, hu⟩ := id St
  have hlow : Txt.lower (S xs) = S ln := by rw [lower_S fun c hc => by have := hx c hc; omega, hln]
  have p1 : Rx.Plain (S ln).cps := plain_S (by rw [← hln]; exact plain_map lo1_plain hx)
  have p2 : (S ln).cps.size ≤ 10000 := by rw [size_S, ← hln, List.length_map]; omega
  k_with "my text" => (wtm_at "?20-21"; (rw [hlow]))
  k_steps
  refine ⟨?_⟩
  rename Fr _ _ _ _ => FC
  rename News _ _ _ _ => NC
  refine iter_list (items := (refs es).toArray) (k := k) rfl (by passes_own) FC NC (by kcj_m) (fun i m' nw => nw = book (bw bb) tok b bd gl es k rest ∧ (∃ tn, m' "name" = some (.str (S ln) tn)) ∧ m' "default" = some .none ∧ ∀ j e, j < i → es[j]? = some e → (e.n.map lo1 == ln) = false) ⟨rfl, ⟨_, rfl⟩, rfl, fun j _ hj => absurd hj (Nat.not_lt_zero _)⟩ ?_ ?_
  · clear FC NC
    rintro i v m₁ news₁ h₁ tk₁ own I hi ⟨rfl, ⟨tn, q1⟩, q2, hno⟩ hnI hlt hown F₁ N₁
    obtain ⟨e, he, rfl⟩ := refs_at hi
    have hem := ent_mem he
    have N₂ := News.also N₁ (List.mem_append_left own (obj_mem (w := bw bb) (tok := tok) (b := b) (bd := bd) (gl := gl) (n := k) (rest := rest) hem))
    clear N₁
    have hle : Txt.lower (S e.n) = S (e.n.map lo1) := lower_S fun c hc => by have := hf.n e hem c hc; omega
    have hel := hf.nl e hem
    dsimp only [envOf] at F₁ N₂
    replace F₁ := fr_as (ps := [("name", _), ("default", _)]) F₁ ⟨q1, q2, trivial⟩
    simp only [kstB] at F₁
    cases hc : (e.n.map lo1 == ln) with
    | true =>
      k_with "my text" => (wtm_at "?20-21"; (rw [hle]))
      k_with "my ite" => (wtm_at "?20-21"; (refine ite_pos (by rw [S_beq]; exact hc) ?_))
      k_steps
      dsimp only [ForPost]
      k_steps
      refine hret _ _ _ _ _ (by k_asm) (News.sub (by k_asm) fun p hp => .tail _ (List.mem_append_left _ hp)) ⟨?_, rfl⟩
      simp only [got, find_first he hc hno]
    | false =>
      k_with "my text" => (wtm_at "?20-21"; (rw [hle]))
      k_with "my ite" => (wtm_at "?20-21"; (refine ite_neg (by rw [S_beq, hc]; decide) ?_))
      k_steps
      refine ForPost.go (by k_asm) (News.sub (by k_asm) fun p hp => .tail _ hp) hnI ⟨rfl, ⟨_, rfl⟩, rfl, ?_⟩
      intro j e' hj he'
      rcases Nat.lt_succ_iff_lt_or_eq.mp hj with h | rfl
      · exact hno j e' h he'
      · rw [he] at he'
        cases he'
        exact hc
  · rintro m₁ news₁ h₁ tk₁ F₁ N₁ ⟨rfl, ⟨tn, q1⟩, q2, hno⟩
    clear FC NC
    dsimp only [envOf] at F₁ N₁
    replace F₁ := fr_as (ps := [("name", _), ("default", _)]) F₁ ⟨q1, q2, trivial⟩
    simp only [kstB] at F₁
    k_steps
    refine hret _ _ _ _ _ (by k_asm) (by k_asm) ⟨?_, rfl⟩
    have : es.find? (fun e => e.n.map lo1 == ln) = none := by
      rw [List.find?_eq_none]
      intro e he
      obtain ⟨j, hj⟩ := List.getElem?_of_mem he
      have hjl : j < es.length := (List.getElem?_eq_some_iff.mp hj).1
      simp [hno j e (by simpa [refs] using hjl) hj]
    simp only [got, this]
end
theorem t_get {w : World} {mean : ExcName → Option Value} {mg mb : Str → Option Value} {tok tx : Tok} {b bd gl : Addr} {es : List Ent} {k : Nat} {rest : List (Addr × Obj)} {xs ln : List Nat} (hf : Fine es)
    (hx : ∀ c ∈ xs, 32 ≤ c ∧ c < 127) (hxl : xs.length ≤ 9000) (hln : xs.map lo1 = ln) :
    Does w mean mg mb 4 (.ref 281) [.ref b, .str (S xs) tx] [] (book w tok b bd gl es k rest) (fun v tl => v = got es ln ∧ tl = book w tok b bd gl es k rest) := by
  refine does_as (n := 3 + 1) (by omega) (Does.of_body (binds := [("self", .ref b), ("name", .str (S xs) tx), ("default", .none)]) (by k_is) (by k_is) (fun s X => by first | exact BindsTo.of_eq rfl | exact binds_K X rfl (by k_is) rfl rfl rfl) (locs rfl) rfl rfl rfl (by decide) ?_)
  intro bb e1 e2 e3 e4
  subst e1 e2 e3 e4
  exact ep38 w38 bb tok tx b bd gl es k rest xs ln hf hx hxl hln
end

--needs: 10 20 24 26 30 32 34 36 37 38
section
theorem md22 : True := trivial
theorem t_has {w : World} {mean : ExcName → Option Value} {mg mb : Str → Option Value} {tok tx : Tok} {b bd gl : Addr} {es : List Ent} {k : Nat} {rest : List (Addr × Obj)} {xs ln : List Nat} (hf : Fine es)
    (hx : ∀ c ∈ xs, 32 ≤ c ∧ c < 127) (hxl : xs.length ≤ 9000) (hln : xs.map lo1 = ln) :
    Does w mean mg mb 6 (.ref 268) [.ref b, .str (S xs) tx] [] (book w tok b bd gl es k rest) (fun v tl => v = .bool (es.find? (fun e => e.n.map lo1 == ln)).isSome ∧ tl = book w tok b bd gl es k rest) := by
  refine Does.intro ?_
  intro A₀ A env outer base h₀ L m s Q E ⟨B, F, X, N, T, hA, hfr, hfk, hh⟩ hd hu hret
  cases hfd : es.find? (fun e => e.n.map lo1 == ln) with
  | none =>
    have hg : got es ln = .none := by simp only [got, hfd]
    rw [hfd] at hret
    k_extra "my enter"
    k_steps
    rw [hg]
    k_steps
    exact hret _ _ _ _ (by k_asm) (by k_asm) ⟨rfl, rfl⟩
  | some e =>
    have hg : got es ln = .str (S e.v) e.tv := by simp only [got, hfd]
    rw [hfd] at hret
    k_extra "my enter"
    k_steps
    rw [hg]
    k_steps
    exact hret _ _ _ _ (by k_asm) (by k_asm) ⟨rfl, rfl⟩
section
theorem md23 : True := trivial
theorem t_contains {w : World} {mean : ExcName → Option Value} {mg mb : Str → Option Value} {tok tx : Tok} {b bd gl : Addr} {es : List Ent} {k : Nat} {rest : List (Addr × Obj)} {xs ln : List Nat} (hf : Fine es)
    (hx : ∀ c ∈ xs, 32 ≤ c ∧ c < 127) (hxl : xs.length ≤ 9000) (hln : xs.map lo1 = ln) :
    Does w mean mg mb 8 (.ref 124) [.ref b, .str (S xs) tx] [] (book w tok b bd gl es k rest) (fun v tl => v = .bool (es.find? (fun e => e.n.map lo1 == ln)).isSome ∧ tl = book w tok b bd gl es k rest) := by
  refine Does.intro ?_
  intro A₀ A env outer base h₀ L m s Q E ⟨B, F, X, N, T, hA, hfr, hfk, hh⟩ hd hu hret
  k_extra "my enter"
  k_steps
  exact hret _ _ _ _ (by k_asm) (by k_asm) ⟨rfl, rfl⟩
end
end

--needs: 10 30
section
variable {w : World} {A : Around} {s : Shared} {h₀ : Heap} {L : Addr} {m : Str → Option Value} {env : Env} {ct elt : Expr} {x : Str} {scope : Scope} {cl : List (Str × Addr)} {S : List (Addr × Obj) → Prop} {P : Nat → Value → Prop} {Fin : List Value → List (Addr × Obj) → Prop} {news : List (Addr × Obj)}
theorem md24 : True := trivial
open LCg LCt in
/- the turns of a comprehension with a test, over a ledger that stays -/
theorem rest_T {n : Nat} (ysOf : Nat → List Value → Prop) (hfin : ∀ ys, ysOf n ys → Fin ys news)
    (step : ∀ i k ys, i < n → ysOf i ys → (∀ ys', ysOf (i + 1) ys' → CompRestT theProg w A h₀ L m env ct elt x scope cl s S P Fin k (i + 1) ys' news) → CompRestT theProg w A h₀ L m env ct elt x scope cl s S P Fin (k + 1) i ys news) :
    ∀ k i ys, i + k = n → ysOf i ys → CompRestT theProg w A h₀ L m env ct elt x scope cl s S P Fin k i ys news
  | 0, i, ys, h, hy => LCt.CompRestT.zero (hfin ys (by rw [Nat.add_zero] at h; exact h ▸ hy))
  | k + 1, i, ys, h, hy => step i k ys (by omega) hy fun ys' hy' => rest_T ysOf hfin step k (i + 1) ys' (by omega) hy'
open LCg in
/- the same without a test -/
theorem rest_U {n : Nat} (ysOf : Nat → List Value → Prop) (hfin : ∀ ys, ysOf n ys → Fin ys news)
    (step : ∀ i k ys, i < n → ysOf i ys → (∀ ys', ysOf (i + 1) ys' → CompRest theProg w A h₀ L m env elt x scope cl s S P Fin k (i + 1) ys' news) → CompRest theProg w A h₀ L m env elt x scope cl s S P Fin (k + 1) i ys news) :
    ∀ k i ys, i + k = n → ysOf i ys → CompRest theProg w A h₀ L m env elt x scope cl s S P Fin k i ys news
  | 0, i, ys, h, hy => hfin ys (by rw [Nat.add_zero] at h; exact h ▸ hy)
  | k + 1, i, ys, h, hy => step i k ys (by omega) hy fun ys' hy' => rest_U ysOf hfin step k (i + 1) ys' (by omega) hy'
end

--needs: 10 24 30
section
variable {w : World} {A : Around} {E : Value → Shared → Prop} {s : Shared} {h₀ : Heap} {L : Addr} {m : Str → Option Value} {env : Env}
theorem md25 : True := trivial
noncomputable def PairEnd (h₀ : Heap) (L : Addr) (m : Str → Option Value) (s : Shared) (h : Heap) (R : Prop) (s₄ : Shared) : Prop :=
  ∃ h' tk', s₄ = { s with heap := h', toks := tk' } ∧ Fr h₀ L h' m ∧ (∀ b o, h.get? b = some o → h'.get? b = some o) ∧ R
theorem PairEnd.intro {h h' : Heap} {tk : Nat} {R : Prop} (F : Fr h₀ L h' m) (k : ∀ b o, h.get? b = some o → h'.get? b = some o) (r : R) : PairEnd h₀ L m s h R { s with heap := h', toks := tk } := ⟨h', tk, rfl, F, k, r⟩
/- the turns of a comprehension over pairs, with a test, over a ledger that stays -/
noncomputable def PairRest (w : World) (A : Around) (h₀ : Heap) (L : Addr) (m : Str → Option Value) (env : Env) (c elt : Expr) (a b : Str) (scope : Scope) (cl : List (Str × Addr)) (s : Shared) (Q : Value → Shared → Prop) (news : List (Addr × Obj)) : List Value → List Value → Prop
  | [], ys => ∀ D h tk, Fr h₀ L h m → News h₀ L h ((D, LCg.lst ys) :: news) → (∀ p ∈ news, p.1 ≠ D) → Q (.ref D) { s with heap := h, toks := tk }
  | v :: r, ys => ∃ t x y, v = .ref t ∧ (t, tupOf [x, y]) ∈ news ∧ ∀ oC C D m₂ h tk (E' : Value → Shared → Prop), LCg.NsObj oC m₂ → m₂ a = some x → m₂ b = some y → Fr h₀ L h m → News h₀ L h ((C, oC) :: (D, LCg.lst ys) :: news) →
      wpAny (model theProg w) A (isTrue c (compEnvC scope cl C env) (eval c (compEnvC scope cl C env))) (fun ok s₃ => if ok = true then
        wpAny (model theProg w) A (eval elt (compEnvC scope cl C env)) (fun z => PairEnd h₀ L m s h (PairRest w A h₀ L m env c elt a b scope cl s Q news r (ys ++ [z]))) E' s₃
        else PairEnd h₀ L m s h (PairRest w A h₀ L m env c elt a b scope cl s Q news r ys) s₃) E' { s with heap := h, toks := tk }
theorem PairRest.cons {c elt : Expr} {a b : Str} {scope : Scope} {cl : List (Str × Addr)} {Q : Value → Shared → Prop} {news : List (Addr × Obj)} {t : Addr} {x y : Value} {r ys : List Value} (hm : (t, tupOf [x, y]) ∈ news)
    (h : ∀ oC C D m₂ h tk (E' : Value → Shared → Prop), LCg.NsObj oC m₂ → m₂ a = some x → m₂ b = some y → Fr h₀ L h m → News h₀ L h ((C, oC) :: (D, LCg.lst ys) :: news) →
      wpAny (model theProg w) A (isTrue c (compEnvC scope cl C env) (eval c (compEnvC scope cl C env))) (fun ok s₃ => if ok = true then
        wpAny (model theProg w) A (eval elt (compEnvC scope cl C env)) (fun z => PairEnd h₀ L m s h (PairRest w A h₀ L m env c elt a b scope cl s Q news r (ys ++ [z]))) E' s₃
        else PairEnd h₀ L m s h (PairRest w A h₀ L m env c elt a b scope cl s Q news r ys) s₃) E' { s with heap := h, toks := tk }) :
    PairRest w A h₀ L m env c elt a b scope cl s Q news (.ref t :: r) ys := ⟨t, x, y, rfl, hm, h⟩
theorem PairRest.nil {c elt : Expr} {a b : Str} {scope : Scope} {cl : List (Str × Addr)} {Q : Value → Shared → Prop} {news : List (Addr × Obj)} {ys : List Value}
    (h : ∀ D h tk, Fr h₀ L h m → News h₀ L h ((D, LCg.lst ys) :: news) → (∀ p ∈ news, p.1 ≠ D) → Q (.ref D) { s with heap := h, toks := tk }) : PairRest w A h₀ L m env c elt a b scope cl s Q news [] ys := h
noncomputable def PairSrc (w : World) (A : Around) (h₀ : Heap) (L : Addr) (m : Str → Option Value) (env : Env) (c elt : Expr) (a b : Str) (scope : Scope) (cl : List (Str × Addr)) (Q : Value → Shared → Prop) (xv : Value) (s₁ : Shared) : Prop :=
  ∃ ax its n news, xv = .ref ax ∧ Fr h₀ L s₁.heap m ∧ News h₀ L s₁.heap news ∧ (ax, listOf its n) ∈ news ∧ its.size ≤ sizeLine ∧ PairRest w A h₀ L m env c elt a b scope cl s₁ Q news its.toList []
theorem PairSrc.intro {c elt : Expr} {a b : Str} {scope : Scope} {cl : List (Str × Addr)} {Q : Value → Shared → Prop} {s₁ : Shared} {ax : Addr} {its : List Value} {n : Nat} {news : List (Addr × Obj)} (F : Fr h₀ L s₁.heap m) (N : News h₀ L s₁.heap news) (hm : (ax, listOf its.toArray n) ∈ news) (hsz : its.length ≤ 1000)
    (R : PairRest w A h₀ L m env c elt a b scope cl s₁ Q news its []) : PairSrc w A h₀ L m env c elt a b scope cl Q (.ref ax) s₁ :=
  ⟨ax, its.toArray, n, news, rfl, F, N, hm, by rw [sizeLine_eq]; simp; omega, R⟩
open LCg in
theorem pair_comp {elt iter c : Expr} {a b : Str} {pa pb tp : Pos} {kk : Nat} {scope : Scope} {cl : List (Str × Addr)} {pos : Pos} {Q : Value → Shared → Prop} (_F : Fr h₀ L s.heap m) (hh : A.handled = none)
    (hclos : closureFor scope env = pure cl) (hcell : ∀ y ∈ scope.names, y.2 ≠ .cell) (hkind : scope.kind = .function)
    (hnames : ∀ y ∈ scope.names, y.2 = .local → scope.names.lookup y.1 = some .local) (hxa : scope.names.lookup a = some .local) (hxb : scope.names.lookup b = some .local) (hab : ¬ a = b)
    (h : wpAny (model theProg w) A (eval iter env) (PairSrc w A h₀ L m env c elt a b scope cl Q) E s)
    (hs : ∀ x, foldedSetIterable iter env x = pure x := by intro _; rfl) :
    wpAny (model theProg w) A (eval (.ListComp elt [⟨.Tuple [.Name a pa, .Name b pb] kk tp, iter, [c], 0⟩] scope pos) env) Q E s := by
  rw [eval_ListComp]
  refine wpAny_comprehension_free (use := none) rfl hs hclos hkind hnames (wpAny_mono h (fun xv s₁ h₁ => ?_) fun _ _ e => e)
  refine ex4 (h₁) fun ax its n news q₁ => ?_
  clear h₁
  refine an6 q₁ fun e0₀ F N hm hsz R => ?_
  clear q₁
  subst e0₀
  have hl : s₁.heap.IsList ax its := News.isList N hm
  have hlt : ax < s₁.heap.objs.size := Heap.lt_size (N _ hm).1
  have hLlt : L < s₁.heap.objs.size := F.ns.lt
  have none_of : ∀ d, s₁.heap.objs.size ≤ d → h₀.get? d = none := fun d hd => by
    cases e : h₀.get? d with
    | none => rfl
    | some o => exact absurd (Heap.lt_size (F.keep d o e)) (Nat.not_lt.mpr hd)
  refine wpAny_pyIter_list hl ?_
  refine wpAny_newObj_type (wpAny_newFunctionEnv hcell (by intro y hy; simp at hy) (fun h₁ hns hsb => ?_) hkind)
  dsimp only at hns hsb ⊢
  generalize hI : s₁.heap.objs.size = I at *
  generalize hH1 : s₁.heap.push { cls := .type "list_iterator", data := .fields #[.ref ax, .int 0 0] } = H1 at *
  generalize hH2 : H1.push { cls := .type "list", dict := none, data := .seq ([] : List Value).toArray } = H2 at *
  have sD : H1.objs.size = I + 1 := by rw [← hH1, Heap.size_push, hI]
  have sC : H2.objs.size = I + 2 := by rw [← hH2, Heap.size_push, sD]
  generalize hDD : H1.objs.size = D at *
  generalize hCC : H2.objs.size = C at *
  have up1 : ∀ d o, s₁.heap.get? d = some o → H1.get? d = some o := fun d o e => by rw [← hH1]; exact Heap.get?_push_of_some _ e
  have up2 : ∀ d o, H1.get? d = some o → H2.get? d = some o := fun d o e => by rw [← hH2]; exact Heap.get?_push_of_some _ e
  have below : ∀ d o, s₁.heap.get? d = some o → @LT.lt Nat _ d I := fun d o e => hI ▸ Heap.lt_size e
  have up : ∀ d o, s₁.heap.get? d = some o → h₁.get? d = some o := fun d o e => by
    have := below d o e
    exact hsb.extBut d o (by show @Ne Nat _ _; omega) (Heap.get?_push_of_some _ (up2 _ _ (up1 _ _ e)))
  have itH : h₁.IsListIter I ax 0 := by
    have e1 : H1.get? I = some { cls := .type "list_iterator", data := .fields #[.ref ax, .int 0 0] } := by rw [← hH1, ← hI]; exact Heap.get?_push_size _ rfl
    exact ⟨_, hsb.extBut _ _ (by show @Ne Nat _ _; omega) (Heap.get?_push_of_some _ (up2 _ _ e1)), rfl, rfl⟩
  have accH : h₁.get? D = some (lst []) := by
    have e1 : H2.get? D = some { cls := .type "list", dict := none, data := .seq ([] : List Value).toArray } := by rw [← hH2, ← hDD]; exact Heap.get?_push_size _ rfl
    exact hsb.extBut _ _ (by show @Ne Nat _ _; omega) (Heap.get?_push_of_some _ e1)
  have axl : @LT.lt Nat _ ax I := hI ▸ hlt
  have Ll : @LT.lt Nat _ L I := hI ▸ hLlt
  have W := Walks.list (prog := theProg) (w := w) hh I ax (by show @Ne Nat _ _; omega) its
  have newsl : ∀ p ∈ news, @LT.lt Nat _ p.1 I := fun p hp => below _ _ (N p hp).1
  have nI := none_of I (by omega)
  have nD := none_of D (by omega)
  have nC := none_of C (by omega)
  have dID : @Ne Nat I D := by omega
  have dDI : @Ne Nat D I := dID.symm
  have dIC : @Ne Nat I C := by omega
  have dCI : @Ne Nat C I := dIC.symm
  have dDC : @Ne Nat D C := by omega
  have dCD : @Ne Nat C D := dDC.symm
  have daxI : @Ne Nat ax I := by omega
  have dIax : @Ne Nat I ax := daxI.symm
  have daxD : @Ne Nat ax D := by omega
  have dDax : @Ne Nat D ax := daxD.symm
  have daxC : @Ne Nat ax C := by omega
  have dCax : @Ne Nat C ax := daxC.symm
  have dLI : @Ne Nat L I := by omega
  have dIL : @Ne Nat I L := dLI.symm
  have dLD : @Ne Nat L D := by omega
  have dDL : @Ne Nat D L := dLD.symm
  have dLC : @Ne Nat L C := by omega
  have dCL : @Ne Nat C L := dLC.symm
  have hns' : h₁.Ns C (fun y => List.lookup y ([] : List (Str × Value)).reverse) := hns
  have loop : ∀ s₃ : Shared, s₃ = { s₁ with heap := h₁, toks := s₁.toks + ([] : List (Str × Value)).length } →
      codeAny (model theProg w) A (.compLoop (.ListComp elt [⟨.Tuple [.Name a pa, .Name b pb] kk tp, iter, [c], 0⟩] scope pos) 0 (.ref I) (.ref D) (compEnvC scope cl C env))
        (compPost (model theProg w) A E none Q (.ref D) C) s₃ := by
    rintro s₃ rfl
    refine kct_loop (fun n s' => ∃ h' tk i ys m', s' = { s₁ with heap := h', toks := tk } ∧ i ≤ its.size ∧ n = its.size + 1 - i ∧ ys.length ≤ i ∧ (h'.IsListIter I ax i ∧ h'.IsList ax its) ∧ Fr h₀ L h' m ∧ h'.Ns C m' ∧
      News h₀ L h' ((D, lst ys) :: news) ∧ PairRest w A h₀ L m env c elt a b scope cl s₁ Q news (its.toList.drop i) ys) ?_ (its.size + 1)
      ⟨h₁, _, 0, [], _, rfl, Nat.zero_le _, rfl, Nat.le_refl _, ⟨itH, hl.at fun o e => up _ o e⟩, F.keeps up, hns', fun p hp => ?_, R⟩
    · intro k s' q₀
      refine ex5 (q₀) fun h' tk i ys m' q₁ => ?_
      clear q₀
      refine an9 q₁ fun e0₀ hi e2₀ hyl hst F' hn' N' R' => ?_
      clear q₁
      subst e0₀
      subst e2₀
      by_cases hlt' : i < its.size
      · refine W.item i _ _ _ hlt' hst fun v h₂ tk₂ hPv hst₂ hk₂ => ?_
        have hd : its.toList.drop i = v :: its.toList.drop (i + 1) := by
          have hi2 : i < its.toList.length := by simpa using hlt'
          rw [List.drop_eq_getElem_cons hi2]
          congr 1
          have := Array.getElem?_eq_some_iff.mp hPv
          obtain ⟨_, e⟩ := this
          rw [← e]; simp
        rw [hd] at R'
        refine ex3 (R') fun t x y q₁ => ?_
        clear R'
        refine an3 q₁ fun e0₀ hmt R'' => ?_
        clear q₁
        subst e0₀
        have old2 : ∀ d o, d ≠ I → h'.get? d = some o → h₂.get? d = some o := fun d o hd e => hk₂ d o (by simpa using hd) e
        have ntI : ∀ p ∈ (D, lst ys) :: news, p.1 ≠ I := fun p hp => by
          rcases List.mem_cons.mp hp with rfl | hp
          · first | assumption | (show @Ne Nat _ _; omega)
          · exact Nat.ne_of_lt (newsl p hp)
        have N₂ : News h₀ L h₂ ((D, lst ys) :: news) := news_but N' hk₂ ntI
        have F₂ : Fr h₀ L h₂ m := fr_but F' hk₂ (by first | assumption | (show @Ne Nat _ _; omega)) nI
        have hn₂ : h₂.Ns C m' := hn'.at' fun o e => old2 C o (by first | assumption | (show @Ne Nat _ _; omega)) e
        have ht : h₂.IsTuple t #[x, y] := News.isTup N₂ (.tail _ hmt)
        refine wpAny_letOwnedTupleGo_listiter hst₂.1 ?_
        refine kcp_assign hh ht (lookup_relabel_local hxa) (lookup_relabel_local hxb) (by simp [compEnvC, relabel, hkind]) hn₂ fun h₃ tk₃ hn₃ hs₃ => ?_
        refine ex1 (ns_obj hn₃) fun oC q₁ => ?_
        refine an2 q₁ fun heC hoC => ?_
        clear q₁
        have heC' : h₃.get? C = some oC := heC
        have hn₃' : h₃.Ns C (fun z => if z = b then some y else if z = a then some x else m' z) := hn₃
        have old3 : ∀ d o, d ≠ C → h₂.get? d = some o → h₃.get? d = some o := fun d o hd e => hs₃ d o hd e
        have F₃ : Fr h₀ L h₃ m := ⟨F₂.ns.at' fun o e => old3 L o (by first | assumption | (show @Ne Nat _ _; omega)) e, fun d o e => old3 d o (fun q => by rw [q, nC] at e; cases e) (F₂.keep d o e), F₂.above⟩
        have N₃ : News h₀ L h₃ ((C, oC) :: (D, lst ys) :: news) := fun p hp => by
          rcases List.mem_cons.mp hp with rfl | hp
          · exact ⟨heC', by first | assumption | (show @Ne Nat _ _; omega), nC⟩
          · refine ⟨old3 _ _ ?_ (N₂ p hp).1, (N₂ p hp).2⟩
            rcases List.mem_cons.mp hp with rfl | hp
            · first | assumption | (show @Ne Nat _ _; omega)
            · have := newsl p hp; show @Ne Nat _ _; omega
        have st₃ : h₃.IsListIter I ax (i + 1) ∧ h₃.IsList ax its := ⟨hst₂.1.at fun o e => old3 _ o (by first | assumption | (show @Ne Nat _ _; omega)) e, hst₂.2.at fun o e => old3 _ o (by first | assumption | (show @Ne Nat _ _; omega)) e⟩
        have more : ∀ (zs : List Value) (h₅ : Heap) (tk₅ : Nat), zs.length ≤ i + 1 → (∀ d o, d ≠ D → h₃.get? d = some o → h₅.get? d = some o) → h₅.get? D = some (lst zs) → Fr h₀ L h₅ m → PairRest w A h₀ L m env c elt a b scope cl s₁ Q news (its.toList.drop (i + 1)) zs →
            ∃ m_1, m_1 < its.size + 1 - i ∧ ∃ h' tk i ys m', ({ s₁ with heap := h₅, toks := tk₅ } : Shared) = { s₁ with heap := h', toks := tk } ∧ i ≤ its.size ∧ m_1 = its.size + 1 - i ∧ ys.length ≤ i ∧ (h'.IsListIter I ax i ∧ h'.IsList ax its) ∧ Fr h₀ L h' m ∧ h'.Ns C m' ∧
              News h₀ L h' ((D, lst ys) :: news) ∧ PairRest w A h₀ L m env c elt a b scope cl s₁ Q news (its.toList.drop i) ys := by
          intro zs h₅ tk₅ hz old5 hD F₅ R₅
          refine ⟨its.size + 1 - (i + 1), by omega, h₅, tk₅, i + 1, zs, _, rfl, hlt', rfl, hz, ⟨st₃.1.at fun o e => old5 _ o (by first | assumption | (show @Ne Nat _ _; omega)) e, st₃.2.at fun o e => old5 _ o (by first | assumption | (show @Ne Nat _ _; omega)) e⟩, F₅, hn₃'.at' fun o e => old5 _ o (by first | assumption | (show @Ne Nat _ _; omega)) e, fun p hp => ?_, R₅⟩
          rcases List.mem_cons.mp hp with rfl | hp
          · exact ⟨hD, by first | assumption | (show @Ne Nat _ _; omega), nD⟩
          · have := newsl p hp
            exact ⟨old5 _ _ (by first | assumption | (show @Ne Nat _ _; omega)) (N₃ p (.tail _ (.tail _ hp))).1, (N₃ p (.tail _ (.tail _ hp))).2⟩
        refine wpAny_mono (R'' oC C D _ h₃ tk₃ _ hoC (by simp [hab]) (by simp) F₃ N₃) (fun ok s₄ h₄ => ?_) fun _ _ e => e
        cases ok with
        | true =>
          simp only [if_true] at h₄ ⊢
          refine wpAny_mono h₄ (fun z s₅ y₅ => ?_) fun _ _ e => e
          refine ex2 (y₅) fun h₅ tk₅ q₁ => ?_
          clear y₅
          refine an4 q₁ fun e0₀ F₅ k₅ R₅ => ?_
          clear q₁
          subst e0₀
          have zD : h₅.get? D = some (lst ys) := k₅ _ _ (N₃ (D, lst ys) (.tail _ (.head _))).1
          refine append_at (hsz := by show ys.toArray.size ≤ sizeLine; rw [List.size_toArray]; omega) zD fun h₆ hs₆ hD₆ => ?_
          exact more (ys ++ [z]) h₆ _ (by rw [List.length_append, List.length_singleton]; omega) (fun d o hd e => hs₆.extBut d o hd (k₅ d o e)) (hD₆.trans (congrArg some (lst_snoc ys z))) (F₅.change hs₆ (by first | assumption | (show @Ne Nat _ _; omega)) nD) R₅
        | false =>
          simp only [Bool.false_eq_true, if_false] at h₄ ⊢
          refine ex2 (h₄) fun h₅ tk₅ q₁ => ?_
          clear h₄
          refine an4 q₁ fun e0₀ F₅ k₅ R₅ => ?_
          clear q₁
          subst e0₀
          exact more ys h₅ _ (by omega) (fun d o hd e => k₅ d o e) (k₅ _ _ (N₃ (D, lst ys) (.tail _ (.head _))).1) F₅ R₅
      · have hin : i = its.size := by omega
        subst hin
        rw [List.drop_eq_nil_of_le (by simp)] at R'
        refine W.done _ _ _ hst fun h₂ tk₂ hk₂ => ?_
        have ntI : ∀ p ∈ (D, lst ys) :: news, p.1 ≠ I := fun p hp => by
          rcases List.mem_cons.mp hp with rfl | hp
          · first | assumption | (show @Ne Nat _ _; omega)
          · exact Nat.ne_of_lt (newsl p hp)
        have N₂ : News h₀ L h₂ ((D, lst ys) :: news) := news_but N' hk₂ ntI
        have F₂ : Fr h₀ L h₂ m := fr_but F' hk₂ (by first | assumption | (show @Ne Nat _ _; omega)) nI
        have hn₂ : h₂.Ns C m' := hn'.at' fun o e => hk₂ C o (by intro hq; exact absurd (List.mem_singleton.mp hq) (by first | assumption | (show @Ne Nat _ _; omega))) e
        refine ⟨m', hn₂, fun h'' hs'' => R' D h'' tk₂ (F₂.change hs'' (by first | assumption | (show @Ne Nat _ _; omega)) nC) (fun p hp => ⟨hs''.extBut _ _ ?_ (N₂ p hp).1, (N₂ p hp).2⟩) fun p hp => ?_⟩
        · rcases List.mem_cons.mp hp with rfl | hp
          · first | assumption | (show @Ne Nat _ _; omega)
          · have := newsl p hp; show @Ne Nat _ _; omega
        · have := newsl p hp; show @Ne Nat _ _; omega
    · rcases List.mem_cons.mp hp with rfl | hp
      · exact ⟨accH, by first | assumption | (show @Ne Nat _ _; omega), nD⟩
      · exact ⟨up _ _ (N p hp).1, (N p hp).2⟩
  exact codeAny_compStart_list (loop _ rfl) (W.self 0 _ _ _ ⟨itH, hl.at fun o e => up _ o e⟩ (loop _ rfl))
end

--needs: 10 11 20 24 26 30 32 34 36 37 38 40
section
noncomputable section
theorem md26 : True := trivial
noncomputable def Px41 (bb : Bd) (tok : Tok) (tx : Tok) (b : Addr) (bd : Addr) (gl : Addr) (es : List Ent) (k : Nat) (rest : List (Addr × Obj)) (xs : List Nat) (ln : List Nat) (o1 : Obj) : Prop :=
  Fine es → (∀ c ∈ xs, 32 ≤ c ∧ c < 127) → xs.length ≤ 9000 → xs.map lo1 = ln → o1.data = .cell (some (.str (S xs) tx)) → (∀ p ∈ (book (bw bb) tok b bd gl es k rest), p.1 < bL bb) →
  BodyC bb (3) 273 ([("self", .ref b), ("name", .str (S xs) tx)]) ((bL bb + 1, o1) :: (book (bw bb) tok b bd gl es k rest))
    (fun v tl => ∃ D, v = .ref D ∧ tl = (D, LCg.lst ((es.filter fun e => e.n.map lo1 == ln).map fun e => .str (S e.v) e.tv)) :: book (bw bb) tok b bd gl es k rest ∧ LCg.Off1 D (book (bw bb) tok b bd gl es k rest))
theorem ne41 : Nonempty (Bd × Tok × Tok × Addr × Addr × Addr × (List Ent) × Nat × (List (Addr × Obj)) × (List Nat) × (List Nat) × Obj) := bd_ne.elim fun bb => ⟨(bb, 0, 0, 0, 0, 0, [], 0, [], [], [], default)⟩
@[irreducible] noncomputable def D41 : Bd × Tok × Tok × Addr × Addr × Addr × (List Ent) × Nat × (List (Addr × Obj)) × (List Nat) × (List Nat) × Obj := @Classical.epsilon _ ne41 fun d => ¬ Px41 d.1 d.2.1 d.2.2.1 d.2.2.2.1 d.2.2.2.2.1 d.2.2.2.2.2.1 d.2.2.2.2.2.2.1 d.2.2.2.2.2.2.2.1 d.2.2.2.2.2.2.2.2.1 d.2.2.2.2.2.2.2.2.2.1 d.2.2.2.2.2.2.2.2.2.2.1 d.2.2.2.2.2.2.2.2.2.2.2
namespace V41
@[irreducible] noncomputable def bb : Bd := D41.1
@[irreducible] noncomputable def tok : Tok := D41.2.1
@[irreducible] noncomputable def tx : Tok := D41.2.2.1
@[irreducible] noncomputable def b : Addr := D41.2.2.2.1
@[irreducible] noncomputable def bd : Addr := D41.2.2.2.2.1
@[irreducible] noncomputable def gl : Addr := D41.2.2.2.2.2.1
@[irreducible] noncomputable def es : List Ent := D41.2.2.2.2.2.2.1
@[irreducible] noncomputable def k : Nat := D41.2.2.2.2.2.2.2.1
@[irreducible] noncomputable def rest : List (Addr × Obj) := D41.2.2.2.2.2.2.2.2.1
@[irreducible] noncomputable def xs : List Nat := D41.2.2.2.2.2.2.2.2.2.1
@[irreducible] noncomputable def ln : List Nat := D41.2.2.2.2.2.2.2.2.2.2.1
@[irreducible] noncomputable def o1 : Obj := D41.2.2.2.2.2.2.2.2.2.2.2
end V41
end
theorem ep41 (h : Px41 V41.bb V41.tok V41.tx V41.b V41.bd V41.gl V41.es V41.k V41.rest V41.xs V41.ln V41.o1) (bb : Bd) (tok : Tok) (tx : Tok) (b : Addr) (bd : Addr) (gl : Addr) (es : List Ent) (k : Nat) (rest : List (Addr × Obj)) (xs : List Nat) (ln : List Nat) (o1 : Obj) : Px41 bb tok tx b bd gl es k rest xs ln o1 := eps_at (P := fun d : Bd × Tok × Tok × Addr × Addr × Addr × (List Ent) × Nat × (List (Addr × Obj)) × (List Nat) × (List Nat) × Obj => Px41 d.1 d.2.1 d.2.2.1 d.2.2.2.1 d.2.2.2.2.1 d.2.2.2.2.2.1 d.2.2.2.2.2.2.1 d.2.2.2.2.2.2.2.1 d.2.2.2.2.2.2.2.2.1 d.2.2.2.2.2.2.2.2.2.1 d.2.2.2.2.2.2.2.2.2.2.1 d.2.2.2.2.2.2.2.2.2.2.2) (ne := ne41) (by with_unfolding_all exact h) (bb, tok, tx, b, bd, gl, es, k, rest, xs, ln, o1)
section
open V41
theorem w41 : Px41 bb tok tx b bd gl es k rest xs ln o1 := by
  intro hf hx hxl hln d1 l1
  refine BodyC.start (by k_is) ?_
  intro St F N hPO hret hnx
  obtain ⟨B, X, T, hA, _, _, hh, hd, hu⟩ := id St
  replace l1 := allLt_of l1
  have l2 := allLt_up l1
  have l3 := allLt_up l2
  have l4 := allLt_up l3
  (try simp only [AllLt, and_true] at l1)
  have hlow : Txt.lower (S xs) = S ln := by rw [lower_S fun c hc => by have := hx c hc; omega, hln]
  have p1 : Rx.Plain (S ln).cps := plain_S (by rw [← hln]; exact plain_map lo1_plain hx)
  have p2 : (S ln).cps.size ≤ 10000 := by rw [size_S, ← hln, List.length_map]; omega
  k_with "my text" => (wtm_at "?26-26"; (rw [hlow]))
  k_steps
  refine ⟨?_⟩
  rename Fr _ _ _ _ => FC
  rename News _ _ _ _ => NC
  refine LCt.CompSrcT.ledger (its := (refs es).toArray) (k := k) rfl FC NC (by kcj_m) ?_ ?_
  · have := hf.len; rw [sizeLine_eq]; simp; omega
  intro g
  refine rest_T (n := (refs es).toArray.size) (fun i ys => ys = ((es.take i).filter fun e => e.n.map lo1 == ln).map fun e => .str (S e.v) e.tv) ?_ ?_ _ _ _ (by simp) (by simp)
  · rintro ys rfl D h tk F₁ N₁ off
    clear FC NC
    rw [List.take_of_length_le (by simp)] at N₁
    k_steps
    exact hret _ _ _ _ _ (by k_asm) (News.sub (by k_asm) (by kcj_in)) ⟨D, rfl, rfl, off.2⟩
  · rintro i k' ys hi rfl hrest
    refine LCt.CompRestT.succ ?_
    clear FC NC
    intro v I oI C oC D m₂ h tk E' hP hC hx F₁ N₁ off hne
    obtain ⟨e, he, rfl⟩ := refs_at hP
    have hem := ent_mem he
    have N₂ := News.also N₁ (.tail _ (.tail _ (.tail _ (.tail _ (obj_mem (w := bw bb) (tok := tok) (b := b) (bd := bd) (gl := gl) (n := k) (rest := rest) hem)))))
    clear N₁
    have hle : Txt.lower (S e.n) = S (e.n.map lo1) := lower_S fun c hc => by have := hf.n e hem c hc; omega
    have hel := hf.nl e hem
    cases hc : (e.n.map lo1 == ln) with
    | true =>
      k_with "my text" => (wtm_at "?26-26"; (rw [hle]))
      k_with "my ite" => (wtm_at "?26-26"; (refine ite_pos (by rw [S_beq]; exact hc) ?_))
      k_steps
      refine ⟨?_⟩
      refine LCg.CompEnd.intro (by k_asm) (by k_asm) _ (fun p hp => .tail _ hp) off (.inr ⟨_, by kcj_m, rfl, _, rfl⟩) (hrest _ ?_)
      rw [List.take_add_one, he]
      simp [List.filter_append, hc]
    | false =>
      k_with "my text" => (wtm_at "?26-26"; (rw [hle]))
      k_with "my ite" => (wtm_at "?26-26"; (refine ite_neg (by rw [S_beq, hc]; decide) ?_))
      k_steps
      refine ⟨?_⟩
      refine LCg.CompEnd.intro (by k_asm) (by k_asm) _ (fun p hp => .tail _ hp) off (.inr ⟨_, by kcj_m, rfl, _, rfl⟩) (hrest _ ?_)
      rw [List.take_add_one, he]
      simp [List.filter_append, hc]
end
theorem t_getall {w : World} {mean : ExcName → Option Value} {mg mb : Str → Option Value} {tok tx : Tok} {b bd gl : Addr} {es : List Ent} {k : Nat} {rest : List (Addr × Obj)} {xs ln : List Nat} (hf : Fine es)
    (hx : ∀ c ∈ xs, 32 ≤ c ∧ c < 127) (hxl : xs.length ≤ 9000) (hln : xs.map lo1 = ln) :
    Does w mean mg mb 4 (.ref 273) [.ref b, .str (S xs) tx] [] (book w tok b bd gl es k rest) (fun v tl => ∃ D, v = .ref D ∧ tl = (D, LCg.lst ((es.filter fun e => e.n.map lo1 == ln).map fun e => .str (S e.v) e.tv)) :: book w tok b bd gl es k rest ∧ LCg.Off1 D (book w tok b bd gl es k rest)) := by
  refine does_as (n := 3 + 1) (by omega) (Does.of_bodyC (binds := [("self", .ref b), ("name", .str (S xs) tx)]) (by k_is) (by k_is) (fun s _ => BindsTo.of_eq rfl) (by rfl) (by decide +kernel) rfl rfl rfl ?_)
  intro bb cells Y l1 e1 e2 e3 e4
  obtain ⟨o1, rfl, d1⟩ := CellsAre.one Y
  subst e1 e2 e3 e4
  exact ep41 w41 bb tok tx b bd gl es k rest xs ln o1 hf hx hxl hln d1 l1
end

--needs: 10 20 24 26 30 32 34 36 37 38 40
theorem md27 : True := trivial
/- a book's list is no other object of the ledger -/
structure Apart (b bd gl : Addr) (es : List Ent) (rest : List (Addr × Obj)) : Prop where
  b : @Ne Nat b gl
  bd : @Ne Nat bd gl
  es : ∀ p ∈ es.map Ent.obj ++ rest, p.1 ≠ gl
theorem join_one (x y : Str) : Txt.join x [y] = y := by
  show Builtin.Str.glued x [y] = y
  rw [StrLaws.glued_eq_join]
  rfl
theorem book_push {w : World} {tok : Tok} {b bd gl : Addr} {es : List Ent} {n : Nat} {rest : List (Addr × Obj)} {e : Ent} {p : Addr × Obj} (h : p ∈ book w tok b bd gl (es ++ [e]) n rest) :
    p = (b, instObj 334 bd) ∨ p = (bd, hdict w tok gl) ∨ p = (gl, listOf ((refs es).toArray.push (.ref e.a)) n) ∨ p = e.obj ∨ p ∈ es.map Ent.obj ++ rest := by
  have e1 : (refs (es ++ [e])).toArray = (refs es).toArray.push (.ref e.a) := by simp [refs]
  rcases List.mem_cons.mp h with h | h
  · exact .inl h
  rcases List.mem_cons.mp h with h | h
  · exact .inr (.inl h)
  rcases List.mem_cons.mp h with h | h
  · exact .inr (.inr (.inl (by rw [← e1]; exact h)))
  rw [List.map_append] at h
  rcases List.mem_append.mp h with h | h
  · rcases List.mem_append.mp h with h | h
    · exact .inr (.inr (.inr (.inr (List.mem_append_left _ h))))
    · exact .inr (.inr (.inr (.inl (List.mem_singleton.mp h))))
  · exact .inr (.inr (.inr (.inr (List.mem_append_right _ h))))
theorem news_drop2 {h₀ h : Heap} {L : Addr} {p q : Addr × Obj} {r : List (Addr × Obj)} (N : News h₀ L h (p :: q :: r)) : News h₀ L h (p :: r) := fun x hx => by
  rcases List.mem_cons.mp hx with rfl | hx
  · exact N _ (.head _)
  · exact N x (.tail _ (.tail _ hx))
section
theorem md28 : True := trivial
theorem t_add {w : World} {mean : ExcName → Option Value} {mg mb : Str → Option Value} {tok tx ty : Tok} {b bd gl : Addr} {es : List Ent} {k : Nat} {rest : List (Addr × Obj)} {xs ys : List Nat} (hf : Fine es) (hs : Apart b bd gl es rest)
    (hx : ∀ c ∈ xs, 32 ≤ c ∧ c < 127) (hxl : xs.length ≤ 9000) (hy : ∀ c ∈ ys, 32 ≤ c ∧ c < 127) (hyl : ys.length ≤ 9000) :
    Does w mean mg mb 4 (.ref 331) [.ref b, .str (S xs) tx, .str (S ys) ty] [] (book w tok b bd gl es k rest) (fun v tl => v = .none ∧ ∃ a tn tv k', tl = book w tok b bd gl (es ++ [⟨a, xs, tn, ys, tv⟩]) k' rest ∧ AllLt a (book w tok b bd gl es k rest)) := by
  refine Does.intro ?_
  intro A₀ A env outer base h₀ L m s Q E ⟨B, F, X, N, T, hA, hfr, hfk, hh⟩ hd hu hret
  have p1 : Rx.Plain (S xs).cps := plain_S hx
  have p2 : (S xs).cps.size ≤ 10000 := by rw [size_S]; omega
  have p3 : Rx.Plain (S ys).cps := plain_S hy
  have p4 : (S ys).cps.size ≤ 10000 := by rw [size_S]; omega
  have hs1 : @Ne Nat b gl := hs.b
  have hs2 : @Ne Nat bd gl := hs.bd
  have hs3 : ∀ p ∈ es.map Ent.obj ++ rest, p.1 ≠ gl := hs.es
  have hsz : (refs es).toArray.size ≤ sizeLine := by have := hf.len; rw [sizeLine_eq]; simp; omega
  unfold book at N
  k_with "my fit" => (wtm_at "?27-28"; first | assumption | size_fits)
  k_extra "my enterM"
  k_steps
  rename News _ _ _ _ => N9
  replace N9 := news_drop2 N9
  k_steps
  refine' hret _ _ _ _ (by k_asm) (News.sub (by k_asm) ?sub) ⟨rfl, _, _, _, _, rfl, ?lt⟩
  case sub =>
    intro p hp
    rcases book_push hp with rfl | rfl | rfl | rfl | h
    · kcj_m
    · kcj_m
    · kcj_m
    · kcj_m
    · kcj_m
  case lt =>
    exact And.right (And.right (And.right (by assumption)))
end

--needs: 10 12 20
open NumText
theorem md29 : True := trivial
/- a number's digits as signs -/
noncomputable def dg (n : Int) : List Nat := (Str.ofString (toString n)).cps.toList
theorem dg_S (n : Int) : Str.ofString (toString n) = S (dg n) := S_of _
noncomputable def dgs (m : Nat) : List Nat := (Nat.toDigits 10 m).map Char.toNat
theorem dg_pos (m : Nat) : dg (m : Int) = dgs m := KIN.signs_num m
theorem dg_neg (m : Nat) : dg (-((m + 1 : Nat) : Int)) = 45 :: dgs (m + 1) := by
  unfold dg
  rw [signs_ofString]
  have e : toString (-((m + 1 : Nat) : Int)) = "-" ++ Nat.repr (m + 1) := rfl
  rw [e, String.toList_append, List.map_append, Nat.toList_repr]
  rfl
theorem dgs_chars (m : Nat) : ∀ c ∈ dgs m, 48 ≤ c ∧ c ≤ 57 := by
  intro c hc
  obtain ⟨ch, hch, e⟩ := List.mem_map.mp hc
  have r := digit_range (Nat.isDigit_of_mem_toDigits (by decide) (by decide) hch)
  rw [← e]
  exact r
theorem dgs_ne (m : Nat) : dgs m ≠ [] := by
  intro e
  have h := toDigits_len_ge 10 m
  rw [List.map_eq_nil_iff.mp e] at h
  exact absurd h (by decide)
theorem dgs_len {m k : Nat} (hk : 0 < k) (h : m < 10 ^ k) : (dgs m).length ≤ k := by
  have e := (Nat.length_repr_le_iff (n := m) hk).mpr h
  rw [← String.length_toList, Nat.toList_repr] at e
  simpa [dgs] using e
theorem dg_cases (n : Int) : (∃ m : Nat, n = m ∧ dg n = dgs m) ∨ (∃ m : Nat, n = -((m : Nat) : Int) ∧ dg n = 45 :: dgs m) := by
  by_cases h : n < 0
  · refine .inr ⟨n.natAbs, by omega, ?_⟩
    obtain ⟨k, hk⟩ : ∃ k : Nat, n = -((k + 1 : Nat) : Int) := ⟨n.natAbs - 1, by omega⟩
    subst hk
    rw [dg_neg]
    congr 2
  · refine .inl ⟨n.natAbs, by omega, ?_⟩
    obtain ⟨k, hk⟩ := Int.eq_ofNat_of_zero_le (Int.not_lt.mp h)
    subst hk
    rw [dg_pos]; rfl
theorem dg_chars (n : Int) : ∀ c ∈ dg n, c = 45 ∨ (48 ≤ c ∧ c ≤ 57) := by
  intro c hc
  rcases dg_cases n with ⟨m, _, h⟩ | ⟨m, _, h⟩
  · rw [h] at hc; exact .inr (dgs_chars m c hc)
  · rw [h] at hc
    rcases List.mem_cons.mp hc with h | h
    · exact .inl h
    · exact .inr (dgs_chars m c h)
theorem dg_ne (n : Int) : dg n ≠ [] := by
  rcases dg_cases n with ⟨m, _, h⟩ | ⟨m, _, h⟩
  · rw [h]; exact dgs_ne m
  · rw [h]; exact List.cons_ne_nil _ _
theorem dg_len {n : Int} {k : Nat} (hk : 0 < k) (h : n.natAbs < 10 ^ k) : (dg n).length ≤ k + 1 := by
  rcases dg_cases n with ⟨m, e, h'⟩ | ⟨m, e, h'⟩
  · rw [h']
    have := dgs_len (m := m) hk (by omega)
    omega
  · rw [h']
    have := dgs_len (m := m) hk (by omega)
    simp; omega
theorem dg_reads {n : Int} (hl : (dg n).length ≤ 4300) : PySem.intText? (S (dg n)) = some n := by
  rcases dg_cases n with ⟨m, e, h'⟩ | ⟨m, e, h'⟩
  · have := intText_digits (x := S (dg n)) (by show AllDigits (dg n); rw [h']; exact dgs_chars m) (by show dg n ≠ []; exact dg_ne n) (by rw [S_length]; exact hl)
    rw [this]
    show some ((digitsVal (dg n) : Nat) : Int) = _
    rw [h', dgs, KIN.val_back, e]
  · have := intText_neg (x := S (dg n)) (cs := dgs m) (by show dg n = _; exact h') (dgs_chars m) (dgs_ne m) (by rw [S_length]; exact hl)
    rw [this, dgs, KIN.val_back, e]
/- the law's text of a number -/
noncomputable def wr (m : Nat) (n : Int) : List Nat := 40 :: m :: 57 :: m :: m :: (dg n ++ [m, 41])
theorem written_S (m : Nat) (n : Int) : written (S [m]) n = S (wr m n) := by
  unfold written
  rw [dg_S, show Str.ofString "(" = S [40] from rfl, show Str.ofString "9" = S [57] from rfl, show Str.ofString ")" = S [41] from rfl]
  simp only [S_app]
  simp [wr]
theorem wr_length (m : Nat) (n : Int) : (wr m n).length = (dg n).length + 7 := by simp [wr]
/- the marks of the law -/
noncomputable def Mark (m : Nat) : Prop := m = 124 ∨ m = 33 ∨ m = 47 ∨ m = 120 ∨ m = 32 ∨ m = 40
theorem Mark.le {m : Nat} (h : Mark m) : 32 ≤ m ∧ m < 127 ∧ m ≠ 41 ∧ m ≠ 57 ∧ m ≠ 45 ∧ ¬ (48 ≤ m ∧ m ≤ 57) := by
  rcases h with h | h | h | h | h | h <;> subst h <;> decide
theorem wr_plain {m : Nat} (hm : Mark m) (n : Int) : ∀ c ∈ wr m n, 32 ≤ c ∧ c < 127 := by
  intro c hc
  have := hm.le
  simp only [wr, List.mem_cons, List.mem_append, List.not_mem_nil, or_false] at hc
  rcases hc with h | h | h | h | h | h | h | h
  all_goals first | omega | (have := dg_chars n c h; omega)

--needs: 10 12 20 22 24 26 43
theorem md30 : True := trivial
/- the text that parse257 reads for a half -/
noncomputable def l257 (k c : Nat) : List Nat := 50 :: 53 :: 55 :: 32 :: 34 :: (nm k c ++ [34, 32, 34, c])
noncomputable def halfOf (k c : Nat) : List Nat := if k % 2 = 0 then nm (k / 2) c else List.replicate (k / 2) 34
theorem go_pairs {r : List Nat} : ∀ j, go257 (List.replicate (2 * j) 34 ++ r) = List.replicate j 34 ++ go257 r
  | 0 => by simp
  | j + 1 => by
    rw [show 2 * (j + 1) = 2 * j + 1 + 1 by omega, List.replicate_succ, List.replicate_succ, List.cons_append, List.cons_append]
    show (34 :: go257 (List.replicate (2 * j) 34 ++ r)) = _
    rw [go_pairs j, List.replicate_succ]
    rfl
theorem letter_ne {c : Nat} (hc : Letter c) : c ≠ 34 ∧ c ≠ 40 ∧ c ≠ 41 ∧ c < 127 ∧ 32 ≤ c := by
  rcases hc with h | h | h | h <;> subst h <;> decide
theorem go_half {k c : Nat} (hc : Letter c) : go257 ((l257 k c).drop 5) = halfOf k c := by
  have hne := (letter_ne hc).1
  show go257 (List.replicate k 34 ++ [c] ++ [34, 32, 34, c]) = _
  unfold halfOf
  by_cases h : k % 2 = 0
  · rw [if_pos h]
    obtain ⟨j, rfl⟩ : ∃ j, k = 2 * j := ⟨k / 2, by omega⟩
    rw [List.append_assoc, go_pairs, show 2 * j / 2 = j by omega]
    simp [go257, hne, nm]
  · rw [if_neg h]
    obtain ⟨j, rfl⟩ : ∃ j, k = 2 * j + 1 := ⟨k / 2, by omega⟩
    rw [List.replicate_succ', List.append_assoc, List.append_assoc, go_pairs, show (2 * j + 1) / 2 = j by omega]
    simp [go257, hne]
theorem l257_3 (k c : Nat) : Txt.slice (S (l257 k c)) none (some 3) = Str.ofString "257" :=
  (S_slice_to (j := 3) (by simp [l257])).trans rfl
theorem l257_5 (k c : Nat) : Txt.slice (S (l257 k c)) (some 3) (some 5) = Str.ofString " \"" :=
  (S_slice (i := 3) (j := 5) (by omega) (by simp [l257])).trans rfl
theorem l257_length (k c : Nat) : (l257 k c).length = k + 10 := by simp [l257, nm]
/- the text that parse229 reads for a number -/
noncomputable def l229 (m : Nat) (n : Int) : List Nat := 50 :: 50 :: 57 :: 32 :: 41 :: (wr m n ++ [41])
noncomputable def mid229 (m : Nat) (n : Int) : List Nat := m :: 57 :: m :: m :: (dg n ++ [m])
theorem l229_is (m : Nat) (n : Int) : l229 m n = [50, 50, 57, 32, 41, 40] ++ (mid229 m n ++ 41 :: [41]) := by
  simp [l229, wr, mid229]
theorem mid229_length (m : Nat) (n : Int) : (mid229 m n).length = (dg n).length + 5 := by simp [mid229]
theorem dg_free {m : Nat} (hm : Mark m) (n : Int) : m ∉ dg n := fun h => by
  have := hm.le
  have := dg_chars n m h
  omega
theorem dg_no (n : Int) {c : Nat} (h : c < 45 ∨ 57 < c) : c ∉ dg n := fun h' => by
  have := dg_chars n c h'
  omega
theorem mid_no {m : Nat} (hm : Mark m) (n : Int) : 41 ∉ mid229 m n := by
  have := hm.le
  have := dg_no n (c := 41) (by omega)
  intro h
  simp only [mid229, List.mem_cons, List.mem_append, List.not_mem_nil, or_false] at h
  rcases h with h | h | h | h | h | h
  all_goals first | omega | exact this h
theorem mid_split {m : Nat} (hm : Mark m) (n : Int) : Txt.split (S (mid229 m n)) (S [m]) = [S [], S [57], S [], S (dg n), S []] := by
  have h1 := hm.le
  rw [split_is _ (by omega) (by simp [mid229])]
  · have e : cut m [] (mid229 m n) = [[], [57], [], dg n, []] := by
      have a1 : cut m [] (mid229 m n) = [] :: cut m [] (57 :: m :: m :: (dg n ++ [m])) := by simp [mid229, cut]
      have a2 : cut m [] (57 :: m :: m :: (dg n ++ [m])) = [57] :: [] :: cut m [] (dg n ++ m :: []) := by
        simp [cut, show ¬ (57 = m) by omega]
      rw [a1, a2, cut_at (dg_free hm n)]
      simp [cut]
    rw [e]; rfl
  · intro a ha
    simp only [mid229, List.mem_cons, List.mem_append, List.not_mem_nil, or_false] at ha
    rcases ha with h | h | h | h | h | h
    all_goals first | omega | (have := dg_chars n a h; omega)
theorem t_read {w : World} {mean : ExcName → Option Value} {mg mb : Str → Option Value} {m : Nat} {n : Int} {tx : Tok} {pa : Addr} {ph pm : Value} {pn : Nat} {rest : List (Addr × Obj)} (hm : Mark m) (hn : (dg n).length ≤ 600) :
    Does w mean mg mb 2 (.ref 82) [.str (S (l229 m n)) tx, .ref pa] [] ((pa, listOf [ph, pm].toArray pn) :: rest) (fun v tl => ∃ a t, v = .ref a ∧ tl = (a, tupOf [ph, .int n t]) :: (pa, listOf [ph, pm].toArray pn) :: rest ∧ pa < a ∧ AllLt a rest) := by
  have hl := mid229_length m n
  have hle := hm.le
  have e := l229_is m n
  have hlen : (l229 m n).length = (mid229 m n).length + 8 := by rw [e]; simp
  refine t_parse229 (lf := 5) (rt := 6 + (mid229 m n).length) (mk := m) (mid := mid229 m n) (ds := dg n) (by omega) ?_ ?_ ?_ ⟨by omega, by omega⟩ ?_ ?_ ?_ (by omega) (mid_split hm n) (dg_reads (by omega)) (by rw [S_length]; omega)
  · exact (S_slice_to (j := 3) (by omega)).trans rfl
  · have := find_at (pre := [50, 50, 57, 32, 41]) (c := 40) (post := mid229 m n ++ 41 :: [41]) (by decide)
    rw [e]; exact this
  · have := find3_at (a := [50, 50, 57, 32, 41, 40]) (pre := mid229 m n) (c := 41) (post := [41]) (mid_no hm n)
    rw [e]; exact this
  · exact S_item (l := l229 m n) (i := 6) rfl
  · have h : (l229 m n)[(mid229 m n).length + 5]? = some m := by
      rw [e, hl]
      simp [mid229, List.getElem?_append]
    have := S_item h
    rw [← this]
    congr 1
    omega
  · have := S_slice (l := l229 m n) (i := 6) (j := 6 + (mid229 m n).length) (by omega) (by omega)
    rw [show ((5 : Nat) : Int) + 1 = ((6 : Nat) : Int) from rfl, this, e]
    congr 1
    rw [List.take_append, List.drop_append]
    simp

--needs: 10
theorem md31 : True := trivial
/- the law's numbers -/
noncomputable def U (p q : Int) : Nat → Int
  | 0 => 0
  | 1 => 1
  | n + 2 => p * U p q (n + 1) - q * U p q n
theorem U_step (p q : Int) (n : Nat) : U p q (n + 2) = p * U p q (n + 1) - q * U p q n := rfl
theorem U_add (p q : Int) : ∀ m n : Nat, U p q (m + n + 1) = U p q (m + 1) * U p q (n + 1) - q * (U p q m * U p q n)
  | 0, n => by
    rw [Nat.zero_add]
    show _ = 1 * _ - q * (0 * _)
    rw [Int.one_mul, Int.zero_mul, Int.mul_zero, Int.sub_zero]
  | 1, n => by
    rw [show 1 + n + 1 = n + 2 by omega, U_step]
    show _ = (p * 1 - q * 0) * _ - q * (1 * _)
    rw [Int.mul_one, Int.mul_zero, Int.sub_zero, Int.one_mul]
  | m + 2, n => by
    have h1 := U_add p q (m + 1) n
    have h2 := U_add p q m n
    rw [show m + 2 + n + 1 = (m + n + 1) + 2 by omega, U_step, show m + n + 1 + 1 = m + 1 + n + 1 by omega, h1, h2, show m + 2 + 1 = (m + 1) + 2 by omega, U_step p q (m + 1), show m + 1 + 1 = m + 2 by omega, U_step p q m]
    generalize U p q (m + 1) = a
    generalize U p q m = b
    generalize U p q (n + 1) = c
    generalize U p q n = d
    grind
theorem U_double (p q : Int) (h : Nat) : U p q h * (U p q (h + 1) + (U p q (h + 1) - p * U p q h)) = U p q (2 * h) := by
  cases h with
  | zero => simp [U]
  | succ h =>
    have := U_add p q (h + 1) h
    rw [show 2 * (h + 1) = h + 1 + h + 1 by omega, this, show h + 1 + 1 = h + 2 by omega, U_step]
    generalize U p q (h + 1) = a
    generalize U p q h = b
    rw [show p * a - q * b + (p * a - q * b - p * a) = (p * a - q * b) - q * b by omega]
    simp only [Int.mul_sub, Int.sub_mul, Int.mul_assoc, Int.mul_left_comm, Int.mul_comm]
theorem U_further (p q : Int) (h : Nat) : U p q (h + 1) * U p q (h + 1) - q * (U p q h * U p q h) = U p q (2 * h + 1) := by
  rw [show 2 * h + 1 = h + h + 1 by omega, U_add]
theorem U_bound {p q : Int} (hp : p.natAbs ≤ 9) (hq : q.natAbs ≤ 37) : ∀ n : Nat, (U p q n).natAbs ≤ 46 ^ n
  | 0 => by simp [U]
  | 1 => by simp [U]
  | n + 2 => by
    have h1 := U_bound hp hq (n + 1)
    have h2 := U_bound hp hq n
    rw [U_step]
    have a1 : (p * U p q (n + 1)).natAbs ≤ 9 * 46 ^ (n + 1) := by rw [Int.natAbs_mul]; exact Nat.mul_le_mul hp h1
    have a2 : (q * U p q n).natAbs ≤ 37 * 46 ^ n := by rw [Int.natAbs_mul]; exact Nat.mul_le_mul hq h2
    have a3 : 46 ^ (n + 1) = 46 * 46 ^ n := by rw [Nat.pow_succ, Nat.mul_comm]
    have a4 : 46 ^ (n + 2) = 46 * (46 * 46 ^ n) := by rw [Nat.pow_succ, a3, Nat.mul_comm]
    rw [a3] at a1
    rw [a4]
    omega

--needs: 10 20 24 26 30 32 34 36 37 43 45
theorem md32 : True := trivial
/- what a book holds: for each place its two entries, in the places' order -/
noncomputable def pairs (c m : Nat) (p q : Int) (ord : List Nat) : List (List Nat × List Nat) := ord.flatMap fun j => [(nm j c, wr m (U p q j)), (nm j c, wr m (U p q (j + 1)))]
noncomputable def Holds (c m : Nat) (p q : Int) (ord : List Nat) (es : List Ent) : Prop := es.map (fun e => (e.n, e.v)) = pairs c m p q ord
theorem nm_beq (j k d : Nat) : (nm j d == nm k d) = decide (j = k) := by
  rw [Bool.eq_iff_iff]
  simp only [beq_iff_eq, decide_eq_true_eq]
  exact ⟨nm_inj, fun h => h ▸ rfl⟩
theorem pairs_filter {c m k : Nat} {p q : Int} : ∀ {ord : List Nat}, ord.Nodup → (pairs c m p q ord).filter (fun x => x.1.map lo1 == nm k (lo1 c)) = if k ∈ ord then [(nm k c, wr m (U p q k)), (nm k c, wr m (U p q (k + 1)))] else []
  | [], _ => rfl
  | j :: r, h => by
    obtain ⟨h1, h2⟩ := List.nodup_cons.mp h
    have ih := pairs_filter (c := c) (m := m) (k := k) (p := p) (q := q) h2
    have e : pairs c m p q (j :: r) = (nm j c, wr m (U p q j)) :: (nm j c, wr m (U p q (j + 1))) :: pairs c m p q r := rfl
    rw [e, List.filter_cons, List.filter_cons, ih]
    have e2 : (((nm j c).map lo1) == nm k (lo1 c)) = decide (j = k) := by rw [nm_map rfl, nm_beq]
    simp only [e2]
    by_cases hjk : j = k
    · subst hjk
      simp [h1]
    · simp [hjk, Ne.symm hjk]
theorem holds_filter {c m k : Nat} {p q : Int} {ord : List Nat} {es : List Ent} (H : Holds c m p q ord es) (hn : ord.Nodup) :
    (es.filter fun e => e.n.map lo1 == nm k (lo1 c)).map (fun e => (e.n, e.v)) = if k ∈ ord then [(nm k c, wr m (U p q k)), (nm k c, wr m (U p q (k + 1)))] else [] := by
  rw [← pairs_filter hn, ← H, List.filter_map]
  rfl
theorem holds_two {c m k : Nat} {p q : Int} {ord : List Nat} {es : List Ent} (H : Holds c m p q ord es) (hn : ord.Nodup) (hk : k ∈ ord) :
    ∃ e1 e2, (es.filter fun e => e.n.map lo1 == nm k (lo1 c)) = [e1, e2] ∧ e1.v = wr m (U p q k) ∧ e2.v = wr m (U p q (k + 1)) ∧ es.find? (fun e => e.n.map lo1 == nm k (lo1 c)) = some e1 := by
  have h := holds_filter (k := k) H hn
  rw [if_pos hk] at h
  obtain ⟨e1, l1, h1, h2, h3⟩ := List.map_eq_cons_iff.mp h
  obtain ⟨e2, l2, h4, h5, h6⟩ := List.map_eq_cons_iff.mp h3
  have h7 := List.map_eq_nil_iff.mp h6
  subst h7 h4
  refine ⟨e1, e2, h1, (Prod.mk.inj h2).2, (Prod.mk.inj h5).2, ?_⟩
  rw [← List.head?_filter, h1]
  rfl
theorem holds_none {c m k : Nat} {p q : Int} {ord : List Nat} {es : List Ent} (H : Holds c m p q ord es) (hn : ord.Nodup) (hk : k ∉ ord) :
    es.find? (fun e => e.n.map lo1 == nm k (lo1 c)) = none := by
  have h := holds_filter (k := k) H hn
  rw [if_neg hk] at h
  rw [← List.head?_filter, List.map_eq_nil_iff.mp h]
  rfl
theorem holds_find {c m k : Nat} {p q : Int} {ord : List Nat} {es : List Ent} (H : Holds c m p q ord es) (hn : ord.Nodup) :
    (es.find? (fun e => e.n.map lo1 == nm k (lo1 c))).isSome = decide (k ∈ ord) := by
  by_cases hk : k ∈ ord
  · obtain ⟨e1, e2, _, _, _, h⟩ := holds_two H hn hk
    rw [h]; simp [hk]
  · rw [holds_none H hn hk]; simp [hk]
/- the bounds under which the law's numbers lie -/
structure Small (c m : Nat) (p q : Int) : Prop where
  c : Letter c
  m : Mark m
  p : p.natAbs ≤ 9
  q : q.natAbs ≤ 37
theorem Small.dg {c m : Nat} {p q : Int} (H : Small c m p q) {n : Nat} (hn : n ≤ 40) : (dg (U p q n)).length ≤ 81 := by
  refine dg_len (k := 80) (by omega) (Nat.lt_of_le_of_lt (U_bound H.p H.q n) ?_)
  exact Nat.lt_of_le_of_lt (Nat.pow_le_pow_right (by omega) hn) (by decide +kernel)
theorem Small.log {c m : Nat} {p q : Int} (H : Small c m p q) {n : Nat} (hn : n ≤ 40) : (U p q n).natAbs.log2 < 1920 := by
  by_cases h0 : (U p q n).natAbs = 0
  · rw [h0]; decide
  · refine (Nat.log2_lt h0).mpr ?_
    exact Nat.lt_of_le_of_lt (Nat.le_trans (U_bound H.p H.q n) (Nat.pow_le_pow_right (by omega) hn)) (by decide +kernel)
/- the order of a book's places after a place is asked for -/
noncomputable def grow (ord : List Nat) (k : Nat) : List Nat :=
  if k ∈ ord then ord else if h : k = 0 then ord ++ [0] else grow ord (k / 2) ++ [k]
termination_by k
decreasing_by omega
theorem grow_mem {ord : List Nat} {k : Nat} : ∀ {j}, j ∈ grow ord k → j ∈ ord ∨ j ≤ k := by
  induction k using Nat.strongRecOn with
  | _ k ih =>
    intro j hj
    rw [grow] at hj
    split at hj
    · exact .inl hj
    · split at hj
      · rcases List.mem_append.mp hj with h | h
        · exact .inl h
        · simp at h; omega
      · rename_i h0
        rcases List.mem_append.mp hj with h | h
        · rcases ih (k / 2) (by omega) h with h | h
          · exact .inl h
          · exact .inr (by omega)
        · simp at h; omega
theorem grow_self (ord : List Nat) (k : Nat) : k ∈ grow ord k := by
  rw [grow]
  split
  · assumption
  · split
    · rename_i h; simp [h]
    · simp
theorem grow_sub {ord : List Nat} {k : Nat} : ∀ {j}, j ∈ ord → j ∈ grow ord k := by
  induction k using Nat.strongRecOn with
  | _ k ih =>
    intro j hj
    rw [grow]
    split
    · exact hj
    · split
      · exact List.mem_append_left _ hj
      · rename_i h0
        exact List.mem_append_left _ (ih (k / 2) (by omega) hj)
theorem grow_nodup {ord : List Nat} (hn : ord.Nodup) : ∀ k, (grow ord k).Nodup := by
  intro k
  induction k using Nat.strongRecOn with
  | _ k ih =>
    rw [grow]
    split
    · exact hn
    · rename_i hk
      split
      · rename_i h0
        subst h0
        exact List.nodup_append.mpr ⟨hn, by simp, by simp; intro a ha e; exact hk (e ▸ ha)⟩
      · rename_i h0
        refine List.nodup_append.mpr ⟨ih (k / 2) (by omega), by simp, ?_⟩
        simp
        intro a ha e
        subst e
        rcases grow_mem ha with h | h
        · exact hk h
        · omega
theorem holds_more {c m k : Nat} {p q : Int} {ord : List Nat} {es : List Ent} (H : Holds c m p q ord es) (a b : Ent) (h1 : a.n = nm k c) (h2 : a.v = wr m (U p q k)) (h3 : b.n = nm k c) (h4 : b.v = wr m (U p q (k + 1))) :
    Holds c m p q (ord ++ [k]) (es ++ [a] ++ [b]) := by
  unfold Holds at *
  rw [List.map_append, List.map_append, H]
  simp [pairs, h1, h2, h3, h4]

--needs: 10 37 42
-- what stands ahead of a book's objects in a ledger is moved behind them, and back
section
variable {h₀ h : Heap} {L : Addr} {w : World} {tok : Tok} {b bd gl : Addr} {es : List Ent} {k : Nat} {rest : List (Addr × Obj)} {x1 x2 x3 x4 x5 x6 : Addr × Obj}
theorem md33 : True := trivial
theorem book_of {pre : List (Addr × Obj)} (N : News h₀ L h (pre ++ book w tok b bd gl es k rest)) : News h₀ L h (book w tok b bd gl es k (pre ++ rest)) :=
  have B := nwR N
  have T := nwT (nwT (nwT B))
  nwC B (nwC (nwT B) (nwC (nwT (nwT B)) (nwA (nwL T) (nwA (nwL N) (nwR T)))))
theorem book_to {pre : List (Addr × Obj)} (N : News h₀ L h (book w tok b bd gl es k (pre ++ rest))) : News h₀ L h (pre ++ book w tok b bd gl es k rest) :=
  have T := nwT (nwT (nwT N))
  nwA (nwL (nwR T)) (nwC N (nwC (nwT N) (nwC (nwT (nwT N)) (nwA (nwL T) (nwR (nwR T))))))
theorem front1 (N : News h₀ L h (x1 :: book w tok b bd gl es k rest)) : News h₀ L h (book w tok b bd gl es k (x1 :: rest)) := book_of (pre := [x1]) N
theorem front2 (N : News h₀ L h (x1 :: x2 :: book w tok b bd gl es k rest)) : News h₀ L h (book w tok b bd gl es k (x1 :: x2 :: rest)) := book_of (pre := [x1, x2]) N
theorem front3 (N : News h₀ L h (x1 :: x2 :: x3 :: book w tok b bd gl es k rest)) : News h₀ L h (book w tok b bd gl es k (x1 :: x2 :: x3 :: rest)) := book_of (pre := [x1, x2, x3]) N
theorem front4 (N : News h₀ L h (x1 :: x2 :: x3 :: x4 :: book w tok b bd gl es k rest)) : News h₀ L h (book w tok b bd gl es k (x1 :: x2 :: x3 :: x4 :: rest)) := book_of (pre := [x1, x2, x3, x4]) N
theorem front5 (N : News h₀ L h (x1 :: x2 :: x3 :: x4 :: x5 :: book w tok b bd gl es k rest)) : News h₀ L h (book w tok b bd gl es k (x1 :: x2 :: x3 :: x4 :: x5 :: rest)) := book_of (pre := [x1, x2, x3, x4, x5]) N
theorem front6 (N : News h₀ L h (x1 :: x2 :: x3 :: x4 :: x5 :: x6 :: book w tok b bd gl es k rest)) : News h₀ L h (book w tok b bd gl es k (x1 :: x2 :: x3 :: x4 :: x5 :: x6 :: rest)) := book_of (pre := [x1, x2, x3, x4, x5, x6]) N
theorem back1 (N : News h₀ L h (book w tok b bd gl es k (x1 :: rest))) : News h₀ L h (x1 :: book w tok b bd gl es k rest) := book_to (pre := [x1]) N
theorem backD1 {d : Addr × Obj} (N : News h₀ L h (d :: book w tok b bd gl es k (x1 :: rest))) : News h₀ L h (d :: x1 :: book w tok b bd gl es k rest) := fun p hp => by
  rcases List.mem_cons.mp hp with rfl | hp
  · exact N _ (.head _)
  · exact back1 (fun q hq => N q (.tail _ hq)) p hp
theorem backD2 {d e : Addr × Obj} (N : News h₀ L h (d :: e :: book w tok b bd gl es k (x1 :: rest))) : News h₀ L h (d :: e :: x1 :: book w tok b bd gl es k rest) := fun p hp => by
  rcases List.mem_cons.mp hp with rfl | hp
  · exact N _ (.head _)
  · exact backD1 (fun q hq => N q (.tail _ hq)) p hp
theorem backD3 {d e f : Addr × Obj} (N : News h₀ L h (d :: e :: f :: book w tok b bd gl es k (x1 :: rest))) : News h₀ L h (d :: e :: f :: x1 :: book w tok b bd gl es k rest) := fun p hp => by
  rcases List.mem_cons.mp hp with rfl | hp
  · exact N _ (.head _)
  · exact backD2 (fun q hq => N q (.tail _ hq)) p hp
theorem backD4 {d e f g : Addr × Obj} (N : News h₀ L h (d :: e :: f :: g :: book w tok b bd gl es k (x1 :: rest))) : News h₀ L h (d :: e :: f :: g :: x1 :: book w tok b bd gl es k rest) := fun p hp => by
  rcases List.mem_cons.mp hp with rfl | hp
  · exact N _ (.head _)
  · exact backD3 (fun q hq => N q (.tail _ hq)) p hp
theorem backD5 {d e f g i : Addr × Obj} (N : News h₀ L h (d :: e :: f :: g :: i :: book w tok b bd gl es k (x1 :: rest))) : News h₀ L h (d :: e :: f :: g :: i :: x1 :: book w tok b bd gl es k rest) := fun p hp => by
  rcases List.mem_cons.mp hp with rfl | hp
  · exact N _ (.head _)
  · exact backD4 (fun q hq => N q (.tail _ hq)) p hp
theorem backD6 {d e f g i j : Addr × Obj} (N : News h₀ L h (d :: e :: f :: g :: i :: j :: book w tok b bd gl es k (x1 :: rest))) : News h₀ L h (d :: e :: f :: g :: i :: j :: x1 :: book w tok b bd gl es k rest) := fun p hp => by
  rcases List.mem_cons.mp hp with rfl | hp
  · exact N _ (.head _)
  · exact backD5 (fun q hq => N q (.tail _ hq)) p hp
theorem Apart.more {x : Addr × Obj} (H : Apart b bd gl es rest) (h : x.1 ≠ gl) : Apart b bd gl es (x :: rest) := ⟨H.b, H.bd, fun p hp => by
  rcases List.mem_append.mp hp with h' | h'
  · exact H.es p (List.mem_append_left _ h')
  · rcases List.mem_cons.mp h' with rfl | h'
    · exact h
    · exact H.es p (List.mem_append_right _ h')⟩
theorem Apart.less {x : Addr × Obj} (H : Apart b bd gl es (x :: rest)) : Apart b bd gl es rest := ⟨H.b, H.bd, fun p hp => by
  rcases List.mem_append.mp hp with h' | h'
  · exact H.es p (List.mem_append_left _ h')
  · exact H.es p (List.mem_append_right _ (.tail _ h'))⟩
theorem Apart.ent {e : Ent} (H : Apart b bd gl es rest) (h : @Ne Nat e.a gl) : Apart b bd gl (es ++ [e]) rest := ⟨H.b, H.bd, fun p hp => by
  rw [List.map_append] at hp
  rcases List.mem_append.mp hp with h' | h'
  · rcases List.mem_append.mp h' with h' | h'
    · exact H.es p (List.mem_append_left _ h')
    · rw [List.mem_singleton.mp h']; exact h
  · exact H.es p (List.mem_append_right _ h')⟩
end

--needs: 10 11 12 20 21 22 24 26 30 32 34 36 37 38 39 40 41 42 43 44 45 46 47
theorem md34 : True := trivial
theorem holds_len {c m : Nat} {p q : Int} {ord : List Nat} {es : List Ent} (H : Holds c m p q ord es) : es.length = 2 * ord.length := by
  have := congrArg List.length H
  rw [List.length_map] at this
  rw [this]
  induction ord with
  | nil => rfl
  | cons a r ih =>
    show (_ :: _ :: (pairs c m p q r)).length = _
    have e : (pairs c m p q r).length = 2 * r.length := by
      clear ih this H
      induction r with
      | nil => rfl
      | cons a r ih => show (_ :: _ :: (pairs c m p q r)).length = _; simp [ih]; omega
    simp [e]; omega
theorem grow_len (ord : List Nat) (k : Nat) : (grow ord k).length ≤ ord.length + k + 1 := by
  induction k using Nat.strongRecOn with
  | _ k ih =>
    rw [grow]
    split
    · omega
    · split
      · simp
      · have := ih (k / 2) (by omega)
        simp; omega
theorem fine_add {es : List Ent} {e : Ent} (H : Fine es) (h1 : ∀ c ∈ e.n, 32 ≤ c ∧ c < 127) (h2 : ∀ c ∈ e.v, 32 ≤ c ∧ c < 127) (h3 : e.n.length ≤ 9000) (h4 : e.v.length ≤ 9000) (h5 : es.length + 1 ≤ 5000) : Fine (es ++ [e]) := by
  refine ⟨?_, ?_, ?_, ?_, by simpa using h5⟩
  all_goals
    intro x hx
    rcases List.mem_append.mp hx with h | h
  · exact H.n x h
  · rw [List.mem_singleton.mp h]; exact h1
  · exact H.v x h
  · rw [List.mem_singleton.mp h]; exact h2
  · exact H.nl x h
  · rw [List.mem_singleton.mp h]; exact h3
  · exact H.vl x h
  · rw [List.mem_singleton.mp h]; exact h4
/- the contract of _law_two at a place -/
noncomputable def TwoC (w : World) (mean : ExcName → Option Value) (mg mb : Str → Option Value) (c m : Nat) (p q : Int) (k : Nat) : Prop :=
  ∀ (tok tn tl tm tp tq : Tok) (b bd gl : Addr) (es : List Ent) (kk : Nat) (rest : List (Addr × Obj)) (ord : List Nat), Holds c m p q ord es → ord.Nodup → 0 ∈ ord → ord.length + k ≤ 1000 → Fine es → Apart b bd gl es rest →
    Does w mean mg mb (14 + 4 * k) (.ref 357) [.ref b, .str (S (nm k c)) tn, .str (S [c]) tl, .str (S [m]) tm, .int p tp, .int q tq] [] (book w tok b bd gl es kk rest)
      (fun v tl => ∃ D t1 t2 es' kk', v = .ref D ∧ tl = (D, LCg.lst [.int (U p q k) t1, .int (U p q (k + 1)) t2]) :: book w tok b bd gl es' kk' rest ∧ Holds c m p q (grow ord k) es' ∧ Fine es' ∧ Apart b bd gl es' rest ∧ @Ne Nat D gl)
section
theorem md35 : True := trivial
theorem lenA : (Str.ofString "229 )").length = 5 ∧ (Str.ofString ")").length = 1 ∧ (Str.ofString "257 \"").length = 5 ∧ (Str.ofString "\" \"").length = 3 := ⟨rfl, rfl, rfl, rfl⟩
theorem txt229 {m : Nat} {n : Int} {v : List Nat} (h : v = wr m n) : Str.ofString "229 )" ++ S v ++ Str.ofString ")" = S (l229 m n) := by
  rw [show Str.ofString "229 )" = S [50, 50, 57, 32, 41] from rfl, show Str.ofString ")" = S [41] from rfl, S_app, S_app, h]
  rfl
theorem md36 : True := trivial
open LCg in
theorem end2 {h₀ : Heap} {L I C D : Addr} {m : Str → Option Value} {s₁ : Shared} {oI oC oD : Obj} {S : List (Addr × Obj) → Prop} {rest : Value → List (Addr × Obj) → Prop} {y : Value} {h' : Heap} {tk : Nat} {x1 x2 : Addr × Obj} {news : List (Addr × Obj)}
    (F : Fr h₀ L h' m) (N : News h₀ L h' (x1 :: x2 :: (I, oI) :: (C, oC) :: (D, oD) :: news)) (off : Off3 I C D news) (n1 : (@Ne Nat x1.1 I) ∧ (@Ne Nat x1.1 C) ∧ (@Ne Nat x1.1 D)) (n2 : (@Ne Nat x2.1 I) ∧ (@Ne Nat x2.1 C) ∧ (@Ne Nat x2.1 D))
    (hS : S (x1 :: x2 :: news)) (r : rest y (x1 :: x2 :: news)) : CompEnd h₀ L m s₁ I oI C oC D oD S rest y { s₁ with heap := h', toks := tk } :=
  CompEnd.intro F N (x1 :: x2 :: news) (fun p hp => by simp only [List.mem_cons] at hp ⊢; rcases hp with h | h | h | h | h | h <;> simp [h]) ⟨n1, n2, off⟩ hS r
theorem md37 : True := trivial
theorem sw1_lt {c : Nat} (hc : Letter c) : sw1 c < 127 := by rcases hc with rfl | rfl | rfl | rfl <;> decide +kernel
noncomputable section
theorem md38 : True := trivial
noncomputable def Px48 (bb : Bd) (c : Nat) (m : Nat) (p : Int) (q : Int) (k : Nat) (tok : Tok) (tn : Tok) (tl : Tok) (tm : Tok) (tp : Tok) (tq : Tok) (b : Addr) (bd : Addr) (gl : Addr) (es : List Ent) (kk : Nat) (rest : List (Addr × Obj)) (ord : List Nat) (o1 : Obj) (o2 : Obj) : Prop :=
  Small c m p q → k ≤ 21 → Holds c m p q ord es → ord.Nodup → k ∈ ord → Fine es → Apart b bd gl es rest → o1.data = .cell (some (.str (S (nm k c)) tn)) → o2.data = .cell (some (.str (S [m]) tm)) → (∀ p ∈ book (bw bb) tok b bd gl es kk rest, p.1 < bL bb) →
  BodyC bb (13 + 4 * k) 357 [("book", .ref b), ("name", .str (S (nm k c)) tn), ("letter", .str (S [c]) tl), ("mark", .str (S [m]) tm), ("p", .int p tp), ("q", .int q tq)] ((bL bb + 1 + 1, o2) :: (bL bb + 1, o1) :: book (bw bb) tok b bd gl es kk rest)
    (fun v tl => ∃ D t1 t2, v = .ref D ∧ tl = (D, LCg.lst [.int (U p q k) t1, .int (U p q (k + 1)) t2]) :: book (bw bb) tok b bd gl es kk rest ∧ @Ne Nat D gl)
theorem ne48 : Nonempty (Bd × Nat × Nat × Int × Int × Nat × Tok × Tok × Tok × Tok × Tok × Tok × Addr × Addr × Addr × (List Ent) × Nat × (List (Addr × Obj)) × (List Nat) × Obj × Obj) := bd_ne.elim fun bb => ⟨(bb, 0, 0, 0, 0, 0, 0, 0, 0, 0, 0, 0, 0, 0, 0, [], 0, [], [], default, default)⟩
@[irreducible] noncomputable def D48 : Bd × Nat × Nat × Int × Int × Nat × Tok × Tok × Tok × Tok × Tok × Tok × Addr × Addr × Addr × (List Ent) × Nat × (List (Addr × Obj)) × (List Nat) × Obj × Obj := @Classical.epsilon _ ne48 fun d => ¬ Px48 d.1 d.2.1 d.2.2.1 d.2.2.2.1 d.2.2.2.2.1 d.2.2.2.2.2.1 d.2.2.2.2.2.2.1 d.2.2.2.2.2.2.2.1 d.2.2.2.2.2.2.2.2.1 d.2.2.2.2.2.2.2.2.2.1 d.2.2.2.2.2.2.2.2.2.2.1 d.2.2.2.2.2.2.2.2.2.2.2.1 d.2.2.2.2.2.2.2.2.2.2.2.2.1 d.2.2.2.2.2.2.2.2.2.2.2.2.2.1 d.2.2.2.2.2.2.2.2.2.2.2.2.2.2.1 d.2.2.2.2.2.2.2.2.2.2.2.2.2.2.2.1 d.2.2.2.2.2.2.2.2.2.2.2.2.2.2.2.2.1 d.2.2.2.2.2.2.2.2.2.2.2.2.2.2.2.2.2.1 d.2.2.2.2.2.2.2.2.2.2.2.2.2.2.2.2.2.2.1 d.2.2.2.2.2.2.2.2.2.2.2.2.2.2.2.2.2.2.2.1 d.2.2.2.2.2.2.2.2.2.2.2.2.2.2.2.2.2.2.2.2
namespace V48
@[irreducible] noncomputable def bb : Bd := D48.1
@[irreducible] noncomputable def c : Nat := D48.2.1
@[irreducible] noncomputable def m : Nat := D48.2.2.1
@[irreducible] noncomputable def p : Int := D48.2.2.2.1
@[irreducible] noncomputable def q : Int := D48.2.2.2.2.1
@[irreducible] noncomputable def k : Nat := D48.2.2.2.2.2.1
@[irreducible] noncomputable def tok : Tok := D48.2.2.2.2.2.2.1
@[irreducible] noncomputable def tn : Tok := D48.2.2.2.2.2.2.2.1
@[irreducible] noncomputable def tl : Tok := D48.2.2.2.2.2.2.2.2.1
@[irreducible] noncomputable def tm : Tok := D48.2.2.2.2.2.2.2.2.2.1
@[irreducible] noncomputable def tp : Tok := D48.2.2.2.2.2.2.2.2.2.2.1
@[irreducible] noncomputable def tq : Tok := D48.2.2.2.2.2.2.2.2.2.2.2.1
@[irreducible] noncomputable def b : Addr := D48.2.2.2.2.2.2.2.2.2.2.2.2.1
@[irreducible] noncomputable def bd : Addr := D48.2.2.2.2.2.2.2.2.2.2.2.2.2.1
@[irreducible] noncomputable def gl : Addr := D48.2.2.2.2.2.2.2.2.2.2.2.2.2.2.1
@[irreducible] noncomputable def es : List Ent := D48.2.2.2.2.2.2.2.2.2.2.2.2.2.2.2.1
@[irreducible] noncomputable def kk : Nat := D48.2.2.2.2.2.2.2.2.2.2.2.2.2.2.2.2.1
@[irreducible] noncomputable def rest : List (Addr × Obj) := D48.2.2.2.2.2.2.2.2.2.2.2.2.2.2.2.2.2.1
@[irreducible] noncomputable def ord : List Nat := D48.2.2.2.2.2.2.2.2.2.2.2.2.2.2.2.2.2.2.1
@[irreducible] noncomputable def o1 : Obj := D48.2.2.2.2.2.2.2.2.2.2.2.2.2.2.2.2.2.2.2.1
@[irreducible] noncomputable def o2 : Obj := D48.2.2.2.2.2.2.2.2.2.2.2.2.2.2.2.2.2.2.2.2
end V48
end
theorem ep48 (h : Px48 V48.bb V48.c V48.m V48.p V48.q V48.k V48.tok V48.tn V48.tl V48.tm V48.tp V48.tq V48.b V48.bd V48.gl V48.es V48.kk V48.rest V48.ord V48.o1 V48.o2) (bb : Bd) (c : Nat) (m : Nat) (p : Int) (q : Int) (k : Nat) (tok : Tok) (tn : Tok) (tl : Tok) (tm : Tok) (tp : Tok) (tq : Tok) (b : Addr) (bd : Addr) (gl : Addr) (es : List Ent) (kk : Nat) (rest : List (Addr × Obj)) (ord : List Nat) (o1 : Obj) (o2 : Obj) : Px48 bb c m p q k tok tn tl tm tp tq b bd gl es kk rest ord o1 o2 := eps_at (P := fun d : Bd × Nat × Nat × Int × Int × Nat × Tok × Tok × Tok × Tok × Tok × Tok × Addr × Addr × Addr × (List Ent) × Nat × (List (Addr × Obj)) × (List Nat) × Obj × Obj => Px48 d.1 d.2.1 d.2.2.1 d.2.2.2.1 d.2.2.2.2.1 d.2.2.2.2.2.1 d.2.2.2.2.2.2.1 d.2.2.2.2.2.2.2.1 d.2.2.2.2.2.2.2.2.1 d.2.2.2.2.2.2.2.2.2.1 d.2.2.2.2.2.2.2.2.2.2.1 d.2.2.2.2.2.2.2.2.2.2.2.1 d.2.2.2.2.2.2.2.2.2.2.2.2.1 d.2.2.2.2.2.2.2.2.2.2.2.2.2.1 d.2.2.2.2.2.2.2.2.2.2.2.2.2.2.1 d.2.2.2.2.2.2.2.2.2.2.2.2.2.2.2.1 d.2.2.2.2.2.2.2.2.2.2.2.2.2.2.2.2.1 d.2.2.2.2.2.2.2.2.2.2.2.2.2.2.2.2.2.1 d.2.2.2.2.2.2.2.2.2.2.2.2.2.2.2.2.2.2.1 d.2.2.2.2.2.2.2.2.2.2.2.2.2.2.2.2.2.2.2.1 d.2.2.2.2.2.2.2.2.2.2.2.2.2.2.2.2.2.2.2.2) (ne := ne48) (by with_unfolding_all exact h) (bb, c, m, p, q, k, tok, tn, tl, tm, tp, tq, b, bd, gl, es, kk, rest, ord, o1, o2)
section
open V48
theorem w48 : Px48 bb c m p q k tok tn tl tm tp tq b bd gl es kk rest ord o1 o2 := by
  intro sm hk H hn hko hf hs d1 d2 l1
  refine BodyC.start (by k_is) ?_
  intro St F N hPO hret hnx
  have X := St.X
  have T := St.T
  replace l1 := allLt_of l1
  have l2 := allLt_up l1
  have l3 := allLt_up l2
  have l4 := allLt_up l3
  (try simp only [AllLt, and_true] at l1)
  have hc := sm.c
  have hsw := sw_letter hc
  have hswl : sw1 c < 127 := sw1_lt hc
  have hsl : Txt.swapcase (S (nm k c)) = S (nm k (sw1 c)) := by rw [swap_S (nm_ascii hc), nm_map (by decide +kernel)]
  have g1 : ∀ x ∈ nm k (sw1 c), 32 ≤ x ∧ x < 127 := by
    intro x hx
    rcases List.mem_append.mp hx with h | h
    · have := List.eq_of_mem_replicate h; omega
    · have := List.mem_singleton.mp h; omega
  have g2 : (nm k (sw1 c)).length ≤ 9000 := by rw [nm_length]; omega
  have g3 : (nm k (sw1 c)).map lo1 = nm k (lo1 c) := by rw [nm_map rfl, hsw.1]
  have g4 : (nm k c).length ≤ 9000 := by rw [nm_length]; omega
  have hfd := holds_find (k := k) H hn
  obtain ⟨e1, e2, hfl, hv1, hv2, hfi⟩ := holds_two H hn hko
  have hgot : got es (nm k (lo1 c)) = .str (S e1.v) e1.tv := by simp only [got, hfi]
  k_with "my text" => (wtm_at "?34-38"; (rw [hsl]))
  k_with "my ite" => (wtm_at "?34-38"; first | (refine ite_neg (by rw [hfd]; simp [hko]) ?_) | (refine ite_neg (by simp) ?_) | (refine ite_pos (by simp) ?_))
  k_with "my led" => (wtm_at "?34-38"; (rename News _ _ _ _ => NN; rw [hfl] at NN; simp only [List.map_cons, List.map_nil] at NN))
  k_with "my val" => (wtm_at "?34-38"; (rw [hgot]))
  k_with "my 229" => (wtm_at "?34-38"; first | rw [txt229 hv1] | rw [txt229 hv2])
  have hmk := sm.m
  have hd1 : (dg (U p q k)).length ≤ 600 := Nat.le_trans (sm.dg (by omega)) (by decide)
  have hd2 : (dg (U p q (k + 1))).length ≤ 600 := Nat.le_trans (sm.dg (by omega)) (by decide)
  have hel1 : e1.v.length ≤ 1000 := by rw [hv1, wr_length]; omega
  have hel2 : e2.v.length ≤ 1000 := by rw [hv2, wr_length]; omega
  k_steps
  refine ⟨?_⟩
  refine pair_comp (by k_asm) rfl (by with_unfolding_all rfl) (by decide) (by rfl) (by decide) (by rfl) (by rfl) (by decide) ?_
  k_steps
  refine PairSrc.intro (its := [_, _]) (by k_asm) (by k_asm) (by kcj_m) (by simp) ?_
  refine PairRest.cons (by kcj_m) ?_
  intro oC C D mC hh tkk E' hC ha hb F₁ N₁
  k_steps
  all_goals try (exfalso; rename (_ == _) = false => hbad; simp at hbad; done)
  refine PairEnd.intro (by k_asm) (fun _ _ e => e) ?_
  refine PairRest.cons (by kcj_m) ?_
  clear hC ha hb F₁ N₁
  clear oC C D mC hh tkk E'
  intro oC C D mC hh tkk E' hC ha hb F₁ N₁
  k_steps
  all_goals try (exfalso; rename (_ == _) = false => hbad; simp at hbad; done)
  refine PairEnd.intro (by k_asm) (fun _ _ e => e) ?_
  refine PairRest.nil ?_
  clear hC ha hb F₁ N₁
  clear oC C D mC hh tkk E'
  intro D hh tkk F₁ N₁ off
  k_steps
  exact hret _ _ _ _ _ (by k_asm) (News.sub (by k_asm) (by kcj_in)) ⟨D, _, _, rfl, rfl, fun e => off (gl, listOf (refs es).toArray kk) (by kcj_m) e.symm⟩
end
theorem two_old {w : World} {mean : ExcName → Option Value} {mg mb : Str → Option Value} {c m : Nat} {p q : Int} {k : Nat} (sm : Small c m p q) (hk : k ≤ 21)
    (tok tn tl tm tp tq : Tok) (b bd gl : Addr) (es : List Ent) (kk : Nat) (rest : List (Addr × Obj)) (ord : List Nat) (H : Holds c m p q ord es) (hn : ord.Nodup) (hko : k ∈ ord) (hf : Fine es) (hs : Apart b bd gl es rest) :
    Does w mean mg mb (14 + 4 * k) (.ref 357) [.ref b, .str (S (nm k c)) tn, .str (S [c]) tl, .str (S [m]) tm, .int p tp, .int q tq] [] (book w tok b bd gl es kk rest)
      (fun v tl => ∃ D t1 t2, v = .ref D ∧ tl = (D, LCg.lst [.int (U p q k) t1, .int (U p q (k + 1)) t2]) :: book w tok b bd gl es kk rest ∧ @Ne Nat D gl) := by
  refine does_as (n := 13 + 4 * k + 1) (by omega) (Does.of_bodyC (binds := [("book", .ref b), ("name", .str (S (nm k c)) tn), ("letter", .str (S [c]) tl), ("mark", .str (S [m]) tm), ("p", .int p tp), ("q", .int q tq)]) (by k_is) (by k_is) (fun s _ => BindsTo.of_eq rfl) (by rfl) (by decide +kernel) rfl rfl rfl ?_)
  intro bb cells Y l1 e1 e2 e3 e4
  obtain ⟨o2, o1, rfl, d2, d1⟩ := CellsAre.two Y
  subst e1
  exact ep48 w48 bb c m p q k tok tn tl tm tp tq b bd gl es kk rest ord o1 o2 sm hk H hn hko hf hs d1 d2 l1
end

--needs: 10 11 12 20 21 22 24 26 30 32 34 36 37 38 39 40 41 42 43 44 45 46 47 48
theorem md39 : True := trivial
theorem txt257 (k c : Nat) : Str.ofString "257 \"" ++ S (nm k c) ++ Str.ofString "\" \"" ++ S [c] = S (l257 k c) := by
  rw [show Str.ofString "257 \"" = S [50, 53, 55, 32, 34] from rfl, show Str.ofString "\" \"" = S [34, 32, 34] from rfl, S_app, S_app, S_app]
  simp [l257]
theorem lt_pow_mul {a b : Int} {i j : Nat} (ha : a.natAbs < 2 ^ i) (hb : b.natAbs < 2 ^ j) : (a * b).natAbs < 2 ^ (i + j) := by
  rw [Int.natAbs_mul, Nat.pow_add]
  exact Nat.mul_lt_mul'' ha hb
theorem lt_pow_up {a : Int} {i j : Nat} (h : a.natAbs < 2 ^ i) (hij : i ≤ j) : a.natAbs < 2 ^ j := Nat.lt_of_lt_of_le h (Nat.pow_le_pow_right (by omega) hij)
theorem lt_pow_sub {a b : Int} {i : Nat} (ha : a.natAbs < 2 ^ i) (hb : b.natAbs < 2 ^ i) : (a - b).natAbs < 2 ^ (i + 1) := by
  rw [Nat.pow_succ]; omega
theorem lt_pow_add {a b : Int} {i : Nat} (ha : a.natAbs < 2 ^ i) (hb : b.natAbs < 2 ^ i) : (a + b).natAbs < 2 ^ (i + 1) := by
  rw [Nat.pow_succ]; omega
theorem Small.ub {c m : Nat} {p q : Int} (H : Small c m p q) {n : Nat} (hn : n ≤ 40) : (U p q n).natAbs < 2 ^ 222 :=
  Nat.lt_of_le_of_lt (Nat.le_trans (U_bound H.p H.q n) (Nat.pow_le_pow_right (by omega) hn)) (by decide +kernel)
structure Muls (p q a b : Int) : Prop where
  m1 : IntMulOk p a
  m2 : IntMulOk a (b + (b - p * a))
  m3 : IntMulOk b b
  m4 : IntMulOk a a
  m5 : IntMulOk q (a * a)
  m6 : IntMulOk p (b * b - q * (a * a))
  m7 : IntMulOk q (a * (b + (b - p * a)))
theorem Small.muls {c m : Nat} {p q : Int} (H : Small c m p q) {n : Nat} (hn : n ≤ 30) : Muls p q (U p q n) (U p q (n + 1)) := by
  have ha := H.ub (n := n) (by omega)
  have hb := H.ub (n := n + 1) (by omega)
  have hp : p.natAbs < 2 ^ 8 := Nat.lt_of_le_of_lt H.p (by decide)
  have hq : q.natAbs < 2 ^ 8 := Nat.lt_of_le_of_lt H.q (by decide)
  generalize U p q n = a at *
  generalize U p q (n + 1) = b at *
  have e1 := lt_pow_mul hp ha
  have e2 := lt_pow_sub (lt_pow_up hb (j := 230) (by omega)) e1
  have e3 := lt_pow_add (lt_pow_up hb (j := 231) (by omega)) e2
  have e4 := lt_pow_mul ha e3
  have e5 := lt_pow_mul ha ha
  have e6 := lt_pow_mul hq e5
  have e7 := lt_pow_sub (lt_pow_up (lt_pow_mul hb hb) (j := 452) (by omega)) e6
  exact ⟨mul_ok (lt_pow_up hp (by omega)) (lt_pow_up ha (by omega)), mul_ok (lt_pow_up ha (by omega)) (lt_pow_up e3 (by omega)), mul_ok (lt_pow_up hb (by omega)) (lt_pow_up hb (by omega)),
    mul_ok (lt_pow_up ha (by omega)) (lt_pow_up ha (by omega)), mul_ok (lt_pow_up hq (by omega)) (lt_pow_up e5 (by omega)), mul_ok (lt_pow_up hp (by omega)) (lt_pow_up e7 (by omega)), mul_ok (lt_pow_up hq (by omega)) (lt_pow_up e4 (by omega))⟩
/- what the two numbers at a place are in those at its half -/
theorem num_e0 {p q : Int} {k : Nat} (h : k % 2 = 0) : U p q (k / 2) * (U p q (k / 2 + 1) + (U p q (k / 2 + 1) - p * U p q (k / 2))) = U p q k := by
  rw [U_double, show 2 * (k / 2) = k by omega]
theorem num_e1 {p q : Int} {k : Nat} (h : k % 2 = 0) : U p q (k / 2 + 1) * U p q (k / 2 + 1) - q * (U p q (k / 2) * U p q (k / 2)) = U p q (k + 1) := by
  rw [U_further, show 2 * (k / 2) = k by omega]
theorem num_o0 {p q : Int} {k : Nat} (h : k % 2 = 1) : U p q (k / 2 + 1) * U p q (k / 2 + 1) - q * (U p q (k / 2) * U p q (k / 2)) = U p q k := by
  rw [U_further, show 2 * (k / 2) + 1 = k by omega]
theorem num_o1 {p q : Int} {k : Nat} (h : k % 2 = 1) : p * (U p q (k / 2 + 1) * U p q (k / 2 + 1) - q * (U p q (k / 2) * U p q (k / 2))) - q * (U p q (k / 2) * (U p q (k / 2 + 1) + (U p q (k / 2 + 1) - p * U p q (k / 2)))) = U p q (k + 1) := by
  rw [U_double, U_further, ← U_step, show 2 * (k / 2) + 2 = k + 1 by omega]
theorem grow_new {ord : List Nat} {k : Nat} (h : k ∉ ord) (h0 : 0 ∈ ord) : grow ord k = grow ord (k / 2) ++ [k] := by
  rw [grow, if_neg h, dif_neg (show ¬ k = 0 from fun e => h (e ▸ h0))]
theorem iadd_text {w : World} {A : Around} {E : Value → Shared → Prop} {s : Shared} {x y : Str} {t u : Tok} {Q : Value → Shared → Prop} (hsz : x.length + y.length ≤ 16777216)
    (h : ∀ t' c, Q (.str (x ++ y) t') { s with toks := c }) : wpAny (model theProg w) A (inplaceOp .Add (.str x t) (.str y u)) Q E s :=
  SBL.iadd (fun t' c _ => h t' c) (by rw [sizeLine_eq]; omega)

--needs: 10 45
theorem md40 : True := trivial
theorem dvd_left_of {d a b : Int} (h : d ∣ a * b) (hg : Int.gcd d a = 1) : d ∣ b :=
  Int.natAbs_dvd_natAbs.mp (Nat.Coprime.dvd_of_dvd_mul_left (m := a.natAbs) hg (by rw [← Int.natAbs_mul]; exact Int.natAbs_dvd_natAbs.mpr h))
theorem dvd_right_of {d a b : Int} (h : d ∣ a * b) (hg : Int.gcd d b = 1) : d ∣ a := dvd_left_of (by rw [Int.mul_comm]; exact h) hg
/- what divides both -/
theorem U_cop_q {p q : Int} (h : ∀ d : Int, d ∣ p → d ∣ q → d ∣ 1) : ∀ (n : Nat) (d : Int), d ∣ U p q (n + 1) → d ∣ q → d ∣ 1
  | 0, d, h1, _ => h1
  | n + 1, d, h1, h2 => by
    -- d ∣ p * U (n+1), gcd(d, U (n+1)) = 1, so d ∣ p
    have h3 : d ∣ p * U p q (n + 1) := by
      have e : p * U p q (n + 1) = U p q (n + 1 + 1) + q * U p q n := by rw [U_step]; omega
      rw [e]
      exact Int.dvd_add h1 (Int.dvd_mul_of_dvd_left h2)
    have h4 : Int.gcd d (U p q (n + 1)) = 1 := by
      have a1 := U_cop_q h n (Int.gcd d (U p q (n + 1))) (Int.gcd_dvd_right ..) (Int.dvd_trans (Int.gcd_dvd_left ..) h2)
      exact Nat.dvd_one.mp (Int.natCast_dvd_natCast.mp a1)
    have h5 : d ∣ p := dvd_right_of h3 h4
    exact h d h5 h2
theorem U_cop {p q : Int} (h : ∀ d : Int, d ∣ p → d ∣ q → d ∣ 1) : ∀ (n : Nat) (d : Int), d ∣ U p q n → d ∣ U p q (n + 1) → d ∣ 1
  | 0, d, _, h2 => h2
  | n + 1, d, h1, h2 => by
    have h3 : d ∣ q * U p q n := by
      have e : q * U p q n = p * U p q (n + 1) - U p q (n + 1 + 1) := by rw [U_step]; omega
      rw [e]
      exact Int.dvd_sub (Int.dvd_mul_of_dvd_right h1) h2
    have h4 : Int.gcd d q = 1 := by
      have a1 := U_cop_q h n (Int.gcd d q) (Int.dvd_trans (Int.gcd_dvd_left ..) h1) (Int.gcd_dvd_right ..)
      exact Nat.dvd_one.mp (Int.natCast_dvd_natCast.mp a1)
    exact U_cop h n d (dvd_left_of h3 h4) h1
theorem U_shift {p q : Int} (h : ∀ d : Int, d ∣ p → d ∣ q → d ∣ 1) (m n : Nat) (d : Int) : (d ∣ U p q (m + n) ∧ d ∣ U p q n) ↔ (d ∣ U p q m ∧ d ∣ U p q n) := by
  cases n with
  | zero => simp [U]
  | succ n =>
    have e : U p q (m + (n + 1)) = U p q (m + 1) * U p q (n + 1) - q * (U p q m * U p q n) := U_add p q m n
    constructor
    · rintro ⟨h1, h2⟩
      refine ⟨?_, h2⟩
      have h3 : d ∣ q * (U p q m * U p q n) := by
        have e2 : q * (U p q m * U p q n) = U p q (m + 1) * U p q (n + 1) - U p q (m + (n + 1)) := by rw [e]; omega
        rw [e2]
        exact Int.dvd_sub (Int.dvd_mul_of_dvd_right h2) h1
      have g1 : Int.gcd d q = 1 := by
        have a1 := U_cop_q h n (Int.gcd d q) (Int.dvd_trans (Int.gcd_dvd_left ..) h2) (Int.gcd_dvd_right ..)
        exact Nat.dvd_one.mp (Int.natCast_dvd_natCast.mp a1)
      have g2 : Int.gcd d (U p q n) = 1 := by
        have a1 := U_cop h n (Int.gcd d (U p q n)) (Int.gcd_dvd_right ..) (Int.dvd_trans (Int.gcd_dvd_left ..) h2)
        exact Nat.dvd_one.mp (Int.natCast_dvd_natCast.mp a1)
      exact dvd_right_of (dvd_left_of h3 g1) g2
    · rintro ⟨h1, h2⟩
      refine ⟨?_, h2⟩
      rw [e]
      exact Int.dvd_sub (Int.dvd_mul_of_dvd_right h2) (Int.dvd_mul_of_dvd_right (Int.dvd_mul_of_dvd_left h1))
theorem U_dvd_gcd {p q : Int} (h : ∀ d : Int, d ∣ p → d ∣ q → d ∣ 1) (d : Int) : ∀ a b : Nat, (d ∣ U p q a ∧ d ∣ U p q b) ↔ d ∣ U p q (Nat.gcd a b) := by
  intro a b
  induction a, b using Nat.gcd.induction with
  | H0 n => simp [U]
  | H1 m n hm ih =>
    rw [Nat.gcd_rec, ← ih]
    have e : n = n % m + m * (n / m) := (Nat.mod_add_div n m).symm
    have key : ∀ t r : Nat, (d ∣ U p q (r + m * t) ∧ d ∣ U p q m) ↔ (d ∣ U p q r ∧ d ∣ U p q m) := by
      intro t
      induction t with
      | zero => intro r; simp
      | succ t iht =>
        intro r
        rw [Nat.mul_succ, ← Nat.add_assoc, U_shift h, iht]
    have := key (n / m) (n % m)
    rw [← e] at this
    rw [and_comm, this]
theorem U_gcd {p q : Int} (h : ∀ d : Int, d ∣ p → d ∣ q → d ∣ 1) (a b : Nat) : Int.gcd (U p q a) (U p q b) = (U p q (Nat.gcd a b)).natAbs := by
  refine Nat.dvd_antisymm ?_ ?_
  · have := (U_dvd_gcd h (Int.gcd (U p q a) (U p q b)) a b).mp ⟨Int.gcd_dvd_left .., Int.gcd_dvd_right ..⟩
    exact Int.natCast_dvd_natCast.mp (Int.dvd_natAbs.mpr this)
  · have := (U_dvd_gcd h ((U p q (Nat.gcd a b)).natAbs : Int) a b).mpr (Int.natAbs_dvd.mpr (Int.dvd_refl _))
    exact Int.natCast_dvd_natCast.mp (Int.dvd_coe_gcd this.1 this.2)
/- the law's q -/
theorem cop_pq {p k e : Int} (he : e = 1 ∨ e = -1) (d : Int) (h1 : d ∣ p) (h2 : d ∣ k * p + e) : d ∣ 1 := by
  have h3 : d ∣ e := by
    have : e = (k * p + e) - k * p := by omega
    rw [this]
    exact Int.dvd_sub h2 (Int.dvd_mul_of_dvd_right h1)
  rcases he with rfl | rfl
  · exact h3
  · exact Int.dvd_neg.mp h3
/- one rest -/
theorem gcd_fmod (a b : Int) : Int.gcd b (Int.fmod a b) = Int.gcd a b := by
  have e : a = b * Int.fdiv a b + Int.fmod a b := (Int.mul_fdiv_add_fmod a b).symm
  refine Nat.dvd_antisymm ?_ ?_
  · refine Int.natCast_dvd_natCast.mp (Int.dvd_coe_gcd ?_ (Int.gcd_dvd_left ..))
    conv => rhs; rw [e]
    exact Int.dvd_add (Int.dvd_mul_of_dvd_left (Int.gcd_dvd_left ..)) (Int.gcd_dvd_right ..)
  · refine Int.natCast_dvd_natCast.mp (Int.dvd_coe_gcd (Int.gcd_dvd_right ..) ?_)
    have e2 : Int.fmod a b = a - b * Int.fdiv a b := by omega
    rw [e2]
    exact Int.dvd_sub (Int.gcd_dvd_left ..) (Int.dvd_mul_of_dvd_left (Int.gcd_dvd_right ..))
theorem fmod_small {a b : Int} (hb : b ≠ 0) : (Int.fmod a b).natAbs < b.natAbs ∧ 0 ≤ Int.fmod a b * b := by
  rcases Int.lt_or_gt_of_ne hb with h | h
  · have e := Int.neg_fmod_neg a b
    have h1 := Int.fmod_nonneg_of_pos (-a) (b := -b) (by omega)
    have h2 := Int.fmod_lt_of_pos (-a) (b := -b) (by omega)
    rw [e] at h1 h2
    exact ⟨by omega, Int.mul_nonneg_of_nonpos_of_nonpos (by omega) (by omega)⟩
  · have h1 := Int.fmod_nonneg_of_pos a h
    have h2 := Int.fmod_lt_of_pos a h
    exact ⟨by omega, Int.mul_nonneg h1 (by omega)⟩

--needs: 10 11 12 20 21 22 24 26 30 32 34 36 37 38 39 40 41 42 43 44 45 46 47 48 49
theorem md41 : True := trivial
/- what a place's asking leaves behind its first step -/
noncomputable def AfterTwo (g : Heap) (L : Addr) (c1 c2 : Addr × Obj) (w : World) (tok : Tok) (b bd gl : Addr) (rest : List (Addr × Obj)) (c m : Nat) (p q : Int) (ord : List Nat) (s₀ s' : Shared) : Prop :=
  ∃ h' tk' m' es' kk', s' = { s₀ with heap := h', toks := tk' } ∧ Fr g L h' m' ∧ m' (Str.ofString "book") = some (.ref b) ∧ News g L h' (c1 :: c2 :: book w tok b bd gl es' kk' rest) ∧ Holds c m p q ord es' ∧ Fine es' ∧ Apart b bd gl es' rest
noncomputable def EndTwo (g : Heap) (L : Addr) (c1 c2 : Addr × Obj) (w : World) (tok : Tok) (b bd gl : Addr) (rest : List (Addr × Obj)) (c m : Nat) (p q : Int) (ord : List Nat) (s₀ : Shared) (f : Flow) (s' : Shared) : Prop :=
  f = .next ∧ AfterTwo g L c1 c2 w tok b bd gl rest c m p q ord s₀ s'
theorem cut_two {w : World} {A : Around} {E : Value → Shared → Prop} {s : Shared} {g : Heap} {L : Addr} {mm : Str → Option Value} {c1 c2 : Addr × Obj} {tok : Tok} {b bd gl : Addr} {es : List Ent} {kk : Nat} {rest : List (Addr × Obj)} {t : Sem Flow} {Q : Flow → Shared → Prop}
    (_F : Fr g L s.heap mm) (_N : News g L s.heap (c1 :: c2 :: book w tok b bd gl es kk rest)) (c m : Nat) (p q : Int) (ord : List Nat)
    (h1 : wpAny (model theProg w) A t (EndTwo g L c1 c2 w tok b bd gl rest c m p q ord s) E s)
    (h2 : ∀ h' tk' m' es' kk', Fr g L h' m' → m' (Str.ofString "book") = some (.ref b) → News g L h' (c1 :: c2 :: book w tok b bd gl es' kk' rest) → Holds c m p q ord es' → Fine es' → Apart b bd gl es' rest → Q .next { s with heap := h', toks := tk' }) :
    wpAny (model theProg w) A t Q E s := by
  refine wpAny_mono h1 ?_ fun _ _ h => h
  rintro f s' ⟨rfl, h', tk', m', es', kk', rfl, F, hb, N, H, hf, hs⟩
  exact h2 h' tk' m' es' kk' F hb N H hf hs
theorem EndTwo.intro {g : Heap} {L : Addr} {c1 c2 : Addr × Obj} {w : World} {tok : Tok} {b bd gl : Addr} {rest : List (Addr × Obj)} {c m : Nat} {p q : Int} {ord : List Nat} {s₀ : Shared} {h' : Heap} {tk' : Nat} {m' : Str → Option Value} {es' : List Ent} {kk' : Nat}
    (F : Fr g L h' m') (hb : m' (Str.ofString "book") = some (.ref b)) (N : News g L h' (c1 :: c2 :: book w tok b bd gl es' kk' rest)) (H : Holds c m p q ord es') (hf : Fine es') (hs : Apart b bd gl es' rest) :
    EndTwo g L c1 c2 w tok b bd gl rest c m p q ord s₀ .next { s₀ with heap := h', toks := tk' } := ⟨rfl, h', tk', m', es', kk', rfl, F, hb, N, H, hf, hs⟩
section
variable {w : World} {mean : ExcName → Option Value} {mg mb : Str → Option Value} {A₀ A : Around} {env : Env} {outer : List Env} {base h₀ : Heap} {L : Addr} {r : Nat} {gg : Array GenState} {dd : Drawn} {oo : OsState} {E : Value → Shared → Prop}
theorem two_use {n : Nat} {f : Value} {vs : List Value} {kw : List (Str × Value)} {news rest : List (Addr × Obj)} {x1 x2 : Int} {tok : Tok} {b bd gl : Addr} {c m : Nat} {p q : Int} {ord : List Nat} {h : Heap} {k : Nat} {mm : Str → Option Value} {Q : Value → Shared → Prop}
    (St : Stat w mean mg mb A₀ A env outer base h₀ L r) (D : Does w mean mg mb n f vs kw news (fun v tl => ∃ D t1 t2 es' kk', v = .ref D ∧ tl = (D, LCg.lst [.int x1 t1, .int x2 t2]) :: book w tok b bd gl es' kk' rest ∧ Holds c m p q ord es' ∧ Fine es' ∧ Apart b bd gl es' rest ∧ @Ne Nat D gl)) (hr : n ≤ r) (F : Fr h₀ L h mm) (N : News h₀ L h news)
    (hq : ∀ D t1 t2 es' kk' h' k', Fr h₀ L h' mm → News h₀ L h' ((D, LCg.lst [.int x1 t1, .int x2 t2]) :: book w tok b bd gl es' kk' rest) → Holds c m p q ord es' → Fine es' → Apart b bd gl es' rest → @Ne Nat D gl → Q (.ref D) ⟨h', gg, dd, k', oo⟩) :
    wpAny (model theProg w) A (call f vs kw) Q E ⟨h, gg, dd, k, oo⟩ :=
  Does.kk St D hr F N fun v tl hp h' k' F' N' => by obtain ⟨D, t1, t2, es', kk', rfl, rfl, a1, a2, a3, a4⟩ := hp; exact hq D t1 t2 es' kk' h' k' F' N' a1 a2 a3 a4
theorem add_use {n : Nat} {f : Value} {vs : List Value} {kw : List (Str × Value)} {rest : List (Addr × Obj)} {xs ys : List Nat} {tok : Tok} {b bd gl : Addr} {es : List Ent} {kk : Nat} {h : Heap} {k : Nat} {mm : Str → Option Value} {Q : Value → Shared → Prop}
    (St : Stat w mean mg mb A₀ A env outer base h₀ L r) (D : Does w mean mg mb n f vs kw (book w tok b bd gl es kk rest) (fun v tl => v = .none ∧ ∃ a tn tv k', tl = book w tok b bd gl (es ++ [⟨a, xs, tn, ys, tv⟩]) k' rest ∧ AllLt a (book w tok b bd gl es kk rest))) (hr : n ≤ r) (F : Fr h₀ L h mm) (N : News h₀ L h (book w tok b bd gl es kk rest))
    (hq : ∀ a tn tv k' h' tk', Fr h₀ L h' mm → News h₀ L h' (book w tok b bd gl (es ++ [⟨a, xs, tn, ys, tv⟩]) k' rest) → AllLt a (book w tok b bd gl es kk rest) → Q .none ⟨h', gg, dd, tk', oo⟩) :
    wpAny (model theProg w) A (call f vs kw) Q E ⟨h, gg, dd, k, oo⟩ :=
  Does.kk St D hr F N fun v tl hp h' k' F' N' => by obtain ⟨rfl, a, tn, tv, k1, rfl, a1⟩ := hp; exact hq a tn tv k1 h' k' F' N' a1
end
noncomputable section
theorem md42 : True := trivial
noncomputable def Px51 (bb : Bd) (c : Nat) (m : Nat) (p : Int) (q : Int) (k : Nat) (tok : Tok) (tn : Tok) (tl : Tok) (tm : Tok) (tp : Tok) (tq : Tok) (b : Addr) (bd : Addr) (gl : Addr) (es : List Ent) (kk : Nat) (rest : List (Addr × Obj)) (ord : List Nat) (o1 : Obj) (o2 : Obj) : Prop :=
  Small c m p q → k ≤ 21 → TwoC (bw bb) (bMean bb) (bMg bb) (bMb bb) c m p q (k / 2) → Holds c m p q ord es → ord.Nodup → 0 ∈ ord → k ∉ ord → ord.length + k ≤ 1000 → Fine es → Apart b bd gl es rest →
  o1.data = .cell (some (.str (S (nm k c)) tn)) → o2.data = .cell (some (.str (S [m]) tm)) → (∀ p ∈ book (bw bb) tok b bd gl es kk rest, p.1 < bL bb) →
  BodyC bb (13 + 4 * k) 357 [("book", .ref b), ("name", .str (S (nm k c)) tn), ("letter", .str (S [c]) tl), ("mark", .str (S [m]) tm), ("p", .int p tp), ("q", .int q tq)] ((bL bb + 1 + 1, o2) :: (bL bb + 1, o1) :: book (bw bb) tok b bd gl es kk rest)
    (fun v tl => ∃ D t1 t2 es' kk', v = .ref D ∧ tl = (D, LCg.lst [.int (U p q k) t1, .int (U p q (k + 1)) t2]) :: book (bw bb) tok b bd gl es' kk' rest ∧ Holds c m p q (grow ord k) es' ∧ Fine es' ∧ Apart b bd gl es' rest ∧ @Ne Nat D gl)
theorem ne51 : Nonempty (Bd × Nat × Nat × Int × Int × Nat × Tok × Tok × Tok × Tok × Tok × Tok × Addr × Addr × Addr × (List Ent) × Nat × (List (Addr × Obj)) × (List Nat) × Obj × Obj) := bd_ne.elim fun bb => ⟨(bb, 0, 0, 0, 0, 0, 0, 0, 0, 0, 0, 0, 0, 0, 0, [], 0, [], [], default, default)⟩
@[irreducible] noncomputable def D51 : Bd × Nat × Nat × Int × Int × Nat × Tok × Tok × Tok × Tok × Tok × Tok × Addr × Addr × Addr × (List Ent) × Nat × (List (Addr × Obj)) × (List Nat) × Obj × Obj := @Classical.epsilon _ ne51 fun d => ¬ Px51 d.1 d.2.1 d.2.2.1 d.2.2.2.1 d.2.2.2.2.1 d.2.2.2.2.2.1 d.2.2.2.2.2.2.1 d.2.2.2.2.2.2.2.1 d.2.2.2.2.2.2.2.2.1 d.2.2.2.2.2.2.2.2.2.1 d.2.2.2.2.2.2.2.2.2.2.1 d.2.2.2.2.2.2.2.2.2.2.2.1 d.2.2.2.2.2.2.2.2.2.2.2.2.1 d.2.2.2.2.2.2.2.2.2.2.2.2.2.1 d.2.2.2.2.2.2.2.2.2.2.2.2.2.2.1 d.2.2.2.2.2.2.2.2.2.2.2.2.2.2.2.1 d.2.2.2.2.2.2.2.2.2.2.2.2.2.2.2.2.1 d.2.2.2.2.2.2.2.2.2.2.2.2.2.2.2.2.2.1 d.2.2.2.2.2.2.2.2.2.2.2.2.2.2.2.2.2.2.1 d.2.2.2.2.2.2.2.2.2.2.2.2.2.2.2.2.2.2.2.1 d.2.2.2.2.2.2.2.2.2.2.2.2.2.2.2.2.2.2.2.2
namespace V51
@[irreducible] noncomputable def bb : Bd := D51.1
@[irreducible] noncomputable def c : Nat := D51.2.1
@[irreducible] noncomputable def m : Nat := D51.2.2.1
@[irreducible] noncomputable def p : Int := D51.2.2.2.1
@[irreducible] noncomputable def q : Int := D51.2.2.2.2.1
@[irreducible] noncomputable def k : Nat := D51.2.2.2.2.2.1
@[irreducible] noncomputable def tok : Tok := D51.2.2.2.2.2.2.1
@[irreducible] noncomputable def tn : Tok := D51.2.2.2.2.2.2.2.1
@[irreducible] noncomputable def tl : Tok := D51.2.2.2.2.2.2.2.2.1
@[irreducible] noncomputable def tm : Tok := D51.2.2.2.2.2.2.2.2.2.1
@[irreducible] noncomputable def tp : Tok := D51.2.2.2.2.2.2.2.2.2.2.1
@[irreducible] noncomputable def tq : Tok := D51.2.2.2.2.2.2.2.2.2.2.2.1
@[irreducible] noncomputable def b : Addr := D51.2.2.2.2.2.2.2.2.2.2.2.2.1
@[irreducible] noncomputable def bd : Addr := D51.2.2.2.2.2.2.2.2.2.2.2.2.2.1
@[irreducible] noncomputable def gl : Addr := D51.2.2.2.2.2.2.2.2.2.2.2.2.2.2.1
@[irreducible] noncomputable def es : List Ent := D51.2.2.2.2.2.2.2.2.2.2.2.2.2.2.2.1
@[irreducible] noncomputable def kk : Nat := D51.2.2.2.2.2.2.2.2.2.2.2.2.2.2.2.2.1
@[irreducible] noncomputable def rest : List (Addr × Obj) := D51.2.2.2.2.2.2.2.2.2.2.2.2.2.2.2.2.2.1
@[irreducible] noncomputable def ord : List Nat := D51.2.2.2.2.2.2.2.2.2.2.2.2.2.2.2.2.2.2.1
@[irreducible] noncomputable def o1 : Obj := D51.2.2.2.2.2.2.2.2.2.2.2.2.2.2.2.2.2.2.2.1
@[irreducible] noncomputable def o2 : Obj := D51.2.2.2.2.2.2.2.2.2.2.2.2.2.2.2.2.2.2.2.2
end V51
end
theorem ep51 (h : Px51 V51.bb V51.c V51.m V51.p V51.q V51.k V51.tok V51.tn V51.tl V51.tm V51.tp V51.tq V51.b V51.bd V51.gl V51.es V51.kk V51.rest V51.ord V51.o1 V51.o2) (bb : Bd) (c : Nat) (m : Nat) (p : Int) (q : Int) (k : Nat) (tok : Tok) (tn : Tok) (tl : Tok) (tm : Tok) (tp : Tok) (tq : Tok) (b : Addr) (bd : Addr) (gl : Addr) (es : List Ent) (kk : Nat) (rest : List (Addr × Obj)) (ord : List Nat) (o1 : Obj) (o2 : Obj) : Px51 bb c m p q k tok tn tl tm tp tq b bd gl es kk rest ord o1 o2 := eps_at (P := fun d : Bd × Nat × Nat × Int × Int × Nat × Tok × Tok × Tok × Tok × Tok × Tok × Addr × Addr × Addr × (List Ent) × Nat × (List (Addr × Obj)) × (List Nat) × Obj × Obj => Px51 d.1 d.2.1 d.2.2.1 d.2.2.2.1 d.2.2.2.2.1 d.2.2.2.2.2.1 d.2.2.2.2.2.2.1 d.2.2.2.2.2.2.2.1 d.2.2.2.2.2.2.2.2.1 d.2.2.2.2.2.2.2.2.2.1 d.2.2.2.2.2.2.2.2.2.2.1 d.2.2.2.2.2.2.2.2.2.2.2.1 d.2.2.2.2.2.2.2.2.2.2.2.2.1 d.2.2.2.2.2.2.2.2.2.2.2.2.2.1 d.2.2.2.2.2.2.2.2.2.2.2.2.2.2.1 d.2.2.2.2.2.2.2.2.2.2.2.2.2.2.2.1 d.2.2.2.2.2.2.2.2.2.2.2.2.2.2.2.2.1 d.2.2.2.2.2.2.2.2.2.2.2.2.2.2.2.2.2.1 d.2.2.2.2.2.2.2.2.2.2.2.2.2.2.2.2.2.2.1 d.2.2.2.2.2.2.2.2.2.2.2.2.2.2.2.2.2.2.2.1 d.2.2.2.2.2.2.2.2.2.2.2.2.2.2.2.2.2.2.2.2) (ne := ne51) (by with_unfolding_all exact h) (bb, c, m, p, q, k, tok, tn, tl, tm, tp, tq, b, bd, gl, es, kk, rest, ord, o1, o2)
section
open V51
theorem w51 : Px51 bb c m p q k tok tn tl tm tp tq b bd gl es kk rest ord o1 o2 := by
  intro sm hk IH H hn h0 hko hlen hf hs d1 d2 l1
  refine BodyC.start (by k_is) ?_
  intro St F N hPO hret hnx
  have X := St.X
  have T := St.T
  replace l1 := allLt_of l1
  have l2 := allLt_up l1
  have l3 := allLt_up l2
  have l4 := allLt_up l3
  (try simp only [AllLt, and_true] at l1)
  have hc := sm.c
  have hsw := sw_letter hc
  have hswl : sw1 c < 127 := sw1_lt hc
  have hsl : Txt.swapcase (S (nm k c)) = S (nm k (sw1 c)) := by rw [swap_S (nm_ascii hc), nm_map (by decide +kernel)]
  have g1 : ∀ x ∈ nm k (sw1 c), 32 ≤ x ∧ x < 127 := by
    intro x hx
    rcases List.mem_append.mp hx with h | h
    · have := List.eq_of_mem_replicate h; omega
    · have := List.mem_singleton.mp h; omega
  have g2 : (nm k (sw1 c)).length ≤ 9000 := by rw [nm_length]; omega
  have g3 : (nm k (sw1 c)).map lo1 = nm k (lo1 c) := by rw [nm_map rfl, hsw.1]
  have g4 : (nm k c).length ≤ 9000 := by rw [nm_length]; omega
  have g5 : (nm (k / 2) c).length ≤ 9000 := by rw [nm_length]; omega
  have g6 : (List.replicate (k / 2) 34).length ≤ 9000 := by simp; omega
  have hfd := holds_find (k := k) H hn
  have a1 : (l257 k c).length ≤ 10000 := by rw [l257_length]; omega
  have a2 := l257_3 k c
  have a3 := l257_5 k c
  have a4 := go_half (k := k) hc
  have hmk := sm.m
  have hk0 : k ≠ 0 := fun e => hko (e ▸ h0)
  have nP : ∀ x ∈ nm k c, 32 ≤ x ∧ x < 127 := nm_lt hc
  have nL : (nm k c).length ≤ 9000 := by rw [nm_length]; omega
  have wP1 := wr_plain hmk (U p q k)
  have wP2 := wr_plain hmk (U p q (k + 1))
  obtain ⟨m1, m2, m3, m4, m5, m6, m7⟩ := sm.muls (n := k / 2) (by omega)
  have b1 := sm.log (n := k) (by omega)
  have b2 := sm.log (n := k + 1) (by omega)
  have b3 : (dg (U p q k)).length ≤ 600 := Nat.le_trans (sm.dg (by omega)) (by decide)
  have b4 : (dg (U p q (k + 1))).length ≤ 600 := Nat.le_trans (sm.dg (by omega)) (by decide)
  have wL1 : (wr m (U p q k)).length ≤ 9000 := by rw [wr_length]; omega
  have wL2 : (wr m (U p q (k + 1))).length ≤ 9000 := by rw [wr_length]; omega
  have b5 : (Str.ofString (toString (U p q k))).length ≤ 1000 := by rw [dg_S, S_length]; omega
  have b6 : (Str.ofString (toString (U p q (k + 1)))).length ≤ 1000 := by rw [dg_S, S_length]; omega
  k_with "my ite" => (wtm_at "?41-42"; first | (refine ite_pos (by rw [hfd]; simp [hko]) ?_) | (refine ite_neg (by simp) ?_) | (refine ite_pos (by simp) ?_))
  refine wpAny_execs_cons ?_
  rename Fr _ _ _ _ => FC
  rename News _ _ _ _ => NC
  refine cut_two FC NC c m p q (grow ord k) ?_ ?_
  · rcases Nat.mod_two_eq_zero_or_one k with hpar | hpar
    · have a5 : halfOf k c = nm (k / 2) c := by rw [halfOf, if_pos hpar]
      rw [a5] at a4
      have a6 : Txt.slice (S (nm (k / 2) c)) (some (-1)) none = S [c] := S_slice_last
      k_with "my text" => (wtm_at "?41-42"; first | (rw [hsl]) | (rw [a6]))
      k_with "my 257" => (wtm_at "?41-42"; (rw [txt257]))
      k_with "my go" => (wtm_at "?41-42"; (rw [a4]))
      k_with "my num" => (wtm_at "?41-42"; first | rw [num_e0 hpar] | rw [num_e1 hpar])
      k_steps
      refine' two_use ?St (IH tok _ _ _ _ _ b bd gl es kk _ ord H hn h0 (by omega) hf ?hs) ?hr ?F ?N ?_
      (case N => k_extra "my front")
      (case St => assumption)
      (case hr => omega)
      (case F => k_asm)
      (case hs => k_extra "my apart")
      intro D1 u1 u2 es1 kk1 h' tk' F' N' H1 hf1 hs1 hD1
      k_extra "my back"
      have len1 : es1.length ≤ 4000 := by
        have := holds_len H1
        have := grow_len ord (k / 2)
        omega
      k_steps
      refine ⟨?_⟩
      refine' add_use ?St (t_add hf1 ?hs nP nL wP1 wL1) ?hr ?F ?N ?_
      (case N => k_extra "my front")
      (case St => assumption)
      (case hr => k_extra "my le")
      (case F => k_asm)
      (case hs => k_extra "my apart")
      intro ax tnx tvx kk2 h' tk' F' N' ltx
      k_extra "my back"
      have hf2 : Fine (es1 ++ [⟨ax, nm k c, tnx, wr m (U p q k), tvx⟩]) := fine_add hf1 nP wP1 nL wL1 (by omega)
      have hs2 := hs1.ent (e := ⟨ax, nm k c, tnx, wr m (U p q k), tvx⟩) (fun e => Nat.ne_of_gt (ltx.2.2.1) e)
      k_steps
      refine ⟨?_⟩
      refine' add_use ?St (t_add hf2 ?hs nP nL wP2 wL2) ?hr ?F ?N ?_
      (case N => k_extra "my front")
      (case St => assumption)
      (case hr => k_extra "my le")
      (case F => k_asm)
      (case hs => k_extra "my apart")
      intro ay tny tvy kk3 h' tk' F' N' lty
      k_extra "my back"
      have lt2 : @Ne Nat ay gl := fun e => Nat.ne_of_gt (lty.2.2.1) e
      have hf3 : Fine (es1 ++ [⟨ax, nm k c, tnx, wr m (U p q k), tvx⟩] ++ [⟨ay, nm k c, tny, wr m (U p q (k + 1)), tvy⟩]) := fine_add hf2 nP wP2 nL wL2 (by simp; omega)
      have hs3' := hs2.ent (e := ⟨ay, nm k c, tny, wr m (U p q (k + 1)), tvy⟩) lt2
      have H3 : Holds c m p q (grow ord k) (es1 ++ [⟨ax, nm k c, tnx, wr m (U p q k), tvx⟩] ++ [⟨ay, nm k c, tny, wr m (U p q (k + 1)), tvy⟩]) := by
        rw [grow_new hko h0]
        exact holds_more H1 _ _ rfl rfl rfl rfl
      have hs4 : Apart b bd gl (es1 ++ [⟨ax, nm k c, tnx, wr m (U p q k), tvx⟩] ++ [⟨ay, nm k c, tny, wr m (U p q (k + 1)), tvy⟩]) rest := by repeat (first | exact hs3' | replace hs3' := hs3'.less)
      k_steps
      exact EndTwo.intro (by k_asm) (by rfl) (News.sub (by k_asm) (by kcj_in)) H3 hf3 hs4
    · have a5 : halfOf k c = List.replicate (k / 2) 34 := by rw [halfOf, if_neg (by omega)]
      rw [a5] at a4
      have a6 : (Txt.slice (S (List.replicate (k / 2) 34)) (some (-1)) none != S [c]) = true := by
        have hne := (letter_ne hc).1
        cases hj : k / 2 with
        | zero => rw [show List.replicate 0 34 = ([] : List Nat) from rfl, S_slice_last0, bne, S_beq]; rfl
        | succ j =>
          rw [List.replicate_succ', S_slice_last, bne, S_beq]
          simp; exact fun e => hne e.symm
      have a7 : S (List.replicate (k / 2) 34) ++ S [c] = S (nm (k / 2) c) := S_app _ _
      k_with "my text" => (wtm_at "?41-42"; first | (rw [hsl]))
      k_with "my cat" => (wtm_at "?41-42"; (rw [a7]))
      k_with "my 257" => (wtm_at "?41-42"; (rw [txt257]))
      k_with "my go" => (wtm_at "?41-42"; (rw [a4]))
      k_with "my num" => (wtm_at "?41-42"; first | rw [num_o1 hpar] | rw [num_o0 hpar])
      k_with "my ite" => (wtm_at "?41-42"; (refine ite_pos a6 ?_))
      k_steps
      refine' two_use ?St (IH tok _ _ _ _ _ b bd gl es kk _ ord H hn h0 (by omega) hf ?hs) ?hr ?F ?N ?_
      (case N => k_extra "my front")
      (case St => assumption)
      (case hr => omega)
      (case F => k_asm)
      (case hs => k_extra "my apart")
      intro D1 u1 u2 es1 kk1 h' tk' F' N' H1 hf1 hs1 hD1
      k_extra "my back"
      have len1 : es1.length ≤ 4000 := by
        have := holds_len H1
        have := grow_len ord (k / 2)
        omega
      k_steps
      refine ⟨?_⟩
      refine' add_use ?St (t_add hf1 ?hs nP nL wP1 wL1) ?hr ?F ?N ?_
      (case N => k_extra "my front")
      (case St => assumption)
      (case hr => k_extra "my le")
      (case F => k_asm)
      (case hs => k_extra "my apart")
      intro ax tnx tvx kk2 h' tk' F' N' ltx
      k_extra "my back"
      have hf2 : Fine (es1 ++ [⟨ax, nm k c, tnx, wr m (U p q k), tvx⟩]) := fine_add hf1 nP wP1 nL wL1 (by omega)
      have hs2 := hs1.ent (e := ⟨ax, nm k c, tnx, wr m (U p q k), tvx⟩) (fun e => Nat.ne_of_gt (ltx.2.2.1) e)
      k_steps
      refine ⟨?_⟩
      refine' add_use ?St (t_add hf2 ?hs nP nL wP2 wL2) ?hr ?F ?N ?_
      (case N => k_extra "my front")
      (case St => assumption)
      (case hr => k_extra "my le")
      (case F => k_asm)
      (case hs => k_extra "my apart")
      intro ay tny tvy kk3 h' tk' F' N' lty
      k_extra "my back"
      have lt2 : @Ne Nat ay gl := fun e => Nat.ne_of_gt (lty.2.2.1) e
      have hf3 : Fine (es1 ++ [⟨ax, nm k c, tnx, wr m (U p q k), tvx⟩] ++ [⟨ay, nm k c, tny, wr m (U p q (k + 1)), tvy⟩]) := fine_add hf2 nP wP2 nL wL2 (by simp; omega)
      have hs3' := hs2.ent (e := ⟨ay, nm k c, tny, wr m (U p q (k + 1)), tvy⟩) lt2
      have H3 : Holds c m p q (grow ord k) (es1 ++ [⟨ax, nm k c, tnx, wr m (U p q k), tvx⟩] ++ [⟨ay, nm k c, tny, wr m (U p q (k + 1)), tvy⟩]) := by
        rw [grow_new hko h0]
        exact holds_more H1 _ _ rfl rfl rfl rfl
      have hs4 : Apart b bd gl (es1 ++ [⟨ax, nm k c, tnx, wr m (U p q k), tvx⟩] ++ [⟨ay, nm k c, tny, wr m (U p q (k + 1)), tvy⟩]) rest := by repeat (first | exact hs3' | replace hs3' := hs3'.less)
      k_steps
      exact EndTwo.intro (by k_asm) (by rfl) (News.sub (by k_asm) (by kcj_in)) H3 hf3 hs4
  · intro h9 tk9 m9 es3 kk3 F9 hb9 N9 H3 hf3 hs4
    clear FC NC m1 m2 m3 m4 m5 m6 m7 b1 b2 b5 b6 wP1 wP2 wL1 wL2 nP nL
    dsimp only
    replace F9 := fr_as (ps := [("book", _)]) F9 ⟨hb9, trivial⟩
    simp only [kstB] at F9
    clear hb9
    obtain ⟨e1, e2, hfl, hv1, hv2, hfi⟩ := holds_two H3 (grow_nodup hn k) (grow_self ord k)
    have hgot : got es3 (nm k (lo1 c)) = .str (S e1.v) e1.tv := by simp only [got, hfi]
    have hel1 : e1.v.length ≤ 1000 := by rw [hv1, wr_length]; omega
    have hel2 : e2.v.length ≤ 1000 := by rw [hv2, wr_length]; omega
    k_with "my text" => (wtm_at "?41-42"; (rw [hsl]))
    k_with "my led" => (wtm_at "?41-42"; (rename News _ _ _ _ => NN; rw [hfl] at NN; simp only [List.map_cons, List.map_nil] at NN))
    k_with "my val" => (wtm_at "?41-42"; (rw [hgot]))
    k_with "my 229" => (wtm_at "?41-42"; first | rw [txt229 hv1] | rw [txt229 hv2])
    k_steps
    refine ⟨?_⟩
    refine pair_comp (by k_asm) rfl (by with_unfolding_all rfl) (by decide) (by rfl) (by decide) (by rfl) (by rfl) (by decide) ?_
    k_steps
    refine PairSrc.intro (its := [_, _]) (by k_asm) (by k_asm) (by kcj_m) (by simp) ?_
    refine PairRest.cons (by kcj_m) ?_
    intro oC C D mC hh tkk E' hC ha hb F₁ N₁
    k_steps
    all_goals try (exfalso; rename (_ == _) = false => hbad; simp at hbad; done)
    refine PairEnd.intro (by k_asm) (fun _ _ e => e) ?_
    refine PairRest.cons (by kcj_m) ?_
    clear hC ha hb F₁ N₁
    clear oC C D mC hh tkk E'
    intro oC C D mC hh tkk E' hC ha hb F₁ N₁
    k_steps
    all_goals try (exfalso; rename (_ == _) = false => hbad; simp at hbad; done)
    refine PairEnd.intro (by k_asm) (fun _ _ e => e) ?_
    refine PairRest.nil ?_
    clear hC ha hb F₁ N₁
    clear oC C D mC hh tkk E'
    intro D hh tkk F₁ N₁ off
    k_steps
    exact hret _ _ _ _ _ (by k_asm) (News.sub (by k_asm) (by kcj_in)) ⟨D, _, _, _, _, rfl, rfl, H3, hf3, hs4, fun e => off (gl, listOf (refs es3).toArray kk3) (by kcj_m) e.symm⟩
end
theorem two_new {w : World} {mean : ExcName → Option Value} {mg mb : Str → Option Value} {c m : Nat} {p q : Int} {k : Nat} (sm : Small c m p q) (hk : k ≤ 21) (IH : TwoC w mean mg mb c m p q (k / 2))
    (tok tn tl tm tp tq : Tok) (b bd gl : Addr) (es : List Ent) (kk : Nat) (rest : List (Addr × Obj)) (ord : List Nat) (H : Holds c m p q ord es) (hn : ord.Nodup) (h0 : 0 ∈ ord) (hko : k ∉ ord) (hlen : ord.length + k ≤ 1000) (hf : Fine es) (hs : Apart b bd gl es rest) :
    Does w mean mg mb (14 + 4 * k) (.ref 357) [.ref b, .str (S (nm k c)) tn, .str (S [c]) tl, .str (S [m]) tm, .int p tp, .int q tq] [] (book w tok b bd gl es kk rest)
      (fun v tl => ∃ D t1 t2 es' kk', v = .ref D ∧ tl = (D, LCg.lst [.int (U p q k) t1, .int (U p q (k + 1)) t2]) :: book w tok b bd gl es' kk' rest ∧ Holds c m p q (grow ord k) es' ∧ Fine es' ∧ Apart b bd gl es' rest ∧ @Ne Nat D gl) := by
  refine does_as (n := 13 + 4 * k + 1) (by omega) (Does.of_bodyC (binds := [("book", .ref b), ("name", .str (S (nm k c)) tn), ("letter", .str (S [c]) tl), ("mark", .str (S [m]) tm), ("p", .int p tp), ("q", .int q tq)]) (by k_is) (by k_is) (fun s _ => BindsTo.of_eq rfl) (by rfl) (by decide +kernel) rfl rfl rfl ?_)
  intro bb cells Y l1 e1 e2 e3 e4
  obtain ⟨o2, o1, rfl, d2, d1⟩ := CellsAre.two Y
  subst e1 e2 e3 e4
  exact ep51 w51 bb c m p q k tok tn tl tm tp tq b bd gl es kk rest ord o1 o2 sm hk IH H hn h0 hko hlen hf hs d1 d2 l1

--needs: 10 12 20 21 22 24 26 30 32 34 36 37 38 39 40 41 42 43 44 45 46 47 48 49 51
theorem md43 : True := trivial
theorem t_two {w : World} {mean : ExcName → Option Value} {mg mb : Str → Option Value} {c m : Nat} {p q : Int} (sm : Small c m p q) : ∀ k, k ≤ 21 → TwoC w mean mg mb c m p q k := by
  intro k
  induction k using Nat.strongRecOn with
  | _ k ih =>
    intro hk tok tn tl tm tp tq b bd gl es kk rest ord H hn h0 hlen hf hs
    by_cases hko : k ∈ ord
    · intro A₀ A env outer base h₀ L mm s Q E HH hd hu hret
      refine two_old sm hk tok tn tl tm tp tq b bd gl es kk rest ord H hn hko hf hs A₀ A env outer base h₀ L mm s Q E HH hd hu ?_
      rintro v tl' h' tk' F' N' ⟨D, t1, t2, e1, e2, e3⟩
      exact hret v tl' h' tk' F' N' ⟨D, t1, t2, es, kk, e1, e2, by rw [grow, if_pos hko]; exact H, hf, hs, e3⟩
    · have hk0 : k ≠ 0 := fun e => hko (e ▸ h0)
      exact two_new sm hk (ih (k / 2) (by omega) (by omega)) tok tn tl tm tp tq b bd gl es kk rest ord H hn h0 hko hlen hf hs

--needs: 10 20 22 24 26 30 32 34 36 37
-- lists of the ledger: a place in it, extend, slices
theorem md44 : True := trivial
theorem upd_at {d : Addr} {o o' : Obj} : ∀ {pre post : List (Addr × Obj)}, (∀ p ∈ pre, p.1 ≠ d) → (∀ p ∈ post, p.1 ≠ d) → Upd d o o' (pre ++ (d, o) :: post) (pre ++ (d, o') :: post)
  | [], _, _, c => .head c
  | x :: r, _, a, c => .tail (a x (.head _)) (upd_at (fun p hp => a p (.tail _ hp)) c)
theorem not_long {n : Nat} (h : n ≤ 20000) : Builtin.List.listTooLong n = false := by
  unfold Builtin.List.listTooLong
  rw [sizeLine_eq]
  simp
  omega
theorem ext_at {w : World} {A : Around} {E : Value → Shared → Prop} {s : Shared} {h₀ : Heap} {L D b : Addr} {m : Str → Option Value} {pre post : List (Addr × Obj)} {its its2 : Array Value} {n n2 : Nat} {Q : Value → Shared → Prop}
    (F : Fr h₀ L s.heap m) (N : News h₀ L s.heap (pre ++ (D, listOf its n) :: post)) (a : ∀ p ∈ pre, p.1 ≠ D) (c : ∀ p ∈ post, p.1 ≠ D) (hb : (b, listOf its2 n2) ∈ pre ++ (D, listOf its n) :: post) (hsz : its.size + its2.size ≤ 10000)
    (h : ∀ h' n', Fr h₀ L h' m → News h₀ L h' (pre ++ (D, listOf (its.toList ++ its2.toList).toArray n') :: post) → Q .none { s with heap := h' }) :
    wpAny (model theProg w) A (call (.builtin "list.extend") [.ref D, .ref b]) Q E s := by
  have hl : ¬(!its.isEmpty && Builtin.List.listTooLong (its.size + its2.size)) = true := by rw [not_long (by omega), Bool.and_false]; exact Bool.false_ne_true
  have hz : its.toList.length ≤ sizeLine := by rw [Array.length_toList, sizeLine_eq]; omega
  have hz2 : its.size + its2.size ≤ sizeLine + 1 := by rw [sizeLine_eq]; omega
  by_cases h0 : its2.toList.length = 0
  · have e0 : its2.toList = [] := List.length_eq_zero_iff.mp h0
    refine kxn_extend F N hb e0 (upd_at a c) hl hz hz2 fun h' F' N' => h h' n F' ?_
    rw [e0, List.append_nil, Array.toArray_toList]
    exact N'
  · exact kl_extend F N hb rfl h0 (upd_at a c) hl hz hz2 fun h' F' N' => h h' (n + 1) F' N'
theorem allNe_nil {c : Addr} : ∀ p ∈ ([] : List (Addr × Obj)), p.1 ≠ c := fun _ h => nomatch h
theorem allNe_cons {x : Addr × Obj} {l : List (Addr × Obj)} {c : Addr} (h1 : @Ne Addr x.1 c) (h2 : ∀ p ∈ l, p.1 ≠ c) : ∀ p ∈ x :: l, p.1 ≠ c := fun p hp => by
  rcases List.mem_cons.mp hp with rfl | hp
  · exact h1
  · exact h2 p hp
theorem allNe_app {a b : List (Addr × Obj)} {c : Addr} (h1 : ∀ p ∈ a, p.1 ≠ c) (h2 : ∀ p ∈ b, p.1 ≠ c) : ∀ p ∈ a ++ b, p.1 ≠ c := fun p hp => by
  rcases List.mem_append.mp hp with hp | hp
  · exact h1 p hp
  · exact h2 p hp
theorem own_ne {own : List (Addr × Obj)} {I l c : Addr} (h : ∀ p ∈ own, p.1 = I ∨ p.1 = l) (h1 : @LT.lt Nat _ c I) (h2 : @Ne Nat c l) : ∀ p ∈ own, p.1 ≠ c := fun p hp e => by
  rcases h p hp with h | h
  · exact absurd (h ▸ e ▸ h1) (Nat.lt_irrefl _)
  · exact h2 (e ▸ h)
theorem ints_len : ∀ {vs : List Value} {ns : List Int}, IntsAre vs ns → vs.length = ns.length
  | _, _, .nil => rfl
  | _, _, .cons _ _ h => congrArg (· + 1) (ints_len h)
theorem ints_snoc : ∀ {vs : List Value} {ns : List Int} {n : Int} {t : Tok}, IntsAre vs ns → IntsAre (vs ++ [.int n t]) (ns ++ [n])
  | _, _, n, t, .nil => .cons n t .nil
  | _, _, _, _, .cons a u h => .cons a u (ints_snoc h)
theorem ints_app : ∀ {vs us : List Value} {ns ms : List Int}, IntsAre vs ns → IntsAre us ms → IntsAre (vs ++ us) (ns ++ ms)
  | _, _, _, _, .nil, h => h
  | _, _, _, _, .cons a u h, h' => .cons a u (ints_app h h')
noncomputable def natsI (l : List Nat) : List Int := l.map Int.ofNat
theorem natsI_app (a b : List Nat) : natsI (a ++ b) = natsI a ++ natsI b := by simp [natsI]
theorem natsI_any {l : List Nat} {j : Nat} : (natsI l).any (· == (j : Int)) = decide (j ∈ l) := by
  rw [Bool.eq_iff_iff, List.any_eq_true, decide_eq_true_eq]
  constructor
  · rintro ⟨x, hx, e⟩
    obtain ⟨y, hy, rfl⟩ := List.mem_map.mp hx
    have : (y : Int) = j := by simpa using e
    have e2 : y = j := by omega
    exact e2 ▸ hy
  · intro h
    exact ⟨j, List.mem_map.mpr ⟨j, h, rfl⟩, by simp⟩
theorem natsI_rev (l : List Nat) : natsI l.reverse = (natsI l).reverse := by simp [natsI]
theorem ints_cast {vs : List Value} {ns ms : List Int} (h : IntsAre vs ns) (e : ns = ms) : IntsAre vs ms := e ▸ h
theorem ne_same {a b : List (Addr × Obj)} {I : Addr} (h : a.map (·.1) = b.map (·.1)) (hn : ∀ p ∈ a, p.1 ≠ I) : ∀ p ∈ b, p.1 ≠ I := fun p hp e => by
  have : p.1 ∈ b.map (·.1) := List.mem_map_of_mem hp
  rw [← h] at this
  obtain ⟨x, hx, hx2⟩ := List.mem_map.mp this
  exact hn x hx (hx2.trans e)
theorem ints_nat_at : ∀ {vs : List Value} {l : List Nat}, IntsAre vs (natsI l) → ∀ {i : Nat} {v : Value}, vs[i]? = some v → ∃ (j : Nat) (t : Tok), v = .int j t ∧ l[i]? = some j
  | _, [], .nil, i, v, h => by simp at h
  | _, a :: r, .cons _ t h', 0, v, h => ⟨a, t, by simpa using h.symm, rfl⟩
  | _, a :: r, .cons _ t h', i + 1, v, h => ints_nat_at (l := r) h' (by simpa using h)
theorem ints_get : ∀ {vs : List Value} {ns : List Int}, IntsAre vs ns → ∀ {i : Nat} {x : Int}, ns[i]? = some x → ∃ t, vs[i]? = some (.int x t)
  | _, _, .nil, i, x, h => by simp at h
  | _, _, .cons n t h', 0, x, h => ⟨t, by simp at h; subst h; rfl⟩
  | _, _, .cons n t h', i + 1, x, h => by
    obtain ⟨u, hu⟩ := ints_get h' (i := i) (by simpa using h)
    exact ⟨u, by simpa using hu⟩
theorem ints_row {vs : List Value} {f : Nat → Int} {n j : Nat} (h : IntsAre vs ((List.range n).map f)) (hj : j < n) : ∃ t, vs[j]? = some (.int (f j) t) :=
  ints_get h (by simp [hj])
theorem mem7 {p a b c d e f g : Addr × Obj} {t : List (Addr × Obj)} (h : p ∈ t) : p ∈ a :: b :: c :: d :: e :: f :: g :: t := .tail _ (.tail _ (.tail _ (.tail _ (.tail _ (.tail _ (.tail _ h))))))
theorem same_obj {g h : Heap} {L : Addr} {l : List (Addr × Obj)} {a : Addr} {o o' : Obj} (N : News g L h l) (h1 : (a, o) ∈ l) (h2 : (a, o') ∈ l) : o = o' := by
  have e1 := (N _ h1).1
  have e2 := (N _ h2).1
  exact Option.some.inj (e1.symm.trans e2)
theorem tup_ne {g h : Heap} {L : Addr} {l : List (Addr × Obj)} {a c : Addr} {o : Obj} {vs : List Value} (N : News g L h l) (h1 : (a, tupOf vs) ∈ l) (h2 : (c, o) ∈ l) (ho : ∀ vs, o ≠ tupOf vs) : @Ne Addr a c := fun e => by
  subst e
  exact ho vs (same_obj N h2 h1)
theorem objs_ne {g h : Heap} {L : Addr} {l : List (Addr × Obj)} {ds : List Ent} {c : Addr} {o : Obj} (N : News g L h l) (hs : ∀ p ∈ ds.map Ent.obj, p ∈ l) (h2 : (c, o) ∈ l) (ho : ∀ vs, o ≠ tupOf vs) : ∀ p ∈ ds.map Ent.obj, p.1 ≠ c := fun p hp => by
  have hp' := hs p hp
  obtain ⟨x, hx, rfl⟩ := List.mem_map.mp hp
  exact tup_ne N hp' h2 ho
theorem list_no_tup {its : Array Value} {n : Nat} : ∀ vs, listOf its n ≠ tupOf vs := fun vs e => by
  have := congrArg Obj.cls e
  simp at this
theorem cell_no_tup {o : Obj} {v : Option Value} (h : o.data = .cell v) : ∀ vs, o ≠ tupOf vs := fun vs e => by
  rw [e] at h
  cases h
theorem iter_no_tup {o : Obj} (h : o.cls = .type "list_iterator") : ∀ vs, o ≠ tupOf vs := fun vs e => by
  rw [e] at h
  simp at h
/- krv_ints at a flat state -/
theorem krv_flat {w : World} {A : Around} {E Q : Value → Shared → Prop} {h₀ h : Heap} {L : Addr} {m : Str → Option Value} {news : List (Addr × Obj)} {value slice : Expr} {l : Addr} {vs : List Value} {vk : Value} {ns : List Int} {ops : List Value} {g : Array GenState} {d : Drawn} {t : Nat} {o : OsState}
    (F : Fr h₀ L h m) (N : News h₀ L h news) (hl : h.IsList l vs.toArray) (pk : IsPart vk (some (-1))) (hi : IntsAre vs ns)
    (k : ∀ D ws h', Fr h₀ L h' m → News h₀ L h' ((D, listOf (List.toArray ws) 0) :: news) → (∀ p ∈ news, p.1 < D) → IntsAre ws ns.reverse → ns.reverse.length = ns.length → Q (.ref D) ⟨h', g, d, t, o⟩)
    (hs : subscripted slice false (.ref l) (.ref h.objs.size) = operate ops (getItem (.ref l) (.ref h.objs.size))) (ht : ∀ r, letTemporaryGo value (.ref l) r = pure ()) (hz : vs.toArray.size ≤ sizeLine) :
    wpAny (model theProg w) A (subscriptTail value slice (.ref l) (.ref h.objs.size)) Q E ⟨h.push { cls := .type "slice", data := .fields #[.none, .none, vk] }, g, d, t, o⟩ :=
  krv_ints (s := ⟨h, g, d, t, o⟩) F N hl pk hi k hs ht hz

--needs: 10 20 26
theorem md45 : True := trivial
theorem rep_fold (a : Nat) : ∀ (n : Nat) (acc : Array Nat), (List.replicate n #[a]).foldl (· ++ ·) acc = acc ++ (List.replicate n a).toArray
  | 0, acc => by simp
  | n + 1, acc => by
    rw [List.replicate_succ, List.foldl_cons, rep_fold a n, List.replicate_succ]
    apply Array.toList_inj.mp
    simp
theorem mul_rep (a n : Nat) : Txt.mul (S [a]) (n : Int) = S (List.replicate n a) := by
  unfold Txt.mul
  split
  · have : n = 0 := by omega
    subst this
    rfl
  · split
    · rename_i h1 h2
      have : n = 1 := by
        simp [S_length] at h2
        omega
      subst this
      rfl
    · refine Str.ext' ?_
      show (List.replicate (n : Int).toNat #[a]).foldl (· ++ ·) #[] = _
      rw [Int.toNat_natCast, rep_fold]
      simp [S]
theorem mul_ok1 {a n : Nat} (h : n ≤ 1000) : MulOk (S [a]) (n : Int) :=
  mulOk_of 1 1000 (by rw [S_length]; exact Nat.le_refl _) (by omega) (by omega) (by decide) (by decide)

--needs: 10 11 21 34 45 50
section
theorem md46 : True := trivial
noncomputable def JCom (g : Nat) (news : List (Addr × Obj)) (n : Nat) (m : Str → Option Value) (news₁ : List (Addr × Obj)) : Prop :=
  (∀ p ∈ news, p ∈ news₁) ∧ ∃ a b : Int, HasI m "left" a ∧ HasI m "right" b ∧ Int.gcd a b = g ∧ a.natAbs < 2 ^ 1000 ∧ b.natAbs < 2 ^ 1000 ∧ n = b.natAbs
noncomputable section
noncomputable def Px55 (bb : Bd) (a : Int) (b : Int) (ta : Tok) (tb : Tok) (news : List (Addr × Obj)) : Prop :=
  a.natAbs < 2 ^ 1000 → b.natAbs < 2 ^ 1000 →
  BodyP bb (3) 369 (fun y => ([("left", .int a ta), ("right", .int b tb)] : List (Str × Value)).reverse.lookup y) (news)
    (fun v tl => (∃ g t, v = .int g t ∧ g.natAbs = Int.gcd a b) ∧ tl = news)
theorem ne55 : Nonempty (Bd × Int × Int × Tok × Tok × (List (Addr × Obj))) := bd_ne.elim fun bb => ⟨(bb, 0, 0, 0, 0, [])⟩
@[irreducible] noncomputable def D55 : Bd × Int × Int × Tok × Tok × (List (Addr × Obj)) := @Classical.epsilon _ ne55 fun d => ¬ Px55 d.1 d.2.1 d.2.2.1 d.2.2.2.1 d.2.2.2.2.1 d.2.2.2.2.2
namespace V55
@[irreducible] noncomputable def bb : Bd := D55.1
@[irreducible] noncomputable def a : Int := D55.2.1
@[irreducible] noncomputable def b : Int := D55.2.2.1
@[irreducible] noncomputable def ta : Tok := D55.2.2.2.1
@[irreducible] noncomputable def tb : Tok := D55.2.2.2.2.1
@[irreducible] noncomputable def news : List (Addr × Obj) := D55.2.2.2.2.2
end V55
end
theorem ep55 (h : Px55 V55.bb V55.a V55.b V55.ta V55.tb V55.news) (bb : Bd) (a : Int) (b : Int) (ta : Tok) (tb : Tok) (news : List (Addr × Obj)) : Px55 bb a b ta tb news := eps_at (P := fun d : Bd × Int × Int × Tok × Tok × (List (Addr × Obj)) => Px55 d.1 d.2.1 d.2.2.1 d.2.2.2.1 d.2.2.2.2.1 d.2.2.2.2.2) (ne := ne55) (by with_unfolding_all exact h) (bb, a, b, ta, tb, news)
section
open V55
theorem w55 : Px55 bb a b ta tb news := by
  intro ha hb
  refine BodyP.start (by k_is) ?_
  intro St F N hPO hret hnx
  obtain ⟨B, X, T, hA, _, _, hh, hd, hu⟩ := id St
  k_steps
  refine ⟨?_⟩
  rename Fr _ _ _ _ => F2
  rename News _ _ _ _ => N2
  refine While_inv2 (JCom (Int.gcd a b) news) F2 N2 ⟨fun _ h => h, a, b, hasI_of rfl rfl, hasI_of rfl rfl, rfl, ha, hb, rfl⟩ ?_
  clear F2 N2
  rintro n m₁ news₁ h₁ tk₁ F₁ N₁ ⟨hsub, x, y, ⟨tx, q1⟩, ⟨ty, q2⟩, hg, hx, hy, hn⟩
  replace N₁ := News.sub N₁ hsub
  replace F₁ := fr_as (ps := [("left", _), ("right", _)]) F₁ ⟨q1, q2, trivial⟩
  simp only [kstB] at F₁
  clear q1 q2 hsub
  by_cases h0 : y = 0
  · k_with "my ite" => (wtm_at "?46-46"; (refine ite_neg (by simp [h0]) ?_))
    k_steps
    refine hret _ _ _ _ _ (by k_asm) (by k_asm) ⟨⟨_, _, rfl, ?_⟩, rfl⟩
    rw [← hg, h0, Int.gcd_zero_right]
  · have hr := fmod_small (a := x) h0
    have hg2 := gcd_fmod x y
    have hm : IntMulOk (Int.fmod x y) y := mul_ok (by omega) hy
    k_with "my ite" => (wtm_at "?46-46"; (refine ite_pos (by simp [h0]) ?_))
    k_steps
    exact ⟨_, _, _, _, (Int.fmod x y).natAbs, rfl, (by k_asm), (by k_asm), by omega, fun p h => .tail _ h, _, _, hasI_of rfl rfl, hasI_of rfl rfl, by rw [hg2, hg], hy, by omega, rfl⟩
end
theorem t_common {w : World} {mean : ExcName → Option Value} {mg mb : Str → Option Value} {a b : Int} {ta tb : Tok} {news : List (Addr × Obj)} (ha : a.natAbs < 2 ^ 1000) (hb : b.natAbs < 2 ^ 1000) :
    Does w mean mg mb 4 (.ref 369) [.int a ta, .int b tb] [] news (fun v tl => (∃ g t, v = .int g t ∧ g.natAbs = Int.gcd a b) ∧ tl = news) := by
  refine does_as (n := 3 + 1) (by omega) (Does.of_body (binds := [("left", .int a ta), ("right", .int b tb)]) (by k_is) (by k_is) (fun s _ => BindsTo.of_eq rfl) (locs rfl) rfl rfl rfl (by decide) ?_)
  intro bb e1 e2 e3 e4
  subst e1 e2 e3 e4
  exact ep55 w55 bb a b ta tb news ha hb
end

--needs: 10 11 12 20 30 40 43 45 26 34 46 48 53 54
theorem md47 : True := trivial
/- the order behind some places -/
noncomputable def ordAt (ks : List Nat) : List Nat := ks.foldl grow [0]
theorem ordAt_snoc (ks : List Nat) (k : Nat) : ordAt (ks ++ [k]) = grow (ordAt ks) k := by simp [ordAt]
theorem ordAt_zero (ks : List Nat) : 0 ∈ ordAt ks := by
  unfold ordAt
  suffices ∀ (l : List Nat), 0 ∈ l → 0 ∈ ks.foldl grow l from this [0] (by simp)
  induction ks with
  | nil => intro l h; exact h
  | cons a r ih => intro l h; exact ih _ (grow_sub h)
theorem ordAt_nodup (ks : List Nat) : (ordAt ks).Nodup := by
  unfold ordAt
  suffices ∀ (l : List Nat), l.Nodup → (ks.foldl grow l).Nodup from this [0] (by simp)
  induction ks with
  | nil => intro l h; exact h
  | cons a r ih => intro l h; exact ih _ (grow_nodup h a)
theorem ordAt_le {b : Nat} : ∀ {ks : List Nat}, (∀ k ∈ ks, k ≤ b) → ∀ j ∈ ordAt ks, j ≤ b := by
  intro ks hk
  unfold ordAt
  suffices ∀ (l : List Nat), (∀ j ∈ l, j ≤ b) → ∀ j ∈ ks.foldl grow l, j ≤ b from this [0] (by simp)
  induction ks with
  | nil => intro l h; exact h
  | cons a r ih =>
    intro l h
    refine ih (fun k hkr => hk k (.tail _ hkr)) _ fun j hj => ?_
    rcases grow_mem hj with h' | h'
    · exact h j h'
    · exact Nat.le_trans h' (hk a (.head _))
theorem fdiv2 (j : Nat) : Int.fdiv (j : Int) 2 = ((j / 2 : Nat) : Int) := by
  rw [Int.fdiv_eq_ediv_of_nonneg _ (by omega)]
  omega
theorem grow_new' {ord : List Nat} {k : Nat} (h : k ∉ ord) (h0 : 0 ∈ ord) : grow ord k = grow ord (k / 2) ++ [k] := by
  rw [grow, if_neg h, dif_neg (show ¬ k = 0 from fun e => h (e ▸ h0))]
/- the ledger in the first loop of _law_due -/
noncomputable def DueA (ao cP cM cL : Addr) (oM oL : Obj) (tail : List (Addr × Obj)) (ks : List Nat) (prs : List (Str × Value)) (i : Nat) (m' : Str → Option Value) (nw : List (Addr × Obj)) : Prop :=
  ∃ oP v vs n, nw = (ao, listOf vs.toArray n) :: (cP, oP) :: (cM, oM) :: (cL, oL) :: tail ∧ oP.data = .cell v ∧ IntsAre vs (natsI (ordAt (ks.take i))) ∧ Has m' ((Str.ofString "order", .ref ao) :: prs)
theorem ordAt_len {b : Nat} : ∀ {ks : List Nat}, (∀ k ∈ ks, k ≤ b) → (ordAt ks).length ≤ 1 + ks.length * (b + 1) := by
  intro ks hk
  unfold ordAt
  suffices ∀ (l : List Nat), (ks.foldl grow l).length ≤ l.length + ks.length * (b + 1) from this [0]
  induction ks with
  | nil => intro l; simp
  | cons a r ih =>
    intro l
    have h1 := ih (fun k hkr => hk k (.tail _ hkr)) (grow l a)
    have h2 := grow_len l a
    have h3 := hk a (.head _)
    rw [List.foldl_cons, List.length_cons, Nat.succ_mul]
    omega
theorem DueA.start {g h : Heap} {L ao cP cM cL : Addr} {oP oM oL : Obj} {tail : List (Addr × Obj)} {ks : List Nat} {prs : List (Str × Value)} {m' : Str → Option Value} {v : Option Value} {t : Tok} {n : Nat}
    (_N : News g L h ((ao, listOf [.int 0 t].toArray n) :: (cP, oP) :: (cM, oM) :: (cL, oL) :: tail)) (hd : oP.data = .cell v) (hm : Has m' ((Str.ofString "order", .ref ao) :: prs)) :
    DueA ao cP cM cL oM oL tail ks prs 0 m' ((ao, listOf [.int 0 t].toArray n) :: (cP, oP) :: (cM, oM) :: (cL, oL) :: tail) :=
  ⟨oP, v, _, n, rfl, hd, (by rw [List.take_zero]; exact .cons 0 t .nil), hm⟩
/- the ledger in the second loop -/
noncomputable def DueB (ad ao cP cM cL pl rwa : Addr) (oM oL oo op orow : Obj) (rest : List (Addr × Obj)) (c m : Nat) (p q : Int) (ORD : List Nat) (prs : List (Str × Value)) (i : Nat) (m' : Str → Option Value) (nw : List (Addr × Obj)) : Prop :=
  ∃ (oP : Obj) (v : Option Value) (ds : List Ent) (n : Nat), nw = (ad, listOf (refs ds).toArray n) :: (ao, oo) :: (cP, oP) :: (cM, oM) :: (cL, oL) :: (pl, op) :: (rwa, orow) :: (ds.map Ent.obj ++ rest) ∧ oP.data = .cell v ∧
    Holds c m p q (ORD.take i) ds ∧ Has m' ((Str.ofString "due", .ref ad) :: prs)
theorem DueB.start {g h : Heap} {L ad ao cP cM cL pl rwa : Addr} {oP oM oL oo op orow : Obj} {rest : List (Addr × Obj)} {c m : Nat} {p q : Int} {ORD : List Nat} {prs : List (Str × Value)} {m' : Str → Option Value} {v : Option Value} {n : Nat}
    (_N : News g L h ((ad, listOf #[] n) :: (ao, oo) :: (cP, oP) :: (cM, oM) :: (cL, oL) :: (pl, op) :: (rwa, orow) :: rest)) (hd : oP.data = .cell v) (hm : Has m' ((Str.ofString "due", .ref ad) :: prs)) :
    DueB ad ao cP cM cL pl rwa oM oL oo op orow rest c m p q ORD prs 0 m' ((ad, listOf #[] n) :: (ao, oo) :: (cP, oP) :: (cM, oM) :: (cL, oL) :: (pl, op) :: (rwa, orow) :: rest) :=
  ⟨oP, v, [], n, rfl, hd, by rw [List.take_zero]; rfl, hm⟩
theorem pick2 {rs : List Value} {j : Nat} {v1 v2 : Value} (h1 : rs[j]? = some v1) (h2 : rs[j + 1]? = some v2) : (slicePick rs.toArray (some (j : Int)) (some ((j : Int) + 2)) none).toList = [v1, v2] := by
  have hl : j + 1 < rs.length := (List.getElem?_eq_some_iff.mp h2).1
  have e : sliceBounds (some (j : Int)) (some ((j : Int) + 2)) none rs.toArray.size = ((j : Int), ((j + 2 : Nat) : Int), 1) := by
    simp only [sliceBounds, Option.getD_none, show (1 : Int) > 0 by decide, if_true, if_neg (show ¬ ((j : Int) < 0) by omega), if_neg (show ¬ ((j : Int) + 2 < 0) by omega), List.size_toArray]
    congr 1
    · omega
    · congr 1
      omega
  rw [kmk_pick_nat _ e, show j + 2 - j = 2 by omega]
  show (rs.drop j).take 2 = _
  rw [List.drop_eq_getElem_cons (by omega), List.drop_eq_getElem_cons hl]
  have e1 := (List.getElem?_eq_some_iff.mp h1).2
  have e2 := (List.getElem?_eq_some_iff.mp h2).2
  simp [e1, e2]
theorem due_step {g h : Heap} {L D ta tb sl ad ao cP cM cL pl rwa I : Addr} {oD osl oo oP oM oL op orow oI : Obj} {na va nb vb : List Nat} {tna tva tnb tvb : Tok} {ds : List Ent} {rest own : List (Addr × Obj)} {n' : Nat}
    (N : News g L h ((D, oD) :: (tb, tupOf [.str (S nb) tnb, .str (S vb) tvb]) :: (ta, tupOf [.str (S na) tna, .str (S va) tva]) :: (sl, osl) :: (ad, listOf ((refs ds).toArray.toList ++ [Value.ref ta, .ref tb].toArray.toList).toArray n') :: (ao, oo) :: (cP, oP) :: (cM, oM) :: (cL, oL) :: (pl, op) :: (rwa, orow) :: (ds.map Ent.obj ++ rest ++ own)))
    (hI : (I, oI) ∈ own) (hc : oI.cls = .type "list_iterator") :
    ∃ a b : Ent, (a.n = na ∧ a.v = va ∧ b.n = nb ∧ b.v = vb) ∧ (@Ne Addr a.a I ∧ @Ne Addr b.a I) ∧
      News g L h (((ad, listOf (refs (ds ++ [a, b])).toArray n') :: (ao, oo) :: (cP, oP) :: (cM, oM) :: (cL, oL) :: (pl, op) :: (rwa, orow) :: ((ds ++ [a, b]).map Ent.obj ++ rest)) ++ own) := by
  refine ⟨⟨ta, na, tna, va, tva⟩, ⟨tb, nb, tnb, vb, tvb⟩, ⟨rfl, rfl, rfl, rfl⟩, ⟨?_, ?_⟩, ?_⟩
  · exact tup_ne N (.tail _ (.tail _ (.head _))) (by simp [hI]) (iter_no_tup hc)
  · exact tup_ne N (.tail _ (.head _)) (by simp [hI]) (iter_no_tup hc)
  · have e : refs (ds ++ [⟨ta, na, tna, va, tva⟩, ⟨tb, nb, tnb, vb, tvb⟩]) = (refs ds).toArray.toList ++ [Value.ref ta, .ref tb].toArray.toList := by simp [refs]
    rw [e, List.map_append]
    have T := nwT (nwT (nwT (nwT N)))
    have U := nwT (nwT (nwT T))
    have V := nwT (nwT (nwT (nwT U)))
    exact nwA (nwC T (nwC (nwT T) (nwC (nwT (nwT T)) (nwC U (nwC (nwT U) (nwC (nwT (nwT U)) (nwC (nwT (nwT (nwT U))) (nwA (nwA (nwL (nwL V)) (nwC (nwT (nwT N)) (nwC (nwT N) fun _ h => nomatch h))) (nwR (nwL V)))))))))) (nwR V)
/- the ledger in the inner while -/
noncomputable def DueW (ac ao cP cM cL : Addr) (oM oL : Obj) (vs : List Value) (n : Nat) (tail : List (Addr × Obj)) (ord : List Nat) (k : Nat) (prs : List (Str × Value)) (i : Nat) (m' : Str → Option Value) (nw : List (Addr × Obj)) : Prop :=
  ∃ (oP : Obj) (j : Nat) (t : Tok) (ch : List Nat) (us : List Value) (nc : Nat), nw = (ac, listOf us.toArray nc) :: (ao, listOf vs.toArray n) :: (cP, oP) :: (cM, oM) :: (cL, oL) :: tail ∧ oP.data = .cell (some (.int j t)) ∧ IntsAre us (natsI ch) ∧
    grow ord k = grow ord j ++ ch.reverse ∧ ch.length + j ≤ k ∧ i = j ∧ Has m' ((Str.ofString "chain", .ref ac) :: (Str.ofString "order", .ref ao) :: prs)
theorem DueW.start {g h : Heap} {L ac ao cP cM cL : Addr} {oP oM oL : Obj} {vs : List Value} {n : Nat} {tail : List (Addr × Obj)} {ord : List Nat} {k : Nat} {prs : List (Str × Value)} {m' : Str → Option Value} {t : Tok} {nc : Nat}
    (_N : News g L h ((ac, listOf #[] nc) :: (ao, listOf vs.toArray n) :: (cP, oP) :: (cM, oM) :: (cL, oL) :: tail)) (hd : oP.data = .cell (some (.int k t))) (hm : Has m' ((Str.ofString "chain", .ref ac) :: (Str.ofString "order", .ref ao) :: prs)) :
    DueW ac ao cP cM cL oM oL vs n tail ord k prs k m' ((ac, listOf #[] nc) :: (ao, listOf vs.toArray n) :: (cP, oP) :: (cM, oM) :: (cL, oL) :: tail) :=
  ⟨oP, k, t, [], [], nc, rfl, hd, .nil, by simp, by simp, rfl, hm⟩
section
theorem md48 : True := trivial
open LCg in
theorem end1 {h₀ : Heap} {L I C D : Addr} {m : Str → Option Value} {s₁ : Shared} {oI oC oD : Obj} {S : List (Addr × Obj) → Prop} {rest : Value → List (Addr × Obj) → Prop} {y : Value} {h' : Heap} {tk : Nat} {x1 : Addr × Obj} {news : List (Addr × Obj)}
    (F : Fr h₀ L h' m) (N : News h₀ L h' (x1 :: (I, oI) :: (C, oC) :: (D, oD) :: news)) (off : Off3 I C D news) (n1 : (@Ne Nat x1.1 I) ∧ (@Ne Nat x1.1 C) ∧ (@Ne Nat x1.1 D))
    (hS : S (x1 :: news)) (r : rest y (x1 :: news)) : CompEnd h₀ L m s₁ I oI C oC D oD S rest y { s₁ with heap := h', toks := tk } :=
  CompEnd.intro F N (x1 :: news) (fun p hp => by simp only [List.mem_cons] at hp ⊢; rcases hp with h | h | h | h | h <;> simp [h]) ⟨n1, off⟩ hS r
noncomputable section
theorem md49 : True := trivial
noncomputable def Px56 (bb : Bd) (c : Nat) (m : Nat) (p : Int) (q : Int) (k0 : Nat) (k1 : Nat) (k2 : Nat) (pl : Addr) (rwa : Addr) (t0 : Tok) (t1 : Tok) (t2 : Tok) (tl : Tok) (tm : Tok) (np : Nat) (nr : Nat) (rs : List Value) (rest : List (Addr × Obj)) (nn : Nat) (oP : Obj) (oM : Obj) (oL : Obj) : Prop :=
  Small c m p q → IntsAre rs ((List.range nn).map (U p q)) → nn ≤ 40 → k0 + 2 ≤ nn ∧ k1 + 2 ≤ nn ∧ k2 + 2 ≤ nn → k0 ≤ 20 → k1 ≤ 20 → k2 ≤ 20 → oP.data = .cell none → oM.data = .cell (some (.str (S [m]) tm)) → oL.data = .cell (some (.str (S [c]) tl)) → (∀ p ∈ ((pl, listOf [.int k0 t0, .int k1 t1, .int k2 t2].toArray np) :: (rwa, listOf rs.toArray nr) :: rest), p.1 < bL bb) →
  BodyC bb (5) 374 ([("places", .ref pl), ("row", .ref rwa), ("letter", .str (S [c]) tl), ("mark", .str (S [m]) tm)]) ((bL bb + 1 + 1 + 1, oP) :: (bL bb + 1 + 1, oM) :: (bL bb + 1, oL) :: ((pl, listOf [.int k0 t0, .int k1 t1, .int k2 t2].toArray np) :: (rwa, listOf rs.toArray nr) :: rest))
    (fun v tl => ∃ ad ds n, v = .ref ad ∧ tl = (ad, listOf (refs ds).toArray n) :: (pl, listOf [.int k0 t0, .int k1 t1, .int k2 t2].toArray np) :: (rwa, listOf rs.toArray nr) :: (ds.map Ent.obj ++ rest) ∧ Holds c m p q (ordAt [k0, k1, k2]) ds)
theorem ne56 : Nonempty (Bd × Nat × Nat × Int × Int × Nat × Nat × Nat × Addr × Addr × Tok × Tok × Tok × Tok × Tok × Nat × Nat × (List Value) × (List (Addr × Obj)) × Nat × Obj × Obj × Obj) := bd_ne.elim fun bb => ⟨(bb, 0, 0, 0, 0, 0, 0, 0, 0, 0, 0, 0, 0, 0, 0, 0, 0, [], [], 0, default, default, default)⟩
@[irreducible] noncomputable def D56 : Bd × Nat × Nat × Int × Int × Nat × Nat × Nat × Addr × Addr × Tok × Tok × Tok × Tok × Tok × Nat × Nat × (List Value) × (List (Addr × Obj)) × Nat × Obj × Obj × Obj := @Classical.epsilon _ ne56 fun d => ¬ Px56 d.1 d.2.1 d.2.2.1 d.2.2.2.1 d.2.2.2.2.1 d.2.2.2.2.2.1 d.2.2.2.2.2.2.1 d.2.2.2.2.2.2.2.1 d.2.2.2.2.2.2.2.2.1 d.2.2.2.2.2.2.2.2.2.1 d.2.2.2.2.2.2.2.2.2.2.1 d.2.2.2.2.2.2.2.2.2.2.2.1 d.2.2.2.2.2.2.2.2.2.2.2.2.1 d.2.2.2.2.2.2.2.2.2.2.2.2.2.1 d.2.2.2.2.2.2.2.2.2.2.2.2.2.2.1 d.2.2.2.2.2.2.2.2.2.2.2.2.2.2.2.1 d.2.2.2.2.2.2.2.2.2.2.2.2.2.2.2.2.1 d.2.2.2.2.2.2.2.2.2.2.2.2.2.2.2.2.2.1 d.2.2.2.2.2.2.2.2.2.2.2.2.2.2.2.2.2.2.1 d.2.2.2.2.2.2.2.2.2.2.2.2.2.2.2.2.2.2.2.1 d.2.2.2.2.2.2.2.2.2.2.2.2.2.2.2.2.2.2.2.2.1 d.2.2.2.2.2.2.2.2.2.2.2.2.2.2.2.2.2.2.2.2.2.1 d.2.2.2.2.2.2.2.2.2.2.2.2.2.2.2.2.2.2.2.2.2.2
namespace V56
@[irreducible] noncomputable def bb : Bd := D56.1
@[irreducible] noncomputable def c : Nat := D56.2.1
@[irreducible] noncomputable def m : Nat := D56.2.2.1
@[irreducible] noncomputable def p : Int := D56.2.2.2.1
@[irreducible] noncomputable def q : Int := D56.2.2.2.2.1
@[irreducible] noncomputable def k0 : Nat := D56.2.2.2.2.2.1
@[irreducible] noncomputable def k1 : Nat := D56.2.2.2.2.2.2.1
@[irreducible] noncomputable def k2 : Nat := D56.2.2.2.2.2.2.2.1
@[irreducible] noncomputable def pl : Addr := D56.2.2.2.2.2.2.2.2.1
@[irreducible] noncomputable def rwa : Addr := D56.2.2.2.2.2.2.2.2.2.1
@[irreducible] noncomputable def t0 : Tok := D56.2.2.2.2.2.2.2.2.2.2.1
@[irreducible] noncomputable def t1 : Tok := D56.2.2.2.2.2.2.2.2.2.2.2.1
@[irreducible] noncomputable def t2 : Tok := D56.2.2.2.2.2.2.2.2.2.2.2.2.1
@[irreducible] noncomputable def tl : Tok := D56.2.2.2.2.2.2.2.2.2.2.2.2.2.1
@[irreducible] noncomputable def tm : Tok := D56.2.2.2.2.2.2.2.2.2.2.2.2.2.2.1
@[irreducible] noncomputable def np : Nat := D56.2.2.2.2.2.2.2.2.2.2.2.2.2.2.2.1
@[irreducible] noncomputable def nr : Nat := D56.2.2.2.2.2.2.2.2.2.2.2.2.2.2.2.2.1
@[irreducible] noncomputable def rs : List Value := D56.2.2.2.2.2.2.2.2.2.2.2.2.2.2.2.2.2.1
@[irreducible] noncomputable def rest : List (Addr × Obj) := D56.2.2.2.2.2.2.2.2.2.2.2.2.2.2.2.2.2.2.1
@[irreducible] noncomputable def nn : Nat := D56.2.2.2.2.2.2.2.2.2.2.2.2.2.2.2.2.2.2.2.1
@[irreducible] noncomputable def oP : Obj := D56.2.2.2.2.2.2.2.2.2.2.2.2.2.2.2.2.2.2.2.2.1
@[irreducible] noncomputable def oM : Obj := D56.2.2.2.2.2.2.2.2.2.2.2.2.2.2.2.2.2.2.2.2.2.1
@[irreducible] noncomputable def oL : Obj := D56.2.2.2.2.2.2.2.2.2.2.2.2.2.2.2.2.2.2.2.2.2.2
end V56
end
theorem ep56 (h : Px56 V56.bb V56.c V56.m V56.p V56.q V56.k0 V56.k1 V56.k2 V56.pl V56.rwa V56.t0 V56.t1 V56.t2 V56.tl V56.tm V56.np V56.nr V56.rs V56.rest V56.nn V56.oP V56.oM V56.oL) (bb : Bd) (c : Nat) (m : Nat) (p : Int) (q : Int) (k0 : Nat) (k1 : Nat) (k2 : Nat) (pl : Addr) (rwa : Addr) (t0 : Tok) (t1 : Tok) (t2 : Tok) (tl : Tok) (tm : Tok) (np : Nat) (nr : Nat) (rs : List Value) (rest : List (Addr × Obj)) (nn : Nat) (oP : Obj) (oM : Obj) (oL : Obj) : Px56 bb c m p q k0 k1 k2 pl rwa t0 t1 t2 tl tm np nr rs rest nn oP oM oL := eps_at (P := fun d : Bd × Nat × Nat × Int × Int × Nat × Nat × Nat × Addr × Addr × Tok × Tok × Tok × Tok × Tok × Nat × Nat × (List Value) × (List (Addr × Obj)) × Nat × Obj × Obj × Obj => Px56 d.1 d.2.1 d.2.2.1 d.2.2.2.1 d.2.2.2.2.1 d.2.2.2.2.2.1 d.2.2.2.2.2.2.1 d.2.2.2.2.2.2.2.1 d.2.2.2.2.2.2.2.2.1 d.2.2.2.2.2.2.2.2.2.1 d.2.2.2.2.2.2.2.2.2.2.1 d.2.2.2.2.2.2.2.2.2.2.2.1 d.2.2.2.2.2.2.2.2.2.2.2.2.1 d.2.2.2.2.2.2.2.2.2.2.2.2.2.1 d.2.2.2.2.2.2.2.2.2.2.2.2.2.2.1 d.2.2.2.2.2.2.2.2.2.2.2.2.2.2.2.1 d.2.2.2.2.2.2.2.2.2.2.2.2.2.2.2.2.1 d.2.2.2.2.2.2.2.2.2.2.2.2.2.2.2.2.2.1 d.2.2.2.2.2.2.2.2.2.2.2.2.2.2.2.2.2.2.1 d.2.2.2.2.2.2.2.2.2.2.2.2.2.2.2.2.2.2.2.1 d.2.2.2.2.2.2.2.2.2.2.2.2.2.2.2.2.2.2.2.2.1 d.2.2.2.2.2.2.2.2.2.2.2.2.2.2.2.2.2.2.2.2.2.1 d.2.2.2.2.2.2.2.2.2.2.2.2.2.2.2.2.2.2.2.2.2.2) (ne := ne56) (by with_unfolding_all exact h) (bb, c, m, p, q, k0, k1, k2, pl, rwa, t0, t1, t2, tl, tm, np, nr, rs, rest, nn, oP, oM, oL)
section
open V56
theorem w56 : Px56 bb c m p q k0 k1 k2 pl rwa t0 t1 t2 tl tm np nr rs rest nn oP oM oL := by
  intro sm hrs hnn hK hk0 hk1 hk2 d1 d2 d3 l1
  refine BodyC.start (by k_is) ?_
  intro St F N hPO hret hnx
  obtain ⟨B, X, T, hA, _, _, hh, hd, hu⟩ := id St
  replace l1 := allLt_of l1
  have l2 := allLt_up l1
  have l3 := allLt_up l2
  have l4 := allLt_up l3
  (try simp only [AllLt, and_true] at l1)
  k_steps
  refine ⟨?_⟩
  rename Fr _ _ _ _ => FC
  rename News _ _ _ _ => NC
  refine iter_list (items := [.int k0 t0, .int k1 t1, .int k2 t2].toArray) (k := np) rfl (by passes_own) FC NC (by kcj_m) _ (DueA.start (ks := [k0, k1, k2]) (prs := [(Str.ofString "row", .ref rwa), (Str.ofString "places", .ref pl)]) NC (by assumption) ⟨rfl, rfl, rfl, trivial⟩) ?_ ?_
  · clear FC NC
    rintro i v m₁ news₁ h₁ tk₁ own I hi ⟨oP, vP, vs, n, rfl, hoP, hvs, hmm⟩ hnI hlt hown F₁ N₁
    obtain ⟨q1, q2, q3, -⟩ := hmm
    dsimp only [envOfC] at F₁ N₁
    replace F₁ := fr_as (ps := [("order", _), ("row", _), ("places", _)]) F₁ ⟨q1, q2, q3, trivial⟩
    simp only [kstB] at F₁
    clear q1 q2 q3
    have hv : ∃ (k : Nat) (t : Tok), v = .int k t ∧ k ≤ 20 ∧ [k0, k1, k2].take (i + 1) = [k0, k1, k2].take i ++ [k] := by
      match i, hi with
      | 0, hi => exact ⟨k0, t0, (Option.some.inj hi).symm, hk0, rfl⟩
      | 1, hi => exact ⟨k1, t1, (Option.some.inj hi).symm, hk1, rfl⟩
      | 2, hi => exact ⟨k2, t2, (Option.some.inj hi).symm, hk2, rfl⟩
    obtain ⟨k, t, rfl, hk, htk⟩ := hv
    have oo := own_ne hown hlt.2.1 (neN (by omega))
    have oa := own_ne hown hlt.1 (neN (by omega))
    dsimp only at oo oa
    simp only [List.cons_append] at N₁
    have ho0 := ordAt_zero ([k0, k1, k2].take i)
    have hnd := ordAt_nodup ([k0, k1, k2].take i)
    have htk2 : ordAt ([k0, k1, k2].take (i + 1)) = grow (ordAt ([k0, k1, k2].take i)) k := by rw [htk, ordAt_snoc]
    have hol : (ordAt ([k0, k1, k2].take i)).length ≤ 1 + 3 * 21 := by
      have := ordAt_len (b := 20) (ks := [k0, k1, k2].take i) (fun k hk => by have := List.mem_of_mem_take hk; simp at this; omega)
      have : ([k0, k1, k2].take i).length ≤ 3 := by simp; omega
      omega
    generalize ordAt ([k0, k1, k2].take i) = ord at *
    have hvl : vs.length ≤ 64 := by rw [ints_len hvs, natsI, List.length_map]; omega
    k_steps
    refine ⟨?_⟩
    rename Fr _ _ _ _ => F2
    rename News _ _ _ _ => N2
    refine While_inv2 _ F2 N2 (DueW.start (ord := ord) (k := k) (prs := [(Str.ofString "row", .ref rwa), (Str.ofString "places", .ref pl)]) N2 (by assumption) ⟨rfl, rfl, rfl, rfl, trivial⟩) ?_
    clear F2 N2
    rintro j m₂ news₂ h₂ tk₂ F₂ N₂ ⟨oQ, j', tj, ch, us, nc, rfl, hoQ, hus, hgr, hle, hji, q1, q2, q3, q4, -⟩
    replace F₂ := fr_as (ps := [("chain", _), ("order", _), ("row", _), ("places", _)]) F₂ ⟨q1, q2, q3, q4, trivial⟩
    simp only [kstB] at F₂
    clear q1 q2 q3 q4
    subst hji
    have hul : us.length ≤ 20 := by rw [ints_len hus, natsI, List.length_map]; omega
    k_with "my sz" => (wtm_at "?47-49"; (rw [List.size_toArray, sizeLine_eq]; omega))
    have hany := natsI_any (l := ord) (j := j)
    by_cases hj : j ∈ ord
    · k_with "my any" => (wtm_at "?47-49"; (rw [hany]))
      k_with "my ite" => (wtm_at "?47-49"; (refine ite_neg (by simp [hj]) ?_))
      k_steps
      refine ⟨?_⟩
      rename IntsAre _ (List.reverse _) => hw
      have hwl := ints_len hw
      rw [List.length_reverse, natsI, List.length_map] at hwl
      have hia := ints_cast (ints_app hvs hw) (show _ = natsI (ordAt ([k0, k1, k2].take (i + 1))) by rw [htk2, hgr, show grow ord j = ord by rw [grow, if_pos hj], natsI_app, natsI_rev])
      refine ext_at (pre := [_, _]) (by k_asm) (by k_asm) (by k_all) (by k_all) (.head _) (by rw [List.size_toArray, List.size_toArray]; omega) ?_
      intro h' n' F' N'
      simp only [List.cons_append, List.nil_append] at N'
      k_steps
      refine' ForPost.go (by k_asm) (News.sub (by k_asm) ?sub) ?ne ⟨oQ, _, _, n', rfl, hoQ, hia, rfl, rfl, rfl, trivial⟩
      (case ne => exact ne_same (by rfl) hnI)
      (case sub => kcj_in)
    · k_with "my any" => (wtm_at "?47-49"; (rw [hany]))
      k_with "my ite" => (wtm_at "?47-49"; (refine ite_pos (by simp [hj]) ?_))
      k_steps
      have hj0 : j ≠ 0 := fun e => hj (e ▸ ho0)
      rename News _ _ _ _ => N9
      rw [List.push_toArray] at N9
      rename _ = Data.cell (some (Value.int (Int.fdiv _ _) _)) => d9
      rw [fdiv2] at d9
      refine ⟨_, _, _, _, j / 2, rfl, (by k_asm), N9, by omega, _, j / 2, _, ch ++ [j], _, _, rfl, d9, ?_, ?_, ?_, rfl, rfl, rfl, rfl, rfl, trivial⟩
      · rw [natsI_app]
        exact ints_snoc hus
      · rw [hgr, grow_new' hj ho0]
        simp
      · simp; omega
  · clear FC NC
    rintro m₁ news₁ h₁ tk₁ F₁ N₁ ⟨oP, vP, vs, n, rfl, hoP, hvs, q1, q2, q3, -⟩
    rw [List.size_toArray, show ([Value.int k0 t0, .int k1 t1, .int k2 t2].length) = 3 from rfl, show [k0, k1, k2].take 3 = [k0, k1, k2] from rfl] at hvs
    dsimp only [envOfC] at F₁ N₁
    replace F₁ := fr_as (ps := [("order", _), ("row", _), ("places", _)]) F₁ ⟨q1, q2, q3, trivial⟩
    simp only [kstB] at F₁
    clear q1 q2 q3
    k_steps
    refine ⟨?_⟩
    rename Fr _ _ _ _ => FC
    rename News _ _ _ _ => NC
    refine iter_list2 (items := vs.toArray) (k := n) rfl (by passes_own) FC NC (by kcj_m) _ (DueB.start (c := c) (m := m) (p := p) (q := q) (ORD := ordAt [k0, k1, k2]) (prs := [(Str.ofString "row", .ref rwa)]) NC (by assumption) ⟨rfl, rfl, trivial⟩) ?_ ?_
    · clear FC NC
      rintro i v m₁ news₁ h₁ tk₁ own I hi ⟨oP, vP, ds, nd, rfl, hoP, hds, q1, q2, -⟩ hnI hlt hown ⟨oI, hoI, hoc⟩ F₁ N₁
      dsimp only [envOfC] at F₁ N₁
      replace F₁ := fr_as (ps := [("due", _), ("row", _)]) F₁ ⟨q1, q2, trivial⟩
      simp only [kstB] at F₁
      clear q1 q2
      obtain ⟨j, t, rfl, hj⟩ := ints_nat_at hvs (by simpa using hi)
      have hjm := List.mem_of_getElem? hj
      have hj2 : j + 2 ≤ nn := by
        have := ordAt_le (b := nn - 2) (ks := [k0, k1, k2]) (by intro k hk; simp at hk; omega) j hjm
        omega
      obtain ⟨t1, hr1⟩ := ints_row hrs (j := j) (by omega)
      obtain ⟨t2, hr2⟩ := ints_row hrs (j := j + 1) (by omega)
      have o1 := own_ne hown hlt.1 (neN (by dsimp only; omega))
      have o2 := own_ne hown hlt.2.2.1 (neN (by dsimp only; omega))
      simp only [List.cons_append] at N₁
      have o3 := objs_ne N₁ (fun p hp => mem7 (List.mem_append_left _ (List.mem_append_left _ hp))) (.head _) list_no_tup
      have o4 := objs_ne N₁ (fun p hp => mem7 (List.mem_append_left _ (List.mem_append_left _ hp))) (.tail _ (.tail _ (.head _))) (cell_no_tup hoP)
      dsimp only at o1 o2 o3
      k_with "my pick" => (wtm_at "?47-49"; exact pick2 hr1 hr2)
      k_with "my mul" => (wtm_at "?47-49"; (rw [show Str.ofString "\"" = S [34] from rfl]))
      have hmk := sm.m
      have b1 := sm.log (n := j) (by omega)
      have b2 := sm.log (n := j + 1) (by omega)
      have b3 := Nat.le_trans (sm.dg (n := j) (by omega)) (show 81 ≤ 600 by decide)
      have b4 := Nat.le_trans (sm.dg (n := j + 1) (by omega)) (show 81 ≤ 600 by decide)
      have b5 : (Str.ofString (toString (U p q j))).length ≤ 1000 := by rw [dg_S, S_length]; omega
      have b6 : (Str.ofString (toString (U p q (j + 1)))).length ≤ 1000 := by rw [dg_S, S_length]; omega
      k_with "my sz" => (wtm_at "?47-49"; (rw [List.size_toArray, ints_len hrs, List.length_map, List.length_range, sizeLine_eq]; omega))
      k_steps
      refine ⟨?_⟩
      have hdl := holds_len hds
      have hol : (ordAt [k0, k1, k2]).length ≤ 1 + 3 * 21 := ordAt_len (b := 20) (ks := [k0, k1, k2]) (fun k hk => by simp at hk; omega)
      have htl : ((ordAt [k0, k1, k2]).take i).length ≤ 64 := by rw [List.length_take]; omega
      rename News _ _ _ _ => N9
      (try simp only [List.cons_append] at N9)
      refine ext_at (pre := [_, _, _, _]) (by k_asm) N9 (by k_all) (by k_all) (.head _) (by simp; omega) ?_
      intro h' n' F' N'
      simp only [List.cons_append, List.nil_append] at N'
      k_steps
      obtain ⟨ea, eb, ⟨g1, g2, g3, g4⟩, ⟨g5, g6⟩, N8⟩ := due_step N' hoI hoc
      refine' ForPost.go (by k_asm) N8 ?ne ⟨_, _, ds ++ [ea, eb], n', rfl, (by assumption), ?hh, rfl, rfl, trivial⟩
      · refine allNe_cons (fun e => hnI _ (.head _) e) (allNe_cons (fun e => hnI _ (.tail _ (.head _)) e) (allNe_cons (fun e => hnI _ (.tail _ (.tail _ (.head _))) e) (allNe_cons (fun e => hnI _ (.tail _ (.tail _ (.tail _ (.head _)))) e) (allNe_cons (fun e => hnI _ (.tail _ (.tail _ (.tail _ (.tail _ (.head _))))) e) (allNe_cons (fun e => hnI _ (.tail _ (.tail _ (.tail _ (.tail _ (.tail _ (.head _)))))) e) (allNe_cons (fun e => hnI _ (.tail _ (.tail _ (.tail _ (.tail _ (.tail _ (.tail _ (.head _))))))) e) (?_)))))))
        intro p hp
        rw [List.map_append] at hp
        rcases List.mem_append.mp hp with hp | hp
        · rcases List.mem_append.mp hp with hp | hp
          · exact hnI p (mem7 (List.mem_append_left _ hp))
          · simp only [List.map_cons, List.map_nil, List.mem_cons, List.not_mem_nil, or_false] at hp
            rcases hp with rfl | rfl
            · exact g5
            · exact g6
        · exact hnI p (mem7 (List.mem_append_right _ hp))
      · unfold Holds at hds ⊢
        rw [List.take_add_one, hj, List.map_append, hds]
        simp [pairs, g1, g2, g3, g4, nm]
    · clear FC NC
      rintro m₁ news₁ h₁ tk₁ F₁ N₁ ⟨oP, vP, ds, nd, rfl, hoP, hds, q1, -⟩
      rw [List.size_toArray, ints_len hvs, natsI, List.length_map, List.take_length] at hds
      dsimp only [envOfC] at F₁ N₁
      replace F₁ := fr_as (ps := [("due", _)]) F₁ ⟨q1, trivial⟩
      simp only [kstB] at F₁
      clear q1
      k_steps
      exact hret _ _ _ _ _ (by k_asm) (News.sub (by k_asm) (by kcj_in)) ⟨_, ds, nd, rfl, rfl, hds⟩
end
theorem t_due {w : World} {mean : ExcName → Option Value} {mg mb : Str → Option Value} {c m : Nat} {p q : Int} {k0 k1 k2 : Nat} {pl rwa : Addr} {t0 t1 t2 tl tm : Tok} {np nr : Nat} {rs : List Value} {rest : List (Addr × Obj)} {nn : Nat} (sm : Small c m p q) (hrs : IntsAre rs ((List.range nn).map (U p q))) (hnn : nn ≤ 40) (hK : k0 + 2 ≤ nn ∧ k1 + 2 ≤ nn ∧ k2 + 2 ≤ nn)
    (hk0 : k0 ≤ 20) (hk1 : k1 ≤ 20) (hk2 : k2 ≤ 20) :
    Does w mean mg mb 6 (.ref 374) [.ref pl, .ref rwa, .str (S [c]) tl, .str (S [m]) tm] [] ((pl, listOf [.int k0 t0, .int k1 t1, .int k2 t2].toArray np) :: (rwa, listOf rs.toArray nr) :: rest)
      (fun v tl => ∃ ad ds n, v = .ref ad ∧ tl = (ad, listOf (refs ds).toArray n) :: (pl, listOf [.int k0 t0, .int k1 t1, .int k2 t2].toArray np) :: (rwa, listOf rs.toArray nr) :: (ds.map Ent.obj ++ rest) ∧ Holds c m p q (ordAt [k0, k1, k2]) ds) := by
  refine does_as (n := 5 + 1) (by omega) (Does.of_bodyC (binds := [("places", .ref pl), ("row", .ref rwa), ("letter", .str (S [c]) tl), ("mark", .str (S [m]) tm)]) (by k_is) (by k_is) (fun s _ => BindsTo.of_eq rfl) (by rfl) (by decide +kernel) rfl rfl rfl ?_)
  intro bb cells Y l1 e1 e2 e3 e4
  obtain ⟨oP, oM, oL, rfl, d1, d2, d3⟩ := CellsAre.three Y
  subst e1 e2 e3 e4
  exact ep56 w56 bb c m p q k0 k1 k2 pl rwa t0 t1 t2 tl tm np nr rs rest nn oP oM oL sm hrs hnn hK hk0 hk1 hk2 d1 d2 d3 l1
end

--needs: 10 20 30
theorem md50 : True := trivial
/- a turn's end in a loop that may break -/
noncomputable def BrkPost (h₀ : Heap) (L : Addr) (own : List (Addr × Obj)) (I : Addr) (J JF : (Str → Option Value) → List (Addr × Obj) → Prop) (s₁ : Shared) (Q : Flow → Shared → Prop) (f : Flow) (s₂ : Shared) : Prop :=
  match f with
  | .ret v => Q (.ret v) s₂
  | .brk => ∃ h' tk m' news', s₂ = { s₁ with heap := h', toks := tk } ∧ Fr h₀ L h' m' ∧ News h₀ L h' (news' ++ own) ∧ JF m' news'
  | _ => ∃ h' tk m' news', s₂ = { s₁ with heap := h', toks := tk } ∧ Fr h₀ L h' m' ∧ News h₀ L h' (news' ++ own) ∧ (∀ p ∈ news', p.1 ≠ I) ∧ J m' news'
theorem BrkPost.go {h₀ h' : Heap} {L : Addr} {own news' : List (Addr × Obj)} {I : Addr} {J JF : (Str → Option Value) → List (Addr × Obj) → Prop} {s₁ : Shared} {Q : Flow → Shared → Prop} {tk : Nat} {m' : Str → Option Value}
    (F : Fr h₀ L h' m') (N : News h₀ L h' (news' ++ own)) (hI : ∀ p ∈ news', p.1 ≠ I) (hJ : J m' news') : BrkPost h₀ L own I J JF s₁ Q .next { s₁ with heap := h', toks := tk } := ⟨h', tk, m', news', rfl, F, N, hI, hJ⟩
theorem BrkPost.stop {h₀ h' : Heap} {L : Addr} {own news' : List (Addr × Obj)} {I : Addr} {J JF : (Str → Option Value) → List (Addr × Obj) → Prop} {s₁ : Shared} {Q : Flow → Shared → Prop} {tk : Nat} {m' : Str → Option Value}
    (F : Fr h₀ L h' m') (N : News h₀ L h' (news' ++ own)) (hJ : JF m' news') : BrkPost h₀ L own I J JF s₁ Q .brk { s₁ with heap := h', toks := tk } := ⟨h', tk, m', news', rfl, F, N, hJ⟩
section
variable {w : World} {A : Around} {E : Value → Shared → Prop} {s : Shared} {env : Env} {h₀ : Heap} {body : List Stmt} {Q : Flow → Shared → Prop}
/- a loop over a text's signs, which may break -/
theorem iter_text {l : List Nat} {t : Tok} {m : Str → Option Value} {news : List (Addr × Obj)} {x : Str} {px : Pos} (hh : A.handled = none) (hal : ∀ c ∈ l, c < 128)
    (hE : PassesOwn (model theProg w) A env E) (F : Fr h₀ env.locals s.heap m) (N : News h₀ env.locals s.heap news)
    (J : Nat → (Str → Option Value) → List (Addr × Obj) → Prop) (JF : (Str → Option Value) → List (Addr × Obj) → Prop) (h0 : J 0 m news) (hJF : ∀ m' nw, J l.length m' nw → JF m' nw)
    (step : ∀ i c u m₁ news₁ h tk own I, l[i]? = some c → J i m₁ news₁ → (∀ p ∈ news₁, p.1 ≠ I) → AllLt I news → (∀ p ∈ own, p.1 = I) → (∃ o, (I, o) ∈ own ∧ o.cls = .type "str_ascii_iterator") → Fr h₀ env.locals h m₁ → News h₀ env.locals h (news₁ ++ own) →
      wpAny (model theProg w) A (assign (.Name x px) env (.str (S [c]) u)) (fun _ s₂ => wpAny (model theProg w) A (execs body env) (BrkPost h₀ env.locals own I (J (i + 1)) JF { s with heap := h, toks := tk } Q) E s₂) E { s with heap := h, toks := tk })
    (done : ∀ m' news' h' tk, Fr h₀ env.locals h' m' → News h₀ env.locals h' news' → JF m' news' → Q .next { s with heap := h', toks := tk }) :
    wpAny (model theProg w) A (pyIter (.str (S l) t)) (fun it s₂ => codeAny (model theProg w) A (.forLoop (.Name x px) it body [] env) (fun r s' => match r with | .ok f => Q f s' | .error e => cameBackBy (model theProg w) A env E e s') s₂) E s := by
  have lt : AllLt s.heap.objs.size news := allLt_of fun p hp => Heap.lt_size (N p hp).1
  have hnI := next_is_new F
  have ha : (S l).cps.all (· < 128) = true := by
    simp only [S]
    rw [List.all_toArray, List.all_eq_true]
    intro a h
    exact decide_eq_true (hal a h)
  refine wpAny_pyIter_ascii ha ?_
  refine for_turns (Walks.strAscii hh _ (S l) t) ?_ hnI (fun p hp => Nat.ne_of_lt (Heap.lt_size (N p hp).1)) ⟨_, Heap.get?_push_size _ rfl, rfl, rfl⟩ (F.push _) (fun p hp => ⟨Heap.get?_push_of_some _ (N p hp).1, (N p hp).2⟩) ?_ hE J h0 ?_ ?_
  · intro hm
    exact absurd F.ns.lt ((List.mem_singleton.mp hm) ▸ Nat.lt_irrefl _)
  · intro i s' v Q' hst hq
    exact wpAny_pure hq
  · rintro i v m₁ news₁ h tk own hi ⟨c, u, hc, rfl⟩ hJ hnI hown F₁ N₁ hst' hmem
    have hc' : l[i]? = some c := by simpa [S] using hc
    have hI : ∃ o, (s.heap.objs.size, o) ∈ own ∧ o.cls = .type "str_ascii_iterator" := by
      obtain ⟨o, ho, hc, _⟩ := hst'
      exact ⟨o, hmem o ho, hc⟩
    refine wpAny_mono (step i c u m₁ news₁ h tk own _ hc' hJ hnI lt (fun p hp => by simpa using hown p hp) hI F₁ N₁) (fun _ s₂ h₂ => wpAny_mono h₂ (fun f s₃ h₃ => ?_) fun _ _ e => e) fun _ _ e => e
    cases f with
    | ret v => exact h₃
    | brk =>
      obtain ⟨h', tk', m', nw, rfl, F', N', j⟩ := h₃
      exact done m' nw h' tk' F' (fun p hp => N' p (List.mem_append_left _ hp)) j
    | next => exact h₃
    | cont => exact h₃
  · intro m' news' h' tk F' N' j
    exact done m' news' h' tk F' N' (hJF _ _ (by simpa [S] using j))
end

--needs: 10 11 20 22 24 30 35 36 37 53 57
theorem md51 : True := trivial
structure WS where
  cnt : List Nat
  b : Nat
  n : Nat
  nt : Nat
noncomputable def bump (cnt : List Nat) (b : Nat) : List Nat := (cnt ++ List.replicate (b + 1 - cnt.length) 0).set b ((cnt ++ List.replicate (b + 1 - cnt.length) 0).getD b 0 + 1)
noncomputable def wsStep (s : WS) (c : Nat) : WS := if c = 32 then { s with b := s.b + 1, n := s.n + 1 } else ⟨bump s.cnt s.b, 0, s.n + 1, s.nt + 1⟩
noncomputable def wsGo : List Nat → WS → WS
  | [], s => s
  | c :: r, s => if c = 32 ∨ c = 9 then wsGo r (wsStep s c) else s
theorem bump_length (cnt : List Nat) (b : Nat) : (bump cnt b).length = max cnt.length (b + 1) := by
  simp [bump]; omega
theorem natsI_length (l : List Nat) : (natsI l).length = l.length := by simp [natsI]
theorem natsI_set (l : List Nat) (i x : Nat) : natsI (l.set i x) = (natsI l).set i (x : Int) := by simp [natsI, List.map_set]
theorem natsI_getD (l : List Nat) (i : Nat) : (natsI l).getD i 0 = ((l.getD i 0 : Nat) : Int) := by
  simp only [natsI, List.getD_eq_getElem?_getD, List.getElem?_map]
  cases l[i]? <;> rfl
theorem bump_lt {cnt : List Nat} {b : Nat} (h : b < cnt.length) : natsI (bump cnt b) = (natsI cnt).set b ((natsI cnt).getD b 0 + 1) := by
  unfold bump
  rw [show b + 1 - cnt.length = 0 by omega, List.replicate_zero, List.append_nil, natsI_set, natsI_getD]
  rfl
theorem bump_ge {cnt : List Nat} {b : Nat} (h : cnt.length ≤ b) : natsI (bump cnt b) = (natsI cnt ++ natsI (List.replicate (b - cnt.length + 1) 0)).set b ((natsI cnt ++ natsI (List.replicate (b - cnt.length + 1) 0)).getD b 0 + 1) := by
  unfold bump
  rw [show b + 1 - cnt.length = b - cnt.length + 1 by omega, natsI_set, ← natsI_app, natsI_getD]
  rfl
theorem ints_zeros {t : Tok} : ∀ n : Nat, IntsAre (List.replicate n [Value.int 0 t]).flatten (natsI (List.replicate n 0))
  | 0 => .nil
  | n + 1 => by
    rw [List.replicate_succ, List.flatten_cons, List.replicate_succ]
    exact .cons 0 t (ints_zeros n)
noncomputable abbrev wdict (w : World) (k1 k2 k3 k4 k5 : Tok) (l : List Nat) (tx : Tok) (fin : WS) (tn tnt : Tok) (no : Addr) (sb : Bool) : Obj := dictOf
  [{ hash := PyData.keyHash w.params (Str.ofString "raw"), key := Value.str (Str.ofString "raw") k1, val := Value.str (S l) tx },
   { hash := PyData.keyHash w.params (Str.ofString "n"), key := Value.str (Str.ofString "n") k2, val := Value.int fin.n tn },
   { hash := PyData.keyHash w.params (Str.ofString "nt"), key := Value.str (Str.ofString "nt") k3, val := Value.int fin.nt tnt },
   { hash := PyData.keyHash w.params (Str.ofString "norm"), key := Value.str (Str.ofString "norm") k4, val := Value.ref no },
   { hash := PyData.keyHash w.params (Str.ofString "is_simple"), key := Value.str (Str.ofString "is_simple") k5, val := Value.bool sb }] 5
/- what holds between the turns of the look at a lead -/
noncomputable def WhJ (tD b bd : Addr) (oT oB oD : Obj) (rest : List (Addr × Obj)) (prs : List (Str × Value)) (l : List Nat) (fin : WS) (i : Nat) (m' : Str → Option Value) (nw : List (Addr × Obj)) : Prop :=
  ∃ (st : WS) (ac : Addr) (vs : List Value) (kc : Nat), nw = (ac, listOf vs.toArray kc) :: (tD, oT) :: (b, oB) :: (bd, oD) :: rest ∧ IntsAre vs (natsI st.cnt) ∧ wsGo (l.drop i) st = fin ∧ st.b ≤ i ∧ st.cnt.length ≤ i ∧ st.n ≤ i ∧ (∀ p ∈ (tD, oT) :: (b, oB) :: (bd, oD) :: rest, p.1 ≠ ac) ∧
    HasI m' (Str.ofString "b") st.b ∧ HasI m' (Str.ofString "n") st.n ∧ HasI m' (Str.ofString "nt") st.nt ∧ Has m' ((Str.ofString "count", .ref ac) :: prs)
noncomputable def WhF (tD b bd : Addr) (oT oB oD : Obj) (rest : List (Addr × Obj)) (prs : List (Str × Value)) (bnd : Nat) (fin : WS) (m' : Str → Option Value) (nw : List (Addr × Obj)) : Prop :=
  ∃ (ac : Addr) (vs : List Value) (kc : Nat), nw = (ac, listOf vs.toArray kc) :: (tD, oT) :: (b, oB) :: (bd, oD) :: rest ∧ IntsAre vs (natsI fin.cnt) ∧ fin.cnt.length ≤ bnd ∧ (∀ p ∈ (tD, oT) :: (b, oB) :: (bd, oD) :: rest, p.1 ≠ ac) ∧
    HasI m' (Str.ofString "b") fin.b ∧ HasI m' (Str.ofString "n") fin.n ∧ HasI m' (Str.ofString "nt") fin.nt ∧ Has m' ((Str.ofString "count", .ref ac) :: prs)
theorem WhJ.start {g h : Heap} {L ac tD b bd : Addr} {oT oB oD : Obj} {rest : List (Addr × Obj)} {prs : List (Str × Value)} {m' : Str → Option Value} {kc : Nat}
    (_N : News g L h ((ac, listOf #[] kc) :: (tD, oT) :: (b, oB) :: (bd, oD) :: rest)) (l : List Nat) (hac : ∀ p ∈ (tD, oT) :: (b, oB) :: (bd, oD) :: rest, p.1 ≠ ac) (h1 : HasI m' (Str.ofString "b") 0) (h2 : HasI m' (Str.ofString "n") 0) (h3 : HasI m' (Str.ofString "nt") 0) (hm : Has m' ((Str.ofString "count", .ref ac) :: prs)) :
    WhJ tD b bd oT oB oD rest prs l (wsGo l ⟨[], 0, 0, 0⟩) 0 m' ((ac, listOf #[] kc) :: (tD, oT) :: (b, oB) :: (bd, oD) :: rest) :=
  ⟨⟨[], 0, 0, 0⟩, ac, [], kc, rfl, .nil, rfl, Nat.le_refl _, Nat.le_refl _, Nat.le_refl _, hac, h1, h2, h3, hm⟩
theorem WhJ.fin {tD b bd : Addr} {oT oB oD : Obj} {rest : List (Addr × Obj)} {prs : List (Str × Value)} {l : List Nat} {fin : WS} {m' : Str → Option Value} {nw : List (Addr × Obj)} (h : WhJ tD b bd oT oB oD rest prs l fin l.length m' nw) : WhF tD b bd oT oB oD rest prs l.length fin m' nw := by
  obtain ⟨st, ac, vs, kc, e, hi, hg, _, hc, _, hac, h1, h2, h3, hm⟩ := h
  rw [List.drop_length] at hg
  have hg' : st = fin := hg
  subst hg'
  exact ⟨ac, vs, kc, e, hi, hc, hac, h1, h2, h3, hm⟩
theorem list_ne {g h : Heap} {L : Addr} {l : List (Addr × Obj)} {a c : Addr} {its : Array Value} {n : Nat} {o : Obj} (N : News g L h l) (h1 : (a, listOf its n) ∈ l) (h2 : (c, o) ∈ l) (ho : o.cls = .type "str_ascii_iterator") : @Ne Addr a c := fun e => by
  subst e
  have := congrArg Obj.cls (same_obj N h1 h2)
  rw [ho] at this
  simp at this
theorem allNe_left3 {x y z : Addr × Obj} {r own : List (Addr × Obj)} {c : Addr} (h : ∀ p ∈ x :: y :: z :: (r ++ own), p.1 ≠ c) : ∀ p ∈ x :: y :: z :: r, p.1 ≠ c := fun p hp => h p (by
  simp only [List.mem_cons, List.mem_append] at hp ⊢
  rcases hp with h | h | h | h <;> simp [h])
theorem drop_at {l : List Nat} {i c : Nat} (h : l[i]? = some c) : l.drop i = c :: l.drop (i + 1) := by
  have hl := (List.getElem?_eq_some_iff.mp h).1
  rw [List.drop_eq_getElem_cons hl, (List.getElem?_eq_some_iff.mp h).2]
section
noncomputable section
theorem md52 : True := trivial
noncomputable def Px58 (bb : Bd) (b : Addr) (bd : Addr) (l : List Nat) (tx : Tok) (rest : List (Addr × Obj)) : Prop :=
  l.length ≤ 100 → (∀ c ∈ l, c < 128) → @LT.lt Nat _ bd b → AllLt bd rest →
  BodyP bb (3) 141 (fun y => ([("self", .ref b), ("ws", .str (S l) tx)] : List (Str × Value)).reverse.lookup y) ((b, instObj 186 bd) :: (bd, dictOf [] 0) :: rest)
    (fun v tl => v = .none ∧ ∃ k1 k2 k3 k4 k5 tn tnt tb no tu vs sb, tl = (no, tupOf [.ref tu, .int (wsGo l ⟨[], 0, 0, 0⟩).b tb]) :: (tu, tupOf vs) :: (b, instObj 186 bd) :: (bd, wdict (bw bb) k1 k2 k3 k4 k5 l tx (wsGo l ⟨[], 0, 0, 0⟩) tn tnt no sb) :: rest ∧ IntsAre vs (natsI (wsGo l ⟨[], 0, 0, 0⟩).cnt) ∧ (@LT.lt Nat _ b tu) ∧ (@LT.lt Nat _ tu no))
theorem ne58 : Nonempty (Bd × Addr × Addr × (List Nat) × Tok × (List (Addr × Obj))) := bd_ne.elim fun bb => ⟨(bb, 0, 0, [], 0, [])⟩
@[irreducible] noncomputable def D58 : Bd × Addr × Addr × (List Nat) × Tok × (List (Addr × Obj)) := @Classical.epsilon _ ne58 fun d => ¬ Px58 d.1 d.2.1 d.2.2.1 d.2.2.2.1 d.2.2.2.2.1 d.2.2.2.2.2
namespace V58
@[irreducible] noncomputable def bb : Bd := D58.1
@[irreducible] noncomputable def b : Addr := D58.2.1
@[irreducible] noncomputable def bd : Addr := D58.2.2.1
@[irreducible] noncomputable def l : List Nat := D58.2.2.2.1
@[irreducible] noncomputable def tx : Tok := D58.2.2.2.2.1
@[irreducible] noncomputable def rest : List (Addr × Obj) := D58.2.2.2.2.2
end V58
end
theorem ep58 (h : Px58 V58.bb V58.b V58.bd V58.l V58.tx V58.rest) (bb : Bd) (b : Addr) (bd : Addr) (l : List Nat) (tx : Tok) (rest : List (Addr × Obj)) : Px58 bb b bd l tx rest := eps_at (P := fun d : Bd × Addr × Addr × (List Nat) × Tok × (List (Addr × Obj)) => Px58 d.1 d.2.1 d.2.2.1 d.2.2.2.1 d.2.2.2.2.1 d.2.2.2.2.2) (ne := ne58) (by with_unfolding_all exact h) (bb, b, bd, l, tx, rest)
section
open V58
theorem w58 : Px58 bb b bd l tx rest := by
  intro hl hal d1 dr
  refine BodyP.start (by k_is) ?_
  intro St F N hPO hret hnx
  obtain ⟨B, X, T, hA, _, _, hh, hd, hu⟩ := id St
  k_steps
  refine ⟨?_⟩
  rename Fr _ _ _ _ => FC
  rename News _ _ _ _ => NC
  refine iter_text rfl hal (by passes_own) FC NC _ _ (WhJ.start (prs := [(Str.ofString "self", .ref b), (Str.ofString "S", _), (Str.ofString "T", _)]) NC l (by k_all) (by exact hasI_of rfl rfl) (by exact hasI_of rfl rfl) (by exact hasI_of rfl rfl) (by exact ⟨rfl, rfl, rfl, rfl, trivial⟩)) (fun _ _ h => WhJ.fin h) ?_ ?_
  · clear FC NC
    rintro i c u m₁ news₁ h₁ tk₁ own I hi ⟨st, ac, vs, kc, rfl, hvs, hgo, hb, hc1, hn, hac, ⟨t1, q1⟩, ⟨t2, q2⟩, ⟨t3, q3⟩, q4, q5, q6, q7, -⟩ hnI hlt hown ⟨oI, hoI, hoc⟩ F₁ N₁
    dsimp only [envOf] at F₁ N₁
    replace F₁ := fr_as (ps := [("b", _), ("n", _), ("nt", _), ("count", _), ("self", _), ("S", _), ("T", _)]) F₁ ⟨q1, q2, q3, q4, q5, q6, q7, trivial⟩
    simp only [kstB] at F₁
    clear q1 q2 q3 q4 q5 q6 q7
    simp only [List.cons_append] at N₁
    have hvl := ints_len hvs
    rw [natsI_length] at hvl
    have hil := (List.getElem?_eq_some_iff.mp hi).1
    rw [drop_at hi] at hgo
    have hac' := hac
    simp only [List.forall_mem_cons] at hac'
    obtain ⟨ha1, ha2, ha3, ha4⟩ := hac'
    have ho : ∀ p ∈ own, p.1 ≠ ac := fun p hp e => hnI _ (.head _) (e.symm.trans (hown p hp))
    have hnl := natsI_length st.cnt
    by_cases h32 : c = 32
    · subst h32
      k_with "my ite" => (wtm_at "?51-53"; (refine ite_pos (by decide) ?_))
      k_steps
      refine BrkPost.go (by k_asm) (by k_asm) hnI ⟨⟨st.cnt, st.b + 1, st.n + 1, st.nt⟩, ac, vs, kc, rfl, hvs, hgo, Nat.succ_le_succ hb, Nat.le_succ_of_le hc1, Nat.succ_le_succ hn, hac, hasI_of rfl rfl, hasI_of rfl rfl, hasI_of rfl rfl, rfl, rfl, rfl, rfl, trivial⟩
    · by_cases h9 : c = 9
      · subst h9
        have hgo' : wsGo (l.drop (i + 1)) ⟨bump st.cnt st.b, 0, st.n + 1, st.nt + 1⟩ = wsGo l ⟨[], 0, 0, 0⟩ := hgo
        by_cases hbc : st.b < st.cnt.length
        · k_with "my cnt" => (wtm_at "?51-53"; exact (List.size_toArray (as := vs)).trans hvl)
          k_with "my idx" => (wtm_at "?51-53"; (rw [natsI_length]; omega))
          k_with "my ite" => (wtm_at "?51-53"; first | (refine ite_neg (by decide) ?_) | (refine ite_pos (by decide) ?_) | (refine ite_neg (by simp; omega) ?_))
          k_steps
          have hbl := bump_length st.cnt st.b
          rename IntsAre (List.set _ _ _) _ => hi9
          simp only [Int.toNat_natCast] at hi9
          rw [← bump_lt hbc] at hi9
          refine BrkPost.go (by k_asm) (by k_asm) (ne_same (by rfl) hnI) ⟨⟨bump st.cnt st.b, 0, st.n + 1, st.nt + 1⟩, ac, _, kc, rfl, hi9, hgo', by simp, by simp only []; omega, Nat.succ_le_succ hn, hac, hasI_of rfl rfl, hasI_of rfl rfl, hasI_of rfl rfl, rfl, rfl, rfl, rfl, trivial⟩
        · k_with "my cnt" => (wtm_at "?51-53"; exact (List.size_toArray (as := vs)).trans hvl)
          have hz : ((st.b : Int) - st.cnt.length + 1).toNat = st.b - st.cnt.length + 1 := by omega
          have hbl := bump_length st.cnt st.b
          k_with "my sum" => (wtm_at "?51-53"; (rw [natsI_length, natsI_length, List.length_replicate, sizeLine_eq]; omega))
          k_with "my idx" => (wtm_at "?51-53"; (rw [List.length_append, natsI_length, natsI_length, List.length_replicate]; omega))
          k_with "my ite" => (wtm_at "?51-53"; first | (refine ite_neg (by decide) ?_) | (refine ite_pos (by decide) ?_) | (refine ite_pos (by simp; omega) ?_))
          k_steps
          rename IntsAre (List.set _ _ _) _ => hi9
          rename News _ _ _ _ => N9
          simp only [hz, Int.toNat_natCast] at hi9 N9
          rw [← bump_ge (by omega)] at hi9
          have hDI := list_ne (c := I) N9 (.head _) (by simp [hoI]) hoc
          refine' BrkPost.go (by k_asm) (News.sub N9 ?sub) ?ne ⟨⟨bump st.cnt st.b, 0, st.n + 1, st.nt + 1⟩, _, _, _, rfl, hi9, hgo', by simp, by simp only []; omega, Nat.succ_le_succ hn, ?hac, hasI_of rfl rfl, hasI_of rfl rfl, hasI_of rfl rfl, rfl, rfl, rfl, rfl, trivial⟩
          (case ne => exact allNe_cons hDI fun p hp => hnI p (.tail _ hp))
          (case hac => exact allNe_left3 (own := own) (by k_all))
          (case sub => kcj_in)
      · have hgo' : st = wsGo l ⟨[], 0, 0, 0⟩ := by rw [← hgo]; simp [wsGo, h32, h9]
        k_with "my ite" => (wtm_at "?51-53"; first | (refine ite_neg (by rw [show Str.ofString " " = S [32] from rfl, S_beq]; simpa using h32) ?_) | (refine ite_neg (by rw [show Str.ofString "\t" = S [9] from rfl, S_beq]; simpa using h9) ?_))
        k_steps
        subst hgo'
        exact BrkPost.stop (by k_asm) (by k_asm) ⟨ac, vs, kc, rfl, hvs, by omega, hac, hasI_of rfl rfl, hasI_of rfl rfl, hasI_of rfl rfl, rfl, rfl, rfl, rfl, trivial⟩
  · rintro m₁ news₁ h₁ tk₁ F₁ N₁ ⟨ac, vs, kc, rfl, hvs, hfl, hac, ⟨t1, q1⟩, ⟨t2, q2⟩, ⟨t3, q3⟩, q4, q5, q6, q7, -⟩
    clear FC NC
    dsimp only [envOf] at F₁ N₁
    replace F₁ := fr_as (ps := [("b", _), ("n", _), ("nt", _), ("count", _), ("self", _), ("S", _), ("T", _)]) F₁ ⟨q1, q2, q3, q4, q5, q6, q7, trivial⟩
    simp only [kstB] at F₁
    clear q1 q2 q3 q4 q5 q6 q7
    generalize wsGo l ⟨[], 0, 0, 0⟩ = fin at *
    simp only [List.forall_mem_cons] at hac
    obtain ⟨ha1, ha2, ha3, ha4⟩ := hac
    have ha3' : @Ne Addr ac bd := fun e => ha3 e.symm
    have ha2' : @Ne Addr ac b := fun e => ha2 e.symm
    have hvl := (List.size_toArray (as := vs)).trans ((ints_len hvs).trans (natsI_length fin.cnt))
    k_with "my cnt" => (wtm_at "?51-53"; exact hvl)
    k_with "my tup" => (wtm_at "?51-53"; (rw [List.size_toArray, ints_len hvs, natsI_length]; omega))
    k_steps
    exact hnx _ _ _ _ (by k_asm) (News.sub (by k_asm) (by kcj_in)) ⟨rfl, _, _, _, _, _, _, _, _, _, _, vs, _, rfl, hvs, by omega, by omega⟩
end
theorem t_white {w : World} {mean : ExcName → Option Value} {mg mb : Str → Option Value} {b bd : Addr} {l : List Nat} {tx : Tok} {rest : List (Addr × Obj)} (hl : l.length ≤ 100) (hal : ∀ c ∈ l, c < 128) (d1 : @LT.lt Nat _ bd b) (dr : AllLt bd rest) :
    DoesC w mean mg mb 4 (.ref 141) [.ref b, .str (S l) tx] [] ((b, instObj 186 bd) :: (bd, dictOf [] 0) :: rest)
      (fun v tl => v = .none ∧ ∃ k1 k2 k3 k4 k5 tn tnt tb no tu vs sb, tl = (no, tupOf [.ref tu, .int (wsGo l ⟨[], 0, 0, 0⟩).b tb]) :: (tu, tupOf vs) :: (b, instObj 186 bd) :: (bd, wdict w k1 k2 k3 k4 k5 l tx (wsGo l ⟨[], 0, 0, 0⟩) tn tnt no sb) :: rest ∧ IntsAre vs (natsI (wsGo l ⟨[], 0, 0, 0⟩).cnt) ∧ (@LT.lt Nat _ b tu) ∧ (@LT.lt Nat _ tu no)) := by
  refine does_asC (n := 3 + 1) (by omega) (DoesC.of_body (binds := [("self", .ref b), ("ws", .str (S l) tx)]) (by k_is) (by k_is) (fun s _ => BindsTo.of_eq rfl) (locs rfl) rfl rfl rfl (by decide) ?_)
  intro bb e1 e2 e3 e4
  subst e1 e2 e3 e4
  exact ep58 w58 bb b bd l tx rest hl hal d1 dr
end
section
variable {w : World} {mean : ExcName → Option Value} {mg mb : Str → Option Value} {A₀ A : Around} {env : Env} {outer : List Env} {base h₀ : Heap} {L : Addr} {gg : Array GenState} {dd : Drawn} {oo : OsState}
theorem md53 : True := trivial
/- a new Whitespace in use -/
theorem white_use {b bd : Addr} {l : List Nat} {fin : WS} {tx : Tok} {rest : List (Addr × Obj)} {h : Heap} {k : Nat} {m : Str → Option Value} {R : Result → Shared → Prop} (e : wsGo l ⟨[], 0, 0, 0⟩ = fin) (hl : l.length ≤ 100) (hal : ∀ c ∈ l, c < 128) (d1 : @LT.lt Nat _ bd b) (dr : AllLt bd rest)
    (B : Below A₀ base outer h₀) (F : Fr h₀ L h m) (X : (Mine.x.heap_1_39 w.params).In h₀) (N : News h₀ L h ((b, instObj 186 bd) :: (bd, dictOf [] 0) :: rest)) (T : Top Mine.x.view_1_40 theLoose mean mg mb h₀)
    (fr : A.frames = some (env :: outer)) (fl : env.frame = some L) (fk : env.scope.kind = .function) (hh : A.handled = none) (hd : A.depth + 4 < 900) (hu : A.units + 8 * 4 < 9000)
    (hq : ∀ k1 k2 k3 k4 k5 tn tnt tb no tu vs sb h' k', Fr h₀ L h' m → News h₀ L h' ((no, tupOf [.ref tu, .int fin.b tb]) :: (tu, tupOf vs) :: (b, instObj 186 bd) :: (bd, wdict w k1 k2 k3 k4 k5 l tx fin tn tnt no sb) :: rest) → IntsAre vs (natsI fin.cnt) → @LT.lt Nat _ b tu → @LT.lt Nat _ tu no → R (.ok (.ret .none)) ⟨h', gg, dd, k', oo⟩) :
    codeAny (model theProg w) A (.call (.ref 141) ⟨[.ref b, .str (S l) tx], []⟩) R ⟨h, gg, dd, k, oo⟩ := by
  subst e
  refine DoesC.use (t_white hl hal d1 dr) B F X N T fr fl fk hh hd hu ?_
  rintro v tl h' k' F' N' ⟨rfl, k1, k2, k3, k4, k5, tn, tnt, tb, no, tu, vs, sb, rfl, a1, a2, a3⟩
  exact hq k1 k2 k3 k4 k5 tn tnt tb no tu vs sb h' k' F' N' a1 a2 a3
end

--needs: 10 11 20 21 22 24 30 36 37 53 57 58
theorem md54 : True := trivial
/- the weight of a lead's runs at a tab size -/
noncomputable def sumW (cnt : List Nat) (tab : Nat) : Nat → Nat
  | 0 => 0
  | i + 1 => sumW cnt tab i + (tab + i) / tab * cnt.getD (tab + i) 0
theorem sumW_le {cnt : List Nat} {tab : Nat} (hc : ∀ x ∈ cnt, x ≤ 100) : ∀ i, tab + i ≤ 1000 → sumW cnt tab i ≤ i * 100000
  | 0, _ => by simp [sumW]
  | i + 1, h => by
    have ih := sumW_le (tab := tab) hc i (by omega)
    have h0 := Nat.div_le_self (tab + i) tab
    have h1 : (tab + i) / tab ≤ 1000 := Nat.le_trans h0 (show tab + i ≤ 1000 by omega)
    have h2 : cnt.getD (tab + i) 0 ≤ 100 := by
      rw [List.getD_eq_getElem?_getD]
      cases e : cnt[tab + i]? with
      | none => simp
      | some x => exact hc x (List.mem_of_getElem? e)
    have h3 := Nat.mul_le_mul h1 h2
    unfold sumW
    omega
theorem int_val {a b : Int} {t : Tok} (h : a = b) : ∃ u, Value.int a t = .int b u := ⟨t, h ▸ rfl⟩
theorem small_pow {a : Int} (h : a.natAbs < 2 ^ 60) : a.natAbs < 2 ^ 1000 := Nat.lt_of_lt_of_le h (Nat.pow_le_pow_right (by omega) (by omega))
theorem getD_le {cnt : List Nat} (hc : ∀ x ∈ cnt, x ≤ 100) (i : Nat) : cnt.getD i 0 ≤ 100 := by
  rw [List.getD_eq_getElem?_getD]
  cases e : cnt[i]? with
  | none => simp
  | some x => exact hc x (List.mem_of_getElem? e)
theorem fdiv_nat (a b : Nat) : Int.fdiv (a : Int) (b : Int) = ((a / b : Nat) : Int) := by
  rw [Int.fdiv_eq_ediv_of_nonneg _ (by omega)]
  rfl
noncomputable def IndJ (prs : List (Str × Value)) (news : List (Addr × Obj)) (cnt : List Nat) (tab : Nat) (i : Nat) (m' : Str → Option Value) (nw : List (Addr × Obj)) : Prop :=
  nw = news ∧ HasI m' (Str.ofString "il") (sumW cnt tab i) ∧ Has m' prs
theorem rsize (a b : Nat) : Builtin.Range.rangeSize (a : Int) (b : Int) 1 = ((b - a : Nat) : Int) := by
  unfold Builtin.Range.rangeSize
  rw [if_pos (by decide)]
  split
  · rw [Int.ediv_one]; omega
  · omega
theorem rsmall {a b : Nat} (ha : a ≤ 10000) (hb : b ≤ 10000) : Builtin.Range.small (a : Int) (b : Int) 1 = true := by
  unfold Builtin.Range.small
  rw [rsize]
  simp [Builtin.Range.rangeFitsLong]
  omega
section
noncomputable section
theorem md55 : True := trivial
noncomputable def Px59 (bb : Bd) (b : Addr) (bd : Addr) (no : Addr) (tu : Addr) (l : List Nat) (fin : WS) (k1 : Tok) (k2 : Tok) (k3 : Tok) (k4 : Tok) (k5 : Tok) (tx : Tok) (tn : Tok) (tnt : Tok) (tb : Tok) (tt : Tok) (vs : List Value) (sb : Bool) (tab : Nat) (rest : List (Addr × Obj)) : Prop :=
  IntsAre vs (natsI fin.cnt) → (∀ x ∈ fin.cnt, x ≤ 100) → fin.cnt.length ≤ 100 → 1 ≤ tab → tab ≤ 100 → fin.nt ≤ 100 →
  BodyP bb (3) 155 (fun y => ([("self", .ref b), ("tabsize", .int tab tt)] : List (Str × Value)).reverse.lookup y) ((no, tupOf [.ref tu, .int fin.b tb]) :: (tu, tupOf vs) :: (b, instObj 186 bd) :: (bd, wdict (bw bb) k1 k2 k3 k4 k5 l tx fin tn tnt no sb) :: rest)
    (fun v tl => (∃ t, v = .int ((fin.b + tab * (sumW fin.cnt tab (fin.cnt.length - tab) + fin.nt) : Nat) : Int) t) ∧ tl = (no, tupOf [.ref tu, .int fin.b tb]) :: (tu, tupOf vs) :: (b, instObj 186 bd) :: (bd, wdict (bw bb) k1 k2 k3 k4 k5 l tx fin tn tnt no sb) :: rest)
theorem ne59 : Nonempty (Bd × Addr × Addr × Addr × Addr × (List Nat) × WS × Tok × Tok × Tok × Tok × Tok × Tok × Tok × Tok × Tok × Tok × (List Value) × Bool × Nat × (List (Addr × Obj))) := bd_ne.elim fun bb => ⟨(bb, 0, 0, 0, 0, [], ⟨[], 0, 0, 0⟩, 0, 0, 0, 0, 0, 0, 0, 0, 0, 0, [], false, 0, [])⟩
@[irreducible] noncomputable def D59 : Bd × Addr × Addr × Addr × Addr × (List Nat) × WS × Tok × Tok × Tok × Tok × Tok × Tok × Tok × Tok × Tok × Tok × (List Value) × Bool × Nat × (List (Addr × Obj)) := @Classical.epsilon _ ne59 fun d => ¬ Px59 d.1 d.2.1 d.2.2.1 d.2.2.2.1 d.2.2.2.2.1 d.2.2.2.2.2.1 d.2.2.2.2.2.2.1 d.2.2.2.2.2.2.2.1 d.2.2.2.2.2.2.2.2.1 d.2.2.2.2.2.2.2.2.2.1 d.2.2.2.2.2.2.2.2.2.2.1 d.2.2.2.2.2.2.2.2.2.2.2.1 d.2.2.2.2.2.2.2.2.2.2.2.2.1 d.2.2.2.2.2.2.2.2.2.2.2.2.2.1 d.2.2.2.2.2.2.2.2.2.2.2.2.2.2.1 d.2.2.2.2.2.2.2.2.2.2.2.2.2.2.2.1 d.2.2.2.2.2.2.2.2.2.2.2.2.2.2.2.2.1 d.2.2.2.2.2.2.2.2.2.2.2.2.2.2.2.2.2.1 d.2.2.2.2.2.2.2.2.2.2.2.2.2.2.2.2.2.2.1 d.2.2.2.2.2.2.2.2.2.2.2.2.2.2.2.2.2.2.2.1 d.2.2.2.2.2.2.2.2.2.2.2.2.2.2.2.2.2.2.2.2
namespace V59
@[irreducible] noncomputable def bb : Bd := D59.1
@[irreducible] noncomputable def b : Addr := D59.2.1
@[irreducible] noncomputable def bd : Addr := D59.2.2.1
@[irreducible] noncomputable def no : Addr := D59.2.2.2.1
@[irreducible] noncomputable def tu : Addr := D59.2.2.2.2.1
@[irreducible] noncomputable def l : List Nat := D59.2.2.2.2.2.1
@[irreducible] noncomputable def fin : WS := D59.2.2.2.2.2.2.1
@[irreducible] noncomputable def k1 : Tok := D59.2.2.2.2.2.2.2.1
@[irreducible] noncomputable def k2 : Tok := D59.2.2.2.2.2.2.2.2.1
@[irreducible] noncomputable def k3 : Tok := D59.2.2.2.2.2.2.2.2.2.1
@[irreducible] noncomputable def k4 : Tok := D59.2.2.2.2.2.2.2.2.2.2.1
@[irreducible] noncomputable def k5 : Tok := D59.2.2.2.2.2.2.2.2.2.2.2.1
@[irreducible] noncomputable def tx : Tok := D59.2.2.2.2.2.2.2.2.2.2.2.2.1
@[irreducible] noncomputable def tn : Tok := D59.2.2.2.2.2.2.2.2.2.2.2.2.2.1
@[irreducible] noncomputable def tnt : Tok := D59.2.2.2.2.2.2.2.2.2.2.2.2.2.2.1
@[irreducible] noncomputable def tb : Tok := D59.2.2.2.2.2.2.2.2.2.2.2.2.2.2.2.1
@[irreducible] noncomputable def tt : Tok := D59.2.2.2.2.2.2.2.2.2.2.2.2.2.2.2.2.1
@[irreducible] noncomputable def vs : List Value := D59.2.2.2.2.2.2.2.2.2.2.2.2.2.2.2.2.2.1
@[irreducible] noncomputable def sb : Bool := D59.2.2.2.2.2.2.2.2.2.2.2.2.2.2.2.2.2.2.1
@[irreducible] noncomputable def tab : Nat := D59.2.2.2.2.2.2.2.2.2.2.2.2.2.2.2.2.2.2.2.1
@[irreducible] noncomputable def rest : List (Addr × Obj) := D59.2.2.2.2.2.2.2.2.2.2.2.2.2.2.2.2.2.2.2.2
end V59
end
theorem ep59 (h : Px59 V59.bb V59.b V59.bd V59.no V59.tu V59.l V59.fin V59.k1 V59.k2 V59.k3 V59.k4 V59.k5 V59.tx V59.tn V59.tnt V59.tb V59.tt V59.vs V59.sb V59.tab V59.rest) (bb : Bd) (b : Addr) (bd : Addr) (no : Addr) (tu : Addr) (l : List Nat) (fin : WS) (k1 : Tok) (k2 : Tok) (k3 : Tok) (k4 : Tok) (k5 : Tok) (tx : Tok) (tn : Tok) (tnt : Tok) (tb : Tok) (tt : Tok) (vs : List Value) (sb : Bool) (tab : Nat) (rest : List (Addr × Obj)) : Px59 bb b bd no tu l fin k1 k2 k3 k4 k5 tx tn tnt tb tt vs sb tab rest := eps_at (P := fun d : Bd × Addr × Addr × Addr × Addr × (List Nat) × WS × Tok × Tok × Tok × Tok × Tok × Tok × Tok × Tok × Tok × Tok × (List Value) × Bool × Nat × (List (Addr × Obj)) => Px59 d.1 d.2.1 d.2.2.1 d.2.2.2.1 d.2.2.2.2.1 d.2.2.2.2.2.1 d.2.2.2.2.2.2.1 d.2.2.2.2.2.2.2.1 d.2.2.2.2.2.2.2.2.1 d.2.2.2.2.2.2.2.2.2.1 d.2.2.2.2.2.2.2.2.2.2.1 d.2.2.2.2.2.2.2.2.2.2.2.1 d.2.2.2.2.2.2.2.2.2.2.2.2.1 d.2.2.2.2.2.2.2.2.2.2.2.2.2.1 d.2.2.2.2.2.2.2.2.2.2.2.2.2.2.1 d.2.2.2.2.2.2.2.2.2.2.2.2.2.2.2.1 d.2.2.2.2.2.2.2.2.2.2.2.2.2.2.2.2.1 d.2.2.2.2.2.2.2.2.2.2.2.2.2.2.2.2.2.1 d.2.2.2.2.2.2.2.2.2.2.2.2.2.2.2.2.2.2.1 d.2.2.2.2.2.2.2.2.2.2.2.2.2.2.2.2.2.2.2.1 d.2.2.2.2.2.2.2.2.2.2.2.2.2.2.2.2.2.2.2.2) (ne := ne59) (by with_unfolding_all exact h) (bb, b, bd, no, tu, l, fin, k1, k2, k3, k4, k5, tx, tn, tnt, tb, tt, vs, sb, tab, rest)
section
open V59
theorem w59 : Px59 bb b bd no tu l fin k1 k2 k3 k4 k5 tx tn tnt tb tt vs sb tab rest := by
  intro hv hc hl ht0 ht hnt
  refine BodyP.start (by k_is) ?_
  intro St F N hPO hret hnx
  obtain ⟨B, X, T, hA, _, _, hh, hd, hu⟩ := id St
  have hvl := (ints_len hv).trans (natsI_length fin.cnt)
  k_with "my fit" => (wtm_at "?54-55"; (rw [List.size_toArray, hvl]; omega))
  k_with "my len2" => (wtm_at "?54-55"; (rw [List.size_toArray, hvl]))
  k_steps
  refine ⟨?_⟩
  rename Fr _ _ _ _ => FC
  rename News _ _ _ _ => NC
  refine iter_range rfl (by passes_own) (by assumption) (rsmall (by omega) (by omega)) (rsize _ _) FC NC (IndJ [(Str.ofString "self", .ref b), (Str.ofString "tabsize", .int tab tt), (Str.ofString "count", .ref tu), (Str.ofString "trailing", .int fin.b tb)] _ fin.cnt tab) ⟨rfl, hasI_of rfl rfl, rfl, rfl, rfl, rfl, trivial⟩ ?_ ?_
  · clear FC NC
    rintro i t m₁ news₁ h₁ tk₁ own I hi ⟨rfl, ⟨ti, q0⟩, q1, q2, q3, q4, -⟩ hnI hlt hown F₁ N₁
    dsimp only [envOf] at F₁ N₁
    replace F₁ := fr_as (ps := [("il", _), ("self", _), ("tabsize", _), ("count", _), ("trailing", _)]) F₁ ⟨q0, q1, q2, q3, q4, trivial⟩
    simp only [kstB] at F₁
    clear q0 q1 q2 q3 q4
    have e1 : Int.fdiv ((tab : Int) + (i : Int)) (tab : Int) = (((tab + i) / tab : Nat) : Int) := fdiv_nat (tab + i) tab
    have e2 : (natsI fin.cnt).getD ((tab : Int) + (i : Int)).toNat 0 = ((fin.cnt.getD (tab + i) 0 : Nat) : Int) := by
      rw [show ((tab : Int) + (i : Int)).toNat = tab + i by omega, natsI_getD]
    have hm : IntMulOk (Int.fdiv ((tab : Int) + (i : Int)) (tab : Int)) ((natsI fin.cnt).getD ((tab : Int) + (i : Int)).toNat 0) := by
      rw [e1, e2]
      have h0 := Nat.div_le_self (tab + i) tab
      have h2 := getD_le hc (tab + i)
      generalize (tab + i) / tab = x at *
      generalize fin.cnt.getD (tab + i) 0 = y at *
      exact mul_ok (small_pow (by omega)) (small_pow (by omega))
    k_with "my idx" => (wtm_at "?54-55"; (rw [natsI_length]; omega))
    k_steps
    refine ForPost.go (by k_asm) (by k_asm) hnI ⟨rfl, hasI_of rfl ?_, rfl, rfl, rfl, rfl, trivial⟩
    rw [e1, e2]
    show _ = ((sumW fin.cnt tab i + (tab + i) / tab * fin.cnt.getD (tab + i) 0 : Nat) : Int)
    rw [Int.natCast_add, Int.natCast_mul]
  · rintro m₁ news₁ h₁ tk₁ F₁ N₁ ⟨rfl, ⟨ti, q0⟩, q1, q2, q3, q4, -⟩
    clear FC NC
    dsimp only [envOf] at F₁ N₁
    replace F₁ := fr_as (ps := [("il", _), ("self", _), ("tabsize", _), ("count", _), ("trailing", _)]) F₁ ⟨q0, q1, q2, q3, q4, trivial⟩
    simp only [kstB] at F₁
    clear q0 q1 q2 q3 q4
    have hs := sumW_le (cnt := fin.cnt) (tab := tab) hc (fin.cnt.length - tab) (by omega)
    have hs2 := Nat.mul_le_mul (show fin.cnt.length - tab ≤ 100 by omega) (Nat.le_refl 100000)
    have hm : IntMulOk (tab : Int) (((sumW fin.cnt tab (fin.cnt.length - tab) : Nat) : Int) + (fin.nt : Int)) := mul_ok (small_pow (by omega)) (small_pow (by omega))
    k_steps
    refine hret _ _ _ _ _ (by k_asm) (by k_asm) ⟨int_val ?_, rfl⟩
    rw [Int.natCast_add, Int.natCast_mul, Int.natCast_add]
end
theorem t_indent {w : World} {mean : ExcName → Option Value} {mg mb : Str → Option Value} {b bd no tu : Addr} {l : List Nat} {fin : WS} {k1 k2 k3 k4 k5 tx tn tnt tb tt : Tok} {vs : List Value} {sb : Bool} {tab : Nat} {rest : List (Addr × Obj)}
    (hv : IntsAre vs (natsI fin.cnt)) (hc : ∀ x ∈ fin.cnt, x ≤ 100) (hl : fin.cnt.length ≤ 100) (ht0 : 1 ≤ tab) (ht : tab ≤ 100) (hnt : fin.nt ≤ 100) :
    Does w mean mg mb 4 (.ref 155) [.ref b, .int tab tt] [] ((no, tupOf [.ref tu, .int fin.b tb]) :: (tu, tupOf vs) :: (b, instObj 186 bd) :: (bd, wdict w k1 k2 k3 k4 k5 l tx fin tn tnt no sb) :: rest)
      (fun v tl => (∃ t, v = .int ((fin.b + tab * (sumW fin.cnt tab (fin.cnt.length - tab) + fin.nt) : Nat) : Int) t) ∧ tl = (no, tupOf [.ref tu, .int fin.b tb]) :: (tu, tupOf vs) :: (b, instObj 186 bd) :: (bd, wdict w k1 k2 k3 k4 k5 l tx fin tn tnt no sb) :: rest) := by
  refine does_as (n := 3 + 1) (by omega) (Does.of_body (binds := [("self", .ref b), ("tabsize", .int tab tt)]) (by k_is) (by k_is) (fun s _ => BindsTo.of_eq rfl) (locs rfl) rfl rfl rfl (by decide) ?_)
  intro bb e1 e2 e3 e4
  subst e1 e2 e3 e4
  exact ep59 w59 bb b bd no tu l fin k1 k2 k3 k4 k5 tx tn tnt tb tt vs sb tab rest hv hc hl ht0 ht hnt
end

--needs: 10 20 53 57 58 59
theorem md56 : True := trivial
/- the lead's text -/
noncomputable def lead (a b : Nat) : List Nat := List.replicate a 32 ++ (9 :: (List.replicate b 32 ++ [9, 32, 120, 32, 9]))
theorem go_blanks (r : List Nat) : ∀ (k : Nat) (st : WS), wsGo (List.replicate k 32 ++ r) st = wsGo r { st with b := st.b + k, n := st.n + k }
  | 0, st => rfl
  | k + 1, st => by
    rw [List.replicate_succ, List.cons_append]
    show wsGo (List.replicate k 32 ++ r) (wsStep st 32) = _
    rw [go_blanks r k]
    congr 1
    simp only [wsStep, if_true]
    congr 1 <;> omega
theorem go_lead (a b : Nat) : wsGo (lead a b) ⟨[], 0, 0, 0⟩ = ⟨bump (bump [] a) b, 1, a + b + 3, 2⟩ := by
  unfold lead
  rw [go_blanks]
  show wsGo (List.replicate b 32 ++ [9, 32, 120, 32, 9]) (wsStep _ 9) = _
  rw [go_blanks]
  simp [wsGo, wsStep]
  omega
/- the weight of a list of counts -/
noncomputable def wtl (tab : Nat) : Nat → List Nat → Nat
  | _, [] => 0
  | k, x :: r => k / tab * x + wtl tab (k + 1) r
theorem wtl_app (tab : Nat) : ∀ (k : Nat) (l r : List Nat), wtl tab k (l ++ r) = wtl tab k l + wtl tab (k + l.length) r
  | k, [], r => by simp [wtl]
  | k, x :: l, r => by
    have e := wtl_app tab (k + 1) l r
    rw [show k + 1 + l.length = k + (l.length + 1) by omega] at e
    show k / tab * x + wtl tab (k + 1) (l ++ r) = k / tab * x + wtl tab (k + 1) l + wtl tab (k + (l.length + 1)) r
    omega
theorem sumW_wtl (cnt : List Nat) (tab : Nat) : ∀ i, tab + i ≤ cnt.length → sumW cnt tab i = wtl tab tab ((cnt.drop tab).take i)
  | 0, _ => by simp [sumW, wtl]
  | i + 1, h => by
    unfold sumW
    rw [sumW_wtl cnt tab i (by omega), List.take_add_one, wtl_app]
    have hg : (cnt.drop tab)[i]? = some (cnt.getD (tab + i) 0) := by
      rw [List.getElem?_drop, List.getD_eq_getElem?_getD]
      have : tab + i < cnt.length := by omega
      simp [this]
    rw [hg]
    simp only [Option.toList_some, wtl, Nat.add_zero]
    rw [show (List.take i (cnt.drop tab)).length = i by simp; omega]
theorem wtl_low (tab : Nat) : ∀ (k : Nat) (l : List Nat), k + l.length ≤ tab → wtl tab k l = 0
  | k, [], _ => rfl
  | k, x :: l, h => by
    rw [List.length_cons] at h
    unfold wtl
    rw [wtl_low tab (k + 1) l (by omega), Nat.div_eq_of_lt (by omega)]
    simp
theorem sumW_all (cnt : List Nat) (tab : Nat) : sumW cnt tab (cnt.length - tab) = wtl tab 0 cnt := by
  by_cases h : tab ≤ cnt.length
  · rw [sumW_wtl cnt tab _ (by omega)]
    have e : wtl tab 0 (cnt.take tab ++ cnt.drop tab) = _ := wtl_app tab 0 _ _
    rw [List.take_append_drop] at e
    rw [e, wtl_low tab 0 _ (by simp; omega), List.length_take, Nat.min_eq_left h, List.take_of_length_le (by simp)]
    simp
  · rw [show cnt.length - tab = 0 by omega, wtl_low tab 0 cnt (by omega)]
    rfl
theorem wtl_zeros (tab : Nat) : ∀ (n k : Nat), wtl tab k (List.replicate n 0) = 0
  | 0, _ => rfl
  | n + 1, k => by
    rw [List.replicate_succ]
    unfold wtl
    rw [wtl_zeros tab n (k + 1)]
    simp
theorem wtl_set (tab : Nat) : ∀ (l : List Nat) (k i : Nat), i < l.length → wtl tab k (l.set i (l.getD i 0 + 1)) = wtl tab k l + (k + i) / tab
  | [], _, _, h => absurd h (Nat.not_lt_zero _)
  | x :: l, k, 0, _ => by
    simp only [List.set_cons_zero, List.getD_cons_zero, wtl, Nat.add_zero]
    rw [Nat.mul_add, Nat.mul_one]
    omega
  | x :: l, k, i + 1, h => by
    simp only [List.set_cons_succ, List.getD_cons_succ, wtl]
    rw [wtl_set tab l (k + 1) i (by simpa using h), show k + 1 + i = k + (i + 1) by omega]
    omega
theorem wtl_bump (tab : Nat) (cnt : List Nat) (b : Nat) : wtl tab 0 (bump cnt b) = wtl tab 0 cnt + b / tab := by
  unfold bump
  rw [wtl_set tab _ 0 b (by simp; omega), wtl_app, wtl_zeros]
  simp
theorem bump_le {cnt : List Nat} {b B : Nat} (h : ∀ x ∈ cnt, x ≤ B) : ∀ x ∈ bump cnt b, x ≤ B + 1 := by
  intro x hx
  unfold bump at hx
  rcases List.mem_or_eq_of_mem_set hx with h' | h'
  · rcases List.mem_append.mp h' with h' | h'
    · have := h x h'; omega
    · have := List.eq_of_mem_replicate h'; omega
  · have : (cnt ++ List.replicate (b + 1 - cnt.length) 0).getD b 0 ≤ B := by
      rw [List.getD_eq_getElem?_getD]
      cases e : (cnt ++ List.replicate (b + 1 - cnt.length) 0)[b]? with
      | none => simp
      | some y =>
        rcases List.mem_append.mp (List.mem_of_getElem? e) with h' | h'
        · exact h y h'
        · have := List.eq_of_mem_replicate h'; simp; omega
    omega
theorem lead_cnt (a b : Nat) : (∀ x ∈ bump (bump [] a) b, x ≤ 100) ∧ (bump (bump [] a) b).length = max (a + 1) (b + 1) := by
  refine ⟨fun x hx => ?_, ?_⟩
  · have := bump_le (B := 1) (bump_le (B := 0) (cnt := []) (b := a) (by simp)) x hx
    omega
  · rw [bump_length, bump_length]
    simp
/- the lead's column at a tab size -/
noncomputable def col (a b tab : Nat) : Nat := 1 + tab * (sumW (bump (bump [] a) b) tab ((bump (bump [] a) b).length - tab) + 2)
theorem col_is (a b tab : Nat) : (col a b tab : Int) = ((a + b + 3 : Nat) : Int) + ((tab : Int) - 1) * 2 - Int.fmod a tab - Int.fmod b tab := by
  unfold col
  rw [sumW_all, wtl_bump, wtl_bump]
  have e1 : Int.fmod (a : Int) (tab : Int) = ((a % tab : Nat) : Int) := by
    rw [Int.fmod_eq_emod_of_nonneg _ (by omega)]; rfl
  have e2 : Int.fmod (b : Int) (tab : Int) = ((b % tab : Nat) : Int) := by
    rw [Int.fmod_eq_emod_of_nonneg _ (by omega)]; rfl
  rw [e1, e2]
  have h1 := Nat.div_add_mod a tab
  have h2 := Nat.div_add_mod b tab
  simp only [wtl, Nat.zero_add]
  rw [Nat.mul_add, Nat.mul_add]
  omega
theorem shared_gcd : ∀ a, a ≤ 20 → ∀ b, b ≤ 20 → 1 ≤ a → 1 ≤ b → ((1 ≤ Nat.gcd a b ∧ Nat.gcd a b ≤ 20 ∧ a % Nat.gcd a b = 0 ∧ b % Nat.gcd a b = 0) ∧ ∀ t, t ≤ 20 → 1 ≤ t → a % t = 0 → b % t = 0 → t ≤ Nat.gcd a b) := by
  intro a ha b hb h1 h2
  have hp : 0 < Nat.gcd a b := Nat.gcd_pos_of_pos_left b h1
  refine ⟨⟨hp, Nat.le_trans (Nat.le_of_dvd h1 (Nat.gcd_dvd_left a b)) ha, Nat.mod_eq_zero_of_dvd (Nat.gcd_dvd_left a b), Nat.mod_eq_zero_of_dvd (Nat.gcd_dvd_right a b)⟩, ?_⟩
  intro t _ _ h3 h4
  exact Nat.le_of_dvd hp (Nat.dvd_gcd (Nat.dvd_of_mod_eq_zero h3) (Nat.dvd_of_mod_eq_zero h4))
/- the tab sizes at which the lead is all its signs and one size less one more for each tab -/
noncomputable def fits (a b : Nat) (t : Nat) : Bool := (col a b (t + 1) : Int) == ((a + b + 3 : Nat) : Int) + (((t + 1 : Nat) : Int) - 1) * ((2 : Nat) : Int)
theorem fits_iff (a b t : Nat) : fits a b t = true ↔ a % (t + 1) = 0 ∧ b % (t + 1) = 0 := by
  unfold fits
  rw [beq_iff_eq, col_is]
  have e1 : Int.fmod (a : Int) ((t + 1 : Nat) : Int) = ((a % (t + 1) : Nat) : Int) := by
    rw [Int.fmod_eq_emod_of_nonneg _ (by omega)]; rfl
  have e2 : Int.fmod (b : Int) ((t + 1 : Nat) : Int) = ((b % (t + 1) : Nat) : Int) := by
    rw [Int.fmod_eq_emod_of_nonneg _ (by omega)]; rfl
  rw [e1, e2, show ((2 : Nat) : Int) = 2 from rfl]
  generalize a % (t + 1) = x
  generalize b % (t + 1) = y
  omega
theorem filt_pos {p : Nat → Bool} {i : Nat} (h : p i = true) : natsI (((List.range (i + 1)).filter p).map (· + 1)) = natsI (((List.range i).filter p).map (· + 1)) ++ [((i + 1 : Nat) : Int)] := by
  rw [List.range_succ, List.filter_append, List.map_append, natsI_app]
  simp [natsI, h]
theorem filt_neg {p : Nat → Bool} {i : Nat} (h : p i = false) : natsI (((List.range (i + 1)).filter p).map (· + 1)) = natsI (((List.range i).filter p).map (· + 1)) := by
  rw [List.range_succ, List.filter_append, List.map_append, natsI_app]
  simp [natsI, h]
theorem fits_pos {a b : Nat} (ha : a ≤ 20) (hb : b ≤ 20) (ha1 : 1 ≤ a) (hb1 : 1 ≤ b) : ((Nat.gcd a b : Nat) : Int) ∈ natsI (((List.range 20).filter (fits a b)).map (· + 1)) := by
  obtain ⟨⟨h1, h2, h3, h4⟩, _⟩ := shared_gcd a ha b hb ha1 hb1
  refine List.mem_map.mpr ⟨Nat.gcd a b, List.mem_map.mpr ⟨Nat.gcd a b - 1, List.mem_filter.mpr ⟨List.mem_range.mpr (by omega), ?_⟩, by omega⟩, rfl⟩
  rw [fits_iff, show Nat.gcd a b - 1 + 1 = Nat.gcd a b by omega]
  exact ⟨h3, h4⟩
theorem fits_len {a b : Nat} (ha : a ≤ 20) (hb : b ≤ 20) (ha1 : 1 ≤ a) (hb1 : 1 ≤ b) : 0 < (natsI (((List.range 20).filter (fits a b)).map (· + 1))).length := List.length_pos_of_mem (fits_pos ha hb ha1 hb1)
theorem fits_max {a b : Nat} {M : Int} (ha : a ≤ 20) (hb : b ≤ 20) (ha1 : 1 ≤ a) (hb1 : 1 ≤ b) (hM : M ∈ natsI (((List.range 20).filter (fits a b)).map (· + 1))) (hall : ∀ x, x ∈ natsI (((List.range 20).filter (fits a b)).map (· + 1)) → x ≤ M) : M = ((Nat.gcd a b : Nat) : Int) := by
  have h1 := hall _ (fits_pos ha hb ha1 hb1)
  obtain ⟨y, hy, rfl⟩ := List.mem_map.mp hM
  obtain ⟨t, ht, rfl⟩ := List.mem_map.mp hy
  obtain ⟨ht1, ht2⟩ := List.mem_filter.mp ht
  obtain ⟨h3, h4⟩ := (fits_iff a b t).mp ht2
  have h5 := (shared_gcd a ha b hb ha1 hb1).2 (t + 1) (by have := List.mem_range.mp ht1; omega) (by omega) h3 h4
  have h6 : ((Nat.gcd a b : Nat) : Int) ≤ ((t + 1 : Nat) : Int) := h1
  show ((t + 1 : Nat) : Int) = _
  omega

--needs: 10 11 20 21 22 24 30 34 35 36 37 40 53 54 57 58 59 60
theorem md57 : True := trivial
theorem catTab (l : List Nat) : S l ++ Str.ofString "\t" = S (l ++ [9]) := by rw [show Str.ofString "\t" = S [9] from rfl, S_app]
theorem catLead (a b : Nat) : S ((List.replicate a 32 ++ [9]) ++ List.replicate b 32) ++ Str.ofString "\t x \t" = S (lead a b) := by
  rw [show Str.ofString "\t x \t" = S [9, 32, 120, 32, 9] from rfl, S_app]
  simp [lead]
theorem lead_len (a b : Nat) : (lead a b).length = a + b + 6 := by simp [lead]; omega
theorem lead_ascii (a b : Nat) : ∀ c ∈ lead a b, c < 128 := by
  intro c hc
  simp only [lead, List.mem_append, List.mem_cons, List.not_mem_nil, or_false] at hc
  rcases hc with h | h | h | h | h | h | h | h
  · have := List.eq_of_mem_replicate h; omega
  · omega
  · have := List.eq_of_mem_replicate h; omega
  all_goals omega
theorem getD0 (x y : Int) : [x, y].getD (Int.toNat 0) 0 = x := rfl
theorem getD1 (x y : Int) : [x, y].getD (Int.toNat 1) 0 = y := rfl
theorem lenB : (Str.ofString "\t").length = 1 ∧ (Str.ofString "\t x \t").length = 5 := ⟨rfl, rfl⟩
section
variable {g h : Heap} {L : Addr} {x1 x2 x3 y1 y2 y3 y4 : Addr × Obj} {r : List (Addr × Obj)}
theorem w_front (N : News g L h (x1 :: x2 :: x3 :: y1 :: y2 :: y3 :: y4 :: r)) : News g L h (y1 :: y2 :: y3 :: y4 :: x1 :: x2 :: x3 :: r) :=
  have T := nwT (nwT (nwT N))
  have U := nwT (nwT (nwT T))
  nwC T (nwC (nwT T) (nwC (nwT (nwT T)) (nwC U (nwC N (nwC (nwT N) (nwC (nwT (nwT N)) (nwT U)))))))
theorem w_back (N : News g L h (y1 :: y2 :: y3 :: y4 :: x1 :: x2 :: x3 :: r)) : News g L h (x1 :: x2 :: x3 :: y1 :: y2 :: y3 :: y4 :: r) :=
  have T := nwT (nwT (nwT (nwT N)))
  nwC T (nwC (nwT T) (nwC (nwT (nwT T)) (nwC N (nwC (nwT N) (nwC (nwT (nwT N)) (nwC (nwT (nwT (nwT N))) (nwT (nwT (nwT T)))))))))
end
section
theorem md58 : True := trivial
theorem item_lit {prog : Program} {w : World} {A : Around} {E : Value → Shared → Prop} {s : Shared} {value slice : PySem.Expr} {l : Addr} {vs : List Value} {k : Int} {u : Tok} {v : Value} {Q : Value → Shared → Prop}
    (hl : s.heap.IsList l vs.toArray) (h0 : 0 ≤ k) (hhi : k < 2 ^ 63) (hx : vs[k.toNat]? = some v) (h : Q v s)
    (hs : subscripted slice false (.ref l) (.int k u) = operate [.ref l, .int k u] (getItem (.ref l) (.int k u)) := by with_unfolding_all rfl) :
    wpAny (model prog w) A (subscriptTail value slice (.ref l) (.int k u)) Q E s :=
  tail_any hl.typeIs slot_list_getitem.lookup (wpAny_getItem_list hl h0 hhi (by simpa using hx) h) hs
noncomputable section
theorem md59 : True := trivial
noncomputable def Px61 (bb : Bd) (a : Nat) (b : Nat) (pl : Addr) (ta : Tok) (tb : Tok) (np : Nat) (rest : List (Addr × Obj)) (oC : Obj) (oW : Obj) (oA : Obj) : Prop :=
  a ≤ 20 → b ≤ 20 → 1 ≤ a → 1 ≤ b → oC.data = .cell none → oW.data = .cell none → oA.data = .cell (some (.ref pl)) → (∀ p ∈ ((pl, listOf [.int a ta, .int b tb].toArray np) :: rest), p.1 < bL bb) →
  BodyC bb (7) 362 ([("places", .ref pl)]) ((bL bb + 1 + 1 + 1, oC) :: (bL bb + 1 + 1, oW) :: (bL bb + 1, oA) :: ((pl, listOf [.int a ta, .int b tb].toArray np) :: rest))
    (fun v tl => (∃ t, v = .int (Nat.gcd a b : Nat) t) ∧ tl = ((pl, listOf [.int a ta, .int b tb].toArray np) :: rest))
theorem ne61 : Nonempty (Bd × Nat × Nat × Addr × Tok × Tok × Nat × (List (Addr × Obj)) × Obj × Obj × Obj) := bd_ne.elim fun bb => ⟨(bb, 0, 0, 0, 0, 0, 0, [], default, default, default)⟩
@[irreducible] noncomputable def D61 : Bd × Nat × Nat × Addr × Tok × Tok × Nat × (List (Addr × Obj)) × Obj × Obj × Obj := @Classical.epsilon _ ne61 fun d => ¬ Px61 d.1 d.2.1 d.2.2.1 d.2.2.2.1 d.2.2.2.2.1 d.2.2.2.2.2.1 d.2.2.2.2.2.2.1 d.2.2.2.2.2.2.2.1 d.2.2.2.2.2.2.2.2.1 d.2.2.2.2.2.2.2.2.2.1 d.2.2.2.2.2.2.2.2.2.2
namespace V61
@[irreducible] noncomputable def bb : Bd := D61.1
@[irreducible] noncomputable def a : Nat := D61.2.1
@[irreducible] noncomputable def b : Nat := D61.2.2.1
@[irreducible] noncomputable def pl : Addr := D61.2.2.2.1
@[irreducible] noncomputable def ta : Tok := D61.2.2.2.2.1
@[irreducible] noncomputable def tb : Tok := D61.2.2.2.2.2.1
@[irreducible] noncomputable def np : Nat := D61.2.2.2.2.2.2.1
@[irreducible] noncomputable def rest : List (Addr × Obj) := D61.2.2.2.2.2.2.2.1
@[irreducible] noncomputable def oC : Obj := D61.2.2.2.2.2.2.2.2.1
@[irreducible] noncomputable def oW : Obj := D61.2.2.2.2.2.2.2.2.2.1
@[irreducible] noncomputable def oA : Obj := D61.2.2.2.2.2.2.2.2.2.2
end V61
end
theorem ep61 (h : Px61 V61.bb V61.a V61.b V61.pl V61.ta V61.tb V61.np V61.rest V61.oC V61.oW V61.oA) (bb : Bd) (a : Nat) (b : Nat) (pl : Addr) (ta : Tok) (tb : Tok) (np : Nat) (rest : List (Addr × Obj)) (oC : Obj) (oW : Obj) (oA : Obj) : Px61 bb a b pl ta tb np rest oC oW oA := eps_at (P := fun d : Bd × Nat × Nat × Addr × Tok × Tok × Nat × (List (Addr × Obj)) × Obj × Obj × Obj => Px61 d.1 d.2.1 d.2.2.1 d.2.2.2.1 d.2.2.2.2.1 d.2.2.2.2.2.1 d.2.2.2.2.2.2.1 d.2.2.2.2.2.2.2.1 d.2.2.2.2.2.2.2.2.1 d.2.2.2.2.2.2.2.2.2.1 d.2.2.2.2.2.2.2.2.2.2) (ne := ne61) (by with_unfolding_all exact h) (bb, a, b, pl, ta, tb, np, rest, oC, oW, oA)
section
open V61
theorem w61 : Px61 bb a b pl ta tb np rest oC oW oA := by
  intro ha hb ha1 hb1 d1 d2 d3 l1
  refine BodyC.start (by k_is) ?_
  intro St F N hPO hret hnx
  obtain ⟨B, X, T, hA, _, _, hh, hd, hu⟩ := id St
  replace l1 := allLt_of l1
  have l2 := allLt_up l1
  have l3 := allLt_up l2
  have l4 := allLt_up l3
  (try simp only [AllLt, and_true] at l1)
  have hasc := lead_ascii a b
  k_with "my wl" => (wtm_at "?57-59"; (rw [lead_len]; omega))

  k_with "my mul" => (wtm_at "?57-59"; ((try rw [show Str.ofString " " = S [32] from rfl]); first | rw [getD0] | rw [getD1]))
  k_with "my cat" => (wtm_at "?57-59"; first | rw [catTab] | rw [S_app] | rw [catLead])
  k_steps
  refine ⟨?_⟩
  k_with "my el" => (wtm_at "?57-59"; skip)
  rename Fr _ _ _ _ => FC
  rename News _ _ _ _ => NC
  rename IntsAre _ _ => hv
  have hc := (lead_cnt a b).1
  have hcl : (bump (bump [] a) b).length ≤ 100 := by rw [(lead_cnt a b).2]; omega
  refine LCg.CompSrc.range (n := 20) rfl FC NC (by assumption) (by decide) (by decide) (by rw [sizeLine_eq]; decide) ?_
  intro g
  refine rest_U (n := 20) (fun i ys => IntsAre ys ((List.range i).map fun t => ((col a b (t + 1) : Nat) : Int))) ?_ ?_ _ _ _ (by rfl) .nil
  rotate_left
  · rintro i k' ys hi hys hrest
    refine LCg.CompRest.succ ?_
    clear FC NC
    rintro v I oI C oC D m₂ h tk E' ⟨t, hPv⟩ hC hx F₁ N₁ off hne
    rw [show (1 : Int) + (i : Int) = ((i + 1 : Nat) : Int) by omega] at hPv
    subst hPv
    k_steps
    refine ⟨?_⟩
    refine LCg.CompEnd.intro (by k_asm) (by k_asm) _ (fun p hp => hp) off trivial (hrest _ ?_)
    rw [List.range_succ, List.map_append]
    exact ints_snoc hys
  · intro ys hys D h tk F₁ N₁ off
    clear FC NC
    simp only [LCg.Off1, and_true] at off
    k_steps
    refine ⟨?_⟩
    rename Fr _ _ _ _ => FC
    rename News _ _ _ _ => NC
    refine LCg.CompSrc.range (n := 20) rfl FC NC (by assumption) (by decide) (by decide) (by rw [sizeLine_eq]; decide) ?_
    intro g2
    refine rest_U (n := 20) (fun i ys => IntsAre ys ((List.range i).map fun t => ((col a b (t + 1) : Nat) : Int))) ?_ ?_ _ _ _ (by rfl) .nil
    rotate_left
    · rintro i k' ys hi hys hrest
      refine LCg.CompRest.succ ?_
      clear FC NC
      rintro v I oI C oC D m₂ h tk E' ⟨t, hPv⟩ hC hx F₁ N₁ off hne
      rw [show (1 : Int) + (i : Int) = ((i + 1 : Nat) : Int) by omega] at hPv
      subst hPv
      have hm : IntMulOk (((i + 1 : Nat) : Int) - 1) ((2 : Nat) : Int) := mul_ok (small_pow (by omega)) (small_pow (by decide))
      have hnz : ((i + 1 : Nat) : Int) ≠ 0 := by omega
      k_steps
      refine ⟨?_⟩
      refine LCg.CompEnd.intro (by k_asm) (by k_asm) _ (fun p hp => hp) off trivial (hrest _ ?_)
      refine ints_cast (ints_snoc hys) ?_
      rw [List.range_succ, List.map_append, List.map_cons, List.map_nil, col_is]
      rfl
    · intro ys2 hys2 D h tk F₁ N₁ off
      clear FC NC
      simp only [LCg.Off1, and_true] at off
      k_steps
      refine ⟨?_⟩
      rename Fr _ _ _ _ => FC
      rename News _ _ _ _ => NC
      refine LCt.CompSrcT.range (n := 20) rfl FC NC (by assumption) (by decide) (by decide) (by rw [sizeLine_eq]; decide) ?_
      intro g3
      refine rest_T (n := 20) (fun i ys => IntsAre ys (natsI (((List.range i).filter (fits a b)).map (· + 1)))) ?_ ?_ _ _ _ (by rfl) .nil
      rotate_left
      · rintro i k' zs hi hzs hrest
        refine LCt.CompRestT.succ ?_
        clear FC NC
        rintro v I oI C oC D m₂ h tk E' ⟨t, hPv⟩ hC hx F₁ N₁ off hne
        rw [show (1 : Int) + (i : Int) = ((i + 1 : Nat) : Int) by omega] at hPv
        subst hPv
        have hm : IntMulOk (((i + 1 : Nat) : Int) - 1) ((2 : Nat) : Int) := mul_ok (small_pow (by omega)) (small_pow (by decide))
        have hgd : ((List.range 20).map fun t => ((col a b (t + 1) : Nat) : Int)).getD (((i + 1 : Nat) : Int) - 1).toNat 0 = ((col a b (i + 1) : Nat) : Int) := by
          rw [show (((i + 1 : Nat) : Int) - 1).toNat = i by omega]
          simp [List.getD_eq_getElem?_getD, hi]
        k_steps
        · refine ⟨?_⟩
          rename List.getD _ _ _ = _ => hq
          rw [hgd] at hq
          refine LCg.CompEnd.intro (by k_asm) (by k_asm) _ (fun p hp => hp) off trivial (hrest _ ?_)
          rw [filt_pos (p := fits a b) (by unfold fits; rw [beq_iff_eq]; exact hq)]
          exact ints_snoc hzs
        · refine ⟨?_⟩
          rename ¬ (List.getD _ _ _ = _) => hq
          rw [hgd] at hq
          refine LCg.CompEnd.intro (by k_asm) (by k_asm) _ (fun p hp => hp) off trivial (hrest _ ?_)
          rw [filt_neg (p := fits a b) (by unfold fits; rw [beq_eq_false_iff_ne]; exact hq)]
          exact hzs
      · intro zs hzs D h tk F₁ N₁ off
        clear FC NC
        k_steps
        refine kso_max (by k_asm) (by k_asm) (News.isList (by k_asm) (.head _)) hzs (fits_len ha hb ha1 hb1) rfl ?_
        intro h' M t' tk' F' N' hM hall
        have hMg := fits_max ha hb ha1 hb1 hM hall
        k_steps
        exact hret _ _ _ _ _ (by k_asm) (News.sub (by k_asm) (by kcj_in)) ⟨int_val hMg, rfl⟩
end
theorem t_shared {w : World} {mean : ExcName → Option Value} {mg mb : Str → Option Value} {a b : Nat} {pl : Addr} {ta tb : Tok} {np : Nat} {rest : List (Addr × Obj)} (ha : a ≤ 20) (hb : b ≤ 20) (ha1 : 1 ≤ a) (hb1 : 1 ≤ b) :
    Does w mean mg mb 8 (.ref 362) [.ref pl] [] ((pl, listOf [.int a ta, .int b tb].toArray np) :: rest)
      (fun v tl => (∃ t, v = .int (Nat.gcd a b : Nat) t) ∧ tl = ((pl, listOf [.int a ta, .int b tb].toArray np) :: rest)) := by
  refine does_as (n := 7 + 1) (by omega) (Does.of_bodyC (binds := [("places", .ref pl)]) (by k_is) (by k_is) (fun s _ => BindsTo.of_eq rfl) (by rfl) (by decide +kernel) rfl rfl rfl ?_)
  intro bb cells Y l1 e1 e2 e3 e4
  obtain ⟨oC, oW, oA, rfl, d1, d2, d3⟩ := CellsAre.three Y
  subst e1 e2 e3 e4
  exact ep61 w61 bb a b pl ta tb np rest oC oW oA ha hb ha1 hb1 d1 d2 d3 l1
end

--needs: 10
section
open PySem.Builtin PySem.Builtin.Str PySem.Builtin.BaseException PySem.Builtin.Exceptions
variable {w : World} {A : Around} {E : Value → Shared → Prop} {s : Shared} {K : Frag} {e t C : Addr} {m : Str} {u : Tok}
theorem md60 : True := trivial
/- an exception of the text's own with one text as its argument -/
structure OwnExc (h : Heap) (e C t : Addr) (m : Str) (u : Tok) : Prop where
  obj : ∃ o ws, h.get? e = some o ∧ o.cls = .ref C ∧ o.data = .fields ws ∧ ws[0]? = some (.ref t)
  tup : ∃ o n, h.get? t = some o ∧ o.data = .seq [Value.str m u].toArray n
theorem OwnExc.of_got {h₀ h : Heap} {L : Addr} {news : List (Addr × Obj)} (N : News h₀ L h news) (G : Got news e t (.ref C) [.str m u]) : OwnExc h e C t m u := by
  obtain ⟨oe, ot, ws, nt, h1, h2, hc, hd, h0, _, htd⟩ := G
  exact ⟨⟨oe, ws, (N _ h1).1, hc, hd, h0⟩, ⟨ot, nt, (N _ h2).1, htd⟩⟩
theorem OwnExc.got {h₀ h : Heap} {L : Addr} {news : List (Addr × Obj)} (G : Got news e t (.ref C) [.str m u]) (N : News h₀ L h news) : OwnExc h e C t m u := .of_got N G
theorem OwnExc.type {M : Model} {h : Heap} (X : OwnExc h e C t m u) : Looks M h (typeOf (.ref e)) (.ref C) := by
  obtain ⟨o, ws, ho, hc, _⟩ := X.obj
  exact hc ▸ (Looks.ld ho).andThen .now
theorem own_bexcArgs {M : Model} {Q : Value × List Value → Shared → Prop} (x : OwnExc s.heap e C t m u) (hq : Q (.ref t, [.str m u]) s) : wpAny M A (bexcArgs (.ref e)) Q E s := by
  obtain ⟨o, ws, ho, _, hd, h0⟩ := x.obj
  obtain ⟨ot, k, hto, htd⟩ := x.tup
  unfold bexcArgs
  exact wpAny_bind (wpAny_field ho hd h0 (wpAny_bind (wpAny_seqItems hto htd (wpAny_pure hq))))
theorem own_bexcStr {Q : Value → Shared → Prop} (X : K.In s.heap) (x : OwnExc s.heap e C t m u) (hm : mroIn K C (.type "BaseException") = some true) (hq : Q (.str m u) s) :
    wpAny (model theProg w) A (call (.builtin "BaseException.__str__") [.ref e]) Q E s := by
  refine wpAny_call (codeAny_call_builtin PySem.F.excStr_ValueError.str.plain PySem.F.entry_bexc_str (check_slot (i := "BaseException.__str__") (owner := "BaseException") (n := "__str__") (by decide +kernel) (by decide +kernel) (x.type.andThen (looks_mroIn X hm)) (PySem.F.args_bexc_str _) ?_))
  unfold Builtin.«BaseException.__str__»
  repeat (first | with_reducible refine own_bexcArgs x ?_ | wp_step)
  exact hq
theorem own_special {Q : Option Value → Shared → Prop} (X : K.In s.heap) (x : OwnExc s.heap e C t m u) (hs : findIn K (.ref C) (Str.ofString "__str__") = some (some (.builtin "BaseException.__str__")))
    (h : wpAny (model theProg w) A (call (.builtin "BaseException.__str__") [.ref e]) (fun v => Q (some v)) E s) : wpAny (model theProg w) A (callSpecial? (.ref e) (Str.ofString "__str__") []) Q E s :=
  wpAny_bind (wpAny_bind (x.type.here ((looks_findIn X hs).here (wpAny_holding (wpAny_bind ((Looks.of_pure (PySem.F.excStr_ValueError.str.bind _)).here (wpAny_bind (wpAny_mono h (fun _ _ z => wpAny_pure z) fun _ _ z => z))))))))
theorem str_own {Q : Value → Shared → Prop} (hu : A.in1.in1.units < cLine) (X : K.In s.heap) (x : OwnExc s.heap e C t m u) (hs : findIn K (.ref C) (Str.ofString "__str__") = some (some (.builtin "BaseException.__str__"))) (hm : mroIn K C (.type "BaseException") = some true)
    (hq : Q (.str m u) s) : wpAny (model theProg w) A (call (.type "str") [.ref e]) Q E s := by
  refine callType_codes (T := "str") (Bi := Builtin.«object.__init__») (Q₁ := fun r s₁ => ∃ y u, r = .str y u ∧ Q r s₁) PySem.F.called_str (PySem.F.typeCall_str_1 _) PySem.F.entry_object_init ?_ ?_
  · refine codeAny_of_tree ?_
    show wpAny _ A.in1.in1 (do checkBuiltinCall "str.__new__" ⟨[.type "str", .ref e], []⟩; again (.builtin "str.__new__" ⟨[.type "str", .ref e], []⟩)) _ _ s
    refine wpAny_bind (wpAny_of_eq (PySem.F.newCall_str_1 _) (wpAny_pure ⟨plainId_quiet (by decide +kernel) _, codeAny_builtin PySem.F.entry_str_new ?_⟩))
    rw [Around.under_plainId (by decide +kernel) _]
    rw [str_new_tree]
    refine wpAny_bind (wpAny_pure ?_)
    refine wpAny_bind (wpAny_of_eq isSubtype_str_str ?_)
    have key : wpAny (model theProg w) A.in1.in1 (PySem.Builtin.Str.strOf (.ref e)) (fun r s₁ => ∃ y u, r = .str y u ∧ Q r s₁) E s := by
      unfold PySem.Builtin.Str.strOf
      rw [show isExactStr (.ref e) = false from rfl]
      refine wpAny_bind (m := cRoomFor _ _) (wpAny_cRoomFor hu ?_)
      refine wpAny_bind (m := callSpecial? (.ref e) (Str.ofString "__str__")) (own_special X x hs (own_bexcStr X x hm ?_))
      exact wpAny_pure ⟨_, _, rfl, hq⟩
    exact wpAny_bind (wpAny_mono key (fun r s₁ hr => wpAny_pure hr) fun _ _ y => y)
  · rintro obj s₁ ⟨y, u, rfl, hq⟩
    exact ⟨typeIs_str _ _ _, PySem.F.args_object_init_2 _ _, object_init_meets PySem.F.called_str.init.lookup PySem.F.called_str.made (by decide) theProg w A.in1 _ s₁ ⟨typeIs_str _ _ _, rfl, hq⟩⟩
end

--needs: 10 11 35 62
theorem md61 : True := trivial
/- the frames' addresses -/
noncomputable abbrev fsOf (l : List Env) : List Addr := l.filterMap (·.frame)
/- what stands behind a call in which an exception has noted the frames: the ground has turned -/
structure TurnOut (w : World) (mean : ExcName → Option Value) (mg mb : Str → Option Value) (A₀ : Around) (base : Heap) (outer : List Env) (h₀ h₀' : Heap) (L : Addr) (m : Str → Option Value) (h' : Heap) (tl : List (Addr × Obj)) : Prop where
  turn : KtsTurn (fsOf outer) h₀ h₀'
  F : Fr h₀' L h' m
  N : News h₀' L h' tl
  B : Below A₀ base outer h₀'
  X : (Mine.x.heap_1_39 w.params).In h₀'
  T : Top Mine.x.view_1_40 theLoose mean mg mb h₀'
  D : KtsDicts (fsOf outer) h₀'
theorem TurnOut.still {w : World} {mean : ExcName → Option Value} {mg mb : Str → Option Value} {A₀ : Around} {base h₀ h' : Heap} {outer : List Env} {L : Addr} {m : Str → Option Value} {tl : List (Addr × Obj)}
    (F : Fr h₀ L h' m) (N : News h₀ L h' tl) (B : Below A₀ base outer h₀) (X : (Mine.x.heap_1_39 w.params).In h₀) (T : Top Mine.x.view_1_40 theLoose mean mg mb h₀) (D : KtsDicts (fsOf outer) h₀) : TurnOut w mean mg mb A₀ base outer h₀ h₀ L m h' tl :=
  ⟨KtsTurn.refl, F, N, B, X, T, D⟩
/- a contract behind which the ground may have turned -/
noncomputable def DoesT (w : World) (mean : ExcName → Option Value) (mg mb : Str → Option Value) (n : Nat) (f : Value) (vs : List Value) (kw : List (Str × Value)) (news : List (Addr × Obj)) (Post : Value → List (Addr × Obj) → Prop) : Prop :=
  ∀ (A₀ A : Around) (env : Env) (outer : List Env) (base h₀ : Heap) (L : Addr) (m : Str → Option Value) (s : Shared) (Q E : Value → Shared → Prop),
    Here w mean mg mb A₀ A env outer base h₀ s.heap L m news → (Mine.x.heap_1_39 w.params).In base → Top Mine.x.view_1_40 theLoose mean mg mb base → KtsDicts (fsOf outer) h₀ → A.depth + n < 900 → A.units + 8 * n < 9000 →
    (∀ v tl h' tk' h₀', TurnOut w mean mg mb A₀ base outer h₀ h₀' L m h' tl → Post v tl → Q v { s with heap := h', toks := tk' }) →
    wpAny (model theProg w) A (call f vs kw) Q E s
theorem DoesT.intro {w : World} {mean : ExcName → Option Value} {mg mb : Str → Option Value} {n : Nat} {f : Value} {vs : List Value} {kw : List (Str × Value)} {news : List (Addr × Obj)} {Post : Value → List (Addr × Obj) → Prop}
    (h : ∀ (A₀ A : Around) (env : Env) (outer : List Env) (base h₀ : Heap) (L : Addr) (m : Str → Option Value) (s : Shared) (Q E : Value → Shared → Prop),
      Here w mean mg mb A₀ (calm A) env outer base h₀ s.heap L m news → (Mine.x.heap_1_39 w.params).In base → Top Mine.x.view_1_40 theLoose mean mg mb base → KtsDicts (fsOf outer) h₀ → (calm A).depth + n < 900 → (calm A).units + 8 * n < 9000 →
      (∀ v tl h' tk' h₀', TurnOut w mean mg mb A₀ base outer h₀ h₀' L m h' tl → Post v tl → Q v { s with heap := h', toks := tk' }) →
      wpAny (model theProg w) (calm A) (call f vs kw) Q E s) : DoesT w mean mg mb n f vs kw news Post := by
  intro A₀ A env outer base h₀ L m s Q E H XB TB D hd hu hret
  have e := calm_of H.hh
  have := h A₀ A env outer base h₀ L m s Q E (e.symm ▸ H) XB TB D (e.symm ▸ hd) (e.symm ▸ hu) hret
  exact e ▸ this
theorem fs_mem {env : Env} {outer : List Env} {L b : Addr} (hf : env.frame = some L) (hm : b ∈ fsOf (env :: outer)) : b = L ∨ b ∈ fsOf outer := by
  obtain ⟨e, he, hb⟩ := List.mem_filterMap.mp hm
  rcases List.mem_cons.mp he with rfl | he
  · exact .inl (Option.some.inj (hb.symm.trans hf))
  · exact .inr (List.mem_filterMap.mpr ⟨e, he, hb⟩)
section
variable {w : World} {mean : ExcName → Option Value} {mg mb : Str → Option Value} {A₀ A : Around} {base h₀ g g' h h' : Heap} {outer : List Env} {env : Env} {L L' : Addr} {m m' : Str → Option Value} {news news' : List (Addr × Obj)}
theorem turn_back (B : Below A₀ base outer h₀) (FG : Fr h₀ L g m) (hf : env.frame = some L) (XB : (Mine.x.heap_1_39 w.params).In base) (TB : Top Mine.x.view_1_40 theLoose mean mg mb base) (D : KtsDicts (fsOf outer) h₀)
    (T' : KtsTurn (fsOf (env :: outer)) g g') (F' : Fr g' L' h' m') (N' : News g' L' h' news') : ∃ h₀', TurnOut w mean mg mb A₀ base outer h₀ h₀' L m h' news' := by
  have st := FG.keep
  have nL₀ : h₀.get? L = none := kts_self FG
  obtain ⟨oL, es, ep, hLg, hLd, hLk, hLf⟩ := FG.ns
  obtain ⟨sl, hs⟩ := T'.up hLg
  have hsL := F'.keep _ _ hs
  obtain ⟨T₁, S₁⟩ := kts_turn_at (h := h') (fs := fsOf outer) (g := h₀)
    (fun b hb => by
      obtain ⟨_, o, ho', _⟩ := B.frames.mem hb
      exact ⟨o, ho'⟩)
    (fun b o e nmem => F'.keep b o (T'.other b o (st b o e) (fun q => by
      rcases fs_mem hf q with z | z
      · rw [z, nL₀] at e; cases e
      · exact nmem z)))
    (fun b o e hm => by
      obtain ⟨sl', hs'⟩ := T'.up (st b o e)
      exact ⟨sl', F'.keep _ _ hs'⟩)
  have B₃ : Below A₀ base outer (ktsHeap h' (fsOf outer) h₀) := ⟨B.stack, fun b o e => T₁.other b o (B.stays b o e) (fun hm => by
    rw [(B.frames.mem hm).1] at e
    cases e), B.frames.of_keeps fun b o e _ => by
    obtain ⟨sl', hs'⟩ := T₁.up e
    exact ⟨_, hs', rfl⟩⟩
  refine ⟨_, ⟨T₁, ⟨⟨_, es, ep, hsL, hLd, hLk, hLf⟩, S₁, by rw [T₁.size]; exact FG.above⟩, fun p hp => ⟨(N' p hp).1, fun q => ?_, ?_⟩, B₃, XB.keeps B₃.stays, TB.keeps B₃.stays, D.turn T₁⟩⟩
  · have := (N' p hp).2.2
    rw [q, hs] at this; cases this
  · refine T₁.none_ _ ?_
    cases q : h₀.get? p.1 with
    | none => rfl
    | some o =>
      obtain ⟨sl', hs'⟩ := T'.up (st _ _ q)
      have := (N' p hp).2.2
      rw [hs'] at this; cases this
/- the end of a frame over a ground that may have turned -/
noncomputable def LeaveT (fs : List Addr) (g : Heap) (R : Value → List (Addr × Obj) → Shared → Prop) (v : Value) (s' : Shared) : Prop :=
  ∃ g' L' m' news', KtsTurn fs g g' ∧ Fr g' L' s'.heap m' ∧ News g' L' s'.heap news' ∧ R v news' s'
theorem LeaveT.go {fs : List Addr} {g g' : Heap} {L' : Addr} {m' : Str → Option Value} {news' : List (Addr × Obj)} {R : Value → List (Addr × Obj) → Shared → Prop} {v : Value} {s' : Shared} (F : Fr g' L' s'.heap m') (N : News g' L' s'.heap news') (T : KtsTurn fs g g') (h : R v news' s') : LeaveT fs g R v s' :=
  ⟨g', L', m', news', T, F, N, h⟩
theorem LeaveT.fin {fs : List Addr} {s : Shared} {Post : Value → List (Addr × Obj) → Prop} {Q : Value → Shared → Prop} {nw : List (Addr × Obj)} {v : Value} {tk' : Nat} {h'' : Heap} {L₀ : Addr} {m₀ : Str → Option Value}
    (hret : ∀ v tl h' tk' h₀', TurnOut w mean mg mb A₀ base outer h₀ h₀' L₀ m₀ h' tl → Post v tl → Q v { s with heap := h', toks := tk' })
    (F : Fr g' L' h'' m') (N : News g' L' h'' nw) (T : KtsTurn fs g g') (hp : Post v nw) :
    LeaveT fs g (fun v nw s' => ∀ h₀', TurnOut w mean mg mb A₀ base outer h₀ h₀' L₀ m₀ s'.heap nw → Q v s') v { s with heap := h'', toks := tk' } :=
  ⟨g', L', m', nw, T, F, N, fun h₀' O => hret _ _ _ _ _ O hp⟩
theorem groundT {s : Shared} (B : Below A₀ base outer h₀) (F : Fr h₀ L s.heap m) (N : News h₀ L s.heap news) (hA : A.frames = some (env :: outer)) (hf : env.frame = some L) (hke : env.scope.kind = .function) (D : KtsDicts (fsOf outer) h₀) :
    KtsDicts (fsOf (env :: outer)) (hideAll s.heap (news.map (·.1))) := by
  obtain ⟨FG, BG, st, _⟩ := groundX (R := fun _ _ => True) B F N hA hf hke
  intro b hb
  rcases fs_mem hf hb with rfl | hb
  · obtain ⟨oL, es, ep, hLg, hLd, _⟩ := FG.ns
    exact ⟨oL, es, ep, hLg, hLd⟩
  · obtain ⟨o, es, n, ho, hd⟩ := D b hb
    exact ⟨o, es, n, st b o ho, hd⟩
theorem code_T {s : Shared} {R : Result → Shared → Prop} {name qual : Str} {params : Arguments} {body : List Stmt} {scope : Scope} {dV kV doc pm cdv ct oc : Value} {an od : Option Addr} {osl : Array (Option Value)} {f : Addr} {args : Args} {binds : List (Str × Value)}
    (B : Below A₀ base outer h₀) (F : Fr h₀ L s.heap m) (X₀ : (Mine.x.heap_1_39 w.params).In h₀) (N : News h₀ L s.heap news) (T : Top Mine.x.view_1_40 theLoose mean mg mb h₀)
    (XB : (Mine.x.heap_1_39 w.params).In base) (TB : Top Mine.x.view_1_40 theLoose mean mg mb base) (D : KtsDicts (fsOf outer) h₀) (hA : A.frames = some (env :: outer)) (hf : env.frame = some L) (hke : env.scope.kind = .function)
    (ho : (Mine.x.heap_1_39 w.params).lookup f = some ⟨oc, od, .func (fnOf name qual params body scope dV kV doc pm an cdv ct), osl⟩) (hcd : codeIn (Mine.x.heap_1_39 w.params) cdv qual = true) (hroom : A.depth < recursionLimit)
    (hbind : BindsTo s (fnOf name qual params body scope dV kV doc pm an cdv ct) args binds) (hloc : ∀ y ∈ binds, scope.names.lookup y.1 = some .local)
    (h : ∀ g L' h₁, Fr g L' h₁ (fun y => binds.reverse.lookup y) → News g L' h₁ news → Below A base (env :: outer) g → (Mine.x.heap_1_39 w.params).In g → Top Mine.x.view_1_40 theLoose mean mg mb g → KtsDicts (fsOf (env :: outer)) g →
      wpAny (model theProg w) (A.deeper (envOf qual scope L' f cdv)) (execs body (envOf qual scope L' f cdv))
        (fun fl s' => LeaveT (fsOf (env :: outer)) g (fun v nw s' => ∀ h₀', TurnOut w mean mg mb A₀ base outer h₀ h₀' L m s'.heap nw → R (.ok (.ret v)) s') (match fl with | .ret v => v | _ => .none) s')
        (fun e s' => wpAny (model theProg w) (A.deeper (envOf qual scope L' f cdv)) (leaving (envOf qual scope L' f cdv) e) (fun _ s'' => R (.error e) s'') (fun e' s'' => R (.error e') s'') s')
        { s with heap := h₁, toks := s.toks + binds.length })
    (hco : scope.isCoroutine = false) (hgen : scope.isGenerator = false) (hk : scope.kind = .function)
    (hcell : ∀ x ∈ scope.names, x.2 ≠ .cell) : codeAny (model theProg w) A (.call (.ref f) args) R s := by
  obtain ⟨FG, BG, st, _⟩ := groundX (R := R) B F N hA hf hke
  have DG := groundT B F N hA hf hke D
  refine codeAny_call_def (fd := fnOf name qual params body scope dV kV doc pm an cdv ct) (body := body) (binds := binds) hroom ((X₀.keeps F.keep) _ _ ho) rfl (T.nolimit.keeps F.keep) (codeRec_of (X₀.keeps F.keep) hcd) rfl hbind hcell hloc (fun h₁ hns hk₁ => ?_) hco hgen hk
  refine wpAny_mono (h _ s.heap.objs.size h₁ ⟨hns, fun b o e => hk₁ b o (of_hideAll _ e), Nat.le_of_eq (hideAll_size _ _)⟩
    (fun p hp => ⟨hk₁ _ _ (N p hp).1, Nat.ne_of_lt (Heap.lt_size (N p hp).1), hideAll_none _ (List.mem_map_of_mem hp)⟩) BG (X₀.keeps st) (T.keeps st) DG) (fun fl s' hl => ?_) fun _ _ y => y
  obtain ⟨g', L', m', news', T', F', N', k⟩ := hl
  obtain ⟨h₀', O⟩ := turn_back B FG hf XB TB D T' F' N'
  exact k h₀' O
end
/- a frame's walk over a ground that may turn -/
noncomputable def BodyTE (b : Bd) (n : Nat) (env : Env) (body : List Stmt) (mm : Str → Option Value) (news : List (Addr × Obj)) (Post : Value → List (Addr × Obj) → Prop) : Prop :=
  Stat (bw b) (bMean b) (bMg b) (bMb b) (calm (bA0 b)) ((calm (bA0 b)).deeper env) env (bOuter b) (bBase b) (bG b) (bL b) n → (Mine.x.heap_1_39 (bw b).params).In (bBase b) → Top Mine.x.view_1_40 theLoose (bMean b) (bMg b) (bMb b) (bBase b) → KtsDicts (fsOf (bOuter b)) (bG b) →
  Fr (bG b) (bL b) (bH b) mm → News (bG b) (bL b) (bH b) news → PassesOwn (model theProg (bw b)) ((calm (bA0 b)).deeper env) env (bE b) → (∀ hd, PassesOwnAt (model theProg (bw b)) (((calm (bA0 b)).deeper env).mark hd) ((calm (bA0 b)).deeper env) env (bE b)) →
  (∀ v nw h' k' m' g' L', Fr g' L' h' m' → News g' L' h' nw → KtsTurn (fsOf (bOuter b)) (bG b) g' → Post v nw → bQ b (.ret v) ⟨h', bGens b, bDrawn b, k', bOs b⟩) →
  wpAny (model theProg (bw b)) ((calm (bA0 b)).deeper env) (execs body env) (bQ b) (bE b) ⟨bH b, bGens b, bDrawn b, bK b, bOs b⟩
@[irreducible] noncomputable def BodyT (b : Bd) (n : Nat) (f : Addr) (mm : Str → Option Value) (news : List (Addr × Obj)) (Post : Value → List (Addr × Obj) → Prop) : Prop :=
  BodyTE b n (envOf (codeAt (bw b) f).2.1 (codeAt (bw b) f).2.2.1 (bL b) f (codeAt (bw b) f).2.2.2) (codeAt (bw b) f).1 mm news Post
theorem BodyT.start {b : Bd} {n : Nat} {f : Addr} {mm : Str → Option Value} {news : List (Addr × Obj)} {Post : Value → List (Addr × Obj) → Prop} {name qual : Str} {params : Arguments} {body : List Stmt} {scope : Scope} {dV kV doc pm cdv ct oc : Value} {an od : Option Addr} {osl : Array (Option Value)}
    (ho : (Mine.x.heap_1_39 (bw b).params).lookup f = some ⟨oc, od, .func (fnOf name qual params body scope dV kV doc pm an cdv ct), osl⟩)
    (h : BodyTE b n (envOf qual scope (bL b) f cdv) body mm news Post) : BodyT b n f mm news Post := by
  rw [BodyT, codeAt_of ho]
  exact h
theorem BodyT.out {b : Bd} {n : Nat} {f : Addr} {mm : Str → Option Value} {news : List (Addr × Obj)} {Post : Value → List (Addr × Obj) → Prop} {body : List Stmt} {qual : Str} {scope : Scope} {cdv : Value} (h : BodyT b n f mm news Post) (e : codeAt (bw b) f = (body, qual, scope, cdv)) :
    BodyTE b n (envOf qual scope (bL b) f cdv) body mm news Post := by
  rw [BodyT, e] at h
  exact h
theorem does_asT {w : World} {mean : ExcName → Option Value} {mg mb : Str → Option Value} {n n' : Nat} {f : Value} {vs : List Value} {kw : List (Str × Value)} {news : List (Addr × Obj)} {Post : Value → List (Addr × Obj) → Prop} (e : n = n') (D : DoesT w mean mg mb n f vs kw news Post) : DoesT w mean mg mb n' f vs kw news Post := e ▸ D
theorem DoesT.of_body {w : World} {mean : ExcName → Option Value} {mg mb : Str → Option Value} {n : Nat} {f : Addr} {vs : List Value} {kw : List (Str × Value)} {news : List (Addr × Obj)} {Post : Value → List (Addr × Obj) → Prop}
    {name qual : Str} {params : Arguments} {body : List Stmt} {scope : Scope} {dV kV doc pm cdv ct oc : Value} {an od : Option Addr} {osl : Array (Option Value)} {binds : List (Str × Value)}
    (ho : (Mine.x.heap_1_39 w.params).lookup f = some ⟨oc, od, .func (fnOf name qual params body scope dV kV doc pm an cdv ct), osl⟩) (hcd : codeIn (Mine.x.heap_1_39 w.params) cdv qual = true)
    (hbind : ∀ s : Shared, (Mine.x.heap_1_39 w.params).In s.heap → BindsTo s (fnOf name qual params body scope dV kV doc pm an cdv ct) ⟨vs, kw⟩ binds) (hloc : ∀ y ∈ binds, scope.names.lookup y.1 = some .local)
    (hco : scope.isCoroutine = false) (hgen : scope.isGenerator = false) (hk : scope.kind = .function) (hcell : ∀ x ∈ scope.names, x.2 ≠ .cell)
    (h : ∀ b : Bd, bw b = w → bMean b = mean → bMg b = mg → bMb b = mb → BodyT b n f (fun y => binds.reverse.lookup y) news Post) : DoesT w mean mg mb (n + 1) (.ref f) vs kw news Post := by
  refine DoesT.intro ?_
  intro A₀ A env outer base h₀ L m s Q E ⟨B, F, X, N, T, hA, hfr, hfk, hh⟩ XB TB DD hd hu hret
  refine wpAny_call ?_
  refine code_T B F X N T XB TB DD hA hfr hfk ho hcd (by simp only [recursionLimit]; omega) (hbind _ (X.keeps F.keep)) hloc ?_ hco hgen hk hcell
  intro g L' h₁ F' N' B' X' T' D'
  have hb := h (w, mean, mg, mb, calm A, (calm A).deeper (envOf qual scope L' f cdv), base, env :: outer, g, L', s.gens, s.drawn, s.os,
    (fun fl s' => LeaveT (fsOf (env :: outer)) g (fun v nw s' => ∀ h₀', TurnOut w mean mg mb A₀ base outer h₀ h₀' L m s'.heap nw → Q v s') (match fl with | .ret v => v | _ => .none) s'),
    (fun e s' => wpAny (model theProg w) ((calm A).deeper (envOf qual scope L' f cdv)) (leaving (envOf qual scope L' f cdv) e) (fun _ s'' => E e s'') (fun e' s'' => E e' s'') s'), h₁, s.toks + binds.length)
  replace hb := (hb (by with_unfolding_all rfl) (by with_unfolding_all rfl) (by with_unfolding_all rfl) (by with_unfolding_all rfl)).out (by with_unfolding_all exact codeAt_of ho)
  with_unfolding_all refine hb ⟨B', X', T', frames_in hA, rfl, hk, rfl, by show (calm A).depth + 1 + n < 900; omega, by show (calm A).units + 3 + 8 * n < 9000; omega⟩ XB TB D' F' N' PassesOwn.leaving (fun _ => PassesOwnAt.leaving) ?_
  intro v nw h' k' m' g' L'' F₂ N₂ T₂ hp
  with_unfolding_all show LeaveT (fsOf (env :: outer)) g (fun v nw s' => ∀ h₀', TurnOut w mean mg mb A₀ base outer h₀ h₀' L m s'.heap nw → Q v s') v ⟨h', s.gens, s.drawn, k', s.os⟩
  with_unfolding_all exact ⟨g', L'', m', nw, T₂, F₂, N₂, fun h₀' O => hret _ _ _ _ _ O hp⟩

--needs: 10 11 20 22 24 35 62 63
section
noncomputable section
theorem md62 : True := trivial
noncomputable def PxRa (bb : Bd) (l : List Nat) (tx : Tok) (news : List (Addr × Obj)) : Prop :=
  l.length ≤ 10000 → (Txt.slice (S l) none (some 3) != Str.ofString "229") = true →
  BodyT bb (5) 381 (fun y => ([("text", .str (S l) tx)] : List (Str × Value)).reverse.lookup y) (news)
    (fun v tl => ∃ a t1 t2, v = .ref a ∧ tl = (a, tupOf [.str (Str.ofString "code") t1, .str (S l) t2]) :: news)
theorem neRa : Nonempty (Bd × (List Nat) × Tok × (List (Addr × Obj))) := bd_ne.elim fun bb => ⟨(bb, [], 0, [])⟩
@[irreducible] noncomputable def DRa : Bd × (List Nat) × Tok × (List (Addr × Obj)) := @Classical.epsilon _ neRa fun d => ¬ PxRa d.1 d.2.1 d.2.2.1 d.2.2.2
namespace VRa
@[irreducible] noncomputable def bb : Bd := DRa.1
@[irreducible] noncomputable def l : List Nat := DRa.2.1
@[irreducible] noncomputable def tx : Tok := DRa.2.2.1
@[irreducible] noncomputable def news : List (Addr × Obj) := DRa.2.2.2
end VRa
end
theorem epRa (h : PxRa VRa.bb VRa.l VRa.tx VRa.news) (bb : Bd) (l : List Nat) (tx : Tok) (news : List (Addr × Obj)) : PxRa bb l tx news := eps_at (P := fun d : Bd × (List Nat) × Tok × (List (Addr × Obj)) => PxRa d.1 d.2.1 d.2.2.1 d.2.2.2) (ne := neRa) (by with_unfolding_all exact h) (bb, l, tx, news)
namespace VRa
theorem wRa : PxRa bb l tx news := by
  intro hx h3
  refine BodyT.start (by k_is) ?_
  intro St XB TB DD F N hPO hPA hret
  obtain ⟨B, X, T, hA, _, _, hh, hd, hu⟩ := id St
  simp only [depth_deeper, units_deeper] at hd hu
  have hxl := S_length l
  k_with "my ite" => (wtm_at "?62-63"; (refine ite_pos h3 ?_))
  k_steps
  refine' hret _ _ _ _ _ _ _ (by k_asm) (News.sub (by k_asm) ?sub) (by assumption) ⟨_, _, _, rfl, rfl⟩
  kcj_in
end VRa
theorem r_code {w : World} {mean : ExcName → Option Value} {mg mb : Str → Option Value} {l : List Nat} {tx : Tok} {news : List (Addr × Obj)} (hx : l.length ≤ 10000)
    (h3 : (Txt.slice (S l) none (some 3) != Str.ofString "229") = true) :
    DoesT w mean mg mb 6 (.ref 381) [.str (S l) tx] [] news (fun v tl => ∃ a t1 t2, v = .ref a ∧ tl = (a, tupOf [.str (Str.ofString "code") t1, .str (S l) t2]) :: news) := by
  refine does_asT (n := 5 + 1) (by omega) (DoesT.of_body (binds := [("text", .str (S l) tx)]) (by k_is) (by k_is) (fun s _ => BindsTo.of_eq rfl) (locs rfl) rfl rfl rfl (by decide) ?_)
  intro bb e1 e2 e3 e4
  subst e1 e2 e3 e4
  exact epRa VRa.wRa bb l tx news hx h3
noncomputable section
noncomputable def PxRb (bb : Bd) (l : List Nat) (tx : Tok) (news : List (Addr × Obj)) : Prop :=
  l.length ≤ 10000 → Txt.slice (S l) none (some 3) = Str.ofString "229" → Txt.find (S l) (Str.ofString "(") = -1 →
  BodyT bb (5) 381 (fun y => ([("text", .str (S l) tx)] : List (Str × Value)).reverse.lookup y) (news)
    (fun v tl => ∃ a t1 t2, v = .ref a ∧ tl = (a, tupOf [.str (Str.ofString "shape") t1, .str (S l) t2]) :: news)
theorem neRb : Nonempty (Bd × (List Nat) × Tok × (List (Addr × Obj))) := bd_ne.elim fun bb => ⟨(bb, [], 0, [])⟩
@[irreducible] noncomputable def DRb : Bd × (List Nat) × Tok × (List (Addr × Obj)) := @Classical.epsilon _ neRb fun d => ¬ PxRb d.1 d.2.1 d.2.2.1 d.2.2.2
namespace VRb
@[irreducible] noncomputable def bb : Bd := DRb.1
@[irreducible] noncomputable def l : List Nat := DRb.2.1
@[irreducible] noncomputable def tx : Tok := DRb.2.2.1
@[irreducible] noncomputable def news : List (Addr × Obj) := DRb.2.2.2
end VRb
end
theorem epRb (h : PxRb VRb.bb VRb.l VRb.tx VRb.news) (bb : Bd) (l : List Nat) (tx : Tok) (news : List (Addr × Obj)) : PxRb bb l tx news := eps_at (P := fun d : Bd × (List Nat) × Tok × (List (Addr × Obj)) => PxRb d.1 d.2.1 d.2.2.1 d.2.2.2) (ne := neRb) (by with_unfolding_all exact h) (bb, l, tx, news)
namespace VRb
theorem wRb : PxRb bb l tx news := by
  intro hx h3 hlf
  refine BodyT.start (by k_is) ?_
  intro St XB TB DD F N hPO hPA hret
  obtain ⟨B, X, T, hA, _, _, hh, hd, hu⟩ := id St
  simp only [depth_deeper, units_deeper] at hd hu
  have hxl := S_length l
  k_with "my text" => (wtm_at "?62-63"; first | (rw [hlf]))
  k_with "my ite" => (wtm_at "?62-63"; first | (refine ite_neg (by rw [h3]; decide) ?_) | (refine ite_pos (by decide) ?_))
  k_steps
  refine' hret _ _ _ _ _ _ _ (by k_asm) (News.sub (by k_asm) ?sub) (by assumption) ⟨_, _, _, rfl, rfl⟩
  kcj_in
end VRb
theorem r_noopen {w : World} {mean : ExcName → Option Value} {mg mb : Str → Option Value} {l : List Nat} {tx : Tok} {news : List (Addr × Obj)} (hx : l.length ≤ 10000)
    (h3 : Txt.slice (S l) none (some 3) = Str.ofString "229") (hlf : Txt.find (S l) (Str.ofString "(") = -1) :
    DoesT w mean mg mb 6 (.ref 381) [.str (S l) tx] [] news (fun v tl => ∃ a t1 t2, v = .ref a ∧ tl = (a, tupOf [.str (Str.ofString "shape") t1, .str (S l) t2]) :: news) := by
  refine does_asT (n := 5 + 1) (by omega) (DoesT.of_body (binds := [("text", .str (S l) tx)]) (by k_is) (by k_is) (fun s _ => BindsTo.of_eq rfl) (locs rfl) rfl rfl rfl (by decide) ?_)
  intro bb e1 e2 e3 e4
  subst e1 e2 e3 e4
  exact epRb VRb.wRb bb l tx news hx h3 hlf
noncomputable section
noncomputable def PxRc (bb : Bd) (l : List Nat) (tx : Tok) (lf : Nat) (news : List (Addr × Obj)) : Prop :=
  l.length ≤ 10000 → Txt.slice (S l) none (some 3) = Str.ofString "229" → Txt.find (S l) (Str.ofString "(") = (lf : Int) → Txt.find3 (S l) (Str.ofString ")") ((lf : Int) + 1) = -1 →
  BodyT bb (5) 381 (fun y => ([("text", .str (S l) tx)] : List (Str × Value)).reverse.lookup y) (news)
    (fun v tl => ∃ a t1 t2, v = .ref a ∧ tl = (a, tupOf [.str (Str.ofString "shape") t1, .str (S l) t2]) :: news)
theorem neRc : Nonempty (Bd × (List Nat) × Tok × Nat × (List (Addr × Obj))) := bd_ne.elim fun bb => ⟨(bb, [], 0, 0, [])⟩
@[irreducible] noncomputable def DRc : Bd × (List Nat) × Tok × Nat × (List (Addr × Obj)) := @Classical.epsilon _ neRc fun d => ¬ PxRc d.1 d.2.1 d.2.2.1 d.2.2.2.1 d.2.2.2.2
namespace VRc
@[irreducible] noncomputable def bb : Bd := DRc.1
@[irreducible] noncomputable def l : List Nat := DRc.2.1
@[irreducible] noncomputable def tx : Tok := DRc.2.2.1
@[irreducible] noncomputable def lf : Nat := DRc.2.2.2.1
@[irreducible] noncomputable def news : List (Addr × Obj) := DRc.2.2.2.2
end VRc
end
theorem epRc (h : PxRc VRc.bb VRc.l VRc.tx VRc.lf VRc.news) (bb : Bd) (l : List Nat) (tx : Tok) (lf : Nat) (news : List (Addr × Obj)) : PxRc bb l tx lf news := eps_at (P := fun d : Bd × (List Nat) × Tok × Nat × (List (Addr × Obj)) => PxRc d.1 d.2.1 d.2.2.1 d.2.2.2.1 d.2.2.2.2) (ne := neRc) (by with_unfolding_all exact h) (bb, l, tx, lf, news)
namespace VRc
theorem wRc : PxRc bb l tx lf news := by
  intro hx h3 hlf hrt
  refine BodyT.start (by k_is) ?_
  intro St XB TB DD F N hPO hPA hret
  obtain ⟨B, X, T, hA, _, _, hh, hd, hu⟩ := id St
  simp only [depth_deeper, units_deeper] at hd hu
  have hxl := S_length l
  k_with "my text" => (wtm_at "?62-63"; first | (rw [hlf]) | (rw [hrt]))
  k_with "my ite" => (wtm_at "?62-63"; first | (refine ite_neg (by rw [h3]; decide) ?_) | (refine ite_neg (by simp; omega) ?_) | (refine ite_pos (by decide) ?_))
  k_steps
  refine' hret _ _ _ _ _ _ _ (by k_asm) (News.sub (by k_asm) ?sub) (by assumption) ⟨_, _, _, rfl, rfl⟩
  kcj_in
end VRc
theorem r_noclose {w : World} {mean : ExcName → Option Value} {mg mb : Str → Option Value} {l : List Nat} {tx : Tok} {lf : Nat} {news : List (Addr × Obj)} (hx : l.length ≤ 10000)
    (h3 : Txt.slice (S l) none (some 3) = Str.ofString "229") (hlf : Txt.find (S l) (Str.ofString "(") = (lf : Int)) (hrt : Txt.find3 (S l) (Str.ofString ")") ((lf : Int) + 1) = -1) :
    DoesT w mean mg mb 6 (.ref 381) [.str (S l) tx] [] news (fun v tl => ∃ a t1 t2, v = .ref a ∧ tl = (a, tupOf [.str (Str.ofString "shape") t1, .str (S l) t2]) :: news) := by
  refine does_asT (n := 5 + 1) (by omega) (DoesT.of_body (binds := [("text", .str (S l) tx)]) (by k_is) (by k_is) (fun s _ => BindsTo.of_eq rfl) (locs rfl) rfl rfl rfl (by decide) ?_)
  intro bb e1 e2 e3 e4
  subst e1 e2 e3 e4
  exact epRc VRc.wRc bb l tx lf news hx h3 hlf hrt
noncomputable section
noncomputable def PxRd (bb : Bd) (l : List Nat) (tx : Tok) (lf : Nat) (rt : Nat) (a : Nat) (b : Nat) (news : List (Addr × Obj)) : Prop :=
  l.length ≤ 10000 → Txt.slice (S l) none (some 3) = Str.ofString "229" → Txt.find (S l) (Str.ofString "(") = (lf : Int) → Txt.find3 (S l) (Str.ofString ")") ((lf : Int) + 1) = (rt : Int) → lf + 1 < l.length ∧ 1 ≤ rt ∧ rt ≤ l.length → Txt.item (S l) ((lf : Int) + 1) = S [a] → Txt.item (S l) ((rt : Int) - 1) = S [b] → a ≠ b →
  BodyT bb (5) 381 (fun y => ([("text", .str (S l) tx)] : List (Str × Value)).reverse.lookup y) (news)
    (fun v tl => ∃ a t1 t2, v = .ref a ∧ tl = (a, tupOf [.str (Str.ofString "shape") t1, .str (S l) t2]) :: news)
theorem neRd : Nonempty (Bd × (List Nat) × Tok × Nat × Nat × Nat × Nat × (List (Addr × Obj))) := bd_ne.elim fun bb => ⟨(bb, [], 0, 0, 0, 0, 0, [])⟩
@[irreducible] noncomputable def DRd : Bd × (List Nat) × Tok × Nat × Nat × Nat × Nat × (List (Addr × Obj)) := @Classical.epsilon _ neRd fun d => ¬ PxRd d.1 d.2.1 d.2.2.1 d.2.2.2.1 d.2.2.2.2.1 d.2.2.2.2.2.1 d.2.2.2.2.2.2.1 d.2.2.2.2.2.2.2
namespace VRd
@[irreducible] noncomputable def bb : Bd := DRd.1
@[irreducible] noncomputable def l : List Nat := DRd.2.1
@[irreducible] noncomputable def tx : Tok := DRd.2.2.1
@[irreducible] noncomputable def lf : Nat := DRd.2.2.2.1
@[irreducible] noncomputable def rt : Nat := DRd.2.2.2.2.1
@[irreducible] noncomputable def a : Nat := DRd.2.2.2.2.2.1
@[irreducible] noncomputable def b : Nat := DRd.2.2.2.2.2.2.1
@[irreducible] noncomputable def news : List (Addr × Obj) := DRd.2.2.2.2.2.2.2
end VRd
end
theorem epRd (h : PxRd VRd.bb VRd.l VRd.tx VRd.lf VRd.rt VRd.a VRd.b VRd.news) (bb : Bd) (l : List Nat) (tx : Tok) (lf : Nat) (rt : Nat) (a : Nat) (b : Nat) (news : List (Addr × Obj)) : PxRd bb l tx lf rt a b news := eps_at (P := fun d : Bd × (List Nat) × Tok × Nat × Nat × Nat × Nat × (List (Addr × Obj)) => PxRd d.1 d.2.1 d.2.2.1 d.2.2.2.1 d.2.2.2.2.1 d.2.2.2.2.2.1 d.2.2.2.2.2.2.1 d.2.2.2.2.2.2.2) (ne := neRd) (by with_unfolding_all exact h) (bb, l, tx, lf, rt, a, b, news)
namespace VRd
theorem wRd : PxRd bb l tx lf rt a b news := by
  intro hx h3 hlf hrt hin hi1 hi2 hab
  refine BodyT.start (by k_is) ?_
  intro St XB TB DD F N hPO hPA hret
  obtain ⟨B, X, T, hA, _, _, hh, hd, hu⟩ := id St
  simp only [depth_deeper, units_deeper] at hd hu
  have hxl := S_length l
  k_with "my text" => (wtm_at "?62-63"; first | (rw [hlf]) | (rw [hrt]) | (rw [hi1]) | (rw [hi2]))
  k_with "my ite" => (wtm_at "?62-63"; first | (refine ite_neg (by rw [h3]; decide) ?_) | (refine ite_neg (by simp; omega) ?_) | (refine ite_pos (by rw [bne, S_beq]; simpa using hab) ?_))
  k_steps
  refine' hret _ _ _ _ _ _ _ (by k_asm) (News.sub (by k_asm) ?sub) (by assumption) ⟨_, _, _, rfl, rfl⟩
  kcj_in
end VRd
theorem r_mark {w : World} {mean : ExcName → Option Value} {mg mb : Str → Option Value} {l : List Nat} {tx : Tok} {lf rt a b : Nat} {news : List (Addr × Obj)} (hx : l.length ≤ 10000)
    (h3 : Txt.slice (S l) none (some 3) = Str.ofString "229") (hlf : Txt.find (S l) (Str.ofString "(") = (lf : Int)) (hrt : Txt.find3 (S l) (Str.ofString ")") ((lf : Int) + 1) = (rt : Int))
    (hin : lf + 1 < l.length ∧ 1 ≤ rt ∧ rt ≤ l.length) (hi1 : Txt.item (S l) ((lf : Int) + 1) = S [a]) (hi2 : Txt.item (S l) ((rt : Int) - 1) = S [b]) (hab : a ≠ b) :
    DoesT w mean mg mb 6 (.ref 381) [.str (S l) tx] [] news (fun v tl => ∃ a t1 t2, v = .ref a ∧ tl = (a, tupOf [.str (Str.ofString "shape") t1, .str (S l) t2]) :: news) := by
  refine does_asT (n := 5 + 1) (by omega) (DoesT.of_body (binds := [("text", .str (S l) tx)]) (by k_is) (by k_is) (fun s _ => BindsTo.of_eq rfl) (locs rfl) rfl rfl rfl (by decide) ?_)
  intro bb e1 e2 e3 e4
  subst e1 e2 e3 e4
  exact epRd VRd.wRd bb l tx lf rt a b news hx h3 hlf hrt hin hi1 hi2 hab
theorem split_n {w : World} {A : Around} {E : Value → Shared → Prop} {s : Shared} {h₀ : Heap} {L : Addr} {m : Str → Option Value} {news : List (Addr × Obj)} {x y : Str} {t u : Tok} {n : Nat} {Q : Value → Shared → Prop}
    (hF : Fr h₀ L s.heap m) (hN : News h₀ L s.heap news) (hs : (Txt.split x y).length = n) (hy : (y.length == 0) = false) (hsz : x.length + 2 ≤ sizeLine)
    (h : ∀ D vs h' k, vs.length = n → Fr h₀ L h' m → News h₀ L h' ((D, listOf (List.toArray vs) 0) :: news) → (∀ p ∈ news, p.1 < D) → Q (.ref D) { s with heap := h', toks := k }) :
    wpAny (model theProg w) A (call (.builtin "str.split") [.str x t, .str y u]) Q E s := by
  refine KSpl.split1 hF hN hy ?_ hsz
  intro D l h' k e' a' F' N' l1
  refine h D (strValues l) h' k ?_ F' N' l1
  rw [← hs, ← e']
  simp [strValues]
section
noncomputable section
theorem md63 : True := trivial
noncomputable def PxRe (bb : Bd) (l : List Nat) (mid : List Nat) (tx : Tok) (lf : Nat) (rt : Nat) (mk : Nat) (n : Nat) (news : List (Addr × Obj)) : Prop :=
  l.length ≤ 10000 → Txt.slice (S l) none (some 3) = Str.ofString "229" → Txt.find (S l) (Str.ofString "(") = (lf : Int) → Txt.find3 (S l) (Str.ofString ")") ((lf : Int) + 1) = (rt : Int) → lf + 1 < rt ∧ rt ≤ l.length → Txt.item (S l) ((lf : Int) + 1) = S [mk] → Txt.item (S l) ((rt : Int) - 1) = S [mk] → Txt.slice (S l) (some ((lf : Int) + 1)) (some (rt : Int)) = S mid → mid.length ≤ 10000 → (Txt.split (S mid) (S [mk])).length = n → n ≤ 100 → n ≠ 5 →
  BodyT bb (5) 381 (fun y => ([("text", .str (S l) tx)] : List (Str × Value)).reverse.lookup y) (news)
    (fun v tl => ∃ a t1 t2, v = .ref a ∧ tl = (a, tupOf [.str (Str.ofString "shape") t1, .str (S l) t2]) :: news)
theorem neRe : Nonempty (Bd × (List Nat) × (List Nat) × Tok × Nat × Nat × Nat × Nat × (List (Addr × Obj))) := bd_ne.elim fun bb => ⟨(bb, [], [], 0, 0, 0, 0, 0, [])⟩
@[irreducible] noncomputable def DRe : Bd × (List Nat) × (List Nat) × Tok × Nat × Nat × Nat × Nat × (List (Addr × Obj)) := @Classical.epsilon _ neRe fun d => ¬ PxRe d.1 d.2.1 d.2.2.1 d.2.2.2.1 d.2.2.2.2.1 d.2.2.2.2.2.1 d.2.2.2.2.2.2.1 d.2.2.2.2.2.2.2.1 d.2.2.2.2.2.2.2.2
namespace VRe
@[irreducible] noncomputable def bb : Bd := DRe.1
@[irreducible] noncomputable def l : List Nat := DRe.2.1
@[irreducible] noncomputable def mid : List Nat := DRe.2.2.1
@[irreducible] noncomputable def tx : Tok := DRe.2.2.2.1
@[irreducible] noncomputable def lf : Nat := DRe.2.2.2.2.1
@[irreducible] noncomputable def rt : Nat := DRe.2.2.2.2.2.1
@[irreducible] noncomputable def mk : Nat := DRe.2.2.2.2.2.2.1
@[irreducible] noncomputable def n : Nat := DRe.2.2.2.2.2.2.2.1
@[irreducible] noncomputable def news : List (Addr × Obj) := DRe.2.2.2.2.2.2.2.2
end VRe
end
theorem epRe (h : PxRe VRe.bb VRe.l VRe.mid VRe.tx VRe.lf VRe.rt VRe.mk VRe.n VRe.news) (bb : Bd) (l : List Nat) (mid : List Nat) (tx : Tok) (lf : Nat) (rt : Nat) (mk : Nat) (n : Nat) (news : List (Addr × Obj)) : PxRe bb l mid tx lf rt mk n news := eps_at (P := fun d : Bd × (List Nat) × (List Nat) × Tok × Nat × Nat × Nat × Nat × (List (Addr × Obj)) => PxRe d.1 d.2.1 d.2.2.1 d.2.2.2.1 d.2.2.2.2.1 d.2.2.2.2.2.1 d.2.2.2.2.2.2.1 d.2.2.2.2.2.2.2.1 d.2.2.2.2.2.2.2.2) (ne := neRe) (by with_unfolding_all exact h) (bb, l, mid, tx, lf, rt, mk, n, news)
namespace VRe
theorem wRe : PxRe bb l mid tx lf rt mk n news := by
  intro hx h3 hlf hrt hin hi1 hi2 hsl hml hsp hn h5
  refine BodyT.start (by k_is) ?_
  intro St XB TB DD F N hPO hPA hret
  obtain ⟨B, X, T, hA, _, _, hh, hd, hu⟩ := id St
  simp only [depth_deeper, units_deeper] at hd hu
  have hxl := S_length l
  have hml2 := S_length mid
  k_with "my text" => (wtm_at "?62-63"; first | (rw [hlf]) | (rw [hrt]) | (rw [hi1]) | (rw [hi2]) | (rw [hsl]))
  k_with "my ite" => (wtm_at "?62-63"; first | (refine ite_neg (by rw [h3]; decide) ?_) | (refine ite_neg (by simp; omega) ?_) | (refine ite_pos (by simp; omega) ?_) | (refine ite_neg (by simp) ?_))
  k_steps
  refine' hret _ _ _ _ _ _ _ (by k_asm) (News.sub (by k_asm) ?sub) (by assumption) ⟨_, _, _, rfl, rfl⟩
  kcj_in
end VRe
theorem r_parts {w : World} {mean : ExcName → Option Value} {mg mb : Str → Option Value} {l mid : List Nat} {tx : Tok} {lf rt mk n : Nat} {news : List (Addr × Obj)} (hx : l.length ≤ 10000)
    (h3 : Txt.slice (S l) none (some 3) = Str.ofString "229") (hlf : Txt.find (S l) (Str.ofString "(") = (lf : Int)) (hrt : Txt.find3 (S l) (Str.ofString ")") ((lf : Int) + 1) = (rt : Int))
    (hin : lf + 1 < rt ∧ rt ≤ l.length) (hi1 : Txt.item (S l) ((lf : Int) + 1) = S [mk]) (hi2 : Txt.item (S l) ((rt : Int) - 1) = S [mk]) (hsl : Txt.slice (S l) (some ((lf : Int) + 1)) (some (rt : Int)) = S mid) (hml : mid.length ≤ 10000)
    (hsp : (Txt.split (S mid) (S [mk])).length = n) (hn : n ≤ 100) (h5 : n ≠ 5) :
    DoesT w mean mg mb 6 (.ref 381) [.str (S l) tx] [] news (fun v tl => ∃ a t1 t2, v = .ref a ∧ tl = (a, tupOf [.str (Str.ofString "shape") t1, .str (S l) t2]) :: news) := by
  refine does_asT (n := 5 + 1) (by omega) (DoesT.of_body (binds := [("text", .str (S l) tx)]) (by k_is) (by k_is) (fun s _ => BindsTo.of_eq rfl) (locs rfl) rfl rfl rfl (by decide) ?_)
  intro bb e1 e2 e3 e4
  subst e1 e2 e3 e4
  exact epRe VRe.wRe bb l mid tx lf rt mk n news hx h3 hlf hrt hin hi1 hi2 hsl hml hsp hn h5
end
end

--needs: 10 24 30 40 53 63
theorem md64 : True := trivial
theorem below_turn {A : Around} {base g g' : Heap} {l : List Env} (B : Below A base l g) (T : KtsTurn (fsOf l) g g') : Below A base l g' :=
  ⟨B.stack, fun b o e => T.other b o (B.stays b o e) (fun hm => by
    rw [(B.frames.mem hm).1] at e
    cases e), B.frames.of_keeps fun b o e _ => by
    obtain ⟨sl', hs'⟩ := T.up e
    exact ⟨_, hs', rfl⟩⟩
/- a turn's end in a loop over a ground that may turn -/
noncomputable def TurnPost (fs : List Addr) (h₀ : Heap) (L : Addr) (own : List (Addr × Obj)) (I : Addr) (J : (Str → Option Value) → List (Addr × Obj) → Prop) (s₁ : Shared) (Q : Flow → Shared → Prop) (f : Flow) (s₂ : Shared) : Prop :=
  match f with
  | .ret v => Q (.ret v) s₂
  | .brk => Q .next s₂
  | _ => ∃ g h' tk m' news', s₂ = { s₁ with heap := h', toks := tk } ∧ KtsTurn fs h₀ g ∧ Fr g L h' m' ∧ News g L h' (news' ++ own) ∧ (∀ p ∈ news', p.1 ≠ I) ∧ J m' news'
theorem TurnPost.go {fs : List Addr} {h₀ g h' : Heap} {L : Addr} {own news' : List (Addr × Obj)} {I : Addr} {J : (Str → Option Value) → List (Addr × Obj) → Prop} {s₁ : Shared} {Q : Flow → Shared → Prop} {tk : Nat} {m' : Str → Option Value}
    (F : Fr g L h' m') (N : News g L h' (news' ++ own)) (T : KtsTurn fs h₀ g) (hI : ∀ p ∈ news', p.1 ≠ I) (hJ : J m' news') : TurnPost fs h₀ L own I J s₁ Q .next { s₁ with heap := h', toks := tk } := ⟨g, h', tk, m', news', rfl, T, F, N, hI, hJ⟩
section
variable {w : World} {A : Around} {E : Value → Shared → Prop} {s : Shared} {env : Env} {h₀ : Heap} {target : Expr} {body : List Stmt} {Q : Flow → Shared → Prop} {fs : List Addr}
theorem for_turnsT {I : Addr} {fp : List Addr} {n : Nat} {P : Nat → Value → Prop} {St : Nat → Heap → Prop} {m : Str → Option Value} {news : List (Addr × Obj)} (W : Walks theProg w A I fp [I] n P St)
    (hfp : ∀ b ∈ fp, h₀.get? b = none) (hLf : env.locals ∉ fp) (hnw : ∀ p ∈ news, p.1 ≠ I) (hst : St 0 s.heap) (F : Fr h₀ env.locals s.heap m) (N : News h₀ env.locals s.heap news)
    (hgo : ∀ i (s' : Shared) v (Q' : Unit → Shared → Prop), St i s'.heap → Q' () s' → wpAny (model theProg w) A (letOwnedTupleGo target (.ref I) v) Q' E s')
    (hE : PassesOwn (model theProg w) A env E)
    (J : Nat → (Str → Option Value) → List (Addr × Obj) → Prop) (h0 : J 0 m news)
    (step : ∀ i v g m₁ news₁ h tk own, i < n → P i v → J i m₁ news₁ → (∀ p ∈ news₁, p.1 ≠ I) → (∀ p ∈ own, p.1 ∈ fp) → KtsTurn fs h₀ g → Fr g env.locals h m₁ → News g env.locals h (news₁ ++ own) →
      wpAny (model theProg w) A (assign target env v) (fun _ s₂ => wpAny (model theProg w) A (execs body env) (TurnPost fs h₀ env.locals own I (J (i + 1)) { s with heap := h, toks := tk } Q) E s₂) E { s with heap := h, toks := tk })
    (done : ∀ g m' news' h' tk, KtsTurn fs h₀ g → Fr g env.locals h' m' → News g env.locals h' news' → J n m' news' → Q .next { s with heap := h', toks := tk }) :
    codeAny (model theProg w) A (.forLoop target (.ref I) body [] env) (fun r s' => match r with | .ok f => Q f s' | .error e => cameBackBy (model theProg w) A env E e s') s := by
  have hI : h₀.get? I = none := hfp I (W.sub _ (by simp))
  have hLw : env.locals ≠ I := fun h => hLf (h ▸ W.sub _ (by simp))
  refine codeAny_forLoop_any
    (fun k s' => ∃ g h' tk m' news' i, s' = { s with heap := h', toks := tk } ∧ St i h' ∧ KtsTurn fs h₀ g ∧ Fr g env.locals h' m' ∧ News g env.locals h' news' ∧ (∀ p ∈ news', p.1 ≠ I) ∧ J i m' news' ∧ i ≤ n ∧ k = n + 1 - i) ?_ (n + 1)
    ⟨h₀, s.heap, s.toks, m, news, 0, rfl, hst, KtsTurn.refl, F, N, hnw, h0, Nat.zero_le _, rfl⟩
  intro k s' q₀
  refine ex6 (q₀) fun g h' tk m' news' i q₁ => ?_
  clear q₀
  refine an9 q₁ fun e0₀ hst' T F' N' hnw' hJ hi e8₀ => ?_
  clear q₁
  subst e0₀
  subst e8₀
  have gI : g.get? I = none := T.none_ _ hI
  have gfp : ∀ b ∈ fp, g.get? b = none := fun b hb => T.none_ _ (hfp b hb)
  have old : ∀ b o, g.get? b = some o → b ∉ [I] := fun b o e hb => by rw [List.mem_singleton.mp hb, gI] at e; cases e
  have next : ∀ h₁ : Heap, (∀ b o, b ∉ [I] → h'.get? b = some o → h₁.get? b = some o) → Fr g env.locals h₁ m' ∧ News g env.locals h₁ news' := fun h₁ hk₁ =>
    ⟨⟨F'.ns.at' fun o e => hk₁ _ o (by simpa using hLw) e, fun b o e => hk₁ b o (old b o e) (F'.keep b o e), F'.above⟩, fun p hp => ⟨hk₁ _ _ (by simpa using hnw' p hp) (N' p hp).1, (N' p hp).2⟩⟩
  by_cases hlt : i < n
  · refine W.item i _ _ _ hlt hst' fun v h₁ tk₁ hP hst₁ hk₁ => ?_
    obtain ⟨F₁, N₁⟩ := next h₁ hk₁
    have Nown : News g env.locals h₁ (ownOf g fp h₁) := news_ownOf hLf
    refine wpAny_mono (hgo (i + 1) _ v _ hst₁ ?_) (fun _ _ x => x) hE
    refine wpAny_mono (step i v g m' news' h₁ tk₁ (ownOf g fp h₁) hlt hP hJ hnw' ownOf_sub T F₁ (N₁.append Nown))
      (fun _ s₂ h₂ => wpAny_mono h₂ (fun f s₃ h₃ => ?_) hE) hE
    have fin : (∃ g₂ h'' tk m'' news'', s₃ = { { s with heap := h₁, toks := tk₁ } with heap := h'', toks := tk } ∧ KtsTurn fs h₀ g₂ ∧ Fr g₂ env.locals h'' m'' ∧ News g₂ env.locals h'' (news'' ++ ownOf g fp h₁) ∧ (∀ p ∈ news'', p.1 ≠ I) ∧ J (i + 1) m'' news'') →
        ∃ k, k < n + 1 - i ∧ ∃ g h' tk m' news' i, s₃ = { s with heap := h', toks := tk } ∧ St i h' ∧ KtsTurn fs h₀ g ∧ Fr g env.locals h' m' ∧ News g env.locals h' news' ∧ (∀ p ∈ news', p.1 ≠ I) ∧ J i m' news' ∧ i ≤ n ∧ k = n + 1 - i := by
      intro q₀
      refine ex5 (q₀) fun g₂ h₃' tk₃ m₂ news₂ q₁ => ?_
      clear q₀
      refine an6 q₁ fun e0₀ T₂ F₃ N₃ ha₃ hJ₃ => ?_
      clear q₁
      subst e0₀
      refine ⟨n + 1 - (i + 1), by omega, g₂, h₃', tk₃, m₂, news₂, i + 1, rfl, ?_, T₂, F₃, fun p hp => N₃ p (List.mem_append_left _ hp), ha₃, hJ₃, hlt, rfl⟩
      refine W.frame _ _ _ hst₁ fun b hb o e => ?_
      exact (N₃ _ (List.mem_append_right _ (mem_ownOf hb (gfp b hb) e))).1
    cases f with
    | ret v => exact h₃
    | brk => exact h₃
    | next => exact fin h₃
    | cont => exact fin h₃
  · have hin : i = n := by omega
    subst hin
    refine W.done _ _ _ hst' fun h₁ tk₁ hk₁ => wpAny_execs_nil ?_
    obtain ⟨F₁, N₁⟩ := next h₁ hk₁
    exact done g m' news' h₁ tk₁ T F₁ N₁ hJ
/- a loop over a list of the ledger's, over a ground that may turn -/
theorem iter_listT {l : Addr} {items : Array Value} {k : Nat} {m : Str → Option Value} {news : List (Addr × Obj)} {x : Str} {px : Pos} (hh : A.handled = none)
    (hE : PassesOwn (model theProg w) A env E) (F : Fr h₀ env.locals s.heap m) (N : News h₀ env.locals s.heap news) (hl : (l, listOf items k) ∈ news)
    (J : Nat → (Str → Option Value) → List (Addr × Obj) → Prop) (h0 : J 0 m news)
    (step : ∀ i v g m₁ news₁ h tk own I, items[i]? = some v → J i m₁ news₁ → (∀ p ∈ news₁, p.1 ≠ I) → AllLt I news → (∀ p ∈ own, p.1 = I ∨ p.1 = l) → KtsTurn fs h₀ g → Fr g env.locals h m₁ → News g env.locals h (news₁ ++ own) →
      wpAny (model theProg w) A (assign (.Name x px) env v) (fun _ s₂ => wpAny (model theProg w) A (execs body env) (TurnPost fs h₀ env.locals own I (J (i + 1)) { s with heap := h, toks := tk } Q) E s₂) E { s with heap := h, toks := tk })
    (done : ∀ g m' news' h' tk, KtsTurn fs h₀ g → Fr g env.locals h' m' → News g env.locals h' news' → J items.size m' news' → Q .next { s with heap := h', toks := tk }) :
    wpAny (model theProg w) A (pyIter (.ref l)) (fun it s₂ => codeAny (model theProg w) A (.forLoop (.Name x px) it body [] env) (fun r s' => match r with | .ok f => Q f s' | .error e => cameBackBy (model theProg w) A env E e s') s₂) E s := by
  have hL : s.heap.IsList l items := News.isList N hl
  have hne : l ≠ s.heap.objs.size := Nat.ne_of_lt (Heap.lt_size (N _ hl).1)
  have lt : AllLt s.heap.objs.size news := allLt_of fun p hp => Heap.lt_size (N p hp).1
  refine wpAny_pyIter_list hL ?_
  have W := Walks.list (prog := theProg) (w := w) hh s.heap.objs.size l hne items
  refine for_turnsT (fs := fs) W ?_ ?_ (fun p hp => Nat.ne_of_lt (Heap.lt_size (N p hp).1)) ⟨⟨_, Heap.get?_push_size _ rfl, rfl, rfl⟩, hL.at fun o e => Heap.get?_push_of_some _ e⟩ (F.push _) (fun p hp => ⟨Heap.get?_push_of_some _ (N p hp).1, (N p hp).2⟩) ?_ hE J h0 ?_ ?_
  · intro b hb
    rcases List.mem_cons.mp hb with rfl | hb
    · exact next_is_new F
    · rw [List.mem_singleton.mp hb]
      exact (N _ hl).2.2
  · intro hm
    rcases List.mem_cons.mp hm with e | hm
    · exact absurd F.ns.lt (e ▸ Nat.lt_irrefl _)
    · exact (N _ hl).2.1 (List.mem_singleton.mp hm).symm
  · intro i s' v Q' hst hq
    exact wpAny_pure hq
  · intro i v g m₁ news₁ h tk own hi hP hJ hnI hown T F₁ N₁
    exact step i v g m₁ news₁ h tk own _ hP hJ hnI lt (fun p hp => by simpa using hown p hp) T F₁ N₁
  · exact done
end
open LCg in
theorem end0 {h₀ : Heap} {L I C D : Addr} {m : Str → Option Value} {s₁ : Shared} {oI oC oD : Obj} {S : List (Addr × Obj) → Prop} {rest : Value → List (Addr × Obj) → Prop} {y : Value} {h' : Heap} {tk : Nat} {news : List (Addr × Obj)}
    (F : Fr h₀ L h' m) (N : News h₀ L h' ((I, oI) :: (C, oC) :: (D, oD) :: news)) (off : Off3 I C D news)
    (hS : S news) (r : rest y news) : CompEnd h₀ L m s₁ I oI C oC D oD S rest y { s₁ with heap := h', toks := tk } :=
  CompEnd.intro F N news (fun p hp => hp) off hS r

--needs: 10 11 20 22 26 30 40 44 53 62 63 66
theorem md65 : True := trivial
theorem t_p257_none {w : World} {mean : ExcName → Option Value} {mg mb : Str → Option Value} {l : List Nat} {tx : Tok} {news : List (Addr × Obj)} (hx : l.length ≤ 10000)
    (h3 : Txt.slice (S l) none (some 3) = Str.ofString "257") (h5 : (Txt.slice (S l) (some 3) (some 5) != Str.ofString " \"") = true) :
    Does w mean mg mb 2 (.ref 89) [.str (S l) tx] [] news (fun v tl => (∃ t, v = .str (S []) t) ∧ tl = news) := by
  refine Does.intro ?_
  intro A₀ A env outer base h₀ L m s Q E ⟨B, F, X, N, T, hA, hf, hk, hh⟩ hd hu hret
  have hxl := S_length l
  k_extra "my enter"
  k_with "my ite" => (wtm_at "?65-66"; first | (refine ite_neg (by rw [h3]; decide) ?_) | (refine ite_pos h5 ?_))
  k_steps
  exact hret _ _ _ _ (by k_asm) (by k_asm) ⟨⟨_, rfl⟩, rfl⟩
/- a name's text behind a code -/
noncomputable def code257 (cd : List Nat) (k c : Nat) : List Nat := cd ++ [32, 34] ++ nm k c ++ [34]
noncomputable def UnJ (prs : List (Str × Value)) (news : List (Addr × Obj)) (_i : Nat) (m' : Str → Option Value) (nw : List (Addr × Obj)) : Prop := nw = news ∧ Has m' prs
theorem add_text_eq {w : World} {A : Around} {E : Value → Shared → Prop} {s : Shared} {x y z : Str} {t u : Tok} {Q : Value → Shared → Prop} (e : x ++ y = z) (hsz : x.length + y.length ≤ 16777216)
    (h : ∀ t' c, Q (.str z t') { s with toks := c }) : wpAny (model theProg w) A (binaryOp .Add (.str x t) (.str y u)) Q E s := by
  subst e
  exact add_text hsz h
theorem lenC : (Str.ofString " \"").length = 2 ∧ (Str.ofString "\"").length = 1 ∧ (Str.ofString "257-\"").length = 5 ∧ (Str.ofString "257 '").length = 5 ∧ (Str.ofString "257 \"").length = 5 := ⟨rfl, rfl, rfl, rfl, rfl⟩
theorem cat_q1 (l : List Nat) : S l ++ Str.ofString " \"" = S (l ++ [32, 34]) := by rw [show Str.ofString " \"" = S [32, 34] from rfl, S_app]
theorem cat_q2 (l : List Nat) : S l ++ Str.ofString "\"" = S (l ++ [34]) := by rw [show Str.ofString "\"" = S [34] from rfl, S_app]
theorem cat_a (l : List Nat) : Str.ofString "257-\"" ++ S l = S (50 :: 53 :: 55 :: 45 :: 34 :: l) := by rw [show Str.ofString "257-\"" = S [50, 53, 55, 45, 34] from rfl, S_app]; rfl
theorem cat_b (l : List Nat) : Str.ofString "257 '" ++ S l = S (50 :: 53 :: 55 :: 32 :: 39 :: l) := by rw [show Str.ofString "257 '" = S [50, 53, 55, 32, 39] from rfl, S_app]; rfl
theorem cat_c (l : List Nat) : Str.ofString "257 \"" ++ S l = S (50 :: 53 :: 55 :: 32 :: 34 :: l) := by rw [show Str.ofString "257 \"" = S [50, 53, 55, 32, 34] from rfl, S_app]; rfl
theorem sl3 (l : List Nat) (a b : Nat) : Txt.slice (S (50 :: 53 :: 55 :: a :: b :: l)) none (some 3) = Str.ofString "257" := (S_slice_to (j := 3) (by simp)).trans rfl
theorem sl5 (l : List Nat) (a b : Nat) : Txt.slice (S (50 :: 53 :: 55 :: a :: b :: l)) (some 3) (some 5) = S [a, b] := (S_slice (i := 3) (j := 5) (by omega) (by simp)).trans rfl
theorem un_facts {c k : Nat} (hc : Letter c) (hk : k ≤ 21) :
    ((50 :: 53 :: 55 :: 45 :: 34 :: (nm k c ++ [34])).length ≤ 10000 ∧ Txt.slice (S (50 :: 53 :: 55 :: 45 :: 34 :: (nm k c ++ [34]))) none (some 3) = Str.ofString "257" ∧ (Txt.slice (S (50 :: 53 :: 55 :: 45 :: 34 :: (nm k c ++ [34]))) (some 3) (some 5) != Str.ofString " \"") = true) ∧
    ((50 :: 53 :: 55 :: 32 :: 39 :: (nm k c ++ [34])).length ≤ 10000 ∧ Txt.slice (S (50 :: 53 :: 55 :: 32 :: 39 :: (nm k c ++ [34]))) none (some 3) = Str.ofString "257" ∧ (Txt.slice (S (50 :: 53 :: 55 :: 32 :: 39 :: (nm k c ++ [34]))) (some 3) (some 5) != Str.ofString " \"") = true) ∧
    ([50, 53, 55, 32, 34, c].length ≤ 10000 ∧ Txt.slice (S [50, 53, 55, 32, 34, c]) none (some 3) = Str.ofString "257" ∧ Txt.slice (S [50, 53, 55, 32, 34, c]) (some 3) (some 5) = Str.ofString " \"") ∧
    ([50, 53, 55, 32, 34, c, 34].length ≤ 10000 ∧ Txt.slice (S [50, 53, 55, 32, 34, c, 34]) none (some 3) = Str.ofString "257" ∧ Txt.slice (S [50, 53, 55, 32, 34, c, 34]) (some 3) (some 5) = Str.ofString " \"") := by
  refine ⟨⟨by simp [nm_length]; omega, sl3 _ _ _, ?_⟩, ⟨by simp [nm_length]; omega, sl3 _ _ _, ?_⟩, ⟨by simp, sl3 _ _ _, sl5 _ _ _⟩, ⟨by simp, sl3 _ _ _, sl5 _ _ _⟩⟩
  · have := sl5 (nm k c ++ [34]) 45 34
    rw [this]; decide
  · have := sl5 (nm k c ++ [34]) 32 39
    rw [this]; decide
open Classical in
theorem eq_texts {w : World} {A : Around} {E : Value → Shared → Prop} {s : Shared} {h₀ : Heap} {L a b : Addr} {news : List (Addr × Obj)} {xs ys : List (Str × Tok)} {ka kb : Nat} {Q : Value → Shared → Prop}
    (N : News h₀ L s.heap news) (ma : (a, listOf (xs.map fun p => Value.str p.1 p.2).toArray ka) ∈ news) (mb : (b, listOf (ys.map fun p => Value.str p.1 p.2).toArray kb) ∈ news)
    (hx : ∀ p ∈ xs, PyData.strOk p.1 = true) (e : xs.map (·.1) = ys.map (·.1)) (hu : A.units + 64 < cLine) (h : Q (.bool true) s) : wpAny (model theProg w) A (compareOp .Eq (.ref a) (.ref b)) Q E s := by
  have dat : ∀ l : List (Str × Tok), DatAll news (l.map fun p => Value.str p.1 p.2) (l.map fun p => Dat.str p.1) := by
    intro l
    induction l with
    | nil => exact .nil
    | cons p r ih => exact .cons (.str _ _) ih
  have e2 : (xs.map fun p => Dat.str p.1) = ys.map fun p => Dat.str p.1 := by
    have := congrArg (List.map Dat.str) e
    simpa [List.map_map, Function.comp_def] using this
  have ok : ∀ d ∈ (xs.map fun p => Dat.str p.1), kqdOk 8 d = true := by
    intro d hd
    obtain ⟨p, hp, rfl⟩ := List.mem_map.mp hd
    exact hx p hp
  refine kqd_eq N ma rfl rfl (dat xs) (fun _ h => h) mb rfl rfl (dat ys) (fun _ h => h) ok (e2 ▸ ok) hu ?_
  rw [decide_eq_true e2]
  exact h
theorem letter_ok {c : Nat} (hc : Letter c) : PyData.strOk (S [c]) = true := by
  rcases hc with rfl | rfl | rfl | rfl <;> decide +kernel
section
noncomputable section
theorem md66 : True := trivial
noncomputable def PxUn (bb : Bd) (c : Nat) (k : Nat) (tn : Tok) (tl : Tok) (news : List (Addr × Obj)) : Prop :=
  Letter c → k ≤ 21 →
  BodyT bb (5) 391 (fun y => ([("name", .str (S (nm k c)) tn), ("letter", .str (S [c]) tl)] : List (Str × Value)).reverse.lookup y) (news)
    (fun v tl => v = .bool true ∧ tl = news)
theorem neUn : Nonempty (Bd × Nat × Nat × Tok × Tok × (List (Addr × Obj))) := bd_ne.elim fun bb => ⟨(bb, 0, 0, 0, 0, [])⟩
@[irreducible] noncomputable def DUn : Bd × Nat × Nat × Tok × Tok × (List (Addr × Obj)) := @Classical.epsilon _ neUn fun d => ¬ PxUn d.1 d.2.1 d.2.2.1 d.2.2.2.1 d.2.2.2.2.1 d.2.2.2.2.2
namespace VUn
@[irreducible] noncomputable def bb : Bd := DUn.1
@[irreducible] noncomputable def c : Nat := DUn.2.1
@[irreducible] noncomputable def k : Nat := DUn.2.2.1
@[irreducible] noncomputable def tn : Tok := DUn.2.2.2.1
@[irreducible] noncomputable def tl : Tok := DUn.2.2.2.2.1
@[irreducible] noncomputable def news : List (Addr × Obj) := DUn.2.2.2.2.2
end VUn
end
theorem epUn (h : PxUn VUn.bb VUn.c VUn.k VUn.tn VUn.tl VUn.news) (bb : Bd) (c : Nat) (k : Nat) (tn : Tok) (tl : Tok) (news : List (Addr × Obj)) : PxUn bb c k tn tl news := eps_at (P := fun d : Bd × Nat × Nat × Tok × Tok × (List (Addr × Obj)) => PxUn d.1 d.2.1 d.2.2.1 d.2.2.2.1 d.2.2.2.2.1 d.2.2.2.2.2) (ne := neUn) (by with_unfolding_all exact h) (bb, c, k, tn, tl, news)
namespace VUn
theorem wUn : PxUn bb c k tn tl news := by
  intro hc hk
  refine BodyT.start (by k_is) ?_
  intro St XB TB DD F N hPO hPA hret
  obtain ⟨B, X, T, hA, _, _, hh, hd, hu⟩ := id St
  simp only [depth_deeper, units_deeper] at hd hu
  k_steps
  refine ⟨?_⟩
  rename Fr _ _ _ _ => FC
  rename News _ _ _ _ => NC
  rename Below _ _ _ _ => BC
  rename KtsDicts _ _ => DC
  refine iter_listT (fs := fsOf (bOuter bb)) (items := [.str (Str.ofString "157") _, .str (Str.ofString "267") _, .str (Str.ofString "258") _].toArray) rfl (by passes_own) FC NC (by kcj_m) (UnJ [(Str.ofString "name", .str (S (nm k c)) tn), (Str.ofString "letter", .str (S [c]) tl)] _) ⟨rfl, rfl, rfl, trivial⟩ ?_ ?_
  rotate_left
  · rintro g m₁ news₁ h₁ tk₁ TT F₁ N₁ ⟨rfl, q1, q2, -⟩
    have BT := below_turn BC TT
    have XT := XB.keeps BT.stays
    have TTp := TB.keeps BT.stays
    have DT := DC.turn TT
    clear FC NC BC DC
    dsimp only [envOf] at F₁ N₁
    replace F₁ := fr_as (ps := [("name", _), ("letter", _)]) F₁ ⟨q1, q2, trivial⟩
    simp only [kstB] at F₁
    clear q1 q2
    k_with "my cat" => (wtm_at "?65-66"; first | exact cat_q2 _ | exact cat_a _ | exact cat_b _ | exact cat_c _)
    obtain ⟨⟨a1, a2, a3⟩, ⟨b1, b2, b3⟩, ⟨c1, c2, c3⟩, ⟨d1, d2, d3⟩⟩ := un_facts hc hk
    have e3 : go257 ([50, 53, 55, 32, 34, c].drop 5) = [c] := by
      have := (letter_ne hc).1
      simp [go257, this]
    have e4 : go257 ([50, 53, 55, 32, 34, c, 34].drop 5) = [c] := by
      have := (letter_ne hc).1
      simp [go257, this]
    k_with "my go" => (wtm_at "?65-66"; first | rw [e3] | rw [e4])
    k_steps
    refine ⟨?_⟩
    refine eq_texts (xs := [(_, _), (_, _), (_, _), (_, _)]) (ys := [(_, _), (_, _), (_, _), (_, _)]) (by k_asm) (.tail _ (.head _)) (.head _) ?_ (by rfl) (by k_extra "my cline") ?_
    · have hok := letter_ok hc
      intro p hp
      simp only [List.mem_cons, List.not_mem_nil, or_false] at hp
      rcases hp with rfl | rfl | rfl | rfl
      · exact (by decide +kernel : PyData.strOk (S []) = true)
      · exact (by decide +kernel : PyData.strOk (S []) = true)
      · exact hok
      · exact hok
    k_steps
    refine' hret _ _ _ _ _ _ _ (by k_asm) (News.sub (by k_asm) ?sub) (by assumption) ⟨rfl, rfl⟩
    kcj_in
  · rintro i v g m₁ news₁ h₁ tk₁ own I hi ⟨rfl, q1, q2, -⟩ hnI hlt hown TT F₁ N₁
    have BT := below_turn BC TT
    have XT := XB.keeps BT.stays
    have TTp := TB.keeps BT.stays
    have DT := DC.turn TT
    clear FC NC BC DC
    dsimp only [envOf] at F₁ N₁
    replace F₁ := fr_as (ps := [("name", _), ("letter", _)]) F₁ ⟨q1, q2, trivial⟩
    simp only [kstB] at F₁
    clear q1 q2
    have hv : ∃ cd t, v = .str (S cd) t ∧ cd.length = 3 ∧ cd ≠ [50, 53, 55] := by
      match i, hi with
      | 0, hi => exact ⟨[49, 53, 55], _, (Option.some.inj hi).symm, rfl, by decide⟩
      | 1, hi => exact ⟨[50, 54, 55], _, (Option.some.inj hi).symm, rfl, by decide⟩
      | 2, hi => exact ⟨[50, 53, 56], _, (Option.some.inj hi).symm, rfl, by decide⟩
    obtain ⟨cd, t, rfl, hcl, hcd⟩ := hv
    have hsl : (Txt.slice (S (code257 cd k c)) none (some 3) != Str.ofString "257") = true := by
      rw [show (some 3 : Option Int) = some ((3 : Nat) : Int) from rfl, S_slice_to (by simp [code257]; omega), show Str.ofString "257" = S [50, 53, 55] from rfl, bne, S_beq]
      have : (code257 cd k c).take 3 = cd := by simp [code257, hcl]
      rw [this]; simpa using hcd
    have hcat : S ((cd ++ [32, 34]) ++ nm k c) ++ Str.ofString "\"" = S (code257 cd k c) := by rw [cat_q2]; rfl
    have hlen : (S (code257 cd k c)).length ≤ 10000 := by rw [S_length]; simp [code257, nm_length]; omega
    k_with "my cat" => (wtm_at "?65-66"; first | exact hcat | exact cat_q1 _ | exact S_app _ _)
    k_with "my ite" => (wtm_at "?65-66"; first | (refine ite_pos hsl ?_) | (refine ite_neg (by simp) ?_))
    k_steps
    exact TurnPost.go (by k_asm) (by k_asm) (by assumption) hnI ⟨rfl, rfl, rfl, trivial⟩
end VUn
theorem t_unread {w : World} {mean : ExcName → Option Value} {mg mb : Str → Option Value} {c k : Nat} {tn tl : Tok} {news : List (Addr × Obj)} (hc : Letter c) (hk : k ≤ 21) :
    DoesT w mean mg mb 6 (.ref 391) [.str (S (nm k c)) tn, .str (S [c]) tl] [] news (fun v tl => v = .bool true ∧ tl = news) := by
  refine does_asT (n := 5 + 1) (by omega) (DoesT.of_body (binds := [("name", .str (S (nm k c)) tn), ("letter", .str (S [c]) tl)]) (by k_is) (by k_is) (fun s _ => BindsTo.of_eq rfl) (locs rfl) rfl rfl rfl (by decide) ?_)
  intro bb e1 e2 e3 e4
  subst e1 e2 e3 e4
  exact epUn VUn.wUn bb c k tn tl news hc hk
end

--needs: 10 24 30 40 53 63 66
section
variable {w : World} {A : Around} {E : Value → Shared → Prop} {s : Shared} {h₀ : Heap} {L : Addr} {m : Str → Option Value} {env : Env} {fs : List Addr}
theorem md67 : True := trivial
/- an element's end over a ground that may turn: the ledger has grown -/
noncomputable def PairEndT (fs : List Addr) (h₀ : Heap) (L : Addr) (m : Str → Option Value) (s : Shared) (h : Heap) (led : List (Addr × Obj)) (own : List (Addr × Obj)) (R : List (Addr × Obj) → Prop) (s₄ : Shared) : Prop :=
  ∃ g h' tk' led', s₄ = { s with heap := h', toks := tk' } ∧ KtsTurn fs h₀ g ∧ Fr g L h' m ∧ News g L h' (own ++ led') ∧ (∀ p ∈ led, p ∈ led') ∧ (∀ p ∈ led', ∀ q ∈ own, p.1 ≠ q.1) ∧ R led'
/- the turns of a comprehension over pairs, over a ground that may turn, its ledger growing -/
noncomputable def PairRestT (w : World) (A : Around) (fs : List Addr) (h₀ : Heap) (L : Addr) (m : Str → Option Value) (env : Env) (elt : Expr) (a b : Str) (scope : Scope) (cl : List (Str × Addr)) (s : Shared) (Q : Value → Shared → Prop) : List Value → List Value → List (Addr × Obj) → Prop
  | [], ys, led => ∀ g D h tk, KtsTurn fs h₀ g → Fr g L h m → News g L h ((D, LCg.lst ys) :: led) → (∀ p ∈ led, p.1 ≠ D) → Q (.ref D) { s with heap := h, toks := tk }
  | v :: r, ys, led => ∃ t x y, v = .ref t ∧ (t, tupOf [x, y]) ∈ led ∧ ∀ g I oI oC C D m₂ h tk (E' : Value → Shared → Prop), oI.cls = .type "list_iterator" → LCg.NsObj oC m₂ → m₂ a = some x → m₂ b = some y → KtsTurn fs h₀ g → Fr g L h m → News g L h ((I, oI) :: (C, oC) :: (D, LCg.lst ys) :: led) →
      (∀ p ∈ led, p.1 ≠ I ∧ p.1 ≠ C ∧ p.1 ≠ D) →
      wpAny (model theProg w) A (eval elt (compEnvC scope cl C env)) (fun z => PairEndT fs h₀ L m s h led [(I, oI), (C, oC), (D, LCg.lst ys)] (PairRestT w A fs h₀ L m env elt a b scope cl s Q r (ys ++ [z]))) E' { s with heap := h, toks := tk }
theorem PairRestT.cons {elt : Expr} {a b : Str} {scope : Scope} {cl : List (Str × Addr)} {Q : Value → Shared → Prop} {led : List (Addr × Obj)} {t : Addr} {x y : Value} {r ys : List Value} (hm : (t, tupOf [x, y]) ∈ led)
    (h : ∀ g I oI oC C D m₂ h tk (E' : Value → Shared → Prop), oI.cls = .type "list_iterator" → LCg.NsObj oC m₂ → m₂ a = some x → m₂ b = some y → KtsTurn fs h₀ g → Fr g L h m → News g L h ((I, oI) :: (C, oC) :: (D, LCg.lst ys) :: led) →
      (∀ p ∈ led, p.1 ≠ I ∧ p.1 ≠ C ∧ p.1 ≠ D) →
      wpAny (model theProg w) A (eval elt (compEnvC scope cl C env)) (fun z => PairEndT fs h₀ L m s h led [(I, oI), (C, oC), (D, LCg.lst ys)] (PairRestT w A fs h₀ L m env elt a b scope cl s Q r (ys ++ [z]))) E' { s with heap := h, toks := tk }) :
    PairRestT w A fs h₀ L m env elt a b scope cl s Q (.ref t :: r) ys led := ⟨t, x, y, rfl, hm, h⟩
theorem PairRestT.nil {elt : Expr} {a b : Str} {scope : Scope} {cl : List (Str × Addr)} {Q : Value → Shared → Prop} {led : List (Addr × Obj)} {ys : List Value}
    (h : ∀ g D h tk, KtsTurn fs h₀ g → Fr g L h m → News g L h ((D, LCg.lst ys) :: led) → (∀ p ∈ led, p.1 ≠ D) → Q (.ref D) { s with heap := h, toks := tk }) : PairRestT w A fs h₀ L m env elt a b scope cl s Q [] ys led := h
theorem PairEndT.intro {g h h' : Heap} {tk : Nat} {led led' own : List (Addr × Obj)} {R : List (Addr × Obj) → Prop} (F : Fr g L h' m) (N : News g L h' (own ++ led')) (T : KtsTurn fs h₀ g) (hs : ∀ p ∈ led, p ∈ led') (ha : ∀ p ∈ led', ∀ q ∈ own, p.1 ≠ q.1) (r : R led') :
    PairEndT fs h₀ L m s h led own R { s with heap := h', toks := tk } := ⟨g, h', tk, led', rfl, T, F, N, hs, ha, r⟩
noncomputable def PairSrcT (w : World) (A : Around) (fs : List Addr) (h₀ : Heap) (L : Addr) (m : Str → Option Value) (env : Env) (elt : Expr) (a b : Str) (scope : Scope) (cl : List (Str × Addr)) (Q : Value → Shared → Prop) (xv : Value) (s₁ : Shared) : Prop :=
  ∃ ax its n led, xv = .ref ax ∧ Fr h₀ L s₁.heap m ∧ News h₀ L s₁.heap led ∧ (ax, listOf its n) ∈ led ∧ its.size ≤ 1000 ∧ PairRestT w A fs h₀ L m env elt a b scope cl s₁ Q its.toList [] led
theorem PairSrcT.intro {elt : Expr} {a b : Str} {scope : Scope} {cl : List (Str × Addr)} {Q : Value → Shared → Prop} {s₁ : Shared} {ax : Addr} {its : List Value} {n : Nat} {led : List (Addr × Obj)} (F : Fr h₀ L s₁.heap m) (N : News h₀ L s₁.heap led) (hm : (ax, listOf its.toArray n) ∈ led) (hsz : its.length ≤ 1000)
    (R : PairRestT w A fs h₀ L m env elt a b scope cl s₁ Q its [] led) : PairSrcT w A fs h₀ L m env elt a b scope cl Q (.ref ax) s₁ :=
  ⟨ax, its.toArray, n, led, rfl, F, N, hm, by simpa using hsz, R⟩
open LCg in
theorem pair_compT {elt iter : Expr} {a b : Str} {pa pb tp : Pos} {kk : Nat} {scope : Scope} {cl : List (Str × Addr)} {pos : Pos} {Q : Value → Shared → Prop} (_F : Fr h₀ L s.heap m) (hh : A.handled = none)
    (hclos : closureFor scope env = pure cl) (hcell : ∀ y ∈ scope.names, y.2 ≠ .cell) (hkind : scope.kind = .function)
    (hnames : ∀ y ∈ scope.names, y.2 = .local → scope.names.lookup y.1 = some .local) (hxa : scope.names.lookup a = some .local) (hxb : scope.names.lookup b = some .local) (hab : ¬ a = b)
    (h : wpAny (model theProg w) A (eval iter env) (PairSrcT w A fs h₀ L m env elt a b scope cl Q) E s)
    (hs : ∀ x, foldedSetIterable iter env x = pure x := by intro _; rfl) :
    wpAny (model theProg w) A (eval (.ListComp elt [⟨.Tuple [.Name a pa, .Name b pb] kk tp, iter, [], 0⟩] scope pos) env) Q E s := by
  rw [eval_ListComp]
  refine wpAny_comprehension_free (use := none) rfl hs hclos hkind hnames (wpAny_mono h (fun xv s₁ h₁ => ?_) fun _ _ e => e)
  refine ex4 (h₁) fun ax its kn led₀ q₁ => ?_
  clear h₁
  refine an6 q₁ fun e0₀ F N hm hsz R => ?_
  clear q₁
  subst e0₀
  have hl : s₁.heap.IsList ax its := News.isList N hm
  have hlt : ax < s₁.heap.objs.size := Heap.lt_size (N _ hm).1
  have hLlt : L < s₁.heap.objs.size := F.ns.lt
  have none_of : ∀ d, s₁.heap.objs.size ≤ d → h₀.get? d = none := fun d hd => by
    cases e : h₀.get? d with
    | none => rfl
    | some o => exact absurd (Heap.lt_size (F.keep d o e)) (Nat.not_lt.mpr hd)
  refine wpAny_pyIter_list hl ?_
  refine wpAny_newObj_type (wpAny_newFunctionEnv hcell (by intro y hy; simp at hy) (fun h₁ hns hsb => ?_) hkind)
  dsimp only at hns hsb ⊢
  generalize hI : s₁.heap.objs.size = I at *
  generalize hH1 : s₁.heap.push { cls := .type "list_iterator", data := .fields #[.ref ax, .int 0 0] } = H1 at *
  generalize hH2 : H1.push { cls := .type "list", dict := none, data := .seq ([] : List Value).toArray } = H2 at *
  have sD : H1.objs.size = I + 1 := by rw [← hH1, Heap.size_push, hI]
  have sC : H2.objs.size = I + 2 := by rw [← hH2, Heap.size_push, sD]
  generalize hDD : H1.objs.size = D at *
  generalize hCC : H2.objs.size = C at *
  have up1 : ∀ d o, s₁.heap.get? d = some o → H1.get? d = some o := fun d o e => by rw [← hH1]; exact Heap.get?_push_of_some _ e
  have up2 : ∀ d o, H1.get? d = some o → H2.get? d = some o := fun d o e => by rw [← hH2]; exact Heap.get?_push_of_some _ e
  have below : ∀ d o, s₁.heap.get? d = some o → @LT.lt Nat _ d I := fun d o e => hI ▸ Heap.lt_size e
  have up : ∀ d o, s₁.heap.get? d = some o → h₁.get? d = some o := fun d o e => by
    have := below d o e
    exact hsb.extBut d o (by show @Ne Nat _ _; omega) (Heap.get?_push_of_some _ (up2 _ _ (up1 _ _ e)))
  have itH : h₁.IsListIter I ax 0 := by
    have e1 : H1.get? I = some { cls := .type "list_iterator", data := .fields #[.ref ax, .int 0 0] } := by rw [← hH1, ← hI]; exact Heap.get?_push_size _ rfl
    exact ⟨_, hsb.extBut _ _ (by show @Ne Nat _ _; omega) (Heap.get?_push_of_some _ (up2 _ _ e1)), rfl, rfl⟩
  have accH : h₁.get? D = some (lst []) := by
    have e1 : H2.get? D = some { cls := .type "list", dict := none, data := .seq ([] : List Value).toArray } := by rw [← hH2, ← hDD]; exact Heap.get?_push_size _ rfl
    exact hsb.extBut _ _ (by show @Ne Nat _ _; omega) (Heap.get?_push_of_some _ e1)
  have axl : @LT.lt Nat _ ax I := hI ▸ hlt
  have Ll : @LT.lt Nat _ L I := hI ▸ hLlt
  have W := Walks.list (prog := theProg) (w := w) hh I ax (by show @Ne Nat _ _; omega) its
  have ledl : ∀ p ∈ led₀, @LT.lt Nat _ p.1 I := fun p hp => below _ _ (N p hp).1
  have nI := none_of I (by omega)
  have nD := none_of D (by omega)
  have nC := none_of C (by omega)
  have dID : @Ne Nat I D := by omega
  have dDI : @Ne Nat D I := dID.symm
  have dIC : @Ne Nat I C := by omega
  have dCI : @Ne Nat C I := dIC.symm
  have dDC : @Ne Nat D C := by omega
  have dCD : @Ne Nat C D := dDC.symm
  have daxI : @Ne Nat ax I := by omega
  have dIax : @Ne Nat I ax := daxI.symm
  have daxD : @Ne Nat ax D := by omega
  have dDax : @Ne Nat D ax := daxD.symm
  have daxC : @Ne Nat ax C := by omega
  have dCax : @Ne Nat C ax := daxC.symm
  have dLI : @Ne Nat L I := by omega
  have dIL : @Ne Nat I L := dLI.symm
  have dLD : @Ne Nat L D := by omega
  have dDL : @Ne Nat D L := dLD.symm
  have dLC : @Ne Nat L C := by omega
  have dCL : @Ne Nat C L := dLC.symm
  have hns' : h₁.Ns C (fun y => List.lookup y ([] : List (Str × Value)).reverse) := hns
  have loop : ∀ s₃ : Shared, s₃ = { s₁ with heap := h₁, toks := s₁.toks + ([] : List (Str × Value)).length } →
      codeAny (model theProg w) A (.compLoop (.ListComp elt [⟨.Tuple [.Name a pa, .Name b pb] kk tp, iter, [], 0⟩] scope pos) 0 (.ref I) (.ref D) (compEnvC scope cl C env))
        (compPost (model theProg w) A E none Q (.ref D) C) s₃ := by
    rintro s₃ rfl
    refine kcp_loop (fun n s' => ∃ g h' tk i ys m' led, s' = { s₁ with heap := h', toks := tk } ∧ i ≤ its.size ∧ n = its.size + 1 - i ∧ ys.length ≤ i ∧ (h'.IsListIter I ax i ∧ h'.IsList ax its) ∧ KtsTurn fs h₀ g ∧ Fr g L h' m ∧ h'.Ns C m' ∧
      News g L h' ((D, lst ys) :: led) ∧ (∀ p ∈ led, p.1 ≠ I ∧ p.1 ≠ C ∧ p.1 ≠ D) ∧ (ax, listOf its kn) ∈ led ∧ PairRestT w A fs h₀ L m env elt a b scope cl s₁ Q (its.toList.drop i) ys led) ?_ (its.size + 1)
      ⟨h₀, h₁, _, 0, [], _, led₀, rfl, Nat.zero_le _, rfl, Nat.le_refl _, ⟨itH, hl.at fun o e => up _ o e⟩, KtsTurn.refl, F.keeps up, hns', fun p hp => ?_, fun p hp => ?_, ?_, R⟩
    · intro k s' q₀
      refine ex7 (q₀) fun g h' tk i ys m' led q₁ => ?_
      clear q₀
      refine an12 q₁ fun e0₀ hi e2₀ hyl hst T F' hn' N' off hax R' => ?_
      clear q₁
      subst e0₀
      subst e2₀
      have gI : g.get? I = none := T.none_ _ nI
      have gD : g.get? D = none := T.none_ _ nD
      have gC : g.get? C = none := T.none_ _ nC
      by_cases hlt' : i < its.size
      · refine W.item i _ _ _ hlt' hst fun v h₂ tk₂ hPv hst₂ hk₂ => ?_
        have hd : its.toList.drop i = v :: its.toList.drop (i + 1) := by
          have hi2 : i < its.toList.length := by simpa using hlt'
          rw [List.drop_eq_getElem_cons hi2]
          congr 1
          have := Array.getElem?_eq_some_iff.mp hPv
          obtain ⟨_, e⟩ := this
          rw [← e]; simp
        rw [hd] at R'
        refine ex3 (R') fun t x y q₁ => ?_
        clear R'
        refine an3 q₁ fun e0₀ hmt R'' => ?_
        clear q₁
        subst e0₀
        have old2 : ∀ d o, d ≠ I → h'.get? d = some o → h₂.get? d = some o := fun d o hd e => hk₂ d o (by simpa using hd) e
        have ntI : ∀ p ∈ (D, lst ys) :: led, p.1 ≠ I := fun p hp => by
          rcases List.mem_cons.mp hp with rfl | hp
          · first | assumption | (show @Ne Nat _ _; omega)
          · exact (off p hp).1
        have N₂ : News g L h₂ ((D, lst ys) :: led) := news_but N' hk₂ ntI
        have F₂ : Fr g L h₂ m := fr_but F' hk₂ (by first | assumption | (show @Ne Nat _ _; omega)) gI
        have hn₂ : h₂.Ns C m' := hn'.at' fun o e => old2 C o (by first | assumption | (show @Ne Nat _ _; omega)) e
        have ht : h₂.IsTuple t #[x, y] := News.isTup N₂ (.tail _ hmt)
        refine wpAny_letOwnedTupleGo_listiter hst₂.1 ?_
        refine kcp_assign hh ht (lookup_relabel_local hxa) (lookup_relabel_local hxb) (by simp [compEnvC, relabel, hkind]) hn₂ fun h₃ tk₃ hn₃ hs₃ => ?_
        refine ex1 (ns_obj hn₃) fun oC q₁ => ?_
        refine an2 q₁ fun heC hoC => ?_
        clear q₁
        have heC' : h₃.get? C = some oC := heC
        have hn₃' : h₃.Ns C (fun z => if z = b then some y else if z = a then some x else m' z) := hn₃
        have old3 : ∀ d o, d ≠ C → h₂.get? d = some o → h₃.get? d = some o := fun d o hd e => hs₃ d o hd e
        have F₃ : Fr g L h₃ m := ⟨F₂.ns.at' fun o e => old3 L o (by first | assumption | (show @Ne Nat _ _; omega)) e, fun d o e => old3 d o (fun q => by rw [q, gC] at e; cases e) (F₂.keep d o e), F₂.above⟩
        refine ex1 (hst₂.1) fun oI q₁ => ?_
        refine an2 q₁ fun heI hI1 => ?_
        clear q₁
        have heI3 : h₃.get? I = some oI := old3 _ _ (by first | assumption | (show @Ne Nat _ _; omega)) heI
        have N₃ : News g L h₃ ((I, oI) :: (C, oC) :: (D, lst ys) :: led) := fun p hp => by
          rcases List.mem_cons.mp hp with rfl | hp
          · exact ⟨heI3, by first | assumption | (show @Ne Nat _ _; omega), gI⟩
          rcases List.mem_cons.mp hp with rfl | hp
          · exact ⟨heC', by first | assumption | (show @Ne Nat _ _; omega), gC⟩
          · refine ⟨old3 _ _ ?_ (N₂ p hp).1, (N₂ p hp).2⟩
            rcases List.mem_cons.mp hp with rfl | hp
            · first | assumption | (show @Ne Nat _ _; omega)
            · exact (off p hp).2.1
        have more : ∀ (g₅ : Heap) (zs : List Value) (h₅ : Heap) (tk₅ : Nat) (led₅ : List (Addr × Obj)), zs.length ≤ i + 1 → KtsTurn fs h₀ g₅ → Fr g₅ L h₅ m → News g₅ L h₅ ((I, oI) :: (C, oC) :: (D, lst zs) :: led₅) → (∀ p ∈ led, p ∈ led₅) → (∀ p ∈ led₅, p.1 ≠ I ∧ p.1 ≠ C ∧ p.1 ≠ D) →
            PairRestT w A fs h₀ L m env elt a b scope cl s₁ Q (its.toList.drop (i + 1)) zs led₅ →
            ∃ m_1, m_1 < its.size + 1 - i ∧ ∃ g h' tk i ys m' led, ({ s₁ with heap := h₅, toks := tk₅ } : Shared) = { s₁ with heap := h', toks := tk } ∧ i ≤ its.size ∧ m_1 = its.size + 1 - i ∧ ys.length ≤ i ∧ (h'.IsListIter I ax i ∧ h'.IsList ax its) ∧ KtsTurn fs h₀ g ∧ Fr g L h' m ∧ h'.Ns C m' ∧
              News g L h' ((D, lst ys) :: led) ∧ (∀ p ∈ led, p.1 ≠ I ∧ p.1 ≠ C ∧ p.1 ≠ D) ∧ (ax, listOf its kn) ∈ led ∧ PairRestT w A fs h₀ L m env elt a b scope cl s₁ Q (its.toList.drop i) ys led := by
          intro g₅ zs h₅ tk₅ led₅ hz T₅ F₅ N₅ hsub off₅ R₅
          refine ⟨its.size + 1 - (i + 1), by omega, g₅, h₅, tk₅, i + 1, zs, _, led₅, rfl, hlt', rfl, hz, ⟨⟨oI, (N₅ _ (.head _)).1, hI1⟩, News.isList N₅ (.tail _ (.tail _ (.tail _ (hsub _ hax))))⟩, T₅, F₅, hoC.ns (N₅ _ (.tail _ (.head _))).1, fun p hp => N₅ p (.tail _ (.tail _ hp)), off₅, hsub _ hax, R₅⟩
        refine wpAny_mono (R'' g I oI oC C D _ h₃ tk₃ _ hI1.1 hoC (by simp [hab]) (by simp) T F₃ N₃ off) (fun z s₄ h₄ => ?_) fun _ _ e => e
        refine ex4 (h₄) fun g₅ h₅ tk₅ led₅ q₁ => ?_
        clear h₄
        refine an7 q₁ fun e0₀ T₅ F₅ N₅ hsub hap R₅ => ?_
        clear q₁
        subst e0₀
        have off₅ : ∀ p ∈ led₅, p.1 ≠ I ∧ p.1 ≠ C ∧ p.1 ≠ D := fun p hp => ⟨hap p hp (I, oI) (.head _), hap p hp (C, oC) (.tail _ (.head _)), hap p hp (D, lst ys) (.tail _ (.tail _ (.head _)))⟩
        have zD : h₅.get? D = some (lst ys) := (N₅ (D, lst ys) (.tail _ (.tail _ (.head _)))).1
        refine append_at (hsz := by show ys.toArray.size ≤ sizeLine; rw [List.size_toArray, sizeLine_eq]; omega) zD fun h₆ hs₆ hD₆ => ?_
        have g5D : g₅.get? D = none := (N₅ (D, lst ys) (.tail _ (.tail _ (.head _)))).2.2
        refine more g₅ (ys ++ [z]) h₆ _ led₅ (by rw [List.length_append, List.length_singleton]; omega) T₅ (F₅.change hs₆ (by first | assumption | (show @Ne Nat _ _; omega)) g5D) ?_ hsub off₅ R₅
        intro p hp
        rcases List.mem_cons.mp hp with rfl | hp
        · have := N₅ (I, oI) (.head _)
          exact ⟨hs₆.extBut _ _ (by first | assumption | (show @Ne Nat _ _; omega)) this.1, this.2⟩
        rcases List.mem_cons.mp hp with rfl | hp
        · have := N₅ (C, oC) (.tail _ (.head _))
          exact ⟨hs₆.extBut _ _ (by first | assumption | (show @Ne Nat _ _; omega)) this.1, this.2⟩
        rcases List.mem_cons.mp hp with rfl | hp
        · exact ⟨hD₆.trans (congrArg some (lst_snoc ys z)), (N₅ (D, lst ys) (.tail _ (.tail _ (.head _)))).2⟩
        · have := N₅ p (.tail _ (.tail _ (.tail _ hp)))
          exact ⟨hs₆.extBut _ _ (off₅ p hp).2.2 this.1, this.2⟩
      · have hin : i = its.size := by omega
        subst hin
        rw [List.drop_eq_nil_of_le (by simp)] at R'
        refine W.done _ _ _ hst fun h₂ tk₂ hk₂ => ?_
        have ntI : ∀ p ∈ (D, lst ys) :: led, p.1 ≠ I := fun p hp => by
          rcases List.mem_cons.mp hp with rfl | hp
          · first | assumption | (show @Ne Nat _ _; omega)
          · exact (off p hp).1
        have N₂ : News g L h₂ ((D, lst ys) :: led) := news_but N' hk₂ ntI
        have F₂ : Fr g L h₂ m := fr_but F' hk₂ (by first | assumption | (show @Ne Nat _ _; omega)) gI
        have hn₂ : h₂.Ns C m' := hn'.at' fun o e => hk₂ C o (by intro hq; exact absurd (List.mem_singleton.mp hq) (by first | assumption | (show @Ne Nat _ _; omega))) e
        refine ⟨m', hn₂, fun h'' hs'' => R' g D h'' tk₂ T (F₂.change hs'' (by first | assumption | (show @Ne Nat _ _; omega)) gC) (fun p hp => ⟨hs''.extBut _ _ ?_ (N₂ p hp).1, (N₂ p hp).2⟩) fun p hp => (off p hp).2.2⟩
        rcases List.mem_cons.mp hp with rfl | hp
        · first | assumption | (show @Ne Nat _ _; omega)
        · exact (off p hp).2.1
    · rcases List.mem_cons.mp hp with rfl | hp
      · exact ⟨accH, by first | assumption | (show @Ne Nat _ _; omega), nD⟩
      · exact ⟨up _ _ (N p hp).1, (N p hp).2⟩
    · have := ledl p hp
      exact ⟨by first | assumption | (show @Ne Nat _ _; omega), by first | assumption | (show @Ne Nat _ _; omega), by first | assumption | (show @Ne Nat _ _; omega)⟩
    · exact hm
  exact codeAny_compStart_list (loop _ rfl) (W.self 0 _ _ _ ⟨itH, hl.at fun o e => up _ o e⟩ (loop _ rfl))
end

--needs: 10 35 62 63
section
variable {w : World} {mean : ExcName → Option Value} {mg mb : Str → Option Value} {A₀ A : Around} {base h₀ g g' h h' : Heap} {outer : List Env} {env : Env} {L L' : Addr} {m m' : Str → Option Value} {news news' : List (Addr × Obj)}
theorem md68 : True := trivial
/- a callee with cells, over a ground that may turn -/
theorem code_TC {s : Shared} {R : Result → Shared → Prop} {name qual : Str} {params : Arguments} {body : List Stmt} {scope : Scope} {dV kV doc pm cdv ct oc : Value} {an od : Option Addr} {osl : Array (Option Value)} {f : Addr} {args : Args} {binds : List (Str × Value)}
    (B : Below A₀ base outer h₀) (F : Fr h₀ L s.heap m) (X₀ : (Mine.x.heap_1_39 w.params).In h₀) (N : News h₀ L s.heap news) (T : Top Mine.x.view_1_40 theLoose mean mg mb h₀)
    (XB : (Mine.x.heap_1_39 w.params).In base) (TB : Top Mine.x.view_1_40 theLoose mean mg mb base) (D : KtsDicts (fsOf outer) h₀) (hA : A.frames = some (env :: outer)) (hf : env.frame = some L) (hke : env.scope.kind = .function)
    (ho : (Mine.x.heap_1_39 w.params).lookup f = some ⟨oc, od, .func (fnOf name qual params body scope dV kV doc pm an cdv ct), osl⟩) (hcd : codeIn (Mine.x.heap_1_39 w.params) cdv qual = true) (hroom : A.depth < recursionLimit)
    (hbind : BindsTo s (fnOf name qual params body scope dV kV doc pm an cdv ct) args binds) (hkind : (binds.all fun y => scope.names.lookup y.1 == some .local || scope.names.lookup y.1 == some .cell) = true)
    (hnd : ((cellsFrom 0 scope.names []).map (·.1)).Nodup)
    (h : ∀ g L' h₁ tk cells, Fr g L' h₁ (bindL (envOfC qual scope L' f cdv).kindOf binds fun _ => none) → News g L' h₁ (cells ++ news) →
      CellsAre (bindC (envOfC qual scope L' f cdv).kindOf binds fun _ => none) (cellsFrom (L' + 1) scope.names []) cells → Below A base (env :: outer) g → (Mine.x.heap_1_39 w.params).In g → Top Mine.x.view_1_40 theLoose mean mg mb g → KtsDicts (fsOf (env :: outer)) g → (∀ p ∈ news, p.1 < L') → s.toks ≤ tk →
      wpAny (model theProg w) (A.deeper (envOfC qual scope L' f cdv)) (execs body (envOfC qual scope L' f cdv))
        (fun fl s' => LeaveT (fsOf (env :: outer)) g (fun v nw s' => ∀ h₀', TurnOut w mean mg mb A₀ base outer h₀ h₀' L m s'.heap nw → R (.ok (.ret v)) s') (match fl with | .ret v => v | _ => .none) s')
        (fun e s' => wpAny (model theProg w) (A.deeper (envOfC qual scope L' f cdv)) (leaving (envOfC qual scope L' f cdv) e) (fun _ s'' => R (.error e) s'') (fun e' s'' => R (.error e') s'') s')
        { s with heap := h₁, toks := tk })
    (hco : scope.isCoroutine = false) (hgen : scope.isGenerator = false) (hk : scope.kind = .function) : codeAny (model theProg w) A (.call (.ref f) args) R s := by
  obtain ⟨FG, BG, st, _⟩ := groundX (R := R) B F N hA hf hke
  have DG := groundT B F N hA hf hke D
  refine codeAny_call_function hroom ((X₀.keeps F.keep) _ _ ho) rfl hco hgen rfl (codeRec_of (X₀.keeps F.keep) hcd) (hbind _ _ _ _ ?_)
  refine wpAny_with_toks (Nat.le_refl _) ?_
  refine wpAny_newFunctionEnv_cells hk (kindsX hkind _) fun env' he s' x htk => ?_
  subst he
  refine ⟨(T.nolimit.keeps F.keep).keeps x.toInCall.keep, codeAny_func ?_⟩
  obtain ⟨h₁, tk, rfl, _⟩ := x.done
  have hk₁ := x.toInCall.keep
  obtain ⟨cells, NC, Y⟩ := Cl.news (h₀ := s.heap) (Nat.le_refl _) fun n c hm => ⟨x.cell n c (lookup_of_mem_nodup (cellsFrom_names scope.names 0 (s.heap.objs.size + 1) [] [] rfl ▸ hnd) hm), x.above n c hm⟩
  refine wpAny_mono (h _ s.heap.objs.size h₁ tk cells ⟨x.toInCall.ns, fun b o e => hk₁ b o (of_hideAll _ e), Nat.le_of_eq (hideAll_size _ _)⟩ (fun p hp => ?_) Y BG (X₀.keeps st) (T.keeps st) DG (fun p hp => Heap.lt_size (N p hp).1) htk) (fun fl s' hl => ?_) fun _ _ y => y
  · rcases List.mem_append.mp hp with hp | hp
    · refine ⟨(NC p hp).1, (NC p hp).2.1, ?_⟩
      cases q : (hideAll s.heap (news.map (·.1))).get? p.1 with
      | none => rfl
      | some o => have := of_hideAll _ q; rw [(NC p hp).2.2] at this; cases this
    · exact ⟨hk₁ _ _ (N p hp).1, Nat.ne_of_lt (Heap.lt_size (N p hp).1), hideAll_none _ (List.mem_map_of_mem hp)⟩
  · obtain ⟨g', L', m', news', T', F', N', k⟩ := hl
    obtain ⟨h₀', O⟩ := turn_back B FG hf XB TB D T' F' N'
    exact k h₀' O
end

--needs: 20 43 44 65
theorem md69 : True := trivial
/- the places of two like signs, from left to right -/
noncomputable def pos2 (c : Nat) : List Nat → Nat → List Nat
  | a :: b :: r, k => if a = c ∧ b = c then k :: pos2 c r (k + 2) else pos2 c (b :: r) (k + 1)
  | _, _ => []
/- two like signs become one -/
noncomputable def rep2 (c : Nat) : List Nat → List Nat
  | a :: b :: r => if a = c ∧ b = c then c :: rep2 c r else a :: rep2 c (b :: r)
  | [a] => [a]
  | [] => []
theorem at_two (p r : List Nat) (c : Nat) : (decide (p.length + (S [c, c]).length ≤ (S (p ++ r)).length) && Builtin.Str.subAt (S (p ++ r)) (S [c, c]) p.length) = (match r with | a :: b :: _ => decide (a = c ∧ b = c) | _ => false) := by
  rw [StrLaws.subAt_eq, S_list, S_list, S_length, S_length, List.drop_left]
  match r with
  | [] => simp
  | [a] => simp
  | a :: b :: r =>
    rw [Bool.eq_iff_iff]
    simp
theorem occF_pos2 {c : Nat} : ∀ (l p L : List Nat) (f : Nat), L = p ++ l → f ≤ p.length →
    occF (fun i => decide (i + (S [c, c]).length ≤ (S L).length) && Builtin.Str.subAt (S L) (S [c, c]) i) 2 (List.range' p.length (l.length + 1)) f = pos2 c l p.length
  | [], p, L, f, e, hf => by
    have := at_two p [] c
    rw [← e] at this
    simp only [List.length_nil, Nat.zero_add, List.range'_one]
    unfold occF pos2
    rw [if_neg (fun q => by rw [this] at q; exact Bool.false_ne_true q.2)]
    rfl
  | [a], p, L, f, e, hf => by
    have h1 := at_two p [a] c
    have h2 := at_two (p ++ [a]) [] c
    rw [← e] at h1
    rw [List.length_append, List.length_singleton, List.append_nil, ← e] at h2
    rw [List.length_singleton, List.range'_succ, List.range'_one]
    unfold occF pos2
    rw [if_neg (fun q => by rw [h1] at q; exact Bool.false_ne_true q.2)]
    unfold occF
    rw [if_neg (fun q => by rw [h2] at q; exact Bool.false_ne_true q.2)]
    rfl
  | a :: b :: r, p, L, f, e, hf => by
    have h1 := at_two p (a :: b :: r) c
    rw [← e] at h1
    rw [List.length_cons, List.range'_succ]
    unfold occF pos2
    by_cases hc : a = c ∧ b = c
    · rw [if_pos ⟨hf, by rw [h1]; exact decide_eq_true hc⟩, if_pos hc, List.length_cons, List.range'_succ]
      unfold occF
      rw [if_neg (fun q => by have := q.1; omega)]
      have := occF_pos2 (c := c) r (p ++ [a, b]) L (p.length + 2) (by rw [e]; simp) (by simp)
      rw [List.length_append, List.length_cons, List.length_singleton] at this
      rw [this]
    · rw [if_neg (fun q => hc (by have := q.2; rw [h1] at this; exact of_decide_eq_true this)), if_neg hc]
      have := occF_pos2 (c := c) (b :: r) (p ++ [a]) L f (by rw [e]; simp) (by simp; omega)
      rw [List.length_append, List.length_singleton] at this
      exact this
theorem occ_two (l : List Nat) (c : Nat) : Builtin.Str.occurrences (S l) (S [c, c]) 0 (S l).length ((S l).length + 1) = pos2 c l 0 := by
  rw [occ_is]
  have := occF_pos2 (c := c) l [] l 0 rfl (Nat.le_refl _)
  rw [List.length_nil] at this
  rw [S_length] at this ⊢
  exact this
/- the parts at two like signs -/
noncomputable def cut2 (c : Nat) : List Nat → List Nat → List (List Nat)
  | q, a :: b :: r => if a = c ∧ b = c then q :: cut2 c [] r else cut2 c (q ++ [a]) (b :: r)
  | q, r => [q ++ r]
theorem parts_cut2 {c : Nat} : ∀ (l p q L : List Nat), L = p ++ (q ++ l) → StrLaws.partsFrom (S L) 2 p.length (pos2 c l (p.length + q.length)) = (cut2 c q l).map S
  | [], p, q, L, e => by
    unfold pos2 cut2 StrLaws.partsFrom
    have := S_sub (p := p) (q := q) (r := [])
    rw [List.append_nil] at this e ⊢
    rw [e, S_length, List.length_append, this]; rfl
  | [a], p, q, L, e => by
    unfold pos2 cut2 StrLaws.partsFrom
    have := S_sub (p := p) (q := q ++ [a]) (r := [])
    rw [List.append_nil] at this
    rw [e, S_length, List.length_append, this]; rfl
  | a :: b :: r, p, q, L, e => by
    unfold pos2 cut2
    by_cases h : a = c ∧ b = c
    · rw [if_pos h, if_pos h]
      unfold StrLaws.partsFrom
      rw [List.map_cons]
      have h1 := parts_cut2 (c := c) r (p ++ (q ++ [a, b])) [] L (by rw [e]; simp)
      have e1 : (p ++ (q ++ [a, b])).length = p.length + q.length + 2 := by simp; omega
      rw [e1, List.length_nil, Nat.add_zero] at h1
      rw [h1, e, S_sub]
    · rw [if_neg h, if_neg h]
      have h1 := parts_cut2 (c := c) (b :: r) p (q ++ [a]) L (by rw [e]; simp)
      rw [List.length_append, List.length_singleton, ← Nat.add_assoc] at h1
      exact h1
noncomputable def gl (z : List Nat) : List (List Nat) → List Nat
  | [] => []
  | a :: r => a ++ (r.map (z ++ ·)).flatten
theorem glued_S (z : List Nat) : ∀ (ps : List (List Nat)), Builtin.Str.glued (S z) (ps.map S) = S (gl z ps)
  | [] => rfl
  | a :: r => by
    refine Str.ext' ?_
    show ((r.map S).foldl (fun acc p => acc ++ (S z).cps ++ p.cps) (S a).cps) = _
    suffices ∀ (r : List (List Nat)) (acc : List Nat), ((r.map S).foldl (fun acc p => acc ++ (S z).cps ++ p.cps) acc.toArray) = (acc ++ (r.map (z ++ ·)).flatten).toArray from this r a
    intro r
    induction r with
    | nil => intro acc; simp
    | cons b r ih =>
      intro acc
      have := ih (acc ++ z ++ b)
      simp only [List.map_cons, List.foldl_cons, List.flatten_cons]
      have e : acc.toArray ++ (S z).cps ++ (S b).cps = (acc ++ z ++ b).toArray := by simp [S]
      rw [e, this]
      simp
theorem cut2_ne {c : Nat} : ∀ (l q : List Nat), cut2 c q l ≠ []
  | [], q => by simp [cut2]
  | [a], q => by simp [cut2]
  | a :: b :: r, q => by
    unfold cut2
    by_cases h : a = c ∧ b = c
    · rw [if_pos h]; exact List.cons_ne_nil _ _
    · rw [if_neg h]; exact cut2_ne (b :: r) _
theorem gl_cut2 {c : Nat} : ∀ (l q : List Nat), gl [c] (cut2 c q l) = q ++ rep2 c l
  | [], q => by simp [cut2, gl, rep2]
  | [a], q => by simp [cut2, gl, rep2]
  | a :: b :: r, q => by
    unfold cut2 rep2
    by_cases h : a = c ∧ b = c
    · rw [if_pos h, if_pos h]
      have := gl_cut2 (c := c) r []
      cases hc : cut2 c [] r with
      | nil => exact absurd hc (cut2_ne r [])
      | cons x y =>
        rw [hc] at this
        simp only [gl, List.nil_append] at this ⊢
        rw [List.map_cons, List.flatten_cons, ← this]; simp
    · rw [if_neg h, if_neg h, gl_cut2 (b :: r) (q ++ [a])]
      simp
theorem pos2_nil {c : Nat} : ∀ {l : List Nat} {k : Nat}, pos2 c l k = [] → rep2 c l = l
  | [], _, _ => rfl
  | [a], _, _ => rfl
  | a :: b :: r, k, h => by
    unfold pos2 at h
    unfold rep2
    by_cases hc : a = c ∧ b = c
    · rw [if_pos hc] at h; cases h
    · rw [if_neg hc] at h ⊢
      rw [pos2_nil h]
theorem replace_two {l : List Nat} {c : Nat} : Txt.replace (S l) (S [c, c]) (S [c]) = S (rep2 c l) := by
  unfold Txt.replace
  rw [occ_two]
  have hp : Builtin.Str.partsBetween (S l) (pos2 c l 0) (S [c, c]).length = (cut2 c [] l).map S := by
    rw [StrLaws.partsBetween_eq, S_length]
    have := parts_cut2 (c := c) l [] [] l rfl
    simpa using this
  have hg := glued_S [c] (cut2 c [] l)
  rw [gl_cut2, List.nil_append] at hg
  split
  · rename_i h
    have h1 : pos2 c l 0 = [] := by
      rw [S_length, S_length] at h
      simpa using h
    rw [pos2_nil h1]
  · rw [hp, hg]
theorem rep2_free {c : Nat} {r : List Nat} : ∀ {l : List Nat}, c ∉ l → rep2 c (l ++ c :: r) = l ++ rep2 c (c :: r)
  | [], _ => rfl
  | [a], h => by
    have : rep2 c (a :: c :: r) = if a = c ∧ c = c then c :: rep2 c r else a :: rep2 c (c :: r) := by rw [rep2]
    show rep2 c (a :: c :: r) = _
    rw [this, if_neg (fun q => h (by rw [q.1]; exact .head _))]; rfl
  | a :: b :: l, h => by
    show rep2 c (a :: b :: (l ++ c :: r)) = _
    have ih := rep2_free (c := c) (r := r) (l := b :: l) (fun q => h (.tail _ q))
    rw [List.cons_append] at ih
    have : rep2 c (a :: b :: (l ++ c :: r)) = if a = c ∧ b = c then c :: rep2 c (l ++ c :: r) else a :: rep2 c (b :: (l ++ c :: r)) := by rw [rep2]
    rw [this, if_neg (fun q => h (by rw [q.1]; exact .head _)), ih]; rfl
/- the number's text with one mark for two -/
noncomputable def wr1 (m : Nat) (n : Int) : List Nat := if m = 40 then 40 :: 57 :: 40 :: (dg n ++ [40, 41]) else 40 :: m :: 57 :: m :: (dg n ++ [m, 41])
theorem rep_wr {m : Nat} (hm : Mark m) (n : Int) : rep2 m (wr m n) = wr1 m n := by
  have h1 := hm.le
  have e : rep2 m (dg n ++ [m, 41]) = dg n ++ [m, 41] := by
    rw [rep2_free (dg_free hm n)]
    simp [rep2, show ¬ (41 = m) by omega]
  by_cases h : m = 40
  · subst h
    unfold wr wr1
    rw [if_pos rfl]
    simp [rep2, e]
  · unfold wr wr1
    rw [if_neg h]
    simp [rep2, e, show ¬ (40 = m) by omega, show ¬ (57 = m) by omega]

--needs: 20 43 44 65 70
theorem md70 : True := trivial
/- a reply 229 with something between the brackets -/
noncomputable def sh (mid : List Nat) : List Nat := 50 :: 50 :: 57 :: 32 :: 40 :: (mid ++ [41])
theorem sh_is (mid : List Nat) : sh mid = [50, 50, 57, 32, 40] ++ (mid ++ 41 :: []) := rfl
theorem sh_length (mid : List Nat) : (sh mid).length = mid.length + 6 := by simp [sh]
theorem sh_facts {mid : List Nat} {a b : Nat} (h41 : 41 ∉ mid) (h0 : mid[0]? = some a) (hl : mid[mid.length - 1]? = some b) :
    Txt.slice (S (sh mid)) none (some 3) = Str.ofString "229" ∧ Txt.find (S (sh mid)) (Str.ofString "(") = ((4 : Nat) : Int) ∧ Txt.find3 (S (sh mid)) (Str.ofString ")") (((4 : Nat) : Int) + 1) = ((5 + mid.length : Nat) : Int) ∧
    Txt.item (S (sh mid)) (((4 : Nat) : Int) + 1) = S [a] ∧ Txt.item (S (sh mid)) (((5 + mid.length : Nat) : Int) - 1) = S [b] ∧ Txt.slice (S (sh mid)) (some (((4 : Nat) : Int) + 1)) (some ((5 + mid.length : Nat) : Int)) = S mid := by
  have hpos : 0 < mid.length := (List.getElem?_eq_some_iff.mp h0).1
  refine ⟨?_, ?_, ?_, ?_, ?_, ?_⟩
  · exact (S_slice_to (j := 3) (by simp [sh])).trans rfl
  · exact find_at (pre := [50, 50, 57, 32]) (c := 40) (by decide)
  · exact find3_at (a := [50, 50, 57, 32, 40]) (c := 41) h41
  · refine S_item (i := 5) ?_
    simp only [sh, List.getElem?_cons_succ, List.getElem?_append_left hpos, h0]
  · have e : (((5 + mid.length : Nat) : Int) - 1) = ((mid.length - 1 + 5 : Nat) : Int) := by omega
    rw [e]
    refine S_item ?_
    simp only [sh, List.getElem?_cons_succ]
    rw [List.getElem?_append_left (by omega), hl]
  · have e : (((4 : Nat) : Int) + 1) = ((5 : Nat) : Int) := rfl
    rw [e, S_slice (by omega) (by simp [sh]; omega)]
    have : ((sh mid).take (5 + mid.length)).drop 5 = mid := by
      rw [sh_is, show 5 + mid.length = ([50, 50, 57, 32, 40] ++ mid).length by simp; omega, ← List.append_assoc, List.take_left]
      rfl
    rw [this]
/- the law's replies that are refused -/
noncomputable def replies (m : Nat) (n : Int) : List (Str × List Nat) :=
  [(Str.ofString "code", 50 :: 50 :: 32 :: wr m n), (Str.ofString "code", 51 :: 50 :: 57 :: 32 :: wr m n), (Str.ofString "code", 50 :: 49 :: 57 :: 32 :: wr m n), (Str.ofString "code", 32 :: 50 :: 50 :: 57 :: 32 :: wr m n),
   (Str.ofString "shape", [50, 50, 57, 32, 50, 55, 32, 50, 41]), (Str.ofString "shape", 50 :: 50 :: 57 :: 32 :: 41 :: 40 :: (mid229 m n ++ [m])),
   (Str.ofString "shape", sh (mid229 m n ++ [35])), (Str.ofString "shape", sh (mid229 m n ++ [m])), (Str.ofString "shape", 50 :: 50 :: 57 :: 32 :: wr1 m n)]
theorem ne_three {l : List Nat} {a b c : Nat} (h : [a, b, c] ≠ [50, 50, 57]) : (Txt.slice (S (a :: b :: c :: l)) none (some 3) != Str.ofString "229") = true := by
  rw [show (some 3 : Option Int) = some ((3 : Nat) : Int) from rfl, S_slice_to (by simp), show Str.ofString "229" = S [50, 50, 57] from rfl, bne, S_beq]
  have : ([a, b, c] == [50, 50, 57]) = false := beq_eq_false_iff_ne.mpr h
  show (!([a, b, c] == [50, 50, 57])) = true
  rw [this]; rfl
theorem sp_lt {m : Nat} (hm : Mark m) (n : Int) {l : List Nat} (h : ∀ a ∈ l, a = m ∨ a = 57 ∨ a ∈ dg n) : ∀ a ∈ l, a < 256 := by
  intro a ha
  have h1 := hm.le
  rcases h a ha with h | h | h
  · omega
  · omega
  · have := dg_chars n a h; omega
theorem split_six {m : Nat} (hm : Mark m) (n : Int) : (Txt.split (S (mid229 m n ++ [m])) (S [m])).length = 6 := by
  have h1 := hm.le
  rw [split_is (sp_lt hm n (by simp only [mid229, List.mem_cons, List.mem_append, List.not_mem_nil, or_false]; intro a ha; rcases ha with (h | h | h | h | h | h) | h <;> simp [h])) (by omega) (by simp)]
  have a1 : cut m [] (mid229 m n ++ [m]) = [] :: cut m [] (57 :: m :: m :: (dg n ++ [m, m])) := by simp [mid229, cut]
  have a2 : cut m [] (57 :: m :: m :: (dg n ++ [m, m])) = [57] :: [] :: cut m [] (dg n ++ m :: [m]) := by
    simp [cut, show ¬ (57 = m) by omega]
  rw [a1, a2, cut_at (dg_free hm n)]
  simp [cut]
theorem split_four {m : Nat} (hm : Mark m) (n : Int) : (Txt.split (S (m :: 57 :: m :: (dg n ++ [m]))) (S [m])).length = 4 := by
  have h1 := hm.le
  rw [split_is (sp_lt hm n (by simp only [List.mem_cons, List.mem_append, List.not_mem_nil, or_false]; intro a ha; rcases ha with h | h | h | h | h <;> simp [h])) (by omega) (by simp)]
  have a1 : cut m [] (m :: 57 :: m :: (dg n ++ [m])) = [] :: [57] :: cut m [] (dg n ++ m :: []) := by simp [cut, show ¬ (57 = m) by omega]
  rw [a1, cut_at (dg_free hm n)]
  simp [cut]
theorem no41 {m : Nat} (hm : Mark m) (n : Int) {l : List Nat} (h : ∀ a ∈ l, a = m ∨ a = 57 ∨ a = 35 ∨ a ∈ dg n) : 41 ∉ l := by
  intro ha
  have h1 := hm.le
  rcases h 41 ha with h | h | h | h
  · omega
  · omega
  · omega
  · exact dg_no n (by omega) h
theorem refused_all {w : World} {mean : ExcName → Option Value} {mg mb : Str → Option Value} {m : Nat} {n : Int} (hm : Mark m) (hn : (dg n).length ≤ 600) :
    ∀ p ∈ replies m n, ∀ (tx : Tok) (news : List (Addr × Obj)), DoesT w mean mg mb 6 (.ref 381) [.str (S p.2) tx] [] news (fun v tl => ∃ a t1 t2, v = .ref a ∧ tl = (a, tupOf [.str p.1 t1, .str (S p.2) t2]) :: news) := by
  have h1 := hm.le
  have hw := wr_length m n
  have hmid := mid229_length m n
  unfold replies
  refine List.forall_mem_cons.mpr ⟨?_, List.forall_mem_cons.mpr ⟨?_, List.forall_mem_cons.mpr ⟨?_, List.forall_mem_cons.mpr ⟨?_, List.forall_mem_cons.mpr ⟨?_, List.forall_mem_cons.mpr ⟨?_, List.forall_mem_cons.mpr ⟨?_, List.forall_mem_cons.mpr ⟨?_, List.forall_mem_cons.mpr ⟨?_, List.forall_mem_nil _⟩⟩⟩⟩⟩⟩⟩⟩⟩
  all_goals (intro tx news; dsimp only)
  · exact r_code (by simp [hw]; omega) (ne_three (by decide))
  · exact r_code (by simp [hw]; omega) (ne_three (by decide))
  · exact r_code (by simp [hw]; omega) (ne_three (by decide))
  · exact r_code (by simp [hw]; omega) (ne_three (by decide))
  · exact r_noopen (by decide) (by decide +kernel) (find_none (c := 40) (by decide))
  · have hno : 41 ∉ mid229 m n ++ [m] := no41 hm n (by simp only [mid229, List.mem_cons, List.mem_append, List.not_mem_nil, or_false]; intro a ha; rcases ha with (h | h | h | h | h | h) | h <;> simp [h])
    exact r_noclose (lf := 5) (by simp [hmid]; omega) ((S_slice_to (j := 3) (by simp)).trans rfl) (find_at (pre := [50, 50, 57, 32, 41]) (c := 40) (by decide)) (find3_none (a := [50, 50, 57, 32, 41, 40]) (c := 41) hno)
  · have hno : 41 ∉ mid229 m n ++ [35] := no41 hm n (by simp only [mid229, List.mem_cons, List.mem_append, List.not_mem_nil, or_false]; intro a ha; rcases ha with (h | h | h | h | h | h) | h <;> simp [h])
    obtain ⟨f1, f2, f3, f4, f5, f6⟩ := sh_facts (a := m) (b := 35) hno (by simp [mid229]) (by simp)
    have hl := sh_length (mid229 m n ++ [35])
    rw [List.length_append, List.length_singleton] at hl f3 f5 f6
    exact r_mark (lf := 4) (by omega) f1 f2 f3 ⟨by omega, by omega, by omega⟩ f4 f5 (by have := hm; rcases this with h | h | h | h | h | h <;> omega)
  · have hno : 41 ∉ mid229 m n ++ [m] := no41 hm n (by simp only [mid229, List.mem_cons, List.mem_append, List.not_mem_nil, or_false]; intro a ha; rcases ha with (h | h | h | h | h | h) | h <;> simp [h])
    obtain ⟨f1, f2, f3, f4, f5, f6⟩ := sh_facts (a := m) (b := m) hno (by simp [mid229]) (by simp)
    have hl := sh_length (mid229 m n ++ [m])
    rw [List.length_append, List.length_singleton] at hl f3 f5 f6
    exact r_parts (lf := 4) (n := 6) (by omega) f1 f2 f3 ⟨by omega, by omega⟩ f4 f5 f6 (by simp [hmid]; omega) (split_six hm n) (by omega) (by omega)
  · by_cases h : m = 40
    · subst h
      have e : (50 :: 50 :: 57 :: 32 :: wr1 40 n) = sh (57 :: 40 :: (dg n ++ [40])) := by simp [wr1, sh]
      have hno : 41 ∉ 57 :: 40 :: (dg n ++ [40]) := no41 hm n (by simp only [List.mem_cons, List.mem_append, List.not_mem_nil, or_false]; intro a ha; rcases ha with h | h | h | h <;> simp [h])
      obtain ⟨f1, f2, f3, f4, f5, f6⟩ := sh_facts (a := 57) (b := 40) hno (by simp) (by simp [List.getElem?_cons])
      have hl := sh_length (57 :: 40 :: (dg n ++ [40]))
      have hl2 : (57 :: 40 :: (dg n ++ [40])).length = (dg n).length + 3 := by simp
      rw [hl2] at hl f3 f5 f6
      show DoesT w mean mg mb 6 (.ref 381) [.str (S (50 :: 50 :: 57 :: 32 :: wr1 40 n)) tx] [] news _
      rw [e]
      exact r_mark (lf := 4) (by omega) f1 f2 f3 ⟨by omega, by omega, by omega⟩ f4 f5 (by decide)
    · have e : (50 :: 50 :: 57 :: 32 :: wr1 m n) = sh (m :: 57 :: m :: (dg n ++ [m])) := by simp [wr1, sh, h]
      have hno : 41 ∉ m :: 57 :: m :: (dg n ++ [m]) := no41 hm n (by simp only [List.mem_cons, List.mem_append, List.not_mem_nil, or_false]; intro a ha; rcases ha with h | h | h | h | h <;> simp [h])
      obtain ⟨f1, f2, f3, f4, f5, f6⟩ := sh_facts (a := m) (b := m) hno (by simp) (by simp [List.getElem?_cons])
      have hl := sh_length (m :: 57 :: m :: (dg n ++ [m]))
      have hl2 : (m :: 57 :: m :: (dg n ++ [m])).length = (dg n).length + 4 := by simp
      rw [hl2] at hl f3 f5 f6
      show DoesT w mean mg mb 6 (.ref 381) [.str (S (50 :: 50 :: 57 :: 32 :: wr1 m n)) tx] [] news _
      rw [e]
      exact r_parts (lf := 4) (n := 4) (by omega) f1 f2 f3 ⟨by omega, by omega⟩ f4 f5 f6 (by omega) (split_four hm n) (by omega) (by omega)

--needs: 10 11 20 30 40 43 44 53 56 57 62 63 66 67 68 69 71
theorem md71 : True := trivial
/- as DoesT, with something known of the tokens -/
noncomputable def DoesTk (w : World) (mean : ExcName → Option Value) (mg mb : Str → Option Value) (n : Nat) (f : Value) (vs : List Value) (kw : List (Str × Value)) (news : List (Addr × Obj)) (P : Nat → Prop) (Post : Value → List (Addr × Obj) → Prop) : Prop :=
  ∀ (A₀ A : Around) (env : Env) (outer : List Env) (base h₀ : Heap) (L : Addr) (m : Str → Option Value) (s : Shared) (Q E : Value → Shared → Prop),
    Here w mean mg mb A₀ A env outer base h₀ s.heap L m news → (Mine.x.heap_1_39 w.params).In base → Top Mine.x.view_1_40 theLoose mean mg mb base → KtsDicts (fsOf outer) h₀ → A.depth + n < 900 → A.units + 8 * n < 9000 → P s.toks →
    (∀ v tl h' tk' h₀', TurnOut w mean mg mb A₀ base outer h₀ h₀' L m h' tl → Post v tl → Q v { s with heap := h', toks := tk' }) →
    wpAny (model theProg w) A (call f vs kw) Q E s
theorem DoesTk.intro {w : World} {mean : ExcName → Option Value} {mg mb : Str → Option Value} {n : Nat} {f : Value} {vs : List Value} {kw : List (Str × Value)} {news : List (Addr × Obj)} {P : Nat → Prop} {Post : Value → List (Addr × Obj) → Prop}
    (h : ∀ (A₀ A : Around) (env : Env) (outer : List Env) (base h₀ : Heap) (L : Addr) (m : Str → Option Value) (s : Shared) (Q E : Value → Shared → Prop),
      Here w mean mg mb A₀ (calm A) env outer base h₀ s.heap L m news → (Mine.x.heap_1_39 w.params).In base → Top Mine.x.view_1_40 theLoose mean mg mb base → KtsDicts (fsOf outer) h₀ → (calm A).depth + n < 900 → (calm A).units + 8 * n < 9000 → P s.toks →
      (∀ v tl h' tk' h₀', TurnOut w mean mg mb A₀ base outer h₀ h₀' L m h' tl → Post v tl → Q v { s with heap := h', toks := tk' }) →
      wpAny (model theProg w) (calm A) (call f vs kw) Q E s) : DoesTk w mean mg mb n f vs kw news P Post := by
  intro A₀ A env outer base h₀ L m s Q E H XB TB D hd hu hp hret
  have e := calm_of H.hh
  have := h A₀ A env outer base h₀ L m s Q E (e.symm ▸ H) XB TB D (e.symm ▸ hd) (e.symm ▸ hu) hp hret
  exact e ▸ this
/- a frame with cells, over a ground that may turn -/
@[irreducible] noncomputable def BodyTC (b : Bd) (n : Nat) (f : Addr) (binds : List (Str × Value)) (news : List (Addr × Obj)) (Post : Value → List (Addr × Obj) → Prop) : Prop :=
  BodyTE b n (envOfC (codeAt (bw b) f).2.1 (codeAt (bw b) f).2.2.1 (bL b) f (codeAt (bw b) f).2.2.2) (codeAt (bw b) f).1 (bindL (envOfC (codeAt (bw b) f).2.1 (codeAt (bw b) f).2.2.1 (bL b) f (codeAt (bw b) f).2.2.2).kindOf binds fun _ => none) news Post
theorem BodyTC.start {b : Bd} {n : Nat} {f : Addr} {binds : List (Str × Value)} {news : List (Addr × Obj)} {Post : Value → List (Addr × Obj) → Prop} {name qual : Str} {params : Arguments} {body : List Stmt} {scope : Scope} {dV kV doc pm cdv ct oc : Value} {an od : Option Addr} {osl : Array (Option Value)}
    (ho : (Mine.x.heap_1_39 (bw b).params).lookup f = some ⟨oc, od, .func (fnOf name qual params body scope dV kV doc pm an cdv ct), osl⟩)
    (h : BodyTE b n (envOfC qual scope (bL b) f cdv) body (bindL (envOfC qual scope (bL b) f cdv).kindOf binds fun _ => none) news Post) : BodyTC b n f binds news Post := by
  rw [BodyTC, codeAt_of ho]
  exact h
theorem BodyTC.out {b : Bd} {n : Nat} {f : Addr} {binds : List (Str × Value)} {news : List (Addr × Obj)} {Post : Value → List (Addr × Obj) → Prop} {body : List Stmt} {qual : Str} {scope : Scope} {cdv : Value} (h : BodyTC b n f binds news Post) (e : codeAt (bw b) f = (body, qual, scope, cdv)) :
    BodyTE b n (envOfC qual scope (bL b) f cdv) body (bindL (envOfC qual scope (bL b) f cdv).kindOf binds fun _ => none) news Post := by
  rw [BodyTC, e] at h
  exact h
theorem DoesTk.of_bodyC {w : World} {mean : ExcName → Option Value} {mg mb : Str → Option Value} {n : Nat} {f : Addr} {vs : List Value} {kw : List (Str × Value)} {news : List (Addr × Obj)} {P : Nat → Prop} {Post : Value → List (Addr × Obj) → Prop}
    {name qual : Str} {params : Arguments} {body : List Stmt} {scope : Scope} {dV kV doc pm cdv ct oc : Value} {an od : Option Addr} {osl : Array (Option Value)} {binds : List (Str × Value)}
    (ho : (Mine.x.heap_1_39 w.params).lookup f = some ⟨oc, od, .func (fnOf name qual params body scope dV kV doc pm an cdv ct), osl⟩) (hcd : codeIn (Mine.x.heap_1_39 w.params) cdv qual = true)
    (hbind : ∀ s : Shared, (Mine.x.heap_1_39 w.params).In s.heap → BindsTo s (fnOf name qual params body scope dV kV doc pm an cdv ct) ⟨vs, kw⟩ binds) (hkind : (binds.all fun y => scope.names.lookup y.1 == some .local || scope.names.lookup y.1 == some .cell) = true)
    (hnd : ((cellsFrom 0 scope.names []).map (·.1)).Nodup) (hco : scope.isCoroutine = false) (hgen : scope.isGenerator = false) (hk : scope.kind = .function)
    (h : ∀ (b : Bd) (cells : List (Addr × Obj)), CellsAre (bindC (envOfC qual scope (bL b) f cdv).kindOf binds fun _ => none) (cellsFrom (bL b + 1) scope.names []) cells → (∀ p ∈ news, p.1 < bL b) → (∃ tk, P tk ∧ tk ≤ bK b) →
      bw b = w → bMean b = mean → bMg b = mg → bMb b = mb → BodyTC b n f binds (cells ++ news) Post) : DoesTk w mean mg mb (n + 1) (.ref f) vs kw news P Post := by
  refine DoesTk.intro ?_
  intro A₀ A env outer base h₀ L m s Q E ⟨B, F, X, N, T, hA, hfr, hfk, hh⟩ XB TB DD hd hu htk hret
  refine wpAny_call ?_
  refine code_TC B F X N T XB TB DD hA hfr hfk ho hcd (by simp only [recursionLimit]; omega) (hbind _ (X.keeps F.keep)) hkind hnd ?_ hco hgen hk
  intro g L' h₁ tk cells F' N' Y' B' X' T' D' l1 tkl
  have hb := h (w, mean, mg, mb, calm A, (calm A).deeper (envOfC qual scope L' f cdv), base, env :: outer, g, L', s.gens, s.drawn, s.os,
    (fun fl s' => LeaveT (fsOf (env :: outer)) g (fun v nw s' => ∀ h₀', TurnOut w mean mg mb A₀ base outer h₀ h₀' L m s'.heap nw → Q v s') (match fl with | .ret v => v | _ => .none) s'),
    (fun e s' => wpAny (model theProg w) ((calm A).deeper (envOfC qual scope L' f cdv)) (leaving (envOfC qual scope L' f cdv) e) (fun _ s'' => E e s'') (fun e' s'' => E e' s'') s'), h₁, tk) cells
  replace hb := (hb (by with_unfolding_all exact Y') (by with_unfolding_all exact l1) ⟨_, htk, by with_unfolding_all exact tkl⟩ (by with_unfolding_all rfl) (by with_unfolding_all rfl) (by with_unfolding_all rfl) (by with_unfolding_all rfl)).out (by with_unfolding_all exact codeAt_of ho)
  with_unfolding_all refine hb ⟨B', X', T', frames_in hA, rfl, hk, rfl, by show (calm A).depth + 1 + n < 900; omega, by show (calm A).units + 3 + 8 * n < 9000; omega⟩ XB TB D' F' N' PassesOwn.leaving (fun _ => PassesOwnAt.leaving) ?_
  intro v nw h' k' m' g' L'' F₂ N₂ T₂ hp
  with_unfolding_all show LeaveT (fsOf (env :: outer)) g (fun v nw s' => ∀ h₀', TurnOut w mean mg mb A₀ base outer h₀ h₀' L m s'.heap nw → Q v s') v ⟨h', s.gens, s.drawn, k', s.os⟩
  with_unfolding_all exact ⟨g', L'', m', nw, T₂, F₂, N₂, fun h₀' O => hret _ _ _ _ _ O hp⟩
/- a bound for the tokens -/
structure TokIs (n tk : Nat) : Prop where
  le : n ≤ tk
section
variable {w : World} {A : Around} {s : Shared} {h₀ : Heap} {L : Addr} {m : Str → Option Value} {env : Env} {fs : List Addr}
theorem rest_gen {elt : Expr} {a b : Str} {scope : Scope} {cl : List (Str × Addr)} {Q : Value → Shared → Prop} (P : List Value → List Value → List (Addr × Obj) → Prop)
    (hnil : ∀ ys led, P [] ys led → PairRestT w A fs h₀ L m env elt a b scope cl s Q [] ys led)
    (hcons : ∀ v r ys led, P (v :: r) ys led → ∃ t x y, v = .ref t ∧ (t, tupOf [x, y]) ∈ led ∧ ∀ g I oI oC C D m₂ h tk (E' : Value → Shared → Prop), oI.cls = .type "list_iterator" → LCg.NsObj oC m₂ → m₂ a = some x → m₂ b = some y → KtsTurn fs h₀ g → Fr g L h m → News g L h ((I, oI) :: (C, oC) :: (D, LCg.lst ys) :: led) →
      (∀ p ∈ led, p.1 ≠ I ∧ p.1 ≠ C ∧ p.1 ≠ D) →
      wpAny (model theProg w) A (eval elt (compEnvC scope cl C env)) (fun z => PairEndT fs h₀ L m s h led [(I, oI), (C, oC), (D, LCg.lst ys)] (P r (ys ++ [z]))) E' { s with heap := h, toks := tk }) :
    ∀ xs ys led, P xs ys led → PairRestT w A fs h₀ L m env elt a b scope cl s Q xs ys led
  | [], ys, led, hp => hnil ys led hp
  | v :: r, ys, led, hp => by
    obtain ⟨t, x, y, e, hm, H⟩ := hcons v r ys led hp
    refine ⟨t, x, y, e, hm, fun g I oI oC C D m₂ h tk E' h0 h1 h2 h3 h4 h5 h6 h7 => wpAny_mono (H g I oI oC C D m₂ h tk E' h0 h1 h2 h3 h4 h5 h6 h7) (fun z s₄ h8 => ?_) fun _ _ e => e⟩
    obtain ⟨g', h', tk', led', e1, e2, e3, e4, e5, e6, r'⟩ := h8
    exact ⟨g', h', tk', led', e1, e2, e3, e4, e5, e6, rest_gen P hnil hcons r (ys ++ [z]) led' r'⟩
end
/- the tries laid so far: each a pair of the ledger -/
inductive TriesAre (T : List (Addr × Obj)) : List Value → List (Str × List Nat) → Prop
  | nil : TriesAre T [] []
  | cons {a : Addr} {t1 t2 : Tok} {x : Str} {l : List Nat} {vs : List Value} {ps : List (Str × List Nat)} (hm : (a, tupOf [.str x t1, .str (S l) t2]) ∈ T) (r : TriesAre T vs ps) : TriesAre T (.ref a :: vs) ((x, l) :: ps)
theorem TriesAre.mono {T T' : List (Addr × Obj)} (h : ∀ p ∈ T, p ∈ T') {vs : List Value} {ps : List (Str × List Nat)} (t : TriesAre T vs ps) : TriesAre T' vs ps := by
  induction t with
  | nil => exact .nil
  | cons hm r ih => exact .cons (h _ hm) ih
theorem TriesAre.app {T : List (Addr × Obj)} {vs vs' : List Value} {ps ps' : List (Str × List Nat)} (t : TriesAre T vs ps) (t' : TriesAre T vs' ps') : TriesAre T (vs ++ vs') (ps ++ ps') := by
  induction t with
  | nil => exact t'
  | cons hm r ih => exact .cons hm ih
theorem TriesAre.len {T : List (Addr × Obj)} {vs : List Value} {ps : List (Str × List Nat)} (t : TriesAre T vs ps) : vs.length = ps.length := by
  induction t with
  | nil => rfl
  | cons hm r ih => simp [ih]
theorem TriesAre.inv {T : List (Addr × Obj)} {v : Value} {r : List Value} {ps : List (Str × List Nat)} (t : TriesAre T (v :: r) ps) : ∃ a t1 t2 x l ps', v = .ref a ∧ ps = (x, l) :: ps' ∧ (a, tupOf [.str x t1, .str (S l) t2]) ∈ T ∧ TriesAre T r ps' := by
  cases t with
  | cons hm r => exact ⟨_, _, _, _, _, _, rfl, rfl, hm, r⟩
theorem TriesAre.nil_inv {T : List (Addr × Obj)} {ps : List (Str × List Nat)} (t : TriesAre T [] ps) : ps = [] := by
  cases t; rfl
noncomputable def triesD (ps : List (Str × List Nat)) : List Dat := ps.map fun p => Dat.tuple [Dat.str p.1, Dat.str (S p.2)]
theorem TriesAre.dat {T : List (Addr × Obj)} {vs : List Value} {ps : List (Str × List Nat)} (t : TriesAre T vs ps) : DatAll T vs (triesD ps) := by
  induction t with
  | nil => exact .nil
  | cons hm r ih => exact .cons (.tuple hm (.cons (.str _ _) (.cons (.str _ _) .nil))) ih
theorem strok_S {l : List Nat} (h : ∀ c ∈ l, c < 256) : PyData.strOk (S l) = true := by
  unfold PyData.strOk
  simp only [S]
  rw [List.all_toArray, List.all_eq_true]
  intro c hc
  have := h c hc
  simp; omega
theorem replies_ok {m : Nat} (hm : Mark m) (n : Int) : ∀ p ∈ replies m n, PyData.strOk p.1 = true ∧ ∀ c ∈ p.2, c < 256 := by
  have h1 := hm.le
  have hd : ∀ c ∈ dg n, c < 256 := fun c hc => by have := dg_chars n c hc; omega
  intro p hp
  simp only [replies, List.mem_cons, List.not_mem_nil, or_false] at hp
  rcases hp with rfl | rfl | rfl | rfl | rfl | rfl | rfl | rfl | rfl
  all_goals
    dsimp only
    refine ⟨by decide +kernel, ?_⟩
    intro c hc
    by_cases hcd : c ∈ dg n
    · exact hd c hcd
    (try unfold wr1 at hc)
    (try split at hc)
    all_goals
      simp [wr, sh, mid229, hcd] at hc
      omega
/- a statement's end, the tries being laid -/
noncomputable def EndTries (g : Heap) (L : Addr) (c1 : Addr × Obj) (news : List (Addr × Obj)) (m : Nat) (tm : Tok) (ps : List (Str × List Nat)) (s₀ : Shared) (f : Flow) (s' : Shared) : Prop :=
  f = .next ∧ ∃ h' tk' m' D vs k T, s' = { s₀ with heap := h', toks := tk' } ∧ Fr g L h' m' ∧ m' (Str.ofString "tries") = some (.ref D) ∧ m' (Str.ofString "mark") = some (.str (S [m]) tm) ∧
    News g L h' ((D, listOf (List.toArray vs) k) :: c1 :: T) ∧ TriesAre T vs ps ∧ @Ne Nat c1.1 D ∧ (∀ p ∈ T, p.1 ≠ D) ∧ (∀ p ∈ news, p ∈ T)
theorem EndTries.intro {g h' : Heap} {L D : Addr} {c1 : Addr × Obj} {news : List (Addr × Obj)} {m : Nat} {tm : Tok} {ps : List (Str × List Nat)} {s₀ : Shared} {tk' : Nat} {m' : Str → Option Value} {vs : List Value} {k : Nat} {pre post : List (Addr × Obj)}
    (F : Fr g L h' m') (N : News g L h' (pre ++ (D, listOf (List.toArray vs) k) :: post)) (h1 : m' (Str.ofString "tries") = some (.ref D)) (h2 : m' (Str.ofString "mark") = some (.str (S [m]) tm)) (ht : TriesAre (pre ++ post) vs ps)
    (hc : c1 ∈ pre ++ post) (n1 : ∀ p ∈ pre, p.1 ≠ D) (n2 : ∀ p ∈ post, p.1 ≠ D) (n3 : ∀ p ∈ news, p ∈ pre ++ post) : EndTries g L c1 news m tm ps s₀ .next { s₀ with heap := h', toks := tk' } := by
  have all : ∀ p ∈ pre ++ post, p.1 ≠ D := fun p hp => (List.mem_append.mp hp).elim (n1 p) (n2 p)
  refine ⟨rfl, h', tk', m', D, vs, k, pre ++ post, rfl, F, h1, h2, fun p hp => ?_, ht, all _ hc, all, n3⟩
  have big : ∀ p ∈ pre ++ post, p ∈ pre ++ (D, listOf (List.toArray vs) k) :: post := fun p hp => (List.mem_append.mp hp).elim (fun h => List.mem_append_left _ h) fun h => List.mem_append_right _ (.tail _ h)
  rcases List.mem_cons.mp hp with rfl | hp
  · exact N _ (List.mem_append_right _ (.head _))
  rcases List.mem_cons.mp hp with rfl | hp
  · exact N _ (big _ hc)
  · exact N _ (big _ hp)
theorem cut_tries {w : World} {A : Around} {E : Value → Shared → Prop} {s : Shared} {g : Heap} {L : Addr} {c1 : Addr × Obj} {news : List (Addr × Obj)} {m : Nat} {tm : Tok} (ps : List (Str × List Nat)) {n : Nat} {t : Sem Flow} {Q : Flow → Shared → Prop} {mm : Str → Option Value} {led : List (Addr × Obj)} (_F : Fr g L s.heap mm) (_N : News g L s.heap led) (_hc : c1 ∈ led) (hn : TokIs n s.toks)
    (h1 : wpAny (model theProg w) A t (EndTries g L c1 news m tm ps s) E s)
    (h2 : ∀ h' tk' m' D vs k T, TokIs n tk' → Fr g L h' m' → m' (Str.ofString "tries") = some (.ref D) → m' (Str.ofString "mark") = some (.str (S [m]) tm) → News g L h' ((D, listOf (List.toArray vs) k) :: c1 :: T) → TriesAre T vs ps →
      @Ne Nat c1.1 D → (∀ p ∈ T, p.1 ≠ D) → (∀ p ∈ news, p ∈ T) → Q .next { s with heap := h', toks := tk' }) : wpAny (model theProg w) A t Q E s := by
  refine wpAny_mono (wpAny_toks_of hn.le h1) ?_ fun _ _ h => h.2
  rintro f s' ⟨htk, rfl, h', tk', m', D, vs, k, T, rfl, F, a, b, N, H, c, d, e⟩
  exact h2 h' tk' m' D vs k T ⟨htk⟩ F a b N H c d e
theorem wr_most (m : Nat) (n : Int) : Txt.slice (S (wr m n)) none (some (-1)) = S (40 :: mid229 m n) := by
  have : wr m n = (40 :: mid229 m n) ++ [41] := by simp [wr, mid229]
  rw [this, S_slice_most]
theorem off1_all {D : Addr} : ∀ {l : List (Addr × Obj)}, LCg.Off1 D l → ∀ p ∈ l, p.1 ≠ D
  | [], _, _, h => nomatch h
  | q :: r, ⟨a, b⟩, p, h => by
    rcases List.mem_cons.mp h with rfl | h
    · exact a
    · exact off1_all b p h
noncomputable abbrev ps1 (m : Nat) (n : Int) : List (Str × List Nat) := [(Str.ofString "code", 50 :: 50 :: 32 :: wr m n), (Str.ofString "code", 51 :: 50 :: 57 :: 32 :: wr m n), (Str.ofString "code", 50 :: 49 :: 57 :: 32 :: wr m n), (Str.ofString "code", 32 :: 50 :: 50 :: 57 :: 32 :: wr m n)]
noncomputable abbrev ps2 (m : Nat) (n : Int) : List (Str × List Nat) := [(Str.ofString "shape", [50, 50, 57, 32, 50, 55, 32, 50, 41]), (Str.ofString "shape", 50 :: 50 :: 57 :: 32 :: 41 :: 40 :: (mid229 m n ++ [m]))]
noncomputable abbrev ps3 (m : Nat) (n : Int) : List (Str × List Nat) := [(Str.ofString "shape", sh (mid229 m n ++ [35])), (Str.ofString "shape", sh (mid229 m n ++ [m]))]
noncomputable abbrev ps4 (m : Nat) (n : Int) : List (Str × List Nat) := [(Str.ofString "shape", 50 :: 50 :: 57 :: 32 :: wr1 m n)]
theorem cat_h (l : List Nat) : S l ++ Str.ofString "#" = S (l ++ [35]) := by rw [show Str.ofString "#" = S [35] from rfl, S_app]
theorem cat_e (l : List Nat) : S l ++ Str.ofString ")" = S (l ++ [41]) := by rw [show Str.ofString ")" = S [41] from rfl, S_app]
theorem wr1_le (m : Nat) (n : Int) : (wr1 m n).length ≤ (dg n).length + 7 := by
  unfold wr1
  split <;> simp
theorem add_marks {w : World} {A : Around} {E : Value → Shared → Prop} {s : Shared} {m : Nat} {t u : Tok} {Q : Value → Shared → Prop}
    (h : Q (.str (S [m, m]) s.toks) { s with toks := s.toks + 1 }) : wpAny (model theProg w) A (binaryOp .Add (.str (S [m]) t) (.str (S [m]) u)) Q E s := by
  refine P.add_str ?_
  rw [if_neg (by simp [S_length]), if_neg (by simp [S_length]), S_app]
  exact ⟨by rw [S_length]; exact Nat.le_of_ble_eq_true rfl, h⟩
theorem rep_marks {w : World} {A : Around} {E : Value → Shared → Prop} {s : Shared} {m : Nat} {n : Int} {t u v : Tok} {Q : Value → Shared → Prop} (hm : Mark m) (hn : (dg n).length ≤ 600) (hv : v ≠ 0) (hu : TokIs (v + 1) u)
    (h : ∀ t' k, Q (.str (S (wr1 m n)) t') { s with toks := k }) : wpAny (model theProg w) A (call (.builtin "str.replace") [.str (S (wr m n)) t, .str (S [m, m]) u, .str (S [m]) v]) Q E s := by
  have hu' : @LE.le Nat _ (v + 1) u := hu.le
  refine SC.replaceW ?_ hv ?_ ?_ ?_ ?_ ?_
  · show @Ne Nat _ _; omega
  · show @Ne Nat _ _; omega
  · rw [S_beq]; simp
  · rw [S_length, wr_length]; omega
  · rw [S_length]; simp
  · intro t' k
    rw [replace_two, rep_wr hm]
    exact h t' k
theorem cat_lit {x : Str} {l r : List Nat} (h : x = S l) : x ++ S r = S (l ++ r) := by rw [h, S_app]
theorem L1 : (Str.ofString "22 ").length = 3 ∧ (Str.ofString "329 ").length = 4 ∧ (Str.ofString "219 ").length = 4 ∧ (Str.ofString " 229 ").length = 5 ∧ (Str.ofString "229 ").length = 4 ∧ (Str.ofString "229 )").length = 5 ∧ (Str.ofString "#").length = 1 ∧ (Str.ofString ")").length = 1 := ⟨rfl, rfl, rfl, rfl, rfl, rfl, rfl, rfl⟩
section
noncomputable section
theorem md72 : True := trivial
noncomputable def PxRf (bb : Bd) (m : Nat) (n : Int) (tx : Tok) (tm : Tok) (news : List (Addr × Obj)) (o1 : Obj) : Prop :=
  Mark m → (dg n).length ≤ 600 → tm ≠ 0 → tm < bK bb → o1.data = .cell (some (.str (S (wr m n)) tx)) → (∀ p ∈ news, p.1 < bL bb) →
  BodyTC bb 8 386 [("text", .str (S (wr m n)) tx), ("mark", .str (S [m]) tm)] ((bL bb + 1, o1) :: news) (fun v tl => v = .bool true ∧ tl = news)
theorem neRf : Nonempty (Bd × Nat × Int × Tok × Tok × (List (Addr × Obj)) × Obj) := bd_ne.elim fun bb => ⟨(bb, 0, 0, 0, 0, [], default)⟩
@[irreducible] noncomputable def DRf : Bd × Nat × Int × Tok × Tok × (List (Addr × Obj)) × Obj := @Classical.epsilon _ neRf fun d => ¬ PxRf d.1 d.2.1 d.2.2.1 d.2.2.2.1 d.2.2.2.2.1 d.2.2.2.2.2.1 d.2.2.2.2.2.2
namespace VRf
@[irreducible] noncomputable def bb : Bd := DRf.1
@[irreducible] noncomputable def m : Nat := DRf.2.1
@[irreducible] noncomputable def n : Int := DRf.2.2.1
@[irreducible] noncomputable def tx : Tok := DRf.2.2.2.1
@[irreducible] noncomputable def tm : Tok := DRf.2.2.2.2.1
@[irreducible] noncomputable def news : List (Addr × Obj) := DRf.2.2.2.2.2.1
@[irreducible] noncomputable def o1 : Obj := DRf.2.2.2.2.2.2
end VRf
end
theorem epRf (h : PxRf VRf.bb VRf.m VRf.n VRf.tx VRf.tm VRf.news VRf.o1) (bb : Bd) (m : Nat) (n : Int) (tx : Tok) (tm : Tok) (news : List (Addr × Obj)) (o1 : Obj) : PxRf bb m n tx tm news o1 := eps_at (P := fun d : Bd × Nat × Int × Tok × Tok × (List (Addr × Obj)) × Obj => PxRf d.1 d.2.1 d.2.2.1 d.2.2.2.1 d.2.2.2.2.1 d.2.2.2.2.2.1 d.2.2.2.2.2.2) (ne := neRf) (by with_unfolding_all exact h) (bb, m, n, tx, tm, news, o1)
namespace VRf
open Classical in
theorem wRf : PxRf bb m n tx tm news o1 := by
  intro hm hn htm htk0 d1 l1
  refine BodyTC.start (by k_is) ?_
  intro St XB TB DD F N hPO hPA hret
  obtain ⟨B, X, T, hA, _, _, hh, hd, hu⟩ := id St
  simp only [depth_deeper, units_deeper] at hd hu
  replace l1 := allLt_of l1
  have l2 := allLt_up l1
  have l3 := allLt_up l2
  have l4 := allLt_up l3
  (try simp only [AllLt, and_true] at l1)
  have htk1 : TokIs (tm + 1) (bK bb) := ⟨htk0⟩
  have hw := wr_length m n
  have hw1 := wr1_le m n
  rename Fr _ _ _ _ => FC
  rename Obj.data _ = _ => dC
  obtain ⟨m2, F2, q1⟩ : ∃ m2, Fr _ _ _ m2 ∧ m2 (Str.ofString "mark") = some (.str (S [m]) tm) := ⟨_, FC, rfl⟩
  replace F2 := fr_as (ps := [(Str.ofString "mark", _)]) F2 ⟨q1, trivial⟩
  simp only [kstB] at F2
  have dT : _ = Data.cell (some (.str (S (wr m n)) tx)) := dC
  clear FC dC q1
  k_with "my text" => (wtm_at "?71-72"; first | (rw [wr_most]))
  k_with "my cat" => (wtm_at "?71-72"; first | exact cat_lit (l := [50, 50, 32]) rfl | exact cat_lit (l := [51, 50, 57, 32]) rfl | exact cat_lit (l := [50, 49, 57, 32]) rfl | exact cat_lit (l := [32, 50, 50, 57, 32]) rfl | exact cat_lit (l := [50, 50, 57, 32, 41]) rfl | exact cat_lit (l := [50, 50, 57, 32]) rfl | exact cat_h _ | exact cat_e _ | exact S_app _ _)
  rename News _ _ _ _ => NC
  k_steps
  refine ⟨wpAny_execs_cons (cut_tries (ps1 m n) (news := news) (m := m) (tm := tm) F2 NC (.head _) htk1 ?_ ?_)⟩
  · k_steps
    rename News _ _ _ _ => N9
    refine EndTries.intro (pre := []) (by k_asm) N9 rfl rfl (.cons (.tail _ (.tail _ (.tail _ (.head _)))) (.cons (.tail _ (.tail _ (.head _))) (.cons (.tail _ (.head _)) (.cons (.head _) .nil)))) (.tail _ (.tail _ (.tail _ (.tail _ (.tail _ (.head _)))))) allNe_nil ?_ fun p hp => .tail _ (.tail _ (.tail _ (.tail _ (.tail _ (.tail _ hp)))))
    k_all
  clear F2 NC htk1
  intro h₂ tk₂ m₂ D vs k T htk2 F₂ q1 q2 N₂ ht n1 n2 n3
  replace F₂ := fr_as (ps := [(Str.ofString "tries", _), (Str.ofString "mark", _)]) F₂ ⟨q1, q2, trivial⟩
  simp only [kstB] at F₂
  clear q1 q2
  have hvl := ht.len
  simp only [List.length_cons, List.length_nil] at hvl
  k_steps
  refine ⟨wpAny_execs_cons (cut_tries (ps1 m n ++ ps2 m n) (news := news) (m := m) (tm := tm) F₂ N₂ (.tail _ (.head _)) htk2 ?_ ?_)⟩
  · k_steps
    rename News _ _ _ _ => N9
    refine EndTries.intro (pre := [_, _, _]) (by k_asm) N9 rfl rfl (.app (.mono (fun p hp => .tail _ (.tail _ (.tail _ (.tail _ hp)))) ht) (.cons (.tail _ (.tail _ (.head _))) (.cons (.tail _ (.head _)) .nil))) (.tail _ (.tail _ (.tail _ (.head _)))) ?_ ?_ fun p hp => .tail _ (.tail _ (.tail _ (.tail _ (n3 _ hp))))
    · k_all
    · k_all
  clear F₂ N₂ htk2 ht n1 n2 n3 hvl
  intro h₂ tk₂ m₂ D vs k T htk2 F₂ q1 q2 N₂ ht n1 n2 n3
  replace F₂ := fr_as (ps := [(Str.ofString "tries", _), (Str.ofString "mark", _)]) F₂ ⟨q1, q2, trivial⟩
  simp only [kstB] at F₂
  clear q1 q2
  have hvl := ht.len
  simp only [List.length_cons, List.length_nil, List.length_append] at hvl
  k_steps
  refine ⟨wpAny_execs_cons (cut_tries (ps1 m n ++ ps2 m n ++ ps3 m n) (news := news) (m := m) (tm := tm) F₂ N₂ (.tail _ (.head _)) htk2 ?_ ?_)⟩
  · k_steps
    rename News _ _ _ _ => N9
    refine EndTries.intro (pre := [_, _, _, _]) (by k_asm) N9 rfl rfl (.app (.mono (fun p hp => .tail _ (.tail _ (.tail _ (.tail _ (.tail _ hp))))) ht) (.cons (.tail _ (.tail _ (.head _))) (.cons (.tail _ (.head _)) .nil))) (.tail _ (.tail _ (.tail _ (.tail _ (.head _))))) ?_ ?_ fun p hp => .tail _ (.tail _ (.tail _ (.tail _ (.tail _ (n3 _ hp)))))
    · k_all
    · k_all
  clear F₂ N₂ htk2 ht n1 n2 n3 hvl
  intro h₂ tk₂ m₂ D vs k T htk2 F₂ q1 q2 N₂ ht n1 n2 n3
  replace F₂ := fr_as (ps := [(Str.ofString "tries", _), (Str.ofString "mark", _)]) F₂ ⟨q1, q2, trivial⟩
  simp only [kstB] at F₂
  clear q1 q2
  have hvl := ht.len
  simp only [List.length_cons, List.length_nil, List.length_append] at hvl
  k_steps
  refine ⟨wpAny_execs_cons (cut_tries (ps1 m n ++ ps2 m n ++ ps3 m n ++ ps4 m n) (news := news) (m := m) (tm := tm) F₂ N₂ (.tail _ (.head _)) htk2 ?_ ?_)⟩
  · k_steps
    rename News _ _ _ _ => N9
    rw [List.push_toArray] at N9
    refine EndTries.intro (pre := [_]) (by k_asm) N9 rfl rfl (.app (.mono (fun p hp => .tail _ (.tail _ hp)) ht) (.cons (.head _) .nil)) (.tail _ (.head _)) ?_ ?_ fun p hp => .tail _ (.tail _ (n3 _ hp))
    · k_all
    · k_all
  clear F₂ N₂ htk2 ht n1 n2 n3 hvl
  intro h₂ tk₂ m₂ D vs k T htk2 F₂ q1 q2 N₂ ht n1 n2 n3
  replace F₂ := fr_as (ps := [(Str.ofString "tries", _), (Str.ofString "mark", _)]) F₂ ⟨q1, q2, trivial⟩
  simp only [kstB] at F₂
  clear q1 q2
  have hvl := ht.len
  simp only [List.length_cons, List.length_nil, List.length_append] at hvl
  k_steps
  refine ⟨wpAny_execs_cons ?_⟩
  k_steps
  refine ⟨?_⟩
  rename Fr _ _ _ _ => FC
  rename News _ _ _ _ => NC
  rename Below _ _ _ _ => BC
  rename KtsDicts _ (_ : Heap) => DC
  refine pair_compT (fs := fsOf (bOuter bb)) FC rfl (by with_unfolding_all rfl) (by decide) (by rfl) (by decide) (by rfl) (by rfl) (by decide) ?_
  k_steps
  refine PairSrcT.intro FC NC (.head _) (by omega) ?_
  refine rest_gen (fun r ys led => ∃ ps qs, TriesAre led r ps ∧ TriesAre led ys qs ∧ qs ++ ps = replies m n ∧ (D, listOf (List.toArray vs) k) ∈ led ∧ ∀ p ∈ T, p ∈ led) ?_ ?_ _ _ _ ⟨replies m n, [], .mono (fun p hp => .tail _ (.tail _ hp)) ht, .nil, rfl, .head _, fun p hp => .tail _ (.tail _ hp)⟩
  · rintro ys led ⟨ps, qs, hps, hqs, hall, hD, hT⟩
    refine PairRestT.nil ?_
    intro g' D' h' tk' T' F' N' off
    k_steps
    refine ⟨?_⟩
    obtain rfl := hps.nil_inv
    rw [List.append_nil] at hall
    subst hall
    have ok : ∀ d ∈ triesD (replies m n), kqdOk 8 d = true := by
      intro d hd'
      obtain ⟨p, hp, rfl⟩ := List.mem_map.mp hd'
      obtain ⟨o1, o2⟩ := replies_ok hm n p hp
      have o3 := strok_S o2
      show ([Dat.str p.1, Dat.str (S p.2)].all (kqdOk 7)) = true
      simp [kqdOk, o1, o3]
    refine kqd_eq (xs := ys) (ys := vs) (es := triesD (replies m n)) N' (.head _) rfl rfl hqs.dat (fun _ hp => .tail _ hp) (.tail _ hD) rfl rfl ht.dat (fun p hp => .tail _ (hT p hp)) ok ok (by k_extra "my cline") ?_
    rw [decide_eq_true rfl]
    k_steps
    refine' hret _ _ _ _ _ _ _ F' (News.sub N' fun p hp => .tail _ (hT p (n3 p hp))) T' ⟨rfl, rfl⟩
  · rintro v r ys led ⟨ps, qs, hps, hqs, hall, hD, hT⟩
    obtain ⟨a, t1, t2, x, l, ps', rfl, rfl, hm', hr⟩ := hps.inv
    refine ⟨a, _, _, rfl, hm', ?_⟩
    clear FC NC
    intro g' I oI oC C D' m₂ h' tk' E' hoI hC ha hb T' F' N' off
    have BT := below_turn BC T'
    have XT := XB.keeps BT.stays
    have TTp := TB.keeps BT.stays
    have DT := DC.turn T'
    k_steps
    refine ⟨?_⟩
    have hmem : (x, l) ∈ replies m n := by rw [← hall]; exact List.mem_append_right _ (.head _)
    refine refused_all hm hn (x, l) hmem t2 _ _ _ _ _ _ _ _ _ _ _ _ ⟨BT, F', XT, N', TTp, hA, rfl, rfl, rfl⟩ XB TB DT (by k_extra "my room") (by k_extra "my room") ?_
    intro v' tl' h'' tk'' h₀' O hP
    obtain ⟨a', t1', t2', rfl, rfl⟩ := hP
    refine PairEndT.intro (led' := (a', tupOf [.str x t1', .str (S l) t2']) :: led) O.F (News.sub O.N ?_) (T'.trans O.turn) (fun p hp => .tail _ hp) ?_ ⟨ps', qs ++ [(x, l)], .mono (fun p hp => .tail _ hp) hr, .app (.mono (fun p hp => .tail _ hp) hqs) (.cons (.head _) .nil), by rw [List.append_assoc]; exact hall, .tail _ hD, fun p hp => .tail _ (hT p hp)⟩
    · intro p hp
      simp only [List.cons_append, List.nil_append, List.mem_cons] at hp ⊢
      rcases hp with h | h | h | h | h <;> simp [h]
    · intro p hp q hq
      rcases List.mem_cons.mp hp with rfl | hp
      · simp only [List.mem_cons, List.not_mem_nil, or_false] at hq
        rcases hq with rfl | rfl | rfl
        · exact tup_ne O.N (.head _) (.tail _ (.head _)) (iter_no_tup hoI)
        · refine tup_ne O.N (.head _) (.tail _ (.tail _ (.head _))) fun vs e => ?_
          obtain ⟨es, ep, hes, -⟩ := hC
          rw [e] at hes; cases hes
        · exact tup_ne O.N (.head _) (.tail _ (.tail _ (.tail _ (.head _)))) list_no_tup
      · have := off p hp
        simp only [List.mem_cons, List.not_mem_nil, or_false] at hq
        rcases hq with rfl | rfl | rfl
        · exact this.1
        · exact this.2.1
        · exact this.2.2
end VRf
theorem t_refusals {w : World} {mean : ExcName → Option Value} {mg mb : Str → Option Value} {m : Nat} {n : Int} {tx tm : Tok} {news : List (Addr × Obj)} (hm : Mark m) (hn : (dg n).length ≤ 600) (htm : tm ≠ 0) :
    DoesTk w mean mg mb 9 (.ref 386) [.str (S (wr m n)) tx, .str (S [m]) tm] [] news (fun tk => tm < tk) (fun v tl => v = .bool true ∧ tl = news) := by
  refine DoesTk.of_bodyC (n := 8) (binds := [("text", .str (S (wr m n)) tx), ("mark", .str (S [m]) tm)]) (by k_is) (by k_is) (fun s _ => BindsTo.of_eq rfl) (by rfl) (by decide +kernel) rfl rfl rfl ?_
  intro bb cells Y l1 htk e1 e2 e3 e4
  obtain ⟨o1, rfl, d1⟩ := CellsAre.one Y
  obtain ⟨tk0, h1, h2⟩ := htk
  exact epRf VRf.wRf bb m n tx tm news o1 hm hn htm (Nat.lt_of_lt_of_le h1 h2) d1 l1
end

--needs: 10 24 30 40
section
variable {w : World} {A : Around} {E : Value → Shared → Prop} {s : Shared} {h₀ : Heap} {L : Addr} {m : Str → Option Value} {env : Env} {src : Addr × Obj}
theorem md73 : True := trivial
/- an element's end: the ledger may be another, but the list that is walked stands in it -/
noncomputable def NameEnd (h₀ : Heap) (L : Addr) (m : Str → Option Value) (s : Shared) (src : Addr × Obj) (own : List (Addr × Obj)) (R : List (Addr × Obj) → Prop) (s₄ : Shared) : Prop :=
  ∃ h' tk' led', s₄ = { s with heap := h', toks := tk' } ∧ Fr h₀ L h' m ∧ News h₀ L h' (own ++ led') ∧ src ∈ led' ∧ (∀ p ∈ led', ∀ q ∈ own, p.1 ≠ q.1) ∧ R led'
/- the turns of a comprehension whose result is given a name, its ledger growing -/
noncomputable def NameRest (w : World) (A : Around) (h₀ : Heap) (L : Addr) (m : Str → Option Value) (env : Env) (elt : Expr) (x y : Str) (scope : Scope) (cl : List (Str × Addr)) (s : Shared) (src : Addr × Obj) (Q : Flow → Shared → Prop) : List Value → List Value → List (Addr × Obj) → Prop
  | [], ys, led => ∀ D h tk, Fr h₀ L h (fun z => if z = y then some (.ref D) else m z) → News h₀ L h ((D, LCg.lst ys) :: led) → (∀ p ∈ led, p.1 ≠ D) → Q .next { s with heap := h, toks := tk }
  | v :: r, ys, led => ∀ I oI oC C D m₂ h tk (E' : Value → Shared → Prop), oI.cls = .type "list_iterator" → LCg.NsObj oC m₂ → m₂ x = some v → Fr h₀ L h m → News h₀ L h ((I, oI) :: (C, oC) :: (D, LCg.lst ys) :: led) →
      (∀ p ∈ led, p.1 ≠ I ∧ p.1 ≠ C ∧ p.1 ≠ D) →
      wpAny (model theProg w) A (eval elt (compEnvC scope cl C env)) (fun z => NameEnd h₀ L m s src [(I, oI), (C, oC), (D, LCg.lst ys)] (NameRest w A h₀ L m env elt x y scope cl s src Q r (ys ++ [z]))) E' { s with heap := h, toks := tk }
theorem NameEnd.intro {h' : Heap} {tk : Nat} {led' own : List (Addr × Obj)} {R : List (Addr × Obj) → Prop} (F : Fr h₀ L h' m) (N : News h₀ L h' (own ++ led')) (hs : src ∈ led') (ha : ∀ p ∈ led', ∀ q ∈ own, p.1 ≠ q.1) (r : R led') :
    NameEnd h₀ L m s src own R { s with heap := h', toks := tk } := ⟨h', tk, led', rfl, F, N, hs, ha, r⟩
noncomputable def NameSrc (w : World) (A : Around) (h₀ : Heap) (L : Addr) (m : Str → Option Value) (env : Env) (elt : Expr) (x y : Str) (scope : Scope) (cl : List (Str × Addr)) (Q : Flow → Shared → Prop) (xv : Value) (s₁ : Shared) : Prop :=
  ∃ ax its n led, xv = .ref ax ∧ Fr h₀ L s₁.heap m ∧ News h₀ L s₁.heap led ∧ (ax, listOf its n) ∈ led ∧ its.size ≤ 1000 ∧ NameRest w A h₀ L m env elt x y scope cl s₁ (ax, listOf its n) Q its.toList [] led
theorem NameSrc.intro {elt : Expr} {x y : Str} {scope : Scope} {cl : List (Str × Addr)} {Q : Flow → Shared → Prop} {s₁ : Shared} {ax : Addr} {its : List Value} {n : Nat} {led : List (Addr × Obj)} (F : Fr h₀ L s₁.heap m) (N : News h₀ L s₁.heap led) (hm : (ax, listOf its.toArray n) ∈ led) (hsz : its.length ≤ 1000)
    (R : NameRest w A h₀ L m env elt x y scope cl s₁ (ax, listOf its.toArray n) Q its [] led) : NameSrc w A h₀ L m env elt x y scope cl Q (.ref ax) s₁ :=
  ⟨ax, its.toArray, n, led, rfl, F, N, hm, by simpa using hsz, R⟩
open LCg in
theorem name_comp {elt iter : Expr} {x y : Str} {px py : Pos} {scope : Scope} {cl : List (Str × Addr)} {pos spos : Pos} {Q : Flow → Shared → Prop} (_F : Fr h₀ L s.heap m) (hLe : env.locals = L) (hh : A.handled = none)
    (hsw : swapsWith (.ListComp elt [⟨.Name x px, iter, [], 0⟩] scope pos) (some (.Name y py)) spos.line env = pure true)
    (hclos : closureFor scope env = pure cl) (hcell : ∀ z ∈ scope.names, z.2 ≠ .cell) (hkind : scope.kind = .function)
    (hnames : ∀ z ∈ scope.names, z.2 = .local → scope.names.lookup z.1 = some .local) (hx : scope.names.lookup x = some .local)
    (hy : env.kindOf y = some .local) (hp : (env.scope.kind == .class || (env.scope.kind == .module && env.locals != env.globals)) = false)
    (h : wpAny (model theProg w) A (eval iter env) (NameSrc w A h₀ L m env elt x y scope cl Q) E s)
    (hs : ∀ x, foldedSetIterable iter env x = pure x := by intro _; rfl) :
    wpAny (model theProg w) A (exec (.Assign [.Name y py] (.ListComp elt [⟨.Name x px, iter, [], 0⟩] scope pos) spos) env) Q E s := by
  subst hLe
  rw [exec_Assign_Name_used _ _ _ _ hsw]
  refine wpAny_bind (wpAny_standAt (wpAny_bind ?_))
  show wpAny _ A (do let _ ← comprehension (.ListComp elt [⟨.Name x px, iter, [], 0⟩] scope pos) scope env _ (newList []) false (eval iter env) (some (assign (.Name y py) env))) _ _ s
  refine wpAny_bind (wpAny_mono (wpAny_comprehension_free (use := some (assign (.Name y py) env)) (Q := fun _ s' => Q .next s') rfl hs hclos hkind hnames
    (wpAny_mono h (fun xv s₁ h₁ => ?_) fun _ _ e => e)) (fun _ s' hq => wpAny_pure (wpAny_pure hq)) fun _ _ e => e)
  refine ex4 (h₁) fun ax its kn led₀ q₁ => ?_
  clear h₁
  refine an6 q₁ fun e0₀ F N hm hsz R => ?_
  clear q₁
  subst e0₀
  generalize hL : env.locals = L at *
  have hl : s₁.heap.IsList ax its := News.isList N hm
  have hlt : ax < s₁.heap.objs.size := Heap.lt_size (N _ hm).1
  have hLlt : L < s₁.heap.objs.size := F.ns.lt
  have none_of : ∀ d, s₁.heap.objs.size ≤ d → h₀.get? d = none := fun d hd => by
    cases e : h₀.get? d with
    | none => rfl
    | some o => exact absurd (Heap.lt_size (F.keep d o e)) (Nat.not_lt.mpr hd)
  refine wpAny_pyIter_list hl ?_
  refine wpAny_newObj_type (wpAny_newFunctionEnv hcell (by intro y hy; simp at hy) (fun h₁ hns hsb => ?_) hkind)
  dsimp only at hns hsb ⊢
  generalize hI : s₁.heap.objs.size = I at *
  generalize hH1 : s₁.heap.push { cls := .type "list_iterator", data := .fields #[.ref ax, .int 0 0] } = H1 at *
  generalize hH2 : H1.push { cls := .type "list", dict := none, data := .seq ([] : List Value).toArray } = H2 at *
  have sD : H1.objs.size = I + 1 := by rw [← hH1, Heap.size_push, hI]
  have sC : H2.objs.size = I + 2 := by rw [← hH2, Heap.size_push, sD]
  generalize hDD : H1.objs.size = D at *
  generalize hCC : H2.objs.size = C at *
  have up1 : ∀ d o, s₁.heap.get? d = some o → H1.get? d = some o := fun d o e => by rw [← hH1]; exact Heap.get?_push_of_some _ e
  have up2 : ∀ d o, H1.get? d = some o → H2.get? d = some o := fun d o e => by rw [← hH2]; exact Heap.get?_push_of_some _ e
  have below : ∀ d o, s₁.heap.get? d = some o → @LT.lt Nat _ d I := fun d o e => hI ▸ Heap.lt_size e
  have up : ∀ d o, s₁.heap.get? d = some o → h₁.get? d = some o := fun d o e => by
    have := below d o e
    exact hsb.extBut d o (by show @Ne Nat _ _; omega) (Heap.get?_push_of_some _ (up2 _ _ (up1 _ _ e)))
  have itH : h₁.IsListIter I ax 0 := by
    have e1 : H1.get? I = some { cls := .type "list_iterator", data := .fields #[.ref ax, .int 0 0] } := by rw [← hH1, ← hI]; exact Heap.get?_push_size _ rfl
    exact ⟨_, hsb.extBut _ _ (by show @Ne Nat _ _; omega) (Heap.get?_push_of_some _ (up2 _ _ e1)), rfl, rfl⟩
  have accH : h₁.get? D = some (lst []) := by
    have e1 : H2.get? D = some { cls := .type "list", dict := none, data := .seq ([] : List Value).toArray } := by rw [← hH2, ← hDD]; exact Heap.get?_push_size _ rfl
    exact hsb.extBut _ _ (by show @Ne Nat _ _; omega) (Heap.get?_push_of_some _ e1)
  have axl : @LT.lt Nat _ ax I := hI ▸ hlt
  have Ll : @LT.lt Nat _ L I := hI ▸ hLlt
  have W := Walks.list (prog := theProg) (w := w) hh I ax (by show @Ne Nat _ _; omega) its
  have ledl : ∀ p ∈ led₀, @LT.lt Nat _ p.1 I := fun p hp => below _ _ (N p hp).1
  have nI := none_of I (by omega)
  have nD := none_of D (by omega)
  have nC := none_of C (by omega)
  have dID : @Ne Nat I D := by omega
  have dDI : @Ne Nat D I := dID.symm
  have dIC : @Ne Nat I C := by omega
  have dCI : @Ne Nat C I := dIC.symm
  have dDC : @Ne Nat D C := by omega
  have dCD : @Ne Nat C D := dDC.symm
  have daxI : @Ne Nat ax I := by omega
  have dIax : @Ne Nat I ax := daxI.symm
  have daxD : @Ne Nat ax D := by omega
  have dDax : @Ne Nat D ax := daxD.symm
  have daxC : @Ne Nat ax C := by omega
  have dCax : @Ne Nat C ax := daxC.symm
  have dLI : @Ne Nat L I := by omega
  have dIL : @Ne Nat I L := dLI.symm
  have dLD : @Ne Nat L D := by omega
  have dDL : @Ne Nat D L := dLD.symm
  have dLC : @Ne Nat L C := by omega
  have dCL : @Ne Nat C L := dLC.symm
  have hns' : h₁.Ns C (fun y => List.lookup y ([] : List (Str × Value)).reverse) := hns
  have loop : ∀ s₃ : Shared, s₃ = { s₁ with heap := h₁, toks := s₁.toks + ([] : List (Str × Value)).length } →
      codeAny (model theProg w) A (.compLoop (.ListComp elt [⟨.Name x px, iter, [], 0⟩] scope pos) 0 (.ref I) (.ref D) (compEnvC scope cl C env))
        (compPost (model theProg w) A E (some (assign (.Name y py) env)) (fun _ s' => Q .next s') (.ref D) C) s₃ := by
    rintro s₃ rfl
    refine codeAny_compLoop_tests (fun n s' => ∃ h' tk i ys m' led, s' = { s₁ with heap := h', toks := tk } ∧ i ≤ its.size ∧ n = its.size + 1 - i ∧ ys.length ≤ i ∧ (h'.IsListIter I ax i ∧ h'.IsList ax its) ∧ Fr h₀ L h' m ∧ h'.Ns C m' ∧
      News h₀ L h' ((D, lst ys) :: led) ∧ (∀ p ∈ led, p.1 ≠ I ∧ p.1 ≠ C ∧ p.1 ≠ D) ∧ (ax, listOf its kn) ∈ led ∧ NameRest w A h₀ L m env elt x y scope cl s₁ (ax, listOf its kn) Q (its.toList.drop i) ys led) ?_ (its.size + 1)
      ⟨h₁, _, 0, [], _, led₀, rfl, Nat.zero_le _, rfl, Nat.le_refl _, ⟨itH, hl.at fun o e => up _ o e⟩, F.keeps up, hns', fun p hp => ?_, fun p hp => ?_, ?_, R⟩
    · intro k s' q₀
      refine ex6 (q₀) fun h' tk i ys m' led q₁ => ?_
      clear q₀
      refine an11 q₁ fun e0₀ hi e2₀ hyl hst F' hn' N' off hax R' => ?_
      clear q₁
      subst e0₀
      subst e2₀
      by_cases hlt' : i < its.size
      · refine W.item i _ _ _ hlt' hst fun v h₂ tk₂ hPv hst₂ hk₂ => ?_
        have hd : its.toList.drop i = v :: its.toList.drop (i + 1) := by
          have hi2 : i < its.toList.length := by simpa using hlt'
          rw [List.drop_eq_getElem_cons hi2]
          congr 1
          have := Array.getElem?_eq_some_iff.mp hPv
          obtain ⟨_, e⟩ := this
          rw [← e]; simp
        rw [hd] at R'
        have old2 : ∀ d o, d ≠ I → h'.get? d = some o → h₂.get? d = some o := fun d o hd e => hk₂ d o (by simpa using hd) e
        have ntI : ∀ p ∈ (D, lst ys) :: led, p.1 ≠ I := fun p hp => by
          rcases List.mem_cons.mp hp with rfl | hp
          · first | assumption | (show @Ne Nat _ _; omega)
          · exact (off p hp).1
        have N₂ : News h₀ L h₂ ((D, lst ys) :: led) := news_but N' hk₂ ntI
        have F₂ : Fr h₀ L h₂ m := fr_but F' hk₂ (by first | assumption | (show @Ne Nat _ _; omega)) nI
        have hn₂ : h₂.Ns C m' := hn'.at' fun o e => old2 C o (by first | assumption | (show @Ne Nat _ _; omega)) e
        refine wpAny_assign_Name (wpAny_storeName_local (lookup_relabel_local hx) hn₂ (fun h₃ hn₃ hs₃ => ?_) (by simp [compEnvC, relabel, hkind]))
        refine wpAny_tests_nil ?_
        simp only [if_true]
        refine ex1 (ns_obj hn₃) fun oC q₁ => ?_
        refine an2 q₁ fun heC hoC => ?_
        clear q₁
        have heC' : h₃.get? C = some oC := heC
        have old3 : ∀ d o, d ≠ C → h₂.get? d = some o → h₃.get? d = some o := fun d o hd e => hs₃.extBut d o hd e
        have F₃ : Fr h₀ L h₃ m := ⟨F₂.ns.at' fun o e => old3 L o (by first | assumption | (show @Ne Nat _ _; omega)) e, fun d o e => old3 d o (fun q => by rw [q, nC] at e; cases e) (F₂.keep d o e), F₂.above⟩
        refine ex1 (hst₂.1) fun oI q₁ => ?_
        refine an2 q₁ fun heI hI1 => ?_
        clear q₁
        have heI3 : h₃.get? I = some oI := old3 _ _ (by first | assumption | (show @Ne Nat _ _; omega)) heI
        have N₃ : News h₀ L h₃ ((I, oI) :: (C, oC) :: (D, lst ys) :: led) := fun p hp => by
          rcases List.mem_cons.mp hp with rfl | hp
          · exact ⟨heI3, by first | assumption | (show @Ne Nat _ _; omega), nI⟩
          rcases List.mem_cons.mp hp with rfl | hp
          · exact ⟨heC', by first | assumption | (show @Ne Nat _ _; omega), nC⟩
          · refine ⟨old3 _ _ ?_ (N₂ p hp).1, (N₂ p hp).2⟩
            rcases List.mem_cons.mp hp with rfl | hp
            · first | assumption | (show @Ne Nat _ _; omega)
            · exact (off p hp).2.1
        refine wpAny_mono (R' I oI oC C D _ h₃ _ _ hI1.1 hoC (by simp) F₃ N₃ off) (fun z s₄ h₄ => ?_) fun _ _ e => e
        refine ex3 (h₄) fun h₅ tk₅ led₅ q₁ => ?_
        clear h₄
        refine an6 q₁ fun e0₀ F₅ N₅ hsub hap R₅ => ?_
        clear q₁
        subst e0₀
        have off₅ : ∀ p ∈ led₅, p.1 ≠ I ∧ p.1 ≠ C ∧ p.1 ≠ D := fun p hp => ⟨hap p hp (I, oI) (.head _), hap p hp (C, oC) (.tail _ (.head _)), hap p hp (D, lst ys) (.tail _ (.tail _ (.head _)))⟩
        have zD : h₅.get? D = some (lst ys) := (N₅ (D, lst ys) (.tail _ (.tail _ (.head _)))).1
        refine append_at (hsz := by show ys.toArray.size ≤ sizeLine; rw [List.size_toArray, sizeLine_eq]; omega) zD fun h₆ hs₆ hD₆ => ?_
        have N₆ : News h₀ L h₆ ((I, oI) :: (C, oC) :: (D, lst (ys ++ [z])) :: led₅) := by
          intro p hp
          rcases List.mem_cons.mp hp with rfl | hp
          · have := N₅ (I, oI) (.head _)
            exact ⟨hs₆.extBut _ _ (by first | assumption | (show @Ne Nat _ _; omega)) this.1, this.2⟩
          rcases List.mem_cons.mp hp with rfl | hp
          · have := N₅ (C, oC) (.tail _ (.head _))
            exact ⟨hs₆.extBut _ _ (by first | assumption | (show @Ne Nat _ _; omega)) this.1, this.2⟩
          rcases List.mem_cons.mp hp with rfl | hp
          · exact ⟨hD₆.trans (congrArg some (lst_snoc ys z)), (N₅ (D, lst ys) (.tail _ (.tail _ (.head _)))).2⟩
          · have := N₅ p (.tail _ (.tail _ (.tail _ hp)))
            exact ⟨hs₆.extBut _ _ (off₅ p hp).2.2 this.1, this.2⟩
        exact ⟨its.size + 1 - (i + 1), by omega, h₆, _, i + 1, ys ++ [z], _, led₅, rfl, hlt', rfl, by rw [List.length_append, List.length_singleton]; omega,
          ⟨⟨oI, (N₆ _ (.head _)).1, hI1⟩, News.isList N₆ (.tail _ (.tail _ (.tail _ hsub)))⟩, F₅.change hs₆ (by first | assumption | (show @Ne Nat _ _; omega)) nD, hoC.ns (N₆ _ (.tail _ (.head _))).1, fun p hp => N₆ p (.tail _ (.tail _ hp)), off₅, hsub, R₅⟩
      · have hin : i = its.size := by omega
        subst hin
        rw [List.drop_eq_nil_of_le (by simp)] at R'
        refine W.done _ _ _ hst fun h₂ tk₂ hk₂ => ?_
        have ntI : ∀ p ∈ (D, lst ys) :: led, p.1 ≠ I := fun p hp => by
          rcases List.mem_cons.mp hp with rfl | hp
          · first | assumption | (show @Ne Nat _ _; omega)
          · exact (off p hp).1
        have N₂ : News h₀ L h₂ ((D, lst ys) :: led) := news_but N' hk₂ ntI
        have F₂ : Fr h₀ L h₂ m := fr_but F' hk₂ (by first | assumption | (show @Ne Nat _ _; omega)) nI
        have hn₂ : h₂.Ns C m' := hn'.at' fun o e => hk₂ C o (by intro hq; exact absurd (List.mem_singleton.mp hq) (by first | assumption | (show @Ne Nat _ _; omega))) e
        have hL₀ : h₀.get? L = none := Heap.get?_none_of_le F'.above
        show wpAny _ A (assign (.Name y py) env (.ref D)) _ _ _
        refine wpAny_assign_Name (wpAny_storeName_local hy (hL ▸ F₂.ns) (fun h₃ hn₃ hs₃ => ?_) (by rw [hL]; exact hp))
        rw [hL] at hn₃ hs₃
        have F₃ : Fr h₀ L h₃ (fun z => if z = y then some (.ref D) else m z) := ⟨hn₃, fun b o e => hs₃.extBut b o (fun q => by rw [q, hL₀] at e; cases e) (F₂.keep b o e), F₂.above⟩
        refine ⟨m', hn₂.sameBut hs₃ (by first | assumption | (show @Ne Nat _ _; omega)), fun h'' hs'' => R' D h'' _ (F₃.change hs'' (by first | assumption | (show @Ne Nat _ _; omega)) nC) (fun p hp => ?_) fun p hp => (off p hp).2.2⟩
        have z : h₃.get? p.1 = some p.2 := hs₃.extBut _ _ (N₂ p hp).2.1 (N₂ p hp).1
        refine ⟨hs''.extBut _ _ ?_ z, (N₂ p hp).2⟩
        rcases List.mem_cons.mp hp with rfl | hp
        · first | assumption | (show @Ne Nat _ _; omega)
        · exact (off p hp).2.1
    · rcases List.mem_cons.mp hp with rfl | hp
      · exact ⟨accH, by first | assumption | (show @Ne Nat _ _; omega), nD⟩
      · exact ⟨up _ _ (N p hp).1, (N p hp).2⟩
    · have := ledl p hp
      exact ⟨by first | assumption | (show @Ne Nat _ _; omega), by first | assumption | (show @Ne Nat _ _; omega), by first | assumption | (show @Ne Nat _ _; omega)⟩
    · exact hm
  exact codeAny_compStart_list (loop _ rfl) (W.self 0 _ _ _ ⟨itH, hl.at fun o e => up _ o e⟩ (loop _ rfl))
end

--needs: 10 20 30 53 57 59
theorem md74 : True := trivial
/- the six cells told from a script -/
noncomputable def CellsOf (news : List (Addr × Obj)) (v : Value) (tl : List (Addr × Obj)) : Prop :=
  ∃ c n vs cs, v = .ref c ∧ tl = (c, listOf (List.toArray vs) n) :: news ∧ IntsAre vs cs ∧ cs.length = 6 ∧ ∀ p ∈ news, p.1 < c
noncomputable def CellJ (prs : List (Str × Value)) (C : Addr) (news : List (Addr × Obj)) (m' : Str → Option Value) (nw : List (Addr × Obj)) : Prop :=
  ∃ n vs cs, nw = (C, listOf (List.toArray vs) n) :: news ∧ IntsAre vs cs ∧ cs.length = 6 ∧ Has m' prs
theorem nw_ne {C I : Addr} {news own : List (Addr × Obj)} (h1 : ∀ p ∈ news, p.1 < C) (h2 : @LT.lt Nat _ C I) (h3 : ∀ p ∈ own, p.1 = I) : ∀ p ∈ news ++ own, p.1 ≠ C := fun p hp => by
  rcases List.mem_append.mp hp with hp | hp
  · exact Nat.ne_of_lt (h1 p hp)
  · rw [h3 p hp]; exact (Nat.ne_of_lt h2).symm
section
theorem md75 : True := trivial
theorem t_cells {w : World} {mean : ExcName → Option Value} {mg mb : Str → Option Value} {sl : Addr} {its : List Value} {ns : List Int} {news : List (Addr × Obj)} (hI : IntsAre its ns) (hlen : ns.length ≤ 63)
    (A₀ A : Around) (env : Env) (outer : List Env) (base h₀ : Heap) (L : Addr) (m : Str → Option Value) (s : Shared) (Q E : Value → Shared → Prop)
    (H : Here w mean mg mb A₀ A env outer base h₀ s.heap L m news) (hl : h₀.IsList sl its.toArray) (hd : A.depth + 2 < 900) (hu : A.units + 16 < 9000)
    (hret : ∀ v tl h' tk', Fr h₀ L h' m → News h₀ L h' tl → CellsOf news v tl → Q v { s with heap := h', toks := tk' }) :
    wpAny (model theProg w) A (call (.ref 345) [.ref sl] []) Q E s := by
  have e := calm_of H.hh
  rw [← e] at H hd hu ⊢
  clear e
  obtain ⟨B, F, X, N, T, hA, hf, hfk, hh⟩ := H
  k_extra "my enter"
  rename Fr h₀ L _ m => FG
  have hlg := hl.at fun o e => FG.keep _ _ e
  clear hl FG
  have hil := ints_len hI
  k_steps
  refine ⟨?_⟩
  rename Fr _ _ _ _ => FC
  rename News _ _ _ _ => NC
  have hlc := hlg.at fun o e => FC.keep _ _ e
  refine len_list hlc (by rw [List.size_toArray]; omega) ?_
  clear hlc
  rw [List.size_toArray, hil]
  k_steps
  refine ⟨?_⟩
  rename Fr _ _ _ _ => FC
  rename News _ _ _ _ => NC
  refine iter_range rfl (by passes_own) (by assumption) (rsmall (a := 0) (by omega) (by omega)) (rsize 0 _) FC NC (fun _ => CellJ [(Str.ofString "script", .ref sl), (Str.ofString "cells", .ref _)] _ news) ⟨_, _, _, rfl, .cons _ _ (.cons _ _ (.cons _ _ (.cons _ _ (.cons _ _ (.cons _ _ .nil))))), rfl, rfl, rfl, trivial⟩ ?_ ?_
  · clear FC NC
    rintro i t m₁ news₁ h₁ tk₁ own I hi ⟨n, vs, cs, rfl, hv, hcl, q1, q2, -⟩ hnI hlt hown F₁ N₁
    dsimp only [envOf] at F₁ N₁
    replace F₁ := fr_as (ps := [("script", _), ("cells", _)]) F₁ ⟨q1, q2, trivial⟩
    simp only [kstB] at F₁
    clear q1 q2
    have h0 := Int.fmod_nonneg_of_pos ((0 : Nat) + (i : Int)) (b := 6) (by omega)
    have h1 := Int.fmod_lt_of_pos ((0 : Nat) + (i : Int)) (b := 6) (by omega)
    k_steps
    refine ⟨?_⟩
    rename Fr _ _ _ _ => FD
    refine item_anyK (hlg.at fun o e => FD.keep _ _ e) hI (by omega) (by omega) (by omega) ?_
    intro _
    k_steps
    rename News _ _ _ _ => ND
    refine ksa_set FD ND (.head (nw_ne (by assumption) hlt.1 hown)) hv h0 (by omega) (by omega) ?_
    intro h' F' N' hi' hl' hs'
    k_steps
    refine ForPost.go (news' := (_, _) :: news) F' N' (by k_all) ⟨_, _, _, rfl, hi', by omega, rfl, rfl, trivial⟩
  · rintro m₁ news₁ h₁ tk₁ F₁ N₁ ⟨n, vs, cs, rfl, hv, hcl, q1, q2, -⟩
    clear FC NC
    dsimp only [envOf] at F₁ N₁
    replace F₁ := fr_as (ps := [("script", _), ("cells", _)]) F₁ ⟨q1, q2, trivial⟩
    simp only [kstB] at F₁
    clear q1 q2
    k_steps
    exact hret _ _ _ _ (by k_asm) (by k_asm) ⟨_, _, _, _, rfl, rfl, hv, hcl, by assumption⟩
end

--needs: 10 11 20 24 26 30 32 34 36 37
section
noncomputable section
theorem md76 : True := trivial
noncomputable def Px76 (bb : Bd) (tok : Tok) (b : Addr) (bd : Addr) (gv : Addr) (es : List Ent) (k : Nat) (rest : List (Addr × Obj)) : Prop :=
  es.length ≤ 5000 →
  BodyP bb (1) 298 (fun y => ([("self", .ref b)] : List (Str × Value)).reverse.lookup y) (book (bw bb) tok b bd gv es k rest)
    (fun v tl => ∃ a n, v = .ref a ∧ tl = (a, listOf (refs es).toArray n) :: book (bw bb) tok b bd gv es k rest)
theorem ne76 : Nonempty (Bd × Tok × Addr × Addr × Addr × (List Ent) × Nat × (List (Addr × Obj))) := bd_ne.elim fun bb => ⟨(bb, 0, 0, 0, 0, [], 0, [])⟩
@[irreducible] noncomputable def D76 : Bd × Tok × Addr × Addr × Addr × (List Ent) × Nat × (List (Addr × Obj)) := @Classical.epsilon _ ne76 fun d => ¬ Px76 d.1 d.2.1 d.2.2.1 d.2.2.2.1 d.2.2.2.2.1 d.2.2.2.2.2.1 d.2.2.2.2.2.2.1 d.2.2.2.2.2.2.2
namespace V76
@[irreducible] noncomputable def bb : Bd := D76.1
@[irreducible] noncomputable def tok : Tok := D76.2.1
@[irreducible] noncomputable def b : Addr := D76.2.2.1
@[irreducible] noncomputable def bd : Addr := D76.2.2.2.1
@[irreducible] noncomputable def gv : Addr := D76.2.2.2.2.1
@[irreducible] noncomputable def es : List Ent := D76.2.2.2.2.2.1
@[irreducible] noncomputable def k : Nat := D76.2.2.2.2.2.2.1
@[irreducible] noncomputable def rest : List (Addr × Obj) := D76.2.2.2.2.2.2.2
end V76
end
theorem ep76 (h : Px76 V76.bb V76.tok V76.b V76.bd V76.gv V76.es V76.k V76.rest) (bb : Bd) (tok : Tok) (b : Addr) (bd : Addr) (gv : Addr) (es : List Ent) (k : Nat) (rest : List (Addr × Obj)) : Px76 bb tok b bd gv es k rest := eps_at (P := fun d : Bd × Tok × Addr × Addr × Addr × (List Ent) × Nat × (List (Addr × Obj)) => Px76 d.1 d.2.1 d.2.2.1 d.2.2.2.1 d.2.2.2.2.1 d.2.2.2.2.2.1 d.2.2.2.2.2.2.1 d.2.2.2.2.2.2.2) (ne := ne76) (by with_unfolding_all exact h) (bb, tok, b, bd, gv, es, k, rest)
section
open V76
theorem w76 : Px76 bb tok b bd gv es k rest := by
  intro hf
  refine BodyP.start (by k_is) ?_
  intro St F N hPO hret hnx
  obtain ⟨B, X, T, hA, _, _, hh, hd, hu⟩ := id St
  k_steps
  rename News _ _ _ _ => N9
  rw [slicePick_all] at N9
  exact hret _ _ _ _ _ (by k_asm) N9 ⟨_, _, rfl, rfl⟩
end
theorem t_items {w : World} {mean : ExcName → Option Value} {mg mb : Str → Option Value} {tok : Tok} {b bd gv : Addr} {es : List Ent} {k : Nat} {rest : List (Addr × Obj)} (hf : es.length ≤ 5000) :
    Does w mean mg mb 2 (.ref 298) [.ref b] [] (book w tok b bd gv es k rest) (fun v tl => ∃ a n, v = .ref a ∧ tl = (a, listOf (refs es).toArray n) :: book w tok b bd gv es k rest) := by
  refine does_as (n := 1 + 1) (by omega) (Does.of_body (binds := [("self", .ref b)]) (by k_is) (by k_is) (fun s _ => BindsTo.of_eq rfl) (locs rfl) rfl rfl rfl (by decide) ?_)
  intro bb e1 e2 e3 e4
  subst e1 e2 e3 e4
  exact ep76 w76 bb tok b bd gv es k rest hf
end

--needs: 10 24 30 37 40 42 46 47 53 73
section
variable {w : World} {A : Around} {s : Shared} {h₀ : Heap} {L : Addr} {m : Str → Option Value} {env : Env} {src : Addr × Obj}
theorem md77 : True := trivial
theorem rest_N {elt : Expr} {x y : Str} {scope : Scope} {cl : List (Str × Addr)} {Q : Flow → Shared → Prop} (P : List Value → List Value → List (Addr × Obj) → Prop)
    (hnil : ∀ ys led, P [] ys led → NameRest w A h₀ L m env elt x y scope cl s src Q [] ys led)
    (hcons : ∀ v r ys led, P (v :: r) ys led → ∀ I oI oC C D m₂ h tk (E' : Value → Shared → Prop), oI.cls = .type "list_iterator" → LCg.NsObj oC m₂ → m₂ x = some v → Fr h₀ L h m → News h₀ L h ((I, oI) :: (C, oC) :: (D, LCg.lst ys) :: led) →
      (∀ p ∈ led, p.1 ≠ I ∧ p.1 ≠ C ∧ p.1 ≠ D) →
      wpAny (model theProg w) A (eval elt (compEnvC scope cl C env)) (fun z => NameEnd h₀ L m s src [(I, oI), (C, oC), (D, LCg.lst ys)] (P r (ys ++ [z]))) E' { s with heap := h, toks := tk }) :
    ∀ xs ys led, P xs ys led → NameRest w A h₀ L m env elt x y scope cl s src Q xs ys led
  | [], ys, led, hp => hnil ys led hp
  | v :: r, ys, led, hp => fun I oI oC C D m₂ h tk E' h1 h2 h3 h4 h5 h6 =>
    wpAny_mono (hcons v r ys led hp I oI oC C D m₂ h tk E' h1 h2 h3 h4 h5 h6) (fun z s₄ h8 => by
      obtain ⟨h', tk', led', e1, e2, e3, e4, e5, r'⟩ := h8
      exact ⟨h', tk', led', e1, e2, e3, e4, e5, rest_N P hnil hcons r (ys ++ [z]) led' r'⟩) fun _ _ e => e
end
/- lists of the ledger's that tell the numbers of places -/
inductive Twos (p q : Int) (T : List (Addr × Obj)) : List Value → List Nat → Prop
  | nil : Twos p q T [] []
  | cons {D : Addr} {t1 t2 : Tok} {k n : Nat} {vs : List Value} {ks : List Nat} (hm : (D, listOf [.int (U p q k) t1, .int (U p q (k + 1)) t2].toArray n) ∈ T) (r : Twos p q T vs ks) : Twos p q T (.ref D :: vs) (k :: ks)
theorem Twos.mono {p q : Int} {T T' : List (Addr × Obj)} (h : ∀ x ∈ T, x ∈ T') {vs : List Value} {ks : List Nat} (t : Twos p q T vs ks) : Twos p q T' vs ks := by
  induction t with
  | nil => exact .nil
  | cons hm r ih => exact .cons (h _ hm) ih
theorem Twos.app {p q : Int} {T : List (Addr × Obj)} {vs vs' : List Value} {ks ks' : List Nat} (t : Twos p q T vs ks) (t' : Twos p q T vs' ks') : Twos p q T (vs ++ vs') (ks ++ ks') := by
  induction t with
  | nil => exact t'
  | cons hm r ih => exact .cons hm ih
theorem Twos.no_int {p q : Int} {T : List (Addr × Obj)} {ks : List Nat} {vs r : List Value} {i : Int} {t : Tok} (h : Twos p q T vs ks) (e : vs = .int i t :: r) : False := by
  cases h with
  | nil => cases e
  | cons hm r => injection e with e1 e2; cases e1
theorem Twos.inv {p q : Int} {T : List (Addr × Obj)} {vs : List Value} {k : Nat} {ks : List Nat} (h : Twos p q T vs (k :: ks)) : ∃ D t1 t2 n r, vs = .ref D :: r ∧ (D, listOf [.int (U p q k) t1, .int (U p q (k + 1)) t2].toArray n) ∈ T ∧ Twos p q T r ks := by
  cases h with
  | cons hm r => exact ⟨_, _, _, _, _, rfl, hm, r⟩
theorem Twos.inv0 {p q : Int} {T : List (Addr × Obj)} {vs : List Value} (h : Twos p q T vs []) : vs = [] := by
  cases h; rfl
theorem Twos.len {p q : Int} {T : List (Addr × Obj)} {vs : List Value} {ks : List Nat} (t : Twos p q T vs ks) : vs.length = ks.length := by
  induction t with
  | nil => rfl
  | cons hm r ih => simp [ih]
noncomputable def twosD (p q : Int) (ks : List Nat) : List Dat := ks.map fun k => Dat.list [Dat.int (U p q k), Dat.int (U p q (k + 1))]
theorem Twos.dat {p q : Int} {T : List (Addr × Obj)} {vs : List Value} {ks : List Nat} (t : Twos p q T vs ks) : DatAll T vs (twosD p q ks) := by
  induction t with
  | nil => exact .nil
  | cons hm r ih => exact .cons (.list hm (.cons (.int _ _) (.cons (.int _ _) .nil))) ih
section
variable {w : World} {g h : Heap} {L : Addr} {tok : Tok} {b bd gl : Addr} {es : List Ent} {k : Nat} {R own pre : List (Addr × Obj)} {x : Addr × Obj}
theorem told_sub (N : News g L h (x :: book w tok b bd gl es k ((own ++ pre) ++ R))) : News g L h (own ++ (pre ++ book w tok b bd gl es k (x :: R))) :=
  have P := book_to (nwT N)
  nwA (nwL (nwL P)) (nwA (nwR (nwL P)) (book_of (pre := [x]) (nwC N (nwR P))))
theorem lst_ne {l : List (Addr × Obj)} {a c : Addr} {o : Obj} {vs : List Value} (N : News g L h l) (h1 : (a, LCg.lst vs) ∈ l) (h2 : (c, o) ∈ l) (ho : o ≠ LCg.lst vs) : @Ne Nat a c := fun e => by
  subst e
  exact ho (same_obj N h2 h1)
/- the ledger behind an element stands apart from the turn's own objects -/
theorem told_off {I C D : Addr} {oI oC : Obj} {m₂ : Str → Option Value} {ys : List Value} {es' : List Ent} {k' : Nat} {D' : Addr} {p q : Int} {i : Nat} {t1 t2 : Tok} {ks : List Nat}
    (N : News g L h ([(I, oI), (C, oC), (D, LCg.lst ys)] ++ (pre ++ book w tok b bd gl es' k' ((D', LCg.lst [.int (U p q i) t1, .int (U p q (i + 1)) t2]) :: R))))
    (off : ∀ z ∈ pre ++ book w tok b bd gl es k R, z.1 ≠ I ∧ z.1 ≠ C ∧ z.1 ≠ D) (hI : oI.cls = .type "list_iterator") (hC : LCg.NsObj oC m₂) (hys : Twos p q R ys ks) :
    ∀ z ∈ pre ++ book w tok b bd gl es' k' ((D', LCg.lst [.int (U p q i) t1, .int (U p q (i + 1)) t2]) :: R), ∀ y ∈ [(I, oI), (C, oC), (D, LCg.lst ys)], z.1 ≠ y.1 := by
  have hCd : ∃ es ep, oC.data = .dict es ep := by obtain ⟨es, ep, e, -⟩ := hC; exact ⟨es, ep, e⟩
  have mD : (D', LCg.lst [.int (U p q i) t1, .int (U p q (i + 1)) t2]) ∈ [(I, oI), (C, oC), (D, LCg.lst ys)] ++ (pre ++ book w tok b bd gl es' k' ((D', LCg.lst [.int (U p q i) t1, .int (U p q (i + 1)) t2]) :: R)) := by simp [book]
  have mE : ∀ z ∈ es'.map Ent.obj, z ∈ [(I, oI), (C, oC), (D, LCg.lst ys)] ++ (pre ++ book w tok b bd gl es' k' ((D', LCg.lst [.int (U p q i) t1, .int (U p q (i + 1)) t2]) :: R)) := by
    intro z hz
    simp only [book, List.mem_append, List.mem_cons]
    exact .inr (.inr (.inr (.inr (.inr (.inl hz)))))
  have fin : ∀ z : Addr × Obj, (z.1 ≠ I ∧ z.1 ≠ C ∧ z.1 ≠ D) → ∀ y ∈ [(I, oI), (C, oC), (D, LCg.lst ys)], z.1 ≠ y.1 := by
    intro z hz y hy
    simp only [List.mem_cons, List.not_mem_nil, or_false] at hy
    rcases hy with rfl | rfl | rfl
    · exact hz.1
    · exact hz.2.1
    · exact hz.2.2
  intro z hz
  refine fin z ?_
  rcases List.mem_append.mp hz with hz | hz
  · exact off z (List.mem_append_left _ hz)
  simp only [book, List.mem_cons, List.mem_append] at hz
  rcases hz with rfl | rfl | rfl | hz | rfl | hz
  · exact off (b, _) (List.mem_append_right _ (.head _))
  · exact off (bd, _) (List.mem_append_right _ (.tail _ (.head _)))
  · exact off (gl, listOf (refs es).toArray k) (List.mem_append_right _ (.tail _ (.tail _ (.head _))))
  · exact ⟨objs_ne N mE (.head _) (iter_no_tup hI) z hz, objs_ne N mE (.tail _ (.head _)) (fun vs e => by obtain ⟨a, c, e2⟩ := hCd; rw [e] at e2; cases e2) z hz, objs_ne N mE (.tail _ (.tail _ (.head _))) list_no_tup z hz⟩
  · refine ⟨lst_ne N mD (.head _) (fun e => ?_), lst_ne N mD (.tail _ (.head _)) (fun e => ?_), lst_ne N mD (.tail _ (.tail _ (.head _))) (fun e => ?_)⟩
    · rw [e] at hI; simp at hI
    · obtain ⟨a, c, e2⟩ := hCd; rw [e] at e2; cases e2
    · injection e with e1 e2 e3
      have e4 : ys.toArray = [Value.int (U p q i) t1, Value.int (U p q (i + 1)) t2].toArray := by injection e3
      have e5 := congrArg Array.toList e4
      exact hys.no_int e5
  · exact off z (List.mem_append_right _ (.tail _ (.tail _ (.tail _ (List.mem_append_right _ hz)))))
theorem apart_all {b bd gl : Addr} {es : List Ent} {R : List (Addr × Obj)} (H : Apart b bd gl es R) (hp : ∀ z ∈ pre, z.1 ≠ gl) : Apart b bd gl es (pre ++ R) := ⟨H.b, H.bd, fun z hz => by
  rcases List.mem_append.mp hz with hz | hz
  · exact H.es z (List.mem_append_left _ hz)
  rcases List.mem_append.mp hz with hz | hz
  · exact hp z hz
  · exact H.es z (List.mem_append_right _ hz)⟩
theorem apart_one {b bd gl : Addr} {es : List Ent} {R : List (Addr × Obj)} {x : Addr × Obj} (H : Apart b bd gl es (pre ++ R)) (hx : @Ne Nat x.1 gl) : Apart b bd gl es (x :: R) := ⟨H.b, H.bd, fun z hz => by
  rcases List.mem_append.mp hz with hz | hz
  · exact H.es z (List.mem_append_left _ hz)
  rcases List.mem_cons.mp hz with rfl | hz
  · exact hx
  · exact H.es z (List.mem_append_right _ (List.mem_append_right _ hz))⟩
end

--needs: 10 24 30 37 40 42 46 47 53 72 73 77 79
section
variable {w : World} {A : Around} {s : Shared} {h₀ : Heap} {L : Addr} {m : Str → Option Value} {env : Env} {E : Value → Shared → Prop}
theorem md78 : True := trivial
open LCg in
theorem rest_G {elt : Expr} {x : Str} {scope : Scope} {cl : List (Str × Addr)} {S : List (Addr × Obj) → Prop} {P : Nat → Value → Prop} {Fin : List Value → List (Addr × Obj) → Prop} {n : Nat} (Inv : Nat → List Value → List (Addr × Obj) → Prop) (hfin : ∀ ys nw, Inv n ys nw → Fin ys nw)
    (step : ∀ i ys nw, i < n → Inv i ys nw → ∀ v I oI C oC D m₂ h tk (E' : Value → Shared → Prop), P i v → NsObj oC m₂ → m₂ x = some v → Fr h₀ L h m → News h₀ L h ((I, oI) :: (C, oC) :: (D, lst ys) :: nw) → Off3 I C D nw → ((@Ne Nat I C) ∧ (@Ne Nat I D) ∧ (@Ne Nat C D)) →
      wpAny (model theProg w) A (eval elt (compEnvC scope cl C env)) (CompEnd h₀ L m { s with heap := h, toks := tk } I oI C oC D (lst ys) S (fun y nw' => Inv (i + 1) (ys ++ [y]) nw')) E' { s with heap := h, toks := tk }) :
    ∀ k i ys nw, i + k = n → Inv i ys nw → CompRest theProg w A h₀ L m env elt x scope cl s S P Fin k i ys nw
  | 0, i, ys, nw, h, hi => CompRest.zero (hfin ys nw (by rw [Nat.add_zero] at h; exact h ▸ hi))
  | k + 1, i, ys, nw, h, hi => CompRest.succ fun v I oI C oC D m₂ h' tk E' h1 h2 h3 h4 h5 h6 h7 =>
    wpAny_mono (step i ys nw (by omega) hi v I oI C oC D m₂ h' tk E' h1 h2 h3 h4 h5 h6 h7) (fun y s₂ hx => by
      obtain ⟨h'', tk', news', e, F, N, off, hS, hInv⟩ := hx
      exact ⟨h'', tk', news', e, F, N, off, hS, rest_G Inv hfin step k (i + 1) (ys ++ [y]) news' (by omega) hInv⟩) fun _ _ e => e
open LCg in
theorem end_one {I C D D' : Addr} {s₁ : Shared} {oI oC oD o' : Obj} {S : List (Addr × Obj) → Prop} {rest : Value → List (Addr × Obj) → Prop} {y : Value} {h' : Heap} {tk : Nat} {x1 x2 : Addr × Obj} {nw : List (Addr × Obj)}
    (F : Fr h₀ L h' m) (N : News h₀ L h' ((D', o') :: x1 :: x2 :: (I, oI) :: (C, oC) :: (D, oD) :: nw)) (n1 : @Ne Nat D' I) (n2 : @Ne Nat D' C) (n3 : @Ne Nat D' D) (off : Off3 I C D nw) (hS : S ((D', o') :: nw)) (r : rest y ((D', o') :: nw)) :
    CompEnd h₀ L m s₁ I oI C oC D oD S rest y { s₁ with heap := h', toks := tk } :=
  CompEnd.intro F N ((D', o') :: nw) (fun p hp => by simp only [List.mem_cons] at hp ⊢; rcases hp with h | h | h | h | h <;> simp [h]) ⟨⟨n1, n2, n3⟩, off⟩ hS r
open Classical in
/- two lists of the same data aren't unequal -/
theorem cmp_same {news : List (Addr × Obj)} {a b : Addr} {xs ys : List Value} {ka kb : Nat} {ds : List Dat} {Q : Value → Shared → Prop} (N : News h₀ L s.heap news) (ma : (a, listOf xs.toArray ka) ∈ news) (mb : (b, listOf ys.toArray kb) ∈ news)
    (Da : DatAll news xs ds) (Db : DatAll news ys ds) (ok : ∀ d ∈ ds, kqdOk 8 d = true) (hu : A.units + 64 < cLine) (h : Q (.bool false) s) : wpAny (model theProg w) A (compareOp .NotEq (.ref a) (.ref b)) Q E s := by
  refine kqd_ne N ma rfl rfl Da (fun _ hp => hp) mb rfl rfl Db (fun _ hp => hp) ok ok hu ?_
  rw [decide_eq_true rfl]
  exact h
theorem twos_ok {p q : Int} {ks : List Nat} : ∀ d ∈ twosD p q ks, kqdOk 8 d = true := by
  intro d hd
  obtain ⟨k, _, rfl⟩ := List.mem_map.mp hd
  rfl
/- the entries of a list, as data -/
noncomputable def entsD (es : List Ent) : List Dat := es.map fun e => Dat.tuple [Dat.str (S e.n), Dat.str (S e.v)]
theorem ents_dat {T : List (Addr × Obj)} : ∀ {es : List Ent}, (∀ p ∈ es.map Ent.obj, p ∈ T) → DatAll T (refs es) (entsD es)
  | [], _ => .nil
  | e :: r, h => .cons (.tuple (h _ (.head _)) (.cons (.str _ _) (.cons (.str _ _) .nil))) (ents_dat fun p hp => h p (.tail _ hp))
theorem ents_ok {es : List Ent} (hf : Fine es) : ∀ d ∈ entsD es, kqdOk 8 d = true := by
  intro d hd
  obtain ⟨e, he, rfl⟩ := List.mem_map.mp hd
  have o1 := strok_S (fun c hc => by have := hf.n e he c hc; omega : ∀ c ∈ e.n, c < 256)
  have o2 := strok_S (fun c hc => by have := hf.v e he c hc; omega : ∀ c ∈ e.v, c < 256)
  show ([Dat.str (S e.n), Dat.str (S e.v)].all (kqdOk 7)) = true
  simp [kqdOk, o1, o2]
theorem holds_same {c m : Nat} {p q : Int} {ord : List Nat} {es ds : List Ent} (h1 : Holds c m p q ord es) (h2 : Holds c m p q ord ds) : entsD es = entsD ds := by
  have h := h1.trans h2.symm
  have e : ∀ l : List Ent, entsD l = (l.map (fun e => (e.n, e.v))).map fun x => Dat.tuple [Dat.str (S x.1), Dat.str (S x.2)] := fun l => by simp [entsD]
  rw [e es, e ds, h]
theorem due_in {g h : Heap} {x1 x2 x3 : Addr × Obj} {r : List (Addr × Obj)} (N : News g L h (x1 :: x2 :: x3 :: r)) : News g L h (x3 :: x2 :: x1 :: r) := fun p hp => N p (by
  simp only [List.mem_cons] at hp ⊢
  rcases hp with h | h | h | h <;> simp [h])
theorem due_out {g h : Heap} {x1 x2 x3 ad : Addr × Obj} {cs dsO R : List (Addr × Obj)} {tok : Tok} {b bd gl : Addr} {es : List Ent} {kk : Nat} (N : News g L h (ad :: x3 :: x2 :: (dsO ++ (x1 :: (cs ++ book w tok b bd gl es kk R))))) :
    News g L h (ad :: x1 :: x2 :: x3 :: (cs ++ book w tok b bd gl es kk (dsO ++ R))) :=
  have T := nwT (nwT (nwT N))
  have Y := nwT (nwR T)
  nwC N (nwC (nwR T) (nwC (nwT (nwT N)) (nwC (nwT N) (nwA (nwL Y) (book_of (nwA (nwL T) (nwR Y)))))))
section
variable {tok : Tok} {b bd gl a ad : Addr} {es ds : List Ent} {n nd kk : Nat} {pre R : List (Addr × Obj)} {c mk : Nat} {p q : Int} {ord : List Nat} {Q : Value → Shared → Prop}
theorem items_same (N : News h₀ L s.heap ((a, listOf (refs es).toArray n) :: book w tok b bd gl es kk (((ad, listOf (refs ds).toArray nd) :: pre) ++ (ds.map Ent.obj ++ R)))) (h1 : Holds c mk p q ord es) (h2 : Holds c mk p q ord ds) (hf : Fine es)
    (hu : A.units + 64 < cLine) (h : Q (.bool false) s) : wpAny (model theProg w) A (compareOp .NotEq (.ref a) (.ref ad)) Q E s := by
  refine cmp_same N (.head _) (.tail _ (.tail _ (.tail _ (.tail _ (List.mem_append_right _ (.head _)))))) (ents_dat fun x hx => .tail _ (.tail _ (.tail _ (.tail _ (List.mem_append_left _ hx))))) ?_ (ents_ok hf) hu h
  rw [holds_same h1 h2]
  exact ents_dat fun x hx => .tail _ (.tail _ (.tail _ (.tail _ (List.mem_append_right _ (List.mem_append_right _ (List.mem_append_left _ hx))))))
theorem given_same (N : News h₀ L s.heap ((a, listOf (refs es).toArray n) :: book w tok b bd gl es kk (((ad, listOf (refs ds).toArray nd) :: pre) ++ (ds.map Ent.obj ++ R)))) (h1 : Holds c mk p q ord es) (h2 : Holds c mk p q ord ds) (hf : Fine es)
    (hu : A.units + 64 < cLine) (h : Q (.bool false) s) : wpAny (model theProg w) A (compareOp .NotEq (.ref gl) (.ref ad)) Q E s := by
  refine cmp_same N (.tail _ (.tail _ (.tail _ (.head _)))) (.tail _ (.tail _ (.tail _ (.tail _ (List.mem_append_right _ (.head _)))))) (ents_dat fun x hx => .tail _ (.tail _ (.tail _ (.tail _ (List.mem_append_left _ hx))))) ?_ (ents_ok hf) hu h
  rw [holds_same h1 h2]
  exact ents_dat fun x hx => .tail _ (.tail _ (.tail _ (.tail _ (List.mem_append_right _ (List.mem_append_right _ (List.mem_append_left _ hx))))))
theorem items_out {g h : Heap} {x y : Addr × Obj} (N : News g L h (x :: book w tok b bd gl es kk ((y :: pre) ++ R))) : News g L h (pre ++ book w tok b bd gl es kk R) := nwT (book_to (pre := y :: pre) (nwT N))
end
end
theorem Does.tk {w : World} {mean : ExcName → Option Value} {mg mb : Str → Option Value} {n : Nat} {f : Value} {vs : List Value} {kw : List (Str × Value)} {news : List (Addr × Obj)} {Post : Value → List (Addr × Obj) → Prop}
    {A₀ A : Around} {env : Env} {outer : List Env} {base h₀ : Heap} {L : Addr} {m : Str → Option Value} {s : Shared} {Q E : Value → Shared → Prop} {k : Nat}
    (D : Does w mean mg mb n f vs kw news Post) (H : Here w mean mg mb A₀ A env outer base h₀ s.heap L m news) (hd : A.depth + n < 900) (hu : A.units + 8 * n < 9000) (hk : TokIs k s.toks)
    (h : ∀ v tl h' tk', TokIs k tk' → Fr h₀ L h' m → News h₀ L h' tl → Post v tl → Q v { s with heap := h', toks := tk' }) : wpAny (model theProg w) A (call f vs kw) Q E s := by
  refine wpAny_mono (wpAny_toks_of hk.le (D A₀ A env outer base h₀ L m s (fun v s' => ∃ tl h' tk', s' = { s with heap := h', toks := tk' } ∧ Fr h₀ L h' m ∧ News h₀ L h' tl ∧ Post v tl) E H hd hu fun v tl h' tk' F N P => ⟨tl, h', tk', rfl, F, N, P⟩)) ?_ fun _ _ h => h.2
  rintro v s' ⟨htk, tl, h', tk', rfl, F, N, P⟩
  exact h v tl h' tk' ⟨htk⟩ F N P
theorem fr_still {g g' h : Heap} {L : Addr} {m : Str → Option Value} (T : KtsTurn [] g g') (F : Fr g' L h m) : Fr g L h m :=
  ⟨F.ns, fun b o e => F.keep b o (T.other b o e (fun q => nomatch q)), by rw [← T.size]; exact F.above⟩

--needs: 10 20 26 43 44 45 46 50 56
theorem md79 : True := trivial
theorem mark_item (x : Int) : ∃ mk, Mark mk ∧ Txt.item (Str.ofString "|!/x (") (Int.fmod x 6) = S [mk] := by
  have h0 := Int.fmod_nonneg_of_pos x (b := 6) (by omega)
  have h1 := Int.fmod_lt_of_pos x (b := 6) (by omega)
  generalize Int.fmod x 6 = y at *
  have h : y = 0 ∨ y = 1 ∨ y = 2 ∨ y = 3 ∨ y = 4 ∨ y = 5 := by omega
  rcases h with rfl | rfl | rfl | rfl | rfl | rfl
  · exact ⟨124, .inl rfl, rfl⟩
  · exact ⟨33, .inr (.inl rfl), rfl⟩
  · exact ⟨47, .inr (.inr (.inl rfl)), rfl⟩
  · exact ⟨120, .inr (.inr (.inr (.inl rfl))), rfl⟩
  · exact ⟨32, .inr (.inr (.inr (.inr (.inl rfl)))), rfl⟩
  · exact ⟨40, .inr (.inr (.inr (.inr (.inr rfl)))), rfl⟩
theorem letter_item (x : Int) : ∃ c, Letter c ∧ Txt.item (Str.ofString "zQkR") (Int.fmod x 4) = S [c] := by
  have h0 := Int.fmod_nonneg_of_pos x (b := 4) (by omega)
  have h1 := Int.fmod_lt_of_pos x (b := 4) (by omega)
  generalize Int.fmod x 4 = y at *
  have h : y = 0 ∨ y = 1 ∨ y = 2 ∨ y = 3 := by omega
  rcases h with rfl | rfl | rfl | rfl
  · exact ⟨122, .inl rfl, rfl⟩
  · exact ⟨81, .inr (.inl rfl), rfl⟩
  · exact ⟨107, .inr (.inr (.inl rfl)), rfl⟩
  · exact ⟨82, .inr (.inr (.inr rfl)), rfl⟩
/- p and q as the law makes them -/
structure PQ (p q : Int) : Prop where
  lp : p.natAbs ≤ 9
  lq : q.natAbs ≤ 37
  cop : ∀ d : Int, d ∣ p → d ∣ q → d ∣ 1
theorem pq_made (c0 c1 c2 : Int) : PQ (Int.fmod c0 19 - 9) ((Int.fmod c1 9 - 4) * (Int.fmod c0 19 - 9) + Int.fmod c2 2 * 2 - 1) := by
  have a0 := Int.fmod_nonneg_of_pos c0 (b := 19) (by omega)
  have a1 := Int.fmod_lt_of_pos c0 (b := 19) (by omega)
  have b0 := Int.fmod_nonneg_of_pos c1 (b := 9) (by omega)
  have b1 := Int.fmod_lt_of_pos c1 (b := 9) (by omega)
  have e0 := Int.fmod_nonneg_of_pos c2 (b := 2) (by omega)
  have e1 := Int.fmod_lt_of_pos c2 (b := 2) (by omega)
  generalize Int.fmod c0 19 = x at *
  generalize Int.fmod c1 9 = y at *
  generalize Int.fmod c2 2 = z at *
  have hp : (x - 9).natAbs ≤ 9 := by omega
  have hk : (y - 4).natAbs ≤ 4 := by omega
  have hm : ((y - 4) * (x - 9)).natAbs ≤ 4 * 9 := by rw [Int.natAbs_mul]; exact Nat.mul_le_mul hk hp
  refine ⟨hp, ?_, fun d h1 h2 => ?_⟩
  · generalize (y - 4) * (x - 9) = u at *
    omega
  · refine cop_pq (e := z * 2 - 1) (by omega) d h1 (k := y - 4) ?_
    rw [← Int.add_sub_assoc]
    exact h2
theorem abs_same {a b : Int} (h : a.natAbs = b.natAbs) : (if a < 0 then -a else a) = if b < 0 then -b else b := by
  split <;> split <;> omega
theorem holds_nm {c m : Nat} {p q : Int} {ord : List Nat} {es : List Ent} (H : Holds c m p q ord es) {e : Ent} (he : e ∈ es) : ∃ j, e.n = nm j c := by
  have h : (e.n, e.v) ∈ pairs c m p q ord := by rw [← H]; exact List.mem_map_of_mem (f := fun e : Ent => (e.n, e.v)) he
  obtain ⟨j, _, hj⟩ := List.mem_flatMap.mp h
  simp only [List.mem_cons, List.not_mem_nil, or_false, Prod.mk.injEq] at hj
  rcases hj with hj | hj
  · exact ⟨j, hj.1⟩
  · exact ⟨j, hj.1⟩
theorem no_name {c m : Nat} {p q : Int} {ord : List Nat} {es : List Ent} (H : Holds c m p q ord es) {x : List Nat} (hx : ∀ j, nm j (lo1 c) ≠ x) : (es.find? (fun e => e.n.map lo1 == x)).isSome = false := by
  have : es.find? (fun e => e.n.map lo1 == x) = none := by
    rw [List.find?_eq_none]
    intro e he
    obtain ⟨j, hj⟩ := holds_nm H he
    rw [hj, nm_map rfl]
    simpa using hx j
  rw [this]
  rfl
theorem lo_not {c : Nat} (hc : Letter c) : lo1 c ≠ 34 ∧ lo1 34 = 34 := by
  rcases hc with rfl | rfl | rfl | rfl <;> decide
/- the law's strange names -/
noncomputable def odd3 (k c : Nat) : List (List Nat) := [[], List.replicate k 34, List.replicate k 34 ++ List.replicate 2 c]
theorem odd_no {c k : Nat} (hc : Letter c) {x : List Nat} (hx : x ∈ odd3 k c) (j : Nat) : nm j (lo1 c) ≠ x.map lo1 := by
  obtain ⟨h1, h2⟩ := lo_not hc
  intro e
  have e2 := congrArg List.reverse e
  simp only [odd3, List.mem_cons, List.not_mem_nil, or_false] at hx
  rcases hx with rfl | rfl | rfl
  · simp [nm] at e
  · rw [List.map_replicate, h2] at e
    have : lo1 c ∈ List.replicate k 34 := by rw [← e]; simp [nm]
    exact h1 (List.eq_of_mem_replicate this)
  · rw [List.map_append, List.map_replicate, List.map_replicate, h2] at e2
    simp only [nm, List.reverse_append, List.reverse_replicate, List.reverse_cons, List.reverse_nil, List.nil_append, List.cons_append, List.replicate] at e2
    injection e2 with _ e3
    cases j with
    | zero => simp at e3
    | succ j =>
      rw [List.replicate_succ] at e3
      injection e3 with e4 _
      exact h1 e4.symm
theorem odd_fine {c k : Nat} (hc : Letter c) (hk : k ≤ 100) {x : List Nat} (hx : x ∈ odd3 k c) : (∀ d ∈ x, 32 ≤ d ∧ d < 127) ∧ x.length ≤ 9000 := by
  have hl := letter_ne hc
  simp only [odd3, List.mem_cons, List.not_mem_nil, or_false] at hx
  rcases hx with rfl | rfl | rfl
  · exact ⟨fun d hd => by simp at hd, by simp⟩
  · exact ⟨fun d hd => by have := List.eq_of_mem_replicate hd; omega, by simp; omega⟩
  · refine ⟨fun d hd => ?_, by simp; omega⟩
    rcases List.mem_append.mp hd with hd | hd
    · have := List.eq_of_mem_replicate hd; omega
    · have := List.eq_of_mem_replicate hd; omega
theorem Does.mono {w : World} {mean : ExcName → Option Value} {mg mb : Str → Option Value} {n : Nat} {f : Value} {vs : List Value} {kw : List (Str × Value)} {news : List (Addr × Obj)} {Post Post' : Value → List (Addr × Obj) → Prop}
    (D : Does w mean mg mb n f vs kw news Post) (h : ∀ v tl, Post v tl → Post' v tl) : Does w mean mg mb n f vs kw news Post' := fun A₀ A env outer base h₀ L m s Q E H hd hu hret =>
  D A₀ A env outer base h₀ L m s Q E H hd hu fun v tl h' tk' F N P => hret v tl h' tk' F N (h v tl P)
theorem odd_at {e0 e1 e2 : Tok} {k c : Nat} {v : Value} : ∀ {i : Nat}, ([.str (S []) e0, .str (S (List.replicate k 34)) e1, .str (S (List.replicate k 34 ++ List.replicate 2 c)) e2] : List Value).toArray[i]? = some v → ∃ x t, v = .str (S x) t ∧ x ∈ odd3 k c
  | 0, h => ⟨_, e0, by simpa using h.symm, .head _⟩
  | 1, h => ⟨_, e1, by simpa using h.symm, .tail _ (.head _)⟩
  | 2, h => ⟨_, e2, by simpa using h.symm, .tail _ (.tail _ (.head _))⟩
  | i + 3, h => by simp at h

--needs: 10 11 20 30 53 54 57 61 72 73 74 76 77 78 79 49 52 55 56 36
theorem md80 : True := trivial
/- a statement's end: the next one begins, and this is known of the heap and of the tokens -/
noncomputable def EndR (gg : Array GenState) (dd : Drawn) (oo : OsState) (R : Heap → Nat → Prop) (f : Flow) (s' : Shared) : Prop := f = .next ∧ ∃ h' k', s' = ⟨h', gg, dd, k', oo⟩ ∧ R h' k'
section
variable {w : World} {A : Around} {E : Value → Shared → Prop} {gg : Array GenState} {dd : Drawn} {oo : OsState} {h : Heap} {k : Nat} {c : Stmt} {rest : List Stmt} {env : Env} {Q : Flow → Shared → Prop}
theorem EndR.intro {R : Heap → Nat → Prop} {h' : Heap} {k' : Nat} (hr : R h' k') : EndR gg dd oo R .next ⟨h', gg, dd, k', oo⟩ := ⟨rfl, h', k', rfl, hr⟩
theorem seq_cut (R : Heap → Nat → Prop) (h1 : wpAny (model theProg w) A (exec c env) (EndR gg dd oo R) E ⟨h, gg, dd, k, oo⟩) (h2 : ∀ h' k', R h' k' → wpAny (model theProg w) A (execs rest env) Q E ⟨h', gg, dd, k', oo⟩) :
    wpAny (model theProg w) A (execs (c :: rest) env) Q E ⟨h, gg, dd, k, oo⟩ := by
  refine wpAny_execs_cons (wpAny_mono h1 ?_ fun _ _ h => h)
  rintro f s' ⟨rfl, h', k', rfl, hr⟩
  exact h2 h' k' hr
/- the same, with a bound for the tokens -/
theorem seq_tk {n : Nat} (hn : TokIs n k) (R : Heap → Prop) (h1 : wpAny (model theProg w) A (exec c env) (EndR gg dd oo fun h _ => R h) E ⟨h, gg, dd, k, oo⟩) (h2 : ∀ h' k', TokIs n k' → R h' → wpAny (model theProg w) A (execs rest env) Q E ⟨h', gg, dd, k', oo⟩) :
    wpAny (model theProg w) A (execs (c :: rest) env) Q E ⟨h, gg, dd, k, oo⟩ := by
  refine wpAny_execs_cons (wpAny_mono (wpAny_toks_of hn.le h1) ?_ fun _ _ h => h.2)
  rintro f s' ⟨htk, rfl, h', k', rfl, hr⟩
  exact h2 h' k' ⟨htk⟩ hr
end
/- the law's rest from its i-th statement on -/
@[irreducible] noncomputable def LawP (b : Bd) (fa : Addr) (z : Value) (i n : Nat) (mm : Str → Option Value) (news : List (Addr × Obj)) : Prop :=
  ∀ h k, TokIs n k → Stat (bw b) (bMean b) (bMg b) (bMb b) (bA0 b) (calm (bAr b)) (envOfC (codeAt (bw b) 396).2.1 (codeAt (bw b) 396).2.2.1 (bL b) fa z) (bOuter b) (bBase b) (bG b) (bL b) 200 → Fr (bG b) (bL b) h mm → News (bG b) (bL b) h news →
    PassesOwn (model theProg (bw b)) (calm (bAr b)) (envOfC (codeAt (bw b) 396).2.1 (codeAt (bw b) 396).2.2.1 (bL b) fa z) (bE b) → (∀ h' k' m', Fr (bG b) (bL b) h' m' → bQ b (.ret (.bool true)) ⟨h', bGens b, bDrawn b, k', bOs b⟩) →
    wpAny (model theProg (bw b)) (calm (bAr b)) (execs ((codeAt (bw b) 396).1.drop i) (envOfC (codeAt (bw b) 396).2.1 (codeAt (bw b) 396).2.2.1 (bL b) fa z)) (bQ b) (bE b) ⟨h, bGens b, bDrawn b, k, bOs b⟩
section
variable {b : Bd} {fa : Addr} {z : Value} {i n : Nat} {mm : Str → Option Value} {news : List (Addr × Obj)} {name qual : Str} {params : Arguments} {body : List Stmt} {scope : Scope} {dV kV doc pm cdv ct oc : Value} {an od : Option Addr} {osl : Array (Option Value)}
theorem LawP.start {c : Stmt} {r : List Stmt} (ho : (Mine.x.heap_1_39 (bw b).params).lookup 396 = some ⟨oc, od, .func (fnOf name qual params body scope dV kV doc pm an cdv ct), osl⟩) (e : body.drop i = c :: r)
    (hb : ∀ h k, TokIs n k → Stat (bw b) (bMean b) (bMg b) (bMb b) (bA0 b) (calm (bAr b)) (envOfC qual scope (bL b) fa z) (bOuter b) (bBase b) (bG b) (bL b) 200 → Fr (bG b) (bL b) h mm → News (bG b) (bL b) h news →
      PassesOwn (model theProg (bw b)) (calm (bAr b)) (envOfC qual scope (bL b) fa z) (bE b) → (∀ h' k' m', Fr (bG b) (bL b) h' m' → bQ b (.ret (.bool true)) ⟨h', bGens b, bDrawn b, k', bOs b⟩) →
      wpAny (model theProg (bw b)) (calm (bAr b)) (execs (c :: r) (envOfC qual scope (bL b) fa z)) (bQ b) (bE b) ⟨h, bGens b, bDrawn b, k, bOs b⟩) : LawP b fa z i n mm news := by
  rw [LawP, codeAt_of ho, e]
  exact hb
theorem LawP.use {r : List Stmt} (ho : (Mine.x.heap_1_39 (bw b).params).lookup 396 = some ⟨oc, od, .func (fnOf name qual params body scope dV kV doc pm an cdv ct), osl⟩) (e : body.drop i = r) (h : LawP b fa z i n mm news) {h' : Heap} {k : Nat}
    (hn : TokIs n k) (St : Stat (bw b) (bMean b) (bMg b) (bMb b) (bA0 b) (calm (bAr b)) (envOfC qual scope (bL b) fa z) (bOuter b) (bBase b) (bG b) (bL b) 200) (F : Fr (bG b) (bL b) h' mm) (N : News (bG b) (bL b) h' news)
    (hPO : PassesOwn (model theProg (bw b)) (calm (bAr b)) (envOfC qual scope (bL b) fa z) (bE b)) (fin : ∀ h' k' m', Fr (bG b) (bL b) h' m' → bQ b (.ret (.bool true)) ⟨h', bGens b, bDrawn b, k', bOs b⟩) :
    wpAny (model theProg (bw b)) (calm (bAr b)) (execs r (envOfC qual scope (bL b) fa z)) (bQ b) (bE b) ⟨h', bGens b, bDrawn b, k, bOs b⟩ := by
  rw [LawP, codeAt_of ho, e] at h
  exact h _ _ hn St F N hPO fin
end
theorem law_enter {w : World} {mean : ExcName → Option Value} {mg mb : Str → Option Value} {s : Shared} {fa L : Addr} {z : Value} {mm : Str → Option Value} {news : List (Addr × Obj)} {Q : Flow → Shared → Prop} {E : Value → Shared → Prop} {h₁ : Heap} {tk₁ : Nat}
    {name qual : Str} {params : Arguments} {body : List Stmt} {scope : Scope} {dV kV doc pm cdv ct oc : Value} {an od : Option Addr} {osl : Array (Option Value)}
    (ho : (Mine.x.heap_1_39 w.params).lookup 396 = some ⟨oc, od, .func (fnOf name qual params body scope dV kV doc pm an cdv ct), osl⟩)
    (h : LawP (w, mean, mg, mb, callerA, callerA.deeper (envOfC qual scope L fa z), s.heap, [], s.heap, L, s.gens, s.drawn, s.os, Q, E, h₁, tk₁) fa z 0 0 mm news) (hk : scope.kind = .function)
    (B : Below callerA s.heap [] s.heap) (X : (Mine.x.heap_1_39 w.params).In s.heap) (T : Top Mine.x.view_1_40 theLoose mean mg mb s.heap) (F : Fr s.heap L h₁ mm) (N : News s.heap L h₁ news)
    (hPO : PassesOwn (model theProg w) (callerA.deeper (envOfC qual scope L fa z)) (envOfC qual scope L fa z) E) (fin : ∀ h' k' m', Fr s.heap L h' m' → Q (.ret (.bool true)) ⟨h', s.gens, s.drawn, k', s.os⟩) :
    wpAny (model theProg w) (callerA.deeper (envOfC qual scope L fa z)) (execs body (envOfC qual scope L fa z)) Q E ⟨h₁, s.gens, s.drawn, tk₁, s.os⟩ := by
  rw [LawP, codeAt_of (w := bw (w, mean, mg, mb, callerA, callerA.deeper (envOfC qual scope L fa z), s.heap, [], s.heap, L, s.gens, s.drawn, s.os, Q, E, h₁, tk₁)) (by with_unfolding_all exact ho)] at h
  with_unfolding_all exact h _ _ ⟨Nat.zero_le _⟩ ⟨B, X, T, rfl, rfl, hk, rfl, by show callerA.depth + 1 + 200 < 900; decide, by show callerA.units + 3 + 8 * 200 < 9000; decide⟩ F N hPO fin
theorem cell_S {o : Obj} {x : Str} {l : List Nat} {t : Tok} (h : o.data = .cell (some (.str x t))) (e : x = S l) : o.data = .cell (some (.str (S l) t)) := e ▸ h
theorem places_made (x : Int) : ∃ k : Nat, 1 ≤ k ∧ k ≤ 20 ∧ 1 + Int.fmod x 20 = (k : Int) := by
  have h0 := Int.fmod_nonneg_of_pos x (b := 20) (by omega)
  have h1 := Int.fmod_lt_of_pos x (b := 20) (by omega)
  exact ⟨(1 + Int.fmod x 20).toNat, by omega, by omega, by omega⟩
theorem max_made {k1 k2 k3 : Nat} {M : Int} (h1 : k1 ≤ 20) (h2 : k2 ≤ 20) (h3 : k3 ≤ 20) (hM : M ∈ [(k1 : Int), (k2 : Int), (k3 : Int)]) (hall : ∀ a, a ∈ [(k1 : Int), (k2 : Int), (k3 : Int)] → a ≤ M) : ∃ mx : Nat, k1 ≤ mx ∧ k2 ≤ mx ∧ k3 ≤ mx ∧ mx ≤ 20 ∧ M = mx := by
  have a1 := hall k1 (by simp)
  have a2 := hall k2 (by simp)
  have a3 := hall k3 (by simp)
  refine ⟨M.toNat, by omega, by omega, by omega, ?_, by omega⟩
  simp only [List.mem_cons, List.not_mem_nil, or_false] at hM
  omega
theorem row_muls {p q : Int} (h : PQ p q) {n : Nat} (hn : n ≤ 40) : IntMulOk p (U p q n) ∧ IntMulOk q (U p q n) := by
  have ha := (Small.mk (c := 122) (m := 124) (.inl rfl) (.inl rfl) h.lp h.lq).ub hn
  have hp : p.natAbs < 2 ^ 8 := Nat.lt_of_le_of_lt h.lp (by decide)
  have hq : q.natAbs < 2 ^ 8 := Nat.lt_of_le_of_lt h.lq (by decide)
  exact ⟨mul_ok (lt_pow_up hp (by omega)) (lt_pow_up ha (by omega)), mul_ok (lt_pow_up hq (by omega)) (lt_pow_up ha (by omega))⟩
theorem row_snoc {p q x : Int} {t : Tok} {i : Nat} {rs : List Value} (h : IntsAre rs ((List.range (i + 2)).map (U p q))) (e : x = p * U p q (i + 1) - q * U p q i) : IntsAre (rs ++ [.int x t]) ((List.range (i + 1 + 2)).map (U p q)) := by
  have h2 := ints_snoc (n := x) (t := t) h
  refine ints_cast h2 ?_
  have e2 : List.range (i + 1 + 2) = List.range (i + 2) ++ [i + 2] := List.range_succ
  rw [e2, List.map_append, e]
  rfl
theorem row_m1 {w : World} {A : Around} {E : Value → Shared → Prop} {s : Shared} {value slice : Expr} {l : Addr} {rs : List Value} {p q : Int} {i : Nat} {u : Tok} {Q : Value → Shared → Prop} (hl : s.heap.IsList l rs.toArray) (hi : IntsAre rs ((List.range (i + 2)).map (U p q)))
    (h : ∀ t, Q (.int (U p q (i + 1)) t) s)
    (hs : subscripted slice false (.ref l) (.int (-1) u) = operate [.ref l, .int (-1) u] (getItem (.ref l) (.int (-1) u)) := by with_unfolding_all rfl) (hg : ∀ r, letTemporaryGo value (.ref l) r = pure () := by intro _; with_unfolding_all rfl) :
    wpAny (model theProg w) A (subscriptTail value slice (.ref l) (.int (-1) u)) Q E s := by
  have hlen : ((List.range (i + 2)).map (U p q)).length = i + 2 := by simp
  refine item_list_ints_neg hl hi (by omega) (by omega) (by omega) (fun t => ?_) hs hg
  rw [show (-1 + (((List.range (i + 2)).map (U p q)).length : Int)).toNat = i + 1 by omega]
  have : ((List.range (i + 2)).map (U p q)).getD (i + 1) 0 = U p q (i + 1) := by simp [List.getD_eq_getElem?_getD]
  rw [this]
  exact h t
theorem row_m2 {w : World} {A : Around} {E : Value → Shared → Prop} {s : Shared} {value slice : Expr} {l : Addr} {rs : List Value} {p q : Int} {i : Nat} {u : Tok} {Q : Value → Shared → Prop} (hl : s.heap.IsList l rs.toArray) (hi : IntsAre rs ((List.range (i + 2)).map (U p q)))
    (h : ∀ t, Q (.int (U p q i) t) s)
    (hs : subscripted slice false (.ref l) (.int (-2) u) = operate [.ref l, .int (-2) u] (getItem (.ref l) (.int (-2) u)) := by with_unfolding_all rfl) (hg : ∀ r, letTemporaryGo value (.ref l) r = pure () := by intro _; with_unfolding_all rfl) :
    wpAny (model theProg w) A (subscriptTail value slice (.ref l) (.int (-2) u)) Q E s := by
  have hlen : ((List.range (i + 2)).map (U p q)).length = i + 2 := by simp
  refine item_list_ints_neg hl hi (by omega) (by omega) (by omega) (fun t => ?_) hs hg
  rw [show (-2 + (((List.range (i + 2)).map (U p q)).length : Int)).toNat = i by omega]
  have : ((List.range (i + 2)).map (U p q)).getD i 0 = U p q i := by simp [List.getD_eq_getElem?_getD]
  rw [this]
  exact h t
theorem ints_nat_cons {v : Value} {r : List Value} : ∀ {td : List Nat}, IntsAre (v :: r) (natsI td) → ∃ k td' t, td = k :: td' ∧ v = .int ((k : Nat) : Int) t ∧ IntsAre r (natsI td')
  | _ :: _, .cons _ t h => ⟨_, _, t, rfl, rfl, h⟩
theorem ints_nat_nil : ∀ {td : List Nat}, IntsAre [] (natsI td) → td = []
  | [], _ => rfl
theorem gd3 (x y z : Int) : [x, y, z].getD (Int.toNat 0) 0 = x := rfl
theorem news_two {g h : Heap} {L a : Addr} {x y : Int} {t u : Tok} {n : Nat} {r : List (Addr × Obj)} {k1 k2 : Nat} (N : News g L h ((a, listOf #[.int x t, .int y u] n) :: r)) (e1 : x = k1) (e2 : y = k2) : News g L h ((a, listOf [.int k1 t, .int k2 u].toArray n) :: r) := by
  subst e1 e2
  exact N
/- at the law's own level no frame stands outside: the ground has not turned -/
theorem news_top {h₀ g' h' : Heap} {L : Addr} {news : List (Addr × Obj)} (T : KtsTurn [] h₀ g') (N : News g' L h' news) : News h₀ L h' news := fun p hp =>
  ⟨(N p hp).1, (N p hp).2.1, by
    cases e : h₀.get? p.1 with
    | none => rfl
    | some o =>
      have h1 := T.other _ _ e (fun h => nomatch h)
      rw [(N p hp).2.2] at h1
      cases h1⟩
section

noncomputable section
theorem md81 : True := trivial
noncomputable def PxL8 (bb : Bd) (fa : Addr) (z : Value) (m1 : Str → Option Value) (lt : Nat) (mk : Nat) (p : Int) (q : Int) (tp : Tok) (tq : Tok) (tm : Tok) (tl : Tok) (oP : Obj) (oQ : Obj) (oM : Obj) (oL : Obj) (oR : Obj) (pl : Addr) (np : Nat) (ta : Tok) (tb : Tok) (tc : Tok) (k1 : Nat) (k2 : Nat) (k3 : Nat) (rw' : Addr) (nr : Nat) (mx : Nat) (rs : List Value) (gl : Addr) (oB : Obj) (b : Addr) (bd : Addr) (es : List Ent) (kk : Nat) (tok : Tok) (tv : Addr) (R' : List (Addr × Obj)) (D0 : Addr) (D1 : Addr) (D2 : Addr) (x0 : Tok) (x1 : Tok) (n0 : Nat) : Prop :=
  bBase bb = bG bb → bOuter bb = [] → Letter lt → Mark mk → PQ p q → tm ≠ 0 → 1 ≤ k1 → k1 ≤ 20 → 1 ≤ k2 → k2 ≤ 20 → oP.data = .cell (some (.int p tp)) → oQ.data = .cell (some (.int q tq)) → oM.data = .cell (some (.str (S [mk]) tm)) → oL.data = .cell (some (.str (S [lt]) tl)) → oR.data = .cell (some (.ref rw')) → @LT.lt Nat _ (bL bb + 1 + 1 + 1 + 1 + 1 + 1) pl → Nat.gcd k1 k2 = k3 → k3 ≤ 20 → @LT.lt Nat _ pl rw' → k1 ≤ mx → k2 ≤ mx → k3 ≤ mx → mx ≤ 20 → IntsAre rs ((List.range (mx + 2)).map (U p q)) → @LT.lt Nat _ rw' gl → oB.data = .cell (some (.ref b)) → Fine es → Holds lt mk p q (ordAt [k1, k2, k3]) es → (D0, listOf [.int (U p q k1) x0, .int (U p q (k1 + 1)) x1].toArray n0) ∈ R' → (∀ x ∈ R', x ∈ ((tv, LCg.lst [.ref D0, .ref D1, .ref D2]) :: (rw', listOf rs.toArray nr) :: (pl, listOf [.int k1 ta, .int k2 tb, .int k3 tc].toArray np) :: (bL bb + 1 + 1 + 1 + 1 + 1 + 1, oB) :: (bL bb + 1 + 1 + 1 + 1 + 1, oR) :: (bL bb + 1 + 1 + 1 + 1, oL) :: (bL bb + 1 + 1 + 1, oM) :: (bL bb + 1 + 1, oQ) :: (bL bb + 1, oP) :: book (bw bb) tok b bd gl es kk R')) →
  LawP bb fa z 18 (tm + 1) (kstB m1 [(Str.ofString "places", .ref pl), (Str.ofString "told", .ref tv)]) ((tv, LCg.lst [.ref D0, .ref D1, .ref D2]) :: (rw', listOf rs.toArray nr) :: (pl, listOf [.int k1 ta, .int k2 tb, .int k3 tc].toArray np) :: (bL bb + 1 + 1 + 1 + 1 + 1 + 1, oB) :: (bL bb + 1 + 1 + 1 + 1 + 1, oR) :: (bL bb + 1 + 1 + 1 + 1, oL) :: (bL bb + 1 + 1 + 1, oM) :: (bL bb + 1 + 1, oQ) :: (bL bb + 1, oP) :: book (bw bb) tok b bd gl es kk R')
theorem neL8 : Nonempty (Bd × Addr × Value × (Str → Option Value) × Nat × Nat × Int × Int × Tok × Tok × Tok × Tok × Obj × Obj × Obj × Obj × Obj × Addr × Nat × Tok × Tok × Tok × Nat × Nat × Nat × Addr × Nat × Nat × (List Value) × Addr × Obj × Addr × Addr × (List Ent) × Nat × Tok × Addr × (List (Addr × Obj)) × Addr × Addr × Addr × Tok × Tok × Nat) := bd_ne.elim fun bb => ⟨(bb, 0, .none, fun _ => none, 0, 0, 0, 0, 0, 0, 0, 0, default, default, default, default, default, 0, 0, 0, 0, 0, 0, 0, 0, 0, 0, 0, [], 0, default, 0, 0, [], 0, 0, 0, [], 0, 0, 0, 0, 0, 0)⟩
@[irreducible] noncomputable def DL8 : Bd × Addr × Value × (Str → Option Value) × Nat × Nat × Int × Int × Tok × Tok × Tok × Tok × Obj × Obj × Obj × Obj × Obj × Addr × Nat × Tok × Tok × Tok × Nat × Nat × Nat × Addr × Nat × Nat × (List Value) × Addr × Obj × Addr × Addr × (List Ent) × Nat × Tok × Addr × (List (Addr × Obj)) × Addr × Addr × Addr × Tok × Tok × Nat := @Classical.epsilon _ neL8 fun d => ¬ PxL8 d.1 d.2.1 d.2.2.1 d.2.2.2.1 d.2.2.2.2.1 d.2.2.2.2.2.1 d.2.2.2.2.2.2.1 d.2.2.2.2.2.2.2.1 d.2.2.2.2.2.2.2.2.1 d.2.2.2.2.2.2.2.2.2.1 d.2.2.2.2.2.2.2.2.2.2.1 d.2.2.2.2.2.2.2.2.2.2.2.1 d.2.2.2.2.2.2.2.2.2.2.2.2.1 d.2.2.2.2.2.2.2.2.2.2.2.2.2.1 d.2.2.2.2.2.2.2.2.2.2.2.2.2.2.1 d.2.2.2.2.2.2.2.2.2.2.2.2.2.2.2.1 d.2.2.2.2.2.2.2.2.2.2.2.2.2.2.2.2.1 d.2.2.2.2.2.2.2.2.2.2.2.2.2.2.2.2.2.1 d.2.2.2.2.2.2.2.2.2.2.2.2.2.2.2.2.2.2.1 d.2.2.2.2.2.2.2.2.2.2.2.2.2.2.2.2.2.2.2.1 d.2.2.2.2.2.2.2.2.2.2.2.2.2.2.2.2.2.2.2.2.1 d.2.2.2.2.2.2.2.2.2.2.2.2.2.2.2.2.2.2.2.2.2.1 d.2.2.2.2.2.2.2.2.2.2.2.2.2.2.2.2.2.2.2.2.2.2.1 d.2.2.2.2.2.2.2.2.2.2.2.2.2.2.2.2.2.2.2.2.2.2.2.1 d.2.2.2.2.2.2.2.2.2.2.2.2.2.2.2.2.2.2.2.2.2.2.2.2.1 d.2.2.2.2.2.2.2.2.2.2.2.2.2.2.2.2.2.2.2.2.2.2.2.2.2.1 d.2.2.2.2.2.2.2.2.2.2.2.2.2.2.2.2.2.2.2.2.2.2.2.2.2.2.1 d.2.2.2.2.2.2.2.2.2.2.2.2.2.2.2.2.2.2.2.2.2.2.2.2.2.2.2.1 d.2.2.2.2.2.2.2.2.2.2.2.2.2.2.2.2.2.2.2.2.2.2.2.2.2.2.2.2.1 d.2.2.2.2.2.2.2.2.2.2.2.2.2.2.2.2.2.2.2.2.2.2.2.2.2.2.2.2.2.1 d.2.2.2.2.2.2.2.2.2.2.2.2.2.2.2.2.2.2.2.2.2.2.2.2.2.2.2.2.2.2.1 d.2.2.2.2.2.2.2.2.2.2.2.2.2.2.2.2.2.2.2.2.2.2.2.2.2.2.2.2.2.2.2.1 d.2.2.2.2.2.2.2.2.2.2.2.2.2.2.2.2.2.2.2.2.2.2.2.2.2.2.2.2.2.2.2.2.1 d.2.2.2.2.2.2.2.2.2.2.2.2.2.2.2.2.2.2.2.2.2.2.2.2.2.2.2.2.2.2.2.2.2.1 d.2.2.2.2.2.2.2.2.2.2.2.2.2.2.2.2.2.2.2.2.2.2.2.2.2.2.2.2.2.2.2.2.2.2.1 d.2.2.2.2.2.2.2.2.2.2.2.2.2.2.2.2.2.2.2.2.2.2.2.2.2.2.2.2.2.2.2.2.2.2.2.1 d.2.2.2.2.2.2.2.2.2.2.2.2.2.2.2.2.2.2.2.2.2.2.2.2.2.2.2.2.2.2.2.2.2.2.2.2.1 d.2.2.2.2.2.2.2.2.2.2.2.2.2.2.2.2.2.2.2.2.2.2.2.2.2.2.2.2.2.2.2.2.2.2.2.2.2.1 d.2.2.2.2.2.2.2.2.2.2.2.2.2.2.2.2.2.2.2.2.2.2.2.2.2.2.2.2.2.2.2.2.2.2.2.2.2.2.1 d.2.2.2.2.2.2.2.2.2.2.2.2.2.2.2.2.2.2.2.2.2.2.2.2.2.2.2.2.2.2.2.2.2.2.2.2.2.2.2.1 d.2.2.2.2.2.2.2.2.2.2.2.2.2.2.2.2.2.2.2.2.2.2.2.2.2.2.2.2.2.2.2.2.2.2.2.2.2.2.2.2.1 d.2.2.2.2.2.2.2.2.2.2.2.2.2.2.2.2.2.2.2.2.2.2.2.2.2.2.2.2.2.2.2.2.2.2.2.2.2.2.2.2.2.1 d.2.2.2.2.2.2.2.2.2.2.2.2.2.2.2.2.2.2.2.2.2.2.2.2.2.2.2.2.2.2.2.2.2.2.2.2.2.2.2.2.2.2.1 d.2.2.2.2.2.2.2.2.2.2.2.2.2.2.2.2.2.2.2.2.2.2.2.2.2.2.2.2.2.2.2.2.2.2.2.2.2.2.2.2.2.2.2
namespace VL8
@[irreducible] noncomputable def bb : Bd := DL8.1
@[irreducible] noncomputable def fa : Addr := DL8.2.1
@[irreducible] noncomputable def z : Value := DL8.2.2.1
@[irreducible] noncomputable def m1 : Str → Option Value := DL8.2.2.2.1
@[irreducible] noncomputable def lt : Nat := DL8.2.2.2.2.1
@[irreducible] noncomputable def mk : Nat := DL8.2.2.2.2.2.1
@[irreducible] noncomputable def p : Int := DL8.2.2.2.2.2.2.1
@[irreducible] noncomputable def q : Int := DL8.2.2.2.2.2.2.2.1
@[irreducible] noncomputable def tp : Tok := DL8.2.2.2.2.2.2.2.2.1
@[irreducible] noncomputable def tq : Tok := DL8.2.2.2.2.2.2.2.2.2.1
@[irreducible] noncomputable def tm : Tok := DL8.2.2.2.2.2.2.2.2.2.2.1
@[irreducible] noncomputable def tl : Tok := DL8.2.2.2.2.2.2.2.2.2.2.2.1
@[irreducible] noncomputable def oP : Obj := DL8.2.2.2.2.2.2.2.2.2.2.2.2.1
@[irreducible] noncomputable def oQ : Obj := DL8.2.2.2.2.2.2.2.2.2.2.2.2.2.1
@[irreducible] noncomputable def oM : Obj := DL8.2.2.2.2.2.2.2.2.2.2.2.2.2.2.1
@[irreducible] noncomputable def oL : Obj := DL8.2.2.2.2.2.2.2.2.2.2.2.2.2.2.2.1
@[irreducible] noncomputable def oR : Obj := DL8.2.2.2.2.2.2.2.2.2.2.2.2.2.2.2.2.1
@[irreducible] noncomputable def pl : Addr := DL8.2.2.2.2.2.2.2.2.2.2.2.2.2.2.2.2.2.1
@[irreducible] noncomputable def np : Nat := DL8.2.2.2.2.2.2.2.2.2.2.2.2.2.2.2.2.2.2.1
@[irreducible] noncomputable def ta : Tok := DL8.2.2.2.2.2.2.2.2.2.2.2.2.2.2.2.2.2.2.2.1
@[irreducible] noncomputable def tb : Tok := DL8.2.2.2.2.2.2.2.2.2.2.2.2.2.2.2.2.2.2.2.2.1
@[irreducible] noncomputable def tc : Tok := DL8.2.2.2.2.2.2.2.2.2.2.2.2.2.2.2.2.2.2.2.2.2.1
@[irreducible] noncomputable def k1 : Nat := DL8.2.2.2.2.2.2.2.2.2.2.2.2.2.2.2.2.2.2.2.2.2.2.1
@[irreducible] noncomputable def k2 : Nat := DL8.2.2.2.2.2.2.2.2.2.2.2.2.2.2.2.2.2.2.2.2.2.2.2.1
@[irreducible] noncomputable def k3 : Nat := DL8.2.2.2.2.2.2.2.2.2.2.2.2.2.2.2.2.2.2.2.2.2.2.2.2.1
@[irreducible] noncomputable def rw' : Addr := DL8.2.2.2.2.2.2.2.2.2.2.2.2.2.2.2.2.2.2.2.2.2.2.2.2.2.1
@[irreducible] noncomputable def nr : Nat := DL8.2.2.2.2.2.2.2.2.2.2.2.2.2.2.2.2.2.2.2.2.2.2.2.2.2.2.1
@[irreducible] noncomputable def mx : Nat := DL8.2.2.2.2.2.2.2.2.2.2.2.2.2.2.2.2.2.2.2.2.2.2.2.2.2.2.2.1
@[irreducible] noncomputable def rs : List Value := DL8.2.2.2.2.2.2.2.2.2.2.2.2.2.2.2.2.2.2.2.2.2.2.2.2.2.2.2.2.1
@[irreducible] noncomputable def gl : Addr := DL8.2.2.2.2.2.2.2.2.2.2.2.2.2.2.2.2.2.2.2.2.2.2.2.2.2.2.2.2.2.1
@[irreducible] noncomputable def oB : Obj := DL8.2.2.2.2.2.2.2.2.2.2.2.2.2.2.2.2.2.2.2.2.2.2.2.2.2.2.2.2.2.2.1
@[irreducible] noncomputable def b : Addr := DL8.2.2.2.2.2.2.2.2.2.2.2.2.2.2.2.2.2.2.2.2.2.2.2.2.2.2.2.2.2.2.2.1
@[irreducible] noncomputable def bd : Addr := DL8.2.2.2.2.2.2.2.2.2.2.2.2.2.2.2.2.2.2.2.2.2.2.2.2.2.2.2.2.2.2.2.2.1
@[irreducible] noncomputable def es : List Ent := DL8.2.2.2.2.2.2.2.2.2.2.2.2.2.2.2.2.2.2.2.2.2.2.2.2.2.2.2.2.2.2.2.2.2.1
@[irreducible] noncomputable def kk : Nat := DL8.2.2.2.2.2.2.2.2.2.2.2.2.2.2.2.2.2.2.2.2.2.2.2.2.2.2.2.2.2.2.2.2.2.2.1
@[irreducible] noncomputable def tok : Tok := DL8.2.2.2.2.2.2.2.2.2.2.2.2.2.2.2.2.2.2.2.2.2.2.2.2.2.2.2.2.2.2.2.2.2.2.2.1
@[irreducible] noncomputable def tv : Addr := DL8.2.2.2.2.2.2.2.2.2.2.2.2.2.2.2.2.2.2.2.2.2.2.2.2.2.2.2.2.2.2.2.2.2.2.2.2.1
@[irreducible] noncomputable def R' : List (Addr × Obj) := DL8.2.2.2.2.2.2.2.2.2.2.2.2.2.2.2.2.2.2.2.2.2.2.2.2.2.2.2.2.2.2.2.2.2.2.2.2.2.1
@[irreducible] noncomputable def D0 : Addr := DL8.2.2.2.2.2.2.2.2.2.2.2.2.2.2.2.2.2.2.2.2.2.2.2.2.2.2.2.2.2.2.2.2.2.2.2.2.2.2.1
@[irreducible] noncomputable def D1 : Addr := DL8.2.2.2.2.2.2.2.2.2.2.2.2.2.2.2.2.2.2.2.2.2.2.2.2.2.2.2.2.2.2.2.2.2.2.2.2.2.2.2.1
@[irreducible] noncomputable def D2 : Addr := DL8.2.2.2.2.2.2.2.2.2.2.2.2.2.2.2.2.2.2.2.2.2.2.2.2.2.2.2.2.2.2.2.2.2.2.2.2.2.2.2.2.1
@[irreducible] noncomputable def x0 : Tok := DL8.2.2.2.2.2.2.2.2.2.2.2.2.2.2.2.2.2.2.2.2.2.2.2.2.2.2.2.2.2.2.2.2.2.2.2.2.2.2.2.2.2.1
@[irreducible] noncomputable def x1 : Tok := DL8.2.2.2.2.2.2.2.2.2.2.2.2.2.2.2.2.2.2.2.2.2.2.2.2.2.2.2.2.2.2.2.2.2.2.2.2.2.2.2.2.2.2.1
@[irreducible] noncomputable def n0 : Nat := DL8.2.2.2.2.2.2.2.2.2.2.2.2.2.2.2.2.2.2.2.2.2.2.2.2.2.2.2.2.2.2.2.2.2.2.2.2.2.2.2.2.2.2.2
end VL8
end
theorem epL8 (h : PxL8 VL8.bb VL8.fa VL8.z VL8.m1 VL8.lt VL8.mk VL8.p VL8.q VL8.tp VL8.tq VL8.tm VL8.tl VL8.oP VL8.oQ VL8.oM VL8.oL VL8.oR VL8.pl VL8.np VL8.ta VL8.tb VL8.tc VL8.k1 VL8.k2 VL8.k3 VL8.rw' VL8.nr VL8.mx VL8.rs VL8.gl VL8.oB VL8.b VL8.bd VL8.es VL8.kk VL8.tok VL8.tv VL8.R' VL8.D0 VL8.D1 VL8.D2 VL8.x0 VL8.x1 VL8.n0) (bb : Bd) (fa : Addr) (z : Value) (m1 : Str → Option Value) (lt : Nat) (mk : Nat) (p : Int) (q : Int) (tp : Tok) (tq : Tok) (tm : Tok) (tl : Tok) (oP : Obj) (oQ : Obj) (oM : Obj) (oL : Obj) (oR : Obj) (pl : Addr) (np : Nat) (ta : Tok) (tb : Tok) (tc : Tok) (k1 : Nat) (k2 : Nat) (k3 : Nat) (rw' : Addr) (nr : Nat) (mx : Nat) (rs : List Value) (gl : Addr) (oB : Obj) (b : Addr) (bd : Addr) (es : List Ent) (kk : Nat) (tok : Tok) (tv : Addr) (R' : List (Addr × Obj)) (D0 : Addr) (D1 : Addr) (D2 : Addr) (x0 : Tok) (x1 : Tok) (n0 : Nat) : PxL8 bb fa z m1 lt mk p q tp tq tm tl oP oQ oM oL oR pl np ta tb tc k1 k2 k3 rw' nr mx rs gl oB b bd es kk tok tv R' D0 D1 D2 x0 x1 n0 := eps_at (P := fun d : Bd × Addr × Value × (Str → Option Value) × Nat × Nat × Int × Int × Tok × Tok × Tok × Tok × Obj × Obj × Obj × Obj × Obj × Addr × Nat × Tok × Tok × Tok × Nat × Nat × Nat × Addr × Nat × Nat × (List Value) × Addr × Obj × Addr × Addr × (List Ent) × Nat × Tok × Addr × (List (Addr × Obj)) × Addr × Addr × Addr × Tok × Tok × Nat => PxL8 d.1 d.2.1 d.2.2.1 d.2.2.2.1 d.2.2.2.2.1 d.2.2.2.2.2.1 d.2.2.2.2.2.2.1 d.2.2.2.2.2.2.2.1 d.2.2.2.2.2.2.2.2.1 d.2.2.2.2.2.2.2.2.2.1 d.2.2.2.2.2.2.2.2.2.2.1 d.2.2.2.2.2.2.2.2.2.2.2.1 d.2.2.2.2.2.2.2.2.2.2.2.2.1 d.2.2.2.2.2.2.2.2.2.2.2.2.2.1 d.2.2.2.2.2.2.2.2.2.2.2.2.2.2.1 d.2.2.2.2.2.2.2.2.2.2.2.2.2.2.2.1 d.2.2.2.2.2.2.2.2.2.2.2.2.2.2.2.2.1 d.2.2.2.2.2.2.2.2.2.2.2.2.2.2.2.2.2.1 d.2.2.2.2.2.2.2.2.2.2.2.2.2.2.2.2.2.2.1 d.2.2.2.2.2.2.2.2.2.2.2.2.2.2.2.2.2.2.2.1 d.2.2.2.2.2.2.2.2.2.2.2.2.2.2.2.2.2.2.2.2.1 d.2.2.2.2.2.2.2.2.2.2.2.2.2.2.2.2.2.2.2.2.2.1 d.2.2.2.2.2.2.2.2.2.2.2.2.2.2.2.2.2.2.2.2.2.2.1 d.2.2.2.2.2.2.2.2.2.2.2.2.2.2.2.2.2.2.2.2.2.2.2.1 d.2.2.2.2.2.2.2.2.2.2.2.2.2.2.2.2.2.2.2.2.2.2.2.2.1 d.2.2.2.2.2.2.2.2.2.2.2.2.2.2.2.2.2.2.2.2.2.2.2.2.2.1 d.2.2.2.2.2.2.2.2.2.2.2.2.2.2.2.2.2.2.2.2.2.2.2.2.2.2.1 d.2.2.2.2.2.2.2.2.2.2.2.2.2.2.2.2.2.2.2.2.2.2.2.2.2.2.2.1 d.2.2.2.2.2.2.2.2.2.2.2.2.2.2.2.2.2.2.2.2.2.2.2.2.2.2.2.2.1 d.2.2.2.2.2.2.2.2.2.2.2.2.2.2.2.2.2.2.2.2.2.2.2.2.2.2.2.2.2.1 d.2.2.2.2.2.2.2.2.2.2.2.2.2.2.2.2.2.2.2.2.2.2.2.2.2.2.2.2.2.2.1 d.2.2.2.2.2.2.2.2.2.2.2.2.2.2.2.2.2.2.2.2.2.2.2.2.2.2.2.2.2.2.2.1 d.2.2.2.2.2.2.2.2.2.2.2.2.2.2.2.2.2.2.2.2.2.2.2.2.2.2.2.2.2.2.2.2.1 d.2.2.2.2.2.2.2.2.2.2.2.2.2.2.2.2.2.2.2.2.2.2.2.2.2.2.2.2.2.2.2.2.2.1 d.2.2.2.2.2.2.2.2.2.2.2.2.2.2.2.2.2.2.2.2.2.2.2.2.2.2.2.2.2.2.2.2.2.2.1 d.2.2.2.2.2.2.2.2.2.2.2.2.2.2.2.2.2.2.2.2.2.2.2.2.2.2.2.2.2.2.2.2.2.2.2.1 d.2.2.2.2.2.2.2.2.2.2.2.2.2.2.2.2.2.2.2.2.2.2.2.2.2.2.2.2.2.2.2.2.2.2.2.2.1 d.2.2.2.2.2.2.2.2.2.2.2.2.2.2.2.2.2.2.2.2.2.2.2.2.2.2.2.2.2.2.2.2.2.2.2.2.2.1 d.2.2.2.2.2.2.2.2.2.2.2.2.2.2.2.2.2.2.2.2.2.2.2.2.2.2.2.2.2.2.2.2.2.2.2.2.2.2.1 d.2.2.2.2.2.2.2.2.2.2.2.2.2.2.2.2.2.2.2.2.2.2.2.2.2.2.2.2.2.2.2.2.2.2.2.2.2.2.2.1 d.2.2.2.2.2.2.2.2.2.2.2.2.2.2.2.2.2.2.2.2.2.2.2.2.2.2.2.2.2.2.2.2.2.2.2.2.2.2.2.2.1 d.2.2.2.2.2.2.2.2.2.2.2.2.2.2.2.2.2.2.2.2.2.2.2.2.2.2.2.2.2.2.2.2.2.2.2.2.2.2.2.2.2.1 d.2.2.2.2.2.2.2.2.2.2.2.2.2.2.2.2.2.2.2.2.2.2.2.2.2.2.2.2.2.2.2.2.2.2.2.2.2.2.2.2.2.2.1 d.2.2.2.2.2.2.2.2.2.2.2.2.2.2.2.2.2.2.2.2.2.2.2.2.2.2.2.2.2.2.2.2.2.2.2.2.2.2.2.2.2.2.2) (ne := neL8) (by with_unfolding_all exact h) (bb, fa, z, m1, lt, mk, p, q, tp, tq, tm, tl, oP, oQ, oM, oL, oR, pl, np, ta, tb, tc, k1, k2, k3, rw', nr, mx, rs, gl, oB, b, bd, es, kk, tok, tv, R', D0, D1, D2, x0, x1, n0)
namespace VL8
theorem wL8 : PxL8 bb fa z m1 lt mk p q tp tq tm tl oP oQ oM oL oR pl np ta tb tc k1 k2 k3 rw' nr mx rs gl oB b bd es kk tok tv R' D0 D1 D2 x0 x1 n0 := by
  intro eB eO hlt hmk hpq htm k1l k1u k2l k2u d1 d2 d3 d4 d5 hpl ek3 k3u hrw m1l m2l m3l m4l hrs hgl d6 hFi hH hm0 inR
  refine LawP.start (by k_is) rfl ?_
  intro h' tk' htk St F1 N1 hPO fin
  obtain ⟨B, X, T, hA, _, _, hh, hd, hu⟩ := id St
  simp only [kstB] at F1
  have sm : Small lt mk p q := ⟨hlt, hmk, hpq.lp, hpq.lq⟩
  have N2 := News.also N1 (inR _ hm0)
  clear N1
  k_with "my cat" => (wtm_at "?80-81"; (rw [S_app]))
  k_with "my mul" => (wtm_at "?80-81"; ((try rw [show Str.ofString "\"" = S [34] from rfl]); (try rw [gd3]); (try rw [show (2 : Int) = ((2 : Nat) : Int) from rfl])))
  have b1 := sm.log (n := k1) (by omega)
  have b2 : (dg (U p q k1)).length ≤ 600 := Nat.le_trans (sm.dg (n := k1) (by omega)) (by decide)
  have b3 : (Str.ofString (toString (U p q k1))).length ≤ 1000 := by rw [dg_S, S_length]; omega
  k_steps
  refine ⟨wpAny_execs_cons ?_⟩
  k_steps
  refine ⟨?_⟩
  rename Fr _ _ _ _ => FC
  rename News _ _ _ _ => NC
  refine Does.tk (t_written (tm := tm) rfl b1 b3) ⟨B, FC, X, NC, T, hA, rfl, rfl, rfl⟩ (by k_extra "my room") (by k_extra "my room") (k := tm + 1) ?_ ?_
  · exact ⟨Nat.le_trans htk.le (by first | omega | (dsimp only; omega))⟩
  clear FC NC htk
  rintro v' tl' h' tk' htk F' N' ⟨⟨t', rfl⟩, rfl⟩
  rw [written_S]
  k_steps
  refine ⟨?_⟩
  rename Fr _ _ _ _ => FC
  rename News _ _ _ _ => NC
  refine t_refusals hmk b2 htm _ _ _ _ _ _ _ _ ⟨_, bGens bb, bDrawn bb, _, bOs bb⟩ _ _ ⟨B, FC, X, NC, T, hA, rfl, rfl, rfl⟩ (by rw [eB]; exact X) (by rw [eB]; exact T) (by rw [eO]; exact fun b hb => nomatch hb) (by k_extra "my room") (by k_extra "my room") htk.le ?_
  clear FC NC htk
  rintro v' tl' h' tk' g' O ⟨rfl, rfl⟩
  have OT := O.turn
  rw [eO] at OT
  have F' := fr_still OT O.F
  have N' := news_top OT O.N
  clear O OT
  try dsimp only
  repeat' (first | (k_unfold; (try dsimp only)) | (k_end; wrow_close) | ((try dsimp only); walk1) | (leave1; try dsimp only) | fail "no step")
  refine ⟨?_⟩
  rename Fr _ _ _ _ => FC
  rename News _ _ _ _ => NC
  refine t_unread (c := lt) (k := k1) hlt (by omega) _ _ _ _ _ _ _ _ ⟨_, bGens bb, bDrawn bb, _, bOs bb⟩ _ _ ⟨B, FC, X, NC, T, hA, rfl, rfl, rfl⟩ (by rw [eB]; exact X) (by rw [eB]; exact T) (by rw [eO]; exact fun b hb => nomatch hb) (by k_extra "my room") (by k_extra "my room") ?_
  clear FC NC
  rintro v' tl' h' tk' g' O ⟨rfl, rfl⟩
  have OT := O.turn
  rw [eO] at OT
  have F' := fr_still OT O.F
  clear O OT
  k_steps
  exact fin _ _ _ F'
end VL8
noncomputable section
noncomputable def PxL7 (bb : Bd) (fa : Addr) (z : Value) (m1 : Str → Option Value) (lt : Nat) (mk : Nat) (p : Int) (q : Int) (tp : Tok) (tq : Tok) (tm : Tok) (tl : Tok) (oP : Obj) (oQ : Obj) (oM : Obj) (oL : Obj) (oR : Obj) (pl : Addr) (np : Nat) (ta : Tok) (tb : Tok) (tc : Tok) (k1 : Nat) (k2 : Nat) (k3 : Nat) (rw' : Addr) (nr : Nat) (mx : Nat) (rs : List Value) (gl : Addr) (oB : Obj) (b : Addr) (bd : Addr) (es : List Ent) (kk : Nat) (tok : Tok) (tv : Addr) (R' : List (Addr × Obj)) (D0 : Addr) (D1 : Addr) (D2 : Addr) (x0 : Tok) (x1 : Tok) (n0 : Nat) : Prop :=
  bBase bb = bG bb → bOuter bb = [] → Letter lt → Mark mk → PQ p q → tm ≠ 0 → 1 ≤ k1 → k1 ≤ 20 → 1 ≤ k2 → k2 ≤ 20 → oP.data = .cell (some (.int p tp)) → oQ.data = .cell (some (.int q tq)) → oM.data = .cell (some (.str (S [mk]) tm)) → oL.data = .cell (some (.str (S [lt]) tl)) → oR.data = .cell (some (.ref rw')) → @LT.lt Nat _ (bL bb + 1 + 1 + 1 + 1 + 1 + 1) pl → Nat.gcd k1 k2 = k3 → k3 ≤ 20 → @LT.lt Nat _ pl rw' → k1 ≤ mx → k2 ≤ mx → k3 ≤ mx → mx ≤ 20 → IntsAre rs ((List.range (mx + 2)).map (U p q)) → @LT.lt Nat _ rw' gl → oB.data = .cell (some (.ref b)) → Fine es → Holds lt mk p q (ordAt [k1, k2, k3]) es → (D0, listOf [.int (U p q k1) x0, .int (U p q (k1 + 1)) x1].toArray n0) ∈ R' → (∀ x ∈ R', x ∈ ((tv, LCg.lst [.ref D0, .ref D1, .ref D2]) :: (rw', listOf rs.toArray nr) :: (pl, listOf [.int k1 ta, .int k2 tb, .int k3 tc].toArray np) :: (bL bb + 1 + 1 + 1 + 1 + 1 + 1, oB) :: (bL bb + 1 + 1 + 1 + 1 + 1, oR) :: (bL bb + 1 + 1 + 1 + 1, oL) :: (bL bb + 1 + 1 + 1, oM) :: (bL bb + 1 + 1, oQ) :: (bL bb + 1, oP) :: book (bw bb) tok b bd gl es kk R')) →
  LawP bb fa z 16 (tm + 1) (kstB m1 [(Str.ofString "places", .ref pl), (Str.ofString "told", .ref tv)]) ((tv, LCg.lst [.ref D0, .ref D1, .ref D2]) :: (rw', listOf rs.toArray nr) :: (pl, listOf [.int k1 ta, .int k2 tb, .int k3 tc].toArray np) :: (bL bb + 1 + 1 + 1 + 1 + 1 + 1, oB) :: (bL bb + 1 + 1 + 1 + 1 + 1, oR) :: (bL bb + 1 + 1 + 1 + 1, oL) :: (bL bb + 1 + 1 + 1, oM) :: (bL bb + 1 + 1, oQ) :: (bL bb + 1, oP) :: book (bw bb) tok b bd gl es kk R')
theorem neL7 : Nonempty (Bd × Addr × Value × (Str → Option Value) × Nat × Nat × Int × Int × Tok × Tok × Tok × Tok × Obj × Obj × Obj × Obj × Obj × Addr × Nat × Tok × Tok × Tok × Nat × Nat × Nat × Addr × Nat × Nat × (List Value) × Addr × Obj × Addr × Addr × (List Ent) × Nat × Tok × Addr × (List (Addr × Obj)) × Addr × Addr × Addr × Tok × Tok × Nat) := bd_ne.elim fun bb => ⟨(bb, 0, .none, fun _ => none, 0, 0, 0, 0, 0, 0, 0, 0, default, default, default, default, default, 0, 0, 0, 0, 0, 0, 0, 0, 0, 0, 0, [], 0, default, 0, 0, [], 0, 0, 0, [], 0, 0, 0, 0, 0, 0)⟩
@[irreducible] noncomputable def DL7 : Bd × Addr × Value × (Str → Option Value) × Nat × Nat × Int × Int × Tok × Tok × Tok × Tok × Obj × Obj × Obj × Obj × Obj × Addr × Nat × Tok × Tok × Tok × Nat × Nat × Nat × Addr × Nat × Nat × (List Value) × Addr × Obj × Addr × Addr × (List Ent) × Nat × Tok × Addr × (List (Addr × Obj)) × Addr × Addr × Addr × Tok × Tok × Nat := @Classical.epsilon _ neL7 fun d => ¬ PxL7 d.1 d.2.1 d.2.2.1 d.2.2.2.1 d.2.2.2.2.1 d.2.2.2.2.2.1 d.2.2.2.2.2.2.1 d.2.2.2.2.2.2.2.1 d.2.2.2.2.2.2.2.2.1 d.2.2.2.2.2.2.2.2.2.1 d.2.2.2.2.2.2.2.2.2.2.1 d.2.2.2.2.2.2.2.2.2.2.2.1 d.2.2.2.2.2.2.2.2.2.2.2.2.1 d.2.2.2.2.2.2.2.2.2.2.2.2.2.1 d.2.2.2.2.2.2.2.2.2.2.2.2.2.2.1 d.2.2.2.2.2.2.2.2.2.2.2.2.2.2.2.1 d.2.2.2.2.2.2.2.2.2.2.2.2.2.2.2.2.1 d.2.2.2.2.2.2.2.2.2.2.2.2.2.2.2.2.2.1 d.2.2.2.2.2.2.2.2.2.2.2.2.2.2.2.2.2.2.1 d.2.2.2.2.2.2.2.2.2.2.2.2.2.2.2.2.2.2.2.1 d.2.2.2.2.2.2.2.2.2.2.2.2.2.2.2.2.2.2.2.2.1 d.2.2.2.2.2.2.2.2.2.2.2.2.2.2.2.2.2.2.2.2.2.1 d.2.2.2.2.2.2.2.2.2.2.2.2.2.2.2.2.2.2.2.2.2.2.1 d.2.2.2.2.2.2.2.2.2.2.2.2.2.2.2.2.2.2.2.2.2.2.2.1 d.2.2.2.2.2.2.2.2.2.2.2.2.2.2.2.2.2.2.2.2.2.2.2.2.1 d.2.2.2.2.2.2.2.2.2.2.2.2.2.2.2.2.2.2.2.2.2.2.2.2.2.1 d.2.2.2.2.2.2.2.2.2.2.2.2.2.2.2.2.2.2.2.2.2.2.2.2.2.2.1 d.2.2.2.2.2.2.2.2.2.2.2.2.2.2.2.2.2.2.2.2.2.2.2.2.2.2.2.1 d.2.2.2.2.2.2.2.2.2.2.2.2.2.2.2.2.2.2.2.2.2.2.2.2.2.2.2.2.1 d.2.2.2.2.2.2.2.2.2.2.2.2.2.2.2.2.2.2.2.2.2.2.2.2.2.2.2.2.2.1 d.2.2.2.2.2.2.2.2.2.2.2.2.2.2.2.2.2.2.2.2.2.2.2.2.2.2.2.2.2.2.1 d.2.2.2.2.2.2.2.2.2.2.2.2.2.2.2.2.2.2.2.2.2.2.2.2.2.2.2.2.2.2.2.1 d.2.2.2.2.2.2.2.2.2.2.2.2.2.2.2.2.2.2.2.2.2.2.2.2.2.2.2.2.2.2.2.2.1 d.2.2.2.2.2.2.2.2.2.2.2.2.2.2.2.2.2.2.2.2.2.2.2.2.2.2.2.2.2.2.2.2.2.1 d.2.2.2.2.2.2.2.2.2.2.2.2.2.2.2.2.2.2.2.2.2.2.2.2.2.2.2.2.2.2.2.2.2.2.1 d.2.2.2.2.2.2.2.2.2.2.2.2.2.2.2.2.2.2.2.2.2.2.2.2.2.2.2.2.2.2.2.2.2.2.2.1 d.2.2.2.2.2.2.2.2.2.2.2.2.2.2.2.2.2.2.2.2.2.2.2.2.2.2.2.2.2.2.2.2.2.2.2.2.1 d.2.2.2.2.2.2.2.2.2.2.2.2.2.2.2.2.2.2.2.2.2.2.2.2.2.2.2.2.2.2.2.2.2.2.2.2.2.1 d.2.2.2.2.2.2.2.2.2.2.2.2.2.2.2.2.2.2.2.2.2.2.2.2.2.2.2.2.2.2.2.2.2.2.2.2.2.2.1 d.2.2.2.2.2.2.2.2.2.2.2.2.2.2.2.2.2.2.2.2.2.2.2.2.2.2.2.2.2.2.2.2.2.2.2.2.2.2.2.1 d.2.2.2.2.2.2.2.2.2.2.2.2.2.2.2.2.2.2.2.2.2.2.2.2.2.2.2.2.2.2.2.2.2.2.2.2.2.2.2.2.1 d.2.2.2.2.2.2.2.2.2.2.2.2.2.2.2.2.2.2.2.2.2.2.2.2.2.2.2.2.2.2.2.2.2.2.2.2.2.2.2.2.2.1 d.2.2.2.2.2.2.2.2.2.2.2.2.2.2.2.2.2.2.2.2.2.2.2.2.2.2.2.2.2.2.2.2.2.2.2.2.2.2.2.2.2.2.1 d.2.2.2.2.2.2.2.2.2.2.2.2.2.2.2.2.2.2.2.2.2.2.2.2.2.2.2.2.2.2.2.2.2.2.2.2.2.2.2.2.2.2.2
namespace VL7
@[irreducible] noncomputable def bb : Bd := DL7.1
@[irreducible] noncomputable def fa : Addr := DL7.2.1
@[irreducible] noncomputable def z : Value := DL7.2.2.1
@[irreducible] noncomputable def m1 : Str → Option Value := DL7.2.2.2.1
@[irreducible] noncomputable def lt : Nat := DL7.2.2.2.2.1
@[irreducible] noncomputable def mk : Nat := DL7.2.2.2.2.2.1
@[irreducible] noncomputable def p : Int := DL7.2.2.2.2.2.2.1
@[irreducible] noncomputable def q : Int := DL7.2.2.2.2.2.2.2.1
@[irreducible] noncomputable def tp : Tok := DL7.2.2.2.2.2.2.2.2.1
@[irreducible] noncomputable def tq : Tok := DL7.2.2.2.2.2.2.2.2.2.1
@[irreducible] noncomputable def tm : Tok := DL7.2.2.2.2.2.2.2.2.2.2.1
@[irreducible] noncomputable def tl : Tok := DL7.2.2.2.2.2.2.2.2.2.2.2.1
@[irreducible] noncomputable def oP : Obj := DL7.2.2.2.2.2.2.2.2.2.2.2.2.1
@[irreducible] noncomputable def oQ : Obj := DL7.2.2.2.2.2.2.2.2.2.2.2.2.2.1
@[irreducible] noncomputable def oM : Obj := DL7.2.2.2.2.2.2.2.2.2.2.2.2.2.2.1
@[irreducible] noncomputable def oL : Obj := DL7.2.2.2.2.2.2.2.2.2.2.2.2.2.2.2.1
@[irreducible] noncomputable def oR : Obj := DL7.2.2.2.2.2.2.2.2.2.2.2.2.2.2.2.2.1
@[irreducible] noncomputable def pl : Addr := DL7.2.2.2.2.2.2.2.2.2.2.2.2.2.2.2.2.2.1
@[irreducible] noncomputable def np : Nat := DL7.2.2.2.2.2.2.2.2.2.2.2.2.2.2.2.2.2.2.1
@[irreducible] noncomputable def ta : Tok := DL7.2.2.2.2.2.2.2.2.2.2.2.2.2.2.2.2.2.2.2.1
@[irreducible] noncomputable def tb : Tok := DL7.2.2.2.2.2.2.2.2.2.2.2.2.2.2.2.2.2.2.2.2.1
@[irreducible] noncomputable def tc : Tok := DL7.2.2.2.2.2.2.2.2.2.2.2.2.2.2.2.2.2.2.2.2.2.1
@[irreducible] noncomputable def k1 : Nat := DL7.2.2.2.2.2.2.2.2.2.2.2.2.2.2.2.2.2.2.2.2.2.2.1
@[irreducible] noncomputable def k2 : Nat := DL7.2.2.2.2.2.2.2.2.2.2.2.2.2.2.2.2.2.2.2.2.2.2.2.1
@[irreducible] noncomputable def k3 : Nat := DL7.2.2.2.2.2.2.2.2.2.2.2.2.2.2.2.2.2.2.2.2.2.2.2.2.1
@[irreducible] noncomputable def rw' : Addr := DL7.2.2.2.2.2.2.2.2.2.2.2.2.2.2.2.2.2.2.2.2.2.2.2.2.2.1
@[irreducible] noncomputable def nr : Nat := DL7.2.2.2.2.2.2.2.2.2.2.2.2.2.2.2.2.2.2.2.2.2.2.2.2.2.2.1
@[irreducible] noncomputable def mx : Nat := DL7.2.2.2.2.2.2.2.2.2.2.2.2.2.2.2.2.2.2.2.2.2.2.2.2.2.2.2.1
@[irreducible] noncomputable def rs : List Value := DL7.2.2.2.2.2.2.2.2.2.2.2.2.2.2.2.2.2.2.2.2.2.2.2.2.2.2.2.2.1
@[irreducible] noncomputable def gl : Addr := DL7.2.2.2.2.2.2.2.2.2.2.2.2.2.2.2.2.2.2.2.2.2.2.2.2.2.2.2.2.2.1
@[irreducible] noncomputable def oB : Obj := DL7.2.2.2.2.2.2.2.2.2.2.2.2.2.2.2.2.2.2.2.2.2.2.2.2.2.2.2.2.2.2.1
@[irreducible] noncomputable def b : Addr := DL7.2.2.2.2.2.2.2.2.2.2.2.2.2.2.2.2.2.2.2.2.2.2.2.2.2.2.2.2.2.2.2.1
@[irreducible] noncomputable def bd : Addr := DL7.2.2.2.2.2.2.2.2.2.2.2.2.2.2.2.2.2.2.2.2.2.2.2.2.2.2.2.2.2.2.2.2.1
@[irreducible] noncomputable def es : List Ent := DL7.2.2.2.2.2.2.2.2.2.2.2.2.2.2.2.2.2.2.2.2.2.2.2.2.2.2.2.2.2.2.2.2.2.1
@[irreducible] noncomputable def kk : Nat := DL7.2.2.2.2.2.2.2.2.2.2.2.2.2.2.2.2.2.2.2.2.2.2.2.2.2.2.2.2.2.2.2.2.2.2.1
@[irreducible] noncomputable def tok : Tok := DL7.2.2.2.2.2.2.2.2.2.2.2.2.2.2.2.2.2.2.2.2.2.2.2.2.2.2.2.2.2.2.2.2.2.2.2.1
@[irreducible] noncomputable def tv : Addr := DL7.2.2.2.2.2.2.2.2.2.2.2.2.2.2.2.2.2.2.2.2.2.2.2.2.2.2.2.2.2.2.2.2.2.2.2.2.1
@[irreducible] noncomputable def R' : List (Addr × Obj) := DL7.2.2.2.2.2.2.2.2.2.2.2.2.2.2.2.2.2.2.2.2.2.2.2.2.2.2.2.2.2.2.2.2.2.2.2.2.2.1
@[irreducible] noncomputable def D0 : Addr := DL7.2.2.2.2.2.2.2.2.2.2.2.2.2.2.2.2.2.2.2.2.2.2.2.2.2.2.2.2.2.2.2.2.2.2.2.2.2.2.1
@[irreducible] noncomputable def D1 : Addr := DL7.2.2.2.2.2.2.2.2.2.2.2.2.2.2.2.2.2.2.2.2.2.2.2.2.2.2.2.2.2.2.2.2.2.2.2.2.2.2.2.1
@[irreducible] noncomputable def D2 : Addr := DL7.2.2.2.2.2.2.2.2.2.2.2.2.2.2.2.2.2.2.2.2.2.2.2.2.2.2.2.2.2.2.2.2.2.2.2.2.2.2.2.2.1
@[irreducible] noncomputable def x0 : Tok := DL7.2.2.2.2.2.2.2.2.2.2.2.2.2.2.2.2.2.2.2.2.2.2.2.2.2.2.2.2.2.2.2.2.2.2.2.2.2.2.2.2.2.1
@[irreducible] noncomputable def x1 : Tok := DL7.2.2.2.2.2.2.2.2.2.2.2.2.2.2.2.2.2.2.2.2.2.2.2.2.2.2.2.2.2.2.2.2.2.2.2.2.2.2.2.2.2.2.1
@[irreducible] noncomputable def n0 : Nat := DL7.2.2.2.2.2.2.2.2.2.2.2.2.2.2.2.2.2.2.2.2.2.2.2.2.2.2.2.2.2.2.2.2.2.2.2.2.2.2.2.2.2.2.2
end VL7
end
theorem epL7 (h : PxL7 VL7.bb VL7.fa VL7.z VL7.m1 VL7.lt VL7.mk VL7.p VL7.q VL7.tp VL7.tq VL7.tm VL7.tl VL7.oP VL7.oQ VL7.oM VL7.oL VL7.oR VL7.pl VL7.np VL7.ta VL7.tb VL7.tc VL7.k1 VL7.k2 VL7.k3 VL7.rw' VL7.nr VL7.mx VL7.rs VL7.gl VL7.oB VL7.b VL7.bd VL7.es VL7.kk VL7.tok VL7.tv VL7.R' VL7.D0 VL7.D1 VL7.D2 VL7.x0 VL7.x1 VL7.n0) (bb : Bd) (fa : Addr) (z : Value) (m1 : Str → Option Value) (lt : Nat) (mk : Nat) (p : Int) (q : Int) (tp : Tok) (tq : Tok) (tm : Tok) (tl : Tok) (oP : Obj) (oQ : Obj) (oM : Obj) (oL : Obj) (oR : Obj) (pl : Addr) (np : Nat) (ta : Tok) (tb : Tok) (tc : Tok) (k1 : Nat) (k2 : Nat) (k3 : Nat) (rw' : Addr) (nr : Nat) (mx : Nat) (rs : List Value) (gl : Addr) (oB : Obj) (b : Addr) (bd : Addr) (es : List Ent) (kk : Nat) (tok : Tok) (tv : Addr) (R' : List (Addr × Obj)) (D0 : Addr) (D1 : Addr) (D2 : Addr) (x0 : Tok) (x1 : Tok) (n0 : Nat) : PxL7 bb fa z m1 lt mk p q tp tq tm tl oP oQ oM oL oR pl np ta tb tc k1 k2 k3 rw' nr mx rs gl oB b bd es kk tok tv R' D0 D1 D2 x0 x1 n0 := eps_at (P := fun d : Bd × Addr × Value × (Str → Option Value) × Nat × Nat × Int × Int × Tok × Tok × Tok × Tok × Obj × Obj × Obj × Obj × Obj × Addr × Nat × Tok × Tok × Tok × Nat × Nat × Nat × Addr × Nat × Nat × (List Value) × Addr × Obj × Addr × Addr × (List Ent) × Nat × Tok × Addr × (List (Addr × Obj)) × Addr × Addr × Addr × Tok × Tok × Nat => PxL7 d.1 d.2.1 d.2.2.1 d.2.2.2.1 d.2.2.2.2.1 d.2.2.2.2.2.1 d.2.2.2.2.2.2.1 d.2.2.2.2.2.2.2.1 d.2.2.2.2.2.2.2.2.1 d.2.2.2.2.2.2.2.2.2.1 d.2.2.2.2.2.2.2.2.2.2.1 d.2.2.2.2.2.2.2.2.2.2.2.1 d.2.2.2.2.2.2.2.2.2.2.2.2.1 d.2.2.2.2.2.2.2.2.2.2.2.2.2.1 d.2.2.2.2.2.2.2.2.2.2.2.2.2.2.1 d.2.2.2.2.2.2.2.2.2.2.2.2.2.2.2.1 d.2.2.2.2.2.2.2.2.2.2.2.2.2.2.2.2.1 d.2.2.2.2.2.2.2.2.2.2.2.2.2.2.2.2.2.1 d.2.2.2.2.2.2.2.2.2.2.2.2.2.2.2.2.2.2.1 d.2.2.2.2.2.2.2.2.2.2.2.2.2.2.2.2.2.2.2.1 d.2.2.2.2.2.2.2.2.2.2.2.2.2.2.2.2.2.2.2.2.1 d.2.2.2.2.2.2.2.2.2.2.2.2.2.2.2.2.2.2.2.2.2.1 d.2.2.2.2.2.2.2.2.2.2.2.2.2.2.2.2.2.2.2.2.2.2.1 d.2.2.2.2.2.2.2.2.2.2.2.2.2.2.2.2.2.2.2.2.2.2.2.1 d.2.2.2.2.2.2.2.2.2.2.2.2.2.2.2.2.2.2.2.2.2.2.2.2.1 d.2.2.2.2.2.2.2.2.2.2.2.2.2.2.2.2.2.2.2.2.2.2.2.2.2.1 d.2.2.2.2.2.2.2.2.2.2.2.2.2.2.2.2.2.2.2.2.2.2.2.2.2.2.1 d.2.2.2.2.2.2.2.2.2.2.2.2.2.2.2.2.2.2.2.2.2.2.2.2.2.2.2.1 d.2.2.2.2.2.2.2.2.2.2.2.2.2.2.2.2.2.2.2.2.2.2.2.2.2.2.2.2.1 d.2.2.2.2.2.2.2.2.2.2.2.2.2.2.2.2.2.2.2.2.2.2.2.2.2.2.2.2.2.1 d.2.2.2.2.2.2.2.2.2.2.2.2.2.2.2.2.2.2.2.2.2.2.2.2.2.2.2.2.2.2.1 d.2.2.2.2.2.2.2.2.2.2.2.2.2.2.2.2.2.2.2.2.2.2.2.2.2.2.2.2.2.2.2.1 d.2.2.2.2.2.2.2.2.2.2.2.2.2.2.2.2.2.2.2.2.2.2.2.2.2.2.2.2.2.2.2.2.1 d.2.2.2.2.2.2.2.2.2.2.2.2.2.2.2.2.2.2.2.2.2.2.2.2.2.2.2.2.2.2.2.2.2.1 d.2.2.2.2.2.2.2.2.2.2.2.2.2.2.2.2.2.2.2.2.2.2.2.2.2.2.2.2.2.2.2.2.2.2.1 d.2.2.2.2.2.2.2.2.2.2.2.2.2.2.2.2.2.2.2.2.2.2.2.2.2.2.2.2.2.2.2.2.2.2.2.1 d.2.2.2.2.2.2.2.2.2.2.2.2.2.2.2.2.2.2.2.2.2.2.2.2.2.2.2.2.2.2.2.2.2.2.2.2.1 d.2.2.2.2.2.2.2.2.2.2.2.2.2.2.2.2.2.2.2.2.2.2.2.2.2.2.2.2.2.2.2.2.2.2.2.2.2.1 d.2.2.2.2.2.2.2.2.2.2.2.2.2.2.2.2.2.2.2.2.2.2.2.2.2.2.2.2.2.2.2.2.2.2.2.2.2.2.1 d.2.2.2.2.2.2.2.2.2.2.2.2.2.2.2.2.2.2.2.2.2.2.2.2.2.2.2.2.2.2.2.2.2.2.2.2.2.2.2.1 d.2.2.2.2.2.2.2.2.2.2.2.2.2.2.2.2.2.2.2.2.2.2.2.2.2.2.2.2.2.2.2.2.2.2.2.2.2.2.2.2.1 d.2.2.2.2.2.2.2.2.2.2.2.2.2.2.2.2.2.2.2.2.2.2.2.2.2.2.2.2.2.2.2.2.2.2.2.2.2.2.2.2.2.1 d.2.2.2.2.2.2.2.2.2.2.2.2.2.2.2.2.2.2.2.2.2.2.2.2.2.2.2.2.2.2.2.2.2.2.2.2.2.2.2.2.2.2.1 d.2.2.2.2.2.2.2.2.2.2.2.2.2.2.2.2.2.2.2.2.2.2.2.2.2.2.2.2.2.2.2.2.2.2.2.2.2.2.2.2.2.2.2) (ne := neL7) (by with_unfolding_all exact h) (bb, fa, z, m1, lt, mk, p, q, tp, tq, tm, tl, oP, oQ, oM, oL, oR, pl, np, ta, tb, tc, k1, k2, k3, rw', nr, mx, rs, gl, oB, b, bd, es, kk, tok, tv, R', D0, D1, D2, x0, x1, n0)
namespace VL7
theorem wL7 : PxL7 bb fa z m1 lt mk p q tp tq tm tl oP oQ oM oL oR pl np ta tb tc k1 k2 k3 rw' nr mx rs gl oB b bd es kk tok tv R' D0 D1 D2 x0 x1 n0 := by
  intro eB eO hlt hmk hpq htm k1l k1u k2l k2u d1 d2 d3 d4 d5 hpl ek3 k3u hrw m1l m2l m3l m4l hrs hgl d6 hFi hH hm0 inR
  refine LawP.start (by k_is) rfl ?_
  intro h' tk' htk St F1 N1 hPO fin
  obtain ⟨B, X, T, hA, _, _, hh, hd, hu⟩ := id St
  simp only [kstB] at F1
  have sm : Small lt mk p q := ⟨hlt, hmk, hpq.lp, hpq.lq⟩
  k_with "my cat" => (wtm_at "?80-81"; (rw [S_app]))
  k_with "my mul" => (wtm_at "?80-81"; ((try rw [show Str.ofString "\"" = S [34] from rfl]); (try rw [gd3]); (try rw [show (2 : Int) = ((2 : Nat) : Int) from rfl])))
  k_steps
  refine ⟨seq_tk htk (fun h => ∀ G : Prop, (∀ (m : Str → Option Value) (st : Addr) (n : Nat) (e0 : Tok) (e1 : Tok) (e2 : Tok), Fr (bG bb) (bL bb) h m → m (Str.ofString "places") = some (.ref pl) → m (Str.ofString "told") = some (.ref tv) → m (Str.ofString "strange") = some (.ref st) → News (bG bb) (bL bb) h ((st, listOf [.str (S []) e0, .str (S (List.replicate k1 34)) e1, .str (S (List.replicate k1 34 ++ List.replicate 2 lt)) e2].toArray n) :: ((tv, LCg.lst [.ref D0, .ref D1, .ref D2]) :: (rw', listOf rs.toArray nr) :: (pl, listOf [.int k1 ta, .int k2 tb, .int k3 tc].toArray np) :: ((bL bb) + 1 + 1 + 1 + 1 + 1 + 1, oB) :: ((bL bb) + 1 + 1 + 1 + 1 + 1, oR) :: ((bL bb) + 1 + 1 + 1 + 1, oL) :: ((bL bb) + 1 + 1 + 1, oM) :: ((bL bb) + 1 + 1, oQ) :: ((bL bb) + 1, oP) :: book (bw bb) tok b bd gl es kk R')) → G) → G) ?_ ?_⟩
  · k_steps
    rename Fr _ _ _ _ => F9
    rename News _ _ _ _ => N9
    exact EndR.intro fun G kont => kont _ _ _ _ _ _ F9 rfl rfl rfl N9
  clear F1 N1 htk
  intro h' tk' htk hR
  refine hR _ ?_
  clear hR
  intro m1 st n e0 e1 e2 F1 q1 q2 q3 N1
  replace F1 := fr_as (ps := [(Str.ofString "places", _), (Str.ofString "told", _), (Str.ofString "strange", _)]) F1 ⟨q1, q2, q3, trivial⟩
  simp only [kstB] at F1
  clear q1 q2 q3
  try dsimp only
  -- no strange name
  k_steps
  refine ⟨seq_tk htk (fun h => ∀ G : Prop, (∀ (m : Str → Option Value), Fr (bG bb) (bL bb) h m → m (Str.ofString "places") = some (.ref pl) → m (Str.ofString "told") = some (.ref tv) → News (bG bb) (bL bb) h ((tv, LCg.lst [.ref D0, .ref D1, .ref D2]) :: (rw', listOf rs.toArray nr) :: (pl, listOf [.int k1 ta, .int k2 tb, .int k3 tc].toArray np) :: ((bL bb) + 1 + 1 + 1 + 1 + 1 + 1, oB) :: ((bL bb) + 1 + 1 + 1 + 1 + 1, oR) :: ((bL bb) + 1 + 1 + 1 + 1, oL) :: ((bL bb) + 1 + 1 + 1, oM) :: ((bL bb) + 1 + 1, oQ) :: ((bL bb) + 1, oP) :: book (bw bb) tok b bd gl es kk R') → G) → G) ?_ ?_⟩
  · k_steps
    refine ⟨?_⟩
    refine LCt.CompSrcT.ledger (its := [.str (S []) e0, .str (S (List.replicate k1 34)) e1, .str (S (List.replicate k1 34 ++ List.replicate 2 lt)) e2].toArray) (k := n) rfl F1 N1 (.head _) (by rw [sizeLine_eq]; exact Nat.le_of_ble_eq_true rfl) ?_
    intro g
    refine rest_T (n := 3) (fun _ zs => zs = []) ?_ ?_ _ _ _ (by rfl) rfl
    rotate_left
    · rintro i k' zs hi rfl hrest
      refine LCt.CompRestT.succ ?_
      rintro v I oI C oC D m₂ h tk E' hP hC hx F9 N9 off hne
      obtain ⟨x, t, rfl, hxm⟩ := odd_at hP
      k_steps
      refine ⟨?_⟩
      rename Fr _ _ _ _ => FC
      rename News _ _ _ _ => NC
      refine Does.mono (t_contains (tok := tok) (bd := bd) (gl := gl) (k := kk) (rest := [(I, oI), (C, oC), (D, LCg.lst []), (st, listOf [.str (S []) e0, .str (S (List.replicate k1 34)) e1, .str (S (List.replicate k1 34 ++ List.replicate 2 lt)) e2].toArray n), (tv, LCg.lst [.ref D0, .ref D1, .ref D2]), (rw', listOf rs.toArray nr), (pl, listOf [.int k1 ta, .int k2 tb, .int k3 tc].toArray np), ((bL bb) + 1 + 1 + 1 + 1 + 1 + 1, oB), ((bL bb) + 1 + 1 + 1 + 1 + 1, oR), ((bL bb) + 1 + 1 + 1 + 1, oL), ((bL bb) + 1 + 1 + 1, oM), ((bL bb) + 1 + 1, oQ), ((bL bb) + 1, oP)] ++ R') hFi (odd_fine hlt (by omega) hxm).1 (odd_fine hlt (by omega) hxm).2 rfl) (fun v tl hv => (⟨hv.1.trans (congrArg Value.bool (no_name hH (odd_no hlt hxm))), hv.2⟩ : v = .bool false ∧ _)) _ _ _ _ _ _ _ _ _ _ _ ⟨B, FC, X, book_of (pre := [(I, oI), (C, oC), (D, LCg.lst []), (st, listOf [.str (S []) e0, .str (S (List.replicate k1 34)) e1, .str (S (List.replicate k1 34 ++ List.replicate 2 lt)) e2].toArray n), (tv, LCg.lst [.ref D0, .ref D1, .ref D2]), (rw', listOf rs.toArray nr), (pl, listOf [.int k1 ta, .int k2 tb, .int k3 tc].toArray np), ((bL bb) + 1 + 1 + 1 + 1 + 1 + 1, oB), ((bL bb) + 1 + 1 + 1 + 1 + 1, oR), ((bL bb) + 1 + 1 + 1 + 1, oL), ((bL bb) + 1 + 1 + 1, oM), ((bL bb) + 1 + 1, oQ), ((bL bb) + 1, oP)]) NC, T, hA, rfl, rfl, rfl⟩ (by k_extra "my room") (by k_extra "my room") ?_
      clear FC NC
      rintro v' tl' h' tk' F' N' ⟨rfl, rfl⟩
      replace N' := book_to (pre := [(I, oI), (C, oC), (D, LCg.lst []), (st, listOf [.str (S []) e0, .str (S (List.replicate k1 34)) e1, .str (S (List.replicate k1 34 ++ List.replicate 2 lt)) e2].toArray n), (tv, LCg.lst [.ref D0, .ref D1, .ref D2]), (rw', listOf rs.toArray nr), (pl, listOf [.int k1 ta, .int k2 tb, .int k3 tc].toArray np), ((bL bb) + 1 + 1 + 1 + 1 + 1 + 1, oB), ((bL bb) + 1 + 1 + 1 + 1 + 1, oR), ((bL bb) + 1 + 1 + 1 + 1, oL), ((bL bb) + 1 + 1 + 1, oM), ((bL bb) + 1 + 1, oQ), ((bL bb) + 1, oP)]) N'
      k_steps
      rename Fr _ _ _ _ => F7
      rename News _ _ _ _ => N7
      exact ⟨LCg.CompEnd.intro F7 N7 _ (fun p hp => hp) off (.inr ⟨_, .head _, rfl, _, rfl⟩) (hrest _ rfl)⟩
    · rintro zs rfl D h tk F9 N9 off
      k_steps
      rename Fr _ _ _ _ => F7
      rename News _ _ _ _ => N7
      refine ⟨cmp_same (xs := []) (ys := []) (ds := []) N7 (.tail _ (.head _)) (.head _) .nil .nil (fun _ h => nomatch h) (by k_extra "my cline") ?_⟩
      k_steps
      exact EndR.intro fun G kont => kont _ F7 rfl rfl (News.sub N7 (fun p hp => .tail _ (.tail _ (.tail _ hp))))
  · intro h' tk' htk hR
    refine hR _ ?_
    clear hR F1 N1
    intro m1 F1 q1 q2 N1
    exact LawP.use (by k_is) rfl (epL8 VL8.wL8 bb fa z m1 lt mk p q tp tq tm tl oP oQ oM oL oR pl np ta tb tc k1 k2 k3 rw' nr mx rs gl oB b bd es kk tok tv R' D0 D1 D2 x0 x1 n0 eB eO hlt hmk hpq htm k1l k1u k2l k2u d1 d2 d3 d4 d5 hpl ek3 k3u hrw m1l m2l m3l m4l hrs hgl d6 hFi hH hm0 inR) htk St (fr_as (ps := [(Str.ofString "places", _), (Str.ofString "told", _)]) F1 ⟨q1, q2, trivial⟩) N1 hPO fin
end VL7
noncomputable section
noncomputable def PxL6 (bb : Bd) (fa : Addr) (z : Value) (m1 : Str → Option Value) (lt : Nat) (mk : Nat) (p : Int) (q : Int) (tp : Tok) (tq : Tok) (tm : Tok) (tl : Tok) (oP : Obj) (oQ : Obj) (oM : Obj) (oL : Obj) (oR : Obj) (pl : Addr) (np : Nat) (ta : Tok) (tb : Tok) (tc : Tok) (k1 : Nat) (k2 : Nat) (k3 : Nat) (rw' : Addr) (nr : Nat) (mx : Nat) (rs : List Value) (gl : Addr) (oB : Obj) (b : Addr) (bd : Addr) (es : List Ent) (kk : Nat) (tok : Tok) (R : List (Addr × Obj)) (tv : Addr) (ys : List Value) (ad : Addr) (ds : List Ent) (nd : Nat) : Prop :=
  bBase bb = bG bb → bOuter bb = [] → Letter lt → Mark mk → PQ p q → tm ≠ 0 → 1 ≤ k1 → k1 ≤ 20 → 1 ≤ k2 → k2 ≤ 20 → oP.data = .cell (some (.int p tp)) → oQ.data = .cell (some (.int q tq)) → oM.data = .cell (some (.str (S [mk]) tm)) → oL.data = .cell (some (.str (S [lt]) tl)) → oR.data = .cell (some (.ref rw')) → @LT.lt Nat _ (bL bb + 1 + 1 + 1 + 1 + 1 + 1) pl → Nat.gcd k1 k2 = k3 → k3 ≤ 20 → @LT.lt Nat _ pl rw' → k1 ≤ mx → k2 ≤ mx → k3 ≤ mx → mx ≤ 20 → IntsAre rs ((List.range (mx + 2)).map (U p q)) → @LT.lt Nat _ rw' gl → oB.data = .cell (some (.ref b)) → Fine es → Twos p q R ys [k1, k2, k3] → Holds lt mk p q (ordAt [k1, k2, k3]) es → Holds lt mk p q (ordAt [k1, k2, k3]) ds →
  LawP bb fa z 14 (tm + 1) (kstB m1 [(Str.ofString "places", .ref pl), (Str.ofString "given", .ref gl), (Str.ofString "told", .ref tv), (Str.ofString "due", .ref ad)]) ((ad, listOf (refs ds).toArray nd) :: ((tv, LCg.lst ys) :: (rw', listOf rs.toArray nr) :: (pl, listOf [.int k1 ta, .int k2 tb, .int k3 tc].toArray np) :: (bL bb + 1 + 1 + 1 + 1 + 1 + 1, oB) :: (bL bb + 1 + 1 + 1 + 1 + 1, oR) :: (bL bb + 1 + 1 + 1 + 1, oL) :: (bL bb + 1 + 1 + 1, oM) :: (bL bb + 1 + 1, oQ) :: (bL bb + 1, oP) :: book (bw bb) tok b bd gl es kk (ds.map Ent.obj ++ R)))
theorem neL6 : Nonempty (Bd × Addr × Value × (Str → Option Value) × Nat × Nat × Int × Int × Tok × Tok × Tok × Tok × Obj × Obj × Obj × Obj × Obj × Addr × Nat × Tok × Tok × Tok × Nat × Nat × Nat × Addr × Nat × Nat × (List Value) × Addr × Obj × Addr × Addr × (List Ent) × Nat × Tok × (List (Addr × Obj)) × Addr × (List Value) × Addr × (List Ent) × Nat) := bd_ne.elim fun bb => ⟨(bb, 0, .none, fun _ => none, 0, 0, 0, 0, 0, 0, 0, 0, default, default, default, default, default, 0, 0, 0, 0, 0, 0, 0, 0, 0, 0, 0, [], 0, default, 0, 0, [], 0, 0, [], 0, [], 0, [], 0)⟩
@[irreducible] noncomputable def DL6 : Bd × Addr × Value × (Str → Option Value) × Nat × Nat × Int × Int × Tok × Tok × Tok × Tok × Obj × Obj × Obj × Obj × Obj × Addr × Nat × Tok × Tok × Tok × Nat × Nat × Nat × Addr × Nat × Nat × (List Value) × Addr × Obj × Addr × Addr × (List Ent) × Nat × Tok × (List (Addr × Obj)) × Addr × (List Value) × Addr × (List Ent) × Nat := @Classical.epsilon _ neL6 fun d => ¬ PxL6 d.1 d.2.1 d.2.2.1 d.2.2.2.1 d.2.2.2.2.1 d.2.2.2.2.2.1 d.2.2.2.2.2.2.1 d.2.2.2.2.2.2.2.1 d.2.2.2.2.2.2.2.2.1 d.2.2.2.2.2.2.2.2.2.1 d.2.2.2.2.2.2.2.2.2.2.1 d.2.2.2.2.2.2.2.2.2.2.2.1 d.2.2.2.2.2.2.2.2.2.2.2.2.1 d.2.2.2.2.2.2.2.2.2.2.2.2.2.1 d.2.2.2.2.2.2.2.2.2.2.2.2.2.2.1 d.2.2.2.2.2.2.2.2.2.2.2.2.2.2.2.1 d.2.2.2.2.2.2.2.2.2.2.2.2.2.2.2.2.1 d.2.2.2.2.2.2.2.2.2.2.2.2.2.2.2.2.2.1 d.2.2.2.2.2.2.2.2.2.2.2.2.2.2.2.2.2.2.1 d.2.2.2.2.2.2.2.2.2.2.2.2.2.2.2.2.2.2.2.1 d.2.2.2.2.2.2.2.2.2.2.2.2.2.2.2.2.2.2.2.2.1 d.2.2.2.2.2.2.2.2.2.2.2.2.2.2.2.2.2.2.2.2.2.1 d.2.2.2.2.2.2.2.2.2.2.2.2.2.2.2.2.2.2.2.2.2.2.1 d.2.2.2.2.2.2.2.2.2.2.2.2.2.2.2.2.2.2.2.2.2.2.2.1 d.2.2.2.2.2.2.2.2.2.2.2.2.2.2.2.2.2.2.2.2.2.2.2.2.1 d.2.2.2.2.2.2.2.2.2.2.2.2.2.2.2.2.2.2.2.2.2.2.2.2.2.1 d.2.2.2.2.2.2.2.2.2.2.2.2.2.2.2.2.2.2.2.2.2.2.2.2.2.2.1 d.2.2.2.2.2.2.2.2.2.2.2.2.2.2.2.2.2.2.2.2.2.2.2.2.2.2.2.1 d.2.2.2.2.2.2.2.2.2.2.2.2.2.2.2.2.2.2.2.2.2.2.2.2.2.2.2.2.1 d.2.2.2.2.2.2.2.2.2.2.2.2.2.2.2.2.2.2.2.2.2.2.2.2.2.2.2.2.2.1 d.2.2.2.2.2.2.2.2.2.2.2.2.2.2.2.2.2.2.2.2.2.2.2.2.2.2.2.2.2.2.1 d.2.2.2.2.2.2.2.2.2.2.2.2.2.2.2.2.2.2.2.2.2.2.2.2.2.2.2.2.2.2.2.1 d.2.2.2.2.2.2.2.2.2.2.2.2.2.2.2.2.2.2.2.2.2.2.2.2.2.2.2.2.2.2.2.2.1 d.2.2.2.2.2.2.2.2.2.2.2.2.2.2.2.2.2.2.2.2.2.2.2.2.2.2.2.2.2.2.2.2.2.1 d.2.2.2.2.2.2.2.2.2.2.2.2.2.2.2.2.2.2.2.2.2.2.2.2.2.2.2.2.2.2.2.2.2.2.1 d.2.2.2.2.2.2.2.2.2.2.2.2.2.2.2.2.2.2.2.2.2.2.2.2.2.2.2.2.2.2.2.2.2.2.2.1 d.2.2.2.2.2.2.2.2.2.2.2.2.2.2.2.2.2.2.2.2.2.2.2.2.2.2.2.2.2.2.2.2.2.2.2.2.1 d.2.2.2.2.2.2.2.2.2.2.2.2.2.2.2.2.2.2.2.2.2.2.2.2.2.2.2.2.2.2.2.2.2.2.2.2.2.1 d.2.2.2.2.2.2.2.2.2.2.2.2.2.2.2.2.2.2.2.2.2.2.2.2.2.2.2.2.2.2.2.2.2.2.2.2.2.2.1 d.2.2.2.2.2.2.2.2.2.2.2.2.2.2.2.2.2.2.2.2.2.2.2.2.2.2.2.2.2.2.2.2.2.2.2.2.2.2.2.1 d.2.2.2.2.2.2.2.2.2.2.2.2.2.2.2.2.2.2.2.2.2.2.2.2.2.2.2.2.2.2.2.2.2.2.2.2.2.2.2.2.1 d.2.2.2.2.2.2.2.2.2.2.2.2.2.2.2.2.2.2.2.2.2.2.2.2.2.2.2.2.2.2.2.2.2.2.2.2.2.2.2.2.2
namespace VL6
@[irreducible] noncomputable def bb : Bd := DL6.1
@[irreducible] noncomputable def fa : Addr := DL6.2.1
@[irreducible] noncomputable def z : Value := DL6.2.2.1
@[irreducible] noncomputable def m1 : Str → Option Value := DL6.2.2.2.1
@[irreducible] noncomputable def lt : Nat := DL6.2.2.2.2.1
@[irreducible] noncomputable def mk : Nat := DL6.2.2.2.2.2.1
@[irreducible] noncomputable def p : Int := DL6.2.2.2.2.2.2.1
@[irreducible] noncomputable def q : Int := DL6.2.2.2.2.2.2.2.1
@[irreducible] noncomputable def tp : Tok := DL6.2.2.2.2.2.2.2.2.1
@[irreducible] noncomputable def tq : Tok := DL6.2.2.2.2.2.2.2.2.2.1
@[irreducible] noncomputable def tm : Tok := DL6.2.2.2.2.2.2.2.2.2.2.1
@[irreducible] noncomputable def tl : Tok := DL6.2.2.2.2.2.2.2.2.2.2.2.1
@[irreducible] noncomputable def oP : Obj := DL6.2.2.2.2.2.2.2.2.2.2.2.2.1
@[irreducible] noncomputable def oQ : Obj := DL6.2.2.2.2.2.2.2.2.2.2.2.2.2.1
@[irreducible] noncomputable def oM : Obj := DL6.2.2.2.2.2.2.2.2.2.2.2.2.2.2.1
@[irreducible] noncomputable def oL : Obj := DL6.2.2.2.2.2.2.2.2.2.2.2.2.2.2.2.1
@[irreducible] noncomputable def oR : Obj := DL6.2.2.2.2.2.2.2.2.2.2.2.2.2.2.2.2.1
@[irreducible] noncomputable def pl : Addr := DL6.2.2.2.2.2.2.2.2.2.2.2.2.2.2.2.2.2.1
@[irreducible] noncomputable def np : Nat := DL6.2.2.2.2.2.2.2.2.2.2.2.2.2.2.2.2.2.2.1
@[irreducible] noncomputable def ta : Tok := DL6.2.2.2.2.2.2.2.2.2.2.2.2.2.2.2.2.2.2.2.1
@[irreducible] noncomputable def tb : Tok := DL6.2.2.2.2.2.2.2.2.2.2.2.2.2.2.2.2.2.2.2.2.1
@[irreducible] noncomputable def tc : Tok := DL6.2.2.2.2.2.2.2.2.2.2.2.2.2.2.2.2.2.2.2.2.2.1
@[irreducible] noncomputable def k1 : Nat := DL6.2.2.2.2.2.2.2.2.2.2.2.2.2.2.2.2.2.2.2.2.2.2.1
@[irreducible] noncomputable def k2 : Nat := DL6.2.2.2.2.2.2.2.2.2.2.2.2.2.2.2.2.2.2.2.2.2.2.2.1
@[irreducible] noncomputable def k3 : Nat := DL6.2.2.2.2.2.2.2.2.2.2.2.2.2.2.2.2.2.2.2.2.2.2.2.2.1
@[irreducible] noncomputable def rw' : Addr := DL6.2.2.2.2.2.2.2.2.2.2.2.2.2.2.2.2.2.2.2.2.2.2.2.2.2.1
@[irreducible] noncomputable def nr : Nat := DL6.2.2.2.2.2.2.2.2.2.2.2.2.2.2.2.2.2.2.2.2.2.2.2.2.2.2.1
@[irreducible] noncomputable def mx : Nat := DL6.2.2.2.2.2.2.2.2.2.2.2.2.2.2.2.2.2.2.2.2.2.2.2.2.2.2.2.1
@[irreducible] noncomputable def rs : List Value := DL6.2.2.2.2.2.2.2.2.2.2.2.2.2.2.2.2.2.2.2.2.2.2.2.2.2.2.2.2.1
@[irreducible] noncomputable def gl : Addr := DL6.2.2.2.2.2.2.2.2.2.2.2.2.2.2.2.2.2.2.2.2.2.2.2.2.2.2.2.2.2.1
@[irreducible] noncomputable def oB : Obj := DL6.2.2.2.2.2.2.2.2.2.2.2.2.2.2.2.2.2.2.2.2.2.2.2.2.2.2.2.2.2.2.1
@[irreducible] noncomputable def b : Addr := DL6.2.2.2.2.2.2.2.2.2.2.2.2.2.2.2.2.2.2.2.2.2.2.2.2.2.2.2.2.2.2.2.1
@[irreducible] noncomputable def bd : Addr := DL6.2.2.2.2.2.2.2.2.2.2.2.2.2.2.2.2.2.2.2.2.2.2.2.2.2.2.2.2.2.2.2.2.1
@[irreducible] noncomputable def es : List Ent := DL6.2.2.2.2.2.2.2.2.2.2.2.2.2.2.2.2.2.2.2.2.2.2.2.2.2.2.2.2.2.2.2.2.2.1
@[irreducible] noncomputable def kk : Nat := DL6.2.2.2.2.2.2.2.2.2.2.2.2.2.2.2.2.2.2.2.2.2.2.2.2.2.2.2.2.2.2.2.2.2.2.1
@[irreducible] noncomputable def tok : Tok := DL6.2.2.2.2.2.2.2.2.2.2.2.2.2.2.2.2.2.2.2.2.2.2.2.2.2.2.2.2.2.2.2.2.2.2.2.1
@[irreducible] noncomputable def R : List (Addr × Obj) := DL6.2.2.2.2.2.2.2.2.2.2.2.2.2.2.2.2.2.2.2.2.2.2.2.2.2.2.2.2.2.2.2.2.2.2.2.2.1
@[irreducible] noncomputable def tv : Addr := DL6.2.2.2.2.2.2.2.2.2.2.2.2.2.2.2.2.2.2.2.2.2.2.2.2.2.2.2.2.2.2.2.2.2.2.2.2.2.1
@[irreducible] noncomputable def ys : List Value := DL6.2.2.2.2.2.2.2.2.2.2.2.2.2.2.2.2.2.2.2.2.2.2.2.2.2.2.2.2.2.2.2.2.2.2.2.2.2.2.1
@[irreducible] noncomputable def ad : Addr := DL6.2.2.2.2.2.2.2.2.2.2.2.2.2.2.2.2.2.2.2.2.2.2.2.2.2.2.2.2.2.2.2.2.2.2.2.2.2.2.2.1
@[irreducible] noncomputable def ds : List Ent := DL6.2.2.2.2.2.2.2.2.2.2.2.2.2.2.2.2.2.2.2.2.2.2.2.2.2.2.2.2.2.2.2.2.2.2.2.2.2.2.2.2.1
@[irreducible] noncomputable def nd : Nat := DL6.2.2.2.2.2.2.2.2.2.2.2.2.2.2.2.2.2.2.2.2.2.2.2.2.2.2.2.2.2.2.2.2.2.2.2.2.2.2.2.2.2
end VL6
end
theorem epL6 (h : PxL6 VL6.bb VL6.fa VL6.z VL6.m1 VL6.lt VL6.mk VL6.p VL6.q VL6.tp VL6.tq VL6.tm VL6.tl VL6.oP VL6.oQ VL6.oM VL6.oL VL6.oR VL6.pl VL6.np VL6.ta VL6.tb VL6.tc VL6.k1 VL6.k2 VL6.k3 VL6.rw' VL6.nr VL6.mx VL6.rs VL6.gl VL6.oB VL6.b VL6.bd VL6.es VL6.kk VL6.tok VL6.R VL6.tv VL6.ys VL6.ad VL6.ds VL6.nd) (bb : Bd) (fa : Addr) (z : Value) (m1 : Str → Option Value) (lt : Nat) (mk : Nat) (p : Int) (q : Int) (tp : Tok) (tq : Tok) (tm : Tok) (tl : Tok) (oP : Obj) (oQ : Obj) (oM : Obj) (oL : Obj) (oR : Obj) (pl : Addr) (np : Nat) (ta : Tok) (tb : Tok) (tc : Tok) (k1 : Nat) (k2 : Nat) (k3 : Nat) (rw' : Addr) (nr : Nat) (mx : Nat) (rs : List Value) (gl : Addr) (oB : Obj) (b : Addr) (bd : Addr) (es : List Ent) (kk : Nat) (tok : Tok) (R : List (Addr × Obj)) (tv : Addr) (ys : List Value) (ad : Addr) (ds : List Ent) (nd : Nat) : PxL6 bb fa z m1 lt mk p q tp tq tm tl oP oQ oM oL oR pl np ta tb tc k1 k2 k3 rw' nr mx rs gl oB b bd es kk tok R tv ys ad ds nd := eps_at (P := fun d : Bd × Addr × Value × (Str → Option Value) × Nat × Nat × Int × Int × Tok × Tok × Tok × Tok × Obj × Obj × Obj × Obj × Obj × Addr × Nat × Tok × Tok × Tok × Nat × Nat × Nat × Addr × Nat × Nat × (List Value) × Addr × Obj × Addr × Addr × (List Ent) × Nat × Tok × (List (Addr × Obj)) × Addr × (List Value) × Addr × (List Ent) × Nat => PxL6 d.1 d.2.1 d.2.2.1 d.2.2.2.1 d.2.2.2.2.1 d.2.2.2.2.2.1 d.2.2.2.2.2.2.1 d.2.2.2.2.2.2.2.1 d.2.2.2.2.2.2.2.2.1 d.2.2.2.2.2.2.2.2.2.1 d.2.2.2.2.2.2.2.2.2.2.1 d.2.2.2.2.2.2.2.2.2.2.2.1 d.2.2.2.2.2.2.2.2.2.2.2.2.1 d.2.2.2.2.2.2.2.2.2.2.2.2.2.1 d.2.2.2.2.2.2.2.2.2.2.2.2.2.2.1 d.2.2.2.2.2.2.2.2.2.2.2.2.2.2.2.1 d.2.2.2.2.2.2.2.2.2.2.2.2.2.2.2.2.1 d.2.2.2.2.2.2.2.2.2.2.2.2.2.2.2.2.2.1 d.2.2.2.2.2.2.2.2.2.2.2.2.2.2.2.2.2.2.1 d.2.2.2.2.2.2.2.2.2.2.2.2.2.2.2.2.2.2.2.1 d.2.2.2.2.2.2.2.2.2.2.2.2.2.2.2.2.2.2.2.2.1 d.2.2.2.2.2.2.2.2.2.2.2.2.2.2.2.2.2.2.2.2.2.1 d.2.2.2.2.2.2.2.2.2.2.2.2.2.2.2.2.2.2.2.2.2.2.1 d.2.2.2.2.2.2.2.2.2.2.2.2.2.2.2.2.2.2.2.2.2.2.2.1 d.2.2.2.2.2.2.2.2.2.2.2.2.2.2.2.2.2.2.2.2.2.2.2.2.1 d.2.2.2.2.2.2.2.2.2.2.2.2.2.2.2.2.2.2.2.2.2.2.2.2.2.1 d.2.2.2.2.2.2.2.2.2.2.2.2.2.2.2.2.2.2.2.2.2.2.2.2.2.2.1 d.2.2.2.2.2.2.2.2.2.2.2.2.2.2.2.2.2.2.2.2.2.2.2.2.2.2.2.1 d.2.2.2.2.2.2.2.2.2.2.2.2.2.2.2.2.2.2.2.2.2.2.2.2.2.2.2.2.1 d.2.2.2.2.2.2.2.2.2.2.2.2.2.2.2.2.2.2.2.2.2.2.2.2.2.2.2.2.2.1 d.2.2.2.2.2.2.2.2.2.2.2.2.2.2.2.2.2.2.2.2.2.2.2.2.2.2.2.2.2.2.1 d.2.2.2.2.2.2.2.2.2.2.2.2.2.2.2.2.2.2.2.2.2.2.2.2.2.2.2.2.2.2.2.1 d.2.2.2.2.2.2.2.2.2.2.2.2.2.2.2.2.2.2.2.2.2.2.2.2.2.2.2.2.2.2.2.2.1 d.2.2.2.2.2.2.2.2.2.2.2.2.2.2.2.2.2.2.2.2.2.2.2.2.2.2.2.2.2.2.2.2.2.1 d.2.2.2.2.2.2.2.2.2.2.2.2.2.2.2.2.2.2.2.2.2.2.2.2.2.2.2.2.2.2.2.2.2.2.1 d.2.2.2.2.2.2.2.2.2.2.2.2.2.2.2.2.2.2.2.2.2.2.2.2.2.2.2.2.2.2.2.2.2.2.2.1 d.2.2.2.2.2.2.2.2.2.2.2.2.2.2.2.2.2.2.2.2.2.2.2.2.2.2.2.2.2.2.2.2.2.2.2.2.1 d.2.2.2.2.2.2.2.2.2.2.2.2.2.2.2.2.2.2.2.2.2.2.2.2.2.2.2.2.2.2.2.2.2.2.2.2.2.1 d.2.2.2.2.2.2.2.2.2.2.2.2.2.2.2.2.2.2.2.2.2.2.2.2.2.2.2.2.2.2.2.2.2.2.2.2.2.2.1 d.2.2.2.2.2.2.2.2.2.2.2.2.2.2.2.2.2.2.2.2.2.2.2.2.2.2.2.2.2.2.2.2.2.2.2.2.2.2.2.1 d.2.2.2.2.2.2.2.2.2.2.2.2.2.2.2.2.2.2.2.2.2.2.2.2.2.2.2.2.2.2.2.2.2.2.2.2.2.2.2.2.1 d.2.2.2.2.2.2.2.2.2.2.2.2.2.2.2.2.2.2.2.2.2.2.2.2.2.2.2.2.2.2.2.2.2.2.2.2.2.2.2.2.2) (ne := neL6) (by with_unfolding_all exact h) (bb, fa, z, m1, lt, mk, p, q, tp, tq, tm, tl, oP, oQ, oM, oL, oR, pl, np, ta, tb, tc, k1, k2, k3, rw', nr, mx, rs, gl, oB, b, bd, es, kk, tok, R, tv, ys, ad, ds, nd)
namespace VL6
theorem wL6 : PxL6 bb fa z m1 lt mk p q tp tq tm tl oP oQ oM oL oR pl np ta tb tc k1 k2 k3 rw' nr mx rs gl oB b bd es kk tok R tv ys ad ds nd := by
  intro eB eO hlt hmk hpq htm k1l k1u k2l k2u d1 d2 d3 d4 d5 hpl ek3 k3u hrw m1l m2l m3l m4l hrs hgl d6 hFi hT hH hds
  refine LawP.start (by k_is) rfl ?_
  intro h' tk' htk St F1 N1 hPO fin
  obtain ⟨B, X, T, hA, _, _, hh, hd, hu⟩ := id St
  simp only [kstB] at F1
  have sm : Small lt mk p q := ⟨hlt, hmk, hpq.lp, hpq.lq⟩
  k_with "my mul" => (wtm_at "?80-81"; (rw [show Str.ofString "\"" = S [34] from rfl]))
  k_with "my cat" => (wtm_at "?80-81"; (rw [S_app]))
  k_steps
  refine ⟨seq_tk htk (fun h => ∀ G : Prop, (∀ (m : Str → Option Value), Fr (bG bb) (bL bb) h m → m (Str.ofString "places") = some (.ref pl) → m (Str.ofString "told") = some (.ref tv) → News (bG bb) (bL bb) h ((tv, LCg.lst ys) :: (rw', listOf rs.toArray nr) :: (pl, listOf [.int k1 ta, .int k2 tb, .int k3 tc].toArray np) :: ((bL bb) + 1 + 1 + 1 + 1 + 1 + 1, oB) :: ((bL bb) + 1 + 1 + 1 + 1 + 1, oR) :: ((bL bb) + 1 + 1 + 1 + 1, oL) :: ((bL bb) + 1 + 1 + 1, oM) :: ((bL bb) + 1 + 1, oQ) :: ((bL bb) + 1, oP) :: book (bw bb) tok b bd gl es kk (ds.map Ent.obj ++ R)) → G) → G) ?_ ?_⟩
  · k_steps
    refine ⟨?_⟩
    rename Fr _ _ _ _ => FC
    rename News _ _ _ _ => NC
    refine t_items (tok := tok) (bd := bd) (gv := gl) (es := es) (k := kk) (rest := [(ad, listOf (refs ds).toArray nd), (tv, LCg.lst ys), (rw', listOf rs.toArray nr), (pl, listOf [.int k1 ta, .int k2 tb, .int k3 tc].toArray np), ((bL bb) + 1 + 1 + 1 + 1 + 1 + 1, oB), ((bL bb) + 1 + 1 + 1 + 1 + 1, oR), ((bL bb) + 1 + 1 + 1 + 1, oL), ((bL bb) + 1 + 1 + 1, oM), ((bL bb) + 1 + 1, oQ), ((bL bb) + 1, oP)] ++ (ds.map Ent.obj ++ R)) hFi.len _ _ _ _ _ _ _ _ _ _ _ ⟨B, FC, X, book_of (pre := [(ad, listOf (refs ds).toArray nd), (tv, LCg.lst ys), (rw', listOf rs.toArray nr), (pl, listOf [.int k1 ta, .int k2 tb, .int k3 tc].toArray np), ((bL bb) + 1 + 1 + 1 + 1 + 1 + 1, oB), ((bL bb) + 1 + 1 + 1 + 1 + 1, oR), ((bL bb) + 1 + 1 + 1 + 1, oL), ((bL bb) + 1 + 1 + 1, oM), ((bL bb) + 1 + 1, oQ), ((bL bb) + 1, oP)]) NC, T, hA, rfl, rfl, rfl⟩ (by k_extra "my room") (by k_extra "my room") ?_
    clear FC NC
    rintro v' tl' h' tk' F' N' ⟨a, n, rfl, rfl⟩
    k_steps
    refine ⟨items_same (pre := [(tv, LCg.lst ys), (rw', listOf rs.toArray nr), (pl, listOf [.int k1 ta, .int k2 tb, .int k3 tc].toArray np), ((bL bb) + 1 + 1 + 1 + 1 + 1 + 1, oB), ((bL bb) + 1 + 1 + 1 + 1 + 1, oR), ((bL bb) + 1 + 1 + 1 + 1, oL), ((bL bb) + 1 + 1 + 1, oM), ((bL bb) + 1 + 1, oQ), ((bL bb) + 1, oP)]) N' hH hds hFi (by k_extra "my cline") ?_⟩
    k_steps
    refine ⟨given_same (pre := [(tv, LCg.lst ys), (rw', listOf rs.toArray nr), (pl, listOf [.int k1 ta, .int k2 tb, .int k3 tc].toArray np), ((bL bb) + 1 + 1 + 1 + 1 + 1 + 1, oB), ((bL bb) + 1 + 1 + 1 + 1 + 1, oR), ((bL bb) + 1 + 1 + 1 + 1, oL), ((bL bb) + 1 + 1 + 1, oM), ((bL bb) + 1 + 1, oQ), ((bL bb) + 1, oP)]) N' hH hds hFi (by k_extra "my cline") ?_⟩
    k_steps
    rename Fr _ _ _ _ => F9
    rename News _ _ _ _ => N9
    exact EndR.intro fun G kont => kont _ F9 rfl rfl (items_out (pre := [(tv, LCg.lst ys), (rw', listOf rs.toArray nr), (pl, listOf [.int k1 ta, .int k2 tb, .int k3 tc].toArray np), ((bL bb) + 1 + 1 + 1 + 1 + 1 + 1, oB), ((bL bb) + 1 + 1 + 1 + 1 + 1, oR), ((bL bb) + 1 + 1 + 1 + 1, oL), ((bL bb) + 1 + 1 + 1, oM), ((bL bb) + 1 + 1, oQ), ((bL bb) + 1, oP)]) N9)
  clear F1 N1 htk
  intro h' tk' htk hR
  refine hR _ ?_
  clear hR
  intro m1 F1 q1 q2 N1
  replace F1 := fr_as (ps := [(Str.ofString "places", _), (Str.ofString "told", _)]) F1 ⟨q1, q2, trivial⟩
  simp only [kstB] at F1
  clear q1 q2
  replace hT := hT.mono (T' := ds.map Ent.obj ++ R) fun x hx => List.mem_append_right _ hx
  generalize ds.map Ent.obj ++ R = R' at *
  generalize ys = yl at *
  obtain ⟨D0, x0, x1, n0, r, rfl, hm0, hT⟩ := hT.inv
  obtain ⟨D1, x2, x3, n1, r, rfl, hm1, hT⟩ := hT.inv
  obtain ⟨D2, x4, x5, n2, r, rfl, hm2, hT⟩ := hT.inv
  obtain rfl := hT.inv0
  clear hT
  have inR : ∀ x ∈ R', x ∈ ((tv, LCg.lst [.ref D0, .ref D1, .ref D2]) :: (rw', listOf rs.toArray nr) :: (pl, listOf [.int k1 ta, .int k2 tb, .int k3 tc].toArray np) :: ((bL bb) + 1 + 1 + 1 + 1 + 1 + 1, oB) :: ((bL bb) + 1 + 1 + 1 + 1 + 1, oR) :: ((bL bb) + 1 + 1 + 1 + 1, oL) :: ((bL bb) + 1 + 1 + 1, oM) :: ((bL bb) + 1 + 1, oQ) :: ((bL bb) + 1, oP) :: book (bw bb) tok b bd gl es kk R') := fun x hx => .tail _ (.tail _ (.tail _ (.tail _ (.tail _ (.tail _ (.tail _ (.tail _ (.tail _ (.tail _ (.tail _ (.tail _ (List.mem_append_right _ hx))))))))))))
  try dsimp only
  -- common
  have ub1 : (U p q k1).natAbs < 2 ^ 1000 := lt_pow_up (sm.ub (by omega)) (by omega)
  have ub2 : (U p q k2).natAbs < 2 ^ 1000 := lt_pow_up (sm.ub (by omega)) (by omega)
  have hgcd := U_gcd hpq.cop k1 k2
  rw [ek3] at hgcd
  k_steps
  refine ⟨seq_tk htk (fun h => ∀ G : Prop, (∀ (m : Str → Option Value), Fr (bG bb) (bL bb) h m → m (Str.ofString "places") = some (.ref pl) → m (Str.ofString "told") = some (.ref tv) → News (bG bb) (bL bb) h ((tv, LCg.lst [.ref D0, .ref D1, .ref D2]) :: (rw', listOf rs.toArray nr) :: (pl, listOf [.int k1 ta, .int k2 tb, .int k3 tc].toArray np) :: ((bL bb) + 1 + 1 + 1 + 1 + 1 + 1, oB) :: ((bL bb) + 1 + 1 + 1 + 1 + 1, oR) :: ((bL bb) + 1 + 1 + 1 + 1, oL) :: ((bL bb) + 1 + 1 + 1, oM) :: ((bL bb) + 1 + 1, oQ) :: ((bL bb) + 1, oP) :: book (bw bb) tok b bd gl es kk R') → G) → G) ?_ ?_⟩
  · have N2 := News.also (News.also (News.also N1 (inR _ hm0)) (.tail _ (inR _ hm1))) (.tail _ (.tail _ (inR _ hm2)))
    clear N1
    k_steps
    refine ⟨?_⟩
    rename Fr _ _ _ _ => FC
    rename News _ _ _ _ => NC
    refine t_common ub1 ub2 _ _ _ _ _ _ _ _ _ _ _ ⟨B, FC, X, NC, T, hA, rfl, rfl, rfl⟩ (by k_extra "my room") (by k_extra "my room") ?_
    clear FC NC
    rintro v' tl' h' tk' F' N' ⟨⟨gg, tg, rfl, hg2⟩, rfl⟩
    have habs : gg.natAbs = (U p q k3).natAbs := hg2.trans hgcd
    k_steps
    · exact absurd (abs_same habs) (by assumption)
    rename Fr _ _ _ _ => F9
    rename News _ _ _ _ => N9
    exact EndR.intro fun G kont => kont _ F9 rfl rfl (News.sub N9 (fun p hp => .tail _ (.tail _ (.tail _ hp))))
  · intro h' tk' htk hR
    refine hR _ ?_
    clear hR F1 N1
    intro m1 F1 q1 q2 N1
    exact LawP.use (by k_is) rfl (epL7 VL7.wL7 bb fa z m1 lt mk p q tp tq tm tl oP oQ oM oL oR pl np ta tb tc k1 k2 k3 rw' nr mx rs gl oB b bd es kk tok tv R' D0 D1 D2 x0 x1 n0 eB eO hlt hmk hpq htm k1l k1u k2l k2u d1 d2 d3 d4 d5 hpl ek3 k3u hrw m1l m2l m3l m4l hrs hgl d6 hFi hH hm0 inR) htk St (fr_as (ps := [(Str.ofString "places", _), (Str.ofString "told", _)]) F1 ⟨q1, q2, trivial⟩) N1 hPO fin
end VL6
noncomputable section
noncomputable def PxL5 (bb : Bd) (fa : Addr) (z : Value) (m1 : Str → Option Value) (lt : Nat) (mk : Nat) (p : Int) (q : Int) (tp : Tok) (tq : Tok) (tm : Tok) (tl : Tok) (oP : Obj) (oQ : Obj) (oM : Obj) (oL : Obj) (oR : Obj) (pl : Addr) (np : Nat) (ta : Tok) (tb : Tok) (tc : Tok) (k1 : Nat) (k2 : Nat) (k3 : Nat) (rw' : Addr) (nr : Nat) (mx : Nat) (rs : List Value) (gl : Addr) (oB : Obj) (b : Addr) (bd : Addr) (es : List Ent) (kk : Nat) (tok : Tok) (R : List (Addr × Obj)) (tv : Addr) (ys : List Value) : Prop :=
  bBase bb = bG bb → bOuter bb = [] → Letter lt → Mark mk → PQ p q → tm ≠ 0 → 1 ≤ k1 → k1 ≤ 20 → 1 ≤ k2 → k2 ≤ 20 → oP.data = .cell (some (.int p tp)) → oQ.data = .cell (some (.int q tq)) → oM.data = .cell (some (.str (S [mk]) tm)) → oL.data = .cell (some (.str (S [lt]) tl)) → oR.data = .cell (some (.ref rw')) → @LT.lt Nat _ (bL bb + 1 + 1 + 1 + 1 + 1 + 1) pl → Nat.gcd k1 k2 = k3 → k3 ≤ 20 → @LT.lt Nat _ pl rw' → k1 ≤ mx → k2 ≤ mx → k3 ≤ mx → mx ≤ 20 → IntsAre rs ((List.range (mx + 2)).map (U p q)) → @LT.lt Nat _ rw' gl → oB.data = .cell (some (.ref b)) → Fine es → Twos p q R ys [k1, k2, k3] → Holds lt mk p q (ordAt [k1, k2, k3]) es → Apart b bd gl es R → @Ne Nat tv gl →
  LawP bb fa z 12 (tm + 1) (kstB m1 [(Str.ofString "places", .ref pl), (Str.ofString "given", .ref gl), (Str.ofString "told", .ref tv)]) ((tv, LCg.lst ys) :: (rw', listOf rs.toArray nr) :: (pl, listOf [.int k1 ta, .int k2 tb, .int k3 tc].toArray np) :: (bL bb + 1 + 1 + 1 + 1 + 1 + 1, oB) :: (bL bb + 1 + 1 + 1 + 1 + 1, oR) :: (bL bb + 1 + 1 + 1 + 1, oL) :: (bL bb + 1 + 1 + 1, oM) :: (bL bb + 1 + 1, oQ) :: (bL bb + 1, oP) :: book (bw bb) tok b bd gl es kk R)
theorem neL5 : Nonempty (Bd × Addr × Value × (Str → Option Value) × Nat × Nat × Int × Int × Tok × Tok × Tok × Tok × Obj × Obj × Obj × Obj × Obj × Addr × Nat × Tok × Tok × Tok × Nat × Nat × Nat × Addr × Nat × Nat × (List Value) × Addr × Obj × Addr × Addr × (List Ent) × Nat × Tok × (List (Addr × Obj)) × Addr × (List Value)) := bd_ne.elim fun bb => ⟨(bb, 0, .none, fun _ => none, 0, 0, 0, 0, 0, 0, 0, 0, default, default, default, default, default, 0, 0, 0, 0, 0, 0, 0, 0, 0, 0, 0, [], 0, default, 0, 0, [], 0, 0, [], 0, [])⟩
@[irreducible] noncomputable def DL5 : Bd × Addr × Value × (Str → Option Value) × Nat × Nat × Int × Int × Tok × Tok × Tok × Tok × Obj × Obj × Obj × Obj × Obj × Addr × Nat × Tok × Tok × Tok × Nat × Nat × Nat × Addr × Nat × Nat × (List Value) × Addr × Obj × Addr × Addr × (List Ent) × Nat × Tok × (List (Addr × Obj)) × Addr × (List Value) := @Classical.epsilon _ neL5 fun d => ¬ PxL5 d.1 d.2.1 d.2.2.1 d.2.2.2.1 d.2.2.2.2.1 d.2.2.2.2.2.1 d.2.2.2.2.2.2.1 d.2.2.2.2.2.2.2.1 d.2.2.2.2.2.2.2.2.1 d.2.2.2.2.2.2.2.2.2.1 d.2.2.2.2.2.2.2.2.2.2.1 d.2.2.2.2.2.2.2.2.2.2.2.1 d.2.2.2.2.2.2.2.2.2.2.2.2.1 d.2.2.2.2.2.2.2.2.2.2.2.2.2.1 d.2.2.2.2.2.2.2.2.2.2.2.2.2.2.1 d.2.2.2.2.2.2.2.2.2.2.2.2.2.2.2.1 d.2.2.2.2.2.2.2.2.2.2.2.2.2.2.2.2.1 d.2.2.2.2.2.2.2.2.2.2.2.2.2.2.2.2.2.1 d.2.2.2.2.2.2.2.2.2.2.2.2.2.2.2.2.2.2.1 d.2.2.2.2.2.2.2.2.2.2.2.2.2.2.2.2.2.2.2.1 d.2.2.2.2.2.2.2.2.2.2.2.2.2.2.2.2.2.2.2.2.1 d.2.2.2.2.2.2.2.2.2.2.2.2.2.2.2.2.2.2.2.2.2.1 d.2.2.2.2.2.2.2.2.2.2.2.2.2.2.2.2.2.2.2.2.2.2.1 d.2.2.2.2.2.2.2.2.2.2.2.2.2.2.2.2.2.2.2.2.2.2.2.1 d.2.2.2.2.2.2.2.2.2.2.2.2.2.2.2.2.2.2.2.2.2.2.2.2.1 d.2.2.2.2.2.2.2.2.2.2.2.2.2.2.2.2.2.2.2.2.2.2.2.2.2.1 d.2.2.2.2.2.2.2.2.2.2.2.2.2.2.2.2.2.2.2.2.2.2.2.2.2.2.1 d.2.2.2.2.2.2.2.2.2.2.2.2.2.2.2.2.2.2.2.2.2.2.2.2.2.2.2.1 d.2.2.2.2.2.2.2.2.2.2.2.2.2.2.2.2.2.2.2.2.2.2.2.2.2.2.2.2.1 d.2.2.2.2.2.2.2.2.2.2.2.2.2.2.2.2.2.2.2.2.2.2.2.2.2.2.2.2.2.1 d.2.2.2.2.2.2.2.2.2.2.2.2.2.2.2.2.2.2.2.2.2.2.2.2.2.2.2.2.2.2.1 d.2.2.2.2.2.2.2.2.2.2.2.2.2.2.2.2.2.2.2.2.2.2.2.2.2.2.2.2.2.2.2.1 d.2.2.2.2.2.2.2.2.2.2.2.2.2.2.2.2.2.2.2.2.2.2.2.2.2.2.2.2.2.2.2.2.1 d.2.2.2.2.2.2.2.2.2.2.2.2.2.2.2.2.2.2.2.2.2.2.2.2.2.2.2.2.2.2.2.2.2.1 d.2.2.2.2.2.2.2.2.2.2.2.2.2.2.2.2.2.2.2.2.2.2.2.2.2.2.2.2.2.2.2.2.2.2.1 d.2.2.2.2.2.2.2.2.2.2.2.2.2.2.2.2.2.2.2.2.2.2.2.2.2.2.2.2.2.2.2.2.2.2.2.1 d.2.2.2.2.2.2.2.2.2.2.2.2.2.2.2.2.2.2.2.2.2.2.2.2.2.2.2.2.2.2.2.2.2.2.2.2.1 d.2.2.2.2.2.2.2.2.2.2.2.2.2.2.2.2.2.2.2.2.2.2.2.2.2.2.2.2.2.2.2.2.2.2.2.2.2.1 d.2.2.2.2.2.2.2.2.2.2.2.2.2.2.2.2.2.2.2.2.2.2.2.2.2.2.2.2.2.2.2.2.2.2.2.2.2.2
namespace VL5
@[irreducible] noncomputable def bb : Bd := DL5.1
@[irreducible] noncomputable def fa : Addr := DL5.2.1
@[irreducible] noncomputable def z : Value := DL5.2.2.1
@[irreducible] noncomputable def m1 : Str → Option Value := DL5.2.2.2.1
@[irreducible] noncomputable def lt : Nat := DL5.2.2.2.2.1
@[irreducible] noncomputable def mk : Nat := DL5.2.2.2.2.2.1
@[irreducible] noncomputable def p : Int := DL5.2.2.2.2.2.2.1
@[irreducible] noncomputable def q : Int := DL5.2.2.2.2.2.2.2.1
@[irreducible] noncomputable def tp : Tok := DL5.2.2.2.2.2.2.2.2.1
@[irreducible] noncomputable def tq : Tok := DL5.2.2.2.2.2.2.2.2.2.1
@[irreducible] noncomputable def tm : Tok := DL5.2.2.2.2.2.2.2.2.2.2.1
@[irreducible] noncomputable def tl : Tok := DL5.2.2.2.2.2.2.2.2.2.2.2.1
@[irreducible] noncomputable def oP : Obj := DL5.2.2.2.2.2.2.2.2.2.2.2.2.1
@[irreducible] noncomputable def oQ : Obj := DL5.2.2.2.2.2.2.2.2.2.2.2.2.2.1
@[irreducible] noncomputable def oM : Obj := DL5.2.2.2.2.2.2.2.2.2.2.2.2.2.2.1
@[irreducible] noncomputable def oL : Obj := DL5.2.2.2.2.2.2.2.2.2.2.2.2.2.2.2.1
@[irreducible] noncomputable def oR : Obj := DL5.2.2.2.2.2.2.2.2.2.2.2.2.2.2.2.2.1
@[irreducible] noncomputable def pl : Addr := DL5.2.2.2.2.2.2.2.2.2.2.2.2.2.2.2.2.2.1
@[irreducible] noncomputable def np : Nat := DL5.2.2.2.2.2.2.2.2.2.2.2.2.2.2.2.2.2.2.1
@[irreducible] noncomputable def ta : Tok := DL5.2.2.2.2.2.2.2.2.2.2.2.2.2.2.2.2.2.2.2.1
@[irreducible] noncomputable def tb : Tok := DL5.2.2.2.2.2.2.2.2.2.2.2.2.2.2.2.2.2.2.2.2.1
@[irreducible] noncomputable def tc : Tok := DL5.2.2.2.2.2.2.2.2.2.2.2.2.2.2.2.2.2.2.2.2.2.1
@[irreducible] noncomputable def k1 : Nat := DL5.2.2.2.2.2.2.2.2.2.2.2.2.2.2.2.2.2.2.2.2.2.2.1
@[irreducible] noncomputable def k2 : Nat := DL5.2.2.2.2.2.2.2.2.2.2.2.2.2.2.2.2.2.2.2.2.2.2.2.1
@[irreducible] noncomputable def k3 : Nat := DL5.2.2.2.2.2.2.2.2.2.2.2.2.2.2.2.2.2.2.2.2.2.2.2.2.1
@[irreducible] noncomputable def rw' : Addr := DL5.2.2.2.2.2.2.2.2.2.2.2.2.2.2.2.2.2.2.2.2.2.2.2.2.2.1
@[irreducible] noncomputable def nr : Nat := DL5.2.2.2.2.2.2.2.2.2.2.2.2.2.2.2.2.2.2.2.2.2.2.2.2.2.2.1
@[irreducible] noncomputable def mx : Nat := DL5.2.2.2.2.2.2.2.2.2.2.2.2.2.2.2.2.2.2.2.2.2.2.2.2.2.2.2.1
@[irreducible] noncomputable def rs : List Value := DL5.2.2.2.2.2.2.2.2.2.2.2.2.2.2.2.2.2.2.2.2.2.2.2.2.2.2.2.2.1
@[irreducible] noncomputable def gl : Addr := DL5.2.2.2.2.2.2.2.2.2.2.2.2.2.2.2.2.2.2.2.2.2.2.2.2.2.2.2.2.2.1
@[irreducible] noncomputable def oB : Obj := DL5.2.2.2.2.2.2.2.2.2.2.2.2.2.2.2.2.2.2.2.2.2.2.2.2.2.2.2.2.2.2.1
@[irreducible] noncomputable def b : Addr := DL5.2.2.2.2.2.2.2.2.2.2.2.2.2.2.2.2.2.2.2.2.2.2.2.2.2.2.2.2.2.2.2.1
@[irreducible] noncomputable def bd : Addr := DL5.2.2.2.2.2.2.2.2.2.2.2.2.2.2.2.2.2.2.2.2.2.2.2.2.2.2.2.2.2.2.2.2.1
@[irreducible] noncomputable def es : List Ent := DL5.2.2.2.2.2.2.2.2.2.2.2.2.2.2.2.2.2.2.2.2.2.2.2.2.2.2.2.2.2.2.2.2.2.1
@[irreducible] noncomputable def kk : Nat := DL5.2.2.2.2.2.2.2.2.2.2.2.2.2.2.2.2.2.2.2.2.2.2.2.2.2.2.2.2.2.2.2.2.2.2.1
@[irreducible] noncomputable def tok : Tok := DL5.2.2.2.2.2.2.2.2.2.2.2.2.2.2.2.2.2.2.2.2.2.2.2.2.2.2.2.2.2.2.2.2.2.2.2.1
@[irreducible] noncomputable def R : List (Addr × Obj) := DL5.2.2.2.2.2.2.2.2.2.2.2.2.2.2.2.2.2.2.2.2.2.2.2.2.2.2.2.2.2.2.2.2.2.2.2.2.1
@[irreducible] noncomputable def tv : Addr := DL5.2.2.2.2.2.2.2.2.2.2.2.2.2.2.2.2.2.2.2.2.2.2.2.2.2.2.2.2.2.2.2.2.2.2.2.2.2.1
@[irreducible] noncomputable def ys : List Value := DL5.2.2.2.2.2.2.2.2.2.2.2.2.2.2.2.2.2.2.2.2.2.2.2.2.2.2.2.2.2.2.2.2.2.2.2.2.2.2
end VL5
end
theorem epL5 (h : PxL5 VL5.bb VL5.fa VL5.z VL5.m1 VL5.lt VL5.mk VL5.p VL5.q VL5.tp VL5.tq VL5.tm VL5.tl VL5.oP VL5.oQ VL5.oM VL5.oL VL5.oR VL5.pl VL5.np VL5.ta VL5.tb VL5.tc VL5.k1 VL5.k2 VL5.k3 VL5.rw' VL5.nr VL5.mx VL5.rs VL5.gl VL5.oB VL5.b VL5.bd VL5.es VL5.kk VL5.tok VL5.R VL5.tv VL5.ys) (bb : Bd) (fa : Addr) (z : Value) (m1 : Str → Option Value) (lt : Nat) (mk : Nat) (p : Int) (q : Int) (tp : Tok) (tq : Tok) (tm : Tok) (tl : Tok) (oP : Obj) (oQ : Obj) (oM : Obj) (oL : Obj) (oR : Obj) (pl : Addr) (np : Nat) (ta : Tok) (tb : Tok) (tc : Tok) (k1 : Nat) (k2 : Nat) (k3 : Nat) (rw' : Addr) (nr : Nat) (mx : Nat) (rs : List Value) (gl : Addr) (oB : Obj) (b : Addr) (bd : Addr) (es : List Ent) (kk : Nat) (tok : Tok) (R : List (Addr × Obj)) (tv : Addr) (ys : List Value) : PxL5 bb fa z m1 lt mk p q tp tq tm tl oP oQ oM oL oR pl np ta tb tc k1 k2 k3 rw' nr mx rs gl oB b bd es kk tok R tv ys := eps_at (P := fun d : Bd × Addr × Value × (Str → Option Value) × Nat × Nat × Int × Int × Tok × Tok × Tok × Tok × Obj × Obj × Obj × Obj × Obj × Addr × Nat × Tok × Tok × Tok × Nat × Nat × Nat × Addr × Nat × Nat × (List Value) × Addr × Obj × Addr × Addr × (List Ent) × Nat × Tok × (List (Addr × Obj)) × Addr × (List Value) => PxL5 d.1 d.2.1 d.2.2.1 d.2.2.2.1 d.2.2.2.2.1 d.2.2.2.2.2.1 d.2.2.2.2.2.2.1 d.2.2.2.2.2.2.2.1 d.2.2.2.2.2.2.2.2.1 d.2.2.2.2.2.2.2.2.2.1 d.2.2.2.2.2.2.2.2.2.2.1 d.2.2.2.2.2.2.2.2.2.2.2.1 d.2.2.2.2.2.2.2.2.2.2.2.2.1 d.2.2.2.2.2.2.2.2.2.2.2.2.2.1 d.2.2.2.2.2.2.2.2.2.2.2.2.2.2.1 d.2.2.2.2.2.2.2.2.2.2.2.2.2.2.2.1 d.2.2.2.2.2.2.2.2.2.2.2.2.2.2.2.2.1 d.2.2.2.2.2.2.2.2.2.2.2.2.2.2.2.2.2.1 d.2.2.2.2.2.2.2.2.2.2.2.2.2.2.2.2.2.2.1 d.2.2.2.2.2.2.2.2.2.2.2.2.2.2.2.2.2.2.2.1 d.2.2.2.2.2.2.2.2.2.2.2.2.2.2.2.2.2.2.2.2.1 d.2.2.2.2.2.2.2.2.2.2.2.2.2.2.2.2.2.2.2.2.2.1 d.2.2.2.2.2.2.2.2.2.2.2.2.2.2.2.2.2.2.2.2.2.2.1 d.2.2.2.2.2.2.2.2.2.2.2.2.2.2.2.2.2.2.2.2.2.2.2.1 d.2.2.2.2.2.2.2.2.2.2.2.2.2.2.2.2.2.2.2.2.2.2.2.2.1 d.2.2.2.2.2.2.2.2.2.2.2.2.2.2.2.2.2.2.2.2.2.2.2.2.2.1 d.2.2.2.2.2.2.2.2.2.2.2.2.2.2.2.2.2.2.2.2.2.2.2.2.2.2.1 d.2.2.2.2.2.2.2.2.2.2.2.2.2.2.2.2.2.2.2.2.2.2.2.2.2.2.2.1 d.2.2.2.2.2.2.2.2.2.2.2.2.2.2.2.2.2.2.2.2.2.2.2.2.2.2.2.2.1 d.2.2.2.2.2.2.2.2.2.2.2.2.2.2.2.2.2.2.2.2.2.2.2.2.2.2.2.2.2.1 d.2.2.2.2.2.2.2.2.2.2.2.2.2.2.2.2.2.2.2.2.2.2.2.2.2.2.2.2.2.2.1 d.2.2.2.2.2.2.2.2.2.2.2.2.2.2.2.2.2.2.2.2.2.2.2.2.2.2.2.2.2.2.2.1 d.2.2.2.2.2.2.2.2.2.2.2.2.2.2.2.2.2.2.2.2.2.2.2.2.2.2.2.2.2.2.2.2.1 d.2.2.2.2.2.2.2.2.2.2.2.2.2.2.2.2.2.2.2.2.2.2.2.2.2.2.2.2.2.2.2.2.2.1 d.2.2.2.2.2.2.2.2.2.2.2.2.2.2.2.2.2.2.2.2.2.2.2.2.2.2.2.2.2.2.2.2.2.2.1 d.2.2.2.2.2.2.2.2.2.2.2.2.2.2.2.2.2.2.2.2.2.2.2.2.2.2.2.2.2.2.2.2.2.2.2.1 d.2.2.2.2.2.2.2.2.2.2.2.2.2.2.2.2.2.2.2.2.2.2.2.2.2.2.2.2.2.2.2.2.2.2.2.2.1 d.2.2.2.2.2.2.2.2.2.2.2.2.2.2.2.2.2.2.2.2.2.2.2.2.2.2.2.2.2.2.2.2.2.2.2.2.2.1 d.2.2.2.2.2.2.2.2.2.2.2.2.2.2.2.2.2.2.2.2.2.2.2.2.2.2.2.2.2.2.2.2.2.2.2.2.2.2) (ne := neL5) (by with_unfolding_all exact h) (bb, fa, z, m1, lt, mk, p, q, tp, tq, tm, tl, oP, oQ, oM, oL, oR, pl, np, ta, tb, tc, k1, k2, k3, rw', nr, mx, rs, gl, oB, b, bd, es, kk, tok, R, tv, ys)
namespace VL5
theorem wL5 : PxL5 bb fa z m1 lt mk p q tp tq tm tl oP oQ oM oL oR pl np ta tb tc k1 k2 k3 rw' nr mx rs gl oB b bd es kk tok R tv ys := by
  intro eB eO hlt hmk hpq htm k1l k1u k2l k2u d1 d2 d3 d4 d5 hpl ek3 k3u hrw m1l m2l m3l m4l hrs hgl d6 hFi hT hH hAp htg
  refine LawP.start (by k_is) rfl ?_
  intro h' tk' htk St F1 N1 hPO fin
  obtain ⟨B, X, T, hA, _, _, hh, hd, hu⟩ := id St
  simp only [kstB] at F1
  have sm : Small lt mk p q := ⟨hlt, hmk, hpq.lp, hpq.lq⟩
  k_with "my mul" => (wtm_at "?80-81"; (rw [show Str.ofString "\"" = S [34] from rfl]))
  k_with "my cat" => (wtm_at "?80-81"; (rw [S_app]))
  k_steps
  refine ⟨seq_tk htk (fun h => ∀ G : Prop, (∀ (m : Str → Option Value), Fr (bG bb) (bL bb) h m → m (Str.ofString "places") = some (.ref pl) → m (Str.ofString "given") = some (.ref gl) → m (Str.ofString "told") = some (.ref tv) → News (bG bb) (bL bb) h ((tv, LCg.lst ys) :: (rw', listOf rs.toArray nr) :: (pl, listOf [.int k1 ta, .int k2 tb, .int k3 tc].toArray np) :: ((bL bb) + 1 + 1 + 1 + 1 + 1 + 1, oB) :: ((bL bb) + 1 + 1 + 1 + 1 + 1, oR) :: ((bL bb) + 1 + 1 + 1 + 1, oL) :: ((bL bb) + 1 + 1 + 1, oM) :: ((bL bb) + 1 + 1, oQ) :: ((bL bb) + 1, oP) :: book (bw bb) tok b bd gl es kk R) → G) → G) ?_ ?_⟩
  · k_steps
    refine ⟨?_⟩
    refine LCg.CompSrc.ledger (its := [.int k1 ta, .int k2 tb, .int k3 tc].toArray) (k := np) rfl F1 N1 (.tail _ (.tail _ (.head _))) (by rw [sizeLine_eq]; exact Nat.le_of_ble_eq_true rfl) ?_
    intro g
    refine rest_G (n := 3) (fun i zs nw => (∀ x ∈ ((tv, LCg.lst ys) :: (rw', listOf rs.toArray nr) :: (pl, listOf [.int k1 ta, .int k2 tb, .int k3 tc].toArray np) :: ((bL bb) + 1 + 1 + 1 + 1 + 1 + 1, oB) :: ((bL bb) + 1 + 1 + 1 + 1 + 1, oR) :: ((bL bb) + 1 + 1 + 1 + 1, oL) :: ((bL bb) + 1 + 1 + 1, oM) :: ((bL bb) + 1 + 1, oQ) :: ((bL bb) + 1, oP) :: book (bw bb) tok b bd gl es kk R), x ∈ nw) ∧ Twos p q nw zs ([k1, k2, k3].take i)) ?_ ?_ _ _ _ _ (by rfl) ⟨fun _ h => h, .nil⟩
    rotate_left
    · rintro i zs nw hi ⟨hsub, hZ⟩ v I oI C oC D m₂ h tk E' hP hC hx F9 N9 off hne
      obtain ⟨k, t, rfl, hk⟩ := ints_nat_at (l := [k1, k2, k3]) (.cons _ _ (.cons _ _ (.cons _ _ .nil))) (by simpa using hP)
      have hk2 : k ≤ mx := by
        have := List.mem_of_getElem? hk
        simp only [List.mem_cons, List.not_mem_nil, or_false] at this
        omega
      have N8 := News.also (News.also N9 (.tail _ (.tail _ (.tail _ (hsub (rw', listOf rs.toArray nr) (.tail _ (.head _))))))) (.tail _ (.tail _ (.tail _ (.tail _ (hsub ((bL bb) + 1 + 1 + 1 + 1 + 1, oR) (.tail _ (.tail _ (.tail _ (.tail _ (.head _)))))))))) 
      clear N9
      obtain ⟨t1, hr1⟩ := ints_row hrs (j := k) (by omega)
      obtain ⟨t2, hr2⟩ := ints_row hrs (j := k + 1) (by omega)
      k_with "my pick" => (wtm_at "?80-81"; exact pick2 hr1 hr2)
      k_with "my sz" => (wtm_at "?80-81"; (rw [List.size_toArray, ints_len hrs, List.length_map, List.length_range, sizeLine_eq]; omega))
      k_steps
      rename Fr _ _ _ _ => F7
      rename News _ _ _ _ => N7
      have hta : [k1, k2, k3].take (i + 1) = [k1, k2, k3].take i ++ [k] := by rw [List.take_add_one, hk]; rfl
      refine ⟨end_one F7 N7 (by omega) (by omega) (by omega) off (.inr ⟨_, .tail _ (hsub _ (.tail _ (.tail _ (.head _)))), rfl, _, rfl⟩) ⟨fun x hx => .tail _ (hsub x hx), ?_⟩⟩
      rw [hta]
      exact (hZ.mono fun _ h => .tail _ h).app (.cons (.head _) .nil)
    · rintro zs nw ⟨hsub, hZ⟩ D h tk F9 N9 off
      k_steps
      refine ⟨cmp_same N9 (.tail _ (hsub _ (.head _))) (.head _) (hT.mono ?_).dat (hZ.mono fun _ h => .tail _ h).dat twos_ok (by k_extra "my cline") ?_⟩
      · exact fun x hx => .tail _ (hsub x (.tail _ (.tail _ (.tail _ (.tail _ (.tail _ (.tail _ (.tail _ (.tail _ (.tail _ (.tail _ (.tail _ (.tail _ (List.mem_append_right _ hx))))))))))))))
      k_steps
      exact EndR.intro fun G kont => kont _ F9 rfl rfl rfl (News.sub N9 (fun p hp => .tail _ (hsub p hp)))
  clear F1 N1 htk hAp htg
  intro h' tk' htk hR
  refine hR _ ?_
  clear hR
  intro m1 F1 q1 q2 q3 N1
  replace F1 := fr_as (ps := [(Str.ofString "places", _), (Str.ofString "given", _), (Str.ofString "told", _)]) F1 ⟨q1, q2, q3, trivial⟩
  simp only [kstB] at F1
  clear q1 q2 q3
  try dsimp only
  -- due
  k_steps
  refine ⟨seq_tk htk (fun h => ∀ G : Prop, (∀ (m : Str → Option Value) (ad : Addr) (ds : List Ent) (n : Nat), Fr (bG bb) (bL bb) h m → m (Str.ofString "places") = some (.ref pl) → m (Str.ofString "given") = some (.ref gl) → m (Str.ofString "told") = some (.ref tv) → m (Str.ofString "due") = some (.ref ad) → News (bG bb) (bL bb) h ((ad, listOf (refs ds).toArray n) :: ((tv, LCg.lst ys) :: (rw', listOf rs.toArray nr) :: (pl, listOf [.int k1 ta, .int k2 tb, .int k3 tc].toArray np) :: ((bL bb) + 1 + 1 + 1 + 1 + 1 + 1, oB) :: ((bL bb) + 1 + 1 + 1 + 1 + 1, oR) :: ((bL bb) + 1 + 1 + 1 + 1, oL) :: ((bL bb) + 1 + 1 + 1, oM) :: ((bL bb) + 1 + 1, oQ) :: ((bL bb) + 1, oP) :: book (bw bb) tok b bd gl es kk (ds.map Ent.obj ++ R))) → Holds lt mk p q (ordAt [k1, k2, k3]) ds → G) → G) ?_ ?_⟩
  · k_steps
    refine ⟨?_⟩
    rename Fr _ _ _ _ => FC
    rename News _ _ _ _ => NC
    refine t_due (t0 := ta) (t1 := tb) (t2 := tc) (nn := mx + 2) (np := np) (nr := nr) (pl := pl) (rwa := rw') (rest := (tv, LCg.lst ys) :: ((bL bb) + 1 + 1 + 1 + 1 + 1 + 1, oB) :: ((bL bb) + 1 + 1 + 1 + 1 + 1, oR) :: ((bL bb) + 1 + 1 + 1 + 1, oL) :: ((bL bb) + 1 + 1 + 1, oM) :: ((bL bb) + 1 + 1, oQ) :: ((bL bb) + 1, oP) :: book (bw bb) tok b bd gl es kk R) sm hrs (by omega) ⟨by omega, by omega, by omega⟩ k1u k2u k3u _ _ _ _ _ _ _ _ _ _ _ ⟨B, FC, X, due_in NC, T, hA, rfl, rfl, rfl⟩ (by k_extra "my room") (by k_extra "my room") ?_
    clear FC NC
    rintro v' tl' h' tk' F' N' ⟨ad, ds, n, rfl, rfl, hds⟩
    k_steps
    rename Fr _ _ _ _ => F9
    rename News _ _ _ _ => N9
    exact EndR.intro fun G kont => kont _ ad ds n F9 rfl rfl rfl rfl (due_out (cs := [((bL bb) + 1 + 1 + 1 + 1 + 1 + 1, oB), ((bL bb) + 1 + 1 + 1 + 1 + 1, oR), ((bL bb) + 1 + 1 + 1 + 1, oL), ((bL bb) + 1 + 1 + 1, oM), ((bL bb) + 1 + 1, oQ), ((bL bb) + 1, oP)]) N9) hds
  · intro h' tk' htk hR
    refine hR _ ?_
    clear hR F1 N1
    intro m1 ad ds nd F1 q1 q2 q3 q4 N1 hds
    exact LawP.use (by k_is) rfl (epL6 VL6.wL6 bb fa z m1 lt mk p q tp tq tm tl oP oQ oM oL oR pl np ta tb tc k1 k2 k3 rw' nr mx rs gl oB b bd es kk tok R tv ys ad ds nd eB eO hlt hmk hpq htm k1l k1u k2l k2u d1 d2 d3 d4 d5 hpl ek3 k3u hrw m1l m2l m3l m4l hrs hgl d6 hFi hT hH hds) htk St (fr_as (ps := [(Str.ofString "places", _), (Str.ofString "given", _), (Str.ofString "told", _), (Str.ofString "due", _)]) F1 ⟨q1, q2, q3, q4, trivial⟩) N1 hPO fin
end VL5
noncomputable section
noncomputable def PxL4 (bb : Bd) (fa : Addr) (z : Value) (m1 : Str → Option Value) (lt : Nat) (mk : Nat) (p : Int) (q : Int) (tp : Tok) (tq : Tok) (tm : Tok) (tl : Tok) (oP : Obj) (oQ : Obj) (oM : Obj) (oL : Obj) (oR : Obj) (pl : Addr) (np : Nat) (ta : Tok) (tb : Tok) (tc : Tok) (k1 : Nat) (k2 : Nat) (k3 : Nat) (rw' : Addr) (nr : Nat) (mx : Nat) (rs : List Value) (gl : Addr) (oB : Obj) (b : Addr) (bd : Addr) (es : List Ent) (kk : Nat) (tok : Tok) : Prop :=
  bBase bb = bG bb → bOuter bb = [] → Letter lt → Mark mk → PQ p q → tm ≠ 0 → 1 ≤ k1 → k1 ≤ 20 → 1 ≤ k2 → k2 ≤ 20 → oP.data = .cell (some (.int p tp)) → oQ.data = .cell (some (.int q tq)) → oM.data = .cell (some (.str (S [mk]) tm)) → oL.data = .cell (some (.str (S [lt]) tl)) → oR.data = .cell (some (.ref rw')) → @LT.lt Nat _ (bL bb + 1 + 1 + 1 + 1 + 1 + 1) pl → Nat.gcd k1 k2 = k3 → k3 ≤ 20 → @LT.lt Nat _ pl rw' → k1 ≤ mx → k2 ≤ mx → k3 ≤ mx → mx ≤ 20 → IntsAre rs ((List.range (mx + 2)).map (U p q)) → @LT.lt Nat _ rw' gl → oB.data = .cell (some (.ref b)) → Fine es → Holds lt mk p q [0] es → Apart b bd gl es [] →
  LawP bb fa z 11 (tm + 1) (kstB m1 [(Str.ofString "places", .ref pl), (Str.ofString "given", .ref gl)]) ((rw', listOf rs.toArray nr) :: (pl, listOf [.int k1 ta, .int k2 tb, .int k3 tc].toArray np) :: (bL bb + 1 + 1 + 1 + 1 + 1 + 1, oB) :: (bL bb + 1 + 1 + 1 + 1 + 1, oR) :: (bL bb + 1 + 1 + 1 + 1, oL) :: (bL bb + 1 + 1 + 1, oM) :: (bL bb + 1 + 1, oQ) :: (bL bb + 1, oP) :: book (bw bb) tok b bd gl es kk [])
theorem neL4 : Nonempty (Bd × Addr × Value × (Str → Option Value) × Nat × Nat × Int × Int × Tok × Tok × Tok × Tok × Obj × Obj × Obj × Obj × Obj × Addr × Nat × Tok × Tok × Tok × Nat × Nat × Nat × Addr × Nat × Nat × (List Value) × Addr × Obj × Addr × Addr × (List Ent) × Nat × Tok) := bd_ne.elim fun bb => ⟨(bb, 0, .none, fun _ => none, 0, 0, 0, 0, 0, 0, 0, 0, default, default, default, default, default, 0, 0, 0, 0, 0, 0, 0, 0, 0, 0, 0, [], 0, default, 0, 0, [], 0, 0)⟩
@[irreducible] noncomputable def DL4 : Bd × Addr × Value × (Str → Option Value) × Nat × Nat × Int × Int × Tok × Tok × Tok × Tok × Obj × Obj × Obj × Obj × Obj × Addr × Nat × Tok × Tok × Tok × Nat × Nat × Nat × Addr × Nat × Nat × (List Value) × Addr × Obj × Addr × Addr × (List Ent) × Nat × Tok := @Classical.epsilon _ neL4 fun d => ¬ PxL4 d.1 d.2.1 d.2.2.1 d.2.2.2.1 d.2.2.2.2.1 d.2.2.2.2.2.1 d.2.2.2.2.2.2.1 d.2.2.2.2.2.2.2.1 d.2.2.2.2.2.2.2.2.1 d.2.2.2.2.2.2.2.2.2.1 d.2.2.2.2.2.2.2.2.2.2.1 d.2.2.2.2.2.2.2.2.2.2.2.1 d.2.2.2.2.2.2.2.2.2.2.2.2.1 d.2.2.2.2.2.2.2.2.2.2.2.2.2.1 d.2.2.2.2.2.2.2.2.2.2.2.2.2.2.1 d.2.2.2.2.2.2.2.2.2.2.2.2.2.2.2.1 d.2.2.2.2.2.2.2.2.2.2.2.2.2.2.2.2.1 d.2.2.2.2.2.2.2.2.2.2.2.2.2.2.2.2.2.1 d.2.2.2.2.2.2.2.2.2.2.2.2.2.2.2.2.2.2.1 d.2.2.2.2.2.2.2.2.2.2.2.2.2.2.2.2.2.2.2.1 d.2.2.2.2.2.2.2.2.2.2.2.2.2.2.2.2.2.2.2.2.1 d.2.2.2.2.2.2.2.2.2.2.2.2.2.2.2.2.2.2.2.2.2.1 d.2.2.2.2.2.2.2.2.2.2.2.2.2.2.2.2.2.2.2.2.2.2.1 d.2.2.2.2.2.2.2.2.2.2.2.2.2.2.2.2.2.2.2.2.2.2.2.1 d.2.2.2.2.2.2.2.2.2.2.2.2.2.2.2.2.2.2.2.2.2.2.2.2.1 d.2.2.2.2.2.2.2.2.2.2.2.2.2.2.2.2.2.2.2.2.2.2.2.2.2.1 d.2.2.2.2.2.2.2.2.2.2.2.2.2.2.2.2.2.2.2.2.2.2.2.2.2.2.1 d.2.2.2.2.2.2.2.2.2.2.2.2.2.2.2.2.2.2.2.2.2.2.2.2.2.2.2.1 d.2.2.2.2.2.2.2.2.2.2.2.2.2.2.2.2.2.2.2.2.2.2.2.2.2.2.2.2.1 d.2.2.2.2.2.2.2.2.2.2.2.2.2.2.2.2.2.2.2.2.2.2.2.2.2.2.2.2.2.1 d.2.2.2.2.2.2.2.2.2.2.2.2.2.2.2.2.2.2.2.2.2.2.2.2.2.2.2.2.2.2.1 d.2.2.2.2.2.2.2.2.2.2.2.2.2.2.2.2.2.2.2.2.2.2.2.2.2.2.2.2.2.2.2.1 d.2.2.2.2.2.2.2.2.2.2.2.2.2.2.2.2.2.2.2.2.2.2.2.2.2.2.2.2.2.2.2.2.1 d.2.2.2.2.2.2.2.2.2.2.2.2.2.2.2.2.2.2.2.2.2.2.2.2.2.2.2.2.2.2.2.2.2.1 d.2.2.2.2.2.2.2.2.2.2.2.2.2.2.2.2.2.2.2.2.2.2.2.2.2.2.2.2.2.2.2.2.2.2.1 d.2.2.2.2.2.2.2.2.2.2.2.2.2.2.2.2.2.2.2.2.2.2.2.2.2.2.2.2.2.2.2.2.2.2.2
namespace VL4
@[irreducible] noncomputable def bb : Bd := DL4.1
@[irreducible] noncomputable def fa : Addr := DL4.2.1
@[irreducible] noncomputable def z : Value := DL4.2.2.1
@[irreducible] noncomputable def m1 : Str → Option Value := DL4.2.2.2.1
@[irreducible] noncomputable def lt : Nat := DL4.2.2.2.2.1
@[irreducible] noncomputable def mk : Nat := DL4.2.2.2.2.2.1
@[irreducible] noncomputable def p : Int := DL4.2.2.2.2.2.2.1
@[irreducible] noncomputable def q : Int := DL4.2.2.2.2.2.2.2.1
@[irreducible] noncomputable def tp : Tok := DL4.2.2.2.2.2.2.2.2.1
@[irreducible] noncomputable def tq : Tok := DL4.2.2.2.2.2.2.2.2.2.1
@[irreducible] noncomputable def tm : Tok := DL4.2.2.2.2.2.2.2.2.2.2.1
@[irreducible] noncomputable def tl : Tok := DL4.2.2.2.2.2.2.2.2.2.2.2.1
@[irreducible] noncomputable def oP : Obj := DL4.2.2.2.2.2.2.2.2.2.2.2.2.1
@[irreducible] noncomputable def oQ : Obj := DL4.2.2.2.2.2.2.2.2.2.2.2.2.2.1
@[irreducible] noncomputable def oM : Obj := DL4.2.2.2.2.2.2.2.2.2.2.2.2.2.2.1
@[irreducible] noncomputable def oL : Obj := DL4.2.2.2.2.2.2.2.2.2.2.2.2.2.2.2.1
@[irreducible] noncomputable def oR : Obj := DL4.2.2.2.2.2.2.2.2.2.2.2.2.2.2.2.2.1
@[irreducible] noncomputable def pl : Addr := DL4.2.2.2.2.2.2.2.2.2.2.2.2.2.2.2.2.2.1
@[irreducible] noncomputable def np : Nat := DL4.2.2.2.2.2.2.2.2.2.2.2.2.2.2.2.2.2.2.1
@[irreducible] noncomputable def ta : Tok := DL4.2.2.2.2.2.2.2.2.2.2.2.2.2.2.2.2.2.2.2.1
@[irreducible] noncomputable def tb : Tok := DL4.2.2.2.2.2.2.2.2.2.2.2.2.2.2.2.2.2.2.2.2.1
@[irreducible] noncomputable def tc : Tok := DL4.2.2.2.2.2.2.2.2.2.2.2.2.2.2.2.2.2.2.2.2.2.1
@[irreducible] noncomputable def k1 : Nat := DL4.2.2.2.2.2.2.2.2.2.2.2.2.2.2.2.2.2.2.2.2.2.2.1
@[irreducible] noncomputable def k2 : Nat := DL4.2.2.2.2.2.2.2.2.2.2.2.2.2.2.2.2.2.2.2.2.2.2.2.1
@[irreducible] noncomputable def k3 : Nat := DL4.2.2.2.2.2.2.2.2.2.2.2.2.2.2.2.2.2.2.2.2.2.2.2.2.1
@[irreducible] noncomputable def rw' : Addr := DL4.2.2.2.2.2.2.2.2.2.2.2.2.2.2.2.2.2.2.2.2.2.2.2.2.2.1
@[irreducible] noncomputable def nr : Nat := DL4.2.2.2.2.2.2.2.2.2.2.2.2.2.2.2.2.2.2.2.2.2.2.2.2.2.2.1
@[irreducible] noncomputable def mx : Nat := DL4.2.2.2.2.2.2.2.2.2.2.2.2.2.2.2.2.2.2.2.2.2.2.2.2.2.2.2.1
@[irreducible] noncomputable def rs : List Value := DL4.2.2.2.2.2.2.2.2.2.2.2.2.2.2.2.2.2.2.2.2.2.2.2.2.2.2.2.2.1
@[irreducible] noncomputable def gl : Addr := DL4.2.2.2.2.2.2.2.2.2.2.2.2.2.2.2.2.2.2.2.2.2.2.2.2.2.2.2.2.2.1
@[irreducible] noncomputable def oB : Obj := DL4.2.2.2.2.2.2.2.2.2.2.2.2.2.2.2.2.2.2.2.2.2.2.2.2.2.2.2.2.2.2.1
@[irreducible] noncomputable def b : Addr := DL4.2.2.2.2.2.2.2.2.2.2.2.2.2.2.2.2.2.2.2.2.2.2.2.2.2.2.2.2.2.2.2.1
@[irreducible] noncomputable def bd : Addr := DL4.2.2.2.2.2.2.2.2.2.2.2.2.2.2.2.2.2.2.2.2.2.2.2.2.2.2.2.2.2.2.2.2.1
@[irreducible] noncomputable def es : List Ent := DL4.2.2.2.2.2.2.2.2.2.2.2.2.2.2.2.2.2.2.2.2.2.2.2.2.2.2.2.2.2.2.2.2.2.1
@[irreducible] noncomputable def kk : Nat := DL4.2.2.2.2.2.2.2.2.2.2.2.2.2.2.2.2.2.2.2.2.2.2.2.2.2.2.2.2.2.2.2.2.2.2.1
@[irreducible] noncomputable def tok : Tok := DL4.2.2.2.2.2.2.2.2.2.2.2.2.2.2.2.2.2.2.2.2.2.2.2.2.2.2.2.2.2.2.2.2.2.2.2
end VL4
end
theorem epL4 (h : PxL4 VL4.bb VL4.fa VL4.z VL4.m1 VL4.lt VL4.mk VL4.p VL4.q VL4.tp VL4.tq VL4.tm VL4.tl VL4.oP VL4.oQ VL4.oM VL4.oL VL4.oR VL4.pl VL4.np VL4.ta VL4.tb VL4.tc VL4.k1 VL4.k2 VL4.k3 VL4.rw' VL4.nr VL4.mx VL4.rs VL4.gl VL4.oB VL4.b VL4.bd VL4.es VL4.kk VL4.tok) (bb : Bd) (fa : Addr) (z : Value) (m1 : Str → Option Value) (lt : Nat) (mk : Nat) (p : Int) (q : Int) (tp : Tok) (tq : Tok) (tm : Tok) (tl : Tok) (oP : Obj) (oQ : Obj) (oM : Obj) (oL : Obj) (oR : Obj) (pl : Addr) (np : Nat) (ta : Tok) (tb : Tok) (tc : Tok) (k1 : Nat) (k2 : Nat) (k3 : Nat) (rw' : Addr) (nr : Nat) (mx : Nat) (rs : List Value) (gl : Addr) (oB : Obj) (b : Addr) (bd : Addr) (es : List Ent) (kk : Nat) (tok : Tok) : PxL4 bb fa z m1 lt mk p q tp tq tm tl oP oQ oM oL oR pl np ta tb tc k1 k2 k3 rw' nr mx rs gl oB b bd es kk tok := eps_at (P := fun d : Bd × Addr × Value × (Str → Option Value) × Nat × Nat × Int × Int × Tok × Tok × Tok × Tok × Obj × Obj × Obj × Obj × Obj × Addr × Nat × Tok × Tok × Tok × Nat × Nat × Nat × Addr × Nat × Nat × (List Value) × Addr × Obj × Addr × Addr × (List Ent) × Nat × Tok => PxL4 d.1 d.2.1 d.2.2.1 d.2.2.2.1 d.2.2.2.2.1 d.2.2.2.2.2.1 d.2.2.2.2.2.2.1 d.2.2.2.2.2.2.2.1 d.2.2.2.2.2.2.2.2.1 d.2.2.2.2.2.2.2.2.2.1 d.2.2.2.2.2.2.2.2.2.2.1 d.2.2.2.2.2.2.2.2.2.2.2.1 d.2.2.2.2.2.2.2.2.2.2.2.2.1 d.2.2.2.2.2.2.2.2.2.2.2.2.2.1 d.2.2.2.2.2.2.2.2.2.2.2.2.2.2.1 d.2.2.2.2.2.2.2.2.2.2.2.2.2.2.2.1 d.2.2.2.2.2.2.2.2.2.2.2.2.2.2.2.2.1 d.2.2.2.2.2.2.2.2.2.2.2.2.2.2.2.2.2.1 d.2.2.2.2.2.2.2.2.2.2.2.2.2.2.2.2.2.2.1 d.2.2.2.2.2.2.2.2.2.2.2.2.2.2.2.2.2.2.2.1 d.2.2.2.2.2.2.2.2.2.2.2.2.2.2.2.2.2.2.2.2.1 d.2.2.2.2.2.2.2.2.2.2.2.2.2.2.2.2.2.2.2.2.2.1 d.2.2.2.2.2.2.2.2.2.2.2.2.2.2.2.2.2.2.2.2.2.2.1 d.2.2.2.2.2.2.2.2.2.2.2.2.2.2.2.2.2.2.2.2.2.2.2.1 d.2.2.2.2.2.2.2.2.2.2.2.2.2.2.2.2.2.2.2.2.2.2.2.2.1 d.2.2.2.2.2.2.2.2.2.2.2.2.2.2.2.2.2.2.2.2.2.2.2.2.2.1 d.2.2.2.2.2.2.2.2.2.2.2.2.2.2.2.2.2.2.2.2.2.2.2.2.2.2.1 d.2.2.2.2.2.2.2.2.2.2.2.2.2.2.2.2.2.2.2.2.2.2.2.2.2.2.2.1 d.2.2.2.2.2.2.2.2.2.2.2.2.2.2.2.2.2.2.2.2.2.2.2.2.2.2.2.2.1 d.2.2.2.2.2.2.2.2.2.2.2.2.2.2.2.2.2.2.2.2.2.2.2.2.2.2.2.2.2.1 d.2.2.2.2.2.2.2.2.2.2.2.2.2.2.2.2.2.2.2.2.2.2.2.2.2.2.2.2.2.2.1 d.2.2.2.2.2.2.2.2.2.2.2.2.2.2.2.2.2.2.2.2.2.2.2.2.2.2.2.2.2.2.2.1 d.2.2.2.2.2.2.2.2.2.2.2.2.2.2.2.2.2.2.2.2.2.2.2.2.2.2.2.2.2.2.2.2.1 d.2.2.2.2.2.2.2.2.2.2.2.2.2.2.2.2.2.2.2.2.2.2.2.2.2.2.2.2.2.2.2.2.2.1 d.2.2.2.2.2.2.2.2.2.2.2.2.2.2.2.2.2.2.2.2.2.2.2.2.2.2.2.2.2.2.2.2.2.2.1 d.2.2.2.2.2.2.2.2.2.2.2.2.2.2.2.2.2.2.2.2.2.2.2.2.2.2.2.2.2.2.2.2.2.2.2) (ne := neL4) (by with_unfolding_all exact h) (bb, fa, z, m1, lt, mk, p, q, tp, tq, tm, tl, oP, oQ, oM, oL, oR, pl, np, ta, tb, tc, k1, k2, k3, rw', nr, mx, rs, gl, oB, b, bd, es, kk, tok)
namespace VL4
theorem wL4 : PxL4 bb fa z m1 lt mk p q tp tq tm tl oP oQ oM oL oR pl np ta tb tc k1 k2 k3 rw' nr mx rs gl oB b bd es kk tok := by
  intro eB eO hlt hmk hpq htm k1l k1u k2l k2u d1 d2 d3 d4 d5 hpl ek3 k3u hrw m1l m2l m3l m4l hrs hgl d6 hFi hH hAp
  refine LawP.start (by k_is) rfl ?_
  intro h' tk' htk St F1 N1 hPO fin
  obtain ⟨B, X, T, hA, _, _, hh, hd, hu⟩ := id St
  simp only [kstB] at F1
  have sm : Small lt mk p q := ⟨hlt, hmk, hpq.lp, hpq.lq⟩
  k_with "my mul" => (wtm_at "?80-81"; (rw [show Str.ofString "\"" = S [34] from rfl]))
  k_with "my cat" => (wtm_at "?80-81"; (rw [S_app]))
  k_steps
  refine ⟨seq_tk htk (fun h => ∀ G : Prop, (∀ (m : Str → Option Value) (es : List Ent) (kk : Nat) (R : List (Addr × Obj)) (tl : Addr) (ys : List Value), Fr (bG bb) (bL bb) h m → m (Str.ofString "places") = some (.ref pl) → m (Str.ofString "given") = some (.ref gl) → m (Str.ofString "told") = some (.ref tl) → News (bG bb) (bL bb) h ((tl, LCg.lst ys) :: (rw', listOf rs.toArray nr) :: (pl, listOf [.int k1 ta, .int k2 tb, .int k3 tc].toArray np) :: ((bL bb) + 1 + 1 + 1 + 1 + 1 + 1, oB) :: ((bL bb) + 1 + 1 + 1 + 1 + 1, oR) :: ((bL bb) + 1 + 1 + 1 + 1, oL) :: ((bL bb) + 1 + 1 + 1, oM) :: ((bL bb) + 1 + 1, oQ) :: ((bL bb) + 1, oP) :: book (bw bb) tok b bd gl es kk R) → Twos p q R ys [k1, k2, k3] → Holds lt mk p q (ordAt [k1, k2, k3]) es → Fine es → Apart b bd gl es R → @Ne Nat tl gl → G) → G) ?_ ?_⟩
  · refine name_comp (x := Str.ofString "place") F1 rfl rfl (by with_unfolding_all rfl) (by rfl) (by decide) (by rfl) (by decide) (by rfl) (by rfl) (by rfl) ?_
    k_steps
    refine NameSrc.intro F1 N1 (.tail _ (.head _)) (Nat.le_of_ble_eq_true rfl) ?_
    refine rest_N (fun xs ys led => ∃ done todo es kk R, done ++ todo = [k1, k2, k3] ∧ IntsAre xs (natsI todo) ∧ led = (rw', listOf rs.toArray nr) :: (pl, listOf [.int k1 ta, .int k2 tb, .int k3 tc].toArray np) :: ((bL bb) + 1 + 1 + 1 + 1 + 1 + 1, oB) :: ((bL bb) + 1 + 1 + 1 + 1 + 1, oR) :: ((bL bb) + 1 + 1 + 1 + 1, oL) :: ((bL bb) + 1 + 1 + 1, oM) :: ((bL bb) + 1 + 1, oQ) :: ((bL bb) + 1, oP) :: book (bw bb) tok b bd gl es kk R ∧
      Twos p q R ys done ∧ Holds lt mk p q (ordAt done) es ∧ Fine es ∧ Apart b bd gl es R) ?_ ?_ _ _ _ ⟨[], [k1, k2, k3], es, kk, [], rfl, .cons _ _ (.cons _ _ (.cons _ _ .nil)), rfl, .nil, hH, hFi, hAp⟩
    · rintro ys led ⟨done, todo, es, kk, R, e1, hi, rfl, hT, hH, hFi, hAp⟩
      intro D h tk F9 N9 off
      obtain rfl := ints_nat_nil hi
      rw [List.append_nil] at e1
      subst e1
      exact EndR.intro fun G kont => kont _ es kk R D ys F9 rfl rfl rfl N9 hT hH hFi hAp (fun e => off (gl, listOf (refs es).toArray kk) (.tail _ (.tail _ (.tail _ (.tail _ (.tail _ (.tail _ (.tail _ (.tail _ (.tail _ (.tail _ (.head _))))))))))) e.symm)
    · rintro v r ys led ⟨done, todo, es, kk, R, e1, hi, rfl, hT, hH, hFi, hAp⟩ I oI oC C D m₂ h tk E' hoI hC hx F9 N9 off
      obtain ⟨k, td, tk0, rfl, rfl, hi2⟩ := ints_nat_cons hi
      have hk : k ≤ 20 := by
        have : k ∈ [k1, k2, k3] := by rw [← e1]; simp
        simp only [List.mem_cons, List.not_mem_nil, or_false] at this
        omega
      k_steps
      refine ⟨?_⟩
      rename Fr _ _ _ _ => FC
      rename News _ _ _ _ => NC
      have ogl := off (gl, listOf (refs es).toArray kk) (.tail _ (.tail _ (.tail _ (.tail _ (.tail _ (.tail _ (.tail _ (.tail _ (.tail _ (.tail _ (.head _)))))))))))
      have hol : (ordAt done).length ≤ 64 := by
        have h1 := ordAt_len (b := 20) (ks := done) (fun j hj => by
          have : j ∈ [k1, k2, k3] := by rw [← e1]; exact List.mem_append_left _ hj
          simp only [List.mem_cons, List.not_mem_nil, or_false] at this
          omega)
        have h2 := congrArg List.length e1
        simp only [List.length_append, List.length_cons, List.length_nil] at h2
        omega
      refine t_two sm k (by omega) tok _ _ _ _ _ b bd gl es kk ([(I, oI), (C, oC), (D, LCg.lst ys), (rw', listOf rs.toArray nr), (pl, listOf [.int k1 ta, .int k2 tb, .int k3 tc].toArray np), ((bL bb) + 1 + 1 + 1 + 1 + 1 + 1, oB), ((bL bb) + 1 + 1 + 1 + 1 + 1, oR), ((bL bb) + 1 + 1 + 1 + 1, oL), ((bL bb) + 1 + 1 + 1, oM), ((bL bb) + 1 + 1, oQ), ((bL bb) + 1, oP)] ++ R) (ordAt done) hH (ordAt_nodup _) (ordAt_zero _) (by omega) hFi (apart_all hAp ?_) _ _ _ _ _ _ _ _ _ _ _ ⟨B, FC, X, book_of (pre := [(I, oI), (C, oC), (D, LCg.lst ys), (rw', listOf rs.toArray nr), (pl, listOf [.int k1 ta, .int k2 tb, .int k3 tc].toArray np), ((bL bb) + 1 + 1 + 1 + 1 + 1 + 1, oB), ((bL bb) + 1 + 1 + 1 + 1 + 1, oR), ((bL bb) + 1 + 1 + 1 + 1, oL), ((bL bb) + 1 + 1 + 1, oM), ((bL bb) + 1 + 1, oQ), ((bL bb) + 1, oP)]) NC, T, hA, rfl, rfl, rfl⟩ (by k_extra "my room") (by k_extra "my room") ?_
      · simp only [List.forall_mem_cons]
        exact ⟨Ne.symm ogl.1, Ne.symm ogl.2.1, Ne.symm ogl.2.2, neN (by omega), neN (by omega), neN (by omega), neN (by omega), neN (by omega), neN (by omega), neN (by omega), neN (by omega), fun _ h => nomatch h⟩
      clear FC NC
      rintro v' tl' h' tk' F' N' ⟨D', t1, t2, es', kk', rfl, rfl, hH', hFi', hAp', hDg⟩
      k_steps
      refine NameEnd.intro (led' := [(rw', listOf rs.toArray nr), (pl, listOf [.int k1 ta, .int k2 tb, .int k3 tc].toArray np), ((bL bb) + 1 + 1 + 1 + 1 + 1 + 1, oB), ((bL bb) + 1 + 1 + 1 + 1 + 1, oR), ((bL bb) + 1 + 1 + 1 + 1, oL), ((bL bb) + 1 + 1 + 1, oM), ((bL bb) + 1 + 1, oQ), ((bL bb) + 1, oP)] ++ book (bw bb) tok b bd gl es' kk' ((D', LCg.lst [.int (U p q k) t1, .int (U p q (k + 1)) t2]) :: R)) F' (told_sub (own := [(I, oI), (C, oC), (D, LCg.lst ys)]) (pre := [(rw', listOf rs.toArray nr), (pl, listOf [.int k1 ta, .int k2 tb, .int k3 tc].toArray np), ((bL bb) + 1 + 1 + 1 + 1 + 1 + 1, oB), ((bL bb) + 1 + 1 + 1 + 1 + 1, oR), ((bL bb) + 1 + 1 + 1 + 1, oL), ((bL bb) + 1 + 1 + 1, oM), ((bL bb) + 1 + 1, oQ), ((bL bb) + 1, oP)]) N') (.tail _ (.head _)) (told_off (told_sub (own := [(I, oI), (C, oC), (D, LCg.lst ys)]) (pre := [(rw', listOf rs.toArray nr), (pl, listOf [.int k1 ta, .int k2 tb, .int k3 tc].toArray np), ((bL bb) + 1 + 1 + 1 + 1 + 1 + 1, oB), ((bL bb) + 1 + 1 + 1 + 1 + 1, oR), ((bL bb) + 1 + 1 + 1 + 1, oL), ((bL bb) + 1 + 1 + 1, oM), ((bL bb) + 1 + 1, oQ), ((bL bb) + 1, oP)]) N') off hoI hC hT)
        ⟨done ++ [k], td, es', kk', _, by rw [← e1]; simp, hi2, rfl, .app (.mono (fun _ h => .tail _ h) hT) (.cons (.head _) .nil), ?_, hFi', apart_one hAp' hDg⟩
      rw [ordAt_snoc]
      exact hH'
  · intro h' tk' htk hR
    refine hR _ ?_
    clear hR F1 N1
    intro m1 es kk R tv ys F1 q1 q2 q3 N1 hT hH hFi hAp htg
    exact LawP.use (by k_is) rfl (epL5 VL5.wL5 bb fa z m1 lt mk p q tp tq tm tl oP oQ oM oL oR pl np ta tb tc k1 k2 k3 rw' nr mx rs gl oB b bd es kk tok R tv ys eB eO hlt hmk hpq htm k1l k1u k2l k2u d1 d2 d3 d4 d5 hpl ek3 k3u hrw m1l m2l m3l m4l hrs hgl d6 hFi hT hH hAp htg) htk St (fr_as (ps := [(Str.ofString "places", _), (Str.ofString "given", _), (Str.ofString "told", _)]) F1 ⟨q1, q2, q3, trivial⟩) N1 hPO fin
end VL4
noncomputable section
noncomputable def PxL3 (bb : Bd) (fa : Addr) (z : Value) (m1 : Str → Option Value) (lt : Nat) (mk : Nat) (p : Int) (q : Int) (tp : Tok) (tq : Tok) (tm : Tok) (tl : Tok) (oP : Obj) (oQ : Obj) (oM : Obj) (oL : Obj) (oR : Obj) (pl : Addr) (np : Nat) (ta : Tok) (tb : Tok) (tc : Tok) (k1 : Nat) (k2 : Nat) (k3 : Nat) (rw' : Addr) (nr : Nat) (mx : Nat) (rs : List Value) (gl : Addr) (wB : Obj) (n : Nat) (t0 : Addr) (t1 : Addr) (u0 : Tok) (u1 : Tok) (v0 : Tok) (v1 : Tok) : Prop :=
  bBase bb = bG bb → bOuter bb = [] → Letter lt → Mark mk → PQ p q → tm ≠ 0 → 1 ≤ k1 → k1 ≤ 20 → 1 ≤ k2 → k2 ≤ 20 → oP.data = .cell (some (.int p tp)) → oQ.data = .cell (some (.int q tq)) → oM.data = .cell (some (.str (S [mk]) tm)) → oL.data = .cell (some (.str (S [lt]) tl)) → oR.data = .cell (some (.ref rw')) → @LT.lt Nat _ (bL bb + 1 + 1 + 1 + 1 + 1 + 1) pl → Nat.gcd k1 k2 = k3 → k3 ≤ 20 → @LT.lt Nat _ pl rw' → k1 ≤ mx → k2 ≤ mx → k3 ≤ mx → mx ≤ 20 → IntsAre rs ((List.range (mx + 2)).map (U p q)) → @LT.lt Nat _ rw' gl → wB.data = .cell none → @LT.lt Nat _ t0 gl → @LT.lt Nat _ t1 gl → @LT.lt Nat _ rw' t0 → @LT.lt Nat _ rw' t1 →
  LawP bb fa z 10 (tm + 1) (kstB m1 [(Str.ofString "places", .ref pl), (Str.ofString "given", .ref gl)]) ((gl, listOf [.ref t0, .ref t1].toArray n) :: (t0, tupOf [.str (S [lt]) u0, .str (S (wr mk 0)) v0]) :: (t1, tupOf [.str (S [lt]) u1, .str (S (wr mk 1)) v1]) :: (rw', listOf rs.toArray nr) :: (pl, listOf [.int k1 ta, .int k2 tb, .int k3 tc].toArray np) :: (bL bb + 1 + 1 + 1 + 1 + 1 + 1, wB) :: (bL bb + 1 + 1 + 1 + 1 + 1, oR) :: (bL bb + 1 + 1 + 1 + 1, oL) :: (bL bb + 1 + 1 + 1, oM) :: (bL bb + 1 + 1, oQ) :: (bL bb + 1, oP) :: [])
theorem neL3 : Nonempty (Bd × Addr × Value × (Str → Option Value) × Nat × Nat × Int × Int × Tok × Tok × Tok × Tok × Obj × Obj × Obj × Obj × Obj × Addr × Nat × Tok × Tok × Tok × Nat × Nat × Nat × Addr × Nat × Nat × (List Value) × Addr × Obj × Nat × Addr × Addr × Tok × Tok × Tok × Tok) := bd_ne.elim fun bb => ⟨(bb, 0, .none, fun _ => none, 0, 0, 0, 0, 0, 0, 0, 0, default, default, default, default, default, 0, 0, 0, 0, 0, 0, 0, 0, 0, 0, 0, [], 0, default, 0, 0, 0, 0, 0, 0, 0)⟩
@[irreducible] noncomputable def DL3 : Bd × Addr × Value × (Str → Option Value) × Nat × Nat × Int × Int × Tok × Tok × Tok × Tok × Obj × Obj × Obj × Obj × Obj × Addr × Nat × Tok × Tok × Tok × Nat × Nat × Nat × Addr × Nat × Nat × (List Value) × Addr × Obj × Nat × Addr × Addr × Tok × Tok × Tok × Tok := @Classical.epsilon _ neL3 fun d => ¬ PxL3 d.1 d.2.1 d.2.2.1 d.2.2.2.1 d.2.2.2.2.1 d.2.2.2.2.2.1 d.2.2.2.2.2.2.1 d.2.2.2.2.2.2.2.1 d.2.2.2.2.2.2.2.2.1 d.2.2.2.2.2.2.2.2.2.1 d.2.2.2.2.2.2.2.2.2.2.1 d.2.2.2.2.2.2.2.2.2.2.2.1 d.2.2.2.2.2.2.2.2.2.2.2.2.1 d.2.2.2.2.2.2.2.2.2.2.2.2.2.1 d.2.2.2.2.2.2.2.2.2.2.2.2.2.2.1 d.2.2.2.2.2.2.2.2.2.2.2.2.2.2.2.1 d.2.2.2.2.2.2.2.2.2.2.2.2.2.2.2.2.1 d.2.2.2.2.2.2.2.2.2.2.2.2.2.2.2.2.2.1 d.2.2.2.2.2.2.2.2.2.2.2.2.2.2.2.2.2.2.1 d.2.2.2.2.2.2.2.2.2.2.2.2.2.2.2.2.2.2.2.1 d.2.2.2.2.2.2.2.2.2.2.2.2.2.2.2.2.2.2.2.2.1 d.2.2.2.2.2.2.2.2.2.2.2.2.2.2.2.2.2.2.2.2.2.1 d.2.2.2.2.2.2.2.2.2.2.2.2.2.2.2.2.2.2.2.2.2.2.1 d.2.2.2.2.2.2.2.2.2.2.2.2.2.2.2.2.2.2.2.2.2.2.2.1 d.2.2.2.2.2.2.2.2.2.2.2.2.2.2.2.2.2.2.2.2.2.2.2.2.1 d.2.2.2.2.2.2.2.2.2.2.2.2.2.2.2.2.2.2.2.2.2.2.2.2.2.1 d.2.2.2.2.2.2.2.2.2.2.2.2.2.2.2.2.2.2.2.2.2.2.2.2.2.2.1 d.2.2.2.2.2.2.2.2.2.2.2.2.2.2.2.2.2.2.2.2.2.2.2.2.2.2.2.1 d.2.2.2.2.2.2.2.2.2.2.2.2.2.2.2.2.2.2.2.2.2.2.2.2.2.2.2.2.1 d.2.2.2.2.2.2.2.2.2.2.2.2.2.2.2.2.2.2.2.2.2.2.2.2.2.2.2.2.2.1 d.2.2.2.2.2.2.2.2.2.2.2.2.2.2.2.2.2.2.2.2.2.2.2.2.2.2.2.2.2.2.1 d.2.2.2.2.2.2.2.2.2.2.2.2.2.2.2.2.2.2.2.2.2.2.2.2.2.2.2.2.2.2.2.1 d.2.2.2.2.2.2.2.2.2.2.2.2.2.2.2.2.2.2.2.2.2.2.2.2.2.2.2.2.2.2.2.2.1 d.2.2.2.2.2.2.2.2.2.2.2.2.2.2.2.2.2.2.2.2.2.2.2.2.2.2.2.2.2.2.2.2.2.1 d.2.2.2.2.2.2.2.2.2.2.2.2.2.2.2.2.2.2.2.2.2.2.2.2.2.2.2.2.2.2.2.2.2.2.1 d.2.2.2.2.2.2.2.2.2.2.2.2.2.2.2.2.2.2.2.2.2.2.2.2.2.2.2.2.2.2.2.2.2.2.2.1 d.2.2.2.2.2.2.2.2.2.2.2.2.2.2.2.2.2.2.2.2.2.2.2.2.2.2.2.2.2.2.2.2.2.2.2.2.1 d.2.2.2.2.2.2.2.2.2.2.2.2.2.2.2.2.2.2.2.2.2.2.2.2.2.2.2.2.2.2.2.2.2.2.2.2.2
namespace VL3
@[irreducible] noncomputable def bb : Bd := DL3.1
@[irreducible] noncomputable def fa : Addr := DL3.2.1
@[irreducible] noncomputable def z : Value := DL3.2.2.1
@[irreducible] noncomputable def m1 : Str → Option Value := DL3.2.2.2.1
@[irreducible] noncomputable def lt : Nat := DL3.2.2.2.2.1
@[irreducible] noncomputable def mk : Nat := DL3.2.2.2.2.2.1
@[irreducible] noncomputable def p : Int := DL3.2.2.2.2.2.2.1
@[irreducible] noncomputable def q : Int := DL3.2.2.2.2.2.2.2.1
@[irreducible] noncomputable def tp : Tok := DL3.2.2.2.2.2.2.2.2.1
@[irreducible] noncomputable def tq : Tok := DL3.2.2.2.2.2.2.2.2.2.1
@[irreducible] noncomputable def tm : Tok := DL3.2.2.2.2.2.2.2.2.2.2.1
@[irreducible] noncomputable def tl : Tok := DL3.2.2.2.2.2.2.2.2.2.2.2.1
@[irreducible] noncomputable def oP : Obj := DL3.2.2.2.2.2.2.2.2.2.2.2.2.1
@[irreducible] noncomputable def oQ : Obj := DL3.2.2.2.2.2.2.2.2.2.2.2.2.2.1
@[irreducible] noncomputable def oM : Obj := DL3.2.2.2.2.2.2.2.2.2.2.2.2.2.2.1
@[irreducible] noncomputable def oL : Obj := DL3.2.2.2.2.2.2.2.2.2.2.2.2.2.2.2.1
@[irreducible] noncomputable def oR : Obj := DL3.2.2.2.2.2.2.2.2.2.2.2.2.2.2.2.2.1
@[irreducible] noncomputable def pl : Addr := DL3.2.2.2.2.2.2.2.2.2.2.2.2.2.2.2.2.2.1
@[irreducible] noncomputable def np : Nat := DL3.2.2.2.2.2.2.2.2.2.2.2.2.2.2.2.2.2.2.1
@[irreducible] noncomputable def ta : Tok := DL3.2.2.2.2.2.2.2.2.2.2.2.2.2.2.2.2.2.2.2.1
@[irreducible] noncomputable def tb : Tok := DL3.2.2.2.2.2.2.2.2.2.2.2.2.2.2.2.2.2.2.2.2.1
@[irreducible] noncomputable def tc : Tok := DL3.2.2.2.2.2.2.2.2.2.2.2.2.2.2.2.2.2.2.2.2.2.1
@[irreducible] noncomputable def k1 : Nat := DL3.2.2.2.2.2.2.2.2.2.2.2.2.2.2.2.2.2.2.2.2.2.2.1
@[irreducible] noncomputable def k2 : Nat := DL3.2.2.2.2.2.2.2.2.2.2.2.2.2.2.2.2.2.2.2.2.2.2.2.1
@[irreducible] noncomputable def k3 : Nat := DL3.2.2.2.2.2.2.2.2.2.2.2.2.2.2.2.2.2.2.2.2.2.2.2.2.1
@[irreducible] noncomputable def rw' : Addr := DL3.2.2.2.2.2.2.2.2.2.2.2.2.2.2.2.2.2.2.2.2.2.2.2.2.2.1
@[irreducible] noncomputable def nr : Nat := DL3.2.2.2.2.2.2.2.2.2.2.2.2.2.2.2.2.2.2.2.2.2.2.2.2.2.2.1
@[irreducible] noncomputable def mx : Nat := DL3.2.2.2.2.2.2.2.2.2.2.2.2.2.2.2.2.2.2.2.2.2.2.2.2.2.2.2.1
@[irreducible] noncomputable def rs : List Value := DL3.2.2.2.2.2.2.2.2.2.2.2.2.2.2.2.2.2.2.2.2.2.2.2.2.2.2.2.2.1
@[irreducible] noncomputable def gl : Addr := DL3.2.2.2.2.2.2.2.2.2.2.2.2.2.2.2.2.2.2.2.2.2.2.2.2.2.2.2.2.2.1
@[irreducible] noncomputable def wB : Obj := DL3.2.2.2.2.2.2.2.2.2.2.2.2.2.2.2.2.2.2.2.2.2.2.2.2.2.2.2.2.2.2.1
@[irreducible] noncomputable def n : Nat := DL3.2.2.2.2.2.2.2.2.2.2.2.2.2.2.2.2.2.2.2.2.2.2.2.2.2.2.2.2.2.2.2.1
@[irreducible] noncomputable def t0 : Addr := DL3.2.2.2.2.2.2.2.2.2.2.2.2.2.2.2.2.2.2.2.2.2.2.2.2.2.2.2.2.2.2.2.2.1
@[irreducible] noncomputable def t1 : Addr := DL3.2.2.2.2.2.2.2.2.2.2.2.2.2.2.2.2.2.2.2.2.2.2.2.2.2.2.2.2.2.2.2.2.2.1
@[irreducible] noncomputable def u0 : Tok := DL3.2.2.2.2.2.2.2.2.2.2.2.2.2.2.2.2.2.2.2.2.2.2.2.2.2.2.2.2.2.2.2.2.2.2.1
@[irreducible] noncomputable def u1 : Tok := DL3.2.2.2.2.2.2.2.2.2.2.2.2.2.2.2.2.2.2.2.2.2.2.2.2.2.2.2.2.2.2.2.2.2.2.2.1
@[irreducible] noncomputable def v0 : Tok := DL3.2.2.2.2.2.2.2.2.2.2.2.2.2.2.2.2.2.2.2.2.2.2.2.2.2.2.2.2.2.2.2.2.2.2.2.2.1
@[irreducible] noncomputable def v1 : Tok := DL3.2.2.2.2.2.2.2.2.2.2.2.2.2.2.2.2.2.2.2.2.2.2.2.2.2.2.2.2.2.2.2.2.2.2.2.2.2
end VL3
end
theorem epL3 (h : PxL3 VL3.bb VL3.fa VL3.z VL3.m1 VL3.lt VL3.mk VL3.p VL3.q VL3.tp VL3.tq VL3.tm VL3.tl VL3.oP VL3.oQ VL3.oM VL3.oL VL3.oR VL3.pl VL3.np VL3.ta VL3.tb VL3.tc VL3.k1 VL3.k2 VL3.k3 VL3.rw' VL3.nr VL3.mx VL3.rs VL3.gl VL3.wB VL3.n VL3.t0 VL3.t1 VL3.u0 VL3.u1 VL3.v0 VL3.v1) (bb : Bd) (fa : Addr) (z : Value) (m1 : Str → Option Value) (lt : Nat) (mk : Nat) (p : Int) (q : Int) (tp : Tok) (tq : Tok) (tm : Tok) (tl : Tok) (oP : Obj) (oQ : Obj) (oM : Obj) (oL : Obj) (oR : Obj) (pl : Addr) (np : Nat) (ta : Tok) (tb : Tok) (tc : Tok) (k1 : Nat) (k2 : Nat) (k3 : Nat) (rw' : Addr) (nr : Nat) (mx : Nat) (rs : List Value) (gl : Addr) (wB : Obj) (n : Nat) (t0 : Addr) (t1 : Addr) (u0 : Tok) (u1 : Tok) (v0 : Tok) (v1 : Tok) : PxL3 bb fa z m1 lt mk p q tp tq tm tl oP oQ oM oL oR pl np ta tb tc k1 k2 k3 rw' nr mx rs gl wB n t0 t1 u0 u1 v0 v1 := eps_at (P := fun d : Bd × Addr × Value × (Str → Option Value) × Nat × Nat × Int × Int × Tok × Tok × Tok × Tok × Obj × Obj × Obj × Obj × Obj × Addr × Nat × Tok × Tok × Tok × Nat × Nat × Nat × Addr × Nat × Nat × (List Value) × Addr × Obj × Nat × Addr × Addr × Tok × Tok × Tok × Tok => PxL3 d.1 d.2.1 d.2.2.1 d.2.2.2.1 d.2.2.2.2.1 d.2.2.2.2.2.1 d.2.2.2.2.2.2.1 d.2.2.2.2.2.2.2.1 d.2.2.2.2.2.2.2.2.1 d.2.2.2.2.2.2.2.2.2.1 d.2.2.2.2.2.2.2.2.2.2.1 d.2.2.2.2.2.2.2.2.2.2.2.1 d.2.2.2.2.2.2.2.2.2.2.2.2.1 d.2.2.2.2.2.2.2.2.2.2.2.2.2.1 d.2.2.2.2.2.2.2.2.2.2.2.2.2.2.1 d.2.2.2.2.2.2.2.2.2.2.2.2.2.2.2.1 d.2.2.2.2.2.2.2.2.2.2.2.2.2.2.2.2.1 d.2.2.2.2.2.2.2.2.2.2.2.2.2.2.2.2.2.1 d.2.2.2.2.2.2.2.2.2.2.2.2.2.2.2.2.2.2.1 d.2.2.2.2.2.2.2.2.2.2.2.2.2.2.2.2.2.2.2.1 d.2.2.2.2.2.2.2.2.2.2.2.2.2.2.2.2.2.2.2.2.1 d.2.2.2.2.2.2.2.2.2.2.2.2.2.2.2.2.2.2.2.2.2.1 d.2.2.2.2.2.2.2.2.2.2.2.2.2.2.2.2.2.2.2.2.2.2.1 d.2.2.2.2.2.2.2.2.2.2.2.2.2.2.2.2.2.2.2.2.2.2.2.1 d.2.2.2.2.2.2.2.2.2.2.2.2.2.2.2.2.2.2.2.2.2.2.2.2.1 d.2.2.2.2.2.2.2.2.2.2.2.2.2.2.2.2.2.2.2.2.2.2.2.2.2.1 d.2.2.2.2.2.2.2.2.2.2.2.2.2.2.2.2.2.2.2.2.2.2.2.2.2.2.1 d.2.2.2.2.2.2.2.2.2.2.2.2.2.2.2.2.2.2.2.2.2.2.2.2.2.2.2.1 d.2.2.2.2.2.2.2.2.2.2.2.2.2.2.2.2.2.2.2.2.2.2.2.2.2.2.2.2.1 d.2.2.2.2.2.2.2.2.2.2.2.2.2.2.2.2.2.2.2.2.2.2.2.2.2.2.2.2.2.1 d.2.2.2.2.2.2.2.2.2.2.2.2.2.2.2.2.2.2.2.2.2.2.2.2.2.2.2.2.2.2.1 d.2.2.2.2.2.2.2.2.2.2.2.2.2.2.2.2.2.2.2.2.2.2.2.2.2.2.2.2.2.2.2.1 d.2.2.2.2.2.2.2.2.2.2.2.2.2.2.2.2.2.2.2.2.2.2.2.2.2.2.2.2.2.2.2.2.1 d.2.2.2.2.2.2.2.2.2.2.2.2.2.2.2.2.2.2.2.2.2.2.2.2.2.2.2.2.2.2.2.2.2.1 d.2.2.2.2.2.2.2.2.2.2.2.2.2.2.2.2.2.2.2.2.2.2.2.2.2.2.2.2.2.2.2.2.2.2.1 d.2.2.2.2.2.2.2.2.2.2.2.2.2.2.2.2.2.2.2.2.2.2.2.2.2.2.2.2.2.2.2.2.2.2.2.1 d.2.2.2.2.2.2.2.2.2.2.2.2.2.2.2.2.2.2.2.2.2.2.2.2.2.2.2.2.2.2.2.2.2.2.2.2.1 d.2.2.2.2.2.2.2.2.2.2.2.2.2.2.2.2.2.2.2.2.2.2.2.2.2.2.2.2.2.2.2.2.2.2.2.2.2) (ne := neL3) (by with_unfolding_all exact h) (bb, fa, z, m1, lt, mk, p, q, tp, tq, tm, tl, oP, oQ, oM, oL, oR, pl, np, ta, tb, tc, k1, k2, k3, rw', nr, mx, rs, gl, wB, n, t0, t1, u0, u1, v0, v1)
namespace VL3
theorem wL3 : PxL3 bb fa z m1 lt mk p q tp tq tm tl oP oQ oM oL oR pl np ta tb tc k1 k2 k3 rw' nr mx rs gl wB n t0 t1 u0 u1 v0 v1 := by
  intro eB eO hlt hmk hpq htm k1l k1u k2l k2u d1 d2 d3 d4 d5 hpl ek3 k3u hrw m1l m2l m3l m4l hrs hgl d6 g0 g1 g2 g3
  refine LawP.start (by k_is) rfl ?_
  intro h' tk' htk St F1 N1 hPO fin
  obtain ⟨B, X, T, hA, _, _, hh, hd, hu⟩ := id St
  simp only [kstB] at F1
  k_steps
  refine ⟨seq_tk htk (fun h => ∀ G : Prop, (∀ (m : Str → Option Value) (oB : Obj) (b : Addr) (bd : Addr) (es : List Ent) (kk : Nat) (tok : Tok), Fr (bG bb) (bL bb) h m → m (Str.ofString "places") = some (.ref pl) → m (Str.ofString "given") = some (.ref gl) → News (bG bb) (bL bb) h ((rw', listOf rs.toArray nr) :: (pl, listOf [.int k1 ta, .int k2 tb, .int k3 tc].toArray np) :: ((bL bb) + 1 + 1 + 1 + 1 + 1 + 1, oB) :: ((bL bb) + 1 + 1 + 1 + 1 + 1, oR) :: ((bL bb) + 1 + 1 + 1 + 1, oL) :: ((bL bb) + 1 + 1 + 1, oM) :: ((bL bb) + 1 + 1, oQ) :: ((bL bb) + 1, oP) :: book (bw bb) tok b bd gl es kk []) → oB.data = .cell (some (.ref b)) → Holds lt mk p q [0] es → Fine es → Apart b bd gl es [] → G) → G) ?_ ?_⟩
  · k_steps
    refine ⟨?_⟩
    rename Fr _ _ _ _ => FC
    rename News _ _ _ _ => NC
    refine call_cls FC X NC (by k_is) (by k_is) (by k_is) ?_
    clear FC NC
    intro x' d' h' F' N' l1 l2
    replace l1 := allLt_of l1
    refine DoesC.use (t_init (k := S [lt]) (v0 := S (wr mk 0)) (v1 := S (wr mk 1)) (gl := gl) (t0 := t0) (t1 := t1) (b := x') (bd := d') ?_ ?_ ?_ ?_ ?_ ?_ l2 l1.1 l1.2.1 l1.2.2.1 l1.2.2.2) B F' X N' T hA rfl rfl rfl (by k_extra "my room") (by k_extra "my room") ?_
    · rw [size_S]; simp
    · rw [size_S, wr_length]; decide +kernel
    · rw [size_S, wr_length]; decide +kernel
    · exact plain_S (fun c hc => by rw [List.mem_singleton.mp hc]; have := letter_ne hlt; omega)
    · exact plain_S (wr_plain hmk 0)
    · exact plain_S (wr_plain hmk 1)
    clear F' N'
    rintro v' tl' h' tk' F' N' ⟨rfl, tok, rfl⟩
    refine ⟨rfl, ?_⟩
    dsimp only
    simp only [AllLt, and_true] at l1
    replace l2 : @LT.lt Nat _ d' x' := l2
    k_steps
    rename Fr _ _ _ _ => F9
    rename News _ _ _ _ => N9
    rename Obj.data _ = _ => d9
    refine EndR.intro fun G kont => kont _ _ x' d' ([⟨t0, [lt], u0, wr mk 0, v0⟩, ⟨t1, [lt], u1, wr mk 1, v1⟩]) n tok F9 rfl rfl (News.sub N9 (by kcj_in)) d9 rfl ?_ ?_
    · refine ⟨?_, ?_, ?_, ?_, by simp⟩
      · intro e he c hc
        simp only [List.mem_cons, List.not_mem_nil, or_false] at he
        have hle := letter_ne hlt
        rcases he with rfl | rfl <;> (rw [List.mem_singleton.mp hc]; omega)
      · intro e he c hc
        simp only [List.mem_cons, List.not_mem_nil, or_false] at he
        rcases he with rfl | rfl
        · exact wr_plain hmk 0 c hc
        · exact wr_plain hmk 1 c hc
      · intro e he
        simp only [List.mem_cons, List.not_mem_nil, or_false] at he
        rcases he with rfl | rfl <;> simp
      · intro e he
        simp only [List.mem_cons, List.not_mem_nil, or_false] at he
        rcases he with rfl | rfl
        · show (wr mk 0).length ≤ 9000; rw [wr_length]; decide +kernel
        · show (wr mk 1).length ≤ 9000; rw [wr_length]; decide +kernel
    · refine ⟨neN (by omega), neN (by omega), ?_⟩
      intro e he
      simp only [List.map_cons, List.map_nil, List.append_nil, List.mem_cons, List.not_mem_nil, or_false] at he
      rcases he with rfl | rfl
      · exact Nat.ne_of_lt g0
      · exact Nat.ne_of_lt g1
  · intro h' tk' htk hR
    refine hR _ ?_
    clear hR F1 N1
    intro m1 oB b bd es kk tok F1 q1 q2 N1 d6 hH hFi hAp
    exact LawP.use (by k_is) rfl (epL4 VL4.wL4 bb fa z m1 lt mk p q tp tq tm tl oP oQ oM oL oR pl np ta tb tc k1 k2 k3 rw' nr mx rs gl oB b bd es kk tok eB eO hlt hmk hpq htm k1l k1u k2l k2u d1 d2 d3 d4 d5 hpl ek3 k3u hrw m1l m2l m3l m4l hrs hgl d6 hFi hH hAp) htk St (fr_as (ps := [(Str.ofString "places", _), (Str.ofString "given", _)]) F1 ⟨q1, q2, trivial⟩) N1 hPO fin
end VL3
noncomputable section
noncomputable def PxL2 (bb : Bd) (fa : Addr) (z : Value) (m1 : Str → Option Value) (lt : Nat) (mk : Nat) (p : Int) (q : Int) (tp : Tok) (tq : Tok) (tm : Tok) (tl : Tok) (oP : Obj) (oQ : Obj) (oM : Obj) (oL : Obj) (oR : Obj) (pl : Addr) (np : Nat) (ta : Tok) (tb : Tok) (tc : Tok) (k1 : Nat) (k2 : Nat) (k3 : Nat) (rw' : Addr) (nr : Nat) (wB : Obj) (u0 : Tok) (u1 : Tok) : Prop :=
  bBase bb = bG bb → bOuter bb = [] → Letter lt → Mark mk → PQ p q → tm ≠ 0 → 1 ≤ k1 → k1 ≤ 20 → 1 ≤ k2 → k2 ≤ 20 → oP.data = .cell (some (.int p tp)) → oQ.data = .cell (some (.int q tq)) → oM.data = .cell (some (.str (S [mk]) tm)) → oL.data = .cell (some (.str (S [lt]) tl)) → oR.data = .cell (some (.ref rw')) → @LT.lt Nat _ (bL bb + 1 + 1 + 1 + 1 + 1 + 1) pl → Nat.gcd k1 k2 = k3 → k3 ≤ 20 → @LT.lt Nat _ pl rw' → wB.data = .cell none → 1 ≤ k3 →
  LawP bb fa z 8 (tm + 1) (kstB m1 [(Str.ofString "places", .ref pl)]) ((rw', listOf [.int 0 u0, .int 1 u1].toArray nr) :: (pl, listOf [.int k1 ta, .int k2 tb, .int k3 tc].toArray np) :: (bL bb + 1 + 1 + 1 + 1 + 1 + 1, wB) :: (bL bb + 1 + 1 + 1 + 1 + 1, oR) :: (bL bb + 1 + 1 + 1 + 1, oL) :: (bL bb + 1 + 1 + 1, oM) :: (bL bb + 1 + 1, oQ) :: (bL bb + 1, oP) :: [])
theorem neL2 : Nonempty (Bd × Addr × Value × (Str → Option Value) × Nat × Nat × Int × Int × Tok × Tok × Tok × Tok × Obj × Obj × Obj × Obj × Obj × Addr × Nat × Tok × Tok × Tok × Nat × Nat × Nat × Addr × Nat × Obj × Tok × Tok) := bd_ne.elim fun bb => ⟨(bb, 0, .none, fun _ => none, 0, 0, 0, 0, 0, 0, 0, 0, default, default, default, default, default, 0, 0, 0, 0, 0, 0, 0, 0, 0, 0, default, 0, 0)⟩
@[irreducible] noncomputable def DL2 : Bd × Addr × Value × (Str → Option Value) × Nat × Nat × Int × Int × Tok × Tok × Tok × Tok × Obj × Obj × Obj × Obj × Obj × Addr × Nat × Tok × Tok × Tok × Nat × Nat × Nat × Addr × Nat × Obj × Tok × Tok := @Classical.epsilon _ neL2 fun d => ¬ PxL2 d.1 d.2.1 d.2.2.1 d.2.2.2.1 d.2.2.2.2.1 d.2.2.2.2.2.1 d.2.2.2.2.2.2.1 d.2.2.2.2.2.2.2.1 d.2.2.2.2.2.2.2.2.1 d.2.2.2.2.2.2.2.2.2.1 d.2.2.2.2.2.2.2.2.2.2.1 d.2.2.2.2.2.2.2.2.2.2.2.1 d.2.2.2.2.2.2.2.2.2.2.2.2.1 d.2.2.2.2.2.2.2.2.2.2.2.2.2.1 d.2.2.2.2.2.2.2.2.2.2.2.2.2.2.1 d.2.2.2.2.2.2.2.2.2.2.2.2.2.2.2.1 d.2.2.2.2.2.2.2.2.2.2.2.2.2.2.2.2.1 d.2.2.2.2.2.2.2.2.2.2.2.2.2.2.2.2.2.1 d.2.2.2.2.2.2.2.2.2.2.2.2.2.2.2.2.2.2.1 d.2.2.2.2.2.2.2.2.2.2.2.2.2.2.2.2.2.2.2.1 d.2.2.2.2.2.2.2.2.2.2.2.2.2.2.2.2.2.2.2.2.1 d.2.2.2.2.2.2.2.2.2.2.2.2.2.2.2.2.2.2.2.2.2.1 d.2.2.2.2.2.2.2.2.2.2.2.2.2.2.2.2.2.2.2.2.2.2.1 d.2.2.2.2.2.2.2.2.2.2.2.2.2.2.2.2.2.2.2.2.2.2.2.1 d.2.2.2.2.2.2.2.2.2.2.2.2.2.2.2.2.2.2.2.2.2.2.2.2.1 d.2.2.2.2.2.2.2.2.2.2.2.2.2.2.2.2.2.2.2.2.2.2.2.2.2.1 d.2.2.2.2.2.2.2.2.2.2.2.2.2.2.2.2.2.2.2.2.2.2.2.2.2.2.1 d.2.2.2.2.2.2.2.2.2.2.2.2.2.2.2.2.2.2.2.2.2.2.2.2.2.2.2.1 d.2.2.2.2.2.2.2.2.2.2.2.2.2.2.2.2.2.2.2.2.2.2.2.2.2.2.2.2.1 d.2.2.2.2.2.2.2.2.2.2.2.2.2.2.2.2.2.2.2.2.2.2.2.2.2.2.2.2.2
namespace VL2
@[irreducible] noncomputable def bb : Bd := DL2.1
@[irreducible] noncomputable def fa : Addr := DL2.2.1
@[irreducible] noncomputable def z : Value := DL2.2.2.1
@[irreducible] noncomputable def m1 : Str → Option Value := DL2.2.2.2.1
@[irreducible] noncomputable def lt : Nat := DL2.2.2.2.2.1
@[irreducible] noncomputable def mk : Nat := DL2.2.2.2.2.2.1
@[irreducible] noncomputable def p : Int := DL2.2.2.2.2.2.2.1
@[irreducible] noncomputable def q : Int := DL2.2.2.2.2.2.2.2.1
@[irreducible] noncomputable def tp : Tok := DL2.2.2.2.2.2.2.2.2.1
@[irreducible] noncomputable def tq : Tok := DL2.2.2.2.2.2.2.2.2.2.1
@[irreducible] noncomputable def tm : Tok := DL2.2.2.2.2.2.2.2.2.2.2.1
@[irreducible] noncomputable def tl : Tok := DL2.2.2.2.2.2.2.2.2.2.2.2.1
@[irreducible] noncomputable def oP : Obj := DL2.2.2.2.2.2.2.2.2.2.2.2.2.1
@[irreducible] noncomputable def oQ : Obj := DL2.2.2.2.2.2.2.2.2.2.2.2.2.2.1
@[irreducible] noncomputable def oM : Obj := DL2.2.2.2.2.2.2.2.2.2.2.2.2.2.2.1
@[irreducible] noncomputable def oL : Obj := DL2.2.2.2.2.2.2.2.2.2.2.2.2.2.2.2.1
@[irreducible] noncomputable def oR : Obj := DL2.2.2.2.2.2.2.2.2.2.2.2.2.2.2.2.2.1
@[irreducible] noncomputable def pl : Addr := DL2.2.2.2.2.2.2.2.2.2.2.2.2.2.2.2.2.2.1
@[irreducible] noncomputable def np : Nat := DL2.2.2.2.2.2.2.2.2.2.2.2.2.2.2.2.2.2.2.1
@[irreducible] noncomputable def ta : Tok := DL2.2.2.2.2.2.2.2.2.2.2.2.2.2.2.2.2.2.2.2.1
@[irreducible] noncomputable def tb : Tok := DL2.2.2.2.2.2.2.2.2.2.2.2.2.2.2.2.2.2.2.2.2.1
@[irreducible] noncomputable def tc : Tok := DL2.2.2.2.2.2.2.2.2.2.2.2.2.2.2.2.2.2.2.2.2.2.1
@[irreducible] noncomputable def k1 : Nat := DL2.2.2.2.2.2.2.2.2.2.2.2.2.2.2.2.2.2.2.2.2.2.2.1
@[irreducible] noncomputable def k2 : Nat := DL2.2.2.2.2.2.2.2.2.2.2.2.2.2.2.2.2.2.2.2.2.2.2.2.1
@[irreducible] noncomputable def k3 : Nat := DL2.2.2.2.2.2.2.2.2.2.2.2.2.2.2.2.2.2.2.2.2.2.2.2.2.1
@[irreducible] noncomputable def rw' : Addr := DL2.2.2.2.2.2.2.2.2.2.2.2.2.2.2.2.2.2.2.2.2.2.2.2.2.2.1
@[irreducible] noncomputable def nr : Nat := DL2.2.2.2.2.2.2.2.2.2.2.2.2.2.2.2.2.2.2.2.2.2.2.2.2.2.2.1
@[irreducible] noncomputable def wB : Obj := DL2.2.2.2.2.2.2.2.2.2.2.2.2.2.2.2.2.2.2.2.2.2.2.2.2.2.2.2.1
@[irreducible] noncomputable def u0 : Tok := DL2.2.2.2.2.2.2.2.2.2.2.2.2.2.2.2.2.2.2.2.2.2.2.2.2.2.2.2.2.1
@[irreducible] noncomputable def u1 : Tok := DL2.2.2.2.2.2.2.2.2.2.2.2.2.2.2.2.2.2.2.2.2.2.2.2.2.2.2.2.2.2
end VL2
end
theorem epL2 (h : PxL2 VL2.bb VL2.fa VL2.z VL2.m1 VL2.lt VL2.mk VL2.p VL2.q VL2.tp VL2.tq VL2.tm VL2.tl VL2.oP VL2.oQ VL2.oM VL2.oL VL2.oR VL2.pl VL2.np VL2.ta VL2.tb VL2.tc VL2.k1 VL2.k2 VL2.k3 VL2.rw' VL2.nr VL2.wB VL2.u0 VL2.u1) (bb : Bd) (fa : Addr) (z : Value) (m1 : Str → Option Value) (lt : Nat) (mk : Nat) (p : Int) (q : Int) (tp : Tok) (tq : Tok) (tm : Tok) (tl : Tok) (oP : Obj) (oQ : Obj) (oM : Obj) (oL : Obj) (oR : Obj) (pl : Addr) (np : Nat) (ta : Tok) (tb : Tok) (tc : Tok) (k1 : Nat) (k2 : Nat) (k3 : Nat) (rw' : Addr) (nr : Nat) (wB : Obj) (u0 : Tok) (u1 : Tok) : PxL2 bb fa z m1 lt mk p q tp tq tm tl oP oQ oM oL oR pl np ta tb tc k1 k2 k3 rw' nr wB u0 u1 := eps_at (P := fun d : Bd × Addr × Value × (Str → Option Value) × Nat × Nat × Int × Int × Tok × Tok × Tok × Tok × Obj × Obj × Obj × Obj × Obj × Addr × Nat × Tok × Tok × Tok × Nat × Nat × Nat × Addr × Nat × Obj × Tok × Tok => PxL2 d.1 d.2.1 d.2.2.1 d.2.2.2.1 d.2.2.2.2.1 d.2.2.2.2.2.1 d.2.2.2.2.2.2.1 d.2.2.2.2.2.2.2.1 d.2.2.2.2.2.2.2.2.1 d.2.2.2.2.2.2.2.2.2.1 d.2.2.2.2.2.2.2.2.2.2.1 d.2.2.2.2.2.2.2.2.2.2.2.1 d.2.2.2.2.2.2.2.2.2.2.2.2.1 d.2.2.2.2.2.2.2.2.2.2.2.2.2.1 d.2.2.2.2.2.2.2.2.2.2.2.2.2.2.1 d.2.2.2.2.2.2.2.2.2.2.2.2.2.2.2.1 d.2.2.2.2.2.2.2.2.2.2.2.2.2.2.2.2.1 d.2.2.2.2.2.2.2.2.2.2.2.2.2.2.2.2.2.1 d.2.2.2.2.2.2.2.2.2.2.2.2.2.2.2.2.2.2.1 d.2.2.2.2.2.2.2.2.2.2.2.2.2.2.2.2.2.2.2.1 d.2.2.2.2.2.2.2.2.2.2.2.2.2.2.2.2.2.2.2.2.1 d.2.2.2.2.2.2.2.2.2.2.2.2.2.2.2.2.2.2.2.2.2.1 d.2.2.2.2.2.2.2.2.2.2.2.2.2.2.2.2.2.2.2.2.2.2.1 d.2.2.2.2.2.2.2.2.2.2.2.2.2.2.2.2.2.2.2.2.2.2.2.1 d.2.2.2.2.2.2.2.2.2.2.2.2.2.2.2.2.2.2.2.2.2.2.2.2.1 d.2.2.2.2.2.2.2.2.2.2.2.2.2.2.2.2.2.2.2.2.2.2.2.2.2.1 d.2.2.2.2.2.2.2.2.2.2.2.2.2.2.2.2.2.2.2.2.2.2.2.2.2.2.1 d.2.2.2.2.2.2.2.2.2.2.2.2.2.2.2.2.2.2.2.2.2.2.2.2.2.2.2.1 d.2.2.2.2.2.2.2.2.2.2.2.2.2.2.2.2.2.2.2.2.2.2.2.2.2.2.2.2.1 d.2.2.2.2.2.2.2.2.2.2.2.2.2.2.2.2.2.2.2.2.2.2.2.2.2.2.2.2.2) (ne := neL2) (by with_unfolding_all exact h) (bb, fa, z, m1, lt, mk, p, q, tp, tq, tm, tl, oP, oQ, oM, oL, oR, pl, np, ta, tb, tc, k1, k2, k3, rw', nr, wB, u0, u1)
namespace VL2
theorem wL2 : PxL2 bb fa z m1 lt mk p q tp tq tm tl oP oQ oM oL oR pl np ta tb tc k1 k2 k3 rw' nr wB u0 u1 := by
  intro eB eO hlt hmk hpq htm k1l k1u k2l k2u d1 d2 d3 d4 d5 hpl ek3 k3u hrw d6 k3l
  refine LawP.start (by k_is) rfl ?_
  intro h' tk' htk St F1 N1 hPO fin
  obtain ⟨B, X, T, hA, _, _, hh, hd, hu⟩ := id St
  simp only [kstB] at F1
  k_steps
  refine ⟨seq_tk htk (fun h => ∀ G : Prop, (∀ (m : Str → Option Value) (mx : Nat) (rs : List Value) (nr : Nat), k1 ≤ mx → k2 ≤ mx → k3 ≤ mx → mx ≤ 20 → Fr (bG bb) (bL bb) h m → m (Str.ofString "places") = some (.ref pl) → News (bG bb) (bL bb) h [(rw', listOf rs.toArray nr), (pl, listOf [.int k1 ta, .int k2 tb, .int k3 tc].toArray np), ((bL bb) + 1 + 1 + 1 + 1 + 1 + 1, wB), ((bL bb) + 1 + 1 + 1 + 1 + 1, oR), ((bL bb) + 1 + 1 + 1 + 1, oL), ((bL bb) + 1 + 1 + 1, oM), ((bL bb) + 1 + 1, oQ), ((bL bb) + 1, oP)] → IntsAre rs ((List.range (mx + 2)).map (U p q)) → G) → G) ?_ ?_⟩
  · k_steps
    refine ⟨?_⟩
    rename Fr _ _ _ _ => FC
    rename News _ _ _ _ => NC
    refine kso_max FC NC (News.isList NC (.tail _ (.head _))) (.cons _ _ (.cons _ _ (.cons _ _ .nil))) (Nat.le_of_ble_eq_true rfl) rfl ?_
    clear FC NC
    intro h' M t' tk' F' N' hM hall
    obtain ⟨mx, m1l, m2l, m3l, m4l, rfl⟩ := max_made k1u k2u k3u hM hall
    k_steps
    refine ⟨?_⟩
    rename Fr _ _ _ _ => FC
    rename News _ _ _ _ => NC
    refine iter_range rfl (by passes_own) (by assumption) (rsmall (a := 0) (by omega) (by omega)) (rsize 0 _) FC NC (fun i m' nw => ∃ rs nr, nw = ((rw', listOf (List.toArray rs) nr) :: (pl, listOf [.int k1 ta, .int k2 tb, .int k3 tc].toArray np) :: ((bL bb) + 1 + 1 + 1 + 1 + 1 + 1, wB) :: ((bL bb) + 1 + 1 + 1 + 1 + 1, oR) :: ((bL bb) + 1 + 1 + 1 + 1, oL) :: ((bL bb) + 1 + 1 + 1, oM) :: ((bL bb) + 1 + 1, oQ) :: ((bL bb) + 1, oP) :: []) ∧ IntsAre rs ((List.range (i + 2)).map (U p q)) ∧ Has m' [(Str.ofString "places", .ref pl)]) ⟨_, _, rfl, .cons _ _ (.cons _ _ .nil), rfl, trivial⟩ ?_ ?_
    · clear FC NC
      rintro i t m₁ news₁ h₁ tk₁ own I hi ⟨rs, nr, rfl, hrs, q1, -⟩ hnI hlt hown F₁ N₁
      dsimp only [envOfC] at F₁ N₁
      replace F₁ := fr_as (ps := [("places", _)]) F₁ ⟨q1, trivial⟩
      simp only [kstB] at F₁
      clear q1
      simp only [List.cons_append, List.nil_append] at N₁
      have hno : ∀ p ∈ own, p.1 ≠ rw' := fun p hp => by rw [hown p hp]; exact (Nat.ne_of_lt hlt.1).symm
      have hrl : rs.length = i + 2 := by have := ints_len hrs; simpa using this
      have hm1 : IntMulOk p (U p q (i + 1)) := (row_muls hpq (n := i + 1) (by omega)).1
      have hm2 : IntMulOk q (U p q i) := (row_muls hpq (n := i) (by omega)).2
      k_steps
      refine ⟨wpAny_execs_cons ?_⟩
      k_steps
      rename Fr _ _ _ _ => F9
      rename News _ _ _ _ => N9
      rw [List.push_toArray] at N9
      refine ForPost.go (news' := _ :: _ :: _ :: _ :: _ :: _ :: _ :: _ :: []) F9 N9 ?_ ⟨_, _, rfl, row_snoc hrs rfl, rfl, trivial⟩
      exact ne_same (by exact rfl) hnI
    · rintro m₁ news₁ h₁ tk₁ F₁ N₁ ⟨rs, nr, rfl, hrs, q1, -⟩
      clear FC NC
      k_steps
      exact EndR.intro fun G kont => kont _ _ _ _ m1l m2l m3l m4l F₁ q1 N₁ hrs
  clear F1 N1 htk k3l
  intro h' tk' htk hR
  refine hR _ ?_
  clear hR
  intro m1 mx rs nr m1l m2l m3l m4l F1 q1 N1 hrs
  replace F1 := fr_as (ps := [(Str.ofString "places", _)]) F1 ⟨q1, trivial⟩
  simp only [kstB] at F1
  clear q1
  try dsimp only
  -- given
  have w0 : (0 : Int).natAbs.log2 < 1920 := by decide
  have w1 : (1 : Int).natAbs.log2 < 1920 := by decide
  have w2 : (Str.ofString (toString (0 : Int))).length ≤ 1000 := by decide +kernel
  have w3 : (Str.ofString (toString (1 : Int))).length ≤ 1000 := by decide +kernel
  k_steps
  refine ⟨seq_tk htk (fun h => ∀ G : Prop, (∀ (m : Str → Option Value) (gl : Addr) (n : Nat) (t0 : Addr) (t1 : Addr) (u0 : Tok) (u1 : Tok) (v0 : Tok) (v1 : Tok), Fr (bG bb) (bL bb) h m → m (Str.ofString "places") = some (.ref pl) → m (Str.ofString "given") = some (.ref gl) → News (bG bb) (bL bb) h ((gl, listOf [.ref t0, .ref t1].toArray n) :: (t0, tupOf [.str (S [lt]) u0, .str (S (wr mk 0)) v0]) :: (t1, tupOf [.str (S [lt]) u1, .str (S (wr mk 1)) v1]) :: (rw', listOf rs.toArray nr) :: (pl, listOf [.int k1 ta, .int k2 tb, .int k3 tc].toArray np) :: ((bL bb) + 1 + 1 + 1 + 1 + 1 + 1, wB) :: ((bL bb) + 1 + 1 + 1 + 1 + 1, oR) :: ((bL bb) + 1 + 1 + 1 + 1, oL) :: ((bL bb) + 1 + 1 + 1, oM) :: ((bL bb) + 1 + 1, oQ) :: ((bL bb) + 1, oP) :: []) → @LT.lt Nat _ t0 gl → @LT.lt Nat _ t1 gl → @LT.lt Nat _ rw' gl → @LT.lt Nat _ rw' t0 → @LT.lt Nat _ rw' t1 → G) → G) ?_ ?_⟩
  · k_steps
    k_extra "my 352"
    k_steps
    k_extra "my 352"
    k_steps
    rename Fr _ _ _ _ => F9
    rename News _ _ _ _ => N9
    exact EndR.intro fun G kont => kont _ _ _ _ _ _ _ _ _ F9 rfl rfl (News.sub N9 (by kcj_in)) (by omega) (by omega) (by omega) (by omega) (by omega)
  · intro h' tk' htk hR
    refine hR _ ?_
    clear hR F1 N1
    intro m1 gl n t0 t1 u0 u1 v0 v1 F1 q1 q2 N1 g0 g1 hgl g2 g3
    exact LawP.use (by k_is) rfl (epL3 VL3.wL3 bb fa z m1 lt mk p q tp tq tm tl oP oQ oM oL oR pl np ta tb tc k1 k2 k3 rw' nr mx rs gl wB n t0 t1 u0 u1 v0 v1 eB eO hlt hmk hpq htm k1l k1u k2l k2u d1 d2 d3 d4 d5 hpl ek3 k3u hrw m1l m2l m3l m4l hrs hgl d6 g0 g1 g2 g3) htk St (fr_as (ps := [(Str.ofString "places", _), (Str.ofString "given", _)]) F1 ⟨q1, q2, trivial⟩) N1 hPO fin
end VL2
noncomputable section
noncomputable def PxL1 (bb : Bd) (fa : Addr) (z : Value) (m1 : Str → Option Value) (lt : Nat) (mk : Nat) (p : Int) (q : Int) (tp : Tok) (tq : Tok) (tm : Tok) (tl : Tok) (oP : Obj) (oQ : Obj) (oM : Obj) (oL : Obj) (wR : Obj) (wB : Obj) (pl : Addr) (np : Nat) (ta : Tok) (tb : Tok) (k1 : Nat) (k2 : Nat) : Prop :=
  bBase bb = bG bb → bOuter bb = [] → Letter lt → Mark mk → PQ p q → tm ≠ 0 → 1 ≤ k1 → k1 ≤ 20 → 1 ≤ k2 → k2 ≤ 20 → oP.data = .cell (some (.int p tp)) → oQ.data = .cell (some (.int q tq)) → oM.data = .cell (some (.str (S [mk]) tm)) → oL.data = .cell (some (.str (S [lt]) tl)) → wR.data = .cell none → wB.data = .cell none → @LT.lt Nat _ (bL bb + 1 + 1 + 1 + 1 + 1 + 1) pl →
  LawP bb fa z 6 (tm + 1) (kstB m1 [(Str.ofString "places", .ref pl)]) ((pl, listOf [.int k1 ta, .int k2 tb].toArray np) :: (bL bb + 1 + 1 + 1 + 1 + 1 + 1, wB) :: (bL bb + 1 + 1 + 1 + 1 + 1, wR) :: (bL bb + 1 + 1 + 1 + 1, oL) :: (bL bb + 1 + 1 + 1, oM) :: (bL bb + 1 + 1, oQ) :: (bL bb + 1, oP) :: [])
theorem neL1 : Nonempty (Bd × Addr × Value × (Str → Option Value) × Nat × Nat × Int × Int × Tok × Tok × Tok × Tok × Obj × Obj × Obj × Obj × Obj × Obj × Addr × Nat × Tok × Tok × Nat × Nat) := bd_ne.elim fun bb => ⟨(bb, 0, .none, fun _ => none, 0, 0, 0, 0, 0, 0, 0, 0, default, default, default, default, default, default, 0, 0, 0, 0, 0, 0)⟩
@[irreducible] noncomputable def DL1 : Bd × Addr × Value × (Str → Option Value) × Nat × Nat × Int × Int × Tok × Tok × Tok × Tok × Obj × Obj × Obj × Obj × Obj × Obj × Addr × Nat × Tok × Tok × Nat × Nat := @Classical.epsilon _ neL1 fun d => ¬ PxL1 d.1 d.2.1 d.2.2.1 d.2.2.2.1 d.2.2.2.2.1 d.2.2.2.2.2.1 d.2.2.2.2.2.2.1 d.2.2.2.2.2.2.2.1 d.2.2.2.2.2.2.2.2.1 d.2.2.2.2.2.2.2.2.2.1 d.2.2.2.2.2.2.2.2.2.2.1 d.2.2.2.2.2.2.2.2.2.2.2.1 d.2.2.2.2.2.2.2.2.2.2.2.2.1 d.2.2.2.2.2.2.2.2.2.2.2.2.2.1 d.2.2.2.2.2.2.2.2.2.2.2.2.2.2.1 d.2.2.2.2.2.2.2.2.2.2.2.2.2.2.2.1 d.2.2.2.2.2.2.2.2.2.2.2.2.2.2.2.2.1 d.2.2.2.2.2.2.2.2.2.2.2.2.2.2.2.2.2.1 d.2.2.2.2.2.2.2.2.2.2.2.2.2.2.2.2.2.2.1 d.2.2.2.2.2.2.2.2.2.2.2.2.2.2.2.2.2.2.2.1 d.2.2.2.2.2.2.2.2.2.2.2.2.2.2.2.2.2.2.2.2.1 d.2.2.2.2.2.2.2.2.2.2.2.2.2.2.2.2.2.2.2.2.2.1 d.2.2.2.2.2.2.2.2.2.2.2.2.2.2.2.2.2.2.2.2.2.2.1 d.2.2.2.2.2.2.2.2.2.2.2.2.2.2.2.2.2.2.2.2.2.2.2
namespace VL1
@[irreducible] noncomputable def bb : Bd := DL1.1
@[irreducible] noncomputable def fa : Addr := DL1.2.1
@[irreducible] noncomputable def z : Value := DL1.2.2.1
@[irreducible] noncomputable def m1 : Str → Option Value := DL1.2.2.2.1
@[irreducible] noncomputable def lt : Nat := DL1.2.2.2.2.1
@[irreducible] noncomputable def mk : Nat := DL1.2.2.2.2.2.1
@[irreducible] noncomputable def p : Int := DL1.2.2.2.2.2.2.1
@[irreducible] noncomputable def q : Int := DL1.2.2.2.2.2.2.2.1
@[irreducible] noncomputable def tp : Tok := DL1.2.2.2.2.2.2.2.2.1
@[irreducible] noncomputable def tq : Tok := DL1.2.2.2.2.2.2.2.2.2.1
@[irreducible] noncomputable def tm : Tok := DL1.2.2.2.2.2.2.2.2.2.2.1
@[irreducible] noncomputable def tl : Tok := DL1.2.2.2.2.2.2.2.2.2.2.2.1
@[irreducible] noncomputable def oP : Obj := DL1.2.2.2.2.2.2.2.2.2.2.2.2.1
@[irreducible] noncomputable def oQ : Obj := DL1.2.2.2.2.2.2.2.2.2.2.2.2.2.1
@[irreducible] noncomputable def oM : Obj := DL1.2.2.2.2.2.2.2.2.2.2.2.2.2.2.1
@[irreducible] noncomputable def oL : Obj := DL1.2.2.2.2.2.2.2.2.2.2.2.2.2.2.2.1
@[irreducible] noncomputable def wR : Obj := DL1.2.2.2.2.2.2.2.2.2.2.2.2.2.2.2.2.1
@[irreducible] noncomputable def wB : Obj := DL1.2.2.2.2.2.2.2.2.2.2.2.2.2.2.2.2.2.1
@[irreducible] noncomputable def pl : Addr := DL1.2.2.2.2.2.2.2.2.2.2.2.2.2.2.2.2.2.2.1
@[irreducible] noncomputable def np : Nat := DL1.2.2.2.2.2.2.2.2.2.2.2.2.2.2.2.2.2.2.2.1
@[irreducible] noncomputable def ta : Tok := DL1.2.2.2.2.2.2.2.2.2.2.2.2.2.2.2.2.2.2.2.2.1
@[irreducible] noncomputable def tb : Tok := DL1.2.2.2.2.2.2.2.2.2.2.2.2.2.2.2.2.2.2.2.2.2.1
@[irreducible] noncomputable def k1 : Nat := DL1.2.2.2.2.2.2.2.2.2.2.2.2.2.2.2.2.2.2.2.2.2.2.1
@[irreducible] noncomputable def k2 : Nat := DL1.2.2.2.2.2.2.2.2.2.2.2.2.2.2.2.2.2.2.2.2.2.2.2
end VL1
end
theorem epL1 (h : PxL1 VL1.bb VL1.fa VL1.z VL1.m1 VL1.lt VL1.mk VL1.p VL1.q VL1.tp VL1.tq VL1.tm VL1.tl VL1.oP VL1.oQ VL1.oM VL1.oL VL1.wR VL1.wB VL1.pl VL1.np VL1.ta VL1.tb VL1.k1 VL1.k2) (bb : Bd) (fa : Addr) (z : Value) (m1 : Str → Option Value) (lt : Nat) (mk : Nat) (p : Int) (q : Int) (tp : Tok) (tq : Tok) (tm : Tok) (tl : Tok) (oP : Obj) (oQ : Obj) (oM : Obj) (oL : Obj) (wR : Obj) (wB : Obj) (pl : Addr) (np : Nat) (ta : Tok) (tb : Tok) (k1 : Nat) (k2 : Nat) : PxL1 bb fa z m1 lt mk p q tp tq tm tl oP oQ oM oL wR wB pl np ta tb k1 k2 := eps_at (P := fun d : Bd × Addr × Value × (Str → Option Value) × Nat × Nat × Int × Int × Tok × Tok × Tok × Tok × Obj × Obj × Obj × Obj × Obj × Obj × Addr × Nat × Tok × Tok × Nat × Nat => PxL1 d.1 d.2.1 d.2.2.1 d.2.2.2.1 d.2.2.2.2.1 d.2.2.2.2.2.1 d.2.2.2.2.2.2.1 d.2.2.2.2.2.2.2.1 d.2.2.2.2.2.2.2.2.1 d.2.2.2.2.2.2.2.2.2.1 d.2.2.2.2.2.2.2.2.2.2.1 d.2.2.2.2.2.2.2.2.2.2.2.1 d.2.2.2.2.2.2.2.2.2.2.2.2.1 d.2.2.2.2.2.2.2.2.2.2.2.2.2.1 d.2.2.2.2.2.2.2.2.2.2.2.2.2.2.1 d.2.2.2.2.2.2.2.2.2.2.2.2.2.2.2.1 d.2.2.2.2.2.2.2.2.2.2.2.2.2.2.2.2.1 d.2.2.2.2.2.2.2.2.2.2.2.2.2.2.2.2.2.1 d.2.2.2.2.2.2.2.2.2.2.2.2.2.2.2.2.2.2.1 d.2.2.2.2.2.2.2.2.2.2.2.2.2.2.2.2.2.2.2.1 d.2.2.2.2.2.2.2.2.2.2.2.2.2.2.2.2.2.2.2.2.1 d.2.2.2.2.2.2.2.2.2.2.2.2.2.2.2.2.2.2.2.2.2.1 d.2.2.2.2.2.2.2.2.2.2.2.2.2.2.2.2.2.2.2.2.2.2.1 d.2.2.2.2.2.2.2.2.2.2.2.2.2.2.2.2.2.2.2.2.2.2.2) (ne := neL1) (by with_unfolding_all exact h) (bb, fa, z, m1, lt, mk, p, q, tp, tq, tm, tl, oP, oQ, oM, oL, wR, wB, pl, np, ta, tb, k1, k2)
namespace VL1
theorem wL1 : PxL1 bb fa z m1 lt mk p q tp tq tm tl oP oQ oM oL wR wB pl np ta tb k1 k2 := by
  intro eB eO hlt hmk hpq htm k1l k1u k2l k2u d1 d2 d3 d4 d5 d6 hpl
  refine LawP.start (by k_is) rfl ?_
  intro h' tk' htk St F1 N1 hPO fin
  obtain ⟨B, X, T, hA, _, _, hh, hd, hu⟩ := id St
  simp only [kstB] at F1
  have k3l : 1 ≤ Nat.gcd k1 k2 := Nat.gcd_pos_of_pos_left _ k1l
  have k3u : Nat.gcd k1 k2 ≤ 20 := Nat.le_trans (Nat.gcd_le_left _ k1l) k1u
  k_steps
  refine ⟨seq_tk htk (fun h => ∀ G : Prop, (∀ (m : Str → Option Value) (np : Nat) (tc : Tok), Fr (bG bb) (bL bb) h m → m (Str.ofString "places") = some (.ref pl) → News (bG bb) (bL bb) h [(pl, listOf [.int k1 ta, .int k2 tb, .int (Nat.gcd k1 k2 : Nat) tc].toArray np), ((bL bb) + 1 + 1 + 1 + 1 + 1 + 1, wB), ((bL bb) + 1 + 1 + 1 + 1 + 1, wR), ((bL bb) + 1 + 1 + 1 + 1, oL), ((bL bb) + 1 + 1 + 1, oM), ((bL bb) + 1 + 1, oQ), ((bL bb) + 1, oP)] → G) → G) ?_ ?_⟩
  · k_steps
    refine ⟨?_⟩
    refine' Does.use (t_shared ?q1 ?q2 ?q3 ?q4) ?B ?F ?X ?N ?T ?fr ?fl ?fk ?hh ?hd ?hu ?_
    k_extra "my useN"
    (case q1 => assumption); (case q2 => assumption); (case q3 => assumption); (case q4 => assumption)
    intro v' tl' h' tk' F' N' hP
    obtain ⟨⟨t', e1⟩, e2⟩ := hP
    subst e1 e2
    k_steps
    rename Fr _ _ _ _ => F9
    rename News _ _ _ _ => N9
    rw [List.push_toArray] at N9
    exact EndR.intro fun G kont => kont _ _ _ F9 rfl N9
  clear F1 N1 htk
  generalize ek3 : Nat.gcd k1 k2 = k3 at *
  intro h' tk' htk hR
  refine hR _ ?_
  clear hR
  intro m1 np tc F1 q1 N1
  replace F1 := fr_as (ps := [(Str.ofString "places", _)]) F1 ⟨q1, trivial⟩
  simp only [kstB] at F1
  clear q1
  try dsimp only
  -- row
  k_steps
  refine ⟨seq_tk htk (fun h => ∀ G : Prop, (∀ (m : Str → Option Value) (oR : Obj) (rw : Addr) (nr : Nat) (u0 : Tok) (u1 : Tok), Fr (bG bb) (bL bb) h m → m (Str.ofString "places") = some (.ref pl) → News (bG bb) (bL bb) h [(rw, listOf [.int 0 u0, .int 1 u1].toArray nr), (pl, listOf [.int k1 ta, .int k2 tb, .int k3 tc].toArray np), ((bL bb) + 1 + 1 + 1 + 1 + 1 + 1, wB), ((bL bb) + 1 + 1 + 1 + 1 + 1, oR), ((bL bb) + 1 + 1 + 1 + 1, oL), ((bL bb) + 1 + 1 + 1, oM), ((bL bb) + 1 + 1, oQ), ((bL bb) + 1, oP)] → oR.data = .cell (some (.ref rw)) → @LT.lt Nat _ pl rw → G) → G) ?_ ?_⟩
  · k_steps
    rename Fr _ _ _ _ => F9
    rename News _ _ _ _ => N9
    exact EndR.intro fun G kont => kont _ _ _ _ _ _ F9 rfl N9 (by assumption) (by omega)
  · intro h' tk' htk hR
    refine hR _ ?_
    clear hR F1 N1
    intro m1 oR rw' nr u0 u1 F1 q1 N1 d5 hrw
    exact LawP.use (by k_is) rfl (epL2 VL2.wL2 bb fa z m1 lt mk p q tp tq tm tl oP oQ oM oL oR pl np ta tb tc k1 k2 k3 rw' nr wB u0 u1 eB eO hlt hmk hpq htm k1l k1u k2l k2u d1 d2 d3 d4 d5 hpl ek3 k3u hrw d6 k3l) htk St (fr_as (ps := [(Str.ofString "places", _)]) F1 ⟨q1, trivial⟩) N1 hPO fin
end VL1
noncomputable section
noncomputable def PxL0 (bb : Bd) (fa : Addr) (z : Value) (m1 : Str → Option Value) (ns : List Int) (sl : Addr) (its : List Value) (wP : Obj) (wQ : Obj) (wM : Obj) (wL : Obj) (wR : Obj) (wB : Obj) : Prop :=
  bBase bb = bG bb → bOuter bb = [] → IntsAre its ns → ns.length ≤ 63 → (bG bb).IsList sl its.toArray → wP.data = .cell none → wQ.data = .cell none → wM.data = .cell none → wL.data = .cell none → wR.data = .cell none → wB.data = .cell none →
  LawP bb fa z 0 (0) (kstB m1 [(Str.ofString "script", .ref sl)]) ((bL bb + 1 + 1 + 1 + 1 + 1 + 1, wB) :: (bL bb + 1 + 1 + 1 + 1 + 1, wR) :: (bL bb + 1 + 1 + 1 + 1, wL) :: (bL bb + 1 + 1 + 1, wM) :: (bL bb + 1 + 1, wQ) :: (bL bb + 1, wP) :: [])
theorem neL0 : Nonempty (Bd × Addr × Value × (Str → Option Value) × (List Int) × Addr × (List Value) × Obj × Obj × Obj × Obj × Obj × Obj) := bd_ne.elim fun bb => ⟨(bb, 0, .none, fun _ => none, [], 0, [], default, default, default, default, default, default)⟩
@[irreducible] noncomputable def DL0 : Bd × Addr × Value × (Str → Option Value) × (List Int) × Addr × (List Value) × Obj × Obj × Obj × Obj × Obj × Obj := @Classical.epsilon _ neL0 fun d => ¬ PxL0 d.1 d.2.1 d.2.2.1 d.2.2.2.1 d.2.2.2.2.1 d.2.2.2.2.2.1 d.2.2.2.2.2.2.1 d.2.2.2.2.2.2.2.1 d.2.2.2.2.2.2.2.2.1 d.2.2.2.2.2.2.2.2.2.1 d.2.2.2.2.2.2.2.2.2.2.1 d.2.2.2.2.2.2.2.2.2.2.2.1 d.2.2.2.2.2.2.2.2.2.2.2.2
namespace VL0
@[irreducible] noncomputable def bb : Bd := DL0.1
@[irreducible] noncomputable def fa : Addr := DL0.2.1
@[irreducible] noncomputable def z : Value := DL0.2.2.1
@[irreducible] noncomputable def m1 : Str → Option Value := DL0.2.2.2.1
@[irreducible] noncomputable def ns : List Int := DL0.2.2.2.2.1
@[irreducible] noncomputable def sl : Addr := DL0.2.2.2.2.2.1
@[irreducible] noncomputable def its : List Value := DL0.2.2.2.2.2.2.1
@[irreducible] noncomputable def wP : Obj := DL0.2.2.2.2.2.2.2.1
@[irreducible] noncomputable def wQ : Obj := DL0.2.2.2.2.2.2.2.2.1
@[irreducible] noncomputable def wM : Obj := DL0.2.2.2.2.2.2.2.2.2.1
@[irreducible] noncomputable def wL : Obj := DL0.2.2.2.2.2.2.2.2.2.2.1
@[irreducible] noncomputable def wR : Obj := DL0.2.2.2.2.2.2.2.2.2.2.2.1
@[irreducible] noncomputable def wB : Obj := DL0.2.2.2.2.2.2.2.2.2.2.2.2
end VL0
end
theorem epL0 (h : PxL0 VL0.bb VL0.fa VL0.z VL0.m1 VL0.ns VL0.sl VL0.its VL0.wP VL0.wQ VL0.wM VL0.wL VL0.wR VL0.wB) (bb : Bd) (fa : Addr) (z : Value) (m1 : Str → Option Value) (ns : List Int) (sl : Addr) (its : List Value) (wP : Obj) (wQ : Obj) (wM : Obj) (wL : Obj) (wR : Obj) (wB : Obj) : PxL0 bb fa z m1 ns sl its wP wQ wM wL wR wB := eps_at (P := fun d : Bd × Addr × Value × (Str → Option Value) × (List Int) × Addr × (List Value) × Obj × Obj × Obj × Obj × Obj × Obj => PxL0 d.1 d.2.1 d.2.2.1 d.2.2.2.1 d.2.2.2.2.1 d.2.2.2.2.2.1 d.2.2.2.2.2.2.1 d.2.2.2.2.2.2.2.1 d.2.2.2.2.2.2.2.2.1 d.2.2.2.2.2.2.2.2.2.1 d.2.2.2.2.2.2.2.2.2.2.1 d.2.2.2.2.2.2.2.2.2.2.2.1 d.2.2.2.2.2.2.2.2.2.2.2.2) (ne := neL0) (by with_unfolding_all exact h) (bb, fa, z, m1, ns, sl, its, wP, wQ, wM, wL, wR, wB)
namespace VL0
theorem wL0 : PxL0 bb fa z m1 ns sl its wP wQ wM wL wR wB := by
  intro eB eO hI hlen hL d1 d2 d3 d4 d5 d6
  refine LawP.start (by k_is) rfl ?_
  intro h' tk' htk St F1 N1 hPO fin
  obtain ⟨B, X, T, hA, _, _, hh, hd, hu⟩ := id St
  simp only [kstB] at F1
  k_steps
  refine ⟨wpAny_execs_cons ?_⟩
  k_steps
  refine ⟨?_⟩
  rename Fr _ _ _ _ => FC
  rename News _ _ _ _ => NC
  refine t_cells hI (by omega) _ _ _ _ _ _ _ _ _ _ _ ⟨B, FC, X, NC, T, hA, rfl, rfl, rfl⟩ hL (by k_extra "my room") (by k_extra "my room") ?_
  clear FC NC
  rintro v tl h' tk' F' N' ⟨c, n, vs, cs, rfl, rfl, hv, hcl, hc⟩
  replace hc := allLt_of hc
  simp only [AllLt, and_true] at hc
  obtain ⟨hc6, hc5, hc4, hc3, hc2, hc1⟩ := hc
  obtain ⟨mk, hmk, emk⟩ := mark_item (cs.getD (Int.toNat 5) 0)
  obtain ⟨lt, hlt, elt⟩ := letter_item ((cs.getD (Int.toNat 5) 0).fdiv 6)
  have hpq := pq_made (cs.getD (Int.toNat 0) 0) (cs.getD (Int.toNat 1) 0) (cs.getD (Int.toNat 2) 0)
  k_steps
  refine ⟨wpAny_execs_cons ?_⟩
  k_steps
  refine ⟨wpAny_execs_cons ?_⟩
  k_steps
  refine ⟨seq_cut (fun h tk => ∀ G : Prop, (∀ (m : Str → Option Value) (oP : Obj) (oQ : Obj) (oM : Obj) (tp : Tok) (tq : Tok) (tm : Tok) (p : Int) (q : Int) (mk : Nat), PQ p q → Mark mk → tm ≠ 0 → TokIs (tm + 1) tk → Fr (bG bb) (bL bb) h m → m (Str.ofString "cells") = some (.ref c) → News (bG bb) (bL bb) h [(c, listOf vs.toArray n), ((bL bb) + 1 + 1 + 1 + 1 + 1 + 1, wB), ((bL bb) + 1 + 1 + 1 + 1 + 1, wR), ((bL bb) + 1 + 1 + 1 + 1, wL), ((bL bb) + 1 + 1 + 1, oM), ((bL bb) + 1 + 1, oQ), ((bL bb) + 1, oP)] → oM.data = .cell (some (.str (S [mk]) tm)) → oQ.data = .cell (some (.int q tq)) → oP.data = .cell (some (.int p tp)) → G) → G) ?_ ?_⟩
  · k_steps
    rename Fr _ _ _ _ => F9
    rename News _ _ _ _ => N9
    rename Obj.data _ = _ => d9
    replace d9 := cell_S d9 emk
    refine EndR.intro fun G kont => kont _ _ _ _ _ _ _ _ _ mk hpq hmk ?_ (⟨?_⟩) F9 rfl N9 d9 (by assumption) (by assumption)
    · exact Nat.succ_ne_zero _
    · exact Nat.le_refl _
  rename Fr _ _ _ _ => zF
  rename News _ _ _ _ => zN
  rename Obj.data _ = _ => zd
  clear zF zN zd
  rename Obj.data _ = _ => zd
  clear zd
  clear hpq emk hmk mk d1 d2 d3
  intro h' tk' hR
  refine hR _ ?_
  clear hR
  intro m1 oP oQ oM tp tq tm p q mk hpq hmk htm htk F1 q1 N1 d3 d2 d1
  replace F1 := fr_as (ps := [(Str.ofString "cells", _)]) F1 ⟨q1, trivial⟩
  simp only [kstB] at F1
  clear q1
  try dsimp only
  -- letter
  k_steps
  refine ⟨seq_tk htk (fun h => ∀ G : Prop, (∀ (m : Str → Option Value) (oL : Obj) (tl : Tok), Fr (bG bb) (bL bb) h m → m (Str.ofString "cells") = some (.ref c) → News (bG bb) (bL bb) h [(c, listOf vs.toArray n), ((bL bb) + 1 + 1 + 1 + 1 + 1 + 1, wB), ((bL bb) + 1 + 1 + 1 + 1 + 1, wR), ((bL bb) + 1 + 1 + 1 + 1, oL), ((bL bb) + 1 + 1 + 1, oM), ((bL bb) + 1 + 1, oQ), ((bL bb) + 1, oP)] → oL.data = .cell (some (.str (S [lt]) tl)) → G) → G) ?_ ?_⟩
  · k_steps
    rename Fr _ _ _ _ => F9
    rename News _ _ _ _ => N9
    rename Obj.data _ = _ => d9
    exact EndR.intro fun G kont => kont _ _ _ F9 rfl N9 (cell_S d9 elt)
  clear F1 N1 htk d4 elt
  intro h' tk' htk hR
  refine hR _ ?_
  clear hR
  intro m1 oL tl F1 q1 N1 d4
  replace F1 := fr_as (ps := [(Str.ofString "cells", _)]) F1 ⟨q1, trivial⟩
  simp only [kstB] at F1
  clear q1
  try dsimp only
  -- places
  obtain ⟨k1, k1l, k1u, ek1⟩ := places_made (cs.getD (Int.toNat 3) 0)
  obtain ⟨k2, k2l, k2u, ek2⟩ := places_made (cs.getD (Int.toNat 4) 0)
  k_steps
  refine ⟨seq_tk htk (fun h => ∀ G : Prop, (∀ (m : Str → Option Value) (pl : Addr) (np : Nat) (ta : Tok) (tb : Tok), Fr (bG bb) (bL bb) h m → m (Str.ofString "places") = some (.ref pl) → News (bG bb) (bL bb) h [(pl, listOf [.int k1 ta, .int k2 tb].toArray np), ((bL bb) + 1 + 1 + 1 + 1 + 1 + 1, wB), ((bL bb) + 1 + 1 + 1 + 1 + 1, wR), ((bL bb) + 1 + 1 + 1 + 1, oL), ((bL bb) + 1 + 1 + 1, oM), ((bL bb) + 1 + 1, oQ), ((bL bb) + 1, oP)] → @LT.lt Nat _ ((bL bb) + 1 + 1 + 1 + 1 + 1 + 1) pl → G) → G) ?_ ?_⟩
  · k_steps
    rename Fr _ _ _ _ => F9
    rename News _ _ _ _ => N9
    exact EndR.intro fun G kont => kont _ _ _ _ _ F9 rfl (News.sub (news_two N9 ek1 ek2) (by kcj_in)) (by omega)
  · intro h' tk' htk hR
    refine hR _ ?_
    clear hR F1 N1
    intro m1 pl np ta tb F1 q1 N1 hpl
    exact LawP.use (by k_is) rfl (epL1 VL1.wL1 bb fa z m1 lt mk p q tp tq tm tl oP oQ oM oL wR wB pl np ta tb k1 k2 eB eO hlt hmk hpq htm k1l k1u k2l k2u d1 d2 d3 d4 d5 d6 hpl) htk St (fr_as (ps := [(Str.ofString "places", _)]) F1 ⟨q1, trivial⟩) N1 hPO fin
end VL0
set_option maxHeartbeats 100000000 in
theorem law_go {w : World} {mean : ExcName → Option Value} {mg mb : Str → Option Value} {s : Shared} {fa L : Addr} {z : Value} {m1 : Str → Option Value} {ns : List Int} {sl : Addr} {its : List Value} {wP wQ wM wL wR wB : Obj} {Q : Flow → Shared → Prop} {E : Value → Shared → Prop} {h₁ : Heap} {tk₁ : Nat}
    {name qual : Str} {params : Arguments} {body : List Stmt} {scope : Scope} {dV kV doc pm cdv ct oc : Value} {an od : Option Addr} {osl : Array (Option Value)}
    (ho : (Mine.x.heap_1_39 w.params).lookup 396 = some ⟨oc, od, .func (fnOf name qual params body scope dV kV doc pm an cdv ct), osl⟩)
    (hI : IntsAre its ns) (hlen : ns.length ≤ 63) (hL : s.heap.IsList sl its.toArray) (d1 : wP.data = .cell none) (d2 : wQ.data = .cell none) (d3 : wM.data = .cell none) (d4 : wL.data = .cell none) (d5 : wR.data = .cell none) (d6 : wB.data = .cell none) (hk : scope.kind = .function)
    (B : Below callerA s.heap [] s.heap) (X : (Mine.x.heap_1_39 w.params).In s.heap) (T : Top Mine.x.view_1_40 theLoose mean mg mb s.heap) (F : Fr s.heap L h₁ (kstB m1 [(Str.ofString "script", .ref sl)]))
    (N : News s.heap L h₁ ((L + 1 + 1 + 1 + 1 + 1 + 1, wB) :: (L + 1 + 1 + 1 + 1 + 1, wR) :: (L + 1 + 1 + 1 + 1, wL) :: (L + 1 + 1 + 1, wM) :: (L + 1 + 1, wQ) :: (L + 1, wP) :: []))
    (hPO : PassesOwn (model theProg w) (callerA.deeper (envOfC qual scope L fa z)) (envOfC qual scope L fa z) E) (fin : ∀ h' k' m', Fr s.heap L h' m' → Q (.ret (.bool true)) ⟨h', s.gens, s.drawn, k', s.os⟩) :
    wpAny (model theProg w) (callerA.deeper (envOfC qual scope L fa z)) (execs body (envOfC qual scope L fa z)) Q E ⟨h₁, s.gens, s.drawn, tk₁, s.os⟩ :=
  law_enter ho (by with_unfolding_all exact epL0 VL0.wL0 (w, mean, mg, mb, callerA, callerA.deeper (envOfC qual scope L fa z), s.heap, [], s.heap, L, s.gens, s.drawn, s.os, Q, E, h₁, tk₁) fa z m1 ns sl its wP wQ wM wL wR wB rfl rfl hI hlen hL d1 d2 d3 d4 d5 d6) hk B X T F N hPO fin
theorem law_holds : PySem.Challenge.rw_wo0082_01.Holds := x._proof_1_728 fun hsaid => x._proof_1_727 hsaid (by
  clear hsaid
  k_go0
  (all_goals try k_fold)
  rename_i W s₀ s₁ mg mb zG zY fa zo zpm zdoc zho hg X0 zX zV zGL T0 zB zTE zTW z15 z14 zM z13 z12 zhcd ns zhs zhlay zhL1 zhr1 zhl2 z10 z9 sl its z6 hL zra zw1 zr0 hI zhr hlen zhc K0 zhD h₁ tk₁ F0 wB wR wL wM wQ wP d6 d5 d4 d3 d2 d1 N0 zCA
  have fin : ∀ (h' : Heap) (tk' : Nat) (m' : Str → Option Value) (L' : Addr), Fr s₁.heap L' h' m' → qk (.ret (.bool true)) { s₁ with heap := h', toks := tk' } := by
    intro h' tk' m' L' F'
    show GoodW _ _ _ _ _ (.ok (.ret (.bool true))) _
    refine goodW_bool F' hg (raisesW_false ?_) ?_
    · wrow_none_raised
    · wrow_post
  try clear zCA
  try clear zhD
  try clear zhc
  try clear zhr
  try clear zr0
  try clear zw1
  try clear zra
  try clear zhl2
  try clear zhr1
  try clear zhL1
  try clear zhlay
  try clear zhs
  try clear zhcd
  try clear zM
  try clear zTW
  try clear zTE
  try clear zB
  try clear zGL
  try clear zV
  try clear zX
  try clear zho
  try clear zY
  try clear zG
  try clear z6
  try clear z9
  try clear z10
  try clear zpm
  try clear zdoc
  try clear zo
  have K1 : Below callerA s₁.heap [] s₁.heap := K0
  clear K0
  dsimp only
  obtain ⟨m0, FA, q0⟩ : ∃ m0, Fr _ _ _ m0 ∧ m0 (Str.ofString "script") = some (.ref _) := ⟨_, F0, rfl⟩
  replace FA := fr_as (ps := [(Str.ofString "script", _)]) FA ⟨q0, trivial⟩
  clear F0 q0
  replace d1 : _ = Data.cell none := d1
  replace d2 : _ = Data.cell none := d2
  replace d3 : _ = Data.cell none := d3
  replace d4 : _ = Data.cell none := d4
  replace d5 : _ = Data.cell none := d5
  replace d6 : _ = Data.cell none := d6
  exact law_go (by k_is) hI (by omega) hL d1 d2 d3 d4 d5 d6 rfl K1 X0 T0 FA N0 (by passes_own) (fun h' k' m' F' => fin h' k' m' _ F'))
end

end Mine
set_option maxRecDepth 100000 in
set_option maxHeartbeats 8000000 in
theorem PySem.Challenge.cw_wo0082_01_holds : PySem.Challenge.rw_wo0082_01.Holds := by
  exact Mine.law_holds
