import PyProof.Rows.All
import Wide.All
import OpenK.AllK
import Wide.FinOn
import PyProof.InstStore
import PySem.Challenge.RW_kl0089_01
set_option Elab.async false
name_quick tw16897511302373329960 for PySem.W.S.findZ by PySem.W.S.findZ_eq
name_quick tw8075568018651887793 for PySem.W.S.findZ by PySem.W.S.findZ_eq
name_quick tw6733733256287894996 for PySem.W.S.findZ by PySem.W.S.findZ_eq
name_quick tw1419416864934026935 for PySem.W.S.findZ by PySem.W.S.findZ_eq
name_quick tw11384798719751882707 for PySem.W.S.findZ by PySem.W.S.findZ_eq
name_quick tw17264339394300866724 for PySem.W.S.findZ by PySem.W.S.findZ_eq
name_quick tw4629098017875484523 for PySem.W.S.findZ by PySem.W.S.findZ_eq
name_quick tw14979626087600564940 for PySem.W.S.findZ by PySem.W.S.findZ_eq
name_quick tw9594443614562783311 for PySem.W.S.findZ by PySem.W.S.findZ_eq
name_quick tw12905708269229584271 for PySem.W.S.findZ by PySem.W.S.findZ_eq
name_quick tw5307473218048427134 for PySem.W.S.findZ by PySem.W.S.findZ_eq
name_quick tw9552468772387799933 for PySem.W.S.findZ by PySem.W.S.findZ_eq
name_quick tw2659971837748904517 for PySem.W.S.findZ by PySem.W.S.findZ_eq
name_quick tw7433093208181500128 for PySem.W.S.findZ by PySem.W.S.findZ_eq
name_quick tw12700139031502230420 for PySem.W.S.findZ by PySem.W.S.findZ_eq
name_quick tw2315820567201803617 for PySem.W.S.findZ by PySem.W.S.findZ_eq
name_quick tw1886563365779066154 for PySem.W.S.findZ by PySem.W.S.findZ_eq
name_quick tw15319007112934793488 for PySem.W.S.findZ by PySem.W.S.findZ_eq
name_quick tw1706496860858754268 for PySem.W.S.findZ by PySem.W.S.findZ_eq
name_quick tw13776390136698705113 for PySem.W.S.findZ by PySem.W.S.findZ_eq
name_quick tw9594665118957945026 for PySem.W.S.findZ by PySem.W.S.findZ_eq
name_quick tw9674257727999782656 for PySem.W.S.findZ by PySem.W.S.findZ_eq
name_quick tw15079194523842364033 for PySem.W.S.findZ by PySem.W.S.findZ_eq
name_quick tw16804044748790271530 for PySem.W.S.findZ by PySem.W.S.findZ_eq
name_quick tw9529234661008812162 for PySem.W.S.findZ by PySem.W.S.findZ_eq
name_quick tw9626621113073979434 for PySem.W.S.findZ by PySem.W.S.findZ_eq
name_quick tw16874561944515371726 for PySem.W.S.findZ by PySem.W.S.findZ_eq
name_quick tw4444965560193506482 for PySem.W.S.findZ by PySem.W.S.findZ_eq
name_quick tw12945451867199242903 for PySem.W.S.findZ by PySem.W.S.findZ_eq
name_quick tw16397041985804989593 for PySem.W.S.findZ by PySem.W.S.findZ_eq
name_quick tw6434138532213402376 for PySem.W.S.findZ by PySem.W.S.findZ_eq
name_quick tw6711915476519705758 for PySem.W.S.findZ by PySem.W.S.findZ_eq
name_quick tw1218959903707654005 for PySem.W.S.findZ by PySem.W.S.findZ_eq
name_quick tw16439824349840649037 for PySem.W.S.findZ by PySem.W.S.findZ_eq
name_quick tw13512673800721320934 for PySem.W.S.findZ by PySem.W.S.findZ_eq
name_quick tw11994158751524154303 for PySem.W.S.findZ by PySem.W.S.findZ_eq
name_quick tw5032809538720368765 for PySem.W.S.findZ by PySem.W.S.findZ_eq
name_quick tw5978237884098788730 for PySem.W.S.findZ by PySem.W.S.findZ_eq
name_quick tw15894407043143930727 for PySem.W.S.findZ by PySem.W.S.findZ_eq
name_quick tw14376985748213822385 for PySem.W.S.findZ by PySem.W.S.findZ_eq
name_quick tw4658958612460137192 for PySem.W.S.findZ by PySem.W.S.findZ_eq
name_quick tw14884601019740666482 for PySem.W.S.findZ by PySem.W.S.findZ_eq
name_quick tw14073706353221006472 for PySem.W.S.findZ by PySem.W.S.findZ_eq
name_quick tw4636218855388986860 for PySem.W.S.findZ by PySem.W.S.findZ_eq
name_quick tw17279654841073493023 for PySem.W.S.findZ by PySem.W.S.findZ_eq
name_quick tw14386061602966655976 for PySem.W.S.findZ by PySem.W.S.findZ_eq
name_quick tw17001327861769816259 for PySem.W.S.findZ by PySem.W.S.findZ_eq
name_quick tw13981391230805400906 for PySem.W.S.findZ by PySem.W.S.findZ_eq
name_quick tw11964429278604863157 for PySem.W.S.findZ by PySem.W.S.findZ_eq
name_quick tw1414301608579184545 for PySem.W.S.findZ by PySem.W.S.findZ_eq
name_quick tw5518745428033880147 for PySem.W.S.findZ by PySem.W.S.findZ_eq
name_quick tw5591276700874282246 for PySem.W.S.findZ by PySem.W.S.findZ_eq
name_quick tw17730428716208468724 for PySem.W.S.findZ by PySem.W.S.findZ_eq
name_quick tw4434333111790514575 for PySem.W.S.findZ by PySem.W.S.findZ_eq
name_quick tw16437185098154296904 for PySem.W.S.findZ by PySem.W.S.findZ_eq
name_quick tw15480198773659482676 for PySem.W.S.findZ by PySem.W.S.findZ_eq
name_quick tw15423634916342008072 for PySem.W.S.findZ by PySem.W.S.findZ_eq
name_quick tw4011157648589011858 for PySem.W.S.findZ by PySem.W.S.findZ_eq
name_quick tw11462780620772314294 for PySem.W.S.findZ by PySem.W.S.findZ_eq
name_quick tw5748944642966459573 for PySem.W.S.findZ by PySem.W.S.findZ_eq
name_quick tw1156252341971683116 for PySem.W.S.findZ by PySem.W.S.findZ_eq
name_quick tw10941641332493087335 for PySem.W.S.findZ by PySem.W.S.findZ_eq
name_quick tw11922603306681860132 for PySem.W.S.findZ by PySem.W.S.findZ_eq
name_quick tw6866450010875432602 for PySem.W.S.findZ by PySem.W.S.findZ_eq
name_quick tw4797165386629745026 for PySem.W.S.findZ by PySem.W.S.findZ_eq
name_quick tw15450981722951097364 for PySem.W.S.findZ by PySem.W.S.findZ_eq
name_quick tw15278061642289888581 for PySem.W.S.findZ by PySem.W.S.findZ_eq
name_quick tw11519604305632133818 for PySem.W.S.findZ by PySem.W.S.findZ_eq
name_quick tw9948023125614773506 for PySem.W.S.findZ by PySem.W.S.findZ_eq
name_quick tw12734952128020822468 for PySem.W.S.findZ by PySem.W.S.findZ_eq
name_quick tw9285146279643344392 for PySem.W.S.findZ by PySem.W.S.findZ_eq
name_quick tw900395245841561262 for PySem.W.S.findZ by PySem.W.S.findZ_eq
name_quick tw6662432510661729299 for PySem.W.S.findZ by PySem.W.S.findZ_eq
name_quick tw2422670821966735624 for PySem.W.S.findZ by PySem.W.S.findZ_eq
name_quick tw15980859228951719591 for PySem.W.S.findZ by PySem.W.S.findZ_eq
name_quick tw10028210170444487592 for PySem.W.S.findZ by PySem.W.S.findZ_eq
name_quick tw460243522976405022 for PySem.W.S.findZ by PySem.W.S.findZ_eq
name_quick tw4224760802259116069 for PySem.W.S.findZ by PySem.W.S.findZ_eq
name_quick tw17517737089405305841 for PySem.W.S.findZ by PySem.W.S.findZ_eq
name_quick tw7392212959928792091 for PySem.W.S.findZ by PySem.W.S.findZ_eq
name_quick tw11939915149646268982 for PySem.W.S.findZ by PySem.W.S.findZ_eq
name_quick tw5626521722763996951 for PySem.W.S.findZ by PySem.W.S.findZ_eq
name_quick tw8753696776887207221 for PySem.W.S.findZ by PySem.W.S.findZ_eq
name_quick tw10942035263794033107 for PySem.W.S.findZ by PySem.W.S.findZ_eq
name_quick tw3386650904741475044 for PySem.W.S.findZ by PySem.W.S.findZ_eq
name_quick tw16979880578912567463 for PySem.W.S.findZ by PySem.W.S.findZ_eq
name_quick tw13789449189825218787 for PySem.W.S.findZ by PySem.W.S.findZ_eq
name_quick tw12825359941727978080 for PySem.W.S.findZ by PySem.W.S.findZ_eq
name_quick tw878741703135273975 for PySem.W.S.findZ by PySem.W.S.findZ_eq
name_quick tw6245536207120538393 for PySem.W.S.findZ by PySem.W.S.findZ_eq
name_quick tw4407734736301137906 for PySem.W.S.findZ by PySem.W.S.findZ_eq
name_quick tw6654550962395885724 for PySem.W.S.findZ by PySem.W.S.findZ_eq
name_quick tw9908251947323293946 for PySem.W.S.findZ by PySem.W.S.findZ_eq
name_quick tw9396933662098498411 for PySem.W.S.findZ by PySem.W.S.findZ_eq
name_quick tw6967401301877209104 for PySem.W.S.findZ by PySem.W.S.findZ_eq
name_quick tw2447775223705975068 for PySem.W.S.findZ by PySem.W.S.findZ_eq
name_quick tw17244072584429378644 for PySem.W.S.findZ by PySem.W.S.findZ_eq
name_quick tw2354135333415324597 for PySem.W.S.findZ by PySem.W.S.findZ_eq
name_quick tw1184552218554016812 for PySem.W.S.findZ by PySem.W.S.findZ_eq
name_quick tw3264259588550801142 for PySem.W.S.findZ by PySem.W.S.findZ_eq
name_quick tw17828083071136270317 for PySem.W.S.findZ by PySem.W.S.findZ_eq
name_quick tw13559156169165276386 for PySem.W.S.findZ by PySem.W.S.findZ_eq
name_quick tw8017206721242287953 for PySem.W.S.findZ by PySem.W.S.findZ_eq
name_quick tw13209702108550829196 for PySem.W.S.findZ by PySem.W.S.findZ_eq
name_quick tw8989982439271903415 for PySem.W.S.findZ by PySem.W.S.findZ_eq
name_quick tw9011979029575296479 for PySem.W.S.findZ by PySem.W.S.findZ_eq
name_quick tw5131478536388391638 for PySem.W.S.findZ by PySem.W.S.findZ_eq
name_quick tw2664551874359636763 for PySem.W.S.findZ by PySem.W.S.findZ_eq
name_quick tw17532718790514356516 for PySem.W.S.findZ by PySem.W.S.findZ_eq
name_quick tw15007238320947547705 for PySem.W.S.findZ by PySem.W.S.findZ_eq
name_quick tw6722154040420286063 for PySem.W.S.findZ by PySem.W.S.findZ_eq
name_quick tw14223099787259518943 for PySem.W.S.findZ by PySem.W.S.findZ_eq
name_quick tw16947794391021106201 for PySem.W.S.findZ by PySem.W.S.findZ_eq
name_quick tw8620020772036689432 for PySem.W.S.findZ by PySem.W.S.findZ_eq
name_quick tw6380047634161181297 for PySem.W.S.findZ by PySem.W.S.findZ_eq
name_quick tw5248340912204065574 for PySem.W.S.findZ by PySem.W.S.findZ_eq
name_quick tw8253183596043897158 for PySem.W.S.findZ by PySem.W.S.findZ_eq
name_quick tw2611137233208623240 for PySem.W.S.findZ by PySem.W.S.findZ_eq
name_quick tw8032284361305108907 for PySem.W.S.findZ by PySem.W.S.findZ_eq
name_quick tw9151444980202551346 for PySem.W.S.findZ by PySem.W.S.findZ_eq
name_quick tw12659028871203227004 for PySem.W.S.findZ by PySem.W.S.findZ_eq
name_quick tw3636048126100218174 for PySem.W.S.findZ by PySem.W.S.findZ_eq
name_quick tw8119918657739134586 for PySem.W.S.findZ by PySem.W.S.findZ_eq
name_quick tw15066959818950650227 for PySem.W.S.findZ by PySem.W.S.findZ_eq
name_quick tw15475462885187679331 for PySem.W.S.findZ by PySem.W.S.findZ_eq
name_quick tw7286323032743288035 for PySem.W.S.findZ by PySem.W.S.findZ_eq
name_quick tw7035115661146626270 for PySem.W.S.findZ by PySem.W.S.findZ_eq
name_quick tw2354101950205528012 for PySem.W.S.findZ by PySem.W.S.findZ_eq
name_quick tw6817277305950994716 for PySem.W.S.findZ by PySem.W.S.findZ_eq
name_quick tw7232422423428716515 for PySem.W.S.findZ by PySem.W.S.findZ_eq
name_quick tw17057272898397164401 for PySem.W.S.findZ by PySem.W.S.findZ_eq
name_quick tw2211463529683891377 for PySem.W.S.findZ by PySem.W.S.findZ_eq
name_quick tw8902219603052485911 for PySem.W.S.findZ by PySem.W.S.findZ_eq
name_quick tw1574873078441994576 for PySem.W.S.findZ by PySem.W.S.findZ_eq
name_quick tw3766158894648301139 for PySem.W.S.findZ by PySem.W.S.findZ_eq
name_quick tw17405107967546479533 for PySem.W.S.findZ by PySem.W.S.findZ_eq
name_quick tw11853533878840232495 for PySem.W.S.findZ by PySem.W.S.findZ_eq
name_quick tw5135500740108067664 for PySem.W.S.findZ by PySem.W.S.findZ_eq
name_quick tw4075660801711882420 for PySem.W.S.findZ by PySem.W.S.findZ_eq
name_quick tw2478078296215019888 for PySem.W.S.findZ by PySem.W.S.findZ_eq
name_quick tw13335737130258781183 for PySem.W.S.findZ by PySem.W.S.findZ_eq
name_quick tw13809362725867891129 for PySem.W.S.findZ by PySem.W.S.findZ_eq
name_quick tw8860024209350480642 for PySem.W.S.findZ by PySem.W.S.findZ_eq
name_quick tw10996506086634736982 for PySem.W.S.findZ by PySem.W.S.findZ_eq
name_quick tw8400853705098224536 for PySem.W.S.findZ by PySem.W.S.findZ_eq
name_quick tw3698559305507148144 for PySem.W.S.findZ by PySem.W.S.findZ_eq
name_quick tw17804436615005485693 for PySem.W.S.findZ by PySem.W.S.findZ_eq
name_quick tw5189142188285759775 for PySem.W.S.findZ by PySem.W.S.findZ_eq
name_quick tw12393455550290869266 for PySem.W.S.findZ by PySem.W.S.findZ_eq
name_quick tw151948405760981731 for PySem.W.S.findZ by PySem.W.S.findZ_eq
name_quick tw8642067239939848140 for PySem.W.S.findZ by PySem.W.S.findZ_eq
name_quick tw5200128776193632040 for PySem.W.S.findZ by PySem.W.S.findZ_eq
name_quick tw607167704815816724 for PySem.W.S.findZ by PySem.W.S.findZ_eq
name_quick tw16966814322356759819 for PySem.W.S.findZ by PySem.W.S.findZ_eq
name_quick tw17164873540382356111 for PySem.W.S.findZ by PySem.W.S.findZ_eq
name_quick tw912392155897948271 for PySem.W.S.findZ by PySem.W.S.findZ_eq
name_quick tw14326252917377295143 for PySem.W.S.findZ by PySem.W.S.findZ_eq
name_quick tw8047484207015712433 for PySem.W.S.findZ by PySem.W.S.findZ_eq
name_quick tw9759809726879904816 for PySem.W.S.findZ by PySem.W.S.findZ_eq
name_quick tw18260038339965228139 for PySem.W.S.findZ by PySem.W.S.findZ_eq
name_quick tw14224011070414065920 for PySem.W.S.findZ by PySem.W.S.findZ_eq
name_quick tw10323183001455561277 for PySem.W.S.findZ by PySem.W.S.findZ_eq
name_quick tw2951486255847992690 for PySem.W.S.findZ by PySem.W.S.findZ_eq
name_quick tw3764465048917985505 for PySem.W.S.findZ by PySem.W.S.findZ_eq
name_quick tw7269565832213808900 for PySem.W.S.findZ by PySem.W.S.findZ_eq
name_quick tw7323676302269181137 for PySem.W.S.findZ by PySem.W.S.findZ_eq
name_quick tw10560311809851426564 for PySem.W.S.findZ by PySem.W.S.findZ_eq
name_quick tw11892598404827812706 for PySem.W.S.findZ by PySem.W.S.findZ_eq
name_quick tw17476080006546285661 for PySem.W.S.findZ by PySem.W.S.findZ_eq
name_quick tw724751600484774222 for PySem.W.S.findZ by PySem.W.S.findZ_eq
name_quick tw9979284746773624096 for PySem.W.S.findZ by PySem.W.S.findZ_eq
name_quick tw13759679279233594173 for PySem.W.S.findZ by PySem.W.S.findZ_eq
name_quick tw17100903815162463580 for PySem.W.S.findZ by PySem.W.S.findZ_eq
name_quick tw18220123701641295943 for PySem.W.S.findZ by PySem.W.S.findZ_eq
name_quick tw10029231156530900338 for PySem.W.S.findZ by PySem.W.S.findZ_eq
name_quick tw15766043655864335149 for PySem.W.S.findZ by PySem.W.S.findZ_eq
name_quick tw15742981410569661332 for PySem.W.S.findZ by PySem.W.S.findZ_eq
name_quick tw2599325451414397859 for PySem.W.S.findZ by PySem.W.S.findZ_eq
name_quick tw15168306246750427876 for PySem.W.S.findZ by PySem.W.S.findZ_eq
name_quick tw1702518465993881591 for PySem.W.S.findZ by PySem.W.S.findZ_eq
name_quick tw5701610774189311196 for PySem.W.S.findZ by PySem.W.S.findZ_eq
name_quick tw12635813782599140982 for PySem.W.S.findZ by PySem.W.S.findZ_eq
name_quick tw9763268239775435451 for PySem.W.S.findZ by PySem.W.S.findZ_eq
name_quick tw10887116778572429059 for PySem.W.S.findZ by PySem.W.S.findZ_eq
name_quick tw15663404670287596823 for PySem.W.S.findZ by PySem.W.S.findZ_eq
name_quick tw9376109419431680627 for PySem.W.S.findZ by PySem.W.S.findZ_eq
name_quick tw8693227569615203950 for PySem.W.S.findZ by PySem.W.S.findZ_eq
name_quick tw16414604833108395602 for PySem.W.S.findZ by PySem.W.S.findZ_eq
name_quick tw9862997608875712007 for PySem.W.S.findZ by PySem.W.S.findZ_eq
name_quick tw15323854079317868165 for PySem.W.S.findZ by PySem.W.S.findZ_eq
name_quick tw11161088081135249708 for PySem.W.S.findZ by PySem.W.S.findZ_eq
name_quick tw3094477031063562474 for PySem.W.S.findZ by PySem.W.S.findZ_eq
name_quick tw1402947280878808549 for PySem.W.S.findZ by PySem.W.S.findZ_eq
name_quick tw5529568453561195837 for PySem.W.S.findZ by PySem.W.S.findZ_eq
name_quick tw13141144453892091621 for PySem.W.S.findZ by PySem.W.S.findZ_eq
name_quick tw10205541121877940668 for PySem.W.S.findZ by PySem.W.S.findZ_eq
name_quick tw8703263022893421829 for PySem.W.S.findZ by PySem.W.S.findZ_eq
name_quick tw3560238982266916124 for PySem.W.S.findZ by PySem.W.S.findZ_eq
name_quick tw7198390536060210744 for PySem.W.S.findZ by PySem.W.S.findZ_eq
name_quick tw13036272033356848781 for PySem.W.S.findZ by PySem.W.S.findZ_eq
name_quick tw16846860572762119324 for PySem.W.S.findZ by PySem.W.S.findZ_eq
name_quick tw11013792430000457035 for PySem.W.S.findZ by PySem.W.S.findZ_eq
name_quick tw3282434896037501709 for PySem.W.S.findZ by PySem.W.S.findZ_eq
name_quick tw4978915544186085027 for PySem.W.S.findZ by PySem.W.S.findZ_eq
name_quick tw5076957145309523181 for PySem.W.S.findZ by PySem.W.S.findZ_eq
name_quick tw4775785305629353868 for PySem.W.S.findZ by PySem.W.S.findZ_eq
name_quick tw5357591511691535388 for PySem.W.S.findZ by PySem.W.S.findZ_eq
name_quick tw15900120412870309639 for PySem.W.S.findZ by PySem.W.S.findZ_eq
name_quick tw1617757218408452269 for PySem.W.S.findZ by PySem.W.S.findZ_eq
name_quick tw387338674003428930 for PySem.W.S.findZ by PySem.W.S.findZ_eq
name_quick tw4679858250743294509 for PySem.W.S.findZ by PySem.W.S.findZ_eq
name_quick tw3880421473898291048 for PySem.W.S.findZ by PySem.W.S.findZ_eq
name_quick tw7250012664060256230 for PySem.W.S.findZ by PySem.W.S.findZ_eq
name_quick tw14821650378409806113 for PySem.W.S.findZ by PySem.W.S.findZ_eq
name_quick tw14433975572909055671 for PySem.W.S.findZ by PySem.W.S.findZ_eq
name_quick tw14553827428707814869 for PySem.W.S.findZ by PySem.W.S.findZ_eq
name_quick tw11310463157757771331 for PySem.W.S.findZ by PySem.W.S.findZ_eq
name_quick tw470574548607681690 for PySem.W.S.findZ by PySem.W.S.findZ_eq
name_quick tw14834023430324568649 for PySem.W.S.findZ by PySem.W.S.findZ_eq
name_quick tw7401281599722004195 for PySem.W.S.findZ by PySem.W.S.findZ_eq
name_quick tw7721631327575515661 for PySem.W.S.findZ by PySem.W.S.findZ_eq
name_quick tw16406328271908756883 for PySem.W.S.findZ by PySem.W.S.findZ_eq
name_quick tw10596839373694312039 for PySem.W.S.findZ by PySem.W.S.findZ_eq
name_quick tw7788680626742099145 for PySem.W.S.findZ by PySem.W.S.findZ_eq
name_quick tw15542503528162795033 for PySem.W.S.findZ by PySem.W.S.findZ_eq
name_quick tw2460228577881660442 for PySem.W.S.findZ by PySem.W.S.findZ_eq
name_quick tw13236226663087606529 for PySem.W.S.findZ by PySem.W.S.findZ_eq
name_quick tw11270796479367742343 for PySem.W.S.findZ by PySem.W.S.findZ_eq
name_quick tw12172078356533094185 for PySem.W.S.findZ by PySem.W.S.findZ_eq
name_quick tw682011567655089306 for PySem.W.S.findZ by PySem.W.S.findZ_eq
name_quick tw13145125596335152023 for PySem.W.S.findZ by PySem.W.S.findZ_eq
name_quick tw18345786424863182364 for PySem.W.S.findZ by PySem.W.S.findZ_eq
name_quick tw11796506867022685745 for PySem.W.S.findZ by PySem.W.S.findZ_eq
name_quick tw14126943448341045398 for PySem.W.S.findZ by PySem.W.S.findZ_eq
name_quick tw17300597898927385350 for PySem.W.S.findZ by PySem.W.S.findZ_eq
name_quick tw6363645014702824404 for PySem.W.S.findZ by PySem.W.S.findZ_eq
name_quick tw16049961110935095269 for PySem.W.S.findZ by PySem.W.S.findZ_eq
name_quick tw15823609455315575823 for PySem.W.S.findZ by PySem.W.S.findZ_eq
name_quick tw10919533547850550483 for PySem.W.S.findZ by PySem.W.S.findZ_eq
name_quick tw4275521005467322725 for PySem.W.S.findZ by PySem.W.S.findZ_eq
name_quick tw7783732958741208154 for PySem.W.S.findZ by PySem.W.S.findZ_eq
name_quick tw6059929106960060952 for PySem.W.S.findZ by PySem.W.S.findZ_eq
name_quick tw7009043117176579089 for PySem.W.S.findZ by PySem.W.S.findZ_eq
name_quick tw14112274594779413971 for PySem.W.S.findZ by PySem.W.S.findZ_eq
name_quick tw15806122291839087668 for PySem.W.S.findZ by PySem.W.S.findZ_eq
name_quick tw11863081143760314161 for PySem.W.S.findZ by PySem.W.S.findZ_eq
name_quick tw7496433998918960881 for PySem.W.S.findZ by PySem.W.S.findZ_eq
name_quick tw18211773271919218964 for PySem.W.S.findZ by PySem.W.S.findZ_eq
name_quick tw951843321253372498 for PySem.W.S.findZ by PySem.W.S.findZ_eq
name_quick tw5823794197072137003 for PySem.W.S.findZ by PySem.W.S.findZ_eq
name_quick tw3619232141914619222 for PySem.W.S.findZ by PySem.W.S.findZ_eq
name_quick tw11420187438672877268 for PySem.W.S.findZ by PySem.W.S.findZ_eq
name_quick tw12233582284571471492 for PySem.W.S.findZ by PySem.W.S.findZ_eq
name_quick tw441327347791068078 for PySem.W.S.findZ by PySem.W.S.findZ_eq
name_quick tw10010936943081839664 for PySem.W.S.findZ by PySem.W.S.findZ_eq
name_quick tw16752143609539240740 for PySem.W.S.findZ by PySem.W.S.findZ_eq
name_quick tw608726401823008365 for PySem.W.S.findZ by PySem.W.S.findZ_eq
name_quick tw13900631225919944168 for PySem.W.S.findZ by PySem.W.S.findZ_eq
name_quick tw392140993173905013 for PySem.W.S.findZ by PySem.W.S.findZ_eq
name_quick tw14108194823987119177 for PySem.W.S.findZ by PySem.W.S.findZ_eq
name_quick tw10424941004445345732 for PySem.W.S.findZ by PySem.W.S.findZ_eq
name_quick tw12981051755390344553 for PySem.W.S.findZ by PySem.W.S.findZ_eq
name_quick tw10948738476641704880 for PySem.W.S.findZ by PySem.W.S.findZ_eq
name_quick tw5902227825499142635 for PySem.W.S.findZ by PySem.W.S.findZ_eq
name_quick tw15376083050721069600 for PySem.W.S.findZ by PySem.W.S.findZ_eq
name_quick tw5925582254088234700 for PySem.W.S.findZ by PySem.W.S.findZ_eq
name_quick tw5770868932273138760 for PySem.W.S.findZ by PySem.W.S.findZ_eq
name_quick tw4071324889030633612 for PySem.W.S.findZ by PySem.W.S.findZ_eq
name_quick tw1092655722715705105 for PySem.W.S.findZ by PySem.W.S.findZ_eq
name_quick tw13615603153576403970 for PySem.W.S.findZ by PySem.W.S.findZ_eq
name_quick tw16697116713213952808 for PySem.W.S.findZ by PySem.W.S.findZ_eq
name_quick tw11333186260410459676 for PySem.W.S.findZ by PySem.W.S.findZ_eq
name_quick tw5111356299099525756 for PySem.W.S.findZ by PySem.W.S.findZ_eq
name_quick tw3039592710220408265 for PySem.W.S.findZ by PySem.W.S.findZ_eq
name_quick tw1620339239838986703 for PySem.W.S.findZ by PySem.W.S.findZ_eq
name_quick tw6683783046931543321 for PySem.W.S.findZ by PySem.W.S.findZ_eq
name_quick tw7397068168572129948 for PySem.W.S.findZ by PySem.W.S.findZ_eq
name_quick tw5721027456603625697 for PySem.W.S.findZ by PySem.W.S.findZ_eq
name_quick tw15560500314895047343 for PySem.W.S.findZ by PySem.W.S.findZ_eq
name_quick tw1055568401681811165 for PySem.W.S.findZ by PySem.W.S.findZ_eq
name_quick tw4980102563643897964 for PySem.W.S.findZ by PySem.W.S.findZ_eq
name_quick tw10500077913531017323 for PySem.W.S.findZ by PySem.W.S.findZ_eq
name_quick tw4558998842232669794 for PySem.W.S.findZ by PySem.W.S.findZ_eq
name_quick tw7275051467321613617 for PySem.W.S.findZ by PySem.W.S.findZ_eq
name_quick tw8206430501311747189 for PySem.W.S.findZ by PySem.W.S.findZ_eq
name_quick tw16593013826814733010 for PySem.W.S.findZ by PySem.W.S.findZ_eq
name_quick tw14225232384345630719 for PySem.W.S.findZ by PySem.W.S.findZ_eq
name_quick tw11625766737575182897 for PySem.W.S.findZ by PySem.W.S.findZ_eq
name_quick tw13254397897704925713 for PySem.W.S.findZ by PySem.W.S.findZ_eq
name_quick tw3105397867545767578 for PySem.W.S.findZ by PySem.W.S.findZ_eq
name_quick tw8376441433122354887 for PySem.W.S.findZ by PySem.W.S.findZ_eq
name_quick tw6550987210724342151 for PySem.W.S.findZ by PySem.W.S.findZ_eq
name_quick tw4549333791460862111 for PySem.W.S.findZ by PySem.W.S.findZ_eq
name_quick tw1333364371103165705 for PySem.W.S.findZ by PySem.W.S.findZ_eq
name_quick tw1258717718454355964 for PySem.W.S.findZ by PySem.W.S.findZ_eq
name_quick tw6448080314894763839 for PySem.W.S.findZ by PySem.W.S.findZ_eq
name_quick tw9315938663221665524 for PySem.W.S.findZ by PySem.W.S.findZ_eq
name_quick tw3891137856419664920 for PySem.W.S.findZ by PySem.W.S.findZ_eq
name_quick tw18263319221461684349 for PySem.W.S.findZ by PySem.W.S.findZ_eq
name_quick tw1962928258387122110 for PySem.W.S.findZ by PySem.W.S.findZ_eq
name_quick tw12866136484021002089 for PySem.W.S.findZ by PySem.W.S.findZ_eq
name_quick tw7581352650102555174 for PySem.W.S.findZ by PySem.W.S.findZ_eq
name_quick tw16643379632663270332 for PySem.W.S.findZ by PySem.W.S.findZ_eq
name_quick tw12237943961548833269 for PySem.W.S.findZ by PySem.W.S.findZ_eq
name_quick tw18101931140130867144 for PySem.W.S.findZ by PySem.W.S.findZ_eq
name_quick tw11543547407058413889 for PySem.W.S.findZ by PySem.W.S.findZ_eq
name_quick tw8719427161674164953 for PySem.W.S.findZ by PySem.W.S.findZ_eq
name_quick tw4090926877573551719 for PySem.W.S.findZ by PySem.W.S.findZ_eq
name_quick tw704327219915372674 for PySem.W.S.findZ by PySem.W.S.findZ_eq
name_quick tw8224813933742928703 for PySem.W.S.findZ by PySem.W.S.findZ_eq
name_quick tw15034313371233782410 for PySem.W.S.findZ by PySem.W.S.findZ_eq
name_quick tw11317593695737139937 for PySem.W.S.findZ by PySem.W.S.findZ_eq
name_quick tw5882768191206486792 for PySem.W.S.findZ by PySem.W.S.findZ_eq
name_quick tw17975652961387846372 for PySem.W.S.findZ by PySem.W.S.findZ_eq
name_quick tw4315378903125176507 for PySem.W.S.findZ by PySem.W.S.findZ_eq
name_quick tw15614306127316084121 for PySem.W.S.findZ by PySem.W.S.findZ_eq
name_quick tw4515677705193469861 for PySem.W.S.findZ by PySem.W.S.findZ_eq
name_quick tw7511906259402933339 for PySem.W.S.findZ by PySem.W.S.findZ_eq
name_quick tw14777955251499897993 for PySem.W.S.findZ by PySem.W.S.findZ_eq
name_quick tw18103910768895448316 for PySem.W.S.findZ by PySem.W.S.findZ_eq
name_quick tw18222870959881175025 for PySem.W.S.findZ by PySem.W.S.findZ_eq
name_quick tw654387222894778470 for PySem.W.S.findZ by PySem.W.S.findZ_eq
name_quick tw11729385059970357855 for PySem.W.S.findZ by PySem.W.S.findZ_eq
name_quick tw9300948228871686676 for PySem.W.S.findZ by PySem.W.S.findZ_eq
name_quick tw1735497430108182060 for PySem.W.S.findZ by PySem.W.S.findZ_eq
name_quick tw18056578402003937789 for PySem.W.S.findZ by PySem.W.S.findZ_eq
name_quick tw5349121933718820234 for PySem.W.S.findZ by PySem.W.S.findZ_eq
name_quick tw2193789692954389824 for PySem.W.S.findZ by PySem.W.S.findZ_eq
name_quick tw10073347824450446311 for PySem.W.S.findZ by PySem.W.S.findZ_eq
name_quick tw11636919720809706868 for PySem.W.S.findZ by PySem.W.S.findZ_eq
name_quick tw12371321757623732685 for PySem.W.S.findZ by PySem.W.S.findZ_eq
name_quick tw2627984346626558326 for PySem.W.S.findZ by PySem.W.S.findZ_eq
name_quick tw6122645084068987007 for PySem.W.S.findZ by PySem.W.S.findZ_eq
name_quick tw8537084889766193716 for PySem.W.S.findZ by PySem.W.S.findZ_eq
name_quick tw183835017167291270 for PySem.W.S.findZ by PySem.W.S.findZ_eq
name_quick tw17497748084772794779 for PySem.W.S.findZ by PySem.W.S.findZ_eq
name_quick tw13640514254501968386 for PySem.W.S.findZ by PySem.W.S.findZ_eq
name_quick tw1537898542681612871 for PySem.W.S.findZ by PySem.W.S.findZ_eq
name_quick tw3131671291697673992 for PySem.W.S.findZ by PySem.W.S.findZ_eq
name_quick tw662354867322794072 for PySem.W.S.findZ by PySem.W.S.findZ_eq
name_quick tw1355338860687761863 for PySem.W.S.findZ by PySem.W.S.findZ_eq
name_quick tw18340240734955500558 for PySem.W.S.findZ by PySem.W.S.findZ_eq
name_quick tw11186114360453789277 for PySem.W.S.findZ by PySem.W.S.findZ_eq
name_quick tw13002492023102617099 for PySem.W.S.findZ by PySem.W.S.findZ_eq
name_quick tw3093977132361051618 for PySem.W.S.findZ by PySem.W.S.findZ_eq
name_quick tw13180171748994924942 for PySem.W.S.findZ by PySem.W.S.findZ_eq
name_quick tw6434265647005701932 for PySem.W.S.findZ by PySem.W.S.findZ_eq
name_quick tw1320183511955256522 for PySem.W.S.findZ by PySem.W.S.findZ_eq
name_quick tw11445135464325071761 for PySem.W.S.findZ by PySem.W.S.findZ_eq
name_quick tw7098571738820278039 for PySem.W.S.findZ by PySem.W.S.findZ_eq
name_quick tw16531745337717519161 for PySem.W.S.findZ by PySem.W.S.findZ_eq
name_quick tw7892128664451923741 for PySem.W.S.findZ by PySem.W.S.findZ_eq
name_quick tw16296994325663420285 for PySem.W.S.findZ by PySem.W.S.findZ_eq
name_quick tw8098380416015320538 for PySem.W.S.findZ by PySem.W.S.findZ_eq
name_quick tw3856783459128436802 for PySem.W.S.findZ by PySem.W.S.findZ_eq
name_quick tw3976722010076183465 for PySem.W.S.findZ by PySem.W.S.findZ_eq
name_quick tw9787463984185863102 for PySem.W.S.findZ by PySem.W.S.findZ_eq
name_quick tw4552823106982906706 for PySem.W.S.findZ by PySem.W.S.findZ_eq
name_quick tw4525517667737911620 for PySem.W.S.findZ by PySem.W.S.findZ_eq
name_quick tw2039238271031011813 for PySem.W.S.findZ by PySem.W.S.findZ_eq
name_quick tw10706342367453228570 for PySem.W.S.findZ by PySem.W.S.findZ_eq
name_quick tw4292500188555128830 for PySem.W.S.findZ by PySem.W.S.findZ_eq
name_quick tw3972328310683599613 for PySem.W.S.findZ by PySem.W.S.findZ_eq
name_quick tw6679490504615227074 for PySem.W.S.findZ by PySem.W.S.findZ_eq
name_quick tw1829445100760108279 for PySem.W.S.findZ by PySem.W.S.findZ_eq
name_quick tw18350330562280901221 for PySem.W.S.findZ by PySem.W.S.findZ_eq
name_quick tw11707433790658880453 for PySem.W.S.findZ by PySem.W.S.findZ_eq
name_quick tw14168537005229113720 for PySem.W.S.findZ by PySem.W.S.findZ_eq
name_quick tw6589095468515690095 for PySem.W.S.findZ by PySem.W.S.findZ_eq
name_quick tw16241802466949684156 for PySem.W.S.findZ by PySem.W.S.findZ_eq
name_quick tw3778451253796500701 for PySem.W.S.findZ by PySem.W.S.findZ_eq
name_quick tw505943868828395459 for PySem.W.S.findZ by PySem.W.S.findZ_eq
name_quick tw7276740287692124622 for PySem.W.S.findZ by PySem.W.S.findZ_eq
name_quick tw10314498396905981064 for PySem.W.S.findZ by PySem.W.S.findZ_eq
name_quick tw2283851925072248500 for PySem.W.S.findZ by PySem.W.S.findZ_eq
name_quick tw3442601649717412197 for PySem.W.S.findZ by PySem.W.S.findZ_eq
name_quick tw4302124980754421698 for PySem.W.S.findZ by PySem.W.S.findZ_eq
name_quick tw11588390666370768167 for PySem.W.S.findZ by PySem.W.S.findZ_eq
name_quick tw932993149863042379 for PySem.W.S.findZ by PySem.W.S.findZ_eq
name_quick tw14210447440969649564 for PySem.W.S.findZ by PySem.W.S.findZ_eq
name_quick tw9458956999447867950 for PySem.W.S.findZ by PySem.W.S.findZ_eq
name_quick tw11462045893675790159 for PySem.W.S.findZ by PySem.W.S.findZ_eq
name_quick tw9676229304581654039 for PySem.W.S.findZ by PySem.W.S.findZ_eq
name_quick tw16349216596472256690 for PySem.W.S.findZ by PySem.W.S.findZ_eq
name_quick tw12767683915131110723 for PySem.W.S.findZ by PySem.W.S.findZ_eq
name_quick tw5732905514179830355 for PySem.W.S.findZ by PySem.W.S.findZ_eq
name_quick tw12268644228514654432 for PySem.W.S.findZ by PySem.W.S.findZ_eq
name_quick tw4039474712603431140 for PySem.W.S.findZ by PySem.W.S.findZ_eq
name_quick tw667198328695590252 for PySem.W.S.findZ by PySem.W.S.findZ_eq
name_quick tw12835720964997663042 for PySem.W.S.findZ by PySem.W.S.findZ_eq
name_quick tw11838138170533393997 for PySem.W.S.findZ by PySem.W.S.findZ_eq
name_quick tw8796240567053077481 for PySem.W.S.findZ by PySem.W.S.findZ_eq
name_quick tw7299303143086499733 for PySem.W.S.findZ by PySem.W.S.findZ_eq
name_quick tw7745614565497352828 for PySem.W.S.findZ by PySem.W.S.findZ_eq
name_quick tw7365555872484859036 for PySem.W.S.findZ by PySem.W.S.findZ_eq
name_quick tw6004533443673955352 for PySem.W.S.findZ by PySem.W.S.findZ_eq
name_quick tw8727135674562949291 for PySem.W.S.findZ by PySem.W.S.findZ_eq
name_quick tw12022618010286034681 for PySem.W.S.findZ by PySem.W.S.findZ_eq
name_quick tw11306939235166856333 for PySem.W.S.findZ by PySem.W.S.findZ_eq
name_quick tw17434858337260393937 for PySem.W.S.findZ by PySem.W.S.findZ_eq
name_quick tw8708707556590381134 for PySem.W.S.findZ by PySem.W.S.findZ_eq
name_quick tw10528696920762540405 for PySem.W.S.findZ by PySem.W.S.findZ_eq
name_quick tw16494616584097029746 for PySem.W.S.findZ by PySem.W.S.findZ_eq
name_quick tw11452132507678324671 for PySem.W.S.findZ by PySem.W.S.findZ_eq
name_quick tw2408619945344806742 for PySem.W.S.findZ by PySem.W.S.findZ_eq
name_quick tw9931943479562821362 for PySem.W.S.findZ by PySem.W.S.findZ_eq
name_quick tw8424611434330503625 for PySem.W.S.findZ by PySem.W.S.findZ_eq
name_quick tw6019396324639902685 for PySem.W.S.findZ by PySem.W.S.findZ_eq
name_quick tw14023627001141898710 for PySem.W.S.findZ by PySem.W.S.findZ_eq
name_quick tw17000155066101142889 for PySem.W.S.findZ by PySem.W.S.findZ_eq
name_quick tw2660918139993853925 for PySem.W.S.findZ by PySem.W.S.findZ_eq
name_quick tw13912434898499826684 for PySem.W.S.findZ by PySem.W.S.findZ_eq
name_quick tw4527066259768149269 for PySem.W.S.findZ by PySem.W.S.findZ_eq
name_quick tw2905824091091238844 for PySem.W.S.findZ by PySem.W.S.findZ_eq
name_quick tw2334299552400917057 for PySem.W.S.findZ by PySem.W.S.findZ_eq
name_quick tw14311459727803291754 for PySem.W.S.findZ by PySem.W.S.findZ_eq
name_quick tw136631920214876835 for PySem.W.S.findZ by PySem.W.S.findZ_eq
name_quick tw4933834842325187142 for PySem.W.S.findZ by PySem.W.S.findZ_eq
name_quick tw14333388528381170442 for PySem.W.S.findZ by PySem.W.S.findZ_eq
name_quick tw10938465397075749097 for PySem.W.S.findZ by PySem.W.S.findZ_eq
name_quick tw10227693086864044499 for PySem.W.S.findZ by PySem.W.S.findZ_eq
name_quick tw721709456127091705 for PySem.W.S.findZ by PySem.W.S.findZ_eq
name_quick tw3118938333895590913 for PySem.W.S.findZ by PySem.W.S.findZ_eq
name_quick tw3362959441861295915 for PySem.W.S.findZ by PySem.W.S.findZ_eq
name_quick tw1370275717833778536 for PySem.W.S.findZ by PySem.W.S.findZ_eq
name_quick tw16145008321745377990 for PySem.W.S.findZ by PySem.W.S.findZ_eq
name_quick tw16349804527192203551 for PySem.W.S.findZ by PySem.W.S.findZ_eq
name_quick tw8579058602437062094 for PySem.W.S.findZ by PySem.W.S.findZ_eq
name_quick tw3577408171920636059 for PySem.W.S.findZ by PySem.W.S.findZ_eq
name_quick tw15490439104401381959 for PySem.W.S.findZ by PySem.W.S.findZ_eq
name_quick tw1377046205977697930 for PySem.W.S.findZ by PySem.W.S.findZ_eq
name_quick tw9564595351457756722 for PySem.W.S.findZ by PySem.W.S.findZ_eq
name_quick tw17018628822417861297 for PySem.W.S.findZ by PySem.W.S.findZ_eq
name_quick tw16374537267813192141 for PySem.W.S.findZ by PySem.W.S.findZ_eq
name_quick tw17000458434675057986 for PySem.W.S.findZ by PySem.W.S.findZ_eq
name_quick tw2968979199505139716 for PySem.W.S.findZ by PySem.W.S.findZ_eq
name_quick tw5706481520468235054 for PySem.W.S.findZ by PySem.W.S.findZ_eq
name_quick tw2719445374943340272 for PySem.W.S.findZ by PySem.W.S.findZ_eq
name_quick tw16792545251062261874 for PySem.W.S.findZ by PySem.W.S.findZ_eq
name_quick tw8595292554425487202 for PySem.W.S.findZ by PySem.W.S.findZ_eq
name_quick tw11985326045990495214 for PySem.W.S.findZ by PySem.W.S.findZ_eq
name_quick tw7650934615059315214 for PySem.W.S.findZ by PySem.W.S.findZ_eq
name_quick tw16643706677886111943 for PySem.W.S.findZ by PySem.W.S.findZ_eq
name_quick tw1291980286583624508 for PySem.W.S.findZ by PySem.W.S.findZ_eq
name_quick tw16741492637210864865 for PySem.W.S.findZ by PySem.W.S.findZ_eq
name_quick tw282004115355043989 for PySem.W.S.findZ by PySem.W.S.findZ_eq
name_quick tw9467589175468403638 for PySem.W.S.findZ by PySem.W.S.findZ_eq
name_quick tw16817318245366136608 for PySem.W.S.findZ by PySem.W.S.findZ_eq
name_quick tw17863021456227041891 for PySem.W.S.findZ by PySem.W.S.findZ_eq
name_quick tw11313170107247368264 for PySem.W.S.findZ by PySem.W.S.findZ_eq
name_quick tw10317580896714288900 for PySem.W.S.findZ by PySem.W.S.findZ_eq
name_quick tw13317431791736044220 for PySem.W.S.findZ by PySem.W.S.findZ_eq
name_quick tw14530364306720264245 for PySem.W.S.findZ by PySem.W.S.findZ_eq
name_quick tw12290603225136948437 for PySem.W.S.findZ by PySem.W.S.findZ_eq
name_quick tw16548257151911338427 for PySem.W.S.findZ by PySem.W.S.findZ_eq
name_quick tw3424931102881643321 for PySem.W.S.findZ by PySem.W.S.findZ_eq
name_quick tw3436264866546951355 for PySem.W.S.findZ by PySem.W.S.findZ_eq
name_quick tw17552769576498331613 for PySem.W.S.findZ by PySem.W.S.findZ_eq
name_quick tw9800571698397750058 for PySem.W.S.findZ by PySem.W.S.findZ_eq
name_quick tw7504490480230193789 for PySem.W.S.findZ by PySem.W.S.findZ_eq
name_quick tw16176465441171805009 for PySem.W.S.findZ by PySem.W.S.findZ_eq
section
open PySem PySem.W PyProof.Rows
namespace Mine
set_option maxRecDepth 100000 in
set_option maxHeartbeats 8000000 in
open_top hd for PySem.Challenge.rw_kl0089_01
theorem top_off : True := by w_top off; trivial
end Mine
end
section
open PySem PySem.W PyProof.Rows PySem.Calls
set_option maxRecDepth 100000
namespace Mine
noncomputable abbrev PG : Program := PySem.Challenge.rw_kl0089_01.row.prog
noncomputable abbrev Tx (l : List Nat) : Str := ⟨⟨l⟩⟩
/-- a call of f: from ledger news, what it hands back -/
noncomputable abbrev Ct (w : World) (K : Frag) (p : Program) (loose : List Str) (mean : ExcName → Option Value) (mg mb : Str → Option Value) (fv : Value) (vs : List Value) (kw : List (Str × Value)) (d u : Nat) (news : List (Addr × Obj)) (R : Value → List (Addr × Obj) → Prop) : Prop :=
  ∀ (dp un : Nat) (gd : Option (List Code)) (cn : Str) (cs : Scope) (a : Addr) (ccd : Value) (cl : List (Str × Addr)) (outer : List Env) (A₀ : Around) (base h₀ : Heap) (L : Addr) (m : Str → Option Value) (s : Shared) (Q E : Value → Shared → Prop),
    Below A₀ base outer h₀ → Fr h₀ L s.heap m → K.In h₀ → News h₀ L s.heap news → Top p loose mean mg mb h₀ → cs.kind = .function → dp + d < recursionLimit → un + u < cLine →
    (∀ v news' h' tk', R v news' → Fr h₀ L h' m → News h₀ L h' news' → Q v { s with heap := h', toks := tk' }) →
    wpAny (model PG w) (ktrTop dp un gd cn cs L a ccd cl outer) (call fv vs kw) Q E s
/-- the same of the call's own code -/
noncomputable abbrev CtC (w : World) (K : Frag) (p : Program) (loose : List Str) (mean : ExcName → Option Value) (mg mb : Str → Option Value) (fv : Value) (vs : List Value) (kw : List (Str × Value)) (d u : Nat) (news : List (Addr × Obj)) (R : Value → List (Addr × Obj) → Prop) : Prop :=
  ∀ (dp un : Nat) (gd : Option (List Code)) (cn : Str) (cs : Scope) (a : Addr) (ccd : Value) (cl : List (Str × Addr)) (outer : List Env) (A₀ : Around) (base h₀ : Heap) (L : Addr) (m : Str → Option Value) (s : Shared) (Q E : Value → Shared → Prop),
    Below A₀ base outer h₀ → Fr h₀ L s.heap m → K.In h₀ → News h₀ L s.heap news → Top p loose mean mg mb h₀ → cs.kind = .function → dp + d < recursionLimit → un + u < cLine →
    (∀ v news' h' tk', R v news' → Fr h₀ L h' m → News h₀ L h' news' → Q v { s with heap := h', toks := tk' }) →
    codeAny (model PG w) (ktrTop dp un gd cn cs L a ccd cl outer) (.call fv ⟨vs, kw⟩) (fun r s' => match r with | .ok (.ret v) => Q v s' | .ok _ => False | .error e => E e s') s
theorem CtC.toCt {w : World} {K : Frag} {p : Program} {loose : List Str} {mean : ExcName → Option Value} {mg mb : Str → Option Value} {fv : Value} {vs : List Value} {kw : List (Str × Value)} {d u : Nat} {news : List (Addr × Obj)} {R : Value → List (Addr × Obj) → Prop}
    (C : CtC w K p loose mean mg mb fv vs kw d u news R) : Ct w K p loose mean mg mb fv vs kw d u news R :=
  fun _ _ _ _ _ _ _ _ _ _ _ _ _ _ _ _ _ B F X N T hk hd hu h => wpAny_call (C _ _ _ _ _ _ _ _ _ _ _ _ _ _ _ _ _ B F X N T hk hd hu h)
end Mine
end
section
open PySem PySem.W PyProof.Rows PySem.Calls
set_option maxRecDepth 100000
namespace Mine
/-! what stands at an end of x_run -/
structure XE (s : Shared) (P : Value → Prop) (Q : Value → Shared → Prop) : Prop where
  out : ∀ v tk h', P v → (∀ b o, s.heap.get? b = some o → h'.get? b = some o) → Q v { s with heap := h', toks := tk }
open PySem.W.X in
theorem XE.use {s : Shared} {P : Value → Prop} {Q : Value → Shared → Prop} {v : Value} {h : Heap} {tk : Nat} {news : List (Addr × Obj)} (x : XE s P Q) (D : Mem s.heap h [] news) (hp : P v) : Q v ⟨h, s.gens, s.drawn, tk, s.os⟩ :=
  x.out v tk h hp fun b o e => D.keep b o e (by simp [away])
local macro_rules | `(tactic| x_close) => `(tactic| ((first | refine XE.use (by assumption) (by assumption) ?_ | refine XE.use (by assumption) (PySem.W.X.Mem.start _) ?_); first | rfl | assumption | trivial))
theorem fill1 : PySem.Challenge.rw_kl0089_01 = PySem.Challenge.rw_kl0089_01 ∧ hd.heap_39 = hd.heap_39 := by k_fill; exact ⟨rfl, rfl⟩

/-! re.Pattern.search -/
theorem slot_pat : Slot "re.Pattern" "search" "re.Pattern.search" :=
  .of (owner := "re.Pattern") (n := "search") (by rw [typeLookup_type, builtinLookup_eq_fast]; kernel_rfl) (by decide +kernel) (by decide +kernel) (by decide +kernel)
    (by first | exact .inl (by decide +kernel) | exact .inr (by decide +kernel)) (by rw [isSubtype_type]; kernel_rfl)
theorem type_pat : typeOf (.builtin "re.Pattern.search") = pure (.type "method_descriptor") := by show builtinType _ = _; rw [builtinType_eq_fast]; kernel_rfl
theorem plainAttrs_pat : PlainAttrs "re.Pattern" :=
  ⟨⟨"object.__getattribute__", by rw [typeLookup_type, builtinLookup_eq_fast]; kernel_rfl, by decide +kernel⟩, by rw [typeLookup_type, builtinLookup_eq_fast]; kernel_rfl⟩
theorem get_search {M : Model} {A : Around} {E : Value → Shared → Prop} {s : Shared} {a : Addr} {pl : Sem Bool} {Q : Value × List Value → Shared → Prop} {vs : Array Value}
    (ho : s.heap.get? a = some ⟨.type "re.Pattern", none, .fields vs, #[]⟩) (h : Q (.builtin "re.Pattern.search", [.ref a]) s) : wpAny M A (getMethod (.ref a) "search" pl) Q E s :=
  getMethod_builtin (v := .ref a) ⟨_, ho, rfl⟩ plainAttrs_pat slot_pat type_pat (fun _ e => by cases e; exact ⟨_, ho, rfl⟩) h
theorem get_searchK {M : Model} {A : Around} {E : Value → Shared → Prop} {s : Shared} {K : Frag} {h₀ : Heap} {L : Addr} {m : Str → Option Value} {a : Addr} {pl : Sem Bool} {Q : Value × List Value → Shared → Prop} {vs : Array Value}
    (F : Fr h₀ L s.heap m) (X : K.In h₀) (e : K.lookup a = some ⟨.type "re.Pattern", none, .fields vs, #[]⟩) (h : Q (.builtin "re.Pattern.search", [.ref a]) s) : wpAny M A (getMethod (.ref a) "search" pl) Q E s :=
  get_search (F.keep _ _ (X _ _ e)) h
noncomputable def Srch (w : World) (A : Around) (s : Shared) (t : Tok) (Q : Value → Shared → Prop) (E : Value → Shared → Prop) (x : Addr) (c : Nat) : Prop :=
  wpAny (model PG w) A (call (.builtin "re.Pattern.search") [.ref x, .str (Tx [c]) t]) Q E s
set_option maxHeartbeats 8000000 in
theorem search_name {w : World} {A : Around} {s : Shared} {t : Tok} {c : Nat} {Q : Value → Shared → Prop} {E : Value → Shared → Prop} (hc : c ∈ [65, 66, 67, 68, 69, 70, 71, 97, 98, 99, 100, 101, 102, 103]) (X : (hd.heap_39 w.params).In s.heap) (h : XE s (· = .none) Q) :
    wpAny (model PG w) A (call (.builtin "re.Pattern.search") [.ref 138, .str (Tx [c]) t]) Q E s := by
  have key : ∀ c ∈ [65, 66, 67, 68, 69, 70, 71, 97, 98, 99, 100, 101, 102, 103], Srch w A s t Q E 138 c := by
    refine List.forall_mem_cons.mpr ⟨?_, List.forall_mem_cons.mpr ⟨?_, List.forall_mem_cons.mpr ⟨?_, List.forall_mem_cons.mpr ⟨?_, List.forall_mem_cons.mpr ⟨?_, List.forall_mem_cons.mpr ⟨?_, List.forall_mem_cons.mpr ⟨?_, List.forall_mem_cons.mpr ⟨?_, List.forall_mem_cons.mpr ⟨?_, List.forall_mem_cons.mpr ⟨?_, List.forall_mem_cons.mpr ⟨?_, List.forall_mem_cons.mpr ⟨?_, List.forall_mem_cons.mpr ⟨?_, List.forall_mem_cons.mpr ⟨?_, List.forall_mem_nil _⟩⟩⟩⟩⟩⟩⟩⟩⟩⟩⟩⟩⟩⟩
    all_goals (show wpAny _ _ _ _ _ _; x_run)
  exact key c hc
set_option maxHeartbeats 8000000 in
theorem search_value {w : World} {A : Around} {s : Shared} {t : Tok} {c : Nat} {Q : Value → Shared → Prop} {E : Value → Shared → Prop} (hc : c ∈ [97, 98, 99, 100, 101, 102, 103]) (X : (hd.heap_39 w.params).In s.heap) (h : XE s (· = .none) Q) :
    wpAny (model PG w) A (call (.builtin "re.Pattern.search") [.ref 143, .str (Tx [c]) t]) Q E s := by
  have key : ∀ c ∈ [97, 98, 99, 100, 101, 102, 103], Srch w A s t Q E 143 c := by
    refine List.forall_mem_cons.mpr ⟨?_, List.forall_mem_cons.mpr ⟨?_, List.forall_mem_cons.mpr ⟨?_, List.forall_mem_cons.mpr ⟨?_, List.forall_mem_cons.mpr ⟨?_, List.forall_mem_cons.mpr ⟨?_, List.forall_mem_cons.mpr ⟨?_, List.forall_mem_nil _⟩⟩⟩⟩⟩⟩⟩
    all_goals (show wpAny _ _ _ _ _ _; x_run)
  exact key c hc
section
variable {w : World} {A : Around} {s : Shared} {t : Tok} {c : Nat} {Q : Value → Shared → Prop} {E : Value → Shared → Prop} {h₀ : Heap} {L : Addr} {m : Str → Option Value} {news : List (Addr × Obj)}
theorem search_nameK (F : Fr h₀ L s.heap m) (N : News h₀ L s.heap news) (X : (hd.heap_39 w.params).In h₀) (hc : c ∈ [65, 66, 67, 68, 69, 70, 71, 97, 98, 99, 100, 101, 102, 103])
    (h : ∀ h' tk, Fr h₀ L h' m → News h₀ L h' news → Q .none { s with heap := h', toks := tk }) : wpAny (model PG w) A (call (.builtin "re.Pattern.search") [.ref 138, .str (Tx [c]) t]) Q E s :=
  search_name hc (X.keeps F.keep) ⟨fun v tk h' hv hk => by subst hv; exact h h' tk (F.keeps hk) (N.grown hk)⟩
theorem search_valueK (F : Fr h₀ L s.heap m) (N : News h₀ L s.heap news) (X : (hd.heap_39 w.params).In h₀) (hc : c ∈ [97, 98, 99, 100, 101, 102, 103])
    (h : ∀ h' tk, Fr h₀ L h' m → News h₀ L h' news → Q .none { s with heap := h', toks := tk }) : wpAny (model PG w) A (call (.builtin "re.Pattern.search") [.ref 143, .str (Tx [c]) t]) Q E s :=
  search_value hc (X.keeps F.keep) ⟨fun v tk h' hv hk => by subst hv; exact h h' tk (F.keeps hk) (N.grown hk)⟩
end
end Mine
end
section
open PySem PySem.W PyProof.Rows PySem.Calls
set_option maxRecDepth 100000
namespace Mine
noncomputable abbrev tupOf (vs : List Value) (n : Nat) : Obj := { cls := .type "tuple", data := .seq vs.toArray n }
/-- the items of a Headers: pairs of one letter each -/
inductive ItemsIn (news : List (Addr × Obj)) : List Value → List (Nat × Nat) → Prop
  | nil : ItemsIn news [] []
  | cons {q n a b ta tb vs ps} : (q, tupOf [.str (Tx [a]) ta, .str (Tx [b]) tb] n) ∈ news → ItemsIn news vs ps → ItemsIn news (.ref q :: vs) ((a, b) :: ps)
theorem ItemsIn.get {news : List (Addr × Obj)} {vs : List Value} {ps : List (Nat × Nat)} (h : ItemsIn news vs ps) {i : Nat} {a b : Nat} (e : ps[i]? = some (a, b)) :
    ∃ q n ta tb, vs[i]? = some (.ref q) ∧ (q, tupOf [.str (Tx [a]) ta, .str (Tx [b]) tb] n) ∈ news := by
  induction h generalizing i with
  | nil => simp at e
  | @cons q n a' b' ta tb vs ps hm _ ih =>
    cases i with
    | zero => cases e; exact ⟨q, n, ta, tb, rfl, hm⟩
    | succ i => exact ih (by simpa using e)
theorem ItemsIn.length {news : List (Addr × Obj)} {vs : List Value} {ps : List (Nat × Nat)} (h : ItemsIn news vs ps) : vs.length = ps.length := by
  induction h with
  | nil => rfl
  | cons _ _ ih => simp [ih]
theorem ItemsIn.mono {news news' : List (Addr × Obj)} {vs : List Value} {ps : List (Nat × Nat)} (h : ItemsIn news vs ps) (hs : ∀ p ∈ news, p ∈ news') : ItemsIn news' vs ps := by
  induction h with
  | nil => exact .nil
  | cons hm _ ih => exact .cons (hs _ hm) ih
theorem ItemsIn.snoc {news : List (Addr × Obj)} {vs : List Value} {ps : List (Nat × Nat)} {q n a b : Nat} {ta tb : Tok} (h : ItemsIn news vs ps) (hm : (q, tupOf [.str (Tx [a]) ta, .str (Tx [b]) tb] n) ∈ news) : ItemsIn news (vs ++ [.ref q]) (ps ++ [(a, b)]) := by
  induction h with
  | nil => exact .cons hm .nil
  | cons hm' _ ih => exact .cons hm' ih

theorem letGo_list {prog : Program} {w : World} {A : Around} {E : Value → Shared → Prop} {s : Shared} {target : Expr} {it : Addr} {v : Value} {l : Addr} {i : Nat} {Q : Unit → Shared → Prop} (hit : s.heap.IsListIter it l i) (h : Q () s) :
    wpAny (model prog w) A (letOwnedTupleGo target (.ref it) v) Q E s := by
  show (let G9 : Prop := _; G9)
  intro G9
  obtain ⟨o, ho, hc, hd⟩ := hit
  k_unfold
  unfold letOwnedTupleGo
  split
  · cases v with
    | ref a =>
      refine wpAny_bind (wpAny_load ho ?_)
      rw [hc, hd]
      show wpAny _ A (if (["enumerate", "zip", "dict_itemiterator", "dict_reverseitemiterator", "odict_iterator", "itertools.zip_longest", "itertools.pairwise"].contains "list_iterator" && _) = true then _ else _) Q E s
      rw [if_neg (by simp)]
      exact wpAny_pure h
    | _ => exact wpAny_pure h
  · cases v with
    | ref a =>
      refine wpAny_bind (wpAny_load ho ?_)
      rw [hc, hd]
      show wpAny _ A (if (["enumerate", "zip", "dict_itemiterator", "dict_reverseitemiterator", "odict_iterator", "itertools.zip_longest", "itertools.pairwise"].contains "list_iterator" && _) = true then _ else _) Q E s
      rw [if_neg (by simp)]
      exact wpAny_pure h
    | _ => exact wpAny_pure h
  · exact wpAny_pure h

noncomputable def PairPost (h₀ : Heap) (L : Addr) (k v : Str) (m₀ : Str → Option Value) (led : List (Addr × Obj)) (J : Prop) (s : Shared) (Q : Flow → Shared → Prop) (f : Flow) (s' : Shared) : Prop :=
  match f with
  | .brk => Q .next s'
  | .ret r => Q (.ret r) s'
  | _ => J ∧ ∃ h' tk' m', s' = { s with heap := h', toks := tk' } ∧ Fr h₀ L h' m' ∧ News h₀ L h' led ∧ ∀ z, z ≠ k → z ≠ v → m' z = m₀ z
section
variable {prog : Program} {w : World} {A : Around} {E : Value → Shared → Prop} {s : Shared} {env : Env} {h₀ : Heap} {m₀ : Str → Option Value} {news : List (Addr × Obj)} {body : List Stmt} {Q : Flow → Shared → Prop} {k v : Str} {pk pv pt : Pos} {x1 : Nat} {l : Addr} {nn : Nat} {vs : List Value} {ps : List (Nat × Nat)}
theorem loop_pairs (J : Nat → Prop) (hh : A.handled = none) (hk : env.kindOf k = some .local) (hv : env.kindOf v = some .local) (hp : (env.scope.kind == .class || (env.scope.kind == .module && env.locals != env.globals)) = false)
    (hl : (l, listOf vs.toArray nn) ∈ news) (hit : ItemsIn news vs ps) (F : Fr h₀ env.locals s.heap m₀) (N : News h₀ env.locals s.heap news) (hJ : J 0)
    (turn : ∀ i a b ta tb h tk I o, ps[i]? = some (a, b) → J i → Fr h₀ env.locals h (fun z => if z = v then some (.str (Tx [b]) tb) else if z = k then some (.str (Tx [a]) ta) else m₀ z) → News h₀ env.locals h ((I, o) :: news) →
      wpAny (model prog w) A (execs body env) (PairPost h₀ env.locals k v m₀ ((I, o) :: news) (J (i + 1)) s Q) (fun _ _ => False) { s with heap := h, toks := tk })
    (done : ∀ (u : Str → Option Value) h tk, J ps.length → Fr h₀ env.locals h (fun z => if z = v then u z else if z = k then u z else m₀ z) → News h₀ env.locals h news → Q .next { s with heap := h, toks := tk }) :
    wpAny (model prog w) A (pyIter (.ref l)) (fun it s₂ => codeAny (model prog w) A (.forLoop (.Tuple [.Name k pk, .Name v pv] x1 pt) it body [] env) (fun r s' => match r with | .ok f => Q f s' | .error e => cameBackBy (model prog w) A env E e s') s₂) E s := by
  have hol : s.heap.get? l = some (listOf vs.toArray nn) := (N _ hl).1
  have hls : s.heap.IsList l vs.toArray := ⟨_, hol, rfl, nn, rfl⟩
  refine wpAny_pyIter_list hls ?_
  generalize hI : s.heap.objs.size = I
  have hIl : l ≠ I := hI ▸ Nat.ne_of_lt (Heap.lt_size hol)
  have hIL : I ≠ env.locals := hI ▸ Nat.ne_of_gt F.ns.lt
  have hIn : ∀ p ∈ news, p.1 ≠ I := fun p hp => hI ▸ News.apart N p hp
  have hI0 : h₀.get? I = none := by
    cases q : h₀.get? I with
    | none => rfl
    | some o => exact absurd (Heap.lt_size (F.keep _ _ q)) (by rw [hI]; exact Nat.lt_irrefl _)
  have hlen := hit.length
  refine codeAny_forLoop_any (fun n s' => ∃ i h tk m₁ o, s' = { s with heap := h, toks := tk } ∧ n = vs.length + 1 - i ∧ i ≤ vs.length ∧ J i ∧ Fr h₀ env.locals h m₁ ∧ News h₀ env.locals h ((I, o) :: news) ∧ h.IsListIter I l i ∧ ∀ z, z ≠ k → z ≠ v → m₁ z = m₀ z) ?_ (vs.length + 1)
    ⟨0, _, s.toks, m₀, _, rfl, rfl, Nat.zero_le _, hJ, F.push _, hI ▸ News.push F N _, ⟨_, hI ▸ Heap.get?_push_size _ rfl, rfl, rfl⟩, fun _ _ _ => rfl⟩
  intro n s' r9
  show (let G9 : Prop := _; G9)
  intro G9
  obtain ⟨i, h, tk, m₁, o, rfl, rfl, hi, hJi, F₁, N₁, hiter, hm₁⟩ := r9
  k_unfold
  have hl₁ : h.IsList l vs.toArray := ⟨_, (N₁ _ (.tail _ hl)).1, rfl, nn, rfl⟩
  cases hx : vs[i]? with
  | none =>
    have hii : i = vs.length := Nat.le_antisymm hi (by simpa using hx)
    refine wpAny_pyNext_list_end hh hiter hl₁ (by simpa using hx) fun h₂ he => wpAny_execs_nil ?_
    subst hii
    have N₂ : News h₀ env.locals h₂ news := fun p hp => ⟨he _ _ (hIn p hp) (N₁ p (.tail _ hp)).1, (N₁ p (.tail _ hp)).2⟩
    have F₂ : Fr h₀ env.locals h₂ m₁ := by
      show (let G9 : Prop := _; G9)
      intro G9
      obtain ⟨oL, a1, a2, hoL, a3⟩ := F₁.ns
      k_unfold
      exact ⟨⟨oL, a1, a2, he _ _ hIL.symm hoL, a3⟩, fun b x e => he _ _ (fun q => by rw [q, hI0] at e; cases e) (F₁.keep b x e), F₁.above⟩
    have e : m₁ = fun z => if z = v then m₁ z else if z = k then m₁ z else m₀ z := by
      funext z
      by_cases h1 : z = v
      · simp [h1]
      · by_cases h2 : z = k
        · simp [h2]
        · simp [h1, h2, hm₁ z h2 h1]
    rw [e] at F₂
    exact done m₁ h₂ tk (hlen ▸ hJi) F₂ N₂
  | some x =>
    have hlt : i < vs.length := by
      rcases List.getElem?_eq_some_iff.mp hx with ⟨h1, _⟩; exact h1
    obtain ⟨⟨a, b⟩, hab⟩ : ∃ p, ps[i]? = some p := ⟨_, List.getElem?_eq_getElem (hlen ▸ hlt)⟩
    show (let G9 : Prop := _; G9)
    intro G9
    obtain ⟨q, n, ta, tb, hq, hmem⟩ := hit.get hab
    k_unfold
    rw [hx] at hq; cases hq
    refine wpAny_pyNext_list_item hiter hl₁ (by simpa using hx) fun h₂ hiter₂ hs₂ => ?_
    have F₂ := F₁.change hs₂ hIL hI0
    show (let G9 : Prop := _; G9)
    intro G9
    obtain ⟨o₂, ho₂, hc₂, hd₂⟩ := id hiter₂
    k_unfold
    have N₂ := N₁.setHead hIn hs₂ ho₂
    refine letGo_list hiter₂ ?_
    have ht : h₂.IsTuple q #[.str (Tx [a]) ta, .str (Tx [b]) tb] := ⟨_, (N₂ _ (.tail _ hmem)).1, rfl, n, rfl⟩
    refine kcp_assign hh ht hk hv hp F₂.ns fun h₃ tk₃ hn₃ hx₃ => ?_
    have e : (fun z => if z = v then some (Value.str (Tx [b]) tb) else if z = k then some (Value.str (Tx [a]) ta) else m₁ z) = fun z => if z = v then some (Value.str (Tx [b]) tb) else if z = k then some (Value.str (Tx [a]) ta) else m₀ z := by
      funext z
      by_cases h1 : z = v
      · simp [h1]
      · by_cases h2 : z = k
        · simp [h2]
        · simp [h1, h2, hm₁ z h2 h1]
    rw [e] at hn₃
    have F₃ : Fr h₀ env.locals h₃ _ := ⟨hn₃, fun b x e => hx₃ b x (Nat.ne_of_lt (Nat.lt_of_lt_of_le (Heap.lt_size e) F₂.above)) (F₂.keep b x e), F₂.above⟩
    have N₃ : News h₀ env.locals h₃ ((I, o₂) :: news) := fun p hp => ⟨hx₃ _ _ (N₂ p hp).2.1 (N₂ p hp).1, (N₂ p hp).2⟩
    refine wpAny_mono (turn i a b ta tb h₃ tk₃ I o₂ hab hJi F₃ N₃) (fun f s₄ hf => ?_) fun _ _ x => x.elim
    have fin : (J (i + 1) ∧ ∃ h' tk' m', s₄ = { s with heap := h', toks := tk' } ∧ Fr h₀ env.locals h' m' ∧ News h₀ env.locals h' ((I, o₂) :: news) ∧ ∀ z, z ≠ k → z ≠ v → m' z = m₀ z) →
        ∃ m, m < vs.length + 1 - i ∧ ∃ i h tk m₁ o, s₄ = { s with heap := h, toks := tk } ∧ m = vs.length + 1 - i ∧ i ≤ vs.length ∧ J i ∧ Fr h₀ env.locals h m₁ ∧ News h₀ env.locals h ((I, o) :: news) ∧ h.IsListIter I l i ∧ ∀ z, z ≠ k → z ≠ v → m₁ z = m₀ z := by
      rintro ⟨hJ', h', tk', m', rfl, F', N', hm'⟩
      exact ⟨vs.length + 1 - (i + 1), by omega, i + 1, h', tk', m', o₂, rfl, rfl, hlt, hJ', F', N', ⟨o₂, (N' _ (.head _)).1, hc₂, hd₂⟩, hm'⟩
    cases f with
    | next => exact fin hf
    | cont => exact fin hf
    | brk => exact hf
    | ret r => exact hf
end
end Mine
end
section
open PySem PySem.W PyProof.Rows PySem.Calls
set_option maxRecDepth 100000
namespace Mine
/-- the seven letters, small, and both cases -/
noncomputable abbrev L7 : List Nat := [97, 98, 99, 100, 101, 102, 103]
noncomputable abbrev L14 : List Nat := [65, 66, 67, 68, 69, 70, 71, 97, 98, 99, 100, 101, 102, 103]
noncomputable def lowN (c : Nat) : Nat := if c < 97 then c + 32 else c
theorem lowN_small {c : Nat} (h : c ∈ L7) : lowN c = c := by revert c; decide
theorem lowN_in {c : Nat} (h : c ∈ L14) : lowN c ∈ L7 := by revert c; decide
theorem L7_14 {c : Nat} (h : c ∈ L7) : c ∈ L14 := by revert c; decide
theorem lower_letter {c : Nat} (h : c ∈ L14) : Txt.lower (Tx [c]) = Tx [lowN c] := by
  revert c; decide +kernel
theorem upper_letter {c : Nat} (h : c ∈ L7) : Txt.upper (Tx [c]) = Tx [c - 32] := by
  revert c; decide +kernel
section
variable {prog : Program} {w : World} {A : Around} {E : Value → Shared → Prop} {s : Shared} {c : Nat} {t : Tok} {Q : Value → Shared → Prop}
theorem low_call (hc : c ∈ L14) (h : ∀ t' k, Q (.str (Tx [lowN c]) t') { s with toks := k }) : wpAny (model prog w) A (call (.builtin "str.lower") [.str (Tx [c]) t]) Q E s :=
  SC.lower (by rw [lower_letter hc]; rfl) (by rw [lower_letter hc]; exact h _ _)
theorem upp_call (hc : c ∈ L7) (h : ∀ t' k, Q (.str (Tx [c - 32]) t') { s with toks := k }) : wpAny (model prog w) A (call (.builtin "str.upper") [.str (Tx [c]) t]) Q E s :=
  SC.upper (by rw [upper_letter hc]; rfl) (by rw [upper_letter hc]; exact h _ _)
end
theorem Ct.use {w : World} {K : Frag} {p : Program} {loose : List Str} {mean : ExcName → Option Value} {mg mb : Str → Option Value} {fv : Value} {vs : List Value} {kw : List (Str × Value)} {d u : Nat} {news : List (Addr × Obj)} {R : Value → List (Addr × Obj) → Prop}
    (C : Ct w K p loose mean mg mb fv vs kw d u news R)
    {dp un : Nat} {gd : Option (List Code)} {cn : Str} {cs : Scope} {a : Addr} {ccd : Value} {cl : List (Str × Addr)} {outer : List Env} {A₀ : Around} {base h₀ : Heap} {L : Addr} {m : Str → Option Value} {s : Shared} {Q E : Value → Shared → Prop}
    (B : Below A₀ base outer h₀) (F : Fr h₀ L s.heap m) (X : K.In h₀) (N : News h₀ L s.heap news) (T : Top p loose mean mg mb h₀) (hk : cs.kind = .function) (hd : dp + d < recursionLimit) (hu : un + u < cLine)
    (h : ∀ v news' h' tk', R v news' → Fr h₀ L h' m → News h₀ L h' news' → Q v { s with heap := h', toks := tk' }) :
    wpAny (model PG w) (ktrTop dp un gd cn cs L a ccd cl outer) (call fv vs kw) Q E s := C _ _ _ _ _ _ _ _ _ _ _ _ _ _ _ _ _ B F X N T hk hd hu h
/-- a call of a method object, by the code of what it is bound to -/
theorem CtC.meth {w : World} {K : Frag} {p : Program} {loose : List Str} {mean : ExcName → Option Value} {mg mb : Str → Option Value} {fv self : Value} {qm : Addr} {vs : List Value} {kw : List (Str × Value)} {d u : Nat} {news : List (Addr × Obj)} {R : Value → List (Addr × Obj) → Prop}
    (C : CtC w K p loose mean mg mb fv (self :: vs) kw d u news R) (hm : (qm, methodObj fv self) ∈ news) : Ct w K p loose mean mg mb (.ref qm) vs kw d u news R :=
  fun _ _ _ _ _ _ _ _ _ _ _ _ _ _ _ _ _ B F X N T hk hd hu h => wpAny_call (method_call (N _ hm).1 (C _ _ _ _ _ _ _ _ _ _ _ _ _ _ _ _ _ B F X N T hk hd hu h))
theorem join_one {prog : Program} {w : World} {A : Around} {E : Value → Shared → Prop} {s : Shared} {h₀ : Heap} {L : Addr} {news : List (Addr × Obj)} {sep x : Str} {t t2 : Tok} {D : Addr} {n : Nat} {Q : Value → Shared → Prop}
    (N : News h₀ L s.heap news) (hm : (D, listOf (#[.str x t2] : Array Value) n) ∈ news) (hok : JoinOk sep [x] = true) (h : ∀ t' k, Q (.str x t') { s with toks := k }) :
    wpAny (model prog w) A (call (.builtin "str.join") [.str sep t, .ref D]) Q E s :=
  SC.join (l := [(x, t2)]) (texts := [x]) ⟨_, (N _ hm).1, rfl, n, rfl⟩ rfl hok h
end Mine
end
section
open PySem PySem.W PyProof.Rows PySem.Calls
set_option maxRecDepth 100000
namespace Mine
noncomputable abbrev emptyDict (n : Nat) : Obj := { cls := .type "dict", data := .dict #[] n }
theorem sub_dict : isSubtype (.type "dict") (.type "dict") = pure true := by rw [isSubtype_type]; kernel_rfl
section
variable {prog : Program} {w : World} {A : Around} {E : Value → Shared → Prop} {s : Shared}
theorem merge_empty {d a : Addr} {n1 n2 : Nat} {Q : Unit → Shared → Prop} (hd : s.heap.get? d = some (emptyDict n1)) {o : Obj} (ha : s.heap.get? a = some o) (hac : o.cls = .type "dict") (had : o.data = .dict #[] n2) (hne : (a == sysModules) = false) (h : Q () s) :
    wpAny (model prog w) A (mergeMapping d (.ref a) true) Q E s := by
  have hT : s.TypeIs (.ref a) "dict" := ⟨_, ha, hac⟩
  unfold mergeMapping
  refine wpAny_bind (wpAny_isInstance hT sub_dict ?_)
  simp only [if_true]
  refine wpAny_bind (wpAny_specialOf hT F.slot_dict_iter.lookup ?_)
  refine wpAny_bind (wpAny_pure ?_)
  show wpAny (model prog w) A (if (a == sysModules) = true then _ else _) Q E s
  rw [if_neg (by rw [hne]; exact Bool.false_ne_true)]
  refine wpAny_bind (wpAny_dictEntries hd rfl ?_)
  show wpAny (model prog w) A (dictEntries a >>= _) Q E s
  refine wpAny_bind (wpAny_dictEntries ha had ?_)
  refine wpAny_bind (wpAny_pure ?_)
  refine wpAny_bind (wpAny_dictEntries ha had ?_)
  refine wpAny_bind (wpAny_dictEpoch ha had ?_)
  exact wpAny_bind (wpAny_pure (wpAny_pure h))
theorem merged_one {f : Value} {x : Sem Value} {D n : Nat} {Q : Addr → Shared → Prop} {o : Obj} (hD : s.heap.get? D = some o) (hDc : o.cls = .type "dict") (hDd : o.data = .dict #[] n) (hne : (D == sysModules) = false)
    (hx : ∀ Q' : Value → Shared → Prop, Q' (.ref D) { s with heap := s.heap.push (emptyDict 0) } → wpAny (model prog w) A x Q' E { s with heap := s.heap.push (emptyDict 0) })
    (h : Q s.heap.objs.size { s with heap := s.heap.push (emptyDict 0) }) : wpAny (model prog w) A (mergedKeywords f [(none, x)]) Q E s := by
  unfold mergedKeywords
  refine wpAny_bind (wpAny_alloc ?_)
  refine wpAny_bind (wpAny_holding ?_)
  have hD' : ({ s with heap := s.heap.push (emptyDict 0) } : Shared).heap.get? D = some o := Heap.get?_push_of_some _ hD
  have hd' : ({ s with heap := s.heap.push (emptyDict 0) } : Shared).heap.get? s.heap.objs.size = some (emptyDict 0) := Heap.get?_push_size _ rfl
  refine wpAny_bind ?_
  rw [List.forIn_cons]
  refine wpAny_bind ?_
  refine wpAny_bind (wpAny_pure ?_)
  refine wpAny_bind (hx _ ?_)
  refine wpAny_bind (wpAny_onRaise (wpAny_holding ?_))
  refine wpAny_tryCatch (m := Sem.onRaise _ _) (wpAny_onRaise (merge_empty hd' hD' hDc hDd hne ?_))
  refine wpAny_pure ?_
  refine wpAny_pure ?_
  exact wpAny_pure (wpAny_pure h)
theorem keywordsIn_empty {f : Value} {d n : Nat} {Q : List (Str × Value) → Shared → Prop} (hd : s.heap.get? d = some (emptyDict n)) (h : Q [] s) : wpAny (model prog w) A (keywordsIn f d) Q E s := by
  unfold keywordsIn
  exact wpAny_bind (wpAny_dictEntries hd rfl (wpAny_bind (wpAny_pure (wpAny_pure h))))
/-- a call of a method object by places and ** of an empty dict -/
theorem callWith_kws {pos : Pos} {f : Value} {args : List (Bool × Sem Value)} {x : Sem Value} {vs : List Value} {D n : Nat} {k : Keeper} {Q : Value → Shared → Prop}
    (hp : args.any (·.1) = false) (hk : Looks (model prog w) s.heap (keeperOf f) k) {o : Obj} (hD : s.heap.get? D = some o) (hDc : o.cls = .type "dict") (hDd : o.data = .dict #[] n) (hne : (D == sysModules) = false)
    (ha : ∀ Q' : List Value → Shared → Prop, Q' vs s → wpAny (model prog w) A (spliced args) Q' E s)
    (hx : ∀ Q' : Value → Shared → Prop, Q' (.ref D) { s with heap := s.heap.push (emptyDict 0) } → wpAny (model prog w) A x Q' E { s with heap := s.heap.push (emptyDict 0) })
    (h : wpAny (model prog w) A (call f vs []) Q E { s with heap := s.heap.push (emptyDict 0) }) :
    wpAny (model prog w) A (callWith pos f [] args [(none, x)]) Q E s := by
  have hd' : ({ s with heap := s.heap.push (emptyDict 0) } : Shared).heap.get? s.heap.objs.size = some (emptyDict 0) := Heap.get?_push_size _ rfl
  have hal : wpAny (model prog w) A (evalArgs f true args [(none, x)]) (fun a s' => a = ⟨vs, []⟩ ∧ s' = { s with heap := s.heap.push (emptyDict 0) }) E s := by
    unfold evalArgs
    have body : wpAny (model prog w) A (do
        let d ← mergedKeywords f [(none, x)]
        let pos ← (pure vs : Sem (List Value))
        return (⟨pos, ← holding (.ref d :: pos) (keywordsIn f d)⟩ : Args)) (fun a s' => a = ⟨vs, []⟩ ∧ s' = { s with heap := s.heap.push (emptyDict 0) }) E s :=
      wpAny_bind (merged_one hD hDc hDd hne hx (wpAny_bind (wpAny_pure (wpAny_bind (wpAny_holding (keywordsIn_empty hd' (wpAny_pure ⟨rfl, rfl⟩)))))))
    cases args with
    | nil => exact wpAny_bind (wpAny_bind (ha _ (wpAny_pure (wpAny_holding body))))
    | cons y r =>
      obtain ⟨b, y⟩ := y
      simp only [List.any_cons, Bool.or_eq_false_iff] at hp
      obtain ⟨rfl, _⟩ := hp
      cases r with
      | nil =>
        refine wpAny_bind (m := spliced [(false, y)]) (ha _ ?_)
        exact wpAny_bind (wpAny_pure (wpAny_holding body))
      | cons z r =>
        refine wpAny_bind (m := spliced ((false, y) :: z :: r)) (ha _ ?_)
        exact wpAny_bind (wpAny_pure (wpAny_holding body))
  unfold callWith
  refine wpAny_bind (wpAny_holding (wpAny_mono hal (fun a s₁ h₁ => wpAny_bind (wpAny_standAt ?_)) fun _ _ x => x))
  obtain ⟨rfl, rfl⟩ := h₁
  refine wpAny_bind ((hk.keeps fun b o e => Heap.get?_push_of_some _ e).here ?_)
  have hst : (args.any (·.1) || [((none : Option Str), x)].any (·.1.isNone)) = true := by simp
  simp only [hst]
  have tail : ∀ {t : Sem Value}, wpAny (model prog w) A t Q E { s with heap := s.heap.push (emptyDict 0) } → wpAny (model prog w) A (t >>= fun r => holding [r] point >>= fun _ => pure r) Q E { s with heap := s.heap.push (emptyDict 0) } :=
    fun ht => wpAny_bind (wpAny_mono ht (fun r s₂ hr => wpAny_bind (wpAny_holding (wpAny_point (wpAny_pure hr)))) fun _ _ x => x)
  cases k with
  | frame => exact tail (by unfold callMarked; exact Calls.wpAny_keep h)
  | _ => exact tail (wpAny_operating h)
end
end Mine
end
section
open PySem PySem.W PyProof.Rows PySem.Calls
set_option pp.deepTerms false
set_option pp.maxSteps 3000
set_option maxRecDepth 100000
namespace Mine
local macro_rules | `(tactic| walk_at $s:str) => `(tactic| k_extra $s)
local macro_rules | `(tactic| k_room) => `(tactic| ktr_room)
local macro_rules | `(tactic| k_all) => `(tactic| first | assumption | ((repeat (rename (_ ∧ _) => h9; rcases h9 with ⟨_, _⟩)); exact ne_allLt (by assumption) (by omega)))
--@PARTS
section
theorem kw_C1 : True := by
  k_with_none
  k_with "sub" => ((repeat (refine List.forall_mem_cons.mpr ⟨by k_mem, ?_⟩)); (first | exact List.forall_mem_nil _ | (intro p hp; repeat (first | exact hp | apply List.Mem.tail))))
  k_with "enter" => (refine wpAny_call ?_; walk_at "enterC")
  k_with "enterC" => (k_dflt (refine' code_def ?q9k1 ?q9k2 ?q9k3 ?q9k4 ?q9k5 ?q9kA ?q9kF ?q9kK ?q9k6 ?q9k7 ?q9k8 ?q9k9 ?q9kB ?_ ?q9c2 ?q9c3 ?q9c4 ?q9c5; (case q9kA => exact rfl); (case q9kF => exact rfl); (case q9kK => assumption); (case q9k1 => k_asm); (case q9k2 => k_asm); (case q9k3 => k_asm); (case q9k4 => k_asm); (case q9k5 => k_asm); (case q9k6 => k_is); (case q9k7 => k_is); (case q9k8 => ktr_room); (case q9k9 => first | exact BindsTo.of_eq rfl | exact binds_K (by k_in) rfl (by k_is) rfl rfl rfl | (refine' kp_binds ?q9kx ?q9ke; (case q9kx => k_in); (case q9ke => exact fun _ => rfl)) | fail "enter: no rule for these arguments"); (case q9c5 => decide); (case q9kB => exact locs rfl); (case q9c2 => exact rfl); (case q9c3 => exact rfl); (case q9c4 => exact rfl); k_whole; intro g' L' h' FG' F' N' B' X' T'; (try dsimp only); (try k_lift B'); (try k_fold)))
  k_with "execs cons" => ((with_reducible refine wpAny_execs_cons ?_); (try dsimp only); k_fold)
  k_with "getMethod ref" => (k_dflt (refine' get_searchK ?q9k1 ?q9k2 ?q9k3 ?_; (case q9k1 => k_asm); (case q9k2 => k_asm); (case q9k3 => k_is); k_whole))
  k_with "call builtin:re.Pattern.search" => ((k_dflt (first | (refine' search_nameK ?q9k1 ?q9k2 ?q9k3 ?q9k4 ?_; (case q9k1 => k_asm); (case q9k2 => k_asm); (case q9k3 => k_asm); (case q9k4 => assumption); k_whole; intro h' tk' F' N') | (refine' search_valueK ?q9k1 ?q9k2 ?q9k3 ?q9k4 ?_; (case q9k1 => k_asm); (case q9k2 => k_asm); (case q9k3 => k_asm); (case q9k4 => assumption); k_whole; intro _ _ _ _))); (try (revert tk' h' F' N'; intro _ _ _ _)))
  trivial
section
variable {w : World} {p : Program} {loose : List Str} {mean : ExcName → Option Value} {mg mb : Str → Option Value} {x : Addr} {t : Tok} {c : Nat} {rest : List (Addr × Obj)}
set_option maxHeartbeats 8000000 in
theorem ct_conv_name (hc : c ∈ L14) :
    Ct w (hd.heap_39 w.params) p loose mean mg mb (.ref 173) [.ref x, .str (Tx [c]) t] [("name", .bool true)] 10 40 rest (fun v news' => v = .str (Tx [c]) t ∧ news' = rest) := by
  intro dp un gd cn cs a ccd cl outer A₀ base h₀ L m s Q E B F X N T hk hdp hun hret
  walk_at "enter"
  k_steps
  all_goals exact hret _ _ _ _ ⟨rfl, rfl⟩ (by k_asm) (by k_asm)
set_option maxHeartbeats 8000000 in
theorem ct_conv_value (hc : c ∈ L7) :
    Ct w (hd.heap_39 w.params) p loose mean mg mb (.ref 173) [.ref x, .str (Tx [c]) t] [("name", .bool false)] 10 40 rest (fun v news' => v = .str (Tx [c]) t ∧ news' = rest) := by
  intro dp un gd cn cs a ccd cl outer A₀ base h₀ L m s Q E B F X N T hk hdp hun hret
  walk_at "enter"
  k_steps
  all_goals exact hret _ _ _ _ ⟨rfl, rfl⟩ (by k_asm) (by k_asm)
end
end
section
theorem kw_C2 : True := by
  k_with_none
  k_with "sub" => ((repeat (refine List.forall_mem_cons.mpr ⟨by k_mem, ?_⟩)); (first | exact List.forall_mem_nil _ | (intro p hp; repeat (first | exact hp | apply List.Mem.tail))))
  k_with "enter" => (refine wpAny_call ?_; walk_at "enterC")
  k_with "enterC" => (k_dflt (refine' code_def ?q9k1 ?q9k2 ?q9k3 ?q9k4 ?q9k5 ?q9kA ?q9kF ?q9kK ?q9k6 ?q9k7 ?q9k8 ?q9k9 ?q9kB ?_ ?q9c2 ?q9c3 ?q9c4 ?q9c5; (case q9kA => exact rfl); (case q9kF => exact rfl); (case q9kK => assumption); (case q9k1 => k_asm); (case q9k2 => k_asm); (case q9k3 => k_asm); (case q9k4 => k_asm); (case q9k5 => k_asm); (case q9k6 => k_is); (case q9k7 => k_is); (case q9k8 => ktr_room); (case q9k9 => first | exact BindsTo.of_eq rfl | exact binds_K (by k_in) rfl (by k_is) rfl rfl rfl | (refine' kp_binds ?q9kx ?q9ke; (case q9kx => k_in); (case q9ke => exact fun _ => rfl)) | fail "enter: no rule for these arguments"); (case q9c5 => decide); (case q9kB => exact locs rfl); (case q9c2 => exact rfl); (case q9c3 => exact rfl); (case q9c4 => exact rfl); k_whole; intro g' L' h' FG' F' N' B' X' T'; (try dsimp only); (try k_lift B'); (try k_fold)))
  k_with "execs cons" => ((with_reducible refine wpAny_execs_cons ?_); (try dsimp only); k_fold)
  k_with "call builtin:str.lower" => (k_dflt (refine' low_call ?q9k1 ?_; (case q9k1 => first | assumption | exact L7_14 (by assumption)); k_whole; intro _ _))
  k_with "call builtin:str.upper" => (k_dflt (refine' upp_call ?q9k1 ?_; (case q9k1 => assumption); k_whole; intro _ _))
  k_with "call ref" => ((try k_fold); k_dflt (refine' Ct.use (ct_conv_name ?q9hc) ?q9B ?q9F ?q9X ?q9N ?q9T ?q9hk ?q9hd ?q9hu ?_; (case q9hc => assumption); (case q9B => k_asm); (case q9F => k_asm); (case q9X => k_asm); (case q9N => k_asm); (case q9T => k_asm); (case q9hk => exact rfl); (case q9hd => ktr_room); (case q9hu => ktr_units); k_whole; intro _ _ _ _ r9 _ _; obtain ⟨rfl, rfl⟩ := r9))
  k_with "call ref" => ((try k_fold); k_dflt (refine' Ct.use (ct_conv_value ?q9hc) ?q9B ?q9F ?q9X ?q9N ?q9T ?q9hk ?q9hd ?q9hu ?_; (case q9hc => assumption); (case q9B => k_asm); (case q9F => k_asm); (case q9X => k_asm); (case q9N => k_asm); (case q9T => k_asm); (case q9hk => exact rfl); (case q9hd => ktr_room); (case q9hu => ktr_units); k_whole; intro _ _ _ _ r9 _ _; obtain ⟨rfl, rfl⟩ := r9))
  trivial
theorem find_at {α : Type} {f : α → Bool} : ∀ {l : List α} {i : Nat} {x : α}, (∀ q ∈ l.take i, f q = false) → l[i]? = some x → f x = true → l.find? f = some x
  | [], _, _, _, h, _ => by simp at h
  | y :: l, 0, x, _, h, e => by cases h; simp [e]
  | y :: l, i + 1, x, hn, h, e => by
    rw [List.find?_cons, hn y (by simp)]
    exact find_at (i := i) (fun q hq => hn q (by rw [List.take_succ_cons]; exact List.mem_cons_of_mem _ hq)) (by simpa using h) e
theorem find_no {α : Type} {f : α → Bool} {l : List α} (h : ∀ q ∈ l, f q = false) : l.find? f = none := by
  rw [List.find?_eq_none]; intro q hq; rw [h q hq]; decide
theorem tx_eq {a b : Nat} (h : (Tx [a] == Tx [b]) = true) : a = b := by
  have := eq_of_beq h
  simpa [Tx] using this
theorem tx_ne {a b : Nat} (h : (Tx [a] == Tx [b]) = false) : a ≠ b := by
  rintro rfl
  simp at h
section
variable {w : World} {p : Program} {loose : List Str} {mean : ExcName → Option Value} {mg mb : Str → Option Value} {x dx l : Addr} {hs : Int} {ks t : Tok} {nd nl : Nat} {vs : List Value} {ps : List (Nat × Nat)} {c : Nat} {rest : List (Addr × Obj)}
set_option maxHeartbeats 8000000 in
theorem ctc_get (hc : c ∈ L7) (hit : ItemsIn rest vs ps) (hps : ∀ q ∈ ps, q.1 ∈ L14) :
    CtC w (hd.heap_39 w.params) p loose mean mg mb (.ref 221) [.ref x, .str (Tx [c]) t] [] 20 60 ((x, instObj 274 dx) :: (dx, dictOf [⟨hs, .str "_headers" ks, .ref l⟩] nd) :: (l, listOf vs.toArray nl) :: rest)
      (fun v news' => news' = ((x, instObj 274 dx) :: (dx, dictOf [⟨hs, .str "_headers" ks, .ref l⟩] nd) :: (l, listOf vs.toArray nl) :: rest) ∧
        match ps.find? (fun q => lowN q.1 == c) with | some q => ∃ t', v = .str (Tx [q.2]) t' | none => v = .none) := by
  intro dp un gd cn cs a ccd cl outer A₀ base h₀ L m s Q E B F X N T hk hdp hun hret
  have hc14 := L7_14 hc
  have hcl := lowN_small hc
  have hlow := lowN_in hc14
  have hlow14 := L7_14 hlow
  walk_at "enterC"
  k_steps
  refine wpAny_For ?_
  k_steps
  rename Fr _ _ _ _ => Fa
  rename News _ _ _ _ => Na
  refine loop_pairs (J := fun i => ∀ q ∈ ps.take i, lowN q.1 ≠ c) rfl rfl rfl rfl (List.Mem.tail _ (List.Mem.tail _ (List.Mem.head _))) (hit.mono fun p hp => List.Mem.tail _ (List.Mem.tail _ (List.Mem.tail _ hp))) Fa Na (fun _ h => nomatch h) ?turn ?done
  case turn =>
    intro i a1 b1 ta tb h tk I o hab hJ F1 N1
    have ha14 : a1 ∈ L14 := hps _ (List.mem_of_getElem? hab)
    clear Fa Na
    k_steps
    all_goals (dsimp only [PairPost])
    · rename _ = true => he
      have he' := tx_eq he
      k_steps
      refine hret _ _ _ _ ⟨rfl, ?_⟩ (by k_asm) (cb_drop (by assumption) (fun _ hp => List.Mem.tail _ hp))
      rw [find_at (f := fun (q : Nat × Nat) => lowN q.1 == c) (i := i) (x := (a1, b1)) (fun q hq => by simpa using hJ q hq) hab (by simp [he', hcl])]
      exact ⟨_, rfl⟩
    · rename _ = false => he
      have he' := tx_ne he
      refine ⟨fun q hq => ?_, _, _, _, rfl, F1, N1, fun z h1 h2 => by simp [h1, h2]⟩
      rw [List.take_add_one, hab] at hq
      rcases List.mem_append.mp hq with hq | hq
      · exact hJ q hq
      · simp at hq; subst hq; rw [hcl] at he'; exact he'
  case done =>
    intro u h tk hJ F1 N1
    clear Fa Na
    k_steps
    refine hret _ _ _ _ ⟨rfl, ?_⟩ (by k_asm) (by assumption)
    rw [List.take_length] at hJ
    rw [find_no (f := fun (q : Nat × Nat) => lowN q.1 == c) (fun q hq => by simpa using hJ q hq)]
theorem ct_get (hc : c ∈ L7) (hit : ItemsIn rest vs ps) (hps : ∀ q ∈ ps, q.1 ∈ L14) :
    Ct w (hd.heap_39 w.params) p loose mean mg mb (.ref 221) [.ref x, .str (Tx [c]) t] [] 20 60 ((x, instObj 274 dx) :: (dx, dictOf [⟨hs, .str "_headers" ks, .ref l⟩] nd) :: (l, listOf vs.toArray nl) :: rest)
      (fun v news' => news' = ((x, instObj 274 dx) :: (dx, dictOf [⟨hs, .str "_headers" ks, .ref l⟩] nd) :: (l, listOf vs.toArray nl) :: rest) ∧
        match ps.find? (fun q => lowN q.1 == c) with | some q => ∃ t', v = .str (Tx [q.2]) t' | none => v = .none) := (ctc_get hc hit hps).toCt
end
end
section
theorem kw_C3 : True := by
  k_with_none
  k_with "sub" => ((repeat (refine List.forall_mem_cons.mpr ⟨by k_mem, ?_⟩)); (first | exact List.forall_mem_nil _ | (intro p hp; repeat (first | exact hp | apply List.Mem.tail))))
  k_with "enter" => (refine wpAny_call ?_; walk_at "enterC")
  k_with "enterC" => (k_dflt (refine' code_def ?q9k1 ?q9k2 ?q9k3 ?q9k4 ?q9k5 ?q9kA ?q9kF ?q9kK ?q9k6 ?q9k7 ?q9k8 ?q9k9 ?q9kB ?_ ?q9c2 ?q9c3 ?q9c4 ?q9c5; (case q9kA => exact rfl); (case q9kF => exact rfl); (case q9kK => assumption); (case q9k1 => k_asm); (case q9k2 => k_asm); (case q9k3 => k_asm); (case q9k4 => k_asm); (case q9k5 => k_asm); (case q9k6 => k_is); (case q9k7 => k_is); (case q9k8 => ktr_room); (case q9k9 => first | exact BindsTo.of_eq rfl | exact binds_K (by k_in) rfl (by k_is) rfl rfl rfl | (refine' kp_binds ?q9kx ?q9ke; (case q9kx => k_in); (case q9ke => exact fun _ => rfl)) | fail "enter: no rule for these arguments"); (case q9c5 => decide); (case q9kB => exact locs rfl); (case q9c2 => exact rfl); (case q9c3 => exact rfl); (case q9c4 => exact rfl); k_whole; intro g' L' h' FG' F' N' B' X' T'; (try dsimp only); (try k_lift B'); (try k_fold)))
  k_with "execs cons" => ((with_reducible refine wpAny_execs_cons ?_); (try dsimp only); k_fold)
  k_with "call builtin:str.lower" => (k_dflt (refine' low_call ?q9k1 ?_; (case q9k1 => first | assumption | exact L7_14 (by assumption)); k_whole; intro _ _))
  k_with "call builtin:str.upper" => (k_dflt (refine' upp_call ?q9k1 ?_; (case q9k1 => assumption); k_whole; intro _ _))
  k_with "call ref" => ((try k_fold); k_dflt (refine' Ct.use (ct_conv_name ?q9hc) ?q9B ?q9F ?q9X ?q9N ?q9T ?q9hk ?q9hd ?q9hu ?_; (case q9hc => assumption); (case q9B => k_asm); (case q9F => k_asm); (case q9X => k_asm); (case q9N => k_asm); (case q9T => k_asm); (case q9hk => exact rfl); (case q9hd => ktr_room); (case q9hu => ktr_units); k_whole; intro _ _ _ _ r9 _ _; obtain ⟨rfl, rfl⟩ := r9))
  k_with "call ref" => ((try k_fold); k_dflt (refine' Ct.use (ct_conv_value ?q9hc) ?q9B ?q9F ?q9X ?q9N ?q9T ?q9hk ?q9hd ?q9hu ?_; (case q9hc => assumption); (case q9B => k_asm); (case q9F => k_asm); (case q9X => k_asm); (case q9N => k_asm); (case q9T => k_asm); (case q9hk => exact rfl); (case q9hd => ktr_room); (case q9hu => ktr_units); k_whole; intro _ _ _ _ r9 _ _; obtain ⟨rfl, rfl⟩ := r9))
  k_with "call ref" => ((try k_fold); k_dflt (refine' Ct.use (ct_get ?q9hc ?q9hi ?q9hp) ?q9B ?q9F ?q9X ?q9N ?q9T ?q9hk ?q9hd ?q9hu ?_; (case q9N => k_asm); (case q9hc => assumption); (case q9hi => assumption); (case q9hp => assumption); (case q9B => k_asm); (case q9F => k_asm); (case q9X => k_asm); (case q9T => k_asm); (case q9hk => exact rfl); (case q9hd => ktr_room); (case q9hu => ktr_units); k_whole; intro _ _ _ _ r9 _ _; obtain ⟨rfl, _⟩ := r9))
  trivial
section
variable {w : World} {p : Program} {loose : List Str} {mean : ExcName → Option Value} {mg mb : Str → Option Value} {x dx l : Addr} {hs : Int} {ks t : Tok} {nd nl : Nat} {vs : List Value} {ps : List (Nat × Nat)} {c : Nat} {rest : List (Addr × Obj)}
set_option maxHeartbeats 8000000 in
theorem ct_contains (hc : c ∈ L7) (hit : ItemsIn rest vs ps) (hps : ∀ q ∈ ps, q.1 ∈ L14) :
    Ct w (hd.heap_39 w.params) p loose mean mg mb (.ref 206) [.ref x, .str (Tx [c]) t] [] 24 72 ((x, instObj 274 dx) :: (dx, dictOf [⟨hs, .str "_headers" ks, .ref l⟩] nd) :: (l, listOf vs.toArray nl) :: rest)
      (fun v news' => news' = ((x, instObj 274 dx) :: (dx, dictOf [⟨hs, .str "_headers" ks, .ref l⟩] nd) :: (l, listOf vs.toArray nl) :: rest) ∧
        v = .bool (ps.find? (fun q => lowN q.1 == c)).isSome) := by
  intro dp un gd cn cs a ccd cl outer A₀ base h₀ L m s Q E B F X N T hk hdp hun hret
  walk_at "enter"
  k_steps
  rename_i v9 h9 tk9 F9 e2 N9
  cases hf : List.find? (fun (q : Nat × Nat) => lowN q.1 == c) ps with
  | none =>
    rw [hf] at e2
    dsimp only at e2
    subst e2
    k_steps
    exact hret _ _ _ _ ⟨rfl, by rw [hf]; rfl⟩ (by k_asm) (by k_asm)
  | some q =>
    rw [hf] at e2
    obtain ⟨t', e2⟩ := e2
    subst e2
    k_steps
    exact hret _ _ _ _ ⟨rfl, by rw [hf]; rfl⟩ (by k_asm) (by k_asm)
set_option maxHeartbeats 8000000 in
theorem ct_items (hit : ItemsIn rest vs ps) (hlen : ps.length ≤ 100) :
    Ct w (hd.heap_39 w.params) p loose mean mg mb (.ref 238) [.ref x] [] 24 72 ((x, instObj 274 dx) :: (dx, dictOf [⟨hs, .str "_headers" ks, .ref l⟩] nd) :: (l, listOf vs.toArray nl) :: rest)
      (fun v news' => ∃ D n, v = .ref D ∧ news' = (D, listOf vs.toArray n) :: ((x, instObj 274 dx) :: (dx, dictOf [⟨hs, .str "_headers" ks, .ref l⟩] nd) :: (l, listOf vs.toArray nl) :: rest)) := by
  intro dp un gd cn cs a ccd cl outer A₀ base h₀ L m s Q E B F X N T hk hdp hun hret
  walk_at "enter"
  k_steps
  have hl9 : kms_pick vs none none = vs := by unfold kms_pick kms_lo kms_hi; simp
  have hz9 : vs.toArray.size ≤ sizeLine := by rw [List.size_toArray, hit.length, sizeLine_eq]; omega
  k_dflt (refine' kms_slice_lit ?z1 ?z2 ?z3 ?z4 ?z5 hl9 ?_ ?z6 ?z7 hz9; (case z1 => k_asm); (case z2 => k_asm); (case z3 => kmk_list); (case z4 => kmk_part); (case z5 => kmk_part); (case z6 => with_unfolding_all rfl); (case z7 => kmk_pure))
  intro D h' F' N' l1
  k_steps
  exact hret _ _ _ _ ⟨D, 0, rfl, rfl⟩ (by k_asm) (by k_asm)
end
end
section
theorem kw_C4 : True := by
  k_with_none
  k_with "sub" => ((repeat (refine List.forall_mem_cons.mpr ⟨by k_mem, ?_⟩)); (first | exact List.forall_mem_nil _ | (intro p hp; repeat (first | exact hp | apply List.Mem.tail))))
  k_with "enter" => (refine wpAny_call ?_; walk_at "enterC")
  k_with "enterC" => (k_dflt (refine' code_def ?q9k1 ?q9k2 ?q9k3 ?q9k4 ?q9k5 ?q9kA ?q9kF ?q9kK ?q9k6 ?q9k7 ?q9k8 ?q9k9 ?q9kB ?_ ?q9c2 ?q9c3 ?q9c4 ?q9c5; (case q9kA => exact rfl); (case q9kF => exact rfl); (case q9kK => assumption); (case q9k1 => k_asm); (case q9k2 => k_asm); (case q9k3 => k_asm); (case q9k4 => k_asm); (case q9k5 => k_asm); (case q9k6 => k_is); (case q9k7 => k_is); (case q9k8 => ktr_room); (case q9k9 => first | exact BindsTo.of_eq rfl | exact binds_K (by k_in) rfl (by k_is) rfl rfl rfl | (refine' kp_binds ?q9kx ?q9ke; (case q9kx => k_in); (case q9ke => exact fun _ => rfl)) | fail "enter: no rule for these arguments"); (case q9c5 => decide); (case q9kB => exact locs rfl); (case q9c2 => exact rfl); (case q9c3 => exact rfl); (case q9c4 => exact rfl); k_whole; intro g' L' h' FG' F' N' B' X' T'; (try dsimp only); (try k_lift B'); (try k_fold)))
  k_with "execs cons" => ((with_reducible refine wpAny_execs_cons ?_); (try dsimp only); k_fold)
  k_with "call builtin:str.lower" => (k_dflt (refine' low_call ?q9k1 ?_; (case q9k1 => first | assumption | exact L7_14 (by assumption)); k_whole; intro _ _))
  k_with "call builtin:str.upper" => (k_dflt (refine' upp_call ?q9k1 ?_; (case q9k1 => assumption); k_whole; intro _ _))
  k_with "call ref" => ((try k_fold); k_dflt (refine' Ct.use (ct_conv_name ?q9hc) ?q9B ?q9F ?q9X ?q9N ?q9T ?q9hk ?q9hd ?q9hu ?_; (case q9hc => assumption); (case q9B => k_asm); (case q9F => k_asm); (case q9X => k_asm); (case q9N => k_asm); (case q9T => k_asm); (case q9hk => exact rfl); (case q9hd => ktr_room); (case q9hu => ktr_units); k_whole; intro _ _ _ _ r9 _ _; obtain ⟨rfl, rfl⟩ := r9))
  k_with "call ref" => ((try k_fold); k_dflt (refine' Ct.use (ct_conv_value ?q9hc) ?q9B ?q9F ?q9X ?q9N ?q9T ?q9hk ?q9hd ?q9hu ?_; (case q9hc => assumption); (case q9B => k_asm); (case q9F => k_asm); (case q9X => k_asm); (case q9N => k_asm); (case q9T => k_asm); (case q9hk => exact rfl); (case q9hd => ktr_room); (case q9hu => ktr_units); k_whole; intro _ _ _ _ r9 _ _; obtain ⟨rfl, rfl⟩ := r9))
  k_with "call ref" => ((try k_fold); k_dflt (refine' Ct.use (ct_get ?q9hc ?q9hi ?q9hp) ?q9B ?q9F ?q9X ?q9N ?q9T ?q9hk ?q9hd ?q9hu ?_; (case q9N => k_asm); (case q9hc => assumption); (case q9hi => assumption); (case q9hp => assumption); (case q9B => k_asm); (case q9F => k_asm); (case q9X => k_asm); (case q9T => k_asm); (case q9hk => exact rfl); (case q9hd => ktr_room); (case q9hu => ktr_units); k_whole; intro _ _ _ _ r9 _ _; obtain ⟨rfl, _⟩ := r9))
  trivial
theorem news_rot3 {h₀ h : Heap} {L : Addr} {a b c : Addr × Obj} {r : List (Addr × Obj)} (N : News h₀ L h (c :: a :: b :: r)) : News h₀ L h (a :: b :: c :: r) := by
  intro p hp
  refine N p ?_
  simp only [List.mem_cons] at hp ⊢
  rcases hp with hp | hp | hp | hp <;> simp [hp]
section
variable {w : World} {p : Program} {loose : List Str} {mean : ExcName → Option Value} {mg mb : Str → Option Value} {x dx l : Addr} {hs : Int} {ks t : Tok} {nd nl : Nat} {vs : List Value} {ps : List (Nat × Nat)} {c : Nat} {rest : List (Addr × Obj)}
set_option maxHeartbeats 8000000 in
theorem ct_new :
    Ct w (hd.heap_39 w.params) p loose mean mg mb (.ref 274) [] [] 24 72 rest
      (fun v news' => ∃ x dx l hs ks nd nl, v = .ref x ∧ news' = ((x, instObj 274 dx) :: (dx, dictOf [⟨hs, .str "_headers" ks, .ref l⟩] nd) :: (l, listOf (#[] : Array Value) nl) :: rest) ∧ @LT.lt Nat _ dx x ∧ @LT.lt Nat _ x l ∧ ∀ p ∈ rest, p.1 < dx) := by
  intro dp un gd cn cs a ccd cl outer A₀ base h₀ L m s Q E B F X N T hk hdp hun hret
  show (let G9 : Prop := _; G9)
  intro G9
  obtain ⟨kd, nms, g1, g2, g3⟩ := cs
  k_unfold
  dsimp only at hk
  subst hk
  k_steps
  refine wpAny_For ?_
  k_steps
  rename Fr _ _ _ _ => Fa
  rename News _ _ _ _ => Na
  refine loop_pairs (vs := []) (ps := []) (J := fun _ => True) rfl rfl rfl rfl (by k_mem) .nil Fa Na trivial (fun i a b ta tb h tk I o e => by simp at e) ?done
  intro u h tk _ F1 N1
  clear Fa Na
  k_steps
  rename News _ _ _ _ => N5
  refine hret _ _ _ _ ⟨_, _, _, _, _, _, _, rfl, rfl, ?_, ?_, ?_⟩ (by k_asm) (news_rot3 N5)
  · refine ltN ?_; omega
  · refine ltN ?_; omega
  · assumption
end
end
section
theorem kw_C5 : True := by
  k_with_none
  k_with "sub" => ((repeat (refine List.forall_mem_cons.mpr ⟨by k_mem, ?_⟩)); (first | exact List.forall_mem_nil _ | (intro p hp; repeat (first | exact hp | apply List.Mem.tail))))
  k_with "enter" => (refine wpAny_call ?_; walk_at "enterC")
  k_with "enterC" => (k_dflt (refine' code_def ?q9k1 ?q9k2 ?q9k3 ?q9k4 ?q9k5 ?q9kA ?q9kF ?q9kK ?q9k6 ?q9k7 ?q9k8 ?q9k9 ?q9kB ?_ ?q9c2 ?q9c3 ?q9c4 ?q9c5; (case q9kA => exact rfl); (case q9kF => exact rfl); (case q9kK => assumption); (case q9k1 => k_asm); (case q9k2 => k_asm); (case q9k3 => k_asm); (case q9k4 => k_asm); (case q9k5 => k_asm); (case q9k6 => k_is); (case q9k7 => k_is); (case q9k8 => ktr_room); (case q9k9 => first | exact BindsTo.of_eq rfl | exact binds_K (by k_in) rfl (by k_is) rfl rfl rfl | (refine' kp_binds ?q9kx ?q9ke; (case q9kx => k_in); (case q9ke => exact fun _ => rfl)) | fail "enter: no rule for these arguments"); (case q9c5 => decide); (case q9kB => exact locs rfl); (case q9c2 => exact rfl); (case q9c3 => exact rfl); (case q9c4 => exact rfl); k_whole; intro g' L' h' FG' F' N' B' X' T'; (try dsimp only); (try k_lift B'); (try k_fold)))
  k_with "execs cons" => ((with_reducible refine wpAny_execs_cons ?_); (try dsimp only); k_fold)
  k_with "call builtin:str.lower" => (k_dflt (refine' low_call ?q9k1 ?_; (case q9k1 => first | assumption | exact L7_14 (by assumption)); k_whole; intro _ _))
  k_with "call builtin:str.upper" => (k_dflt (refine' upp_call ?q9k1 ?_; (case q9k1 => assumption); k_whole; intro _ _))
  k_with "call ref" => ((try k_fold); k_dflt (refine' Ct.use (ct_conv_name ?q9hc) ?q9B ?q9F ?q9X ?q9N ?q9T ?q9hk ?q9hd ?q9hu ?_; (case q9hc => assumption); (case q9B => k_asm); (case q9F => k_asm); (case q9X => k_asm); (case q9N => k_asm); (case q9T => k_asm); (case q9hk => exact rfl); (case q9hd => ktr_room); (case q9hu => ktr_units); k_whole; intro _ _ _ _ r9 _ _; obtain ⟨rfl, rfl⟩ := r9))
  k_with "call ref" => ((try k_fold); k_dflt (refine' Ct.use (ct_conv_value ?q9hc) ?q9B ?q9F ?q9X ?q9N ?q9T ?q9hk ?q9hd ?q9hu ?_; (case q9hc => assumption); (case q9B => k_asm); (case q9F => k_asm); (case q9X => k_asm); (case q9N => k_asm); (case q9T => k_asm); (case q9hk => exact rfl); (case q9hd => ktr_room); (case q9hu => ktr_units); k_whole; intro _ _ _ _ r9 _ _; obtain ⟨rfl, rfl⟩ := r9))
  k_with "call ref" => ((try k_fold); k_dflt (refine' Ct.use (ct_get ?q9hc ?q9hi ?q9hp) ?q9B ?q9F ?q9X ?q9N ?q9T ?q9hk ?q9hd ?q9hu ?_; (case q9N => k_asm); (case q9hc => assumption); (case q9hi => assumption); (case q9hp => assumption); (case q9B => k_asm); (case q9F => k_asm); (case q9X => k_asm); (case q9T => k_asm); (case q9hk => exact rfl); (case q9hd => ktr_room); (case q9hu => ktr_units); k_whole; intro _ _ _ _ r9 _ _; obtain ⟨rfl, _⟩ := r9))
  k_with "call builtin:str.join" => (k_dflt (refine' join_one ?q9z1 ?q9z2 ?q9z3 ?_; (case q9z1 => k_asm); (case q9z2 => k_mem); (case q9z3 => exact rfl); k_whole; intro _ _))
  trivial
theorem news_rot4 {h₀ h : Heap} {L : Addr} {a b c d : Addr × Obj} {r : List (Addr × Obj)} (N : News h₀ L h (d :: a :: b :: c :: r)) : News h₀ L h (a :: b :: c :: d :: r) := by
  intro p hp
  refine N p ?_
  simp only [List.mem_cons] at hp ⊢
  rcases hp with hp | hp | hp | hp | hp <;> simp [hp]
theorem allLt_mem {d : Nat} : ∀ {l : List (Addr × Obj)}, AllLt d l → ∀ p ∈ l, p.1 < d
  | [], _, _, h => nomatch h
  | q :: r, h, p, hp => by
    rcases List.mem_cons.mp hp with rfl | hp
    · exact h.1
    · exact allLt_mem h.2 p hp
theorem news_drop2 {h₀ h : Heap} {L : Addr} {a b : Addr × Obj} {r : List (Addr × Obj)} (N : News h₀ L h (a :: b :: r)) : News h₀ L h (a :: r) := by
  intro p hp
  refine N p ?_
  simp only [List.mem_cons] at hp ⊢
  rcases hp with hp | hp <;> simp [hp]
section
variable {w : World} {p : Program} {loose : List Str} {mean : ExcName → Option Value} {mg mb : Str → Option Value} {x dx l : Addr} {hs : Int} {ks t t2 : Tok} {nd nl : Nat} {vs : List Value} {ps : List (Nat × Nat)} {k v : Nat} {rest : List (Addr × Obj)}
set_option maxHeartbeats 8000000 in
theorem ct_add (hk14 : k ∈ L14) (hv7 : v ∈ L7) (hne : @Ne Nat x dx ∧ @Ne Nat x l ∧ @Ne Nat dx l) (hrest : ∀ p ∈ rest, p.1 ≠ l) (hlen : vs.length ≤ 1000) :
    Ct w (hd.heap_39 w.params) p loose mean mg mb (.ref 271) [.ref x, .str (Tx [k]) t, .str (Tx [v]) t2] [] 24 72 ((x, instObj 274 dx) :: (dx, dictOf [⟨hs, .str "_headers" ks, .ref l⟩] nd) :: (l, listOf vs.toArray nl) :: rest)
      (fun r news' => r = .none ∧ ∃ q n ta tb nl', news' = ((x, instObj 274 dx) :: (dx, dictOf [⟨hs, .str "_headers" ks, .ref l⟩] nd) :: (l, listOf (vs ++ [Value.ref q]).toArray nl') :: (q, tupOf [.str (Tx [k]) ta, .str (Tx [v]) tb] n) :: rest) ∧ @LT.lt Nat _ x q ∧ @LT.lt Nat _ dx q ∧ @LT.lt Nat _ l q ∧ ∀ p ∈ rest, p.1 < q) := by
  intro dp un gd cn cs a ccd cl outer A₀ base h₀ L m s Q E B F X N T hk hdp hun hret
  show (let G9 : Prop := _; G9)
  intro G9
  obtain ⟨kd, nms, g1, g2, g3⟩ := cs
  k_unfold
  dsimp only at hk
  subst hk
  have hv14 := L7_14 hv7
  k_steps
  rename News _ _ _ _ => N5
  have N6 := news_drop2 N5
  clear N5
  k_dflt (refine' append_K ?k1 ?k2 ?k3 ?_ ?z; (case k1 => k_asm); (case k2 => k_asm); (case k3 => k_upd); (case z => (rw [List.size_toArray, sizeLine_eq]; omega)); k_whole)
  intro h' F' N'
  k_steps
  rename News _ _ _ _ => N7
  simp only [List.push_toArray] at N7
  refine hret _ _ _ _ ⟨rfl, _, _, _, _, _, rfl, ?_, ?_, ?_, ?_⟩ (by k_asm) (news_rot4 (news_drop2 (news_drop2 N7)))
  · refine ltN ?_; omega
  · refine ltN ?_; omega
  · refine ltN ?_; omega
  · exact allLt_mem (by grind)
end
end
section
theorem kw_C6 : True := by
  k_with_none
  k_with "sub" => ((repeat (refine List.forall_mem_cons.mpr ⟨by k_mem, ?_⟩)); (first | exact List.forall_mem_nil _ | (intro p hp; repeat (first | exact hp | apply List.Mem.tail))))
  k_with "enter" => (refine wpAny_call ?_; walk_at "enterC")
  k_with "enterC" => (k_dflt (refine' code_def ?q9k1 ?q9k2 ?q9k3 ?q9k4 ?q9k5 ?q9kA ?q9kF ?q9kK ?q9k6 ?q9k7 ?q9k8 ?q9k9 ?q9kB ?_ ?q9c2 ?q9c3 ?q9c4 ?q9c5; (case q9kA => exact rfl); (case q9kF => exact rfl); (case q9kK => assumption); (case q9k1 => k_asm); (case q9k2 => k_asm); (case q9k3 => k_asm); (case q9k4 => k_asm); (case q9k5 => k_asm); (case q9k6 => k_is); (case q9k7 => k_is); (case q9k8 => ktr_room); (case q9k9 => first | exact BindsTo.of_eq rfl | exact binds_K (by k_in) rfl (by k_is) rfl rfl rfl | (refine' kp_binds ?q9kx ?q9ke; (case q9kx => k_in); (case q9ke => exact fun _ => rfl)) | fail "enter: no rule for these arguments"); (case q9c5 => decide); (case q9kB => exact locs rfl); (case q9c2 => exact rfl); (case q9c3 => exact rfl); (case q9c4 => exact rfl); k_whole; intro g' L' h' FG' F' N' B' X' T'; (try dsimp only); (try k_lift B'); (try k_fold)))
  k_with "execs cons" => ((with_reducible refine wpAny_execs_cons ?_); (try dsimp only); k_fold)
  k_with "call builtin:str.lower" => (k_dflt (refine' low_call ?q9k1 ?_; (case q9k1 => first | assumption | exact L7_14 (by assumption)); k_whole; intro _ _))
  k_with "call builtin:str.upper" => (k_dflt (refine' upp_call ?q9k1 ?_; (case q9k1 => assumption); k_whole; intro _ _))
  k_with "call ref" => ((try k_fold); k_dflt (refine' Ct.use (ct_conv_name ?q9hc) ?q9B ?q9F ?q9X ?q9N ?q9T ?q9hk ?q9hd ?q9hu ?_; (case q9hc => assumption); (case q9B => k_asm); (case q9F => k_asm); (case q9X => k_asm); (case q9N => k_asm); (case q9T => k_asm); (case q9hk => exact rfl); (case q9hd => ktr_room); (case q9hu => ktr_units); k_whole; intro _ _ _ _ r9 _ _; obtain ⟨rfl, rfl⟩ := r9))
  k_with "call ref" => ((try k_fold); k_dflt (refine' Ct.use (ct_conv_value ?q9hc) ?q9B ?q9F ?q9X ?q9N ?q9T ?q9hk ?q9hd ?q9hu ?_; (case q9hc => assumption); (case q9B => k_asm); (case q9F => k_asm); (case q9X => k_asm); (case q9N => k_asm); (case q9T => k_asm); (case q9hk => exact rfl); (case q9hd => ktr_room); (case q9hu => ktr_units); k_whole; intro _ _ _ _ r9 _ _; obtain ⟨rfl, rfl⟩ := r9))
  k_with "call ref" => ((try k_fold); k_dflt (refine' Ct.use (ct_get ?q9hc ?q9hi ?q9hp) ?q9B ?q9F ?q9X ?q9N ?q9T ?q9hk ?q9hd ?q9hu ?_; (case q9N => k_asm); (case q9hc => assumption); (case q9hi => assumption); (case q9hp => assumption); (case q9B => k_asm); (case q9F => k_asm); (case q9X => k_asm); (case q9T => k_asm); (case q9hk => exact rfl); (case q9hd => ktr_room); (case q9hu => ktr_units); k_whole; intro _ _ _ _ r9 _ _; obtain ⟨rfl, _⟩ := r9))
  k_with "call builtin:str.join" => (k_dflt (refine' join_one ?q9z1 ?q9z2 ?q9z3 ?_; (case q9z1 => k_asm); (case q9z2 => k_mem); (case q9z3 => exact rfl); k_whole; intro _ _))
  trivial
theorem dict_nil {prog : Program} {w : World} {K : Type} [DecidableEq K] {knd : PySem.KeyKind prog w K} {o : Obj} (h : o.IsDictOf knd []) : o.cls = .type "dict" ∧ ∃ n, o.data = .dict #[] n := by
  show (let G9 : Prop := _; G9)
  intro G9
  obtain ⟨es, ep, hx, hd, _, hp, _⟩ := h
  k_unfold
  refine ⟨hx.1, ep, ?_⟩
  have : es = #[] := by
    apply Array.ext'
    cases hq : es.toList with
    | nil => rfl
    | cons y r => rw [hq] at hp; cases hp
  rw [hd, this]
section
variable {w : World} {p : Program} {loose : List Str} {mean : ExcName → Option Value} {mg mb : Str → Option Value} {x dx l qm : Addr} {hs : Int} {ks t t2 : Tok} {nd nl : Nat} {vs : List Value} {ps : List (Nat × Nat)} {c k v : Nat} {rest : List (Addr × Obj)}
set_option maxHeartbeats 8000000 in
theorem ct_info (hc : c ∈ L7) (hit : ItemsIn rest vs ps) (hps : ∀ q ∈ ps, q.1 ∈ L14) (hf : ps.find? (fun q => lowN q.1 == c) = some (k, v)) :
    Ct w (hd.heap_39 w.params) p loose mean mg mb (.ref 86) [.str (Tx [c]) t, .ref qm] [] 34 102 ((qm, methodObj (.ref 221) (.ref x)) :: (x, instObj 274 dx) :: (dx, dictOf [⟨hs, .str "_headers" ks, .ref l⟩] nd) :: (l, listOf vs.toArray nl) :: rest)
      (fun r news' => ∃ T tb n, r = .ref T ∧ news' = ((T, tupOf [.str (Tx [v]) tb, .str (Tx [v]) tb] n) :: (qm, methodObj (.ref 221) (.ref x)) :: (x, instObj 274 dx) :: (dx, dictOf [⟨hs, .str "_headers" ks, .ref l⟩] nd) :: (l, listOf vs.toArray nl) :: rest)) := by
  intro dp un gd cn cs a ccd cl outer A₀ base h₀ L m s Q E B F X N T hk hdp hun hret
  show (let G9 : Prop := _; G9)
  intro G9
  obtain ⟨kd, nms, g1, g2, g3⟩ := cs
  k_unfold
  dsimp only at hk
  subst hk
  k_steps
  rename News _ _ _ _ => Na
  rename Fr _ _ _ _ => Fa
  rename Obj.IsDictOf _ _ _ => hdo
  rename (_ == sysModules) = false => hso
  show (let G9 : Prop := _; G9)
  intro G9
  obtain ⟨hoc, no, hod⟩ := dict_nil hdo
  k_unfold
  have hqm := (Na _ (.tail _ (.head _))).1
  have hDo := (Na _ (.head _)).1
  refine callWith_kws (k := .boundFrame) (vs := [.str (Tx [c]) t]) rfl ?kp hDo hoc hod hso ?ha ?hx ?_
  case kp =>
    refine (Looks.ld (part := none) hqm).andThen ?_
    exact (Looks.ld (part := none) (Fa.keep _ _ (‹Frag.In _ _› 221 _ (by k_is)))).andThen .now
  case ha =>
    intro Q' hQ'
    k_steps
    exact hQ'
  case hx =>
    intro Q' hQ'
    exact wpAny_bind (ld (Fa.push (emptyDict 0)) rfl (wpAny_bind (wpAny_standAt (wpAny_pure hQ'))))
  have Fp := Fa.push (emptyDict 0)
  have Np := News.push Fa Na (emptyDict 0)
  have Np' : News _ _ _ ((x, instObj 274 dx) :: (dx, dictOf [⟨hs, .str "_headers" ks, .ref l⟩] nd) :: (l, listOf vs.toArray nl) :: (qm, methodObj (.ref 221) (.ref x)) :: rest) := cb_drop Np (by walk_at "sub")
  clear Fa Na Np
  (try k_fold)
  k_dflt (refine' Ct.use (CtC.meth (ctc_get hc ?hi hps) ?hm) ?B Fp ?X Np' ?T ?hk ?hd ?hu ?_; (case hi => exact hit.mono (by walk_at "sub")); (case hm => k_mem); (case B => k_asm); (case X => k_asm); (case T => k_asm); (case hk => exact rfl); (case hd => ktr_room); (case hu => ktr_units))
  intro v9 n9 h9 tk9 r9 F9 N9
  obtain ⟨e1, e2⟩ := r9
  subst e1
  rw [hf] at e2
  obtain ⟨t', e2⟩ := e2
  subst e2
  clear Fp Np'
  k_steps
  rename News _ _ _ _ => N7
  exact hret _ _ _ _ ⟨_, t', 0, rfl, rfl⟩ (by k_asm) (cb_drop N7 (by walk_at "sub"))
end
end
section
/-- l[i:j] of plain lists, by places -/
noncomputable def cut (l : List Nat) (i j : Nat) : List Nat := (l.drop i).take (j - i)
theorem indices_clip (i j : Int) (n : Nat) (hi : 0 ≤ i) (hj : 0 ≤ j) : Builtin.Str.strSliceIndices (some i) (some j) 1 n = Builtin.Str.strSliceIndices (some (min i n)) (some (min j n)) 1 n := by
  unfold Builtin.Str.strSliceIndices
  have h1 : ¬ i < 0 := by omega
  have h2 : ¬ j < 0 := by omega
  have h3 : ¬ (min i (n : Int)) < 0 := by omega
  have h4 : ¬ (min j (n : Int)) < 0 := by omega
  simp only [show (1 : Int) > 0 by decide, if_true, if_neg h1, if_neg h2, if_neg h3, if_neg h4]
  have e1 : min (min i (n : Int)) n = min i n := by omega
  have e2 : min (min j (n : Int)) n = min j n := by omega
  rw [e1, e2]
theorem slice_ss (l : List Nat) (i j : Int) (hi : 0 ≤ i) (hj : 0 ≤ j) : Txt.slice (Tx l) (some i) (some j) = Tx (cut l i.toNat j.toNat) := by
  have e : Txt.slice (Tx l) (some i) (some j) = Txt.slice (Tx l) (some (min i l.length)) (some (min j l.length)) := by
    unfold Txt.slice
    rw [show (Tx l).length = l.length from rfl, indices_clip i j l.length hi hj]
  rw [e]
  by_cases h : min i (l.length : Int) ≤ min j l.length
  · have := eq_of_beq (slice_closes (x := Tx l) (i := min i l.length) (j := min j l.length) ⟨by omega, h, by show min j (l.length : Int) ≤ (l.length : Int); omega⟩)
    rw [this]
    show Tx _ = Tx _
    congr 1
    unfold cut
    show (l.drop _).take _ = _
    by_cases h1 : i ≤ l.length
    · have e1 : (min i (l.length : Int)).toNat = i.toNat := by omega
      rw [e1]
      by_cases h2 : j ≤ l.length
      · congr 1; omega
      · rw [List.take_of_length_le, List.take_of_length_le]
        · rw [List.length_drop]; omega
        · rw [List.length_drop]; omega
    · have e1 : l.drop (min i (l.length : Int)).toNat = [] := List.drop_eq_nil_of_le (by omega)
      have e2 : l.drop i.toNat = [] := List.drop_eq_nil_of_le (by omega)
      rw [e1, e2]; simp
  · have hz : Builtin.Str.strSliceIndices (some (min i (l.length : Int))) (some (min j (l.length : Int))) 1 l.length = [] := by
      unfold Builtin.Str.strSliceIndices sliceRange
      have h3 : ¬ (min i (l.length : Int)) < 0 := by omega
      have h4 : ¬ (min j (l.length : Int)) < 0 := by omega
      simp only [show (1 : Int) > 0 by decide, if_true, if_neg h3, if_neg h4]
      rw [if_neg (by omega)]
      rfl
    have hc : cut l i.toNat j.toNat = [] := by
      unfold cut
      rw [show j.toNat - i.toNat = 0 by omega, List.take_zero]
    rw [hc]
    unfold Txt.slice
    rw [show (Tx l).length = l.length from rfl, hz]
    split
    · rename_i h5
      simp at h5
      rw [List.eq_nil_of_length_eq_zero h5.symm]
    · rfl
theorem slice_ns (l : List Nat) (j : Int) (hj : 0 ≤ j) : Txt.slice (Tx l) none (some j) = Tx (l.take j.toNat) := by
  have e : Txt.slice (Tx l) none (some j) = Txt.slice (Tx l) (some 0) (some j) := by
    unfold Txt.slice
    have : Builtin.Str.strSliceIndices none (some j) 1 (Tx l).length = Builtin.Str.strSliceIndices (some 0) (some j) 1 (Tx l).length := by
      unfold Builtin.Str.strSliceIndices
      simp only [show (1 : Int) > 0 by decide, if_true, show ¬ (0 : Int) < 0 by decide, if_false]
      rw [show max (0 : Int) (min 0 ((Tx l).length : Int)) = 0 by omega]
    rw [this]
  rw [e, slice_ss l 0 j (by decide) hj]
  simp [cut]
theorem slice_sn (l : List Nat) (i : Int) (hi : 0 ≤ i) : Txt.slice (Tx l) (some i) none = Tx (l.drop i.toNat) := by
  have e : Txt.slice (Tx l) (some i) none = Txt.slice (Tx l) (some i) (some (l.length : Int)) := by
    unfold Txt.slice
    have : Builtin.Str.strSliceIndices (some i) none 1 (Tx l).length = Builtin.Str.strSliceIndices (some i) (some (l.length : Int)) 1 (Tx l).length := by
      unfold Builtin.Str.strSliceIndices
      simp only [show (1 : Int) > 0 by decide, if_true]
      rw [show (Tx l).length = l.length from rfl, if_neg (show ¬ (l.length : Int) < 0 by omega)]
      rw [show max (0 : Int) (min (l.length : Int) (l.length : Int)) = (l.length : Int) by omega]
    rw [this]
  rw [e, slice_ss l i l.length hi (by omega)]
  unfold cut
  rw [List.take_of_length_le]
  rw [List.length_drop]; omega
end
section
open PySem.Builtin.Str in
theorem subAt_one (l : List Nat) (c i : Nat) : subAt (Tx l) (Tx [c]) i = true ↔ l[i]? = some c := by
  unfold subAt
  rw [beq_iff_eq]
  show (Array.mk l).extract i (i + 1) = Array.mk [c] ↔ _
  rw [show (Array.mk l).extract i (i + 1) = Array.mk (l.extract i (i + 1)) by simp]
  rw [Array.mk.injEq, List.extract_eq_take_drop]
  rw [show i + 1 - i = 1 by omega]
  rw [← List.head?_drop]
  cases l.drop i with
  | nil => simp
  | cons a r => simp
/-- the place of a letter -/
noncomputable def ix (l : List Nat) (c : Nat) : Option Nat := l.findIdx? (· == c)
open PySem.Builtin.Str in
theorem occ_ix {l : List Nat} {c i : Nat} (h : ix l c = some i) : ∃ r, occurrences (Tx l) (Tx [c]) 0 (Tx l).length 1 = i :: r := by
  unfold ix at h
  rw [List.findIdx?_eq_some_iff_getElem] at h
  obtain ⟨hl, he, hn⟩ := h
  have hi : l[i]? = some c := by rw [List.getElem?_eq_getElem hl]; simpa using he
  rcases StrLaws.occ_head_from (Tx l) (Tx [c]) 0 1 (Nat.le_refl _) with ⟨_, h0⟩ | ⟨j, r, ho, _, ⟨hj1, hj2⟩, hk⟩
  · exact absurd ⟨by show i + 1 ≤ l.length; omega, (subAt_one l c i).mpr hi⟩ (h0 i (Nat.zero_le _))
  · refine ⟨r, ?_⟩
    rw [ho]
    have hj := (subAt_one l c j).mp hj2
    have : i = j := by
      rcases Nat.lt_trichotomy i j with h1 | h1 | h1
      · exact absurd ⟨by show i + 1 ≤ l.length; omega, (subAt_one l c i).mpr hi⟩ (hk i (Nat.zero_le _) h1)
      · exact h1
      · have := hn j h1
        have hjl : j < l.length := Nat.lt_trans h1 hl
        rw [List.getElem?_eq_getElem hjl] at hj
        simp at hj this
        exact absurd hj this
    rw [this]
section
variable {prog : Program} {w : World} {A : Around} {E : Value → Shared → Prop} {s : Shared} {t u : Tok} {Q : Value → Shared → Prop} {l : List Nat} {c i : Nat}
theorem index_tx {x : Str} (ex : x = Tx l) (h : ix l c = some i) (hq : ∀ t' k, Q (.int i t') { s with toks := k }) : wpAny (model prog w) A (call (.builtin "str.index") [.str x t, .str (Tx [c]) u]) Q E s := by
  subst ex
  obtain ⟨r, ho⟩ := occ_ix h
  exact SC.index ho (hq _ _)
/-- an item by a place from the front or the back -/
noncomputable def itemAt (l : List Nat) (i : Int) : Option Nat := (seqIndex? i l.length).bind (l[·]?)
theorem item_tx {x : Str} {i : Int} {value slice : Expr} (ex : x = Tx l) (hr : fitsSsize i = true) (hc : itemAt l i = some c) (hq : ∀ t' k, Q (.str (Tx [c]) t') { s with toks := k })
    (hs : subscripted slice false (.str x t) (.int i u) = operate [.str x t, .int i u] (getItem (.str x t) (.int i u)) := by with_unfolding_all rfl)
    (ht : ∀ r, letTemporaryGo value (.str x t) r = pure () := by intro _; with_unfolding_all rfl) :
    wpAny (model prog w) A (subscriptTail value slice (.str x t) (.int i u)) Q E s := by
  subst ex
  have e : Txt.charAt (Tx l) i = some c := by
    unfold Txt.charAt
    unfold itemAt at hc
    rw [← hc]
    show (seqIndex? i l.length).bind _ = _
    cases seqIndex? i l.length with
    | none => rfl
    | some j => simp
  have e2 : Txt.item (Tx l) i = Tx [c] := by unfold Txt.item; rw [e]; rfl
  have hb : -((Tx l).length : Int) ≤ i ∧ i < ((Tx l).length : Int) := by
    show -(l.length : Int) ≤ i ∧ i < (l.length : Int)
    unfold itemAt seqIndex? at hc
    by_cases h0 : i < 0
    · simp only [if_pos h0] at hc
      split at hc
      · rename_i h1
        simp at h1
        omega
      · cases hc
    · simp only [if_neg h0] at hc
      split at hc
      · rename_i h1
        simp at h1
        omega
      · cases hc
  refine item_str hr hb.1 hb.2 (fun _ => ?_) hs ht
  rw [e2]
  exact hq _ _
end
theorem lit_abc : Str.ofString "abcdefg" = Tx [97, 98, 99, 100, 101, 102, 103] := by decide +kernel
theorem lit_bcd : Str.ofString "bcdefga" = Tx [98, 99, 100, 101, 102, 103, 97] := by decide +kernel
theorem lit_bcdh : Str.ofString "bcdefgh" = Tx [98, 99, 100, 101, 102, 103, 104] := by decide +kernel
theorem lit_bcd6 : Str.ofString "bcdefg" = Tx [98, 99, 100, 101, 102, 103] := by decide +kernel
end
section
theorem upp_in {c : Nat} (h : c ∈ L7) : c - 32 ∈ L14 := by revert c; decide
theorem ne_allLt {d l : Nat} {r : List (Addr × Obj)} (h : AllLt d r) (hl : d ≤ l) : ∀ p ∈ r, p.1 ≠ l := by
  intro p hp e
  have := allLt_mem h p hp
  rw [e] at this
  exact absurd (Nat.lt_of_lt_of_le this hl) (Nat.lt_irrefl _)
theorem news_rot5 {h₀ h : Heap} {L : Addr} {a b c d e : Addr × Obj} {r : List (Addr × Obj)} (N : News h₀ L h (a :: b :: c :: e :: d :: r)) : News h₀ L h (d :: a :: b :: c :: e :: r) := by
  intro p hp
  refine N p ?_
  simp only [List.mem_cons] at hp ⊢
  rcases hp with hp | hp | hp | hp | hp | hp <;> simp [hp]
end
local macro_rules | `(tactic| k_all) => `(tactic| first | assumption | ((repeat (rename (_ ∧ _) => h9; rcases h9 with ⟨_, _⟩)); exact ne_allLt (by assumption) (by omega)))
section
theorem unrPost_mono {h₀ : Heap} {L I : Addr} {it : Obj} {s₁ : Shared} {rest rest' : (Str → Option Value) → List (Addr × Obj) → Prop} {Q : Flow → Shared → Prop} {f : Flow} {s₂ : Shared}
    (h : UnrPost h₀ L s₁ I it rest Q f s₂) (hr : ∀ m n, rest m n → rest' m n) : UnrPost h₀ L s₁ I it rest' Q f s₂ := by
  cases f with
  | ret v => exact h
  | brk => exact h
  | next => obtain ⟨h', tk, m', news', e, F, N, o, r⟩ := h; exact ⟨h', tk, m', news', e, F, N, o, hr _ _ r⟩
  | cont => obtain ⟨h', tk, m', news', e, F, N, o, r⟩ := h; exact ⟨h', tk, m', news', e, F, N, o, hr _ _ r⟩
section
variable {prog : Program} {w : World} {A : Around} {E : Value → Shared → Prop} {s : Shared} {env : Env} {h₀ : Heap} {x : Str} {body : List Stmt} {Q : Flow → Shared → Prop} {I : Addr}
theorem strRest_inv (J : Nat → (Str → Option Value) → List (Addr × Obj) → Prop) (l : List Str)
    (turn : ∀ i c m news, l[i]? = some c → J i m news → ∀ (u : Tok) (it : Obj) h tk, Fr h₀ env.locals h (fun y => if y = x then some (.str c u) else m y) → News h₀ env.locals h ((I, it) :: news) →
      wpAny (model prog w) A (execs body env) (UnrPost h₀ env.locals { s with heap := h, toks := tk } I it (J (i + 1)) Q) E { s with heap := h, toks := tk })
    (done : ∀ m news h tk, J l.length m news → Fr h₀ env.locals h m → News h₀ env.locals h news → Q .next { s with heap := h, toks := tk }) :
    ∀ (k : Nat) (m : Str → Option Value) (news : List (Addr × Obj)), k ≤ l.length → J k m news → StrRest prog w A E h₀ env x body Q s I (l.drop k) m news := by
  have key : ∀ (r : List Str) (k : Nat) (m : Str → Option Value) (news : List (Addr × Obj)), k + r.length = l.length → (∀ j c, r[j]? = some c → l[k + j]? = some c) → J k m news → StrRest prog w A E h₀ env x body Q s I r m news := by
    intro r
    induction r with
    | nil =>
      intro k m news hk _ hJ h tk F N
      have : k = l.length := by simpa using hk
      subst this
      exact done m news h tk hJ F N
    | cons c r ih =>
      intro k m news hk hg hJ u it h tk F N
      refine wpAny_mono (turn k c m news (hg 0 c rfl) hJ u it h tk F N) (fun f s' hf => unrPost_mono hf fun m' n' hJ' => ih (k + 1) m' n' ?_ ?_ hJ') fun _ _ e => e
      · simp at hk; omega
      · intro j c' hj
        have := hg (j + 1) c' (by simpa using hj)
        rw [show k + 1 + j = k + (j + 1) by omega]
        exact this
  intro k m news hk hJ
  refine key (l.drop k) k m news ?_ ?_ hJ
  · simp; omega
  · intro j c hj
    simpa using hj
theorem rangeRest_inv {a : Int} {n : Nat} (J : Nat → (Str → Option Value) → List (Addr × Obj) → Prop)
    (turn : ∀ i m news, i < n → J i m news → ∀ t h tk, Fr h₀ env.locals h (fun y => if y = x then some (.int (a + (i : Int)) t) else m y) →
      News h₀ env.locals h ((I, itR (a + ((i + 1 : Nat) : Int)) ((n : Int) - ((i + 1 : Nat) : Int))) :: news) →
      wpAny (model prog w) A (execs body env) (UnrPost h₀ env.locals { s with heap := h, toks := tk } I (itR (a + ((i + 1 : Nat) : Int)) ((n : Int) - ((i + 1 : Nat) : Int))) (J (i + 1)) Q) E { s with heap := h, toks := tk })
    (done : ∀ m news h tk, J n m news → Fr h₀ env.locals h m → News h₀ env.locals h news → Q .next { s with heap := h, toks := tk }) :
    ∀ (k i : Nat) (m : Str → Option Value) (news : List (Addr × Obj)), i + k = n → J i m news → RangeRest prog w A E h₀ env x body Q s I a n k i m news := by
  intro k
  induction k with
  | zero =>
    intro i m news hk hJ h tk F N
    have : i = n := by omega
    subst this
    exact done m news h tk hJ F N
  | succ k ih =>
    intro i m news hk hJ t h tk F N
    exact wpAny_mono (turn i m news (by omega) hJ t h tk F N) (fun f s' hf => unrPost_mono hf fun m' n' hJ' => ih (i + 1) m' n' (by omega) hJ') fun _ _ e => e
end
/-- the letter behind, a behind g -/
noncomputable def succ7 (c : Nat) : Nat := if c = 103 then 97 else c + 1
theorem succ7_in {c : Nat} (h : c ∈ L7) : succ7 c ∈ L7 := by revert c; decide
theorem ix_abc {c : Nat} (h : c ∈ L7) : ix [97, 98, 99, 100, 101, 102, 103] c = some (c - 97) := by revert c; decide
theorem item_bcd {c : Nat} (h : c ∈ L7) : itemAt [98, 99, 100, 101, 102, 103, 97] ((c - 97 : Nat) : Int) = some (succ7 c) := by revert c; decide
theorem fits_abc {c : Nat} (h : c ∈ L7) : fitsSsize ((c - 97 : Nat) : Int) = true := by revert c; decide +kernel
noncomputable abbrev PL := List (Nat × Nat)
noncomputable def chaseM (A : PL) (first : Nat) : Nat → Nat → PL → Option PL
  | 0, _, _ => none
  | n + 1, word, ps => if ps.length ≥ 50 then none else
    if (ps.find? (fun q => lowN q.1 == word)).isSome then some ps else
    match A.find? (fun q => lowN q.1 == succ7 word) with
    | none => none
    | some (_, v) => chaseM A first n v (ps ++ [(word, first)])
noncomputable def ringsLoop (A : PL) : List Nat → PL → Option PL
  | [], ps => some ps
  | f :: r, ps => match chaseM A f 9 f ps with
    | none => none
    | some ps' => ringsLoop A r ps'
noncomputable def aheadM (l : List Nat) : PL := (List.range 7).map fun k => (l.getD k 0 - 32, l.getD ((k + 6) % 7) 0)
noncomputable def ringsM (row : List Nat) : Option Nat := (ringsLoop (aheadM row) [97, 98, 99, 100, 101, 102, 103] []).map fun ps => (ps.filter fun q => q.1 == q.2).length
theorem item_row {l : List Nat} {i : Nat} (hl : l.length = 7) (hi : i < 7) : itemAt l (0 + (i : Int)) = some (l.getD i 0) := by
  match l, hl with
  | [r0, r1, r2, r3, r4, r5, r6], _ =>
    match i, hi with
    | 0, _ => rfl
    | 1, _ => rfl
    | 2, _ => rfl
    | 3, _ => rfl
    | 4, _ => rfl
    | 5, _ => rfl
    | 6, _ => rfl
theorem item_row' {l : List Nat} {i : Nat} (hl : l.length = 7) (hi : i < 7) : itemAt l (0 + (i : Int) - 1) = some (l.getD ((i + 6) % 7) 0) := by
  match l, hl with
  | [r0, r1, r2, r3, r4, r5, r6], _ =>
    match i, hi with
    | 0, _ => rfl
    | 1, _ => rfl
    | 2, _ => rfl
    | 3, _ => rfl
    | 4, _ => rfl
    | 5, _ => rfl
    | 6, _ => rfl
theorem fits_row {i : Nat} (hi : i < 7) : fitsSsize (0 + (i : Int)) = true ∧ fitsSsize (0 + (i : Int) - 1) = true := by
  match i, hi with
  | 0, _ => decide +kernel
  | 1, _ => decide +kernel
  | 2, _ => decide +kernel
  | 3, _ => decide +kernel
  | 4, _ => decide +kernel
  | 5, _ => decide +kernel
  | 6, _ => decide +kernel
theorem row_in {l : List Nat} (hl : l.length = 7) (hin : ∀ c ∈ l, c ∈ L7) {i : Nat} (hi : i < 7) : l.getD i 0 ∈ L7 := by
  have h : i < l.length := by omega
  rw [List.getD_eq_getElem?_getD, List.getElem?_eq_getElem h]
  exact hin _ (List.getElem_mem _)
theorem row_in' {l : List Nat} (hl : l.length = 7) (hin : ∀ c ∈ l, c ∈ L7) {i : Nat} : l.getD ((i + 6) % 7) 0 ∈ L7 := row_in hl hin (Nat.mod_lt _ (by decide))
theorem ahead_take {l : List Nat} {i : Nat} (hi : i < 7) : (aheadM l).take (i + 1) = (aheadM l).take i ++ [(l.getD i 0 - 32, l.getD ((i + 6) % 7) 0)] := by
  have h : (aheadM l)[i]? = some (l.getD i 0 - 32, l.getD ((i + 6) % 7) 0) := by simp [aheadM, hi]
  rw [List.take_add_one, h]
  rfl
section
variable {prog : Program} {w : World} {A : Around} {E : Value → Shared → Prop} {s : Shared} {env : Env} {h₀ : Heap} {x : Str} {body : List Stmt} {Q : Flow → Shared → Prop} {I : Addr} {m₀ : Str → Option Value} {news₀ : List (Addr × Obj)}
theorem strRest_2 (y : Str) (J : Nat → List (Addr × Obj) → Prop) (l : List Str) (hJ : J 0 news₀)
    (turn : ∀ i c news v, l[i]? = some c → J i news → ∀ (u : Tok) (it : Obj) h tk, Fr h₀ env.locals h (fun z => if z = x then some (.str c u) else if z = y then v else m₀ z) → News h₀ env.locals h ((I, it) :: news) →
      wpAny (model prog w) A (execs body env) (UnrPost h₀ env.locals { s with heap := h, toks := tk } I it (fun m' news' => J (i + 1) news' ∧ ∀ z, z ≠ x → z ≠ y → m' z = m₀ z) Q) E { s with heap := h, toks := tk })
    (done : ∀ v v' news h tk, J l.length news → Fr h₀ env.locals h (fun z => if z = x then v else if z = y then v' else m₀ z) → News h₀ env.locals h news → Q .next { s with heap := h, toks := tk }) :
    StrRest prog w A E h₀ env x body Q s I l m₀ news₀ := by
  refine strRest_inv (fun i m news => J i news ∧ ∀ z, z ≠ x → z ≠ y → m z = m₀ z) l ?_ ?_ 0 m₀ news₀ (Nat.zero_le _) ⟨hJ, fun _ _ _ => rfl⟩
  · rintro i c m news hc ⟨hJ, hm⟩ u it h tk F N
    refine turn i c news (m y) hc hJ u it h tk ?_ N
    have e : (fun z => if z = x then some (Value.str c u) else m z) = fun z => if z = x then some (.str c u) else if z = y then m y else m₀ z := by
      funext z
      by_cases h1 : z = x
      · simp [h1]
      · by_cases h2 : z = y
        · simp only [if_neg h1, if_pos h2]; rw [h2]
        · simp only [if_neg h1, if_neg h2, hm z h1 h2]
    rw [← e]; exact F
  · rintro m news h tk ⟨hJ, hm⟩ F N
    refine done (m x) (m y) news h tk hJ ?_ N
    have e : m = fun z => if z = x then m x else if z = y then m y else m₀ z := by
      funext z
      by_cases h1 : z = x
      · simp [h1]
      · by_cases h2 : z = y
        · simp only [if_neg h1, if_pos h2]; rw [h2]
        · simp only [if_neg h1, if_neg h2, hm z h1 h2]
    rw [← e]; exact F
theorem rangeRest_1 {a : Int} {n : Nat} (J : Nat → List (Addr × Obj) → Prop) (hJ : J 0 news₀)
    (turn : ∀ i news, i < n → J i news → ∀ t h tk, Fr h₀ env.locals h (fun z => if z = x then some (.int (a + (i : Int)) t) else m₀ z) →
      News h₀ env.locals h ((I, itR (a + ((i + 1 : Nat) : Int)) ((n : Int) - ((i + 1 : Nat) : Int))) :: news) →
      wpAny (model prog w) A (execs body env) (UnrPost h₀ env.locals { s with heap := h, toks := tk } I (itR (a + ((i + 1 : Nat) : Int)) ((n : Int) - ((i + 1 : Nat) : Int))) (fun m' news' => J (i + 1) news' ∧ ∀ z, z ≠ x → m' z = m₀ z) Q) E { s with heap := h, toks := tk })
    (done : ∀ v news h tk, J n news → Fr h₀ env.locals h (fun z => if z = x then v else m₀ z) → News h₀ env.locals h news → Q .next { s with heap := h, toks := tk }) :
    RangeRest prog w A E h₀ env x body Q s I a n n 0 m₀ news₀ := by
  refine rangeRest_inv (fun i m news => J i news ∧ ∀ z, z ≠ x → m z = m₀ z) ?_ ?_ n 0 m₀ news₀ (Nat.zero_add _) ⟨hJ, fun _ _ => rfl⟩
  · rintro i m news hi ⟨hJ, hm⟩ t h tk F N
    refine turn i news hi hJ t h tk ?_ N
    have e : (fun z => if z = x then some (Value.int (a + (i : Int)) t) else m z) = fun z => if z = x then some (.int (a + (i : Int)) t) else m₀ z := by
      funext z
      by_cases h1 : z = x
      · simp [h1]
      · simp [h1, hm z h1]
    rw [← e]; exact F
  · rintro m news h tk ⟨hJ, hm⟩ F N
    refine done (m x) news h tk hJ ?_ N
    have e : m = fun z => if z = x then m x else m₀ z := by
      funext z
      by_cases h1 : z = x
      · simp [h1]
      · simp [h1, hm z h1]
    rw [← e]; exact F
/-- the end of a turn of a while that changes one name -/
noncomputable def WStep1 (h₀ : Heap) (L : Addr) (s : Shared) (y : Str) (m₀ : Str → Option Value) (J : Nat → Value → List (Addr × Obj) → Prop) (Q : Flow → Shared → Prop) (n : Nat) (f : Flow) (s₃ : Shared) : Prop :=
  match f with
  | .next | .cont => ∃ h' tk m₂ news₂ n' v', s₃ = { s with heap := h', toks := tk } ∧ Fr h₀ L h' m₂ ∧ News h₀ L h' news₂ ∧ n' < n ∧ J n' v' news₂ ∧ m₂ y = some v' ∧ ∀ z, z ≠ y → m₂ z = m₀ z
  | .brk => Q .next s₃
  | .ret v => Q (.ret v) s₃
theorem while_1 {test : Expr} {pos : Pos} {L : Addr} (y : Str) (J : Nat → Value → List (Addr × Obj) → Prop) {n₀ : Nat} {v₀ : Value}
    (F : Fr h₀ L s.heap m₀) (N : News h₀ L s.heap news₀) (hy : m₀ y = some v₀) (hJ : J n₀ v₀ news₀)
    (turn : ∀ n v news h tk, Fr h₀ L h (fun z => if z = y then some v else m₀ z) → News h₀ L h news → J n v news →
      wpAny (model prog w) A (isTrue test env (eval test env)) (fun b s₂ =>
        if b = true then wpAny (model prog w) A (execs body env) (WStep1 h₀ L s y m₀ J Q n) E s₂ else Q .next s₂) E { s with heap := h, toks := tk })
    (hE : PassesOwn (model prog w) A env E := by passes_own) :
    wpAny (model prog w) A (exec (.While test body [] pos) env) Q E s := by
  refine While_inv2 (fun n m news => ∃ v, m y = some v ∧ (∀ z, z ≠ y → m z = m₀ z) ∧ J n v news) F N ⟨v₀, hy, fun _ _ => rfl, hJ⟩ ?_ hE
  rintro n m news h tk F N ⟨v, hv, hm, hJ⟩
  have e : m = fun z => if z = y then some v else m₀ z := by
    funext z
    by_cases h1 : z = y
    · simp [h1, hv]
    · simp [h1, hm z h1]
  rw [e] at F
  refine wpAny_mono (turn n v news h tk F N hJ) (fun b s₂ hb => ?_) fun _ _ e => e
  cases b with
  | false => exact hb
  | true =>
    refine wpAny_mono hb (fun f s₃ h₃ => ?_) fun _ _ e => e
    cases f with
    | next => obtain ⟨h', tk, m₂, news₂, n', v', rfl, F', N', hn, hJ', hv', hm'⟩ := h₃; exact ⟨h', tk, m₂, news₂, n', rfl, F', N', hn, v', hv', hm', hJ'⟩
    | cont => obtain ⟨h', tk, m₂, news₂, n', v', rfl, F', N', hn, hJ', hv', hm'⟩ := h₃; exact ⟨h', tk, m₂, news₂, n', rfl, F', N', hn, v', hv', hm', hJ'⟩
    | brk => exact h₃
    | ret r => exact h₃
end
end
section
noncomputable def abcL : List Nat := [97, 98, 99, 100, 101, 102, 103]
structure RInv (tl : List (Addr × Obj)) (l2 I2 : Addr) (ps : PL) (vs2 : List Value) (tl2 : List (Addr × Obj)) : Prop where
  hit : ItemsIn tl2 vs2 ps
  sub : ∀ p ∈ tl, p ∈ tl2
  ne1 : ∀ p ∈ tl2, p.1 ≠ l2
  ne2 : ∀ p ∈ tl2, p.1 ≠ I2
  in7 : ∀ q ∈ ps, q.1 ∈ L7 ∧ q.2 ∈ L7
theorem RInv.add {tl : List (Addr × Obj)} {l2 I2 : Addr} {ps : PL} {vs2 : List Value} {tl2 : List (Addr × Obj)} (h : RInv tl l2 I2 ps vs2 tl2) {q : Addr} {n k v : Nat} {ta tb : Tok} (hk : k ∈ L7) (hv : v ∈ L7) (h1 : @LT.lt Nat _ l2 q) (h2 : @LT.lt Nat _ I2 q) :
    RInv tl l2 I2 (ps ++ [(k, v)]) (vs2 ++ [Value.ref q]) ((q, tupOf [.str (Tx [k]) ta, .str (Tx [v]) tb] n) :: tl2) := by
  refine ⟨(h.hit.mono fun p hp => .tail _ hp).snoc (.head _), fun p hp => .tail _ (h.sub p hp), List.forall_mem_cons.mpr ⟨neN (by omega), h.ne1⟩, List.forall_mem_cons.mpr ⟨neN (by omega), h.ne2⟩, ?_⟩
  intro q hq
  rcases List.mem_append.mp hq with hq | hq
  · exact h.in7 q hq
  · simp at hq; subst hq; exact ⟨hk, hv⟩
theorem chase_step {A : PL} {f n c : Nat} {ps res : PL} (h : chaseM A f n c ps = some res) : ∃ k, n = k + 1 ∧ ps.length < 50 ∧
    ((((ps.find? (fun q => lowN q.1 == c)).isSome = true) ∧ res = ps) ∨ ((ps.find? (fun q => lowN q.1 == c)).isSome = false ∧ ∃ a v, A.find? (fun q => lowN q.1 == succ7 c) = some (a, v) ∧ chaseM A f k v (ps ++ [(c, f)]) = some res)) := by
  cases n with
  | zero => cases h
  | succ k =>
    refine ⟨k, rfl, ?_⟩
    unfold chaseM at h
    split at h
    · cases h
    · rename_i h1
      refine ⟨by omega, ?_⟩
      split at h
      · rename_i h2
        cases h
        exact .inl ⟨h2, rfl⟩
      · rename_i h2
        refine .inr ⟨by simpa using h2, ?_⟩
        split at h
        · cases h
        · rename_i a v h3
          exact ⟨a, v, h3, h⟩
theorem rings_step {A : PL} {i f : Nat} {ps res : PL} (hi : abcL[i]? = some f) (h : ringsLoop A (abcL.drop i) ps = some res) : ∃ ps', chaseM A f 9 f ps = some ps' ∧ ringsLoop A (abcL.drop (i + 1)) ps' = some res ∧ f ∈ L7 := by
  have hl : i < abcL.length := (List.getElem?_eq_some_iff.mp hi).1
  rw [List.drop_eq_getElem_cons hl] at h
  have e : abcL[i] = f := (List.getElem?_eq_some_iff.mp hi).2
  rw [e] at h
  unfold ringsLoop at h
  split at h
  · cases h
  · rename_i ps' h2
    refine ⟨ps', h2, h, ?_⟩
    have : f ∈ abcL := e ▸ List.getElem_mem hl
    revert this
    simp only [abcL, L7]
    exact fun h => h
theorem chase_len {A : PL} {f : Nat} : ∀ {n c : Nat} {ps res : PL}, chaseM A f n c ps = some res → res.length ≤ 100
  | 0, _, _, _, h => by cases h
  | n + 1, c, ps, res, h => by
    obtain ⟨k, hk, hl, hc⟩ := chase_step h
    have hk' : n = k := by omega
    subst hk'
    rcases hc with ⟨_, rfl⟩ | ⟨_, a, v, _, h'⟩
    · omega
    · exact chase_len h'
theorem rings_len_aux {A : PL} : ∀ {l : List Nat} {ps res : PL}, ps.length ≤ 100 → ringsLoop A l ps = some res → res.length ≤ 100
  | [], ps, res, h, e => by cases e; exact h
  | f :: r, ps, res, h, e => by
    unfold ringsLoop at e
    split at e
    · cases e
    · rename_i ps' h2
      exact rings_len_aux (chase_len h2) e
theorem rings_len {A : PL} {l : List Nat} {res : PL} (e : ringsLoop A l [] = some res) : res.length ≤ 100 := rings_len_aux (Nat.zero_le _) e
theorem ahead_in {row : List Nat} (hl : row.length = 7) (hin : ∀ c ∈ row, c ∈ L7) : ∀ q ∈ aheadM row, q.1 ∈ L14 ∧ q.2 ∈ L7 := by
  intro q hq
  simp only [aheadM, List.mem_map, List.mem_range] at hq
  obtain ⟨k, hk, rfl⟩ := hq
  exact ⟨upp_in (row_in hl hin hk), row_in' hl hin⟩
theorem news_info {h₀ h : Heap} {L : Addr} {m a b c q i x d l : Addr × Obj} {r : List (Addr × Obj)} (N : News h₀ L h (m :: a :: b :: c :: q :: i :: x :: d :: l :: r)) : News h₀ L h (m :: x :: d :: l :: a :: b :: c :: q :: i :: r) := by
  intro p hp
  refine N p ?_
  simp only [List.mem_cons] at hp ⊢
  grind
theorem news_back {h₀ h : Heap} {L : Addr} {t m a b c q i x d l : Addr × Obj} {r : List (Addr × Obj)} (N : News h₀ L h (t :: m :: x :: d :: l :: a :: b :: c :: q :: i :: r)) : News h₀ L h (a :: b :: c :: i :: x :: d :: l :: q :: r) := by
  intro p hp
  refine N p ?_
  simp only [List.mem_cons] at hp ⊢
  grind
theorem find_in {α : Type} {f : α → Bool} {l : List α} {q : α} (h : l.find? f = some q) : q ∈ l := List.mem_of_find?_eq_some h
section
variable {w : World} {p : Program} {loose : List Str} {mean : ExcName → Option Value} {mg mb : Str → Option Value} {x dx l : Addr} {hs : Int} {ks t : Tok} {nd nl : Nat} {vs : List Value} {ps : List (Nat × Nat)} {c : Nat} {rest : List (Addr × Obj)}
theorem ct_contains_b {b : Bool} (hc : c ∈ L7) (hit : ItemsIn rest vs ps) (hps : ∀ q ∈ ps, q.1 ∈ L14) (hb : (ps.find? (fun q => lowN q.1 == c)).isSome = b) :
    Ct w (hd.heap_39 w.params) p loose mean mg mb (.ref 206) [.ref x, .str (Tx [c]) t] [] 24 72 ((x, instObj 274 dx) :: (dx, dictOf [⟨hs, .str "_headers" ks, .ref l⟩] nd) :: (l, listOf vs.toArray nl) :: rest)
      (fun v news' => news' = ((x, instObj 274 dx) :: (dx, dictOf [⟨hs, .str "_headers" ks, .ref l⟩] nd) :: (l, listOf vs.toArray nl) :: rest) ∧ v = .bool b) := by
  have := ct_contains (w := w) (p := p) (loose := loose) (mean := mean) (mg := mg) (mb := mb) (x := x) (dx := dx) (l := l) (hs := hs) (ks := ks) (t := t) (nd := nd) (nl := nl) (rest := rest) hc hit hps
  rw [hb] at this
  exact this
end
end
section
open PySem PySem.W PyProof.Rows PySem.Calls PyProof.V PySem.Spec PyProof.Rows.LCg
noncomputable def cntEq (ps : PL) : Nat := (ps.filter fun q => q.1 == q.2).length
theorem cntEq_take {ps : PL} {i : Nat} {a b : Nat} (h : ps[i]? = some (a, b)) : cntEq (ps.take (i + 1)) = cntEq (ps.take i) + (if a = b then 1 else 0) := by
  unfold cntEq
  rw [List.take_add_one, h, List.filter_append, List.length_append]
  by_cases e : a = b
  · subst e; simp
  · simp [e]
section
variable {prog : Program} {w : World} {A : Around} {E : Value → Shared → Prop} {s : Shared} {h₀ : Heap} {L : Addr} {m : Str → Option Value} {env : Env}
theorem test_eq {a b : Nat} {ta tb : Tok} {x y : Str} {p2 p3 p4 : Pos} {cenv : Env} {m' : Str → Option Value} {Q : Bool → Shared → Prop} {whole : Sem Value} (hk : cenv.scope.kind = .function) (hx : cenv.kindOf x = some .local) (hy : cenv.kindOf y = some .local)
    (hdx : (x == ("__debug__" : Str)) = false) (hdy : (y == ("__debug__" : Str)) = false)
    (hn : s.heap.Ns cenv.locals m') (vx : m' x = some (.str (Tx [a]) ta)) (vy : m' y = some (.str (Tx [b]) tb)) (h : Q (decide (a = b)) s) :
    wpAny (model prog w) A (isTrue (.Compare (.Name x p2) [.Eq] [.Name y p3] p4) cenv whole) Q E s := by
  refine wpAny_isTrue_Compare1 ?_ (by with_unfolding_all rfl)
  refine wpAny_Name (wpAny_loadName_local hk hx hn vx ?_) hdx
  refine wpAny_Name (wpAny_loadName_local hk hy hn vy ?_) hdy
  refine PyProof.Rows.eq_str ?_
  refine wpAny_truthy_bool ?_
  have e : (Tx [a] == Tx [b]) = decide (a = b) := by
    by_cases q : a = b
    · subst q; simp
    · simp only [q, decide_false]
      cases z : Tx [a] == Tx [b] with
      | false => rfl
      | true => exact absurd (tx_eq z) q
  rw [e]; exact h
noncomputable def PairSrc (A : Around) (h₀ : Heap) (L : Addr) (m : Str → Option Value) (Q : Value → Shared → Prop) (xv : Value) (s₁ : Shared) : Prop :=
  ∃ l nn vs ps news, xv = .ref l ∧ A.handled = none ∧ Fr h₀ L s₁.heap m ∧ News h₀ L s₁.heap news ∧ (l, listOf vs.toArray nn) ∈ news ∧ ItemsIn news vs ps ∧ vs.length ≤ 1000 ∧
      ∀ D ys h tk, ys.length = cntEq ps → Fr h₀ L h m → News h₀ L h ((D, lst ys) :: news) → Q (.ref D) { s₁ with heap := h, toks := tk }
theorem comp_pairs {x y : Str} {px py tp p1 p2 p3 p4 pos : Pos} {kk c0 : Nat} {scope : Scope} {cl : List (Str × Addr)} {iter : Expr} {Q : Value → Shared → Prop}
    (F0 : Fr h₀ L s.heap m) (hclos : closureFor scope env = pure cl) (hcell : ∀ y ∈ scope.names, y.2 ≠ .cell) (hkind : scope.kind = .function)
    (hnames : ∀ y ∈ scope.names, y.2 = .local → scope.names.lookup y.1 = some .local) (hxa : scope.names.lookup x = some .local) (hxb : scope.names.lookup y = some .local) (hab : ¬ x = y)
    (hdx : (x == ("__debug__" : Str)) = false) (hdy : (y == ("__debug__" : Str)) = false)
    (h : wpAny (model prog w) A (eval iter env) (PairSrc A h₀ L m Q) E s)
    (hs : ∀ x, foldedSetIterable iter env x = pure x := by intro _; rfl) :
    wpAny (model prog w) A (eval (.ListComp (.Constant (.int 1) c0 p1) [⟨.Tuple [.Name x px, .Name y py] kk tp, iter, [.Compare (.Name x p2) [.Eq] [.Name y p3] p4], 0⟩] scope pos) env) Q E s := by
  rw [eval_ListComp]
  refine wpAny_comprehension_free (use := none) rfl hs hclos hkind hnames (wpAny_mono h (fun xv s₁ h₁ => ?_) fun _ _ e => e)
  show (let G9 : Prop := _; G9)
  intro G9
  obtain ⟨l, nn, vs, ps, news, rfl, hh, F, N, hl, hit, hlen, hQ⟩ := h₁
  k_unfold
  have hol := (N _ hl).1
  have hls : s₁.heap.IsList l vs.toArray := ⟨_, hol, rfl, nn, rfl⟩
  refine wpAny_pyIter_list hls ?_
  generalize hI : s₁.heap.objs.size = I
  generalize hH1 : s₁.heap.push _ = H1
  have hH1s : H1.objs.size = I + 1 := by rw [← hH1, Heap.size_push, hI]
  have hIi : H1.IsListIter I l 0 := by
    rw [← hH1, ← hI]
    exact ⟨_, Heap.get?_push_size _ rfl, rfl, rfl⟩
  have F1 : Fr h₀ L H1 m := hH1 ▸ F.push _
  have N1 : News h₀ L H1 news := fun p hp => by
    rw [← hH1]
    exact ⟨Heap.get?_push_of_some _ (N p hp).1, (N p hp).2⟩
  have nI : ∀ p ∈ news, @LT.lt Nat _ p.1 I := fun p hp => hI ▸ Heap.lt_size (N p hp).1
  have hLI : @LT.lt Nat _ L I := hI ▸ F.ns.lt
  refine wpAny_newObj_type (wpAny_newFunctionEnv hcell (by intro y hy; simp at hy) (fun h₂ hns₂ hsb₂ => ?_) hkind)
  dsimp only at hns₂ hsb₂ ⊢
  have hD : H1.objs.size = I + 1 := hH1s
  generalize hH2 : H1.push { cls := .type "list", dict := none, data := .seq ([] : List Value).toArray } = H2 at hns₂ hsb₂ ⊢
  have hC : H2.objs.size = I + 2 := by rw [← hH2, Heap.size_push, hH1s]
  have hDo : H2.get? (I + 1) = some (lst []) := by rw [← hH2, ← hH1s]; exact Heap.get?_push_size _ rfl
  have up2 : ∀ b o, H1.get? b = some o → H2.get? b = some o := fun b o e => by rw [← hH2]; exact Heap.get?_push_of_some _ e
  rw [hC] at hns₂ hsb₂ ⊢
  rw [hD]
  have up : ∀ b o, b ≠ I + 2 → H2.get? b = some o → h₂.get? b = some o := fun b o hb e => hsb₂.extBut b o hb (Heap.get?_push_of_some _ e)
  have fresh₀ : ∀ a, I ≤ a → h₀.get? a = none := fun a ha => by
    cases e : h₀.get? a with
    | none => rfl
    | some o' =>
      have := Heap.lt_size (F.keep a o' e)
      rw [hI] at this
      exact absurd (Nat.lt_of_lt_of_le this ha) (Nat.lt_irrefl _)
  have hLne : L ≠ I + 2 := neN (by omega)
  have hLne1 : L ≠ I + 1 := neN (by omega)
  have hLne0 : L ≠ I := neN (by omega)
  have F2 : Fr h₀ L h₂ m := F1.keeps fun b o e => up b o (neN (by have : @LT.lt Nat _ b H1.objs.size := Heap.lt_size e; rw [hH1s] at this; omega)) (up2 b o e)
  have N2 : News h₀ L h₂ news := fun p hp => ⟨up _ _ (neN (by have := nI p hp; omega)) (up2 _ _ (N1 p hp).1), (N1 p hp).2⟩
  have hI2 : h₂.IsListIter I l 0 := by
    show (let G9 : Prop := _; G9)
    intro G9
    obtain ⟨o, ho, hc, hd⟩ := hIi
    k_unfold
    exact ⟨o, up _ _ (neN (by omega)) (up2 _ _ ho), hc, hd⟩
  have hD2 : h₂.get? (I + 1) = some (lst []) := up _ _ (neN (by omega)) hDo
  have hps := hit.length
  have loop : codeAny (model prog w) A (.compLoop (.ListComp (.Constant (.int 1) c0 p1) [⟨.Tuple [.Name x px, .Name y py] kk tp, iter, [.Compare (.Name x p2) [.Eq] [.Name y p3] p4], 0⟩] scope pos) 0 (.ref I) (.ref (I + 1)) (compEnvC scope cl (I + 2) env))
      (compPost (model prog w) A E none Q (.ref (I + 1)) (I + 2)) { s₁ with heap := h₂, toks := s₁.toks + ([] : List (Str × Value)).length } := by
    refine kct_loop (fun n s' => ∃ i h tk ys m', s' = { s₁ with heap := h, toks := tk } ∧ n = vs.length + 1 - i ∧ i ≤ vs.length ∧ ys.length = cntEq (ps.take i) ∧ ys.length ≤ i ∧ Fr h₀ L h m ∧ News h₀ L h news ∧ h.get? (I + 1) = some (lst ys) ∧ h.IsListIter I l i ∧ h.Ns (I + 2) m') ?_ (vs.length + 1)
      ⟨0, h₂, _, [], _, rfl, rfl, Nat.zero_le _, rfl, Nat.le_refl _, F2, N2, hD2, hI2, hns₂⟩
    intro n s' r9
    show (let G9 : Prop := _; G9)
    intro G9
    obtain ⟨i, h, tk, ys, m', rfl, rfl, hi, hcnt, hyl, F', N', hD', hit', hn'⟩ := r9
    k_unfold
    have hl₁ : h.IsList l vs.toArray := ⟨_, (N' _ hl).1, rfl, nn, rfl⟩
    cases hx : vs[i]? with
    | none =>
      have hii : i = vs.length := Nat.le_antisymm hi (by simpa using hx)
      refine wpAny_pyNext_list_end hh hit' hl₁ (by simpa using hx) fun h₃ he => ?_
      subst hii
      have up3 : ∀ b o, b ≠ I → h.get? b = some o → h₃.get? b = some o := fun b o hb e => he b o hb e
      refine ⟨m', ?_, fun h₄ hs₄ => ?_⟩
      · exact hn'.at' fun o e => up3 _ o (neN (by omega)) e
      · have hk : ∀ b o, b ≠ I → b ≠ I + 2 → h.get? b = some o → h₄.get? b = some o := fun b o hb hb2 e => hs₄.extBut b o hb2 (up3 b o hb e)
        refine hQ (I + 1) ys h₄ tk ?_ ?_ ?_
        · rw [hcnt, hps, List.take_length]
        · exact ⟨F'.ns.at' fun o e => hk _ o hLne0 hLne e, fun b o e => hk b o (fun q => by rw [q, fresh₀ I (Nat.le_refl _)] at e; cases e) (fun q => by rw [q, fresh₀ (I + 2) (by omega)] at e; cases e) (F'.keep b o e), F'.above⟩
        · intro p hp
          rcases List.mem_cons.mp hp with rfl | hp
          · exact ⟨hk _ _ (neN (by omega)) (neN (by omega)) hD', hLne1.symm, fresh₀ _ (by omega)⟩
          · have z := nI p hp
            exact ⟨hk _ _ (neN (by omega)) (neN (by omega)) (N' p hp).1, (N' p hp).2⟩
    | some v =>
      have hlt : i < vs.length := by
        rcases List.getElem?_eq_some_iff.mp hx with ⟨h1, _⟩; exact h1
      obtain ⟨⟨a, b⟩, hab2⟩ : ∃ p, ps[i]? = some p := ⟨_, List.getElem?_eq_getElem (hps ▸ hlt)⟩
      show (let G9 : Prop := _; G9)
      intro G9
      obtain ⟨q, n9, ta, tb, hq, hmem⟩ := hit.get hab2
      k_unfold
      rw [hx] at hq; cases hq
      refine wpAny_pyNext_list_item hit' hl₁ (by simpa using hx) fun h₃ hiter₃ hs₃ => ?_
      refine letGo_list hiter₃ ?_
      have ne0 : ∀ p ∈ news, p.1 ≠ I ∧ p.1 ≠ I + 1 ∧ p.1 ≠ I + 2 := fun p hp => by
        have z := nI p hp
        exact ⟨neN (by omega), neN (by omega), neN (by omega)⟩
      have ht : h₃.IsTuple q #[.str (Tx [a]) ta, .str (Tx [b]) tb] := ⟨_, hs₃.extBut _ _ (ne0 _ hmem).1 (N' _ hmem).1, rfl, n9, rfl⟩
      have hn₃ : h₃.Ns (I + 2) m' := hn'.at' fun o e => hs₃.extBut _ o (neN (by omega)) e
      refine kcp_assign (env := compEnvC scope cl (I + 2) env) hh ht (lookup_relabel_local hxa) (lookup_relabel_local hxb) (by simp [compEnvC, relabel, hkind]) hn₃ fun h₄ tk₄ hn₄ hk₄ => ?_
      have keep : ∀ b o, b ≠ I → b ≠ I + 2 → h.get? b = some o → h₄.get? b = some o := fun b o h1 h2 e => hk₄ b o (by show b ≠ I + 2; exact h2) (hs₃.extBut b o h1 e)
      have F4 : Fr h₀ L h₄ m := ⟨F'.ns.at' fun o e => keep _ o hLne0 hLne e, fun b o e => keep b o (fun q => by rw [q, fresh₀ I (Nat.le_refl _)] at e; cases e) (fun q => by rw [q, fresh₀ (I + 2) (by omega)] at e; cases e) (F'.keep b o e), F'.above⟩
      have N4 : News h₀ L h₄ news := fun p hp => ⟨keep _ _ (ne0 p hp).1 (ne0 p hp).2.2 (N' p hp).1, (N' p hp).2⟩
      have hD4 : h₄.get? (I + 1) = some (lst ys) := keep _ _ (neN (by omega)) (neN (by omega)) hD'
      have hI4 : h₄.IsListIter I l (i + 1) := by
        show (let G9 : Prop := _; G9)
        intro G9
        obtain ⟨o, ho, hc, hd⟩ := hiter₃
        k_unfold
        exact ⟨o, hk₄ _ _ (neN (by show I ≠ I + 2; omega)) ho, hc, hd⟩
      refine test_eq (a := a) (b := b) (ta := ta) (tb := tb) hkind (lookup_relabel_local hxa) (lookup_relabel_local hxb) hdx hdy hn₄ (by simp [hab]) (by simp) ?_
      have hct := cntEq_take hab2
      by_cases e : a = b
      · simp only [e, decide_true, if_true]
        rw [if_pos e] at hct
        refine lit_int _ fun v tk5 _ => ?_
        refine append_at (D := I + 1) (hsz := by show ys.toArray.size ≤ sizeLine; rw [List.size_toArray, sizeLine_eq]; omega) hD4 fun h₆ hs₆ hD₆ => ?_
        have hn₆ := hn₄.at' (h' := h₆) fun o e => hs₆.extBut _ o (neN (by show I + 2 ≠ I + 1; omega)) e
        have hI6 : h₆.IsListIter I l (i + 1) := by
          show (let G9 : Prop := _; G9)
          intro G9
          obtain ⟨o, ho, hc, hd⟩ := hI4
          k_unfold
          exact ⟨o, hs₆.extBut _ _ (neN (by omega)) ho, hc, hd⟩
        exact ⟨vs.length + 1 - (i + 1), by omega, i + 1, h₆, tk5, ys ++ [v], _, rfl, rfl, hlt, by rw [List.length_append, hct, hcnt]; simp, by rw [List.length_append]; simpa using hyl, F4.change hs₆ hLne1.symm (fresh₀ _ (by omega)), fun p hp => ⟨hs₆.extBut _ _ (ne0 p hp).2.1 (N4 p hp).1, (N4 p hp).2⟩, by rw [hD₆]; exact congrArg some (lst_snoc ys v), hI6, hn₆⟩
      · simp only [e, decide_false, Bool.false_eq_true, if_false]
        rw [if_neg e] at hct
        exact ⟨vs.length + 1 - (i + 1), by omega, i + 1, h₄, _, ys, _, rfl, rfl, hlt, by rw [hct, hcnt]; simp, Nat.le_succ_of_le hyl, F4, N4, hD4, hI4, hn₄⟩
  exact codeAny_compStart_list loop (wpAny_pyIter_listiter hI2 loop)
end
end
section
theorem kw_C7 : True := by
  k_with_none
  k_with "sub" => ((repeat (refine List.forall_mem_cons.mpr ⟨by k_mem, ?_⟩)); (first | exact List.forall_mem_nil _ | (intro p hp; repeat (first | exact hp | apply List.Mem.tail))))
  k_with "enter" => (refine wpAny_call ?_; walk_at "enterC")
  k_with "enterC" => (k_dflt (refine' code_def ?q9k1 ?q9k2 ?q9k3 ?q9k4 ?q9k5 ?q9kA ?q9kF ?q9kK ?q9k6 ?q9k7 ?q9k8 ?q9k9 ?q9kB ?_ ?q9c2 ?q9c3 ?q9c4 ?q9c5; (case q9kA => exact rfl); (case q9kF => exact rfl); (case q9kK => assumption); (case q9k1 => k_asm); (case q9k2 => k_asm); (case q9k3 => k_asm); (case q9k4 => k_asm); (case q9k5 => k_asm); (case q9k6 => k_is); (case q9k7 => k_is); (case q9k8 => ktr_room); (case q9k9 => first | exact BindsTo.of_eq rfl | exact binds_K (by k_in) rfl (by k_is) rfl rfl rfl | (refine' kp_binds ?q9kx ?q9ke; (case q9kx => k_in); (case q9ke => exact fun _ => rfl)) | fail "enter: no rule for these arguments"); (case q9c5 => decide); (case q9kB => exact locs rfl); (case q9c2 => exact rfl); (case q9c3 => exact rfl); (case q9c4 => exact rfl); k_whole; intro g' L' h' FG' F' N' B' X' T'; (try dsimp only); (try k_lift B'); (try k_fold)))
  k_with "execs cons" => ((with_reducible refine wpAny_execs_cons ?_); (try dsimp only); k_fold)
  k_with "call builtin:str.lower" => (k_dflt (refine' low_call ?q9k1 ?_; (case q9k1 => first | assumption | exact L7_14 (by assumption)); k_whole; intro _ _))
  k_with "call builtin:str.upper" => (k_dflt (refine' upp_call ?q9k1 ?_; (case q9k1 => assumption); k_whole; intro _ _))
  k_with "call ref" => ((try k_fold); k_dflt (refine' Ct.use (ct_conv_name ?q9hc) ?q9B ?q9F ?q9X ?q9N ?q9T ?q9hk ?q9hd ?q9hu ?_; (case q9hc => assumption); (case q9B => k_asm); (case q9F => k_asm); (case q9X => k_asm); (case q9N => k_asm); (case q9T => k_asm); (case q9hk => exact rfl); (case q9hd => ktr_room); (case q9hu => ktr_units); k_whole; intro _ _ _ _ r9 _ _; obtain ⟨rfl, rfl⟩ := r9))
  k_with "call ref" => ((try k_fold); k_dflt (refine' Ct.use (ct_conv_value ?q9hc) ?q9B ?q9F ?q9X ?q9N ?q9T ?q9hk ?q9hd ?q9hu ?_; (case q9hc => assumption); (case q9B => k_asm); (case q9F => k_asm); (case q9X => k_asm); (case q9N => k_asm); (case q9T => k_asm); (case q9hk => exact rfl); (case q9hd => ktr_room); (case q9hu => ktr_units); k_whole; intro _ _ _ _ r9 _ _; obtain ⟨rfl, rfl⟩ := r9))
  k_with "call ref" => ((try k_fold); k_dflt (refine' Ct.use (ct_get ?q9hc ?q9hi ?q9hp) ?q9B ?q9F ?q9X ?q9N ?q9T ?q9hk ?q9hd ?q9hu ?_; (case q9N => k_asm); (case q9hc => assumption); (case q9hi => assumption); (case q9hp => assumption); (case q9B => k_asm); (case q9F => k_asm); (case q9X => k_asm); (case q9T => k_asm); (case q9hk => exact rfl); (case q9hd => ktr_room); (case q9hu => ktr_units); k_whole; intro _ _ _ _ r9 _ _; obtain ⟨rfl, _⟩ := r9))
  k_with "call builtin:str.join" => (k_dflt (refine' join_one ?q9z1 ?q9z2 ?q9z3 ?_; (case q9z1 => k_asm); (case q9z2 => k_mem); (case q9z3 => exact rfl); k_whole; intro _ _))
  k_with "call ref" => (((try k_fold); k_dflt (refine' Ct.use ct_new ?q9B ?q9F ?q9X ?q9N ?q9T ?q9hk ?q9hd ?q9hu ?_; (case q9N => k_asm); (case q9B => k_asm); (case q9F => k_asm); (case q9X => k_asm); (case q9T => k_asm); (case q9hk => exact rfl); (case q9hd => ktr_room); (case q9hu => ktr_units); k_whole; intro _ _ _ _ r9 _ _; obtain ⟨_, _, _, _, _, _, _, rfl, rfl, _, _, l3⟩ := r9; replace l3 := allLt_of l3; (try simp only [AllLt, and_true] at l3))); (try (revert l3; intro _)))
  k_with "call ref" => (((try k_fold); k_dflt (refine' Ct.use (ct_add ?q9hk14 ?q9hv7 ?q9hne ?q9hrest ?q9hlen) ?q9B ?q9F ?q9X ?q9N ?q9T ?q9hk ?q9hd ?q9hu ?_; (case q9N => k_asm); (case q9hk14 => first | assumption | exact L7_14 (by assumption) | exact upp_in (by assumption)); (case q9hv7 => assumption); (case q9hne => (refine ⟨neN ?_, neN ?_, neN ?_⟩ <;> omega)); (case q9hrest => k_all); (case q9hlen => first | assumption | (simp only [List.length_cons, List.length_nil, List.length_append]; (try omega))); (case q9B => k_asm); (case q9F => k_asm); (case q9X => k_asm); (case q9T => k_asm); (case q9hk => exact rfl); (case q9hd => ktr_room); (case q9hu => ktr_units); k_whole; intro _ _ _ _ r9 _ _; obtain ⟨rfl, _, _, _, _, _, rfl, _, _, _, l4⟩ := r9; replace l4 := allLt_of l4; (try simp only [AllLt, and_true] at l4))); (try (revert l4; intro _)))
  k_with "subscriptTail" => (k_here; (with_reducible show wpAny _ _ (subscriptTail _ _ (Value.str (Tx _) _) (Value.int _ _)) _ _ _); (refine' item_tx rfl ?q9k1 ?q9k2 ?_; (case q9k1 => first | assumption | decide); (case q9k2 => first | assumption | exact rfl); intro _ _))
  k_with "subscriptTail Name Name str int" => (k_here; (with_reducible show wpAny _ _ (subscriptTail _ _ (Value.str (Tx _) _) (Value.int _ _)) _ _ _); (refine' item_tx rfl ?q9k1 ?q9k2 ?_; (case q9k1 => first | assumption | decide); (case q9k2 => first | assumption | exact rfl); intro _ _))
  k_with "call ref" => ((rename News _ _ _ (_ :: _ :: _ :: _ :: _) => N5; have N6 := news_rot4 N5; clear N5; (try k_fold); k_dflt (refine' Ct.use (ct_add ?q9hk14 ?q9hv7 ?q9hne ?q9hrest ?q9hlen) ?q9B ?q9F ?q9X ?q9N ?q9T ?q9hk ?q9hd ?q9hu ?_; (case q9N => exact N6); (case q9hk14 => first | assumption | exact L7_14 (by assumption) | exact upp_in (by assumption)); (case q9hv7 => assumption); (case q9hne => (refine ⟨neN ?_, neN ?_, neN ?_⟩ <;> omega)); (case q9hrest => first | assumption | ((repeat (refine List.forall_mem_cons.mpr ⟨neN (by omega), ?_⟩)); first | assumption | exact ne_allLt (by assumption) (by omega))); (case q9hlen => first | assumption | omega | (simp only [List.length_cons, List.length_nil, List.length_append]; (try omega))); (case q9B => k_asm); (case q9F => k_asm); (case q9X => k_asm); (case q9T => k_asm); (case q9hk => exact rfl); (case q9hd => ktr_room); (case q9hu => ktr_units); clear N6; k_whole; intro _ _ _ _ r9 _ N9; obtain ⟨rfl, _, _, _, _, _, rfl, _, _, _, _⟩ := r9; replace N9 := news_rot5 N9)); (try (revert N9; intro _)))
  k_with "call ref" => ((try k_fold); k_dflt (refine' Ct.use (ct_contains_b ?q9hc ?q9hi ?q9hp ?q9hb) ?q9B ?q9F ?q9X ?q9N ?q9T ?q9hk ?q9hd ?q9hu ?_; (case q9N => k_asm); (case q9hc => assumption); (case q9hi => assumption); (case q9hp => assumption); (case q9hb => assumption); (case q9B => k_asm); (case q9F => k_asm); (case q9X => k_asm); (case q9T => k_asm); (case q9hk => exact rfl); (case q9hd => ktr_room); (case q9hu => ktr_units); k_whole; intro _ _ _ _ r9 _ _; obtain ⟨rfl, rfl⟩ := r9))
  k_with "call builtin:str.index" => (k_here; k_dflt (refine' index_tx lit_abc (ix_abc ?q9hc) ?_; (case q9hc => assumption); k_whole; intro _ _))
  k_with "subscriptTail" => (k_here; (with_reducible show wpAny _ _ (subscriptTail _ _ (Value.str (Str.ofString _) _) (Value.int _ _)) _ _ _); (refine' item_tx lit_bcd (fits_abc ?q9hc) (item_bcd ?q9hc2) ?_; (case q9hc => assumption); (case q9hc2 => assumption); intro _ _))
  k_with "call ref" => (k_here; rename News _ _ _ (_ :: _ :: _ :: _ :: _ :: _ :: _ :: _ :: _ :: _) => N5; have N6 := news_info N5; (try k_fold); k_dflt (refine' Ct.use (ct_info ?q9hc ?q9hi ?q9hp ?q9hf) ?q9B ?q9F ?q9X ?q9N ?q9T ?q9hk ?q9hd ?q9hu ?_; (case q9N => exact N6); (case q9hc => assumption); (case q9hi => refine ItemsIn.mono (by assumption) (fun p hp => .tail _ (.tail _ (.tail _ (.tail _ (.tail _ hp)))))); (case q9hp => assumption); (case q9hf => assumption); (case q9B => k_asm); (case q9F => k_asm); (case q9X => k_asm); (case q9T => k_asm); (case q9hk => exact rfl); (case q9hd => ktr_room); (case q9hu => ktr_units); clear N5 N6; k_whole; intro _ _ _ _ r9 _ _; obtain ⟨_, _, _, rfl, rfl⟩ := r9))
  k_with "call ref" => ((try k_fold); k_dflt (refine' Ct.use (ct_items ?q9hi ?q9hl) ?q9B ?q9F ?q9X ?q9N ?q9T ?q9hk ?q9hd ?q9hu ?_; (case q9N => k_asm); (case q9hi => assumption); (case q9hl => assumption); (case q9B => k_asm); (case q9F => k_asm); (case q9X => k_asm); (case q9T => k_asm); (case q9hk => exact rfl); (case q9hd => ktr_room); (case q9hu => ktr_units); k_whole; intro _ _ _ _ r9 _ _; obtain ⟨_, _, rfl, rfl⟩ := r9))
  k_with "eval ListComp" => (k_here; k_dflt (refine' comp_pairs ?q9k0 (by exact rfl) (by decide) (by exact rfl) (by decide) (by exact rfl) (by exact rfl) (by decide) (by decide) (by decide) ?_; (case q9k0 => k_asm)))
  trivial
section
variable {w : World} {p : Program} {loose : List Str} {mean : ExcName → Option Value} {mg mb : Str → Option Value} {t : Tok} {row : List Nat} {nR : Nat} {rest : List (Addr × Obj)}
set_option maxHeartbeats 8000000 in
theorem ct_rings (hl : row.length = 7) (hin : ∀ c ∈ row, c ∈ L7) (hR : ringsM row = some nR) :
    Ct w (hd.heap_39 w.params) p loose mean mg mb (.ref 323) [.str (Tx row) t] [] 44 132 rest
      (fun r news' => ∃ t, r = .int nR t ∧ news' = rest) := by
  intro dp un gd cn cs a ccd cl outer A₀ base h₀ L m s Q E B F X N T hk hdp hun hret
  show (let G9 : Prop := _; G9)
  intro G9
  obtain ⟨kd, nms, g1, g2, g3⟩ := cs
  k_unfold
  dsimp only at hk
  subst hk
  iterate 60 (first | (with_reducible show RangeRest _ _ _ _ _ _ _ _ _ _ _ _ _ _ _ _ _) | (k_unfold; (try dsimp only)) | (k_end; wrow_close) | walk1)
  rename_i x1 dx1 l1 hs1 ks1 nd1 nl1 o1 o2 o3 _ _ _ _ _ _ _ _ _ _ I1 o4
  refine rangeRest_1 (fun i news => ∃ vs nl tl, news = (x1, instObj 274 dx1) :: (dx1, dictOf [⟨hs1, .str "_headers" ks1, .ref l1⟩] nd1) :: (l1, listOf vs.toArray nl) :: tl ∧ ItemsIn tl vs ((aheadM row).take i) ∧ (∀ p ∈ tl, p.1 ≠ l1) ∧ (∀ p ∈ rest, p ∈ tl) ∧ (∀ p ∈ tl, p.1 ≠ I1) ∧ vs.length = i) ?_ ?_ ?_
  case refine_1 =>
    show (let G9 : Prop := _; G9)
    intro G9
    obtain ⟨p1, p2, p3, p4⟩ := o4
    k_unfold
    exact ⟨[], nl1, rest, rfl, .nil, ne_allLt o3 (by omega), fun p hp => hp, ne_allLt p4 (Nat.le_refl _), rfl⟩
  case refine_2 =>
    intro i news hi r9 t h tk F N
    show (let G9 : Prop := _; G9)
    intro G9
    obtain ⟨vs, nl, tl, rfl, hit, hne1, hsub, hne2, hlen⟩ := r9
    k_unfold
    have hc1 := row_in hl hin hi
    have hc2 := row_in' hl hin (i := i)
    obtain ⟨hf1, hf2⟩ := fits_row hi
    have hi1 := item_row hl hi
    have hi2 := item_row' hl hi
    show (let G9 : Prop := _; G9)
    intro G9
    obtain ⟨p1, p2, p3, p4⟩ := o4
    k_unfold
    have hlen9 : vs.length ≤ 1000 := by omega
    have hrest9 : ∀ p ∈ (I1, itR (0 + ((i + 1 : Nat) : Int)) (((7 : Nat) : Int) - ((i + 1 : Nat) : Int))) :: tl, p.1 ≠ l1 := List.forall_mem_cons.mpr ⟨neN (by omega), hne1⟩
    k_steps
    rename_i q9 m9 ta9 tb9 nl9 b1 b2 b3 b4 N9
    have bI : @LT.lt Nat _ I1 q9 := b4 _ (.head _)
    refine UnrEnd.intro (by assumption) N9 _ (fun p hp => hp) ?off ⟨⟨vs ++ [Value.ref q9], nl9, _ :: tl, rfl, ?it, ?n1, ?sub, ?n2, by simp [hlen]⟩, fun z h1 => by simp [h1]⟩
    case off => exact List.forall_mem_cons.mpr ⟨neN (by omega), List.forall_mem_cons.mpr ⟨neN (by omega), List.forall_mem_cons.mpr ⟨neN (by omega), List.forall_mem_cons.mpr ⟨neN (by omega), hne2⟩⟩⟩⟩
    case it => rw [ahead_take hi]; exact (hit.mono fun p hp => .tail _ hp).snoc (.head _)
    case n1 => exact List.forall_mem_cons.mpr ⟨neN (by omega), hne1⟩
    case sub => exact fun p hp => .tail _ (hsub p hp)
    case n2 => exact List.forall_mem_cons.mpr ⟨neN (by omega), hne2⟩
  case refine_3 =>
    intro v news h tk r9 F N
    show (let G9 : Prop := _; G9)
    intro G9
    obtain ⟨vs, nl, tl, rfl, hit, hne1, hsub, hne2, hlen⟩ := r9
    k_unfold
    rw [show (aheadM row).take 7 = aheadM row from List.take_of_length_le (by simp [aheadM])] at hit
    clear o4 hne2
    iterate 60 (first | (with_reducible show StrRest _ _ _ _ _ _ _ _ _ _ _ _ _ _) | (k_unfold; (try dsimp only)) | (k_end; wrow_close) | walk1)
    rename_i x2 dx2 l2 hs2 ks2 nd2 nl2 e1 e2 e3 _ I2 e4
    have hA := ahead_in hl hin
    unfold ringsM at hR
    cases hRL : ringsLoop (aheadM row) [97, 98, 99, 100, 101, 102, 103] [] with
    | none => rw [hRL] at hR; cases hR
    | some res =>
    rw [hRL] at hR
    have hnR := Option.some.inj hR
    show (let G9 : Prop := _; G9)
    intro G9
    obtain ⟨i1, i2, i3, i4⟩ := e3
    k_unfold
    show (let G9 : Prop := _; G9)
    intro G9
    obtain ⟨j1, j2, j3, j4, j5, j6, j7⟩ := e4
    k_unfold
    refine strRest_2 (Str.ofString "word") (fun i news => ∃ ps vs2 nl2 tl2, ringsLoop (aheadM row) (abcL.drop i) ps = some res ∧ news = (x2, instObj 274 dx2) :: (dx2, dictOf [⟨hs2, .str "_headers" ks2, .ref l2⟩] nd2) :: (l2, listOf vs2.toArray nl2) :: (x1, instObj 274 dx1) :: (dx1, dictOf [⟨hs1, .str "_headers" ks1, .ref l1⟩] nd1) :: (l1, listOf vs.toArray nl) :: tl2 ∧ RInv tl l2 I2 ps vs2 tl2) _ ?_ ?_ ?_
    · exact ⟨[], [], nl2, tl, hRL, rfl, .nil, fun p hp => hp, ne_allLt i4 (by omega), ne_allLt j7 (Nat.le_refl _), fun q hq => (nomatch hq)⟩
    · intro i c news v2 hci r9 u it h tk F N
      show (let G9 : Prop := _; G9)
      intro G9
      obtain ⟨ps, vs2, nl2, tl2, hrl, rfl, inv⟩ := r9
      k_unfold
      obtain ⟨f, hf, rfl⟩ : ∃ f, abcL[i]? = some f ∧ c = Tx [f] := by
        have : (abcL.map fun c => Tx [c])[i]? = some c := hci
        rw [List.getElem?_map] at this
        cases hq : abcL[i]? with
        | none => rw [hq] at this; cases this
        | some f => rw [hq] at this; exact ⟨f, rfl, (Option.some.inj this).symm⟩
      show (let G9 : Prop := _; G9)
      intro G9
      obtain ⟨ps', hch, hrl', hf7⟩ := rings_step hf hrl
      k_unfold
      iterate 12 (first | (with_reducible show wpAny _ _ (exec (Stmt.While _ _ _ _) _) _ _ _) | (k_unfold; (try dsimp only)) | (k_end; wrow_close) | walk1)
      rename_i h5 F5 N5
      refine while_1 (Str.ofString "word") (fun n v news => ∃ c t ps vs2 nl2 tl2, v = .str (Tx [c]) t ∧ c ∈ L7 ∧ chaseM (aheadM row) f n c ps = some ps' ∧ news = (x2, instObj 274 dx2) :: (dx2, dictOf [⟨hs2, .str "_headers" ks2, .ref l2⟩] nd2) :: (l2, listOf vs2.toArray nl2) :: (I2, it) :: (x1, instObj 274 dx1) :: (dx1, dictOf [⟨hs1, .str "_headers" ks1, .ref l1⟩] nd1) :: (l1, listOf vs.toArray nl) :: tl2 ∧ RInv tl l2 I2 ps vs2 tl2) F5 (cb_drop N5 (by walk_at "sub")) rfl ⟨f, u, ps, vs2, nl2, tl2, rfl, hf7, hch, rfl, inv⟩ ?_
      clear N5 F5 hch inv hrl N F
      intro n v news h tk F N r9
      show (let G9 : Prop := _; G9)
      intro G9
      obtain ⟨c, t, ps, vs2, nl2, tl2, rfl, hc7, hch, rfl, inv⟩ := r9
      k_unfold
      show (let G9 : Prop := _; G9)
      intro G9
      obtain ⟨k, rfl, hlen2, hcase⟩ := chase_step hch
      k_unfold
      have hit2 : ItemsIn ((I2, it) :: (x1, instObj 274 dx1) :: (dx1, dictOf [⟨hs1, .str "_headers" ks1, .ref l1⟩] nd1) :: (l1, listOf vs.toArray nl) :: tl2) vs2 ps := inv.hit.mono (by walk_at "sub")
      have hps : ∀ q ∈ ps, q.1 ∈ L14 := fun q hq => L7_14 (inv.in7 q hq).1
      have hlen3 : vs2.length ≤ 1000 := by rw [inv.hit.length]; omega
      have hrest2 : ∀ p ∈ ((I2, it) :: (x1, instObj 274 dx1) :: (dx1, dictOf [⟨hs1, .str "_headers" ks1, .ref l1⟩] nd1) :: (l1, listOf vs.toArray nl) :: tl2), p.1 ≠ l2 :=
        List.forall_mem_cons.mpr ⟨neN (by omega), List.forall_mem_cons.mpr ⟨neN (by omega), List.forall_mem_cons.mpr ⟨neN (by omega), List.forall_mem_cons.mpr ⟨neN (by omega), inv.ne1⟩⟩⟩⟩
      have hitA : ItemsIn tl2 vs (aheadM row) := hit.mono inv.sub
      have hA14 : ∀ q ∈ aheadM row, q.1 ∈ L14 := fun q hq => (hA q hq).1
      have hs7 := succ7_in hc7
      rcases hcase with ⟨hb, rfl⟩ | ⟨hb, a, v, hfi, hch'⟩
      · clear hit
        k_steps
        rename_i F9 N9
        refine UnrEnd.intro F9 (cb_drop N9 (by walk_at "sub")) ((x2, instObj 274 dx2) :: (dx2, dictOf [⟨hs2, .str "_headers" ks2, .ref l2⟩] nd2) :: (l2, listOf vs2.toArray nl2) :: (x1, instObj 274 dx1) :: (dx1, dictOf [⟨hs1, .str "_headers" ks1, .ref l1⟩] nd1) :: (l1, listOf vs.toArray nl) :: tl2) (fun p hp => hp) ?off ⟨⟨ps', vs2, nl2, tl2, hrl', rfl, inv⟩, fun z z1 z2 => by simp [z1, z2]⟩
        case off => exact List.forall_mem_cons.mpr ⟨neN (by omega), List.forall_mem_cons.mpr ⟨neN (by omega), List.forall_mem_cons.mpr ⟨neN (by omega), List.forall_mem_cons.mpr ⟨neN (by omega), List.forall_mem_cons.mpr ⟨neN (by omega), List.forall_mem_cons.mpr ⟨neN (by omega), inv.ne2⟩⟩⟩⟩⟩⟩
      · clear hit
        k_steps
        rename_i q9 m9 ta9 tb9 nl9 z1 z2 z3 z4 _ _ _ _ _ _ _ _ _ _ tbb _ _ FF NN
        exact ⟨_, _, _, _, k, _, rfl, FF, news_back NN, Nat.lt_succ_self _, ⟨v, tbb, ps ++ [(c, f)], vs2 ++ [Value.ref q9], nl9, _ :: tl2, rfl, (hA _ (find_in hfi)).2, hch', rfl, inv.add hc7 hf7 z3 z4.1⟩, rfl, fun z z1 => by simp [z1]⟩
    · intro v v' news h tk r9 F N
      show (let G9 : Prop := _; G9)
      intro G9
      obtain ⟨ps, vs2, nl2, tl2, hrl, rfl, inv⟩ := r9
      k_unfold
      have hres : ps = res := Option.some.inj hrl
      subst hres
      clear hrl
      have hlen3 : ps.length ≤ 100 := rings_len hRL
      clear hRL
      have hit2 : ItemsIn ((x1, instObj 274 dx1) :: (dx1, dictOf [⟨hs1, .str "_headers" ks1, .ref l1⟩] nd1) :: (l1, listOf vs.toArray nl) :: tl2) vs2 ps := inv.hit.mono (by walk_at "sub")
      k_steps
      rename_i F9 D9 m9 N9
      refine ⟨D9, m9, vs2, ps, _, rfl, rfl, F9, N9, .head _, inv.hit.mono (by walk_at "sub"), by rw [inv.hit.length]; omega, ?_⟩
      clear F9 F N hR
      intro D ys h' tk' hys F' N'
      clear N9
      k_steps
      have hcn : cntEq ps = nR := hnR
      have hns : ∀ p ∈ rest, p ∈ (D, LCg.lst ys) :: (D9, listOf vs2.toArray m9) :: (x2, instObj 274 dx2) :: (dx2, dictOf [⟨hs2, .str "_headers" ks2, .ref l2⟩] nd2) :: (l2, listOf vs2.toArray nl2) :: (x1, instObj 274 dx1) :: (dx1, dictOf [⟨hs1, .str "_headers" ks1, .ref l1⟩] nd1) :: (l1, listOf vs.toArray nl) :: tl2 :=
        fun p hp => .tail _ (.tail _ (.tail _ (.tail _ (.tail _ (.tail _ (.tail _ (.tail _ (inv.sub p (hsub p hp)))))))))
      refine len_list (items := ys.toArray) ⟨_, (N' _ (.head _)).1, rfl, _, rfl⟩ (by rw [List.size_toArray, hys, hcn]; have := hlen3; have : cntEq ps ≤ ps.length := List.length_filter_le _ _; omega) ?_
      rw [List.size_toArray, hys, hcn]
      k_steps
      rename News _ _ _ _ => N7
      exact hret _ _ _ _ ⟨_, rfl, rfl⟩ (by k_asm) (cb_drop N7 hns)
end
end
section
/-- values that are one-letter texts -/
inductive LtrsIn : List Value → List Nat → Prop
  | nil : LtrsIn [] []
  | cons {c t vs cs} : LtrsIn vs cs → LtrsIn (.str (Tx [c]) t :: vs) (c :: cs)
theorem LtrsIn.length {vs : List Value} {cs : List Nat} (h : LtrsIn vs cs) : vs.length = cs.length := by
  induction h with
  | nil => rfl
  | cons _ ih => simp [ih]
theorem LtrsIn.get {vs : List Value} {cs : List Nat} (h : LtrsIn vs cs) {i c : Nat} (e : cs[i]? = some c) : ∃ t, vs[i]? = some (.str (Tx [c]) t) := by
  induction h generalizing i with
  | nil => simp at e
  | @cons c' t vs cs _ ih =>
    cases i with
    | zero => cases e; exact ⟨t, rfl⟩
    | succ i => exact ih (by simpa using e)
theorem LtrsIn.append {vs us : List Value} {cs ds : List Nat} (h : LtrsIn vs cs) (h2 : LtrsIn us ds) : LtrsIn (vs ++ us) (cs ++ ds) := by
  induction h with
  | nil => exact h2
  | cons _ ih => exact .cons ih
theorem LtrsIn.take {vs : List Value} {cs : List Nat} (h : LtrsIn vs cs) (i : Nat) : LtrsIn (vs.take i) (cs.take i) := by
  induction h generalizing i with
  | nil => simp; exact .nil
  | cons _ ih =>
    cases i with
    | zero => exact .nil
    | succ i => exact .cons (ih i)
theorem LtrsIn.drop {vs : List Value} {cs : List Nat} (h : LtrsIn vs cs) (i : Nat) : LtrsIn (vs.drop i) (cs.drop i) := by
  induction h generalizing i with
  | nil => simp; exact .nil
  | cons h ih =>
    cases i with
    | zero => exact .cons h
    | succ i => exact ih i
section
variable {prog : Program} {w : World} {A : Around} {E : Value → Shared → Prop} {s : Shared} {env : Env} {h₀ : Heap} {x : Str} {body : List Stmt} {Q : Flow → Shared → Prop} {I : Addr} {m₀ : Str → Option Value} {news₀ : List (Addr × Obj)}
/-- the end of a turn of a while that changes three names -/
noncomputable def WStep3 (h₀ : Heap) (L : Addr) (s : Shared) (x y z : Str) (m₀ : Str → Option Value) (J : Nat → Value → Value → List (Addr × Obj) → Prop) (Q : Flow → Shared → Prop) (n : Nat) (f : Flow) (s₃ : Shared) : Prop :=
  match f with
  | .next | .cont => ∃ h' tk m₂ news₂ n' v₁ v₂, s₃ = { s with heap := h', toks := tk } ∧ Fr h₀ L h' m₂ ∧ News h₀ L h' news₂ ∧ n' < n ∧ J n' v₁ v₂ news₂ ∧ m₂ x = some v₁ ∧ m₂ y = some v₂ ∧ ∀ u, u ≠ x → u ≠ y → u ≠ z → m₂ u = m₀ u
  | .brk => Q .next s₃
  | .ret v => Q (.ret v) s₃
theorem fun3 {m m₀ : Str → Option Value} {x y z : Str} {v₁ v₂ : Value} (hx : m x = some v₁) (hy : m y = some v₂) (hm : ∀ u, u ≠ x → u ≠ y → u ≠ z → m u = m₀ u) :
    m = fun u => if u = x then some v₁ else if u = y then some v₂ else if u = z then m z else m₀ u := by
  funext u
  by_cases h1 : u = x
  · simp only [if_pos h1]; rw [h1, hx]
  · by_cases h2 : u = y
    · simp only [if_neg h1, if_pos h2]; rw [h2, hy]
    · by_cases h3 : u = z
      · simp only [if_neg h1, if_neg h2, if_pos h3]; rw [h3]
      · simp only [if_neg h1, if_neg h2, if_neg h3]; exact hm u h1 h2 h3
theorem while_3 {test : Expr} {pos : Pos} {L : Addr} (x y z : Str) (J : Nat → Value → Value → List (Addr × Obj) → Prop) {n₀ : Nat} {v₁ v₂ : Value}
    (F : Fr h₀ L s.heap m₀) (N : News h₀ L s.heap news₀) (hx : m₀ x = some v₁) (hy : m₀ y = some v₂) (hJ : J n₀ v₁ v₂ news₀)
    (turn : ∀ n v₁ v₂ v₃ news h tk, Fr h₀ L h (fun u => if u = x then some v₁ else if u = y then some v₂ else if u = z then v₃ else m₀ u) → News h₀ L h news → J n v₁ v₂ news →
      wpAny (model prog w) A (isTrue test env (eval test env)) (fun b s₂ =>
        if b = true then wpAny (model prog w) A (execs body env) (WStep3 h₀ L s x y z m₀ J Q n) E s₂ else Q .next s₂) E { s with heap := h, toks := tk })
    (hE : PassesOwn (model prog w) A env E := by passes_own) :
    wpAny (model prog w) A (exec (.While test body [] pos) env) Q E s := by
  refine While_inv2 (fun n m news => ∃ v₁ v₂, m x = some v₁ ∧ m y = some v₂ ∧ (∀ u, u ≠ x → u ≠ y → u ≠ z → m u = m₀ u) ∧ J n v₁ v₂ news) F N ⟨v₁, v₂, hx, hy, fun _ _ _ _ => rfl, hJ⟩ ?_ hE
  intro n m news h tk F N r9
  show (let G9 : Prop := _; G9)
  intro G9
  obtain ⟨v₁, v₂, hx, hy, hm, hJ⟩ := r9
  k_unfold
  rw [fun3 hx hy hm] at F
  refine wpAny_mono (turn n v₁ v₂ (m z) news h tk F N hJ) (fun b s₂ hb => ?_) fun _ _ e => e
  cases b with
  | false => exact hb
  | true =>
    refine wpAny_mono hb (fun f s₃ h₃ => ?_) fun _ _ e => e
    cases f with
    | next => obtain ⟨h', tk, m₂, news₂, n', u₁, u₂, rfl, F', N', hn, hJ', hx', hy', hm'⟩ := h₃; exact ⟨h', tk, m₂, news₂, n', rfl, F', N', hn, u₁, u₂, hx', hy', hm', hJ'⟩
    | cont => obtain ⟨h', tk, m₂, news₂, n', u₁, u₂, rfl, F', N', hn, hJ', hx', hy', hm'⟩ := h₃; exact ⟨h', tk, m₂, news₂, n', rfl, F', N', hn, u₁, u₂, hx', hy', hm', hJ'⟩
    | brk => exact h₃
    | ret r => exact h₃
end
/-- the search by halves: f tells "ahead of the place" -/
noncomputable def bisM (f : Nat → Bool) : Nat → Nat → Nat → Option Nat
  | 0, _, _ => none
  | n + 1, lo, hi => if lo < hi then (if f ((lo + hi) / 2) then bisM f n ((lo + hi) / 2 + 1) hi else bisM f n lo ((lo + hi) / 2)) else some lo
end
section
section
variable {prog : Program} {w : World} {A : Around} {E : Value → Shared → Prop} {s : Shared} {Q : Value → Shared → Prop}
theorem lt_one {a c : Nat} {t u : Tok} {b : Bool} (hb : decide (a < c) = b) (h : Q (.bool b) s) : wpAny (model prog w) A (compareOp .Lt (.str (Tx [a]) t) (.str (Tx [c]) u)) Q E s := by
  subst hb
  refine PyProof.Rows.lt_str ?_
  have e : decide ((Tx [a]).cps.toList < (Tx [c]).cps.toList) = decide (a < c) := by
    rw [decide_eq_decide]
    show List.Lex (· < ·) [a] [c] ↔ a < c
    constructor
    · intro h
      cases h with
      | rel h => exact h
      | cons h => cases h
    · exact fun h => .rel h
  rw [e]; exact h
theorem item_ltr {value slice : Expr} {l : Addr} {vs : List Value} {os : List Nat} {i a nl : Nat} {k : Int} {u : Tok} (hk : k = ((i : Nat) : Int)) (hg : s.heap.get? l = some (listOf vs.toArray nl)) (hl : LtrsIn vs os) (ha : os[i]? = some a) (hlen : os.length ≤ 100)
    (h : ∀ t, Q (.str (Tx [a]) t) s)
    (hs : subscripted slice false (.ref l) (.int k u) = operate [.ref l, .int k u] (getItem (.ref l) (.int k u)) := by with_unfolding_all rfl) (hgo : ∀ r, letTemporaryGo value (.ref l) r = pure () := by intro _; with_unfolding_all rfl) :
    wpAny (model prog w) A (subscriptTail value slice (.ref l) (.int k u)) Q E s := by
  obtain ⟨t, hv⟩ := hl.get ha
  have hi : i < os.length := (List.getElem?_eq_some_iff.mp ha).1
  refine item_listL (l := vs) ⟨_, hg, rfl, nl, rfl⟩ (by omega) (by omega) (x := .str (Tx [a]) t) ?_ (h t) hs hgo
  rw [hk]; exact hv
end
theorem mid_eq (lo hi : Nat) : ((lo : Int) + (hi : Int)).fdiv 2 = (((lo + hi) / 2 : Nat) : Int) := by
  rw [show (lo : Int) + (hi : Int) = ((lo + hi : Nat) : Int) by omega]
  rw [Int.fdiv_eq_ediv_of_nonneg _ (by decide)]
  rfl
end
section
theorem kw_C8 : True := by
  k_with_none
  k_with "sub" => ((repeat (refine List.forall_mem_cons.mpr ⟨by k_mem, ?_⟩)); (first | exact List.forall_mem_nil _ | (intro p hp; repeat (first | exact hp | apply List.Mem.tail))))
  k_with "enter" => (refine wpAny_call ?_; walk_at "enterC")
  k_with "enterC" => (k_dflt (refine' code_def ?q9k1 ?q9k2 ?q9k3 ?q9k4 ?q9k5 ?q9kA ?q9kF ?q9kK ?q9k6 ?q9k7 ?q9k8 ?q9k9 ?q9kB ?_ ?q9c2 ?q9c3 ?q9c4 ?q9c5; (case q9kA => exact rfl); (case q9kF => exact rfl); (case q9kK => assumption); (case q9k1 => k_asm); (case q9k2 => k_asm); (case q9k3 => k_asm); (case q9k4 => k_asm); (case q9k5 => k_asm); (case q9k6 => k_is); (case q9k7 => k_is); (case q9k8 => ktr_room); (case q9k9 => first | exact BindsTo.of_eq rfl | exact binds_K (by k_in) rfl (by k_is) rfl rfl rfl | (refine' kp_binds ?q9kx ?q9ke; (case q9kx => k_in); (case q9ke => exact fun _ => rfl)) | fail "enter: no rule for these arguments"); (case q9c5 => decide); (case q9kB => exact locs rfl); (case q9c2 => exact rfl); (case q9c3 => exact rfl); (case q9c4 => exact rfl); k_whole; intro g' L' h' FG' F' N' B' X' T'; (try dsimp only); (try k_lift B'); (try k_fold)))
  k_with "execs cons" => ((with_reducible refine wpAny_execs_cons ?_); (try dsimp only); k_fold)
  k_with "call builtin:str.lower" => (k_dflt (refine' low_call ?q9k1 ?_; (case q9k1 => first | assumption | exact L7_14 (by assumption)); k_whole; intro _ _))
  k_with "call builtin:str.upper" => (k_dflt (refine' upp_call ?q9k1 ?_; (case q9k1 => assumption); k_whole; intro _ _))
  k_with "call ref" => ((try k_fold); k_dflt (refine' Ct.use (ct_conv_name ?q9hc) ?q9B ?q9F ?q9X ?q9N ?q9T ?q9hk ?q9hd ?q9hu ?_; (case q9hc => assumption); (case q9B => k_asm); (case q9F => k_asm); (case q9X => k_asm); (case q9N => k_asm); (case q9T => k_asm); (case q9hk => exact rfl); (case q9hd => ktr_room); (case q9hu => ktr_units); k_whole; intro _ _ _ _ r9 _ _; obtain ⟨rfl, rfl⟩ := r9))
  k_with "call ref" => ((try k_fold); k_dflt (refine' Ct.use (ct_conv_value ?q9hc) ?q9B ?q9F ?q9X ?q9N ?q9T ?q9hk ?q9hd ?q9hu ?_; (case q9hc => assumption); (case q9B => k_asm); (case q9F => k_asm); (case q9X => k_asm); (case q9N => k_asm); (case q9T => k_asm); (case q9hk => exact rfl); (case q9hd => ktr_room); (case q9hu => ktr_units); k_whole; intro _ _ _ _ r9 _ _; obtain ⟨rfl, rfl⟩ := r9))
  k_with "call builtin:len" => (k_here; (with_reducible show wpAny _ _ (call (Value.builtin "len") [Value.ref _]) _ _ _); rename News _ _ _ _ => N5; k_dflt (refine' len_list ⟨_, (N5 _ (List.Mem.head _)).1, rfl, _, rfl⟩ ?q9z1 ?_; (case q9z1 => assumption); k_whole))
  k_with "subscriptTail" => (k_here; (with_reducible show wpAny _ _ (subscriptTail _ _ (Value.ref _) (Value.int (Int.fdiv _ _) _)) _ _ _); rename News _ _ _ _ => N5; k_dflt (refine' item_ltr (mid_eq _ _) (N5 _ (List.Mem.head _)).1 ?q9z1 ?q9z2 ?q9z3 ?_; (case q9z1 => assumption); (case q9z2 => assumption); (case q9z3 => assumption); k_whole; intro _))
  k_with "compareOp Lt str str" => (k_here; k_dflt (refine' lt_one ?q9z1 ?_; (case q9z1 => assumption); k_whole))
  trivial
section
variable {w : World} {p : Program} {loose : List Str} {mean : ExcName → Option Value} {mg mb : Str → Option Value} {l : Addr} {t u : Tok} {nl c r : Nat} {vs : List Value} {os : List Nat} {rest : List (Addr × Obj)}
set_option maxHeartbeats 8000000 in
theorem ct_bis (hl : LtrsIn vs os) (hb : bisM (fun i => decide (os.getD i 0 < c)) 9 0 os.length = some r) (hlen : os.length ≤ 100) :
    Ct w (hd.heap_39 w.params) p loose mean mg mb (.ref 56) [.ref l, .str (Tx [c]) t, .int 0 u, .none] [] 24 72 ((l, listOf vs.toArray nl) :: rest)
      (fun v news' => ∃ t, v = .int r t ∧ news' = ((l, listOf vs.toArray nl) :: rest)) := by
  intro dp un gd cn cs a ccd cl outer A₀ base h₀ L m s Q E B F X N T hk hdp hun hret
  show (let G9 : Prop := _; G9)
  intro G9
  obtain ⟨kd, nms, g1, g2, g3⟩ := cs
  k_unfold
  dsimp only at hk
  subst hk
  have hsz : vs.toArray.size = os.length := by rw [List.size_toArray, hl.length]
  have hfit : (vs.toArray.size : Int) < 2 ^ 63 := by rw [hsz]; omega
  iterate 60 (first | (with_reducible show wpAny _ _ (exec (Stmt.While _ _ _ _) _) _ _ _) | (k_unfold; (try dsimp only)) | (k_end; wrow_close) | walk1)
  rename Fr _ _ _ _ => F5
  rename News _ _ _ _ => N5
  refine while_3 (Str.ofString "lo") (Str.ofString "hi") (Str.ofString "mid") (fun n v₁ v₂ news => ∃ lo hi t1 t2, v₁ = .int (lo : Nat) t1 ∧ v₂ = .int (hi : Nat) t2 ∧ lo ≤ hi ∧ hi ≤ os.length ∧ bisM (fun i => decide (os.getD i 0 < c)) n lo hi = some r ∧ news = (l, listOf vs.toArray nl) :: rest) F5 N5 rfl rfl ⟨0, os.length, _, _, rfl, by rw [hsz], Nat.zero_le _, Nat.le_refl _, hb, rfl⟩ ?_
  clear N5 F5 hb F N
  intro n v₁ v₂ v₃ news h tk F N r9
  show (let G9 : Prop := _; G9)
  intro G9
  obtain ⟨lo, hi, t1, t2, rfl, rfl, hle, hle2, hb, rfl⟩ := r9
  k_unfold
  cases n with
  | zero => cases hb
  | succ n =>
  unfold bisM at hb
  by_cases hlt : lo < hi
  · rw [if_pos hlt] at hb
    have hm : (lo + hi) / 2 < os.length := by omega
    obtain ⟨a9, ha⟩ : ∃ a9, os[(lo + hi) / 2]? = some a9 := ⟨_, List.getElem?_eq_getElem hm⟩
    have hd : os.getD ((lo + hi) / 2) 0 = a9 := by rw [List.getD_eq_getElem?_getD, ha]; rfl
    cases hac : decide (a9 < c) with
    | true =>
      rw [hd, hac, if_pos rfl] at hb
      k_steps
      rename Fr _ _ _ _ => FF
      rename News _ _ _ _ => NN
      exact ⟨_, _, _, _, n, _, _, rfl, FF, NN, Nat.lt_succ_self _, ⟨(lo + hi) / 2 + 1, hi, _, t2, by rw [mid_eq]; rfl, rfl, by omega, hle2, hb, rfl⟩, rfl, rfl, fun u z1 z2 z3 => by simp [z1, z2, z3]⟩
    | false =>
      rw [hd, hac, if_neg Bool.false_ne_true] at hb
      k_steps
      rename Fr _ _ _ _ => FF
      rename News _ _ _ _ => NN
      exact ⟨_, _, _, _, n, _, _, rfl, FF, NN, Nat.lt_succ_self _, ⟨lo, (lo + hi) / 2, t1, _, rfl, by rw [mid_eq], by omega, by omega, hb, rfl⟩, rfl, rfl, fun u z1 z2 z3 => by simp [z1, z2, z3]⟩
  · rw [if_neg hlt] at hb
    have hr := Option.some.inj hb
    subst hr
    k_steps
    exact hret _ _ _ _ ⟨t1, rfl, rfl⟩ (by k_asm) (by k_asm)
end
end
section
theorem kw_C9 : True := by
  k_with_none
  k_with "sub" => ((repeat (refine List.forall_mem_cons.mpr ⟨by k_mem, ?_⟩)); (first | exact List.forall_mem_nil _ | (intro p hp; repeat (first | exact hp | apply List.Mem.tail))))
  k_with "enter" => (refine wpAny_call ?_; walk_at "enterC")
  k_with "enterC" => (k_dflt (refine' code_def ?q9k1 ?q9k2 ?q9k3 ?q9k4 ?q9k5 ?q9kA ?q9kF ?q9kK ?q9k6 ?q9k7 ?q9k8 ?q9k9 ?q9kB ?_ ?q9c2 ?q9c3 ?q9c4 ?q9c5; (case q9kA => exact rfl); (case q9kF => exact rfl); (case q9kK => assumption); (case q9k1 => k_asm); (case q9k2 => k_asm); (case q9k3 => k_asm); (case q9k4 => k_asm); (case q9k5 => k_asm); (case q9k6 => k_is); (case q9k7 => k_is); (case q9k8 => ktr_room); (case q9k9 => first | exact BindsTo.of_eq rfl | exact binds_K (by k_in) rfl (by k_is) rfl rfl rfl | (refine' kp_binds ?q9kx ?q9ke; (case q9kx => k_in); (case q9ke => exact fun _ => rfl)) | fail "enter: no rule for these arguments"); (case q9c5 => decide); (case q9kB => exact locs rfl); (case q9c2 => exact rfl); (case q9c3 => exact rfl); (case q9c4 => exact rfl); k_whole; intro g' L' h' FG' F' N' B' X' T'; (try dsimp only); (try k_lift B'); (try k_fold)))
  k_with "execs cons" => ((with_reducible refine wpAny_execs_cons ?_); (try dsimp only); k_fold)
  k_with "call builtin:str.lower" => (k_dflt (refine' low_call ?q9k1 ?_; (case q9k1 => first | assumption | exact L7_14 (by assumption)); k_whole; intro _ _))
  k_with "call builtin:str.upper" => (k_dflt (refine' upp_call ?q9k1 ?_; (case q9k1 => assumption); k_whole; intro _ _))
  k_with "call ref" => ((try k_fold); k_dflt (refine' Ct.use (ct_conv_name ?q9hc) ?q9B ?q9F ?q9X ?q9N ?q9T ?q9hk ?q9hd ?q9hu ?_; (case q9hc => assumption); (case q9B => k_asm); (case q9F => k_asm); (case q9X => k_asm); (case q9N => k_asm); (case q9T => k_asm); (case q9hk => exact rfl); (case q9hd => ktr_room); (case q9hu => ktr_units); k_whole; intro _ _ _ _ r9 _ _; obtain ⟨rfl, rfl⟩ := r9))
  k_with "call ref" => ((try k_fold); k_dflt (refine' Ct.use (ct_conv_value ?q9hc) ?q9B ?q9F ?q9X ?q9N ?q9T ?q9hk ?q9hd ?q9hu ?_; (case q9hc => assumption); (case q9B => k_asm); (case q9F => k_asm); (case q9X => k_asm); (case q9N => k_asm); (case q9T => k_asm); (case q9hk => exact rfl); (case q9hd => ktr_room); (case q9hu => ktr_units); k_whole; intro _ _ _ _ r9 _ _; obtain ⟨rfl, rfl⟩ := r9))
  k_with "call ref" => ((try k_fold); k_dflt (refine' Ct.use (ct_bis ?q9hl ?q9hb ?q9hlen) ?q9B ?q9F ?q9X ?q9N ?q9T ?q9hk ?q9hd ?q9hu ?_; (case q9N => k_asm); (case q9hl => assumption); (case q9hb => assumption); (case q9hlen => assumption); (case q9B => k_asm); (case q9F => k_asm); (case q9X => k_asm); (case q9T => k_asm); (case q9hk => exact rfl); (case q9hd => ktr_room); (case q9hu => ktr_units); k_whole; intro _ _ _ _ r9 _ _; obtain ⟨_, rfl, rfl⟩ := r9))
  trivial
theorem fits_small {r : Nat} (h : r ≤ 100) : Builtin.List.listFitsIndex (r : Int) = true := by
  unfold Builtin.List.listFitsIndex
  simp
  omega
theorem kl_ins_at {vs : List Value} {r : Nat} (h : r ≤ vs.length) (y : Value) : kl_ins vs.toArray.toList (r : Int) y = vs.take r ++ y :: vs.drop r := by
  unfold kl_ins
  have h1 : ¬ ((r : Int) < 0) := by omega
  simp only [if_neg h1, List.toList_toArray]
  rw [show ((r : Int)).toNat = r by omega, Nat.min_eq_left h]
section
variable {w : World} {p : Program} {loose : List Str} {mean : ExcName → Option Value} {mg mb : Str → Option Value} {l : Addr} {t u : Tok} {nl c r : Nat} {vs : List Value} {os : List Nat} {rest : List (Addr × Obj)}
set_option maxHeartbeats 8000000 in
theorem ct_insort (hl : LtrsIn vs os) (hb : bisM (fun i => decide (os.getD i 0 < c)) 9 0 os.length = some r) (hlen : os.length ≤ 100) (hr : r ≤ os.length) (hrest : ∀ p ∈ rest, p.1 ≠ l) :
    Ct w (hd.heap_39 w.params) p loose mean mg mb (.ref 47) [.ref l, .str (Tx [c]) t] [] 30 90 ((l, listOf vs.toArray nl) :: rest)
      (fun v news' => v = .none ∧ ∃ vs' nl', LtrsIn vs' (os.take r ++ c :: os.drop r) ∧ news' = ((l, listOf vs'.toArray nl') :: rest)) := by
  intro dp un gd cn cs a ccd cl outer A₀ base h₀ L m s Q E B F X N T hk hdp hun hret
  show (let G9 : Prop := _; G9)
  intro G9
  obtain ⟨kd, nms, g1, g2, g3⟩ := cs
  k_unfold
  dsimp only at hk
  subst hk
  k_steps
  have hfi : Builtin.List.listFitsIndex (r : Int) = true := fits_small (by omega)
  have hins : ∀ y, kl_ins vs.toArray.toList (r : Int) y = vs.take r ++ y :: vs.drop r := kl_ins_at (by rw [hl.length]; exact hr)
  have hz : vs.toArray.toList.length ≤ sizeLine := by rw [List.toList_toArray, hl.length, sizeLine_eq]; omega
  k_dflt (refine' kl_insert ?F ?N hfi (hins _) ?U hz ?_; (case F => k_asm); (case N => k_asm); (case U => k_upd); k_whole)
  intro h' F' N'
  k_steps
  exact hret _ _ _ _ ⟨rfl, _, _, (hl.take r).append (.cons (hl.drop r)), rfl⟩ (by k_asm) (by k_asm)
end
end
section
/-- a call of f that makes inner functions: the code tables' heads stand in the base -/
noncomputable abbrev CtN (w : World) (K : Frag) (p : Program) (loose : List Str) (mean : ExcName → Option Value) (mg mb : Str → Option Value) (fv : Value) (vs : List Value) (kw : List (Str × Value)) (d u : Nat) (news : List (Addr × Obj)) (R : Value → List (Addr × Obj) → Prop) : Prop :=
  ∀ (dp un : Nat) (gd : Option (List Code)) (cn : Str) (cs : Scope) (a : Addr) (ccd : Value) (cl : List (Str × Addr)) (outer : List Env) (A₀ : Around) (base h₀ : Heap) (L : Addr) (m : Str → Option Value) (s : Shared) (Q E : Value → Shared → Prop),
    CodeHd base 329 325 → CodeHd base 284 280 → Below A₀ base outer h₀ → Fr h₀ L s.heap m → K.In h₀ → News h₀ L s.heap news → Top p loose mean mg mb h₀ → cs.kind = .function → dp + d < recursionLimit → un + u < cLine →
    (∀ v news' h' tk', R v news' → Fr h₀ L h' m → News h₀ L h' news' → Q v { s with heap := h', toks := tk' }) →
    wpAny (model PG w) (ktrTop dp un gd cn cs L a ccd cl outer) (call fv vs kw) Q E s
theorem CtN.use {w : World} {K : Frag} {p : Program} {loose : List Str} {mean : ExcName → Option Value} {mg mb : Str → Option Value} {fv : Value} {vs : List Value} {kw : List (Str × Value)} {d u : Nat} {news : List (Addr × Obj)} {R : Value → List (Addr × Obj) → Prop}
    (C : CtN w K p loose mean mg mb fv vs kw d u news R) {dp un : Nat} {gd : Option (List Code)} {cn : Str} {cs : Scope} {a : Addr} {ccd : Value} {cl : List (Str × Addr)} {outer : List Env} {A₀ : Around} {base h₀ : Heap} {L : Addr} {m : Str → Option Value} {s : Shared} {Q E : Value → Shared → Prop}
    (C1 : CodeHd base 329 325) (C2 : CodeHd base 284 280) (B : Below A₀ base outer h₀) (F : Fr h₀ L s.heap m) (X : K.In h₀) (N : News h₀ L s.heap news) (T : Top p loose mean mg mb h₀) (hk : cs.kind = .function) (hd : dp + d < recursionLimit) (hu : un + u < cLine)
    (h : ∀ v news' h' tk', R v news' → Fr h₀ L h' m → News h₀ L h' news' → Q v { s with heap := h', toks := tk' }) :
    wpAny (model PG w) (ktrTop dp un gd cn cs L a ccd cl outer) (call fv vs kw) Q E s := C _ _ _ _ _ _ _ _ _ _ _ _ _ _ _ _ _ C1 C2 B F X N T hk hd hu h
end
section
theorem ints_get {vs : List Value} {ns : List Int} (h : IntsAre vs ns) {i : Nat} {n : Int} (e : ns[i]? = some n) : ∃ t, vs[i]? = some (.int n t) := by
  induction h generalizing i with
  | nil => simp at e
  | cons m t _ ih =>
    cases i with
    | zero => cases e; exact ⟨t, rfl⟩
    | succ i => exact ih (by simpa using e)
theorem ints_len {vs : List Value} {ns : List Int} (h : IntsAre vs ns) : vs.length = ns.length := by
  induction h with
  | nil => rfl
  | cons _ _ _ ih => simp [ih]
section
variable {prog : Program} {w : World} {A : Around} {E : Value → Shared → Prop} {s : Shared} {Q : Value → Shared → Prop}
theorem item_rng {value slice : Expr} {l : Addr} {vs : List Value} {i nl n : Nat} {k : Int} {u : Tok} (hk : k = ((i : Nat) : Int)) (hg : s.heap.get? l = some (listOf vs.toArray nl)) (hI : IntsAre vs (rangeKs 0 n)) (hi : i < n) (hn : n ≤ 100)
    (h : ∀ t, Q (.int (i : Int) t) s)
    (hs : subscripted slice false (.ref l) (.int k u) = operate [.ref l, .int k u] (getItem (.ref l) (.int k u)) := by with_unfolding_all rfl) (hgo : ∀ r, letTemporaryGo value (.ref l) r = pure () := by intro _; with_unfolding_all rfl) :
    wpAny (model prog w) A (subscriptTail value slice (.ref l) (.int k u)) Q E s := by
  have e : (rangeKs 0 n)[i]? = some (i : Int) := by simp [rangeKs, hi]
  obtain ⟨t, hv⟩ := ints_get hI e
  refine item_listL (l := vs) ⟨_, hg, rfl, nl, rfl⟩ (by omega) (by omega) (x := .int (i : Int) t) ?_ (h t) hs hgo
  rw [hk]; exact hv
theorem lt_b {b : Bool} {c : Bool} (hc : (!b) = c) (h : Q (.bool c) s) : wpAny (model prog w) A (compareOp .Lt (.bool b) (.bool true)) Q E s := by
  subst hc
  refine lt_bool ?_
  cases b <;> exact h
end
end
section
theorem kw_C10 : True := by
  k_with_none
  k_with "sub" => ((repeat (refine List.forall_mem_cons.mpr ⟨by k_mem, ?_⟩)); (first | exact List.forall_mem_nil _ | (intro p hp; repeat (first | exact hp | apply List.Mem.tail))))
  k_with "enter" => (refine wpAny_call ?_; walk_at "enterC")
  k_with "enterC" => (k_dflt (refine' code_def ?q9k1 ?q9k2 ?q9k3 ?q9k4 ?q9k5 ?q9kA ?q9kF ?q9kK ?q9k6 ?q9k7 ?q9k8 ?q9k9 ?q9kB ?_ ?q9c2 ?q9c3 ?q9c4 ?q9c5; (case q9kA => exact rfl); (case q9kF => exact rfl); (case q9kK => assumption); (case q9k1 => k_asm); (case q9k2 => k_asm); (case q9k3 => k_asm); (case q9k4 => k_asm); (case q9k5 => k_asm); (case q9k6 => k_is); (case q9k7 => k_is); (case q9k8 => ktr_room); (case q9k9 => first | exact BindsTo.of_eq rfl | exact binds_K (by k_in) rfl (by k_is) rfl rfl rfl | (refine' kp_binds ?q9kx ?q9ke; (case q9kx => k_in); (case q9ke => exact fun _ => rfl)) | fail "enter: no rule for these arguments"); (case q9c5 => decide); (case q9kB => exact locs rfl); (case q9c2 => exact rfl); (case q9c3 => exact rfl); (case q9c4 => exact rfl); k_whole; intro g' L' h' FG' F' N' B' X' T'; (try dsimp only); (try k_lift B'); (try k_fold)))
  k_with "execs cons" => ((with_reducible refine wpAny_execs_cons ?_); (try dsimp only); k_fold)
  k_with "call builtin:str.lower" => (k_dflt (refine' low_call ?q9k1 ?_; (case q9k1 => first | assumption | exact L7_14 (by assumption)); k_whole; intro _ _))
  k_with "call builtin:str.upper" => (k_dflt (refine' upp_call ?q9k1 ?_; (case q9k1 => assumption); k_whole; intro _ _))
  k_with "call ref" => ((try k_fold); k_dflt (refine' Ct.use (ct_conv_name ?q9hc) ?q9B ?q9F ?q9X ?q9N ?q9T ?q9hk ?q9hd ?q9hu ?_; (case q9hc => assumption); (case q9B => k_asm); (case q9F => k_asm); (case q9X => k_asm); (case q9N => k_asm); (case q9T => k_asm); (case q9hk => exact rfl); (case q9hd => ktr_room); (case q9hu => ktr_units); k_whole; intro _ _ _ _ r9 _ _; obtain ⟨rfl, rfl⟩ := r9))
  k_with "call ref" => ((try k_fold); k_dflt (refine' Ct.use (ct_conv_value ?q9hc) ?q9B ?q9F ?q9X ?q9N ?q9T ?q9hk ?q9hd ?q9hu ?_; (case q9hc => assumption); (case q9B => k_asm); (case q9F => k_asm); (case q9X => k_asm); (case q9N => k_asm); (case q9T => k_asm); (case q9hk => exact rfl); (case q9hd => ktr_room); (case q9hu => ktr_units); k_whole; intro _ _ _ _ r9 _ _; obtain ⟨rfl, rfl⟩ := r9))
  k_with "call builtin:len" => (k_here; (with_reducible show wpAny _ _ (call (Value.builtin "len") [Value.ref _]) _ _ _); rename News _ _ _ _ => N5; k_dflt (refine' len_list ⟨_, (N5 _ (List.Mem.tail _ (List.Mem.tail _ (List.Mem.head _)))).1, rfl, _, rfl⟩ ?q9z1 ?_; (case q9z1 => assumption); k_whole))
  k_with "subscriptTail" => (k_here; (with_reducible show wpAny _ _ (subscriptTail _ _ (Value.ref _) (Value.int (Int.fdiv _ _) _)) _ _ _); rename News _ _ _ _ => N5; k_dflt (refine' item_rng (mid_eq _ _) (N5 _ (List.Mem.tail _ (List.Mem.tail _ (List.Mem.head _)))).1 ?q9z1 ?q9z2 ?q9z3 ?_; (case q9z1 => assumption); (case q9z2 => assumption); (case q9z3 => decide); k_whole; intro _))
  k_with "call ref" => (rename ∀ (_ : Nat) (_ : Tok), _ < 7 → _ => hkey9; (try k_fold); k_dflt (refine' CtN.use (hkey9 _ _ ?q9hi) ?q9C1 ?q9C2 ?q9B ?q9F ?q9X ?q9N ?q9T ?q9hk ?q9hd ?q9hu ?_; (case q9N => k_asm); (case q9hi => assumption); (case q9C1 => assumption); (case q9C2 => assumption); (case q9B => k_asm); (case q9F => k_asm); (case q9X => k_asm); (case q9T => k_asm); (case q9hk => exact rfl); (case q9hd => ktr_room); (case q9hu => ktr_units); k_whole; intro _ _ _ _ r9 _ _; obtain ⟨rfl, rfl⟩ := r9))
  k_with "compareOp Lt bool bool" => (k_here; k_dflt (refine' lt_b ?q9z1 ?_; (case q9z1 => assumption); k_whole))
  k_with "subscriptTail Name Name ref int" => (k_here; (with_reducible show wpAny _ _ (subscriptTail _ _ (Value.ref _) (Value.int (Int.fdiv _ _) _)) _ _ _); rename News _ _ _ _ => N5; k_dflt (refine' item_rng (mid_eq _ _) (N5 _ (List.Mem.tail _ (List.Mem.tail _ (List.Mem.head _)))).1 ?q9z1 ?q9z2 ?q9z3 ?_; (case q9z1 => assumption); (case q9z2 => assumption); (case q9z3 => decide); k_whole; intro _))
  trivial
section
variable {w : World} {p : Program} {loose : List Str} {mean : ExcName → Option Value} {mg mb : Str → Option Value} {f D : Addr} {oc : Value} {od : Option Addr} {fd : FuncData} {sl : Array (Option Value)} {cc : Addr × Obj} {t u : Tok} {nl r : Nat} {vs : List Value} {fk : Nat → Bool} {rest : List (Addr × Obj)}
set_option maxHeartbeats 8000000 in
theorem ct_bis_key (hkey : ∀ (i : Nat) t, i < 7 → CtN w (hd.heap_39 w.params) p loose mean mg mb (.ref f) [.int i t] [] 12 36 ((f, ⟨oc, od, .func fd, sl⟩) :: cc :: (D, listOf vs.toArray nl) :: rest) (fun v n => v = .bool (fk i) ∧ n = ((f, ⟨oc, od, .func fd, sl⟩) :: cc :: (D, listOf vs.toArray nl) :: rest)))
    (hI : IntsAre vs (rangeKs 0 7)) (hb : bisM (fun i => !fk i) 9 0 7 = some r) :
    CtN w (hd.heap_39 w.params) p loose mean mg mb (.ref 56) [.ref D, .bool true] [(Str.ofString "key", .ref f)] 24 72 ((f, ⟨oc, od, .func fd, sl⟩) :: cc :: (D, listOf vs.toArray nl) :: rest)
      (fun v news' => ∃ t, v = .int r t ∧ news' = ((f, ⟨oc, od, .func fd, sl⟩) :: cc :: (D, listOf vs.toArray nl) :: rest)) := by
  intro dp un gd cn cs a ccd cl outer A₀ base h₀ L m s Q E C1 C2 B F X N T hk hdp hun hret
  show (let G9 : Prop := _; G9)
  intro G9
  obtain ⟨kd, nms, g1, g2, g3⟩ := cs
  k_unfold
  dsimp only at hk
  subst hk
  have hsz : vs.toArray.size = 7 := by rw [List.size_toArray, ints_len hI]; rfl
  have hfit : (vs.toArray.size : Int) < 2 ^ 63 := by rw [hsz]; omega
  iterate 60 (first | (with_reducible show wpAny _ _ (exec (Stmt.While _ _ _ _) _) _ _ _) | (k_unfold; (try dsimp only)) | (k_end; wrow_close) | walk1)
  rename Fr _ _ _ _ => F5
  rename News _ _ _ _ => N5
  refine while_3 (Str.ofString "lo") (Str.ofString "hi") (Str.ofString "mid") (fun n v₁ v₂ news => ∃ lo hi t1 t2, v₁ = .int (lo : Nat) t1 ∧ v₂ = .int (hi : Nat) t2 ∧ lo ≤ hi ∧ hi ≤ 7 ∧ bisM (fun i => !fk i) n lo hi = some r ∧ news = ((f, ⟨oc, od, .func fd, sl⟩) :: cc :: (D, listOf vs.toArray nl) :: rest)) F5 N5 rfl rfl ⟨0, 7, _, _, rfl, by rw [hsz], Nat.zero_le _, Nat.le_refl _, hb, rfl⟩ ?_
  clear N5 F5 hb F N
  intro n v₁ v₂ v₃ news h tk F N r9
  show (let G9 : Prop := _; G9)
  intro G9
  obtain ⟨lo, hi, t1, t2, rfl, rfl, hle, hle2, hb, rfl⟩ := r9
  k_unfold
  cases n with
  | zero => cases hb
  | succ n =>
  unfold bisM at hb
  by_cases hlt : lo < hi
  · rw [if_pos hlt] at hb
    have hm : (lo + hi) / 2 < 7 := by omega
    cases hac : !fk ((lo + hi) / 2) with
    | true =>
      rw [hac, if_pos rfl] at hb
      k_steps
      rename Fr _ _ _ _ => FF
      rename News _ _ _ _ => NN
      exact ⟨_, _, _, _, n, _, _, rfl, FF, NN, Nat.lt_succ_self _, ⟨(lo + hi) / 2 + 1, hi, _, t2, by rw [mid_eq]; rfl, rfl, by omega, hle2, hb, rfl⟩, rfl, rfl, fun u z1 z2 z3 => by simp [z1, z2, z3]⟩
    | false =>
      rw [hac, if_neg Bool.false_ne_true] at hb
      k_steps
      rename Fr _ _ _ _ => FF
      rename News _ _ _ _ => NN
      exact ⟨_, _, _, _, n, _, _, rfl, FF, NN, Nat.lt_succ_self _, ⟨lo, (lo + hi) / 2, t1, _, rfl, by rw [mid_eq], by omega, by omega, hb, rfl⟩, rfl, rfl, fun u z1 z2 z3 => by simp [z1, z2, z3]⟩
  · rw [if_neg hlt] at hb
    have hr := Option.some.inj hb
    subst hr
    k_steps
    exact hret _ _ _ _ ⟨t1, rfl, rfl⟩ (by k_asm) (by k_asm)
end
end
section
/-- values that are texts -/
inductive PiecesAre : List Value → List (List Nat) → Prop
  | nil : PiecesAre [] []
  | cons {c t vs cs} : PiecesAre vs cs → PiecesAre (.str (Tx c) t :: vs) (c :: cs)
theorem ne_tx {a b : List Nat} : (Tx a != Tx b) = decide (a ≠ b) := by
  by_cases e : a = b
  · subst e; simp
  · have : Tx a ≠ Tx b := fun q => e (by injection q with q; injection q)
    simp [bne, e, this]
theorem lam_eq (row : List Nat) (i : Nat) : (Txt.slice (Tx row) none (some ((i : Int) + 1)) != Txt.slice (Str.ofString "abcdefg") none (some ((i : Int) + 1))) = decide (row.take (i + 1) ≠ abcL.take (i + 1)) := by
  rw [lit_abc, slice_ns _ _ (by omega), slice_ns _ _ (by omega), ne_tx]
  rw [show ((i : Int) + 1).toNat = i + 1 by omega]
  rfl
/-- insort_left of the letters, one behind the other -/
noncomputable def insAll : List Nat → List Nat → Option (List Nat)
  | [], os => some os
  | c :: r, os => match bisM (fun i => decide (os.getD i 0 < c)) 9 0 os.length with
    | none => none
    | some k => if k ≤ os.length then insAll r (os.take k ++ c :: os.drop k) else none
/-- the parts of a move -/
structure MovedP (row : List Nat) (k c spot : Nat) (os : List Nat) (last mid j d stop : Nat) : Prop where
  hb : bisM (fun i => !decide (row.take (i + 1) ≠ abcL.take (i + 1))) 9 0 7 = some k
  hc : itemAt [97, 98, 99, 100, 101, 102, 103] (k : Int) = some c
  hspot : ix row c = some spot
  hos : insAll (cut row k spot) [] = some os
  hlast : itemAt os (-1) = some last
  hmid : ix row last = some mid
  hj : ix [97, 98, 99, 100, 101, 102, 103] last = some j
  hd : itemAt [98, 99, 100, 101, 102, 103, 104] (j : Int) = some d
  hstop : ix (row ++ [104]) d = some stop
noncomputable def movedParts (row : List Nat) (k spot mid stop : Nat) : List (List Nat) := [row.take k, cut row spot stop, cut row (mid + 1) spot, cut row k (mid + 1), row.drop stop]
noncomputable def movedM (row : List Nat) : Option (List Nat) :=
  (bisM (fun i => !decide (row.take (i + 1) ≠ abcL.take (i + 1))) 9 0 7).bind fun k =>
  (itemAt [97, 98, 99, 100, 101, 102, 103] (k : Int)).bind fun c =>
  (ix row c).bind fun spot =>
  (insAll (cut row k spot) []).bind fun os =>
  (itemAt os (-1)).bind fun last =>
  (ix row last).bind fun mid =>
  (ix [97, 98, 99, 100, 101, 102, 103] last).bind fun j =>
  (itemAt [98, 99, 100, 101, 102, 103, 104] (j : Int)).bind fun d =>
  (ix (row ++ [104]) d).bind fun stop => some (movedParts row k spot mid stop).flatten
theorem movedM_parts {row res : List Nat} (h : movedM row = some res) : ∃ k c spot os last mid j d stop, MovedP row k c spot os last mid j d stop ∧ res = (movedParts row k spot mid stop).flatten := by
  unfold movedM at h
  simp only [Option.bind_eq_some_iff] at h
  show (let G9 : Prop := _; G9)
  intro G9
  obtain ⟨k, h1, c, h2, spot, h3, os, h4, last, h5, mid, h6, j, h7, d, h8, stop, h9, h10⟩ := h
  k_unfold
  exact ⟨k, c, spot, os, last, mid, j, d, stop, ⟨h1, h2, h3, h4, h5, h6, h7, h8, h9⟩, (Option.some.inj h10).symm⟩
theorem itemAt_lt {l : List Nat} {k : Nat} {c : Nat} (h : itemAt l (k : Int) = some c) : k < l.length := by
  unfold itemAt seqIndex? at h
  have h0 : ¬ ((k : Int) < 0) := by omega
  simp only [if_neg h0] at h
  split at h
  · rename_i h1
    simp at h1
    omega
  · cases h
theorem fits_nat {k : Nat} (h : k ≤ 1000) : fitsSsize (k : Int) = true := by
  unfold fitsSsize
  simp
  omega
theorem ix_lt {l : List Nat} {c i : Nat} (h : ix l c = some i) : i < l.length := by
  unfold ix at h
  rw [List.findIdx?_eq_some_iff_getElem] at h
  exact h.1
end
section
section
variable {prog : Program} {w : World} {A : Around} {E : Value → Shared → Prop} {s : Shared} {env : Env} {h₀ : Heap} {x : Str} {body : List Stmt} {Q : Flow → Shared → Prop} {I : Addr} {m₀ : Str → Option Value} {lO : Addr} {REST : List (Addr × Obj)}
theorem strRest_led (J : Nat → List Value → Nat → Prop) (l : List Str) {vs0 : List Value} {n0 : Nat} (hJ : J 0 vs0 n0)
    (turn : ∀ i c vs nl, l[i]? = some c → J i vs nl → ∀ (u : Tok) (it : Obj) h tk, Fr h₀ env.locals h (fun z => if z = x then some (.str c u) else m₀ z) → News h₀ env.locals h ((I, it) :: (lO, listOf vs.toArray nl) :: REST) →
      wpAny (model prog w) A (execs body env) (UnrPost h₀ env.locals { s with heap := h, toks := tk } I it (fun m' news' => (∃ vs' nl', J (i + 1) vs' nl' ∧ news' = (lO, listOf vs'.toArray nl') :: REST) ∧ ∀ z, z ≠ x → m' z = m₀ z) Q) E { s with heap := h, toks := tk })
    (done : ∀ v vs nl h tk, J l.length vs nl → Fr h₀ env.locals h (fun z => if z = x then v else m₀ z) → News h₀ env.locals h ((lO, listOf vs.toArray nl) :: REST) → Q .next { s with heap := h, toks := tk }) :
    StrRest prog w A E h₀ env x body Q s I l m₀ ((lO, listOf vs0.toArray n0) :: REST) := by
  refine strRest_inv (fun i m news => (∃ vs nl, J i vs nl ∧ news = (lO, listOf vs.toArray nl) :: REST) ∧ ∀ z, z ≠ x → m z = m₀ z) l ?_ ?_ 0 m₀ _ (Nat.zero_le _) ⟨⟨vs0, n0, hJ, rfl⟩, fun _ _ => rfl⟩
  · intro i c m news hc r9 u it h tk F N
    show (let G9 : Prop := _; G9)
    intro G9
    obtain ⟨⟨vs, nl, hJ, rfl⟩, hm⟩ := r9
    k_unfold
    refine turn i c vs nl hc hJ u it h tk ?_ N
    have e : (fun z => if z = x then some (Value.str c u) else m z) = fun z => if z = x then some (.str c u) else m₀ z := by
      funext z
      by_cases h1 : z = x
      · simp only [if_pos h1]
      · simp only [if_neg h1, hm z h1]
    rw [← e]; exact F
  · intro m news h tk r9 F N
    show (let G9 : Prop := _; G9)
    intro G9
    obtain ⟨⟨vs, nl, hJ, rfl⟩, hm⟩ := r9
    k_unfold
    refine done (m x) vs nl h tk hJ ?_ N
    have e : m = fun z => if z = x then m x else m₀ z := by
      funext z
      by_cases h1 : z = x
      · simp only [if_pos h1]; rw [h1]
      · simp only [if_neg h1]; exact hm z h1
    rw [← e]; exact F
end
theorem news_swap {h₀ h : Heap} {L : Addr} {a b : Addr × Obj} {r : List (Addr × Obj)} (N : News h₀ L h (a :: b :: r)) : News h₀ L h (b :: a :: r) := by
  intro p hp
  refine N p ?_
  simp only [List.mem_cons] at hp ⊢
  rcases hp with hp | hp | hp <;> simp [hp]
theorem off_of {l I : Addr} {o o' : Obj} {r : List (Addr × Obj)} (h : ∀ p ∈ (l, o) :: r, p.1 < I) : ∀ p ∈ (l, o') :: r, p.1 ≠ I := by
  intro p hp
  rcases List.mem_cons.mp hp with rfl | hp
  · exact Nat.ne_of_lt (h (l, o) (.head _))
  · exact Nat.ne_of_lt (h p (.tail _ hp))
theorem ins_len {os' : List Nat} {r c : Nat} (hr : r ≤ os'.length) : (os'.take r ++ c :: os'.drop r).length = os'.length + 1 := by
  rw [List.length_append, List.length_cons, List.length_take, List.length_drop]
  omega
theorem ins_step {w os' os : List Nat} {i c : Nat} (hc : w[i]? = some c) (h : insAll (w.drop i) os' = some os) :
    ∃ r, bisM (fun i => decide (os'.getD i 0 < c)) 9 0 os'.length = some r ∧ r ≤ os'.length ∧ insAll (w.drop (i + 1)) (os'.take r ++ c :: os'.drop r) = some os := by
  have hl : i < w.length := (List.getElem?_eq_some_iff.mp hc).1
  rw [List.drop_eq_getElem_cons hl] at h
  have e : w[i] = c := (List.getElem?_eq_some_iff.mp hc).2
  rw [e] at h
  unfold insAll at h
  split at h
  · cases h
  · rename_i r hr
    split at h
    · rename_i hle
      exact ⟨r, hr, hle, h⟩
    · cases h
theorem tx_map {w : List Nat} {i : Nat} {c : Str} (h : (w.map fun c => Tx [c])[i]? = some c) : ∃ a, w[i]? = some a ∧ c = Tx [a] := by
  rw [List.getElem?_map] at h
  cases hq : w[i]? with
  | none => rw [hq] at h; cases h
  | some f => rw [hq] at h; exact ⟨f, rfl, (Option.some.inj h).symm⟩
theorem cut_len (l : List Nat) (i j : Nat) : (cut l i j).length ≤ l.length := by
  unfold cut
  rw [List.length_take, List.length_drop]
  omega
theorem cut_mem {l : List Nat} {i j c : Nat} (h : c ∈ cut l i j) : c ∈ l := List.mem_of_mem_drop (List.mem_of_mem_take h)
end
section
section
variable {prog : Program} {w : World} {A : Around} {E : Value → Shared → Prop} {s : Shared} {Q : Value → Shared → Prop}
theorem item_last {value slice : Expr} {l : Addr} {vs : List Value} {os : List Nat} {c nl : Nat} {k : Int} {u : Tok} (hk : k = -1) (hg : s.heap.get? l = some (listOf vs.toArray nl)) (hl : LtrsIn vs os) (hc : itemAt os (-1) = some c)
    (h : ∀ t, Q (.str (Tx [c]) t) s)
    (hs : subscripted slice false (.ref l) (.int k u) = operate [.ref l, .int k u] (getItem (.ref l) (.int k u)) := by with_unfolding_all rfl) :
    wpAny (model prog w) A (subscriptTail value slice (.ref l) (.int k u)) Q E s := by
  subst hk
  unfold itemAt at hc
  cases hj : seqIndex? (-1) os.length with
  | none => rw [hj] at hc; cases hc
  | some j =>
    rw [hj] at hc
    obtain ⟨t, hv⟩ := hl.get hc
    exact kde_neg (vs := vs) ⟨_, hg, rfl, nl, rfl⟩ (by decide) (by decide) (by rw [hl.length]; exact hj) hv (h t) hs
theorem tx_add {x y : Str} {a b : List Nat} {t u : Tok} (hx : x = Tx a) (hy : y = Tx b) (hz : (a ++ b).length ≤ sizeLine) (h : ∀ t k, Q (.str (Tx (a ++ b)) t) { s with toks := k }) : wpAny (model prog w) A (binaryOp .Add (.str x t) (.str y u)) Q E s := by
  subst hx hy
  refine P.add_str ?_
  show (if a.length == 0 then Made.val (.str (Tx b) u) else if b.length == 0 then Made.val (.str (Tx a) t) else Made.str (Tx a ++ Tx b)).post Q s
  split
  · rename_i h1
    have : a = [] := List.eq_nil_of_length_eq_zero (by simpa using h1)
    subst this
    exact h u s.toks
  · split
    · rename_i h1
      have : b = [] := List.eq_nil_of_length_eq_zero (by simpa using h1)
      subst this
      have := h t s.toks
      rw [List.append_nil] at this
      exact this
    · have e : (Tx a ++ Tx b : Str) = Tx (a ++ b) := by
        show (⟨Array.mk a ++ Array.mk b⟩ : Str) = _
        rw [List.append_toArray]
      rw [e]
      exact ⟨hz, h _ _⟩
end
theorem lit_h : Str.ofString "h" = Tx [104] := by decide +kernel
end
section
theorem pieces5 {row : List Nat} {k spot mid stop : Nat} {t1 t2 t3 t4 t5 : Tok} :
    PiecesAre [.str (Txt.slice (Tx row) none (some (k : Int))) t1, .str (Txt.slice (Tx row) (some (spot : Int)) (some (stop : Int))) t2, .str (Txt.slice (Tx row) (some ((mid : Int) + 1)) (some (spot : Int))) t3,
      .str (Txt.slice (Tx row) (some (k : Int)) (some ((mid : Int) + 1))) t4, .str (Txt.slice (Tx row) (some (stop : Int)) none) t5] (movedParts row k spot mid stop) := by
  rw [slice_ns _ _ (by omega), slice_ss _ _ _ (by omega) (by omega), slice_ss _ _ _ (by omega) (by omega), slice_ss _ _ _ (by omega) (by omega), slice_sn _ _ (by omega)]
  rw [show ((mid : Int) + 1).toNat = mid + 1 by omega]
  simp only [Int.toNat_natCast]
  exact .cons (.cons (.cons (.cons (.cons .nil))))
theorem parts_ok {row : List Nat} {k spot mid stop : Nat} (hl : row.length = 7) (hin : ∀ c ∈ row, c ∈ L7) : (movedParts row k spot mid stop).length ≤ 10 ∧ ∀ q ∈ movedParts row k spot mid stop, q.length ≤ 10 ∧ ∀ c ∈ q, c ∈ L7 := by
  refine ⟨by simp [movedParts], ?_⟩
  intro q hq
  simp only [movedParts, List.mem_cons, List.mem_nil_iff, or_false] at hq
  rcases hq with rfl | rfl | rfl | rfl | rfl
  · exact ⟨by rw [List.length_take]; omega, fun c hc => hin c (List.mem_of_mem_take hc)⟩
  · exact ⟨by have := cut_len row spot stop; omega, fun c hc => hin c (cut_mem hc)⟩
  · exact ⟨by have := cut_len row (mid + 1) spot; omega, fun c hc => hin c (cut_mem hc)⟩
  · exact ⟨by have := cut_len row k (mid + 1); omega, fun c hc => hin c (cut_mem hc)⟩
  · exact ⟨by rw [List.length_drop]; omega, fun c hc => hin c (List.mem_of_mem_drop hc)⟩
/-- the code object of the lambda of _law_moved -/
noncomputable def LamCode (oc : Obj) : Prop := ∃ (sc : Scope) (L : Addr) (vs : Array Value) (t : Tok), oc.data = .fields vs ∧ vs[1]? = some (.str ((envOfC (Str.ofString "_law_moved") sc L 330 (.ref 329)).qual ++ Str.ofString "<lambda>") t)
/-- what _law_led does with a machine at its text's end -/
noncomputable def LedEnd (w : World) (K : Frag) (p : Program) (loose : List Str) (mean : ExcName → Option Value) (mg mb : Str → Option Value) (M : Addr) (Mach : List (Addr × Obj) → Prop) : Prop :=
  ∀ (ml : List (Addr × Obj)) (P : Addr) (pv : List Value) (ps : List (List Nat)) (np : Nat) (rest : List (Addr × Obj)), Mach ml → PiecesAre pv ps → ps.length ≤ 10 → (∀ q ∈ ps, q.length ≤ 10 ∧ ∀ c ∈ q, c ∈ L7) → (∀ p ∈ rest, ∀ q ∈ ml, p.1 ≠ q.1) →
    Ct w K p loose mean mg mb (.ref 318) [.ref M, .ref P] [] 60 180 ((P, listOf pv.toArray np) :: (ml ++ rest)) (fun v news' => ∃ t ml', v = .str (Tx ps.flatten) t ∧ Mach ml' ∧ ml'.map Prod.fst = ml.map Prod.fst ∧ news' = ml' ++ rest)
theorem sub_led {P : Addr × Obj} {x y : Addr × Obj} {ml rest rest0 : List (Addr × Obj)} {N : List (Addr × Obj)} (e : rest = ml ++ rest0) (h1 : P ∈ N) (hx : x ∈ N) (hy : y ∈ N) (hr : ∀ p ∈ rest, p ∈ N) : ∀ p ∈ P :: (ml ++ (x :: y :: rest0)), p ∈ N := by
  subst e
  intro p hp
  simp only [List.mem_cons, List.mem_append] at hp
  rcases hp with rfl | hp | rfl | rfl | hp
  · exact h1
  · exact hr p (List.mem_append_left _ hp)
  · exact hx
  · exact hy
  · exact hr p (List.mem_append_right _ hp)
theorem sub_led2 {x y : Addr × Obj} {ml rest0 : List (Addr × Obj)} : ∀ p ∈ x :: y :: (ml ++ rest0), p ∈ ml ++ (x :: y :: rest0) := by
  intro p hp
  simp only [List.mem_cons, List.mem_append] at hp ⊢
  rcases hp with rfl | rfl | hp | hp <;> simp_all
end
section
open PySem.Builtin PySem.Builtin.ObjectAttr
theorem fill2 : PySem.Challenge.rw_kl0089_01 = PySem.Challenge.rw_kl0089_01 ∧ hd.heap_39 = hd.heap_39 := by k_fill; exact ⟨rfl, rfl⟩
theorem slot_fnset : Slot "function" "__setattr__" "object.__setattr__" :=
  .of (owner := "object") (n := "__setattr__") (by rw [typeLookup_type, builtinLookup_eq_fast]; kernel_rfl) (by decide +kernel) (by decide +kernel) (by decide +kernel)
    (by first | exact .inl (by decide +kernel) | exact .inr (by decide +kernel)) (by rw [isSubtype_type]; kernel_rfl)
theorem fn_read : typeLookup (.type "function") "read" = pure none := by rw [typeLookup_type, builtinLookup_eq_fast]; kernel_rfl
theorem entry_setattr : entryFor table "object.__setattr__" = some Builtin.«object.__setattr__» := entryFor_of_tree (by kernel_rfl)
theorem args_setattr (a b c : Value) : argsOk "object.__setattr__" ⟨[a, b, c], []⟩ := by unfold argsOk; kernel_rfl
theorem fn_mro : mroOf (.type "function") = pure [.type "function", .type "object"] := by rw [mroOf_type]; kernel_rfl
theorem fn_refuse (self : Value) : refuseLoop self "__setattr__" [.type "function", .type "object"] = pure () := by kernel_rfl
section
variable {prog : Program} {w : World} {A : Around} {E : Value → Shared → Prop} {h : Heap} {g : Array GenState} {d : Drawn} {t : Nat} {os : OsState}
theorem set_fn_entry {f : Addr} {fd : FuncData} {sl : Array (Option Value)} {v : Value} {tk : Tok} {Q : Fin → Shared → Prop} (hf : h.get? f = some ⟨.type "function", none, .func fd, sl⟩)
    (hq : ∀ h' tk', h'.get? f = some ⟨.type "function", some h.objs.size, .func fd, sl⟩ → h'.Ns1 h.objs.size (fun y => if y = "read" then some v else none) → (∀ b o, b ≠ f → h.get? b = some o → h'.get? b = some o) → Q (.done (.ret .none)) ⟨h', g, d, tk', os⟩) :
    wpAny (model prog w) A (Builtin.«object.__setattr__» ⟨[.ref f, .str "read" tk, v], []⟩) Q E ⟨h, g, d, t, os⟩ := by
  unfold Builtin.«object.__setattr__»
  have hT : Shared.TypeIs ⟨h, g, d, t, os⟩ (.ref f) "function" := ⟨_, hf, rfl⟩
  simp only [refuse_eq]
  repeat (first | (with_reducible refine wpAny_nsSet1 (Heap.Ns1.of_empty ?hnd) fun h' hn' hs => ?_) | (with_reducible refine wpAny_typeOf hT ?_) | rw [fn_mro] | rw [fn_refuse] | (with_reducible refine wpAny_of_eq fn_read ?_) | wp_step)
  · have hxs : f ≠ h.objs.size := Nat.ne_of_lt (Heap.lt_size hf)
    exact ⟨_, #[], _, (Heap.get?_update_ne _ _ _ _ hxs.symm).trans (Heap.get?_push_at rfl rfl), rfl, fun e he => absurd he (by simp), fun _ => rfl⟩
  · have hxs : f ≠ h.objs.size := Nat.ne_of_lt (Heap.lt_size hf)
    have hx₁ : (h.push { cls := .type "dict", data := .dict #[] }).get? f = some ⟨.type "function", none, .func fd, sl⟩ := Heap.get?_push_of_some _ hf
    obtain ⟨oD, esD, epD, hoD, hdD, hcD⟩ := hn'.count (Within.cons "read" v Within.nil)
    refine wpAny_bind (wpAny_lookBehind hoD (by rw [hdD]; exact pastItsLine_dict (Nat.le_trans hcD (by rw [List.length_cons, List.length_nil, sizeLine_eq]; omega))) ?_)
    refine wpAny_pure (hq _ _ ?_ hn' fun b o hb e => ?_)
    · exact (hs.2 f hxs).trans (Heap.get?_update_self _ hx₁ rfl)
    · exact (hs.2 b (Nat.ne_of_lt (Heap.lt_size e))).trans ((Heap.get?_update_ne _ _ _ _ hb).trans (Heap.get?_push_of_some _ e))
theorem set_fn {f : Addr} {fd : FuncData} {sl : Array (Option Value)} {v : Value} {Q : Unit → Shared → Prop} (hf : h.get? f = some ⟨.type "function", none, .func fd, sl⟩)
    (hq : ∀ h' tk', h'.get? f = some ⟨.type "function", some h.objs.size, .func fd, sl⟩ → h'.Ns1 h.objs.size (fun y => if y = "read" then some v else none) → (∀ b o, b ≠ f → h.get? b = some o → h'.get? b = some o) → Q () ⟨h', g, d, tk', os⟩) :
    wpAny (model prog w) A (setAttr (.ref f) "read" v) Q E ⟨h, g, d, t, os⟩ := by
  have hT : ∀ t, Shared.TypeIs ⟨h, g, d, t, os⟩ (.ref f) "function" := fun _ => ⟨_, hf, rfl⟩
  unfold setAttr
  refine wpAny_bind ?_
  repeat (first | (with_reducible refine wpAny_call_entry slot_fnset (hT _) entry_setattr ?_ (args_setattr _ _ _)) | (with_reducible refine wpAny_callSpecial?_slot (hT _) slot_fnset ?_) | (with_reducible refine set_fn_entry hf fun h' tk' h1 h2 h3 => ?_) | wp_step)
  exact ⟨_, rfl, wpAny_pure (hq _ _ h1 h2 h3)⟩
end
end
section
open PySem.Builtin PySem.Builtin.ObjectAttr
theorem slot_fnget : Slot "function" "__getattribute__" "object.__getattribute__" :=
  .of (owner := "object") (n := "__getattribute__") (by rw [typeLookup_type, builtinLookup_eq_fast]; kernel_rfl) (by decide +kernel) (by decide +kernel) (by decide +kernel)
    (by first | exact .inl (by decide +kernel) | exact .inr (by decide +kernel)) (by rw [isSubtype_type]; kernel_rfl)
theorem entry_getattribute : entryFor table "object.__getattribute__" = some Builtin.«object.__getattribute__» := entryFor_of_tree (by kernel_rfl)
theorem args_getattribute (a b : Value) : argsOk "object.__getattribute__" ⟨[a, b], []⟩ := by unfold argsOk; kernel_rfl
theorem fn_noget : typeLookup (.type "function") "__getattr__" = pure none := by rw [typeLookup_type, builtinLookup_eq_fast]; kernel_rfl
section
variable {prog : Program} {w : World} {A : Around} {E : Value → Shared → Prop} {h : Heap} {g : Array GenState} {d : Drawn} {t : Nat} {os : OsState}
theorem get_fn_entry {f dx : Addr} {fd : FuncData} {sl : Array (Option Value)} {m : Str → Option Value} {v : Value} {tk : Tok} {Q : Fin → Shared → Prop} (hf : h.get? f = some ⟨.type "function", some dx, .func fd, sl⟩) (hn : h.Ns dx m) (hv : m "read" = some v)
    (hq : ∀ tk', Q (.done (.ret v)) ⟨h, g, d, tk', os⟩) :
    wpAny (model prog w) A (Builtin.«object.__getattribute__» ⟨[.ref f, .str "read" tk], []⟩) Q E ⟨h, g, d, t, os⟩ := by
  have hT : ∀ t, Shared.TypeIs ⟨h, g, d, t, os⟩ (.ref f) "function" := fun _ => ⟨_, hf, rfl⟩
  unfold Builtin.«object.__getattribute__»
  repeat (first | (with_reducible refine wpAny_nsGet hn ?_; rw [hv]) | (with_reducible refine wpAny_loadPart_at hf ?_) | (with_reducible refine wpAny_typeOf (hT _) ?_) | (with_reducible refine wpAny_of_eq fn_read ?_) | wp_step)
  exact hq _
theorem get_fn {f dx : Addr} {fd : FuncData} {sl : Array (Option Value)} {m : Str → Option Value} {r : Addr} {pl : Sem Bool} {Q : Value × List Value → Shared → Prop} (hf : h.get? f = some ⟨.type "function", some dx, .func fd, sl⟩) (hn : h.Ns dx m) (hv : m "read" = some (.ref r))
    (hq : ∀ tk', Q (.ref r, []) ⟨h, g, d, tk', os⟩) :
    wpAny (model prog w) A (getMethod (.ref f) "read" pl) Q E ⟨h, g, d, t, os⟩ := by
  have hT : ∀ t, Shared.TypeIs ⟨h, g, d, t, os⟩ (.ref f) "function" := fun _ => ⟨_, hf, rfl⟩
  unfold getMethod getAttr getAttrBy
  repeat (first | rw [slot_fnget.bind (.ref f)] | (with_reducible refine wpAny_call_entry slot_fnget (hT _) entry_getattribute ?_ (args_getattribute _ _)) | (with_reducible refine wpAny_specialOf (hT _) slot_fnget.lookup ?_) | (with_reducible refine wpAny_specialOf (hT _) fn_noget ?_) | (with_reducible refine wpAny_specialOf (hT _) fn_read ?_) | (with_reducible refine wpAny_typeOf (hT _) ?_) | (with_reducible refine wpAny_of_eq slot_fnget.lookup ?_) | (with_reducible refine get_fn_entry hf hn hv fun tk' => ?_) | (with_reducible refine wpAny_bind (m := pure _) ?_) | (with_reducible refine wpAny_pure ?_) | dsimp only [List.cons_append, List.nil_append] | wp_step)
  refine ⟨_, rfl, ?_⟩
  unfold handedOut
  repeat wp_step
  exact hq _
end
end
section
noncomputable abbrev fnObj (dx : Option Addr) (fd : FuncData) : Obj := { cls := .type "function", dict := dx, data := .func fd }
noncomputable def ReadDict (od : Obj) (r : Addr) : Prop := ∃ es ep, od.data = .dict es ep ∧ StrKeys es ∧ nsFind es "read" = some (.ref r)
section
variable {prog : Program} {w : World} {A : Around} {E : Value → Shared → Prop} {s : Shared} {h₀ : Heap} {L : Addr} {m : Str → Option Value} {f r : Addr} {fd : FuncData} {rest : List (Addr × Obj)}
theorem set_fnK {Q : Unit → Shared → Prop} (F : Fr h₀ L s.heap m) (N : News h₀ L s.heap ((f, fnObj none fd) :: rest)) (hne : ∀ p ∈ rest, p.1 ≠ f)
    (h : ∀ h' d od tk, Fr h₀ L h' m → News h₀ L h' ((f, fnObj (some d) fd) :: (d, od) :: rest) → ReadDict od r → @LT.lt Nat _ f d → (∀ p ∈ rest, p.1 < d) → Q () { s with heap := h', toks := tk }) :
    wpAny (model prog w) A (setAttr (.ref f) "read" (.ref r)) Q E s := by
  have hf := N _ (.head _)
  obtain ⟨hp, gn, dn, tk, os⟩ := s
  refine set_fn hf.1 fun h' tk' h1 h2 h3 => ?_
  have hL : L < hp.objs.size := F.ns.lt
  have hLf : L ≠ f := hf.2.1.symm
  have hne0 : h₀.get? hp.objs.size = none := by
    cases q : h₀.get? hp.objs.size with
    | none => rfl
    | some o => exact absurd (Heap.lt_size (F.keep _ _ q)) (Nat.lt_irrefl _)
  obtain ⟨o, es, ep, e1, e2, e3, _, e4⟩ := h2
  refine h h' hp.objs.size o tk' ⟨F.ns.at' fun o e => h3 L o hLf e, fun b x e => h3 b x (fun q => by rw [q, hf.2.2] at e; cases e) (F.keep b x e), F.above⟩ ?_ ⟨es, ep, e2, e3, by rw [e4]; simp⟩ (Heap.lt_size hf.1) (fun p hp => Heap.lt_size (N p (.tail _ hp)).1)
  intro p hp
  rcases List.mem_cons.mp hp with rfl | hp
  · exact ⟨h1, hf.2⟩
  rcases List.mem_cons.mp hp with rfl | hp
  · exact ⟨e1, Nat.ne_of_gt hL, hne0⟩
  · exact ⟨h3 _ _ (hne p hp) (N p (.tail _ hp)).1, (N p (.tail _ hp)).2⟩
theorem get_fnK {d : Addr} {od : Obj} {news : List (Addr × Obj)} {pl : Sem Bool} {Q : Value × List Value → Shared → Prop} (N : News h₀ L s.heap news) (hf : (f, fnObj (some d) fd) ∈ news) (hd : (d, od) ∈ news) (hr : ReadDict od r)
    (h : ∀ tk, Q (.ref r, []) { s with toks := tk }) : wpAny (model prog w) A (getMethod (.ref f) "read" pl) Q E s := by
  obtain ⟨es, ep, e1, e2, e3⟩ := hr
  obtain ⟨hp, gn, dn, tk, os⟩ := s
  exact get_fn (N _ hf).1 ⟨od, es, ep, (N _ hd).1, e1, e2, fun name => rfl⟩ e3 h
end
end
section
/-- the reader's own part of the ledger -/
noncomputable abbrev rdLed (al r c1 ca ct : Addr) (robj oc1 oca oct : Obj) (pos : Nat) (t0 : Tok) (n : Nat) (rest : List (Addr × Obj)) : List (Addr × Obj) :=
  (al, listOf #[Value.int (pos : Int) t0] n) :: (r, robj) :: (c1, oc1) :: (ca, oca) :: (ct, oct) :: rest
/-- reading one letter on -/
noncomputable def ReadProp (w : World) (K : Frag) (p : Program) (loose : List Str) (mean : ExcName → Option Value) (mg mb : Str → Option Value) (tx : List Nat) (al r c1 ca ct : Addr) (robj oc1 oca oct : Obj) : Prop :=
  ∀ (pos : Nat) (t t0 : Tok) (n : Nat) (rest : List (Addr × Obj)), pos ≤ tx.length → (∀ p ∈ rest, p.1 ≠ al) →
    CtN w K p loose mean mg mb (.ref r) [.int 1 t] [] 12 36 (rdLed al r c1 ca ct robj oc1 oca oct pos t0 n rest)
      (fun v news' => ∃ t' t1 n', v = .str (Tx ((tx.drop pos).take 1)) t' ∧ news' = rdLed al r c1 ca ct robj oc1 oca oct (pos + ((tx.drop pos).take 1).length) t1 n' rest)
theorem read_slice (tx : List Nat) (pos : Nat) : Txt.slice (Tx tx) (some (pos : Int)) (some ((pos : Int) + 1)) = Tx ((tx.drop pos).take 1) := by
  rw [slice_ss _ _ _ (by omega) (by omega), show ((pos : Int) + 1).toNat = pos + 1 by omega, Int.toNat_natCast]
  unfold cut
  rw [show pos + 1 - pos = 1 by omega]
theorem len_tx {prog : Program} {w : World} {A : Around} {E : Value → Shared → Prop} {s : Shared} {x : Str} {l : List Nat} {t : Tok} {Q : Value → Shared → Prop} (e : x = Tx l) (hz : l.length < 2 ^ 62)
    (h : ∀ t k, Q (.int (l.length : Int) t) { s with toks := k }) : wpAny (model prog w) A (call (.builtin "len") [.str x t]) Q E s := by
  subst e
  exact P.len_str (by show ¬ (l.length : Int) ≥ 2 ^ 63; omega) (h _ _)
theorem with_read (w : World) (K : Frag) (p : Program) (loose : List Str) (mean : ExcName → Option Value) (mg mb : Str → Option Value) (tx : List Nat) {h₀ h : Heap} {L : Addr} {a b c : Addr × Obj} {al r c1 ca ct : Addr} {lo robj oc1 oca oct : Obj} {rest : List (Addr × Obj)} {G : Prop}
    (N0 : News h₀ L h (a :: b :: c :: (r, robj) :: (c1, oc1) :: (al, lo) :: (ca, oca) :: (ct, oct) :: rest)) (h1 : ReadProp w K p loose mean mg mb tx al r c1 ca ct robj oc1 oca oct)
    (h2 : ReadProp w K p loose mean mg mb tx al r c1 ca ct robj oc1 oca oct → G) : G := h2 h1
end
section
/-- the addresses and the unchanging objects of a machine -/
structure MA where
  (al r c1 ca ct pb d x f dd : Addr)
  (oc1 oca oct od : Obj)
  (fdr fd : FuncData)
  (h1 h2 h3 h4 : Int)
  (k1 k2 k3 k4 k5 : Tok)
/-- a machine's part of the ledger: at place pos of its text, at line ln, with pv pushed back -/
noncomputable abbrev mLed (a : MA) (pos : Nat) (t0 : Tok) (n : Nat) (ln : Int) (tl : Tok) (pv : List Value) (np : Nat) (rest : List (Addr × Obj)) : List (Addr × Obj) :=
  (a.al, listOf #[Value.int (pos : Int) t0] n) :: (a.r, fnObj none a.fdr) :: (a.c1, a.oc1) :: (a.ca, a.oca) :: (a.ct, a.oct) :: (a.pb, listOf pv.toArray np) ::
    (a.d, dictOf [⟨a.h1, .str "lineno" a.k1, .int ln tl⟩, ⟨a.h2, .str "instream" a.k2, .ref a.f⟩, ⟨a.h3, .str "whitespace" a.k3, .str (Str.ofString "\n\t\r ") a.k4⟩, ⟨a.h4, .str "pushback" a.k5, .ref a.pb⟩] 4) ::
    (a.x, instObj 124 a.d) :: (a.f, fnObj (some a.dd) a.fd) :: (a.dd, a.od) :: rest
noncomputable def MOrd (a : MA) : Prop := @LT.lt Nat _ a.ct a.ca ∧ @LT.lt Nat _ a.ca a.al ∧ @LT.lt Nat _ a.al a.c1 ∧ @LT.lt Nat _ a.c1 a.r ∧ @LT.lt Nat _ a.r a.f ∧ @LT.lt Nat _ a.f a.dd ∧ @LT.lt Nat _ a.dd a.d ∧ @LT.lt Nat _ a.d a.x ∧ @LT.lt Nat _ a.x a.pb
structure MOk (w : World) (K : Frag) (p : Program) (loose : List Str) (mean : ExcName → Option Value) (mg mb : Str → Option Value) (tx : List Nat) (a : MA) : Prop where
  ord : MOrd a
  read : ReadProp w K p loose mean mg mb tx a.al a.r a.c1 a.ca a.ct (fnObj none a.fdr) a.oc1 a.oca a.oct
  dict : ReadDict a.od a.r
theorem news_lex {h₀ h : Heap} {L : Addr} {pb x d f dd c2 r c1 al ca ct tb : Addr × Obj} {rest : List (Addr × Obj)} (N : News h₀ L h (pb :: x :: d :: f :: dd :: c2 :: r :: c1 :: al :: ca :: ct :: tb :: rest)) : News h₀ L h (al :: r :: c1 :: ca :: ct :: pb :: d :: x :: f :: dd :: rest) := by
  intro p hp
  refine N p ?_
  simp only [List.mem_cons] at hp ⊢
  rcases hp with hp | hp | hp | hp | hp | hp | hp | hp | hp | hp | hp <;> simp [hp]
end
section
theorem kw_C12 : True := by
  k_with_none
  k_with "sub" => ((repeat (refine List.forall_mem_cons.mpr ⟨by k_mem, ?_⟩)); (first | exact List.forall_mem_nil _ | (intro p hp; repeat (first | exact hp | apply List.Mem.tail))))
  k_with "enter" => (refine wpAny_call ?_; walk_at "enterC")
  k_with "enterC" => (k_dflt (refine' code_def ?q9k1 ?q9k2 ?q9k3 ?q9k4 ?q9k5 ?q9kA ?q9kF ?q9kK ?q9k6 ?q9k7 ?q9k8 ?q9k9 ?q9kB ?_ ?q9c2 ?q9c3 ?q9c4 ?q9c5; (case q9kA => exact rfl); (case q9kF => exact rfl); (case q9kK => assumption); (case q9k1 => k_asm); (case q9k2 => k_asm); (case q9k3 => k_asm); (case q9k4 => k_asm); (case q9k5 => k_asm); (case q9k6 => k_is); (case q9k7 => k_is); (case q9k8 => ktr_room); (case q9k9 => first | exact BindsTo.of_eq rfl | exact binds_K (by k_in) rfl (by k_is) rfl rfl rfl | (refine' kp_binds ?q9kx ?q9ke; (case q9kx => k_in); (case q9ke => exact fun _ => rfl)) | fail "enter: no rule for these arguments"); (case q9c5 => decide); (case q9kB => exact locs rfl); (case q9c2 => exact rfl); (case q9c3 => exact rfl); (case q9c4 => exact rfl); k_whole; intro g' L' h' FG' F' N' B' X' T'; (try dsimp only); (try k_lift B'); (try k_fold)))
  k_with "execs cons" => ((with_reducible refine wpAny_execs_cons ?_); (try dsimp only); k_fold)
  k_with "call builtin:str.lower" => (k_dflt (refine' low_call ?q9k1 ?_; (case q9k1 => first | assumption | exact L7_14 (by assumption)); k_whole; intro _ _))
  k_with "call builtin:str.upper" => (k_dflt (refine' upp_call ?q9k1 ?_; (case q9k1 => assumption); k_whole; intro _ _))
  k_with "call ref" => ((try k_fold); k_dflt (refine' Ct.use (ct_conv_name ?q9hc) ?q9B ?q9F ?q9X ?q9N ?q9T ?q9hk ?q9hd ?q9hu ?_; (case q9hc => assumption); (case q9B => k_asm); (case q9F => k_asm); (case q9X => k_asm); (case q9N => k_asm); (case q9T => k_asm); (case q9hk => exact rfl); (case q9hd => ktr_room); (case q9hu => ktr_units); k_whole; intro _ _ _ _ r9 _ _; obtain ⟨rfl, rfl⟩ := r9))
  k_with "call ref" => ((try k_fold); k_dflt (refine' Ct.use (ct_conv_value ?q9hc) ?q9B ?q9F ?q9X ?q9N ?q9T ?q9hk ?q9hd ?q9hu ?_; (case q9hc => assumption); (case q9B => k_asm); (case q9F => k_asm); (case q9X => k_asm); (case q9N => k_asm); (case q9T => k_asm); (case q9hk => exact rfl); (case q9hd => ktr_room); (case q9hu => ktr_units); k_whole; intro _ _ _ _ r9 _ _; obtain ⟨rfl, rfl⟩ := r9))
  k_with "setAttr ref" => ((k_here; rename News _ _ _ _ => N5; rename Fr _ _ _ _ => F5; k_dflt (refine' set_fnK F5 N5 ?q9ne ?_; (case q9ne => ((repeat (rename (_ ∧ _) => h9; rcases h9 with ⟨_, _⟩)); (repeat (refine List.forall_mem_cons.mpr ⟨neN (by omega), ?_⟩)); exact ne_allLt (by assumption) (by omega))); k_whole); clear N5 F5; intro _ _ _ _ _ _ _ _ l2; replace l2 := allLt_of l2; (try simp only [AllLt, and_true] at l2)); (try (revert l2; intro _)))
  k_with "call builtin:len" => (k_here; (with_reducible show wpAny _ _ (call (Value.builtin "len") [Value.str (Txt.slice _ _ _) _]) _ _ _); k_dflt (refine' len_tx (read_slice _ _) ?q9z1 ?_; (case q9z1 => omega); k_whole; intro _ _))
  trivial
theorem news_lex2 {h₀ h : Heap} {L : Addr} {pb x d f dd c2 r c1 al ca ct tb : Addr × Obj} {rest : List (Addr × Obj)} (N : News h₀ L h (pb :: x :: d :: f :: dd :: c2 :: r :: c1 :: al :: ca :: ct :: tb :: rest)) : News h₀ L h (al :: r :: c1 :: ca :: ct :: pb :: d :: x :: f :: dd :: tb :: rest) := by
  intro p hp
  refine N p ?_
  simp only [List.mem_cons] at hp ⊢
  rcases hp with hp | hp | hp | hp | hp | hp | hp | hp | hp | hp | hp | hp <;> simp [hp]
section
variable {w : World} {p : Program} {loose : List Str} {mean : ExcName → Option Value} {mg mb : Str → Option Value} {t : Tok} {tx : List Nat} {rest : List (Addr × Obj)}
set_option maxHeartbeats 8000000 in
theorem ct_lexer (hr280 : ∀ p ∈ rest, p.1 ≠ 280) (htx : tx.length ≤ 100) :
    CtN w (hd.heap_39 w.params) p loose mean mg mb (.ref 285) [.str (Tx tx) t] [] 60 200 ((280, tabObj #[]) :: rest)
      (fun v news' => ∃ a : MA, ∃ t0 n tl np, v = .ref a.x ∧ MOk w (hd.heap_39 w.params) p loose mean mg mb tx a ∧ (∀ p ∈ rest, p.1 < a.ct) ∧ @LT.lt Nat _ 280 a.ct ∧ ∃ ps, news' = mLed a 0 t0 n 1 tl [] np ((280, tabObj ps) :: rest)) := by
  intro dp un gd cn cs a ccd cl outer A₀ base h₀ L m s Q E C1 C2 B F X N T hk hdp hun hret
  show (let G9 : Prop := _; G9)
  intro G9
  obtain ⟨kd, nms, g1, g2, g3⟩ := cs
  k_unfold
  dsimp only at hk
  subst hk
  iterate 60 (first | (with_reducible show wpAny _ _ (callWith _ (.ref 124) _ _ _) _ _ _) | (k_unfold; (try dsimp only)) | (k_end; wrow_close) | walk1)
  rename_i al h13 lt1 h12 oca dca _ _ r c1 oc1 vs1 t1 ct1 dc1 h11 tkk d1 d2 lt2 lt3 h10 _ _ f c2 oc2 vs2 t2 ct2 h9 tk9 d3 d4 lt4 lt5 h8 _ _ h7 dd od tk7 F7 N7 hrd lt6 lt7
  refine with_read w (hd.heap_39 w.params) p loose mean mg mb tx N7 ?hread fun hread => ?_
  case hread =>
    intro pos t t0 n rest' hpos hne dp un gd cn cs a ccd cl outer A₀ base h₀ L m s Q E C1 C2 B F X N T hk hdp hun hret
    show (let G9 : Prop := _; G9)
    intro G9
    obtain ⟨kd, nms, g1, g2, g3⟩ := cs
    k_unfold
    dsimp only at hk
    subst hk
    have htk : ((tx.drop pos).take 1).length ≤ 1 := by rw [List.length_take]; omega
    have hposfit : fitsSsize (pos : Int) = true := fits_nat (by omega)
    k_steps
    rename News _ _ _ _ => N6
    exact hret _ _ _ _ ⟨_, _, _, congrArg (Value.str · _) (read_slice tx pos), rfl⟩ (by k_asm) N6
  k_steps
  rename_i x d _ _ _ lx1 lx2 _ _ _ _ _ _ _ _ _ _ _ _ _ _ _ _ _ _ pb _ lp1 _ _ _ _ _ _ _ _ N6 _ _
  repeat (rename (_ ∧ _) => h9; rcases h9 with ⟨_, _⟩)
  refine hret _ _ _ _ ⟨⟨al, r, c1, _, _, pb, d, x, f, dd, oc1, oca, _, od, _, _, _, _, _, _, _, _, _, _, _⟩, _, _, _, _, rfl, ⟨?ord, hread, hrd⟩, ?lt, ?l280, _, rfl⟩ (by k_asm) (news_lex2 N6)
  case ord => refine ⟨?_, ?_, ?_, ?_, ?_, ?_, ?_, ?_, ?_⟩ <;> dsimp only <;> omega
  case lt => exact fun p hp => Nat.lt_succ_of_lt (allLt_mem (by assumption) p hp)
  case l280 => dsimp only; omega
end
end
section
theorem eq_tx {prog : Program} {w : World} {A : Around} {E : Value → Shared → Prop} {s : Shared} {Q : Value → Shared → Prop} {x y : Str} {l l' : List Nat} {t u : Tok} {b : Bool} (hx : x = Tx l) (hy : y = Tx l') (hb : decide (l = l') = b) (h : Q (.bool b) s) :
    wpAny (model prog w) A (compareOp .Eq (.str x t) (.str y u)) Q E s := by
  subst hx hy hb
  refine PyProof.Rows.eq_str ?_
  have e : (Tx l == Tx l') = decide (l = l') := by
    have := ne_tx (a := l) (b := l')
    rw [bne] at this
    rw [decide_not] at this
    exact by cases h1 : (Tx l == Tx l') <;> cases h2 : decide (l = l') <;> simp_all
  rw [e]; exact h
theorem lit_nl : Str.ofString "\n" = Tx [10] := by decide +kernel
theorem lit_q : Str.ofString "\"" = Tx [34] := by decide +kernel
theorem lit_bs : Str.ofString "\\" = Tx [92] := by decide +kernel
theorem lit_ws : Str.ofString "\n\t\r " = Tx [10, 9, 13, 32] := by decide +kernel
theorem lit_e : Str.ofString "" = Tx [] := by decide +kernel
structure RestOk (a : MA) (rest : List (Addr × Obj)) : Prop where
  al : ∀ p ∈ rest, p.1 ≠ a.al
  pb : ∀ p ∈ rest, p.1 ≠ a.pb
  d : ∀ p ∈ rest, p.1 ≠ a.d
end
section
theorem kw_C14 : True := by
  k_with_none
  k_with "sub" => ((repeat (refine List.forall_mem_cons.mpr ⟨by k_mem, ?_⟩)); (first | exact List.forall_mem_nil _ | (intro p hp; repeat (first | exact hp | apply List.Mem.tail))))
  k_with "enter" => (refine wpAny_call ?_; walk_at "enterC")
  k_with "enterC" => (k_dflt (refine' code_def ?q9k1 ?q9k2 ?q9k3 ?q9k4 ?q9k5 ?q9kA ?q9kF ?q9kK ?q9k6 ?q9k7 ?q9k8 ?q9k9 ?q9kB ?_ ?q9c2 ?q9c3 ?q9c4 ?q9c5; (case q9kA => exact rfl); (case q9kF => exact rfl); (case q9kK => assumption); (case q9k1 => k_asm); (case q9k2 => k_asm); (case q9k3 => k_asm); (case q9k4 => k_asm); (case q9k5 => k_asm); (case q9k6 => k_is); (case q9k7 => k_is); (case q9k8 => ktr_room); (case q9k9 => first | exact BindsTo.of_eq rfl | exact binds_K (by k_in) rfl (by k_is) rfl rfl rfl | (refine' kp_binds ?q9kx ?q9ke; (case q9kx => k_in); (case q9ke => exact fun _ => rfl)) | fail "enter: no rule for these arguments"); (case q9c5 => decide); (case q9kB => exact locs rfl); (case q9c2 => exact rfl); (case q9c3 => exact rfl); (case q9c4 => exact rfl); k_whole; intro g' L' h' FG' F' N' B' X' T'; (try dsimp only); (try k_lift B'); (try k_fold)))
  k_with "execs cons" => ((with_reducible refine wpAny_execs_cons ?_); (try dsimp only); k_fold)
  k_with "call builtin:str.lower" => (k_dflt (refine' low_call ?q9k1 ?_; (case q9k1 => first | assumption | exact L7_14 (by assumption)); k_whole; intro _ _))
  k_with "call builtin:str.upper" => (k_dflt (refine' upp_call ?q9k1 ?_; (case q9k1 => assumption); k_whole; intro _ _))
  k_with "call ref" => ((try k_fold); k_dflt (refine' Ct.use (ct_conv_name ?q9hc) ?q9B ?q9F ?q9X ?q9N ?q9T ?q9hk ?q9hd ?q9hu ?_; (case q9hc => assumption); (case q9B => k_asm); (case q9F => k_asm); (case q9X => k_asm); (case q9N => k_asm); (case q9T => k_asm); (case q9hk => exact rfl); (case q9hd => ktr_room); (case q9hu => ktr_units); k_whole; intro _ _ _ _ r9 _ _; obtain ⟨rfl, rfl⟩ := r9))
  k_with "call ref" => ((try k_fold); k_dflt (refine' Ct.use (ct_conv_value ?q9hc) ?q9B ?q9F ?q9X ?q9N ?q9T ?q9hk ?q9hd ?q9hu ?_; (case q9hc => assumption); (case q9B => k_asm); (case q9F => k_asm); (case q9X => k_asm); (case q9N => k_asm); (case q9T => k_asm); (case q9hk => exact rfl); (case q9hd => ktr_room); (case q9hu => ktr_units); k_whole; intro _ _ _ _ r9 _ _; obtain ⟨rfl, rfl⟩ := r9))
  trivial
section
variable {w : World} {p : Program} {loose : List Str} {mean : ExcName → Option Value} {mg mb : Str → Option Value} {t0 tl t : Tok} {wd : List Nat} {a : MA} {pos n np : Nat} {ln : Int} {pv : List Value} {rest : List (Addr × Obj)}
set_option maxHeartbeats 8000000 in
theorem ct_push (hm : MOrd a) (hr : RestOk a rest) (hlen : pv.length ≤ 1000) :
    Ct w (hd.heap_39 w.params) p loose mean mg mb (.ref 121) [.ref a.x, .str (Tx wd) t] [] 12 36 (mLed a pos t0 n ln tl pv np rest)
      (fun v news' => v = .none ∧ ∃ np', news' = mLed a pos t0 n ln tl (pv ++ [.str (Tx wd) t]) np' rest) := by
  intro dp un gd cn cs a' ccd cl outer A₀ base h₀ L m s Q E B F X N T hk hdp hun hret
  show (let G9 : Prop := _; G9)
  intro G9
  obtain ⟨kd, nms, g1, g2, g3⟩ := cs
  k_unfold
  dsimp only at hk
  subst hk
  show (let G9 : Prop := _; G9)
  intro G9
  obtain ⟨al, r, c1, ca, ct, pb, d, x, f, dd, oc1, oca, oct, od, fdr, fd, h1, h2, h3, h4, k1, k2, k3, k4, k5⟩ := a
  k_unfold
  show (let G9 : Prop := _; G9)
  intro G9
  obtain ⟨r1, r2, r3⟩ := hr
  k_unfold
  dsimp only [mLed, MOrd, fnObj] at *
  show (let G9 : Prop := _; G9)
  intro G9
  obtain ⟨o1, o2, o3, o4, o5, o6, o7, o8, o9⟩ := hm
  k_unfold
  k_steps
  rename News _ _ _ _ => N7
  simp only [List.push_toArray] at N7
  exact hret _ _ _ _ ⟨rfl, _, rfl⟩ (by k_asm) N7
end
end
section
open PySem.Builtin
section
variable {M : Model} {A : Around} {E : Value → Shared → Prop} {s : Shared}
theorem wpAny_callBorrowed {f : Value} {pos : List Value} {Q : Value → Shared → Prop}
    (hc : codeAny M A (.call f ⟨pos, []⟩) (fun r s' => match r with | .ok (.ret v) => Q v s' | .ok _ => False | .error e => E e s') s) :
    wpAny M A (callBorrowed f pos) Q E s := fun Γ p hΓ => by
  unfold callBorrowed
  rw [Sem.wp]
  refine wpCode_mono (fun r s' hr => ?_) (hc _ p rfl (hΓ.enter _ none p (by intro x; cases x)))
  match r, hr with
  | .ok (.ret v), hr => rw [Sem.wp]; exact hr
  | .error e, hr => rw [Sem.wp]; exact hr
  | .ok .next, hr => exact hr.elim
  | .ok .brk, hr => exact hr.elim
  | .ok .cont, hr => exact hr.elim
end
theorem fill3 : PySem.Challenge.rw_kl0089_01 = PySem.Challenge.rw_kl0089_01 ∧ hd.heap_39 = hd.heap_39 := by k_fill; exact ⟨rfl, rfl⟩
theorem slot_canext : Slot "callable_iterator" "__next__" "callable_iterator.__next__" :=
  .of (owner := "callable_iterator") (n := "__next__") (by rw [typeLookup_type, builtinLookup_eq_fast]; kernel_rfl) (by decide +kernel) (by decide +kernel) (by decide +kernel)
    (by first | exact .inl (by decide +kernel) | exact .inr (by decide +kernel)) (by rw [isSubtype_type]; kernel_rfl)
theorem entry_canext : entryFor table "callable_iterator.__next__" = some Builtin.«callable_iterator.__next__» := entryFor_of_tree (by kernel_rfl)
theorem args_canext (a : Value) : argsOk "callable_iterator.__next__" ⟨[a], []⟩ := by unfold argsOk; kernel_rfl
theorem slot_caiter : Slot "callable_iterator" "__iter__" "callable_iterator.__iter__" :=
  .of (owner := "callable_iterator") (n := "__iter__") (by rw [typeLookup_type, builtinLookup_eq_fast]; kernel_rfl) (by decide +kernel) (by decide +kernel) (by decide +kernel)
    (by first | exact .inl (by decide +kernel) | exact .inr (by decide +kernel)) (by rw [isSubtype_type]; kernel_rfl)
noncomputable abbrev caObj (qm : Addr) (t : Tok) : Obj := { cls := .type "callable_iterator", data := .fields #[.ref qm, .str (Str.ofString "") t, .bool false] }
section
variable {prog : Program} {w : World} {A : Around} {E : Value → Shared → Prop} {s : Shared} {I qm F x : Addr} {t : Tok} {oc : Value} {od : Option Addr} {fd : FuncData} {sl : Array (Option Value)}
theorem borrows_method {Q : Bool → Shared → Prop} (hq : s.heap.get? qm = some (methodObj (.ref F) (.ref x))) (hF : s.heap.get? F = some ⟨oc, od, .func fd, sl⟩) (h : Q true s) :
    wpAny (model prog w) A (borrowsExactly (.ref qm)) Q E s := by
  unfold borrowsExactly
  refine wpAny_bind (wpAny_load hq ?_)
  show wpAny _ _ (do match (← load F).data with | .func _ => pure true | _ => pure false) _ _ s
  exact wpAny_bind (wpAny_load hF (wpAny_pure h))
theorem next_ca {P : Value → Shared → Prop} {Q : Option Value → Shared → Prop} (hh : A.handled = none) (hI : s.heap.get? I = some (caObj qm t)) (hq : s.heap.get? qm = some (methodObj (.ref F) (.ref x))) (hF : s.heap.get? F = some ⟨oc, od, .func fd, sl⟩)
    (hcall : codeAny (model prog w) A.in1 (.call (.ref qm) ⟨[], []⟩) (fun r s' => match r with | .ok (.ret v) => P v s' | .ok _ => False | .error _ => False) s)
    (hP : ∀ v s', P v s' → ∃ l t', v = .str (Tx l) t' ∧ s'.heap.get? I = some (caObj qm t) ∧ s'.heap.get? qm = some (methodObj (.ref F) (.ref x)) ∧ s'.heap.get? F = some ⟨oc, od, .func fd, sl⟩ ∧
      (l ≠ [] → Q (some v) s') ∧ (l = [] → ∀ h' tk, Heap.ExtBut I s'.heap h' → Q none { s' with heap := h', toks := tk })) :
    wpAny (model prog w) A (pyNext (.ref I)) Q E s := by
  have hT : ∀ s : Shared, s.heap.get? I = some (caObj qm t) → s.TypeIs (.ref I) "callable_iterator" := fun _ h => ⟨_, h, rfl⟩
  unfold pyNext
  refine wpAny_bind (wpAny_attempt (wpAny_callSpecial?_slot (name := Str.ofString "__next__") (hT _ hI) slot_canext
    (wpAny_call_entry slot_canext (hT _ hI) entry_canext ?_ (args_canext _))))
  show wpAny _ _ (field (.ref I) 2 >>= _) _ _ s
  refine wpAny_bind (wpAny_field hI rfl (x := .bool false) rfl ?_)
  show wpAny _ _ (if (Value.bool false == Value.bool true) = true then _ else _) _ _ s
  rw [if_neg (show ¬ ((Value.bool false == Value.bool true) = true) from Bool.false_ne_true)]
  show wpAny _ _ (field (.ref I) 0 >>= _) _ _ s
  refine wpAny_bind (wpAny_field hI rfl (x := .ref qm) rfl ?_)
  refine wpAny_bind (wpAny_attempt ?_)
  unfold callOutOfASlot
  refine wpAny_bind (borrows_method hq hF ?_)
  show wpAny _ _ (callBorrowed (.ref qm) []) _ _ s
  refine wpAny_callBorrowed (codeAny_mono hcall fun r s' hr => ?_)
  match r, hr with
  | .ok (.ret v), hr =>
    show (let G9 : Prop := _; G9)
    intro G9
    obtain ⟨l, t', rfl, hI', hq', hF', hsome, hnone⟩ := hP _ _ hr
    k_unfold
    show wpAny _ _ (field (.ref I) 2 >>= _) _ _ s'
    refine wpAny_bind (wpAny_field hI' rfl (x := .bool false) rfl ?_)
    show wpAny _ _ (if (Value.bool false == Value.bool true) = true then _ else _) _ _ s'
    rw [if_neg (show ¬ ((Value.bool false == Value.bool true) = true) from Bool.false_ne_true)]
    show wpAny _ _ (field (.ref I) 1 >>= _) _ _ s'
    refine wpAny_bind (wpAny_field hI' rfl (x := .str (Str.ofString "") t) rfl ?_)
    refine wpAny_bind (wpAny_holding (eqBool_str ?_))
    rw [lit_e]
    by_cases hl : l = []
    · subst hl
      rw [show (Tx [] == Tx []) = true by simp]
      show wpAny _ _ (if (!true) = true then _ else _) _ _ s'
      rw [if_neg (by simp)]
      refine wpAny_bind (wpAny_rule (wpAny_bind ?_))
      show wpAny _ _ (field (.ref I) 0 >>= _) _ _ s'
      refine wpAny_bind (wpAny_field hI' rfl (x := .ref qm) rfl ?_)
      unfold slotLetsGo
      show wpAny _ _ ((borrowsExactly (.ref qm) >>= fun b => if b = true then pure () else _) >>= _) _ _ s'
      refine wpAny_bind (wpAny_bind (borrows_method hq' hF' ?_))
      rw [if_pos rfl]
      refine wpAny_pure (wpAny_bind (wpAny_setField_rec hI' (by simp) fun h1 hI1 hs1 => ?_))
      refine wpAny_bind (wpAny_setField_rec hI1 (by simp) fun h2 hI2 hs2 => ?_)
      refine wpAny_setField_rec hI2 (by simp) fun h3 hI3 hs3 => ?_
      show wpAny _ _ (newExc (.type "StopIteration") [] >>= _) _ _ _
      refine wpAny_bind ?_
      simp only [newExc, newTuple]
      refine wpAny_bind (wpAny_newObj_type ?_ (by size_fits))
      refine wpAny_bind (m := firstArgMember _ _) (wpAny_of_eq (a := Value.none) (by first | rfl | (simp only [firstArgMember]; rfl)) ?_)
      refine wpAny_newObj_type ?_ (by size_fits)
      simp only [raiseNew]
      refine wpAny_bind (wpAny_handled ?_)
      rw [show A.in1.handled = none from hh]
      refine wpAny_bind (wpAny_pure (wpAny_throw ?_))
      refine wpAny_bind (wpAny_isInstance (T := "StopIteration") (b := true) ⟨_, Heap.get?_push_size _ rfl, rfl⟩ isSubtype_stop ?_)
      exact wpAny_pure (hnone rfl _ _ ((((hs1.extBut.trans hs2.extBut).trans hs3.extBut).push _).push _))
    · rw [show (Tx [] == Tx l) = false by
        cases h1 : (Tx [] == Tx l) with
        | false => rfl
        | true =>
          have := (beq_iff_eq (α := Str)).mp h1
          injection this with h2
          injection h2 with h3
          exact absurd h3.symm hl]
      show wpAny _ _ (if (!false) = true then _ else _) _ _ s'
      rw [if_pos (by simp)]
      exact wpAny_pure ⟨_, rfl, wpAny_pure (hsome hl)⟩
  | .error e, hr => exact hr.elim
  | .ok .next, hr => exact hr.elim
  | .ok .brk, hr => exact hr.elim
  | .ok .cont, hr => exact hr.elim
end
end
section
open PySem.Builtin
theorem fill4 : PySem.Challenge.rw_kl0089_01 = PySem.Challenge.rw_kl0089_01 ∧ hd.heap_39 = hd.heap_39 := by k_fill; exact ⟨rfl, rfl⟩
theorem entry_caiter : entryFor table "callable_iterator.__iter__" = some Builtin.«dict_keyiterator.__iter__» :=
  entryFor_alias (id' := "dict_keyiterator.__iter__") (by kernel_rfl) (by first | rfl | decide +kernel | (unfold String.splitOn; simp +decide [String.splitOnAux])) (by decide +kernel) (by kernel_rfl)
theorem args_caiter (a : Value) : argsOk "callable_iterator.__iter__" ⟨[a], []⟩ := by unfold argsOk; kernel_rfl
theorem args_iter2 (a b : Value) : argsOk "iter" ⟨[a, b], []⟩ := by unfold argsOk; kernel_rfl
theorem slot_methcall : Slot "method" "__call__" "method.__call__" :=
  .of (owner := "method") (n := "__call__") (by rw [typeLookup_type, builtinLookup_eq_fast]; kernel_rfl) (by decide +kernel) (by decide +kernel) (by decide +kernel)
    (by first | exact .inl (by decide +kernel) | exact .inr (by decide +kernel)) (by rw [isSubtype_type]; kernel_rfl)
section
variable {prog : Program} {w : World} {A : Around} {E : Value → Shared → Prop} {s : Shared} {h₀ : Heap} {L : Addr} {m : Str → Option Value} {I qm : Addr} {F x : Value} {t : Tok} {news : List (Addr × Obj)}
theorem iter_ca {Q : Value → Shared → Prop} (hI : s.heap.get? I = some (caObj qm t)) (h : Q (.ref I) s) : wpAny (model prog w) A (pyIter (.ref I)) Q E s := by
  have hT : s.TypeIs (.ref I) "callable_iterator" := ⟨_, hI, rfl⟩
  refine wpAny_pyIter_slot hT slot_caiter (wpAny_call_entry slot_caiter hT entry_caiter ?_ (args_caiter _))
  show wpAny _ _ (ret (.ref I)) _ _ s
  exact wpAny_pure ⟨_, rfl, "callable_iterator", _, hT, slot_canext.lookup, h⟩
theorem make_ca {Q : Value → Shared → Prop} (Fr0 : Fr h₀ L s.heap m) (N : News h₀ L s.heap news) (hq : (qm, methodObj F x) ∈ news)
    (h : ∀ (I : Addr) h', Fr h₀ L h' m → News h₀ L h' ((I, caObj qm t) :: news) → (∀ p ∈ news, p.1 < I) → Q (.ref I) { s with heap := h' }) :
    wpAny (model prog w) A (call (.builtin "iter") [.ref qm, .str (Str.ofString "") t]) Q E s := by
  have hT : s.TypeIs (.ref qm) "method" := ⟨_, (N _ hq).1, rfl⟩
  refine call_function_entry (by decide +kernel) (by decide +kernel) kdk_entry_iter (args_iter2 _ _) ?_
  unfold Builtin.«iter»
  refine wpAny_bind (m := someArgs "iter" 1 2 _) (wpAny_of_eq (a := [.ref qm, .str (Str.ofString "") t]) (by first | rfl | kernel_rfl!) ?_)
  dsimp only
  refine wpAny_bind (wpAny_specialOf (name := Str.ofString "__call__") hT slot_methcall.lookup ?_)
  refine wpAny_ite_split (fun hab => absurd hab (by decide)) (fun _ => ?_)
  refine wpAny_bind (wpAny_rule ?_)
  refine wpAny_bind ?_
  unfold newFields
  refine wpAny_newObj_type ?_ (by size_fits)
  exact wpAny_pure ⟨_, rfl, h _ _ (Fr0.push _) (News.push Fr0 N _ rfl) (fun q hq => Heap.lt_size (N q hq).1)⟩
end
end
section
/-- CtN of the call's own code -/
noncomputable abbrev CtNC (w : World) (K : Frag) (p : Program) (loose : List Str) (mean : ExcName → Option Value) (mg mb : Str → Option Value) (fv : Value) (vs : List Value) (kw : List (Str × Value)) (d u : Nat) (news : List (Addr × Obj)) (R : Value → List (Addr × Obj) → Prop) : Prop :=
  ∀ (dp un : Nat) (gd : Option (List Code)) (cn : Str) (cs : Scope) (a : Addr) (ccd : Value) (cl : List (Str × Addr)) (outer : List Env) (A₀ : Around) (base h₀ : Heap) (L : Addr) (m : Str → Option Value) (s : Shared) (Q E : Value → Shared → Prop),
    CodeHd base 329 325 → CodeHd base 284 280 → Below A₀ base outer h₀ → Fr h₀ L s.heap m → K.In h₀ → News h₀ L s.heap news → Top p loose mean mg mb h₀ → cs.kind = .function → dp + d < recursionLimit → un + u < cLine →
    (∀ v news' h' tk', R v news' → Fr h₀ L h' m → News h₀ L h' news' → Q v { s with heap := h', toks := tk' }) →
    codeAny (model PG w) (ktrTop dp un gd cn cs L a ccd cl outer) (.call fv ⟨vs, kw⟩) (fun r s' => match r with | .ok (.ret v) => Q v s' | .ok _ => False | .error e => E e s') s
theorem CtNC.toN {w : World} {K : Frag} {p : Program} {loose : List Str} {mean : ExcName → Option Value} {mg mb : Str → Option Value} {fv : Value} {vs : List Value} {kw : List (Str × Value)} {d u : Nat} {news : List (Addr × Obj)} {R : Value → List (Addr × Obj) → Prop}
    (C : CtNC w K p loose mean mg mb fv vs kw d u news R) : CtN w K p loose mean mg mb fv vs kw d u news R :=
  fun _ _ _ _ _ _ _ _ _ _ _ _ _ _ _ _ _ C1 C2 B F X N T hk hd hu h => wpAny_call (C _ _ _ _ _ _ _ _ _ _ _ _ _ _ _ _ _ C1 C2 B F X N T hk hd hu h)
theorem CtNC.meth {w : World} {K : Frag} {p : Program} {loose : List Str} {mean : ExcName → Option Value} {mg mb : Str → Option Value} {fv self : Value} {qm : Addr} {vs : List Value} {kw : List (Str × Value)} {d u : Nat} {news : List (Addr × Obj)} {R : Value → List (Addr × Obj) → Prop}
    (C : CtNC w K p loose mean mg mb fv (self :: vs) kw d u news R) (hm : (qm, methodObj fv self) ∈ news) : CtNC w K p loose mean mg mb (.ref qm) vs kw d u news R :=
  fun _ _ _ _ _ _ _ _ _ _ _ _ _ _ _ _ _ C1 C2 B F X N T hk hd hu h => method_call (N _ hm).1 (C _ _ _ _ _ _ _ _ _ _ _ _ _ _ _ _ _ C1 C2 B F X N T hk hd hu h)
/-- a callable iterator's next in the K layer's terms; the callable: a method object whose code has a contract on news -/
theorem next_caK {w : World} {K : Frag} {p : Program} {loose : List Str} {mean : ExcName → Option Value} {mg mb : Str → Option Value} {f x qm I : Addr} {t : Tok} {oc : Value} {od : Option Addr} {fd : FuncData} {sl : Array (Option Value)} {d u : Nat} {news : List (Addr × Obj)} {R : Value → List (Addr × Obj) → Prop}
    (C : CtNC w K p loose mean mg mb (.ref f) [.ref x] [] d u ((I, caObj qm t) :: (qm, methodObj (.ref f) (.ref x)) :: news) R)
    {dp un : Nat} {gd : Option (List Code)} {cn : Str} {cs : Scope} {a : Addr} {ccd : Value} {cl : List (Str × Addr)} {outer : List Env} {A₀ : Around} {base h₀ : Heap} {L : Addr} {m : Str → Option Value} {s : Shared} {Q : Option Value → Shared → Prop} {E : Value → Shared → Prop}
    (C1 : CodeHd base 329 325) (C2 : CodeHd base 284 280) (B : Below A₀ base outer h₀) (F : Fr h₀ L s.heap m) (X : K.In h₀) (N : News h₀ L s.heap ((I, caObj qm t) :: (qm, methodObj (.ref f) (.ref x)) :: news)) (T : Top p loose mean mg mb h₀) (hk : cs.kind = .function) (hd : dp + d < recursionLimit) (hu : (un + 1) + u < cLine)
    (hf : K.lookup f = some ⟨oc, od, .func fd, sl⟩)
    (hR : ∀ v news', R v news' → ∃ l t' news₂, v = .str (Tx l) t' ∧ news' = (I, caObj qm t) :: (qm, methodObj (.ref f) (.ref x)) :: news₂ ∧ (∀ p ∈ news₂, p.1 ≠ I) ∧
      (∀ h' tk, Fr h₀ L h' m → News h₀ L h' news' → l ≠ [] → Q (some v) { s with heap := h', toks := tk }) ∧
      (∀ h' tk, Fr h₀ L h' m → News h₀ L h' ((qm, methodObj (.ref f) (.ref x)) :: news₂) → l = [] → Q none { s with heap := h', toks := tk }))
    (hqI : qm ≠ I) :
    wpAny (model PG w) (ktrTop dp un gd cn cs L a ccd cl outer) (pyNext (.ref I)) Q E s := by
  refine next_ca (F := f) (x := x) (qm := qm) (t := t) (oc := oc) (od := od) (fd := fd) (sl := sl) rfl (N _ (.head _)).1 (N _ (.tail _ (.head _))).1 (F.keep _ _ (X _ _ hf))
    (P := fun v s' => ∃ news' h' tk', R v news' ∧ Fr h₀ L h' m ∧ News h₀ L h' news' ∧ s' = { s with heap := h', toks := tk' }) ?_ ?_
  · exact codeAny_mono (CtNC.meth C (.tail _ (.head _)) dp (un + 1) gd cn cs a ccd cl outer A₀ base h₀ L m s (fun v s' => ∃ news' h' tk', R v news' ∧ Fr h₀ L h' m ∧ News h₀ L h' news' ∧ s' = { s with heap := h', toks := tk' }) (fun _ _ => False) C1 C2 B F X N T hk hd hu fun v news' h' tk' r F' N' => ⟨news', h', tk', r, F', N', rfl⟩) fun r s' h => h
  · intro v s' r9
    show (let G9 : Prop := _; G9)
    intro G9
    obtain ⟨news', h', tk', r, F', N', rfl⟩ := r9
    k_unfold
    show (let G9 : Prop := _; G9)
    intro G9
    obtain ⟨l, t', news₂, rfl, rfl, hne, h1, h2⟩ := hR _ _ r
    k_unfold
    refine ⟨l, t', rfl, (N' _ (.head _)).1, (N' _ (.tail _ (.head _))).1, F'.keep _ _ (X _ _ hf), fun hl => h1 _ _ F' N' hl, fun hl h'' tk'' he => h2 _ _ ?_ ?_ hl⟩
    · have hI := N' _ (.head _)
      exact ⟨F'.ns.at' fun o e => he _ o hI.2.1.symm e, fun b o e => he b o (fun q => by rw [q, hI.2.2] at e; cases e) (F'.keep b o e), F'.above⟩
    · intro p hp
      rcases List.mem_cons.mp hp with rfl | hp
      · exact ⟨he _ _ hqI (N' _ (.tail _ (.head _))).1, (N' _ (.tail _ (.head _))).2⟩
      · exact ⟨he _ _ (hne p hp) (N' _ (.tail _ (.tail _ hp))).1, (N' _ (.tail _ (.tail _ hp))).2⟩
end
section
theorem kw_C13 : True := by
  k_with_none
  k_with "sub" => ((repeat (refine List.forall_mem_cons.mpr ⟨by k_mem, ?_⟩)); (first | exact List.forall_mem_nil _ | (intro p hp; repeat (first | exact hp | apply List.Mem.tail))))
  k_with "enter" => (refine wpAny_call ?_; walk_at "enterC")
  k_with "enterC" => (k_dflt (refine' code_def ?q9k1 ?q9k2 ?q9k3 ?q9k4 ?q9k5 ?q9kA ?q9kF ?q9kK ?q9k6 ?q9k7 ?q9k8 ?q9k9 ?q9kB ?_ ?q9c2 ?q9c3 ?q9c4 ?q9c5; (case q9kA => exact rfl); (case q9kF => exact rfl); (case q9kK => assumption); (case q9k1 => k_asm); (case q9k2 => k_asm); (case q9k3 => k_asm); (case q9k4 => k_asm); (case q9k5 => k_asm); (case q9k6 => k_is); (case q9k7 => k_is); (case q9k8 => ktr_room); (case q9k9 => first | exact BindsTo.of_eq rfl | exact binds_K (by k_in) rfl (by k_is) rfl rfl rfl | (refine' kp_binds ?q9kx ?q9ke; (case q9kx => k_in); (case q9ke => exact fun _ => rfl)) | fail "enter: no rule for these arguments"); (case q9c5 => decide); (case q9kB => exact locs rfl); (case q9c2 => exact rfl); (case q9c3 => exact rfl); (case q9c4 => exact rfl); k_whole; intro g' L' h' FG' F' N' B' X' T'; (try dsimp only); (try k_lift B'); (try k_fold)))
  k_with "execs cons" => ((with_reducible refine wpAny_execs_cons ?_); (try dsimp only); k_fold)
  k_with "call builtin:str.lower" => (k_dflt (refine' low_call ?q9k1 ?_; (case q9k1 => first | assumption | exact L7_14 (by assumption)); k_whole; intro _ _))
  k_with "call builtin:str.upper" => (k_dflt (refine' upp_call ?q9k1 ?_; (case q9k1 => assumption); k_whole; intro _ _))
  k_with "call ref" => ((try k_fold); k_dflt (refine' Ct.use (ct_conv_name ?q9hc) ?q9B ?q9F ?q9X ?q9N ?q9T ?q9hk ?q9hd ?q9hu ?_; (case q9hc => assumption); (case q9B => k_asm); (case q9F => k_asm); (case q9X => k_asm); (case q9N => k_asm); (case q9T => k_asm); (case q9hk => exact rfl); (case q9hd => ktr_room); (case q9hu => ktr_units); k_whole; intro _ _ _ _ r9 _ _; obtain ⟨rfl, rfl⟩ := r9))
  k_with "call ref" => ((try k_fold); k_dflt (refine' Ct.use (ct_conv_value ?q9hc) ?q9B ?q9F ?q9X ?q9N ?q9T ?q9hk ?q9hd ?q9hu ?_; (case q9hc => assumption); (case q9B => k_asm); (case q9F => k_asm); (case q9X => k_asm); (case q9N => k_asm); (case q9T => k_asm); (case q9hk => exact rfl); (case q9hd => ktr_room); (case q9hu => ktr_units); k_whole; intro _ _ _ _ r9 _ _; obtain ⟨rfl, rfl⟩ := r9))
  k_with "getMethod ref" => (k_here; (with_reducible show wpAny _ _ (getMethod _ (Str.ofString "read") _) _ _ _); rename News _ _ _ _ => N5; k_dflt (refine' get_fnK N5 ?q9z1 ?q9z2 ?q9z3 ?_; (case q9z1 => k_mem); (case q9z2 => k_mem); (case q9z3 => assumption); k_whole; intro _))
  k_with "call ref" => (rename ReadProp _ _ _ _ _ _ _ _ _ _ _ _ _ _ _ _ _ => hr9; rename List.take 1 (List.drop _ _) = _ => hch9; (try k_fold); k_dflt (refine' CtN.use (hr9 _ _ _ _ _ ?q9hp ?q9hne) ?q9C1 ?q9C2 ?q9B ?q9F ?q9X ?q9N ?q9T ?q9hk ?q9hd ?q9hu ?_; (case q9N => k_asm); (case q9hp => assumption); (case q9hne => ((repeat (refine List.forall_mem_cons.mpr ⟨neN (by omega), ?_⟩)); assumption)); (case q9C1 => assumption); (case q9C2 => assumption); (case q9B => k_asm); (case q9F => k_asm); (case q9X => k_asm); (case q9T => k_asm); (case q9hk => exact rfl); (case q9hd => ktr_room); (case q9hu => ktr_units); k_whole; intro _ _ _ _ r9 _ _; obtain ⟨t9, t8, n8, e1, e2⟩ := r9; rw [hch9] at e1 e2; subst e1 e2))
  k_with "compareOp Eq str str" => (k_here; k_dflt (refine' eq_tx rfl lit_nl ?q9hb ?_; (case q9hb => assumption); k_whole))
  trivial
section
variable {w : World} {p : Program} {loose : List Str} {mean : ExcName → Option Value} {mg mb : Str → Option Value} {t0 tl : Tok} {tx ch : List Nat} {a : MA} {pos n np : Nat} {ln : Int} {pv : List Value} {rest : List (Addr × Obj)}
set_option maxHeartbeats 8000000 in
theorem ctc_rc (hm : MOk w (hd.heap_39 w.params) p loose mean mg mb tx a) (hr : RestOk a rest) (hch : (tx.drop pos).take 1 = ch) (hpos : pos ≤ tx.length) :
    CtNC w (hd.heap_39 w.params) p loose mean mg mb (.ref 107) [.ref a.x] [] 24 72 (mLed a pos t0 n ln tl pv np rest)
      (fun v news' => ∃ t' t0' n' tl', v = .str (Tx ch) t' ∧ news' = mLed a (pos + ch.length) t0' n' (ln + (if ch = [10] then 1 else 0)) tl' pv np rest) := by
  intro dp un gd cn cs a' ccd cl outer A₀ base h₀ L m s Q E C1 C2 B F X N T hk hdp hun hret
  show (let G9 : Prop := _; G9)
  intro G9
  obtain ⟨al, r, c1, ca, ct, pb, d, x, f, dd, oc1, oca, oct, od, fdr, fd, h1, h2, h3, h4, k1, k2, k3, k4, k5⟩ := a
  k_unfold
  show (let G9 : Prop := _; G9)
  intro G9
  obtain ⟨ord, hread, hrd⟩ := hm
  k_unfold
  show (let G9 : Prop := _; G9)
  intro G9
  obtain ⟨r1, r2, r3⟩ := hr
  k_unfold
  dsimp only [mLed, MOrd, fnObj] at *
  show (let G9 : Prop := _; G9)
  intro G9
  obtain ⟨o1, o2, o3, o4, o5, o6, o7, o8, o9⟩ := ord
  k_unfold
  walk_at "enterC"
  cases hb : decide (ch = [10]) with
  | true =>
    have hc := of_decide_eq_true hb
    k_steps
    rename News _ _ _ _ => N6
    have e : ln + (if ch = [10] then 1 else 0) = ln + 1 := by rw [if_pos hc]
    exact hret _ _ _ _ ⟨_, _, _, _, rfl, rfl⟩ (by k_asm) (by rw [e]; exact N6)
  | false =>
    have hc := of_decide_eq_false hb
    k_steps
    rename News _ _ _ _ => N6
    have e : ln + (if ch = [10] then 1 else 0) = ln := by rw [if_neg hc, Int.add_zero]
    exact hret _ _ _ _ ⟨_, _, _, _, rfl, rfl⟩ (by k_asm) (by rw [e]; exact N6)
end
end
section
theorem fill5 : PySem.Challenge.rw_kl0089_01 = PySem.Challenge.rw_kl0089_01 ∧ hd.heap_39 = hd.heap_39 := by k_fill; exact ⟨rfl, rfl⟩
theorem CtNC.sub {w : World} {K : Frag} {p : Program} {loose : List Str} {mean : ExcName → Option Value} {mg mb : Str → Option Value} {fv : Value} {vs : List Value} {kw : List (Str × Value)} {d u : Nat} {news₁ news : List (Addr × Obj)} {R₁ R : Value → List (Addr × Obj) → Prop}
    (C : CtNC w K p loose mean mg mb fv vs kw d u news₁ R₁) (h1 : ∀ p ∈ news₁, p ∈ news) (h2 : ∀ v n₁, R₁ v n₁ → ∃ n, R v n ∧ ∀ p ∈ n, p ∈ n₁) : CtNC w K p loose mean mg mb fv vs kw d u news R :=
  fun _ _ _ _ _ _ _ _ _ _ _ _ _ _ _ _ _ C1 C2 B F X N T hk hd hu h => C _ _ _ _ _ _ _ _ _ _ _ _ _ _ _ _ _ C1 C2 B F X (cb_drop N h1) T hk hd hu fun v n h' tk' r F' N' => by
    show (let G9 : Prop := _; G9)
    intro G9
    obtain ⟨n', r', hs⟩ := h2 v n r
    k_unfold
    exact h v n' h' tk' r' F' (cb_drop N' hs)
theorem one_some {tx : List Nat} {pos c : Nat} (h : tx[pos]? = some c) : (tx.drop pos).take 1 = [c] := by
  have hl : pos < tx.length := (List.getElem?_eq_some_iff.mp h).1
  rw [List.drop_eq_getElem_cons hl, (List.getElem?_eq_some_iff.mp h).2]
  rfl
theorem one_none {tx : List Nat} {pos : Nat} (h : tx[pos]? = none) : (tx.drop pos).take 1 = [] := by
  rw [List.drop_eq_nil_of_le (by simpa using h)]
  rfl
theorem lt_some {tx : List Nat} {pos c : Nat} (h : tx[pos]? = some c) : pos ≤ tx.length := Nat.le_of_lt (List.getElem?_eq_some_iff.mp h).1
/-- the line behind a letter -/
noncomputable def lnx (ln : Int) (c : Nat) : Int := ln + (if c = 10 then 1 else 0)
section
variable {w : World} {p : Program} {loose : List Str} {mean : ExcName → Option Value} {mg mb : Str → Option Value} {t0 tl : Tok} {tx : List Nat} {a : MA} {pos n np c : Nat} {ln : Int} {pv : List Value} {rest : List (Addr × Obj)}
theorem ctc_rc_some (hm : MOk w (hd.heap_39 w.params) p loose mean mg mb tx a) (hr : RestOk a rest) (hc : tx[pos]? = some c) :
    CtNC w (hd.heap_39 w.params) p loose mean mg mb (.ref 107) [.ref a.x] [] 24 72 (mLed a pos t0 n ln tl pv np rest)
      (fun v news' => ∃ t' t0' n' tl', v = .str (Tx [c]) t' ∧ news' = mLed a (pos + 1) t0' n' (lnx ln c) tl' pv np rest) := by
  refine CtNC.sub (ctc_rc hm hr (one_some hc) (lt_some hc)) (fun p hp => hp) ?_
  intro v n₁ r9
  show (let G9 : Prop := _; G9)
  intro G9
  obtain ⟨t', t0', n', tl', rfl, rfl⟩ := r9
  k_unfold
  refine ⟨_, ⟨t', t0', n', tl', rfl, rfl⟩, fun p hp => ?_⟩
  have e : (ln + (if [c] = [10] then 1 else 0) : Int) = lnx ln c := by
    unfold lnx
    by_cases h : c = 10
    · subst h; rfl
    · rw [if_neg h, if_neg (by simpa using h)]
  rw [e]
  exact hp
theorem ct_rc_some (hm : MOk w (hd.heap_39 w.params) p loose mean mg mb tx a) (hr : RestOk a rest) (hc : tx[pos]? = some c) :
    CtN w (hd.heap_39 w.params) p loose mean mg mb (.ref 107) [.ref a.x] [] 24 72 (mLed a pos t0 n ln tl pv np rest)
      (fun v news' => ∃ t' t0' n' tl', v = .str (Tx [c]) t' ∧ news' = mLed a (pos + 1) t0' n' (lnx ln c) tl' pv np rest) := (ctc_rc_some hm hr hc).toN
theorem ctc_rc_none (hm : MOk w (hd.heap_39 w.params) p loose mean mg mb tx a) (hr : RestOk a rest) (hpos : pos ≤ tx.length) (hc : tx[pos]? = none) :
    CtNC w (hd.heap_39 w.params) p loose mean mg mb (.ref 107) [.ref a.x] [] 24 72 (mLed a pos t0 n ln tl pv np rest)
      (fun v news' => ∃ t' t0' n' tl', v = .str (Tx []) t' ∧ news' = mLed a pos t0' n' ln tl' pv np rest) := by
  refine CtNC.sub (ctc_rc hm hr (one_none hc) hpos) (fun p hp => hp) ?_
  intro v n₁ r9
  show (let G9 : Prop := _; G9)
  intro G9
  obtain ⟨t', t0', n', tl', rfl, rfl⟩ := r9
  k_unfold
  refine ⟨_, ⟨t', t0', n', tl', rfl, rfl⟩, fun p hp => ?_⟩
  have e : (ln + (if ([] : List Nat) = [10] then 1 else 0) : Int) = ln := by simp
  rw [e]
  exact hp
/-- the ledger of get_token behind its iterator's making -/
noncomputable abbrev tLed (a : MA) (pos : Nat) (t0 : Tok) (n : Nat) (ln : Int) (tl : Tok) (pv : List Value) (np : Nat) (I qm : Addr) (t : Tok) (rest : List (Addr × Obj)) : List (Addr × Obj) :=
  mLed a pos t0 n ln tl pv np ((I, caObj qm t) :: (qm, methodObj (.ref 107) (.ref a.x)) :: rest)
theorem perm1 {M : List (Addr × Obj)} {x y : Addr × Obj} {rest : List (Addr × Obj)} : ∀ p ∈ M ++ x :: y :: rest, p ∈ x :: y :: (M ++ rest) := by
  intro p hp
  simp only [List.mem_append, List.mem_cons] at hp ⊢
  rcases hp with h | h | h | h <;> simp [h]
theorem perm2 {M : List (Addr × Obj)} {x y : Addr × Obj} {rest : List (Addr × Obj)} : ∀ p ∈ x :: y :: (M ++ rest), p ∈ M ++ x :: y :: rest := by
  intro p hp
  simp only [List.mem_append, List.mem_cons] at hp ⊢
  rcases hp with h | h | h | h <;> simp [h]
noncomputable abbrev mL (a : MA) (pos : Nat) (t0 : Tok) (n : Nat) (ln : Int) (tl : Tok) (pv : List Value) (np : Nat) : List (Addr × Obj) := mLed a pos t0 n ln tl pv np []
theorem mL_app (a : MA) (pos : Nat) (t0 : Tok) (n : Nat) (ln : Int) (tl : Tok) (pv : List Value) (np : Nat) (rest : List (Addr × Obj)) : mL a pos t0 n ln tl pv np ++ rest = mLed a pos t0 n ln tl pv np rest := rfl
theorem mL_ne {a : MA} {pos : Nat} {t0 : Tok} {n : Nat} {ln : Int} {tl : Tok} {pv : List Value} {np : Nat} {I : Addr} (h : a.al ≠ I ∧ a.r ≠ I ∧ a.c1 ≠ I ∧ a.ca ≠ I ∧ a.ct ≠ I ∧ a.pb ≠ I ∧ a.d ≠ I ∧ a.x ≠ I ∧ a.f ≠ I ∧ a.dd ≠ I) :
    ∀ p ∈ mL a pos t0 n ln tl pv np, p.1 ≠ I := by
  show (let G9 : Prop := _; G9)
  intro G9
  obtain ⟨h1, h2, h3, h4, h5, h6, h7, h8, h9, h10⟩ := h
  k_unfold
  intro p hp
  simp only [List.mem_cons, List.not_mem_nil, or_false] at hp
  rcases hp with rfl | rfl | rfl | rfl | rfl | rfl | rfl | rfl | rfl | rfl <;> assumption
noncomputable def OffM (a : MA) (I : Addr) : Prop := a.al ≠ I ∧ a.r ≠ I ∧ a.c1 ≠ I ∧ a.ca ≠ I ∧ a.ct ≠ I ∧ a.pb ≠ I ∧ a.d ≠ I ∧ a.x ≠ I ∧ a.f ≠ I ∧ a.dd ≠ I
structure IterOk (a : MA) (I qm : Addr) (rest : List (Addr × Obj)) : Prop where
  ok : RestOk a ((I, caObj qm 0) :: (qm, methodObj (.ref 107) (.ref a.x)) :: rest)
  off : OffM a I
  qI : qm ≠ I
  rI : ∀ p ∈ rest, p.1 ≠ I
theorem RestOk.obj {a : MA} {I : Addr} {o o' : Obj} {r : List (Addr × Obj)} (h : RestOk a ((I, o) :: r)) : RestOk a ((I, o') :: r) :=
  ⟨fun p hp => by
    rcases List.mem_cons.mp hp with rfl | hp
    · exact h.al (I, o) (.head _)
    · exact h.al p (.tail _ hp), fun p hp => by
    rcases List.mem_cons.mp hp with rfl | hp
    · exact h.pb (I, o) (.head _)
    · exact h.pb p (.tail _ hp), fun p hp => by
    rcases List.mem_cons.mp hp with rfl | hp
    · exact h.d (I, o) (.head _)
    · exact h.d p (.tail _ hp)⟩
variable {oc : Value} {od : Option Addr} {fd : FuncData} {sl : Array (Option Value)} {I qm : Addr} {t : Tok}
variable {dp un : Nat} {gd : Option (List Code)} {cn : Str} {cs : Scope} {aa : Addr} {ccd : Value} {cl : List (Str × Addr)} {outer : List Env} {A₀ : Around} {base h₀ : Heap} {L : Addr} {m : Str → Option Value} {s : Shared} {Q : Option Value → Shared → Prop} {E : Value → Shared → Prop}
theorem next_rc_some (hm : MOk w (hd.heap_39 w.params) p loose mean mg mb tx a) (hi : IterOk a I qm rest) (hc : tx[pos]? = some c)
    (C1 : CodeHd base 329 325) (C2 : CodeHd base 284 280) (B : Below A₀ base outer h₀) (F : Fr h₀ L s.heap m) (X : (hd.heap_39 w.params).In h₀) (N : News h₀ L s.heap (tLed a pos t0 n ln tl pv np I qm t rest)) (T : Top p loose mean mg mb h₀) (hk : cs.kind = .function) (hd' : dp + 24 < recursionLimit) (hu : (un + 1) + 72 < cLine)
    (hf : (hd.heap_39 w.params).lookup 107 = some ⟨oc, od, .func fd, sl⟩)
    (h : ∀ t' t0' n' tl' h' tk, Fr h₀ L h' m → News h₀ L h' (tLed a (pos + 1) t0' n' (lnx ln c) tl' pv np I qm t rest) → Q (some (.str (Tx [c]) t')) { s with heap := h', toks := tk }) :
    wpAny (model PG w) (ktrTop dp un gd cn cs L aa ccd cl outer) (pyNext (.ref I)) Q E s := by
  have N2 : News h₀ L s.heap ((I, caObj qm t) :: (qm, methodObj (.ref 107) (.ref a.x)) :: mLed a pos t0 n ln tl pv np rest) := cb_drop N (perm2 (M := mL a pos t0 n ln tl pv np))
  refine next_caK (R := fun v news' => ∃ t' t0' n' tl', v = .str (Tx [c]) t' ∧ news' = (I, caObj qm t) :: (qm, methodObj (.ref 107) (.ref a.x)) :: mLed a (pos + 1) t0' n' (lnx ln c) tl' pv np rest)
    (CtNC.sub (ctc_rc_some (t0 := t0) (n := n) (ln := ln) (tl := tl) (pv := pv) (np := np) hm hi.ok.obj hc) (perm1 (M := mL a pos t0 n ln tl pv np)) ?_) C1 C2 B F X N2 T hk hd' hu hf ?_ hi.qI
  · intro v n₁ r9
    show (let G9 : Prop := _; G9)
    intro G9
    obtain ⟨t', t0', n', tl', rfl, rfl⟩ := r9
    k_unfold
    exact ⟨_, ⟨t', t0', n', tl', rfl, rfl⟩, perm2 (M := mL a (pos + 1) t0' n' (lnx ln c) tl' pv np)⟩
  · intro v news' r9
    show (let G9 : Prop := _; G9)
    intro G9
    obtain ⟨t', t0', n', tl', rfl, rfl⟩ := r9
    k_unfold
    refine ⟨[c], t', _, rfl, rfl, fun p hp => ?_, fun h' tk F' N' _ => h t' t0' n' tl' h' tk F' (cb_drop N' (perm1 (M := mL a (pos + 1) t0' n' (lnx ln c) tl' pv np))), fun h' tk F' N' e => by cases e⟩
    rw [← mL_app] at hp
    rcases List.mem_append.mp hp with hp | hp
    · exact mL_ne hi.off p hp
    · exact hi.rI p hp
theorem next_rc_none (hm : MOk w (hd.heap_39 w.params) p loose mean mg mb tx a) (hi : IterOk a I qm rest) (hpos : pos ≤ tx.length) (hc : tx[pos]? = none)
    (C1 : CodeHd base 329 325) (C2 : CodeHd base 284 280) (B : Below A₀ base outer h₀) (F : Fr h₀ L s.heap m) (X : (hd.heap_39 w.params).In h₀) (N : News h₀ L s.heap (tLed a pos t0 n ln tl pv np I qm t rest)) (T : Top p loose mean mg mb h₀) (hk : cs.kind = .function) (hd' : dp + 24 < recursionLimit) (hu : (un + 1) + 72 < cLine)
    (hf : (hd.heap_39 w.params).lookup 107 = some ⟨oc, od, .func fd, sl⟩)
    (h : ∀ t0' n' tl' h' tk, Fr h₀ L h' m → News h₀ L h' (mLed a pos t0' n' ln tl' pv np rest) → Q none { s with heap := h', toks := tk }) :
    wpAny (model PG w) (ktrTop dp un gd cn cs L aa ccd cl outer) (pyNext (.ref I)) Q E s := by
  have N2 : News h₀ L s.heap ((I, caObj qm t) :: (qm, methodObj (.ref 107) (.ref a.x)) :: mLed a pos t0 n ln tl pv np rest) := cb_drop N (perm2 (M := mL a pos t0 n ln tl pv np))
  refine next_caK (R := fun v news' => ∃ t' t0' n' tl', v = .str (Tx []) t' ∧ news' = (I, caObj qm t) :: (qm, methodObj (.ref 107) (.ref a.x)) :: mLed a pos t0' n' ln tl' pv np rest)
    (CtNC.sub (ctc_rc_none (t0 := t0) (n := n) (ln := ln) (tl := tl) (pv := pv) (np := np) hm hi.ok.obj hpos hc) (perm1 (M := mL a pos t0 n ln tl pv np)) ?_) C1 C2 B F X N2 T hk hd' hu hf ?_ hi.qI
  · intro v n₁ r9
    show (let G9 : Prop := _; G9)
    intro G9
    obtain ⟨t', t0', n', tl', rfl, rfl⟩ := r9
    k_unfold
    exact ⟨_, ⟨t', t0', n', tl', rfl, rfl⟩, perm2 (M := mL a pos t0' n' ln tl' pv np)⟩
  · intro v news' r9
    show (let G9 : Prop := _; G9)
    intro G9
    obtain ⟨t', t0', n', tl', rfl, rfl⟩ := r9
    k_unfold
    refine ⟨[], t', _, rfl, rfl, fun p hp => ?_, fun h' tk F' N' e => absurd rfl e, fun h' tk F' N' _ => h t0' n' tl' h' tk F' (cb_drop N' fun p hp => .tail _ hp)⟩
    rw [← mL_app] at hp
    rcases List.mem_append.mp hp with hp | hp
    · exact mL_ne hi.off p hp
    · exact hi.rI p hp
end
end
section
theorem fill6 : PySem.Challenge.rw_kl0089_01 = PySem.Challenge.rw_kl0089_01 ∧ hd.heap_39 = hd.heap_39 := by k_fill; exact ⟨rfl, rfl⟩
section
variable {prog : Program} {w : World} {A : Around} {E : Value → Shared → Prop} {s : Shared} {h₀ : Heap} {L D : Addr} {m : Str → Option Value} {news news' : List (Addr × Obj)}
theorem pop0 {u : Tok} {pv : List Value} {y : Value} {n : Nat} {Q : Value → Shared → Prop} (F : Fr h₀ L s.heap m) (N : News h₀ L s.heap news)
    (U : Upd D (listOf (y :: pv).toArray n) (listOf pv.toArray (n + 1)) news news') (hz : pv.length ≤ 1000) (h : ∀ h', Fr h₀ L h' m → News h₀ L h' news' → Q y { s with heap := h' }) :
    wpAny (model prog w) A (call (.builtin "list.pop") [.ref D, .int 0 u]) Q E s := by
  refine kl_popAt (k := 0) (p := []) (q := pv) (y := y) F N (by decide +kernel) ?_ rfl U ?_ h
  · unfold seqIndex?
    simp
  · rw [sizeLine_eq]; simp; omega
end
/-- the signs of a text -/
noncomputable abbrev Sig : List Nat := [9, 10, 32, 34, 92, 97, 98, 99, 100, 101, 102, 103]
theorem sig_of {c : Nat} (h : c ∈ L7) : c ∈ Sig := by revert c; decide
theorem ws_dec {c : Nat} (h : c ∈ Sig) : (!(Builtin.Str.occurrences (Str.ofString "\n\t\r ") (Tx [c]) 0 (Str.ofString "\n\t\r ").length 1).isEmpty) = decide (c ∈ [10, 9, 13, 32]) := by revert c; decide +kernel
/-- a sign's place in the white space -/
theorem in_ws {prog : Program} {w : World} {A : Around} {E : Value → Shared → Prop} {s : Shared} {c : Nat} {t u : Tok} {b : Bool} {Q : Value → Shared → Prop} (hc : c ∈ Sig) (hb : decide (c ∈ [10, 9, 13, 32]) = b) (h : Q (.bool b) s) :
    wpAny (model prog w) A (compareOp .In (.str (Tx [c]) t) (.str (Str.ofString "\n\t\r ") u)) Q E s := by
  refine PyProof.Rows.in_str ?_
  rw [ws_dec hc, hb]
  exact h
theorem seven {c : Nat} (h : c ∈ L7) : decide (c ∈ [10, 9, 13, 32]) = false ∧ decide ([c] = [34]) = false ∧ decide ([c] = [92]) = false ∧ decide ([c] = [10]) = false := by revert c; decide
inductive TokAt (tx : List Nat) (pos : Nat) (ln : Int) : List Nat → Nat → Int → Prop
  | bare {c : Nat} : c ∈ L7 → tx[pos]? = some c → tx[pos + 1]? = some 10 → TokAt tx pos ln [c] (pos + 1 + 1) (lnx (lnx ln c) 10)
  | quoted {c : Nat} : c ∈ L7 → tx[pos]? = some 34 → tx[pos + 1]? = some c → tx[pos + 1 + 1]? = some 34 → TokAt tx pos ln [c] (pos + 1 + 1 + 1) (lnx (lnx (lnx ln 34) c) 34)
  | slashed {c : Nat} : c ∈ L7 → tx[pos]? = some 92 → tx[pos + 1]? = some c → tx[pos + 1 + 1]? = some 32 → TokAt tx pos ln [c] (pos + 1 + 1 + 1) (lnx (lnx (lnx ln 92) c) 32)
  | ended : pos ≤ tx.length → tx[pos]? = none → TokAt tx pos ln [] pos ln
theorem tok_split {OR : Nat → Shared → Prop} {s : Shared} {g : Heap} {L : Addr} {m1 : Str → Option Value} {a : MA} {tx : List Nat} {pos pos1 n np : Nat} {ln ln1 : Int} {t0 tl t : Tok} {I q : Addr} {rest : List (Addr × Obj)}
    (F : Fr g L s.heap m1) (N : News g L s.heap (tLed a pos t0 n ln tl [] np I q t rest)) (hch : m1 (Str.ofString "ch") = none)
    (hsk : (tx[pos]? = some 9 ∧ pos1 = pos + 1 ∧ ln1 = ln) ∨ (tx[pos]? ≠ some 9 ∧ pos1 = pos ∧ ln1 = ln))
    (key : ∀ k h tk v t0 n tl np, Fr g L h (fun y => if y = Str.ofString "ch" then v else m1 y) → News g L h (tLed a pos1 t0 n ln1 tl [] np I q t rest) → OR (k + 10) { s with heap := h, toks := tk })
    (skip : tx[pos]? = some 9 → (∀ k h tk v t0 n tl np, Fr g L h (fun y => if y = Str.ofString "ch" then v else m1 y) → News g L h (tLed a (pos + 1) t0 n ln tl [] np I q t rest) → OR (k + 10) { s with heap := h, toks := tk }) → OR 64 s) : OR 64 s := by
  rcases hsk with ⟨h9, rfl, rfl⟩ | ⟨_, rfl, rfl⟩
  · exact skip h9 key
  · refine key 54 s.heap s.toks none t0 n tl np ?_ N
    have e : (fun y => if y = Str.ofString "ch" then none else m1 y) = m1 := by
      funext y
      by_cases h : y = Str.ofString "ch"
      · rw [if_pos h, h, hch]
      · rw [if_neg h]
    rw [e]; exact F
theorem tx_iadd {prog : Program} {w : World} {A : Around} {E : Value → Shared → Prop} {s : Shared} {Q : Value → Shared → Prop} {x y : Str} {a b : List Nat} {t u : Tok} (hx : x = Tx a) (hy : y = Tx b) (hz : a.length + b.length ≤ sizeLine) (h : ∀ t k, Q (.str (Tx (a ++ b)) t) { s with toks := k }) :
    wpAny (model prog w) A (inplaceOp .Add (.str x t) (.str y u)) Q E s := by
  subst hx hy
  have e : (Tx a ++ Tx b : Str) = Tx (a ++ b) := by
    show (⟨Array.mk a ++ Array.mk b⟩ : Str) = _
    rw [List.append_toArray]
  exact PyProof.Rows.iadd_str (fun t' k => e ▸ h t' k) hz
theorem iter_caN {prog : Program} {w : World} {A : Around} {E : Value → Shared → Prop} {s : Shared} {h₀ : Heap} {L I qm : Addr} {t : Tok} {news : List (Addr × Obj)} {Q : Value → Shared → Prop} (N : News h₀ L s.heap news) (hI : (I, caObj qm t) ∈ news) (h : Q (.ref I) s) :
    wpAny (model prog w) A (pyIter (.ref I)) Q E s := iter_ca (N _ hI).1 h
theorem ct_rc_at {w : World} {p : Program} {loose : List Str} {mean : ExcName → Option Value} {mg mb : Str → Option Value} {t0 tl : Tok} {tx : List Nat} {a : MA} {pos n np c : Nat} {ln : Int} {pv : List Value} {rest : List (Addr × Obj)} {xx : Addr}
    (hm : MOk w (hd.heap_39 w.params) p loose mean mg mb tx a) (hx : a.x = xx) (hr : RestOk a rest) (hc : tx[pos]? = some c) :
    CtN w (hd.heap_39 w.params) p loose mean mg mb (.ref 107) [.ref xx] [] 24 72 (mLed a pos t0 n ln tl pv np rest)
      (fun v news' => ∃ t' t0' n' tl', v = .str (Tx [c]) t' ∧ news' = mLed a (pos + 1) t0' n' (lnx ln c) tl' pv np rest) := hx ▸ ct_rc_some hm hr hc
theorem lnx_9 (ln : Int) : lnx ln 9 = ln := by simp [lnx]
end
section
theorem kw_C15 : True := by
  k_with_none
  k_with "sub" => ((repeat (refine List.forall_mem_cons.mpr ⟨by k_mem, ?_⟩)); (first | exact List.forall_mem_nil _ | (intro p hp; repeat (first | exact hp | apply List.Mem.tail))))
  k_with "enter" => (refine wpAny_call ?_; walk_at "enterC")
  k_with "enterC" => (k_dflt (refine' code_def ?q9k1 ?q9k2 ?q9k3 ?q9k4 ?q9k5 ?q9kA ?q9kF ?q9kK ?q9k6 ?q9k7 ?q9k8 ?q9k9 ?q9kB ?_ ?q9c2 ?q9c3 ?q9c4 ?q9c5; (case q9kA => exact rfl); (case q9kF => exact rfl); (case q9kK => assumption); (case q9k1 => k_asm); (case q9k2 => k_asm); (case q9k3 => k_asm); (case q9k4 => k_asm); (case q9k5 => k_asm); (case q9k6 => k_is); (case q9k7 => k_is); (case q9k8 => ktr_room); (case q9k9 => first | exact BindsTo.of_eq rfl | exact binds_K (by k_in) rfl (by k_is) rfl rfl rfl | (refine' kp_binds ?q9kx ?q9ke; (case q9kx => k_in); (case q9ke => exact fun _ => rfl)) | fail "enter: no rule for these arguments"); (case q9c5 => decide); (case q9kB => exact locs rfl); (case q9c2 => exact rfl); (case q9c3 => exact rfl); (case q9c4 => exact rfl); k_whole; intro g' L' h' FG' F' N' B' X' T'; (try dsimp only); (try k_lift B'); (try k_fold)))
  k_with "execs cons" => ((with_reducible refine wpAny_execs_cons ?_); (try dsimp only); k_fold)
  k_with "call builtin:str.lower" => (k_dflt (refine' low_call ?q9k1 ?_; (case q9k1 => first | assumption | exact L7_14 (by assumption)); k_whole; intro _ _))
  k_with "call builtin:str.upper" => (k_dflt (refine' upp_call ?q9k1 ?_; (case q9k1 => assumption); k_whole; intro _ _))
  k_with "call ref" => ((try k_fold); k_dflt (refine' Ct.use (ct_conv_name ?q9hc) ?q9B ?q9F ?q9X ?q9N ?q9T ?q9hk ?q9hd ?q9hu ?_; (case q9hc => assumption); (case q9B => k_asm); (case q9F => k_asm); (case q9X => k_asm); (case q9N => k_asm); (case q9T => k_asm); (case q9hk => exact rfl); (case q9hd => ktr_room); (case q9hu => ktr_units); k_whole; intro _ _ _ _ r9 _ _; obtain ⟨rfl, rfl⟩ := r9))
  k_with "call ref" => ((try k_fold); k_dflt (refine' Ct.use (ct_conv_value ?q9hc) ?q9B ?q9F ?q9X ?q9N ?q9T ?q9hk ?q9hd ?q9hu ?_; (case q9hc => assumption); (case q9B => k_asm); (case q9F => k_asm); (case q9X => k_asm); (case q9N => k_asm); (case q9T => k_asm); (case q9hk => exact rfl); (case q9hd => ktr_room); (case q9hu => ktr_units); k_whole; intro _ _ _ _ r9 _ _; obtain ⟨rfl, rfl⟩ := r9))
  k_with "call builtin:list.pop" => ((k_here; (with_reducible show wpAny _ _ (call (Value.builtin _) [Value.ref _, Value.int _ _]) _ _ _); k_dflt (refine' pop0 ?q9F ?q9N ?q9U ?q9z ?_; (case q9F => k_asm); (case q9N => k_asm); (case q9U => k_upd); (case q9z => assumption)); intro _ _ N'; (try dsimp only [List.nil_append, List.cons_append] at N')); (try (revert N'; intro _)))
  k_with "compareOp In str str" => (k_here; k_dflt (refine' in_ws ?q9z1 ?q9z2 ?_; (case q9z1 => first | decide | exact sig_of (by assumption) | assumption); (case q9z2 => first | assumption | exact rfl); k_whole))
  k_with "compareOp Eq str str" => (k_here; k_dflt (refine' eq_tx rfl lit_q ?q9hb ?_; (case q9hb => first | assumption | exact rfl); k_whole))
  k_with "compareOp Eq str str" => (k_here; (with_reducible show wpAny _ _ (compareOp _ _ (Value.str (Str.ofString "\\") _)) _ _ _); k_dflt (refine' eq_tx rfl lit_bs ?q9hb ?_; (case q9hb => first | assumption | exact rfl); k_whole))
  k_with "inplaceOp Add str str" => (k_here; k_dflt (refine' tx_iadd (by first | exact lit_e | exact rfl) (by exact rfl) ?q9z1 ?_; (case q9z1 => exact Nat.le_of_ble_eq_true rfl); k_whole; intro _ _))
  k_with "call builtin:iter" => ((k_here; k_dflt (refine' make_ca ?q9F ?q9N ?q9q ?_; (case q9F => k_asm); (case q9N => k_asm); (case q9q => k_mem)); intro _ _ _ _ l1; (try k_lt l1)); (try (revert l1; intro _)))
  k_with "exec For Name Name cons nil" => (k_here; refine owit_for ?_; k_whole)
  k_with "pyIter ref" => ((with_reducible show wpAny _ _ (pyIter (Value.ref _)) (OwitAt _ _ _ _ _ _ _ _) _ _); k_here; rename News _ _ _ _ => N5; refine' iter_caN N5 ?q9hI ?_; (case q9hI => k_mem); k_whole)
  k_with "pyNext ref" => (((with_reducible show wpAny _ _ (pyNext (Value.ref _)) (OwitTurn _ _ _ _ _ _ _ _ _) _ _); k_here; k_dflt (refine' next_rc_some ?q9hm ?q9hi ?q9hc ?q9C1 ?q9C2 ?q9B ?q9F ?q9X ?q9N ?q9T ?q9hk ?q9hd ?q9hu ?q9hf ?_; (case q9hm => assumption); (case q9hi => assumption); (case q9N => k_asm); (case q9hc => assumption); (case q9C1 => assumption); (case q9C2 => assumption); (case q9B => k_asm); (case q9F => k_asm); (case q9X => k_asm); (case q9T => k_asm); (case q9hk => exact rfl); (case q9hd => ktr_room); (case q9hu => ktr_units); (case q9hf => k_is); k_whole); intro _ _ _ _ _ _ _ N'; (try dsimp only [tLed, mLed, fnObj] at N')); (try (revert N'; intro _)))
  k_with "pyNext ref" => (((with_reducible show wpAny _ _ (pyNext (Value.ref _)) (OwitTurn _ _ _ _ _ _ _ _ _) _ _); k_here; k_dflt (refine' next_rc_none ?q9hm ?q9hi ?q9hpos ?q9hc ?q9C1 ?q9C2 ?q9B ?q9F ?q9X ?q9N ?q9T ?q9hk ?q9hd ?q9hu ?q9hf ?_; (case q9hm => assumption); (case q9hi => assumption); (case q9N => k_asm); (case q9hc => assumption); (case q9hpos => assumption); (case q9C1 => assumption); (case q9C2 => assumption); (case q9B => k_asm); (case q9F => k_asm); (case q9X => k_asm); (case q9T => k_asm); (case q9hk => exact rfl); (case q9hd => ktr_room); (case q9hu => ktr_units); (case q9hf => k_is); k_whole); intro _ _ _ _ _ _ N'; (try dsimp only [tLed, mLed, fnObj] at N')); (try (revert N'; intro _)))
  k_with "call ref" => (((try k_fold); k_dflt (refine' CtN.use (ct_rc_at ?q9hm ?q9hx ?q9hr ?q9hc) ?q9C1 ?q9C2 ?q9B ?q9F ?q9X ?q9N ?q9T ?q9hk ?q9hd ?q9hu ?_; (case q9hm => assumption); (case q9hx => exact rfl); (case q9N => k_asm); (case q9hr => exact (IterOk.ok (by assumption)).obj); (case q9hc => assumption); (case q9C1 => assumption); (case q9C2 => assumption); (case q9B => k_asm); (case q9F => k_asm); (case q9X => k_asm); (case q9T => k_asm); (case q9hk => exact rfl); (case q9hd => ktr_room); (case q9hu => ktr_units); k_whole; intro _ _ _ _ r9 _ N9; obtain ⟨_, _, _, _, rfl, rfl⟩ := r9; (try dsimp only [tLed, mLed, fnObj] at N9))); (try (revert N9; intro _)))
  trivial
section
variable {w : World} {p : Program} {loose : List Str} {mean : ExcName → Option Value} {mg mb : Str → Option Value} {t0 tl : Tok} {tx : List Nat} {a : MA} {pos n np : Nat} {ln : Int} {pv : List Value} {wd : List Nat} {tw : Tok} {rest : List (Addr × Obj)}
set_option maxHeartbeats 8000000 in
theorem ctc_tok_pb (hm : MOk w (hd.heap_39 w.params) p loose mean mg mb tx a) (hr : RestOk a rest) (hlen : pv.length ≤ 1000) :
    CtNC w (hd.heap_39 w.params) p loose mean mg mb (.ref 114) [.ref a.x] [] 40 120 (mLed a pos t0 n ln tl (.str (Tx wd) tw :: pv) np rest)
      (fun v news' => ∃ np', v = .str (Tx wd) tw ∧ news' = mLed a pos t0 n ln tl pv np' rest) := by
  intro dp un gd cn cs a' ccd cl outer A₀ base h₀ L m s Q E C1 C2 B F X N T hk hdp hun hret
  show (let G9 : Prop := _; G9)
  intro G9
  obtain ⟨al, r, c1, ca, ct, pb, d, x, f, dd, oc1, oca, oct, od, fdr, fd, h1, h2, h3, h4, k1, k2, k3, k4, k5⟩ := a
  k_unfold
  show (let G9 : Prop := _; G9)
  intro G9
  obtain ⟨ord, hread, hrd⟩ := hm
  k_unfold
  show (let G9 : Prop := _; G9)
  intro G9
  obtain ⟨r1, r2, r3⟩ := hr
  k_unfold
  dsimp only [mLed, MOrd, fnObj] at *
  show (let G9 : Prop := _; G9)
  intro G9
  obtain ⟨o1, o2, o3, o4, o5, o6, o7, o8, o9⟩ := ord
  k_unfold
  walk_at "enterC"
  k_steps
  rename News _ _ _ _ => N7
  exact hret _ _ _ _ ⟨_, rfl, rfl⟩ (by k_asm) N7
set_option maxHeartbeats 8000000 in
theorem ctc_tok {pos1 pos2 : Nat} {ln1 ln2 : Int} (hm : MOk w (hd.heap_39 w.params) p loose mean mg mb tx a) (hr : RestOk a rest)
    (hsk : (tx[pos]? = some 9 ∧ pos1 = pos + 1 ∧ ln1 = ln) ∨ (tx[pos]? ≠ some 9 ∧ pos1 = pos ∧ ln1 = ln)) (ht : TokAt tx pos1 ln1 wd pos2 ln2) :
    CtNC w (hd.heap_39 w.params) p loose mean mg mb (.ref 114) [.ref a.x] [] 40 120 (mLed a pos t0 n ln tl [] np rest)
      (fun v news' => ∃ t' t0' n' tl' np', v = .str (Tx wd) t' ∧ news' = mLed a pos2 t0' n' ln2 tl' [] np' rest) := by
  intro dp un gd cn cs a' ccd cl outer A₀ base h₀ L m s Q E C1 C2 B F X N T hk hdp hun hret
  show (let G9 : Prop := _; G9)
  intro G9
  obtain ⟨al, r, c1, ca, ct, pb, d, x, f, dd, oc1, oca, oct, od, fdr, fd, h1, h2, h3, h4, k1, k2, k3, k4, k5⟩ := a
  k_unfold
  show (let G9 : Prop := _; G9)
  intro G9
  obtain ⟨r1, r2, r3⟩ := hr
  k_unfold
  dsimp only [mLed, MOrd, fnObj] at *
  walk_at "enterC"
  iterate 60 (first | (with_reducible show OwitRest _ _ _ _ _ _ _ _ _ _ _) |  (k_unfold; (try dsimp only)) | (k_end; wrow_close) | walk1)
  rename_i q _ lt1 I _ lt2 _ F5
  have hi : IterOk ⟨al, r, c1, ca, ct, pb, d, x, f, dd, oc1, oca, oct, od, fdr, fd, h1, h2, h3, h4, k1, k2, k3, k4, k5⟩ I q rest := by
    show (let G9 : Prop := _; G9)
    intro G9
    obtain ⟨j1, j2, j3, j4, j5, j6, j7, j8, j9, j10, j11⟩ := lt1
    k_unfold
    show (let G9 : Prop := _; G9)
    intro G9
    obtain ⟨i0, i1, i2, i3, i4, i5, i6, i7, i8, i9, i10, i11⟩ := lt2
    k_unfold
    refine ⟨⟨?_, ?_, ?_⟩, ⟨?_, ?_, ?_, ?_, ?_, ?_, ?_, ?_, ?_, ?_⟩, Nat.ne_of_lt i0, ne_allLt i11 (Nat.le_refl _)⟩
    · exact List.forall_mem_cons.mpr ⟨neN (by dsimp only; omega), List.forall_mem_cons.mpr ⟨neN (by dsimp only; omega), r1⟩⟩
    · exact List.forall_mem_cons.mpr ⟨neN (by dsimp only; omega), List.forall_mem_cons.mpr ⟨neN (by dsimp only; omega), r2⟩⟩
    · exact List.forall_mem_cons.mpr ⟨neN (by dsimp only; omega), List.forall_mem_cons.mpr ⟨neN (by dsimp only; omega), r3⟩⟩
    all_goals exact neN (by dsimp only; omega)
  clear lt1 lt2
  have N6 : News _ _ _ (tLed ⟨al, r, c1, ca, ct, pb, d, x, f, dd, oc1, oca, oct, od, fdr, fd, h1, h2, h3, h4, k1, k2, k3, k4, k5⟩ pos t0 n ln tl [] np I q _ rest) := cb_drop N5 (perm1 (M := mL ⟨al, r, c1, ca, ct, pb, d, x, f, dd, oc1, oca, oct, od, fdr, fd, h1, h2, h3, h4, k1, k2, k3, k4, k5⟩ pos t0 n ln tl [] np))
  clear N5
  refine tok_split F5 N6 (by exact rfl) hsk ?key ?skip
  case skip =>
    intro h9 key
    refine OwitRest.succ ?_
    iterate 60 (first | (with_reducible show OwitRest _ _ _ _ _ _ _ _ _ _ _) |  (k_unfold; (try dsimp only)) | (k_end; wrow_close) | walk1)
    rename News _ _ _ _ => N7
    rename Fr _ _ _ _ => F7
    rw [lnx_9] at N7
    exact key 53 _ _ _ _ _ _ _ F7 N7
  case key =>
    clear N6 F5
    intro k h tk v t0 n tl np F N
    dsimp only [tLed, mLed, fnObj] at N
    refine OwitRest.succ ?_
    cases ht with
    | @bare c hc7 e1 e2 =>
      show (let G9 : Prop := _; G9)
      intro G9
      obtain ⟨z1, z2, z3, z4⟩ := seven hc7
      k_unfold
      k_steps
      rename News _ _ _ _ => N7
      exact hret _ _ _ _ ⟨_, _, _, _, _, rfl, rfl⟩ (by k_asm) (cb_drop N7 (by walk_at "sub"))
    | @quoted c hc7 e1 e2 e3 =>
      show (let G9 : Prop := _; G9)
      intro G9
      obtain ⟨z1, z2, z3, z4⟩ := seven hc7
      k_unfold
      k_steps
      rename News _ _ _ _ => N7
      exact hret _ _ _ _ ⟨_, _, _, _, _, rfl, rfl⟩ (by k_asm) (cb_drop N7 (by walk_at "sub"))
    | @slashed c hc7 e1 e2 e3 =>
      show (let G9 : Prop := _; G9)
      intro G9
      obtain ⟨z1, z2, z3, z4⟩ := seven hc7
      k_unfold
      k_steps
      rename News _ _ _ _ => N7
      exact hret _ _ _ _ ⟨_, _, _, _, _, rfl, rfl⟩ (by k_asm) (cb_drop N7 (by walk_at "sub"))
    | ended e0 e1 =>
      k_steps
      rename News _ _ _ _ => N7
      exact hret _ _ _ _ ⟨_, _, _, _, _, congrArg (Value.str · _) lit_e, rfl⟩ (by k_asm) (cb_drop N7 (by walk_at "sub"))
end
end
section
open PySem PySem.W PyProof.Rows PySem.Calls PyProof.V PySem.Spec PyProof.Rows.LCg
theorem fill7 : PySem.Challenge.rw_kl0089_01 = PySem.Challenge.rw_kl0089_01 ∧ hd.heap_39 = hd.heap_39 := by k_fill; exact ⟨rfl, rfl⟩
/-- the tokens that a machine gives from here to its end -/
inductive TokRun (tx : List Nat) : Nat → Int → List Value → List (List Nat) → Nat → Int → Prop
  | pop {pos ln wd tw pv toks p2 l2} : wd ≠ [] → TokRun tx pos ln pv toks p2 l2 → TokRun tx pos ln (.str (Tx wd) tw :: pv) (wd :: toks) p2 l2
  | lex {pos ln pos1 ln1 wd pos' ln' toks p2 l2} : (tx[pos]? = some 9 ∧ pos1 = pos + 1 ∧ ln1 = ln) ∨ (tx[pos]? ≠ some 9 ∧ pos1 = pos ∧ ln1 = ln) → TokAt tx pos1 ln1 wd pos' ln' → wd ≠ [] → TokRun tx pos' ln' [] toks p2 l2 → TokRun tx pos ln [] (wd :: toks) p2 l2
  | done {pos ln pos1 ln1 p2 l2} : (tx[pos]? = some 9 ∧ pos1 = pos + 1 ∧ ln1 = ln) ∨ (tx[pos]? ≠ some 9 ∧ pos1 = pos ∧ ln1 = ln) → TokAt tx pos1 ln1 [] p2 l2 → TokRun tx pos ln [] [] p2 l2
section
variable {w : World} {p : Program} {loose : List Str} {mean : ExcName → Option Value} {mg mb : Str → Option Value} {t0 tl : Tok} {tx : List Nat} {a : MA} {pos n np p2 : Nat} {ln l2 : Int} {pv : List Value} {toks : List (List Nat)} {rest : List (Addr × Obj)}
theorem ctc_next (hm : MOk w (hd.heap_39 w.params) p loose mean mg mb tx a) (hr : RestOk a rest) (run : TokRun tx pos ln pv toks p2 l2) (hlen : pv.length ≤ 1000) :
    CtNC w (hd.heap_39 w.params) p loose mean mg mb (.ref 114) [.ref a.x] [] 40 120 (mLed a pos t0 n ln tl pv np rest)
      (fun v news' => (∃ wd toks' t' pos' ln' t0' n' tl' np' pv', toks = wd :: toks' ∧ wd ≠ [] ∧ v = .str (Tx wd) t' ∧ pv'.length ≤ 1000 ∧ TokRun tx pos' ln' pv' toks' p2 l2 ∧ news' = mLed a pos' t0' n' ln' tl' pv' np' rest) ∨
        (toks = [] ∧ ∃ t' t0' n' tl' np', v = .str (Tx []) t' ∧ news' = mLed a p2 t0' n' l2 tl' [] np' rest)) := by
  cases run with
  | @pop _ _ wd tw pv toks _ _ hwd r =>
    have hl : pv.length ≤ 1000 := by simp only [List.length_cons] at hlen; omega
    refine CtNC.sub (ctc_tok_pb hm hr hl) (fun p hp => hp) ?_
    intro v n₁ r9
    show (let G9 : Prop := _; G9)
    intro G9
    obtain ⟨np', rfl, rfl⟩ := r9
    k_unfold
    exact ⟨_, .inl ⟨wd, toks, tw, pos, ln, t0, n, tl, np', pv, rfl, hwd, rfl, hl, r, rfl⟩, fun p hp => hp⟩
  | @lex _ _ pos1 ln1 wd pos' ln' toks _ _ hsk ht hwd r =>
    refine CtNC.sub (ctc_tok hm hr hsk ht) (fun p hp => hp) ?_
    intro v n₁ r9
    show (let G9 : Prop := _; G9)
    intro G9
    obtain ⟨t', t0', n', tl', np', rfl, rfl⟩ := r9
    k_unfold
    exact ⟨_, .inl ⟨wd, toks, t', pos', ln', t0', n', tl', np', [], rfl, hwd, rfl, Nat.zero_le _, r, rfl⟩, fun p hp => hp⟩
  | @done _ _ pos1 ln1 _ _ hsk ht =>
    refine CtNC.sub (ctc_tok hm hr hsk ht) (fun p hp => hp) ?_
    intro v n₁ r9
    show (let G9 : Prop := _; G9)
    intro G9
    obtain ⟨t', t0', n', tl', np', rfl, rfl⟩ := r9
    k_unfold
    exact ⟨_, .inr ⟨rfl, t', t0', n', tl', np', rfl, rfl⟩, fun p hp => hp⟩
end
theorem PiecesAre.snoc {vs : List Value} {cs : List (List Nat)} {c : List Nat} {t : Tok} (h : PiecesAre vs cs) : PiecesAre (vs ++ [.str (Tx c) t]) (cs ++ [c]) := by
  induction h with
  | nil => exact .cons .nil
  | cons _ ih => exact .cons ih
theorem PiecesAre.length {vs : List Value} {cs : List (List Nat)} (h : PiecesAre vs cs) : vs.length = cs.length := by
  induction h with
  | nil => rfl
  | cons _ ih => simp [ih]
section
variable {w : World} {p : Program} {loose : List Str} {mean : ExcName → Option Value} {mg mb : Str → Option Value} {tx : List Nat} {a : MA} {p2 : Nat} {l2 : Int} {toks : List (List Nat)} {rest : List (Addr × Obj)}
variable {oc : Value} {od : Option Addr} {fd : FuncData} {sl : Array (Option Value)}
variable {dp un : Nat} {gd : Option (List Code)} {cn : Str} {cs : Scope} {aa : Addr} {ccd : Value} {cl' : List (Str × Addr)} {outer : List Env} {A₀ : Around} {base h₀ : Heap} {L : Addr} {m : Str → Option Value} {s : Shared} {E : Value → Shared → Prop} {env : Env}
noncomputable def TokSrc (a : MA) (tx : List Nat) (h₀ : Heap) (L : Addr) (m : Str → Option Value) (Q : Value → Shared → Prop) (xv : Value) (s₁ : Shared) : Prop :=
  ∃ I qm t pos t0 n ln tl pv np toks p2 l2 rest, xv = .ref I ∧ Fr h₀ L s₁.heap m ∧ News h₀ L s₁.heap ((I, caObj qm t) :: (qm, methodObj (.ref 114) (.ref a.x)) :: mLed a pos t0 n ln tl pv np rest) ∧
    RestOk a rest ∧ OffM a I ∧ @Ne Nat qm I ∧ (∀ p ∈ rest, p.1 ≠ I) ∧ (∀ q ∈ [a.al, a.pb, a.d], q ≠ I ∧ q ≠ qm) ∧ TokRun tx pos ln pv toks p2 l2 ∧ pv.length ≤ 1000 ∧ toks.length ≤ 1000 ∧
      ∀ D ys t0 n tl np h tk, PiecesAre ys toks → Fr h₀ L h m → News h₀ L h ((D, lst ys) :: mLed a p2 t0 n l2 tl [] np rest) → Q (.ref D) { s₁ with heap := h, toks := tk }
theorem perm3 {M : List (Addr × Obj)} {x y z u : Addr × Obj} {rest : List (Addr × Obj)} : ∀ p ∈ M ++ x :: y :: z :: u :: rest, p ∈ x :: y :: (M ++ z :: u :: rest) := by
  intro p hp
  simp only [List.mem_append, List.mem_cons] at hp ⊢
  rcases hp with h | h | h | h | h | h <;> simp [h]
theorem perm4 {M : List (Addr × Obj)} {x y z u : Addr × Obj} {rest : List (Addr × Obj)} : ∀ p ∈ x :: y :: (M ++ z :: u :: rest), p ∈ M ++ x :: y :: z :: u :: rest := by
  intro p hp
  simp only [List.mem_append, List.mem_cons] at hp ⊢
  rcases hp with h | h | h | h | h | h <;> simp [h]
theorem split6 {M : List (Addr × Obj)} {x y z u : Addr × Obj} {rest : List (Addr × Obj)} {p : Addr × Obj} (hp : p ∈ M ++ x :: y :: z :: u :: rest) : p ∈ M ∨ p = x ∨ p = y ∨ p = z ∨ p = u ∨ p ∈ rest := by
  simpa only [List.mem_append, List.mem_cons] using hp
theorem comp_toks {x : Str} {px p1 ps : Pos} {scope : Scope} {cl : List (Str × Addr)} {iter : Expr} {Q : Value → Shared → Prop}
    (F0 : Fr h₀ L s.heap m) (hm : MOk w (hd.heap_39 w.params) p loose mean mg mb tx a) (hf : (hd.heap_39 w.params).lookup 114 = some ⟨oc, od, .func fd, sl⟩)
    (C1 : CodeHd base 329 325) (C2 : CodeHd base 284 280) (B : Below A₀ base outer h₀) (X : (hd.heap_39 w.params).In h₀) (T : Top p loose mean mg mb h₀) (hk : cs.kind = .function) (hd' : dp + 40 < recursionLimit) (hu : (un + 1) + 120 < cLine)
    (hclos : closureFor scope env = pure cl) (hcell : ∀ y ∈ scope.names, y.2 ≠ .cell) (hkind : scope.kind = .function)
    (hnames : ∀ y ∈ scope.names, y.2 = .local → scope.names.lookup y.1 = some .local) (hxa : scope.names.lookup x = some .local) (hdx : (x == ("__debug__" : Str)) = false)
    (h : wpAny (model PG w) (ktrTop dp un gd cn cs L aa ccd cl' outer) (eval iter env) (TokSrc a tx h₀ L m Q) E s)
    (hs : ∀ x, foldedSetIterable iter env x = pure x := by intro _; rfl) :
    wpAny (model PG w) (ktrTop dp un gd cn cs L aa ccd cl' outer) (eval (.ListComp (.Name x p1) [⟨.Name x px, iter, [], 0⟩] scope ps) env) Q E s := by
  rw [eval_ListComp]
  refine wpAny_comprehension_free (use := none) rfl hs hclos hkind hnames (wpAny_mono h (fun xv s₁ h₁ => ?_) fun _ _ e => e)
  show (let G9 : Prop := _; G9)
  intro G9
  obtain ⟨I, qm, t, pos, t0, n, ln, tl, pv, np, toks, p2, l2, rest, rfl, F, N, hr, hoI, hqI, hrI, h3, run, hpv, htk, hQ⟩ := h₁
  k_unfold
  refine iter_ca (N _ (.head _)).1 ?_
  have hIa := (N _ (.head _)).1
  have hIlt : @LT.lt Nat _ I s₁.heap.objs.size := Heap.lt_size hIa
  refine wpAny_newObj_type (wpAny_newFunctionEnv hcell (by intro y hy; simp at hy) (fun h₂ hns₂ hsb₂ => ?_) hkind)
  dsimp only at hns₂ hsb₂ ⊢
  generalize hD : s₁.heap.objs.size = D
  generalize hH2 : s₁.heap.push { cls := .type "list", dict := none, data := .seq ([] : List Value).toArray } = H2 at hns₂ hsb₂ ⊢
  have hC : H2.objs.size = D + 1 := by rw [← hH2, Heap.size_push, hD]
  have hDo : H2.get? D = some (lst []) := by rw [← hH2, ← hD]; exact Heap.get?_push_size _ rfl
  have up2 : ∀ b o, s₁.heap.get? b = some o → H2.get? b = some o := fun b o e => by rw [← hH2]; exact Heap.get?_push_of_some _ e
  rw [hC] at hns₂ hsb₂ ⊢
  rw [hD] at hIlt
  have up : ∀ b o, b ≠ D + 1 → H2.get? b = some o → h₂.get? b = some o := fun b o hb e => hsb₂.extBut b o hb (Heap.get?_push_of_some _ e)
  have fresh₀ : ∀ a, D ≤ a → h₀.get? a = none := fun a ha => by
    cases e : h₀.get? a with
    | none => rfl
    | some o' =>
      have := Heap.lt_size (F.keep a o' e)
      rw [hD] at this
      exact absurd (Nat.lt_of_lt_of_le this ha) (Nat.lt_irrefl _)
  have hLD : @LT.lt Nat _ L D := hD ▸ F.ns.lt
  have low : ∀ b o, s₁.heap.get? b = some o → @LT.lt Nat _ b D := fun b o e => hD ▸ Heap.lt_size e
  have F2 : Fr h₀ L h₂ m := F.keeps fun b o e => up b o (neN (by have := low b o e; omega)) (up2 b o e)
  have N2 : News h₀ L h₂ ((I, caObj qm t) :: (qm, methodObj (.ref 114) (.ref a.x)) :: mLed a pos t0 n ln tl pv np rest) := fun p hp => ⟨up _ _ (neN (by have := low _ _ (N p hp).1; omega)) (up2 _ _ (N p hp).1), (N p hp).2⟩
  have nD : ∀ p ∈ ((I, caObj qm t) :: (qm, methodObj (.ref 114) (.ref a.x)) :: mLed a pos t0 n ln tl pv np rest), @LT.lt Nat _ p.1 D := fun p hp => low _ _ (N p hp).1
  have hD2 : h₂.get? D = some (lst []) := up _ _ (neN (by omega)) hDo
  show (let G9 : Prop := _; G9)
  intro G9
  obtain ⟨oC, heC, hoC⟩ := ns_obj hns₂
  k_unfold
  have hCne : ∀ p ∈ ((I, caObj qm t) :: (qm, methodObj (.ref 114) (.ref a.x)) :: mLed a pos t0 n ln tl pv np rest), p.1 ≠ D ∧ p.1 ≠ D + 1 := fun p hp => by
    have := nD p hp
    exact ⟨neN (by omega), neN (by omega)⟩
  have hr' : ∀ oD oC, RestOk a ((I, caObj qm t) :: (qm, methodObj (.ref 114) (.ref a.x)) :: (D, oD) :: (D + 1, oC) :: rest) := fun oD oC => by
    have e1 := h3 a.al (by simp)
    have e2 := h3 a.pb (by simp)
    have e3 := h3 a.d (by simp)
    have f1 := hCne _ (.tail _ (.tail _ (.head _)))
    have f2 := hCne _ (.tail _ (.tail _ (.tail _ (.tail _ (.tail _ (.tail _ (.tail _ (.head _))))))))
    have f3 := hCne _ (.tail _ (.tail _ (.tail _ (.tail _ (.tail _ (.tail _ (.tail _ (.tail _ (.head _)))))))))
    exact ⟨List.forall_mem_cons.mpr ⟨e1.1.symm, List.forall_mem_cons.mpr ⟨e1.2.symm, List.forall_mem_cons.mpr ⟨f1.1.symm, List.forall_mem_cons.mpr ⟨f1.2.symm, hr.al⟩⟩⟩⟩,
      List.forall_mem_cons.mpr ⟨e2.1.symm, List.forall_mem_cons.mpr ⟨e2.2.symm, List.forall_mem_cons.mpr ⟨f2.1.symm, List.forall_mem_cons.mpr ⟨f2.2.symm, hr.pb⟩⟩⟩⟩,
      List.forall_mem_cons.mpr ⟨e3.1.symm, List.forall_mem_cons.mpr ⟨e3.2.symm, List.forall_mem_cons.mpr ⟨f3.1.symm, List.forall_mem_cons.mpr ⟨f3.2.symm, hr.d⟩⟩⟩⟩⟩
  have hIr : ∀ (pos : Nat) (t0 : Tok) (n : Nat) (ln : Int) (tl : Tok) (pv : List Value) (np : Nat) oD oC, ∀ p ∈ mLed a pos t0 n ln tl pv np ((D, oD) :: (D + 1, oC) :: rest), p.1 ≠ I := fun pos t0 n ln tl pv np oD oC p hp => by
    rw [← mL_app] at hp
    rcases List.mem_append.mp hp with hp | hp
    · exact mL_ne hoI p hp
    · rcases List.mem_cons.mp hp with rfl | hp
      · exact neN (by show D ≠ I; omega)
      · rcases List.mem_cons.mp hp with rfl | hp
        · exact neN (by show D + 1 ≠ I; omega)
        · exact hrI p hp
  have offM : ∀ (pos : Nat) (t0 : Tok) (n : Nat) (ln : Int) (tl : Tok) (pv : List Value) (np : Nat), ∀ p ∈ ((I, caObj qm t) :: (qm, methodObj (.ref 114) (.ref a.x)) :: mLed a pos t0 n ln tl pv np rest), p.1 ≠ D ∧ p.1 ≠ D + 1 := by
    intro pos' t0' n' ln' tl' pv' np' q hq
    have hmap : ((I, caObj qm t) :: (qm, methodObj (.ref 114) (.ref a.x)) :: mLed a pos' t0' n' ln' tl' pv' np' rest).map Prod.fst = ((I, caObj qm t) :: (qm, methodObj (.ref 114) (.ref a.x)) :: mLed a pos t0 n ln tl pv np rest).map Prod.fst := rfl
    have : q.1 ∈ ((I, caObj qm t) :: (qm, methodObj (.ref 114) (.ref a.x)) :: mLed a pos' t0' n' ln' tl' pv' np' rest).map Prod.fst := List.mem_map_of_mem hq
    rw [hmap] at this
    show (let G9 : Prop := _; G9)
    intro G9
    obtain ⟨q', hq', e⟩ := List.mem_map.mp this
    k_unfold
    rw [← e]
    exact hCne q' hq'
  have hN0 : News h₀ L h₂ ((I, caObj qm t) :: (qm, methodObj (.ref 114) (.ref a.x)) :: mLed a pos t0 n ln tl pv np ((D, lst []) :: (D + 1, oC) :: rest)) := by
    intro p hp
    rcases split6 (perm4 (M := mL a pos t0 n ln tl pv np) (z := (D, lst [])) (u := (D + 1, oC)) p hp) with hp | rfl | rfl | rfl | rfl | hp
    · exact N2 p (.tail _ (.tail _ (mL_app a pos t0 n ln tl pv np rest ▸ List.mem_append_left rest hp)))
    · exact N2 _ (.head _)
    · exact N2 _ (.tail _ (.head _))
    · exact ⟨hD2, neN (by omega), fresh₀ _ (Nat.le_refl _)⟩
    · exact ⟨heC, neN (by omega), fresh₀ _ (Nat.le_succ _)⟩
    · exact N2 p (.tail _ (.tail _ (mL_app a pos t0 n ln tl pv np rest ▸ List.mem_append_right _ hp)))
  have loop : codeAny (model PG w) (ktrTop dp un gd cn cs L aa ccd cl' outer) (.compLoop (.ListComp (.Name x p1) [⟨.Name x px, iter, [], 0⟩] scope ps) 0 (.ref I) (.ref D) (compEnvC scope cl (D + 1) env))
      (compPost (model PG w) (ktrTop dp un gd cn cs L aa ccd cl' outer) E none Q (.ref D) (D + 1)) { s₁ with heap := h₂, toks := s₁.toks + ([] : List (Str × Value)).length } := by
    refine codeAny_compLoop_list (fun n s' => ∃ h tk toks' ys dn m' oC pos t0 n1 ln tl pv np, s' = { s₁ with heap := h, toks := tk } ∧ n = toks'.length + 1 ∧ TokRun tx pos ln pv toks' p2 l2 ∧ pv.length ≤ 1000 ∧ PiecesAre ys dn ∧ dn ++ toks' = toks ∧ Fr h₀ L h m ∧
      News h₀ L h ((I, caObj qm t) :: (qm, methodObj (.ref 114) (.ref a.x)) :: mLed a pos t0 n1 ln tl pv np ((D, lst ys) :: (D + 1, oC) :: rest)) ∧ NsObj oC m') ?_ (toks.length + 1)
      ⟨h₂, _, toks, [], [], _, oC, pos, t0, n, ln, tl, pv, np, rfl, rfl, run, hpv, .nil, rfl, F2, hN0, hoC⟩
    clear hN0 N2 F2 hns₂ hsb₂ up up2 hDo hD2 heC hoC run hpv F N hIa low nD
    intro n s' r9
    show (let G9 : Prop := _; G9)
    intro G9
    obtain ⟨h, tk, toks', ys, dn, m', oC, pos', t0', n1, ln', tl', pv', np', rfl, rfl, run, hpv, hys, hdn, F, N, hoC⟩ := r9
    k_unfold
    refine next_caK (R := fun v news' => (∃ wd tk' t' pos1 ln1 t1 n1 tl1 np1 pv1, toks' = wd :: tk' ∧ wd ≠ [] ∧ v = .str (Tx wd) t' ∧ pv1.length ≤ 1000 ∧ TokRun tx pos1 ln1 pv1 tk' p2 l2 ∧ news' = (I, caObj qm t) :: (qm, methodObj (.ref 114) (.ref a.x)) :: mLed a pos1 t1 n1 ln1 tl1 pv1 np1 ((D, lst ys) :: (D + 1, oC) :: rest)) ∨
        (toks' = [] ∧ ∃ t' t1 n1 tl1 np1, v = .str (Tx []) t' ∧ news' = (I, caObj qm t) :: (qm, methodObj (.ref 114) (.ref a.x)) :: mLed a p2 t1 n1 l2 tl1 [] np1 ((D, lst ys) :: (D + 1, oC) :: rest)))
      (CtNC.sub (ctc_next (t0 := t0') (n := n1) (tl := tl') (np := np') hm (hr' (lst ys) oC) run hpv) (perm3 (M := mL a pos' t0' n1 ln' tl' pv' np')) ?_) C1 C2 B F X N T hk hd' hu hf ?_ hqI
    · rintro v n₁ (⟨wd, tk', t', pos1, ln1, t1, n1, tl1, np1, pv1, e1, e2, e3, e4, e5, rfl⟩ | ⟨e1, t', t1, n1, tl1, np1, e2, rfl⟩)
      · exact ⟨_, .inl ⟨wd, tk', t', pos1, ln1, t1, n1, tl1, np1, pv1, e1, e2, e3, e4, e5, rfl⟩, perm4 (M := mL a pos1 t1 n1 ln1 tl1 pv1 np1)⟩
      · exact ⟨_, .inr ⟨e1, t', t1, n1, tl1, np1, e2, rfl⟩, perm4 (M := mL a p2 t1 n1 l2 tl1 [] np1)⟩
    · rintro v news' (⟨wd, tk', t', pos1, ln1, t1, n1, tl1, np1, pv1, rfl, hwd, rfl, hpv1, run1, rfl⟩ | ⟨rfl, t', t1, n1, tl1, np1, rfl, rfl⟩)
      · refine ⟨wd, t', _, rfl, rfl, hIr _ _ _ _ _ _ _ _ _, fun h' tk2 F' N' _ => ?_, fun _ _ _ _ e => absurd e hwd⟩
        have hCm : (D + 1, oC) ∈ ((I, caObj qm t) :: (qm, methodObj (.ref 114) (.ref a.x)) :: mLed a pos1 t1 n1 ln1 tl1 pv1 np1 ((D, lst ys) :: (D + 1, oC) :: rest)) := .tail _ (.tail _ (mL_app a pos1 t1 n1 ln1 tl1 pv1 np1 _ ▸ List.mem_append_right _ (.tail _ (.head _))))
        refine wpAny_assign_Name (wpAny_storeName_local (lookup_relabel_local hxa) (hoC.ns (N' _ hCm).1) (fun h₃ hn₃ hs₃ => ?_) (by simp [compEnvC, relabel, hkind]))
        refine wpAny_Name (wpAny_loadName_local hkind (lookup_relabel_local hxa) hn₃ (if_pos rfl) ?_) hdx
        have keep3 : ∀ b o, b ≠ D + 1 → h'.get? b = some o → h₃.get? b = some o := fun b o hb e => hs₃.extBut b o hb e
        have F3 : Fr h₀ L h₃ m := ⟨F'.ns.at' fun o e => keep3 _ o (neN (by omega)) e, fun b o e => keep3 b o (fun q => by rw [q, fresh₀ _ (Nat.le_succ _)] at e; cases e) (F'.keep b o e), F'.above⟩
        have hNsub : ∀ q ∈ ((I, caObj qm t) :: (qm, methodObj (.ref 114) (.ref a.x)) :: mLed a pos1 t1 n1 ln1 tl1 pv1 np1 rest), h₃.get? q.1 = some q.2 ∧ q.1 ≠ L ∧ h₀.get? q.1 = none := fun q hq => by
          have hq' : q ∈ ((I, caObj qm t) :: (qm, methodObj (.ref 114) (.ref a.x)) :: mLed a pos1 t1 n1 ln1 tl1 pv1 np1 ((D, lst ys) :: (D + 1, oC) :: rest)) := by
            rcases List.mem_cons.mp hq with rfl | hq
            · exact .head _
            · rcases List.mem_cons.mp hq with rfl | hq
              · exact .tail _ (.head _)
              · rw [← mL_app] at hq
                rcases List.mem_append.mp hq with hq | hq
                · exact .tail _ (.tail _ (mL_app a pos1 t1 n1 ln1 tl1 pv1 np1 _ ▸ List.mem_append_left _ hq))
                · exact .tail _ (.tail _ (mL_app a pos1 t1 n1 ln1 tl1 pv1 np1 _ ▸ List.mem_append_right _ (.tail _ (.tail _ hq))))
          exact ⟨keep3 _ _ (offM _ _ _ _ _ _ _ q hq).2 (N' q hq').1, (N' q hq').2⟩
        have hDm : (D, lst ys) ∈ ((I, caObj qm t) :: (qm, methodObj (.ref 114) (.ref a.x)) :: mLed a pos1 t1 n1 ln1 tl1 pv1 np1 ((D, lst ys) :: (D + 1, oC) :: rest)) := .tail _ (.tail _ (mL_app a pos1 t1 n1 ln1 tl1 pv1 np1 _ ▸ List.mem_append_right _ (.head _)))
        have hD3 : h₃.get? D = some (lst ys) := keep3 _ _ (neN (by omega)) (N' _ hDm).1
        have hlen : ys.length ≤ 1000 := by
          rw [hys.length]
          have := congrArg List.length hdn
          simp only [List.length_append] at this
          omega
        refine append_at (D := D) (hsz := by show ys.toArray.size ≤ sizeLine; rw [List.size_toArray, sizeLine_eq]; omega) hD3 fun h₆ hs₆ hD₆ => ?_
        have hn₆ := hn₃.at' (h' := h₆) fun o e => hs₆.extBut _ o (neN (by show D + 1 ≠ D; omega)) e
        show (let G9 : Prop := _; G9)
        intro G9
        obtain ⟨oC', heC', hoC'⟩ := ns_obj hn₆
        k_unfold
        have F6 : Fr h₀ L h₆ m := ⟨F3.ns.at' fun o e => hs₆.extBut _ o (neN (by omega)) e, fun b o e => hs₆.extBut b o (fun q => by rw [q, fresh₀ _ (Nat.le_refl _)] at e; cases e) (F3.keep b o e), F3.above⟩
        refine ⟨tk'.length + 1, Nat.lt_succ_self _, h₆, _, tk', ys ++ [.str (Tx wd) t'], dn ++ [wd], _, oC', pos1, t1, n1, ln1, tl1, pv1, np1, rfl, rfl, run1, hpv1, hys.snoc, by rw [List.append_assoc]; exact hdn, F6, ?_, hoC'⟩
        intro q hq
        have hsame : ∀ q ∈ ((I, caObj qm t) :: (qm, methodObj (.ref 114) (.ref a.x)) :: mLed a pos1 t1 n1 ln1 tl1 pv1 np1 rest), h₆.get? q.1 = some q.2 ∧ q.1 ≠ L ∧ h₀.get? q.1 = none := fun q hq => ⟨hs₆.extBut _ _ (offM _ _ _ _ _ _ _ q hq).1 (hNsub q hq).1, (hNsub q hq).2⟩
        rcases split6 (perm4 (M := mL a pos1 t1 n1 ln1 tl1 pv1 np1) q hq) with hq | rfl | rfl | rfl | rfl | hq
        · exact hsame q (.tail _ (.tail _ (mL_app a pos1 t1 n1 ln1 tl1 pv1 np1 rest ▸ List.mem_append_left rest hq)))
        · exact hsame _ (.head _)
        · exact hsame _ (.tail _ (.head _))
        · exact ⟨by rw [hD₆]; exact congrArg some (lst_snoc ys _), neN (by omega), fresh₀ _ (Nat.le_refl _)⟩
        · exact ⟨heC', neN (by omega), fresh₀ _ (Nat.le_succ _)⟩
        · exact hsame q (.tail _ (.tail _ (mL_app a pos1 t1 n1 ln1 tl1 pv1 np1 rest ▸ List.mem_append_right _ hq)))
      · refine ⟨[], t', _, rfl, rfl, hIr _ _ _ _ _ _ _ _ _, fun _ _ _ _ e => absurd rfl e, fun h' tk2 F' N' _ => ?_⟩
        have hCm : (D + 1, oC) ∈ ((qm, methodObj (.ref 114) (.ref a.x)) :: mLed a p2 t1 n1 l2 tl1 [] np1 ((D, lst ys) :: (D + 1, oC) :: rest)) := .tail _ (mL_app a p2 t1 n1 l2 tl1 [] np1 _ ▸ List.mem_append_right _ (.tail _ (.head _)))
        refine ⟨m', hoC.ns (N' _ hCm).1, fun h₄ hs₄ => ?_⟩
        have keep4 : ∀ b o, b ≠ D + 1 → h'.get? b = some o → h₄.get? b = some o := fun b o hb e => hs₄.extBut b o hb e
        rw [List.append_nil] at hdn
        subst hdn
        refine hQ D ys t1 n1 tl1 np1 h₄ tk2 hys ⟨F'.ns.at' fun o e => keep4 _ o (neN (by omega)) e, fun b o e => keep4 b o (fun q => by rw [q, fresh₀ _ (Nat.le_succ _)] at e; cases e) (F'.keep b o e), F'.above⟩ ?_
        intro q hq
        rcases List.mem_cons.mp hq with rfl | hq
        · have hDm : (D, lst ys) ∈ ((qm, methodObj (.ref 114) (.ref a.x)) :: mLed a p2 t1 n1 l2 tl1 [] np1 ((D, lst ys) :: (D + 1, oC) :: rest)) := .tail _ (mL_app a p2 t1 n1 l2 tl1 [] np1 _ ▸ List.mem_append_right _ (.head _))
          exact ⟨keep4 _ _ (neN (by omega)) (N' _ hDm).1, (N' _ hDm).2⟩
        · have hne := (offM _ _ _ _ _ _ _ q (.tail _ (.tail _ hq))).2
          have hq' : q ∈ ((qm, methodObj (.ref 114) (.ref a.x)) :: mLed a p2 t1 n1 l2 tl1 [] np1 ((D, lst ys) :: (D + 1, oC) :: rest)) := by
            rw [← mL_app] at hq
            rcases List.mem_append.mp hq with hq | hq
            · exact .tail _ (mL_app a p2 t1 n1 l2 tl1 [] np1 _ ▸ List.mem_append_left _ hq)
            · exact .tail _ (mL_app a p2 t1 n1 l2 tl1 [] np1 _ ▸ List.mem_append_right _ (.tail _ (.tail _ hq)))
          exact ⟨keep4 _ _ hne (N' q hq').1, (N' q hq').2⟩
  exact codeAny_compStart_list loop (iter_ca (hN0 _ (.head _)).1 loop)
end
end
section
theorem join_empty : ∀ cs : List (List Nat), Str.join (Tx []) (cs.map fun c => Tx c) = Tx cs.flatten
  | [] => rfl
  | [c] => by simp [Str.join]
  | c :: d :: r => by
    have ih := join_empty (d :: r)
    show Tx c ++ Tx [] ++ Str.join (Tx []) ((d :: r).map fun c => Tx c) = _
    rw [ih]
    show (⟨Array.mk c ++ Array.mk [] ++ Array.mk (d :: r).flatten⟩ : Str) = _
    simp
theorem join_fold : ∀ (cs : List (List Nat)) (n : Nat), (cs.map fun c => Tx c).foldl (fun n x => n + x.length + (Tx []).length) n = n + cs.flatten.length
  | [], n => rfl
  | c :: r, n => by
    rw [List.map_cons, List.foldl_cons, join_fold r, List.flatten_cons, List.length_append]
    show n + c.length + 0 + r.flatten.length = _
    omega
theorem join_ok {cs : List (List Nat)} (h : cs.flatten.length ≤ 1000) : JoinOk (Tx []) (cs.map fun c => Tx c) = true := by
  unfold JoinOk Builtin.Str.tooLong
  rw [List.foldl_toArray]
  rw [join_fold]
  rw [sizeLine_eq, Nat.zero_add]
  simp only [Bool.not_eq_true', decide_eq_false_iff_not]
  omega
theorem pieces_values {vs : List Value} {cs : List (List Nat)} (h : PiecesAre vs cs) : ∃ l : List (Str × Tok), vs = strValues l ∧ l.map (·.1) = cs.map fun c => Tx c := by
  induction h with
  | nil => exact ⟨[], rfl, rfl⟩
  | @cons c t vs cs _ ih =>
    obtain ⟨l, rfl, e⟩ := ih
    exact ⟨(Tx c, t) :: l, rfl, by rw [List.map_cons, e]; rfl⟩
theorem join_all {prog : Program} {w : World} {A : Around} {E : Value → Shared → Prop} {s : Shared} {h₀ : Heap} {L : Addr} {news : List (Addr × Obj)} {t : Tok} {D : Addr} {n : Nat} {ys : List Value} {cs : List (List Nat)} {Q : Value → Shared → Prop}
    (N : News h₀ L s.heap news) (hm : (D, listOf ys.toArray n) ∈ news) (hy : PiecesAre ys cs) (hlen : cs.flatten.length ≤ 1000) (h : ∀ t' k, Q (.str (Tx cs.flatten) t') { s with toks := k }) :
    wpAny (model prog w) A (call (.builtin "str.join") [.str (Str.ofString "") t, .ref D]) Q E s := by
  obtain ⟨l, rfl, e⟩ := pieces_values hy
  rw [lit_e]
  refine SC.join (l := l) (texts := cs.map fun c => Tx c) ⟨_, (N _ hm).1, rfl, n, rfl⟩ e (join_ok hlen) ?_
  have : Txt.join (Tx []) (cs.map fun c => Tx c) = Tx cs.flatten := (StrLaws.glued_eq_join _ _).trans (join_empty cs)
  rw [this]
  exact h
section
variable {prog : Program} {w : World} {A : Around} {E : Value → Shared → Prop} {s : Shared} {env : Env} {h₀ : Heap} {x : Str} {body : List Stmt} {Q : Flow → Shared → Prop} {I : Addr} {m₀ : Str → Option Value} {news₀ : List (Addr × Obj)} {lp : Addr × Obj}
theorem listRest_2 (y : Str) (J : Nat → List (Addr × Obj) → Prop) (vs : List Value) (hJ : J 0 news₀) (hkeep : ∀ i news, J i news → lp ∈ news)
    (turn : ∀ i v news vy, vs[i]? = some v → J i news → ∀ (it : Obj) h tk, it.cls = .type "list_iterator" → Fr h₀ env.locals h (fun z => if z = x then some v else if z = y then vy else m₀ z) → News h₀ env.locals h ((I, it) :: news) →
      wpAny (model prog w) A (execs body env) (UnrPost h₀ env.locals { s with heap := h, toks := tk } I it (fun m' news' => J (i + 1) news' ∧ ∀ z, z ≠ x → z ≠ y → m' z = m₀ z) Q) E { s with heap := h, toks := tk })
    (done : ∀ v v' news h tk, J vs.length news → Fr h₀ env.locals h (fun z => if z = x then v else if z = y then v' else m₀ z) → News h₀ env.locals h news → Q .next { s with heap := h, toks := tk }) :
    ListRest prog w A E h₀ env x body Q s I lp vs m₀ news₀ := by
  have eqm : ∀ m : Str → Option Value, (∀ z, z ≠ x → z ≠ y → m z = m₀ z) → m = fun z => if z = x then m x else if z = y then m y else m₀ z := by
    intro m hm
    funext z
    by_cases h1 : z = x
    · simp only [if_pos h1]; rw [h1]
    · by_cases h2 : z = y
      · simp only [if_neg h1, if_pos h2]; rw [h2]
      · simp only [if_neg h1, if_neg h2, hm z h1 h2]
  have key : ∀ (r : List Value) (i : Nat) (m : Str → Option Value) (news : List (Addr × Obj)), i + r.length = vs.length → (∀ j c, r[j]? = some c → vs[i + j]? = some c) → J i news → (∀ z, z ≠ x → z ≠ y → m z = m₀ z) → ListRest prog w A E h₀ env x body Q s I lp r m news := by
    intro r
    induction r with
    | nil =>
      intro i m news hk _ hJ hm h tk F N
      have : i = vs.length := by simpa using hk
      subst this
      rw [eqm m hm] at F
      exact done _ _ news h tk hJ F N
    | cons v r ih =>
      intro i m news hk hg hJ hm it h tk hc F N
      have e : (fun z => if z = x then some v else m z) = fun z => if z = x then some v else if z = y then m y else m₀ z := by
        funext z
        by_cases h1 : z = x
        · simp only [if_pos h1]
        · by_cases h2 : z = y
          · simp only [if_neg h1, if_pos h2]; rw [h2]
          · simp only [if_neg h1, if_neg h2, hm z h1 h2]
      rw [e] at F
      refine wpAny_mono (turn i v news (m y) (hg 0 v rfl) hJ it h tk hc F N) (fun f s' hf => unrPost_mono hf fun m' n' hJ' => ⟨hkeep _ _ hJ'.1, ih (i + 1) m' n' ?_ ?_ hJ'.1 hJ'.2⟩) fun _ _ e => e
      · simp at hk; omega
      · intro j c' hj
        have := hg (j + 1) c' (by simpa using hj)
        rw [show i + 1 + j = i + (j + 1) by omega]
        exact this
  exact key vs 0 m₀ news₀ (Nat.zero_add _) (fun j c h => by rw [Nat.zero_add]; exact h) hJ fun _ _ _ => rfl
end
theorem PiecesAre.get {vs : List Value} {cs : List (List Nat)} (h : PiecesAre vs cs) {i : Nat} {v : Value} (e : vs[i]? = some v) : ∃ c t, cs[i]? = some c ∧ v = .str (Tx c) t := by
  induction h generalizing i with
  | nil => simp at e
  | @cons c t vs cs _ ih =>
    cases i with
    | zero => cases e; exact ⟨c, t, rfl, rfl⟩
    | succ i => exact ih (by simpa using e)
theorem flatten_take {ps : List (List Nat)} {i : Nat} {q : List Nat} (h : ps[i]? = some q) : (ps.take (i + 1)).flatten = (ps.take i).flatten ++ q := by
  rw [List.take_add_one, h, List.flatten_append]
  simp
theorem perm5 {M : List (Addr × Obj)} {x y z : Addr × Obj} {rest : List (Addr × Obj)} : ∀ p ∈ M ++ x :: y :: z :: rest, p ∈ x :: y :: z :: (M ++ rest) := by
  intro p hp
  simp only [List.mem_append, List.mem_cons] at hp ⊢
  rcases hp with h | h | h | h | h <;> simp [h]
theorem perm7 {M : List (Addr × Obj)} {x : Addr × Obj} {rest : List (Addr × Obj)} : ∀ p ∈ M ++ x :: rest, p ∈ x :: (M ++ rest) := by
  intro p hp
  simp only [List.mem_append, List.mem_cons] at hp ⊢
  rcases hp with h | h | h <;> simp [h]
theorem perm8 {M : List (Addr × Obj)} {x : Addr × Obj} {rest : List (Addr × Obj)} : ∀ p ∈ x :: (M ++ rest), p ∈ M ++ x :: rest := by
  intro p hp
  simp only [List.mem_append, List.mem_cons] at hp ⊢
  rcases hp with h | h | h <;> simp [h]
theorem RestOk.cons {a : MA} {x : Addr × Obj} {r : List (Addr × Obj)} (h : RestOk a r) (h1 : x.1 ≠ a.al) (h2 : x.1 ≠ a.pb) (h3 : x.1 ≠ a.d) : RestOk a (x :: r) :=
  ⟨List.forall_mem_cons.mpr ⟨h1, h.al⟩, List.forall_mem_cons.mpr ⟨h2, h.pb⟩, List.forall_mem_cons.mpr ⟨h3, h.d⟩⟩
theorem run_push {tx : List Nat} {pos p2 : Nat} {ln l2 : Int} {toks : List (List Nat)} (run : TokRun tx pos ln [] toks p2 l2) : ∀ {pv : List Value} {ws : List (List Nat)}, PiecesAre pv ws → (∀ q ∈ ws, q ≠ []) → TokRun tx pos ln pv (ws ++ toks) p2 l2
  | _, _, .nil, _ => run
  | _, _, .cons h, hne => .pop (hne _ (.head _)) (run_push run h fun q hq => hne q (.tail _ hq))
/-- the words of a text, a letter each -/
noncomputable def words (l : List Nat) : List (List Nat) := l.map fun c => [c]
theorem words_flat : ∀ l : List Nat, (words l).flatten = l
  | [] => rfl
  | c :: r => by show [c] ++ (words r).flatten = _; rw [words_flat r]; rfl
theorem words_ne {l : List Nat} : ∀ q ∈ words l, q ≠ [] := by
  intro q hq
  obtain ⟨c, _, rfl⟩ := List.mem_map.mp hq
  exact List.cons_ne_nil _ _
theorem words_app (a b : List Nat) : words (a ++ b) = words a ++ words b := List.map_append
end
section
theorem fill8 : PySem.Challenge.rw_kl0089_01 = PySem.Challenge.rw_kl0089_01 ∧ hd.heap_39 = hd.heap_39 := by k_fill; exact ⟨rfl, rfl⟩
theorem ct_push_at {w : World} {p : Program} {loose : List Str} {mean : ExcName → Option Value} {mg mb : Str → Option Value} {t0 tl t : Tok} {wd : List Nat} {a : MA} {pos n np : Nat} {ln : Int} {pv : List Value} {rest : List (Addr × Obj)} {xx : Addr} (hx : a.x = xx) (hm : MOrd a) (hr : RestOk a rest) (hlen : pv.length ≤ 1000) :
    Ct w (hd.heap_39 w.params) p loose mean mg mb (.ref 121) [.ref xx, .str (Tx wd) t] [] 12 36 (mLed a pos t0 n ln tl pv np rest)
      (fun v news' => v = .none ∧ ∃ np', news' = mLed a pos t0 n ln tl (pv ++ [.str (Tx wd) t]) np' rest) := hx ▸ ct_push hm hr hlen
theorem flat_take_len {ps : List (List Nat)} {i : Nat} (h : ps.flatten.length ≤ 100) : (ps.take i).flatten.length ≤ 100 := by
  have e : ps.flatten = (ps.take i).flatten ++ (ps.drop i).flatten := by rw [← List.flatten_append, List.take_append_drop]
  rw [e, List.length_append] at h
  omega
theorem mled_off {a : MA} {pos pos' n n' np np' : Nat} {t0 t0' tl tl' : Tok} {ln ln' : Int} {pv pv' : List Value} {rest : List (Addr × Obj)} {X : Addr} (h : ∀ p ∈ mLed a pos t0 n ln tl pv np rest, p.1 < X) : ∀ p ∈ mLed a pos' t0' n' ln' tl' pv' np' rest, p.1 ≠ X := by
  intro q hq
  have hmap : (mLed a pos' t0' n' ln' tl' pv' np' rest).map Prod.fst = (mLed a pos t0 n ln tl pv np rest).map Prod.fst := rfl
  have hm : q.1 ∈ (mLed a pos' t0' n' ln' tl' pv' np' rest).map Prod.fst := List.mem_map_of_mem hq
  rw [hmap] at hm
  obtain ⟨q', hq', e⟩ := List.mem_map.mp hm
  rw [← e]
  exact Nat.ne_of_lt (h q' hq')
theorem take_one {q : List Nat} {j c : Nat} (h : q[j]? = some c) : q.take (j + 1) = q.take j ++ [c] := by
  rw [List.take_add_one, h]; rfl
theorem perm9 {M : List (Addr × Obj)} {x y z : Addr × Obj} {rest : List (Addr × Obj)} : ∀ p ∈ x :: y :: (M ++ z :: rest), p ∈ x :: y :: z :: (M ++ rest) := by
  intro p hp
  simp only [List.mem_append, List.mem_cons] at hp ⊢
  rcases hp with h | h | h | h | h <;> simp [h]
theorem perm10 {M : List (Addr × Obj)} {x y : Addr × Obj} {rest : List (Addr × Obj)} : ∀ p ∈ M ++ rest, p ∈ x :: (M ++ y :: rest) := by
  intro p hp
  simp only [List.mem_append, List.mem_cons] at hp ⊢
  rcases hp with h | h <;> simp [h]
end
section
theorem kw_C16 : True := by
  k_with_none
  k_with "sub" => ((repeat (refine List.forall_mem_cons.mpr ⟨by k_mem, ?_⟩)); (first | exact List.forall_mem_nil _ | (intro p hp; repeat (first | exact hp | apply List.Mem.tail))))
  k_with "enter" => (refine wpAny_call ?_; walk_at "enterC")
  k_with "enterC" => (k_dflt (refine' code_def ?q9k1 ?q9k2 ?q9k3 ?q9k4 ?q9k5 ?q9kA ?q9kF ?q9kK ?q9k6 ?q9k7 ?q9k8 ?q9k9 ?q9kB ?_ ?q9c2 ?q9c3 ?q9c4 ?q9c5; (case q9kA => exact rfl); (case q9kF => exact rfl); (case q9kK => assumption); (case q9k1 => k_asm); (case q9k2 => k_asm); (case q9k3 => k_asm); (case q9k4 => k_asm); (case q9k5 => k_asm); (case q9k6 => k_is); (case q9k7 => k_is); (case q9k8 => ktr_room); (case q9k9 => first | exact BindsTo.of_eq rfl | exact binds_K (by k_in) rfl (by k_is) rfl rfl rfl | (refine' kp_binds ?q9kx ?q9ke; (case q9kx => k_in); (case q9ke => exact fun _ => rfl)) | fail "enter: no rule for these arguments"); (case q9c5 => decide); (case q9kB => exact locs rfl); (case q9c2 => exact rfl); (case q9c3 => exact rfl); (case q9c4 => exact rfl); k_whole; intro g' L' h' FG' F' N' B' X' T'; (try dsimp only); (try k_lift B'); (try k_fold)))
  k_with "execs cons" => ((with_reducible refine wpAny_execs_cons ?_); (try dsimp only); k_fold)
  k_with "call builtin:str.lower" => (k_dflt (refine' low_call ?q9k1 ?_; (case q9k1 => first | assumption | exact L7_14 (by assumption)); k_whole; intro _ _))
  k_with "call builtin:str.upper" => (k_dflt (refine' upp_call ?q9k1 ?_; (case q9k1 => assumption); k_whole; intro _ _))
  k_with "call ref" => ((try k_fold); k_dflt (refine' Ct.use (ct_conv_name ?q9hc) ?q9B ?q9F ?q9X ?q9N ?q9T ?q9hk ?q9hd ?q9hu ?_; (case q9hc => assumption); (case q9B => k_asm); (case q9F => k_asm); (case q9X => k_asm); (case q9N => k_asm); (case q9T => k_asm); (case q9hk => exact rfl); (case q9hd => ktr_room); (case q9hu => ktr_units); k_whole; intro _ _ _ _ r9 _ _; obtain ⟨rfl, rfl⟩ := r9))
  k_with "call ref" => ((try k_fold); k_dflt (refine' Ct.use (ct_conv_value ?q9hc) ?q9B ?q9F ?q9X ?q9N ?q9T ?q9hk ?q9hd ?q9hu ?_; (case q9hc => assumption); (case q9B => k_asm); (case q9F => k_asm); (case q9X => k_asm); (case q9N => k_asm); (case q9T => k_asm); (case q9hk => exact rfl); (case q9hd => ktr_room); (case q9hu => ktr_units); k_whole; intro _ _ _ _ r9 _ _; obtain ⟨rfl, rfl⟩ := r9))
  k_with "exec For Name Name cons nil" => (k_here; (rename Fr _ _ _ _ => lF'); (with_unfolding_all refine' For_invVF lF' ?q9k1 ?q9k2 ?_; (case q9k1 => exact rfl); (case q9k2 => exact rfl); k_whole))
  k_with "call ref" => (k_here; rename News _ _ _ _ => N5; rename RestOk _ _ => r5; rename List.length _ ≤ 1000 => l5; rename MOk _ _ _ _ _ _ _ _ _ => m5; (try k_fold); k_dflt (refine' Ct.use (ct_push_at rfl (MOk.ord m5) r5 l5) ?q9B ?q9F ?q9X ?q9N ?q9T ?q9hk ?q9hd ?q9hu ?_; (case q9N => exact N5); (case q9B => k_asm); (case q9F => k_asm); (case q9X => k_asm); (case q9T => k_asm); (case q9hk => exact rfl); (case q9hd => ktr_room); (case q9hu => ktr_units); k_whole; intro _ _ _ _ r9 _ _; obtain ⟨rfl, _, rfl⟩ := r9))
  k_with "call builtin:iter" => ((k_here; k_dflt (refine' make_ca ?q9F ?q9N ?q9q ?_; (case q9F => k_asm); (case q9N => k_asm); (case q9q => k_mem)); intro _ _ _ _ l1; (try k_lt l1)); (try (revert l1; intro _)))
  k_with "eval ListComp" => (k_here; rename MOk _ _ _ _ _ _ _ _ _ => m5; k_dflt (refine' comp_toks ?q9k0 m5 ?q9hf ?q9C1 ?q9C2 ?q9B ?q9X ?q9T ?q9hk ?q9hd ?q9hu (by exact rfl) (by decide) (by exact rfl) (by decide) (by exact rfl) (by decide) ?_; (case q9k0 => k_asm); (case q9hf => k_is); (case q9C1 => assumption); (case q9C2 => assumption); (case q9B => k_asm); (case q9X => k_asm); (case q9T => k_asm); (case q9hk => exact rfl); (case q9hd => ktr_room); (case q9hu => ktr_units)))
  k_with "call builtin:str.join" => (rename PiecesAre _ _ => py5; k_dflt (refine' join_all ?q9z1 ?q9z2 py5 ?q9z3 ?_; (case q9z1 => k_asm); (case q9z2 => k_mem); (case q9z3 => assumption); k_whole; intro _ _))
  trivial
section
variable {w : World} {p : Program} {loose : List Str} {mean : ExcName → Option Value} {mg mb : Str → Option Value} {t0 tl : Tok} {tx : List Nat} {a : MA} {pos n np nP p2 : Nat} {ln l2 : Int} {P : Addr} {pv : List Value} {ps toks : List (List Nat)} {rest : List (Addr × Obj)}
set_option maxHeartbeats 16000000 in
theorem ct_led (hm : MOk w (hd.heap_39 w.params) p loose mean mg mb tx a) (hr : RestOk a ((P, listOf pv.toArray nP) :: rest)) (hpv : PiecesAre pv ps) (hps : ps.flatten.length ≤ 100) (run : TokRun tx pos ln [] toks p2 l2) (htk : toks.flatten.length ≤ 100 ∧ toks.length ≤ 100) :
    CtN w (hd.heap_39 w.params) p loose mean mg mb (.ref 318) [.ref a.x, .ref P] [] 60 180 ((P, listOf pv.toArray nP) :: mLed a pos t0 n ln tl [] np rest)
      (fun v news' => ∃ t t0' n' tl' np', v = .str (Tx (ps.flatten ++ toks.flatten)) t ∧ news' = mLed a p2 t0' n' l2 tl' [] np' rest) := by
  intro dp un gd cn cs a' ccd cl outer A₀ base h₀ L m s Q E C1 C2 B F X N T hk hdp hun hret
  show (let G9 : Prop := _; G9)
  intro G9
  obtain ⟨kd, nms, g1, g2, g3⟩ := cs
  k_unfold
  dsimp only at hk
  subst hk
  iterate 60 (first | (with_reducible show wpAny _ _ (pyIter _) _ _ _) | (k_unfold; (try dsimp only)) | (k_end; wrow_close) | walk1)
  rename Fr _ _ _ _ => F5
  rename News _ _ _ _ => N5
  refine iter_listUnr (lo := listOf pv.toArray nP) (vs := pv) rfl F5 N5 (.head _) rfl rfl fun I hI => ?_
  clear F5 N5 F N
  have hIa : @LT.lt Nat _ a.al I := hI (a.al, listOf #[Value.int (pos : Int) t0] n) (.tail _ (.head _))
  have hIpb : @LT.lt Nat _ a.pb I := hI (a.pb, listOf ([] : List Value).toArray np) (.tail _ (.tail _ (.tail _ (.tail _ (.tail _ (.tail _ (.head _)))))))
  have hId : @LT.lt Nat _ a.d I := hI (a.d, _) (.tail _ (.tail _ (.tail _ (.tail _ (.tail _ (.tail _ (.tail _ (.head _))))))))
  have hIall := hI
  have hIP : @LT.lt Nat _ P I := hI _ (.head _)
  refine listRest_2 (Str.ofString "word") (fun i news => ∃ pvb npb, news = (P, listOf pv.toArray nP) :: mLed a pos t0 n ln tl pvb npb rest ∧ PiecesAre pvb (words (ps.take i).flatten)) pv ⟨[], np, rfl, .nil⟩ (fun i news ⟨_, _, e, _⟩ => e ▸ .head _) ?_ ?_
  · intro i v news vy hv r9 it h tk hit F N
    show (let G9 : Prop := _; G9)
    intro G9
    obtain ⟨pvb, npb, rfl, hpvb⟩ := r9
    k_unfold
    show (let G9 : Prop := _; G9)
    intro G9
    obtain ⟨q, tq, hq, rfl⟩ := hpv.get hv
    k_unfold
    have N2 : News _ _ _ (mLed a pos t0 n ln tl pvb npb ((I, it) :: (P, listOf pv.toArray nP) :: rest)) := cb_drop N (perm1 (M := mL a pos t0 n ln tl pvb npb))
    have r5 : RestOk a ((I, it) :: (P, listOf pv.toArray nP) :: rest) := hr.cons (neN (by dsimp only; omega)) (neN (by dsimp only; omega)) (neN (by dsimp only; omega))
    clear N
    iterate 60 (first | (with_reducible show wpAny _ _ (pyIter _) _ _ _) | (k_unfold; (try dsimp only)) | (k_end; wrow_close) | walk1)
    rename Fr _ _ _ _ => F5
    rename News _ _ _ _ => N5
    refine iter_strUnr (l := q.map fun c => Tx [c]) rfl F5 N5 rfl fun I2 hI2 => ?_
    clear F5 N5
    have h2a : @LT.lt Nat _ a.al I2 := hI2 (a.al, listOf #[Value.int (pos : Int) t0] n) (.head _)
    have h2pb : @LT.lt Nat _ a.pb I2 := hI2 (a.pb, listOf pvb.toArray npb) (.tail _ (.tail _ (.tail _ (.tail _ (.tail _ (.head _))))))
    have h2d : @LT.lt Nat _ a.d I2 := hI2 (a.d, _) (.tail _ (.tail _ (.tail _ (.tail _ (.tail _ (.tail _ (.head _)))))))
    have hqn : (ps.take (i + 1)).flatten.length ≤ 100 := flat_take_len hps
    have hqf := flatten_take hq
    refine strRest_2 (Str.ofString "word") (fun j news => ∃ pvb npb, news = mLed a pos t0 n ln tl pvb npb ((I, it) :: (P, listOf pv.toArray nP) :: rest) ∧ PiecesAre pvb (words ((ps.take i).flatten ++ q.take j))) _ ⟨pvb, npb, rfl, by rw [List.take_zero, List.append_nil]; exact hpvb⟩ ?_ ?_
    · intro j c news v2 hc r9 u it2 h tk F N
      show (let G9 : Prop := _; G9)
      intro G9
      obtain ⟨pvb, npb, rfl, hpvb⟩ := r9
      k_unfold
      show (let G9 : Prop := _; G9)
      intro G9
      obtain ⟨c9, hc9, rfl⟩ := tx_map hc
      k_unfold
      have N2 : News _ _ _ (mLed a pos t0 n ln tl pvb npb ((I2, it2) :: (I, it) :: (P, listOf pv.toArray nP) :: rest)) := cb_drop N (perm7 (M := mL a pos t0 n ln tl pvb npb))
      dsimp only [mLed] at N2
      clear N
      have r6 : RestOk a ((I2, it2) :: (I, it) :: (P, listOf pv.toArray nP) :: rest) := r5.cons (neN (by dsimp only; omega)) (neN (by dsimp only; omega)) (neN (by dsimp only; omega))
      have l5 : pvb.length ≤ 1000 := by
        have e := hpvb.length
        rw [words, List.length_map, List.length_append] at e
        rw [hqf, List.length_append] at hqn
        have : (q.take j).length ≤ q.length := by rw [List.length_take]; omega
        omega
      clear r5
      k_steps
      rename News _ _ _ _ => N9
      rename Fr _ _ _ _ => F9
      refine UnrEnd.intro F9 N9 (mLed a pos t0 n ln tl (pvb ++ [.str (Tx [c9]) u]) _ ((I, it) :: (P, listOf pv.toArray nP) :: rest)) (perm8 (M := mL a pos t0 n ln tl (pvb ++ [.str (Tx [c9]) u]) _)) (mled_off hI2) ⟨⟨_, _, rfl, ?_⟩, fun z h1 h2 => by simp [h1]⟩
      rw [take_one hc9, ← List.append_assoc, words_app]
      exact hpvb.snoc
    · intro v v' news h tk r9 F N
      show (let G9 : Prop := _; G9)
      intro G9
      obtain ⟨pvb, npb, rfl, hpvb⟩ := r9
      k_unfold
      rw [List.length_map, List.take_length, ← hqf] at hpvb
      k_steps
      rename News _ _ _ _ => N9
      rename Fr _ _ _ _ => F9
      refine UnrEnd.intro F9 N9 ((P, listOf pv.toArray nP) :: mLed a pos t0 n ln tl pvb npb rest) (perm2 (M := mL a pos t0 n ln tl pvb npb)) (List.forall_mem_cons.mpr ⟨neN (by dsimp only; omega), mled_off fun p hp => hI p (.tail _ hp)⟩) ⟨⟨_, _, rfl, hpvb⟩, fun z h1 h2 => by simp [h1, h2]⟩
  · intro v v' news h tk r9 F N
    show (let G9 : Prop := _; G9)
    intro G9
    obtain ⟨pvb, npb, rfl, hpvb⟩ := r9
    k_unfold
    rw [hpv.length, List.take_length] at hpvb
    k_steps
    rename_i q _ _ _ lq I3 _ F9 N9 lI
    show (let G9 : Prop := _; G9)
    intro G9
    obtain ⟨j0, j1, j2, j3, j4, j5, j6, j7, j8, j9, j10, j11⟩ := lq
    k_unfold
    show (let G9 : Prop := _; G9)
    intro G9
    obtain ⟨iq, i0, i1, i2, i3, i4, i5, i6, i7, i8, i9, i10, i11⟩ := lI
    k_unfold
    have hl3 : (words ps.flatten ++ toks).flatten.length ≤ 1000 := by
      rw [List.flatten_append, words_flat, List.length_append]; omega
    have hl4 : (words ps.flatten).length = ps.flatten.length := by rw [words, List.length_map]
    refine ⟨I3, q, _, pos, t0, n, ln, tl, pvb, npb, words ps.flatten ++ toks, p2, l2, (P, listOf pv.toArray nP) :: rest, rfl, F9, cb_drop N9 (perm9 (M := mL a pos t0 n ln tl pvb npb)), hr, ⟨neN (by omega), neN (by omega), neN (by omega), neN (by omega), neN (by omega), neN (by omega), neN (by omega), neN (by omega), neN (by omega), neN (by omega)⟩, neN (by omega),
      List.forall_mem_cons.mpr ⟨neN (by dsimp only; omega), ne_allLt i11 (Nat.le_refl _)⟩, ?h3, run_push run hpvb words_ne, by rw [hpvb.length, hl4]; omega, by rw [List.length_append, hl4]; omega, ?_⟩
    case h3 =>
      intro b hb
      simp only [List.mem_cons, List.not_mem_nil, or_false] at hb
      rcases hb with rfl | rfl | rfl <;> exact ⟨neN (by omega), neN (by omega)⟩
    clear N9 F9
    intro D ys t1 n1 tl1 np1 h1 tk1 hys F1 N1
    dsimp only [mLed] at N1
    clear hpvb
    k_steps
    rename News _ _ _ _ => N9
    exact hret _ _ _ _ ⟨_, t1, n1, tl1, np1, by rw [List.flatten_append, words_flat], rfl⟩ (by k_asm) (cb_drop N9 (perm10 (M := mL a p2 t1 n1 l2 tl1 [] np1)))
end
end
section
theorem kw_C17 : True := by
  k_with_none
  k_with "sub" => ((repeat (refine List.forall_mem_cons.mpr ⟨by k_mem, ?_⟩)); (first | exact List.forall_mem_nil _ | (intro p hp; repeat (first | exact hp | apply List.Mem.tail))))
  k_with "enter" => (refine wpAny_call ?_; walk_at "enterC")
  k_with "enterC" => (k_dflt (refine' code_def ?q9k1 ?q9k2 ?q9k3 ?q9k4 ?q9k5 ?q9kA ?q9kF ?q9kK ?q9k6 ?q9k7 ?q9k8 ?q9k9 ?q9kB ?_ ?q9c2 ?q9c3 ?q9c4 ?q9c5; (case q9kA => exact rfl); (case q9kF => exact rfl); (case q9kK => assumption); (case q9k1 => k_asm); (case q9k2 => k_asm); (case q9k3 => k_asm); (case q9k4 => k_asm); (case q9k5 => k_asm); (case q9k6 => k_is); (case q9k7 => k_is); (case q9k8 => ktr_room); (case q9k9 => first | exact BindsTo.of_eq rfl | exact binds_K (by k_in) rfl (by k_is) rfl rfl rfl | (refine' kp_binds ?q9kx ?q9ke; (case q9kx => k_in); (case q9ke => exact fun _ => rfl)) | fail "enter: no rule for these arguments"); (case q9c5 => decide); (case q9kB => exact locs rfl); (case q9c2 => exact rfl); (case q9c3 => exact rfl); (case q9c4 => exact rfl); k_whole; intro g' L' h' FG' F' N' B' X' T'; (try dsimp only); (try k_lift B'); (try k_fold)))
  k_with "execs cons" => ((with_reducible refine wpAny_execs_cons ?_); (try dsimp only); k_fold)
  k_with "call builtin:str.lower" => (k_dflt (refine' low_call ?q9k1 ?_; (case q9k1 => first | assumption | exact L7_14 (by assumption)); k_whole; intro _ _))
  k_with "call builtin:str.upper" => (k_dflt (refine' upp_call ?q9k1 ?_; (case q9k1 => assumption); k_whole; intro _ _))
  k_with "call ref" => ((try k_fold); k_dflt (refine' Ct.use (ct_conv_name ?q9hc) ?q9B ?q9F ?q9X ?q9N ?q9T ?q9hk ?q9hd ?q9hu ?_; (case q9hc => assumption); (case q9B => k_asm); (case q9F => k_asm); (case q9X => k_asm); (case q9N => k_asm); (case q9T => k_asm); (case q9hk => exact rfl); (case q9hd => ktr_room); (case q9hu => ktr_units); k_whole; intro _ _ _ _ r9 _ _; obtain ⟨rfl, rfl⟩ := r9))
  k_with "call ref" => ((try k_fold); k_dflt (refine' Ct.use (ct_conv_value ?q9hc) ?q9B ?q9F ?q9X ?q9N ?q9T ?q9hk ?q9hd ?q9hu ?_; (case q9hc => assumption); (case q9B => k_asm); (case q9F => k_asm); (case q9X => k_asm); (case q9N => k_asm); (case q9T => k_asm); (case q9hk => exact rfl); (case q9hd => ktr_room); (case q9hu => ktr_units); k_whole; intro _ _ _ _ r9 _ _; obtain ⟨rfl, rfl⟩ := r9))
  k_with "exec For Name Name cons nil" => (k_here; (rename Fr _ _ _ _ => lF'); (with_unfolding_all refine' For_invVF lF' ?q9k1 ?q9k2 ?_; (case q9k1 => exact rfl); (case q9k2 => exact rfl); k_whole))
  k_with "call ref" => (k_here; rename News _ _ _ _ => N5; rename RestOk _ _ => r5; rename List.length _ ≤ 1000 => l5; rename MOk _ _ _ _ _ _ _ _ _ => m5; (try k_fold); k_dflt (refine' Ct.use (ct_push_at rfl (MOk.ord m5) r5 l5) ?q9B ?q9F ?q9X ?q9N ?q9T ?q9hk ?q9hd ?q9hu ?_; (case q9N => exact N5); (case q9B => k_asm); (case q9F => k_asm); (case q9X => k_asm); (case q9T => k_asm); (case q9hk => exact rfl); (case q9hd => ktr_room); (case q9hu => ktr_units); k_whole; intro _ _ _ _ r9 _ _; obtain ⟨rfl, _, rfl⟩ := r9))
  k_with "call builtin:iter" => ((k_here; k_dflt (refine' make_ca ?q9F ?q9N ?q9q ?_; (case q9F => k_asm); (case q9N => k_asm); (case q9q => k_mem)); intro _ _ _ _ l1; (try k_lt l1)); (try (revert l1; intro _)))
  k_with "eval ListComp" => (k_here; rename MOk _ _ _ _ _ _ _ _ _ => m5; k_dflt (refine' comp_toks ?q9k0 m5 ?q9hf ?q9C1 ?q9C2 ?q9B ?q9X ?q9T ?q9hk ?q9hd ?q9hu (by exact rfl) (by decide) (by exact rfl) (by decide) (by exact rfl) (by decide) ?_; (case q9k0 => k_asm); (case q9hf => k_is); (case q9C1 => assumption); (case q9C2 => assumption); (case q9B => k_asm); (case q9X => k_asm); (case q9T => k_asm); (case q9hk => exact rfl); (case q9hd => ktr_room); (case q9hu => ktr_units)))
  k_with "call builtin:str.join" => (rename PiecesAre _ _ => py5; k_dflt (refine' join_all ?q9z1 ?q9z2 py5 ?q9z3 ?_; (case q9z1 => k_asm); (case q9z2 => k_mem); (case q9z3 => assumption); k_whole; intro _ _))
  trivial
section
variable {w : World} {p : Program} {loose : List Str} {mean : ExcName → Option Value} {mg mb : Str → Option Value} {t0 tl tw : Tok} {tx ws : List Nat} {x : Str} {a : MA} {pos n np p2 : Nat} {ln l2 : Int} {toks : List (List Nat)} {rest : List (Addr × Obj)}
set_option maxHeartbeats 16000000 in
theorem ct_led_str (hm : MOk w (hd.heap_39 w.params) p loose mean mg mb tx a) (hr : RestOk a rest) (hx : x = Tx ws) (hps : ws.length ≤ 100) (run : TokRun tx pos ln [] toks p2 l2) (htk : toks.flatten.length ≤ 100 ∧ toks.length ≤ 100) :
    CtN w (hd.heap_39 w.params) p loose mean mg mb (.ref 318) [.ref a.x, .str x tw] [] 60 180 (mLed a pos t0 n ln tl [] np rest)
      (fun v news' => ∃ t t0' n' tl' np', v = .str (Tx (ws ++ toks.flatten)) t ∧ news' = mLed a p2 t0' n' l2 tl' [] np' rest) := by
  subst hx
  intro dp un gd cn cs a' ccd cl outer A₀ base h₀ L m s Q E C1 C2 B F X N T hk hdp hun hret
  show (let G9 : Prop := _; G9)
  intro G9
  obtain ⟨kd, nms, g1, g2, g3⟩ := cs
  k_unfold
  dsimp only at hk
  subst hk
  iterate 60 (first | (with_reducible show wpAny _ _ (pyIter _) _ _ _) | (k_unfold; (try dsimp only)) | (k_end; wrow_close) | walk1)
  rename Fr _ _ _ _ => F5
  rename News _ _ _ _ => N5
  refine iter_strUnr (l := ws.map fun c => Tx [c]) rfl F5 N5 rfl fun I hI => ?_
  clear F5 N5 F N
  have hIa : @LT.lt Nat _ a.al I := hI (a.al, listOf #[Value.int (pos : Int) t0] n) (.head _)
  have hIpb : @LT.lt Nat _ a.pb I := hI (a.pb, listOf ([] : List Value).toArray np) (.tail _ (.tail _ (.tail _ (.tail _ (.tail _ (.head _))))))
  have hId : @LT.lt Nat _ a.d I := hI (a.d, _) (.tail _ (.tail _ (.tail _ (.tail _ (.tail _ (.tail _ (.head _)))))))
  refine strRest_2 (Str.ofString "word") (fun i news => ∃ pvb npb, news = mLed a pos t0 n ln tl pvb npb rest ∧ PiecesAre pvb (words (ws.take i))) _ ⟨[], np, rfl, .nil⟩ ?_ ?_
  · intro i c news vy hc r9 u it h tk F N
    show (let G9 : Prop := _; G9)
    intro G9
    obtain ⟨pvb, npb, rfl, hpvb⟩ := r9
    k_unfold
    show (let G9 : Prop := _; G9)
    intro G9
    obtain ⟨c9, hc9, rfl⟩ := tx_map hc
    k_unfold
    have N2 : News _ _ _ (mLed a pos t0 n ln tl pvb npb ((I, it) :: rest)) := cb_drop N (perm7 (M := mL a pos t0 n ln tl pvb npb))
    have r5 : RestOk a ((I, it) :: rest) := hr.cons (neN (by dsimp only; omega)) (neN (by dsimp only; omega)) (neN (by dsimp only; omega))
    clear N
    iterate 60 (first | (with_reducible show wpAny _ _ (pyIter _) _ _ _) | (k_unfold; (try dsimp only)) | (k_end; wrow_close) | walk1)
    rename Fr _ _ _ _ => F5
    rename News _ _ _ _ => N5
    refine iter_strUnr (l := [c9].map fun c => Tx [c]) rfl F5 N5 rfl fun I2 hI2 => ?_
    clear F5 N5
    have h2a : @LT.lt Nat _ a.al I2 := hI2 (a.al, listOf #[Value.int (pos : Int) t0] n) (.head _)
    have h2pb : @LT.lt Nat _ a.pb I2 := hI2 (a.pb, listOf pvb.toArray npb) (.tail _ (.tail _ (.tail _ (.tail _ (.tail _ (.head _))))))
    have h2d : @LT.lt Nat _ a.d I2 := hI2 (a.d, _) (.tail _ (.tail _ (.tail _ (.tail _ (.tail _ (.tail _ (.head _)))))))
    refine strRest_2 (Str.ofString "word") (fun j news => ∃ pvb npb, news = mLed a pos t0 n ln tl pvb npb ((I, it) :: rest) ∧ PiecesAre pvb (words (ws.take i ++ [c9].take j))) _ ⟨pvb, npb, rfl, by rw [List.take_zero, List.append_nil]; exact hpvb⟩ ?_ ?_
    · intro j c news v2 hc r9 u it2 h tk F N
      show (let G9 : Prop := _; G9)
      intro G9
      obtain ⟨pvb, npb, rfl, hpvb⟩ := r9
      k_unfold
      show (let G9 : Prop := _; G9)
      intro G9
      obtain ⟨c8, hc8, rfl⟩ := tx_map hc
      k_unfold
      have N2 : News _ _ _ (mLed a pos t0 n ln tl pvb npb ((I2, it2) :: (I, it) :: rest)) := cb_drop N (perm7 (M := mL a pos t0 n ln tl pvb npb))
      dsimp only [mLed] at N2
      clear N
      have r6 : RestOk a ((I2, it2) :: (I, it) :: rest) := r5.cons (neN (by dsimp only; omega)) (neN (by dsimp only; omega)) (neN (by dsimp only; omega))
      have l5 : pvb.length ≤ 1000 := by
        have e := hpvb.length
        rw [words, List.length_map, List.length_append, List.length_take, List.length_take, List.length_singleton] at e
        omega
      clear r5
      k_steps
      rename News _ _ _ _ => N9
      rename Fr _ _ _ _ => F9
      refine UnrEnd.intro F9 N9 (mLed a pos t0 n ln tl (pvb ++ [.str (Tx [c8]) u]) _ ((I, it) :: rest)) (perm8 (M := mL a pos t0 n ln tl (pvb ++ [.str (Tx [c8]) u]) _)) (mled_off hI2) ⟨⟨_, _, rfl, ?_⟩, fun z h1 h2 => by simp [h1]⟩
      rw [take_one hc8, ← List.append_assoc, words_app]
      exact hpvb.snoc
    · intro v v' news h tk r9 F N
      show (let G9 : Prop := _; G9)
      intro G9
      obtain ⟨pvb, npb, rfl, hpvb⟩ := r9
      k_unfold
      rw [List.length_map, List.take_length, ← take_one hc9] at hpvb
      k_steps
      rename News _ _ _ _ => N9
      rename Fr _ _ _ _ => F9
      refine UnrEnd.intro F9 N9 (mLed a pos t0 n ln tl pvb npb rest) (perm8 (M := mL a pos t0 n ln tl pvb npb)) (mled_off hI) ⟨⟨_, _, rfl, hpvb⟩, fun z h1 h2 => by simp [h1, h2]⟩
  · intro v v' news h tk r9 F N
    show (let G9 : Prop := _; G9)
    intro G9
    obtain ⟨pvb, npb, rfl, hpvb⟩ := r9
    k_unfold
    rw [List.length_map, List.take_length] at hpvb
    k_steps
    rename_i q _ _ _ lq I3 _ F9 N9 lI
    show (let G9 : Prop := _; G9)
    intro G9
    obtain ⟨j1, j2, j3, j4, j5, j6, j7, j8, j9, j10, j11⟩ := lq
    k_unfold
    show (let G9 : Prop := _; G9)
    intro G9
    obtain ⟨iq, i1, i2, i3, i4, i5, i6, i7, i8, i9, i10, i11⟩ := lI
    k_unfold
    have hl3 : (words ws ++ toks).flatten.length ≤ 1000 := by
      rw [List.flatten_append, words_flat, List.length_append]; omega
    have hl4 : (words ws).length = ws.length := by rw [words, List.length_map]
    refine ⟨I3, q, _, pos, t0, n, ln, tl, pvb, npb, words ws ++ toks, p2, l2, rest, rfl, F9, N9, hr, ⟨neN (by omega), neN (by omega), neN (by omega), neN (by omega), neN (by omega), neN (by omega), neN (by omega), neN (by omega), neN (by omega), neN (by omega)⟩, neN (by omega),
      ne_allLt i11 (Nat.le_refl _), ?h3, run_push run hpvb words_ne, by rw [hpvb.length, hl4]; omega, by rw [List.length_append, hl4]; omega, ?_⟩
    case h3 =>
      intro b hb
      simp only [List.mem_cons, List.not_mem_nil, or_false] at hb
      rcases hb with rfl | rfl | rfl <;> exact ⟨neN (by omega), neN (by omega)⟩
    clear N9 F9
    intro D ys t1 n1 tl1 np1 h1 tk1 hys F1 N1
    dsimp only [mLed] at N1
    clear hpvb
    k_steps
    rename News _ _ _ _ => N9
    exact hret _ _ _ _ ⟨_, t1, n1, tl1, np1, by rw [List.flatten_append, words_flat], rfl⟩ (by k_asm) (cb_drop N9 (fun p hp => .tail _ hp))
end
end
section
theorem fill9 : PySem.Challenge.rw_kl0089_01 = PySem.Challenge.rw_kl0089_01 ∧ hd.heap_39 = hd.heap_39 := by k_fill; exact ⟨rfl, rfl⟩
noncomputable abbrev tabFull (c : Addr) : Obj := tabObj #[rawInt 232, rawInt 46, .ref c]
/-- the code table of _law_moved: empty, or with its lambda's code -/
noncomputable def TabS (T : List (Addr × Obj)) : Prop := T = [(325, tabObj #[])] ∨ ∃ c oc, T = [(325, tabFull c), (c, oc)] ∧ LamCode oc
noncomputable def TabQ (qual : Str) (T : List (Addr × Obj)) : Prop := T = [(325, tabObj #[])] ∨ ∃ c oc vs t, T = [(325, tabFull c), (c, oc)] ∧ oc.data = .fields vs ∧ vs[1]? = some (.str qual t)
theorem updF_at {P : Addr} {o : Obj} {r : List (Addr × Obj)} (hr : ∀ q ∈ r, q.1 ≠ P) : ∀ {front : List (Addr × Obj)}, (∀ q ∈ front, q.1 ≠ P) → UpdF P o (front ++ (P, o) :: r) (fun o' => front ++ (P, o') :: r)
  | [], _ => .head hr
  | q :: f, h => .tail (h q (.head _)) (updF_at hr fun q' hq' => h q' (.tail _ hq'))
section
variable {M : Model} {A : Around} {E : Value → Shared → Prop} {s : Shared} {h₀ : Heap} {L a : Addr} {m mg mb : Str → Option Value} {cn : Str} {cs : Scope} {ccd : Value} {cl : List (Str × Addr)} {front restM T : List (Addr × Obj)}
  {p : Program} {loose : List Str} {mean : ExcName → Option Value} {name qual : Str} {params : Arguments} {body : Expr} {scope : Scope} {pos : Pos} {firstLine : Nat} {clos : List (Str × Addr)}
theorem lam_any {Q : Value → Shared → Prop} (F : Fr h₀ L s.heap m) (N : News h₀ L s.heap (front ++ (T ++ restM))) (Tp : Top p loose mean mg mb h₀) (C : CodeHd h₀ 329 325) (hcd : ccd = .ref 329) (hT : TabQ qual T)
    (hfr : ∀ q ∈ front, q.1 ≠ 325) (hrM : ∀ q ∈ restM, q.1 ≠ 325) (hl : pos.line = 232) (hc : pos.col = 46) (hcl : closureFor scope (envX cn cs L a ccd cl) = pure clos)
    (h : ∀ f c' oc vs t ctv h' tk, Fr h₀ L h' m →
      News h₀ L h' ((f, kla_obj name qual params body scope clos ((mg "__name__").getD .none) c' ctv) :: (c', oc) :: (front ++ (325, tabFull c') :: restM)) →
      oc.data = .fields vs → vs[1]? = some (.str qual t) → (T = [(325, tabFull c'), (c', oc)] ∨ ∀ q ∈ restM, q.1 < c') → (∀ q ∈ front ++ (325, tabFull c') :: restM, q.1 < f) → @LT.lt Nat _ c' f → Q (.ref f) { s with heap := h', toks := tk }) :
    wpAny M A (makeFunction name qual params (.expr body) scope (envX cn cs L a ccd cl) [] [] [] pos firstLine) Q E s := by
  rcases hT with rfl | ⟨c, oc, vs, t, rfl, d1, d2⟩
  · refine kla_nest (ps := #[]) F N Tp C hcd (updF_at hrM hfr) trivial rfl hcl fun f c' oc vs t ctv h' tk F' N' d1 d2 l1 l2 => ?_
    rw [hl, hc] at N'
    refine h f c' oc vs t ctv h' tk F' N' d1 d2 (.inr fun q hq => l1 q (List.mem_append_right _ (.tail _ hq))) (fun q hq => ?_) l2
    rcases List.mem_append.mp hq with hq | hq
    · exact Nat.lt_trans (l1 q (List.mem_append_left _ hq)) l2
    · rcases List.mem_cons.mp hq with rfl | hq
      · exact Nat.lt_trans (l1 (325, tabObj #[]) (List.mem_append_right _ (.head _))) l2
      · exact Nat.lt_trans (l1 q (List.mem_append_right _ (.tail _ hq))) l2
  · refine kla_hit (ps := #[rawInt 232, rawInt 46, .ref c]) (c' := c) F N Tp C hcd (List.mem_append_right _ (.head _)) trivial ?_ hcl fun f ctv h' tk F' N' l1 => ?_
    · show codeAmong pos [rawInt 232, rawInt 46, .ref c] = _
      obtain ⟨line, col, el, ec⟩ := pos
      dsimp only at hl hc
      subst hl hc
      rfl
    · have hsub : ∀ q ∈ (c, oc) :: (front ++ (325, tabFull c) :: restM), q ∈ front ++ ([(325, tabFull c), (c, oc)] ++ restM) := by
        intro q hq
        simp only [List.mem_append, List.mem_cons, List.not_mem_nil, or_false] at hq ⊢
        rcases hq with h | h | h | h <;> simp [h]
      refine h f c oc vs t ctv h' tk F' ?_ d1 d2 (.inl rfl) (fun q hq => l1 q (hsub q (.tail _ hq))) (l1 (c, oc) (hsub _ (.head _)))
      exact cb_drop N' fun q hq => by
        rcases List.mem_cons.mp hq with rfl | hq
        · exact .head _
        · exact .tail _ (hsub q hq)
end
end
section
theorem kw_C18 : True := by
  k_with_none
  k_with "sub" => ((repeat (refine List.forall_mem_cons.mpr ⟨by k_mem, ?_⟩)); (first | exact List.forall_mem_nil _ | (intro p hp; repeat (first | exact hp | apply List.Mem.tail))))
  k_with "enter" => (refine wpAny_call ?_; walk_at "enterC")
  k_with "enterC" => (k_dflt (refine' code_def ?q9k1 ?q9k2 ?q9k3 ?q9k4 ?q9k5 ?q9kA ?q9kF ?q9kK ?q9k6 ?q9k7 ?q9k8 ?q9k9 ?q9kB ?_ ?q9c2 ?q9c3 ?q9c4 ?q9c5; (case q9kA => exact rfl); (case q9kF => exact rfl); (case q9kK => assumption); (case q9k1 => k_asm); (case q9k2 => k_asm); (case q9k3 => k_asm); (case q9k4 => k_asm); (case q9k5 => k_asm); (case q9k6 => k_is); (case q9k7 => k_is); (case q9k8 => ktr_room); (case q9k9 => first | exact BindsTo.of_eq rfl | exact binds_K (by k_in) rfl (by k_is) rfl rfl rfl | (refine' kp_binds ?q9kx ?q9ke; (case q9kx => k_in); (case q9ke => exact fun _ => rfl)) | fail "enter: no rule for these arguments"); (case q9c5 => decide); (case q9kB => exact locs rfl); (case q9c2 => exact rfl); (case q9c3 => exact rfl); (case q9c4 => exact rfl); k_whole; intro g' L' h' FG' F' N' B' X' T'; (try dsimp only); (try k_lift B'); (try k_fold)))
  k_with "execs cons" => ((with_reducible refine wpAny_execs_cons ?_); (try dsimp only); k_fold)
  k_with "call builtin:str.lower" => (k_dflt (refine' low_call ?q9k1 ?_; (case q9k1 => first | assumption | exact L7_14 (by assumption)); k_whole; intro _ _))
  k_with "call builtin:str.upper" => (k_dflt (refine' upp_call ?q9k1 ?_; (case q9k1 => assumption); k_whole; intro _ _))
  k_with "call ref" => ((try k_fold); k_dflt (refine' Ct.use (ct_conv_name ?q9hc) ?q9B ?q9F ?q9X ?q9N ?q9T ?q9hk ?q9hd ?q9hu ?_; (case q9hc => assumption); (case q9B => k_asm); (case q9F => k_asm); (case q9X => k_asm); (case q9N => k_asm); (case q9T => k_asm); (case q9hk => exact rfl); (case q9hd => ktr_room); (case q9hu => ktr_units); k_whole; intro _ _ _ _ r9 _ _; obtain ⟨rfl, rfl⟩ := r9))
  k_with "call ref" => ((try k_fold); k_dflt (refine' Ct.use (ct_conv_value ?q9hc) ?q9B ?q9F ?q9X ?q9N ?q9T ?q9hk ?q9hd ?q9hu ?_; (case q9hc => assumption); (case q9B => k_asm); (case q9F => k_asm); (case q9X => k_asm); (case q9N => k_asm); (case q9T => k_asm); (case q9hk => exact rfl); (case q9hd => ktr_room); (case q9hu => ktr_units); k_whole; intro _ _ _ _ r9 _ _; obtain ⟨rfl, rfl⟩ := r9))
  k_with "call ref" => ((try k_fold); k_dflt (refine' Ct.use (ct_bis ?q9hl ?q9hb ?q9hlen) ?q9B ?q9F ?q9X ?q9N ?q9T ?q9hk ?q9hd ?q9hu ?_; (case q9N => k_asm); (case q9hl => assumption); (case q9hb => assumption); (case q9hlen => assumption); (case q9B => k_asm); (case q9F => k_asm); (case q9X => k_asm); (case q9T => k_asm); (case q9hk => exact rfl); (case q9hd => ktr_room); (case q9hu => ktr_units); k_whole; intro _ _ _ _ r9 _ _; obtain ⟨_, rfl, rfl⟩ := r9))
  k_with "call type:list" => ((k_here; (with_reducible show wpAny _ _ (call (Value.type _) [Value.ref _]) _ _ _); (rename IsRange _ _ _ _ _ _ _ _ => rgX); (with_unfolding_all refine' kll_range ?q9k0 ?q9k1 ?q9k2 ?q9k3 ?q9k4 ?q9k5 ?q9k6 ?_; (case q9k0 => rfl); (case q9k1 => k_asm); (case q9k2 => k_asm); (case q9k3 => first | exact rgX | assumption); (case q9k4 => exact small_one (by decide) (by decide) (by decide) (by decide)); (case q9k5 => first | exact rangeSize_nat _ _ | rfl); (case q9k6 => first | kll_lit | kll_len); k_whole); intro _ _ _ _ _ _ _ l1 _; (try k_lt l1); (try k_sweep)); (try (revert l1; intro _)))
  k_with "subscriptTail" => (k_here; (with_reducible show wpAny _ _ (subscriptTail _ _ (Value.str (Str.ofString "abcdefg") _) (Value.int _ _)) _ _ _); (refine' item_tx lit_abc ?q9k1 ?q9k2 ?_; (case q9k1 => assumption); (case q9k2 => assumption); intro _ _))
  k_with "subscriptTail" => (k_here; (with_reducible show wpAny _ _ (subscriptTail _ _ (Value.str (Str.ofString "bcdefgh") _) (Value.int _ _)) _ _ _); (refine' item_tx lit_bcdh ?q9k1 ?q9k2 ?_; (case q9k1 => assumption); (case q9k2 => assumption); intro _ _))
  k_with "call builtin:str.index" => (k_here; k_dflt (refine' index_tx rfl ?q9hc ?_; (case q9hc => assumption); k_whole; intro _ _))
  k_with "call builtin:str.index" => (k_here; (with_reducible show wpAny _ _ (call _ [Value.str (Str.ofString _) _, _]) _ _ _); k_dflt (refine' index_tx lit_abc ?q9hc ?_; (case q9hc => assumption); k_whole; intro _ _))
  k_with "exec For" => (k_here; (rename Fr _ _ _ _ => lF'); (with_unfolding_all refine' For_invVF lF' ?q9k1 ?q9k2 ?_; (case q9k1 => exact rfl); (case q9k2 => exact rfl); k_whole))
  k_with "call ref" => ((try k_fold); k_dflt (refine' Ct.use (ct_insort ?q9hl ?q9hb ?q9hlen ?q9hr ?q9hrest) ?q9B ?q9F ?q9X ?q9N ?q9T ?q9hk ?q9hd ?q9hu ?_; (case q9N => k_asm); (case q9hl => assumption); (case q9hb => assumption); (case q9hlen => assumption); (case q9hr => assumption); (case q9hrest => first | assumption | ((repeat (rename (_ ∧ _) => h9; rcases h9 with ⟨_, _⟩)); (repeat (refine List.forall_mem_cons.mpr ⟨neN (by omega), ?_⟩)); exact ne_allLt (by assumption) (by omega))); (case q9B => k_asm); (case q9F => k_asm); (case q9X => k_asm); (case q9T => k_asm); (case q9hk => exact rfl); (case q9hd => ktr_room); (case q9hu => ktr_units); k_whole; intro _ _ _ _ r9 _ _; obtain ⟨rfl, _, _, _, rfl⟩ := r9))
  k_with "subscriptTail" => (k_here; (with_reducible show wpAny _ _ (subscriptTail _ _ (Value.ref _) (Value.int _ _)) _ _ _); rename News _ _ _ _ => N5; k_dflt (refine' item_last (by exact rfl) (N5 _ (List.Mem.head _)).1 ?q9z1 ?q9z2 ?_ ?q9z6; (case q9z6 => with_unfolding_all rfl); (case q9z1 => assumption); (case q9z2 => assumption); k_whole; intro _))
  k_with "subscriptTail Name UnaryOp ref int" => (k_here; (with_reducible show wpAny _ _ (subscriptTail _ _ (Value.ref _) (Value.int _ _)) _ _ _); rename News _ _ _ _ => N5; k_dflt (refine' item_last (by exact rfl) (N5 _ (List.Mem.head _)).1 ?q9z1 ?q9z2 ?_ ?q9z6; (case q9z6 => with_unfolding_all rfl); (case q9z1 => assumption); (case q9z2 => assumption); k_whole; intro _))
  k_with "binaryOp Add str str" => (k_here; k_dflt (refine' tx_add (by exact rfl) lit_h ?q9z1 ?_; (case q9z1 => (simp only [List.length_append, List.length_cons, List.length_nil, sizeLine_eq]; omega)); k_whole; intro _ _))
  trivial
theorem parts_len {row : List Nat} {k spot mid stop : Nat} (hl : row.length = 7) : (movedParts row k spot mid stop).flatten.length ≤ 100 := by
  have h1 := cut_len row spot stop
  have h2 := cut_len row (mid + 1) spot
  have h3 := cut_len row k (mid + 1)
  have h4 : (row.take k).length ≤ 7 := by rw [List.length_take]; omega
  have h5 : (row.drop stop).length ≤ 7 := by rw [List.length_drop]; omega
  simp only [movedParts, List.flatten_cons, List.flatten_nil, List.length_append, List.length_nil]
  omega
section
variable {w : World} {p : Program} {loose : List Str} {mean : ExcName → Option Value} {mg mb : Str → Option Value} {t t0 tl : Tok} {tx : List Nat} {a : MA} {n np p2 : Nat} {l2 : Int} {row : List Nat} {T rest : List (Addr × Obj)} {k c spot last mid j d stop : Nat} {os : List Nat}
set_option maxHeartbeats 16000000 in
theorem ct_moved (hm : MOk w (hd.heap_39 w.params) p loose mean mg mb tx a) (hend : p2 ≤ tx.length ∧ tx[p2]? = none) (hr : RestOk a rest) (hT : TabS T) (hTr : RestOk a T) (h325 : ∀ q ∈ mLed a p2 t0 n l2 tl [] np rest, q.1 ≠ 325)
    (hl : row.length = 7) (hin : ∀ c ∈ row, c ∈ L7) (hP : MovedP row k c spot os last mid j d stop) :
    CtN w (hd.heap_39 w.params) p loose mean mg mb (.ref 330) [.ref a.x, .str (Tx row) t] [] 84 252 (T ++ mLed a p2 t0 n l2 tl [] np rest)
      (fun v news' => ∃ t c' oc t0' n' tl' np', v = .str (Tx (movedParts row k spot mid stop).flatten) t ∧ LamCode oc ∧ RestOk a [(325, tabFull c'), (c', oc)] ∧ news' = [(325, tabFull c'), (c', oc)] ++ mLed a p2 t0' n' l2 tl' [] np' rest) := by
  intro dp un gd cn cs a' ccd cl outer A₀ base h₀ L m s Q E C1 C2 B F X N Tp hk hdp hun hret
  show (let G9 : Prop := _; G9)
  intro G9
  obtain ⟨kd, nms, g1, g2, g3⟩ := cs
  k_unfold
  dsimp only at hk
  subst hk
  generalize hre : T ++ mLed a p2 t0 n l2 tl [] np rest = rest9 at N
  iterate 60 (first | (with_reducible show wpAny _ _ (eval (.Lambda _ _ _ _) _) _ _ _) | (k_unfold; (try dsimp only)) | (k_end; wrow_close) | walk1)
  obtain ⟨restM, hrM⟩ : ∃ r, mLed a p2 t0 n l2 tl [] np rest = r := ⟨_, rfl⟩
  have h325' := h325
  rw [hrM] at h325
  have hre2 : rest9 = T ++ restM := by rw [← hre, hrM]
  refine kla_eval rfl ?_
  rename News _ _ _ _ => N5
  rename Fr _ _ _ _ => F5
  rename ∀ (p : Addr × Obj), p ∈ rest9 → _ => l9
  rename _ ∧ AllLt _ rest9 => l8
  rw [hre2] at N5
  have hTq : ∃ q ∈ T, q.1 = 325 := by
    rcases hT with rfl | ⟨c, oc, rfl, _⟩
    · exact ⟨_, .head _, rfl⟩
    · exact ⟨_, .head _, rfl⟩
  show (let G9 : Prop := _; G9)
  intro G9
  obtain ⟨q9, hq9, hq5⟩ := hTq
  k_unfold
  have hL9 := l9 q9 (hre2 ▸ List.mem_append_left _ hq9)
  have hD9 := allLt_mem l8.2 q9 (hre2 ▸ List.mem_append_left _ hq9)
  rw [hq5] at hL9 hD9
  refine' lam_any (front := [_, _]) (T := T) (restM := restM) F5 N5 ?hTp ?hC rfl ?hTQ ?hfr h325 rfl rfl rfl ?_
  case hTp => k_asm
  case hC => kn_code
  case hTQ =>
    rcases hT with h | ⟨c, oc, h, sc, L, vs, t, d1, d2⟩
    · exact .inl h
    · exact .inr ⟨c, oc, vs, t, h, d1, d2⟩
  case hfr => exact List.forall_mem_cons.mpr ⟨Nat.ne_of_gt hD9, List.forall_mem_cons.mpr ⟨Nat.ne_of_gt (Nat.lt_succ_of_lt hL9), List.forall_mem_nil _⟩⟩
  intro f1 c1 oc1 vs1 t1 ct1 h9 tk9 F9 N9 d1 d2 lc lf l2'
  clear F5 N5
  dsimp only [List.cons_append, List.nil_append] at N9 lf
  replace lf := allLt_of lf
  simp only [AllLt, and_true] at lf
  have hTf : RestOk a [(325, tabFull c1), (c1, oc1)] := by
    rcases lc with rfl | lc
    · exact hTr
    · rw [← hrM] at lc
      have e1 := lc (a.al, listOf #[Value.int (p2 : Int) t0] n) (.head _)
      have e2 := lc (a.pb, listOf ([] : List Value).toArray np) (.tail _ (.tail _ (.tail _ (.tail _ (.tail _ (.head _))))))
      have e3 := lc (a.d, _) (.tail _ (.tail _ (.tail _ (.tail _ (.tail _ (.tail _ (.head _)))))))
      have f1 := h325' (a.al, listOf #[Value.int (p2 : Int) t0] n) (.head _)
      have f2 := h325' (a.pb, listOf ([] : List Value).toArray np) (.tail _ (.tail _ (.tail _ (.tail _ (.tail _ (.head _))))))
      have f3 := h325' (a.d, _) (.tail _ (.tail _ (.tail _ (.tail _ (.tail _ (.tail _ (.head _)))))))
      exact ⟨List.forall_mem_cons.mpr ⟨f1.symm, List.forall_mem_cons.mpr ⟨Nat.ne_of_gt e1, List.forall_mem_nil _⟩⟩, List.forall_mem_cons.mpr ⟨f2.symm, List.forall_mem_cons.mpr ⟨Nat.ne_of_gt e2, List.forall_mem_nil _⟩⟩, List.forall_mem_cons.mpr ⟨f3.symm, List.forall_mem_cons.mpr ⟨Nat.ne_of_gt e3, List.forall_mem_nil _⟩⟩⟩
  iterate 60 (first | (with_reducible show wpAny _ _ (call (.ref 56) _ _) _ _ _) | (k_unfold; (try dsimp only)) | (k_end; wrow_close) | walk1)
  clear lc hTr h325'
  rename News _ _ _ _ => N5
  (try k_fold)
  k_dflt (refine' CtN.use (ct_bis_key (fk := fun i => decide (row.take (i + 1) ≠ abcL.take (i + 1))) ?hkey ?hI hP.hb) C1 C2 ?B ?F ?X ?N ?T ?hk ?hd ?hu ?_; (case N => k_asm); (case hI => assumption); (case B => k_asm); (case F => k_asm); (case X => k_asm); (case T => k_asm); (case hk => exact rfl); (case hd => ktr_room); (case hu => ktr_units))
  case hkey =>
    intro i t hi dp un gd cn cs a ccd cl outer A₀ base h₀ L m s Q E C1 C2 B F X N T hk hdp hun hret
    show (let G9 : Prop := _; G9)
    intro G9
    obtain ⟨kd, nms, g1, g2, g3⟩ := cs
    k_unfold
    dsimp only at hk
    subst hk
    k_steps
    exact hret _ _ _ _ ⟨by rw [lam_eq], rfl⟩ (by k_asm) (by k_asm)
  intro v9 n9 h9 tk9 r9 F9 N9
  show (let G9 : Prop := _; G9)
  intro G9
  obtain ⟨t9, e1, e2⟩ := r9
  k_unfold
  subst e1 e2
  have hk7 := itemAt_lt hP.hc
  have hk1 : fitsSsize (k : Int) = true := fits_nat (by simp at hk7; omega)
  have hk2 := hP.hc
  have hk3 := hP.hspot
  iterate 80 (first | (with_reducible show wpAny _ _ (pyIter _) _ _ _) | (k_unfold; (try dsimp only)) | (k_end; wrow_close) | walk1)
  have hcl := cut_len row k spot
  have hcm : ∀ c ∈ cut row k spot, c ∈ L7 := fun c hc => hin c (cut_mem hc)
  have hos := hP.hos
  rw [slice_ss _ _ _ (by omega) (by omega)]
  simp only [Int.toNat_natCast]
  refine iter_strUnr (l := (cut row k spot).map fun c => Tx [c]) rfl (by k_asm) (by k_asm) rfl fun I hI => ?_
  refine strRest_led (fun i vs nl => ∃ os', insAll ((cut row k spot).drop i) os' = some os ∧ LtrsIn vs os' ∧ os'.length ≤ i) _ (vs0 := []) ⟨[], hos, .nil, Nat.zero_le _⟩ ?_ ?_
  · intro i c9 vs nl hci r9 u it h tk F N
    show (let G9 : Prop := _; G9)
    intro G9
    obtain ⟨os', hins, hlt, hol⟩ := r9
    k_unfold
    show (let G9 : Prop := _; G9)
    intro G9
    obtain ⟨a9, ha, rfl⟩ := tx_map hci
    k_unfold
    show (let G9 : Prop := _; G9)
    intro G9
    obtain ⟨r9, hb, hr9, hins'⟩ := ins_step ha hins
    k_unfold
    have hil : i < (cut row k spot).length := (List.getElem?_eq_some_iff.mp ha).1
    have hlen : os'.length ≤ 100 := by omega
    have hlI : @LT.lt Nat _ _ I := hI _ (.head _)
    have N2 := news_swap N
    clear N
    k_steps
    rename_i F9 vs9 m9 hl9 N9
    exact UnrEnd.intro F9 (news_swap N9) _ (fun p hp => hp) (off_of hI) ⟨⟨_, _, ⟨_, hins', hl9, by rw [ins_len hr9]; omega⟩, rfl⟩, fun z h1 => by simp [h1]⟩
  · intro v vs nl h tk r9 F N
    show (let G9 : Prop := _; G9)
    intro G9
    obtain ⟨os', hins, hlt, hol⟩ := r9
    k_unfold
    rw [List.length_map, List.drop_length] at hins
    have hoe : os' = os := Option.some.inj hins
    subst hoe
    have hq1 := hP.hlast
    have hq2 := hP.hmid
    have hq3 := hP.hj
    have hq4 := hP.hd
    have hq5 := hP.hstop
    have hj7 := ix_lt hP.hj
    have hq6 : fitsSsize (j : Int) = true := fits_nat (by simp at hj7; omega)
    clear hk3 hk2
    iterate 160 (first | (with_reducible show wpAny _ _ (call (.ref 318) _ _) _ _ _) | (k_unfold; (try dsimp only)) | (k_end; wrow_close) | walk1)
    rename News _ _ _ _ => N5
    rename _ ∧ _ ∧ _ ∧ _ ∧ _ ∧ _ ∧ AllLt _ restM => lP
    have lP' := lP.2.2.2.2.2.2
    have hpo := parts_ok (k := k) (spot := spot) (mid := mid) (stop := stop) hl hin
    have run : TokRun tx p2 l2 [] [] p2 l2 := .done (.inr ⟨by rw [hend.2]; exact fun h => (nomatch h), rfl, rfl⟩) (.ended hend.1 hend.2)
    have hflat : (movedParts row k spot mid stop).flatten.length ≤ 100 := parts_len hl
    have hrP : ∀ (P : Addr) o, AllLt P restM → RestOk a ((P, o) :: (325, tabFull c1) :: (c1, oc1) :: rest) := fun P o lP => by
      have e1 := allLt_mem lP (a.al, listOf #[Value.int (p2 : Int) t0] n) (hrM ▸ .head _)
      have e2 := allLt_mem lP (a.pb, listOf ([] : List Value).toArray np) (by rw [← hrM]; exact .tail _ (.tail _ (.tail _ (.tail _ (.tail _ (.head _))))))
      have e3 := allLt_mem lP (a.d, _) (by rw [← hrM]; exact .tail _ (.tail _ (.tail _ (.tail _ (.tail _ (.tail _ (.head _)))))))
      exact ⟨List.forall_mem_cons.mpr ⟨Nat.ne_of_gt e1, List.forall_mem_cons.mpr ⟨hTf.al _ (.head _), List.forall_mem_cons.mpr ⟨hTf.al _ (.tail _ (.head _)), hr.al⟩⟩⟩,
        List.forall_mem_cons.mpr ⟨Nat.ne_of_gt e2, List.forall_mem_cons.mpr ⟨hTf.pb _ (.head _), List.forall_mem_cons.mpr ⟨hTf.pb _ (.tail _ (.head _)), hr.pb⟩⟩⟩,
        List.forall_mem_cons.mpr ⟨Nat.ne_of_gt e3, List.forall_mem_cons.mpr ⟨hTf.d _ (.head _), List.forall_mem_cons.mpr ⟨hTf.d _ (.tail _ (.head _)), hr.d⟩⟩⟩⟩
    (try k_fold)
    k_dflt (refine' CtN.use (ct_led hm (hrP _ _ lP') pieces5 hflat run ⟨Nat.zero_le _, Nat.zero_le _⟩) C1 C2 ?B ?F ?X (cb_drop N5 (sub_led (ml := mL a p2 t0 n l2 tl [] np) hrM.symm ?s1 (x := (325, tabFull c1)) (y := (c1, oc1)) ?s2 ?s3 ?s4)) ?T ?hk ?hd ?hu ?_)
    case s1 => exact .head _
    case s2 => exact .tail _ (.tail _ (.tail _ (.tail _ (.tail _ (.tail _ (.head _))))))
    case s3 => exact .tail _ (.tail _ (.tail _ (.head _)))
    case s4 => exact fun p hp => .tail _ (.tail _ (.tail _ (.tail _ (.tail _ (.tail _ (.tail _ hp))))))
    case B => k_asm
    case F => k_asm
    case X => k_asm
    case T => k_asm
    case hk => exact rfl
    case hd => ktr_room
    case hu => ktr_units
    intro v9 n9 h9 tk9 r9 F9 N9
    show (let G9 : Prop := _; G9)
    intro G9
    obtain ⟨t9, t8, n8, tl8, np8, e1, e2⟩ := r9
    k_unfold
    subst e1 e2
    clear N5
    k_steps
    rename News _ _ _ _ => N6
    exact hret _ _ _ _ ⟨t9, c1, oc1, t8, n8, tl8, np8, by rw [List.flatten_nil, List.append_nil], ⟨_, _, _, _, d1, d2⟩, hTf, rfl⟩ (by k_asm) (cb_drop N6 (sub_led2 (ml := mL a p2 t8 n8 l2 tl8 [] np8)))
end
end
section
theorem fill10 : PySem.Challenge.rw_kl0089_01 = PySem.Challenge.rw_kl0089_01 ∧ hd.heap_39 = hd.heap_39 := by k_fill; exact ⟨rfl, rfl⟩
/-- the machine at its text's end, ahead of it the table of _law_moved -/
noncomputable def MS (a : MA) (p2 : Nat) (l2 : Int) (rest X : List (Addr × Obj)) : Prop := ∃ T t0 n tl np, X = T ++ mLed a p2 t0 n l2 tl [] np rest ∧ TabS T ∧ RestOk a T
theorem mled_ne {a : MA} {pos pos' n n' np np' : Nat} {t0 t0' tl tl' : Tok} {ln ln' : Int} {pv pv' : List Value} {rest : List (Addr × Obj)} {X : Addr} (h : ∀ p ∈ mLed a pos t0 n ln tl pv np rest, p.1 ≠ X) : ∀ p ∈ mLed a pos' t0' n' ln' tl' pv' np' rest, p.1 ≠ X := by
  intro q hq
  have hmap : (mLed a pos' t0' n' ln' tl' pv' np' rest).map Prod.fst = (mLed a pos t0 n ln tl pv np rest).map Prod.fst := rfl
  have hm : q.1 ∈ (mLed a pos' t0' n' ln' tl' pv' np' rest).map Prod.fst := List.mem_map_of_mem hq
  rw [hmap] at hm
  show (let G9 : Prop := _; G9)
  intro G9
  obtain ⟨q', hq', e⟩ := List.mem_map.mp hm
  k_unfold
  rw [← e]
  exact h q' hq'
/-- the machine's place in what else stands -/
structure MEnd (w : World) (K : Frag) (p : Program) (loose : List Str) (mean : ExcName → Option Value) (mg mb : Str → Option Value) (tx : List Nat) (a : MA) (p2 : Nat) (rest : List (Addr × Obj)) : Prop where
  ok : MOk w K p loose mean mg mb tx a
  fin : p2 ≤ tx.length ∧ tx[p2]? = none
  off : RestOk a rest
  tab : ∀ q ∈ mLed a 0 0 0 0 0 [] 0 rest, q.1 ≠ 325
noncomputable def movesM : Nat → List Nat → Option Nat
  | 0, _ => none
  | n + 1, row => if row = abcL then some 0 else
    if row.length = 7 ∧ (∀ c ∈ row, c ∈ L7) then (movedM row).bind fun r => (movesM n r).map (· + 1) else none
theorem moves_step {n r : Nat} {row : List Nat} (h : movesM n row = some r) : ∃ k, n = k + 1 ∧ ((row = abcL ∧ r = 0) ∨ (row ≠ abcL ∧ row.length = 7 ∧ (∀ c ∈ row, c ∈ L7) ∧ ∃ res r', movedM row = some res ∧ movesM k res = some r' ∧ r = r' + 1)) := by
  cases n with
  | zero => cases h
  | succ k =>
    refine ⟨k, rfl, ?_⟩
    unfold movesM at h
    split at h
    · rename_i h1; cases h; exact .inl ⟨h1, rfl⟩
    · rename_i h1
      split at h
      · rename_i h2
        rw [Option.bind_eq_some_iff] at h
        show (let G9 : Prop := _; G9)
        intro G9
        obtain ⟨res, h3, h4⟩ := h
        k_unfold
        rw [Option.map_eq_some_iff] at h4
        show (let G9 : Prop := _; G9)
        intro G9
        obtain ⟨r', h5, h6⟩ := h4
        k_unfold
        exact .inr ⟨h1, h2.1, h2.2, res, r', h3, h5, h6.symm⟩
      · cases h
section
variable {w : World} {p : Program} {loose : List Str} {mean : ExcName → Option Value} {mg mb : Str → Option Value} {t : Tok} {tx : List Nat} {a : MA} {p2 : Nat} {l2 : Int} {row res : List Nat} {X rest : List (Addr × Obj)} {xx : Addr}
theorem ct_moved_ms (hM : MEnd w (hd.heap_39 w.params) p loose mean mg mb tx a p2 rest) (hx : a.x = xx) (hX : MS a p2 l2 rest X) (hl : row.length = 7) (hin : ∀ c ∈ row, c ∈ L7) (hmv : movedM row = some res) :
    CtN w (hd.heap_39 w.params) p loose mean mg mb (.ref 330) [.ref xx, .str (Tx row) t] [] 84 252 X (fun v X' => ∃ t, v = .str (Tx res) t ∧ MS a p2 l2 rest X') := by
  subst hx
  show (let G9 : Prop := _; G9)
  intro G9
  obtain ⟨T, t0, n, tl, np, rfl, hT, hTr⟩ := hX
  k_unfold
  show (let G9 : Prop := _; G9)
  intro G9
  obtain ⟨k, c, spot, os, last, mid, j, d, stop, hP, rfl⟩ := movedM_parts hmv
  k_unfold
  intro dp un gd cn cs a' ccd cl outer A₀ base h₀ L m s Q E C1 C2 B F X N Tp hk hdp hun hret
  refine ct_moved hM.ok hM.fin hM.off hT hTr (mled_ne hM.tab) hl hin hP dp un gd cn cs a' ccd cl outer A₀ base h₀ L m s Q E C1 C2 B F X N Tp hk hdp hun ?_
  intro v news' h' tk' r9 F' N'
  show (let G9 : Prop := _; G9)
  intro G9
  obtain ⟨t, c', oc, t0', n', tl', np', rfl, hlc, hro, rfl⟩ := r9
  k_unfold
  exact hret _ _ h' tk' ⟨t, rfl, _, t0', n', tl', np', rfl, .inr ⟨c', oc, rfl, hlc⟩, hro⟩ F' N'
end
theorem ne_txl {prog : Program} {w : World} {A : Around} {E : Value → Shared → Prop} {s : Shared} {Q : Value → Shared → Prop} {x y : Str} {l l' : List Nat} {t u : Tok} {b : Bool} (hx : x = Tx l) (hy : y = Tx l') (hb : decide (l ≠ l') = b) (h : Q (.bool b) s) :
    wpAny (model prog w) A (compareOp .NotEq (.str x t) (.str y u)) Q E s := by
  subst hx hy hb
  refine PyProof.Rows.ne_str ?_
  rw [ne_tx]; exact h
theorem lit_abcL : Str.ofString "abcdefg" = Tx abcL := lit_abc
end
section
theorem kw_C19 : True := by
  k_with_none
  k_with "sub" => ((repeat (refine List.forall_mem_cons.mpr ⟨by k_mem, ?_⟩)); (first | exact List.forall_mem_nil _ | (intro p hp; repeat (first | exact hp | apply List.Mem.tail))))
  k_with "enter" => (refine wpAny_call ?_; walk_at "enterC")
  k_with "enterC" => (k_dflt (refine' code_def ?q9k1 ?q9k2 ?q9k3 ?q9k4 ?q9k5 ?q9kA ?q9kF ?q9kK ?q9k6 ?q9k7 ?q9k8 ?q9k9 ?q9kB ?_ ?q9c2 ?q9c3 ?q9c4 ?q9c5; (case q9kA => exact rfl); (case q9kF => exact rfl); (case q9kK => assumption); (case q9k1 => k_asm); (case q9k2 => k_asm); (case q9k3 => k_asm); (case q9k4 => k_asm); (case q9k5 => k_asm); (case q9k6 => k_is); (case q9k7 => k_is); (case q9k8 => ktr_room); (case q9k9 => first | exact BindsTo.of_eq rfl | exact binds_K (by k_in) rfl (by k_is) rfl rfl rfl | (refine' kp_binds ?q9kx ?q9ke; (case q9kx => k_in); (case q9ke => exact fun _ => rfl)) | fail "enter: no rule for these arguments"); (case q9c5 => decide); (case q9kB => exact locs rfl); (case q9c2 => exact rfl); (case q9c3 => exact rfl); (case q9c4 => exact rfl); k_whole; intro g' L' h' FG' F' N' B' X' T'; (try dsimp only); (try k_lift B'); (try k_fold)))
  k_with "execs cons" => ((with_reducible refine wpAny_execs_cons ?_); (try dsimp only); k_fold)
  k_with "call builtin:str.lower" => (k_dflt (refine' low_call ?q9k1 ?_; (case q9k1 => first | assumption | exact L7_14 (by assumption)); k_whole; intro _ _))
  k_with "call builtin:str.upper" => (k_dflt (refine' upp_call ?q9k1 ?_; (case q9k1 => assumption); k_whole; intro _ _))
  k_with "call ref" => ((try k_fold); k_dflt (refine' Ct.use (ct_conv_name ?q9hc) ?q9B ?q9F ?q9X ?q9N ?q9T ?q9hk ?q9hd ?q9hu ?_; (case q9hc => assumption); (case q9B => k_asm); (case q9F => k_asm); (case q9X => k_asm); (case q9N => k_asm); (case q9T => k_asm); (case q9hk => exact rfl); (case q9hd => ktr_room); (case q9hu => ktr_units); k_whole; intro _ _ _ _ r9 _ _; obtain ⟨rfl, rfl⟩ := r9))
  k_with "call ref" => ((try k_fold); k_dflt (refine' Ct.use (ct_conv_value ?q9hc) ?q9B ?q9F ?q9X ?q9N ?q9T ?q9hk ?q9hd ?q9hu ?_; (case q9hc => assumption); (case q9B => k_asm); (case q9F => k_asm); (case q9X => k_asm); (case q9N => k_asm); (case q9T => k_asm); (case q9hk => exact rfl); (case q9hd => ktr_room); (case q9hu => ktr_units); k_whole; intro _ _ _ _ r9 _ _; obtain ⟨rfl, rfl⟩ := r9))
  k_with "compareOp NotEq str str" => (k_here; k_dflt (refine' ne_txl rfl lit_abcL ?q9hb ?_; (case q9hb => assumption); k_whole))
  k_with "call ref" => (rename MEnd _ _ _ _ _ _ _ _ _ _ _ => m5; rename MS _ _ _ _ _ => x5; rename movedM _ = _ => v5; rename List.length _ = 7 => l5; rename ∀ c ∈ _, c ∈ L7 => i5; (try k_fold); k_dflt (refine' CtN.use (ct_moved_ms m5 rfl x5 l5 i5 v5) ?q9C1 ?q9C2 ?q9B ?q9F ?q9X ?q9N ?q9T ?q9hk ?q9hd ?q9hu ?_; (case q9N => k_asm); (case q9C1 => assumption); (case q9C2 => assumption); (case q9B => k_asm); (case q9F => k_asm); (case q9X => k_asm); (case q9T => k_asm); (case q9hk => exact rfl); (case q9hd => ktr_room); (case q9hu => ktr_units); k_whole; intro _ _ _ _ r9 _ _; obtain ⟨_, rfl, _⟩ := r9))
  trivial
section
variable {w : World} {p : Program} {loose : List Str} {mean : ExcName → Option Value} {mg mb : Str → Option Value} {t : Tok} {tx : List Nat} {a : MA} {p2 r : Nat} {l2 : Int} {row : List Nat} {X rest : List (Addr × Obj)}
set_option maxHeartbeats 16000000 in
theorem ct_moves (hM : MEnd w (hd.heap_39 w.params) p loose mean mg mb tx a p2 rest) (hX : MS a p2 l2 rest X) (hmv : movesM 8 row = some r) (hr6 : r ≤ 6) :
    CtN w (hd.heap_39 w.params) p loose mean mg mb (.ref 337) [.ref a.x, .str (Tx row) t] [] 96 288 X (fun v X' => ∃ t, v = .int r t ∧ MS a p2 l2 rest X') := by
  intro dp un gd cn cs a' ccd cl outer A₀ base h₀ L m s Q E C1 C2 B F X9 N Tp hk hdp hun hret
  show (let G9 : Prop := _; G9)
  intro G9
  obtain ⟨kd, nms, g1, g2, g3⟩ := cs
  k_unfold
  dsimp only at hk
  subst hk
  iterate 60 (first | (with_reducible show wpAny _ _ (exec (Stmt.While _ _ _ _) _) _ _ _) | (k_unfold; (try dsimp only)) | (k_end; wrow_close) | walk1)
  rename Fr _ _ _ _ => F5
  rename News _ _ _ _ => N5
  refine while_3 (Str.ofString "row") (Str.ofString "moves") (Str.ofString "moves") (fun n v₁ v₂ news => ∃ row k r' t1 t2, v₁ = .str (Tx row) t1 ∧ v₂ = .int (k : Nat) t2 ∧ movesM n row = some r' ∧ k + r' = r ∧ MS a p2 l2 rest news) F5 N5 rfl rfl ⟨row, 0, r, _, _, rfl, rfl, hmv, Nat.zero_add _, hX⟩ ?_
  clear N5 F5 hmv F N hX
  intro n v₁ v₂ v₃ news h tk F N r9
  show (let G9 : Prop := _; G9)
  intro G9
  obtain ⟨row, k, r', t1, t2, rfl, rfl, hmv, hkr, hX⟩ := r9
  k_unfold
  show (let G9 : Prop := _; G9)
  intro G9
  obtain ⟨n, rfl, hcase⟩ := moves_step hmv
  k_unfold
  rcases hcase with ⟨he, rfl⟩ | ⟨hne, hl, hin, res, r2, hres, hmv2, rfl⟩
  · have hb : decide (row ≠ abcL) = false := by simp [he]
    have hk : k = r := by omega
    subst hk
    k_steps
    exact hret _ _ _ _ ⟨_, rfl, hX⟩ (by k_asm) (by k_asm)
  · have hb : decide (row ≠ abcL) = true := by simp [hne]
    have hk7 : k < 7 := by omega
    k_steps
    rename Fr _ _ _ _ => FF
    rename News _ _ _ _ => NN
    rename MS _ _ _ _ _ => ms9
    exact ⟨_, _, _, _, n, _, _, rfl, FF, NN, Nat.lt_succ_self _, ⟨res, k + 1, r2, _, _, rfl, rfl, hmv2, by omega, ms9⟩, rfl, rfl, fun u z1 z2 z3 => by simp [z1, z2]⟩
end
end
section
theorem fill11 : PySem.Challenge.rw_kl0089_01 = PySem.Challenge.rw_kl0089_01 ∧ hd.heap_39 = hd.heap_39 := by k_fill; exact ⟨rfl, rfl⟩
/-- CtN where the base has a property -/
noncomputable abbrev CtP (P : Heap → Prop) (w : World) (K : Frag) (p : Program) (loose : List Str) (mean : ExcName → Option Value) (mg mb : Str → Option Value) (fv : Value) (vs : List Value) (kw : List (Str × Value)) (d u : Nat) (news : List (Addr × Obj)) (R : Value → List (Addr × Obj) → Prop) : Prop :=
  ∀ (dp un : Nat) (gd : Option (List Code)) (cn : Str) (cs : Scope) (a : Addr) (ccd : Value) (cl : List (Str × Addr)) (outer : List Env) (A₀ : Around) (base h₀ : Heap) (L : Addr) (m : Str → Option Value) (s : Shared) (Q E : Value → Shared → Prop),
    P h₀ → Below A₀ base outer h₀ → Fr h₀ L s.heap m → K.In h₀ → News h₀ L s.heap news → Top p loose mean mg mb h₀ → cs.kind = .function → dp + d < recursionLimit → un + u < cLine →
    (∀ v news' h' tk', R v news' → Fr h₀ L h' m → News h₀ L h' news' → Q v { s with heap := h', toks := tk' }) →
    wpAny (model PG w) (ktrTop dp un gd cn cs L a ccd cl outer) (call fv vs kw) Q E s
theorem CtP.use {P : Heap → Prop} {w : World} {K : Frag} {p : Program} {loose : List Str} {mean : ExcName → Option Value} {mg mb : Str → Option Value} {fv : Value} {vs : List Value} {kw : List (Str × Value)} {d u : Nat} {news : List (Addr × Obj)} {R : Value → List (Addr × Obj) → Prop}
    (C : CtP P w K p loose mean mg mb fv vs kw d u news R) {dp un : Nat} {gd : Option (List Code)} {cn : Str} {cs : Scope} {a : Addr} {ccd : Value} {cl : List (Str × Addr)} {outer : List Env} {A₀ : Around} {base h₀ : Heap} {L : Addr} {m : Str → Option Value} {s : Shared} {Q E : Value → Shared → Prop}
    (hP : P h₀) (B : Below A₀ base outer h₀) (F : Fr h₀ L s.heap m) (X : K.In h₀) (N : News h₀ L s.heap news) (T : Top p loose mean mg mb h₀) (hk : cs.kind = .function) (hd : dp + d < recursionLimit) (hu : un + u < cLine)
    (h : ∀ v news' h' tk', R v news' → Fr h₀ L h' m → News h₀ L h' news' → Q v { s with heap := h', toks := tk' }) :
    wpAny (model PG w) (ktrTop dp un gd cn cs L a ccd cl outer) (call fv vs kw) Q E s := C _ _ _ _ _ _ _ _ _ _ _ _ _ _ _ _ _ hP B F X N T hk hd hu h
theorem list_keep {h₀ h : Heap} {L sl : Addr} {m : Str → Option Value} {items : Array Value} (F : Fr h₀ L h m) (x : h₀.IsList sl items) : h.IsList sl items := let ⟨o, ho, r⟩ := x; ⟨o, F.keep _ _ ho, r⟩
theorem unrPostW_mono {h₀ : Heap} {L : Addr} {its : List (Addr × Obj)} {s₁ : Shared} {rest rest' : (Str → Option Value) → List (Addr × Obj) → Prop} {Q : Flow → Shared → Prop} {f : Flow} {s₂ : Shared}
    (h : UnrPostW h₀ L s₁ its rest Q f s₂) (hr : ∀ m n, rest m n → rest' m n) : UnrPostW h₀ L s₁ its rest' Q f s₂ := by
  cases f with
  | ret v => exact h
  | brk => exact h
  | next => obtain ⟨h', tk, m', news', e, F, N, o, r⟩ := h; exact ⟨h', tk, m', news', e, F, N, o, hr _ _ r⟩
  | cont => obtain ⟨h', tk, m', news', e, F, N, o, r⟩ := h; exact ⟨h', tk, m', news', e, F, N, o, hr _ _ r⟩
section
variable {prog : Program} {w : World} {A : Around} {E : Value → Shared → Prop} {s : Shared} {env : Env} {h₀ : Heap} {target : Expr} {body : List Stmt} {Q : Flow → Shared → Prop} {I : Addr} {m₀ : Str → Option Value} {news₀ : List (Addr × Obj)} {lp : Addr × Obj}
theorem itemsRest_enum (x y : Str) (J : Nat → List (Addr × Obj) → Prop) (vs : List Value) (hJ : J 0 news₀) (hkeep : ∀ i news, J i news → lp ∈ news)
    (turn : ∀ i v news vx vy T t h tk oe oi, vs[i]? = some v → J i news → IsTup h T #[.int ((i : Nat) : Int) t, v] → Fr h₀ env.locals h (fun z => if z = x then vx else if z = y then vy else m₀ z) → oe.cls = .type "enumerate" → oi.cls = .type "list_iterator" →
      News h₀ env.locals h ((I + 1, oe) :: (I, oi) :: news) →
      wpAny (model prog w) A (assign target env (.ref T)) (fun _ s₂ => wpAny (model prog w) A (execs body env) (UnrPostW h₀ env.locals { s with heap := h, toks := tk } [(I + 1, oe), (I, oi)] (fun m' n' => J (i + 1) n' ∧ ∀ z, z ≠ x → z ≠ y → m' z = m₀ z) Q) E s₂) E { s with heap := h, toks := tk })
    (done : ∀ v v' news h tk, J vs.length news → Fr h₀ env.locals h (fun z => if z = x then v else if z = y then v' else m₀ z) → News h₀ env.locals h news → Q .next { s with heap := h, toks := tk }) :
    ItemsRest prog w A E h₀ env target body Q s [(I + 1, "enumerate"), (I, "list_iterator")] [lp] (enumItems 0 vs) m₀ news₀ := by
  have eqm : ∀ m : Str → Option Value, (∀ z, z ≠ x → z ≠ y → m z = m₀ z) → m = fun z => if z = x then m x else if z = y then m y else m₀ z := by
    intro m hm
    funext z
    by_cases h1 : z = x
    · simp only [if_pos h1]; rw [h1]
    · by_cases h2 : z = y
      · simp only [if_neg h1, if_pos h2]; rw [h2]
      · simp only [if_neg h1, if_neg h2, hm z h1 h2]
  have key : ∀ (r : List Value) (i : Nat) (m : Str → Option Value) (news : List (Addr × Obj)), i + r.length = vs.length → (∀ j c, r[j]? = some c → vs[i + j]? = some c) → J i news → (∀ z, z ≠ x → z ≠ y → m z = m₀ z) → ItemsRest prog w A E h₀ env target body Q s [(I + 1, "enumerate"), (I, "list_iterator")] [lp] (enumItems i r) m news := by
    intro r
    induction r with
    | nil =>
      intro i m news hk _ hJ hm h tk F N
      have : i = vs.length := by simpa using hk
      subst this
      rw [eqm m hm] at F
      exact done _ _ news h tk hJ F N
    | cons v r ih =>
      intro i m news hk hg hJ hm
      refine ItemsRest.pair fun T t h tk hT F => ?_
      refine AllObj.cons fun oe he => AllObj.cons fun oi hoi => AllObj.nil fun N => ?_
      rw [eqm m hm] at F
      refine wpAny_mono (turn i v news _ _ T t h tk oe oi (hg 0 v rfl) hJ hT F he hoi N) (fun _ s₂ h₂ => wpAny_mono h₂ (fun f s' hf => unrPostW_mono hf fun m' n' hJ' => ⟨⟨hkeep _ _ hJ'.1, trivial⟩, ih (i + 1) m' n' ?_ ?_ hJ'.1 hJ'.2⟩) fun _ _ e => e) fun _ _ e => e
      · simp at hk; omega
      · intro j c' hj
        have := hg (j + 1) c' (by simpa using hj)
        rw [show i + 1 + j = i + (j + 1) by omega]
        exact this
  exact key vs 0 m₀ news₀ (Nat.zero_add _) (fun j c h => by rw [Nat.zero_add]; exact h) hJ fun _ _ _ => rfl
end
theorem IntsAre.get' {vs : List Value} {ns : List Int} (h : IntsAre vs ns) {i : Nat} {v : Value} (e : vs[i]? = some v) : ∃ n t, v = .int n t := by
  induction h generalizing i with
  | nil => simp at e
  | cons m t _ ih =>
    cases i with
    | zero => cases e; exact ⟨m, t, rfl⟩
    | succ i => exact ih (by simpa using e)
theorem IntsAre.set' {vs : List Value} {ns : List Int} (h : IntsAre vs ns) (i : Nat) (n : Int) (t : Tok) : IntsAre (vs.set i (.int n t)) (ns.set i n) := by
  induction h generalizing i with
  | nil => exact .nil
  | cons m t _ ih =>
    cases i with
    | zero => exact .cons _ _ (by assumption)
    | succ i => exact .cons _ _ (ih i)
theorem setL_of : ∀ {l : List Value} {j : Nat} {v : Value}, j < l.length → ki_setL l j v = some (l.set j v)
  | [], _, _, h => absurd h (Nat.not_lt_zero _)
  | _ :: _, 0, _, _ => rfl
  | x :: r, j + 1, v, h => by
    unfold ki_setL
    rw [setL_of (Nat.lt_of_succ_lt_succ h)]
    rfl
theorem fmod_rng (i : Int) {d : Int} (hd : 0 < d) : 0 ≤ Int.fmod i d ∧ Int.fmod i d < d := ⟨Int.fmod_nonneg_of_pos _ hd, Int.fmod_lt_of_pos _ hd⟩
section
variable {prog : Program} {w : World} {A : Around} {E : Value → Shared → Prop} {s : Shared} {h₀ : Heap} {L D : Addr} {m : Str → Option Value} {news news' : List (Addr × Obj)} {vs : List Value} {cs : List Int} {n : Nat} {k : Int} {t : Tok}
theorem item_ints {value slice : Expr} {Q : Value → Shared → Prop} (N : News h₀ L s.heap news) (hm : (D, listOf vs.toArray n) ∈ news) (hI : IntsAre vs cs) (hk : 0 ≤ k ∧ k < (cs.length : Int)) (hlen : cs.length ≤ 1000)
    (h : ∀ x, cs[k.toNat]? = some x → ∀ u, Q (.int x u) s)
    (hs : subscripted slice false (.ref D) (.int k t) = operate [.ref D, .int k t] (getItem (.ref D) (.int k t)) := by with_unfolding_all rfl) (hgo : ∀ r, letTemporaryGo value (.ref D) r = pure () := by intro _; with_unfolding_all rfl) :
    wpAny (model prog w) A (subscriptTail value slice (.ref D) (.int k t)) Q E s := by
  have hl := ints_len hI
  have hlt : k.toNat < cs.length := by omega
  obtain ⟨u, hv⟩ := ints_get hI (List.getElem?_eq_getElem hlt)
  exact item_listL (l := vs) ⟨_, (N _ hm).1, rfl, n, rfl⟩ hk.1 (by omega) hv (h _ (List.getElem?_eq_getElem hlt) u) hs hgo
theorem set_ints {x : Int} {u : Tok} {Q : Unit → Shared → Prop} (F : Fr h₀ L s.heap m) (N : News h₀ L s.heap news) (U : Upd D (listOf vs.toArray n) (listOf (vs.set k.toNat (.int x u)).toArray n) news news') (hI : IntsAre vs cs) (hk : 0 ≤ k ∧ k < (cs.length : Int)) (hlen : cs.length ≤ 1000)
    (h : ∀ h', Fr h₀ L h' m → News h₀ L h' news' → Q () { s with heap := h' }) : wpAny (model prog w) A (setItem (.ref D) (.int k t) (.int x u)) Q E s := by
  have hl := ints_len hI
  exact ki_set F N hk.1 (by omega) (setL_of (l := vs) (j := k.toNat) (v := .int x u) (by omega)) U h
end
end
section
theorem kw_C20 : True := by
  k_with_none
  k_with "sub" => ((repeat (refine List.forall_mem_cons.mpr ⟨by k_mem, ?_⟩)); (first | exact List.forall_mem_nil _ | (intro p hp; repeat (first | exact hp | apply List.Mem.tail))))
  k_with "enter" => (refine wpAny_call ?_; walk_at "enterC")
  k_with "enterC" => (k_dflt (refine' code_def ?q9k1 ?q9k2 ?q9k3 ?q9k4 ?q9k5 ?q9kA ?q9kF ?q9kK ?q9k6 ?q9k7 ?q9k8 ?q9k9 ?q9kB ?_ ?q9c2 ?q9c3 ?q9c4 ?q9c5; (case q9kA => exact rfl); (case q9kF => exact rfl); (case q9kK => assumption); (case q9k1 => k_asm); (case q9k2 => k_asm); (case q9k3 => k_asm); (case q9k4 => k_asm); (case q9k5 => k_asm); (case q9k6 => k_is); (case q9k7 => k_is); (case q9k8 => ktr_room); (case q9k9 => first | exact BindsTo.of_eq rfl | exact binds_K (by k_in) rfl (by k_is) rfl rfl rfl | (refine' kp_binds ?q9kx ?q9ke; (case q9kx => k_in); (case q9ke => exact fun _ => rfl)) | fail "enter: no rule for these arguments"); (case q9c5 => decide); (case q9kB => exact locs rfl); (case q9c2 => exact rfl); (case q9c3 => exact rfl); (case q9c4 => exact rfl); k_whole; intro g' L' h' FG' F' N' B' X' T'; (try dsimp only); (try k_lift B'); (try k_fold)))
  k_with "execs cons" => ((with_reducible refine wpAny_execs_cons ?_); (try dsimp only); k_fold)
  k_with "call builtin:str.lower" => (k_dflt (refine' low_call ?q9k1 ?_; (case q9k1 => first | assumption | exact L7_14 (by assumption)); k_whole; intro _ _))
  k_with "call builtin:str.upper" => (k_dflt (refine' upp_call ?q9k1 ?_; (case q9k1 => assumption); k_whole; intro _ _))
  k_with "call ref" => ((try k_fold); k_dflt (refine' Ct.use (ct_conv_name ?q9hc) ?q9B ?q9F ?q9X ?q9N ?q9T ?q9hk ?q9hd ?q9hu ?_; (case q9hc => assumption); (case q9B => k_asm); (case q9F => k_asm); (case q9X => k_asm); (case q9N => k_asm); (case q9T => k_asm); (case q9hk => exact rfl); (case q9hd => ktr_room); (case q9hu => ktr_units); k_whole; intro _ _ _ _ r9 _ _; obtain ⟨rfl, rfl⟩ := r9))
  k_with "call ref" => ((try k_fold); k_dflt (refine' Ct.use (ct_conv_value ?q9hc) ?q9B ?q9F ?q9X ?q9N ?q9T ?q9hk ?q9hd ?q9hu ?_; (case q9hc => assumption); (case q9B => k_asm); (case q9F => k_asm); (case q9X => k_asm); (case q9N => k_asm); (case q9T => k_asm); (case q9hk => exact rfl); (case q9hd => ktr_room); (case q9hu => ktr_units); k_whole; intro _ _ _ _ r9 _ _; obtain ⟨rfl, rfl⟩ := r9))
  k_with "subscriptTail" => (k_here; (with_reducible show wpAny _ _ (subscriptTail _ _ (Value.ref _) (Value.int (Int.fmod _ _) _)) _ _ _); k_dflt (refine' item_ints ?q9N ?q9m ?q9I ?q9k ?q9l ?_; (case q9N => k_asm); (case q9m => k_mem); (case q9I => assumption); (case q9k => first | (rename List.length _ = 10 => l5; rw [l5]; exact fmod_rng _ (by decide))); (case q9l => omega); k_whole; intro _ _ _))
  k_with "subscriptTail Name BinOp ref int" => (k_here; (with_reducible show wpAny _ _ (subscriptTail _ _ (Value.ref _) (Value.int (Int.fmod _ _) _)) _ _ _); k_dflt (refine' item_ints ?q9N ?q9m ?q9I ?q9k ?q9l ?_; (case q9N => k_asm); (case q9m => k_mem); (case q9I => assumption); (case q9k => first | (rename List.length _ = 10 => l5; rw [l5]; exact fmod_rng _ (by decide))); (case q9l => omega); k_whole; intro _ _ _))
  k_with "setItem ref int" => ((k_here; k_dflt (refine' set_ints ?q9F ?q9N ?q9U ?q9I ?q9k ?q9l ?_; (case q9F => k_asm); (case q9N => k_asm); (case q9U => k_upd); (case q9I => assumption); (case q9k => first | (rename List.length _ = 10 => l5; rw [l5]; exact fmod_rng _ (by decide))); (case q9l => omega)); intro _ _ N'; (try dsimp only [List.nil_append, List.cons_append] at N')); (try (revert N'; intro _)))
  trivial
section
variable {w : World} {p : Program} {loose : List Str} {mean : ExcName → Option Value} {mg mb : Str → Option Value} {sl : Addr} {vs : List Value} {ns : List Int} {rest : List (Addr × Obj)}
set_option maxHeartbeats 16000000 in
theorem ct_cells (hI : IntsAre vs ns) (hlen : ns.length ≤ 63) :
    CtP (fun h₀ => h₀.IsList sl vs.toArray) w (hd.heap_39 w.params) p loose mean mg mb (.ref 292) [.ref sl] [] 60 180 rest
      (fun v news' => ∃ cl cvs nc cs, v = .ref cl ∧ IntsAre cvs cs ∧ cs.length = 10 ∧ (∀ q ∈ rest, q.1 < cl) ∧ news' = (cl, listOf cvs.toArray nc) :: rest) := by
  intro dp un gd cn cs a' ccd cl outer A₀ base h₀ L m s Q E hP B F X N Tp hk hdp hun hret
  show (let G9 : Prop := _; G9)
  intro G9
  obtain ⟨kd, nms, g1, g2, g3⟩ := cs
  k_unfold
  dsimp only at hk
  subst hk
  iterate 60 (first | (with_reducible show wpAny _ _ (exec (Stmt.For _ _ _ _ _) _) _ _ _) | (k_unfold; (try dsimp only)) | (k_end; wrow_close) | walk1)
  rename Fr _ _ _ _ => F5
  rename Fr h₀ L _ m => FG
  have hP2 := list_keep FG hP
  refine For_turns F5 ?_
  iterate 60 (first | (with_reducible show wpAny _ _ (call (.type "enumerate") _) _ _ _) | (k_unfold; (try dsimp only)) | (k_end; wrow_close) | walk1)
  rename_i cl0 _ l1 _ D ws h9 F9 N9 hW _ _ l2
  have hcl0 : @LT.lt Nat _ cl0 D := l2.1
  refine ktu_enum (l := D) (lo := listOf ws.toArray 0) (vs := ws) rfl F9 N9 (.head _) rfl rfl rfl fun I hI => ?_
  have hID : @LT.lt Nat _ D I := hI _ (.head _)
  clear F9 N9
  refine itemsRest_enum (Str.ofString "k") (Str.ofString "x") (fun i news => ∃ cvs nc cs, news = (D, listOf ws.toArray 0) :: (cl0, listOf cvs.toArray nc) :: rest ∧ IntsAre cvs cs ∧ cs.length = 10) ws ⟨_, _, _, rfl, .cons _ _ (.cons _ _ (.cons _ _ (.cons _ _ (.cons _ _ (.cons _ _ (.cons _ _ (.cons _ _ (.cons _ _ (.cons _ _ .nil))))))))), rfl⟩ (fun i news ⟨_, _, _, e, _⟩ => e ▸ .head _) ?_ ?_
  · intro i v news vx vy T t h tk oe oi hv r9 hT F he hoi N
    show (let G9 : Prop := _; G9)
    intro G9
    obtain ⟨cvs, nc, cs, rfl, hcs, hlen⟩ := r9
    k_unfold
    show (let G9 : Prop := _; G9)
    intro G9
    obtain ⟨xn, xt, rfl⟩ := IntsAre.get' hW hv
    k_unfold
    k_steps
    rename Fr _ _ _ _ => FF
    rename News _ _ _ _ => NN
    refine ⟨_, _, _, (D, listOf ws.toArray 0) :: (cl0, listOf _ nc) :: rest, rfl, FF, NN, ?off, ⟨_, _, _, rfl, IntsAre.set' hcs _ _ _, by rw [List.length_set]; exact hlen⟩, fun z h1 h2 => by simp [h1, h2]⟩
    case off =>
      have hcI : @LT.lt Nat _ cl0 I := Nat.lt_trans hcl0 hID
      have hall : ∀ b : Addr, @LT.lt Nat _ b I → ∀ q ∈ [(I + 1, oe), (I, oi)], b ≠ q.1 := by
        intro b hb q hq
        simp only [List.mem_cons, List.not_mem_nil, or_false] at hq
        rcases hq with rfl | rfl
        · exact Nat.ne_of_lt (Nat.lt_succ_of_lt hb)
        · exact Nat.ne_of_lt hb
      exact List.forall_mem_cons.mpr ⟨hall _ hID, List.forall_mem_cons.mpr ⟨hall _ hcI, fun q hq => hall _ (hI q (.tail _ (.tail _ hq)))⟩⟩
  · intro v v' news h tk r9 F N
    show (let G9 : Prop := _; G9)
    intro G9
    obtain ⟨cvs, nc, cs, rfl, hcs, hlen⟩ := r9
    k_unfold
    k_steps
    rename News _ _ _ _ => NN
    exact hret _ _ _ _ ⟨cl0, cvs, nc, cs, rfl, hcs, hlen, l1, rfl⟩ (by k_asm) (cb_drop NN (fun q hq => .tail _ hq))
end
end
section
section
variable {prog : Program} {w : World} {A : Around} {E : Value → Shared → Prop} {s : Shared} {env : Env} {h₀ : Heap} {x : Str} {body : List Stmt} {Q : Flow → Shared → Prop} {I : Addr} {m₀ : Str → Option Value} {news₀ : List (Addr × Obj)}
theorem rangeRest_acc {a : Int} {n : Nat} (y z : Str) (hxz : z ≠ x) (hyz : z ≠ y) (J : Nat → Value → Prop) {v0 : Value} (hv0 : m₀ z = some v0) (hJ : J 0 v0)
    (turn : ∀ i v vy, i < n → J i v → ∀ t h tk, Fr h₀ env.locals h (fun u => if u = x then some (.int (a + (i : Int)) t) else if u = y then vy else if u = z then some v else m₀ u) →
      News h₀ env.locals h ((I, itR (a + ((i + 1 : Nat) : Int)) ((n : Int) - ((i + 1 : Nat) : Int))) :: news₀) →
      wpAny (model prog w) A (execs body env) (UnrPost h₀ env.locals { s with heap := h, toks := tk } I (itR (a + ((i + 1 : Nat) : Int)) ((n : Int) - ((i + 1 : Nat) : Int))) (fun m' n' => n' = news₀ ∧ (∃ v', m' z = some v' ∧ J (i + 1) v') ∧ ∀ u, u ≠ x → u ≠ y → u ≠ z → m' u = m₀ u) Q) E { s with heap := h, toks := tk })
    (done : ∀ v vx vy h tk, J n v → Fr h₀ env.locals h (fun u => if u = x then vx else if u = y then vy else if u = z then some v else m₀ u) → News h₀ env.locals h news₀ → Q .next { s with heap := h, toks := tk }) :
    RangeRest prog w A E h₀ env x body Q s I a n n 0 m₀ news₀ := by
  have eqm : ∀ (m : Str → Option Value) v, m z = some v → (∀ u, u ≠ x → u ≠ y → u ≠ z → m u = m₀ u) → m = fun u => if u = x then m x else if u = y then m y else if u = z then some v else m₀ u := by
    intro m v hv hm
    funext u
    by_cases h1 : u = x
    · simp only [if_pos h1]; rw [h1]
    · by_cases h2 : u = y
      · simp only [if_neg h1, if_pos h2]; rw [h2]
      · by_cases h3 : u = z
        · simp only [if_neg h1, if_neg h2, if_pos h3]; rw [h3, hv]
        · simp only [if_neg h1, if_neg h2, if_neg h3]; exact hm u h1 h2 h3
  refine rangeRest_inv (fun i m news => news = news₀ ∧ (∃ v, m z = some v ∧ J i v) ∧ ∀ u, u ≠ x → u ≠ y → u ≠ z → m u = m₀ u) ?_ ?_ n 0 m₀ news₀ (Nat.zero_add _) ⟨rfl, ⟨v0, hv0, hJ⟩, fun _ _ _ _ => rfl⟩
  · rintro i m news hi ⟨rfl, ⟨v, hv, hJv⟩, hm⟩ t h tk F N
    have e := eqm m v hv hm
    have e2 : (fun u => if u = x then some (Value.int (a + (i : Int)) t) else m u) = fun u => if u = x then some (Value.int (a + (i : Int)) t) else if u = y then m y else if u = z then some v else m₀ u := by
      funext u
      by_cases h1 : u = x
      · simp only [if_pos h1]
      · simp only [if_neg h1]
        have := congrFun e u
        simp only [if_neg h1] at this
        exact this
    rw [e2] at F
    exact turn i v _ hi hJv t h tk F N
  · rintro m news h tk ⟨rfl, ⟨v, hv, hJv⟩, hm⟩ F N
    rw [eqm m v hv hm] at F
    exact done v _ _ h tk hJv F N
end
/-- every order of the letters b, c, .. of k letters -/
noncomputable def allOrders : Nat → List (List Nat)
  | 0 => [[]]
  | k + 1 => (allOrders k).flatMap fun o => (List.range (k + 1)).map fun pl => o.take pl ++ (98 + k) :: o.drop pl
theorem order_step {k pl : Nat} {o : List Nat} (h : o ∈ allOrders k) (hp : pl ≤ k) : o.take pl ++ (98 + k) :: o.drop pl ∈ allOrders (k + 1) :=
  List.mem_flatMap.mpr ⟨o, h, List.mem_map.mpr ⟨pl, List.mem_range.mpr (Nat.lt_succ_of_le hp), rfl⟩⟩
theorem order_len : ∀ {k : Nat} {o : List Nat}, o ∈ allOrders k → o.length = k
  | 0, o, h => by simp [allOrders] at h; rw [h]; rfl
  | k + 1, o, h => by
    unfold allOrders at h
    obtain ⟨o', h1, h2⟩ := List.mem_flatMap.mp h
    obtain ⟨pl, hpl, rfl⟩ := List.mem_map.mp h2
    have := order_len h1
    have hp := List.mem_range.mp hpl
    rw [List.length_append, List.length_cons, List.length_take, List.length_drop]
    omega
theorem bcd_at {i : Nat} (h : i < 6) : itemAt [98, 99, 100, 101, 102, 103] (0 + (i : Int)) = some (98 + i) := by
  match i, h with
  | 0, _ => rfl
  | 1, _ => rfl
  | 2, _ => rfl
  | 3, _ => rfl
  | 4, _ => rfl
  | 5, _ => rfl
section
variable {prog : Program} {w : World} {A : Around} {E : Value → Shared → Prop} {s : Shared}
theorem mod_nat {a b : Int} {d : Nat} {t u : Tok} {Q : Value → Shared → Prop} (hb : b = (d : Int)) (hd : 0 < d) (h : ∀ pl : Nat, pl < d → ∀ t tk, Q (.int (pl : Int) t) { s with toks := tk }) : wpAny (model prog w) A (binaryOp .Mod (.int a t) (.int b u)) Q E s := by
  subst hb
  have hr := fmod_rng a (d := (d : Int)) (by omega)
  refine PyProof.Rows.mod_int (by omega) ?_
  have e : a.fmod (d : Int) = ((a.fmod (d : Int)).toNat : Int) := by omega
  rw [e]
  exact h _ (by omega) _ _
end
theorem ord_d (i : Nat) : (0 + (i : Int) + 1) = ((i + 1 : Nat) : Int) := by omega
theorem fits6 {i : Nat} (h : i < 6) : fitsSsize (0 + (i : Int)) = true := by
  rw [Int.zero_add]; exact fits_nat (by omega)
end
section
theorem kw_C21 : True := by
  k_with_none
  k_with "sub" => ((repeat (refine List.forall_mem_cons.mpr ⟨by k_mem, ?_⟩)); (first | exact List.forall_mem_nil _ | (intro p hp; repeat (first | exact hp | apply List.Mem.tail))))
  k_with "enter" => (refine wpAny_call ?_; walk_at "enterC")
  k_with "enterC" => (k_dflt (refine' code_def ?q9k1 ?q9k2 ?q9k3 ?q9k4 ?q9k5 ?q9kA ?q9kF ?q9kK ?q9k6 ?q9k7 ?q9k8 ?q9k9 ?q9kB ?_ ?q9c2 ?q9c3 ?q9c4 ?q9c5; (case q9kA => exact rfl); (case q9kF => exact rfl); (case q9kK => assumption); (case q9k1 => k_asm); (case q9k2 => k_asm); (case q9k3 => k_asm); (case q9k4 => k_asm); (case q9k5 => k_asm); (case q9k6 => k_is); (case q9k7 => k_is); (case q9k8 => ktr_room); (case q9k9 => first | exact BindsTo.of_eq rfl | exact binds_K (by k_in) rfl (by k_is) rfl rfl rfl | (refine' kp_binds ?q9kx ?q9ke; (case q9kx => k_in); (case q9ke => exact fun _ => rfl)) | fail "enter: no rule for these arguments"); (case q9c5 => decide); (case q9kB => exact locs rfl); (case q9c2 => exact rfl); (case q9c3 => exact rfl); (case q9c4 => exact rfl); k_whole; intro g' L' h' FG' F' N' B' X' T'; (try dsimp only); (try k_lift B'); (try k_fold)))
  k_with "execs cons" => ((with_reducible refine wpAny_execs_cons ?_); (try dsimp only); k_fold)
  k_with "call builtin:str.lower" => (k_dflt (refine' low_call ?q9k1 ?_; (case q9k1 => first | assumption | exact L7_14 (by assumption)); k_whole; intro _ _))
  k_with "call builtin:str.upper" => (k_dflt (refine' upp_call ?q9k1 ?_; (case q9k1 => assumption); k_whole; intro _ _))
  k_with "call ref" => ((try k_fold); k_dflt (refine' Ct.use (ct_conv_name ?q9hc) ?q9B ?q9F ?q9X ?q9N ?q9T ?q9hk ?q9hd ?q9hu ?_; (case q9hc => assumption); (case q9B => k_asm); (case q9F => k_asm); (case q9X => k_asm); (case q9N => k_asm); (case q9T => k_asm); (case q9hk => exact rfl); (case q9hd => ktr_room); (case q9hu => ktr_units); k_whole; intro _ _ _ _ r9 _ _; obtain ⟨rfl, rfl⟩ := r9))
  k_with "call ref" => ((try k_fold); k_dflt (refine' Ct.use (ct_conv_value ?q9hc) ?q9B ?q9F ?q9X ?q9N ?q9T ?q9hk ?q9hd ?q9hu ?_; (case q9hc => assumption); (case q9B => k_asm); (case q9F => k_asm); (case q9X => k_asm); (case q9N => k_asm); (case q9T => k_asm); (case q9hk => exact rfl); (case q9hd => ktr_room); (case q9hu => ktr_units); k_whole; intro _ _ _ _ r9 _ _; obtain ⟨rfl, rfl⟩ := r9))
  k_with "subscriptTail" => (k_here; (with_reducible show wpAny _ _ (subscriptTail _ _ (Value.ref _) (Value.int _ _)) _ _ _); k_dflt (refine' item_ints ?q9N ?q9m ?q9I ?q9k ?q9l ?_; (case q9N => k_asm); (case q9m => k_mem); (case q9I => assumption); (case q9k => first | (rename List.length _ = 10 => l5; rw [l5]; omega)); (case q9l => omega); k_whole; intro _ _ _))
  k_with "subscriptTail Name Name ref int" => (k_here; (with_reducible show wpAny _ _ (subscriptTail _ _ (Value.ref _) (Value.int _ _)) _ _ _); k_dflt (refine' item_ints ?q9N ?q9m ?q9I ?q9k ?q9l ?_; (case q9N => k_asm); (case q9m => k_mem); (case q9I => assumption); (case q9k => first | (rename List.length _ = 10 => l5; rw [l5]; omega)); (case q9l => omega); k_whole; intro _ _ _))
  k_with "binaryOp Mod int int" => (k_here; k_dflt (refine' mod_nat (d := _ + 1) ?q9e ?q9z ?_; (case q9e => first | rfl | (rename _ < 6 => h6q; exact ord_d _)); (case q9z => exact Nat.succ_pos _); k_whole; intro _ _ _ _))
  k_with "subscriptTail" => (k_here; (with_reducible show wpAny _ _ (subscriptTail _ _ (Value.str (Str.ofString "bcdefg") _) (Value.int _ _)) _ _ _); rename _ < 6 => h6; (refine' item_tx lit_bcd6 ?q9k1 ?q9k2 ?_; (case q9k1 => exact fits6 h6); (case q9k2 => exact bcd_at h6); intro _ _))
  k_with "subscriptTail Constant Name str int" => (k_here; (with_reducible show wpAny _ _ (subscriptTail _ _ (Value.str (Str.ofString "bcdefg") _) (Value.int _ _)) _ _ _); rename _ < 6 => h6; (refine' item_tx lit_bcd6 ?q9k1 ?q9k2 ?_; (case q9k1 => exact fits6 h6); (case q9k2 => exact bcd_at h6); intro _ _))
  k_with "binaryOp Add str str" => (k_here; k_dflt (refine' tx_add (by exact rfl) (by exact slice_sn _ _ (by omega)) ?q9z1 ?_; (case q9z1 => (rename List.length _ = _ => l5; simp only [List.length_append, List.length_cons, List.length_nil, List.length_take, List.length_drop, sizeLine_eq, Int.toNat_natCast]; omega)); k_whole; intro _ _))
  k_with "binaryOp Add str str" => (k_here; k_dflt (refine' tx_add (by exact slice_ns _ _ (by omega)) (by exact rfl) ?q9z1 ?_; (case q9z1 => (rename List.length _ = _ => l5; simp only [List.length_append, List.length_cons, List.length_nil, List.length_take, List.length_drop, sizeLine_eq, Int.toNat_natCast]; omega)); k_whole; intro _ _))
  trivial
section
variable {w : World} {p : Program} {loose : List Str} {mean : ExcName → Option Value} {mg mb : Str → Option Value} {cl nc : Nat} {cvs : List Value} {cells : List Int} {rest : List (Addr × Obj)}
set_option maxHeartbeats 16000000 in
theorem ct_order (hI : IntsAre cvs cells) (hlen : cells.length = 10) :
    Ct w (hd.heap_39 w.params) p loose mean mg mb (.ref 299) [.ref cl] [] 24 72 ((cl, listOf cvs.toArray nc) :: rest)
      (fun v news' => ∃ o t, v = .str (Tx o) t ∧ o ∈ allOrders 6 ∧ news' = (cl, listOf cvs.toArray nc) :: rest) := by
  intro dp un gd cn cs a' ccd cl' outer A₀ base h₀ L m s Q E B F X N Tp hk hdp hun hret
  show (let G9 : Prop := _; G9)
  intro G9
  obtain ⟨kd, nms, g1, g2, g3⟩ := cs
  k_unfold
  dsimp only at hk
  subst hk
  iterate 60 (first | (with_reducible show RangeRest _ _ _ _ _ _ _ _ _ _ _ _ _ _ _ _ _) | (k_unfold; (try dsimp only)) | (k_end; wrow_close) | walk1)
  refine rangeRest_acc (Str.ofString "place") (Str.ofString "order") (by decide) (by decide) (fun i v => ∃ o t, v = .str (Tx o) t ∧ o ∈ allOrders i) rfl ⟨[], _, congrArg (Value.str · _) lit_e, .head _⟩ ?_ ?_
  · intro i v vy hi r9 t h tk F N
    show (let G9 : Prop := _; G9)
    intro G9
    obtain ⟨o, to, rfl, ho⟩ := r9
    k_unfold
    have hol := order_len ho
    k_steps
    rename Fr _ _ _ _ => FF
    rename News _ _ _ _ => NN
    rename _ < 0 + i + 1 => hpl
    rename _ ∧ AllLt _ rest => lI
    refine UnrEnd.intro FF NN _ (fun q hq => hq) (List.forall_mem_cons.mpr ⟨neN (by omega), ne_allLt lI.2 (Nat.le_refl _)⟩) ⟨rfl, ⟨_, rfl, _, _, rfl, ?_⟩, fun u z1 z2 z3 => by simp [z1, z2, z3]⟩
    simp only [Int.toNat_natCast, List.append_assoc, List.cons_append, List.nil_append]
    have hpl2 : _ < 0 + i + 1 := hpl
    rw [Nat.zero_add] at hpl2
    exact order_step ho (Nat.le_of_lt_succ hpl2)
  · intro v vx vy h tk r9 F N
    show (let G9 : Prop := _; G9)
    intro G9
    obtain ⟨o, to, rfl, ho⟩ := r9
    k_unfold
    k_steps
    exact hret _ _ _ _ ⟨o, to, rfl, ho, rfl⟩ (by k_asm) (by k_asm)
end
end
section
/-- a word in the text, by its kind -/
noncomputable def item : Nat × Nat → List Nat
  | (0, c) => [c, 10]
  | (1, c) => [34, c, 34, 9]
  | (_, c) => [92, c, 32]
noncomputable def textM (its : List (Nat × Nat)) : List Nat := (its.map item).flatten
theorem textM_snoc (its : List (Nat × Nat)) (q : Nat × Nat) : textM (its ++ [q]) = textM its ++ item q := by
  unfold textM
  rw [List.map_append, List.flatten_append]
  simp
theorem item_len (q : Nat × Nat) : (item q).length ≤ 4 := by
  obtain ⟨k, c⟩ := q
  match k with
  | 0 => show 2 ≤ 4; omega
  | 1 => show 4 ≤ 4; omega
  | k + 2 => show 3 ≤ 4; omega
theorem textM_len : ∀ its : List (Nat × Nat), (textM its).length ≤ 4 * its.length
  | [] => Nat.le_refl _
  | q :: r => by
    have e : textM (q :: r) = item q ++ textM r := rfl
    rw [e, List.length_append, List.length_cons]
    have := item_len q
    have := textM_len r
    omega
theorem lit_qt : Str.ofString "\"\t" = Tx [34, 9] := by decide +kernel
theorem lit_sp : Str.ofString " " = Tx [32] := by decide +kernel
theorem mod3 {prog : Program} {w : World} {A : Around} {E : Value → Shared → Prop} {s : Shared} {a : Int} {t u : Tok} {Q : Value → Shared → Prop} (h0 : ∀ t tk, Q (.int 0 t) { s with toks := tk }) (h1 : ∀ t tk, Q (.int 1 t) { s with toks := tk }) (h2 : ∀ t tk, Q (.int 2 t) { s with toks := tk }) :
    wpAny (model prog w) A (binaryOp .Mod (.int a t) (.int 3 u)) Q E s := by
  refine mod_nat (d := 3) rfl (by decide) fun pl hpl t tk => ?_
  match pl, hpl with
  | 0, _ => exact h0 t tk
  | 1, _ => exact h1 t tk
  | 2, _ => exact h2 t tk
theorem item_at0 {o : List Nat} {i : Nat} (h : i < o.length) : ∃ c, o[i]? = some c ∧ itemAt o (0 + (i : Int)) = some c := by
  refine ⟨o[i], List.getElem?_eq_getElem h, ?_⟩
  unfold itemAt seqIndex?
  rw [Int.zero_add]
  simp only [show ¬ ((i : Int) < 0) by omega, if_false]
  simp [h]
end
section
theorem kw_C22 : True := by
  k_with_none
  k_with "sub" => ((repeat (refine List.forall_mem_cons.mpr ⟨by k_mem, ?_⟩)); (first | exact List.forall_mem_nil _ | (intro p hp; repeat (first | exact hp | apply List.Mem.tail))))
  k_with "enter" => (refine wpAny_call ?_; walk_at "enterC")
  k_with "enterC" => (k_dflt (refine' code_def ?q9k1 ?q9k2 ?q9k3 ?q9k4 ?q9k5 ?q9kA ?q9kF ?q9kK ?q9k6 ?q9k7 ?q9k8 ?q9k9 ?q9kB ?_ ?q9c2 ?q9c3 ?q9c4 ?q9c5; (case q9kA => exact rfl); (case q9kF => exact rfl); (case q9kK => assumption); (case q9k1 => k_asm); (case q9k2 => k_asm); (case q9k3 => k_asm); (case q9k4 => k_asm); (case q9k5 => k_asm); (case q9k6 => k_is); (case q9k7 => k_is); (case q9k8 => ktr_room); (case q9k9 => first | exact BindsTo.of_eq rfl | exact binds_K (by k_in) rfl (by k_is) rfl rfl rfl | (refine' kp_binds ?q9kx ?q9ke; (case q9kx => k_in); (case q9ke => exact fun _ => rfl)) | fail "enter: no rule for these arguments"); (case q9c5 => decide); (case q9kB => exact locs rfl); (case q9c2 => exact rfl); (case q9c3 => exact rfl); (case q9c4 => exact rfl); k_whole; intro g' L' h' FG' F' N' B' X' T'; (try dsimp only); (try k_lift B'); (try k_fold)))
  k_with "execs cons" => ((with_reducible refine wpAny_execs_cons ?_); (try dsimp only); k_fold)
  k_with "call builtin:str.lower" => (k_dflt (refine' low_call ?q9k1 ?_; (case q9k1 => first | assumption | exact L7_14 (by assumption)); k_whole; intro _ _))
  k_with "call builtin:str.upper" => (k_dflt (refine' upp_call ?q9k1 ?_; (case q9k1 => assumption); k_whole; intro _ _))
  k_with "call ref" => ((try k_fold); k_dflt (refine' Ct.use (ct_conv_name ?q9hc) ?q9B ?q9F ?q9X ?q9N ?q9T ?q9hk ?q9hd ?q9hu ?_; (case q9hc => assumption); (case q9B => k_asm); (case q9F => k_asm); (case q9X => k_asm); (case q9N => k_asm); (case q9T => k_asm); (case q9hk => exact rfl); (case q9hd => ktr_room); (case q9hu => ktr_units); k_whole; intro _ _ _ _ r9 _ _; obtain ⟨rfl, rfl⟩ := r9))
  k_with "call ref" => ((try k_fold); k_dflt (refine' Ct.use (ct_conv_value ?q9hc) ?q9B ?q9F ?q9X ?q9N ?q9T ?q9hk ?q9hd ?q9hu ?_; (case q9hc => assumption); (case q9B => k_asm); (case q9F => k_asm); (case q9X => k_asm); (case q9N => k_asm); (case q9T => k_asm); (case q9hk => exact rfl); (case q9hd => ktr_room); (case q9hu => ktr_units); k_whole; intro _ _ _ _ r9 _ _; obtain ⟨rfl, rfl⟩ := r9))
  k_with "subscriptTail" => (k_here; (with_reducible show wpAny _ _ (subscriptTail _ _ (Value.ref _) (Value.int _ _)) _ _ _); k_dflt (refine' item_ints ?q9N ?q9m ?q9I ?q9k ?q9l ?_; (case q9N => k_asm); (case q9m => k_mem); (case q9I => assumption); (case q9k => first | (rename List.length _ = 10 => l5; rw [l5]; omega)); (case q9l => omega); k_whole; intro _ _ _))
  k_with "subscriptTail Name Name ref int" => (k_here; (with_reducible show wpAny _ _ (subscriptTail _ _ (Value.ref _) (Value.int _ _)) _ _ _); k_dflt (refine' item_ints ?q9N ?q9m ?q9I ?q9k ?q9l ?_; (case q9N => k_asm); (case q9m => k_mem); (case q9I => assumption); (case q9k => first | (rename List.length _ = 10 => l5; rw [l5]; omega)); (case q9l => omega); k_whole; intro _ _ _))
  k_with "binaryOp Mod int int" => (k_here; k_dflt (refine' mod_nat (d := _ + 1) ?q9e ?q9z ?_; (case q9e => first | rfl | (rename _ < 6 => h6q; exact ord_d _)); (case q9z => exact Nat.succ_pos _); k_whole; intro _ _ _ _))
  k_with "subscriptTail" => (k_here; (with_reducible show wpAny _ _ (subscriptTail _ _ (Value.str (Str.ofString "bcdefg") _) (Value.int _ _)) _ _ _); rename _ < 6 => h6; (refine' item_tx lit_bcd6 ?q9k1 ?q9k2 ?_; (case q9k1 => exact fits6 h6); (case q9k2 => exact bcd_at h6); intro _ _))
  k_with "subscriptTail Constant Name str int" => (k_here; (with_reducible show wpAny _ _ (subscriptTail _ _ (Value.str (Str.ofString "bcdefg") _) (Value.int _ _)) _ _ _); rename _ < 6 => h6; (refine' item_tx lit_bcd6 ?q9k1 ?q9k2 ?_; (case q9k1 => exact fits6 h6); (case q9k2 => exact bcd_at h6); intro _ _))
  k_with "binaryOp Add str str" => (k_here; k_dflt (refine' tx_add (by exact rfl) (by exact slice_sn _ _ (by omega)) ?q9z1 ?_; (case q9z1 => (rename List.length _ = _ => l5; simp only [List.length_append, List.length_cons, List.length_nil, List.length_take, List.length_drop, sizeLine_eq, Int.toNat_natCast]; omega)); k_whole; intro _ _))
  k_with "binaryOp Add str str" => (k_here; k_dflt (refine' tx_add (by exact slice_ns _ _ (by omega)) (by exact rfl) ?q9z1 ?_; (case q9z1 => (rename List.length _ = _ => l5; simp only [List.length_append, List.length_cons, List.length_nil, List.length_take, List.length_drop, sizeLine_eq, Int.toNat_natCast]; omega)); k_whole; intro _ _))
  k_with "binaryOp Mod int int" => (k_here; k_dflt (refine' mod3 ?_ ?_ ?_); k_whole; all_goals intro _ _)
  k_with "subscriptTail" => (k_here; (with_reducible show wpAny _ _ (subscriptTail _ _ (Value.str (Tx _) _) (Value.int _ _)) _ _ _); rename _ < 6 => h6; (refine' item_tx rfl ?q9k1 ?q9k2 ?_; (case q9k1 => exact fits6 h6); (case q9k2 => assumption); intro _ _))
  k_with "subscriptTail Name Name str int" => (k_here; (with_reducible show wpAny _ _ (subscriptTail _ _ (Value.str (Tx _) _) (Value.int _ _)) _ _ _); rename _ < 6 => h6; (refine' item_tx rfl ?q9k1 ?q9k2 ?_; (case q9k1 => exact fits6 h6); (case q9k2 => assumption); intro _ _))
  k_with "binaryOp Add str str" => (k_here; k_dflt (refine' tx_add (by exact rfl) (by first | exact lit_e | exact lit_q | exact lit_bs | exact lit_nl | exact lit_qt | exact lit_sp | exact rfl) ?q9z1 ?_; (case q9z1 => (rename List.length _ ≤ 24 => l5; simp only [List.length_append, List.length_cons, List.length_nil, sizeLine_eq]; omega)); k_whole; intro _ _))
  trivial
section
variable {w : World} {p : Program} {loose : List Str} {mean : ExcName → Option Value} {mg mb : Str → Option Value} {cl nc : Nat} {cvs : List Value} {cells : List Int} {o : List Nat} {to : Tok} {rest : List (Addr × Obj)}
set_option maxHeartbeats 16000000 in
theorem ct_text (hI : IntsAre cvs cells) (hlen : cells.length = 10) (ho6 : o.length = 6) :
    Ct w (hd.heap_39 w.params) p loose mean mg mb (.ref 306) [.str (Tx o) to, .ref cl] [] 24 72 ((cl, listOf cvs.toArray nc) :: rest)
      (fun v news' => ∃ its t, v = .str (Tx (textM its)) t ∧ its.map Prod.snd = o ∧ (∀ q ∈ its, q.1 < 3) ∧ news' = (cl, listOf cvs.toArray nc) :: rest) := by
  intro dp un gd cn cs a' ccd cl' outer A₀ base h₀ L m s Q E B F X N Tp hk hdp hun hret
  show (let G9 : Prop := _; G9)
  intro G9
  obtain ⟨kd, nms, g1, g2, g3⟩ := cs
  k_unfold
  dsimp only at hk
  subst hk
  iterate 60 (first | (with_reducible show RangeRest _ _ _ _ _ _ _ _ _ _ _ _ _ _ _ _ _) | (k_unfold; (try dsimp only)) | (k_end; wrow_close) | walk1)
  refine rangeRest_acc (Str.ofString "kind") (Str.ofString "text") (by decide) (by decide) (fun i v => ∃ its t, v = .str (Tx (textM its)) t ∧ its.map Prod.snd = o.take i ∧ ∀ q ∈ its, q.1 < 3) rfl ⟨[], _, congrArg (Value.str · _) lit_e, rfl, fun q hq => (nomatch hq)⟩ ?_ ?_
  · intro i v vy hi r9 t h tk F N
    show (let G9 : Prop := _; G9)
    intro G9
    obtain ⟨its, tt, rfl, hits, hkn⟩ := r9
    k_unfold
    show (let G9 : Prop := _; G9)
    intro G9
    obtain ⟨c, hc, hit⟩ := item_at0 (o := o) (i := i) (by omega)
    k_unfold
    have hl24 : (textM its).length ≤ 24 := by
      have h1 := textM_len its
      have h2 := congrArg List.length hits
      rw [List.length_map, List.length_take] at h2
      omega
    rename _ ∧ AllLt _ rest => lI
    have hoff : ∀ q ∈ (cl, listOf cvs.toArray nc) :: rest, q.1 ≠ _ := List.forall_mem_cons.mpr ⟨neN (by omega), ne_allLt lI.2 (Nat.le_refl _)⟩
    have hfin : ∀ k, k < 3 → (its ++ [(k, c)]).map Prod.snd = o.take (i + 1) ∧ ∀ q ∈ its ++ [(k, c)], q.1 < 3 := fun k hk => by
      refine ⟨by rw [List.map_append, hits, take_one hc]; rfl, fun q hq => ?_⟩
      rcases List.mem_append.mp hq with hq | hq
      · exact hkn q hq
      · rw [List.mem_singleton.mp hq]; exact hk
    k_steps
    · rename Fr _ _ _ _ => FF
      rename News _ _ _ _ => NN
      exact UnrEnd.intro FF NN _ (fun q hq => .tail _ (.tail _ hq)) hoff ⟨rfl, ⟨_, rfl, its ++ [(0, c)], _, congrArg (fun l => Value.str (Tx l) _) (by rw [textM_snoc]; simp only [item, List.append_assoc, List.nil_append, List.cons_append]), hfin 0 (by decide)⟩, fun u z1 z2 z3 => by simp [z1, z2, z3]⟩
    · rename Fr _ _ _ _ => FF
      rename News _ _ _ _ => NN
      exact UnrEnd.intro FF NN _ (fun q hq => .tail _ (.tail _ hq)) hoff ⟨rfl, ⟨_, rfl, its ++ [(1, c)], _, congrArg (fun l => Value.str (Tx l) _) (by rw [textM_snoc]; simp only [item, List.append_assoc, List.nil_append, List.cons_append]), hfin 1 (by decide)⟩, fun u z1 z2 z3 => by simp [z1, z2, z3]⟩
    · rename Fr _ _ _ _ => FF
      rename News _ _ _ _ => NN
      exact UnrEnd.intro FF NN _ (fun q hq => .tail _ (.tail _ hq)) hoff ⟨rfl, ⟨_, rfl, its ++ [(2, c)], _, congrArg (fun l => Value.str (Tx l) _) (by rw [textM_snoc]; simp only [item, List.append_assoc, List.nil_append, List.cons_append]), hfin 2 (by decide)⟩, fun u z1 z2 z3 => by simp [z1, z2, z3]⟩
  · intro v vx vy h tk r9 F N
    show (let G9 : Prop := _; G9)
    intro G9
    obtain ⟨its, tt, rfl, hits, hkn⟩ := r9
    k_unfold
    rw [List.take_of_length_le (by omega)] at hits
    k_steps
    exact hret _ _ _ _ ⟨its, tt, rfl, hits, hkn, rfl⟩ (by k_asm) (by k_asm)
end
end
section
theorem fill12 : PySem.Challenge.rw_kl0089_01 = PySem.Challenge.rw_kl0089_01 ∧ hd.heap_39 = hd.heap_39 := by k_fill; exact ⟨rfl, rfl⟩
/-- what is left of 1 .. 8 behind k picks -/
noncomputable def lefts : Nat → List (List Int)
  | 0 => [[1, 2, 3, 4, 5, 6, 7, 8]]
  | k + 1 => (lefts k).flatMap fun l => (List.range (8 - k)).map fun j => l.take j ++ l.drop (j + 1)
theorem lefts_step {k j : Nat} {l : List Int} (h : l ∈ lefts k) (hj : j < 8 - k) : l.take j ++ l.drop (j + 1) ∈ lefts (k + 1) :=
  List.mem_flatMap.mpr ⟨l, h, List.mem_map.mpr ⟨j, List.mem_range.mpr hj, rfl⟩⟩
theorem lefts_len : ∀ {k : Nat} {l : List Int}, k ≤ 8 → l ∈ lefts k → l.length = 8 - k
  | 0, l, _, h => by simp [lefts] at h; rw [h]; rfl
  | k + 1, l, hk, h => by
    unfold lefts at h
    obtain ⟨l', h1, h2⟩ := List.mem_flatMap.mp h
    obtain ⟨j, hj, rfl⟩ := List.mem_map.mp h2
    have := lefts_len (by omega) h1
    have hj := List.mem_range.mp hj
    rw [List.length_append, List.length_take, List.length_drop]
    omega
theorem cut_of : ∀ {l : List Value} {j : Nat} (h : j < l.length), kl_cut l j = some (l.take j, l[j], l.drop (j + 1))
  | x :: r, 0, _ => rfl
  | x :: r, j + 1, h => by
    unfold kl_cut
    rw [cut_of (l := r) (j := j) (Nat.lt_of_succ_lt_succ h)]
    rfl
theorem IntsAre.take' {vs : List Value} {ns : List Int} (h : IntsAre vs ns) (j : Nat) : IntsAre (vs.take j) (ns.take j) := by
  induction h generalizing j with
  | nil => simp; exact .nil
  | cons m t _ ih =>
    cases j with
    | zero => exact .nil
    | succ j => exact .cons _ _ (ih j)
theorem IntsAre.drop' {vs : List Value} {ns : List Int} (h : IntsAre vs ns) (j : Nat) : IntsAre (vs.drop j) (ns.drop j) := by
  induction h generalizing j with
  | nil => simp; exact .nil
  | cons m t h ih =>
    cases j with
    | zero => exact .cons _ _ h
    | succ j => exact ih j
theorem IntsAre.app' {vs us : List Value} {ns ms : List Int} (h : IntsAre vs ns) (h2 : IntsAre us ms) : IntsAre (vs ++ us) (ns ++ ms) := by
  induction h with
  | nil => exact h2
  | cons m t _ ih => exact .cons _ _ ih
section
variable {prog : Program} {w : World} {A : Around} {E : Value → Shared → Prop} {s : Shared} {h₀ : Heap} {L D : Addr} {m : Str → Option Value} {news news' : List (Addr × Obj)}
theorem pop_ints {vs : List Value} {ns : List Int} {j n : Nat} {u : Tok} {Q : Value → Shared → Prop} (F : Fr h₀ L s.heap m) (N : News h₀ L s.heap news) (U : Upd D (listOf vs.toArray n) (listOf (vs.take j ++ vs.drop (j + 1)).toArray (n + 1)) news news')
    (hI : IntsAre vs ns) (hj : j < ns.length) (hlen : ns.length ≤ 100) (h : ∀ h' v, Fr h₀ L h' m → News h₀ L h' news' → Q v { s with heap := h' }) : wpAny (model prog w) A (call (.builtin "list.pop") [.ref D, .int (j : Int) u]) Q E s := by
  have hl := ints_len hI
  have hjv : j < vs.length := by omega
  refine kl_popAt (k := j) (p := vs.take j) (q := vs.drop (j + 1)) (y := vs[j]) F N ?_ ?_ (cut_of hjv) U (by rw [sizeLine_eq]; simp; omega) fun h' F' N' => h h' _ F' N'
  · unfold Builtin.List.listFitsIndex
    simp
    omega
  · unfold seqIndex?
    simp only [show ¬ ((j : Int) < 0) by omega, if_false]
    simp
    omega
theorem len_ints {vs : List Value} {ns : List Int} {n : Nat} {Q : Value → Shared → Prop} (N : News h₀ L s.heap news) (hm : (D, listOf vs.toArray n) ∈ news) (hI : IntsAre vs ns) (hlen : ns.length ≤ 100) (h : ∀ t tk, Q (.int (ns.length : Int) t) { s with toks := tk }) :
    wpAny (model prog w) A (call (.builtin "len") [.ref D]) Q E s := by
  have hl := ints_len hI
  refine len_list ⟨_, (N _ hm).1, rfl, n, rfl⟩ (by rw [List.size_toArray]; omega) ?_
  rw [List.size_toArray, hl]
  exact h _ _
end
end
section
theorem kw_C23 : True := by
  k_with_none
  k_with "sub" => ((repeat (refine List.forall_mem_cons.mpr ⟨by k_mem, ?_⟩)); (first | exact List.forall_mem_nil _ | (intro p hp; repeat (first | exact hp | apply List.Mem.tail))))
  k_with "enter" => (refine wpAny_call ?_; walk_at "enterC")
  k_with "enterC" => (k_dflt (refine' code_def ?q9k1 ?q9k2 ?q9k3 ?q9k4 ?q9k5 ?q9kA ?q9kF ?q9kK ?q9k6 ?q9k7 ?q9k8 ?q9k9 ?q9kB ?_ ?q9c2 ?q9c3 ?q9c4 ?q9c5; (case q9kA => exact rfl); (case q9kF => exact rfl); (case q9kK => assumption); (case q9k1 => k_asm); (case q9k2 => k_asm); (case q9k3 => k_asm); (case q9k4 => k_asm); (case q9k5 => k_asm); (case q9k6 => k_is); (case q9k7 => k_is); (case q9k8 => ktr_room); (case q9k9 => first | exact BindsTo.of_eq rfl | exact binds_K (by k_in) rfl (by k_is) rfl rfl rfl | (refine' kp_binds ?q9kx ?q9ke; (case q9kx => k_in); (case q9ke => exact fun _ => rfl)) | fail "enter: no rule for these arguments"); (case q9c5 => decide); (case q9kB => exact locs rfl); (case q9c2 => exact rfl); (case q9c3 => exact rfl); (case q9c4 => exact rfl); k_whole; intro g' L' h' FG' F' N' B' X' T'; (try dsimp only); (try k_lift B'); (try k_fold)))
  k_with "execs cons" => ((with_reducible refine wpAny_execs_cons ?_); (try dsimp only); k_fold)
  k_with "call builtin:str.lower" => (k_dflt (refine' low_call ?q9k1 ?_; (case q9k1 => first | assumption | exact L7_14 (by assumption)); k_whole; intro _ _))
  k_with "call builtin:str.upper" => (k_dflt (refine' upp_call ?q9k1 ?_; (case q9k1 => assumption); k_whole; intro _ _))
  k_with "call ref" => ((try k_fold); k_dflt (refine' Ct.use (ct_conv_name ?q9hc) ?q9B ?q9F ?q9X ?q9N ?q9T ?q9hk ?q9hd ?q9hu ?_; (case q9hc => assumption); (case q9B => k_asm); (case q9F => k_asm); (case q9X => k_asm); (case q9N => k_asm); (case q9T => k_asm); (case q9hk => exact rfl); (case q9hd => ktr_room); (case q9hu => ktr_units); k_whole; intro _ _ _ _ r9 _ _; obtain ⟨rfl, rfl⟩ := r9))
  k_with "call ref" => ((try k_fold); k_dflt (refine' Ct.use (ct_conv_value ?q9hc) ?q9B ?q9F ?q9X ?q9N ?q9T ?q9hk ?q9hd ?q9hu ?_; (case q9hc => assumption); (case q9B => k_asm); (case q9F => k_asm); (case q9X => k_asm); (case q9N => k_asm); (case q9T => k_asm); (case q9hk => exact rfl); (case q9hd => ktr_room); (case q9hu => ktr_units); k_whole; intro _ _ _ _ r9 _ _; obtain ⟨rfl, rfl⟩ := r9))
  k_with "exec For Name Subscript cons nil" => (k_here; (rename Fr _ _ _ _ => lF'); (with_unfolding_all refine' For_invVF lF' ?q9k1 ?q9k2 ?_; (case q9k1 => exact rfl); (case q9k2 => exact rfl); k_whole))
  k_with "call builtin:len" => (k_here; (with_reducible show wpAny _ _ (call (Value.builtin "len") [Value.ref _]) _ _ _); k_dflt (refine' len_ints ?q9N ?q9m ?q9I ?q9l ?_; (case q9N => k_asm); (case q9m => k_mem); (case q9I => assumption); (case q9l => omega); k_whole; intro _ _))
  k_with "binaryOp Mod int int" => (k_here; k_dflt (refine' mod_nat (d := List.length _) (by exact rfl) ?q9z ?_; (case q9z => omega); k_whole; intro _ _ _ _))
  k_with "call builtin:list.pop" => ((k_here; (with_reducible show wpAny _ _ (call (Value.builtin _) [Value.ref _, Value.int _ _]) _ _ _); k_dflt (refine' pop_ints ?q9F ?q9N ?q9U ?q9I ?q9j ?q9l ?_; (case q9F => k_asm); (case q9N => k_asm); (case q9U => k_upd); (case q9I => assumption); (case q9j => assumption); (case q9l => omega)); intro _ _ _ N'; (try dsimp only [List.nil_append, List.cons_append] at N')); (try (revert N'; intro _)))
  k_with "call type:list" => ((k_here; (with_reducible show wpAny _ _ (call (Value.type _) [Value.ref _]) _ _ _); (rename IsRange _ _ _ _ _ _ _ _ => rgX); (with_unfolding_all refine' kll_range ?q9k0 ?q9k1 ?q9k2 ?q9k3 ?q9k4 ?q9k5 ?q9k6 ?_; (case q9k0 => rfl); (case q9k1 => k_asm); (case q9k2 => k_asm); (case q9k3 => first | exact rgX | assumption); (case q9k4 => exact small_one (by decide) (by decide) (by decide) (by decide)); (case q9k5 => first | exact rangeSize_nat _ _ | rfl); (case q9k6 => first | kll_lit | kll_len); k_whole); intro _ _ _ _ _ _ _ l1 _; (try k_lt l1); (try k_sweep)); (try (revert l1; intro _)))
  trivial
section
variable {w : World} {p : Program} {loose : List Str} {mean : ExcName → Option Value} {mg mb : Str → Option Value} {cl nc : Nat} {cvs : List Value} {cells : List Int} {rest : List (Addr × Obj)}
set_option maxHeartbeats 16000000 in
theorem ct_cuts (hI : IntsAre cvs cells) (hlen : cells.length = 10) :
    Ct w (hd.heap_39 w.params) p loose mean mg mb (.ref 313) [.ref cl] [] 24 72 ((cl, listOf cvs.toArray nc) :: rest)
      (fun v news' => ∃ tp nt a b c d ta tb tc td, v = .ref tp ∧ [a, b, c, d] ∈ lefts 4 ∧ (∀ q ∈ rest, q.1 < tp) ∧ @LT.lt Nat _ cl tp ∧ news' = (tp, tupOf [.int a ta, .int b tb, .int (c - 1) tc, .int (d - 1) td] nt) :: (cl, listOf cvs.toArray nc) :: rest) := by
  intro dp un gd cn cs a' ccd cl' outer A₀ base h₀ L m s Q E B F X N Tp hk hdp hun hret
  show (let G9 : Prop := _; G9)
  intro G9
  obtain ⟨kd, nms, g1, g2, g3⟩ := cs
  k_unfold
  dsimp only at hk
  subst hk
  iterate 60 (first | (with_reducible show wpAny _ _ (pyIter _) _ _ _) | (k_unfold; (try dsimp only)) | (k_end; wrow_close) | walk1)
  rename_i D1 vs1 c1 _ _ hI1 l1 _ D2 ws2 h2 F2 N2 hI2 hC2 _ l2
  have hw4 : ws2.length = 4 := by rw [ints_len hI2, hC2, hlen]
  show (let G9 : Prop := _; G9)
  intro G9
  obtain ⟨l20, l21, l22⟩ := l2
  k_unfold
  refine iter_listUnr (lo := listOf ws2.toArray 0) (vs := ws2) rfl F2 N2 (.head _) rfl rfl fun I hI => ?_
  have hI0 : @LT.lt Nat _ D2 I := hI _ (.head _)
  have hI1' : @LT.lt Nat _ D1 I := hI (D1, listOf vs1.toArray c1) (.tail _ (.head _))
  have hI2' : @LT.lt Nat _ cl I := hI (cl, listOf cvs.toArray nc) (.tail _ (.tail _ (.head _)))
  clear F2 N2
  refine listRest_2 (Str.ofString "x") (fun i news => ∃ lvs nl ls, news = (D2, listOf ws2.toArray 0) :: (D1, listOf lvs.toArray nl) :: (cl, listOf cvs.toArray nc) :: rest ∧ IntsAre lvs ls ∧ ls ∈ lefts i) ws2 ⟨_, _, _, rfl, hI1, .head _⟩ (fun i news ⟨_, _, _, e, _⟩ => e ▸ .head _) ?_ ?_
  · intro i v news vy hv r9 it h tk hit F N
    show (let G9 : Prop := _; G9)
    intro G9
    obtain ⟨lvs, nl, ls, rfl, hls, hlf⟩ := r9
    k_unfold
    have hi4 : i < 4 := by
      have := (List.getElem?_eq_some_iff.mp hv).1
      omega
    have hl8 := lefts_len (by omega) hlf
    show (let G9 : Prop := _; G9)
    intro G9
    obtain ⟨xn, xt, rfl⟩ := IntsAre.get' hI2 hv
    k_unfold
    clear hI1
    k_steps
    rename Fr _ _ _ _ => FF
    rename News _ _ _ _ => NN
    rename _ < ls.length => hpl
    refine UnrEnd.intro FF NN ((D2, listOf ws2.toArray 0) :: (D1, listOf _ (nl + 1)) :: (cl, listOf cvs.toArray nc) :: rest) (fun q hq => hq) (List.forall_mem_cons.mpr ⟨neN (by dsimp only; omega), List.forall_mem_cons.mpr ⟨neN (by dsimp only; omega), List.forall_mem_cons.mpr ⟨neN (by dsimp only; omega), fun q hq => Nat.ne_of_lt (hI q (.tail _ (.tail _ (.tail _ hq))))⟩⟩⟩) ⟨⟨_, _, _, rfl, IntsAre.app' (IntsAre.take' hls _) (IntsAre.drop' hls _), lefts_step hlf (by omega)⟩, fun z z1 z2 => by simp [z1]⟩
  · intro v v' news h tk r9 F N
    show (let G9 : Prop := _; G9)
    intro G9
    obtain ⟨lvs, nl, ls, rfl, hls, hlf⟩ := r9
    k_unfold
    rw [hw4] at hlf
    have hl4 := lefts_len (by omega) hlf
    clear hI1 hI2 hC2
    obtain ⟨a, b, c, d, rfl⟩ : ∃ a b c d, ls = [a, b, c, d] := by
      match ls, hl4 with
      | [a, b, c, d], _ => exact ⟨a, b, c, d, rfl⟩
    cases hls with
    | cons a ta hls =>
    cases hls with
    | cons b tb hls =>
    cases hls with
    | cons c tc hls =>
    cases hls with
    | cons d td hls =>
    cases hls
    k_steps
    rename News _ _ _ _ => NN
    rename _ ∧ _ ∧ _ ∧ AllLt _ rest => lD
    exact hret _ _ _ _ ⟨_, _, a, b, c, d, _, _, _, _, rfl, hlf, allLt_mem lD.2.2.2, lD.2.2.1, rfl⟩ (by k_asm) (cb_drop NN (fun q hq => by
      rcases List.mem_cons.mp hq with rfl | hq
      · exact .head _
      · exact .tail _ (.tail _ (.tail _ hq))))
end
end
section
open PySem.Builtin.Str in
theorem chain_count {l : List Nat} {c : Nat} : ∀ {cuts : List Nat} {a f : Nat}, StrLaws.ChainG (Tx l) (Tx [c]) (Tx l).length a cuts f → (∀ k, f ≤ k → ¬ StrLaws.At (Tx l) (Tx [c]) (Tx l).length k) → cuts.length = (l.drop a).count c
  | [], a, f, h, hn => by
    have e : f = a := h
    subst e
    symm
    rw [List.length_nil, List.count_eq_zero]
    intro hm
    obtain ⟨j, hj⟩ := List.getElem?_of_mem hm
    rw [List.getElem?_drop] at hj
    refine hn (f + j) (Nat.le_add_right _ _) ⟨?_, (subAt_one l c _).mpr hj⟩
    have := (List.getElem?_eq_some_iff.mp hj).1
    show f + j + 1 ≤ l.length
    omega
  | i :: r, a, f, h, hn => by
    obtain ⟨h1, h2, h3, h4⟩ := h
    have ih := chain_count h4 hn
    have hi := (subAt_one l c i).mp h2.2
    have hil : i < l.length := (List.getElem?_eq_some_iff.mp hi).1
    have hie : l[i] = c := (List.getElem?_eq_some_iff.mp hi).2
    have e : l.drop a = (l.drop a).take (i - a) ++ c :: l.drop (i + 1) := by
      have q : (l.drop a).drop (i - a) = c :: l.drop (i + 1) := by
        rw [List.drop_drop, show a + (i - a) = i by omega, List.drop_eq_getElem_cons hil, hie]
      rw [← q, List.take_append_drop]
    have z : ((l.drop a).take (i - a)).count c = 0 := by
      rw [List.count_eq_zero]
      intro hm
      obtain ⟨j, hj⟩ := List.getElem?_of_mem hm
      have hjl : j < i - a := by
        have := (List.getElem?_eq_some_iff.mp hj).1
        rw [List.length_take] at this
        omega
      rw [List.getElem?_take_of_lt hjl, List.getElem?_drop] at hj
      refine h3 (a + j) (Nat.le_add_right _ _) (by omega) ⟨?_, (subAt_one l c _).mpr hj⟩
      have := (List.getElem?_eq_some_iff.mp hj).1
      show a + j + 1 ≤ l.length
      omega
    rw [e, List.count_append, z, List.count_cons, List.length_cons, ih]
    show (l.drop (i + 1)).count c + 1 = _
    simp
theorem count_one (l : List Nat) (c : Nat) : Txt.count (Tx l) (Tx [c]) = (l.count c : Int) := by
  obtain ⟨f, h1, h2⟩ := StrLaws.occ_tight (Tx l) (Tx [c]) (Nat.le_refl 1)
  have := chain_count h1 h2
  rw [List.drop_zero] at this
  unfold Txt.count
  rw [this]
theorem count_call {prog : Program} {w : World} {A : Around} {E : Value → Shared → Prop} {s : Shared} {x : Str} {l : List Nat} {t u : Tok} {Q : Value → Shared → Prop} (hx : x = Tx l) (h : ∀ t tk, Q (.int (l.count 10 : Int) t) { s with toks := tk }) :
    wpAny (model prog w) A (call (.builtin "str.count") [.str x t, .str (Str.ofString "\n") u]) Q E s := by
  subst hx
  rw [lit_nl]
  refine SC.count ?_
  rw [count_one]
  exact h _ _
theorem get_drop {tx l : List Nat} {pos : Nat} (h : tx.drop pos = l) (j : Nat) : tx[pos + j]? = l[j]? := by rw [← h, List.getElem?_drop]
theorem drop_drop' {tx l : List Nat} {pos : Nat} (h : tx.drop pos = l) (m : Nat) : tx.drop (pos + m) = l.drop m := by rw [← h, List.drop_drop]
theorem lnx_count (ln : Int) (c : Nat) : lnx ln c = ln + (([c].count 10 : Nat) : Int) := by
  unfold lnx
  by_cases h : c = 10
  · subst h; rfl
  · rw [if_neg h]; simp [h]
theorem L7_ne {c : Nat} (h : c ∈ L7) : c ≠ 9 ∧ c ≠ 10 := by revert c; decide
/-- the tokens of a text, behind a tabulator that a quoted word left or not -/
theorem run_text {tx : List Nat} : ∀ {its : List (Nat × Nat)} {sk : List Nat} {pos : Nat} {ln : Int}, (∀ q ∈ its, q.2 ∈ L7) → (sk = [] ∨ sk = [9]) → tx.drop pos = sk ++ textM its → pos ≤ tx.length →
    TokRun tx pos ln [] (words (its.map Prod.snd)) tx.length (ln + ((textM its).count 10 : Nat))
  | [], sk, pos, ln, _, hsk, hd, hp => by
    have hlen := congrArg List.length hd
    rw [List.length_drop] at hlen
    have e0 : textM [] = [] := rfl
    rw [e0, List.append_nil] at hd hlen
    have el : (ln + (([] : List Nat).count 10 : Nat) : Int) = ln := by simp
    rw [e0, el]
    rcases hsk with rfl | rfl
    · have hpe : pos = tx.length := by simp at hlen; omega
      have hn : tx[pos]? = none := by simp [hpe]
      have := TokRun.done (tx := tx) (pos := pos) (ln := ln) (.inr ⟨by rw [hn]; exact fun h => (nomatch h), rfl, rfl⟩) (.ended hp hn)
      rw [hpe] at this
      rw [hpe]; exact this
    · have hpe : pos + 1 = tx.length := by simp at hlen; omega
      have h9 : tx[pos]? = some 9 := by have := get_drop hd 0; simpa using this
      have hn : tx[pos + 1]? = none := by simp [hpe]
      have := TokRun.done (tx := tx) (pos := pos) (ln := ln) (.inl ⟨h9, rfl, rfl⟩) (.ended (by omega) hn)
      rw [hpe] at this
      exact this
  | (k, c) :: r, sk, pos, ln, hin, hsk, hd, hp => by
    have hc7 : c ∈ L7 := hin (k, c) (.head _)
    obtain ⟨n9, n10⟩ := L7_ne hc7
    have hin' : ∀ q ∈ r, q.2 ∈ L7 := fun q hq => hin q (.tail _ hq)
    have ht : textM ((k, c) :: r) = item (k, c) ++ textM r := rfl
    rw [ht] at hd
    have hw : words (((k, c) :: r).map Prod.snd) = [c] :: words (r.map Prod.snd) := rfl
    rw [hw, ht, List.count_append]
    obtain ⟨m, hm⟩ : ∃ m, m = sk.length := ⟨_, rfl⟩
    have hd1 : tx.drop (pos + m) = item (k, c) ++ textM r := by
      have := drop_drop' hd m
      rw [hm, List.drop_left] at this
      rw [hm]; exact this
    have hlen := congrArg List.length hd1
    rw [List.length_drop, List.length_append] at hlen
    have hi0 : ∃ b, (item (k, c))[0]? = some b ∧ b ≠ 9 := by
      match k with
      | 0 => exact ⟨c, rfl, n9⟩
      | 1 => exact ⟨34, rfl, by decide⟩
      | k + 2 => exact ⟨92, rfl, by decide⟩
    have hskip : (tx[pos]? = some 9 ∧ pos + m = pos + 1 ∧ ln = ln) ∨ (tx[pos]? ≠ some 9 ∧ pos + m = pos ∧ ln = ln) := by
      rcases hsk with rfl | rfl
      · refine .inr ⟨?_, by rw [hm]; rfl, rfl⟩
        have h0 := get_drop hd 0
        rw [Nat.add_zero, List.nil_append] at h0
        obtain ⟨b, hb, hb9⟩ := hi0
        rw [h0, List.getElem?_append_left (List.getElem?_eq_some_iff.mp hb).1, hb]
        exact fun e => hb9 (Option.some.inj e)
      · refine .inl ⟨?_, by rw [hm]; rfl, rfl⟩
        have h0 := get_drop hd 0
        simpa using h0
    have g := get_drop hd1
    match k with
    | 0 =>
      have e : item (0, c) = [c, 10] := rfl
      rw [e] at hd1 g hlen
      have d2 : tx.drop (pos + m + 1 + 1) = [] ++ textM r := by have := drop_drop' hd1 2; simpa [Nat.add_assoc] using this
      have ih := run_text (ln := lnx (lnx ln c) 10) hin' (.inl rfl) d2 (by simp at hlen; omega)
      have el : (lnx (lnx ln c) 10 + ((textM r).count 10 : Nat) : Int) = ln + (([c, 10].count 10 + (textM r).count 10 : Nat) : Int) := by
        simp [lnx, n10]; omega
      rw [el] at ih
      exact .lex hskip (.bare hc7 (by simpa using g 0) (by simpa using g 1)) (List.cons_ne_nil _ _) ih
    | 1 =>
      have e : item (1, c) = [34, c, 34, 9] := rfl
      rw [e] at hd1 g hlen
      have d2 : tx.drop (pos + m + 1 + 1 + 1) = [9] ++ textM r := by have := drop_drop' hd1 3; simpa [Nat.add_assoc] using this
      have ih := run_text (ln := lnx (lnx (lnx ln 34) c) 34) hin' (.inr rfl) d2 (by simp at hlen; omega)
      have el : (lnx (lnx (lnx ln 34) c) 34 + ((textM r).count 10 : Nat) : Int) = ln + (([34, c, 34, 9].count 10 + (textM r).count 10 : Nat) : Int) := by
        simp [lnx, n10]
      rw [el] at ih
      exact .lex hskip (.quoted hc7 (by simpa using g 0) (by simpa using g 1) (by simpa using g 2)) (List.cons_ne_nil _ _) ih
    | k + 2 =>
      have e : item (k + 2, c) = [92, c, 32] := rfl
      rw [e] at hd1 g hlen
      have d2 : tx.drop (pos + m + 1 + 1 + 1) = [] ++ textM r := by have := drop_drop' hd1 3; simpa [Nat.add_assoc] using this
      have ih := run_text (ln := lnx (lnx (lnx ln 92) c) 32) hin' (.inl rfl) d2 (by simp at hlen; omega)
      have el : (lnx (lnx (lnx ln 92) c) 32 + ((textM r).count 10 : Nat) : Int) = ln + (([92, c, 32].count 10 + (textM r).count 10 : Nat) : Int) := by
        simp [lnx, n10]
      rw [el] at ih
      exact .lex hskip (.slashed hc7 (by simpa using g 0) (by simpa using g 1) (by simpa using g 2)) (List.cons_ne_nil _ _) ih
end
section
theorem fill13 : PySem.Challenge.rw_kl0089_01 = PySem.Challenge.rw_kl0089_01 ∧ hd.heap_39 = hd.heap_39 := by k_fill; exact ⟨rfl, rfl⟩
/-- the cut places -/
noncomputable def cutsL : List (Nat × Nat × Nat × Nat) := [(1, 2, 2, 3), (1, 2, 2, 4), (1, 2, 2, 5), (1, 2, 2, 6), (1, 2, 2, 7), (1, 2, 3, 4), (1, 2, 3, 5), (1, 2, 3, 6), (1, 2, 3, 7), (1, 2, 4, 5), (1, 2, 4, 6), (1, 2, 4, 7), (1, 2, 5, 6), (1, 2, 5, 7), (1, 2, 6, 7), (1, 3, 3, 4), (1, 3, 3, 5), (1, 3, 3, 6), (1, 3, 3, 7), (1, 3, 4, 5), (1, 3, 4, 6), (1, 3, 4, 7), (1, 3, 5, 6), (1, 3, 5, 7), (1, 3, 6, 7), (1, 4, 4, 5), (1, 4, 4, 6), (1, 4, 4, 7), (1, 4, 5, 6), (1, 4, 5, 7), (1, 4, 6, 7), (1, 5, 5, 6), (1, 5, 5, 7), (1, 5, 6, 7), (1, 6, 6, 7), (2, 3, 3, 4), (2, 3, 3, 5), (2, 3, 3, 6), (2, 3, 3, 7), (2, 3, 4, 5), (2, 3, 4, 6), (2, 3, 4, 7), (2, 3, 5, 6), (2, 3, 5, 7), (2, 3, 6, 7), (2, 4, 4, 5), (2, 4, 4, 6), (2, 4, 4, 7), (2, 4, 5, 6), (2, 4, 5, 7), (2, 4, 6, 7), (2, 5, 5, 6), (2, 5, 5, 7), (2, 5, 6, 7), (2, 6, 6, 7), (3, 4, 4, 5), (3, 4, 4, 6), (3, 4, 4, 7), (3, 4, 5, 6), (3, 4, 5, 7), (3, 4, 6, 7), (3, 5, 5, 6), (3, 5, 5, 7), (3, 5, 6, 7), (3, 6, 6, 7), (4, 5, 5, 6), (4, 5, 5, 7), (4, 5, 6, 7), (4, 6, 6, 7), (5, 6, 6, 7)]
noncomputable def cutOf : List Int → Option (Nat × Nat × Nat × Nat)
  | [a, b, c, d] => some (a.toNat, b.toNat, (c - 1).toNat, (d - 1).toNat)
  | _ => none
noncomputable def cutGood (l : List Int) : Bool := match l with
  | [a, b, c, d] => decide (0 ≤ a ∧ 0 ≤ b ∧ 0 ≤ c - 1 ∧ 0 ≤ d - 1) && cutsL.contains (a.toNat, b.toNat, (c - 1).toNat, (d - 1).toNat)
  | _ => false
set_option maxHeartbeats 0 in
theorem lefts_good : (lefts 4).all cutGood = true := by decide +kernel
theorem cuts_of {a b c d : Int} (h : [a, b, c, d] ∈ lefts 4) : ∃ i j k l : Nat, a = (i : Int) ∧ b = (j : Int) ∧ c - 1 = (k : Int) ∧ d - 1 = (l : Int) ∧ (i, j, k, l) ∈ cutsL := by
  have hg := List.all_eq_true.mp lefts_good _ h
  unfold cutGood at hg
  rw [Bool.and_eq_true, decide_eq_true_eq] at hg
  obtain ⟨⟨h1, h2, h3, h4⟩, h5⟩ := hg
  exact ⟨a.toNat, b.toNat, (c - 1).toNat, (d - 1).toNat, by omega, by omega, by omega, by omega, by simpa using h5⟩
/-- a block interchange -/
noncomputable def secL (row : List Nat) (i j k l : Nat) : List Nat := row.take i ++ (cut row k l ++ (cut row j k ++ (cut row i j ++ row.drop l)))
theorem lit_a : Str.ofString "a" = Tx [97] := by decide +kernel
theorem order_mem : ∀ {k : Nat} {o : List Nat}, o ∈ allOrders k → ∀ c ∈ o, 98 ≤ c ∧ c < 98 + k
  | 0, o, h, c, hc => by simp [allOrders] at h; rw [h] at hc; cases hc
  | k + 1, o, h, c, hc => by
    unfold allOrders at h
    obtain ⟨o', h1, h2⟩ := List.mem_flatMap.mp h
    obtain ⟨pl, hpl, rfl⟩ := List.mem_map.mp h2
    have ih := order_mem h1
    rcases List.mem_append.mp hc with hc | hc
    · have := ih c (List.mem_of_mem_take hc); omega
    · rcases List.mem_cons.mp hc with rfl | hc
      · omega
      · have := ih c (List.mem_of_mem_drop hc); omega
theorem L7_of {c : Nat} (h1 : 97 ≤ c) (h2 : c < 104) : c ∈ L7 := by
  have : c = 97 ∨ c = 98 ∨ c = 99 ∨ c = 100 ∨ c = 101 ∨ c = 102 ∨ c = 103 := by omega
  rcases this with rfl | rfl | rfl | rfl | rfl | rfl | rfl <;> decide
theorem order_in {o : List Nat} (h : o ∈ allOrders 6) : ∀ c ∈ o, c ∈ L7 := fun c hc => by
  have := order_mem h c hc
  exact L7_of (by omega) (by omega)
structure LawP (row sec : List Nat) (r r2 n n2 : Nat) : Prop where
  m1 : movesM 8 row = some r
  m2 : movesM 8 sec = some r2
  g1 : ringsM row = some n
  g2 : ringsM sec = some n2
  e1 : n + 2 * r = 7
  e2 : n2 + 2 * r2 = 7
  n1 : r ≤ r2 + 1
  n2' : r2 ≤ r + 1
  l1 : row.length = 7
  i1 : ∀ c ∈ row, c ∈ L7
  l2 : sec.length = 7
  i2 : ∀ c ∈ sec, c ∈ L7
/-! the plain law: every row of seven, every block interchange -/
theorem order_perm : ∀ {k : Nat} {o : List Nat}, o.Perm (List.range' 98 k) → o ∈ allOrders k
  | 0, o, h => by
    have : o = [] := by simpa using h
    subst this
    exact .head _
  | k + 1, o, h => by
    rw [List.range'_concat] at h
    have hm : 98 + k ∈ o := h.symm.subset (by simp)
    obtain ⟨x, y, rfl⟩ := List.append_of_mem hm
    have hp : ((98 + k) :: (x ++ y)).Perm ((98 + k) :: List.range' 98 k) := (List.perm_middle.symm.trans h).trans (by simpa using List.perm_append_comm (l₁ := List.range' 98 k) (l₂ := [98 + k]))
    have hq := hp.cons_inv
    have ih := order_perm hq
    have hlen := order_len ih
    rw [List.length_append] at hlen
    have := order_step ih (pl := x.length) (by omega)
    rwa [List.take_left, List.drop_left] at this
theorem perm_order : ∀ {k : Nat} {o : List Nat}, o ∈ allOrders k → o.Perm (List.range' 98 k)
  | 0, o, h => by simp [allOrders] at h; rw [h]; exact .nil
  | k + 1, o, h => by
    unfold allOrders at h
    obtain ⟨o', h1, h2⟩ := List.mem_flatMap.mp h
    obtain ⟨pl, _, rfl⟩ := List.mem_map.mp h2
    rw [List.range'_concat]
    refine List.perm_middle.trans ?_
    rw [List.take_append_drop]
    exact ((perm_order h1).cons _).trans (by simpa using List.perm_append_comm (l₁ := [98 + k]) (l₂ := List.range' 98 k))
theorem drop_cut (row : List Nat) {i j : Nat} (h : i ≤ j) : row.drop i = cut row i j ++ row.drop j := by
  have e : row.drop j = (row.drop i).drop (j - i) := by rw [List.drop_drop, show i + (j - i) = j by omega]
  rw [e]
  exact (List.take_append_drop _ _).symm
theorem row_parts (row : List Nat) {i j k l : Nat} (h1 : i ≤ j) (h2 : j ≤ k) (h3 : k ≤ l) : row = row.take i ++ (cut row i j ++ (cut row j k ++ (cut row k l ++ row.drop l))) := by
  rw [← drop_cut row h3, ← drop_cut row h2, ← drop_cut row h1, List.take_append_drop]
theorem sec_perm (row : List Nat) {i j k l : Nat} (h1 : i ≤ j) (h2 : j ≤ k) (h3 : k ≤ l) : (secL row i j k l).Perm row := by
  conv => rhs; rw [row_parts row h1 h2 h3]
  unfold secL
  refine List.Perm.append_left _ ?_
  generalize cut row i j = B
  generalize cut row j k = C
  generalize cut row k l = D
  generalize row.drop l = E
  have e1 : (D ++ (C ++ (B ++ E))).Perm ((B ++ E) ++ (D ++ C)) := by
    rw [← List.append_assoc]; exact List.perm_append_comm
  have e2 : ((B ++ E) ++ (D ++ C)).Perm (B ++ (E ++ (C ++ D))) := by
    rw [List.append_assoc]
    exact List.Perm.append_left _ (List.Perm.append_left _ List.perm_append_comm)
  have e3 : (B ++ (E ++ (C ++ D))).Perm (B ++ ((C ++ D) ++ E)) := List.Perm.append_left _ List.perm_append_comm
  refine (e1.trans (e2.trans e3)).trans ?_
  rw [List.append_assoc]
/-- a row as a number, eight a place -/
noncomputable def enc : List Nat → Nat
  | [] => 0
  | c :: r => Nat.add (Nat.sub c 97) (Nat.mul 8 (enc r))
theorem enc_cons (c : Nat) (r : List Nat) : enc (c :: r) = (c - 97) + 8 * enc r := rfl
theorem enc_app : ∀ a b : List Nat, enc (a ++ b) = enc a + 8 ^ a.length * enc b
  | [], b => by simp [enc]
  | c :: r, b => by
    rw [List.cons_append, enc_cons, enc_cons, enc_app r b, List.length_cons, Nat.pow_succ, Nat.mul_add]
    rw [Nat.mul_comm (8 ^ r.length) 8, Nat.mul_assoc]
    omega
theorem enc_lt : ∀ {a : List Nat}, (∀ c ∈ a, c < 105) → enc a < 8 ^ a.length
  | [], _ => by decide
  | c :: r, h => by
    have ih := enc_lt (a := r) fun x hx => h x (.tail _ hx)
    have hc := h c (.head _)
    rw [enc_cons, List.length_cons, Nat.pow_succ]
    omega
theorem enc_take {l : List Nat} (h : ∀ c ∈ l, c < 105) (n : Nat) : enc (l.take n) = enc l % 8 ^ n := by
  have e : enc l = enc (l.take n) + 8 ^ (l.take n).length * enc (l.drop n) := by rw [← enc_app, List.take_append_drop]
  have hlt := enc_lt (a := l.take n) fun c hc => h c (List.mem_of_mem_take hc)
  by_cases hn : n ≤ l.length
  · rw [List.length_take, Nat.min_eq_left hn] at e hlt
    rw [e, Nat.add_mul_mod_self_left, Nat.mod_eq_of_lt hlt]
  · rw [List.take_of_length_le (by omega)]
    refine (Nat.mod_eq_of_lt (Nat.lt_of_lt_of_le (enc_lt h) (Nat.pow_le_pow_right (by decide) (by omega)))).symm
theorem enc_drop {l : List Nat} (h : ∀ c ∈ l, c < 105) (n : Nat) : enc (l.drop n) = enc l / 8 ^ n := by
  have e : enc l = enc (l.take n) + 8 ^ (l.take n).length * enc (l.drop n) := by rw [← enc_app, List.take_append_drop]
  have hlt := enc_lt (a := l.take n) fun c hc => h c (List.mem_of_mem_take hc)
  by_cases hn : n ≤ l.length
  · rw [List.length_take, Nat.min_eq_left hn] at e hlt
    rw [e, Nat.add_mul_div_left _ _ (Nat.pow_pos (by decide)), Nat.div_eq_of_lt hlt, Nat.zero_add]
  · rw [List.drop_eq_nil_of_le (by omega)]
    exact (Nat.div_eq_of_lt (Nat.lt_of_lt_of_le (enc_lt h) (Nat.pow_le_pow_right (by decide) (by omega)))).symm
theorem enc_cut {l : List Nat} (h : ∀ c ∈ l, c < 105) (i j : Nat) : enc (cut l i j) = enc l / 8 ^ i % 8 ^ (j - i) := by
  unfold cut
  rw [enc_take fun c hc => h c (List.mem_of_mem_drop hc), enc_drop h]
/-- a block interchange of a row's number -/
noncomputable def secN (r : Nat) (i j k l : Nat) : Nat :=
  Nat.add (Nat.mod r (Nat.pow 8 i)) (Nat.mul (Nat.pow 8 i) (Nat.add (Nat.mod (Nat.div r (Nat.pow 8 k)) (Nat.pow 8 (Nat.sub l k)))
    (Nat.mul (Nat.pow 8 (Nat.sub l k)) (Nat.add (Nat.mod (Nat.div r (Nat.pow 8 j)) (Nat.pow 8 (Nat.sub k j))) (Nat.mul (Nat.pow 8 (Nat.sub k j)) (Nat.add (Nat.mod (Nat.div r (Nat.pow 8 i)) (Nat.pow 8 (Nat.sub j i))) (Nat.mul (Nat.pow 8 (Nat.sub j i)) (Nat.div r (Nat.pow 8 l)))))))))
theorem cut_len' (row : List Nat) {i j : Nat} (h : i ≤ j) (hj : j ≤ row.length) : (cut row i j).length = j - i := by
  unfold cut
  rw [List.length_take, List.length_drop]
  omega
theorem enc_sec {row : List Nat} (h : ∀ c ∈ row, c < 105) {i j k l : Nat} (h1 : i ≤ j) (h2 : j ≤ k) (h3 : k ≤ l) (h4 : l ≤ row.length) : enc (secL row i j k l) = secN (enc row) i j k l := by
  unfold secL
  rw [enc_app, enc_app, enc_app, enc_app, enc_take h, enc_cut h, enc_cut h, enc_cut h, enc_drop h, cut_len' row h1 (by omega), cut_len' row h2 (by omega), cut_len' row h3 h4, List.length_take, Nat.min_eq_left (by omega)]
  rfl
/-- the moves of each row, two bits a row, at its number modulo 5351 -/
noncomputable def movT (n : Nat) : Nat := Nat.mod (Nat.div 209886062539192504176081971688628197626009926025817100551687536381346712379004211993022062128833408784542133054492694701612898202407146001468868637151923560777510079407735064545398624805503629119038543824306240131083082308240800951672284207827727972688868340165783335292839859105609821338433194877962486459059180945887662557789044004424479155906519171007571306102883001755749674960651048291300997095295021983559559653365566378596240996818583149173538049903688062736340047078835355459872978248900919487621670317656449751839174909716710881853617284747891221264376845012629189415801444649743411870994681105991414202825080265544672775741856389895067207933776256642170037170292744591461268303731033364824437519309764255312434101663368230194519354654021929011777003601270761786277785547968597846385005079337915416346217386629858158173964619856299642808629900978030554026556117861455096323333872435099071384620191924008459560662354373485533379380658487470811205115903605042555845633886702177411555569619519332118685306642604309620515811817528950052000715600300167067624547228805836897929443331266854018735261224848128883075907311560853089548371959792619993694928953999436945883418210043689028110061105786246584485984754497711971931491654696388753539211362438061593228951814415929609538768792799565980712955644289404933448650984610814514925104009352630713943299856380067892236992836616175643633612930626102848245408551835200463393558434412573278736127232167902595285468191326556781504254323446324035263974863304925260320180318269053080520182317070442797319731459049870740281199237887809394557150285203726425175949876741043303513527841863887787598720943487992054790190837811166136836897600356126067738060358173817646898776731591894026540101033061876385850250363306566542557232624347038227996304506578174011954537094008254442890345046529452342578500007065977430173907047490762909030917365049476897400876825215576372077998762274917174304962020174613419667957414812349235331577347510181964945097920649168002656009253585740694788693853477099633454115131303979264704314690230761836952151645122162357042991777198803993258051460041543655333967691712318377276109324550907450963279957860513897709110609875191951971720641098749259764494868908183442058271982695144379352222202535586980752291577944730487554204447967808294551528447742788894795322094730111197897389480391813953834216362472031121406885544601655036880875069290289071316935994342810233463804193138194340814937076728894368211669359375102409568408122594939151860562025664294430306898112289467297748734425315272924820681204868905608969912849689275816849797917591977106845259873997968870488473709502899947880249274419242432038522742767713726799941941501353887430360024714968799981517383377967204047021870370938920997604555553237258508515011984054105356828685375502341669052047229077082086578441260294385054345284643728231448193961019968878841587297207380542761103094594322327481194686627872943025112478682732116021896940469346985747221022946641606822883663772890772871514040425314328327475516912361612107983416566195216060547223952415270633352911102731933978206247850025666522783115235545253475909051552359929370369711043771490889554859209745224840606975273953268068962514987312480256 (Nat.pow 4 (Nat.mod n 5351))) 4
noncomputable def near (a b : Nat) : Bool := Nat.ble a (Nat.add b 1) && Nat.ble b (Nat.add a 1)
noncomputable def pairOk (r m : Nat) (c : Nat × Nat × Nat × Nat) : Bool := near m (movT (secN r c.1 c.2.1 c.2.2.1 c.2.2.2))
noncomputable def optIs : Option Nat → Nat → Bool
  | some a, b => Nat.beq a b
  | none, _ => false
theorem optIs_eq {x : Option Nat} {b : Nat} (h : optIs x b = true) : x = some b := by
  cases x with
  | none => cases h
  | some a => exact congrArg some (Nat.eq_of_beq_eq_true h)
noncomputable def rowOk (o : List Nat) : Bool := optIs (movesM 8 (97 :: o)) (movT (enc (97 :: o))) && optIs (ringsM (97 :: o)) (Nat.sub 7 (Nat.mul 2 (movT (enc (97 :: o)))))
theorem all_split {α : Type} {f : α → Bool} (n : Nat) {l : List α} (h1 : (l.take n).all f = true) (h2 : (l.drop n).all f = true) : l.all f = true := by
  rw [← List.take_append_drop n l, List.all_append, h1, h2]; rfl
set_option maxHeartbeats 0 in
theorem rows_a : ((allOrders 6).take 60).all rowOk = true := by decide +kernel
set_option maxHeartbeats 0 in
theorem rows_b : (((allOrders 6).drop 60).take 60).all rowOk = true := by decide +kernel
set_option maxHeartbeats 0 in
theorem rows_c : ((((allOrders 6).drop 60).drop 60).take 60).all rowOk = true := by decide +kernel
set_option maxHeartbeats 0 in
theorem rows_d : (((((allOrders 6).drop 60).drop 60).drop 60).take 60).all rowOk = true := by decide +kernel
set_option maxHeartbeats 0 in
theorem rows_e : ((((((allOrders 6).drop 60).drop 60).drop 60).drop 60).take 60).all rowOk = true := by decide +kernel
set_option maxHeartbeats 0 in
theorem rows_f : (((((((allOrders 6).drop 60).drop 60).drop 60).drop 60).drop 60).take 60).all rowOk = true := by decide +kernel
set_option maxHeartbeats 0 in
theorem rows_g : ((((((((allOrders 6).drop 60).drop 60).drop 60).drop 60).drop 60).drop 60).take 60).all rowOk = true := by decide +kernel
set_option maxHeartbeats 0 in
theorem rows_h : (((((((((allOrders 6).drop 60).drop 60).drop 60).drop 60).drop 60).drop 60).drop 60).take 60).all rowOk = true := by decide +kernel
set_option maxHeartbeats 0 in
theorem rows_i : ((((((((((allOrders 6).drop 60).drop 60).drop 60).drop 60).drop 60).drop 60).drop 60).drop 60).take 60).all rowOk = true := by decide +kernel
set_option maxHeartbeats 0 in
theorem rows_j : (((((((((((allOrders 6).drop 60).drop 60).drop 60).drop 60).drop 60).drop 60).drop 60).drop 60).drop 60).take 60).all rowOk = true := by decide +kernel
set_option maxHeartbeats 0 in
theorem rows_k : ((((((((((((allOrders 6).drop 60).drop 60).drop 60).drop 60).drop 60).drop 60).drop 60).drop 60).drop 60).drop 60).take 60).all rowOk = true := by decide +kernel
set_option maxHeartbeats 0 in
theorem rows_l : ((((((((((((allOrders 6).drop 60).drop 60).drop 60).drop 60).drop 60).drop 60).drop 60).drop 60).drop 60).drop 60).drop 60).all rowOk = true := by decide +kernel
theorem rows_ok : (allOrders 6).all rowOk = true := all_split 60 rows_a (all_split 60 rows_b (all_split 60 rows_c (all_split 60 rows_d (all_split 60 rows_e (all_split 60 rows_f (all_split 60 rows_g (all_split 60 rows_h (all_split 60 rows_i (all_split 60 rows_j (all_split 60 rows_k rows_l))))))))))
set_option maxHeartbeats 0 in
theorem pairs_ok : (allOrders 6).all (fun o => cutsL.all (pairOk (enc (97 :: o)) (movT (enc (97 :: o))))) = true := by decide +kernel
theorem cuts_ord : cutsL.all (fun c => decide (1 ≤ c.1 ∧ c.1 ≤ c.2.1 ∧ c.2.1 ≤ c.2.2.1 ∧ c.2.2.1 ≤ c.2.2.2 ∧ c.2.2.2 ≤ 7)) = true := by decide +kernel
theorem movT_le (n : Nat) : movT n ≤ 3 := Nat.le_of_lt_succ (Nat.mod_lt _ (by decide))
theorem row_ok {o : List Nat} (ho : o ∈ allOrders 6) : movesM 8 (97 :: o) = some (movT (enc (97 :: o))) ∧ ringsM (97 :: o) = some (7 - 2 * movT (enc (97 :: o))) := by
  have h := List.all_eq_true.mp rows_ok o ho
  unfold rowOk at h
  rw [Bool.and_eq_true] at h
  exact ⟨optIs_eq h.1, optIs_eq h.2⟩
theorem law_pure {o : List Nat} (ho : o ∈ allOrders 6) {i j k l : Nat} (hc : (i, j, k, l) ∈ cutsL) : ∃ r r2 n n2, LawP (97 :: o) (secL (97 :: o) i j k l) r r2 n n2 := by
  have hcut := List.all_eq_true.mp cuts_ord _ hc
  rw [decide_eq_true_eq] at hcut
  dsimp only at hcut
  obtain ⟨c1, c2, c3, c4, c5⟩ := hcut
  have hlen : (97 :: o).length = 7 := by rw [List.length_cons, order_len ho]
  have hmem : ∀ c ∈ 97 :: o, 97 ≤ c ∧ c < 104 := by
    intro c hc
    rcases List.mem_cons.mp hc with rfl | hc
    · decide
    · have := order_mem ho c hc; omega
  have hsp := sec_perm (97 :: o) (i := i) (j := j) (k := k) (l := l) c2 c3 c4
  obtain ⟨o2, ho2⟩ : ∃ o2, secL (97 :: o) i j k l = 97 :: o2 := by
    unfold secL
    obtain ⟨i', rfl⟩ : ∃ i', i = i' + 1 := ⟨i - 1, by omega⟩
    exact ⟨_, rfl⟩
  rw [ho2] at hsp
  have ho2m : o2 ∈ allOrders 6 := order_perm (hsp.cons_inv.trans (perm_order ho))
  have henc : enc (97 :: o2) = secN (enc (97 :: o)) i j k l := by
    rw [← ho2]
    exact enc_sec (fun c hc => by have := hmem c hc; omega) c2 c3 c4 (by omega)
  have hnear := List.all_eq_true.mp (List.all_eq_true.mp pairs_ok o ho) _ hc
  unfold pairOk near at hnear
  dsimp only at hnear
  rw [← henc, Bool.and_eq_true] at hnear
  have n1 := Nat.le_of_ble_eq_true hnear.1
  have n2 := Nat.le_of_ble_eq_true hnear.2
  obtain ⟨m1, g1⟩ := row_ok ho
  obtain ⟨m2, g2⟩ := row_ok ho2m
  have b1 := movT_le (enc (97 :: o))
  have b2 := movT_le (enc (97 :: o2))
  rw [ho2]
  refine ⟨_, _, _, _, m1, m2, g1, g2, by omega, by omega, n1, n2, hlen, fun c hc => ?_, by rw [List.length_cons, order_len ho2m], fun c hc => ?_⟩
  · have := hmem c hc; exact L7_of this.1 this.2
  · rcases List.mem_cons.mp hc with rfl | hc
    · decide
    · exact order_in ho2m c hc
theorem ne_ints {prog : Program} {w : World} {A : Around} {E : Value → Shared → Prop} {s : Shared} {a b : Int} {t u : Tok} {Q : Value → Shared → Prop} (e : a = b) (h : Q (.bool false) s) : wpAny (model prog w) A (compareOp .NotEq (.int a t) (.int b u)) Q E s := by
  subst e
  refine PyProof.Rows.ne_int ?_
  simpa using h
theorem slice_nN (l : List Nat) (i : Nat) : Txt.slice (Tx l) none (some (i : Int)) = Tx (l.take i) := by rw [slice_ns _ _ (by omega), Int.toNat_natCast]
theorem slice_NN (l : List Nat) (i j : Nat) : Txt.slice (Tx l) (some (i : Int)) (some (j : Int)) = Tx (cut l i j) := by rw [slice_ss _ _ _ (by omega) (by omega), Int.toNat_natCast, Int.toNat_natCast]
theorem slice_Nn (l : List Nat) (i : Nat) : Txt.slice (Tx l) (some (i : Int)) none = Tx (l.drop i) := by rw [slice_sn _ _ (by omega), Int.toNat_natCast]
noncomputable def secP (row : List Nat) (i j k l : Nat) : List (List Nat) := [row.take i, cut row k l, cut row j k, cut row i j, row.drop l]
theorem secP_flat (row : List Nat) (i j k l : Nat) : (secP row i j k l).flatten ++ ([] : List (List Nat)).flatten = secL row i j k l := by simp [secP, secL]
theorem secP_are {row : List Nat} {i j k l : Nat} {t1 t2 t3 t4 t5 : Tok} :
    PiecesAre [.str (Txt.slice (Tx row) none (some (i : Int))) t1, .str (Txt.slice (Tx row) (some (k : Int)) (some (l : Int))) t2, .str (Txt.slice (Tx row) (some (j : Int)) (some (k : Int))) t3,
      .str (Txt.slice (Tx row) (some (i : Int)) (some (j : Int))) t4, .str (Txt.slice (Tx row) (some (l : Int)) none) t5] (secP row i j k l) := by
  rw [slice_nN, slice_NN, slice_NN, slice_NN, slice_Nn]
  exact .cons (.cons (.cons (.cons (.cons .nil))))
structure SecLens (row : List Nat) (i j k l : Nat) : Prop where
  a : (row.take i).length ≤ 7
  b : (cut row k l).length ≤ 7
  c : (cut row j k).length ≤ 7
  d : (cut row i j).length ≤ 7
  e : (row.drop l).length ≤ 7
theorem sec_lens {row : List Nat} (h : row.length = 7) (i j k l : Nat) : SecLens row i j k l :=
  ⟨by rw [List.length_take]; omega, by have := cut_len row k l; omega, by have := cut_len row j k; omega, by have := cut_len row i j; omega, by rw [List.length_drop]; omega⟩
theorem secP_len {row : List Nat} (h : row.length = 7) (i j k l : Nat) : (secP row i j k l).flatten.length ≤ 100 := by
  obtain ⟨h1, h2, h3, h4, h5⟩ := sec_lens h i j k l
  simp only [secP, List.flatten_cons, List.flatten_nil, List.length_append, List.length_nil]
  omega
theorem len_add1 {row : List Nat} {i j k l : Nat} (h : SecLens row i j k l) : (row.take i ++ cut row k l).length ≤ sizeLine := by
  have := h.a; have := h.b; rw [List.length_append, sizeLine_eq]; omega
theorem len_add2 {row : List Nat} {i j k l : Nat} (h : SecLens row i j k l) : (row.take i ++ cut row k l ++ cut row j k).length ≤ sizeLine := by
  have := h.a; have := h.b; have := h.c; rw [List.length_append, List.length_append, sizeLine_eq]; omega
theorem len_add3 {row : List Nat} {i j k l : Nat} (h : SecLens row i j k l) : (row.take i ++ cut row k l ++ cut row j k ++ cut row i j).length ≤ sizeLine := by
  have := h.a; have := h.b; have := h.c; have := h.d; rw [List.length_append, List.length_append, List.length_append, sizeLine_eq]; omega
theorem len_add4 {row : List Nat} {i j k l : Nat} (h : SecLens row i j k l) : (row.take i ++ cut row k l ++ cut row j k ++ cut row i j ++ row.drop l).length ≤ sizeLine := by
  have := h.a; have := h.b; have := h.c; have := h.d; have := h.e; rw [List.length_append, List.length_append, List.length_append, List.length_append, sizeLine_eq]; omega
theorem sec_ne (row : List Nat) (i j k l : Nat) : decide (secL row i j k l ≠ row.take i ++ cut row k l ++ cut row j k ++ cut row i j ++ row.drop l) = false := decide_eq_false fun h => h (by simp only [secL, List.append_assoc])
end
section
theorem fill14 : PySem.Challenge.rw_kl0089_01 = PySem.Challenge.rw_kl0089_01 ∧ hd.heap_39 = hd.heap_39 := by k_fill; exact ⟨rfl, rfl⟩
theorem size_7 {l : List Nat} (h : l.length = 7) : (Tx l).length ≤ sizeLine := by
  show l.length ≤ _
  rw [h, sizeLine_eq]; omega
section
variable {prog : Program} {w : World} {A : Around} {E : Value → Shared → Prop} {value : Expr} {x : Str} {l : List Nat} {t : Tok} {Q : Value → Shared → Prop} {h₀ : Heap} {L : Addr} {m : Str → Option Value} {news : List (Addr × Obj)} {i j : Nat} {ui uj : Tok} {h : Heap} {g : Array GenState} {d : Drawn} {tk : Nat} {os : OsState} {a b : Expr} {ps : Pos}
theorem sl_ns (F : Fr h₀ L h m) (N : News h₀ L h news) (hl : l.length = 7) (k : ∀ h' t' k, Fr h₀ L h' m → News h₀ L h' news → Q (.str (Tx (l.take j)) t') ⟨h', g, d, k, os⟩)
    (ht : ∀ r, letTemporaryGo value (.str (Tx l) t) r = pure () := by intro _; with_unfolding_all rfl) :
    wpAny (model prog w) A (subscriptTail value (.Slice none (some b) none ps) (.str (Tx l) t) (.ref h.objs.size)) Q E ⟨h.push { cls := .type "slice", data := .fields #[.none, .int (j : Int) uj, .none] }, g, d, tk, os⟩ :=
  slice_strN_ns (s := ⟨h, g, d, tk, os⟩) F N (fun h' t' k' F' N' => by rw [slice_nN]; exact k h' t' k' F' N') rfl ht (size_7 hl)
theorem sl_sn (F : Fr h₀ L h m) (N : News h₀ L h news) (hl : l.length = 7) (k : ∀ h' t' k, Fr h₀ L h' m → News h₀ L h' news → Q (.str (Tx (l.drop i)) t') ⟨h', g, d, k, os⟩)
    (ht : ∀ r, letTemporaryGo value (.str (Tx l) t) r = pure () := by intro _; with_unfolding_all rfl) :
    wpAny (model prog w) A (subscriptTail value (.Slice (some a) none none ps) (.str (Tx l) t) (.ref h.objs.size)) Q E ⟨h.push { cls := .type "slice", data := .fields #[.int (i : Int) ui, .none, .none] }, g, d, tk, os⟩ :=
  slice_strN_sn (s := ⟨h, g, d, tk, os⟩) F N (fun h' t' k' F' N' => by rw [slice_Nn]; exact k h' t' k' F' N') rfl ht (size_7 hl)
theorem sl_ss (F : Fr h₀ L h m) (N : News h₀ L h news) (hl : l.length = 7) (k : ∀ h' t' k, Fr h₀ L h' m → News h₀ L h' news → Q (.str (Tx (cut l i j)) t') ⟨h', g, d, k, os⟩)
    (ht : ∀ r, letTemporaryGo value (.str (Tx l) t) r = pure () := by intro _; with_unfolding_all rfl) :
    wpAny (model prog w) A (subscriptTail value (.Slice (some a) (some b) none ps) (.str (Tx l) t) (.ref h.objs.size)) Q E ⟨h.push { cls := .type "slice", data := .fields #[.int (i : Int) ui, .int (j : Int) uj, .none] }, g, d, tk, os⟩ :=
  slice_strN_ss (s := ⟨h, g, d, tk, os⟩) F N (fun h' t' k' F' N' => by rw [slice_NN]; exact k h' t' k' F' N') rfl ht (size_7 hl)
end
theorem secP_are2 {row : List Nat} {i j k l : Nat} {t1 t2 t3 t4 t5 : Tok} :
    PiecesAre [.str (Tx (row.take i)) t1, .str (Tx (cut row k l)) t2, .str (Tx (cut row j k)) t3, .str (Tx (cut row i j)) t4, .str (Tx (row.drop l)) t5] (secP row i j k l) := .cons (.cons (.cons (.cons (.cons .nil))))
theorem mend_of {w : World} {K : Frag} {p : Program} {loose : List Str} {mean : ExcName → Option Value} {mg mb : Str → Option Value} {tx : List Nat} {a : MA} {tp cl : Addr} {oT oC oY oX : Obj} (hm : MOk w K p loose mean mg mb tx a) (hr2 : RestOk a [(tp, oT), (cl, oC), (280, oY), (325, oX)])
    (h1 : @LT.lt Nat _ 325 a.ct) (h2 : @LT.lt Nat _ 325 cl) (h3 : @LT.lt Nat _ 325 tp) : MEnd w K p loose mean mg mb tx a tx.length [(tp, oT), (cl, oC), (280, oY)] := by
  show (let G9 : Prop := _; G9)
  intro G9
  obtain ⟨q1, q2, q3, q4, q5, q6, q7, q8, q9⟩ := hm.ord
  k_unfold
  refine ⟨hm, ⟨Nat.le_refl _, by simp⟩, ⟨fun q hq => hr2.al q ?_, fun q hq => hr2.pb q ?_, fun q hq => hr2.d q ?_⟩, ?_⟩
  · simp only [List.mem_cons, List.not_mem_nil, or_false] at hq ⊢; rcases hq with h | h | h <;> simp [h]
  · simp only [List.mem_cons, List.not_mem_nil, or_false] at hq ⊢; rcases hq with h | h | h <;> simp [h]
  · simp only [List.mem_cons, List.not_mem_nil, or_false] at hq ⊢; rcases hq with h | h | h <;> simp [h]
  · intro q hq
    simp only [List.mem_cons, List.not_mem_nil, or_false] at hq
    rcases hq with rfl | rfl | rfl | rfl | rfl | rfl | rfl | rfl | rfl | rfl | rfl | rfl | rfl <;> exact neN (by dsimp only; omega)
theorem grown_of {h₀ h : Heap} {L : Addr} {a : MA} {p2 : Nat} {l2 : Int} {tp cl : Addr} {oT oC : Obj} {ps : Array Value} {X : List (Addr × Obj)} (hX : MS a p2 l2 [(tp, oT), (cl, oC), (280, tabObj ps)] X) (N : News h₀ L h X) : GrownAll [(329, 325), (284, 280)] h := by
  show (let G9 : Prop := _; G9)
  intro G9
  obtain ⟨T, t0, n, tl, np, rfl, hT, _⟩ := hX
  k_unfold
  refine ⟨?_, GrownAt.of (ps := ps) N (List.mem_append_right _ (mL_app a p2 t0 n l2 tl [] np _ ▸ List.mem_append_right _ (.tail _ (.tail _ (.head _))))), trivial⟩
  rcases hT with rfl | ⟨c, oc, rfl, _⟩
  · exact GrownAt.of (ps := #[]) N (.head _)
  · exact GrownAt.of (ps := #[rawInt 232, rawInt 46, .ref c]) N (.head _)
section
variable {prog : Program} {w : World} {A : Around} {E : Value → Shared → Prop} {s : Shared} {Q : Value → Shared → Prop}
theorem mul_two {b : Int} {t u : Tok} (h : ∀ t tk, Q (.int (2 * b) t) { s with toks := tk }) : wpAny (model prog w) A (binaryOp .Mult (.int 2 t) (.int b u)) Q E s :=
  PyProof.Rows.mul_int (h _ _) (IntMulOk.of_left (by decide))
theorem abs_small {r r2 : Nat} {t : Tok} (d1 : r ≤ r2 + 1) (d2 : r2 ≤ r + 1) (h : ∀ x : Int, x < 2 → ∀ u tk, Q (.int x u) { s with toks := tk }) : wpAny (model prog w) A (call (.builtin "abs") [.int ((r : Int) - (r2 : Int)) t]) Q E s := by
  refine call_abs_int fun u tk => h _ ?_ u tk
  split <;> omega
theorem lt_true {a b : Int} {t u : Tok} (e : a < b) (h : Q (.bool true) s) : wpAny (model prog w) A (compareOp .Lt (.int a t) (.int b u)) Q E s := by
  refine PyProof.Rows.lt_int ?_
  rw [decide_eq_true e]; exact h
end
theorem perm_4 {a b c d : Addr × Obj} : ∀ q ∈ [a, b, c, d], q ∈ [a, c, b, d] := by
  intro q hq
  simp only [List.mem_cons, List.not_mem_nil, or_false] at hq ⊢
  rcases hq with h | h | h | h <;> simp [h]
end
section
theorem abst_post {α : Type} {M : Model} {A : Around} {m : Sem α} {E : Value → Shared → Prop} {s : Shared} {Q : α → Shared → Prop} (h : ∀ Q' : α → Shared → Prop, (∀ a s, Q a s → Q' a s) → wpAny M A m Q' E s) : wpAny M A m Q E s := h Q fun _ _ x => x
theorem abst_exc {α : Type} {M : Model} {A : Around} {m : Sem α} {E : Value → Shared → Prop} {s : Shared} {Q : α → Shared → Prop} (h : ∀ E' : Value → Shared → Prop, (∀ a s, E a s → E' a s) → wpAny M A m Q E' s) : wpAny M A m Q E s := h E fun _ _ x => x
end
section
theorem kw_L3 : True := by
  k_with_none
  k_with "sub" => ((repeat (refine List.forall_mem_cons.mpr ⟨by k_mem, ?_⟩)); (first | exact List.forall_mem_nil _ | (intro p hp; repeat (first | exact hp | apply List.Mem.tail))))
  k_with "enter" => (refine wpAny_call ?_; walk_at "enterC")
  k_with "enterC" => (k_dflt (refine' code_def ?q9k1 ?q9k2 ?q9k3 ?q9k4 ?q9k5 ?q9kA ?q9kF ?q9kK ?q9k6 ?q9k7 ?q9k8 ?q9k9 ?q9kB ?_ ?q9c2 ?q9c3 ?q9c4 ?q9c5; (case q9kA => exact rfl); (case q9kF => exact rfl); (case q9kK => assumption); (case q9k1 => k_asm); (case q9k2 => k_asm); (case q9k3 => k_asm); (case q9k4 => k_asm); (case q9k5 => k_asm); (case q9k6 => k_is); (case q9k7 => k_is); (case q9k8 => ktr_room); (case q9k9 => first | exact BindsTo.of_eq rfl | exact binds_K (by k_in) rfl (by k_is) rfl rfl rfl | (refine' kp_binds ?q9kx ?q9ke; (case q9kx => k_in); (case q9ke => exact fun _ => rfl)) | fail "enter: no rule for these arguments"); (case q9c5 => decide); (case q9kB => exact locs rfl); (case q9c2 => exact rfl); (case q9c3 => exact rfl); (case q9c4 => exact rfl); k_whole; intro g' L' h' FG' F' N' B' X' T'; (try dsimp only); (try k_lift B'); (try k_fold)))
  k_with "execs cons" => ((with_reducible refine wpAny_execs_cons ?_); (try dsimp only); k_fold)
  k_with "call builtin:str.lower" => (k_dflt (refine' low_call ?q9k1 ?_; (case q9k1 => first | assumption | exact L7_14 (by assumption)); k_whole; intro _ _))
  k_with "call builtin:str.upper" => (k_dflt (refine' upp_call ?q9k1 ?_; (case q9k1 => assumption); k_whole; intro _ _))
  k_with "call ref" => ((try k_fold); k_dflt (refine' Ct.use (ct_conv_name ?q9hc) ?q9B ?q9F ?q9X ?q9N ?q9T ?q9hk ?q9hd ?q9hu ?_; (case q9hc => assumption); (case q9B => k_asm); (case q9F => k_asm); (case q9X => k_asm); (case q9N => k_asm); (case q9T => k_asm); (case q9hk => exact rfl); (case q9hd => ktr_room); (case q9hu => ktr_units); k_whole; intro _ _ _ _ r9 _ _; obtain ⟨rfl, rfl⟩ := r9))
  k_with "call ref" => ((try k_fold); k_dflt (refine' Ct.use (ct_conv_value ?q9hc) ?q9B ?q9F ?q9X ?q9N ?q9T ?q9hk ?q9hd ?q9hu ?_; (case q9hc => assumption); (case q9B => k_asm); (case q9F => k_asm); (case q9X => k_asm); (case q9N => k_asm); (case q9T => k_asm); (case q9hk => exact rfl); (case q9hd => ktr_room); (case q9hu => ktr_units); k_whole; intro _ _ _ _ r9 _ _; obtain ⟨rfl, rfl⟩ := r9))
  k_with "binaryOp Add str str" => (k_here; k_dflt (refine' tx_add (by first | exact lit_a | exact rfl) (by exact rfl) ?q9z1 ?_; (case q9z1 => (rename List.length _ = 6 => l5; simp only [List.length_append, List.length_cons, List.length_nil, sizeLine_eq, l5]; omega)); k_whole; intro _ _))
  k_with "binaryOp Add str str" => (k_here; rename SecLens _ _ _ _ _ => hs5; k_dflt (refine' tx_add (by exact rfl) (by exact rfl) ?q9z1 ?_; (case q9z1 => first | exact len_add1 hs5 | exact len_add2 hs5 | exact len_add3 hs5 | exact len_add4 hs5); k_whole; intro _ _))
  k_with "compareOp NotEq str str" => (k_here; k_dflt (refine' ne_txl (b := false) (by exact rfl) (by exact rfl) ?q9hb ?_; (case q9hb => first | exact decide_eq_false (fun h => h rfl) | exact sec_ne _ _ _ _ _); k_whole))
  k_with "call builtin:str.count" => (k_here; k_dflt (refine' count_call (by exact rfl) ?_; k_whole; intro _ _))
  k_with "compareOp NotEq int int" => (k_here; k_dflt (refine' ne_ints ?q9e ?_; (case q9e => first | rfl | assumption); k_whole))
  k_with "subscriptTail Name Slice str ref" => (k_here; (with_reducible show wpAny _ _ (subscriptTail _ (Expr.Slice none (some _) none _) _ _) _ _ _); (with_reducible rename Fr _ _ _ _ => F'); (with_reducible rename News _ _ _ _ => N'); (refine sl_ns F' N' (by assumption) ?_); intro _ _ _ _ _)
  k_with "subscriptTail Name Slice str ref" => (k_here; (with_reducible show wpAny _ _ (subscriptTail _ (Expr.Slice (some _) none none _) _ _) _ _ _); (with_reducible rename Fr _ _ _ _ => F'); (with_reducible rename News _ _ _ _ => N'); (refine sl_sn F' N' (by assumption) ?_); intro _ _ _ _ _)
  k_with "subscriptTail Name Slice str ref" => (k_here; (with_reducible show wpAny _ _ (subscriptTail _ (Expr.Slice (some _) (some _) none _) _ _) _ _ _); (with_reducible rename Fr _ _ _ _ => F'); (with_reducible rename News _ _ _ _ => N'); (refine sl_ss F' N' (by assumption) ?_); intro _ _ _ _ _)
  k_with "binaryOp Mult int int" => (k_here; k_dflt (refine' mul_two ?_; k_whole; intro _ _))
  k_with "call builtin:abs" => (k_here; k_dflt (refine' abs_small ?q9a ?q9b ?_; (case q9a => assumption); (case q9b => assumption); k_whole; intro _ _ _ _))
  k_with "compareOp Lt int int" => (k_here; k_dflt (refine' lt_true ?q9e ?_; (case q9e => assumption); k_whole))
  trivial
set_option maxHeartbeats 32000000 in
theorem law1 : PySem.Challenge.rw_kl0089_01.Holds := hd (by
  k_go0
  (all_goals try k_fold)
  refine abst_post fun Q9 hQ9 => abst_exc fun E9 hE9 => ?_
  iterate 40 (first | (with_reducible show wpAny _ _ (call (.ref 292) _ _) _ _ _) | (k_unfold; (try dsimp only)) | (k_end; wrow_close) | walk1)
  rename IntsAre _ _ => hI
  rename ¬ _ < _ => h63
  (try k_fold)
  k_dflt (refine' CtP.use (ct_cells hI ?hl) ?hP ?B ?F ?X ?N ?T ?hk ?hd ?hu ?_; (case hl => omega); (case hP => exact lifted); (case N => k_asm); (case B => k_asm); (case F => k_asm); (case X => k_asm); (case T => k_asm); (case hk => exact rfl); (case hd => ktr_room); (case hu => ktr_units))
  intro v9 n9 h9 tk9 r9
  show (let G9 : Prop := _; G9)
  intro G9
  obtain ⟨cl, cvs, nc, cells, rfl, hcs, hlen10, hltc, rfl⟩ := r9
  k_unfold
  intro F9 N9
  iterate 40 (first | (with_reducible show wpAny _ _ (call (.ref 299) _ _) _ _ _) | (k_unfold; (try dsimp only)) | (k_end; wrow_close) | walk1)
  (try k_fold)
  k_dflt (refine' Ct.use (ct_order hcs hlen10) ?B ?F ?X ?N ?T ?hk ?hd ?hu ?_; (case N => k_asm); (case B => k_asm); (case F => k_asm); (case X => k_asm); (case T => k_asm); (case hk => exact rfl); (case hd => ktr_room); (case hu => ktr_units))
  intro v9 n9 h9 tk9 r9
  show (let G9 : Prop := _; G9)
  intro G9
  obtain ⟨o, to, rfl, ho, rfl⟩ := r9
  k_unfold
  intro F9 N9
  have ho6 := order_len ho
  iterate 40 (first | (with_reducible show wpAny _ _ (call (.ref 306) _ _) _ _ _) | (k_unfold; (try dsimp only)) | (k_end; wrow_close) | walk1)
  (try k_fold)
  k_dflt (refine' Ct.use (ct_text hcs hlen10 ho6) ?B ?F ?X ?N ?T ?hk ?hd ?hu ?_; (case N => k_asm); (case B => k_asm); (case F => k_asm); (case X => k_asm); (case T => k_asm); (case hk => exact rfl); (case hd => ktr_room); (case hu => ktr_units))
  intro v9 n9 h9 tk9 r9
  show (let G9 : Prop := _; G9)
  intro G9
  obtain ⟨its, tt, rfl, hits, hkn, rfl⟩ := r9
  k_unfold
  intro F9 N9
  iterate 40 (first | (with_reducible show wpAny _ _ (call (.ref 285) _ _) _ _ _) | (k_unfold; (try dsimp only)) | (k_end; wrow_close) | walk1)
  rename News _ _ _ _ => N5
  have h280 := hltc (280, tabObj #[]) (.tail _ (.head _))
  have h325 := hltc (325, tabObj #[]) (.head _)
  have hil : its.length = 6 := by have := congrArg List.length hits; rw [List.length_map] at this; omega
  have htl : (textM its).length ≤ 24 := by have := textM_len its; omega
  have hr280 : ∀ p ∈ [(cl, listOf cvs.toArray nc), (325, tabObj #[])], p.1 ≠ 280 := List.forall_mem_cons.mpr ⟨Nat.ne_of_gt h280, List.forall_mem_cons.mpr ⟨by decide, List.forall_mem_nil _⟩⟩
  (try k_fold)
  k_dflt (refine' CtN.use (ct_lexer hr280 (by omega)) ?C1 ?C2 ?B ?F ?X (cb_drop N5 (by walk_at "sub")) ?T ?hk ?hd ?hu ?_; (case C1 => assumption); (case C2 => assumption); (case B => k_asm); (case F => k_asm); (case X => k_asm); (case T => k_asm); (case hk => exact rfl); (case hd => ktr_room); (case hu => ktr_units))
  intro v9 n9 h9 tk9 r9
  show (let G9 : Prop := _; G9)
  intro G9
  obtain ⟨a, t0, n0, tl, np, rfl, hm, hlt, h280', ps, rfl⟩ := r9
  k_unfold
  intro F9 N9
  clear N5
  have hct : @LT.lt Nat _ cl a.ct := hlt _ (.head _)
  have hct3 : @LT.lt Nat _ 325 a.ct := hlt _ (.tail _ (.head _))
  show (let G9 : Prop := _; G9)
  intro G9
  obtain ⟨q1, q2, q3, q4, q5, q6, q7, q8, q9⟩ := hm.ord
  k_unfold
  have hr : RestOk a [(280, tabObj ps), (cl, listOf cvs.toArray nc), (325, tabObj #[])] := ⟨List.forall_mem_cons.mpr ⟨neN (by dsimp only; omega), List.forall_mem_cons.mpr ⟨neN (by dsimp only; omega), List.forall_mem_cons.mpr ⟨neN (by dsimp only; omega), List.forall_mem_nil _⟩⟩⟩, List.forall_mem_cons.mpr ⟨neN (by dsimp only; omega), List.forall_mem_cons.mpr ⟨neN (by dsimp only; omega), List.forall_mem_cons.mpr ⟨neN (by dsimp only; omega), List.forall_mem_nil _⟩⟩⟩, List.forall_mem_cons.mpr ⟨neN (by dsimp only; omega), List.forall_mem_cons.mpr ⟨neN (by dsimp only; omega), List.forall_mem_cons.mpr ⟨neN (by dsimp only; omega), List.forall_mem_nil _⟩⟩⟩⟩
  have hin7 : ∀ q ∈ its, q.2 ∈ L7 := fun q hq => order_in ho q.2 (hits ▸ List.mem_map_of_mem hq)
  have run := run_text (tx := textM its) (its := its) (sk := []) (pos := 0) (ln := 1) hin7 (.inl rfl) rfl (Nat.zero_le _)
  have hfl : (words (its.map Prod.snd)).flatten = o := by rw [words_flat, hits]
  have hwl : (words (its.map Prod.snd)).length = 6 := by rw [words, List.length_map, List.length_map, hil]
  iterate 40 (first | (with_reducible show wpAny _ _ (call (.ref 318) _ _) _ _ _) | (k_unfold; (try dsimp only)) | (k_end; wrow_close) | walk1)
  (try k_fold)
  k_dflt (refine' CtN.use (ct_led_str hm hr lit_a (by decide) run ⟨by rw [hfl]; omega, by rw [hwl]; decide⟩) ?C1 ?C2 ?B ?F ?X ?N ?T ?hk ?hd ?hu ?_; (case N => k_asm); (case C1 => assumption); (case C2 => assumption); (case B => k_asm); (case F => k_asm); (case X => k_asm); (case T => k_asm); (case hk => exact rfl); (case hd => ktr_room); (case hu => ktr_units))
  rw [hfl]
  intro v9 n9 h9 tk9 r9
  show (let G9 : Prop := _; G9)
  intro G9
  obtain ⟨tr, t0, n0, tl, np, rfl, rfl⟩ := r9
  k_unfold
  intro F9 N9
  clear run
  dsimp only [mLed] at N9
  iterate 80 (first | (with_reducible show wpAny _ _ (call (.ref 313) _ _) _ _ _) | (k_unfold; (try dsimp only)) | (k_end; wrow_close) | walk1)
  rename News _ _ _ _ => N5
  (try k_fold)
  k_dflt (refine' Ct.use (ct_cuts (rest := mLed a _ _ _ _ _ _ _ [(280, tabObj ps), (325, tabObj #[])]) hcs hlen10) ?B ?F ?X (cb_drop N5 (by walk_at "sub")) ?T ?hk ?hd ?hu ?_; (case B => k_asm); (case F => k_asm); (case X => k_asm); (case T => k_asm); (case hk => exact rfl); (case hd => ktr_room); (case hu => ktr_units))
  intro v9 n9 h9 tk9 r9
  show (let G9 : Prop := _; G9)
  intro G9
  obtain ⟨tp, nt, x1, x2, x3, x4, u1, u2, u3, u4, rfl, hlf, hltp, hcltp, rfl⟩ := r9
  k_unfold
  intro F9 N9
  clear N5
  show (let G9 : Prop := _; G9)
  intro G9
  obtain ⟨i, j, k, l, rfl, rfl, e3, e4, hc⟩ := cuts_of hlf
  k_unfold
  rw [e3, e4] at N9
  clear e3 e4 hlf
  dsimp only [mLed] at N9
  have hL7 : ([97] ++ o).length = 7 := by rw [List.length_append, ho6]; rfl
  iterate 80 (first | (with_reducible show wpAny _ _ (call (.ref 318) _ _) _ _ _) | (k_unfold; (try dsimp only)) | (k_end; wrow_close) | walk1)
  rename News _ _ _ _ => N5
  rename _ ∧ _ ∧ _ ∧ _ ∧ _ ∧ _ ∧ _ ∧ _ ∧ _ ∧ _ ∧ _ ∧ _ ∧ _ => lP
  have t1 : @LT.lt Nat _ a.al tp := hltp (a.al, _) (.head _)
  have t2 : @LT.lt Nat _ a.pb tp := hltp (a.pb, _) (.tail _ (.tail _ (.tail _ (.tail _ (.tail _ (.head _))))))
  have t3 : @LT.lt Nat _ a.d tp := hltp (a.d, _) (.tail _ (.tail _ (.tail _ (.tail _ (.tail _ (.tail _ (.head _)))))))
  have hr2 : RestOk a [(tp, tupOf [.int (i : Int) u1, .int (j : Int) u2, .int (k : Int) u3, .int (l : Int) u4] nt), (cl, listOf cvs.toArray nc), (280, tabObj ps), (325, tabObj #[])] := ⟨fun q hq => (hr.cons (x := (tp, tupOf [.int (i : Int) u1, .int (j : Int) u2, .int (k : Int) u3, .int (l : Int) u4] nt)) (neN (by dsimp only; omega)) (neN (by dsimp only; omega)) (neN (by dsimp only; omega))).al q (perm_4 q hq), fun q hq => (hr.cons (x := (tp, tupOf [.int (i : Int) u1, .int (j : Int) u2, .int (k : Int) u3, .int (l : Int) u4] nt)) (neN (by dsimp only; omega)) (neN (by dsimp only; omega)) (neN (by dsimp only; omega))).pb q (perm_4 q hq), fun q hq => (hr.cons (x := (tp, tupOf [.int (i : Int) u1, .int (j : Int) u2, .int (k : Int) u3, .int (l : Int) u4] nt)) (neN (by dsimp only; omega)) (neN (by dsimp only; omega)) (neN (by dsimp only; omega))).d q (perm_4 q hq)⟩
  have hend : (textM its).length ≤ (textM its).length ∧ (textM its)[(textM its).length]? = none := ⟨Nat.le_refl _, by simp⟩
  have run : TokRun (textM its) (textM its).length (1 + ((textM its).count 10 : Nat)) [] [] (textM its).length (1 + ((textM its).count 10 : Nat)) := .done (.inr ⟨by rw [hend.2]; exact fun h => (nomatch h), rfl, rfl⟩) (.ended hend.1 hend.2)
  have hrP : ∀ (P : Addr) oP, @LT.lt Nat _ a.al P → @LT.lt Nat _ a.pb P → @LT.lt Nat _ a.d P → RestOk a ((P, oP) :: [(tp, tupOf [.int (i : Int) u1, .int (j : Int) u2, .int (k : Int) u3, .int (l : Int) u4] nt), (cl, listOf cvs.toArray nc), (280, tabObj ps), (325, tabObj #[])]) :=
    fun P oP p1 p2 p3 => hr2.cons (Nat.ne_of_gt p1) (Nat.ne_of_gt p2) (Nat.ne_of_gt p3)
  (try k_fold)
  k_dflt (refine' CtN.use (ct_led hm (hrP _ _ lP.2.2.1 lP.2.2.2.2.2.2.2.1 lP.2.2.2.2.2.2.2.2.1) (secP_are2 (row := [97] ++ o)) (secP_len hL7 i j k l) run ⟨Nat.zero_le _, Nat.zero_le _⟩) ?C1 ?C2 ?B ?F ?X (cb_drop N5 (by walk_at "sub")) ?T ?hk ?hd ?hu ?_; (case C1 => assumption); (case C2 => assumption); (case B => k_asm); (case F => k_asm); (case X => k_asm); (case T => k_asm); (case hk => exact rfl); (case hd => ktr_room); (case hu => ktr_units))
  rw [secP_flat]
  intro v9 n9 h9 tk9 r9
  show (let G9 : Prop := _; G9)
  intro G9
  obtain ⟨ts, t0, n0, tl, np, rfl, rfl⟩ := r9
  k_unfold
  intro F9 N9
  clear N5 run lP hrP
  dsimp only [mLed] at N9
  have hsl := sec_lens hL7 i j k l
  iterate 100 (first | (with_reducible show wpAny _ _ (call (.ref 337) _ _) _ _ _) | (k_unfold; (try dsimp only)) | (k_end; wrow_close) | walk1)
  rename News _ _ _ _ => N5
  show (let G9 : Prop := _; G9)
  intro G9
  obtain ⟨r, r2, n, n2, hp⟩ := law_pure ho hc
  k_unfold
  show (let G9 : Prop := _; G9)
  intro G9
  obtain ⟨m1, m2, g1, g2, e1, e2, d1, d2, l1, i1, l2, i2⟩ := hp
  k_unfold
  have hofft : RestOk a [(325, tabObj #[])] := ⟨List.forall_mem_cons.mpr ⟨hr2.al _ (.tail _ (.tail _ (.tail _ (.head _)))), List.forall_mem_nil _⟩, List.forall_mem_cons.mpr ⟨hr2.pb _ (.tail _ (.tail _ (.tail _ (.head _)))), List.forall_mem_nil _⟩, List.forall_mem_cons.mpr ⟨hr2.d _ (.tail _ (.tail _ (.tail _ (.head _)))), List.forall_mem_nil _⟩⟩
  have h325' : @LT.lt Nat _ 325 cl := h325
  have hM := mend_of hm hr2 hct3 h325' (Nat.lt_trans h325' hcltp)
  have hX : MS a (textM its).length (1 + ((textM its).count 10 : Nat)) [(tp, tupOf [.int (i : Int) u1, .int (j : Int) u2, .int (k : Int) u3, .int (l : Int) u4] nt), (cl, listOf cvs.toArray nc), (280, tabObj ps)] ([(325, tabObj #[])] ++ mLed a (textM its).length t0 n0 (1 + ((textM its).count 10 : Nat)) tl [] np [(tp, tupOf [.int (i : Int) u1, .int (j : Int) u2, .int (k : Int) u3, .int (l : Int) u4] nt), (cl, listOf cvs.toArray nc), (280, tabObj ps)]) := ⟨_, t0, n0, tl, np, rfl, .inl rfl, hofft⟩
  (try k_fold)
  k_dflt (refine' CtN.use (ct_moves hM hX m1 (by omega)) ?C1 ?C2 ?B ?F ?X (cb_drop N5 (by walk_at "sub")) ?T ?hk ?hd ?hu ?_; (case C1 => assumption); (case C2 => assumption); (case B => k_asm); (case F => k_asm); (case X => k_asm); (case T => k_asm); (case hk => exact rfl); (case hd => ktr_room); (case hu => ktr_units))
  intro v9 n9 h9 tk9 r9
  show (let G9 : Prop := _; G9)
  intro G9
  obtain ⟨tm, rfl, hX2⟩ := r9
  k_unfold
  intro F9 N9
  clear N5 hX
  iterate 100 (first | (with_reducible show wpAny _ _ (call (.ref 337) _ _) _ _ _) | (k_unfold; (try dsimp only)) | (k_end; wrow_close) | walk1)
  (try k_fold)
  k_dflt (refine' CtN.use (ct_moves hM hX2 m2 (by omega)) ?C1 ?C2 ?B ?F ?X ?N ?T ?hk ?hd ?hu ?_; (case N => k_asm); (case C1 => assumption); (case C2 => assumption); (case B => k_asm); (case F => k_asm); (case X => k_asm); (case T => k_asm); (case hk => exact rfl); (case hd => ktr_room); (case hu => ktr_units))
  intro v9 n9 h9 tk9 r9
  show (let G9 : Prop := _; G9)
  intro G9
  obtain ⟨tm2, rfl, hX3⟩ := r9
  k_unfold
  intro F9 N9
  clear hX2
  iterate 100 (first | (with_reducible show wpAny _ _ (call (.ref 323) _ _) _ _ _) | (k_unfold; (try dsimp only)) | (k_end; wrow_close) | walk1)
  (try k_fold)
  k_dflt (refine' Ct.use (ct_rings l1 i1 g1) ?B ?F ?X ?N ?T ?hk ?hd ?hu ?_; (case N => k_asm); (case B => k_asm); (case F => k_asm); (case X => k_asm); (case T => k_asm); (case hk => exact rfl); (case hd => ktr_room); (case hu => ktr_units))
  intro v9 n9 h9 tk9 r9
  show (let G9 : Prop := _; G9)
  intro G9
  obtain ⟨tg, rfl, rfl⟩ := r9
  k_unfold
  intro F9 N9
  have e1' : (n : Int) + 2 * (r : Int) = 7 := by omega
  have e2' : (n2 : Int) + 2 * (r2 : Int) = 7 := by omega
  iterate 100 (first | (with_reducible show wpAny _ _ (call (.ref 323) _ _) _ _ _) | (k_unfold; (try dsimp only)) | (k_end; wrow_close) | walk1)
  (try k_fold)
  k_dflt (refine' Ct.use (ct_rings l2 i2 g2) ?B ?F ?X ?N ?T ?hk ?hd ?hu ?_; (case N => k_asm); (case B => k_asm); (case F => k_asm); (case X => k_asm); (case T => k_asm); (case hk => exact rfl); (case hd => ktr_room); (case hu => ktr_units))
  intro v9 n9 h9 tk9 r9
  show (let G9 : Prop := _; G9)
  intro G9
  obtain ⟨tg2, rfl, rfl⟩ := r9
  k_unfold
  intro F9 N9
  iterate 60 (first | (with_reducible show Q9 _ _) | (k_unfold; (try dsimp only)) | (k_end; wrow_close) | walk1)
  rename News _ _ _ _ => N7
  refine hQ9 _ _ ?_
  iterate 60 (first | (with_reducible show GoodW _ _ _ _ _ _ _ ∧ _) | (k_unfold; (try dsimp only)) | (k_end; wrow_close) | walk1)
  refine And.intro ?good (grown_of hX3 N7)
  k_steps
  all_goals k_data)
end
end Mine
end
set_option maxRecDepth 100000 in
set_option maxHeartbeats 8000000 in
theorem PySem.Challenge.cw_kl0089_01_holds : PySem.Challenge.rw_kl0089_01.Holds := by
  exact Mine.law1
