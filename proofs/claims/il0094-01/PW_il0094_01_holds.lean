import PyProof.Rows.All
import Wide.All
import OpenK.AllK
import Wide.FinOn
import Lean
import PySem.Challenge.RW_il0094_01
open PySem PySem.W PyProof.Rows PySem.Calls
set_option Elab.async false
set_option maxRecDepth 100000
set_option maxHeartbeats 8000000
set_option linter.unusedVariables false
set_option genSizeOf false
set_option genInjectivity false
namespace Mine
open List (all_eq_true append_assoc append_inj' append_nil concat_eq_append cons_append cons_ne_nil drop_eq_getElem_cons drop_eq_nil_of_le drop_zero eq_nil_or_concat filterMap_cons filter_append filter_cons filter_eq_nil_iff filter_eq_self filter_map find?_append find?_cons find?_eq_none find?_isSome find?_map find?_some flatMap_cons foldl_append foldl_cons forall_mem_nil getD_eq_getElem?_getD length_append length_cons length_drop length_eq_zero_iff length_filter_le length_map length_nil length_pos_iff length_range length_singleton length_take lookup_cons map_append map_congr_left map_cons map_drop map_eq_nil_iff map_reverse map_take mem_append mem_append_left mem_append_right mem_cons mem_cons_self mem_filter mem_filterMap mem_flatMap mem_iff_getElem? mem_map mem_map_of_mem mem_of_find?_eq_some mem_of_getElem? mem_range mem_singleton nil_append nil_sublist nodup_append nodup_cons nodup_nil not_mem_nil perm_middle range'_succ reverse_cons size_toArray sublist_append_left sublist_append_right take_of_length_le)
open Option (getD_some isSome_iff_exists isSome_map map_eq_none_iff map_eq_some_iff or_none)
theorem same:@ModuleNames.find? = @ModuleNames.find?:=rfl
name_quick tw8075568018651887793 for ModuleNames.find? by same
name_quick tw9909155848385497904 for ModuleNames.find? by same
name_quick tw1035145566862298031 for ModuleNames.find? by same
name_quick tw14979626087600564940 for ModuleNames.find? by same
name_quick tw14056289421387845279 for ModuleNames.find? by same
name_quick tw7457235589161816955 for ModuleNames.find? by same
name_quick tw2180166888634067806 for ModuleNames.find? by same
name_quick tw11935384120112590319 for ModuleNames.find? by same
name_quick tw10185885631661850153 for ModuleNames.find? by same
name_quick tw1437513875802745899 for ModuleNames.find? by same
name_quick tw15444884592583069058 for ModuleNames.find? by same
name_quick tw8675153009337895557 for ModuleNames.find? by same
name_quick tw4319705520415482375 for ModuleNames.find? by same
name_quick tw1574873078441994576 for ModuleNames.find? by same
name_quick tw15323854079317868165 for ModuleNames.find? by same
name_quick tw13892231520521813962 for ModuleNames.find? by same
name_quick tw7650934615059315214 for ModuleNames.find? by same
name_quick tw14073706353221006472 for ModuleNames.find? by same
name_quick tw13180171748994924942 for ModuleNames.find? by same
name_quick tw16145670143442454269 for ModuleNames.find? by same
name_quick tw5189142188285759775 for ModuleNames.find? by same
name_quick tw15263041282635125899 for ModuleNames.find? by same
name_quick tw3619232141914619222 for ModuleNames.find? by same
name_quick tw18260038339965228139 for ModuleNames.find? by same
name_quick tw5349121933718820234 for ModuleNames.find? by same
name_quick tw6817277305950994716 for ModuleNames.find? by same
name_quick tw10073347824450446311 for ModuleNames.find? by same
name_quick tw13640514254501968386 for ModuleNames.find? by same
name_quick tw16214148842636244229 for ModuleNames.find? by same
name_quick tw14223099787259518943 for ModuleNames.find? by same
name_quick tw4075660801711882420 for ModuleNames.find? by same
name_quick tw16735964619085208501 for ModuleNames.find? by same
name_quick tw2627984346626558326 for ModuleNames.find? by same
name_quick tw18101931140130867144 for ModuleNames.find? by same
name_quick tw17111948838632640456 for ModuleNames.find? by same
name_quick tw10323183001455561277 for ModuleNames.find? by same
name_quick tw11625766737575182897 for ModuleNames.find? by same
name_quick tw7581352650102555174 for ModuleNames.find? by same
name_quick tw7401281599722004195 for ModuleNames.find? by same
name_quick tw347637069881736656 for ModuleNames.find? by same
name_quick tw3698559305507148144 for ModuleNames.find? by same
name_quick tw9407582987413476825 for ModuleNames.find? by same
name_quick tw7299303143086499733 for ModuleNames.find? by same
name_quick tw10227693086864044499 for ModuleNames.find? by same
name_quick tw7323676302269181137 for ModuleNames.find? by same
name_quick tw17730428716208468724 for ModuleNames.find? by same
name_quick tw13981391230805400906 for ModuleNames.find? by same
name_quick tw17000155066101142889 for ModuleNames.find? by same
name_quick tw6550987210724342151 for ModuleNames.find? by same
name_quick tw1258717718454355964 for ModuleNames.find? by same
name_quick tw12635813782599140982 for ModuleNames.find? by same
name_quick tw14553827428707814869 for ModuleNames.find? by same
name_quick tw8376441433122354887 for ModuleNames.find? by same
name_quick tw16643379632663270332 for ModuleNames.find? by same
name_quick tw13236226663087606529 for ModuleNames.find? by same
name_quick tw16018607276475445134 for ModuleNames.find? by same
name_quick tw16593013826814733010 for ModuleNames.find? by same
name_quick tw4748654258956052638 for ModuleNames.find? by same
name_quick tw14834023430324568649 for ModuleNames.find? by same
name_quick tw2460228577881660442 for ModuleNames.find? by same
name_quick tw9285146279643344392 for ModuleNames.find? by same
name_quick tw11939915149646268982 for ModuleNames.find? by same
name_quick tw151948405760981731 for ModuleNames.find? by same
name_quick tw8206430501311747189 for ModuleNames.find? by same
name_quick tw6679490504615227074 for ModuleNames.find? by same
name_quick tw14168537005229113720 for ModuleNames.find? by same
name_quick tw10833955939284561965 for ModuleNames.find? by same
name_quick tw8119918657739134586 for ModuleNames.find? by same
name_quick tw13789449189825218787 for ModuleNames.find? by same
name_quick tw10996506086634736982 for ModuleNames.find? by same
name_quick tw3766158894648301139 for ModuleNames.find? by same
name_quick tw13678640442995254988 for ModuleNames.find? by same
name_quick tw8860024209350480642 for ModuleNames.find? by same
name_quick tw2283851925072248500 for ModuleNames.find? by same
name_quick tw8537084889766193716 for ModuleNames.find? by same
name_quick tw16531745337717519161 for ModuleNames.find? by same
name_quick tw10942035263794033107 for ModuleNames.find? by same
name_quick tw3856783459128436802 for ModuleNames.find? by same
name_quick tw6654550962395885724 for ModuleNames.find? by same
name_quick tw14326252917377295143 for ModuleNames.find? by same
name_quick tw3820604794100220378 for ModuleNames.find? by same
name_quick tw11161088081135249708 for ModuleNames.find? by same
name_quick tw721709456127091705 for ModuleNames.find? by same
name_quick tw7232422423428716515 for ModuleNames.find? by same
name_quick tw951843321253372498 for ModuleNames.find? by same
name_quick tw8719427161674164953 for ModuleNames.find? by same
name_quick tw5076957145309523181 for ModuleNames.find? by same
name_quick tw11462045893675790159 for ModuleNames.find? by same
name_quick tw1829445100760108279 for ModuleNames.find? by same
name_quick tw5200128776193632040 for ModuleNames.find? by same
name_quick tw1617757218408452269 for ModuleNames.find? by same
name_quick tw704327219915372674 for ModuleNames.find? by same
name_quick tw2611137233208623240 for ModuleNames.find? by same
name_quick tw2334299552400917057 for ModuleNames.find? by same
name_quick tw15742981410569661332 for ModuleNames.find? by same
name_quick tw13254397897704925713 for ModuleNames.find? by same
name_quick tw14386061602966655976 for ModuleNames.find? by same
name_quick tw1291980286583624508 for ModuleNames.find? by same
name_quick tw932993149863042379 for ModuleNames.find? by same
name_quick tw6019396324639902685 for ModuleNames.find? by same
name_quick tw14537914154153760125 for ModuleNames.find? by same
name_quick tw10938465397075749097 for ModuleNames.find? by same
name_quick tw13036272033356848781 for ModuleNames.find? by same
name_quick tw13912434898499826684 for ModuleNames.find? by same
name_quick tw9011979029575296479 for ModuleNames.find? by same
name_quick tw12945451867199242903 for ModuleNames.find? by same
name_quick tw15278061642289888581 for ModuleNames.find? by same
name_quick tw14530364306720264245 for ModuleNames.find? by same
name_quick tw16349804527192203551 for ModuleNames.find? by same
name_quick tw11788150170368784547 for ModuleNames.find? by same
name_quick tw3093977132361051618 for ModuleNames.find? by same
name_quick tw1702518465993881591 for ModuleNames.find? by same
name_quick tw13141144453892091621 for ModuleNames.find? by same
name_quick tw12233582284571471492 for ModuleNames.find? by same
name_quick tw13900631225919944168 for ModuleNames.find? by same
name_quick tw1414301608579184545 for ModuleNames.find? by same
name_quick tw117213463901210413 for ModuleNames.find? by same
name_quick tw17164873540382356111 for ModuleNames.find? by same
name_quick tw17888162413812561239 for ModuleNames.find? by same
name_quick tw3972328310683599613 for ModuleNames.find? by same
name_quick tw4292500188555128830 for ModuleNames.find? by same
name_quick tw13215998728584607739 for ModuleNames.find? by same
name_quick tw11445135464325071761 for ModuleNames.find? by same
name_quick tw5268983451555188008 for ModuleNames.find? by same
name_quick tw16145008321745377990 for ModuleNames.find? by same
name_quick tw18350330562280901221 for ModuleNames.find? by same
name_quick tw11306939235166856333 for ModuleNames.find? by same
name_quick tw4407734736301137906 for ModuleNames.find? by same
name_quick tw14714103240675001986 for ModuleNames.find? by same
name_quick tw5721027456603625697 for ModuleNames.find? by same
name_quick tw15168306246750427876 for ModuleNames.find? by same
name_quick tw14896874001708588922 for ModuleNames.find? by same
name_quick tw16846860572762119324 for ModuleNames.find? by same
name_quick tw17988542015724977305 for ModuleNames.find? by same
name_quick tw8579058602437062094 for ModuleNames.find? by same
name_quick tw5357591511691535388 for ModuleNames.find? by same
name_quick tw10528696920762540405 for ModuleNames.find? by same
name_quick tw18340240734955500558 for ModuleNames.find? by same
name_quick tw912392155897948271 for ModuleNames.find? by same
name_quick tw7496433998918960881 for ModuleNames.find? by same
name_quick tw470574548607681690 for ModuleNames.find? by same
name_quick tw136631920214876835 for ModuleNames.find? by same
name_quick tw14884601019740666482 for ModuleNames.find? by same
name_quick tw12290603225136948437 for ModuleNames.find? by same
name_quick tw4011157648589011858 for ModuleNames.find? by same
name_quick tw16439824349840649037 for ModuleNames.find? by same
name_quick tw15112985482279097393 for ModuleNames.find? by same
name_quick tw16966814322356759819 for ModuleNames.find? by same
name_quick tw1333364371103165705 for ModuleNames.find? by same
name_quick tw11994158751524154303 for ModuleNames.find? by same
name_quick tw9763268239775435451 for ModuleNames.find? by same
name_quick tw4071324889030633612 for ModuleNames.find? by same
name_quick tw3891137856419664920 for ModuleNames.find? by same
name_quick tw1620339239838986703 for ModuleNames.find? by same
name_quick tw505943868828395459 for ModuleNames.find? by same
name_quick tw9564595351457756722 for ModuleNames.find? by same
name_quick tw9931943479562821362 for ModuleNames.find? by same
name_quick tw13607416678640721797 for ModuleNames.find? by same
name_quick tw2905824091091238844 for ModuleNames.find? by same
name_quick tw8424611434330503625 for ModuleNames.find? by same
name_quick tw4090926877573551719 for ModuleNames.find? by same
name_quick tw12329403913580668285 for ModuleNames.find? by same
name_quick tw6929956602132211858 for ModuleNames.find? by same
name_quick tw10948738476641704880 for ModuleNames.find? by same
name_quick tw11964429278604863157 for ModuleNames.find? by same
name_quick tw16296994325663420285 for ModuleNames.find? by same
name_quick tw5770868932273138760 for ModuleNames.find? by same
name_quick tw13512673800721320934 for ModuleNames.find? by same
name_quick tw17069979004554194336 for ModuleNames.find? by same
name_quick tw14821650378409806113 for ModuleNames.find? by same
name_quick tw900395245841561262 for ModuleNames.find? by same
name_quick tw10205541121877940668 for ModuleNames.find? by same
name_quick tw15475462885187679331 for ModuleNames.find? by same
name_quick tw11420187438672877268 for ModuleNames.find? by same
name_quick tw4679858250743294509 for ModuleNames.find? by same
name_quick tw18211773271919218964 for ModuleNames.find? by same
name_quick tw6683783046931543321 for ModuleNames.find? by same
name_quick tw14108194823987119177 for ModuleNames.find? by same
name_quick tw11543547407058413889 for ModuleNames.find? by same
name_quick tw6434138532213402376 for ModuleNames.find? by same
name_quick tw460243522976405022 for ModuleNames.find? by same
name_quick tw10706342367453228570 for ModuleNames.find? by same
name_quick tw1377046205977697930 for ModuleNames.find? by same
name_quick tw8642067239939848140 for ModuleNames.find? by same
name_quick tw6448080314894763839 for ModuleNames.find? by same
name_quick tw11270796479367742343 for ModuleNames.find? by same
name_quick tw14213472795030965493 for ModuleNames.find? by same
name_quick tw7892128664451923741 for ModuleNames.find? by same
name_quick tw15894407043143930727 for ModuleNames.find? by same
name_quick tw1962928258387122110 for ModuleNames.find? by same
name_quick tw18416463498863911781 for ModuleNames.find? by same
name_quick tw3560238982266916124 for ModuleNames.find? by same
name_quick tw6792406925840432001 for ModuleNames.find? by same
name_quick tw5902227825499142635 for ModuleNames.find? by same
name_quick tw11186114360453789277 for ModuleNames.find? by same
name_quick tw7276740287692124622 for ModuleNames.find? by same
name_quick tw15450981722951097364 for ModuleNames.find? by same
name_quick tw4552823106982906706 for ModuleNames.find? by same
name_quick tw3039592710220408265 for ModuleNames.find? by same
name_quick tw2176409956822569438 for ModuleNames.find? by same
name_quick tw4797165386629745026 for ModuleNames.find? by same
name_quick tw15919542637913265678 for ModuleNames.find? by same
name_quick tw7250012664060256230 for ModuleNames.find? by same
name_quick tw3577408171920636059 for ModuleNames.find? by same
name_quick tw17964007177503468958 for ModuleNames.find? by same
name_quick tw17497748084772794779 for ModuleNames.find? by same
name_quick tw15980859228951719591 for ModuleNames.find? by same
name_quick tw17279654841073493023 for ModuleNames.find? by same
name_quick tw682011567655089306 for ModuleNames.find? by same
name_quick tw9951705424602377420 for ModuleNames.find? by same
name_quick tw3778451253796500701 for ModuleNames.find? by same
name_quick tw282004115355043989 for ModuleNames.find? by same
name_quick tw14333388528381170442 for ModuleNames.find? by same
name_quick tw11317593695737139937 for ModuleNames.find? by same
name_quick tw17532718790514356516 for ModuleNames.find? by same
name_quick tw17018628822417861297 for ModuleNames.find? by same
name_quick tw18345786424863182364 for ModuleNames.find? by same
name_quick tw7269565832213808900 for ModuleNames.find? by same
name_quick tw4527066259768149269 for ModuleNames.find? by same
name_quick tw11853533878840232495 for ModuleNames.find? by same
name_quick tw3105397867545767578 for ModuleNames.find? by same
name_quick tw17100903815162463580 for ModuleNames.find? by same
name_quick tw5111356299099525756 for ModuleNames.find? by same
name_quick tw6245536207120538393 for ModuleNames.find? by same
name_quick tw17532440430192770315 for ModuleNames.find? by same
name_quick tw6004533443673955352 for ModuleNames.find? by same
name_quick tw16350708796919097252 for ModuleNames.find? by same
name_quick tw392140993173905013 for ModuleNames.find? by same
name_quick tw3131671291697673992 for ModuleNames.find? by same
name_quick tw17476080006546285661 for ModuleNames.find? by same
name_quick tw1355338860687761863 for ModuleNames.find? by same
name_quick tw10887116778572429059 for ModuleNames.find? by same
name_quick tw7275051467321613617 for ModuleNames.find? by same
name_quick tw1402947280878808549 for ModuleNames.find? by same
name_quick tw17846936440860909165 for ModuleNames.find? by same
name_quick tw5978237884098788730 for ModuleNames.find? by same
name_quick tw10010936943081839664 for ModuleNames.find? by same
name_quick tw14311459727803291754 for ModuleNames.find? by same
name_quick tw11277716924127702174 for ModuleNames.find? by same
name_quick tw11130039905162102590 for ModuleNames.find? by same
name_quick tw15007238320947547705 for ModuleNames.find? by same
name_quick tw5882768191206486792 for ModuleNames.find? by same
name_quick tw17552769576498331613 for ModuleNames.find? by same
name_quick tw6711915476519705758 for ModuleNames.find? by same
name_quick tw5706481520468235054 for ModuleNames.find? by same
name_quick tw12268644228514654432 for ModuleNames.find? by same
name_quick tw16741492637210864865 for ModuleNames.find? by same
name_quick tw4978915544186085027 for ModuleNames.find? by same
name_quick tw2422670821966735624 for ModuleNames.find? by same
name_quick tw9594665118957945026 for ModuleNames.find? by same
name_quick tw9467589175468403638 for ModuleNames.find? by same
name_quick tw1218959903707654005 for ModuleNames.find? by same
name_quick tw6380047634161181297 for ModuleNames.find? by same
name_quick tw13016732220969518872 for ModuleNames.find? by same
name_quick tw4224760802259116069 for ModuleNames.find? by same
name_quick tw10424941004445345732 for ModuleNames.find? by same
name_quick tw16049961110935095269 for ModuleNames.find? by same
name_quick tw16916688483869632129 for ModuleNames.find? by same
name_quick tw7392212959928792091 for ModuleNames.find? by same
name_quick tw12866136484021002089 for ModuleNames.find? by same
name_quick tw3362959441861295915 for ModuleNames.find? by same
name_quick tw16817318245366136608 for ModuleNames.find? by same
name_quick tw9948023125614773506 for ModuleNames.find? by same
name_quick tw5529568453561195837 for ModuleNames.find? by same
name_quick tw16548257151911338427 for ModuleNames.find? by same
name_quick tw16241802466949684156 for ModuleNames.find? by same
name_quick tw2408619945344806742 for ModuleNames.find? by same
name_quick tw1503297043503765363 for ModuleNames.find? by same
name_quick tw8603108125212654177 for ModuleNames.find? by same
name_quick tw6122645084068987007 for ModuleNames.find? by same
name_quick tw13335737130258781183 for ModuleNames.find? by same
name_quick tw11333186260410459676 for ModuleNames.find? by same
name_quick tw9501820088010722379 for ModuleNames.find? by same
name_quick tw3282434896037501709 for ModuleNames.find? by same
name_quick tw16752143609539240740 for ModuleNames.find? by same
name_quick tw667198328695590252 for ModuleNames.find? by same
name_quick tw11588390666370768167 for ModuleNames.find? by same
name_quick tw14433975572909055671 for ModuleNames.find? by same
name_quick tw15490439104401381959 for ModuleNames.find? by same
name_quick tw16643706677886111943 for ModuleNames.find? by same
name_quick tw9136488742655976645 for ModuleNames.find? by same
name_quick tw2478078296215019888 for ModuleNames.find? by same
name_quick tw1258299570235058372 for ModuleNames.find? by same
name_quick tw3976722010076183465 for ModuleNames.find? by same
name_quick tw11985326045990495214 for ModuleNames.find? by same
name_quick tw3152983702415266003 for ModuleNames.find? by same
name_quick tw2862820112641550484 for ModuleNames.find? by same
name_quick tw12635297910168745909 for ModuleNames.find? by same
name_quick tw8595292554425487202 for ModuleNames.find? by same
name_quick tw3094477031063562474 for ModuleNames.find? by same
name_quick tw15066959818950650227 for ModuleNames.find? by same
name_quick tw12813236842856870187 for ModuleNames.find? by same
name_quick tw18056578402003937789 for ModuleNames.find? by same
name_quick tw387338674003428930 for ModuleNames.find? by same
name_quick tw11452132507678324671 for ModuleNames.find? by same
name_quick tw9315938663221665524 for ModuleNames.find? by same
name_quick tw12237943961548833269 for ModuleNames.find? by same
name_quick tw15663404670287596823 for ModuleNames.find? by same
name_quick tw1092655722715705105 for ModuleNames.find? by same
name_quick tw2660918139993853925 for ModuleNames.find? by same
name_quick tw11729385059970357855 for ModuleNames.find? by same
name_quick tw2039238271031011813 for ModuleNames.find? by same
name_quick tw3636048126100218174 for ModuleNames.find? by same
name_quick tw4558998842232669794 for ModuleNames.find? by same
name_quick tw12172078356533094185 for ModuleNames.find? by same
name_quick tw13559156169165276386 for ModuleNames.find? by same
name_quick tw10029231156530900338 for ModuleNames.find? by same
name_quick tw16979880578912567463 for ModuleNames.find? by same
name_quick tw14023627001141898710 for ModuleNames.find? by same
name_quick tw8400853705098224536 for ModuleNames.find? by same
name_quick tw2719445374943340272 for ModuleNames.find? by same
name_quick tw9908251947323293946 for ModuleNames.find? by same
name_quick tw7745614565497352828 for ModuleNames.find? by same
name_quick tw4980102563643897964 for ModuleNames.find? by same
name_quick tw5135500740108067664 for ModuleNames.find? by same
open_top hd for PySem.Challenge.rw_il0094_01
section
theorem hG {P:Prop} (h:∀ G:Prop,(P→G)→G):P:=h P id
theorem A2 {G p1 p2:Prop} (h:p1∧p2) (k:p1→p2→G):G:=k h.1 h.2
theorem A3 {G p1 p2 p3:Prop} (h:p1∧p2∧p3) (k:p1→p2→p3→G):G:=k h.1 h.2.1 h.2.2
theorem A4 {G p1 p2 p3 p4:Prop} (h:p1∧p2∧p3∧p4) (k:p1→p2→p3→p4→G):G:=k h.1 h.2.1 h.2.2.1 h.2.2.2
theorem A5 {G p1 p2 p3 p4 p5:Prop} (h:p1∧p2∧p3∧p4∧p5) (k:p1→p2→p3→p4→p5→G):G:=k h.1 h.2.1 h.2.2.1 h.2.2.2.1 h.2.2.2.2
theorem A6 {G p1 p2 p3 p4 p5 p6:Prop} (h:p1∧p2∧p3∧p4∧p5∧p6) (k:p1→p2→p3→p4→p5→p6→G):G:=k h.1 h.2.1 h.2.2.1 h.2.2.2.1 h.2.2.2.2.1 h.2.2.2.2.2
theorem A7 {G p1 p2 p3 p4 p5 p6 p7:Prop} (h:p1∧p2∧p3∧p4∧p5∧p6∧p7) (k:p1→p2→p3→p4→p5→p6→p7→G):G:=k h.1 h.2.1 h.2.2.1 h.2.2.2.1 h.2.2.2.2.1 h.2.2.2.2.2.1 h.2.2.2.2.2.2
theorem A8 {G p1 p2 p3 p4 p5 p6 p7 p8:Prop} (h:p1∧p2∧p3∧p4∧p5∧p6∧p7∧p8) (k:p1→p2→p3→p4→p5→p6→p7→p8→G):G:=k h.1 h.2.1 h.2.2.1 h.2.2.2.1 h.2.2.2.2.1 h.2.2.2.2.2.1 h.2.2.2.2.2.2.1 h.2.2.2.2.2.2.2
theorem A9 {G p1 p2 p3 p4 p5 p6 p7 p8 p9:Prop} (h:p1∧p2∧p3∧p4∧p5∧p6∧p7∧p8∧p9) (k:p1→p2→p3→p4→p5→p6→p7→p8→p9→G):G:=k h.1 h.2.1 h.2.2.1 h.2.2.2.1 h.2.2.2.2.1 h.2.2.2.2.2.1 h.2.2.2.2.2.2.1 h.2.2.2.2.2.2.2.1 h.2.2.2.2.2.2.2.2
theorem E1 {G:Prop} {α1:Sort _} {P:α1→Prop} (h:∃ x1:α1,P x1) (k:∀ (x1:α1),P x1→G):G:=h.elim fun x1 q1=>k x1 q1
theorem E2 {G:Prop} {α1:Sort _} {α2:Sort _} {P:α1→α2→Prop} (h:∃ x1:α1,∃ x2:α2,P x1 x2) (k:∀ (x1:α1) (x2:α2),P x1 x2→G):G:=h.elim fun x1 q1=>q1.elim fun x2 q2=>k x1 x2 q2
theorem E3 {G:Prop} {α1:Sort _} {α2:Sort _} {α3:Sort _} {P:α1→α2→α3→Prop} (h:∃ x1:α1,∃ x2:α2,∃ x3:α3,P x1 x2 x3) (k:∀ (x1:α1) (x2:α2) (x3:α3),P x1 x2 x3→G):G:=h.elim fun x1 q1=>q1.elim fun x2 q2=>q2.elim fun x3 q3=>k x1 x2 x3 q3
theorem E4 {G:Prop} {α1:Sort _} {α2:Sort _} {α3:Sort _} {α4:Sort _} {P:α1→α2→α3→α4→Prop} (h:∃ x1:α1,∃ x2:α2,∃ x3:α3,∃ x4:α4,P x1 x2 x3 x4) (k:∀ (x1:α1) (x2:α2) (x3:α3) (x4:α4),P x1 x2 x3 x4→G):G:=h.elim fun x1 q1=>q1.elim fun x2 q2=>q2.elim fun x3 q3=>q3.elim fun x4 q4=>k x1 x2 x3 x4 q4
theorem E5 {G:Prop} {α1:Sort _} {α2:Sort _} {α3:Sort _} {α4:Sort _} {α5:Sort _} {P:α1→α2→α3→α4→α5→Prop} (h:∃ x1:α1,∃ x2:α2,∃ x3:α3,∃ x4:α4,∃ x5:α5,P x1 x2 x3 x4 x5) (k:∀ (x1:α1) (x2:α2) (x3:α3) (x4:α4) (x5:α5),P x1 x2 x3 x4 x5→G):G:=h.elim fun x1 q1=>q1.elim fun x2 q2=>q2.elim fun x3 q3=>q3.elim fun x4 q4=>q4.elim fun x5 q5=>k x1 x2 x3 x4 x5 q5
theorem E6 {G:Prop} {α1:Sort _} {α2:Sort _} {α3:Sort _} {α4:Sort _} {α5:Sort _} {α6:Sort _} {P:α1→α2→α3→α4→α5→α6→Prop} (h:∃ x1:α1,∃ x2:α2,∃ x3:α3,∃ x4:α4,∃ x5:α5,∃ x6:α6,P x1 x2 x3 x4 x5 x6) (k:∀ (x1:α1) (x2:α2) (x3:α3) (x4:α4) (x5:α5) (x6:α6),P x1 x2 x3 x4 x5 x6→G):G:=h.elim fun x1 q1=>q1.elim fun x2 q2=>q2.elim fun x3 q3=>q3.elim fun x4 q4=>q4.elim fun x5 q5=>q5.elim fun x6 q6=>k x1 x2 x3 x4 x5 x6 q6
theorem E8 {G:Prop} {α1:Sort _} {α2:Sort _} {α3:Sort _} {α4:Sort _} {α5:Sort _} {α6:Sort _} {α7:Sort _} {α8:Sort _} {P:α1→α2→α3→α4→α5→α6→α7→α8→Prop} (h:∃ x1:α1,∃ x2:α2,∃ x3:α3,∃ x4:α4,∃ x5:α5,∃ x6:α6,∃ x7:α7,∃ x8:α8,P x1 x2 x3 x4 x5 x6 x7 x8) (k:∀ (x1:α1) (x2:α2) (x3:α3) (x4:α4) (x5:α5) (x6:α6) (x7:α7) (x8:α8),P x1 x2 x3 x4 x5 x6 x7 x8→G):G:=h.elim fun x1 q1=>q1.elim fun x2 q2=>q2.elim fun x3 q3=>q3.elim fun x4 q4=>q4.elim fun x5 q5=>q5.elim fun x6 q6=>q6.elim fun x7 q7=>q7.elim fun x8 q8=>k x1 x2 x3 x4 x5 x6 x7 x8 q8
end
section
set_option tactic.hygienic false
theorem cV:builtinKind "issubclass.nested" = none:=by decide +kernel
theorem cM:plainId "issubclass.nested" = true:=by decide +kernel
theorem cB (a b c:Value):argsOk "issubclass.nested" ⟨[a,b,c],[]⟩:=by unfold argsOk; kernel_rfl
theorem lF:isSubtype (.type "str") (.type "str")=pure true:=by rw [isSubtype_type]; kernel_rfl
theorem sE:typeOf (.type "str")=pure (.type "type"):=by
  show pure _=_
  rfl
section
variable {prog:Program} {w:World} {A:Around} {E:Value→Shared→Prop} {s:Shared}
theorem jN {dep:Int} {tk:Tok} {Q:Fin→Shared→Prop} (hq:Q (.done (.ret (.bool true))) s) :
    wpAny (model prog w) A (Builtin.«issubclass.nested» ⟨[.type "str",.type "str",.int dep tk],[]⟩) Q E s:=by
  have h1:=sE
  have h2:=lF
  repeat (any_goals (first | assumption | (rw [h2]) | wp_step))
theorem jF {dep:Int} {tk:Tok} {Q:Value→Shared→Prop} (hq:Q (.bool true) s) :
    wpAny (model prog w) A (call (.builtin "issubclass.nested") [.type "str",.type "str",.int dep tk]) Q E s :=
  call_function_meets (S:=fun _ R s=>R (.ok (.ret (.bool true))) s) cV cM F.entry_issubclass_nested (cB _ _ _) (fun _ _ _ _ _ hs=>jN hs) hq
theorem fh {tp:Addr} {tk:Tok} {Q:Fin→Shared→Prop} (htp:s.heap.get? tp=some { cls:=.type "tuple",data:=.seq #[.type "str",.type "bytes"] }) (hq:∀ tk',Q (.done (.ret (.bool true))) { s with toks:=tk' }) :
    wpAny (model prog w) A (Builtin.«issubclass.nested» ⟨[.type "str",.ref tp,.int 0 tk],[]⟩) Q E s:=by
  obtain ⟨h,g,d,t,os⟩:=s
  have hT2:(⟨h,g,d,t,os⟩ : Shared).TypeIs (.ref tp) "tuple" := ⟨_,htp,rfl⟩
  have f1:=F.isi_sub_tuple
  repeat (any_goals (first | assumption | (refine jF ?_) | wp_step))
  exact hq _
theorem gC {tp:Addr} {Q:Value→Shared→Prop} (htp:s.heap.get? tp=some { cls:=.type "tuple",data:=.seq #[.type "str",.type "bytes"] }) (hq:∀ tk',Q (.bool true) { s with toks:=tk' }) :
    wpAny (model prog w) A (call (.builtin "issubclass") [.type "str",.ref tp]) Q E s :=
  call_issubclass (S:=fun _ R s=>s.heap.get? tp=some { cls:=.type "tuple",data:=.seq #[.type "str",.type "bytes"] }∧∀ tk',R (.ok (.ret (.bool true))) { s with toks:=tk' }) (fun _ _ _ _ _ hs=>issubclass_outer (fh hs.1 hs.2)) ⟨htp,hq⟩
end
section
variable {prog:Program} {w:World} {A:Around} {E:Value→Shared→Prop} {s:Shared}
theorem lv {x:Str} {t:Tok} {Q:Bool→Shared→Prop} (hl:x.length≤16777216) (h:∀ k,Q (x.length != 0) { s with toks:=k }):wpAny (model prog w) A (truthy (.str x t)) Q E s :=
  P.truthy_str (by omega) (by
    have e:((x.length:Int) != 0)=(x.length != 0):=by
      cases h:x.length with
      | zero=>rfl
      | succ n=>simp; (clear hl h; omega)
    rw [e]; exact h _)
end
end
section
set_option tactic.hygienic false
section
variable {prog:Program} {w:World} {A:Around} {E:Value→Shared→Prop} {s:Shared} {env:Env} {h₀:Heap} {target:Expr} {body:List Stmt} {Q:Flow→Shared→Prop}
@[irreducible] noncomputable def cX (h₀:Heap) (L:Addr) (s₁:Shared) (I:Addr) (oi:Obj) (keep:List (Addr×Obj)) (Jr:(Str→Option Value)→List (Addr×Obj)→Prop) (Q:Flow→Shared→Prop) (f:Flow) (s₂:Shared):Prop :=
  match f with
  | .ret v=>Q (.ret v) s₂
  | .brk=>Q .next s₂
  | _=>∃ h' tk m' news',s₂ = { s₁ with heap:=h',toks:=tk }∧Fr h₀ L h' m'∧News h₀ L h' ((I,oi)::news')∧(∀ p ∈ news',p.1≠I)∧(∀ p ∈ keep,p ∈ news')∧Jr m' news'
section
variable {h₀:Heap} {L:Addr} {s₁:Shared} {I:Addr} {oi:Obj} {keep:List (Addr×Obj)} {Jr:(Str→Option Value)→List (Addr×Obj)→Prop} {Q:Flow→Shared→Prop}
theorem cX.next {h':Heap} {tk:Nat} {m':Str→Option Value} {news':List (Addr×Obj)} (F:Fr h₀ L h' m') (N:News h₀ L h' ((I,oi)::news')) (hne:∀ p ∈ news',p.1≠I) (hk:∀ p ∈ keep,p ∈ news') (j:Jr m' news') :
    cX h₀ L s₁ I oi keep Jr Q .next { s₁ with heap:=h',toks:=tk }:=by unfold cX; exact ⟨h',tk,m',news',rfl,F,N,hne,hk,j⟩
theorem cX.cont {h':Heap} {tk:Nat} {m':Str→Option Value} {news':List (Addr×Obj)} (F:Fr h₀ L h' m') (N:News h₀ L h' ((I,oi)::news')) (hne:∀ p ∈ news',p.1≠I) (hk:∀ p ∈ keep,p ∈ news') (j:Jr m' news') :
    cX h₀ L s₁ I oi keep Jr Q .cont { s₁ with heap:=h',toks:=tk }:=by unfold cX; exact ⟨h',tk,m',news',rfl,F,N,hne,hk,j⟩
theorem cX.brk {s₂:Shared} (h:Q .next s₂):cX h₀ L s₁ I oi keep Jr Q .brk s₂:=by unfold cX; exact h
theorem cX.ret {s₂:Shared} {v:Value} (h:Q (.ret v) s₂):cX h₀ L s₁ I oi keep Jr Q (.ret v) s₂:=by unfold cX; exact h
theorem cX.elim {f:Flow} {s₂:Shared} (h:cX h₀ L s₁ I oi keep Jr Q f s₂):match f with
  | .ret v=>Q (.ret v) s₂
  | .brk=>Q .next s₂
  | _=>∃ h' tk m' news',s₂ = { s₁ with heap:=h',toks:=tk }∧Fr h₀ L h' m'∧News h₀ L h' ((I,oi)::news')∧(∀ p ∈ news',p.1≠I)∧(∀ p ∈ keep,p ∈ news')∧Jr m' news':=by unfold cX at h; cases f <;> exact h
end
theorem iO:∀ {keep l:List (Addr×Obj)},(∀ p ∈ keep,p ∈ l)→SubL keep l
  | [],_,_=>trivial
  | _::_,_,h=>⟨h _ (.head _),iO fun p hp=>h p (.tail _ hp)⟩
theorem fG {I:Addr} {nm:String} {keep:List (Addr×Obj)} (J:List Value→(Str→Option Value)→List (Addr×Obj)→Prop)
    (step:∀ v r m₁ news₁ h tk oi,J (v::r) m₁ news₁→(∀ p ∈ news₁,p.1≠I)→oi.cls = .type nm→Fr h₀ env.locals h m₁→News h₀ env.locals h ((I,oi)::news₁) →
      wpAny (model prog w) A (assign target env v) (fun _ s₂=>wpAny (model prog w) A (execs body env) (cX h₀ env.locals { s with heap:=h,toks:=tk } I oi keep (J r) Q) E s₂) E { s with heap:=h,toks:=tk })
    (done:∀ m₁ news₁ h tk,J [] m₁ news₁→Fr h₀ env.locals h m₁→News h₀ env.locals h news₁→Q .next { s with heap:=h,toks:=tk }) :
    ∀ (xs:List Value) m news,J xs m news→(∀ p ∈ news,p.1≠I)→ItemsRest prog w A E h₀ env target body Q s [(I,nm)] keep (xs.map .val) m news
  | [],m,news,hj,_=>fun h tk F N=>done m news h tk hj F N
  | v::r,m,news,hj,hne=>by
    refine ItemsRest.val fun h tk F=>AllObj.cons fun oi hc=>AllObj.nil fun N=>?_
    refine wpAny_mono (step v r m news h tk oi hj hne hc F N) (fun _ s₂ h₂=>wpAny_mono h₂ (fun f s₃ h₃=>?_) fun _ _ e=>e) fun _ _ e=>e
    have h₃:=h₃.elim
    have fin:(∃ h' tk' m' news',s₃ = { s with heap:=h',toks:=tk' }∧Fr h₀ env.locals h' m'∧News h₀ env.locals h' ((I,oi)::news')∧(∀ p ∈ news',p.1≠I)∧(∀ p ∈ keep,p ∈ news')∧J r m' news') →
        UnrEndW h₀ env.locals { s with heap:=h,toks:=tk } [(I,oi)] (fun m' n'=>SubL keep n'∧ItemsRest prog w A E h₀ env target body Q s [(I,nm)] keep (r.map .val) m' n') s₃:=by
      intro r91
      refine E4 r91 fun h' tk' m' news' q91=>A6 q91 fun e F' N' ne' hk' j'=>?_
      try clear r91
      clear q91
      exact ⟨h',tk',m',news',e,F',N',fun p hp q hq=>by rw [mem_singleton.mp hq]; exact ne' p hp,iO hk',fG J step done r m' news' j' ne'⟩
    cases f with
    | ret v=>exact h₃
    | brk=>exact h₃
    | next=>exact fin h₃
    | cont=>exact fin h₃
theorem rH {l n:Nat} {lo:Obj} {vs:List Value} {m₀:Str→Option Value} {news:List (Addr×Obj)} (J:List Value→(Str→Option Value)→List (Addr×Obj)→Prop)
    (hh:A.handled=none) (F:Fr h₀ env.locals s.heap m₀) (N:News h₀ env.locals s.heap news) (hm:(l,lo) ∈ news) (hc:lo.cls = .type "tuple") (hd:lo.data = .seq vs.toArray n) (hj:J vs m₀ news)
    (step:∀ (I:Addr),(∀ p ∈ news,p.1 < I)→∀ v r m₁ news₁ h tk oi,J (v::r) m₁ news₁→(∀ p ∈ news₁,p.1≠I)→oi.cls = .type "tuple_iterator" → Fr h₀ env.locals h m₁→News h₀ env.locals h ((I,oi)::news₁) →
      wpAny (model prog w) A (assign target env v) (fun _ s₂=>wpAny (model prog w) A (execs body env) (cX h₀ env.locals { s with heap:=h,toks:=tk } I oi [(l,lo)] (J r) Q) E s₂) E { s with heap:=h,toks:=tk })
    (done:∀ m₁ news₁ h tk,J [] m₁ news₁→Fr h₀ env.locals h m₁→News h₀ env.locals h news₁→Q .next { s with heap:=h,toks:=tk }) :
    wpAny (model prog w) A (pyIter (.ref l)) (fun it s₂=>TurnsAt prog w A h₀ env target body Q E it s₂) E s :=
  iter_tupTurns hh F N hm hc hd fun I hI=>fG J (step I hI) done vs m₀ news hj fun p hp=>Nat.ne_of_lt (hI p hp)
end
section
variable {prog:Program} {w:World} {A:Around} {E:Value→Shared→Prop} {s:Shared} {env:Env} {h₀:Heap} {target:Expr} {body:List Stmt} {Q:Flow→Shared→Prop}
noncomputable abbrev InvT:=(Str→Option Value)→List (Addr×Obj)→List Value→(Str→Option Value)→List (Addr×Obj)→Prop
theorem qT {l n:Nat} {lo:Obj} {vs:List Value} {m₀:Str→Option Value} {news:List (Addr×Obj)} (J:InvT)
    (hh:A.handled=none) (F:Fr h₀ env.locals s.heap m₀) (N:News h₀ env.locals s.heap news) (hm:(l,lo) ∈ news) (hc:lo.cls = .type "tuple") (hd:lo.data = .seq vs.toArray n) (hj:J m₀ news vs m₀ news)
    (step:∀ (I:Addr),(∀ p ∈ news,p.1 < I)→∀ v r m₁ news₁ h tk oi,J m₀ news (v::r) m₁ news₁→(∀ p ∈ news₁,p.1≠I)→oi.cls = .type "tuple_iterator" → Fr h₀ env.locals h m₁→News h₀ env.locals h ((I,oi)::news₁) →
      wpAny (model prog w) A (assign target env v) (fun _ s₂=>wpAny (model prog w) A (execs body env) (cX h₀ env.locals { s with heap:=h,toks:=tk } I oi [(l,lo)] (J m₀ news r) Q) E s₂) E { s with heap:=h,toks:=tk })
    (done:∀ m₁ news₁ h tk,J m₀ news [] m₁ news₁→Fr h₀ env.locals h m₁→News h₀ env.locals h news₁→Q .next { s with heap:=h,toks:=tk }) :
    wpAny (model prog w) A (pyIter (.ref l)) (fun it s₂=>TurnsAt prog w A h₀ env target body Q E it s₂) E s:=rH (J m₀ news) hh F N hm hc hd hj step done
end
@[irreducible] noncomputable def gN (h₀:Heap) (L:Addr) (s:Shared) (J:Nat→(Str→Option Value)→List (Addr×Obj)→Prop) (Q:Flow→Shared→Prop) (n:Nat) (f:Flow) (s₃:Shared):Prop :=
  match f with
  | .brk=>Q .next s₃
  | .ret v=>Q (.ret v) s₃
  | _=>∃ h' tk m₂ news₂ n',s₃ = { s with heap:=h',toks:=tk }∧Fr h₀ L h' m₂∧News h₀ L h' news₂∧n' < n∧J n' m₂ news₂
section
variable {h₀:Heap} {L:Addr} {s:Shared} {J:Nat→(Str→Option Value)→List (Addr×Obj)→Prop} {Q:Flow→Shared→Prop} {n:Nat}
theorem gN.next {h':Heap} {tk n':Nat} {m':Str→Option Value} {news':List (Addr×Obj)} (F:Fr h₀ L h' m') (N:News h₀ L h' news') (hn:n' < n) (j:J n' m' news'):gN h₀ L s J Q n .next { s with heap:=h',toks:=tk }:=by
  unfold gN; exact ⟨h',tk,m',news',n',rfl,F,N,hn,j⟩
theorem gN.cont {h':Heap} {tk n':Nat} {m':Str→Option Value} {news':List (Addr×Obj)} (F:Fr h₀ L h' m') (N:News h₀ L h' news') (hn:n' < n) (j:J n' m' news'):gN h₀ L s J Q n .cont { s with heap:=h',toks:=tk }:=by
  unfold gN; exact ⟨h',tk,m',news',n',rfl,F,N,hn,j⟩
theorem gN.brk {s₃:Shared} (h:Q .next s₃):gN h₀ L s J Q n .brk s₃:=by unfold gN; exact h
theorem gN.ret {s₃:Shared} {v:Value} (h:Q (.ret v) s₃):gN h₀ L s J Q n (.ret v) s₃:=by unfold gN; exact h
theorem gN.elim {f:Flow} {s₃:Shared} (h:gN h₀ L s J Q n f s₃):match f with
  | .brk=>Q .next s₃
  | .ret v=>Q (.ret v) s₃
  | _=>∃ h' tk m₂ news₂ n',s₃ = { s with heap:=h',toks:=tk }∧Fr h₀ L h' m₂∧News h₀ L h' news₂∧n' < n∧J n' m₂ news₂:=by unfold gN at h; cases f <;> exact h
end
section
variable {prog:Program} {w:World} {A:Around} {E:Value→Shared→Prop} {Q:Flow→Shared→Prop} {s:Shared} {env:Env} {h₀:Heap} {L:Addr}
theorem vA {test:Expr} {body orelse:List Stmt} {pos:Pos} {m:Str→Option Value} {news:List (Addr×Obj)} (J:(Str→Option Value)→List (Addr×Obj)→Nat→(Str→Option Value)→List (Addr×Obj)→Prop) {n₀:Nat}
    (F:Fr h₀ L s.heap m) (N:News h₀ L s.heap news) (hJ:J m news n₀ m news)
    (turn:∀ n m₁ news₁ h₁ tk₁,Fr h₀ L h₁ m₁→News h₀ L h₁ news₁→J m news n m₁ news₁ →
      wpAny (model prog w) A (isTrue test env (eval test env)) (fun b s₂ =>
        if b=true then wpAny (model prog w) A (execs body env) (gN h₀ L s (J m news) Q n) E s₂ else wpAny (model prog w) A (execs orelse env) Q E s₂) E { s with heap:=h₁,toks:=tk₁ })
    (hE:PassesOwn (model prog w) A env E:=by passes_own) :
    wpAny (model prog w) A (exec (.While test body orelse pos) env) Q E s:=by
  refine wpAny_While (codeAny_whileLoop (fun n s'=>∃ h₁ tk₁ m₁ news₁,s' = { s with heap:=h₁,toks:=tk₁ }∧Fr h₀ L h₁ m₁∧News h₀ L h₁ news₁∧J m news n m₁ news₁) ?_ n₀ ⟨s.heap,s.toks,m,news,rfl,F,N,hJ⟩)
  intro n s' r91
  refine E4 r91 fun h₁ tk₁ m₁ news₁ q91=>A4 q91 fun e92 F₁ N₁ J₁=>?_
  try clear r91
  clear q91
  first | subst e92 | cases e92
  refine wpAny_mono (turn n m₁ news₁ h₁ tk₁ F₁ N₁ J₁) (fun b s₂ h₂=>?_) hE
  cases b with
  | false =>
    simp only [Bool.false_eq_true,if_false] at h₂ ⊢
    exact wpAny_mono h₂ (fun _ _ x=>x) hE
  | true =>
    simp only [if_true] at h₂ ⊢
    refine wpAny_mono h₂ (fun f s₃ h₃=>?_) hE
    have h₃:=h₃.elim
    cases f with
    | brk=>exact h₃
    | ret v=>exact h₃
    | next =>
      refine E5 h₃ fun h' tk m₂ news₂ n' q93=>A5 q93 fun e94 F₂ N₂ hn j=>?_
      try clear h₃
      clear q93
      clear h₃
      first | subst e94 | cases e94
      exact ⟨n',hn,h',tk,m₂,news₂,rfl,F₂,N₂,j⟩
    | cont =>
      refine E5 h₃ fun h' tk m₂ news₂ n' q95=>A5 q95 fun e96 F₂ N₂ hn j=>?_
      try clear h₃
      clear q95
      clear h₃
      first | subst e96 | cases e96
      exact ⟨n',hn,h',tk,m₂,news₂,rfl,F₂,N₂,j⟩
end
section
variable {prog:Program} {w:World} {A:Around} {E:Value→Shared→Prop} {s:Shared} {env:Env} {h₀:Heap} {target:Expr} {body:List Stmt} {Q:Flow→Shared→Prop}
theorem dy {α:Type} (f:α→Itm) {I:Addr} {nm:String} {keep:List (Addr×Obj)} (J:List α→(Str→Option Value)→List (Addr×Obj)→Prop)
    (step:∀ a r v m₁ news₁ h tk oi,J (a::r) m₁ news₁→(f a).Is v h→(∀ p ∈ news₁,p.1≠I)→oi.cls = .type nm→Fr h₀ env.locals h m₁→News h₀ env.locals h ((I,oi)::news₁) →
      wpAny (model prog w) A (assign target env v) (fun _ s₂=>wpAny (model prog w) A (execs body env) (cX h₀ env.locals { s with heap:=h,toks:=tk } I oi keep (J r) Q) E s₂) E { s with heap:=h,toks:=tk })
    (done:∀ m₁ news₁ h tk,J [] m₁ news₁→Fr h₀ env.locals h m₁→News h₀ env.locals h news₁→Q .next { s with heap:=h,toks:=tk }) :
    ∀ (xs:List α) m news,J xs m news→(∀ p ∈ news,p.1≠I)→ItemsRest prog w A E h₀ env target body Q s [(I,nm)] keep (xs.map f) m news
  | [],m,news,hj,_=>fun h tk F N=>done m news h tk hj F N
  | a::r,m,news,hj,hne=>by
    intro v h tk hv F
    refine AllObj.cons fun oi hc=>AllObj.nil fun N=>?_
    refine wpAny_mono (step a r v m news h tk oi hj hv hne hc F N) (fun _ s₂ h₂=>wpAny_mono h₂ (fun f' s₃ h₃=>?_) fun _ _ e=>e) fun _ _ e=>e
    have h₃:=h₃.elim
    have fin:(∃ h' tk' m' news',s₃ = { s with heap:=h',toks:=tk' }∧Fr h₀ env.locals h' m'∧News h₀ env.locals h' ((I,oi)::news')∧(∀ p ∈ news',p.1≠I)∧(∀ p ∈ keep,p ∈ news')∧J r m' news') →
        UnrEndW h₀ env.locals { s with heap:=h,toks:=tk } [(I,oi)] (fun m' n'=>SubL keep n'∧ItemsRest prog w A E h₀ env target body Q s [(I,nm)] keep (r.map f) m' n') s₃:=by
      intro r91
      refine E4 r91 fun h' tk' m' news' q91=>A6 q91 fun e F' N' ne' hk' j'=>?_
      try clear r91
      clear q91
      exact ⟨h',tk',m',news',e,F',N',fun p hp q hq=>by rw [mem_singleton.mp hq]; exact ne' p hp,iO hk',dy f J step done r m' news' j' ne'⟩
    cases f' with
    | ret v=>exact h₃
    | brk=>exact h₃
    | next=>exact fin h₃
    | cont=>exact fin h₃
theorem lD {b:Array UInt8} {tb:Tok} {m₀:Str→Option Value} {news:List (Addr×Obj)} (J:(Str→Option Value)→List (Addr×Obj)→List UInt8→(Str→Option Value)→List (Addr×Obj)→Prop)
    (hh:A.handled=none) (F:Fr h₀ env.locals s.heap m₀) (N:News h₀ env.locals s.heap news) (hj:J m₀ news b.toList m₀ news)
    (hgo:∀ I v,letOwnedTupleGo target (.ref I) v=pure ())
    (step:∀ (I:Addr),(∀ p ∈ news,p.1 < I)→∀ (c:UInt8) r t m₁ news₁ h tk oi,J m₀ news (c::r) m₁ news₁→(∀ p ∈ news₁,p.1≠I)→oi.cls = .type "bytes_iterator" → Fr h₀ env.locals h m₁→News h₀ env.locals h ((I,oi)::news₁) →
      wpAny (model prog w) A (assign target env (.int (c.toNat:Int) t)) (fun _ s₂=>wpAny (model prog w) A (execs body env) (cX h₀ env.locals { s with heap:=h,toks:=tk } I oi [] (J m₀ news r) Q) E s₂) E { s with heap:=h,toks:=tk })
    (done:∀ m₁ news₁ h tk,J m₀ news [] m₁ news₁→Fr h₀ env.locals h m₁→News h₀ env.locals h news₁→Q .next { s with heap:=h,toks:=tk }) :
    wpAny (model prog w) A (pyIter (.bytes b tb)) (fun it s₂=>TurnsAt prog w A h₀ env target body Q E it s₂) E s:=by
  refine KBw.pyIter_bytes ?_
  have hI:∀ p ∈ news,p.1 < s.heap.objs.size:=fun p hp=>Heap.lt_size (N p hp).1
  refine ktu_core (tk0:=s.toks) (keep:=[]) (ws:=[(s.heap.objs.size, "bytes_iterator")]) (xs:=b.toList.map fun c=>Itm.tok fun t=>.int (c.toNat:Int) t)
    (KTurns.ofWalks (KBw.walks hh s.heap.objs.size b tb) fun i v s Q E st q=>by rw [hgo]; exact wpAny_pure q) (by simp) (fun i v h hp=>?_) (fun i h st=>?_) (fun b hb=>?_) (fun b hb=>by simpa using hb) (fun b hb=>.inl (by simpa using hb)) ?_ (fun p hp hI'=>?_) ?_ (F.push _) (fun p hp=>⟨Heap.get?_push_of_some _ (N p hp).1,(N p hp).2⟩) trivial
    (dy (fun c:UInt8=>Itm.tok fun t=>.int (c.toNat:Int) t) (J m₀ news) (fun c r v m₁ news₁ h tk oi hj' hv hne hoi F' N'=>?_) done b.toList m₀ news hj fun p hp=>Nat.ne_of_lt (hI p hp))
  · refine E2 hp fun c u q91=>A2 q91 fun h1 h2=>?_
    try clear hp
    clear q91
    refine ⟨Itm.tok fun t=>.int (c.toNat:Int) t,?_,u,h2⟩
    rw [List.getElem?_map,Array.getElem?_toList,h1]; rfl
  · refine E1 st fun it q92=>A3 q92 fun hit hic _=>?_
    try clear st
    clear q92
    exact ⟨[(s.heap.objs.size,it)],⟨⟨rfl,hic⟩,trivial⟩,fun p hp=>by rw [mem_singleton.mp hp]; exact hit⟩
  · have hb':b=s.heap.objs.size:=by simpa using hb
    rw [hb']
    exact ⟨mem_cons_self ..,next_is_new F⟩
  · intro hI'
    exact absurd F.ns.lt (by rw [mem_singleton.mp hI']; exact Nat.lt_irrefl _)
  · exact absurd (hI p hp) (by rw [mem_singleton.mp hI']; exact Nat.lt_irrefl _)
  · exact ⟨_,Heap.get?_push_size _ rfl,rfl,rfl⟩
  · obtain ⟨t,rfl⟩:=hv
    exact step _ hI c r t m₁ news₁ h tk oi hj' hne hoi F' N'
end
end
section
set_option tactic.hygienic false
section
variable {prog:Program} {w:World} {A₀ A:Around} {s:Shared} {base h₀:Heap} {outer:List Env} {L:Addr} {m mg mb:Str→Option Value} {env:Env} {own:List (Addr×Obj)} {K:Frag} {p:Program} {loose:List Str} {mean:ExcName→Option Value}
  {R:Result→Shared→Prop} {name qual:Str} {params:Arguments} {body:List Stmt} {scope:Scope} {dV kV doc pm cdv ct oc:Value} {an od:Option Addr} {osl:Array (Option Value)} {f:Addr} {args:Args} {binds:List (Str×Value)}
end
end
section
set_option tactic.hygienic false
section
variable {prog:Program} {w:World} {A:Around} {E:Value→Shared→Prop} {s:Shared} {h₀:Heap} {L D:Addr} {m:Str→Option Value} {news news':List (Addr×Obj)} {n:Nat} {us:List Value} {y:Value}
theorem szl {us:List Value} (h:us.length≤2000000):us.length≤sizeLine:=by rw [PySem.sizeLine_eq]; omega
theorem ml {Q:Bool→Shared→Prop} (hl:s.heap.IsList D us.toArray) (hz:us.length≤1000000) (h:∀ k,Q (!us.isEmpty) { s with toks:=k }):wpAny (model prog w) A (truthy (.ref D)) Q E s :=
  wpAny_truthy_list hl (by rw [size_toArray]; omega) (by rw [show us.toArray.isEmpty=us.isEmpty from by simp]; exact h _)
theorem lU {Q:Value→Shared→Prop} (F:Fr h₀ L s.heap m) (N:News h₀ L s.heap news) (U:Upd D (listOf us.toArray n) (listOf (us++[y]).toArray (n+1)) news news') (hz:us.length≤1000000)
    (h:∀ h',Fr h₀ L h' m→News h₀ L h' news'→Q .none { s with heap:=h' }):wpAny (model prog w) A (call (.builtin "list.append") [.ref D,y]) Q E s :=
  append_K F N (its:=us.toArray) (by simpa using U) h (by rw [size_toArray]; exact szl (by omega))
theorem pop_L {Q:Value→Shared→Prop} (F:Fr h₀ L s.heap m) (N:News h₀ L s.heap news) (U:Upd D (listOf (us++[y]).toArray n) (listOf us.toArray (n+1)) news news') (hz:us.length≤1000000)
    (h:∀ h',Fr h₀ L h' m→News h₀ L h' news'→Q y { s with heap:=h' }):wpAny (model prog w) A (call (.builtin "list.pop") [.ref D]) Q E s :=
  kl_pop F N (its:=(us++[y]).toArray) (p:=us) (y:=y) (by simpa using kpa_last y us) U (szl (us:=us++[y]) (by rw [length_append,length_singleton]; omega)) h
theorem tm {Q:Value→Shared→Prop} {t:Tok} (hl:s.heap.IsList D (us++[y]).toArray) (hz:us.length≤999999) (h:Q y s):wpAny (model prog w) A (getItem (.ref D) (.int (-1) t)) Q E s :=
  wpAny_getItem_list_neg hl (by decide) (by simp; (clear hz; omega)) (by decide) (by
    have e:((-1:Int)+((us++[y]).toArray.size:Int)).toNat=us.length:=by simp; omega
    rw [e]; simp) h
end
theorem eR:∀ (l:List Str) (k:Nat),(∀ x ∈ l,x.length≤k)→(l.map (·.length)).sum≤l.length * k
  | [],_,_=>by simp
  | x::r,k,h=>by
    have h1:=h x (.head _)
    have h2:=eR r k fun y hy=>h y (.tail _ hy)
    simp only [map_cons,List.sum_cons,length_cons]
    rw [Nat.add_mul]; omega
section
variable {prog:Program} {w:World} {A:Around} {E:Value→Shared→Prop} {s:Shared} {h₀:Heap} {L D:Addr} {m:Str→Option Value} {news news':List (Addr×Obj)} {n:Nat} {us:List Value} {y:Value}
theorem oG {value slice:Expr} {k:Nat} {tk:Tok} {Q:Value→Shared→Prop} (F:Fr h₀ L s.heap m) (N:News h₀ L s.heap news) (hl:s.heap.IsList D us.toArray) (hz:us.length≤1000000)
    (h:∀ D' h',Fr h₀ L h' m→News h₀ L h' ((D',listOf (us.take k).toArray 0)::news)→(∀ p ∈ news,p.1 < D')→Q (.ref D') { s with heap:=h' })
    (hs:subscripted slice false (.ref D) (.ref s.heap.objs.size)=operate [.ref s.heap.objs.size,.ref D] (getItem (.ref D) (.ref s.heap.objs.size))) (ht:∀ r,letTemporaryGo value (.ref D) r=pure ()) :
    wpAny (model prog w) A (subscriptTail value slice (.ref D) (.ref s.heap.objs.size)) Q E { s with heap:=s.heap.push { cls:=.type "slice",data:=.fields #[.none,.int (k:Int) tk,.none] } } :=
  kmk_slice_lit F N hl .none (.int _ _) (zs:=us.take k) (by rw [slicePick_upto']) h hs ht (by rw [size_toArray]; exact szl (by omega))
theorem add_L {vs:List Value} {b:Addr} {Q:Value→Shared→Prop} (F:Fr h₀ L s.heap m) (N:News h₀ L s.heap news) (ha:s.heap.IsList D us.toArray) (hb:s.heap.IsList b vs.toArray) (hz:us.length≤1000000) (hz':vs.length≤1000000)
    (h:∀ D' h',Fr h₀ L h' m→News h₀ L h' ((D',listOf (us++vs).toArray 0)::news)→(∀ p ∈ news,p.1 < D')→Q (.ref D') { s with heap:=h' }):wpAny (model prog w) A (binaryOp .Add (.ref D) (.ref b)) Q E s :=
  kmk_add_lit F N ha hb rfl h (by
    have:=szl (us:=us++vs) (by rw [length_append]; omega)
    rw [length_append] at this; exact this)
end
theorem iU {l:List Str} {i:Nat} {d:Str} (h:i < l.length):l.getD i d ∈ l:=by
  rw [getD_eq_getElem?_getD,List.getElem?_eq_getElem h]; exact List.getElem_mem _
section
variable {prog:Program} {w:World} {A:Around} {E:Value→Shared→Prop} {s:Shared} {D:Addr} {us:List Value}
end
end
section
set_option tactic.hygienic false
section
variable {prog:Program} {w:World} {A:Around} {E:Value→Shared→Prop} {R:Result→Shared→Prop} {s:Shared}
noncomputable def bX (ifs:List Expr) (env:Env):Sem Bool:=forIn ifs true fun c r=>if r=true then do let ok ← isTrue c env (eval c env); pure (ForInStep.yield ok) else pure (ForInStep.yield r)
theorem qm {env:Env} {Q:Bool→Shared→Prop} (h:Q true s):wpAny (model prog w) A (bX [] env) Q E s:=wpAny_tests_nil h
theorem pc {env:Env} {c:Expr} {Q:Bool→Shared→Prop} (h:wpAny (model prog w) A (isTrue c env (eval c env)) Q E s):wpAny (model prog w) A (bX [c] env) Q E s:=wpAny_tests_one h
theorem jL {elt target iter:Expr} {ifs:List Expr} {scope:Scope} {pos:Pos} {it acc:Value} {env:Env} (I:Nat→Shared→Prop)
    (turn:∀ n s,I n s→wpAny (model prog w) A (pyNext it) (fun r s₁=>match r with
      | none=>R (.ok .next) s₁
      | some v=>wpAny (model prog w) A (letOwnedTupleGo target it v) (fun _ s₁'=>wpAny (model prog w) A (assign target env v) (fun _ s₂ =>
          wpAny (model prog w) A (bX ifs env) (fun ok s₃ =>
            if ok=true then wpAny (model prog w) A (eval elt env) (fun x s₄ =>
              wpAny (model prog w) A (call (.builtin "list.append") [acc,x]) (fun _ s₅=>∃ m,m < n∧I m s₅) (notedBy (model prog w) A env fun e s'=>R (.error e) s') s₄) (notedBy (model prog w) A env fun e s'=>R (.error e) s') s₃
            else ∃ m,m < n∧I m s₃) (notedBy (model prog w) A env fun e s'=>R (.error e) s') s₂) (notedBy (model prog w) A env fun e s'=>R (.error e) s') s₁') (notedBy (model prog w) A env fun e s'=>R (.error e) s') s₁) (notedBy (model prog w) A env fun e s'=>R (.error e) s') s)
    (n:Nat) (h:I n s) :
    codeAny (model prog w) A (.compLoop (.ListComp elt [⟨target,iter,ifs,0⟩] scope pos) 0 it acc env) R s:=by
  refine codeAny_loop rfl I (fun n s hI=>?_) n h
  show wpAny _ A ((compTurn (.ListComp elt [⟨target,iter,ifs,0⟩] scope pos) 0 it acc env).onRaise (fun x=>do noteFrame x env; theTreesLotGoes x)) _ _ s
  refine wpAny_noted ?_
  rw [compTurn_list]
  refine wpAny_bind (wpAny_standAt (wpAny_bind (wpAny_mono (turn n s hI) (fun r s₁ h₁=>?_) fun _ _ h'=>h')))
  cases r with
  | none=>exact wpAny_pure h₁
  | some v =>
    refine wpAny_bind (wpAny_mono h₁ (fun _ s₁' h₁'=>?_) fun _ _ h'=>h')
    refine wpAny_bind (wpAny_mono h₁' (fun _ s₂ h₂=>wpAny_bind (wpAny_mono h₂ (fun ok s₃ h₃=>?_) fun _ _ h'=>h')) fun _ _ h'=>h')
    cases ok with
    | false=>exact wpAny_pure ⟨rfl,h₃⟩
    | true =>
      exact wpAny_bind (wpAny_bind (wpAny_mono h₃ (fun x s₄ h₄=>wpAny_bind (wpAny_mono h₄ (fun _ s₅ h₅=>wpAny_pure (wpAny_pure ⟨rfl,h₅⟩)) fun _ _ h'=>h')) fun _ _ h'=>h'))
end
section
variable {prog:Program} {w:World} {A:Around} {E:Value→Shared→Prop} {s:Shared} {env:Env} {h₀:Heap} {L:Addr} {m:Str→Option Value}
@[irreducible] noncomputable def ij (h₀:Heap) (C D L I:Addr) (oL oi:Obj) (acc:List Value) (ep:Nat) (keep:List (Addr×Obj)) (s₁:Shared) (J:(Str→Option Value)→List (Addr×Obj)→Prop) (s₂:Shared):Prop :=
  ∃ h' tk m' news',s₂ = { s₁ with heap:=h',toks:=tk }∧Fr h₀ C h' m'∧News h₀ C h' ((D,listOf acc.toArray ep)::(L,oL)::(I,oi)::news')∧(∀ p ∈ news',p.1≠D∧p.1≠L∧p.1≠I∧p.1≠C)∧(∀ p ∈ keep,p ∈ news')∧J m' news'
theorem ij.mk {C D I:Addr} {oL oi:Obj} {acc:List Value} {ep:Nat} {keep:List (Addr×Obj)} {s₁:Shared} {J:(Str→Option Value)→List (Addr×Obj)→Prop} {h':Heap} {tk:Nat} {m':Str→Option Value} {news':List (Addr×Obj)}
    (F:Fr h₀ C h' m') (N:News h₀ C h' ((D,listOf acc.toArray ep)::(L,oL)::(I,oi)::news')) (off:∀ p ∈ news',p.1≠D∧p.1≠L∧p.1≠I∧p.1≠C) (hk:∀ p ∈ keep,p ∈ news') (j:J m' news') :
    ij h₀ C D L I oL oi acc ep keep s₁ J { s₁ with heap:=h',toks:=tk }:=by unfold ij; exact ⟨h',tk,m',news',rfl,F,N,off,hk,j⟩
theorem ij.elim {C D I:Addr} {oL oi:Obj} {acc:List Value} {ep:Nat} {keep:List (Addr×Obj)} {s₁ s₂:Shared} {J:(Str→Option Value)→List (Addr×Obj)→Prop} (h:ij h₀ C D L I oL oi acc ep keep s₁ J s₂) :
    ∃ h' tk m' news',s₂ = { s₁ with heap:=h',toks:=tk }∧Fr h₀ C h' m'∧News h₀ C h' ((D,listOf acc.toArray ep)::(L,oL)::(I,oi)::news')∧(∀ p ∈ news',p.1≠D∧p.1≠L∧p.1≠I∧p.1≠C)∧(∀ p ∈ keep,p ∈ news')∧J m' news':=by unfold ij at h; exact h
noncomputable abbrev pV:=List Itm→List Value→(Str→Option Value)→List (Addr×Obj)→Prop
@[irreducible] noncomputable def oh (h₀:Heap) (C D L I:Addr) (oL oi:Obj) (keep:List (Addr×Obj)) (s₁:Shared) (J:Obj→(Str→Option Value)→List (Addr×Obj)→Prop) (s₂:Shared):Prop :=
  ∃ h' tk m' news' o',s₂ = { s₁ with heap:=h',toks:=tk }∧Fr h₀ C h' m'∧News h₀ C h' ((D,o')::(L,oL)::(I,oi)::news')∧(∀ p ∈ news',p.1≠D∧p.1≠L∧p.1≠I∧p.1≠C)∧(∀ p ∈ keep,p ∈ news')∧J o' m' news'
noncomputable abbrev rX:=List Itm→Obj→(Str→Option Value)→List (Addr×Obj)→Prop
theorem mM {target X:Expr} {scope:Scope} {cl:List (Str×Addr)} {I:Addr} {nm:String} {fp wr:List Addr} {n:Nat} {P Md:Nat→Value→Heap→Prop} {St:Nat→Heap→Prop} {xs:List Itm} {keep news:List (Addr×Obj)} {RR:Value→Addr→Result→Shared→Prop} {mk:Sem Value} {o₀:Obj} {BODY:Env→Addr→(Shared→Prop)→Shared→Prop}
    (hmk:∀ Q:Value→Shared→Prop,Q (.ref s.heap.objs.size) { s with heap:=s.heap.push o₀ }→wpAny (model prog w) A mk Q E s) (hfr:o₀.isFreed=false)
    (hstart:∀ {cenv:Env} {D:Addr} {R:Result→Shared→Prop} {s:Shared},codeAny (model prog w) A (.compLoop X 0 (.ref I) (.ref D) cenv) R s→wpAny (model prog w) A (pyIter (.ref I)) (fun it' s'=>codeAny (model prog w) A (.compLoop X 0 it' (.ref D) cenv) R s') (notedBy (model prog w) A cenv fun x s'=>R (.error x) s') s→codeAny (model prog w) A (.compStart X 0 (.ref I) (.ref D) cenv) R s)
    (hloop:∀ {cenv:Env} {D:Addr} {R:Result→Shared→Prop} {s:Shared} (Iv:Nat→Shared→Prop),(∀ n s,Iv n s→wpAny (model prog w) A (pyNext (.ref I)) (fun r s₁=>match r with
      | none=>R (.ok .next) s₁
      | some v=>wpAny (model prog w) A (letOwnedTupleGo target (.ref I) v) (fun _ s₁'=>wpAny (model prog w) A (assign target cenv v) (fun _ s₂=>BODY cenv D (fun s₅=>∃ m,m < n∧Iv m s₅) s₂) (fun _ _=>False) s₁') (fun _ _=>False) s₁) (fun _ _=>False) s)→∀ n,Iv n s→codeAny (model prog w) A (.compLoop X 0 (.ref I) (.ref D) cenv) R s)
    (hmono:∀ {cenv:Env} {D:Addr} {P Q:Shared→Prop} {s:Shared},BODY cenv D P s→(∀ s,P s→Q s)→BODY cenv D Q s)
    (W:KTurns prog w A target I fp wr n P Md St) (hself:∀ (s:Shared) (Q:Value→Shared→Prop) (E:Value→Shared→Prop),St 0 s.heap→Q (.ref I) s→wpAny (model prog w) A (pyIter (.ref I)) Q E s)
    (hcell:∀ y ∈ scope.names,y.2≠.cell) (hkind:scope.kind = .function)
    (hn:n=xs.length) (hP:∀ i v h,P i v h→∃ a,xs[i]? = some a∧a.Is v h) (hobj:∀ i h,St i h→∃ oi,h.get? I=some oi∧oi.cls = .type nm)
    (hwr:∀ b ∈ wr,b=I) (hfp:∀ b ∈ fp,b=I∨(∃ o,(b,o) ∈ keep)∨∃ o,h₀.get? b=some o) (hI:h₀.get? I=none) (hIL:I≠L) (hst:St 0 s.heap)
    (F:Fr h₀ L s.heap m) (N:News h₀ L s.heap news) (hk:∀ p ∈ keep,p ∈ news) (hnI:∀ p ∈ news,p.1≠I) (hIs:I < s.heap.objs.size)
    (J:rX) (hj:J xs o₀ (fun _=>none) news)
    (step:∀ D C oL a r o v m₁ news₁ h tk oi,J (a::r) o m₁ news₁→a.Is v h→(∀ p ∈ news₁,p.1≠D∧p.1≠L∧p.1≠I∧p.1≠C)→(D≠L∧D≠I∧D≠C∧L≠I∧L≠C∧I≠C)→oi.cls = .type nm →
      Fr h₀ C h m₁→News h₀ C h ((D,o)::(L,oL)::(I,oi)::news₁)→Fr h₀ L h m →
      wpAny (model prog w) A (assign target (compEnvC scope cl C env) v) (fun _ s₃=>BODY (compEnvC scope cl C env) D (oh h₀ C D L I oL oi keep { s with heap:=h,toks:=tk } (J r)) s₃) (fun _ _=>False) { s with heap:=h,toks:=tk })
    (done:∀ D C o m₁ news₁ h tk,D=s.heap.objs.size→J [] o m₁ news₁→(∀ p ∈ news,p.1 < D)→(∀ p ∈ news₁,p.1≠D∧p.1≠C)→D≠L→C≠L→D≠C→s.heap.get? C=none→h.Ns C m₁→Fr h₀ L h m→News h₀ L h ((D,o)::news₁)→(C≠I)→RR (.ref D) C (.ok .next) { s with heap:=h,toks:=tk }) :
    wpAny (model prog w) A mk (fun acc s₃=>wpAny (model prog w) A (newFunctionEnv scope env.globals cl [] env.qual none .none (some env)) (fun cenv s₄ =>
      codeAny (model prog w) A (.compStart X 0 (.ref I) acc { cenv with scope:=relabel scope env }) (RR acc cenv.locals) s₄) E s₃) E s:=by
  refine hmk _ (wpAny_newFunctionEnv hcell (by intro y hy; simp at hy) (fun h₁ hns₁ hsb₁=>?_) hkind)
  dsimp only at hns₁ hsb₁ ⊢
  generalize hH2:s.heap.push o₀=H2 at hns₁ hsb₁ ⊢
  have hC:H2.objs.size=s.heap.objs.size+1:=by rw [← hH2,Heap.size_push]
  generalize hCe:H2.objs.size=C at hns₁ hsb₁ ⊢ hC
  generalize hDe:s.heap.objs.size=D at hC hIs ⊢
  have lt:∀ b o,s.heap.get? b=some o→b < D:=fun b o e=>hDe▸Heap.lt_size e
  have hDC:@Ne Nat D C:=by (clear hn hCe hDe; omega)
  obtain ⟨oL,hoL⟩ : ∃ oL,s.heap.get? L=some oL:=by obtain ⟨o,_,_,h,_⟩:=F.ns; exact ⟨o,h⟩
  have hLD:@LT.lt Nat _ L D:=lt _ _ hoL
  have hIC:@Ne Nat I C:=by have:@LT.lt Nat _ I D:=hIs; (clear hn hCe hDe hLD; omega)
  have hID:@Ne Nat D I:=by have:@LT.lt Nat _ I D:=hIs; (clear hn hCe hDe hC hLD; omega)
  have hLC:@Ne Nat L C:=by (clear hn hCe hDe; omega)
  have hDL:@Ne Nat D L:=by (clear hn hCe hDe hC; omega)
  have old:∀ b o,s.heap.get? b=some o→h₁.get? b=some o:=fun b o e=>by
    have hb:@LT.lt Nat _ b D:=lt b o e
    have hbC:@Ne Nat b C:=by (clear hn hCe hDe hLD; omega)
    exact hsb₁.extBut b o hbC (Heap.get?_push_of_some _ (hH2▸Heap.get?_push_of_some _ e))
  have hD₁:h₁.get? D=some o₀:=hsb₁.extBut D _ hDC (Heap.get?_push_of_some _ (hH2▸hDe▸Heap.get?_push_size _ hfr))
  have hnone:∀ b,@LE.le Nat _ D b→s.heap.get? b=none:=fun b hb=>by
    cases e:s.heap.get? b with
    | none=>rfl
    | some o'=>have:@LT.lt Nat _ b D:=lt _ _ e; (clear hn hCe hDe hC hLD; omega)
  have h0D:∀ b,@LE.le Nat _ D b→h₀.get? b=none:=fun b hb=>by
    cases e:h₀.get? b with
    | none=>rfl
    | some o'=>have:=F.keep b o' e; rw [hnone b hb] at this; cases this
  have h0L:h₀.get? L=none:=by
    cases e:h₀.get? L with
    | none=>rfl
    | some o'=>have h1:=Heap.lt_size e; have h2:=F.above; exact absurd h1 (Nat.not_lt.mpr h2)
  have hab:h₀.objs.size≤C:=Nat.le_trans F.above (show @LE.le Nat _ L C by (clear hn hCe hDe; omega))
  have FL:∀ {h:Heap} {mC:Str→Option Value},Fr h₀ C h mC→h.get? L=some oL→Fr h₀ L h m:=fun FC e=>⟨F.ns.at' fun o e'=>by rw [hoL] at e'; cases e'; exact e,FC.keep,F.above⟩
  have loop:∀ s₃:Shared,s₃ = { s with heap:=h₁,toks:=s.toks+([]:List (Str×Value)).length } →
      codeAny (model prog w) A (.compLoop X 0 (.ref I) (.ref D) (compEnvC scope cl C env)) (RR (.ref D) C) s₃:=by
    rintro s₃ rfl
    refine hloop (fun k s'=>∃ h' tk m₁ news₁ i o,s' = { s with heap:=h',toks:=tk }∧St i h'∧Fr h₀ C h' m₁∧News h₀ C h' ((D,o)::(L,oL)::news₁)∧(∀ p ∈ news₁,p.1≠D∧p.1≠L∧p.1≠I∧p.1≠C)∧(∀ p ∈ keep,p ∈ news₁)∧J (xs.drop i) o m₁ news₁∧i≤n∧k=n+1 - i) ?_ (n+1) ?_
    · intro k s' r91
      refine E6 r91 fun h' tk m₁ news₁ i o q91=>A9 q91 fun e92 hst' F' N' off' hk' hJ hi e93=>?_
      try clear r91
      clear q91
      first | subst e92 | cases e92
      first | subst e93 | cases e93
      have next:∀ h₂:Heap,(∀ b o,b ∉ wr→h'.get? b=some o→h₂.get? b=some o)→Fr h₀ C h₂ m₁∧News h₀ C h₂ ((D,o)::(L,oL)::news₁):=fun h₂ hk₂=>by
        have nw:∀ b,b≠I→b ∉ wr:=fun b hb hm=>hb (hwr b hm)
        refine ⟨⟨F'.ns.at' fun o e=>hk₂ _ o (nw _ (Ne.symm hIC)) e,fun b o e=>hk₂ b o (nw _ fun z=>by rw [z,hI] at e; cases e) (F'.keep b o e),F'.above⟩,fun p hp=>⟨hk₂ _ _ (nw _ ?_) (N' p hp).1,(N' p hp).2⟩⟩
        clear F N step done hDe hC hIs lt hDC hoL hLD hLC hDL hD₁ hnone h0D h0L FL N' hk' hJ
        rcases mem_cons.mp hp with rfl | hp
        · exact hID
        · rcases mem_cons.mp hp with rfl | hp
          · exact Ne.symm hIL
          · exact (off' p hp).2.2.1
      by_cases hlt:i < n
      · refine W.item i _ _ _ hlt hst' fun v h₂ tk₂ hMd hk₂=>?_
        refine W.go i v _ _ _ hMd fun h₃ hPi hst₃ hk₃=>?_
        refine A2 (next h₃ fun b o hb x=>hk₃ b o hb (hk₂ b o hb x)) fun F₃ N₃=>?_
        refine E1 (hP i v h₃ hPi) fun a q94=>A2 q94 fun ha hav=>?_
        clear q94
        refine E1 (hobj _ _ hst₃) fun oi q95=>A2 q95 fun hoi hoic=>?_
        clear q95
        have hdrop:xs.drop i=a::xs.drop (i+1):=by
          have hix:i < xs.length:=hn▸hlt
          rw [drop_eq_getElem_cons hix]
          rw [List.getElem?_eq_getElem hix] at ha
          rw [Option.some.inj ha]
        rw [hdrop] at hJ
        have N₄:News h₀ C h₃ ((D,o)::(L,oL)::(I,oi)::news₁):=fun p hp=>by
          clear hstart hloop W hself hobj hwr hfp hIL F N hnI step done hDe hC hIs lt hDC hoL hLD hID hLC hDL hD₁ hnone h0D h0L FL N' off' hk' next hJ hoic
          rcases mem_cons.mp hp with rfl | hp
          · exact N₃ _ (.head _)
          · rcases mem_cons.mp hp with rfl | hp
            · exact N₃ _ (.tail _ (.head _))
            · rcases mem_cons.mp hp with rfl | hp
              · exact ⟨hoi,hIC,hI⟩
              · exact N₃ _ (.tail _ (.tail _ hp))
        have frame:∀ (h₅:Heap) (news₅:List (Addr×Obj)) (o5:Obj) (m₅:Str→Option Value),Fr h₀ C h₅ m₅→News h₀ C h₅ ((D,o5)::(L,oL)::(I,oi)::news₅)→(∀ p ∈ keep,p ∈ news₅)→St (i+1) h₅:=fun h₅ news₅ o5 m₅ F₅ N₅ hk₅=>by
          refine W.frame _ _ _ hst₃ fun b hb o e=>?_
          clear hstart hloop W hself hobj hwr hI hIL F N hk hnI step done hIs hIC hID h0D h0L hab FL F' N' off' next N₄
          rcases hfp b hb with rfl | ⟨o',ho'⟩ | ⟨o',ho'⟩
          · rw [hoi] at e; cases e
            exact (N₅ _ (.tail _ (.tail _ (.head _)))).1
          rotate_left
          · have e1:=F₃.keep b o' ho'
            rw [e] at e1; cases e1
            exact F₅.keep b _ ho'
          · have e1:=(N₃ _ (.tail _ (.tail _ (hk' _ ho')))).1
            rw [e] at e1; cases e1
            exact (N₅ _ (.tail _ (.tail _ (.tail _ (hk₅ _ ho'))))).1
        have key:=step D C oL a _ o v m₁ news₁ h₃ tk₂ oi hJ hav off' ⟨hDL,hID,hDC,Ne.symm hIL,hLC,hIC⟩ hoic F₃ N₄ (FL F₃ (N₃ _ (.tail _ (.head _))).1)
        refine wpAny_mono key (fun _ s₃ h₃'=>hmono h₃' fun s₄ h₄=>?_) fun _ _ f=>f
        unfold oh at h₄
        refine E5 h₄ fun h' tk' m' news' o' q96=>A6 q96 fun e97 F₅ N₅ off₅ hk₅ j₅=>?_
        try clear h₄
        clear q96
        first | subst e97 | cases e97
        exact ⟨n+1 - (i+1),by (clear hn hCe hDe hC hLD hab hlt; omega),h',tk',m',news',i+1,o',rfl,frame _ _ _ _ F₅ N₅ hk₅,F₅,fun p hp=>N₅ p (by
          clear hIL F N step done hDe hC hIs lt hDC hoL hLD hID hLC hDL hD₁ hnone h0D h0L FL N' off' next N₃ N₄ frame key h₃' N₅
          rcases mem_cons.mp hp with rfl | hp
          · exact .head _
          · rcases mem_cons.mp hp with rfl | hp
            · exact .tail _ (.head _)
            · exact .tail _ (.tail _ (.tail _ hp))),off₅,hk₅,j₅,hlt,rfl⟩
      · have hin:i=n:=by (clear hn hCe hDe hC hLD hab; omega)
        subst hin
        refine W.done _ _ _ hst' fun h₂ tk₂ hk₂=>?_
        refine A2 (next h₂ hk₂) fun F₂ N₂=>?_
        have hd:xs.drop i=[]:=drop_eq_nil_of_le (Nat.le_of_eq hn.symm)
        rw [hd] at hJ
        exact done D C o m₁ news₁ h₂ tk₂ hDe.symm hJ (fun p hp=>lt _ _ (N p hp).1) (fun p hp=>⟨(off' p hp).1,(off' p hp).2.2.2⟩) hDL (Ne.symm hLC) hDC (hnone C (by (clear hCe hDe hLD hab hn hi hlt; omega))) F₂.ns (FL F₂ (N₂ _ (.tail _ (.head _))).1) (fun p hp=>by
          clear hDe hC hIs lt hDC hLD hID hD₁ hnone h0D N' hk' hJ next
          rcases mem_cons.mp hp with rfl | hp
          · exact ⟨(N₂ _ (.head _)).1,hDL,(N₂ _ (.head _)).2.2⟩
          · exact ⟨(N₂ _ (.tail _ (.tail _ hp))).1,(off' p hp).2.1,(N₂ _ (.tail _ (.tail _ hp))).2.2⟩) (Ne.symm hIC)
    · refine ⟨h₁,_,_,news,0,o₀,rfl,W.frame _ _ _ hst fun b _ o e=>old b o e,⟨hns₁,fun b o e=>old b o (F.keep b o e),hab⟩,fun p hp=>?_,fun p hp=>?_,hk,by rw [drop_zero]; exact hj,Nat.zero_le _,rfl⟩
      · rcases mem_cons.mp hp with rfl | hp
        · exact ⟨hD₁,hDC,h0D _ (Nat.le_refl _)⟩
        · rcases mem_cons.mp hp with rfl | hp
          · exact ⟨old _ _ hoL,hLC,h0L⟩
          · have hb:@LT.lt Nat _ p.1 D:=lt _ _ (N p hp).1
            have hbC:@Ne Nat p.1 C:=by (clear hn hCe hDe hLD hab; omega)
            exact ⟨old _ _ (N p hp).1,hbC,(N p hp).2.2⟩
      · have hb:@LT.lt Nat _ p.1 D:=lt _ _ (N p hp).1
        have hbC:@Ne Nat p.1 C:=by (clear hn hCe hDe hLD hab; omega)
        have hbD:@Ne Nat p.1 D:=by (clear hn hCe hDe hC hLD hab; omega)
        exact ⟨hbD,(N p hp).2.1,hnI p hp,hbC⟩
  exact hstart (loop _ rfl) (hself _ _ _ (W.frame _ _ _ hst fun b _ o e=>old b o e) (loop _ rfl))
theorem cY {elt target iter:Expr} {ifs:List Expr} {scope:Scope} {cl:List (Str×Addr)} {pos:Pos} {I:Addr} {nm:String} {fp wr:List Addr} {n:Nat} {P Md:Nat→Value→Heap→Prop} {St:Nat→Heap→Prop} {xs:List Itm} {keep news:List (Addr×Obj)} {RR:Value→Addr→Result→Shared→Prop}
    (W:KTurns prog w A target I fp wr n P Md St) (hself:∀ (s:Shared) (Q:Value→Shared→Prop) (E:Value→Shared→Prop),St 0 s.heap→Q (.ref I) s→wpAny (model prog w) A (pyIter (.ref I)) Q E s)
    (hcell:∀ y ∈ scope.names,y.2≠.cell) (hkind:scope.kind = .function)
    (hn:n=xs.length) (hsz:xs.length≤1000) (hP:∀ i v h,P i v h→∃ a,xs[i]? = some a∧a.Is v h) (hobj:∀ i h,St i h→∃ oi,h.get? I=some oi∧oi.cls = .type nm)
    (hwr:∀ b ∈ wr,b=I) (hfp:∀ b ∈ fp,b=I∨(∃ o,(b,o) ∈ keep)∨∃ o,h₀.get? b=some o) (hI:h₀.get? I=none) (hIL:I≠L) (hst:St 0 s.heap)
    (F:Fr h₀ L s.heap m) (N:News h₀ L s.heap news) (hk:∀ p ∈ keep,p ∈ news) (hnI:∀ p ∈ news,p.1≠I) (hIs:I < s.heap.objs.size)
    (J:pV) (hj:J xs [] (fun _=>none) news)
    (step:∀ D C oL a r acc ep v m₁ news₁ h tk oi,J (a::r) acc m₁ news₁→acc.length+(a::r).length≤xs.length→a.Is v h→(∀ p ∈ news₁,p.1≠D∧p.1≠L∧p.1≠I∧p.1≠C)→(D≠L∧D≠I∧D≠C∧L≠I∧L≠C∧I≠C)→oi.cls = .type nm →
      Fr h₀ C h m₁→News h₀ C h ((D,listOf acc.toArray ep)::(L,oL)::(I,oi)::news₁)→Fr h₀ L h m →
      wpAny (model prog w) A (assign target (compEnvC scope cl C env) v) (fun _ s₃=>wpAny (model prog w) A (bX ifs (compEnvC scope cl C env)) (fun ok s₄ =>
        if ok=true then wpAny (model prog w) A (eval elt (compEnvC scope cl C env)) (fun x s₅=>ij h₀ C D L I oL oi acc ep keep { s with heap:=h,toks:=tk } (J r (acc++[x])) s₅) (fun _ _=>False) s₄
        else ij h₀ C D L I oL oi acc ep keep { s with heap:=h,toks:=tk } (J r acc) s₄) (fun _ _=>False) s₃) (fun _ _=>False) { s with heap:=h,toks:=tk })
    (done:∀ D C acc ep m₁ news₁ h tk,J [] acc m₁ news₁→(∀ p ∈ news,p.1 < D)→(∀ p ∈ news₁,p.1≠D∧p.1≠C)→D≠L→C≠L→D≠C→s.heap.get? C=none→h.Ns C m₁→Fr h₀ L h m→News h₀ L h ((D,listOf acc.toArray ep)::news₁)→(C≠I)→RR (.ref D) C (.ok .next) { s with heap:=h,toks:=tk }) :
    wpAny (model prog w) A (newList []) (fun acc s₃=>wpAny (model prog w) A (newFunctionEnv scope env.globals cl [] env.qual none .none (some env)) (fun cenv s₄ =>
      codeAny (model prog w) A (.compStart (.ListComp elt [⟨target,iter,ifs,0⟩] scope pos) 0 (.ref I) acc { cenv with scope:=relabel scope env }) (RR acc cenv.locals) s₄) E s₃) E s:=by
  refine mM (X:=.ListComp elt [⟨target,iter,ifs,0⟩] scope pos) (o₀:=listOf #[] 0) (BODY:=fun cenv D P s₃=>wpAny (model prog w) A (bX ifs cenv) (fun ok s₄=>if ok=true then wpAny (model prog w) A (eval elt cenv) (fun x s₅=>wpAny (model prog w) A (call (.builtin "list.append") [.ref D,x]) (fun _ s₆=>P s₆) (fun _ _=>False) s₅) (fun _ _=>False) s₄ else P s₄) (fun _ _=>False) s₃)
    (fun Q h=>wpAny_newObj_type h) rfl (fun h1 h2=>codeAny_compStart_list h1 h2) (fun Iv turn n hI=>jL Iv (fun n s h=>wpAny_mono (turn n s h) (fun r s₁ h₁=>?_) fun _ _ f=>f.elim) n hI) (fun h k=>wpAny_mono h (fun ok s₄ h₄=>?_) fun _ _ f=>f)
    W hself hcell hkind hn hP hobj hwr hfp hI hIL hst F N hk hnI hIs (fun r o m₁ n₁=>∃ acc ep,o=listOf acc.toArray ep∧acc.length+r.length≤xs.length∧J r acc m₁ n₁) ⟨[],0,rfl,by simp,hj⟩ ?_ ?_
  · cases r with
    | none=>exact h₁
    | some v =>
      refine wpAny_mono h₁ (fun _ s₂ h₂=>wpAny_mono h₂ (fun _ s₃ h₃=>wpAny_mono h₃ (fun ok s₄ h₄=>?_) fun _ _ f=>f.elim) fun _ _ f=>f.elim) fun _ _ f=>f.elim
      cases ok with
      | false=>exact h₄
      | true=>exact wpAny_mono h₄ (fun x s₅ h₅=>wpAny_mono h₅ (fun _ _ h=>h) fun _ _ f=>f.elim) fun _ _ f=>f.elim
  · cases ok with
    | false=>exact k _ h₄
    | true=>exact wpAny_mono h₄ (fun x s₅ h₅=>wpAny_mono h₅ (fun _ _ h=>k _ h) fun _ _ f=>f) fun _ _ f=>f
  · intro D C oL a r o v m₁ news₁ h tk oi r91 hav off hne hoic FC NC FL
    refine E2 r91 fun acc ep q91=>A3 q91 fun e92 hl hJ=>?_
    try clear r91
    clear q91
    first | subst e92 | cases e92
    refine wpAny_mono (step D C oL a r acc ep v m₁ news₁ h tk oi hJ hl hav off hne hoic FC NC FL) (fun _ s₃ h₃=>wpAny_mono h₃ (fun ok s₄ h₄=>?_) fun _ _ f=>f) fun _ _ f=>f
    have hl':acc.length+r.length≤xs.length:=by rw [length_cons] at hl; (clear hn; omega)
    cases ok with
    | false =>
      simp only [Bool.false_eq_true,if_false] at h₄ ⊢
      refine hG fun G9 k9=>?_
      refine E4 h₄.elim fun h' tk' m' news' q93=>A6 q93 fun e94 F₅ N₅ off₅ hk₅ j₅=>?_
      clear q93
      clear h₄
      first | subst e94 | cases e94
      refine k9 ?_
      unfold oh
      exact ⟨h',tk',m',news',_,rfl,F₅,N₅,off₅,hk₅,acc,ep,rfl,hl',j₅⟩
    | true =>
      simp only [if_true] at h₄ ⊢
      refine wpAny_mono h₄ (fun x s₅ h₅=>?_) fun _ _ f=>f
      refine hG fun G9 k9=>?_
      refine E4 h₅.elim fun h' tk' m' news' q95=>A6 q95 fun e96 F₅ N₅ off₅ hk₅ j₅=>?_
      clear q95
      clear h₅
      first | subst e96 | cases e96
      refine k9 ?_
      refine lU F₅ N₅ (us:=acc) (n:=ep) (.head fun p hp=>?_) (by (clear hn; omega)) fun h₆ F₆ N₆=>?_
      · refine hG fun G9 k9=>?_
        rcases mem_cons.mp hp with rfl | hp
        all_goals (try refine k9 ?_)
        · exact Ne.symm hne.1
        · refine hG fun G9 k9=>?_
          rcases mem_cons.mp hp with rfl | hp
          all_goals (try refine k9 ?_)
          · exact Ne.symm hne.2.1
          · exact (off₅ p hp).1
      · unfold oh
        exact ⟨h₆,tk',m',news',_,rfl,F₆,N₆,off₅,hk₅,acc++[x],ep+1,rfl,by rw [length_append,length_singleton]; rw [length_cons] at hl; (clear hn; omega),j₅⟩
  · rintro D C o m₁ news₁ h tk - ⟨acc,ep,rfl,hl,hJ⟩ h1 h2 h3 h4 h5 h6 h7 h8 h9 h10
    exact done D C acc ep m₁ news₁ h tk hJ h1 h2 h3 h4 h5 h6 h7 h8 h9 h10
end
section
variable {prog:Program} {w:World} {A:Around} {E:Value→Shared→Prop} {s:Shared} {env:Env} {h₀:Heap} {L:Addr} {m:Str→Option Value}
@[irreducible] noncomputable def bE (prog:Program) (w:World) (A:Around) (E:Value→Shared→Prop) (env:Env) (elt target iter:Expr) (ifs:List Expr) (scope:Scope) (cl:List (Str×Addr)) (pos:Pos) (RR:Value→Addr→Result→Shared→Prop) (it:Value) (s:Shared):Prop :=
  wpAny (model prog w) A (newList []) (fun acc s₃=>wpAny (model prog w) A (newFunctionEnv scope env.globals cl [] env.qual none .none (some env)) (fun cenv s₄ =>
      codeAny (model prog w) A (.compStart (.ListComp elt [⟨target,iter,ifs,0⟩] scope pos) 0 it acc { cenv with scope:=relabel scope env }) (RR acc cenv.locals) s₄) E s₃) E s
theorem ql {elt target iter:Expr} {ifs:List Expr} {scope:Scope} {cl:List (Str×Addr)} {pos:Pos} {Q:Value→Shared→Prop}
    (hclos:closureFor scope env=pure cl) (hkind:scope.kind = .function) (hnames:∀ y ∈ scope.names,y.2 = .local→scope.names.lookup y.1=some .local)
    (hs:∀ x,foldedSetIterable iter env x=pure x)
    (h:wpAny (model prog w) A (eval iter env) (fun xv s₁=>wpAny (model prog w) A (pyIter xv) (fun it s₂=>bE prog w A E env elt target iter ifs scope cl pos (fun acc C=>compPost (model prog w) A E none Q acc C) it s₂) E s₁) E s) :
    wpAny (model prog w) A (eval (.ListComp elt [⟨target,iter,ifs,0⟩] scope pos) env) Q E s:=by
  rw [eval_ListComp]
  refine wpAny_comprehension_free (use:=none) rfl hs hclos hkind hnames (wpAny_mono h (fun xv s₁ h₁=>wpAny_mono h₁ (fun it s₂ h₂=>?_) fun _ _ e=>e) fun _ _ e=>e)
  unfold bE at h₂
  exact h₂
theorem kw {elt target iter:Expr} {ifs:List Expr} {scope:Scope} {cl:List (Str×Addr)} {pos py spos:Pos} {y:Str} {Q:Flow→Shared→Prop}
    (hsw:swapsWith (.ListComp elt [⟨target,iter,ifs,0⟩] scope pos) (some (.Name y py)) spos.line env=pure true)
    (hclos:closureFor scope env=pure cl) (hkind:scope.kind = .function) (hnames:∀ y ∈ scope.names,y.2 = .local→scope.names.lookup y.1=some .local)
    (hs:∀ x,foldedSetIterable iter env x=pure x)
    (h:wpAny (model prog w) A (eval iter env) (fun xv s₁=>wpAny (model prog w) A (pyIter xv) (fun it s₂=>bE prog w A E env elt target iter ifs scope cl pos (fun acc C=>compPost (model prog w) A E (some (assign (.Name y py) env)) (fun _ s'=>Q .next s') acc C) it s₂) E s₁) E s) :
    wpAny (model prog w) A (exec (.Assign [.Name y py] (.ListComp elt [⟨target,iter,ifs,0⟩] scope pos) spos) env) Q E s:=by
  rw [exec_Assign_Name_used _ _ _ _ hsw]
  refine wpAny_bind (wpAny_standAt (wpAny_bind ?_))
  show wpAny _ A (do let _ ← comprehension (.ListComp elt [⟨target,iter,ifs,0⟩] scope pos) scope env _ (newList []) false (eval iter env) (some (assign (.Name y py) env))) _ _ s
  refine wpAny_bind (wpAny_mono (wpAny_comprehension_free (use:=some (assign (.Name y py) env)) (Q:=fun _ s'=>Q .next s') rfl hs hclos hkind hnames
    (wpAny_mono h (fun xv s₁ h₁=>wpAny_mono h₁ (fun it s₂ h₂=>?_) fun _ _ e=>e) fun _ _ e=>e)) (fun _ s' hq=>wpAny_pure (wpAny_pure hq)) fun _ _ e=>e)
  unfold bE at h₂
  exact h₂
theorem qM {C:Addr} {h h':Heap} (F:Fr h₀ L h m) (hs:Heap.SameBut C h h') (hL:L≠C) (h0:h₀.get? C=none):Fr h₀ L h' m :=
  ⟨F.ns.sameBut hs hL,fun b o e=>(hs.2 b fun z=>by rw [z,h0] at e; cases e).trans (F.keep b o e),F.above⟩
theorem qr {C:Addr} {h h':Heap} {news:List (Addr×Obj)} (N:News h₀ L h news) (hs:Heap.SameBut C h h') (hn:∀ p ∈ news,p.1≠C):News h₀ L h' news:=fun p hp=>⟨(hs.2 _ (hn p hp)).trans (N p hp).1,(N p hp).2⟩
end
section
variable {prog:Program} {w:World} {A:Around} {E:Value→Shared→Prop} {s:Shared} {env:Env} {h₀:Heap} {L:Addr} {m:Str→Option Value}
noncomputable abbrev dI (c:UInt8):Itm:=.tok fun t=>.int (c.toNat:Int) t
theorem nU {elt target iter:Expr} {ifs:List Expr} {scope:Scope} {cl:List (Str×Addr)} {pos:Pos} {b:Array UInt8} {tb:Tok} {news:List (Addr×Obj)} {RR:Value→Addr→Result→Shared→Prop} (J:pV)
    (hh:A.handled=none) (hcell:∀ y ∈ scope.names,y.2≠.cell) (hkind:scope.kind = .function) (hgo:∀ I v,letOwnedTupleGo target (.ref I) v=pure ()) (F:Fr h₀ L s.heap m) (N:News h₀ L s.heap news) (hsz:b.toList.length≤1000)
    (hj:J (b.toList.map dI) [] (fun _=>none) news)
    (step:∀ I D C oL a r acc ep v m₁ news₁ h tk oi,J (a::r) acc m₁ news₁→acc.length+(a::r).length≤(b.toList.map dI).length→a.Is v h→(∀ p ∈ news₁,p.1≠D∧p.1≠L∧p.1≠I∧p.1≠C)→(D≠L∧D≠I∧D≠C∧L≠I∧L≠C∧I≠C)→oi.cls = .type "bytes_iterator" →
      Fr h₀ C h m₁→News h₀ C h ((D,listOf acc.toArray ep)::(L,oL)::(I,oi)::news₁)→Fr h₀ L h m →
      wpAny (model prog w) A (assign target (compEnvC scope cl C env) v) (fun _ s₃=>wpAny (model prog w) A (bX ifs (compEnvC scope cl C env)) (fun ok s₄ =>
        if ok=true then wpAny (model prog w) A (eval elt (compEnvC scope cl C env)) (fun x s₅=>ij h₀ C D L I oL oi acc ep [] { s with heap:=h,toks:=tk } (J r (acc++[x])) s₅) (fun _ _=>False) s₄
        else ij h₀ C D L I oL oi acc ep [] { s with heap:=h,toks:=tk } (J r acc) s₄) (fun _ _=>False) s₃) (fun _ _=>False) { s with heap:=h,toks:=tk })
    (done:∀ D C acc ep m₁ news₁ h tk,J [] acc m₁ news₁→(∀ p ∈ news,p.1 < D)→(∀ p ∈ news₁,p.1≠D∧p.1≠C)→D≠L→C≠L→D≠C→h₀.get? C=none→h.Ns C m₁→Fr h₀ L h m→News h₀ L h ((D,listOf acc.toArray ep)::news₁)→RR (.ref D) C (.ok .next) { s with heap:=h,toks:=tk }) :
    wpAny (model prog w) A (pyIter (.bytes b tb)) (fun it s₂=>bE prog w A E env elt target iter ifs scope cl pos RR it s₂) E s:=by
  refine KBw.pyIter_bytes ?_
  unfold bE
  refine cY (s:={ s with heap:=s.heap.push { cls:=.type "bytes_iterator",data:=.fields #[.bytes b tb,.int 0 0] } }) (h₀:=h₀) (L:=L) (m:=m) (xs:=b.toList.map dI) (keep:=[]) (news:=news) (nm := "bytes_iterator")
    (KTurns.ofWalks (KBw.walks hh s.heap.objs.size b tb) fun i v s Q E st q=>by rw [hgo]; exact wpAny_pure q) (fun s Q E st q=>KBw.pyIter_self st q) hcell hkind (by simp) (by simpa using hsz)
    (fun i v h hp=>?_) (fun i h st=>?_) (fun b hb=>by simpa using hb) (fun b hb=>.inl (by simpa using hb)) (next_is_new F) (Ne.symm (Nat.ne_of_lt F.ns.lt)) ?_ (F.push _) (fun p hp=>⟨Heap.get?_push_of_some _ (N p hp).1,(N p hp).2⟩) (fun p hp=>nomatch hp)
    (fun p hp=>Nat.ne_of_lt (Heap.lt_size (N p hp).1)) (by rw [Heap.size_push]; exact Nat.lt_succ_self _) J hj (step _) ?_
  · refine E2 hp fun c u q91=>A2 q91 fun h1 h2=>?_
    try clear hp
    clear q91
    refine ⟨dI c,?_,u,h2⟩
    rw [List.getElem?_map,Array.getElem?_toList,h1]; rfl
  · refine E1 st fun it q92=>A3 q92 fun hit hic _=>?_
    try clear st
    clear q92
    exact ⟨it,hit,hic⟩
  · exact ⟨_,Heap.get?_push_size _ rfl,rfl,rfl⟩
  · intro D C acc ep m₁ news₁ h tk hJ hlo hoff h1 h2 h3 h4 h5 F' N' h6
    refine done D C acc ep m₁ news₁ h tk hJ hlo hoff h1 h2 h3 ?_ h5 F' N'
    cases e:h₀.get? C with
    | none=>rfl
    | some o=>have:=(F.push { cls:=.type "bytes_iterator",data:=.fields #[.bytes b tb,.int 0 0] }).keep C o e; rw [h4] at this; cases this
end
section
variable {M:Model} {A:Around} {E:Value→Shared→Prop} {s:Shared} {env:Env} {h₀:Heap} {L C:Addr} {m:Str→Option Value} {news:List (Addr×Obj)}
end
section
variable {M:Model} {A:Around} {E:Value→Shared→Prop} {s:Shared} {env:Env} {h₀:Heap} {L C:Addr} {m:Str→Option Value} {news:List (Addr×Obj)} {scope:Scope} {cl:List (Str×Addr)}
end
end
section
set_option tactic.hygienic false
noncomputable abbrev dC (k:Nat):Itm:=.tok fun t=>.int (k:Int) t
theorem mz {i k:Nat} {a:Nat} {r:List Nat} (h:a::r=List.range' i k):a=i∧∃ k',k=k' + 1∧r=List.range' (i+1) k':=by
  cases k with
  | zero=>simp at h
  | succ k=>rw [range'_succ] at h; exact ⟨(List.cons.inj h).1,k,rfl,(List.cons.inj h).2⟩
theorem rp {i k:Nat} (h:[]=List.range' i k):k=0:=by
  cases k with
  | zero=>rfl
  | succ k=>rw [range'_succ] at h; cases h
section
variable {prog:Program} {w:World} {A:Around} {E:Value→Shared→Prop} {s:Shared} {env:Env} {h₀:Heap} {L:Addr} {m:Str→Option Value}
theorem nP {elt target iter:Expr} {ifs:List Expr} {scope:Scope} {cl:List (Str×Addr)} {pos:Pos} {rg:Addr} {b₀:Int} {n:Nat} {t₀ u₀ v₀:Tok} {news:List (Addr×Obj)} {RR:Value→Addr→Result→Shared→Prop} (J:pV)
    (hh:A.handled=none) (hcell:∀ y ∈ scope.names,y.2≠.cell) (hkind:scope.kind = .function) (hgo:∀ I v,letOwnedTupleGo target (.ref I) v=pure ()) (F:Fr h₀ L s.heap m) (N:News h₀ L s.heap news)
    (hr:IsRange s.heap rg 0 b₀ 1 t₀ u₀ v₀) (hsmall:Builtin.Range.small 0 b₀ 1=true) (hn:Builtin.Range.rangeSize 0 b₀ 1=(n:Int)) (hsz:n≤1000)
    (hj:J ((List.range' 0 n).map dC) [] (fun _=>none) news)
    (step:∀ I D C oL a r acc ep v m₁ news₁ h tk oi,J (a::r) acc m₁ news₁→acc.length+(a::r).length≤((List.range' 0 n).map dC).length→a.Is v h→(∀ p ∈ news₁,p.1≠D∧p.1≠L∧p.1≠I∧p.1≠C)→(D≠L∧D≠I∧D≠C∧L≠I∧L≠C∧I≠C)→oi.cls = .type "range_iterator" →
      Fr h₀ C h m₁→News h₀ C h ((D,listOf acc.toArray ep)::(L,oL)::(I,oi)::news₁)→Fr h₀ L h m →
      wpAny (model prog w) A (assign target (compEnvC scope cl C env) v) (fun _ s₃=>wpAny (model prog w) A (bX ifs (compEnvC scope cl C env)) (fun ok s₄ =>
        if ok=true then wpAny (model prog w) A (eval elt (compEnvC scope cl C env)) (fun x s₅=>ij h₀ C D L I oL oi acc ep [] { s with heap:=h,toks:=tk } (J r (acc++[x])) s₅) (fun _ _=>False) s₄
        else ij h₀ C D L I oL oi acc ep [] { s with heap:=h,toks:=tk } (J r acc) s₄) (fun _ _=>False) s₃) (fun _ _=>False) { s with heap:=h,toks:=tk })
    (done:∀ D C acc ep m₁ news₁ h tk,J [] acc m₁ news₁→(∀ p ∈ news,p.1 < D)→(∀ p ∈ news₁,p.1≠D∧p.1≠C)→D≠L→C≠L→D≠C→h₀.get? C=none→h.Ns C m₁→Fr h₀ L h m→News h₀ L h ((D,listOf acc.toArray ep)::news₁)→RR (.ref D) C (.ok .next) { s with heap:=h,toks:=tk }) :
    wpAny (model prog w) A (pyIter (.ref rg)) (fun it s₂=>bE prog w A E env elt target iter ifs scope cl pos RR it s₂) E s:=by
  refine wpAny_pyIter_range hr hsmall ?_
  unfold bE
  have W:=(Walks.range (prog:=prog) (w:=w) hh s.heap.objs.size 0 1 n).bound
  refine cY (h₀:=h₀) (L:=L) (m:=m) (xs:=(List.range' 0 n).map dC) (keep:=[]) (news:=news) (nm := "range_iterator")
    (KTurns.ofWalks W fun i v s Q E st q=>by rw [hgo]; exact wpAny_pure q) (fun s Q E st q=>wpAny_pyIter_rangeiter st q) hcell hkind (by simp) (by simpa using hsz)
    (fun i v h hp=>?_) (fun i h st=>?_) (fun b hb=>by simpa using hb) (fun b hb=>.inl (by simpa using hb)) (next_is_new F) (Ne.symm (Nat.ne_of_lt F.ns.lt)) ?_ (F.push _) (fun p hp=>⟨Heap.get?_push_of_some _ (N p hp).1,(N p hp).2⟩) (fun p hp=>nomatch hp)
    (fun p hp=>Nat.ne_of_lt (Heap.lt_size (N p hp).1)) (by rw [Heap.size_push]; exact Nat.lt_succ_self _) J hj (step _) ?_
  · obtain ⟨hi,t,hv⟩:=hp
    refine ⟨dC i,?_,t,?_⟩
    · rw [List.getElem?_map,List.getElem?_range' hi]; simp
    · rw [hv]; simp
  · exact ⟨_,st,rfl⟩
  · show IsRangeIter _ _ _ _ _
    rw [hn]; simpa using Heap.get?_push_size _ rfl
  · intro D C acc ep m₁ news₁ h tk hJ hlo hoff h1 h2 h3 h4 h5 F' N' h6
    refine done D C acc ep m₁ news₁ h tk hJ hlo hoff h1 h2 h3 ?_ h5 F' N'
    cases e:h₀.get? C with
    | none=>rfl
    | some o=>dsimp only at h4; rw [Heap.get?_push_of_some _ (F.keep C o e)] at h4; cases h4
theorem kM {target:Expr} {body:List Stmt} {Q:Flow→Shared→Prop} {rg:Addr} {a₀ b₀:Int} {i₀ n:Nat} {t₀ u₀ v₀:Tok} {m₀:Str→Option Value} {news:List (Addr×Obj)} (J:(Str→Option Value)→List (Addr×Obj)→List Nat→(Str→Option Value)→List (Addr×Obj)→Prop)
    (hh:A.handled=none) (F:Fr h₀ env.locals s.heap m₀) (N:News h₀ env.locals s.heap news) (hr:IsRange s.heap rg a₀ b₀ 1 t₀ u₀ v₀) (hsmall:Builtin.Range.small a₀ b₀ 1=true) (hn:Builtin.Range.rangeSize a₀ b₀ 1=(n:Int)) (ha:a₀=(i₀:Int)) (hj:J m₀ news (List.range' i₀ n) m₀ news)
    (hgo:∀ I v,letOwnedTupleGo target (.ref I) v=pure ())
    (step:∀ (I:Addr),(∀ p ∈ news,p.1 < I)→∀ (c:Nat) r t m₁ news₁ h tk oi,J m₀ news (c::r) m₁ news₁→(∀ p ∈ news₁,p.1≠I)→oi.cls = .type "range_iterator" → Fr h₀ env.locals h m₁→News h₀ env.locals h ((I,oi)::news₁) →
      wpAny (model prog w) A (assign target env (.int (c:Int) t)) (fun _ s₂=>wpAny (model prog w) A (execs body env) (cX h₀ env.locals { s with heap:=h,toks:=tk } I oi [] (J m₀ news r) Q) E s₂) E { s with heap:=h,toks:=tk })
    (done:∀ m₁ news₁ h tk,J m₀ news [] m₁ news₁→Fr h₀ env.locals h m₁→News h₀ env.locals h news₁→Q .next { s with heap:=h,toks:=tk }) :
    wpAny (model prog w) A (pyIter (.ref rg)) (fun it s₂=>TurnsAt prog w A h₀ env target body Q E it s₂) E s:=by
  refine wpAny_pyIter_range hr hsmall ?_
  have W:=(Walks.range (prog:=prog) (w:=w) hh s.heap.objs.size a₀ 1 n).bound
  have hI:∀ p ∈ news,p.1 < s.heap.objs.size:=fun p hp=>Heap.lt_size (N p hp).1
  refine ktu_core (tk0:=s.toks) (keep:=[]) (ws:=[(s.heap.objs.size, "range_iterator")]) (xs:=(List.range' i₀ n).map dC)
    (KTurns.ofWalks W fun i v s Q E st q=>by rw [hgo]; exact wpAny_pure q) (by simp) (fun i v h hp=>?_) (fun i h st=>?_) (fun b hb=>?_) (fun b hb=>by simpa using hb) (fun b hb=>.inl (by simpa using hb)) ?_ (fun p hp hI'=>?_) ?_ (F.push _) (fun p hp=>⟨Heap.get?_push_of_some _ (N p hp).1,(N p hp).2⟩) trivial
    (dy dC (J m₀ news) (fun c r v m₁ news₁ h tk oi hj' hv hne hoi F' N'=>?_) done (List.range' i₀ n) m₀ news hj fun p hp=>Nat.ne_of_lt (hI p hp))
  · obtain ⟨hi,t,hv⟩:=hp
    refine ⟨dC (i₀+i),?_,t,?_⟩
    · rw [List.getElem?_map,List.getElem?_range' hi]; simp
    · rw [hv,ha]; simp
  · exact ⟨[(s.heap.objs.size,_)],⟨⟨rfl,rfl⟩,trivial⟩,fun p hp=>by rw [mem_singleton.mp hp]; exact st⟩
  · have hb':b=s.heap.objs.size:=by simpa using hb
    rw [hb']
    exact ⟨mem_cons_self ..,next_is_new F⟩
  · intro hI'
    exact absurd F.ns.lt (by rw [mem_singleton.mp hI']; exact Nat.lt_irrefl _)
  · exact absurd (hI p hp) (by rw [mem_singleton.mp hI']; exact Nat.lt_irrefl _)
  · show IsRangeIter _ _ _ _ _
    rw [hn]; simpa using Heap.get?_push_size _ rfl
  · obtain ⟨t,rfl⟩:=hv
    exact step _ hI c r t m₁ news₁ h tk oi hj' hne hoi F' N'
theorem lu {elt target iter:Expr} {ifs:List Expr} {scope:Scope} {cl:List (Str×Addr)} {pos:Pos} {rg:Addr} {b₀:Int} {n:Nat} {t₀ u₀ v₀:Tok} {news:List (Addr×Obj)} {RR:Value→Addr→Result→Shared→Prop} (J:List (Addr×Obj)→pV)
    (hh:A.handled=none) (hcell:∀ y ∈ scope.names,y.2≠.cell) (hkind:scope.kind = .function) (hgo:∀ I v,letOwnedTupleGo target (.ref I) v=pure ()) (F:Fr h₀ L s.heap m) (N:News h₀ L s.heap news)
    (hr:IsRange s.heap rg 0 b₀ 1 t₀ u₀ v₀) (hsmall:Builtin.Range.small 0 b₀ 1=true) (hn:Builtin.Range.rangeSize 0 b₀ 1=(n:Int)) (hsz:n≤1000)
    (hj:J news ((List.range' 0 n).map dC) [] (fun _=>none) news)
    (step:∀ I D C oL a r acc ep v m₁ news₁ h tk oi,J news (a::r) acc m₁ news₁→acc.length+(a::r).length≤((List.range' 0 n).map dC).length→a.Is v h→(∀ p ∈ news₁,p.1≠D∧p.1≠L∧p.1≠I∧p.1≠C)→(D≠L∧D≠I∧D≠C∧L≠I∧L≠C∧I≠C)→oi.cls = .type "range_iterator" →
      Fr h₀ C h m₁→News h₀ C h ((D,listOf acc.toArray ep)::(L,oL)::(I,oi)::news₁)→Fr h₀ L h m →
      wpAny (model prog w) A (assign target (compEnvC scope cl C env) v) (fun _ s₃=>wpAny (model prog w) A (bX ifs (compEnvC scope cl C env)) (fun ok s₄ =>
        if ok=true then wpAny (model prog w) A (eval elt (compEnvC scope cl C env)) (fun x s₅=>ij h₀ C D L I oL oi acc ep [] { s with heap:=h,toks:=tk } (J news r (acc++[x])) s₅) (fun _ _=>False) s₄
        else ij h₀ C D L I oL oi acc ep [] { s with heap:=h,toks:=tk } (J news r acc) s₄) (fun _ _=>False) s₃) (fun _ _=>False) { s with heap:=h,toks:=tk })
    (done:∀ D C acc ep m₁ news₁ h tk,J news [] acc m₁ news₁→(∀ p ∈ news,p.1 < D)→(∀ p ∈ news₁,p.1≠D∧p.1≠C)→D≠L→C≠L→D≠C→h₀.get? C=none→h.Ns C m₁→Fr h₀ L h m→News h₀ L h ((D,listOf acc.toArray ep)::news₁)→RR (.ref D) C (.ok .next) { s with heap:=h,toks:=tk }) :
    wpAny (model prog w) A (pyIter (.ref rg)) (fun it s₂=>bE prog w A E env elt target iter ifs scope cl pos RR it s₂) E s :=
  nP (J news) hh hcell hkind hgo F N hr hsmall hn hsz hj step done
theorem ll {elt target iter:Expr} {ifs:List Expr} {scope:Scope} {cl:List (Str×Addr)} {pos:Pos} {b:Array UInt8} {tb:Tok} {news:List (Addr×Obj)} {RR:Value→Addr→Result→Shared→Prop} (J:List (Addr×Obj)→pV)
    (hh:A.handled=none) (hcell:∀ y ∈ scope.names,y.2≠.cell) (hkind:scope.kind = .function) (hgo:∀ I v,letOwnedTupleGo target (.ref I) v=pure ()) (F:Fr h₀ L s.heap m) (N:News h₀ L s.heap news) (hsz:b.toList.length≤1000)
    (hj:J news (b.toList.map dI) [] (fun _=>none) news)
    (step:∀ I D C oL a r acc ep v m₁ news₁ h tk oi,J news (a::r) acc m₁ news₁→acc.length+(a::r).length≤(b.toList.map dI).length→a.Is v h→(∀ p ∈ news₁,p.1≠D∧p.1≠L∧p.1≠I∧p.1≠C)→(D≠L∧D≠I∧D≠C∧L≠I∧L≠C∧I≠C)→oi.cls = .type "bytes_iterator" →
      Fr h₀ C h m₁→News h₀ C h ((D,listOf acc.toArray ep)::(L,oL)::(I,oi)::news₁)→Fr h₀ L h m →
      wpAny (model prog w) A (assign target (compEnvC scope cl C env) v) (fun _ s₃=>wpAny (model prog w) A (bX ifs (compEnvC scope cl C env)) (fun ok s₄ =>
        if ok=true then wpAny (model prog w) A (eval elt (compEnvC scope cl C env)) (fun x s₅=>ij h₀ C D L I oL oi acc ep [] { s with heap:=h,toks:=tk } (J news r (acc++[x])) s₅) (fun _ _=>False) s₄
        else ij h₀ C D L I oL oi acc ep [] { s with heap:=h,toks:=tk } (J news r acc) s₄) (fun _ _=>False) s₃) (fun _ _=>False) { s with heap:=h,toks:=tk })
    (done:∀ D C acc ep m₁ news₁ h tk,J news [] acc m₁ news₁→(∀ p ∈ news,p.1 < D)→(∀ p ∈ news₁,p.1≠D∧p.1≠C)→D≠L→C≠L→D≠C→h₀.get? C=none→h.Ns C m₁→Fr h₀ L h m→News h₀ L h ((D,listOf acc.toArray ep)::news₁)→RR (.ref D) C (.ok .next) { s with heap:=h,toks:=tk }) :
    wpAny (model prog w) A (pyIter (.bytes b tb)) (fun it s₂=>bE prog w A E env elt target iter ifs scope cl pos RR it s₂) E s :=
  nU (J news) hh hcell hkind hgo F N hsz hj step done
end
end
section
set_option tactic.hygienic false
noncomputable abbrev cq (x:Str):Itm:=.tok fun t=>.str x t
section
variable {prog:Program} {w:World} {A:Around} {E:Value→Shared→Prop} {s:Shared} {env:Env} {h₀:Heap} {target:PySem.Expr} {body:List Stmt} {Q:Flow→Shared→Prop}
theorem gZ {I:Addr} {fp wr:List Addr} {n:Nat} {P Md:Nat→Value→Heap→Prop} {St:Nat→Heap→Prop} {ws:List (Addr×String)} {keep:List (Addr×Obj)} {xs:List Itm} {m₀:Str→Option Value} {news:List (Addr×Obj)} {hp:Heap} {tk0:Nat}
    (W:KTurns prog w A target I fp wr n P Md St) (hn:n=xs.length) (hP:∀ i v h,P i v h→∃ a,xs[i]? = some a∧a.Is v h)
    (hobj:∀ i h,St i h→∃ its,Objs ws its∧∀ p ∈ its,h.get? p.1=some p.2)
    (hws:∀ b ∈ ws.map (·.1),b ∈ fp∧h₀.get? b=none) (hwr:∀ b ∈ wr,b ∈ ws.map (·.1))
    (hfp:∀ b ∈ fp,b ∈ ws.map (·.1)∨(∃ o,(b,o) ∈ keep)∨∃ o,h₀.get? b=some o) (hL:env.locals ∉ fp) (hnw:∀ p ∈ news,p.1 ∉ wr) (hst:St 0 hp)
    (F:Fr h₀ env.locals hp m₀) (N:News h₀ env.locals hp news) (hk:SubL keep news)
    (rest:ItemsRest prog w A E h₀ env target body Q s ws keep xs m₀ news):TurnsAt prog w A h₀ env target body Q E (.ref I) { s with heap:=hp,toks:=tk0 }:=by
  let J:Nat→(Str→Option Value)→List (Addr×Obj)→Prop:=fun i m₁ news₁=>SubL keep news₁∧ItemsRest prog w A E h₀ env target body Q s ws keep (xs.drop i) m₁ news₁
  refine ⟨I,fp,wr,n,P,Md,St,m₀,news,J,rfl,W,hL,fun b hb=>(hws b (hwr b hb)).2,hnw,hst,F,N,⟨hk,by rw [drop_zero]; exact rest⟩,?_,?_⟩
  · intro i v m₁ news₁ h₁ tk₁ own hin hPi hJ hoff hown hget hall hst₁ F₁ N₁
    obtain ⟨hk₁,hJ⟩:=hJ
    refine E1 (hP i v h₁ hPi) fun a q91=>A2 q91 fun ha hav=>?_
    clear q91
    refine E1 (hobj (i+1) h₁ hst₁) fun its q92=>A2 q92 fun hits hval=>?_
    clear q92
    have hmap:=hits.map
    have hdrop:xs.drop i=a::xs.drop (i+1):=by
      have hlt':i < xs.length:=hn▸hin
      rw [drop_eq_getElem_cons hlt']
      congr 1
      exact Option.some.inj ((List.getElem?_eq_getElem hlt').symm.trans ha)
    have hJ':ItemsRest prog w A E h₀ env target body Q s ws keep (a::xs.drop (i+1)) m₁ news₁:=by rw [← hdrop]; exact hJ
    have N₂:News h₀ env.locals h₁ (its++news₁):=fun p hp=>by
      rcases mem_append.mp hp with hp | hp
      · have h1:p.1 ∈ ws.map (·.1):=by rw [← hmap]; exact mem_map.mpr ⟨p,hp,rfl⟩
        exact N₁ _ (mem_append_left _ (hall p.1 (hws _ h1).1 (hws _ h1).2 p.2 (hval p hp)))
      · exact N₁ _ (mem_append_right _ hp)
    have fin:∀ s₃,UnrEndW h₀ env.locals { s with heap:=h₁,toks:=tk₁ } its (fun m' n'=>SubL keep n'∧ItemsRest prog w A E h₀ env target body Q s ws keep (xs.drop (i+1)) m' n') s₃ →
        LoopStepU h₀ env.locals wr own (J (i+1)) { s with heap:=h₁,toks:=tk₁ } .next s₃:=by
      intro s₃ r91
      refine E4 r91 fun h' tk m' news' q93=>A6 q93 fun e F' N' ho hk' r=>?_
      try clear r91
      clear q93
      refine ⟨rfl,h',tk,m',news',e,F',?_,?_,hk',r⟩
      · rintro ⟨pa,po⟩ hp
        rcases mem_append.mp hp with hp | hp
        · have h2:h₁.get? pa=some po:=hget _ hp
          rcases hfp pa (hown _ hp) with h3 | ⟨o,h3⟩ | ⟨o,h3⟩
          · have h4:pa ∈ its.map (·.1):=by rw [hmap]; exact h3
            refine E1 (mem_map.mp h4) fun q94 q95=>A2 q95 fun hq hqe=>?_
            clear q95
            obtain ⟨qa,qo⟩:=q94
            have hqe':qa=pa:=hqe
            subst hqe'
            have h5:h₁.get? qa=some qo:=hval _ hq
            have h6:qo=po:=Option.some.inj (h5.symm.trans h2)
            subst h6
            exact N' _ (mem_append_left _ hq)
          · have h4:h₁.get? pa=some o:=(N₁ _ (mem_append_right _ (hk₁.mem _ h3))).1
            have h6:o=po:=Option.some.inj (h4.symm.trans h2)
            subst h6
            exact N' _ (mem_append_right _ (hk'.mem _ h3))
          · exact absurd (h3.symm.trans (N₁ _ (mem_append_left _ hp)).2.2) (by simp)
        · exact N' _ (mem_append_right _ hp)
      · intro p hp hI
        have h4:p.1 ∈ its.map (·.1):=by rw [hmap]; exact hwr _ hI
        refine E1 (mem_map.mp h4) fun q q96=>A2 q96 fun hq hqe=>?_
        clear q96
        exact ho p hp q hq hqe.symm
    refine wpAny_mono ((hJ' v h₁ tk₁ hav F₁).at hits N₂) (fun _ s₂ h₂=>wpAny_mono h₂ (fun f s₃ p=>?_) fun _ _ e=>e) fun _ _ e=>e
    cases f with
    | ret v=>exact .ret p
    | brk=>exact .brk p
    | next=>exact .next (fin _ p)
    | cont=>exact .cont (fin _ p)
  · intro h' tk m' news' F' N' _ hJ
    have hJ':ItemsRest prog w A E h₀ env target body Q s ws keep (xs.drop n) m' news':=hJ.2
    have z:xs.drop n=[]:=drop_eq_nil_of_le (Nat.le_of_eq hn.symm)
    rw [z] at hJ'
    exact hJ' h' tk F' N'
end
section
variable {prog:Program} {w:World} {A:Around} {E:Value→Shared→Prop} {s:Shared} {env:Env} {h₀:Heap} {L d:Addr} {m:Str→Option Value} {news:List (Addr×Obj)} {kvs:List (Str×Value)} {k:Str} {t:Tok} {v:Value}
noncomputable abbrev DOf (prog:Program) (w:World) (h:Heap) (d:Addr) (kvs:List (Str×Value)):Prop:=h.DictOf (PySem.strKind prog w) d kvs
theorem jd {o:Obj} (N:News h₀ L s.heap news) (hp:(d,o) ∈ news) (hd:o.IsDictOf (PySem.strKind prog w) kvs):DOf prog w s.heap d kvs:=kda_dict N hp hd
theorem in_D {Q:Value→Shared→Prop} (hd:DOf prog w s.heap d kvs) (lo:(d == sysModules)=false) (h:Q (.bool (valueAt kvs k).isSome) { s with toks:=s.toks+1 }) :
    wpAny (model prog w) A (compareOp .In (.str k t) (.ref d)) Q E s:=wpAny_in_of (strKind_is _ _ _ _) lo hd.mapOf h
theorem uL {Q:Value→Shared→Prop} (hd:DOf prog w s.heap d kvs) (lo:(d == sysModules)=false) (h:Q (.bool (!(valueAt kvs k).isSome)) { s with toks:=s.toks+1 }) :
    wpAny (model prog w) A (compareOp .NotIn (.str k t) (.ref d)) Q E s:=wpAny_notIn_of (strKind_is _ _ _ _) lo hd.mapOf h
theorem set_D {o:Obj} {g:Obj→List (Addr×Obj)} {Q:Unit→Shared→Prop} (F:Fr h₀ L s.heap m) (N:News h₀ L s.heap news) (U:UpdF d o news g) (hd:o.IsDictOf (PySem.strKind prog w) kvs) (hsz:kvs.length≤1000)
    (h:∀ h' o',Fr h₀ L h' m→News h₀ L h' (g o')→o'.IsDictOf (PySem.strKind prog w) (stored kvs k v)→Q () { s with heap:=h',toks:=s.toks+1 }):wpAny (model prog w) A (setItem (.ref d) (.str k t) v) Q E s :=
  kda_set F N U hd (strKind_is _ _ _ _) (by rw [sizeLine_eq]; omega) h
theorem oR {target:PySem.Expr} {body:List Stmt} {Q:Flow→Shared→Prop} {od:Obj} {m₀:Str→Option Value} (J:(Str→Option Value)→List (Addr×Obj)→List Str→(Str→Option Value)→List (Addr×Obj)→Prop) (keep:List (Addr×Obj))
    (hh:A.handled=none) (lo:(d == sysModules)=false) (F:Fr h₀ env.locals s.heap m₀) (N:News h₀ env.locals s.heap news) (hd:DOf prog w s.heap d kvs) (hm:(keep=[(d,od)]∧(d,od) ∈ news)∨(keep=[]∧∃ o,h₀.get? d=some o)) (hj:J m₀ news (kvs.map (·.1)) m₀ news)
    (step:∀ (I:Addr),(∀ p ∈ news,p.1 < I)→∀ (c:Str) r t m₁ news₁ h tk oi,J m₀ news (c::r) m₁ news₁→(∀ p ∈ news₁,p.1≠I)→oi.cls = .type "dict_keyiterator" → Fr h₀ env.locals h m₁→News h₀ env.locals h ((I,oi)::news₁) →
      wpAny (model prog w) A (assign target env (.str c t)) (fun _ s₂=>wpAny (model prog w) A (execs body env) (cX h₀ env.locals { s with heap:=h,toks:=tk } I oi keep (J m₀ news r) Q) E s₂) E { s with heap:=h,toks:=tk })
    (done:∀ m₁ news₁ h tk,J m₀ news [] m₁ news₁→Fr h₀ env.locals h m₁→News h₀ env.locals h news₁→Q .next { s with heap:=h,toks:=tk }) :
    wpAny (model prog w) A (pyIter (.ref d)) (fun it s₂=>TurnsAt prog w A h₀ env target body Q E it s₂) E s:=by
  obtain ⟨ep,hat⟩:=hd.dictAt
  have hne:d≠s.heap.objs.size:=Nat.ne_of_lt hat.lt_size
  have hI:∀ p ∈ news,p.1 < s.heap.objs.size:=fun p hp=>Heap.lt_size (N p hp).1
  refine wpAny_pyIter_dict lo hat ?_
  have hdL:d≠env.locals:=by
    rcases hm with ⟨_,hm⟩ | ⟨_,o,hm⟩
    · exact (N _ hm).2.1
    · intro e
      exact absurd (Heap.lt_size hm) (Nat.not_lt.mpr (e▸F.above))
  refine gZ (tk0:=s.toks) (keep:=keep) (ws:=[(s.heap.objs.size, "dict_keyiterator")]) (xs:=(kvs.map (·.1)).map cq)
    (KTurns.ofWalks (Walks.dictKeys (knd:=PySem.strKind prog w) hh s.heap.objs.size d hne kvs ep) fun i v s Q E st q=>letGo_keyiter st.1 q) (by simp) (fun i v h hp=>?_) (fun i h st=>?_) (fun b hb=>?_) (fun b hb=>by simpa using hb) (fun b hb=>?_) ?_ (fun p hp hI'=>?_) ?_ (F.push _) (fun p hp=>⟨Heap.get?_push_of_some _ (N p hp).1,(N p hp).2⟩) ?_
    (dy cq (J m₀ news) (fun c r v m₁ news₁ h tk oi hj' hv hne hoi F' N'=>?_) done (kvs.map (·.1)) m₀ news hj fun p hp=>Nat.ne_of_lt (hI p hp))
  · refine E2 hp fun k x q91=>A2 q91 fun hx hk=>?_
    try clear hp
    clear q91
    obtain ⟨t,rfl⟩:=Value.isStrOf_shape (by simpa [PySem.strKind] using hk)
    refine ⟨cq k,?_,t,rfl⟩
    rw [List.getElem?_map,List.getElem?_map,hx]; rfl
  · refine A2 st fun q92 _=>?_
    try clear st
    refine E1 q92 fun it q93=>A3 q93 fun hit hic _=>?_
    try clear q92
    clear q93
    exact ⟨[(s.heap.objs.size,it)],⟨⟨rfl,hic⟩,trivial⟩,fun p hp=>by rw [mem_singleton.mp hp]; exact hit⟩
  · have hb':b=s.heap.objs.size:=by simpa using hb
    rw [hb']
    exact ⟨mem_cons_self ..,next_is_new F⟩
  · have hb':b=s.heap.objs.size∨b=d:=by simpa using hb
    rcases hb' with e | e
    · exact .inl (by simp [e])
    · rcases hm with ⟨hm1,_⟩ | ⟨_,o,hm⟩
      · exact .inr (.inl ⟨od,by rw [hm1,e]; exact .head _⟩)
      · exact .inr (.inr ⟨o,by rw [e]; exact hm⟩)
  · intro hI'
    have hb':env.locals=s.heap.objs.size∨env.locals=d:=by simpa using hI'
    rcases hb' with e | e
    · exact absurd F.ns.lt (e▸Nat.lt_irrefl _)
    · exact hdL e.symm
  · exact absurd (hI p hp) (by rw [mem_singleton.mp hI']; exact Nat.lt_irrefl _)
  · exact ⟨⟨_,Heap.get?_push_size _ rfl,rfl,rfl⟩,hat.push _⟩
  · rcases hm with ⟨hm1,hm2⟩ | ⟨hm1,_⟩
    · rw [hm1]; exact ⟨hm2,trivial⟩
    · rw [hm1]; trivial
  · obtain ⟨t,rfl⟩:=hv
    exact step _ hI c r t m₁ news₁ h tk oi hj' hne hoi F' N'
end
end
section
set_option tactic.hygienic false
noncomputable def Src (h₀:Heap) (news keep:List (Addr×Obj)) (l:Addr) (lo:Obj):Prop:=(keep=[(l,lo)]∧(l,lo) ∈ news)∨(keep=[]∧h₀.get? l=some lo)
theorem Src.led {h₀:Heap} {news:List (Addr×Obj)} {l:Addr} {lo:Obj} (h:(l,lo) ∈ news):Src h₀ news [(l,lo)] l lo:=.inl ⟨rfl,h⟩
theorem Src.at {h₀ h:Heap} {L:Addr} {m:Str→Option Value} {news keep:List (Addr×Obj)} {l:Addr} {lo:Obj} (S:Src h₀ news keep l lo) (F:Fr h₀ L h m) (N:News h₀ L h news):h.get? l=some lo∧l≠L:=by
  rcases S with ⟨_,S⟩ | ⟨_,S⟩
  · exact ⟨(N _ S).1,(N _ S).2.1⟩
  · exact ⟨F.keep _ _ S,fun e=>absurd (Heap.lt_size S) (Nat.not_lt.mpr (e▸F.above))⟩
theorem Src.keeps {h₀:Heap} {news keep:List (Addr×Obj)} {l:Addr} {lo:Obj} (S:Src h₀ news keep l lo):∀ p ∈ keep,p ∈ news:=by
  rcases S with ⟨rfl,S⟩ | ⟨rfl,_⟩
  · intro p hp; rw [mem_singleton.mp hp]; exact S
  · intro p hp; cases hp
theorem Src.fp {h₀:Heap} {news keep:List (Addr×Obj)} {l:Addr} {lo:Obj} (S:Src h₀ news keep l lo):(∃ o,(l,o) ∈ keep)∨∃ o,h₀.get? l=some o:=by
  rcases S with ⟨rfl,S⟩ | ⟨rfl,S⟩
  · exact .inl ⟨lo,.head _⟩
  · exact .inr ⟨lo,S⟩
section
variable {prog:Program} {w:World} {A:Around} {E:Value→Shared→Prop} {s:Shared} {env:Env} {h₀:Heap} {target:PySem.Expr} {body:List Stmt} {Q:Flow→Shared→Prop}
theorem oo {l n:Nat} {lo:Obj} {vs:List Value} {m₀:Str→Option Value} {news keep:List (Addr×Obj)} (J:InvT)
    (hh:A.handled=none) (F:Fr h₀ env.locals s.heap m₀) (N:News h₀ env.locals s.heap news) (S:Src h₀ news keep l lo) (hc:lo.cls = .type "list") (hd:lo.data = .seq vs.toArray n) (hj:J m₀ news vs m₀ news)
    (step:∀ (I:Addr),(∀ p ∈ news,p.1 < I)→∀ v r m₁ news₁ h tk oi,J m₀ news (v::r) m₁ news₁→(∀ p ∈ news₁,p.1≠I)→oi.cls = .type "list_iterator" → Fr h₀ env.locals h m₁→News h₀ env.locals h ((I,oi)::news₁) →
      wpAny (model prog w) A (assign target env v) (fun _ s₂=>wpAny (model prog w) A (execs body env) (cX h₀ env.locals { s with heap:=h,toks:=tk } I oi keep (J m₀ news r) Q) E s₂) E { s with heap:=h,toks:=tk })
    (done:∀ m₁ news₁ h tk,J m₀ news [] m₁ news₁→Fr h₀ env.locals h m₁→News h₀ env.locals h news₁→Q .next { s with heap:=h,toks:=tk }) :
    wpAny (model prog w) A (pyIter (.ref l)) (fun it s₂=>TurnsAt prog w A h₀ env target body Q E it s₂) E s:=by
  obtain ⟨hg,hlL⟩:=S.at F N
  have hl:s.heap.IsList l vs.toArray:=⟨lo,hg,hc,n,hd⟩
  have hlt:l < s.heap.objs.size:=Heap.lt_size hg
  have hI:∀ p ∈ news,p.1 < s.heap.objs.size:=fun p hp=>Heap.lt_size (N p hp).1
  refine wpAny_pyIter_list hl ?_
  refine gZ (tk0:=s.toks) (keep:=keep) (ws:=[(s.heap.objs.size, "list_iterator")]) (xs:=vs.map .val)
    (KTurns.ofWalks (Walks.list hh s.heap.objs.size l (Nat.ne_of_lt hlt) vs.toArray) fun i v s Q E st q=>letGo_listiter st.1 q) (by simp) (fun i v h hp=>⟨.val v,?_,rfl⟩) (fun i h st=>?_) (fun b hb=>?_) (fun b hb=>by simpa using hb) (fun b hb=>?_) ?_ (fun p hp hI'=>?_) ?_ (F.push _) (fun p hp=>⟨Heap.get?_push_of_some _ (N p hp).1,(N p hp).2⟩) (iO S.keeps)
    (fG (J m₀ news) (fun v r m₁ news₁ h tk oi hj' hne hoi F' N'=>step _ hI v r m₁ news₁ h tk oi hj' hne hoi F' N') done vs m₀ news hj fun p hp=>Nat.ne_of_lt (hI p hp))
  · have hp':vs.toArray[i]? = some v:=hp
    simp at hp'
    simp [hp']
  · refine A2 st fun q91 _=>?_
    try clear st
    refine E1 q91 fun it q92=>A3 q92 fun hit hic _=>?_
    try clear q91
    clear q92
    exact ⟨[(s.heap.objs.size,it)],⟨⟨rfl,hic⟩,trivial⟩,fun p hp=>by rw [mem_singleton.mp hp]; exact hit⟩
  · have hb':b=s.heap.objs.size:=by simpa using hb
    rw [hb']
    exact ⟨mem_cons_self ..,next_is_new F⟩
  · have hb':b=s.heap.objs.size∨b=l:=by simpa using hb
    rcases hb' with e | e
    · exact .inl (by simp [e])
    · rw [e]; exact .inr S.fp
  · intro hI'
    have hb':env.locals=s.heap.objs.size∨env.locals=l:=by simpa using hI'
    rcases hb' with e | e
    · exact absurd F.ns.lt (e▸Nat.lt_irrefl _)
    · exact hlL e.symm
  · exact absurd (hI p hp) (by rw [mem_singleton.mp hI']; exact Nat.lt_irrefl _)
  · exact ⟨⟨_,Heap.get?_push_size _ rfl,rfl,rfl⟩,hl.at fun o e=>Heap.get?_push_of_some _ e⟩
end
section
variable {prog:Program} {w:World} {A:Around} {E:Value→Shared→Prop} {s:Shared} {env:Env} {h₀:Heap} {L:Addr} {m:Str→Option Value}
noncomputable abbrev qS (prog:Program) (w:World) (A:Around) (env:Env) (h₀:Heap) (L:Addr) (m:Str→Option Value) (s:Shared) (elt target:PySem.Expr) (ifs:List PySem.Expr) (scope:Scope) (cl:List (Str×Addr)) (nm:String) (keep:List (Addr×Obj)) (len:Nat) (J:pV):Prop :=
  ∀ I D C oL a r acc ep v m₁ news₁ h tk oi,J (a::r) acc m₁ news₁→acc.length+(a::r).length≤len→a.Is v h→(∀ p ∈ news₁,p.1≠D∧p.1≠L∧p.1≠I∧p.1≠C)→(D≠L∧D≠I∧D≠C∧L≠I∧L≠C∧I≠C)→oi.cls = .type nm →
      Fr h₀ C h m₁→News h₀ C h ((D,listOf acc.toArray ep)::(L,oL)::(I,oi)::news₁)→Fr h₀ L h m →
      wpAny (model prog w) A (assign target (compEnvC scope cl C env) v) (fun _ s₃=>wpAny (model prog w) A (bX ifs (compEnvC scope cl C env)) (fun ok s₄ =>
        if ok=true then wpAny (model prog w) A (eval elt (compEnvC scope cl C env)) (fun x s₅=>ij h₀ C D L I oL oi acc ep keep { s with heap:=h,toks:=tk } (J r (acc++[x])) s₅) (fun _ _=>False) s₄
        else ij h₀ C D L I oL oi acc ep keep { s with heap:=h,toks:=tk } (J r acc) s₄) (fun _ _=>False) s₃) (fun _ _=>False) { s with heap:=h,toks:=tk }
noncomputable abbrev xP (h₀:Heap) (L:Addr) (m:Str→Option Value) (s:Shared) (news:List (Addr×Obj)) (J:pV) (RR:Value→Addr→Result→Shared→Prop):Prop :=
  ∀ D C acc ep m₁ news₁ h tk,J [] acc m₁ news₁→(∀ p ∈ news,p.1 < D)→(∀ p ∈ news₁,p.1≠D∧p.1≠C)→D≠L→C≠L→D≠C→h₀.get? C=none→h.Ns C m₁→Fr h₀ L h m→News h₀ L h ((D,listOf acc.toArray ep)::news₁)→RR (.ref D) C (.ok .next) { s with heap:=h,toks:=tk }
theorem oA {elt target iter:PySem.Expr} {ifs:List PySem.Expr} {scope:Scope} {cl:List (Str×Addr)} {pos:Pos} {l n:Nat} {lo:Obj} {vs:List Value} {news keep:List (Addr×Obj)} {RR:Value→Addr→Result→Shared→Prop} (J:List (Addr×Obj)→pV)
    (hh:A.handled=none) (hcell:∀ y ∈ scope.names,y.2≠.cell) (hkind:scope.kind = .function) (F:Fr h₀ L s.heap m) (N:News h₀ L s.heap news) (S:Src h₀ news keep l lo) (hc:lo.cls = .type "list") (hd:lo.data = .seq vs.toArray n) (hsz:vs.length≤1000)
    (hj:J news (vs.map .val) [] (fun _=>none) news)
    (step:qS prog w A env h₀ L m s elt target ifs scope cl "list_iterator" keep vs.length (J news))
    (done:xP h₀ L m s news (J news) RR) :
    wpAny (model prog w) A (pyIter (.ref l)) (fun it s₂=>bE prog w A E env elt target iter ifs scope cl pos RR it s₂) E s:=by
  obtain ⟨hg,hlL⟩:=S.at F N
  have hl:s.heap.IsList l vs.toArray:=⟨lo,hg,hc,n,hd⟩
  have hlt:l < s.heap.objs.size:=Heap.lt_size hg
  refine wpAny_pyIter_list hl ?_
  unfold bE
  refine cY (s:={ s with heap:=s.heap.push { cls:=.type "list_iterator",data:=.fields #[.ref l,.int 0 0] } }) (h₀:=h₀) (L:=L) (m:=m) (xs:=vs.map .val) (keep:=keep) (news:=news) (nm := "list_iterator")
    (KTurns.ofWalks (Walks.list hh s.heap.objs.size l (Nat.ne_of_lt hlt) vs.toArray) fun i v s Q E st q=>letGo_listiter st.1 q) (fun s Q E st q=>wpAny_pyIter_listiter st.1 q) hcell hkind (by simp) (by simpa using hsz)
    (fun i v h hp=>⟨.val v,?_,rfl⟩) (fun i h st=>?_) (fun b hb=>by simpa using hb) (fun b hb=>?_) (next_is_new F) (Ne.symm (Nat.ne_of_lt F.ns.lt)) ?_ (F.push _) (fun p hp=>⟨Heap.get?_push_of_some _ (N p hp).1,(N p hp).2⟩) S.keeps
    (fun p hp=>Nat.ne_of_lt (Heap.lt_size (N p hp).1)) (by rw [Heap.size_push]; exact Nat.lt_succ_self _) (J news) hj (fun D C oL a r acc ep v m₁ news₁ h tk oi hJ hlen=>step _ D C oL a r acc ep v m₁ news₁ h tk oi hJ (by simpa using hlen)) ?_
  · have hp':vs.toArray[i]? = some v:=hp
    simp at hp'
    simp [hp']
  · refine E1 st.1 fun it q91=>A3 q91 fun hit hic _=>?_
    clear q91
    exact ⟨it,hit,hic⟩
  · have hb':b=s.heap.objs.size∨b=l:=by simpa using hb
    rcases hb' with e | e
    · exact .inl e
    · rw [e]; exact .inr S.fp
  · exact ⟨⟨_,Heap.get?_push_size _ rfl,rfl,rfl⟩,hl.at fun o e=>Heap.get?_push_of_some _ e⟩
  · intro D C acc ep m₁ news₁ h tk hJ hlo hoff h1 h2 h3 h4 h5 F' N' h6
    refine done D C acc ep m₁ news₁ h tk hJ hlo hoff h1 h2 h3 ?_ h5 F' N'
    cases e:h₀.get? C with
    | none=>rfl
    | some o=>have:=(F.push { cls:=.type "list_iterator",data:=.fields #[.ref l,.int 0 0] }).keep C o e; rw [h4] at this; cases this
theorem nJ {elt target iter:PySem.Expr} {ifs:List PySem.Expr} {scope:Scope} {cl:List (Str×Addr)} {pos:Pos} {d:Addr} {od:Obj} {kvs:List (Str×Value)} {news keep:List (Addr×Obj)} {RR:Value→Addr→Result→Shared→Prop} (J:List (Addr×Obj)→pV)
    (hh:A.handled=none) (lo:(d == sysModules)=false) (hcell:∀ y ∈ scope.names,y.2≠.cell) (hkind:scope.kind = .function) (F:Fr h₀ L s.heap m) (N:News h₀ L s.heap news) (S:Src h₀ news keep d od) (hdo:od.IsDictOf (PySem.strKind prog w) kvs) (hsz:kvs.length≤1000)
    (hj:J news (kvs.map fun p=>cq p.1) [] (fun _=>none) news)
    (step:qS prog w A env h₀ L m s elt target ifs scope cl "dict_keyiterator" keep kvs.length (J news))
    (done:xP h₀ L m s news (J news) RR) :
    wpAny (model prog w) A (pyIter (.ref d)) (fun it s₂=>bE prog w A E env elt target iter ifs scope cl pos RR it s₂) E s:=by
  obtain ⟨hg,hlL⟩:=S.at F N
  have hd:DOf prog w s.heap d kvs:=Heap.dictOf_iff.mpr ⟨od,hg,hdo⟩
  obtain ⟨ep,hat⟩:=hd.dictAt
  have hne:d≠s.heap.objs.size:=Nat.ne_of_lt hat.lt_size
  refine wpAny_pyIter_dict lo hat ?_
  unfold bE
  refine cY (s:={ s with heap:=s.heap.push { cls:=.type "dict_keyiterator",data:=.fields #[.ref d,.int 0 0,.int kvs.length 0,.int ep 0] } }) (h₀:=h₀) (L:=L) (m:=m) (xs:=kvs.map fun p=>cq p.1) (keep:=keep) (news:=news) (nm := "dict_keyiterator")
    (KTurns.ofWalks (Walks.dictKeys (knd:=PySem.strKind prog w) hh s.heap.objs.size d hne kvs ep) fun i v s Q E st q=>letGo_keyiter st.1 q) (fun s Q E st q=>wpAny_pyIter_keyiter st.1 q) hcell hkind (by simp) (by simpa using hsz)
    (fun i v h hp=>?_) (fun i h st=>?_) (fun b hb=>by simpa using hb) (fun b hb=>?_) (next_is_new F) (Ne.symm (Nat.ne_of_lt F.ns.lt)) ?_ (F.push _) (fun p hp=>⟨Heap.get?_push_of_some _ (N p hp).1,(N p hp).2⟩) S.keeps
    (fun p hp=>Nat.ne_of_lt (Heap.lt_size (N p hp).1)) (by rw [Heap.size_push]; exact Nat.lt_succ_self _) (J news) hj (fun D C oL a r acc ep v m₁ news₁ h tk oi hJ hlen=>step _ D C oL a r acc ep v m₁ news₁ h tk oi hJ (by simpa using hlen)) ?_
  · refine E2 hp fun k x q91=>A2 q91 fun hx hk=>?_
    try clear hp
    clear q91
    obtain ⟨t,rfl⟩:=Value.isStrOf_shape (by simpa [PySem.strKind] using hk)
    refine ⟨cq k,?_,t,rfl⟩
    rw [List.getElem?_map,hx]; rfl
  · refine E1 st.1 fun it q92=>A3 q92 fun hit hic _=>?_
    clear q92
    exact ⟨it,hit,hic⟩
  · have hb':b=s.heap.objs.size∨b=d:=by simpa using hb
    rcases hb' with e | e
    · exact .inl e
    · rw [e]; exact .inr S.fp
  · exact ⟨⟨_,Heap.get?_push_size _ rfl,rfl,rfl⟩,hat.push _⟩
  · intro D C acc ep' m₁ news₁ h tk hJ hlo hoff h1 h2 h3 h4 h5 F' N' h6
    refine done D C acc ep' m₁ news₁ h tk hJ hlo hoff h1 h2 h3 ?_ h5 F' N'
    cases e:h₀.get? C with
    | none=>rfl
    | some o=>dsimp only at h4; rw [Heap.get?_push_of_some _ (F.keep C o e)] at h4; cases h4
theorem nN {elt target iter:PySem.Expr} {ifs:List PySem.Expr} {scope:Scope} {cl:List (Str×Addr)} {pos:Pos} {vw d:Addr} {od:Obj} {kvs:List (Str×Value)} {news keep:List (Addr×Obj)} {RR:Value→Addr→Result→Shared→Prop} (J:List (Addr×Obj)→pV)
    (hh:A.handled=none) (hv:s.heap.IsValuesView vw d) (hgo:∀ I v,letOwnedTupleGo target (.ref I) v=pure ()) (hcell:∀ y ∈ scope.names,y.2≠.cell) (hkind:scope.kind = .function) (F:Fr h₀ L s.heap m) (N:News h₀ L s.heap news) (S:Src h₀ news keep d od) (hdo:od.IsDictOf (PySem.strKind prog w) kvs) (hsz:kvs.length≤1000)
    (hj:J news (kvs.map fun p=>.val p.2) [] (fun _=>none) news)
    (step:qS prog w A env h₀ L m s elt target ifs scope cl "dict_valueiterator" keep kvs.length (J news))
    (done:xP h₀ L m s news (J news) RR) :
    wpAny (model prog w) A (pyIter (.ref vw)) (fun it s₂=>bE prog w A E env elt target iter ifs scope cl pos RR it s₂) E s:=by
  obtain ⟨hg,hlL⟩:=S.at F N
  have hd:DOf prog w s.heap d kvs:=Heap.dictOf_iff.mpr ⟨od,hg,hdo⟩
  obtain ⟨ep,hat⟩:=hd.dictAt
  have hne:d≠s.heap.objs.size:=Nat.ne_of_lt hat.lt_size
  refine wpAny_pyIter_values hv hat ?_
  unfold bE
  refine cY (s:={ s with heap:=s.heap.push { cls:=.type "dict_valueiterator",data:=.fields #[.ref d,.int 0 0,.int kvs.length 0,.int ep 0] } }) (h₀:=h₀) (L:=L) (m:=m) (xs:=kvs.map fun p=>.val p.2) (keep:=keep) (news:=news) (nm := "dict_valueiterator")
    (KTurns.ofWalks (Walks.dictValues (knd:=PySem.strKind prog w) hh s.heap.objs.size d hne kvs ep) fun i v s Q E st q=>by rw [hgo]; exact wpAny_pure q) (fun s Q E st q=>wpAny_pyIter_valiter st.1 q) hcell hkind (by simp) (by simpa using hsz)
    (fun i v h hp=>?_) (fun i h st=>?_) (fun b hb=>by simpa using hb) (fun b hb=>?_) (next_is_new F) (Ne.symm (Nat.ne_of_lt F.ns.lt)) ?_ (F.push _) (fun p hp=>⟨Heap.get?_push_of_some _ (N p hp).1,(N p hp).2⟩) S.keeps
    (fun p hp=>Nat.ne_of_lt (Heap.lt_size (N p hp).1)) (by rw [Heap.size_push]; exact Nat.lt_succ_self _) (J news) hj (fun D C oL a r acc ep v m₁ news₁ h tk oi hJ hlen=>step _ D C oL a r acc ep v m₁ news₁ h tk oi hJ (by simpa using hlen)) ?_
  · obtain ⟨k,hx⟩:=hp
    refine ⟨.val v,?_,rfl⟩
    rw [List.getElem?_map,hx]; rfl
  · refine E1 st.1 fun it q91=>A3 q91 fun hit hic _=>?_
    clear q91
    exact ⟨it,hit,hic⟩
  · have hb':b=s.heap.objs.size∨b=d:=by simpa using hb
    rcases hb' with e | e
    · exact .inl e
    · rw [e]; exact .inr S.fp
  · exact ⟨⟨_,Heap.get?_push_size _ rfl,rfl,rfl⟩,hat.push _⟩
  · intro D C acc ep' m₁ news₁ h tk hJ hlo hoff h1 h2 h3 h4 h5 F' N' h6
    refine done D C acc ep' m₁ news₁ h tk hJ hlo hoff h1 h2 h3 ?_ h5 F' N'
    cases e:h₀.get? C with
    | none=>rfl
    | some o=>dsimp only at h4; rw [Heap.get?_push_of_some _ (F.keep C o e)] at h4; cases h4
end
end
section
set_option tactic.hygienic false
section
variable {prog:Program} {w:World} {A:Around} {E:Value→Shared→Prop} {R:Result→Shared→Prop} {s:Shared}
noncomputable def qI (prog:Program) (w:World) (A:Around) (kx vx:PySem.Expr) (cenv:Env) (D:Addr) (P:Shared→Prop) (s:Shared):Prop :=
  wpAny (model prog w) A (eval kx cenv) (fun kv s₄=>wpAny (model prog w) A (eval vx cenv) (fun vv s₅=>wpAny (model prog w) A (dictSet D kv vv) (fun _ s₆=>P s₆) (fun _ _=>False) s₅) (fun _ _=>False) s₄) (fun _ _=>False) s
theorem iG {kx vx target iter:PySem.Expr} {scope:Scope} {pos:Pos} {it:Value} {D:Addr} {env:Env} (I:Nat→Shared→Prop)
    (turn:∀ n s,I n s→wpAny (model prog w) A (pyNext it) (fun r s₁=>match r with
      | none=>R (.ok .next) s₁
      | some v=>wpAny (model prog w) A (letOwnedTupleGo target it v) (fun _ s₁'=>wpAny (model prog w) A (assign target env v) (fun _ s₂ =>
          qI prog w A kx vx env D (fun s₅=>∃ m,m < n∧I m s₅) s₂) (fun _ _=>False) s₁') (fun _ _=>False) s₁) (fun _ _=>False) s)
    (n:Nat) (h:I n s) :
    codeAny (model prog w) A (.compLoop (.DictComp kx vx [⟨target,iter,[],0⟩] scope pos) 0 it (.ref D) env) R s:=by
  refine codeAny_loop rfl I (fun n s hI=>?_) n h
  show wpAny _ A ((compTurn (.DictComp kx vx [⟨target,iter,[],0⟩] scope pos) 0 it (.ref D) env).onRaise (fun x=>do noteFrame x env; theTreesLotGoes x)) _ _ s
  refine wpAny_noted ?_
  rw [compTurn_dict]
  refine wpAny_bind (wpAny_standAt (wpAny_bind (wpAny_mono (turn n s hI) (fun r s₁ h₁=>?_) fun _ _ f=>f.elim)))
  cases r with
  | none=>exact wpAny_pure h₁
  | some v =>
    refine wpAny_bind (wpAny_mono h₁ (fun _ s₁' h₁'=>?_) fun _ _ f=>f.elim)
    refine wpAny_bind (wpAny_mono h₁' (fun _ s₂ h₂=>wpAny_bind (wpAny_tests_nil ?_)) fun _ _ f=>f.elim)
    unfold qI at h₂
    exact wpAny_bind (wpAny_bind (wpAny_mono h₂ (fun kv s₄ h₄=>wpAny_bind (wpAny_holding (wpAny_mono h₄ (fun vv s₅ h₅=>wpAny_bind (wpAny_standAt (wpAny_holding (wpAny_mono h₅ (fun _ s₆ h₆=>wpAny_pure ⟨rfl,h₆⟩) fun _ _ f=>f.elim)))) fun _ _ f=>f.elim))) fun _ _ f=>f.elim))
end
section
variable {prog:Program} {w:World} {A:Around} {E:Value→Shared→Prop} {s:Shared} {env:Env} {h₀:Heap} {L:Addr} {m:Str→Option Value}
noncomputable def ug (prog:Program) (w:World) (A:Around) (env:Env) (h₀:Heap) (L:Addr) (m:Str→Option Value) (s:Shared) (kx vx target:PySem.Expr) (scope:Scope) (cl:List (Str×Addr)) (nm:String) (keep:List (Addr×Obj)) (J:rX):Prop :=
  ∀ I D C oL a r o v m₁ news₁ h tk oi,J (a::r) o m₁ news₁→a.Is v h→(∀ p ∈ news₁,p.1≠D∧p.1≠L∧p.1≠I∧p.1≠C)→(D≠L∧D≠I∧D≠C∧L≠I∧L≠C∧I≠C)→oi.cls = .type nm →
      Fr h₀ C h m₁→News h₀ C h ((D,o)::(L,oL)::(I,oi)::news₁)→Fr h₀ L h m →
      wpAny (model prog w) A (assign target (compEnvC scope cl C env) v) (fun _ s₃=>qI prog w A kx vx (compEnvC scope cl C env) D (oh h₀ C D L I oL oi keep { s with heap:=h,toks:=tk } (J r)) s₃) (fun _ _=>False) { s with heap:=h,toks:=tk }
theorem nT {kx vx target iter:PySem.Expr} {scope:Scope} {cl:List (Str×Addr)} {pos:Pos} {d:Addr} {od:Obj} {kvs:List (Str×Value)} {news keep:List (Addr×Obj)} {RR:Value→Addr→Result→Shared→Prop} (J:rX)
    (hh:A.handled=none) (lo:(d == sysModules)=false) (hcell:∀ y ∈ scope.names,y.2≠.cell) (hkind:scope.kind = .function) (F:Fr h₀ L s.heap m) (N:News h₀ L s.heap news) (S:Src h₀ news keep d od) (hdo:od.IsDictOf (PySem.strKind prog w) kvs)
    (hj:J (kvs.map fun p=>cq p.1) (dictOf [] 0) (fun _=>none) news)
    (step:ug prog w A env h₀ L m s kx vx target scope cl "dict_keyiterator" keep J)
    (done:∀ D C o m₁ news₁ h tk,s.heap.objs.size≤D→J [] o m₁ news₁→(∀ p ∈ news,p.1 < D)→(∀ p ∈ news₁,p.1≠D∧p.1≠C)→D≠L→C≠L→D≠C→h₀.get? C=none→h.Ns C m₁→Fr h₀ L h m→News h₀ L h ((D,o)::news₁)→RR (.ref D) C (.ok .next) { s with heap:=h,toks:=tk }) :
    wpAny (model prog w) A (pyIter (.ref d)) (fun it s₂=>wpAny (model prog w) A newDict (fun acc s₃=>wpAny (model prog w) A (newFunctionEnv scope env.globals cl [] env.qual none .none (some env)) (fun cenv s₄ =>
      codeAny (model prog w) A (.compStart (.DictComp kx vx [⟨target,iter,[],0⟩] scope pos) 0 it acc { cenv with scope:=relabel scope env }) (RR acc cenv.locals) s₄) E s₃) E s₂) E s:=by
  obtain ⟨hg,hlL⟩:=S.at F N
  have hd:DOf prog w s.heap d kvs:=Heap.dictOf_iff.mpr ⟨od,hg,hdo⟩
  obtain ⟨ep,hat⟩:=hd.dictAt
  have hne:d≠s.heap.objs.size:=Nat.ne_of_lt hat.lt_size
  refine wpAny_pyIter_dict lo hat ?_
  refine mM (s:={ s with heap:=s.heap.push { cls:=.type "dict_keyiterator",data:=.fields #[.ref d,.int 0 0,.int kvs.length 0,.int ep 0] } }) (o₀:=dictOf [] 0) (BODY:=qI prog w A kx vx) (h₀:=h₀) (L:=L) (m:=m) (xs:=kvs.map fun p=>cq p.1) (keep:=keep) (news:=news) (nm := "dict_keyiterator")
    (fun Q h=>wpAny_newObj_type h) rfl (fun h1 h2=>codeAny_compStart_dict h1 h2) (fun Iv turn n hI=>iG Iv turn n hI) (fun h k=>wpAny_mono h (fun _ _ h=>wpAny_mono h (fun _ _ h=>wpAny_mono h (fun _ _ h=>k _ h) fun _ _ f=>f) fun _ _ f=>f) fun _ _ f=>f)
    (KTurns.ofWalks (Walks.dictKeys (knd:=PySem.strKind prog w) hh s.heap.objs.size d hne kvs ep) fun i v s Q E st q=>letGo_keyiter st.1 q) (fun s Q E st q=>wpAny_pyIter_keyiter st.1 q) hcell hkind (by simp)
    (fun i v h hp=>?_) (fun i h st=>?_) (fun b hb=>by simpa using hb) (fun b hb=>?_) (next_is_new F) (Ne.symm (Nat.ne_of_lt F.ns.lt)) ?_ (F.push _) (fun p hp=>⟨Heap.get?_push_of_some _ (N p hp).1,(N p hp).2⟩) S.keeps
    (fun p hp=>Nat.ne_of_lt (Heap.lt_size (N p hp).1)) (by rw [Heap.size_push]; exact Nat.lt_succ_self _) J hj (fun D C oL a r o v m₁ news₁ h tk oi hJ=>step _ D C oL a r o v m₁ news₁ h tk oi hJ) ?_
  · refine E2 hp fun k x q91=>A2 q91 fun hx hk=>?_
    try clear hp
    clear q91
    obtain ⟨t,rfl⟩:=Value.isStrOf_shape (by simpa [PySem.strKind] using hk)
    refine ⟨cq k,?_,t,rfl⟩
    rw [List.getElem?_map,hx]; rfl
  · refine E1 st.1 fun it q92=>A3 q92 fun hit hic _=>?_
    clear q92
    exact ⟨it,hit,hic⟩
  · have hb':b=s.heap.objs.size∨b=d:=by simpa using hb
    rcases hb' with e | e
    · exact .inl e
    · rw [e]; exact .inr S.fp
  · exact ⟨⟨_,Heap.get?_push_size _ rfl,rfl,rfl⟩,hat.push _⟩
  · intro D C o m₁ news₁ h tk hD hJ hlo hoff h1 h2 h3 h4 h5 F' N' h6
    refine done D C o m₁ news₁ h tk (by rw [hD,Heap.size_push]; exact Nat.le_succ _) hJ hlo hoff h1 h2 h3 ?_ h5 F' N'
    cases e:h₀.get? C with
    | none=>rfl
    | some o=>dsimp only at h4; rw [Heap.get?_push_of_some _ (F.keep C o e)] at h4; cases h4
end
end
section
set_option tactic.hygienic false
noncomputable abbrev vP (vs:List Value):Obj:={ cls:=.type "tuple",data:=.seq vs.toArray }
structure Ask where
  goal:Str
  sign:Int
  text:Str
structure Row where
  own:Int
  asks:List Ask
noncomputable abbrev al:=List (Str×Row)
noncomputable def al.at (b:al) (k:Str):Option Row:=(b.find? fun p=>p.1=k).map (·.2)
theorem bJ {kvs:List (Str×Value)} {k:Str} {v:Value} (h:valueAt kvs k=none):stored kvs k v=kvs++[(k,v)]:=by
  have:kvs.any (fun kv=>kv.1=k)=false:=by
    unfold valueAt at h
    rw [map_eq_none_iff,find?_eq_none] at h
    rw [List.any_eq_false]; exact h
  unfold stored; rw [this]; rfl
theorem fc {kvs:List (Str×Value)} {k:Str} (h:k ∉ kvs.map (·.1)):valueAt kvs k=none:=by
  unfold valueAt
  rw [map_eq_none_iff,find?_eq_none]
  intro p hp
  simp only [decide_eq_true_eq]
  exact fun e=>h (mem_map.mpr ⟨p,hp,e⟩)
noncomputable abbrev HasG (h:Heap):Addr→Obj→Prop:=fun a o=>h.get? a=some o
noncomputable abbrev LedG (bl:List (Addr×Obj)):Addr→Obj→Prop:=fun a o=>(a,o) ∈ bl
section
variable {prog:Program} {w:World} {A:Around} {E:Value→Shared→Prop} {s:Shared} {d:Addr} {kvs:List (Str×Value)} {k:Str} {t:Tok} {v:Value}
end
end
section
set_option tactic.hygienic false
noncomputable abbrev Wor:=List (Str×Int)
noncomputable def Wat (W:Wor) (k:Str):Option Int:=(W.find? fun p=>p.1=k).map (·.2)
theorem eI {W:Wor} {k:Str} {v:Int} (h:Wat W k=some v):(k,v) ∈ W:=by
  unfold Wat at h
  refine E1 (map_eq_some_iff.mp h) fun p q91=>A2 q91 fun hp e=>?_
  clear q91
  have h1:=find?_some hp
  have h2:=mem_of_find?_eq_some hp
  simp only [decide_eq_true_eq] at h1
  rw [← h1,← e]; exact h2
theorem iu {W:Wor} {k:Str} (h:Wat W k=none):k ∉ W.map (·.1):=by
  intro hm
  obtain ⟨p,hp,e⟩:=mem_map.mp hm
  unfold Wat at h
  rw [map_eq_none_iff,find?_eq_none] at h
  exact h p hp (by simpa using e)
theorem ay {W:Wor} {k:Str}:(Wat W k).isSome↔k ∈ W.map (·.1):=by
  constructor
  · intro h
    obtain ⟨v,e⟩:=isSome_iff_exists.mp h
    exact mem_map.mpr ⟨_,eI e,rfl⟩
  · intro h
    cases e:Wat W k with
    | some v=>rfl
    | none=>exact absurd h (iu e)
theorem eQ {W V:Wor} {k:Str} {v:Int} (h:Wat W k=some v):Wat (W++V) k=some v:=by
  unfold Wat at h ⊢
  rw [find?_append]
  cases e:List.find? (fun p=>decide (p.1=k)) W with
  | none=>rw [e] at h; cases h
  | some y=>rw [e] at h; exact h
theorem bK {W V:Wor} {k:Str} (h:Wat W k=none):Wat (W++V) k=Wat V k:=by
  unfold Wat at h ⊢
  rw [map_eq_none_iff] at h
  rw [find?_append,h]; rfl
noncomputable def jm (W:Wor) (r:Row):Int:=(((r.own+(r.asks.map fun a=>a.sign * (Wat W a.goal).getD 0).sum).natAbs:Nat):Int)
noncomputable def ew (W:Wor) (as:List Ask):List Str:=(as.filter fun a=>(Wat W a.goal).isNone).map (·.goal)
noncomputable def fg (W:Wor) (as:List Ask):Prop:=∀ a ∈ as,(Wat W a.goal).isSome
theorem dX {W:Wor} {as:List Ask}:ew W as=[]↔fg W as:=by
  unfold ew fg
  rw [map_eq_nil_iff,filter_eq_nil_iff]
  exact ⟨fun h a ha=>by have:=h a ha; cases e:Wat W a.goal <;> simp_all,fun h a ha=>by have:=h a ha; cases e:Wat W a.goal <;> simp_all⟩
noncomputable def ed (W:Wor) (k:Str) (v:Int):Wor:=if (Wat W k).isSome then W else W++[(k,v)]
noncomputable def bN (b:al) (W:Wor) (k:Str):Wor:=let r:=(b.at k).getD ⟨0,[]⟩; if ew W r.asks=[] then ed W k (jm W r) else W
noncomputable def bC (b:al) (W:Wor) (ks:List Str):Wor:=ks.foldl (bN b) W
noncomputable def cc (b:al):Nat→Wor→Wor
  | 0,W=>W
  | n+1,W=>cc b n (bC b W (b.map (·.1)))
noncomputable def aB (b:al):Wor:=cc b 6 []
inductive WOk (b:al):Wor→Prop
  | nil:WOk b []
  | snoc {W:Wor} {k:Str} {r:Row}:WOk b W→Wat W k=none→b.at k=some r→fg W r.asks→WOk b (W++[(k,jm W r)])
theorem lZ {W V:Wor} {r:Row} (h:fg W r.asks):jm (W++V) r=jm W r:=by
  unfold jm
  have:(r.asks.map fun a=>a.sign * (Wat (W++V) a.goal).getD 0)=r.asks.map fun a=>a.sign * (Wat W a.goal).getD 0:=map_congr_left fun a ha=>by
    obtain ⟨v,e⟩:=isSome_iff_exists.mp (h a ha)
    rw [e,eQ e]
  rw [this]
theorem jz {W V:Wor} {as:List Ask} (h:fg W as):fg (W++V) as:=fun a ha=>by
  obtain ⟨v,e⟩:=isSome_iff_exists.mp (h a ha)
  rw [eQ e]; rfl
theorem WOk.val {b:al} {W:Wor} (h:WOk b W):∀ {k:Str} {v:Int},Wat W k=some v→∃ r,b.at k=some r∧fg W r.asks∧v=jm W r:=by
  induction h with
  | nil=>intro k v h; cases h
  | @snoc W k' r hW hk hr ha ih =>
    intro k v h
    cases e:Wat W k with
    | some v' =>
      rw [eQ e] at h; cases h
      refine E1 (ih e) fun r' q91=>A3 q91 fun h1 h2 h3=>?_
      clear q91
      exact ⟨r',h1,jz h2,by rw [h3,lZ h2]⟩
    | none =>
      rw [bK e] at h
      have:=eI h
      rw [mem_singleton] at this
      cases this
      exact ⟨r,hr,jz ha,(lZ ha).symm⟩
theorem lO {b:al} {W:Wor} (h:WOk b W) {k:Str} {r:Row} (hr:b.at k=some r):WOk b (bN b W k):=by
  unfold bN
  rw [hr]
  dsimp only [getD_some]
  split
  · rename_i hm
    unfold ed
    split
    · exact h
    · rename_i hk
      exact .snoc h (by cases e:Wat W k with
        | none=>rfl
        | some v=>rw [e] at hk; exact absurd rfl hk) hr (dX.mp hm)
  · exact h
structure di (b:al):Prop where
  len:b.length≤7
  own:∀ p ∈ b,-500≤p.2.own∧p.2.own≤500
  asks:∀ p ∈ b,p.2.asks.length≤2
  sign:∀ p ∈ b,∀ a ∈ p.2.asks,a.sign=1∨a.sign = -1
theorem db {b:al} {x:Str} {r:Row} (h:b.at x=some r):(x,r) ∈ b:=by
  unfold al.at at h
  refine E1 (map_eq_some_iff.mp h) fun p q91=>A2 q91 fun hp e=>?_
  clear q91
  have h1:=find?_some hp
  have h2:=mem_of_find?_eq_some hp
  simp only [decide_eq_true_eq] at h1
  rw [← h1,← e]; exact h2
noncomputable def Bnd (W:Wor) (B:Int):Prop:=∀ k v,Wat W k=some v→0≤v∧v≤B
theorem qF {W:Wor} {B:Int} (hB:0≤B) (hW:Bnd W B):∀ (as:List Ask),(∀ a ∈ as,a.sign=1∨a.sign = -1)→-(as.length * B)≤(as.map fun a=>a.sign * (Wat W a.goal).getD 0).sum∧(as.map fun a=>a.sign * (Wat W a.goal).getD 0).sum≤as.length * B
  | [],_=>by simp
  | a::r,h=>by
    have ih:=qF hB hW r fun a ha=>h a (.tail _ ha)
    have h1:-B≤a.sign * (Wat W a.goal).getD 0∧a.sign * (Wat W a.goal).getD 0≤B:=by
      cases e:Wat W a.goal with
      | none=>simp; omega
      | some v =>
        have:=hW _ _ e
        rcases h a (.head _) with h | h <;> rw [h] <;> simp only [getD_some] <;> omega
    simp only [map_cons,List.sum_cons,length_cons]
    have e:((r.length+1:Nat):Int) * B=r.length * B+B:=by rw [Int.natCast_add]; simp [Int.add_mul]
    rw [e]; (clear hB e; omega)
theorem WOk.bnd {b:al} (hb:di b) {W:Wor} (h:WOk b W):Bnd W (500 * (2 ^ W.length - 1)):=by
  induction h with
  | nil=>intro k v h; cases h
  | @snoc W k' r hW hk hr ha ih =>
    have hp:(1:Int)≤2 ^ W.length:=by exact_mod_cast Nat.one_le_two_pow
    have e2:(2:Int) ^ (W++[(k',jm W r)]).length=2 ^ W.length * 2:=by rw [length_append,length_singleton,Int.pow_succ]
    intro k v h
    rw [e2]
    cases e:Wat W k with
    | some v' =>
      rw [eQ e] at h; cases h
      have:=ih _ _ e
      generalize (2:Int) ^ W.length=P at *
      (clear hp e2; omega)
    | none =>
      rw [bK e] at h
      have:=eI h
      rw [mem_singleton] at this
      cases this
      have hm:=db hr
      have h1:=hb.own _ hm
      have h2:=hb.asks _ hm
      have h3:=qF (by generalize (2:Int) ^ W.length=P at *; (clear h1 h2 e2; omega)) ih r.asks (hb.sign _ hm)
      unfold jm
      generalize (r.asks.map fun a=>a.sign * (Wat W a.goal).getD 0).sum=S at *
      generalize (2:Int) ^ W.length=P at *
      have h4:(r.asks.length:Int) * (500 * (P - 1))≤2 * (500 * (P - 1)):=Int.mul_le_mul_of_nonneg_right (by exact_mod_cast h2) (by (clear h1 h2 e2 h3; omega))
      dsimp only at h1
      (clear h2 hp e2; omega)
theorem aO:∀ {l l':List Str},l.Nodup→(∀ x ∈ l,x ∈ l')→l.length≤l'.length
  | [],_,_,_=>Nat.zero_le _
  | x::r,l',h,hs=>by
    rw [nodup_cons] at h
    have hx:=hs x (.head _)
    have:=aO (l:=r) (l':=l'.erase x) h.2 fun y hy=>(List.mem_erase_of_ne (fun e=>h.1 (by rw [← e]; exact hy))).mpr (hs y (.tail _ hy))
    rw [List.length_erase_of_mem hx] at this
    have hp:0 < l'.length:=List.length_pos_of_mem hx
    simp only [length_cons]; omega
theorem WOk.nodup {b:al} {W:Wor} (h:WOk b W):(W.map (·.1)).Nodup:=by
  induction h with
  | nil=>exact .nil
  | @snoc W k' r hW hk hr ha ih =>
    rw [map_append,nodup_append]
    refine ⟨ih,by simp,fun x hx y hy=>?_⟩
    simp only [map_cons,List.map_nil,mem_singleton] at hy
    rw [hy]
    exact fun e=>iu hk (by rw [← e]; exact hx)
theorem WOk.sub {b:al} {W:Wor} (h:WOk b W):∀ x ∈ W.map (·.1),x ∈ b.map (·.1):=by
  intro x hx
  obtain ⟨v,e⟩:=isSome_iff_exists.mp (ay.mpr hx)
  refine E1 (h.val e) fun r q91=>A2 q91 fun h1 _=>?_
  clear q91
  exact mem_map.mpr ⟨_,db h1,rfl⟩
theorem WOk.length {b:al} {W:Wor} (h:WOk b W):W.length≤b.length:=by
  have:=aO h.nodup h.sub
  simpa using this
theorem WOk.bnd7 {b:al} (hb:di b) {W:Wor} (h:WOk b W):Bnd W 63500:=by
  intro k v e
  have h1:=h.bnd hb k v e
  have h2:W.length≤7:=Nat.le_trans h.length hb.len
  have h3:(2:Int) ^ W.length≤2 ^ 7:=by exact_mod_cast Nat.pow_le_pow_right (n:=2) (by decide) h2
  generalize (2:Int) ^ W.length=P at *
  (clear h2; omega)
end
section
set_option tactic.hygienic false
open PySem.SeqAt
section
variable {prog:Program} {w:World} {A:Around} {E:Value→Shared→Prop} {s:Shared} {h₀:Heap} {L D:Addr} {m:Str→Option Value} {news:List (Addr×Obj)} {us:List Value} {gs:List Str} {x:Str} {t:Tok}
noncomputable def ny (x:Str):Value→Bool
  | .str y _=>y == x
  | _=>false
theorem kD:∀ {us:List Value} {gs:List Str},StrsAre us gs→us.any (ny x)=decide (x ∈ gs)
  | _,_,.nil=>by simp
  | _,_,.cons y t r=>by
    rw [List.any_cons,kD r]
    by_cases h:x=y
    · subst h; simp [ny]
    · have:(y == x)=false:=by rw [beq_eq_false_iff_ne]; exact fun e=>h e.symm
      simp [ny,this,h]
theorem qB (hg:StrsAre us gs) (A:Around):∀ y,y ∈ us.toArray→EqAt A s y (.str x t) (ny x y):=by
  intro y hy
  have hy':y ∈ us:=by simpa using hy
  refine E2 (hg.all y hy') fun z u e91=>?_
  clear hy hy'
  first | subst e91 | cases e91
  exact EqAt.str_str z u x t
theorem wL {Q:Value→Shared→Prop} (hl:s.heap.IsList D us.toArray) (hg:StrsAre us gs) (h:Q (.bool (decide (x ∈ gs))) s):wpAny (model prog w) A (compareOp .In (.str x t) (.ref D)) Q E s :=
  in_listAt (ny x) hl (qB hg _) (by rw [List.any_toArray,kD hg]; exact h)
theorem rk {Q:Value→Shared→Prop} (hl:s.heap.IsList D us.toArray) (hg:StrsAre us gs) (h:Q (.bool (!decide (x ∈ gs))) s):wpAny (model prog w) A (compareOp .NotIn (.str x t) (.ref D)) Q E s :=
  notIn_listAt (ny x) hl (qB hg _) (by rw [List.any_toArray,kD hg]; exact h)
theorem kg (us:List Value) (a b:Nat):(slicePick us.toArray (some (a:Int)) (some (b:Int)) none).toList=(us.take b).drop a:=by
  rw [slicePick_plain]
  simp only [Option.elim,clipAt_nat,size_toArray]
  rw [List.drop_take]
  by_cases h1:a≤us.length
  · by_cases h2:b≤us.length
    · rw [Nat.min_eq_left h1,Nat.min_eq_left h2]
    · rw [Nat.min_eq_left h1,Nat.min_eq_right (by omega),take_of_length_le (by simp),take_of_length_le (by simp; omega)]
  · rw [Nat.min_eq_right (show us.length≤a by omega),drop_eq_nil_of_le (Nat.le_refl _),drop_eq_nil_of_le (show us.length≤a by omega)]; simp
theorem lq (us:List Value) (a:Nat):(slicePick us.toArray (some (a:Int)) none none).toList=us.drop a:=by
  rw [slicePick_from']
theorem sk {value slice:PySem.Expr} {a b:Nat} {ta tb:Tok} {Q:Value→Shared→Prop} (F:Fr h₀ L s.heap m) (N:News h₀ L s.heap news) (hl:s.heap.IsList D us.toArray) (hz:us.length≤1000000)
    (h:∀ D' h',Fr h₀ L h' m→News h₀ L h' ((D',listOf ((us.take b).drop a).toArray 0)::news)→(∀ p ∈ news,p.1 < D')→Q (.ref D') { s with heap:=h' })
    (hs:subscripted slice false (.ref D) (.ref s.heap.objs.size)=operate [.ref s.heap.objs.size,.ref D] (getItem (.ref D) (.ref s.heap.objs.size))) (ht:∀ r,letTemporaryGo value (.ref D) r=pure ()) :
    wpAny (model prog w) A (subscriptTail value slice (.ref D) (.ref s.heap.objs.size)) Q E { s with heap:=s.heap.push { cls:=.type "slice",data:=.fields #[.int (a:Int) ta,.int (b:Int) tb,.none] } } :=
  kmk_slice_lit F N hl (.int _ _) (.int _ _) (kg us a b) h hs ht (by rw [size_toArray]; exact szl (by omega))
theorem uE {value slice:PySem.Expr} {a:Nat} {ta:Tok} {Q:Value→Shared→Prop} (F:Fr h₀ L s.heap m) (N:News h₀ L s.heap news) (hl:s.heap.IsList D us.toArray) (hz:us.length≤1000000)
    (h:∀ D' h',Fr h₀ L h' m→News h₀ L h' ((D',listOf (us.drop a).toArray 0)::news)→(∀ p ∈ news,p.1 < D')→Q (.ref D') { s with heap:=h' })
    (hs:subscripted slice false (.ref D) (.ref s.heap.objs.size)=operate [.ref s.heap.objs.size,.ref D] (getItem (.ref D) (.ref s.heap.objs.size))) (ht:∀ r,letTemporaryGo value (.ref D) r=pure ()) :
    wpAny (model prog w) A (subscriptTail value slice (.ref D) (.ref s.heap.objs.size)) Q E { s with heap:=s.heap.push { cls:=.type "slice",data:=.fields #[.int (a:Int) ta,.none,.none] } } :=
  kmk_slice_lit F N hl (.int _ _) .none (lq us a) h hs ht (by rw [size_toArray]; exact szl (by omega))
end
end
section
set_option tactic.hygienic false
end
section
set_option tactic.hygienic false
theorem fS {l:Addr} {us:List Value} (hz:us.length≤1000000) :
    Meets (Builtin.«bool.__new__» ⟨[.type "bool",.ref l],[]⟩) (fun _ R s=>s.heap.IsList l us.toArray∧∀ tk,R (.ok (.ret (.bool (!us.isEmpty)))) { s with toks:=tk }) :=
  Meets.of_wp fun prog w A R s hs=>by
    obtain ⟨hp,g,d,tk,os⟩:=s
    obtain ⟨hl,hs⟩:=hs
    have f1:=F.conv_sub_bool
    repeat (any_goals (first | assumption | (with_reducible refine ml hl hz fun tk'=>?_) | wp_step))
    all_goals first | exact ⟨_,rfl,hs _⟩ | exact hs _ | skip
section
variable {prog:Program} {w:World} {A:Around} {E:Value→Shared→Prop} {s:Shared} {h₀:Heap} {L D:Addr} {m:Str→Option Value} {news news':List (Addr×Obj)} {us:List Value} {n:Nat}
theorem yk {Q:Value→Shared→Prop} (hl:s.heap.IsList D us.toArray) (hz:us.length≤1000000) (h:∀ tk,Q (.bool (!us.isEmpty)) { s with toks:=tk }):wpAny (model prog w) A (call (.type "bool") [.ref D]) Q E s :=
  call_bool_1 (fS hz) ⟨hl,fun tk=>(show wants (fun obj s₁=>s₁.TypeIs obj "bool" ∧ Q obj s₁) E _ _ from ⟨rfl,h tk⟩)⟩
theorem uQ {Q:Value→Shared→Prop} (F:Fr h₀ L s.heap m) (N:News h₀ L s.heap news) (U:Upd D (listOf us.toArray n) (listOf #[] (if us=[] then n else n+1)) news news') (hz:us.length≤1000000)
    (h:∀ h',Fr h₀ L h' m→News h₀ L h' news'→Q .none { s with heap:=h' }):wpAny (model prog w) A (call (.builtin "list.clear") [.ref D]) Q E s:=by
  by_cases hu:us=[]
  · clear hz
    subst hu
    rw [if_pos rfl] at U
    refine E2 U.split fun pre post q91=>A4 q91 fun e92 e93 a c=>?_
    clear q91
    clear U
    first | subst e92 | cases e92
    first | subst e93 | cases e93
    have z:=N (D,listOf #[] n) (mem_append.mpr (.inr (.head _)))
    refine call_meets PySem.F.slot_list_clear ⟨_,z.1,rfl⟩ PySem.F.entry_list_clear (PySem.F.args_list_clear_1 _) (PySem.AutoSeq1.list_clear_list_0 D #[] n (by simp)) ⟨z.1,h _ (F.change (Heap.SameBut.update ..) z.2.1 z.2.2) (kl_turn0 (its:=#[]) (fun _=>#[]) N a c rfl rfl)⟩
  · rw [if_neg hu] at U
    exact kl_clear F N U (by simpa using hu) (szl (us:=us) (by omega)) h
theorem vh {Q:Value→Shared→Prop} (F:Fr h₀ L s.heap m) (N:News h₀ L s.heap news) (hl:s.heap.IsList D us.toArray) (hz:us.length≤1000)
    (h:∀ D' h',Fr h₀ L h' m→News h₀ L h' ((D',vP us)::news)→(∀ p ∈ news,p.1 < D')→Q (.ref D') { s with heap:=h' }):wpAny (model prog w) A (call (.type "tuple") [.ref D]) Q E s :=
  kde_tupleOf F N hl (by rw [size_toArray]; omega) rfl h
theorem len_T {Q:Value→Shared→Prop} (hl:IsTup s.heap D us.toArray) (hz:us.length≤1000000) (h:∀ t tk,Q (.int us.length t) { s with toks:=tk }):wpAny (model prog w) A (call (.builtin "len") [.ref D]) Q E s :=
  len_tuple hl (by rw [size_toArray]; omega) (by rw [size_toArray]; exact h _ _)
end
end
section
set_option tactic.hygienic false
section
variable {prog:Program} {w:World} {A₀ A:Around} {s:Shared} {base h₀:Heap} {L:Addr} {m mg mb:Str→Option Value} {env:Env} {own:List (Addr×Obj)} {K:Frag} {p:Program} {loose:List Str} {mean:ExcName→Option Value}
  {R:Result→Shared→Prop} {name qual:Str} {params:Arguments} {body:List Stmt} {scope:Scope} {dV kV doc pm cdv ct oc:Value} {an od:Option Addr} {osl:Array (Option Value)} {f:Addr} {args:Args} {binds:List (Str×Value)}
end
end
section
set_option tactic.hygienic false
namespace LI
theorem iP:Slot "list_iterator" "__getattribute__" "object.__getattribute__" :=
  .of (owner := "object") (n := "__getattribute__") (by rw [typeLookup_type,builtinLookup_eq_fast]; kernel_rfl) (by decide +kernel) (by decide +kernel) (by decide +kernel)
    (by first | exact .inl (by decide +kernel) | exact .inr (by decide +kernel)) (by rw [isSubtype_type]; kernel_rfl)
theorem jO:typeOf (.builtin "list_iterator.__next__")=pure (.type "wrapper_descriptor"):=by show builtinType _=_; rw [builtinType_eq_fast]; kernel_rfl
theorem iX:Slot "wrapper_descriptor" "__get__" "wrapper_descriptor.__get__" :=
  .of (owner := "wrapper_descriptor") (n := "__get__") (by rw [typeLookup_type,builtinLookup_eq_fast]; kernel_rfl) (by decide +kernel) (by decide +kernel) (by decide +kernel)
    (by first | exact .inl (by decide +kernel) | exact .inr (by decide +kernel)) (by rw [isSubtype_type]; kernel_rfl)
theorem xi:typeLookup (.type "wrapper_descriptor") "__set__" = pure none:=by rw [typeLookup_type,builtinLookup_eq_fast]; kernel_rfl
theorem xw:typeLookup (.type "wrapper_descriptor") "__delete__" = pure none:=by rw [typeLookup_type,builtinLookup_eq_fast]; kernel_rfl
theorem ru:entryFor table "wrapper_descriptor.__get__" = some Builtin.«wrapper_descriptor.__get__» := entryFor_of_tree (by kernel_rfl)
theorem rU (a b c:Value):argsOk "wrapper_descriptor.__get__" ⟨[a,b,c],[]⟩:=by unfold argsOk; kernel_rfl
theorem xM:isSubtype (.type "list_iterator") (.type (".".intercalate ("list_iterator.__next__".cutAt '.').dropLast))=pure true:=by
  have e0 : "list_iterator.__next__".cutAt '.'=["list_iterator", "__next__"]:=by first | rfl | decide +kernel
  rw [e0,show (".".intercalate (["list_iterator", "__next__"]:List String).dropLast) = "list_iterator" from by decide +kernel,isSubtype_type]; kernel_rfl
noncomputable def mw (it:Addr):Obj:={ cls:=.type "method-wrapper",data:=.fields #[.builtin "list_iterator.__next__",.ref it] }
noncomputable def itObj (l:Addr) (i:Nat):Obj:={ cls:=.type "list_iterator",data:=.fields #[.ref l,.int i 0] }
section
variable {prog:Program} {w:World} {A:Around} {E:Value→Shared→Prop} {h:Heap} {g:Array GenState} {d:Drawn} {t:Nat} {os:OsState} {a:Addr} {o:Obj}
theorem sV {R:Result→Shared→Prop} {l:Addr} {i:Nat} (hx:h.get? a=some { cls:=.type "list_iterator",data:=.fields #[.ref l,.int i 0] }) (hq:R (.ok (.ret (.ref h.objs.size))) ⟨h.push (mw a),g,d,t,os⟩) :
    codeAny (model prog w) A (.call (.builtin "wrapper_descriptor.__get__") ⟨[.builtin "list_iterator.__next__",.ref a,.type "list_iterator"],[]⟩) R ⟨h,g,d,t,os⟩:=by
  have hT:(⟨h,g,d,t,os⟩ : Shared).TypeIs (.ref a) "list_iterator" := ⟨_,hx,rfl⟩
  have hT5:(⟨h,g,d,t,os⟩ : Shared).TypeIs (.builtin "list_iterator.__next__") "wrapper_descriptor" := jO
  have f8:=xM
  refine codeAny_call_builtin iX.plain ru (iX.check _ _ _ _ _ _ _ _ hT5 (rU _ _ _) ?_)
  repeat (any_goals (first | assumption | wp_step))
theorem nD {tk:Tok} {Q:Fin→Shared→Prop} {l:Addr} {i:Nat} (hx:h.get? a=some { cls:=.type "list_iterator",data:=.fields #[.ref l,.int i 0] }) (hq:Q (.done (.ret (.ref h.objs.size))) ⟨h.push (mw a),g,d,t,os⟩) :
    wpAny (model prog w) A (Builtin.«object.__getattribute__» ⟨[.ref a,.str "__next__" tk],[]⟩) Q E ⟨h,g,d,t,os⟩:=by
  have hT:(⟨h,g,d,t,os⟩ : Shared).TypeIs (.ref a) "list_iterator" := ⟨_,hx,rfl⟩
  have f4:=slot_listiter_next.lookup
  have f5:=jO
  have f6:=iX.lookup
  have f7:=xi
  have f8:=xw
  repeat (any_goals (first | assumption | wp_step))
  exact sV hx (wpAny_pure hq)
theorem qD {tk:Tok} {R:Result→Shared→Prop} {l:Addr} {i:Nat} (hx:h.get? a=some { cls:=.type "list_iterator",data:=.fields #[.ref l,.int i 0] }) (hq:R (.ok (.ret (.ref h.objs.size))) ⟨h.push (mw a),g,d,t,os⟩) :
    codeAny (model prog w) A (.call (.builtin "object.__getattribute__") ⟨[.ref a,.str "__next__" tk],[]⟩) R ⟨h,g,d,t,os⟩ :=
  codeAny_call_builtin iP.plain PySem.F.entry_object_getattribute (iP.check _ _ _ _ _ _ _ _ (show (⟨h,g,d,t,os⟩ : Shared).TypeIs (.ref a) "list_iterator" from ⟨_,hx,rfl⟩) (PySem.F.args_object_getattribute_2 _ _) (nD hx hq))
theorem qp {b:Bool} {Q:Value→Shared→Prop} {l:Addr} {i:Nat} (hx:h.get? a=some { cls:=.type "list_iterator",data:=.fields #[.ref l,.int i 0] }) (hq:Q (.ref h.objs.size) ⟨h.push (mw a),g,d,t+1,os⟩) :
    wpAny (model prog w) A (getAttr (.ref a) "__next__" b) Q E ⟨h,g,d,t,os⟩:=by
  have hT:(⟨h,g,d,t+1,os⟩ : Shared).TypeIs (.ref a) "list_iterator" := ⟨_,hx,rfl⟩
  have f2:=iP.lookup
  have f3:=iP.bind (.ref a)
  cases b <;>
  · unfold getAttr
    repeat (any_goals (first | assumption | wp_step))
    refine qD hx ?_
    repeat (any_goals (first | assumption | wp_step))
end
theorem nv:entryFor table "iter" = some Builtin.«iter» := entryFor_of_fast (by kernel_rfl)
theorem qZ (a:Value):argsOk "iter" ⟨[a],[]⟩:=by unfold argsOk; kernel_rfl
theorem oU {as:Args}:(Code.builtin "list_iterator.__next__" as).quiet=true:=Code.quiet_builtin _ (by decide +kernel)
section
variable {prog:Program} {w:World} {A:Around} {E:Value→Shared→Prop} {s:Shared} {h₀:Heap} {L:Addr} {m:Str→Option Value} {news:List (Addr×Obj)}
theorem iter_L {l:Addr} {items:Array Value} {Q:Value→Shared→Prop} (F:Fr h₀ L s.heap m) (N:News h₀ L s.heap news) (hl:s.heap.IsList l items)
    (h:∀ I h',Fr h₀ L h' m→News h₀ L h' ((I,itObj l 0)::news)→(∀ p ∈ news,p.1 < I)→Q (.ref I) { s with heap:=h' }) :
    wpAny (model prog w) A (call (.builtin "iter") [.ref l]) Q E s:=by
  refine call_function_entry (by decide +kernel) (by decide +kernel) nv (qZ _) ?_
  unfold Builtin.«iter»
  refine wpAny_bind (m:=someArgs "iter" 1 2 _) (wpAny_of_eq (a:=[Value.ref l]) (by first | rfl | kernel_rfl) ?_)
  show wpAny _ _ (pyIter (.ref l) >>= _) _ _ _
  refine wpAny_bind (wpAny_pyIter_list hl ?_)
  exact wpAny_pure ⟨_,rfl,h _ _ (F.push _) (News.push F N _ rfl) fun q hq=>Heap.lt_size (N q hq).1⟩
theorem attr_next {b:Bool} {it l:Addr} {i:Nat} {Q:Value→Shared→Prop} (F:Fr h₀ L s.heap m) (N:News h₀ L s.heap news) (hm:(it,itObj l i) ∈ news)
    (h:∀ x h' tk,Fr h₀ L h' m→News h₀ L h' ((x,mw it)::news)→(∀ p ∈ news,p.1 < x)→Q (.ref x) { s with heap:=h',toks:=tk }) :
    wpAny (model prog w) A (getAttr (.ref it) "__next__" b) Q E s :=
  qp (N _ hm).1 (h _ _ _ (F.push _) (News.push F N _ rfl) fun q hq=>Heap.lt_size (N q hq).1)
theorem og {it l:Addr} {i:Nat} {Q:Unit→Shared→Prop} (_hx:s.heap.get? it=some (itObj l i)) (h:Q () s):wpAny (model prog w) A (checkBoundCall "list_iterator.__next__" ⟨[.ref it],[]⟩) Q E s:=by
  have:checkBoundCall "list_iterator.__next__" ⟨[.ref it],[]⟩=pure ():=by first | kernel_rfl | rfl
  exact wpAny_of_eq this h
theorem body_item {it l:Addr} {i:Nat} {items:Array Value} {x:Value} {Q:Fin→Shared→Prop} (hi:s.heap.get? it=some (itObj l i)) (hl:s.heap.IsList l items) (hx:items[i]? = some x)
    (hQ:∀ h',h'.get? it=some (itObj l (i+1))→Heap.SameBut it s.heap h'→Q (.done (.ret x)) { s with heap:=h' }) :
    wpAny (model prog w) A (Builtin.«list_iterator.__next__» ⟨[.ref it],[]⟩) Q E s:=by
  obtain ⟨ol,hol,_,nl,hdl⟩:=hl
  show wpAny _ _ (field (.ref it) 0 >>= _) _ _ s
  refine wpAny_bind (wpAny_field hi rfl (x:=.ref l) rfl ?_)
  show wpAny _ _ (if (Value.ref l == Value.none)=true then _ else _) _ _ s
  rw [if_neg (show ¬ ((Value.ref l == Value.none)=true) from Bool.false_ne_true)]
  show wpAny _ _ (field (.ref it) 1 >>= _) _ _ s
  refine wpAny_bind (wpAny_field hi rfl (x:=.int i 0) rfl ?_)
  show wpAny _ _ (seqItems? (.ref l) >>= _) _ _ s
  refine wpAny_bind (wpAny_seqItems hol hdl ?_)
  simp only [Int.toNat_natCast,hx]
  refine wpAny_bind (wpAny_setField hi rfl (by simp) (wpAny_pure (hQ _ ?_ (Heap.SameBut.update ..))))
  rw [Heap.get?_update_self _ hi (Obj.isFreed_of_fields (Obj.data_mapFields rfl _))]
  rfl
theorem body_end {it l:Addr} {i:Nat} {items:Array Value} {Q:Fin→Shared→Prop} (hh:A.handled=none) (hi:s.heap.get? it=some (itObj l i)) (hl:s.heap.IsList l items) (hx:items[i]? = none)
    (hQ:∀ h₁ h' e,Heap.SameBut it s.heap h₁→Heap.MadeExcOf h₁ h' e (.type "StopIteration") []→E (.ref e) { s with heap:=h' }) :
    wpAny (model prog w) A (Builtin.«list_iterator.__next__» ⟨[.ref it],[]⟩) Q E s:=by
  obtain ⟨ol,hol,_,nl,hdl⟩:=hl
  show wpAny _ _ (field (.ref it) 0 >>= _) _ _ s
  refine wpAny_bind (wpAny_field hi rfl (x:=.ref l) rfl ?_)
  show wpAny _ _ (if (Value.ref l == Value.none)=true then _ else _) _ _ s
  rw [if_neg (show ¬ ((Value.ref l == Value.none)=true) from Bool.false_ne_true)]
  show wpAny _ _ (field (.ref it) 1 >>= _) _ _ s
  refine wpAny_bind (wpAny_field hi rfl (x:=.int i 0) rfl ?_)
  show wpAny _ _ (seqItems? (.ref l) >>= _) _ _ s
  refine wpAny_bind (wpAny_seqItems hol hdl ?_)
  simp only [Int.toNat_natCast,hx]
  refine wpAny_bind (wpAny_rule (wpAny_bind (wpAny_setField hi rfl (by simp) ?_)))
  show wpAny _ _ (newExc (.type "StopIteration") [] >>= _) _ _ _
  refine wpAny_bind ?_
  simp only [newExc,newTuple]
  refine wpAny_bind (wpAny_newObj_type ?_ (by size_fits))
  refine wpAny_bind (m:=firstArgMember _ _) (wpAny_of_eq (a:=Value.none) (by first | rfl | (simp only [firstArgMember]; rfl)) ?_)
  refine wpAny_newObj_type ?_ (by size_fits)
  simp only [raiseNew]
  refine wpAny_bind (wpAny_handled ?_)
  rw [hh]
  refine wpAny_bind (wpAny_pure (wpAny_throw ?_))
  generalize hH:s.heap.update it (Obj.mapFields fun x=>x.setIfInBounds 0 Value.none)=H
  have hs:Heap.SameBut it s.heap H:=by rw [← hH]; exact Heap.SameBut.update ..
  refine hQ H _ _ hs ⟨fun b o hb=>Heap.get?_push_of_some _ (Heap.get?_push_of_some _ hb),Heap.get?_none_of_le (by rw [Heap.size_push]; exact Nat.le_succ _),H.objs.size,?_,Heap.get?_none_of_le (Nat.le_refl _),?_⟩
  · rw [Heap.get?_push_size _ rfl]; rfl
  · exact Heap.get?_push_of_some _ (Heap.get?_push_size _ rfl)
theorem call_mw {x it l:Addr} {i:Nat} {Q:Value→Shared→Prop} (hx:s.heap.get? x=some (mw it)) (hi:s.heap.get? it=some (itObj l i))
    (h:∀ (A':Around) (Q':Fin→Shared→Prop) (E':Value→Shared→Prop),A'.handled=A.handled→(∀ v s',Q v s'→Q' (.done (.ret v)) s')→(∀ v s',E v s'→E' v s')→wpAny (model prog w) A' (Builtin.«list_iterator.__next__» ⟨[.ref it],[]⟩) Q' E' s) :
    wpAny (model prog w) A (call (.ref x) []) Q E s:=by
  refine wpAny_call (codeAny_of_tree ?_)
  show wpAny _ A.in1 (callAny (.ref x) ⟨[],[]⟩) _ _ s
  show wpAny _ _ (load x >>= _) _ _ s
  refine wpAny_bind (wpAny_load hx ?_)
  show wpAny _ _ (if _ then _ else _) _ _ _
  refine KFB.if_so rfl ?_
  refine wpAny_bind (og hi ?_)
  exact wpAny_pure ⟨oU,codeAny_builtin entry_listiter_next (h _ _ _ rfl (fun v s' q=>q) (fun v s' q=>q))⟩
theorem callWith_mw {pos:Pos} {u it:Addr} {first:List Value} {Q:Value→Shared→Prop} (ho:s.heap.get? u=some (mw it)) (h:wpAny (model prog w) A (call (.ref u) first) Q E s) :
    wpAny (model prog w) A (callWith pos (.ref u) first [] []) Q E s:=by
  unfold callWith
  refine wpAny_bind (wpAny_holding (evalArgs_nil3 (wpAny_bind (wpAny_standAt ?_))))
  refine wpAny_bind (m:=keeperOf (.ref u)) ?_
  show wpAny _ _ (load u >>= _) _ _ _
  refine wpAny_bind (wpAny_load ho ?_)
  show wpAny _ _ (pure _) _ _ _
  refine wpAny_pure ?_
  show wpAny _ _ (call (.ref u) (first++[]) [] >>= _) _ _ _
  rw [append_nil]
  exact wpAny_bind (wpAny_mono h (fun r s₂ hr=>wpAny_bind (wpAny_holding (wpAny_point (wpAny_pure hr)))) fun _ _ x=>x)
end
end LI
end
section
set_option tactic.hygienic false
noncomputable def nM (fl:List (Addr×Obj)):Prop:=∀ p ∈ fl,∃ es n,p.2.data = .dict es n
noncomputable def oZ (fl:List (Addr×Obj)):List Env→Prop
  | []=>True
  | env::r=>env.scope.kind = .function∧(∃ b o,env.frame=some b∧(b,o) ∈ fl)∧oZ fl r
inductive Ups:List (Addr×Obj)→List (Addr×Obj)→Prop
  | nil:Ups [] []
  | cons {b:Addr} {o:Obj} {r r':List (Addr×Obj)} (sl:Array (Option Value)):Ups r r'→Ups ((b,o)::r) ((b,{ o with slots:=sl })::r')
theorem Ups.keys:∀ {a b:List (Addr×Obj)},Ups a b→b.map (·.1)=a.map (·.1)
  | _,_,.nil=>rfl
  | _,_,.cons _ x=>congrArg (_::·) x.keys
theorem Ups.dicts:∀ {a b:List (Addr×Obj)},Ups a b→nM a→nM b
  | _,_,.nil,h=>h
  | _,_,.cons _ x,h=>fun p hp=>by
    rcases mem_cons.mp hp with rfl | hp
    · refine E2 (h _ (.head _)) fun es n hd=>?_
      exact ⟨es,n,hd⟩
    · exact x.dicts (fun q hq=>h q (.tail _ hq)) p hp
theorem oZ.fun {h:Heap} {as:List Addr} {fl:List (Addr×Obj)} (D:nM fl) (hh:∀ p ∈ fl,h.get? p.1=some p.2) (ha:∀ p ∈ fl,p.1 ∈ as):∀ {l:List Env},oZ fl l→h.FunFrames (hideAll h as) l
  | [],_=>trivial
  | _::_,⟨hk,⟨b,o,hf,hm⟩,hr⟩=>by
    refine E2 (D _ hm) fun es n hd=>?_
    exact ⟨by rw [hk]; decide,⟨b,o,hf,hideAll_none _ (ha _ hm),hh _ hm,fun vs q=>by dsimp only at hd; rw [hd] at q; cases q⟩,hr.fun D hh ha⟩
theorem tY {h h':Heap} (U:h.UpToSlots h'):∀ {fl:List (Addr×Obj)},nM fl→(∀ p ∈ fl,h.get? p.1=some p.2)→∃ fl',Ups fl fl'∧∀ p ∈ fl',h'.get? p.1=some p.2
  | [],_,_=>⟨[],.nil,fun _ h=>nomatch h⟩
  | (b,o)::r,D,hh=>by
    refine E2 (D _ (.head _)) fun es n hd=>?_
    obtain ⟨sl,hs⟩:=U b o (hh _ (.head _)) fun vs q=>by dsimp only at hd; rw [hd] at q; cases q
    refine E1 (tY U (fl:=r) (fun p hp=>D p (.tail _ hp)) fun p hp=>hh p (.tail _ hp)) fun r' q91=>A2 q91 fun h1 h2=>?_
    clear q91
    refine ⟨(b,{ o with slots:=sl })::r',.cons sl h1,fun p hp=>?_⟩
    rcases mem_cons.mp hp with rfl | hp
    · exact hs
    · exact h2 p hp
theorem vy {fl fl':List (Addr×Obj)} (e:fl'.map (·.1)=fl.map (·.1)) {p:Addr×Obj} (hp:p ∈ fl'):∃ q ∈ fl,q.1=p.1:=by
  have:p.1 ∈ fl.map (·.1):=by rw [← e]; exact mem_map_of_mem hp
  refine E1 (mem_map.mp this) fun q q91=>A2 q91 fun hq e=>?_
  clear q91
  exact ⟨q,hq,e⟩
section
variable {prog:Program} {w:World} {A₀:Around} {E:Value→Shared→Prop} {s':Shared} {g h:Heap} {outer:List Env} {L a e:Addr} {m:Str→Option Value} {name:Str} {scope:Scope} {cd:Value}
  {vs:List Value} {b₀:Stmt} {suite:List Stmt} {pos np:Pos} {rest:List ExceptHandler} {Q:Flow→Shared→Prop} {news fl:List (Addr×Obj)} {KF:Frag}
  {p:Program} {loose:List Str} {mean:ExcName→Option Value} {mg mb:Str→Option Value} {x:Str} {X T':String}
end
section
variable {prog:Program} {w:World} {A:Around} {s:Shared} {h₀:Heap} {L:Addr} {m mg mb:Str→Option Value} {env:Env} {outer:List Env} {own fl:List (Addr×Obj)} {K:Frag} {p:Program} {loose:List Str} {mean:ExcName→Option Value}
  {R:Result→Shared→Prop} {name qual:Str} {params:Arguments} {body:List Stmt} {scope:Scope} {dV kV doc pm cdv ct oc:Value} {an od:Option Addr} {osl:Array (Option Value)} {f:Addr} {args:Args} {binds:List (Str×Value)}
end
section
variable {M:Model} {A:Around} {E:Value→Shared→Prop} {s':Shared} {g h:Heap} {outer:List Env} {L a e:Addr} {m:Str→Option Value} {name:Str} {scope:Scope} {cd:Value} {Q:Unit→Shared→Prop} {news fl:List (Addr×Obj)}
end
section
variable {prog:Program} {w:World} {A₀:Around} {E:Value→Shared→Prop} {s₀ s':Shared} {h₀ g:Heap} {outer:List Env} {L a e t C:Addr} {m:Str→Option Value} {name:Str} {scope:Scope} {cd:Value}
  {vs:List Value} {b₀:Stmt} {suite:List Stmt} {pos np:Pos} {rest:List ExceptHandler} {Q:Flow→Shared→Prop} {own news fl fl₁ fl₂:List (Addr×Obj)} {KF:Frag}
  {p:Program} {loose:List Str} {mean:ExcName→Option Value} {mg mb:Str→Option Value} {x:Str}
end
theorem sx:isSubtype (.type "StopIteration") (.type "BaseException")=pure true:=owsi_raise.isExc
theorem uR:isSubtype (.type ((Manifest.find? "StopIteration").elim "type" fun y=>y.metatype)) (.type "tuple")=pure false:=by
  rw [show (Manifest.find? "StopIteration").elim "type" (fun y=>y.metatype) = "type" from by decide +kernel,isSubtype_type]; kernel_rfl
theorem si:isSubtype (.type "StopIteration") (.type "StopIteration")=pure true:=owsi_facts.sub
end
section
open PySem.Spec
set_option tactic.hygienic false
noncomputable def OkS (l:List Str):Prop:=∀ x ∈ l,PyData.strOk x=true
theorem vk {l:List Str} (h:OkS l):l.all PyData.strOk=true:=all_eq_true.mpr h
theorem yc:∀ l:List Str,PyData.depthAll (l.map PyData.str)=0:=PyProof.Rows.depthAll_strs'
theorem iH {l:List Str} (h:OkS l):SeqAt.shaped (.list (l.map PyData.str))=true:=by
  simp [SeqAt.shaped,PyData.canLay0,PyData.depth,PyProof.Rows.canLayAll_strs',yc,vk h]
theorem nj:∀ ns ms:List Str,PySem.Spec.sameAll (ns.map PyData.str) (ms.map PyData.str)=decide (ns=ms)
  | [],[]=>by simp [PySem.Spec.sameAll]
  | [],_::_=>by simp [PySem.Spec.sameAll]
  | _::_,[]=>by simp [PySem.Spec.sameAll]
  | a::r,b::t=>by
    simp only [map_cons,PySem.Spec.sameAll,PySem.Spec.same,nj r t]
    by_cases h:a=b <;> by_cases h':r=t <;> simp [h,h']
theorem yd (ns ms:List Str):PySem.Spec.same (.list (ns.map PyData.str)) (.list (ms.map PyData.str))=decide (ns=ms):=by
  simp only [PySem.Spec.same]; exact nj ns ms
theorem dY:∀ {vs:List Value} {ns:List Str},StrsAre vs ns→CarriedAll vs (ns.map PyData.str)
  | _,_,.nil=>.nil
  | _,_,.cons _ t r=>.cons (.str _ t) (dY r)
section
variable {prog:Program} {w:World} {A:Around} {E:Value→Shared→Prop} {s:Shared} {a b:Addr} {xs ys:List Value} {ns ms:List Str} {Q:Value→Shared→Prop}
theorem yj (ha:s.heap.IsList a xs.toArray) (hb:s.heap.IsList b ys.toArray) (hi:StrsAre xs ns) (hj:StrsAre ys ms) (oi:OkS ns) (oj:OkS ms) (hu:A.units+64 < cLine) (h:Q (.bool (decide (ns=ms))) s) :
    wpAny (model prog w) A (compareOp .Eq (.ref a) (.ref b)) Q E s :=
  eq_dataH_same (reads_newData ha (dY hi)) (reads_newData hb (dY hj)) (iH oi) (iH oj) hu (SeqAt.noMix_of_shape (.list .str) rfl _ _ (list_map_has fun _=>rfl) (list_map_has fun _=>rfl)) (by rw [yd]; exact h)
theorem xm (ha:s.heap.IsList a xs.toArray) (hb:s.heap.IsList b ys.toArray) (hi:StrsAre xs ns) (hj:StrsAre ys ms) (oi:OkS ns) (oj:OkS ms) (hu:A.units+64 < cLine) (h:Q (.bool (!decide (ns=ms))) s) :
    wpAny (model prog w) A (compareOp .NotEq (.ref a) (.ref b)) Q E s :=
  ne_dataH_same (reads_newData ha (dY hi)) (reads_newData hb (dY hj)) (iH oi) (iH oj) hu (SeqAt.noMix_of_shape (.list .str) rfl _ _ (list_map_has fun _=>rfl) (list_map_has fun _=>rfl)) (by rw [yd]; exact h)
end
theorem jk:∀ {l:List Str} {p:Str},risingS p l=true→(p::l).Pairwise fun a b=>a.cps.toList≤b.cps.toList
  | [],p,_=>by simp
  | x::r,p,h=>by
    simp only [risingS,Bool.and_eq_true,Bool.not_eq_true',ltCps_eq,decide_eq_false_iff_not] at h
    have ih:=jk h.2
    have h1:p.cps.toList≤x.cps.toList:=List.not_lt.mp h.1
    rw [List.pairwise_cons] at ih ⊢
    refine ⟨fun y hy=>?_,List.pairwise_cons.mpr ih⟩
    clear h
    rcases mem_cons.mp hy with rfl | hy
    · exact h1
    · exact List.le_trans h1 (ih.1 y hy)
theorem ki {l:List Str} (h:sortedS l=true):l.Pairwise fun a b=>a.cps.toList≤b.cps.toList:=by
  cases l with
  | nil=>exact .nil
  | cons x r=>exact jk h
theorem qz {l r a b:List Str} (hl:l.Perm a) (hr:r.Perm b) (hab:a.Perm b) (sl:sortedS l=true) (sr:sortedS r=true):l=r :=
  List.Perm.eq_of_pairwise (le:=fun a b=>a.cps.toList≤b.cps.toList) (fun a b _ _ h1 h2=>Str.ext' (Array.toList_inj.mp (List.le_antisymm h1 h2))) (ki sl) (ki sr) (hl.trans (hab.trans hr.symm))
theorem uo:∀ (p q:List Value) (y:Value),kl_cut (p++y::q) p.length=some (p,y,q)
  | [],_,_=>rfl
  | x::p,q,y=>by
    show (match kl_cut (p++y::q) p.length with | some (p,y,q)=>some (x::p,y,q) | none=>none)=_
    rw [uo p q y]
section
variable {prog:Program} {w:World} {A:Around} {E:Value→Shared→Prop} {s:Shared} {h₀:Heap} {L D:Addr} {m:Str→Option Value} {news news':List (Addr×Obj)} {n:Nat}
theorem uw {p q:List Value} {y:Value} {i:Int} {u:Tok} {Q:Value→Shared→Prop} (F:Fr h₀ L s.heap m) (N:News h₀ L s.heap news) (hi:i=(p.length:Int)) (U:Upd D (listOf (p++y::q).toArray n) (listOf (p++q).toArray (n+1)) news news') (hz:(p++y::q).length≤1000)
    (h:∀ h',Fr h₀ L h' m→News h₀ L h' news'→Q y { s with heap:=h' }):wpAny (model prog w) A (call (.builtin "list.pop") [.ref D,.int i u]) Q E s:=by
  subst hi
  rw [length_append,length_cons] at hz
  refine kl_popAt F N (its:=(p++y::q).toArray) (k:=p.length) ?_ ?_ (uo p q y) U ?_ h
  · unfold Builtin.List.listFitsIndex; simp; omega
  · unfold seqIndex?; simp; omega
  · show (p++y::q).length≤sizeLine
    rw [length_append,length_cons]; exact Nat.le_trans hz (by rw [PySem.sizeLine_eq]; decide)
theorem sQ {l:Addr} {vs:List Value} {ss:List Str} {Q:Value→Shared→Prop}
    (F:Fr h₀ L s.heap m) (N:News h₀ L s.heap news) (hl:s.heap.IsList l vs.toArray) (hS:StrsAre vs ss) (h64:vs.length < 64)
    (h:∀ (D:Addr) (h':Heap) (vs':List Value) (ss':List Str) (e:Nat),Fr h₀ L h' m→News h₀ L h' ((D,listOf vs'.toArray e)::news)→(∀ p ∈ news,p.1 < D)→StrsAre vs' ss'→ss'.Perm ss→sortedS ss'=true→Q (.ref D) { s with heap:=h' }) :
    wpAny (model prog w) A (call (.builtin "sorted") [.ref l]) Q E s :=
  sorted_N_str F N hl hS h64 fun h' vs' ss' e F' N' a b c=>h _ h' vs' ss' e F' N' (fun p hp=>Nat.lt_succ_of_lt (Heap.lt_size (N p hp).1)) a b c
end
section
variable {prog:Program} {w:World} {A:Around} {E:Value→Shared→Prop} {s:Shared} {h₀:Heap} {L D:Addr} {m:Str→Option Value} {news news':List (Addr×Obj)} {n:Nat}
theorem kG {l:Addr} {vs:List Value} {Q:List Value→Shared→Prop} (hl:IsTup s.heap l vs.toArray)
    (h:Q vs { s with heap:=(s.heap.push (seqObj "list" #[] 0)).update s.heap.objs.size (Obj.mapSeq (·++vs.toArray)) }) (hsz:vs.length≤sizeLine) :
    wpAny (model prog w) A (collect (.ref l)) Q E s:=by
  refine E1 (id hl) fun o q91=>A3 q91 fun ho hc q92=>E1 q92 fun n hd=>?_
  clear q92 q91
  unfold collect
  refine wpAny_bind (wpAny_runValue (codeAny_builtin entry_proto_collect' ?_))
  show wpAny _ _ (do again (.builtin "list.__iadd__" ⟨[← newList [],.ref l],[]⟩)) _ _ s
  refine wpAny_bind (wpAny_newList (wpAny_pure ⟨Code.quiet_builtin _ (by decide +kernel),codeAny_builtin entry_list_iadd' ?_⟩))
  show wpAny _ _ (Builtin.List.listExtendWith (.ref s.heap.objs.size) (.ref l) (.ref s.heap.objs.size)) _ _ { s with heap:=s.heap.push (seqObj "list" #[] 0) }
  unfold Builtin.List.listExtendWith
  have ho':(s.heap.push (seqObj "list" #[] 0)).get? l=some o:=Heap.get?_push_of_some _ ho
  refine wpAny_bind (wpAny_typeOf (T := "tuple") ⟨o,ho',hc⟩ ?_)
  have ht:(Value.type "tuple" == Value.type "tuple")=true:=by rfl
  rw [if_pos (by rw [ht]; simp)]
  refine wpAny_bind (listItems_at ho' hd ?_)
  refine wpAny_bind (listItems_at (xs:=#[]) (n:=0) (Heap.get?_push_size _ rfl) rfl ?_)
  rw [if_neg (by simp)]
  refine wpAny_bind (listUpdate_at (xs:=#[]) (n:=0) (Heap.get?_push_size _ rfl) rfl ?_ (Nat.zero_le _) (by show (#[]++vs.toArray).size≤sizeLine+1; simp only [Array.size_append,size_toArray,length_nil]; omega))
  refine wpAny_pure ?_
  show wpAny (model prog w) A (do
      let o ← load s.heap.objs.size
      match o.data with
      | .seq xs _=>pure xs.toList
      | _=>unsupported "internal:collect") Q E { s with heap:=(s.heap.push (seqObj "list" #[] 0)).update s.heap.objs.size (Obj.mapSeq (·++vs.toArray)) }
  refine wpAny_bind (wpAny_load (get?_update_seq (Heap.get?_push_size _ rfl) _) ?_)
  show wpAny _ _ (pure ((#[]:Array Value)++vs.toArray).toList) Q E _
  rw [show ((#[]:Array Value)++vs.toArray).toList=vs by simp]
  exact wpAny_pure h
theorem sT {κ:KeyKind} (hO:κ.OneLt) {l:Addr} {vs:List Value} {Q:Value→Shared→Prop} (hl:IsTup s.heap l vs.toArray) (h0:KeysOf κ (pairsOf vs)) (hkk:∀ v₁ v₂ rest,vs=v₁::v₂::rest→keyKind' (v₁::v₂::rest).toArray=pure oneType') (h64:vs.length < 64)
    (h:∀ st':SortSt,(arrOf st').Perm (pairsOf vs)→SortedToK κ (arrOf st') (pairsOf vs).size→Q (.ref (s.heap.objs.size+1)) { s with heap:=sortedAll s.heap vs ((arrOf st').map (·.2)) }) :
    wpAny (model prog w) A (call (.builtin "sorted") [.ref l]) Q E s:=by
  refine Calls.call_function_entry kind_sorted plain_sorted entry_sorted (args_sorted1 _) ?_
  unfold Builtin.«sorted»
  refine wpAny_bind (m:=checkCount "sorted" 1 1 _) (wpAny_pure ?_)
  refine wpAny_bind (kG hl ?_ (by rw [sizeLine_eq]; omega))
  refine wpAny_bind (wpAny_newList ?_)
  have hsz:((s.heap.push (seqObj "list" #[] 0)).update s.heap.objs.size (Obj.mapSeq (·++vs.toArray))).objs.size=s.heap.objs.size+1:=by
    rw [Heap.size_update,size_push']
  have hoL:(((s.heap.push (seqObj "list" #[] 0)).update s.heap.objs.size (Obj.mapSeq (·++vs.toArray))).push (seqObj "list" vs.toArray 0)).get? (s.heap.objs.size+1)=some (seqObj "list" vs.toArray 0):=by
    rw [← hsz]; exact Heap.get?_push_size _ rfl
  show wpAny _ _ _ _ _ { s with heap:=((s.heap.push (seqObj "list" #[] 0)).update s.heap.objs.size (Obj.mapSeq (·++vs.toArray))).push (seqObj "list" vs.toArray 0) }
  rw [hsz]
  refine wpAny_bind (wpAny_holding (wpAny_call_entry slot_list_sort ⟨_,hoL,rfl⟩ entry_list_sort (list_sort_treeK hO hoL h0 hkk h64 fun st' a1 a2=>⟨_,rfl,?_⟩) (args_list_sort _)))
  exact wpAny_pure ⟨_,rfl,h st' a1 a2⟩
theorem tn {l:Addr} {vs:List Value} {ss:List Str} {Q:Value→Shared→Prop}
    (F:Fr h₀ L s.heap m) (N:News h₀ L s.heap news) (hl:IsTup s.heap l vs.toArray) (hS:StrsAre vs ss) (h64:vs.length < 64)
    (h:∀ (D:Addr) (h':Heap) (vs':List Value) (ss':List Str) (e:Nat),Fr h₀ L h' m→News h₀ L h' ((D,listOf vs'.toArray e)::news)→(∀ p ∈ news,p.1 < D)→StrsAre vs' ss'→ss'.Perm ss→sortedS ss'=true→Q (.ref D) { s with heap:=h' }) :
    wpAny (model prog w) A (call (.builtin "sorted") [.ref l]) Q E s:=by
  refine sT strKind_oneLt hl hS.keysOf (fun v₁ v₂ rest e=>keyKind_strs (by rw [← e]; exact hS)) h64 fun st' hp hs=>?_
  refine E1 (sorted_out_str hS hp hs) fun ss' q91=>A3 q91 fun h1 h2 h3=>?_
  clear q91
  obtain ⟨e,he⟩:=sortedAll_at s.heap vs ((arrOf st').map (·.2))
  exact h _ _ _ ss' e (F.kept fun _ _=>sortedAll_old) (N.kept_cons F (fun _ _=>sortedAll_old) (Nat.le_succ _) he) (fun p hp=>Nat.lt_succ_of_lt (Heap.lt_size (N p hp).1)) h1 h2 h3
end
section
variable {prog:Program} {w:World} {A:Around} {E:Value→Shared→Prop} {s:Shared}
theorem len_L {D:Addr} {us:List Value} {Q:Value→Shared→Prop} (hl:s.heap.IsList D us.toArray) (hz:us.length≤1000000) (h:∀ t tk,Q (.int us.length t) { s with toks:=tk }):wpAny (model prog w) A (call (.builtin "len") [.ref D]) Q E s :=
  call_len_list hl (by rw [size_toArray]; omega) (by rw [size_toArray]; exact h _ _)
end
end
section
set_option tactic.hygienic false
section
variable {prog:Program} {w:World} {A₀ A:Around} {s:Shared} {base h₀:Heap} {outer:List Env} {L:Addr} {m mg mb:Str→Option Value} {env:Env} {own:List (Addr×Obj)} {K:Frag} {p:Program} {loose:List Str} {mean:ExcName→Option Value}
  {R:Result→Shared→Prop} {name qual:Str} {params:Arguments} {body:List Stmt} {scope:Scope} {dV kV doc pm cdv ct oc:Value} {an od:Option Addr} {osl:Array (Option Value)} {f:Addr} {args:Args} {binds:List (Str×Value)}
end
end
section
set_option tactic.hygienic false
section
variable {prog:Program} {w:World} {A:Around} {E:Value→Shared→Prop} {s:Shared} {D L:Addr} {us:List Value} {h₀:Heap} {m:Str→Option Value} {news:List (Addr×Obj)}
end
end
section
set_option tactic.hygienic false
noncomputable abbrev PG:Program:=RowW.prog (OpenRow.toRowW (OpenLaw.row Challenge.rw_il0094_01))
noncomputable abbrev FK (w:World):Frag:=hd.heap_39 w.params
noncomputable def vst:Value→Value
  | .int i _=>.int i 0
  | .float b _=>.float b 0
  | .str s _=>.str s 0
  | .bytes b _=>.bytes b 0
  | v=>v
noncomputable def Sim (a b:Value):Prop:=vst a=vst b
theorem Sim.refl (a:Value):Sim a a:=rfl
theorem Sim.symm {a b:Value} (h:Sim a b):Sim b a:=Eq.symm h
theorem aa {v:Value} {a:Addr} (h:Sim v (.ref a)):v = .ref a:=by cases v <;> first | exact h | cases h
theorem aH {v:Value} (h:Sim v .none):v = .none:=by cases v <;> first | exact h | cases h
theorem ei {v:Value} {b:Bool} (h:Sim v (.bool b)):v = .bool b:=by cases v <;> first | exact h | cases h
theorem aR {v:Value} {b:String} (h:Sim v (.type b)):v = .type b:=by cases v <;> first | exact h | cases h
theorem dN {v:Value} {b:String} (h:Sim v (.builtin b)):v = .builtin b:=by cases v <;> first | exact h | cases h
theorem ah {v:Value} {i:Int} {t:Tok} (h:Sim v (.int i t)):∃ u,v = .int i u:=by cases v <;> first | (cases h; exact ⟨_,rfl⟩) | cases h
theorem aq {v:Value} {i:Str} {t:Tok} (h:Sim v (.str i t)):∃ u,v = .str i u:=by cases v <;> first | (cases h; exact ⟨_,rfl⟩) | cases h
theorem bL {v:Value} {i:Array UInt8} {t:Tok} (h:Sim v (.bytes i t)):∃ u,v = .bytes i u:=by cases v <;> first | (cases h; exact ⟨_,rfl⟩) | cases h
noncomputable def aD (us vs:List Value):Prop:=us.map vst=vs.map vst
theorem aD.refl (a:List Value):aD a a:=rfl
theorem aD.nil {us:List Value} (h:aD us []):us=[]:=map_eq_nil_iff.mp h
theorem aD.cons {us vs:List Value} {v:Value} (h:aD us (v::vs)):∃ u us',us=u::us'∧Sim u v∧aD us' vs:=by
  cases us with
  | nil=>cases h
  | cons u us=>exact ⟨u,us,rfl,(List.cons.inj h).1,(List.cons.inj h).2⟩
theorem aD.mk {us vs:List Value} {u v:Value} (h:Sim u v) (t:aD us vs):aD (u::us) (v::vs):=by
  show vst u::us.map vst=vst v::vs.map vst
  rw [h,t]
theorem aD.append {us vs us' vs':List Value} (h:aD us vs) (t:aD us' vs'):aD (us++us') (vs++vs'):=by
  show (us++us').map vst=(vs++vs').map vst
  rw [map_append,map_append,h,t]
theorem aD.length {us vs:List Value} (h:aD us vs):us.length=vs.length:=by have:=congrArg List.length h; simpa using this
theorem aD.get {us vs:List Value} (h:aD us vs) {i:Nat} {v:Value} (e:vs[i]? = some v):∃ u,us[i]? = some u∧Sim u v:=by
  have h2:(us.map vst)[i]? = (vs.map vst)[i]?:=by rw [h]
  rw [List.getElem?_map,List.getElem?_map,e] at h2
  cases q:us[i]? with
  | none=>rw [q] at h2; cases h2
  | some u=>rw [q] at h2; exact ⟨u,rfl,Option.some.inj h2⟩
theorem aD.snoc {us vs:List Value} {v:Value} (h:aD us (vs++[v])):∃ us' u,us=us'++[u]∧Sim u v∧aD us' vs:=by
  rcases eq_nil_or_concat us with rfl | ⟨us',u,rfl⟩
  · have:=h.length; simp at this
  · rw [concat_eq_append] at h ⊢
    have h':us'.map vst++[vst u]=vs.map vst++[vst v]:=by simpa [aD] using h
    obtain ⟨a,b⟩:=append_inj' h' rfl
    exact ⟨us',u,rfl,(List.cons.inj b).1,a⟩
noncomputable def kX (a b:Option Value):Prop:=a.map vst=b.map vst
theorem cC {a:Option Value} {v:Value} (h:kX a (some v)):∃ u,a=some u∧Sim u v:=by
  cases a with
  | none=>cases h
  | some u=>exact ⟨u,rfl,Option.some.inj h⟩
noncomputable def SimKV (us vs:List (Str×Value)):Prop:=us.map (fun p=>(p.1,vst p.2))=vs.map fun p=>(p.1,vst p.2)
inductive aE where
  | list (xs:List Value)
  | tup (xs:List Value)
  | dict (kvs:List (Str×Value))
  | range (a b:Int)
  | raw (o:Obj)
  | obj (P:Obj→Prop)
noncomputable def aE.Is (w:World):aE→Obj→Prop
  | .list xs,o=>∃ ys n,aD ys xs∧o=listOf ys.toArray n
  | .tup xs,o=>∃ ys,aD ys xs∧o = { cls:=.type "tuple",data:=.seq ys.toArray }
  | .dict kvs,o=>∃ kws,SimKV kws kvs∧o.IsDictOf (PySem.strKind PG w) kws
  | .range a b,o=>∃ t u v,o = { cls:=.type "range",data:=.fields #[.int a t,.int b u,.int 1 v] }
  | .raw o',o=>o=o'
  | .obj P,o=>P o
noncomputable abbrev FM:=List (Option Value)
noncomputable abbrev Led:=List (Addr×aE)
inductive dA where
  | loc (x:Str)
  | cell (x:Str) (a:Addr)
  | dead
structure SC where
  names:List (Str×NameKind)
  vars:List (Option (Str×Bool))
structure Cx where
  sc:SC
  w:World
  A:Around
  env:Env
  h₀:Heap
  L:Addr
  vs:List dA
  hid:List (Addr×Obj)
  s₀:Shared
  E:Value→Shared→Prop
  fe:Env
  Lf:Addr
  outer:List Env
  p:Program
  loose:List Str
  mean:ExcName→Option Value
  mg:Str→Option Value
  mb:Str→Option Value
noncomputable def aj:List dA→List Addr
  | []=>[]
  | .cell _ a::r=>a::aj r
  | _::r=>aj r
noncomputable def Cx.priv (c:Cx):List Addr:=c.hid.map (·.1)++aj c.vs
noncomputable def wV (news:List (Addr×Obj)) (m:Str→Option Value) (v:Option Value):dA→Prop
  | .loc x=>kX (m x) v
  | .cell _ a=>∃ o u,(a,o) ∈ news∧o.data = .cell u∧kX u v
  | .dead=>True
noncomputable def wx (news:List (Addr×Obj)) (m:Str→Option Value) (vs:List dA) (M:FM):Prop:=vs.length=M.length∧∀ (i:Nat) l v,vs[i]? = some l→M[i]? = some v→wV news m v l
structure ce (c:Cx) (M:FM) (nw:Led) (m:Str→Option Value) (news:List (Addr×Obj)):Prop where
  vars:wx news m c.vs M
  ob:∀ p ∈ nw,∃ o,(p.1,o) ∈ news∧p.2.Is c.w o
  hid:∀ p ∈ c.hid,p ∈ news
  nd:(nw.map (·.1)++c.priv).Nodup
structure St (c:Cx) (M:FM) (nw:Led) (s:Shared):Prop where
  sh:s = { c.s₀ with heap:=s.heap,toks:=s.toks }
  ex:∃ m news,Fr c.h₀ c.L s.heap m∧News c.h₀ c.L s.heap news∧ce c M nw m news
theorem aT {a:Addr}:∀ {vs:List dA},a ∈ aj vs→∃ x,dA.cell x a ∈ vs
  | [],h=>nomatch h
  | l::vs,h=>by
    cases l with
    | cell x b =>
      rcases mem_cons.mp h with rfl | h
      · exact ⟨x,.head _⟩
      · obtain ⟨y,hy⟩:=aT (vs:=vs) h; exact ⟨y,.tail _ hy⟩
    | loc _=>obtain ⟨y,hy⟩:=aT (vs:=vs) h; exact ⟨y,.tail _ hy⟩
    | dead=>obtain ⟨y,hy⟩:=aT (vs:=vs) h; exact ⟨y,.tail _ hy⟩
theorem bx {a:Addr} {x:Str}:∀ {vs:List dA},dA.cell x a ∈ vs→a ∈ aj vs
  | [],h=>nomatch h
  | l::vs,h=>by
    rcases mem_cons.mp h with e | h2
    · rw [← e]; exact .head _
    · have ih:=bx (vs:=vs) h2
      clear h
      cases l with
      | cell y b=>exact .tail _ ih
      | loc _=>exact ih
      | dead=>exact ih
theorem lc {news:List (Addr×Obj)} {m:Str→Option Value} {vs:List dA} {M:FM} (h:wx news m vs M) (a:Addr) (ha:a ∈ aj vs):∃ o,(a,o) ∈ news:=by
  obtain ⟨x,hx⟩:=aT ha
  obtain ⟨i,hi⟩:=mem_iff_getElem?.mp hx
  have hl:i < M.length:=h.1▸(List.getElem?_eq_some_iff.mp hi).1
  refine E2 (h.2 i _ _ hi (List.getElem?_eq_getElem hl)) fun o _ q91=>A2 q91 fun ho _=>?_
  clear q91
  exact ⟨o,ho⟩
theorem dT {news news':List (Addr×Obj)} {m:Str→Option Value} {vs:List dA} {M:FM} (h:wx news m vs M) (k:∀ a ∈ aj vs,∀ o,(a,o) ∈ news→(a,o) ∈ news'):wx news' m vs M :=
  ⟨h.1,fun i l v hl hv=>by
    have:=h.2 i l v hl hv
    cases l with
    | loc x=>exact this
    | cell x a=>obtain ⟨o,u,h1,h2⟩:=this; exact ⟨o,u,k a (bx (mem_of_getElem? hl)) o h1,h2⟩
    | dead=>trivial⟩
theorem ce.mono {c:Cx} {M:FM} {nw nw':Led} {m:Str→Option Value} {news news':List (Addr×Obj)} (h:ce c M nw m news) (hn:∀ p ∈ news,p.1 ∈ c.priv→p ∈ news') (hw:∀ p ∈ nw',∃ o,(p.1,o) ∈ news'∧p.2.Is c.w o) (nd:(nw'.map (·.1)++c.priv).Nodup):ce c M nw' m news' :=
  ⟨dT h.vars fun a ha o e=>hn _ e (mem_append_right _ ha),hw,fun p hp=>hn _ (h.hid p hp) (mem_append_left _ (mem_map_of_mem hp)),nd⟩
theorem St.mk' {c:Cx} {M:FM} {nw:Led} {s:Shared} {h:Heap} {t:Nat} {m:Str→Option Value} {news:List (Addr×Obj)} (e:s = { c.s₀ with heap:=s.heap,toks:=s.toks }) (F:Fr c.h₀ c.L h m) (N:News c.h₀ c.L h news) (f:ce c M nw m news) :
    St c M nw { s with heap:=h,toks:=t }:=⟨by rw [e],m,news,F,N,f⟩
theorem St.perm {c:Cx} {M:FM} {nw nw':Led} {s:Shared} (h:St c M nw s) (hs:nw'.Perm nw):St c M nw' s:=by
  obtain ⟨e,m,news,F,N,f⟩:=h
  exact ⟨e,m,news,F,N,f.mono (fun _ h _=>h) (fun p hp=>f.ob p (hs.subset hp)) ((List.Perm.nodup_iff ((hs.map _).append_right _)).mpr f.nd)⟩
theorem iE {h₀ h:Heap} {L:Addr} {news:List (Addr×Obj)} (N:News h₀ L h news) {a:Addr} {o o':Obj} (h1:(a,o) ∈ news) (h2:(a,o') ∈ news):o=o':=by
  have:=(N _ h1).1; rw [(N _ h2).1] at this; exact (Option.some.inj this).symm
noncomputable def cp (a:Addr) (news:List (Addr×Obj)):List (Addr×Obj):=news.filter fun p=>decide (p.1≠a)
theorem ax {a:Addr} {news:List (Addr×Obj)} {p:Addr×Obj}:p ∈ cp a news↔p ∈ news∧p.1≠a:=by
  unfold cp; rw [mem_filter]; simp
theorem tM {c:Cx} {nw:Led} {i:Nat} {a:Addr} {x y:aE} (hi:nw[i]? = some (a,x)) (nd:(nw.map (·.1)++c.priv).Nodup):a ∉ c.priv∧(∀ p ∈ nw.set i (a,y),p=(a,y)∨(p ∈ nw∧p.1≠a))∧((nw.set i (a,y)).map (·.1))=nw.map (·.1):=by
  rw [nodup_append] at nd
  have hm:(a,x) ∈ nw:=mem_of_getElem? hi
  have e:(nw.set i (a,y)).map (·.1)=nw.map (·.1):=by
    rw [List.map_set]
    apply List.ext_getElem?
    intro j
    by_cases hj:i=j
    · subst hj
      have hl:i < (nw.map (·.1)).length:=by rw [length_map]; exact (List.getElem?_eq_some_iff.mp hi).1
      rw [List.getElem?_set_self hl,List.getElem?_map,hi]; rfl
    · rw [List.getElem?_set_ne hj]
  refine ⟨fun q=>nd.2.2 _ (mem_map_of_mem hm) _ q rfl,fun p hp=>?_,e⟩
  by_cases hpa:p.1=a
  · refine .inl ?_
    have nd1:((nw.set i (a,y)).map (·.1)).Nodup:=by rw [e]; exact nd.1
    obtain ⟨j,hj⟩:=mem_iff_getElem?.mp hp
    have hi2:(nw.set i (a,y))[i]? = some (a,y):=by
      rw [List.getElem?_set_self]
      exact (List.getElem?_eq_some_iff.mp hi).1
    have h1:((nw.set i (a,y)).map (·.1))[j]? = some a:=by rw [List.getElem?_map,hj]; simp [hpa]
    have h2:((nw.set i (a,y)).map (·.1))[i]? = some a:=by rw [List.getElem?_map,hi2]; rfl
    have hlt:j < ((nw.set i (a,y)).map (·.1)).length:=(List.getElem?_eq_some_iff.mp h1).1
    have:=((List.getElem?_inj hlt nd1).mp (h1.trans h2.symm))
    clear hi e hp nd1 h1 h2 hlt
    subst this
    rw [hi2] at hj; exact (Option.some.inj hj).symm
  · refine .inr ⟨?_,hpa⟩
    rcases List.mem_or_eq_of_mem_set hp with h | h
    · exact h
    · exact absurd (by rw [h]) hpa
section
variable {c:Cx} {M:FM} {nw:Led} {m:Str→Option Value} {news:List (Addr×Obj)} {s:Shared}
theorem ce.off (f:ce c M nw m news) {D:Addr} (h:∀ p ∈ news,p.1≠D):D ∉ nw.map (·.1)++c.priv:=fun q=>by
  rcases mem_append.mp q with q | q
  · refine E1 (mem_map.mp q) fun p q91=>A2 q91 fun hp e=>?_
    clear q91
    refine E1 (f.ob p hp) fun o q92=>A2 q92 fun ho _=>?_
    clear q92
    exact h _ ho e
  · rcases mem_append.mp q with q | q
    · refine E1 (mem_map.mp q) fun p q93=>A2 q93 fun hp e=>?_
      clear q93
      exact h _ (f.hid p hp) e
    · obtain ⟨o,ho⟩:=lc f.vars _ q
      exact h _ ho rfl
theorem ce.cons (f:ce c M nw m news) {D:Addr} {o:Obj} {y:aE} (hn:∀ p ∈ news,p.1≠D) (hy:y.Is c.w o):ce c M ((D,y)::nw) m ((D,o)::news) :=
  f.mono (fun _ h _=>.tail _ h) (fun p hp=>by
    rcases mem_cons.mp hp with rfl | hp
    · exact ⟨o,.head _,hy⟩
    · obtain ⟨o',h1,h2⟩:=f.ob p hp; exact ⟨o',.tail _ h1,h2⟩) (by
    show (D::(nw.map (·.1)++c.priv)).Nodup
    exact nodup_cons.mpr ⟨f.off hn,f.nd⟩)
theorem ce.at (f:ce c M nw m news) {i:Nat} {a:Addr} {x:aE} (hi:nw[i]? = some (a,x)):∃ o,(a,o) ∈ news∧x.Is c.w o:=f.ob _ (mem_of_getElem? hi)
theorem ce.set (f:ce c M nw m news) {i:Nat} {a:Addr} {x y:aE} (hi:nw[i]? = some (a,x)) {o':Obj} (hy:y.Is c.w o'):ce c M (nw.set i (a,y)) m ((a,o')::cp a news):=by
  refine A3 (tM (y:=y) hi f.nd) fun h1 h2 h3=>?_
  refine f.mono (fun p hp q=>.tail _ (ax.mpr ⟨hp,fun e=>h1 (e▸q)⟩)) (fun p hp=>?_) (h3▸f.nd)
  rcases h2 p hp with rfl | ⟨hp,hne⟩
  · exact ⟨o',.head _,hy⟩
  · refine E1 (f.ob p hp) fun o'' q91=>A2 q91 fun e1 e2=>?_
    clear q91
    exact ⟨o'',.tail _ (ax.mpr ⟨e1,hne⟩),e2⟩
theorem vB {h₀ h:Heap} {L:Addr} (N:News h₀ L h news) {a:Addr} {o:Obj} (hm:(a,o) ∈ news):News h₀ L h ((a,o)::cp a news):=fun p hp=>by
  rcases mem_cons.mp hp with rfl | hp
  · exact N _ hm
  · exact N p (ax.mp hp).1
theorem kj {a:Addr}:∀ p ∈ cp a news,p.1≠a:=fun p hp=>(ax.mp hp).2
theorem St.at (h:St c M nw s) {i:Nat} {a:Addr} {x:aE} (hi:nw[i]? = some (a,x)):∃ m o rest,Fr c.h₀ c.L s.heap m∧x.Is c.w o∧News c.h₀ c.L s.heap ((a,o)::rest)∧(∀ p ∈ rest,p.1≠a) ∧
    (∀ y o' h' t,Fr c.h₀ c.L h' m→News c.h₀ c.L h' ((a,o')::rest)→y.Is c.w o'→St c M (nw.set i (a,y)) { s with heap:=h',toks:=t }):=by
  obtain ⟨e,m,news,F,N,f⟩:=h
  obtain ⟨o,ho,hx⟩:=f.at hi
  exact ⟨m,o,cp a news,F,hx,vB N ho,kj,fun y o' h' t F' N' hy=>St.mk' e F' N' (f.set hi hy)⟩
theorem St.mem (h:St c M nw s) {a:Addr} {x:aE} (hi:(a,x) ∈ nw):∃ o,x.Is c.w o∧s.heap.get? a=some o:=by
  obtain ⟨e,m,news,F,N,f⟩:=h
  obtain ⟨o,ho,hx⟩:=f.ob _ hi
  exact ⟨o,hx,(N _ ho).1⟩
theorem St.open (h:St c M nw s):∃ m news,Fr c.h₀ c.L s.heap m∧News c.h₀ c.L s.heap news∧ce c M nw m news ∧
    (∀ h' t,Fr c.h₀ c.L h' m→News c.h₀ c.L h' news→St c M nw { s with heap:=h',toks:=t }) ∧
    (∀ D o y h' t,Fr c.h₀ c.L h' m→News c.h₀ c.L h' ((D,o)::news)→(∀ p ∈ news,p.1 < D)→y.Is c.w o→St c M ((D,y)::nw) { s with heap:=h',toks:=t }):=by
  obtain ⟨e,m,news,F,N,f⟩:=h
  exact ⟨m,news,F,N,f,fun h' t F' N'=>St.mk' e F' N' f,fun D o y h' t F' N' lt hy=>St.mk' e F' N' (f.cons (fun p hp=>Nat.ne_of_lt (lt p hp)) hy)⟩
theorem St.tok (h:St c M nw s) (t:Nat):St c M nw { s with toks:=t }:=by
  obtain ⟨e,m,news,F,N,f⟩:=h
  exact St.mk' (h:=s.heap) e F N f
end
end
section
set_option tactic.hygienic false
noncomputable def eV:List (Str×Value):=[(("Int2AP" : Str),Value.ref 28),(("TopologicalSorter" : Str),Value.ref 144),(("_NodeInfo" : Str),Value.ref 47),(("CycleError" : Str),Value.ref 62),(("fspath" : Str),Value.ref 221),(("_get_sep" : Str),Value.ref 235),(("join" : Str),Value.ref 242),(("splitroot" : Str),Value.ref 249),(("dirname" : Str),Value.ref 256),(("normpath" : Str),Value.ref 263),(("_law_places" : Str),Value.ref 268),(("_law_filed" : Str),Value.ref 273),(("_law_asked" : Str),Value.ref 280),(("_law_book" : Str),Value.ref 287),(("_law_worths" : Str),Value.ref 292),(("_law_found" : Str),Value.ref 299),(("_law_ringed" : Str),Value.ref 304),(("_law_prepared" : Str),Value.ref 311),(("_law_refusal" : Str),Value.ref 318),(("_law_count" : Str),Value.ref 325),(("_law_run" : Str),Value.ref 330),(("_law_spelled" : Str),Value.ref 335),(("_NODE_OUT" : Str),Value.int (-1) 209),(("_NODE_DONE" : Str),Value.int (-2) 212)]
noncomputable def dB:List (Str×Value):=[(("len" : Str),Value.builtin "len"),(("range" : Str),Value.type "range"),(("sum" : Str),Value.builtin "sum"),(("sorted" : Str),Value.builtin "sorted"),(("isinstance" : Str),Value.builtin "isinstance"),(("tuple" : Str),Value.type "tuple"),(("abs" : Str),Value.builtin "abs"),(("divmod" : Str),Value.builtin "divmod"),(("int" : Str),Value.type "int"),(("bool" : Str),Value.type "bool"),(("type" : Str),Value.type "type"),(("iter" : Str),Value.builtin "iter"),(("set" : Str),Value.type "set"),(("str" : Str),Value.type "str"),(("chr" : Str),Value.builtin "chr"),(("bytes" : Str),Value.type "bytes"),(("issubclass" : Str),Value.builtin "issubclass"),(("StopIteration" : Str),Value.type "StopIteration"),(("ValueError" : Str),Value.type "ValueError")]
noncomputable def vi:List (Str×Value):=eV++dB
noncomputable def kL:List Addr:=[28,144,47,62,221,235,242,249,256,263,268,273,280,287,292,299,304,311,318,325,330,335,43,80,87,94,99,106,113,127,134]
noncomputable def GK (w:World) (p:Str×Value):Prop:=PG=(RowW.prog (OpenRow.toRowW (OpenLaw.row Challenge.rw_il0094_01)))→nsIn (hd.heap_39 w.params) mainGlobals p.1=some (some p.2)
noncomputable def GB (w:World) (p:Str×Value):Prop:=PG=(RowW.prog (OpenRow.toRowW (OpenLaw.row Challenge.rw_il0094_01)))→nsIn (hd.heap_39 w.params) mainGlobals p.1=some none∧bootBuiltins p.1=some p.2
theorem co {α:Type} {P:α→Prop} {a:α} {l:List α} (h:P a) (t:∀ p ∈ l,P p):∀ p ∈ a::l,P p:=List.forall_mem_cons.mpr ⟨h,t⟩
theorem iq (w:World):∀ p ∈ eV,GK w p:=by
  unfold eV
  repeat' (first | exact forall_mem_nil _ | refine co ?_ ?_)
  all_goals (unfold GK; dsimp only; k_fill; intro _; k_is)
theorem fw (w:World):∀ p ∈ dB,GB w p:=by
  unfold dB
  repeat' (first | exact forall_mem_nil _ | refine co ?_ ?_)
  all_goals (unfold GB; dsimp only; k_fill; intro _; refine ⟨?_,by decide +kernel⟩; k_is)
noncomputable def KK (w:World) (a:Addr):Prop:=PG=(RowW.prog (OpenRow.toRowW (OpenLaw.row Challenge.rw_il0094_01)))→keepIn (hd.heap_39 w.params) (.ref a)=true
theorem vj (w:World):∀ a ∈ kL,KK w a:=by
  unfold kL
  repeat' (first | exact forall_mem_nil _ | refine co ?_ ?_)
  all_goals (unfold KK; k_fill; intro _; k_is)
end
section
set_option tactic.hygienic false
inductive IT where
  | one (i:Nat)
  | tup (is:List Nat)
inductive IE where
  | loc (i:Nat)
  | val (v:Value)
  | bin (op:Operator) (a b:IE)
  | cmp (op:CmpOp) (a b:IE)
  | neg (a:IE)
  | not (a:IE)
  | and (as:List IE)
  | or (as:List IE)
  | ife (t a b:IE)
  | call (f:IE) (as:List IE)
  | meth (o:IE) (x:Str) (as:List IE)
  | attr (o:IE) (x:Str)
  | sub (o i:IE)
  | slc (o lo hi:IE)
  | slc3 (o lo hi st:IE)
  | lst (as:List IE)
  | tup (as:List IE)
  | dict0
  | walrus (i:Nat) (e:IE)
  | lcomp (k:Nat) (elt:IE) (t:IT) (it:IE) (ifs:List IE)
  | dcomp (n:Nat) (k v:IE) (t:IT) (it:IE) (ifs:List IE)
  | raw (e:Expr)
inductive IS where
  | asg (i:Nat) (e:IE)
  | asgT (is:List Nat) (e:IE)
  | asgP (rev:Bool) (is:List Nat) (es:List IE)
  | aug (i:Nat) (op:Operator) (e:IE)
  | setI (o i e:IE)
  | setA (o:IE) (x:Str) (e:IE)
  | delI (o i:IE)
  | setIN (o i:IE) (j:Nat) (e:IE)
  | augA (o:IE) (x:Str) (op:Operator) (e:IE)
  | ret (e:IE)
  | ex (e:IE)
  | ite (t:IE) (a b:List IS)
  | forr (t:IT) (it:IE) (b:List IS)
  | whl (t:IE) (a b:List IS)
  | brk | cont | pass
  | raw (s:Stmt)
inductive Cd where
  | ex (e:Expr) | exs (es:List Expr) | opt (o:Option Expr)
inductive Ci where
  | ex (e:IE) | exs (es:List IE)
noncomputable def eM (x:Str) (b:Bool):List (Option (Str×Bool))→Option Nat
  | []=>none
  | v::r=>if v=some (x,b) then some 0 else (eM x b r).map Nat.succ
noncomputable def iT:Option (Str×Bool)→Option (Str×Bool)
  | some (x,true)=>some (x,true)
  | _=>none
noncomputable def fN (names:List (Str×NameKind)):Nat:=(names.filter fun p=>p.2 == .local).length
noncomputable def fJ:Str×NameKind→Option (Option (Str×Bool))
  | (x,.local)=>some (some (x,false))
  | _=>none
noncomputable def rQ (own:List (Str×NameKind)) (outer:List (Option (Str×Bool))):List (Option (Str×Bool)):=own.filterMap fJ++outer.map iT
noncomputable def aQ (sc:SC) (names:List (Str×NameKind)):List (Str×NameKind) :=
  names.map fun (n,k)=>if (k == NameKind.free && sc.names.lookup n == some .cell) then (n,NameKind.cell) else (n,k)
noncomputable def aC (sc:SC) (scope:Scope):SC:=⟨aQ sc scope.names,rQ scope.names sc.vars⟩
noncomputable def cx (sc:SC) (scope:Scope):Bool :=
  scope.kind == .function && scope.names.all (fun p=>p.2 != .cell) && (scope.names.all fun p=>p.2 != .free || ((sc.names.lookup p.1 == some .cell) && (eM p.1 true sc.vars).isSome)) && (scope.names.all fun p=>scope.names.lookup p.1 == some p.2) && decide (scope.names.map (·.1)).Nodup
noncomputable def aU:List (Str×NameKind)→List (Str×Addr)→List (Str×Addr)→List (Str×Addr)
  | [],_,acc=>acc
  | (x,k)::r,cells,acc=>aU r cells (if k == .free then (x,(cells.lookup x).getD 0)::acc else acc)
noncomputable def dH (e:Expr):Bool:=!(Nat.beq e.ctorIdx 22)
noncomputable def jY:Expr→Bool
  | .Call _ [] _ _=>false
  | _=>true
noncomputable def lr (e:Expr):Bool:=Nat.beq e.ctorIdx 7
noncomputable def mc (e:Expr):Bool:=Nat.ble 8 e.ctorIdx && Nat.ble e.ctorIdx 11
noncomputable def cb (sc:SC) (x:Str):Option Nat :=
  match sc.names.lookup x with
  | some .local=>eM x false sc.vars
  | some .cell=>eM x true sc.vars
  | _=>none
inductive CTs (sc:SC):List Expr→List Nat→Prop
  | nil:CTs sc [] []
  | cons {x p i es is} (h:cb sc x=some i) (t:CTs sc es is):CTs sc (.Name x p::es) (i::is)
inductive CT (sc:SC):Expr→IT→Prop
  | one {x p i} (h:cb sc x=some i):CT sc (.Name x p) (.one i)
  | tup {es k p is} (h:CTs sc es is):CT sc (.Tuple es k p) (.tup is)
inductive CXs (P:SC→Cd→Ci→Prop):SC→Cd→Ci→Prop
  | var {sc x p i} (h:cb sc x=some i) (hd:(x == ("__debug__" : Str))=false):CXs P sc (.ex (.Name x p)) (.ex (.loc i))
  | glob {sc x p v} (h:sc.names.lookup x=some .globalImplicit) (hv:vi.lookup x=some v) (hd:(x == ("__debug__" : Str))=false) (hn:x ≠ "__name__"):CXs P sc (.ex (.Name x p)) (.ex (.val v))
  | int {sc i k p}:CXs P sc (.ex (.Constant (.int i) k p)) (.ex (.val (.int i 0)))
  | str {sc i k p}:CXs P sc (.ex (.Constant (.str i) k p)) (.ex (.val (.str i 0)))
  | byt {sc i k p}:CXs P sc (.ex (.Constant (.bytes i) k p)) (.ex (.val (.bytes i.toArray 0)))
  | non {sc k p}:CXs P sc (.ex (.Constant .none k p)) (.ex (.val .none))
  | bool {sc b k p}:CXs P sc (.ex (.Constant (.bool b) k p)) (.ex (.val (.bool b)))
  | bin {sc op l r p a b} (hl:P sc (.ex l) (.ex a)) (hr:P sc (.ex r) (.ex b)):CXs P sc (.ex (.BinOp l op r p)) (.ex (.bin op a b))
  | neg {sc l p a} (hl:P sc (.ex l) (.ex a)):CXs P sc (.ex (.UnaryOp .USub l p)) (.ex (.neg a))
  | not {sc l p a} (hl:P sc (.ex l) (.ex a)):CXs P sc (.ex (.UnaryOp .Not l p)) (.ex (.not a))
  | cmp {sc op l r p a b} (hm:behindInMarks op r=false) (hl:P sc (.ex l) (.ex a)) (hr:P sc (.ex r) (.ex b)):CXs P sc (.ex (.Compare l [op] [r] p)) (.ex (.cmp op a b))
  | and {sc es p as} (h:P sc (.exs es) (.exs as)):CXs P sc (.ex (.BoolOp .And es p)) (.ex (.and as))
  | or {sc es p as} (h:P sc (.exs es) (.exs as)):CXs P sc (.ex (.BoolOp .Or es p)) (.ex (.or as))
  | ife {sc t a b p t' a' b'} (ht:P sc (.ex t) (.ex t')) (ha:P sc (.ex a) (.ex a')) (hb:P sc (.ex b) (.ex b')):CXs P sc (.ex (.IfExp t a b p)) (.ex (.ife t' a' b'))
  | call {sc x q as p f as'} (hf:P sc (.ex (.Name x q)) (.ex f)) (h:P sc (.exs as) (.exs as')):CXs P sc (.ex (.Call (.Name x q) as [] p)) (.ex (.call f as'))
  | meth {sc o x q as p o' as'} (hb:jY o=true) (hq:(q.endLine == p.line)=true) (hl:decide (as.length < 30)=true) (ho:P sc (.ex o) (.ex o')) (h:P sc (.exs as) (.exs as')):CXs P sc (.ex (.Call (.Attribute o x q) as [] p)) (.ex (.meth o' x as'))
  | attr {sc o x p o'} (hb:jY o=true) (ho:P sc (.ex o) (.ex o')):CXs P sc (.ex (.Attribute o x p)) (.ex (.attr o' x))
  | slc {sc x q0 lo hi q p o' lo' hi'} (ho:P sc (.ex (.Name x q0)) (.ex o')) (h1:P sc (.opt lo) (.ex lo')) (h2:P sc (.opt hi) (.ex hi')):CXs P sc (.ex (.Subscript (.Name x q0) (.Slice lo hi none q) p)) (.ex (.slc o' lo' hi'))
  | slc3 {sc x q0 lo hi st q p o' lo' hi' st'} (ho:P sc (.ex (.Name x q0)) (.ex o')) (h1:P sc (.opt lo) (.ex lo')) (h2:P sc (.opt hi) (.ex hi')) (h3:P sc (.ex st) (.ex st')):CXs P sc (.ex (.Subscript (.Name x q0) (.Slice lo hi (some st) q) p)) (.ex (.slc3 o' lo' hi' st'))
  | sub {sc o i p o' i'} (ho:P sc (.ex o) (.ex o')) (h1:P sc (.ex i) (.ex i')):CXs P sc (.ex (.Subscript o i p)) (.ex (.sub o' i'))
  | lst {sc es p es'} (h:P sc (.exs es) (.exs es')):CXs P sc (.ex (.List es p)) (.ex (.lst es'))
  | tup {sc es k p es'} (h:P sc (.exs es) (.exs es')):CXs P sc (.ex (.Tuple es k p)) (.ex (.tup es'))
  | dict0 {sc p}:CXs P sc (.ex (.Dict [] [] p)) (.ex .dict0)
  | walrus {sc x q e p i e'} (hx:cb sc x=some i) (h:P sc (.ex e) (.ex e')):CXs P sc (.ex (.NamedExpr (.Name x q) e p)) (.ex (.walrus i e'))
  | lcomp {sc elt t it ifs scope p elt' t' it' ifs'} (hs:lr it=false) (hk:cx sc scope=true) (hi:P sc (.ex it) (.ex it')) (he:P (aC sc scope) (.ex elt) (.ex elt')) (ht:CT (aC sc scope) t t') (hf:P (aC sc scope) (.exs ifs) (.exs ifs')):CXs P sc (.ex (.ListComp elt [⟨t,it,ifs,0⟩] scope p)) (.ex (.lcomp (fN scope.names) elt' t' it' ifs'))
  | dcomp {sc a b t it ifs scope p a' b' t' it' ifs'} (hs:lr it=false) (hk:cx sc scope=true) (hi:P sc (.ex it) (.ex it')) (ha:P (aC sc scope) (.ex a) (.ex a')) (hb:P (aC sc scope) (.ex b) (.ex b')) (ht:CT (aC sc scope) t t') (hf:P (aC sc scope) (.exs ifs) (.exs ifs')):CXs P sc (.ex (.DictComp a b [⟨t,it,ifs,0⟩] scope p)) (.ex (.dcomp (fN scope.names) a' b' t' it' ifs'))
  | nil {sc}:CXs P sc (.exs []) (.exs [])
  | cons {sc e es e' es'} (hs:dH e=true) (h:P sc (.ex e) (.ex e')) (t:P sc (.exs es) (.exs es')):CXs P sc (.exs (e::es)) (.exs (e'::es'))
  | onone {sc}:CXs P sc (.opt none) (.ex (.val .none))
  | osome {sc e e'} (h:P sc (.ex e) (.ex e')):CXs P sc (.opt (some e)) (.ex e')
  | raw {sc e}:CXs P sc (.ex e) (.ex (.raw e))
theorem CXs.mono {P P':SC→Cd→Ci→Prop} (g:∀ sc a b,P sc a b→P' sc a b) {sc:SC} {a:Cd} {b:Ci} (h:CXs P sc a b):CXs P' sc a b:=by
  induction h with
  | var h hd=>exact .var h hd
  | glob h hv hd hn=>exact .glob h hv hd hn
  | int=>exact .int
  | str=>exact .str
  | byt=>exact .byt
  | non=>exact .non
  | bool=>exact .bool
  | bin hl hr=>exact .bin (g _ _ _ hl) (g _ _ _ hr)
  | neg hl=>exact .neg (g _ _ _ hl)
  | not hl=>exact .not (g _ _ _ hl)
  | cmp hm hl hr=>exact .cmp hm (g _ _ _ hl) (g _ _ _ hr)
  | and h=>exact .and (g _ _ _ h)
  | or h=>exact .or (g _ _ _ h)
  | ife ht ha hb=>exact .ife (g _ _ _ ht) (g _ _ _ ha) (g _ _ _ hb)
  | call hf h=>exact .call (g _ _ _ hf) (g _ _ _ h)
  | meth hb hq hl ho h=>exact .meth hb hq hl (g _ _ _ ho) (g _ _ _ h)
  | attr hb ho=>exact .attr hb (g _ _ _ ho)
  | slc ho h1 h2=>exact .slc (g _ _ _ ho) (g _ _ _ h1) (g _ _ _ h2)
  | slc3 ho h1 h2 h3=>exact .slc3 (g _ _ _ ho) (g _ _ _ h1) (g _ _ _ h2) (g _ _ _ h3)
  | sub ho h1=>exact .sub (g _ _ _ ho) (g _ _ _ h1)
  | lst h=>exact .lst (g _ _ _ h)
  | tup h=>exact .tup (g _ _ _ h)
  | dict0=>exact .dict0
  | walrus hx h=>exact .walrus hx (g _ _ _ h)
  | lcomp hs hk hi he ht hf=>exact .lcomp hs hk (g _ _ _ hi) (g _ _ _ he) ht (g _ _ _ hf)
  | dcomp hs hk hi ha hb ht hf=>exact .dcomp hs hk (g _ _ _ hi) (g _ _ _ ha) (g _ _ _ hb) ht (g _ _ _ hf)
  | nil=>exact .nil
  | cons hs h t=>exact .cons hs (g _ _ _ h) (g _ _ _ t)
  | onone=>exact .onone
  | osome h=>exact .osome (g _ _ _ h)
  | raw=>exact .raw
noncomputable def CX (sc:SC) (a:Cd) (b:Ci):Prop:=∀ P:SC→Cd→Ci→Prop,(∀ sc a b,CXs P sc a b→P sc a b)→P sc a b
theorem CX.fold {sc:SC} {a:Cd} {b:Ci} (h:CXs CX sc a b):CX sc a b:=fun P cl=>cl _ _ _ (h.mono fun _ _ _ q=>q P cl)
theorem CX.ind {Q:SC→Cd→Ci→Prop} (cl:∀ sc a b,CXs (fun sc a b=>CX sc a b∧Q sc a b) sc a b→Q sc a b) {sc:SC} {a:Cd} {b:Ci} (h:CX sc a b):Q sc a b :=
  (h (fun sc a b=>CX sc a b∧Q sc a b) fun sc a b s=>⟨.fold (s.mono fun _ _ _ q=>q.1),cl sc a b s⟩).2
end
section
set_option tactic.hygienic false
noncomputable def ua:Expr→Bool
  | .Call ..=>true
  | _=>false
noncomputable def isTup (e:Expr):Bool:=Nat.beq e.ctorIdx 25 || (Nat.ble 8 e.ctorIdx && Nat.ble e.ctorIdx 10)
noncomputable def je:Value→Bool
  | .builtin _=>true
  | .type _=>true
  | .ref a=>kL.contains a
  | _=>false
noncomputable def pd:Expr→Option Str
  | .Name x _=>some x
  | _=>none
noncomputable def uU (sc:SC):Env:={ scope:={ kind:=.function,names:=sc.names,isGenerator:=false,isCoroutine:=false },locals:=0,globals:=0,cells:=[] }
noncomputable def bD (sc:SC) (ts es:List Expr) (rev:Bool):Prop:=(∀ k q k2 q2,swappedStores [.Tuple ts k q] (.Tuple es k2 q2) (uU sc)=pure (bif rev then some (ts.filterMap pd) else none))∧es.length=ts.length∧Nat.ble es.length 3=true
theorem bD.no {sc:SC} {ts es:List Expr} (h:∀ k q k2 q2,swappedStores [.Tuple ts k q] (.Tuple es k2 q2) (uU sc)=pure none) (hl:es.length=ts.length) (h3:Nat.ble es.length 3=true):bD sc ts es false:=⟨h,hl,h3⟩
theorem bD.yes {sc:SC} {ts es:List Expr} (h:∀ k q k2 q2,swappedStores [.Tuple ts k q] (.Tuple es k2 q2) (uU sc)=pure (some (ts.filterMap pd))) (hl:es.length=ts.length) (h3:Nat.ble es.length 3=true):bD sc ts es true:=⟨h,hl,h3⟩
inductive CBs (sc:SC) (P:List Stmt→List IS→Prop):List Stmt→List IS→Prop
  | nil:CBs sc P [] []
  | asg {x q e p i e' r r'} (hx:cb sc x=some i) (hc:mc e=false) (he:CX sc (.ex e) (.ex e')) (t:P r r'):CBs sc P (.Assign [.Name x q] e p::r) (.asg i e'::r')
  | asgc {x q elt tg it ifs scope p p2 i elt' t' it' ifs' r r'} (hx:cb sc x=some i) (hs:lr it=false) (hk:cx sc scope=true) (hi:CX sc (.ex it) (.ex it')) (he:CX (aC sc scope) (.ex elt) (.ex elt')) (ht:CT (aC sc scope) tg t') (hf:CX (aC sc scope) (.exs ifs) (.exs ifs')) (t:P r r'):CBs sc P (.Assign [.Name x q] (.ListComp elt [⟨tg,it,ifs,0⟩] scope p2) p::r) (.asg i (.lcomp (fN scope.names) elt' t' it' ifs')::r')
  | asgP {ts k q es k2 q2 p rev is es' r r'} (hts:CTs sc ts is) (hr:bD sc ts es rev) (he:CX sc (.exs es) (.exs es')) (t:P r r'):CBs sc P (.Assign [.Tuple ts k q] (.Tuple es k2 q2) p::r) (.asgP rev is es'::r')
  | asgT {ts k q e p is e' r r'} (hts:CTs sc ts is) (hc:isTup e=false) (he:CX sc (.ex e) (.ex e')) (t:P r r'):CBs sc P (.Assign [.Tuple ts k q] e p::r) (.asgT is e'::r')
  | setI {o i q e p o' i' e' r r'} (ho:CX sc (.ex o) (.ex o')) (hi:CX sc (.ex i) (.ex i')) (he:CX sc (.ex e) (.ex e')) (t:P r r'):CBs sc P (.Assign [.Subscript o i q] e p::r) (.setI o' i' e'::r')
  | setA {o x q e p o' e' r r'} (ho:CX sc (.ex o) (.ex o')) (he:CX sc (.ex e) (.ex e')) (t:P r r'):CBs sc P (.Assign [.Attribute o x q] e p::r) (.setA o' x e'::r')
  | aug {x q op e p i e' r r'} (hx:cb sc x=some i) (he:CX sc (.ex e) (.ex e')) (t:P r r'):CBs sc P (.AugAssign (.Name x q) op e p::r) (.aug i op e'::r')
  | delI {o i q p o' i' r r'} (ho:CX sc (.ex o) (.ex o')) (hi:CX sc (.ex i) (.ex i')) (t:P r r'):CBs sc P (.Delete [.Subscript o i q] p::r) (.delI o' i'::r')
  | setIN {o i q x q2 e p j o' i' e' r r'} (hx:cb sc x=some j) (hc:isTup e=false) (hc2:mc e=false) (ho:CX sc (.ex o) (.ex o')) (hi:CX sc (.ex i) (.ex i')) (he:CX sc (.ex e) (.ex e')) (t:P r r'):CBs sc P (.Assign [.Subscript o i q,.Name x q2] e p::r) (.setIN o' i' j e'::r')
  | augA {o x q op e p o' e' r r'} (ho:CX sc (.ex o) (.ex o')) (he:CX sc (.ex e) (.ex e')) (t:P r r'):CBs sc P (.AugAssign (.Attribute o x q) op e p::r) (.augA o' x op e'::r')
  | ret {e p e' r r'} (he:CX sc (.ex e) (.ex e')) (t:P r r'):CBs sc P (.Return (some e) p::r) (.ret e'::r')
  | retN {p r r'} (t:P r r'):CBs sc P (.Return none p::r) (.ret (.val .none)::r')
  | ex {e p e' r r'} (hc:ua e=true) (he:CX sc (.ex e) (.ex e')) (t:P r r'):CBs sc P (.Expr e p::r) (.ex e'::r')
  | ite {e p a b e' a' b' r r'} (he:CX sc (.ex e) (.ex e')) (ha:P a a') (hb:P b b') (t:P r r'):CBs sc P (.If e a b p::r) (.ite e' a' b'::r')
  | forr {tg it b p tg' it' b' r r'} (hs:lr it=false) (ht:CT sc tg tg') (he:CX sc (.ex it) (.ex it')) (hb:P b b') (t:P r r'):CBs sc P (.For tg it b [] p::r) (.forr tg' it' b'::r')
  | whl {e a b p e' a' b' r r'} (he:CX sc (.ex e) (.ex e')) (ha:P a a') (hb:P b b') (t:P r r'):CBs sc P (.While e a b p::r) (.whl e' a' b'::r')
  | brk {p r r'} (t:P r r'):CBs sc P (.Break p::r) (.brk::r')
  | cont {p r r'} (t:P r r'):CBs sc P (.Continue p::r) (.cont::r')
  | pass {p r r'} (t:P r r'):CBs sc P (.Pass p::r) (.pass::r')
  | raw {s r r'} (t:P r r'):CBs sc P (s::r) (.raw s::r')
theorem CBs.mono {sc:SC} {P P':List Stmt→List IS→Prop} (g:∀ a b,P a b→P' a b) {a:List Stmt} {b:List IS} (h:CBs sc P a b):CBs sc P' a b:=by
  induction h with
  | nil=>exact .nil
  | asg hx hc he t=>exact .asg hx hc he (g _ _ t)
  | asgc hx hs hk hi he ht hf t=>exact .asgc hx hs hk hi he ht hf (g _ _ t)
  | asgP hts hr he t=>exact .asgP hts hr he (g _ _ t)
  | asgT hts hc he t=>exact .asgT hts hc he (g _ _ t)
  | setI ho hi he t=>exact .setI ho hi he (g _ _ t)
  | setA ho he t=>exact .setA ho he (g _ _ t)
  | aug hx he t=>exact .aug hx he (g _ _ t)
  | delI ho hi t=>exact .delI ho hi (g _ _ t)
  | setIN hx hc hc2 ho hi he t=>exact .setIN hx hc hc2 ho hi he (g _ _ t)
  | augA ho he t=>exact .augA ho he (g _ _ t)
  | ret he t=>exact .ret he (g _ _ t)
  | retN t=>exact .retN (g _ _ t)
  | ex hc he t=>exact .ex hc he (g _ _ t)
  | ite he ha hb t=>exact .ite he (g _ _ ha) (g _ _ hb) (g _ _ t)
  | forr hs ht he hb t=>exact .forr hs ht he (g _ _ hb) (g _ _ t)
  | whl he ha hb t=>exact .whl he (g _ _ ha) (g _ _ hb) (g _ _ t)
  | brk t=>exact .brk (g _ _ t)
  | cont t=>exact .cont (g _ _ t)
  | pass t=>exact .pass (g _ _ t)
  | raw t=>exact .raw (g _ _ t)
noncomputable def CB (sc:SC) (a:List Stmt) (b:List IS):Prop:=∀ P:List Stmt→List IS→Prop,(∀ a b,CBs sc P a b→P a b)→P a b
theorem CB.fold {sc:SC} {a:List Stmt} {b:List IS} (h:CBs sc (CB sc) a b):CB sc a b:=fun P cl=>cl _ _ (h.mono fun _ _ q=>q P cl)
theorem CB.ind {sc:SC} {Q:List Stmt→List IS→Prop} (cl:∀ a b,CBs sc (fun a b=>CB sc a b∧Q a b) a b→Q a b) {a:List Stmt} {b:List IS} (h:CB sc a b):Q a b :=
  (h (fun a b=>CB sc a b∧Q a b) fun a b s=>⟨.fold (s.mono fun _ _ q=>q.1),cl a b s⟩).2
structure Cok0 (c:Cx) (rm:Nat):Prop where
  K:(FK c.w).In c.h₀
  T:Top c.p c.loose c.mean c.mg c.mb c.h₀
  hA:c.A.frames=some (c.fe::c.outer)
  fe:∃ cn cs a ccd cl,c.fe=envX cn cs c.Lf a ccd cl∧cs.kind = .function
  lf:c.Lf=c.L∨∃ oL,(c.Lf,oL) ∈ c.hid∧∀ h:Heap,h.get? c.Lf=some oL→∃ m,h.Ns c.Lf m
  above:c.h₀.objs.size≤c.Lf
  dp:c.A.depth+rm < recursionLimit
  un:c.A.units+10 * rm < cLine
  el:c.env.locals=c.L
  eg:c.env.globals=mainGlobals
  eb:c.env.builtins=builtinsNs
  ek:c.env.scope.kind = .function
  en:c.env.scope.names=c.sc.names
  ev:∀ (i:Nat) (x:Str),c.sc.vars[i]? = some (some (x,false))→c.vs[i]? = some (dA.loc x)
  ec:∀ (i:Nat) (x:Str),c.sc.vars[i]? = some (some (x,true))→c.sc.names.lookup x=some .cell→∃ a,c.vs[i]? = some (dA.cell x a)∧c.env.cells.lookup x=some a
  vl:∀ (i j:Nat) (x:Str),c.vs[i]? = some (dA.loc x)→c.vs[j]? = some (dA.loc x)→i=j
  hE:PassesOwn (model PG c.w) c.A c.env c.E
structure Cok (c:Cx) (rm:Nat):Prop extends Cok0 c rm where
  hh:c.A.handled=none
inductive Op where
  | ev (e:Expr) | tst (e:Expr)
  | call | bin (op:Operator) | ibin (op:Operator) | cmp (op:CmpOp) | truth
  | sub | slice | slice3 | getA (x:Str) | setA (x:Str) | setI | delI | meth (x:Str) | unp (is:List Nat) | drop
noncomputable def v0 (vs:List Value) (k:Prop):Prop:=match vs with
  | []=>k
  | _=>False
noncomputable def v1 (vs:List Value) (k:Value→Prop):Prop:=match vs with
  | [a]=>k a
  | _=>False
noncomputable def v2 (vs:List Value) (k:Value→Value→Prop):Prop:=match vs with
  | [a,b]=>k a b
  | _=>False
noncomputable def v3 (vs:List Value) (k:Value→Value→Value→Prop):Prop:=match vs with
  | [a,b,d]=>k a b d
  | _=>False
noncomputable def v4 (vs:List Value) (k:Value→Value→Value→Value→Prop):Prop:=match vs with
  | [a,b,d,e]=>k a b d e
  | _=>False
noncomputable def aP (c:Cx) (op:Op) (vs:List Value) (t:Sem Value):Prop:=match op with
  | .ev e=>v0 vs (t=eval e c.env)
  | .tst e=>v0 vs (t=(do return .bool (← isTrue e c.env (eval e c.env))))
  | .call=>match vs with
    | f::vs=>t=call f vs
    | _=>False
  | .bin op=>v2 vs fun a b=>t=binaryOp op a b
  | .ibin op=>v2 vs fun a b=>t=inplaceOp op a b
  | .cmp op=>v2 vs fun a b=>t=compareOp op a b
  | .truth=>v1 vs fun a=>t=(do return .bool (← truthy a))
  | .sub=>v2 vs fun o i=>∃ v sl,t=subscriptTail v sl o i
  | .slice=>v3 vs fun o a b=>∃ x q lo hi p,t=(do let s ← alloc { cls:=.type "slice",data:=.fields #[a,b,.none] }; subscriptTail (.Name x q) (.Slice lo hi none p) o (.ref s))
  | .slice3=>v4 vs fun o a b d=>∃ x q lo hi st p,t=(do let s ← alloc { cls:=.type "slice",data:=.fields #[a,b,d] }; subscriptTail (.Name x q) (.Slice lo hi (some st) p) o (.ref s))
  | .getA x=>v1 vs fun o=>∃ b,t=getAttr o x b
  | .setA x=>v2 vs fun o v=>t=(do setAttr o x v; pure .none)
  | .setI=>v3 vs fun o i v=>t=(do setItem o i v; pure .none)
  | .delI=>v2 vs fun o i=>t=(do delItem o i; pure .none)
  | .meth x=>v1 vs fun o=>∃ pl,t=(do let r ← getMethod o x pl; if r.2=[o] then pure r.1 else unsupported "")
  | .unp is=>v1 vs fun v=>∃ ts k p,CTs c.sc ts is∧t=(do assign (.Tuple ts k p) c.env v; pure .none)
  | .drop=>v1 vs fun v=>∃ p,t=(do standAt p; let _ ← runValue (.builtin "proto.let_go" {}); pure .none)
section
variable {c:Cx}
theorem aP.ev (e):aP c (.ev e) [] (eval e c.env):=rfl
theorem aP.tst (e):aP c (.tst e) [] (do return .bool (← isTrue e c.env (eval e c.env))):=rfl
theorem aP.call (f vs):aP c .call (f::vs) (call f vs):=rfl
theorem aP.bin (op a b):aP c (.bin op) [a,b] (binaryOp op a b):=rfl
theorem aP.ibin (op a b):aP c (.ibin op) [a,b] (inplaceOp op a b):=rfl
theorem aP.cmp (op a b):aP c (.cmp op) [a,b] (compareOp op a b):=rfl
theorem aP.truth (a):aP c .truth [a] (do return .bool (← truthy a)):=rfl
theorem aP.sub (v sl o i):aP c .sub [o,i] (subscriptTail v sl o i):=Exists.intro v (Exists.intro sl rfl)
theorem aP.slice (x q lo hi p o a b):aP c .slice [o,a,b] (do let s ← alloc { cls:=.type "slice",data:=.fields #[a,b,.none] }; subscriptTail (.Name x q) (.Slice lo hi none p) o (.ref s)):=Exists.intro x (Exists.intro q (Exists.intro lo (Exists.intro hi (Exists.intro p rfl))))
theorem aP.slice3 (x q lo hi st p o a b d):aP c .slice3 [o,a,b,d] (do let s ← alloc { cls:=.type "slice",data:=.fields #[a,b,d] }; subscriptTail (.Name x q) (.Slice lo hi (some st) p) o (.ref s)):=Exists.intro x (Exists.intro q (Exists.intro lo (Exists.intro hi (Exists.intro st (Exists.intro p rfl)))))
theorem aP.getA (x o b):aP c (.getA x) [o] (getAttr o x b):=Exists.intro b rfl
theorem aP.setA (x o v):aP c (.setA x) [o,v] (do setAttr o x v; pure .none):=rfl
theorem aP.setI (o i v):aP c .setI [o,i,v] (do setItem o i v; pure .none):=rfl
theorem aP.delI (o i):aP c .delI [o,i] (do delItem o i; pure .none):=rfl
theorem aP.meth (x o pl):aP c (.meth x) [o] (do let r ← getMethod o x pl; if r.2=[o] then pure r.1 else unsupported ""):=Exists.intro pl rfl
theorem aP.unp (is ts k p v) (h:CTs c.sc ts is):aP c (.unp is) [v] (do assign (.Tuple ts k p) c.env v; pure .none):=Exists.intro ts (Exists.intro k (Exists.intro p ⟨h,rfl⟩))
theorem aP.drop (p v):aP c .drop [v] (do standAt p; let _ ← runValue (.builtin "proto.let_go" {}); pure .none):=Exists.intro p rfl
end
@[irreducible] noncomputable def Do (c:Cx) (op:Op) (vs:List Value) (M:FM) (n:Led) (R:Value→FM→Led→Prop):Prop :=
  ∀ vs' t s Q,aD vs' vs→aP c op vs' t→St c M n s→(∀ v' v M' n' s',Sim v' v→St c M' n' s'→R v M' n'→Q v' s')→wpAny (model PG c.w) c.A t Q c.E s
noncomputable def pe:Flow→Flow→Prop
  | .ret a,.ret b=>Sim a b
  | .next,.next=>True
  | .brk,.brk=>True
  | .cont,.cont=>True
  | _,_=>False
@[irreducible] noncomputable def DoS (c:Cx) (b:Stmt) (M:FM) (n:Led) (R:Flow→FM→Led→Prop):Prop :=
  ∀ s Q,St c M n s→(∀ f' f M' n' s',pe f' f→St c M' n' s'→R f M' n'→Q f' s')→wpAny (model PG c.w) c.A (exec b c.env) Q c.E s
@[irreducible] noncomputable def DoF (c:Cx) (t:IT) (v:Value) (b:List IS) (M:FM) (n:Led) (R:Flow→FM→Led→Prop):Prop :=
  ∀ target body v' s Q,CT c.sc target t→CB c.sc body b→Sim v' v→St c M n s→(∀ f' f M' n' s',pe f' f→St c M' n' s'→R f M' n'→Q f' s') →
    wpAny (model PG c.w) c.A (pyIter v') (fun it s₂=>TurnsAt PG c.w c.A c.h₀ c.env target body Q c.E it s₂) c.E s
@[irreducible] noncomputable def DoW (c:Cx) (t:IE) (a b:List IS) (M:FM) (n:Led) (R:Flow→FM→Led→Prop):Prop :=
  ∀ test body orelse pos s Q,CX c.sc (.ex test) (.ex t)→CB c.sc body a→CB c.sc orelse b→St c M n s→(∀ f' f M' n' s',pe f' f→St c M' n' s'→R f M' n'→Q f' s') →
    wpAny (model PG c.w) c.A (exec (.While test body orelse pos) c.env) Q c.E s
noncomputable def iz (b:Int):Bool:=decide (0 < b) && decide (b < 1000000)
section
variable (c:Cx)
noncomputable def eF:Value→Option Int
  | .int a _=>some a
  | _=>none
noncomputable def sf:Value→Option Str
  | .str a _=>some a
  | _=>none
noncomputable def bc:Value→Bool
  | .none=>true
  | _=>false
noncomputable def jS {α:Type} (f:Value→Option α) (x y:Value) (k:α→α→Prop) (d:Prop):Prop:=match f x with
  | some a=>(match f y with
    | some b=>k a b
    | none=>d)
  | none=>d
noncomputable def binR (op:Operator) (x y:Value) (M:FM) (n:Led) (R:Value→FM→Led→Prop):Prop :=
  match op with
  | .Add=>jS eF x y (fun a b=>R (.int (a+b) 0) M n) (Do c (.bin .Add) [x,y] M n R)
  | .Sub=>jS eF x y (fun a b=>R (.int (a - b) 0) M n) (Do c (.bin .Sub) [x,y] M n R)
  | .FloorDiv=>jS eF x y (fun a b=>bif iz b then R (.int (a.fdiv b) 0) M n else Do c (.bin .FloorDiv) [x,y] M n R) (Do c (.bin .FloorDiv) [x,y] M n R)
  | .Mod=>jS eF x y (fun a b=>bif iz b then R (.int (a.fmod b) 0) M n else Do c (.bin .Mod) [x,y] M n R) (Do c (.bin .Mod) [x,y] M n R)
  | op=>Do c (.bin op) [x,y] M n R
noncomputable def tv (op:Operator) (x y:Value) (M:FM) (n:Led) (R:Value→FM→Led→Prop):Prop :=
  match op with
  | .Add=>jS eF x y (fun a b=>R (.int (a+b) 0) M n) (Do c (.ibin .Add) [x,y] M n R)
  | .Sub=>jS eF x y (fun a b=>R (.int (a - b) 0) M n) (Do c (.ibin .Sub) [x,y] M n R)
  | op=>Do c (.ibin op) [x,y] M n R
noncomputable def cmpR (op:CmpOp) (x y:Value) (M:FM) (n:Led) (R:Value→FM→Led→Prop):Prop :=
  match op with
  | .Lt=>jS eF x y (fun a b=>R (.bool (decide (a < b))) M n) (Do c (.cmp .Lt) [x,y] M n R)
  | .Gt=>jS eF x y (fun a b=>R (.bool (decide (a > b))) M n) (Do c (.cmp .Gt) [x,y] M n R)
  | .GtE=>jS eF x y (fun a b=>R (.bool (decide (a≥b))) M n) (Do c (.cmp .GtE) [x,y] M n R)
  | .Eq=>jS eF x y (fun a b=>R (.bool (decide (a=b))) M n) (jS sf x y (fun a b=>R (.bool (decide (a=b))) M n) (Do c (.cmp .Eq) [x,y] M n R))
  | .NotEq=>jS eF x y (fun a b=>R (.bool (!decide (a=b))) M n) (jS sf x y (fun a b=>R (.bool (!decide (a=b))) M n) (Do c (.cmp .NotEq) [x,y] M n R))
  | .Is=>bif bc y then R (.bool (bc x)) M n else Do c (.cmp .Is) [x,y] M n R
  | .IsNot=>bif bc y then R (.bool (!bc x)) M n else Do c (.cmp .IsNot) [x,y] M n R
  | op=>Do c (.cmp op) [x,y] M n R
noncomputable def sN (R:Bool→FM→Led→Prop):Value→FM→Led→Prop:=fun v M n=>match v with
  | .bool b=>R b M n
  | _=>False
noncomputable def eX (v:Value) (M:FM) (n:Led) (R:Bool→FM→Led→Prop):Prop :=
  match v with
  | .bool b=>R b M n
  | .none=>R false M n
  | .int i _=>R (!decide (i=0)) M n
  | v=>Do c .truth [v] M n (sN R)
noncomputable abbrev WE:=IE→FM→Led→(Value→FM→Led→Prop)→Prop
noncomputable abbrev WT:=IE→FM→Led→(Bool→FM→Led→Prop)→Prop
noncomputable def wpL (f:WE):List IE→FM→Led→(List Value→FM→Led→Prop)→Prop
  | [],M,n,R=>R [] M n
  | e::es,M,n,R=>f e M n fun v M n=>wpL f es M n fun vs M n=>R (v::vs) M n
noncomputable def uS (f:WE):List IE→FM→Led→(Value→FM→Led→Prop)→Prop
  | [],_,_,_=>False
  | [e],M,n,R=>f e M n R
  | e::es,M,n,R=>f e M n fun v M n=>eX c v M n fun b M n=>bif b then uS f es M n R else R v M n
noncomputable def wpOr (f:WE):List IE→FM→Led→(Value→FM→Led→Prop)→Prop
  | [],_,_,_=>False
  | [e],M,n,R=>f e M n R
  | e::es,M,n,R=>f e M n fun v M n=>eX c v M n fun b M n=>bif b then R v M n else wpOr f es M n R
noncomputable def pq (g:WT):List IE→FM→Led→(Bool→FM→Led→Prop)→Prop
  | [],M,n,R=>R true M n
  | e::es,M,n,R=>g e M n fun b M n=>bif b then pq g es M n R else R false M n
noncomputable def qw (g:WT):List IE→FM→Led→(Bool→FM→Led→Prop)→Prop
  | [],M,n,R=>R false M n
  | e::es,M,n,R=>g e M n fun b M n=>bif b then R true M n else qw g es M n R
end
noncomputable def tz (c:Cx) (s:Shared) (R:Value→FM→Led→Prop) (RR:Value→Addr→Result→Shared→Prop):Prop :=
  ∀ D C M n mC m news h tk,R (.ref D) M n→h.Ns C mC→C≠c.L→c.h₀.get? C=none→(∀ p ∈ news,p.1≠C)→Fr c.h₀ c.L h m→News c.h₀ c.L h news→ce c M n m news→RR (.ref D) C (.ok .next) { s with heap:=h,toks:=tk }
@[irreducible] noncomputable def kI (prog:Program) (w:World) (A:Around) (E:Value→Shared→Prop) (env:Env) (k e target iter:Expr) (ifs:List Expr) (scope:Scope) (cl:List (Str×Addr)) (pos:Pos) (RR:Value→Addr→Result→Shared→Prop) (it:Value) (s:Shared):Prop :=
  wpAny (model prog w) A newDict (fun acc s₃=>wpAny (model prog w) A (newFunctionEnv scope env.globals cl [] env.qual none .none (some env)) (fun cenv s₄ =>
      codeAny (model prog w) A (.compStart (.DictComp k e [⟨target,iter,ifs,0⟩] scope pos) 0 it acc { cenv with scope:=relabel scope env }) (RR acc cenv.locals) s₄) E s₃) E s
@[irreducible] noncomputable def DoC (c:Cx) (k:Nat) (elt:IE) (t:IT) (ifs:List IE) (v:Value) (M:FM) (n:Led) (R:Value→FM→Led→Prop):Prop :=
  ∀ eltE tE itE ifsE scope pos cl,CX (aC c.sc scope) (.ex eltE) (.ex elt)→CT (aC c.sc scope) tE t→CX (aC c.sc scope) (.exs ifsE) (.exs ifs)→cx c.sc scope=true→fN scope.names=k→cl=aU scope.names c.env.cells [] →
    ∀ v' s RR,Sim v' v→St c M n s→tz c s R RR→wpAny (model PG c.w) c.A (pyIter v') (fun it s₂=>bE PG c.w c.A c.E c.env eltE tE itE ifsE scope cl pos RR it s₂) c.E s
@[irreducible] noncomputable def wK (c:Cx) (n₁:Nat) (k e:IE) (t:IT) (ifs:List IE) (v:Value) (M:FM) (n:Led) (R:Value→FM→Led→Prop):Prop :=
  ∀ kE eE tE itE ifsE scope pos cl,CX (aC c.sc scope) (.ex kE) (.ex k)→CX (aC c.sc scope) (.ex eE) (.ex e)→CT (aC c.sc scope) tE t→CX (aC c.sc scope) (.exs ifsE) (.exs ifs)→cx c.sc scope=true→fN scope.names=n₁→cl=aU scope.names c.env.cells [] →
    ∀ v' s RR,Sim v' v→St c M n s→tz c s R RR→wpAny (model PG c.w) c.A (pyIter v') (fun it s₂=>kI PG c.w c.A c.E c.env kE eE tE itE ifsE scope cl pos RR it s₂) c.E s
section
variable (c:Cx)
noncomputable def yb (f:WE) (g:WT):WE:=fun e M n R=>match e with
  | .loc i=>match M[i]? with
    | some (some v)=>R v M n
    | _=>False
  | .val v=>R v M n
  | .bin op a b=>f a M n fun x M n=>f b M n fun y M n=>binR c op x y M n R
  | .cmp op a b=>f a M n fun x M n=>f b M n fun y M n=>cmpR c op x y M n R
  | .neg a=>f a M n fun x M n=>match x with
    | .int i _=>R (.int (-i) 0) M n
    | _=>False
  | .not a=>f a M n fun x M n=>eX c x M n fun b M n=>R (.bool (!b)) M n
  | .and as=>uS c f as M n R
  | .or as=>wpOr c f as M n R
  | .ife t a b=>g t M n fun x M n=>bif x then f a M n R else f b M n R
  | .call fn as=>f fn M n fun fv M n=>bif je fv then wpL f as M n fun vs M n=>Do c .call (fv::vs) M n R else False
  | .meth o x as=>f o M n fun ov M n=>Do c (.meth x) [ov] M n fun fv M n=>bif je fv then wpL f as M n fun vs M n=>Do c .call (fv::ov::vs) M n R else False
  | .attr o x=>f o M n fun ov M n=>Do c (.getA x) [ov] M n R
  | .sub o i=>f o M n fun ov M n=>f i M n fun iv M n=>Do c .sub [ov,iv] M n R
  | .slc o lo hi=>f o M n fun ov M n=>f lo M n fun a M n=>f hi M n fun b M n=>Do c .slice [ov,a,b] M n R
  | .slc3 o lo hi st=>f o M n fun ov M n=>f lo M n fun a M n=>f hi M n fun b M n=>f st M n fun d M n=>Do c .slice3 [ov,a,b,d] M n R
  | .lst as=>wpL f as M n fun vs M n=>bif decide (vs.length≤1000) then ∀ D,R (.ref D) M ((D,.list vs)::n) else False
  | .tup as=>wpL f as M n fun vs M n=>bif decide (vs.length≤1000) then ∀ D,R (.ref D) M ((D,.tup vs)::n) else False
  | .dict0=>∀ D,(D == sysModules)=false→R (.ref D) M ((D,.dict [])::n)
  | .walrus i e=>f e M n fun v M n=>R v (M.set i (some v)) n
  | .lcomp k elt t it ifs=>f it M n fun v M n=>DoC c k elt t ifs v M n R
  | .dcomp n₁ k e t it ifs=>f it M n fun v M n=>wK c n₁ k e t ifs v M n R
  | .raw e=>Do c (.ev e) [] M n R
noncomputable def xb (f:WE) (g:WT):WT:=fun e M n R=>match e with
  | .and as=>pq g as M n R
  | .or as=>qw g as M n R
  | .not a=>g a M n fun b M n=>R (!b) M n
  | .ife t a b=>g t M n fun x M n=>bif x then g a M n R else g b M n R
  | .raw e=>Do c (.tst e) [] M n (sN R)
  | e=>f e M n fun v M n=>eX c v M n R
noncomputable def wp:Nat→WE×WT
  | 0=>(fun _ _ _ _=>False,fun _ _ _ _=>False)
  | k+1=>(yb c (wp k).1 (wp k).2,xb c (wp k).1 (wp k).2)
noncomputable def wpE (k:Nat):WE:=(wp c k).1
noncomputable def wpT (k:Nat):WT:=(wp c k).2
noncomputable def dW:List (Nat×Value)→FM→FM
  | [],M=>M
  | (i,v)::r,M=>dW r (M.set i (some v))
noncomputable abbrev WS:=List IS→FM→Led→(Flow→FM→Led→Prop)→Prop
noncomputable def sv (f:WS) (rest:List IS) (R:Flow→FM→Led→Prop):Flow→FM→Led→Prop:=fun fl M n=>match fl with
  | .next=>f rest M n R
  | fl=>R fl M n
noncomputable def stepS (f:WS):WS:=fun b M n R=>match b with
  | []=>R .next M n
  | .asg i e::r=>wpE c 40 e M n fun v M n=>f r (M.set i (some v)) n R
  | .asgT is e::r=>wpE c 40 e M n fun v M n=>Do c (.unp is) [v] M n fun _ M n=>f r M n R
  | .asgP rev is es::r=>c.A.handled=none∧wpL (wpE c 40) es M n fun vs M n=>f r (dW (bif rev then is.reverse.zip vs.reverse else is.zip vs) M) n R
  | .aug i op e::r=>match M[i]? with
    | some (some old)=>wpE c 40 e M n fun v M n=>tv c op old v M n fun x M n=>f r (M.set i (some x)) n R
    | _=>False
  | .setI o i e::r=>wpE c 40 e M n fun v M n=>wpE c 40 o M n fun ov M n=>wpE c 40 i M n fun iv M n=>Do c .setI [ov,iv,v] M n fun _ M n=>f r M n R
  | .delI o i::r=>wpE c 40 o M n fun ov M n=>wpE c 40 i M n fun iv M n=>Do c .delI [ov,iv] M n fun _ M n=>f r M n R
  | .setIN o i j e::r=>wpE c 40 e M n fun v M n=>wpE c 40 o M n fun ov M n=>wpE c 40 i M n fun iv M n=>Do c .setI [ov,iv,v] M n fun _ M n=>f r (M.set j (some v)) n R
  | .setA o x e::r=>wpE c 40 e M n fun v M n=>wpE c 40 o M n fun ov M n=>Do c (.setA x) [ov,v] M n fun _ M n=>f r M n R
  | .augA o x op e::r=>wpE c 40 o M n fun ov M n=>Do c (.getA x) [ov] M n fun old M n=>wpE c 40 e M n fun v M n=>tv c op old v M n fun w M n=>Do c (.setA x) [ov,w] M n fun _ M n=>f r M n R
  | .ret e::_=>wpE c 40 e M n fun v M n=>R (.ret v) M n
  | .ex e::r=>wpE c 40 e M n fun v M n=>match v with
    | .ref _=>Do c .drop [v] M n fun _ M n=>f r M n R
    | _=>f r M n R
  | .ite t a b::r=>wpT c 40 t M n fun x M n=>bif x then f a M n (sv f r R) else f b M n (sv f r R)
  | .forr t it b::r=>wpE c 40 it M n fun v M n=>DoF c t v b M n (sv f r R)
  | .whl t a b::r=>DoW c t a b M n (sv f r R)
  | .brk::_=>R .brk M n
  | .cont::_=>R .cont M n
  | .pass::r=>f r M n R
  | .raw s::r=>DoS c s M n (sv f r R)
noncomputable def wpS:Nat→WS
  | 0=>fun _ _ _ _=>False
  | k+1=>stepS c (wpS k)
end
end
section
set_option tactic.hygienic false
noncomputable def Tr (c:Cx) (t:Sem Value) (M:FM) (n:Led) (R:Value→FM→Led→Prop):Prop :=
  ∀ s Q,St c M n s→(∀ v' v M' n' s',Sim v' v→St c M' n' s'→R v M' n'→Q v' s')→wpAny (model PG c.w) c.A t Q c.E s
noncomputable def TrB (c:Cx) (t:Sem Bool) (M:FM) (n:Led) (R:Bool→FM→Led→Prop):Prop :=
  ∀ s Q,St c M n s→(∀ b M' n' s',St c M' n' s'→R b M' n'→Q b s')→wpAny (model PG c.w) c.A t Q c.E s
noncomputable def TrL (c:Cx) (t:Sem (List Value)) (M:FM) (n:Led) (R:List Value→FM→Led→Prop):Prop :=
  ∀ s Q,St c M n s→(∀ v' v M' n' s',aD v' v→St c M' n' s'→R v M' n'→Q v' s')→wpAny (model PG c.w) c.A t Q c.E s
section
variable {c:Cx} {M:FM} {n:Led}
theorem Do.tr {op:Op} {vs vs':List Value} {t:Sem Value} {R:Value→FM→Led→Prop} (h:Do c op vs M n R) (hs:aD vs' vs) (ht:aP c op vs' t):Tr c t M n R:=by
  unfold Do at h; exact fun s Q S k=>h vs' t s Q hs ht S k
theorem Do.mk {op:Op} {vs:List Value} {R:Value→FM→Led→Prop} (h:∀ vs' t,aD vs' vs→aP c op vs' t→Tr c t M n R):Do c op vs M n R:=by
  unfold Do; exact fun vs' t s Q hs ht S k=>h vs' t hs ht s Q S k
theorem aD.one {u v:Value} (h:Sim u v):aD [u] [v]:=.mk h (.refl _)
theorem aD.two {u v u2 v2:Value} (h:Sim u v) (h2:Sim u2 v2):aD [u,u2] [v,v2]:=.mk h (.one h2)
set_option exponentiation.threshold 10000 in
theorem iR {b:Int} (h:iz b=true):b≠0∧b.natAbs.log2 < 9000:=by
  unfold iz at h
  obtain ⟨h1,h2⟩:=Bool.and_eq_true_iff.mp h
  have h1:=of_decide_eq_true h1
  have h2:=of_decide_eq_true h2
  refine ⟨by omega,?_⟩
  have:b.natAbs≠0:=by omega
  exact (Nat.log2_lt this).mpr (Nat.lt_of_lt_of_le (show b.natAbs < 2 ^ 20 by omega) (Nat.pow_le_pow_right (n:=2) (by omega) (by omega)))
theorem iA {α:Type} {f:Value→Option α} {x y:Value} {k:α→α→Prop} {d P:Prop} (h:jS f x y k d) (h1:∀ a b,f x=some a→f y=some b→k a b→P) (h2:d→P):P:=by
  unfold jS at h
  cases e1:f x with
  | none=>rw [e1] at h; exact h2 h
  | some a =>
    rw [e1] at h
    cases e2:f y with
    | none=>rw [e2] at h; exact h2 h
    | some b=>rw [e2] at h; exact h1 a b e1 e2 h
theorem dq {v:Value} {a:Int} (h:eF v=some a):∃ t,v = .int a t:=by
  cases v with
  | int i t=>cases h; exact ⟨t,rfl⟩
  | _=>cases h
theorem lH {v:Value} {a:Str} (h:sf v=some a):∃ t,v = .str a t:=by
  cases v with
  | str i t=>cases h; exact ⟨t,rfl⟩
  | _=>cases h
theorem cH {x y x' y':Value} (hx:Sim x' x) (hy:Sim y' y) {k:Int→Int→Prop} {d:Prop} {P:Value→Value→Prop} (h:jS eF x y k d) (h1:∀ a b u w,k a b→P (.int a u) (.int b w)) (h2:d→P x' y'):P x' y':=iA h (fun a b e1 e2 hk=>by
  clear h
  obtain ⟨_,rfl⟩:=dq e1
  obtain ⟨_,rfl⟩:=dq e2
  obtain ⟨_,rfl⟩:=ah hx
  obtain ⟨_,rfl⟩:=ah hy
  exact h1 _ _ _ _ hk) h2
theorem ri {x y x' y':Value} (hx:Sim x' x) (hy:Sim y' y) {k:Str→Str→Prop} {d:Prop} {P:Value→Value→Prop} (h:jS sf x y k d) (h1:∀ a b u w,k a b→P (.str a u) (.str b w)) (h2:d→P x' y'):P x' y':=iA h (fun a b e1 e2 hk=>by
  clear h
  obtain ⟨_,rfl⟩:=lH e1
  obtain ⟨_,rfl⟩:=lH e2
  obtain ⟨_,rfl⟩:=aq hx
  obtain ⟨_,rfl⟩:=aq hy
  exact h1 _ _ _ _ hk) h2
theorem vI {op:Operator} {x y x' y':Value} {R:Value→FM→Led→Prop} (hx:Sim x' x) (hy:Sim y' y) (h:binR c op x y M n R):Tr c (binaryOp op x' y') M n R:=by
  have g:∀ op,Do c (.bin op) [x,y] M n R→Tr c (binaryOp op x' y') M n R:=fun op h=>h.tr (.two hx hy) (.bin _ _ _)
  cases op with
  | Add=>exact cH (P:=fun a b=>Tr c (binaryOp .Add a b) M n R) hx hy h (fun _ _ _ _ h s Q S k=>add_int (k _ (.int _ 0) _ _ _ rfl (S.tok _) h)) (g _)
  | Sub=>exact cH (P:=fun a b=>Tr c (binaryOp .Sub a b) M n R) hx hy h (fun _ _ _ _ h s Q S k=>sub_int (k _ (.int _ 0) _ _ _ rfl (S.tok _) h)) (g _)
  | FloorDiv=>exact iA h (fun a b e1 e2 hk=>by
      cases ho:iz b with
      | true =>
        rw [ho,cond_true] at hk
        clear g h
        obtain ⟨_,rfl⟩:=dq e1
        obtain ⟨_,rfl⟩:=dq e2
        obtain ⟨_,rfl⟩:=ah hx
        obtain ⟨_,rfl⟩:=ah hy
        exact fun s Q S k=>floordiv_int (iR ho).1 (k _ (.int _ 0) _ _ _ rfl (S.tok _) hk) (Or.inl (PyProof.noPylong_of_log2 (iR ho).2))
      | false=>rw [ho,cond_false] at hk; exact g _ hk) (g _)
  | Mod=>exact iA h (fun a b e1 e2 hk=>by
      cases ho:iz b with
      | true =>
        rw [ho,cond_true] at hk
        clear g h
        obtain ⟨_,rfl⟩:=dq e1
        obtain ⟨_,rfl⟩:=dq e2
        obtain ⟨_,rfl⟩:=ah hx
        obtain ⟨_,rfl⟩:=ah hy
        exact fun s Q S k=>mod_int' (iR ho).1 (k _ (.int _ 0) _ _ _ rfl (S.tok _) hk)
      | false=>rw [ho,cond_false] at hk; exact g _ hk) (g _)
  | _=>exact g _ h
theorem ng {op:Operator} {x y x' y':Value} {R:Value→FM→Led→Prop} (hx:Sim x' x) (hy:Sim y' y) (h:tv c op x y M n R):Tr c (inplaceOp op x' y') M n R:=by
  have g:∀ op,Do c (.ibin op) [x,y] M n R→Tr c (inplaceOp op x' y') M n R:=fun op h=>h.tr (.two hx hy) (.ibin _ _ _)
  cases op with
  | Add=>exact cH (P:=fun a b=>Tr c (inplaceOp .Add a b) M n R) hx hy h (fun _ _ _ _ h s Q S k=>iadd_int (k _ (.int _ 0) _ _ _ rfl (S.tok _) h)) (g _)
  | Sub=>exact cH (P:=fun a b=>Tr c (inplaceOp .Sub a b) M n R) hx hy h (fun _ _ _ _ h s Q S k=>P.isub_int (k _ (.int _ 0) _ _ _ rfl (S.tok _) h)) (g _)
  | _=>exact g _ h
theorem ii (a b:Str):(a.cps.toList == b.cps.toList)=decide (a=b):=by
  by_cases h:a=b
  · subst h; simp
  · rw [decide_eq_false h,beq_eq_false_iff_ne]
    exact fun q=>h (by cases a; cases b; congr 1; exact Array.toList_inj.mp q)
theorem xA {v:Value}:(v == Value.none)=bc v:=by cases v <;> rfl
theorem gw (v:Value):bc (vst v)=bc v:=by cases v <;> rfl
theorem fT {u v:Value} (h:Sim u v):bc u=bc v:=by rw [← gw u,← gw v,show vst u=vst v from h]
theorem mY {v:Value} (h:bc v=true):v = .none:=by
  cases v with
  | none=>rfl
  | _=>cases h
theorem qY {op:CmpOp} {x y x' y':Value} {R:Value→FM→Led→Prop} (hx:Sim x' x) (hy:Sim y' y) (h:cmpR c op x y M n R):Tr c (compareOp op x' y') M n R:=by
  have g:∀ op,Do c (.cmp op) [x,y] M n R→Tr c (compareOp op x' y') M n R:=fun op h=>h.tr (.two hx hy) (.cmp _ _ _)
  cases op with
  | Lt=>exact cH (P:=fun a b=>Tr c (compareOp .Lt a b) M n R) hx hy h (fun _ _ _ _ h s Q S k=>P.lt_int (k _ _ _ _ _ rfl S h)) (g _)
  | Gt=>exact cH (P:=fun a b=>Tr c (compareOp .Gt a b) M n R) hx hy h (fun _ _ _ _ h s Q S k=>P.gt_int (k _ _ _ _ _ rfl S h)) (g _)
  | GtE=>exact cH (P:=fun a b=>Tr c (compareOp .GtE a b) M n R) hx hy h (fun _ _ _ _ h s Q S k=>P.ge_int (k _ _ _ _ _ rfl S h)) (g _)
  | Eq=>exact cH (P:=fun a b=>Tr c (compareOp .Eq a b) M n R) hx hy h (fun _ _ _ _ h s Q S k=>P.eq_int (k _ _ _ _ _ rfl S h)) fun h=>ri (P:=fun a b=>Tr c (compareOp .Eq a b) M n R) hx hy h (fun _ _ _ _ h s Q S k=>P.eq_str (by rw [ii]; exact k _ _ _ _ _ rfl S h)) (g _)
  | NotEq=>exact cH (P:=fun a b=>Tr c (compareOp .NotEq a b) M n R) hx hy h (fun _ _ _ _ h s Q S k=>P.ne_int (k _ _ _ _ _ rfl S h)) fun h=>ri (P:=fun a b=>Tr c (compareOp .NotEq a b) M n R) hx hy h (fun _ _ _ _ h s Q S k=>P.ne_str (by unfold bne; rw [ii]; exact k _ _ _ _ _ rfl S h)) (g _)
  | Is=>cases e:bc y with
    | true =>
      have h:cond (bc y) (R (.bool (bc x)) M n) _:=h
      rw [e,cond_true] at h
      clear g
      cases mY e
      cases aH hy
      exact fun s Q S k=>is_none (by rw [xA,fT hx]; exact k _ _ _ _ _ rfl S h)
    | false =>
      have h:cond (bc y) (R (.bool (bc x)) M n) _:=h
      rw [e,cond_false] at h
      exact g _ h
  | IsNot=>cases e:bc y with
    | true =>
      have h:cond (bc y) (R (.bool (!bc x)) M n) _:=h
      rw [e,cond_true] at h
      clear g
      cases mY e
      cases aH hy
      exact fun s Q S k=>isNot_none (by rw [xA,fT hx]; exact k _ _ _ _ _ rfl S h)
    | false =>
      have h:cond (bc y) (R (.bool (!bc x)) M n) _:=h
      rw [e,cond_false] at h
      exact g _ h
  | _=>exact g _ h
theorem lV {t:Sem Bool} {R:Bool→FM→Led→Prop} (h:Tr c (do return .bool (← t)) M n (sN R)):TrB c t M n R:=fun s Q S k=>by
  have:=h s (fun v s=>match v with | .bool b=>Q b s | _=>False) S (fun v' v M' n' s' hv S' hr=>by
    unfold sN at hr
    split at hr
    · cases ei hv; exact k _ _ _ _ S' hr
    · exact hr.elim)
  intro Γ p hΓ
  have h2:=this Γ p hΓ
  rw [Sem.wp_bind'] at h2
  exact Sem.wp_mono _ Γ t (fun b p s hb=>hb) (fun _ _ _ x=>x) p s h2
theorem cZ {x x':Value} {R:Bool→FM→Led→Prop} (hx:Sim x' x) (h:eX c x M n R):TrB c (truthy x') M n R:=by
  unfold eX at h
  split at h
  · cases ei hx; exact fun s Q S k=>wpAny_truthy_bool (k _ _ _ _ S h)
  · cases aH hx; exact fun s Q S k=>truthy_none (k _ _ _ _ S h)
  · obtain ⟨u,rfl⟩:=ah hx
    exact fun s Q S k=>P.truthy_int (k _ _ _ _ S h)
  · exact lV (h.tr (.one hx) (.truth _))
end
end
section
set_option tactic.hygienic false
theorem cD {x:Str} {b:Bool}:∀ {l:List (Option (Str×Bool))} {i:Nat},eM x b l=some i→l[i]? = some (some (x,b))
  | [],_,h=>by cases h
  | v::r,i,h=>by
    unfold eM at h
    by_cases hv:v=some (x,b)
    · rw [if_pos hv] at h; cases h; subst hv; rfl
    · rw [if_neg hv] at h
      refine E1 (map_eq_some_iff.mp h) fun j q91=>A2 q91 fun hj e92=>?_
      clear q91
      clear h
      first | subst e92 | cases e92
      have:=cD (l:=r) hj
      simpa using this
section
variable {c:Cx} {M:FM} {n:Led} {rm:Nat}
theorem Cok0.key {s:Shared} (H:Cok0 c rm) (S:St c M n s):(FK c.w).In s.heap:=by
  refine E2 S.ex fun m news q91=>A2 q91 fun F _=>?_
  clear q91
  exact H.K.keeps F.keep
theorem fU {x:Str} {i:Nat} (H:Cok0 c rm) (h:cb c.sc x=some i):(c.env.kindOf x=some .local∧c.vs[i]? = some (.loc x))∨(c.env.kindOf x=some .cell∧∃ a,c.vs[i]? = some (.cell x a)∧c.env.cells.lookup x=some a):=by
  have en:=H.en
  unfold cb at h
  cases hl:c.sc.names.lookup x with
  | none=>rw [hl] at h; cases h
  | some k =>
    rw [hl] at h
    cases k <;> dsimp only at h <;> first
      | exact .inl ⟨by unfold Env.kindOf; rw [en]; exact hl,H.ev _ _ (cD h)⟩
      | exact .inr ⟨by unfold Env.kindOf; rw [en]; exact hl,H.ec _ _ (cD h) hl⟩
      | cases h
theorem gb {x:Str} {p:Pos} {i:Nat} {v:Value} {R:Value→FM→Led→Prop} (H:Cok0 c rm) (h:cb c.sc x=some i) (hd:(x == ("__debug__" : Str))=false) (hv:M[i]? = some (some v)) (hr:R v M n):Tr c (eval (.Name x p) c.env) M n R:=fun s Q S k=>by
  refine E2 S.ex fun m news q91=>A3 q91 fun F N f=>?_
  clear q91
  rcases fU H h with ⟨hk,hl⟩ | ⟨hk,a,hl,hc⟩
  · refine E1 (cC (f.vars.2 _ _ _ hl hv)) fun u q92=>A2 q92 fun hu hs=>?_
    clear q92
    exact wpAny_Name (wpAny_loadName_local H.ek hk (H.el▸F.ns) hu (k _ _ _ _ _ hs S hr)) hd
  · refine E2 (f.vars.2 _ _ _ hl hv) fun o u q93=>A3 q93 fun ho hdt h3=>?_
    clear q93
    refine E1 (cC h3) fun u' q94=>A2 q94 fun e95 hs=>?_
    clear q94
    clear h3
    first | subst e95 | cases e95
    exact wpAny_Name (wpAny_loadName_cell H.ek hk hc ⟨o,(N _ ho).1,hdt⟩ (k _ _ _ _ _ hs S hr)) hd
theorem vR {x:Str} {p:Pos} {v:Value} {R:Value→FM→Led→Prop} (H:Cok0 c rm) (h:c.sc.names.lookup x=some .globalImplicit) (hv:vi.lookup x=some v) (hd:(x == ("__debug__" : Str))=false) (hn:x ≠ "__name__") (hr:R v M n):Tr c (eval (.Name x p) c.env) M n R:=fun s Q S k=>by
  refine E2 S.ex fun m news q91=>A3 q91 fun F N f=>?_
  clear q91
  have hk:c.env.kindOf x=some .globalImplicit:=by unfold Env.kindOf; rw [H.en]; exact h
  refine Name_function_global H.ek hk ?_ hd
  have hm:=List.lookup_eq_some_iff.mp hv
  refine E2 hm fun l1 l2 q92=>A2 q92 fun e _=>?_
  try clear hm
  clear q92
  have hmem:(x,v) ∈ eV++dB:=by show _ ∈ vi; rw [e]; exact mem_append_right _ (.head _)
  have G:=H.eg▸H.T.g.keeps F.keep
  rcases mem_append.mp hmem with hm | hm
  · exact loadGlobal_global G (mg_of H.K H.T.g (iq c.w _ hm rfl)) (k _ _ _ _ _ rfl S hr)
  · exact loadGlobal_builtin G (mg_none_of H.K H.T.g (fw c.w _ hm rfl).1) (H.eb▸H.T.b.keeps F.keep) ((H.T.builtins x hn).trans (fw c.w _ hm rfl).2) (k _ _ _ _ _ rfl S hr)
theorem mB {f:Value} (hk:je f=true) (h:Heap) (X:(FK c.w).In h):∃ k,(k=Keeper.frame∨k=Keeper.machine∨k=Keeper.boundFrame)∧Looks (model PG c.w) h (keeperOf f) k:=by
  unfold je at hk
  split at hk
  · exact ⟨.machine,.inr (.inl rfl),.now⟩
  · exact ⟨.machine,.inr (.inl rfl),.now⟩
  · exact keeps_K (vj c.w _ (List.contains_iff_mem.mp hk) rfl) h X
  · cases hk
theorem cz {e:Expr} {r:List Expr} {env:Env} (h:dH e=true):starEach (e::r) env=(false,eval e env)::starEach r env:=by
  cases e <;> first | rfl | cases h
theorem ch {env:Env} {pos:Pos}:∀ {l:List Expr},(∀ e ∈ l,dH e=true)→(backTo pos (starEach l env)).any (·.1)=false
  | [],_=>rfl
  | e::r,h=>by
    rw [cz (h e (.head _))]
    show (false || (backTo pos (starEach r env)).any (·.1))=false
    rw [ch fun e he=>h e (.tail _ he)]; rfl
theorem rP {f:Value} {first:List Value} {pos:Pos} {s:Shared} {Q:Value→Shared→Prop} (H:Cok0 c rm) (hk:je f=true) (S:St c M n s)
    (h:wpAny (model PG c.w) c.A (call f first) Q c.E s):wpAny (model PG c.w) c.A (callWith pos f first (backTo pos (starEach [] c.env)) []) Q c.E s :=
  callWith_of (P:=fun h=>(FK c.w).In h) rfl (fun h X=>mB hk h X) (evalArgs_nil3 ⟨H.key S,by simpa using h⟩)
theorem uz {f:Value} {first:List Value} {e:Expr} {as:List Expr} {pos:Pos} {s:Shared} {Q:Value→Shared→Prop} (H:Cok0 c rm) (hk:je f=true) (hs:∀ x ∈ e::as,dH x=true)
    (h:wpAny (model PG c.w) c.A (spliced (backTo pos (starEach (e::as) c.env))) (fun vs s₁=>(∃ M n,St c M n s₁)∧wpAny (model PG c.w) c.A (call f (first++vs)) Q c.E s₁) c.E s) :
    wpAny (model PG c.w) c.A (callWith pos f first (backTo pos (starEach (e::as) c.env)) []) Q c.E s:=by
  refine callWith_of (P:=fun h=>(FK c.w).In h) (by rw [ch hs]; rfl) (fun h X=>mB hk h X) ?_
  have h':=wpAny_mono h (Q':=fun vs s₁=>(FK c.w).In s₁.heap∧wpAny (model PG c.w) c.A (call f (first++vs)) Q c.E s₁) (fun vs s₁ ⟨⟨M,n,S⟩,h⟩=>⟨H.key S,h⟩) (fun _ _ x=>x)
  rw [cz (hs e (.head _))] at h' ⊢
  exact evalArgs_plain h'
end
end
section
set_option tactic.hygienic false
noncomputable def PE (sc:SC) (e:Expr) (ie:IE):Prop:=∀ c rm,c.sc=sc→Cok0 c rm→∀ k M n,
  (∀ R,wpE c k ie M n R→Tr c (eval e c.env) M n R)∧(∀ R,wpT c k ie M n R→TrB c (isTrue e c.env (eval e c.env)) M n R)
inductive PEs (sc:SC):List Expr→List IE→Prop
  | nil:PEs sc [] []
  | cons {e es ie ies} (hs:dH e=true) (h:PE sc e ie) (t:PEs sc es ies):PEs sc (e::es) (ie::ies)
noncomputable def PX (sc:SC):Cd→Ci→Prop
  | .ex e,.ex ie=>PE sc e ie
  | .exs es,.exs ies=>PEs sc es ies
  | .opt o,.ex ie=>∀ c rm,c.sc=sc→Cok0 c rm→∀ k M n R,wpE c k ie M n R→Tr c (evalPart o c.env) M n R
  | _,_=>False
theorem PEs.stars {sc:SC} {es:List Expr} {ies:List IE} (h:PEs sc es ies):∀ e ∈ es,dH e=true:=by
  induction h with
  | nil=>exact fun _ h=>nomatch h
  | cons hs _ _ ih=>exact fun e he=>(mem_cons.mp he).elim (fun q=>q▸hs) (ih e)
section
variable {sc:SC} {c:Cx} {M:FM} {n:Led} {rm:Nat}
theorem PE.of {e:Expr} {ie:IE} (hv:∀ c rm,c.sc=sc→Cok0 c rm→∀ k M n R,yb c (wpE c k) (wpT c k) ie M n R→Tr c (eval e c.env) M n R)
    (ht:∀ c (f:WE) (g:WT) M n R,xb c f g ie M n R=f ie M n fun v M n=>eX c v M n R)
    (he:∀ env whole,isTrue e env whole=(do let v ← whole; standAt e.pos; holding [v] (truthy v))):PE sc e ie:=fun c rm hc H k M n=>by
  have val:∀ k M n R,wpE c k ie M n R→Tr c (eval e c.env) M n R:=fun k M n R h=>by
    cases k with
    | zero=>exact h.elim
    | succ k=>exact hv c rm hc H k M n R h
  refine ⟨val k M n,fun R h=>?_⟩
  cases k with
  | zero=>exact h.elim
  | succ k =>
    have h2:wpE c k ie M n fun v M n=>eX c v M n R:=(ht c (wpE c k) (wpT c k) M n R)▸h
    exact fun s Q S post=>wpAny_isTrue_value (val k M n _ h2 s _ S fun v' v M' n' s' hv S' hr=>cZ hv hr s' Q S' post) (he _ _)
theorem spl2 {es:List Expr} {ies:List IE} (h:PEs sc es ies) (hc:c.sc=sc) (H:Cok0 c rm) (pos:Pos):∀ k M n R,wpL (wpE c k) ies M n R→TrL c (spliced (backTo pos (starEach es c.env))) M n fun vs M n=>vs.length=es.length∧R vs M n:=by
  induction h with
  | nil=>exact fun k M n R h s Q S post=>args_nil (post _ _ _ _ _ rfl S ⟨rfl,h⟩)
  | cons hs h _ ih =>
    exact fun k M n R hw s Q S post=>args_cons ((h c rm hc H k M n).1 _ hw s _ S fun v' v M' n' s' hv S' hr=>ih k M' n' _ hr s' _ S' fun vs' vs M2 n2 s2 hvs S2 h2=>post _ (v::vs) _ _ _ (.mk hv hvs) S2 ⟨congrArg (· + 1) h2.1,h2.2⟩) (cz hs)
theorem spl {es:List Expr} {ies:List IE} (h:PEs sc es ies) (hc:c.sc=sc) (H:Cok0 c rm) (pos:Pos) (k:Nat) (M:FM) (n:Led) (R:List Value→FM→Led→Prop) (hw:wpL (wpE c k) ies M n R):TrL c (spliced (backTo pos (starEach es c.env))) M n R :=
  fun s Q S post=>spl2 h hc H pos k M n R hw s Q S fun v' v M' n' s' hv S' hr=>post v' v M' n' s' hv S' hr.2
theorem allT {es:List Expr} {ies:List IE} (h:PEs sc es ies) (hc:c.sc=sc) (H:Cok0 c rm):∀ k M n R,(pq (wpT c k) ies M n R→TrB c (allTrue .And es c.env) M n R)∧(qw (wpT c k) ies M n R→TrB c (allTrue .Or es c.env) M n R):=by
  induction h with
  | nil=>exact fun k M n R=>⟨fun h s Q S post=>wpAny_allTrue_And_nil (post _ _ _ _ S h),fun h s Q S post=>wpAny_allTrue_Or_nil (post _ _ _ _ S h)⟩
  | cons hs h _ ih =>
    refine fun k M n R=>⟨fun hw s Q S post=>wpAny_allTrue_And_cons ((h c rm hc H k M n).2 _ hw s _ S fun b M' n' s' S' hr=>?_),fun hw s Q S post=>wpAny_allTrue_Or_cons ((h c rm hc H k M n).2 _ hw s _ S fun b M' n' s' S' hr=>?_)⟩
    · cases b
      · exact post _ _ _ _ S' hr
      · exact (ih k M' n' R).1 hr s' Q S' post
    · cases b
      · exact (ih k M' n' R).2 hr s' Q S' post
      · exact post _ _ _ _ S' hr
theorem qQ {es:List Expr} {ies:List IE} (h:PEs sc es ies) (hc:c.sc=sc) (H:Cok0 c rm) (pos:Pos):∀ k M n R,(uS c (wpE c k) ies M n R→Tr c (boolOp pos .And (evalEach es c.env)) M n R)∧(wpOr c (wpE c k) ies M n R→Tr c (boolOp pos .Or (evalEach es c.env)) M n R):=by
  induction h with
  | nil=>exact fun k M n R=>⟨fun h=>h.elim,fun h=>h.elim⟩
  | @cons e es ie ies hs h t ih =>
    intro k M n R
    cases t with
    | nil=>exact ⟨fun hw=>(h c rm hc H k M n).1 _ hw,fun hw=>(h c rm hc H k M n).1 _ hw⟩
    | @cons e2 es2 ie2 ies2 hs2 h2 t2 =>
      refine ⟨fun hw s Q S post=>?_,fun hw s Q S post=>?_⟩
      · show wpAny _ _ (do
          let v ← eval e c.env
          standAt pos
          let t ← holding [v] (truthy v)
          match BoolOp.And,t with
          | .And,false | .Or,true=>pure v
          | _,_=>boolOp pos .And (evalEach (e2::es2) c.env)) _ _ _
        refine wpAny_bind ((h c rm hc H k M n).1 _ hw s _ S fun v' v M' n' s' hv S' hr=>wpAny_bind (wpAny_standAt (wpAny_bind (wpAny_holding (cZ hv hr s' _ S' fun b M2 n2 s2 S2 hr2=>?_)))))
        cases b
        · exact wpAny_pure (post _ _ _ _ _ hv S2 hr2)
        · exact (ih k M2 n2 R).1 hr2 s2 Q S2 post
      · show wpAny _ _ (do
          let v ← eval e c.env
          standAt pos
          let t ← holding [v] (truthy v)
          match BoolOp.Or,t with
          | .And,false | .Or,true=>pure v
          | _,_=>boolOp pos .Or (evalEach (e2::es2) c.env)) _ _ _
        refine wpAny_bind ((h c rm hc H k M n).1 _ hw s _ S fun v' v M' n' s' hv S' hr=>wpAny_bind (wpAny_standAt (wpAny_bind (wpAny_holding (cZ hv hr s' _ S' fun b M2 n2 s2 S2 hr2=>?_)))))
        cases b
        · exact (ih k M2 n2 R).2 hr2 s2 Q S2 post
        · exact wpAny_pure (post _ _ _ _ _ hv S2 hr2)
theorem dK {x:aE} {o:Obj} (hf:o.isFreed=false) (hx:x.Is c.w o) {s:Shared} (S:St c M n s):St c M ((s.heap.objs.size,x)::n) { s with heap:=s.heap.push o }:=by
  refine E2 S.open fun m news q91=>A5 q91 fun F N f _ k=>?_
  clear q91
  exact k _ _ _ _ s.toks (F.push o) (N.push F o hf) (fun p hp=>Heap.lt_size (N p hp).1) hx
theorem aD.szl {vs' vs:List Value} (h:aD vs' vs) (hl:vs.length≤1000):vs'.length≤sizeLine:=by rw [PySem.sizeLine_eq,h.length]; omega
end
end
section
set_option tactic.hygienic false
section
variable {sc:SC} {c:Cx} {M:FM} {n:Led} {rm:Nat}
theorem eN (env:Env):∀ (l:List (Str×NameKind)) (acc:List (Str×Addr)),(∀ p ∈ l,p.2 = .free→(env.cells.lookup p.1).isSome=true) →
    (forIn l acc fun x r=>(do let (name,kind):=x; if (kind == .free)=true then do let a ← cellOf env name; pure (ForInStep.yield ((name,a)::r)) else pure (ForInStep.yield r):Sem (ForInStep (List (Str×Addr)))))=(pure (aU l env.cells acc):Sem (List (Str×Addr)))
  | [],acc,_=>rfl
  | (x,k)::r,acc,h=>by
    rw [List.forIn_cons]
    by_cases hk:(k == NameKind.free)=true
    · have hs:=h _ (.head _) (by simpa using hk)
      obtain ⟨a,ha⟩:=isSome_iff_exists.mp hs
      have e1:cellOf env x=pure a:=by unfold cellOf; rw [ha]
      simp only [hk,if_true,e1,pure_bind]
      rw [eN env r _ fun p hp=>h p (.tail _ hp)]
      show _=pure (aU r env.cells (if (k == NameKind.free)=true then (x,(env.cells.lookup x).getD 0)::acc else acc))
      rw [if_pos hk,ha]; rfl
    · simp only [hk,if_false,Bool.false_eq_true,pure_bind]
      rw [eN env r _ fun p hp=>h p (.tail _ hp)]
      show _=pure (aU r env.cells (if (k == NameKind.free)=true then (x,(env.cells.lookup x).getD 0)::acc else acc))
      rw [if_neg hk]
theorem bT {scope:Scope} (H:Cok0 c rm) (hk:cx c.sc scope=true):closureFor scope c.env=pure (aU scope.names c.env.cells [])∧scope.kind = .function∧(∀ y ∈ scope.names,y.2≠.cell)∧(∀ y ∈ scope.names,scope.names.lookup y.1=some y.2) ∧
    (∀ y ∈ scope.names,y.2 = .free→c.sc.names.lookup y.1=some .cell∧∃ (i:Nat) (a:Addr),c.sc.vars[i]? = some (some (y.1,true))∧c.vs[i]? = some (dA.cell y.1 a)∧c.env.cells.lookup y.1=some a):=by
  unfold cx at hk
  simp only [Bool.and_eq_true] at hk
  refine A2 hk fun q91 _=>?_
  try clear hk
  refine A2 q91 fun q92 h4=>?_
  try clear q91
  refine A2 q92 fun q93 h3=>?_
  try clear q92
  refine A2 q93 fun h1 h2=>?_
  try clear q93
  have free:∀ y ∈ scope.names,y.2 = .free→c.sc.names.lookup y.1=some .cell∧∃ (i:Nat) (a:Addr),c.sc.vars[i]? = some (some (y.1,true))∧c.vs[i]? = some (dA.cell y.1 a)∧c.env.cells.lookup y.1=some a:=fun y hy hf=>by
    have:=all_eq_true.mp h3 y hy
    rw [hf] at this
    simp only [bne_self_eq_false,Bool.false_or,Bool.and_eq_true] at this
    obtain ⟨q1,q2⟩:=this
    obtain ⟨i,hi⟩:=isSome_iff_exists.mp q2
    refine E1 (H.ec _ _ (cD hi) (by simpa using q1)) fun a q94=>A2 q94 fun e1 e2=>?_
    clear q94
    exact ⟨by simpa using q1,i,a,cD hi,e1,e2⟩
  refine ⟨?_,by simpa using h1,fun y hy=>by simpa using all_eq_true.mp h2 y hy,fun y hy=>by simpa using all_eq_true.mp h4 y hy,free⟩
  have:=eN c.env scope.names [] fun p hp hf=>by obtain ⟨_,i,a,_,_,e⟩:=free p hp hf; rw [e]; rfl
  unfold closureFor
  refine Eq.trans ?_ this
  exact bind_pure _
theorem et {it:Expr} {env:Env} (h:lr it=false) (x:Value):foldedSetIterable it env x=pure x:=by
  cases it <;> first | rfl | cases h
theorem il {s:Shared} {R:Value→FM→Led→Prop} {Q:Value→Shared→Prop} {E:Value→Shared→Prop} (H:Cok0 c rm) (S:St c M n s) (post:∀ v' v M' n' s',Sim v' v→St c M' n' s'→R v M' n'→Q v' s'):tz c s R (fun acc C=>compPost (model PG c.w) c.A E none Q acc C) :=
  fun D C M2 n2 mC m news h tk hr hn hC h0 hne F N f=>⟨mC,hn,fun h' hs=>post _ (.ref D) M2 n2 _ rfl (St.mk' (s:=s) S.sh (qM F hs (Ne.symm hC) h0) (qr N hs hne) f) hr⟩
theorem fP {elt tg it:Expr} {ifs:List Expr} {scope:Scope} {p:Pos} {elt':IE} {t':IT} {it':IE} {ifs':List IE} {k:Nat} {R:Value→FM→Led→Prop}
    (hs:lr it=false) (hk:cx c.sc scope=true) (hi:∀ R,wpE c k it' M n R→Tr c (eval it c.env) M n R) (he:CX (aC c.sc scope) (.ex elt) (.ex elt')) (ht:CT (aC c.sc scope) tg t') (hf:CX (aC c.sc scope) (.exs ifs) (.exs ifs')) (H:Cok0 c rm)
    (h:wpE c k it' M n fun v M n=>DoC c (fN scope.names) elt' t' ifs' v M n R):Tr c (eval (.ListComp elt [⟨tg,it,ifs,0⟩] scope p) c.env) M n R:=fun s Q S post=>by
  refine A5 (bT H hk) fun e1 e2 e3 e4 e5=>?_
  refine ql e1 e2 (fun y hy hl=>by rw [e4 y hy,hl]) (et hs) (hi _ h s _ S fun v' v M' n' s' hv S' hr=>?_)
  unfold DoC at hr
  exact hr elt tg it ifs scope p _ he ht hf hk rfl rfl v' s' _ hv S' (il H S' post)
theorem lB {kE eE tg it:Expr} {ifs:List Expr} {scope:Scope} {p:Pos} {k' e':IE} {t':IT} {it':IE} {ifs':List IE} {k:Nat} {R:Value→FM→Led→Prop}
    (hs:lr it=false) (hk:cx c.sc scope=true) (hi:∀ R,wpE c k it' M n R→Tr c (eval it c.env) M n R) (he:CX (aC c.sc scope) (.ex kE) (.ex k')) (he2:CX (aC c.sc scope) (.ex eE) (.ex e')) (ht:CT (aC c.sc scope) tg t') (hf:CX (aC c.sc scope) (.exs ifs) (.exs ifs')) (H:Cok0 c rm)
    (h:wpE c k it' M n fun v M n=>wK c (fN scope.names) k' e' t' ifs' v M n R):Tr c (eval (.DictComp kE eE [⟨tg,it,ifs,0⟩] scope p) c.env) M n R:=fun s Q S post=>by
  refine A5 (bT H hk) fun e1 e2 e3 e4 e5=>?_
  rw [arm_eval_DictComp]
  refine wpAny_comprehension_free (use:=none) rfl (et hs) e1 e2 (fun y hy hl=>by rw [e4 y hy,hl]) (hi _ h s _ S fun v' v M' n' s' hv S' hr=>?_)
  unfold wK at hr
  refine wpAny_mono (hr kE eE tg it ifs scope p _ he he2 ht hf hk rfl rfl v' s' (fun acc C=>compPost (model PG c.w) c.A c.E none Q acc C) hv S' (il H S' post)) (fun it s₂ h₂=>?_) fun _ _ x=>x
  unfold kI at h₂
  exact h₂
end
end
section
theorem lI {a:Addr} {x y:Str}:∀ {vs:List dA} {i j:Nat},(aj vs).Nodup→vs[i]? = some (.cell x a)→vs[j]? = some (.cell y a)→i=j
  | [],_,_,_,h,_=>by cases h
  | l::vs,i,j,nd,h1,h2=>by
    have mem:∀ {k:Nat} {z:Str},vs[k]? = some (.cell z a)→a ∈ aj vs:=fun h=>bx (mem_of_getElem? h)
    have nd':(aj vs).Nodup:=by
      clear h1 h2
      cases l with
      | cell _ _=>exact (nodup_cons.mp nd).2
      | loc _=>exact nd
      | dead=>exact nd
    have ih:=@lI a x y vs
    cases i with
    | zero =>
      cases j with
      | zero=>rfl
      | succ j=>cases h1; exact absurd (mem h2) (nodup_cons.mp nd).1
    | succ i =>
      cases j with
      | zero=>cases h2; exact absurd (mem h1) (nodup_cons.mp nd).1
      | succ j=>exact congrArg (· + 1) (ih nd' h1 h2)
theorem lA {o:Expr} {x:Str} {env:Env} {whole:Sem Value} (h:jY o=true):attributeBase o x env whole=whole:=by
  cases o <;> first | rfl | (rename_i f as ks p; cases as <;> first | (cases h; done) | (cases f <;> rfl))
section
variable {c:Cx} {M:FM} {n:Led} {rm:Nat}
theorem rf {i j:Nat} {o:Option Value} {v:Value} (h:(M.set i (some v))[j]? = some o):(j=i∧o=some v)∨(j≠i∧M[j]? = some o):=by
  by_cases e:i=j
  · subst e
    rw [List.getElem?_set] at h
    simp only [if_true] at h
    split at h
    · exact .inl ⟨rfl,(Option.some.inj h).symm⟩
    · cases h
  · rw [List.getElem?_set_ne e] at h; exact .inr ⟨Ne.symm e,h⟩
theorem bi {x:Str} {i:Nat} {v v':Value} {R:FM→Led→Prop} (H:Cok0 c rm) (h:cb c.sc x=some i) (hs:Sim v' v) (hr:R (M.set i (some v)) n) :
    ∀ s (Q:Unit→Shared→Prop),St c M n s→(∀ M' n' s',St c M' n' s'→R M' n'→Q () s')→wpAny (model PG c.w) c.A (storeName c.env x v') Q c.E s:=fun s Q S post=>by
  refine E2 S.ex fun m news q91=>A3 q91 fun F N f=>?_
  clear q91
  rcases fU H h with ⟨hk,hl⟩ | ⟨hk,a,hl,hc⟩
  · refine wpAny_storeName_local hk (H.el▸F.ns) (fun h' hn hsb=>post _ _ _ (St.mk' (s:=s) S.sh (F.set (H.el▸hn) (H.el▸hsb)) (N.set (H.el▸hsb)) ⟨⟨by rw [List.length_set]; exact f.vars.1,fun j l o hj ho=>?_⟩,f.ob,f.hid,f.nd⟩) hr) (by rw [H.ek]; rfl)
    clear h hr S
    rcases rf ho with ⟨rfl,rfl⟩ | ⟨hne,ho⟩
    · rw [hl] at hj; cases hj
      show kX (if x=x then some v' else m x) (some v)
      rw [if_pos rfl]; exact congrArg some hs
    · have:=f.vars.2 j l o hj ho
      cases l with
      | loc y =>
        show kX (if y=x then some v' else m y) o
        rw [if_neg fun e=>hne ?_]
        · exact this
        · subst e; exact H.vl _ _ _ hj hl
      | cell y b=>exact this
      | dead=>trivial
  · obtain ⟨o,u,ho,hdt,h3⟩ : wV news m ((M[i]?).getD none) (.cell x a):=by
      have:i < M.length:=f.vars.1▸(List.getElem?_eq_some_iff.mp hl).1
      rw [List.getElem?_eq_getElem this]
      exact f.vars.2 i _ _ hl (List.getElem?_eq_getElem this)
    refine wpAny_storeName_cell H.ek hk hc ⟨o,(N _ ho).1,hdt⟩ fun h' hv hsb=>?_
    refine E1 hv fun o' q92=>A2 q92 fun ho' hdt'=>?_
    try clear hv
    clear q92
    have haL:a≠c.L:=(N _ ho).2.1
    have F':Fr c.h₀ c.L h' m:=⟨F.ns.sameBut hsb (Ne.symm haL),fun b ob e=>(hsb.2 b fun q=>by rw [q,(N _ ho).2.2] at e; cases e).trans (F.keep b ob e),F.above⟩
    have N':News c.h₀ c.L h' ((a,o')::cp a news):=fun p hp=>by
      clear f hl hc hdt'
      rcases mem_cons.mp hp with rfl | hp
      · exact ⟨ho',haL,(N _ ho).2.2⟩
      · refine A2 (ax.mp hp) fun h1 h2=>?_
        exact ⟨(hsb.2 _ h2).trans (N p h1).1,(N p h1).2⟩
    have hpr:a ∈ aj c.vs:=bx (mem_of_getElem? hl)
    have nd:=nodup_append.mp f.nd
    have nd2:=nodup_append.mp nd.2.1
    have off:∀ p ∈ news,(p.1 ∈ n.map (·.1)∨p.1 ∈ c.hid.map (·.1))→p ∈ (a,o')::cp a news:=fun p hp q=>.tail _ (ax.mpr ⟨hp,fun e=>by
      rcases q with q | q
      · exact nd.2.2 _ q _ (mem_append_right _ hpr) e
      · exact nd2.2.2 _ q _ hpr e⟩)
    refine post _ _ _ (St.mk' (s:=s) S.sh F' N' ⟨⟨by rw [List.length_set]; exact f.vars.1,fun j l ov hj hov=>?_⟩,fun p hp=>?_,fun p hp=>?_,f.nd⟩) hr
    · clear h hr S h3
      rcases rf hov with ⟨rfl,rfl⟩ | ⟨hne,hov⟩
      · rw [hl] at hj; cases hj
        exact ⟨o',_,.head _,hdt',congrArg some hs⟩
      · have:=f.vars.2 j l ov hj hov
        cases l with
        | loc y=>exact this
        | cell y b =>
          refine E2 this fun o2 u2 q93=>A2 q93 fun h1 h2=>?_
          try clear this
          clear q93
          exact ⟨o2,u2,.tail _ (ax.mpr ⟨h1,fun e=>hne (lI nd2.2.1 hj (e▸hl))⟩),h2⟩
        | dead=>trivial
    · refine E1 (f.ob p hp) fun o2 q94=>A2 q94 fun h1 h2=>?_
      clear q94
      exact ⟨o2,off _ h1 (.inl (mem_map_of_mem hp)),h2⟩
    · exact off p (f.hid p hp) (.inr (mem_map_of_mem hp))
theorem ey {M:Model} {A:Around} {E:Value→Shared→Prop} {s:Shared} {env:Env} {test body orelse:Expr} {pos:Pos} {whole:Sem Value} {Q:Bool→Shared→Prop}
    (h:wpAny M A (isTrue test env (eval test env)) (fun b s₁=>if b then wpAny M A (isTrue body env (eval body env)) Q E s₁ else wpAny M A (isTrue orelse env (eval orelse env)) Q E s₁) E s):wpAny M A (isTrue (.IfExp test body orelse pos) env whole) Q E s:=by
  rw [arm_isTrue_IfExp]
  refine wpAny_bind (wpAny_mono h (fun b s₁ h₁=>?_) fun _ _ x=>x)
  cases b <;> exact h₁
theorem gg {M:Model} {A:Around} {E:Value→Shared→Prop} {s:Shared} {o:Obj} {f:Addr→Sem Value} {Q:Value→Shared→Prop} (h:wpAny M A (do let s ← alloc o; f s) Q E s):wpAny M A (f s.heap.objs.size) Q E { s with heap:=s.heap.push o }:=fun Γ p hΓ=>by
  have:=h Γ p hΓ
  rw [Sem.wp_bind'] at this
  exact this
theorem qu {v v':Value} (hk:je v=true) (h:Sim v' v):v'=v:=by
  cases v <;> first | exact aa h | exact dN h | exact aR h | cases hk
theorem mQ {sc:SC} {as:List Expr} {ies:List IE} {k:Nat} {fv fv':Value} {fs fs':List Value} {pos:Pos} {R:Value→FM→Led→Prop} (h:PEs sc as ies) (hc:c.sc=sc) (H:Cok0 c rm) (hf:Sim fv' fv) (hfs:aD fs' fs)
    (hw:bif je fv then wpL (wpE c k) ies M n (fun vs M n=>Do c .call (fv::(fs++vs)) M n R) else False):Tr c (callWith pos fv' fs' (backTo pos (starEach as c.env)) []) M n R:=fun s Q S post=>by
  cases hk:je fv with
  | false=>rw [hk] at hw; exact hw.elim
  | true =>
    rw [hk,cond_true] at hw
    cases qu hk hf
    cases h with
    | nil=>exact rP H hk S (hw.tr (.mk hf (by rw [append_nil]; exact hfs)) (.call _ _) s Q S post)
    | cons hs h1 t =>
      have h2:PEs sc _ _:=.cons hs h1 t
      exact uz H hk h2.stars (spl h2 hc H _ k M n _ hw s _ S fun vs' vs M' n' s' hvs S' hr=>⟨⟨M',n',S'⟩,hr.tr (.mk hf (hfs.append hvs)) (.call _ _) s' Q S' post⟩)
theorem uM {o:Value} {x:Str} {pl:Sem Bool} {s:Shared} {A:Around} {M:Model} {Q:Value→Shared→Prop} {E:Value→Shared→Prop} (h:wpAny M A (do let r ← getMethod o x pl; if r.2=[o] then pure r.1 else unsupported "") Q E s):wpAny M A (getMethod o x pl) (fun r s=>r.2=[o]∧Q r.1 s) E s:=fun Γ p hΓ=>by
  have:=h Γ p hΓ
  rw [Sem.wp_bind'] at this
  refine Sem.wp_mono _ Γ _ (fun r p s hr=>?_) (fun _ _ _ x=>x) p s this
  by_cases e:r.2=[o]
  · rw [if_pos e] at hr; exact ⟨e,hr⟩
  · rw [if_neg e] at hr; exact hr.elim
theorem uD {o:Expr} {x:Str} {p:Pos} {env:Env} (hb:jY o=true):eval (.Attribute o x p) env=(do
      let o' ← eval o env
      standAt p.atName
      let r ← holding [o'] (getAttr o' x true)
      letTemporaryGo o o' r
      pure r):=by
  show (do
      let o' ← attributeBase o x env (eval o env)
      standAt p.atName
      let r ← holding [o'] (getAttr o' x true)
      letTemporaryGo o o' r
      pure r)=_
  rw [lA hb]
theorem uJ {o:Expr} {x:Str} {q p:Pos} {as:List Expr} {env:Env} (hb:jY o=true) (hq:(q.endLine == p.line)=true) (hl:decide (as.length < 30)=true) (hs:∀ e ∈ as,dH e=true) :
    eval (.Call (.Attribute o x q) as [] p) env=(do
      let ov ← eval o env
      standAt q.atName
      let (f,first) ← holding [ov] (getMethod ov x (do return (← importBound o env).getD true))
      callWith p f first (backTo p (starEach as env)) []):=by
  show (do
    let ov ← attributeBase o x env (eval o env)
    standAt q.atName
    methodCall o x q p env ov (as.length+0) (backTo p (starEach as env)) [])=_
  have hall:methodCallForm (as.length+0) (backTo p (starEach as env)) []=true:=by
    unfold methodCallForm
    have:=ch (env:=env) (pos:=p) hs
    rw [show ((backTo p (starEach as env)).all fun x=>!x.1)=true from by rw [List.all_eq_not_any_not]; simpa using this]
    simpa using hl
  rw [lA hb]
  unfold methodCall calleeOf methodCallPos
  rw [hall,hq]
  rfl
end
theorem xG {sc:SC} {a:Cd} {b:Ci} (h:CX sc a b):PX sc a b:=by
  refine CX.ind (Q:=PX) (fun sc a b s=>?_) h
  clear h
  induction s with
  | @var x p i h hd =>
    refine PE.of (fun c rm hc H k M n R hw=>?_) (fun _ _ _ _ _ _=>rfl) (fun _ _=>rfl)
    subst hc
    change (match M[i]? with | some (some v)=>R v M n | _=>False) at hw
    cases hm:M[i]? with
    | none=>rw [hm] at hw; exact hw.elim
    | some o =>
      cases o with
      | none=>rw [hm] at hw; exact hw.elim
      | some v=>rw [hm] at hw; exact gb H h hd hm hw
  | glob h hv hd hn=>exact PE.of (fun c rm hc H k M n R hw=>by subst hc; exact vR H h hv hd hn hw) (fun _ _ _ _ _ _=>rfl) (fun _ _=>rfl)
  | int=>exact PE.of (fun c rm hc H k M n R hw s Q S post=>wpAny_Constant_int (post _ (.int _ 0) _ _ _ rfl (S.tok _) hw)) (fun _ _ _ _ _ _=>rfl) (fun _ _=>rfl)
  | str=>exact PE.of (fun c rm hc H k M n R hw s Q S post=>wpAny_Constant_str (post _ (.str _ 0) _ _ _ rfl (S.tok _) hw)) (fun _ _ _ _ _ _=>rfl) (fun _ _=>rfl)
  | byt=>exact PE.of (fun c rm hc H k M n R hw s Q S post=>Constant_bytes (post _ (.bytes _ 0) _ _ _ rfl (S.tok _) hw)) (fun _ _ _ _ _ _=>rfl) (fun _ _=>rfl)
  | non=>exact PE.of (fun c rm hc H k M n R hw s Q S post=>wpAny_Constant_none (post _ _ _ _ _ rfl S hw)) (fun _ _ _ _ _ _=>rfl) (fun _ _=>rfl)
  | bool=>exact PE.of (fun c rm hc H k M n R hw s Q S post=>wpAny_Constant_bool (post _ _ _ _ _ rfl S hw)) (fun _ _ _ _ _ _=>rfl) (fun _ _=>rfl)
  | bin h91 h92 =>
    have ihl:=h91.2
    clear h91
    have ihr:=h92.2
    clear h92
    exact PE.of (fun c rm hc H k M n R hw s Q S post=>wpAny_BinOp ((ihl c rm hc H k M n).1 _ hw s _ S fun v' v M' n' s' hv S' hr=>(ihr c rm hc H k M' n').1 _ hr s' _ S' fun u' u M2 n2 s2 hu S2 hr2=>vI hv hu hr2 s2 Q S2 post)) (fun _ _ _ _ _ _=>rfl) (fun _ _=>rfl)
  | neg h93 =>
    have ih:=h93.2
    clear h93
    refine PE.of (fun c rm hc H k M n R hw s Q S post=>wpAny_UnaryOp ((ih c rm hc H k M n).1 _ hw s _ S fun v' v M' n' s' hv S' hr=>?_)) (fun _ _ _ _ _ _=>rfl) (fun _ _=>rfl)
    cases v <;> first | (obtain ⟨u,rfl⟩:=ah hv; exact P.neg_int (post _ (.int _ 0) _ _ _ rfl (S'.tok _) hr)) | exact hr.elim
  | not h94 =>
    have ih:=h94.2
    clear h94
    refine fun c rm hc H k M n=>⟨fun R hw=>?_,fun R hw=>?_⟩
    · cases k with
      | zero=>exact hw.elim
      | succ k=>exact fun s Q S post=>wpAny_UnaryOp ((ih c rm hc H k M n).1 _ hw s _ S fun v' v M' n' s' hv S' hr=>not_value (cZ hv hr s' _ S' fun b M2 n2 s2 S2 hr2=>post _ _ _ _ _ rfl S2 hr2))
    · cases k with
      | zero=>exact hw.elim
      | succ k=>exact fun s Q S post=>wpAny_isTrue_Not ((ih c rm hc H k M n).2 _ hw s _ S fun b M' n' s' S' hr=>post _ _ _ _ S' hr)
  | cmp hm h95 h96 =>
    have ihl:=h95.2
    clear h95
    have ihr:=h96.2
    clear h96
    refine fun c rm hc H k M n=>⟨fun R hw=>?_,fun R hw=>?_⟩
    · cases k with
      | zero=>exact hw.elim
      | succ k=>exact fun s Q S post=>wpAny_Compare1 ((ihl c rm hc H k M n).1 _ hw s _ S fun v' v M' n' s' hv S' hr=>(ihr c rm hc H k M' n').1 _ hr s' _ S' fun u' u M2 n2 s2 hu S2 hr2=>qY hv hu hr2 s2 Q S2 post) hm
    · cases k with
      | zero=>exact hw.elim
      | succ k =>
        cases k with
        | zero=>exact hw.elim
        | succ k=>exact fun s Q S post=>wpAny_isTrue_Compare1 ((ihl c rm hc H k M n).1 _ hw s _ S fun v' v M' n' s' hv S' hr=>(ihr c rm hc H k M' n').1 _ hr s' _ S' fun u' u M2 n2 s2 hu S2 hr2=>qY hv hu hr2 s2 _ S2 fun w' w M3 n3 s3 hw' S3 hr3=>cZ hw' hr3 s3 Q S3 post) hm
  | and h97 =>
    have ih:=h97.2
    clear h97
    refine fun c rm hc H k M n=>⟨fun R hw=>?_,fun R hw=>?_⟩
    · cases k with
      | zero=>exact hw.elim
      | succ k=>exact fun s Q S post=>(qQ ih hc H _ k M n R).1 hw s Q S post
    · cases k with
      | zero=>exact hw.elim
      | succ k=>exact fun s Q S post=>wpAny_isTrue_BoolOp ((allT ih hc H k M n R).1 hw s Q S post)
  | or h98 =>
    have ih:=h98.2
    clear h98
    refine fun c rm hc H k M n=>⟨fun R hw=>?_,fun R hw=>?_⟩
    · cases k with
      | zero=>exact hw.elim
      | succ k=>exact fun s Q S post=>(qQ ih hc H _ k M n R).2 hw s Q S post
    · cases k with
      | zero=>exact hw.elim
      | succ k=>exact fun s Q S post=>wpAny_isTrue_BoolOp ((allT ih hc H k M n R).2 hw s Q S post)
  | ife h99 h910 h911 =>
    have iht:=h99.2
    clear h99
    have iha:=h910.2
    clear h910
    have ihb:=h911.2
    clear h911
    refine fun c rm hc H k M n=>⟨fun R hw=>?_,fun R hw=>?_⟩
    · cases k with
      | zero=>exact hw.elim
      | succ k =>
        refine fun s Q S post=>wpAny_IfExp ((iht c rm hc H k M n).2 _ hw s _ S fun b M' n' s' S' hr=>?_)
        cases b
        · exact (ihb c rm hc H k M' n').1 _ hr s' Q S' post
        · exact (iha c rm hc H k M' n').1 _ hr s' Q S' post
    · cases k with
      | zero=>exact hw.elim
      | succ k =>
        refine fun s Q S post=>ey ((iht c rm hc H k M n).2 _ hw s _ S fun b M' n' s' S' hr=>?_)
        cases b
        · exact (ihb c rm hc H k M' n').2 _ hr s' Q S' post
        · exact (iha c rm hc H k M' n').2 _ hr s' Q S' post
  | call hf h =>
    have ihf:=hf.2
    clear hf
    have ihs:=h.2
    clear h
    refine PE.of (fun c rm hc H k M n R hw s Q S post=>Call_ ((ihf c rm hc H k M n).1 _ hw s _ S fun v' v M' n' s' hv S' hr=>mQ ihs hc H hv (.refl []) hr s' Q S' post)) (fun _ _ _ _ _ _=>rfl) (fun _ _=>rfl)
  | meth hb hq hl ho h =>
    have iho:=ho.2
    clear ho
    have ihs:=h.2
    clear h
    exact PE.of (fun c rm hc H k M n R hw s Q S post=>MethodCall_ ((iho c rm hc H k M n).1 _ hw s _ S fun v' v M' n' s' hv S' hr=>wpAny_mono (uM (hr.tr (.one hv) (.meth _ _ _) s' _ S' fun w' w M2 n2 s2 hw' S2 hr2=>mQ ihs hc H hw' (.one hv) hr2 s2 Q S2 post)) (fun r s3 ⟨e,h3⟩=>e▸h3) fun _ _ x=>x) (uJ hb hq hl ihs.stars)) (fun _ _ _ _ _ _=>rfl) (fun _ _=>rfl)
  | attr hb ho =>
    have ih:=ho.2
    clear ho
    exact PE.of (fun c rm hc H k M n R hw s Q S post=>Attribute_any_ ((ih c rm hc H k M n).1 _ hw s _ S fun v' v M' n' s' hv S' hr=>hr.tr (.one hv) (.getA _ _ _) s' Q S' post) (uD hb)) (fun _ _ _ _ _ _=>rfl) (fun _ _=>rfl)
  | slc ho h1 h2 =>
    have iho:=ho.2
    clear ho
    have ih1:=h1.2
    clear h1
    have ih2:=h2.2
    clear h2
    exact PE.of (fun c rm hc H k M n R hw s Q S post=>Subscript_ ((iho c rm hc H k M n).1 _ hw s _ S fun v' v M' n' s' hv S' hr=>wpAny_Slice (ih1 c rm hc H k M' n' _ hr s' _ S' fun a' a M2 n2 s2 ha S2 hr2=>ih2 c rm hc H k M2 n2 _ hr2 s2 _ S2 fun b' b M3 n3 s3 hb S3 hr3=>wpAny_pure
      (gg (hr3.tr (.mk hv (.two ha hb)) (.slice _ _ _ _ _ _ _ _) s3 Q S3 post))))) (fun _ _ _ _ _ _=>rfl) (fun _ _=>rfl)
  | slc3 ho h1 h2 h3 =>
    have iho:=ho.2
    clear ho
    have ih1:=h1.2
    clear h1
    have ih2:=h2.2
    clear h2
    have ih3:=h3.2
    clear h3
    exact PE.of (fun c rm hc H k M n R hw s Q S post=>Subscript_ ((iho c rm hc H k M n).1 _ hw s _ S fun v' v M' n' s' hv S' hr=>wpAny_Slice (ih1 c rm hc H k M' n' _ hr s' _ S' fun a' a M2 n2 s2 ha S2 hr2=>ih2 c rm hc H k M2 n2 _ hr2 s2 _ S2 fun b' b M3 n3 s3 hb S3 hr3=>(ih3 c rm hc H k M3 n3).1 _ hr3 s3 _ S3 fun d' d M4 n4 s4 hd S4 hr4 =>
      gg (hr4.tr (.mk hv (.mk ha (.two hb hd))) (.slice3 _ _ _ _ _ _ _ _ _ _) s4 Q S4 post)))) (fun _ _ _ _ _ _=>rfl) (fun _ _=>rfl)
  | sub ho h1 =>
    have iho:=ho.2
    clear ho
    have ih1:=h1.2
    clear h1
    exact PE.of (fun c rm hc H k M n R hw s Q S post=>Subscript_ ((iho c rm hc H k M n).1 _ hw s _ S fun v' v M' n' s' hv S' hr=>(ih1 c rm hc H k M' n').1 _ hr s' _ S' fun u' u M2 n2 s2 hu S2 hr2=>hr2.tr (.two hv hu) (.sub _ _ _ _) s2 Q S2 post)) (fun _ _ _ _ _ _=>rfl) (fun _ _=>rfl)
  | lst h =>
    have ih:=h.2
    clear h
    refine PE.of (fun c rm hc H k M n R hw s Q S post=>wpAny_List (spl ih hc H _ k M n _ hw s _ S fun vs' vs M' n' s' hv S' hr=>?_)) (fun _ _ _ _ _ _=>rfl) (fun _ _=>rfl)
    cases hl:decide (vs.length≤1000) with
    | false=>rw [hl] at hr; exact hr.elim
    | true=>rw [hl,cond_true] at hr; exact ⟨hv.szl (of_decide_eq_true hl),post _ (.ref _) _ _ _ rfl (dK (x:=.list vs) rfl ⟨vs',0,hv,rfl⟩ S') (hr _)⟩
  | tup h =>
    have ih:=h.2
    clear h
    refine PE.of (fun c rm hc H k M n R hw s Q S post=>wpAny_Tuple (spl ih hc H _ k M n _ hw s _ S fun vs' vs M' n' s' hv S' hr=>?_)) (fun _ _ _ _ _ _=>rfl) (fun _ _=>rfl)
    cases hl:decide (vs.length≤1000) with
    | false=>rw [hl] at hr; exact hr.elim
    | true=>rw [hl,cond_true] at hr; exact ⟨hv.szl (of_decide_eq_true hl),post _ (.ref _) _ _ _ rfl (dK (x:=.tup vs) rfl ⟨vs',hv,rfl⟩ S') (hr _)⟩
  | dict0 =>
    refine PE.of (fun c rm hc H k M n R hw s Q S post=>?_) (fun _ _ _ _ _ _=>rfl) (fun _ _=>rfl)
    refine E2 S.open fun m news q91=>A5 q91 fun F N f _ k2=>?_
    clear q91
    exact newDict_K F N H.T.nolimit fun d h' o F' N' lt ds ho _ _ _=>post _ (.ref d) _ _ _ rfl (k2 d o (.dict []) h' s.toks F' N' lt ⟨[],rfl,ho⟩) (hw d ds)
  | walrus hx h =>
    have ih:=h.2
    clear h
    refine PE.of (fun c rm hc H k M n R hw s Q S post=>wpAny_NamedExpr ((ih c rm hc H k M n).1 _ hw s _ S fun v' v M' n' s' hv S' hr=>?_)) (fun _ _ _ _ _ _=>rfl) (fun _ _=>rfl)
    clear ih
    subst hc
    exact wpAny_assign_Name (bi (R:=fun M n=>R v M n) H hx hv hr s' _ S' fun M2 n2 s2 S2 hr2=>post _ _ _ _ _ hv S2 hr2)
  | lcomp hs hk hi he ht hf =>
    have ihi:=hi.2
    clear hi
    replace he:=he.1
    replace hf:=hf.1
    exact PE.of (fun c rm hc H k M n R hw=>by subst hc; exact fP hs hk (ihi c rm rfl H k M n).1 he ht hf H hw) (fun _ _ _ _ _ _=>rfl) (fun _ _=>rfl)
  | dcomp hs hk hi ha hb ht hf =>
    have ihi:=hi.2
    clear hi
    replace ha:=ha.1
    replace hb:=hb.1
    replace hf:=hf.1
    exact PE.of (fun c rm hc H k M n R hw=>by subst hc; exact lB hs hk (ihi c rm rfl H k M n).1 ha hb ht hf H hw) (fun _ _ _ _ _ _=>rfl) (fun _ _=>rfl)
  | nil=>exact .nil
  | cons hs h912 h913 =>
    have ih:=h912.2
    clear h912
    have ihs:=h913.2
    clear h913
    exact .cons hs ih ihs
  | onone =>
    intro c rm hc H k M n R hw
    cases k with
    | zero=>exact hw.elim
    | succ k=>exact fun s Q S post=>wpAny_pure (post _ _ _ _ _ rfl S hw)
  | osome h914 =>
    have ih:=h914.2
    clear h914
    exact fun c rm hc H k M n R hw=>(ih c rm hc H k M n).1 R hw
  | raw =>
    refine fun c rm hc H k M n=>⟨fun R hw=>?_,fun R hw=>?_⟩
    · cases k with
      | zero=>exact hw.elim
      | succ k=>exact Do.tr hw (.refl _) (.ev _)
    · cases k with
      | zero=>exact hw.elim
      | succ k=>exact lV (Do.tr hw (.refl _) (.tst _))
end
section
set_option tactic.hygienic false
noncomputable def TrF (c:Cx) (t:Sem Flow) (M:FM) (n:Led) (R:Flow→FM→Led→Prop):Prop :=
  ∀ s Q,St c M n s→(∀ f' f M' n' s',pe f' f→St c M' n' s'→R f M' n'→Q f' s')→wpAny (model PG c.w) c.A t Q c.E s
noncomputable def TrU (c:Cx) (t:Sem Unit) (M:FM) (n:Led) (R:FM→Led→Prop):Prop :=
  ∀ s (Q:Unit→Shared→Prop),St c M n s→(∀ M' n' s',St c M' n' s'→R M' n'→Q () s')→wpAny (model PG c.w) c.A t Q c.E s
section
variable {c:Cx} {M:FM} {n:Led} {rm:Nat}
theorem St.keep {s:Shared} (S:St c M n s) {h':Heap} {t:Nat} (k:∀ b o,s.heap.get? b=some o→h'.get? b=some o):St c M n { s with heap:=h',toks:=t }:=by
  obtain ⟨e,m,news,F,N,f⟩:=S
  exact St.mk' e ⟨F.ns.keeps k,fun b o e=>k b o (F.keep b o e),F.above⟩ (fun p hp=>⟨k _ _ (N p hp).1,(N p hp).2⟩) f
theorem aL {st:Stmt} {r:List Stmt} {f:WS} {r':List IS} {R:Flow→FM→Led→Prop} (h:TrF c (exec st c.env) M n (sv f r' R)) (ih:∀ M n,f r' M n R→TrF c (execs r c.env) M n R):TrF c (execs (st::r) c.env) M n R :=
  fun s Q S post=>wpAny_execs_cons (h s _ S fun f' f M' n' s' hf S' hr=>by
    cases f' <;> cases f <;> first | exact hf.elim | exact ih M' n' hr s' Q S' post | exact post _ _ _ _ _ hf S' hr)
theorem qi {e:Expr} (h:mc e=false) (t:Option Expr) (l:Nat) (env:Env):swapsWith e t l env=pure false:=by
  cases e <;> first | rfl | cases h
theorem sP {e o i:Expr} {q:Pos} (l:Nat) (env:Env):swapsWith e (some (.Subscript o i q)) l env=pure false:=by
  cases e <;> rfl
theorem tB {e o:Expr} {x:Str} {q:Pos} (l:Nat) (env:Env):swapsWith e (some (.Attribute o x q)) l env=pure false:=by
  cases e <;> rfl
theorem mv {e:Expr} {ts:List Expr} {k:Nat} {q:Pos} (l:Nat) (env:Env):swapsWith e (some (.Tuple ts k q)) l env=pure false:=by
  cases e <;> rfl
theorem oX {elt:Expr} {gs:List Comprehension} {scope:Scope} {p2:Pos} {x:Str} {q:Pos} (l:Nat) (env:Env):∃ b,swapsWith (.ListComp elt gs scope p2) (some (.Name x q)) l env=pure b∧(b=true→env.kindOf x=some .local):=by
  refine ⟨_,rfl,fun h=>?_⟩
  simp only [Bool.and_eq_true] at h
  simpa using h.1.1.2
theorem tL (H:Cok0 c rm):c.env.blockKind = .function:=by unfold Env.blockKind; rw [H.ek]; rfl
theorem mo (H:Cok0 c rm):∀ {xs:List Str} {is:List Nat} {us vs:List Value} {M:FM} {n:Led} {R:FM→Led→Prop},xs.map (cb c.sc)=is.map some→aD us vs→vs.length=is.length→R (dW (is.zip vs) M) n→TrU c (assignInOrder (xs.map fun x=>bindName c.env x) us) M n R
  | [],[],us,[],M,n,R,_,hs,_,hr=>fun s Q S post=>by cases hs.nil; exact wpAny_assignInOrder_none (post _ _ _ S hr)
  | x::xs,i::is,us,v::vs,M,n,R,hx,hs,hl,hr=>fun s Q S post=>by
    refine E2 hs.cons fun u us' q91=>A3 q91 fun e92 hu hs'=>?_
    clear q91
    first | subst e92 | cases e92
    obtain ⟨h1,h2⟩:=List.cons.inj hx
    exact wpAny_assignInOrder_more (wpAny_bindName (bi (R:=fun M' n'=>M'=M.set i (some v)∧n'=n) H h1 hu ⟨rfl,rfl⟩ s _ S fun M' n' s' S' ⟨e1,e2⟩=>by
      subst e1 e2
      exact mo H h2 hs' (Nat.succ.inj hl) hr s' Q S' post))
  | [],_::_,_,_,_,_,_,hx,_,_,_=>nomatch hx
  | _::_,[],_,_,_,_,_,hx,_,_,_=>nomatch hx
  | [],[],_,_::_,_,_,_,_,_,hl,_=>nomatch hl
  | _::_,_::_,_,[],_,_,_,_,_,hl,_=>nomatch hl
theorem fW (H:Cok0 c rm) {ts:List Expr} {is:List Nat} (h:CTs c.sc ts is):∀ {us vs:List Value} {M:FM} {n:Led} {R:FM→Led→Prop},aD us vs→vs.length=is.length→R (dW (is.zip vs) M) n→TrU c (assignInOrder (ts.map fun t=>assign t c.env) us) M n R:=by
  induction h with
  | nil =>
    intro us vs M n R hs hl hr s Q S post
    cases vs with
    | nil=>cases hs.nil; exact wpAny_assignInOrder_none (post _ _ _ S hr)
    | cons _ _=>cases hl
  | @cons x p i es is hx t ih =>
    intro us vs M n R hs hl hr s Q S post
    cases vs with
    | nil=>cases hl
    | cons v vs =>
      refine E2 hs.cons fun u us' q91=>A3 q91 fun e92 hu hs'=>?_
      clear q91
      first | subst e92 | cases e92
      exact wpAny_assignInOrder_more (wpAny_assign_Name (bi (R:=fun M' n'=>M'=M.set i (some v)∧n'=n) H hx hu ⟨rfl,rfl⟩ s _ S fun M' n' s' S' ⟨e1,e2⟩=>by
        subst e1 e2
        exact ih hs' (Nat.succ.inj hl) hr s' Q S' post))
theorem km {ts:List Expr} {is:List Nat} (h:CTs c.sc ts is):∃ xs:List Str,xs.map (cb c.sc)=is.map some∧ts.length=xs.length∧ts.length=is.length∧(∀ env,(assignEach ts env).map (·.2)=ts.map fun t=>assign t env)∧(∀ env,(assignEach ts env).length=ts.length)∧(∀ env,(assignEach ts env).findIdx? (·.1)=none) ∧
    ts.filterMap pd=xs:=by
  induction h with
  | nil=>exact ⟨[],rfl,rfl,rfl,fun _=>rfl,fun _=>rfl,fun _=>rfl,rfl⟩
  | @cons x p i es is hx t ih =>
    refine E1 ih fun xs q91=>A7 q91 fun h1 h2 h3 h4 h5 h6 h8=>?_
    try clear ih
    clear q91
    refine ⟨x::xs,by rw [map_cons,map_cons,hx,h1],by rw [length_cons,length_cons,h2],by rw [length_cons,length_cons,h3],fun env=>?_,fun env=>?_,fun env=>?_,?_⟩
    · show assign _ env::(assignEach es env).map (·.2)=_
      rw [h4]; rfl
    · show (assignEach es env).length+1=_
      rw [h5]; rfl
    · show ((false,assign (.Name x p) env)::assignEach es env).findIdx? (·.1)=none
      rw [List.findIdx?_cons]; simp [h6 env]
    · show x::es.filterMap pd=_
      rw [h8]
end
end
section
set_option tactic.hygienic false
section
variable {c:Cx} {M:FM} {n:Led} {rm:Nat}
theorem sW {T:List Expr} {V:Expr} {e e':Env} (h1:e.blockKind=e'.blockKind) (h2:e.kindOf=e'.kindOf):swappedStores T V e=swappedStores T V e':=by
  unfold swappedStores
  rw [h1,h2]
theorem vX (H:Cok0 c rm) {ts es:List Expr} {k k2:Nat} {q q2:Pos} {rev:Bool} {xs:List Str} (h:bD c.sc ts es rev) (hx:ts.filterMap pd=xs) :
    swappedStores [.Tuple ts k q] (.Tuple es k2 q2) c.env=pure (bif rev then some xs else none)∧es.length=ts.length∧es.length≤3:=by
  refine ⟨?_,h.2.1,Nat.le_of_ble_eq_true h.2.2⟩
  rw [← hx,← h.1 k q k2 q2]
  refine sW (tL H) (funext fun y=>?_)
  unfold Env.kindOf
  rw [H.en]; rfl
end
end
section
set_option tactic.hygienic false
section
variable {c:Cx} {M:FM} {n:Led} {rm:Nat}
theorem ld_tr {x:Str} {i:Nat} {v:Value} {R:Value→FM→Led→Prop} (H:Cok0 c rm) (h:cb c.sc x=some i) (hv:M[i]? = some (some v)) (hr:R v M n):Tr c (loadName c.env x) M n R:=fun s Q S k=>by
  refine E2 S.ex fun m news q91=>A3 q91 fun F N f=>?_
  clear q91
  rcases fU H h with ⟨hk,hl⟩ | ⟨hk,a,hl,hc⟩
  · refine E1 (cC (f.vars.2 _ _ _ hl hv)) fun u q92=>A2 q92 fun hu hs=>?_
    clear q92
    exact wpAny_loadName_local H.ek hk (H.el▸F.ns) hu (k _ _ _ _ _ hs S hr)
  · refine E2 (f.vars.2 _ _ _ hl hv) fun o u q93=>A3 q93 fun ho hdt h3=>?_
    clear q93
    refine E1 (cC h3) fun u' q94=>A2 q94 fun e95 hs=>?_
    clear q94
    clear h3
    first | subst e95 | cases e95
    exact wpAny_loadName_cell H.ek hk hc ⟨o,(N _ ho).1,hdt⟩ (k _ _ _ _ _ hs S hr)
theorem Tr.un {t:Sem Unit} {R:FM→Led→Prop} (h:Tr c (do t; pure Value.none) M n fun _ M n=>R M n):TrU c t M n R:=fun s Q S post=>by
  have:=h s (fun _ s=>Q () s) S fun v' v M' n' s' hv S' hr=>post M' n' s' S' hr
  intro Γ p hΓ
  have h2:=this Γ p hΓ
  rw [Sem.wp_bind'] at h2
  exact h2
theorem CX.e {sc:SC} {e:Expr} {ie:IE} (h:CX sc (.ex e) (.ex ie)):PE sc e ie:=xG h
theorem CX.es {sc:SC} {e:List Expr} {ie:List IE} (h:CX sc (.exs e) (.exs ie)):PEs sc e ie:=xG h
theorem xX (hh:c.A.handled=none) {ts:List Expr} {is:List Nat} {rev:Bool} {xs:List Str} {k:Nat} {q:Pos} {es:List Expr} {k2:Nat} {q2:Pos} {s:Shared} {Q:Flow→Shared→Prop} {us vs:List Value} {D:Addr} (H:Cok0 c rm)
    (hts:CTs c.sc ts is) (hxs:xs.map (cb c.sc)=is.map some) (hsw:swappedStores [.Tuple ts k q] (.Tuple es k2 q2) c.env=pure (bif rev then some xs else none)) (hl:vs.length=is.length) (hlx:is.length=xs.length) (ht:us.length=vs.length) (hs:aD us vs)
    (h4:∀ env,(assignEach ts env).map (·.2)=ts.map fun t=>assign t env) (h5:∀ env,(assignEach ts env).length=ts.length) (h6:∀ env,(assignEach ts env).findIdx? (·.1)=none) (h3:ts.length=is.length)
    (S:St c M n s) (hD:IsTup s.heap D us.toArray)
    (post:∀ s',St c (dW (bif rev then is.reverse.zip vs.reverse else is.zip vs) M) n s'→Q Flow.next s') :
    wpAny (model PG c.w) c.A (assignStores c.env (.ref D) (bif rev then some xs else none) ((assignEach [.Tuple ts k q] c.env).map (·.2))) Q c.E s:=by
  have keepS:∀ h',Heap.ExtBut s.heap.objs.size s.heap h'→St c M n { s with heap:=h' }:=fun h' he=>S.keep fun b o e=>he b o (Nat.ne_of_lt (Heap.lt_size e)) e
  clear hsw
  cases rev with
  | true =>
    show wpAny _ _ (do
      rule "assign.swapped-stores"
      let items ← unpackItems (.ref D) xs.length none
      assignInOrder (xs.reverse.map fun n=>bindName c.env n) items.reverse
      pure Flow.next) _ _ _
    refine wpAny_bind (wpAny_rule (wpAny_bind ?_))
    rw [show xs.length=us.toArray.size from by rw [size_toArray,ht,hl,hlx]]
    refine unpackItems_tuple hh hD fun h' he=>?_
    refine wpAny_bind (mo (R:=fun M' n'=>M'=dW (is.reverse.zip vs.reverse) M∧n'=n) H (xs:=xs.reverse) (is:=is.reverse) (us:=us.reverse) (vs:=vs.reverse) (by rw [map_reverse,map_reverse,hxs]) (by show us.reverse.map vst=vs.reverse.map vst; rw [map_reverse,map_reverse,hs]) (by simpa using hl) ⟨rfl,rfl⟩ _ _ (keepS h' he) fun M' n' s' S' ⟨e1,e2⟩=>?_)
    subst e1 e2
    exact wpAny_pure (post s' S')
  | false =>
    show wpAny _ _ (do assign (.Tuple ts k q) c.env (.ref D); pure Flow.next) _ _ _
    refine wpAny_bind (assign_Tuple_tuple hh hD (by rw [h5,h3,size_toArray,ht,hl]) (h6 _) fun h' he=>?_)
    rw [h4]
    refine fW (R:=fun M' n'=>M'=dW (is.zip vs) M∧n'=n) H hts hs hl ⟨rfl,rfl⟩ _ _ (keepS h' he) fun M' n' s' S' ⟨e1,e2⟩=>?_
    subst e1 e2
    exact wpAny_pure (post s' S')
theorem cj {α:Type} {a:α} {l r:List α}:(l++a::r).Nodup↔(a::(l++r)).Nodup:=perm_middle.nodup_iff
noncomputable def Cx.hide (c:Cx) (a:Addr) (o:Obj):Cx:={ c with hid:=(a,o)::c.hid }
theorem Cok0.hide (H:Cok0 c rm) (a:Addr) (o:Obj):Cok0 (c.hide a o) rm:={ H with lf:=H.lf.imp id fun ⟨oL,h,k⟩=>⟨oL,.tail _ h,k⟩ }
theorem Cok.hide (H:Cok c rm) (a:Addr) (o:Obj):Cok (c.hide a o) rm:={ H.toCok0.hide a o with hh:=H.hh }
theorem St.hide {s:Shared} {h:Heap} {t:Nat} {m:Str→Option Value} {news:List (Addr×Obj)} {a:Addr} {o:Obj} (e:s = { c.s₀ with heap:=s.heap,toks:=s.toks }) (F:Fr c.h₀ c.L h m) (N:News c.h₀ c.L h news) (f:ce c M n m news)
    (hn:∀ p ∈ news,p.1≠a) (ho:h.get? a=some o) (hL:a≠c.L) (h0:c.h₀.get? a=none):St (c.hide a o) M n { s with heap:=h,toks:=t } :=
  St.mk' (c:=c.hide a o) e F (news:=(a,o)::news) (fun p hp=>by
    rcases mem_cons.mp hp with rfl | hp
    · exact ⟨ho,hL,h0⟩
    · exact N p hp)
    ⟨dT f.vars fun _ _ _ h=>.tail _ h,fun p hp=>by obtain ⟨o',h1,h2⟩:=f.ob p hp; exact ⟨o',.tail _ h1,h2⟩,fun p hp=>by
      rcases mem_cons.mp hp with rfl | hp
      · exact .head _
      · exact .tail _ (f.hid p hp),by
      show (n.map (·.1)++a::c.priv).Nodup
      rw [cj]
      exact nodup_cons.mpr ⟨f.off hn,f.nd⟩⟩
theorem St.unhide {s:Shared} {h':Heap} {t:Nat} {a:Addr} {o:Obj} (S:St (c.hide a o) M n s) (hs:Heap.SameBut a s.heap h'):St c M n { s with heap:=h',toks:=t }:=by
  obtain ⟨e,m,news,F,N,f⟩:=S
  have nd:(n.map (·.1)++a::c.priv).Nodup:=f.nd
  rw [cj] at nd
  obtain ⟨n1,n2⟩:=nodup_cons.mp nd
  have ha:=N _ (f.hid (a,o) (.head _))
  have off:∀ p ∈ news,p.1 ∈ n.map (·.1)++c.priv→p ∈ cp a news:=fun p hp q=>ax.mpr ⟨hp,fun e=>n1 (e▸q)⟩
  refine St.mk' (c:=c) e (qM F hs (Ne.symm ha.2.1) ha.2.2) (news:=cp a news) (fun p hp=>?_) ⟨dT f.vars fun b hb o' h=>off _ h (mem_append_right _ (mem_append_right _ hb)),fun p hp=>?_,fun p hp=>off p (f.hid p (.tail _ hp)) (mem_append_right _ (mem_append_left _ (mem_map_of_mem hp))),n2⟩
  · obtain ⟨h1,h2⟩:=ax.mp hp
    exact ⟨(hs.2 _ h2).trans (N p h1).1,(N p h1).2⟩
  · obtain ⟨o',h1,h2⟩:=f.ob p hp
    exact ⟨o',off _ h1 (mem_append_left _ (mem_map_of_mem hp)),h2⟩
theorem St.hidden {s:Shared} {a:Addr} {o:Obj} (S:St (c.hide a o) M n s):s.heap.get? a=some o:=by
  obtain ⟨e,m,news,F,N,f⟩:=S
  exact (N _ (f.hid (a,o) (.head _))).1
theorem oz {x:Str} {i:Nat} {v v':Value} {R:FM→Led→Prop} {a:Addr} {o:Obj} (H:Cok0 c rm) (h:cb c.sc x=some i) (hs:Sim v' v) (hr:R (M.set i (some v)) n) (s:Shared) (Q:Unit→Shared→Prop)
    (S:St (c.hide a o) M n s) (post:∀ M' n' s',St (c.hide a o) M' n' s'→R M' n'→Q () s'):wpAny (model PG c.w) c.A (storeName c.env x v') Q c.E s :=
  bi (c:=c.hide a o) (H.hide a o) h hs hr s Q S post
theorem unsw {ts:List Expr} {k:Nat} {q:Pos} {e:Expr} {env:Env} (h:isTup e=false):swappedStores [.Tuple ts k q] e env=pure none:=by
  cases e <;> first | rfl | cases h
theorem wq {e:Expr} (h:ua e=true):mc e=false∧∀ p a,dropValue e p (.ref a)=(do standAt p; let _ ← runValue (.builtin "proto.let_go" {}); pure .next):=by
  cases e <;> first | exact ⟨rfl,fun _ _=>rfl⟩ | cases h
theorem Tr.nx {a:Sem Unit} {b:Sem Value} {R:FM→Led→Prop} (h:Tr c (do a; let _ ← b; pure Value.none) M n fun _ M n=>R M n):TrF c (do a; let _ ← b; pure Flow.next) M n fun f M n=>f = .next∧R M n:=fun s Q S post=>by
  have:=h s (fun _ s=>Q .next s) S fun v' v M' n' s' hv S' hr=>post .next .next M' n' s' trivial S' ⟨rfl,hr⟩
  intro Γ p hΓ
  have h2:=this Γ p hΓ
  rw [Sem.wp_bind'] at h2 ⊢
  refine Sem.wp_mono _ Γ _ (fun _ p s h=>?_) (fun _ _ _ x=>x) p s h2
  rw [Sem.wp_bind'] at h ⊢
  exact h
end
theorem qV (c:Cx) (k k1:Nat) (elt it:IE) (t:IT) (ifs:List IE) (M:FM) (n:Led) (R:Value→FM→Led→Prop):wpE c (k+1) (.lcomp k1 elt t it ifs) M n R↔wpE c k it M n fun v M n=>DoC c k1 elt t ifs v M n R:=Iff.rfl
noncomputable def SB (sc:SC) (b:List Stmt) (ir:List IS):Prop:=∀ c rm,c.sc=sc→Cok0 c rm→∀ k M n R,wpS c k ir M n R→TrF c (execs b c.env) M n R
theorem cE {sc:SC} {b:List Stmt} {ir:List IS} (h:CB sc b ir):∀ c rm,c.sc=sc→Cok0 c rm→∀ k M n R,wpS c k ir M n R→TrF c (execs b c.env) M n R:=by
  refine CB.ind (Q:=SB sc) (fun b ir s=>?_) h
  clear h
  induction s with
  | nil =>
    intro c rm hc H k M n R hw s Q S post
    cases k with
    | zero=>exact hw.elim
    | succ k=>exact wpAny_execs_nil (post _ .next _ _ _ trivial S hw)
  | asg hx hn he t =>
    have ih:=t.2
    clear t
    intro c rm hc H k M n R hw
    cases k with
    | zero=>exact hw.elim
    | succ k =>
      subst hc
      exact aL (f:=wpS c k) (fun s Q S post=>wpAny_Assign_Name ((he.e c rm rfl H 40 M n).1 _ hw s _ S fun v' v M' n' s' hv S' hr=>bi (R:=fun M n=>wpS c k _ M n R) H hx hv hr s' _ S' fun M2 n2 s2 S2 hr2=>post _ .next _ _ _ trivial S2 hr2) (qi hn _ _ _)) (fun M n hr=>ih c rm rfl H k M n R hr)
  | @asgc x q elt tg it ifs scope p p2 i elt' t' it' ifs' r r' hx hs hk hi he ht hf t =>
    have ih:=t.2
    clear t
    intro c rm hc H k M n R hw
    cases k with
    | zero=>exact hw.elim
    | succ k =>
      subst hc
      refine aL (f:=wpS c k) (fun s Q S post=>?_) (fun M n hr=>ih c rm rfl H k M n R hr)
      have hw1:wpE c (39+1) (.lcomp (fN scope.names) elt' t' it' ifs') M n fun v M n=>wpS c k r' (M.set i (some v)) n R:=hw
      have hw':=(qV c 39 _ elt' it' t' ifs' M n _).mp hw1
      have hval:Tr c (eval (.ListComp elt [⟨tg,it,ifs,0⟩] scope p2) c.env) M n fun v M n=>wpS c k r' (M.set i (some v)) n R:=fP hs hk (hi.e c rm rfl H 39 M n).1 he ht hf H hw'
      refine E1 (oX (elt:=elt) (gs:=[⟨tg,it,ifs,0⟩]) (scope:=scope) (p2:=p2) (x:=x) (q:=q) p.line c.env) fun b q91=>A2 q91 fun hb hloc=>?_
      clear q91
      clear hloc
      cases b with
      | false=>exact wpAny_Assign_Name (hval s _ S fun v' v M' n' s' hv S' hr=>bi (R:=fun M n=>wpS c k _ M n R) H hx hv hr s' _ S' fun M2 n2 s2 S2 hr2=>post _ .next _ _ _ trivial S2 hr2) hb
      | true =>
        refine A5 (bT H hk) fun e1 e2 e3 e4 e5=>?_
        refine kw hb e1 e2 (fun y hy hl=>by rw [e4 y hy,hl]) (et hs) ((hi.e c rm rfl H 39 M n).1 _ hw' s _ S fun v' v M' n' s' hv S' hr=>?_)
        unfold DoC at hr
        refine hr elt tg it ifs scope p2 _ he ht hf hk rfl rfl v' s' _ hv S' ?_
        intro D C M2 n2 mC m news h tk hr2 hn hC h0 hne F N f
        show wpAny _ _ (assign (.Name x q) c.env (.ref D)) _ _ _
        refine E3 hn fun oC es ep q92=>A2 q92 fun hgC r1=>?_
        try clear hn
        clear q92
        have N':=N
        refine wpAny_assign_Name (oz (R:=fun M n=>wpS c k r' M n R) H hx (v:=.ref D) rfl hr2 _ _ (St.hide (o:=oC) S'.sh F N f hne hgC hC h0) fun M3 n3 s3 S3 hr3=>⟨mC,⟨oC,es,ep,S3.hidden,r1⟩,fun h' hs'=>post _ .next _ _ _ trivial (S3.unhide hs') hr3⟩)
  | @asgP ts k1 q es k2 q2 p rev is es' r r' hts hr he t =>
    have ih:=t.2
    clear t
    intro c rm hc H k M n R hw
    cases k with
    | zero=>exact hw.elim
    | succ k =>
      subst hc
      obtain ⟨hh,hw⟩ : c.A.handled=none∧_:=hw
      refine aL (f:=wpS c k) (fun s Q S post=>?_) (fun M n hr=>ih c rm rfl H k M n R hr)
      refine E1 (km hts) fun xs q93=>A7 q93 fun h1 h2 h3 h4 h5 h6 h8=>?_
      clear q93
      refine A3 (vX (k:=k1) (q:=q) (k2:=k2) (q2:=q2) H hr h8) fun hsw hle hl3=>?_
      rw [exec_Assign_arm]
      refine wpAny_bind (wpAny_standAt ?_)
      rw [show swapsWithSole [Expr.Tuple ts k1 q] (Expr.Tuple es k2 q2) p.line c.env=pure false from by unfold swapsWithSole; exact mv _ _]
      refine wpAny_bind (wpAny_pure ?_)
      rw [if_neg (by decide)]
      refine wpAny_bind (wpAny_Tuple (spl2 he.es rfl H _ 40 M n _ hw s _ S fun vs' vs M' n' s' hv S' hr=>⟨hv.szl (by (clear h2 h3 hle; omega)),?_⟩))
      rw [hsw]
      exact wpAny_bind (wpAny_pure (xX hh (es:=es) (k2:=k2) (q2:=q2) H hts h1 hsw (vs:=vs) (us:=vs') (by (clear h2; omega)) (by omega) hv.length hv h4 h5 h6 (by omega) (S'.keep fun b o e=>Heap.get?_push_of_some _ e) ⟨_,Heap.get?_push_size _ rfl,rfl,_,rfl⟩ fun s2 S2=>post _ .next _ _ _ trivial S2 hr.2))
  | @asgT ts kq q e p is e' r r' hts hn he t =>
    have ih:=t.2
    clear t
    intro c rm hc H k M n R hw
    cases k with
    | zero=>exact hw.elim
    | succ k =>
      subst hc
      refine aL (f:=wpS c k) (fun s Q S post=>?_) (fun M n hr=>ih c rm rfl H k M n R hr)
      refine wpAny_Assign_stores ((he.e c rm rfl H 40 M n).1 _ hw s _ S fun v' v M' n' s' hv S' hr=>(Tr.un (hr.tr (.one hv) (.unp is ts kq q _ hts))) s' _ S' fun M2 n2 s2 S2 hr2=>post _ .next _ _ _ trivial S2 hr2) (by unfold swapsWithSole; exact mv _ _) (unsw hn)
  | setI ho hi he t =>
    have ih:=t.2
    clear t
    intro c rm hc H k M n R hw
    cases k with
    | zero=>exact hw.elim
    | succ k =>
      subst hc
      exact aL (f:=wpS c k) (fun s Q S post=>wpAny_Assign_Subscript ((he.e c rm rfl H 40 M n).1 _ hw s _ S fun v' v M1 n1 s1 hv S1 hr1=>(ho.e c rm rfl H 40 M1 n1).1 _ hr1 s1 _ S1 fun o' o M2 n2 s2 ho' S2 hr2=>(hi.e c rm rfl H 40 M2 n2).1 _ hr2 s2 _ S2 fun i' i M3 n3 s3 hi' S3 hr3 =>
        (Tr.un (hr3.tr (.mk ho' (.two hi' hv)) (.setI _ _ _))) s3 _ S3 fun M4 n4 s4 S4 hr4=>post _ .next _ _ _ trivial S4 hr4) (sP _ _)) (fun M n hr=>ih c rm rfl H k M n R hr)
  | delI ho hi t =>
    have ih:=t.2
    clear t
    intro c rm hc H k M n R hw
    cases k with
    | zero=>exact hw.elim
    | succ k =>
      subst hc
      exact aL (f:=wpS c k) (fun s Q S post=>wpAny_Delete (wpAny_deleteEach_cons (wpAny_delete_Subscript ((ho.e c rm rfl H 40 M n).1 _ hw s _ S fun o' o M2 n2 s2 ho' S2 hr2=>(hi.e c rm rfl H 40 M2 n2).1 _ hr2 s2 _ S2 fun i' i M3 n3 s3 hi' S3 hr3 =>
        (Tr.un (hr3.tr (.two ho' hi') (.delI _ _))) s3 _ S3 fun M4 n4 s4 S4 hr4=>wpAny_deleteEach_nil (post _ .next _ _ _ trivial S4 hr4))))) (fun M n hr=>ih c rm rfl H k M n R hr)
  | setIN hx hn hn2 ho hi he t =>
    have ih:=t.2
    clear t
    intro c rm hc H k M n R hw
    cases k with
    | zero=>exact hw.elim
    | succ k =>
      subst hc
      refine aL (f:=wpS c k) (fun s Q S post=>?_) (fun M n hr=>ih c rm rfl H k M n R hr)
      refine wpAny_Assign_two ((he.e c rm rfl H 40 M n).1 _ hw s _ S fun v' v M1 n1 s1 hv S1 hr1=>?_)
      rw [arm_assign_Subscript]
      exact wpAny_bind (wpAny_holding ((ho.e c rm rfl H 40 M1 n1).1 _ hr1 s1 _ S1 fun o' o M2 n2 s2 ho' S2 hr2=>wpAny_bind (wpAny_holding ((hi.e c rm rfl H 40 M2 n2).1 _ hr2 s2 _ S2 fun i' i M3 n3 s3 hi' S3 hr3=>wpAny_bind (wpAny_standAt (wpAny_bind (wpAny_holding
        ((Tr.un (hr3.tr (.mk ho' (.two hi' hv)) (.setI _ _ _))) s3 _ S3 fun M4 n4 s4 S4 hr4=>wpAny_release (wpAny_assign_Name (bi (R:=fun M n=>wpS c k _ M n R) H hx hv hr4 s4 _ S4 fun M5 n5 s5 S5 hr5=>post _ .next _ _ _ trivial S5 hr5))))))))))
  | setA ho he t =>
    have ih:=t.2
    clear t
    intro c rm hc H k M n R hw
    cases k with
    | zero=>exact hw.elim
    | succ k =>
      subst hc
      exact aL (f:=wpS c k) (fun s Q S post=>plainObj_wpAny_Assign_Attribute ((he.e c rm rfl H 40 M n).1 _ hw s _ S fun v' v M1 n1 s1 hv S1 hr1=>(ho.e c rm rfl H 40 M1 n1).1 _ hr1 s1 _ S1 fun o' o M2 n2 s2 ho' S2 hr2 =>
        (Tr.un (hr2.tr (.two ho' hv) (.setA _ _ _))) s2 _ S2 fun M4 n4 s4 S4 hr4=>post _ .next _ _ _ trivial S4 hr4) (tB _ _)) (fun M n hr=>ih c rm rfl H k M n R hr)
  | @aug x q op e p i e' r r' hx he t =>
    have ih:=t.2
    clear t
    intro c rm hc H k M n R hw
    cases k with
    | zero=>exact hw.elim
    | succ k =>
      subst hc
      change (match M[i]? with | some (some old)=>wpE c 40 e' M n fun v M n=>tv c op old v M n fun x M n=>wpS c k r' (M.set i (some x)) n R | _=>False) at hw
      cases hm:M[i]? with
      | none=>rw [hm] at hw; exact hw.elim
      | some o =>
        cases o with
        | none=>rw [hm] at hw; exact hw.elim
        | some old =>
          rw [hm] at hw
          exact aL (f:=wpS c k) (fun s Q S post=>wpAny_AugAssign_Name (ld_tr (R:=fun v M' n'=>v=old∧M'=M∧n'=n) H hx hm ⟨rfl,rfl,rfl⟩ s _ S fun u' u M1 n1 s1 hu S1 ⟨e1,e2,e3⟩=>by
            subst e1 e2 e3
            exact (he.e c rm rfl H 40 _ _).1 _ hw s1 _ S1 fun v' v M2 n2 s2 hv S2 hr2=>ng hu hv hr2 s2 _ S2 fun w' w M3 n3 s3 hw' S3 hr3=>bi (R:=fun M n=>wpS c k _ M n R) H hx hw' hr3 s3 _ S3 fun M4 n4 s4 S4 hr4=>post _ .next _ _ _ trivial S4 hr4)) (fun M n hr=>ih c rm rfl H k M n R hr)
  | augA ho he t =>
    have ih:=t.2
    clear t
    intro c rm hc H k M n R hw
    cases k with
    | zero=>exact hw.elim
    | succ k =>
      subst hc
      exact aL (f:=wpS c k) (fun s Q S post=>wpAny_AugAssign_AttributeAny ((ho.e c rm rfl H 40 M n).1 _ hw s _ S fun o' o M1 n1 s1 ho' S1 hr1=>hr1.tr (.one ho') (.getA _ _ _) s1 _ S1 fun u' u M2 n2 s2 hu S2 hr2=>(he.e c rm rfl H 40 M2 n2).1 _ hr2 s2 _ S2 fun v' v M3 n3 s3 hv S3 hr3=>ng hu hv hr3 s3 _ S3 fun w' w M4 n4 s4 hw' S4 hr4 =>
        (Tr.un (hr4.tr (.two ho' hw') (.setA _ _ _))) s4 _ S4 fun M5 n5 s5 S5 hr5=>post _ .next _ _ _ trivial S5 hr5)) (fun M n hr=>ih c rm rfl H k M n R hr)
  | ret he t =>
    have ih:=t.2
    clear t
    intro c rm hc H k M n R hw
    cases k with
    | zero=>exact hw.elim
    | succ k =>
      subst hc
      exact aL (f:=wpS c k) (fun s Q S post=>wpAny_Return_some ((he.e c rm rfl H 40 M n).1 _ hw s _ S fun v' v M' n' s' hv S' hr=>post _ (.ret v) _ _ _ hv S' hr)) (fun M n hr=>ih c rm rfl H k M n R hr)
  | retN t =>
    have ih:=t.2
    clear t
    intro c rm hc H k M n R hw
    cases k with
    | zero=>exact hw.elim
    | succ k =>
      subst hc
      exact aL (f:=wpS c k) (fun s Q S post=>wpAny_Return_none (post _ (.ret .none) _ _ _ rfl S hw)) (fun M n hr=>ih c rm rfl H k M n R hr)
  | ex hn he t =>
    have ih:=t.2
    clear t
    intro c rm hc H k M n R hw
    cases k with
    | zero=>exact hw.elim
    | succ k =>
      subst hc
      refine aL (f:=wpS c k) (fun s Q S post=>?_) (fun M n hr=>ih c rm rfl H k M n R hr)
      obtain ⟨hn1,hn2⟩:=wq hn
      rw [exec_Expr (env:=c.env) (hi:=by unfold interactive; rw [H.ek]; rfl) (hs:=qi hn1 _ _ _)]
      refine wpAny_bind (wpAny_standAt (wpAny_bind ((he.e c rm rfl H 40 M n).1 _ hw s _ S fun v' v M' n' s' hv S' hr=>?_)))
      by_cases hv2:∃ a,v = .ref a
      · obtain ⟨a,rfl⟩:=hv2
        cases aa hv
        rw [hn2]
        exact Tr.nx (R:=fun M n=>wpS c k _ M n R) ((show Do c .drop [.ref a] M' n' fun _ M n=>wpS c k _ M n R from hr).tr (.refl _) (.drop _ _)) s' _ S' fun f' f M2 n2 s2 hf S2 ⟨e,hr2⟩=>by
          subst e
          exact post _ .next _ _ _ hf S2 hr2
      · rw [dropValue_plain fun a q=>hv2 (by subst q; exact ⟨a,aa hv.symm⟩)]
        refine wpAny_pure (post _ .next _ _ _ trivial S' ?_)
        cases v <;> first | exact hr | exact absurd ⟨_,rfl⟩ hv2
  | ite he ha hb t =>
    have iha:=ha.2
    clear ha
    have ihb:=hb.2
    clear hb
    have ih:=t.2
    clear t
    intro c rm hc H k M n R hw
    cases k with
    | zero=>exact hw.elim
    | succ k =>
      subst hc
      refine aL (f:=wpS c k) (fun s Q S post=>wpAny_If ((he.e c rm rfl H 40 M n).2 _ hw s _ S fun b M' n' s' S' hr=>?_)) (fun M n hr=>ih c rm rfl H k M n R hr)
      cases b
      · exact ihb c rm rfl H k M' n' _ hr s' _ S' post
      · exact iha c rm rfl H k M' n' _ hr s' _ S' post
  | forr hs ht he hb t =>
    have ihb:=hb.2
    replace hb:=hb.1
    have ih:=t.2
    clear t
    intro c rm hc H k M n R hw
    cases k with
    | zero=>exact hw.elim
    | succ k =>
      clear ihb
      subst hc
      refine aL (f:=wpS c k) (fun s Q S post=>?_) (fun M n hr=>ih c rm rfl H k M n R hr)
      refine E2 S.ex fun m news q94=>A3 q94 fun F N f=>?_
      clear q94
      refine For_turns (H.el▸F) ((he.e c rm rfl H 40 M n).1 _ hw s _ S fun v' v M' n' s' hv S' hr=>?_) (et hs) H.hE
      have hr':DoF c _ v _ M' n' (sv (wpS c k) _ R):=hr
      unfold DoF at hr'
      exact hr' _ _ v' s' _ ht hb hv S' post
  | whl he ha hb t =>
    have iha:=ha.2
    replace ha:=ha.1
    have ihb:=hb.2
    replace hb:=hb.1
    have ih:=t.2
    clear t
    intro c rm hc H k M n R hw
    cases k with
    | zero=>exact hw.elim
    | succ k =>
      clear iha ihb
      subst hc
      refine aL (f:=wpS c k) (fun s Q S post=>?_) (fun M n hr=>ih c rm rfl H k M n R hr)
      have hr':DoW c _ _ _ M n (sv (wpS c k) _ R):=hw
      unfold DoW at hr'
      exact hr' _ _ _ _ s _ he ha hb S post
  | brk t =>
    have ih:=t.2
    clear t
    intro c rm hc H k M n R hw
    cases k with
    | zero=>exact hw.elim
    | succ k =>
      subst hc
      exact aL (f:=wpS c k) (fun s Q S post=>wpAny_Break (post _ .brk _ _ _ trivial S hw)) (fun M n hr=>ih c rm rfl H k M n R hr)
  | cont t =>
    have ih:=t.2
    clear t
    intro c rm hc H k M n R hw
    cases k with
    | zero=>exact hw.elim
    | succ k =>
      subst hc
      exact aL (f:=wpS c k) (fun s Q S post=>wpAny_Continue (post _ .cont _ _ _ trivial S hw)) (fun M n hr=>ih c rm rfl H k M n R hr)
  | pass t =>
    have ih:=t.2
    clear t
    intro c rm hc H k M n R hw
    cases k with
    | zero=>exact hw.elim
    | succ k =>
      subst hc
      exact aL (f:=wpS c k) (fun s Q S post=>wpAny_Pass (post _ .next _ _ _ trivial S hw)) (fun M n hr=>ih c rm rfl H k M n R hr)
  | raw t =>
    have ih:=t.2
    clear t
    intro c rm hc H k M n R hw
    cases k with
    | zero=>exact hw.elim
    | succ k =>
      subst hc
      refine aL (f:=wpS c k) ?_ (fun M n hr=>ih c rm rfl H k M n R hr)
      have hw':DoS c _ M n (sv (wpS c k) _ R):=hw
      unfold DoS at hw'
      exact hw'
end
section
set_option tactic.hygienic false
structure ar (w:World) (nw nw2:Led):Prop where
  mem:∀ p ∈ nw2,∃ y,(p.1,y) ∈ nw∧∀ o,y.Is w o→p.2.Is w o
  nd:(nw.map (·.1)).Nodup→(nw2.map (·.1)).Nodup
theorem ar.keys {w:World} {nw nw2:Led} (h:ar w nw nw2) {a:Addr} (ha:a ∈ nw2.map (·.1)):a ∈ nw.map (·.1):=by
  refine E1 (mem_map.mp ha) fun p q91=>A2 q91 fun hp e92=>?_
  clear q91
  first | subst e92 | cases e92
  refine E1 (h.mem p hp) fun y q93=>A2 q93 fun h1 _=>?_
  clear q93
  exact mem_map_of_mem (f:=(·.1)) h1
theorem ar.nd2 {w:World} {nw nw2:Led} (h:ar w nw nw2) {q:List Addr} (nd:(nw.map (·.1)++q).Nodup):(nw2.map (·.1)++q).Nodup:=by
  refine A3 (nodup_append.mp nd) fun n1 n2 n3=>?_
  exact nodup_append.mpr ⟨h.nd n1,n2,fun a ha b hb=>n3 a (h.keys ha) b hb⟩
theorem ar.refl {w:World} (nw:Led):ar w nw nw:=⟨fun p hp=>⟨p.2,hp,fun _ h=>h⟩,id⟩
theorem ar.perm {w:World} {nw nw2:Led} (h:nw2.Perm nw):ar w nw nw2:=⟨fun p hp=>⟨p.2,h.subset hp,fun _ h=>h⟩,fun nd=>(List.Perm.nodup_iff (h.map _)).mpr nd⟩
theorem ar.trans {w:World} {nw nw2 nw3:Led} (h:ar w nw nw2) (k:ar w nw2 nw3):ar w nw nw3:=⟨fun p hp=>by
  refine E1 (k.mem p hp) fun y q91=>A2 q91 fun h1 h2=>?_
  clear q91
  refine E1 (h.mem _ h1) fun z q92=>A2 q92 fun h3 h4=>?_
  clear q92
  exact ⟨z,h3,fun o q=>h2 o (h4 o q)⟩,fun nd=>k.nd (h.nd nd)⟩
theorem ar.drop {w:World} {p:Addr×aE} {nw nw2:Led} (h:ar w nw nw2):ar w (p::nw) nw2:=⟨fun q hq=>by
  obtain ⟨y,h1,h2⟩:=h.mem q hq
  exact ⟨y,.tail _ h1,h2⟩,fun nd=>h.nd (nodup_cons.mp nd).2⟩
theorem ar.thaw {w:World} {a:Addr} {x y:aE} {nw nw2:Led} (hx:∀ o,y.Is w o→x.Is w o) (h:ar w nw nw2):ar w ((a,y)::nw) ((a,x)::nw2):=⟨fun q hq=>by
  rcases mem_cons.mp hq with rfl | hq
  · exact ⟨_,.head _,hx⟩
  · obtain ⟨y,h1,h2⟩:=h.mem q hq; exact ⟨y,.tail _ h1,h2⟩,fun nd=>by
  obtain ⟨n1,n2⟩:=nodup_cons.mp nd
  exact nodup_cons.mpr ⟨fun q=>n1 (h.keys q),h.nd n2⟩⟩
theorem ar.keep {w:World} {p:Addr×aE} {nw nw2:Led} (h:ar w nw nw2):ar w (p::nw) (p::nw2):=.thaw (fun _ h=>h) h
noncomputable def dg (vars:List (Option (Str×Bool))) (binds:List (Str×Value)):FM:=vars.map fun v=>match v with
  | some (x,_)=>binds.reverse.lookup x
  | none=>none
noncomputable def af (names:List (Str×NameKind)):List (Option (Str×Bool)):=names.filterMap fun p=>if p.2 = .local then some (some (p.1,false)) else if p.2 = .cell then some (some (p.1,true)) else none
noncomputable def bw (names:List (Str×NameKind)):Bool:=decide (names.map (·.1)).Nodup && decide (af names).Nodup
noncomputable def bP (cl:List (Str×Addr)):Option (Str×Bool)→dA
  | some (x,false)=>.loc x
  | some (x,true)=>.cell x ((cl.lookup x).getD 0)
  | none=>.dead
noncomputable def ko:Flow→Value
  | .ret v=>v
  | _=>.none
theorem fV {kindOf:Str→Option NameKind} {x:Str} (hk:kindOf x=some .local):∀ (binds:List (Str×Value)) (m:Str→Option Value),bindL kindOf binds m x=(binds.reverse.lookup x).or (m x)
  | [],m=>rfl
  | (y,v)::r,m=>by
    show bindL kindOf r (if kindOf y=some .local then fun z=>if z=y then some v else m z else m) x=_
    rw [fV hk r,reverse_cons,List.lookup_append,Option.or_assoc]
    congr 1
    by_cases h:x=y
    · subst h; rw [if_pos hk]; simp
    · have e:([(y,v)]:List (Str×Value)).lookup x=none:=by rw [lookup_cons,beq_eq_false_iff_ne.mpr h]; rfl
      rw [e]
      split <;> simp [h]
theorem fE {kindOf:Str→Option NameKind} {x:Str} (hk:kindOf x=some .cell):∀ (binds:List (Str×Value)) (m:Str→Option Value),bindC kindOf binds m x=(binds.reverse.lookup x).or (m x)
  | [],m=>rfl
  | (y,v)::r,m=>by
    show bindC kindOf r (if kindOf y=some .local then m else fun z=>if z=y then some v else m z) x=_
    rw [fE hk r,reverse_cons,List.lookup_append,Option.or_assoc]
    congr 1
    by_cases h:x=y
    · subst h; rw [if_neg (by rw [hk]; intro q; cases q)]; simp
    · have e:([(y,v)]:List (Str×Value)).lookup x=none:=by rw [lookup_cons,beq_eq_false_iff_ne.mpr h]; rfl
      rw [e]
      split <;> simp [h]
theorem eT {x:Str}:∀ {l l':List (Str×Value)},l'.map (fun p=>(p.1,vst p.2))=l.map (fun p=>(p.1,vst p.2))→kX (l'.lookup x) (l.lookup x)
  | [],[],_=>rfl
  | [],_::_,h=>nomatch h
  | _::_,[],h=>nomatch h
  | (y,v)::r,(y',v')::r',h=>by
    refine A2 (List.cons.inj h) fun h1 h2=>?_
    refine A2 (Prod.mk.inj h1) fun e1 e2=>?_
    dsimp only at e1 e2
    clear h h1
    subst e1
    rw [lookup_cons,lookup_cons]
    split
    · exact congrArg some e2
    · exact eT h2
theorem lg:∀ {xs:List Str} {us vs:List Value},aD us vs→(xs.zip us).map (fun p=>(p.1,vst p.2))=(xs.zip vs).map (fun p=>(p.1,vst p.2))
  | [],_,_,_=>rfl
  | x::xs,us,[],h=>by cases h.nil; rfl
  | x::xs,us,v::vs,h=>by
    refine E2 h.cons fun u us' q91=>A3 q91 fun e92 hu hs=>?_
    clear q91
    first | subst e92 | cases e92
    show (x,vst u)::_=(x,vst v)::_
    rw [hu]; exact congrArg _ (lg hs)
theorem eH {names:List (Str×NameKind)} {i:Nat} {x:Str} {b:Bool} (h:(af names)[i]? = some (some (x,b))):(x,if b then NameKind.cell else NameKind.local) ∈ names:=by
  have:=mem_of_getElem? h
  unfold af at this
  refine E1 (mem_filterMap.mp this) fun q91 q92=>A2 q92 fun hm e=>?_
  clear q92
  obtain ⟨y,k⟩:=q91
  dsimp only at e
  split at e
  · rename_i hk
    cases e
    rw [if_neg (by decide)]
    exact hk▸hm
  · split at e
    · rename_i hk
      cases e
      rw [if_pos rfl]
      exact hk▸hm
    · cases e
theorem dk {names:List (Str×NameKind)} (nd:(names.map (·.1)).Nodup) {x:Str} {k:NameKind} (h:(x,k) ∈ names):names.lookup x=some k:=by
  induction names with
  | nil=>cases h
  | cons p r ih =>
    obtain ⟨n1,n2⟩:=nodup_cons.mp nd
    rw [lookup_cons]
    clear nd
    rcases mem_cons.mp h with rfl | h
    · simp
    · have:(x == p.1)=false:=by
        rw [beq_eq_false_iff_ne]
        intro e
        exact n1 (mem_map.mpr ⟨_,h,e⟩)
      rw [this]; exact ih n2 h
theorem vJ {h₀:Heap} {L:Addr} {s:Shared} {m:Str→Option Value} {news:List (Addr×Obj)} (F:Fr h₀ L s.heap m) (N:News h₀ L s.heap news):Fr h₀ L (hideAll s.heap (news.map (·.1))) m∧h₀.StaysIn (hideAll s.heap (news.map (·.1))):=by
  have nm:∀ b o,h₀.get? b=some o→b ∉ news.map (·.1):=fun b o e q=>by
    refine E1 (mem_map.mp q) fun p q91=>A2 q91 fun hp e92=>?_
    clear q91
    first | subst e92 | cases e92
    rw [(N p hp).2.2] at e; cases e
  refine E3 F.ns fun oL es ep q93=>A2 q93 fun hL h2=>?_
  clear q93
  have st:h₀.StaysIn (hideAll s.heap (news.map (·.1))):=fun b o e=>hideAll_get _ (F.keep b o e) (nm b o e)
  exact ⟨⟨⟨oL,es,ep,hideAll_get _ hL fun q=>by
    refine E1 (mem_map.mp q) fun p q94=>A2 q94 fun hp e=>?_
    clear q94
    exact (N p hp).2.1 e,h2⟩,st,F.above⟩,st⟩
section
variable {c:Cx} {M:FM} {nw:Led} {rm:Nat}
variable {name qual:Str} {params:Arguments} {body:List Stmt} {scope:Scope} {dV kV doc pm cdv ct oc:Value} {an od:Option Addr} {osl:Array (Option Value)} {f:Addr}
noncomputable def mem2 (w:World) (own:Led) (nw nw2 nw':Led):Prop:=(∀ p ∈ nw2,(∃ y,(p.1,y) ∈ nw'∧∀ o,y.Is w o→p.2.Is w o)∨(p ∈ nw∧p.1 ∉ own.map (·.1)))∧(nw2.map (·.1)).Nodup
theorem dP {cl:List (Str×Addr)} (inj:∀ x y a,cl.lookup x=some a→cl.lookup y=some a→x=y):∀ {l:List (Option (Str×Bool))},l.Nodup→(∀ x,some (x,true) ∈ l→∃ a,cl.lookup x=some a)→(aj (l.map (bP cl))).Nodup
  | [],_,_=>nodup_nil
  | v::r,nd,hs=>by
    refine A2 (nodup_cons.mp nd) fun n1 n2=>?_
    have ih:=dP inj n2 fun x hx=>hs x (.tail _ hx)
    clear nd
    cases v with
    | none=>exact ih
    | some p =>
      obtain ⟨x,b⟩:=p
      cases b with
      | false=>exact ih
      | true =>
        refine nodup_cons.mpr ⟨fun q=>?_,ih⟩
        refine E1 (aT q) fun y hy=>?_
        refine E1 (mem_map.mp hy) fun z q91=>A2 q91 fun hz e=>?_
        clear q91
        cases z with
        | none=>cases e
        | some p =>
          obtain ⟨y',b⟩:=p
          cases b with
          | false=>cases e
          | true =>
            refine E1 (hs x (.head _)) fun a ha=>?_
            refine E1 (hs y' (.tail _ hz)) fun a' ha'=>?_
            have e':(dA.cell y' ((cl.lookup y').getD 0))=dA.cell y ((cl.lookup x).getD 0):=e
            rw [ha,ha'] at e'
            injection e' with e1 e2
            have e3:a'=a:=e2
            have:=inj x y' a ha (e3▸ha')
            clear hs q hy e ha ha' e1
            subst this
            exact n1 hz
theorem cJ {H:Cok c rm} {s:Shared} (S:St c M nw s):∃ m,Fr c.h₀ c.Lf s.heap m:=by
  refine hG fun G9 k9=>?_
  obtain ⟨e,m,news,F,N,fl⟩:=S
  rcases H.lf with h | ⟨oL,h1,h2⟩
  all_goals (try refine k9 ?_)
  · rw [h]; exact ⟨m,F⟩
  · refine hG fun G9 k9=>?_
    obtain ⟨m',hm⟩:=h2 s.heap (N _ (fl.hid _ h1)).1
    refine k9 ?_
    exact ⟨m',hm,F.keep,H.above⟩
theorem du {args vs:List Value} {xs:List Str} {own:Led} {M₀:FM} {ir:List IS} {k:Nat} {R:Value→FM→Led→Prop} {P:Flow→Led→Prop} {s:Shared} {RR:Result→Shared→Prop} {EE:Value→Shared→Prop} (H:Cok c (rm+1))
    (hkind:∀ x ∈ xs,scope.names.lookup x=some .local∨scope.names.lookup x=some .cell) (hnd:bw scope.names=true)
    (hM:dg (af scope.names) (xs.zip args)=M₀) (hB:CB ⟨scope.names,af scope.names⟩ body ir)
    (hk:scope.kind = .function)
    (hown:own.Sublist nw)
    (hP:∀ fl nw',(nw.map (·.1)).Nodup→(nw'.map (·.1)).Nodup→(∀ a ∈ nw'.map (·.1),a ∈ nw.map (·.1)→a ∈ own.map (·.1))→P fl nw'→∃ nw2,mem2 c.w own nw nw2 nw'∧R (ko fl) M nw2)
    (h:∀ c',c'.sc=⟨scope.names,af scope.names⟩→c'.w=c.w→Cok c' rm→wpS c' k ir M₀ own fun fl _ nw'=>P fl nw')
    (hvs:aD vs args) (S:St c M nw s) (post:∀ v' v M' n' s',Sim v' v→St c M' n' s'→R v M' n'→RR (.ok (.ret v')) s') :
    wpAny (model PG c.w) c.A.in1 (newFunctionEnv (fnOf name qual params body scope dV kV doc pm an cdv ct).scope (fnOf name qual params body scope dV kV doc pm an cdv ct).globals (fnOf name qual params body scope dV kV doc pm an cdv ct).closure (xs.zip vs) ((fnOf name qual params body scope dV kV doc pm an cdv ct).qualname ++ ".<locals>.") (some f) (fnOf name qual params body scope dV kV doc pm an cdv ct).code none (fnOf name qual params body scope dV kV doc pm an cdv ct).builtins)
      (fun env s₂=>s₂.heap.NoLimit∧codeAny (model PG c.w) c.A (.func body env) RR s₂) EE s:=by
  refine E1 (cJ (H:=H) S) fun mf Ff=>?_
  refine E5 H.fe fun cn cs a ccd cl q91=>A2 q91 fun hfe hcs=>?_
  clear q91
  obtain ⟨e,m,news,F,N,fl⟩:=id S
  obtain ⟨ownO,hO1,hO2⟩ : ∃ ownO:List (Addr×Obj),ownO.map (·.1)=own.map (·.1)∧(∀ p ∈ own,∃ o,(p.1,o) ∈ ownO∧p.2.Is c.w o)∧∀ q ∈ ownO,q ∈ news:=by
    have:∀ l:Led,l.Sublist nw→∃ ownO:List (Addr×Obj),ownO.map (·.1)=l.map (·.1)∧(∀ p ∈ l,∃ o,(p.1,o) ∈ ownO∧p.2.Is c.w o)∧∀ q ∈ ownO,q ∈ news:=by
      intro l
      induction l with
      | nil=>exact fun _=>⟨[],rfl,fun _ h=>(nomatch h),fun _ h=>(nomatch h)⟩
      | cons p r ih =>
        intro hl
        refine E1 (ih ((List.sublist_cons_self _ _).trans hl)) fun O q92=>A3 q92 fun h1 h2 h3=>?_
        clear q92
        refine E1 (fl.ob p (hl.subset (.head _))) fun o q93=>A2 q93 fun ho hi=>?_
        clear q93
        refine ⟨(p.1,o)::O,by rw [map_cons,map_cons,h1],fun q hq=>?_,fun q hq=>?_⟩
        · clear ih hl h1 ho
          rcases mem_cons.mp hq with rfl | hq
          · exact ⟨o,.head _,hi⟩
          · obtain ⟨o',e1,e2⟩:=h2 q hq; exact ⟨o',.tail _ e1,e2⟩
        · clear hl h1 h2 hi
          rcases mem_cons.mp hq with rfl | hq
          · exact ho
          · exact h3 q hq
    exact this own hown
  obtain ⟨hO2,hO3⟩:=hO2
  have offLf:∀ q ∈ ownO,q.1≠c.Lf:=fun q hq=>by
    rcases H.lf with h | ⟨oL,h1,h2⟩
    · rw [h]; exact (N q (hO3 q hq)).2.1
    · have:q.1 ∈ own.map (·.1):=hO1▸mem_map_of_mem hq
      refine E1 (mem_map.mp this) fun p q94=>A2 q94 fun hp e=>?_
      clear q94
      exact fun z=>(nodup_append.mp fl.nd).2.2 _ (mem_map_of_mem (hown.subset hp)) _ (mem_append_left _ (mem_map_of_mem h1)) (e.trans z)
  have NO:News c.h₀ c.Lf s.heap ownO:=fun q hq=>⟨(N q (hO3 q hq)).1,offLf q hq,(N q (hO3 q hq)).2.2⟩
  obtain ⟨FG,st⟩:=vJ Ff NO
  have gk:∀ b o,s.heap.get? b=some o→b ∉ own.map (·.1)→(hideAll s.heap (ownO.map (·.1))).get? b=some o:=fun b o e hb=>hideAll_get _ e (hO1▸hb)
  have hkd:∀ y ∈ xs.zip vs,scope.names.lookup y.1=some .local∨scope.names.lookup y.1=some .cell:=fun y hy=>hkind y.1 (List.of_mem_zip hy).1
  have hcs2:∀ k x,scope.names.lookup x=some .cell→∃ a,(cellsFrom k scope.names []).lookup x=some a:=fun k x hx=>isSome_iff_exists.mp (cellsFrom_some scope.names k [] (.inl hx))
  refine wpAny_newFunctionEnv_cells hk (fun y hy=>(hkd y hy).imp id fun h=>⟨h,by obtain ⟨a,ha⟩:=hcs2 (s.heap.objs.size+1) _ h; rw [ha]; rfl⟩) fun env' he s₁ x=>?_
  refine ⟨(H.T.nolimit.keeps Ff.keep).keeps x.toInCall.keep,codeAny_func ?_⟩
  refine E2 x.done fun h₁ tk q95=>A2 q95 fun e96 _=>?_
  clear q95
  first | subst e96 | cases e96
  have hk₁:∀ b o,s.heap.get? b=some o→h₁.get? b=some o:=x.toInCall.keep
  generalize hL':s.heap.objs.size=L' at he x
  generalize hcl:cellsFrom (L' + 1) scope.names []=cells at he
  have hL'lt:∀ b o,s.heap.get? b=some o→b < L':=fun b o e=>hL'▸Heap.lt_size e
  have henv:env'.locals=L'∧env'.cells=cells∧env'.scope=scope:=by subst he; exact ⟨rfl,rfl,rfl⟩
  have hkO:env'.kindOf=fun y=>scope.names.lookup y:=by funext y; unfold Env.kindOf; rw [henv.2.2]
  obtain ⟨nd1,nd2⟩ : (scope.names.map (·.1)).Nodup∧(af scope.names).Nodup:=by
    have:=Bool.and_eq_true_iff.mp hnd
    exact ⟨of_decide_eq_true this.1,of_decide_eq_true this.2⟩
  have hvar:∀ {i:Nat} {x:Str} {b:Bool},(af scope.names)[i]? = some (some (x,b))→scope.names.lookup x=some (if b then NameKind.cell else NameKind.local):=fun h=>dk nd1 (eH h)
  have hcell:∀ x,scope.names.lookup x=some .cell→∃ a,cells.lookup x=some a:=fun x hx=>hcl▸hcs2 (L' + 1) x hx
  let c':Cx:={ sc:=⟨scope.names,af scope.names⟩,w:=c.w,A:=c.A.deeper env',env:=env',h₀:=hideAll s.heap (ownO.map (·.1)),L:=L',vs:=(af scope.names).map (bP cells),hid:=[],s₀:=s,E:=fun _ _=>False,fe:=env',Lf:=L',outer:=c.fe::c.outer,p:=c.p,loose:=c.loose,mean:=c.mean,mg:=c.mg,mb:=c.mb }
  have HC:Cok c' rm :=
    { K:=H.K.keeps st
      T:=H.T.keeps st
      hh:=H.hh
      hA:=Around.frames_deeper H.hA
      fe:=⟨qual,scope,f,cdv,cells,by subst he; rfl,hk⟩
      lf:=.inl rfl
      above:=by show (hideAll s.heap (ownO.map (·.1))).objs.size≤L'; rw [hideAll_size]; exact Nat.le_of_eq hL'
      dp:=by have:=H.dp; show (c.A.deeper env').depth+rm < _; rw [depth_deeper]; (clear hL'; omega)
      un:=by have:=H.un; show (c.A.deeper env').units+10 * rm < _; rw [units_deeper]; (clear hL'; omega)
      el:=henv.1
      eg:=by subst he; rfl
      eb:=by subst he; rfl
      ek:=by show env'.scope.kind=_; rw [henv.2.2]; exact hk
      en:=by show env'.scope.names=_; rw [henv.2.2]
      ev:=fun i x h=>by show ((af scope.names).map (bP cells))[i]? = _; rw [List.getElem?_map,h]; rfl
      ec:=fun i x h hx=>by
        obtain ⟨a,ha⟩:=hcell x hx
        refine ⟨a,?_,by show env'.cells.lookup x=_; rw [henv.2.1]; exact ha⟩
        show ((af scope.names).map (bP cells))[i]? = _
        rw [List.getElem?_map,h]
        show some (dA.cell x ((cells.lookup x).getD 0))=_
        rw [ha]; rfl
      vl:=fun i j x hi hj=>by
        have get:∀ {i:Nat},((af scope.names).map (bP cells))[i]? = some (.loc x)→(af scope.names)[i]? = some (some (x,false)):=fun {i} h=>by
          rw [List.getElem?_map] at h
          refine E1 (map_eq_some_iff.mp h) fun v q97=>A2 q97 fun hv e=>?_
          clear q97
          rw [hv]
          clear hv
          cases v with
          | none=>cases e
          | some p =>
            obtain ⟨y,b⟩:=p
            cases b with
            | true=>cases e
            | false=>cases e; rfl
        have h1:=get hi
        have h2:=get hj
        exact (List.getElem?_inj (List.getElem?_eq_some_iff.mp h1).1 nd2).mp (h1.trans h2.symm)
      hE:=PassesOwn.never }
  have xc:=x.cell
  have xa:=x.above
  have xp:=x.apart
  rw [henv.2.1] at xc xa xp
  have cellsO:∀ l:List (Option (Str×Bool)),(∀ z ∈ l,∀ y,z=some (y,true)→scope.names.lookup y=some .cell)→∃ CO:List (Addr×Obj),(∀ y,some (y,true) ∈ l→∃ a o,cells.lookup y=some a∧(a,o) ∈ CO∧o.data = .cell (bindC env'.kindOf (xs.zip vs) (fun _=>none) y))∧∀ q ∈ CO,h₁.get? q.1=some q.2∧L' < q.1:=by
    intro l
    induction l with
    | nil=>exact fun _=>⟨[],fun _ h=>(nomatch h),fun _ h=>(nomatch h)⟩
    | cons v r ih =>
      intro hl
      refine E1 (ih fun z hz=>hl z (.tail _ hz)) fun CO q98=>A2 q98 fun h1 h2=>?_
      clear q98
      by_cases hv:∃ y,v=some (y,true)
      · obtain ⟨y,rfl⟩:=hv
        obtain ⟨a,ha⟩:=hcell y (hl _ (.head _) y rfl)
        refine E1 (xc y a ha) fun o q99=>A2 q99 fun go hd=>?_
        clear q99
        refine ⟨(a,o)::CO,fun z hz=>?_,fun q hq=>?_⟩
        · rcases mem_cons.mp hz with e | hz
          · cases e; exact ⟨a,o,ha,.head _,hd⟩
          · obtain ⟨a',o',e1,e2,e3⟩:=h1 z hz; exact ⟨a',o',e1,.tail _ e2,e3⟩
        · clear h1 hd
          rcases mem_cons.mp hq with rfl | hq
          · exact ⟨go,henv.1▸xa y a (mem_of_lookup ha)⟩
          · exact h2 q hq
      · refine ⟨CO,fun z hz=>?_,h2⟩
        rcases mem_cons.mp hz with e | hz
        · exact absurd ⟨z,e.symm⟩ hv
        · exact h1 z hz
  obtain ⟨CO,hCO1,hCO2⟩:=cellsO (af scope.names) fun z hz y e=>by
    obtain ⟨i,hi⟩:=mem_iff_getElem?.mp hz
    subst e; exact hvar hi
  have gnone:∀ b,L'≤b→(hideAll s.heap (ownO.map (·.1))).get? b=none:=fun b hb=>by
    cases q:(hideAll s.heap (ownO.map (·.1))).get? b with
    | none=>rfl
    | some o=>exact absurd (hL'lt b o (of_hideAll _ q)) (Nat.not_lt.mpr hb)
  have own_lt:∀ q ∈ ownO,q.1 < L':=fun q hq=>hL'lt _ _ (N q (hO3 q hq)).1
  have inj:∀ x y a,cells.lookup x=some a→cells.lookup y=some a→x=y:=fun x y a h1 h2=>name_of_addr xp (mem_of_lookup h1) (mem_of_lookup h2)
  have S1:St c' M₀ own { s with heap:=h₁,toks:=tk }:=by
    refine ⟨rfl,bindL env'.kindOf (xs.zip vs) fun _=>none,ownO++CO,⟨(by have:=x.toInCall.ns; rw [henv.1] at this; exact this),fun b o e=>hk₁ b o (of_hideAll _ e),HC.above⟩,fun q hq=>?_,⟨⟨?_,fun i l v hl hv=>?_⟩,fun p hp=>?_,fun _ h=>(nomatch h),?_⟩⟩
    · rcases mem_append.mp hq with hq | hq
      · exact ⟨hk₁ _ _ (N q (hO3 q hq)).1,Nat.ne_of_lt (own_lt q hq),hideAll_none _ (mem_map_of_mem hq)⟩
      · exact ⟨(hCO2 q hq).1,Nat.ne_of_gt (hCO2 q hq).2,gnone _ (Nat.le_of_lt (hCO2 q hq).2)⟩
    · show ((af scope.names).map (bP cells)).length=M₀.length
      rw [← hM]; unfold dg; rw [length_map,length_map]
    · have hl':((af scope.names).map (bP cells))[i]? = some l:=hl
      rw [List.getElem?_map] at hl'
      refine E1 (map_eq_some_iff.mp hl') fun z q910=>A2 q910 fun hz e911=>?_
      clear q910
      clear hl hl'
      first | subst e911 | cases e911
      rw [← hM] at hv
      unfold dg at hv
      rw [List.getElem?_map,hz] at hv
      have hv':=Option.some.inj hv
      clear hv
      cases z with
      | none=>trivial
      | some p =>
        obtain ⟨y,b⟩:=p
        have hlk:=hvar hz
        have sim:kX ((xs.zip vs).reverse.lookup y) v:=by
          rw [← hv']
          exact eT (by rw [map_reverse,map_reverse,lg hvs])
        cases b with
        | false =>
          show kX (bindL env'.kindOf (xs.zip vs) (fun _=>none) y) v
          rw [fV (by rw [hkO]; exact hlk),or_none]; exact sim
        | true =>
          refine E2 (hCO1 y (mem_of_getElem? hz)) fun a o q912=>A3 q912 fun h1 h2 h3=>?_
          clear q912
          refine ⟨o,_,?_,h3,by rw [fE (by rw [hkO]; exact hlk),or_none]; exact sim⟩
          rw [h1]; exact mem_append_right _ h2
    · refine E1 (hO2 p hp) fun o q913=>A2 q913 fun h1 h2=>?_
      clear q913
      exact ⟨o,mem_append_left _ h1,h2⟩
    · show (List.map (fun p:Addr×aE=>p.1) own++(([]:List Addr)++aj ((af scope.names).map (bP cells)))).Nodup
      rw [nil_append]
      refine nodup_append.mpr ⟨?_,dP inj nd2 fun y hy=>?_,fun a ha b hb e=>?_⟩
      · exact ((nodup_append.mp fl.nd).1).sublist (hown.map _)
      · refine E1 (mem_iff_getElem?.mp hy) fun i hi=>?_
        exact hcell y (hvar hi)
      · subst e
        refine E1 (aT hb) fun y hy=>?_
        refine E1 (mem_map.mp hy) fun z q914=>A2 q914 fun hz e=>?_
        clear q914
        rw [← hO1] at ha
        refine E1 (mem_map.mp ha) fun q q915=>A2 q915 fun hq e916=>?_
        clear q915
        clear ha hb hy
        first | subst e916 | cases e916
        cases z with
        | none=>cases e
        | some p =>
          obtain ⟨y',b⟩:=p
          cases b with
          | false=>cases e
          | true =>
            refine E1 (mem_iff_getElem?.mp hz) fun i hi=>?_
            refine E1 (hcell y' (hvar hi)) fun a' ha'=>?_
            have e':(dA.cell y' ((cells.lookup y').getD 0))=dA.cell y q.1:=e
            rw [ha'] at e'
            injection e' with _ e2
            have e3:a'=q.1:=e2
            have:=xa y' a' (mem_of_lookup ha')
            rw [henv.1,e3] at this
            exact absurd (own_lt q hq) (Nat.not_lt.mpr (Nat.le_of_lt this))
  refine wpAny_mono (cE hB c' rm rfl HC.toCok0 k M₀ own _ (h c' rfl rfl HC) _ _ S1 fun f' f0 M' n' s' hf S' hr=>?_) (fun _ _ x=>x) (fun _ _ x=>x.elim)
  obtain ⟨e',m',news',F',N',fl'⟩:=S'
  have back:∀ b o,s.heap.get? b=some o→b ∉ own.map (·.1)→s'.heap.get? b=some o:=fun b o e hb=>F'.keep b o (gk b o e hb)
  have nd:=nodup_append.mp fl.nd
  have offN:∀ q ∈ news,q.1 ∈ c.priv→q.1 ∉ own.map (·.1):=fun q hq hp h=>by
    refine E1 (mem_map.mp h) fun p q917=>A2 q917 fun hp' e=>?_
    clear q917
    exact nd.2.2 _ (mem_map_of_mem (hown.subset hp')) _ hp e
  have offL:c.L ∉ own.map (·.1):=fun h=>by
    rw [← hO1] at h
    refine E1 (mem_map.mp h) fun q q918=>A2 q918 fun hq e=>?_
    clear q918
    exact (N q (hO3 q hq)).2.1 e
  obtain ⟨nw2,⟨hm1,hm2⟩,hr2⟩:=hP f0 n' nd.1 (nodup_append.mp fl'.nd).1 (fun a ha q=>Classical.byContradiction fun z=>by
    refine E1 (mem_map.mp ha) fun p q919=>A2 q919 fun hp e920=>?_
    clear q919
    clear ha
    first | subst e920 | cases e920
    refine E1 (mem_map.mp q) fun p2 q921=>A2 q921 fun hp2 e2=>?_
    clear q921
    refine E1 (fl.ob p2 hp2) fun o q922=>A2 q922 fun h1 _=>?_
    clear q922
    refine E1 (fl'.ob p hp) fun o' q923=>A2 q923 fun h2 _=>?_
    clear q923
    rw [e2] at h1
    have:=gk _ _ (N _ h1).1 z
    rw [show (hideAll s.heap (ownO.map (·.1))).get? p.1=none from (N' _ h2).2.2] at this; cases this) hr
  refine E3 F.ns fun oL es ep q924=>A2 q924 fun hgL rL=>?_
  clear q924
  have hst:St c M nw2 s':=by
    refine ⟨by rw [e',show c'.s₀=s from rfl,e],m,news.filter (fun q=>decide (q.1 ∉ own.map (·.1)))++news',⟨⟨oL,es,ep,back _ _ hgL offL,rL⟩,fun b o e=>F'.keep b o (st b o e),F.above⟩,fun q hq=>?_,fl.mono (fun q hq hp=>?_) (fun p hp=>?_) ?_⟩
    · rcases mem_append.mp hq with hq | hq
      · refine A2 (mem_filter.mp hq) fun h1 h2=>?_
        exact ⟨back _ _ (N q h1).1 (of_decide_eq_true h2),(N q h1).2⟩
      · refine A3 (N' q hq) fun h1 h2 h3=>?_
        refine ⟨h1,fun z=>?_,?_⟩
        · rw [z] at h3; have:=gk _ _ hgL offL; rw [show (hideAll s.heap (ownO.map (·.1))).get? c.L=none from h3] at this; cases this
        · cases q0:c.h₀.get? q.1 with
          | none=>rfl
          | some o=>have:=st _ _ q0; rw [show (hideAll s.heap (ownO.map (·.1))).get? q.1=none from h3] at this; cases this
    · exact mem_append_left _ (mem_filter.mpr ⟨hq,decide_eq_true (offN q hq hp)⟩)
    · rcases hm1 p hp with hp | ⟨hp,ho⟩
      · obtain ⟨y,hp,hy⟩:=hp
        obtain ⟨o,h1,h2⟩:=fl'.ob _ hp; exact ⟨o,mem_append_right _ h1,hy o h2⟩
      · refine E1 (fl.ob p hp) fun o q925=>A2 q925 fun h1 h2=>?_
        clear q925
        exact ⟨o,mem_append_left _ (mem_filter.mpr ⟨h1,decide_eq_true ho⟩),h2⟩
    · refine nodup_append.mpr ⟨hm2,nd.2.1,fun a ha b hb e=>?_⟩
      subst e
      refine E1 (mem_map.mp ha) fun p q926=>A2 q926 fun hp e927=>?_
      clear q926
      clear ha
      first | subst e927 | cases e927
      rcases hm1 p hp with hp | ⟨hp,_⟩
      · obtain ⟨y,hp,hy⟩:=hp
        obtain ⟨o,h1,h2⟩:=fl'.ob _ hp
        obtain ⟨o2,h3⟩ : ∃ o,(p.1,o) ∈ news:=by
          rcases mem_append.mp hb with hb | hb
          · refine E1 (mem_map.mp hb) fun q q928=>A2 q928 fun hq e=>?_
            clear q928
            exact ⟨q.2,e▸fl.hid q hq⟩
          · exact lc fl.vars _ hb
        have:=gk _ _ (N _ h3).1 (offN _ h3 hb)
        rw [show (hideAll s.heap (ownO.map (·.1))).get? p.1=none from (N' _ h1).2.2] at this; cases this
      · exact nd.2.2 _ (mem_map_of_mem hp) _ hb rfl
  cases f' <;> cases f0 <;> first | exact hf.elim | exact post _ _ _ _ _ hf hst hr2 | exact post _ _ _ _ _ rfl hst hr2
theorem aG {args:List Value} {xs:List Str} {own:Led} {M₀:FM} {ir:List IS} {k:Nat} {R:Value→FM→Led→Prop} {P:Flow→Led→Prop} (H:Cok c (rm+1))
    (ho:∀ w:World,RowW.prog (OpenRow.toRowW (OpenLaw.row Challenge.rw_il0094_01))=PG→(hd.heap_39 w.params).lookup f=some ⟨oc,od,.func (fnOf name qual params body scope dV kV doc pm an cdv ct),osl⟩) (hcd:∀ w:World,RowW.prog (OpenRow.toRowW (OpenLaw.row Challenge.rw_il0094_01))=PG→codeIn (hd.heap_39 w.params) cdv qual=true)
    (hbind:∀ s vs',aD vs' args→BindsTo s (fnOf name qual params body scope dV kV doc pm an cdv ct) ⟨vs',[]⟩ (xs.zip vs'))
    (hkind:∀ x ∈ xs,scope.names.lookup x=some .local∨scope.names.lookup x=some .cell) (hnd:bw scope.names=true)
    (hM:dg (af scope.names) (xs.zip args)=M₀) (hB:CB ⟨scope.names,af scope.names⟩ body ir)
    (hco:scope.isCoroutine=false) (hgen:scope.isGenerator=false) (hk:scope.kind = .function)
    (hown:own.Sublist nw)
    (hP:∀ fl nw',(nw.map (·.1)).Nodup→(nw'.map (·.1)).Nodup→(∀ a ∈ nw'.map (·.1),a ∈ nw.map (·.1)→a ∈ own.map (·.1))→P fl nw'→∃ nw2,mem2 c.w own nw nw2 nw'∧R (ko fl) M nw2)
    (h:∀ c',c'.sc=⟨scope.names,af scope.names⟩→c'.w=c.w→Cok c' rm→wpS c' k ir M₀ own fun fl _ nw'=>P fl nw') :
    Do c .call (.ref f::args) M nw R:=Do.mk fun vs' t hs ht s Q S post=>by
  refine E2 hs.cons fun f' vs q91=>A3 q91 fun e92 hf hvs=>?_
  clear q91
  clear hs
  first | subst e92 | cases e92
  cases aa hf
  cases (show _=_ from ht)
  refine wpAny_call ?_
  obtain ⟨mf,Ff⟩:=cJ (H:=H) S
  exact codeAny_call_function (fd:=fnOf name qual params body scope dV kV doc pm an cdv ct) (by have:=H.dp; omega) ((H.K.keeps Ff.keep) _ _ (ho c.w rfl)) rfl hco hgen rfl (codeRec_of (H.K.keeps Ff.keep) (hcd c.w rfl)) (hbind s vs hvs _ _ _ _ (du H hkind hnd hM hB hk hown hP h hvs S post))
theorem bh {own:Led} {R:Value→FM→Led→Prop} (hown:own.Sublist nw) (fl:Flow) (nw':Led) (h1:(nw.map (·.1)).Nodup) (h2:(nw'.map (·.1)).Nodup) (h3:∀ a ∈ nw'.map (·.1),a ∈ nw.map (·.1)→a ∈ own.map (·.1))
    (h:∃ new,ar c.w nw' (new++own)∧R (ko fl) M (new++nw)):∃ nw2,mem2 c.w own nw nw2 nw'∧R (ko fl) M nw2:=by
  refine E1 h fun new q91=>A2 q91 fun hw hr=>?_
  try clear h
  clear q91
  have w2:=hw.mem
  refine ⟨new++nw,⟨fun p hp=>?_,?_⟩,hr⟩
  · rcases mem_append.mp hp with hp | hp
    · exact .inl (w2 p (mem_append_left _ hp))
    · by_cases ho:p.1 ∈ own.map (·.1)
      · refine E1 (mem_map.mp ho) fun q q92=>A2 q92 fun hq e=>?_
        clear q92
        have:p=q:=by
          obtain ⟨i,hi⟩:=mem_iff_getElem?.mp hp
          obtain ⟨j,hj⟩:=mem_iff_getElem?.mp (hown.subset hq)
          have e1:(nw.map (·.1))[i]? = some p.1:=by rw [List.getElem?_map,hi]; rfl
          have e2:(nw.map (·.1))[j]? = some p.1:=by rw [List.getElem?_map,hj,← e]; rfl
          have:=(List.getElem?_inj (List.getElem?_eq_some_iff.mp e1).1 h1).mp (e1.trans e2.symm)
          clear e1 e2
          subst this
          rw [hi] at hj; exact Option.some.inj hj
        subst this
        exact .inl (w2 p (mem_append_right _ hq))
      · exact .inr ⟨hp,ho⟩
  · have nd:(new.map (·.1)++own.map (·.1)).Nodup:=by rw [← map_append]; exact hw.nd h2
    rw [map_append]
    refine nodup_append.mpr ⟨(nodup_append.mp nd).1,h1,fun a ha b hb e=>?_⟩
    subst e
    refine E1 (mem_map.mp ha) fun p q93=>A2 q93 fun hp e94=>?_
    clear q93
    first | subst e94 | cases e94
    refine E1 (w2 p (mem_append_left _ hp)) fun y q95=>A2 q95 fun hy _=>?_
    clear q95
    exact (nodup_append.mp nd).2.2 _ ha _ (h3 _ (mem_map_of_mem (f:=(·.1)) hy) hb) rfl
theorem cL {own l1 l2:Led} {R:Value→FM→Led→Prop} (hn:nw=l1++(own++l2)) (fl:Flow) (nw':Led) (h1:(nw.map (·.1)).Nodup) (h2:(nw'.map (·.1)).Nodup) (h3:∀ a ∈ nw'.map (·.1),a ∈ nw.map (·.1)→a ∈ own.map (·.1))
    (h:∃ own',ar c.w nw' own'∧R (ko fl) M (l1++(own'++l2))):∃ nw2,mem2 c.w own nw nw2 nw'∧R (ko fl) M nw2:=by
  refine E1 h fun own' q91=>A2 q91 fun hw hr=>?_
  try clear h
  clear q91
  have w2:=hw.mem
  subst hn
  rw [map_append,map_append] at h1
  refine A3 (nodup_append.mp h1) fun a1 a2 a3=>?_
  refine A3 (nodup_append.mp a2) fun b1 b2 b3=>?_
  have off:∀ a ∈ own'.map (·.1),a ∈ (l1++(own++l2)).map (·.1)→a ∈ own.map (·.1):=fun a ha hb=>by
    refine E1 (mem_map.mp ha) fun p q92=>A2 q92 fun hp e93=>?_
    clear q92
    first | subst e93 | cases e93
    refine E1 (w2 p hp) fun y q94=>A2 q94 fun hy _=>?_
    clear q94
    exact h3 _ (mem_map_of_mem (f:=(·.1)) hy) hb
  refine ⟨l1++(own'++l2),⟨fun p hp=>?_,?_⟩,hr⟩
  · rcases mem_append.mp hp with hp | hp
    · exact .inr ⟨mem_append_left _ hp,fun q=>a3 _ (mem_map_of_mem hp) _ (mem_append_left _ q) rfl⟩
    · rcases mem_append.mp hp with hp | hp
      · exact .inl (w2 p hp)
      · exact .inr ⟨mem_append_right _ (mem_append_right _ hp),fun q=>b3 _ q _ (mem_map_of_mem hp) rfl⟩
  · rw [map_append,map_append]
    refine nodup_append.mpr ⟨a1,nodup_append.mpr ⟨hw.nd h2,b2,fun a ha b hb e=>?_⟩,fun a ha b hb e=>?_⟩
    · subst e
      exact b3 _ (off a ha (by rw [map_append,map_append]; exact mem_append_right _ (mem_append_right _ hb))) _ hb rfl
    · subst e
      rcases mem_append.mp hb with hb | hb
      · exact a3 _ ha _ (mem_append_left _ (off a hb (by rw [map_append]; exact mem_append_left _ ha))) rfl
      · exact a3 _ ha _ (mem_append_right _ hb) rfl
theorem bb {fd:FuncData} {x:Str} {v:Value} (h:∀ s a,BindsTo s fd ⟨[a],[]⟩ [(x,a)]) (s:Shared) (vs':List Value) (hs:aD vs' [v]):BindsTo s fd ⟨vs',[]⟩ ([x].zip vs'):=by
  obtain ⟨u,us,rfl,hu,hs⟩:=hs.cons
  cases hs.nil
  exact h s u
theorem aY {fd:FuncData} {x y:Str} {v w:Value} (h:∀ s a b,BindsTo s fd ⟨[a,b],[]⟩ [(x,a),(y,b)]) (s:Shared) (vs':List Value) (hs:aD vs' [v,w]):BindsTo s fd ⟨vs',[]⟩ ([x,y].zip vs'):=by
  obtain ⟨u,us,rfl,hu,hs⟩:=hs.cons
  obtain ⟨u2,us,rfl,hu,hs⟩:=hs.cons
  cases hs.nil
  exact h s u u2
theorem bt {fd:FuncData} {x y z:Str} {v w u:Value} (h:∀ s a b d,BindsTo s fd ⟨[a,b,d],[]⟩ [(x,a),(y,b),(z,d)]) (s:Shared) (vs':List Value) (hs:aD vs' [v,w,u]):BindsTo s fd ⟨vs',[]⟩ ([x,y,z].zip vs'):=by
  obtain ⟨u,us,rfl,hu,hs⟩:=hs.cons
  obtain ⟨u2,us,rfl,hu,hs⟩:=hs.cons
  obtain ⟨u3,us,rfl,hu,hs⟩:=hs.cons
  cases hs.nil
  exact h s u u2 u3
end
noncomputable def xu (names:List (Str×NameKind)) (xs:List Str):Bool:=xs.all fun x=>names.lookup x == some .local || names.lookup x == some .cell
theorem ak {names:List (Str×NameKind)} {xs:List Str} (h:xu names xs=true):∀ x ∈ xs,names.lookup x=some .local∨names.lookup x=some .cell:=fun x hx=>by
  have:=all_eq_true.mp h x hx
  rcases Bool.or_eq_true_iff.mp this with h | h
  · exact .inl (by simpa using h)
  · exact .inr (by simpa using h)
end
section
set_option tactic.hygienic false
section
variable {c:Cx} {M:FM} {n:Led} {rm:Nat}
theorem ce.weak {nw nw2:Led} {m:Str→Option Value} {news:List (Addr×Obj)} (f:ce c M nw m news) (h:ar c.w nw nw2):ce c M nw2 m news :=
  f.mono (fun _ h _=>h) (fun p hp=>by obtain ⟨y,h1,h2⟩:=h.mem p hp; obtain ⟨o,e1,e2⟩:=f.ob _ h1; exact ⟨o,e1,h2 o e2⟩) (h.nd2 f.nd)
theorem St.weak {nw nw2:Led} {s:Shared} (S:St c M nw s) (h:ar c.w nw nw2):St c M nw2 s:=by
  obtain ⟨e,m,news,F,N,f⟩:=S
  exact ⟨e,m,news,F,N,f.weak h⟩
noncomputable def cW (c:Cx) (t:IT) (x:Value) (M:FM) (nw:Led) (R:FM→Led→Prop):Prop:=match t with
  | .one i=>R (M.set i (some x)) nw
  | .tup is=>Do c (.unp is) [x] M nw fun _ M nw=>R M nw
theorem iN {t:IT} {tg:Expr} {x x':Value} {R:FM→Led→Prop} (H:Cok0 c rm) (ht:CT c.sc tg t) (hs:Sim x' x) (h:cW c t x M n R):TrU c (assign tg c.env x') M n R:=by
  cases ht with
  | one hx=>exact fun s Q S post=>wpAny_assign_Name (bi H hx hs h s Q S post)
  | tup hts=>exact Tr.un (Do.tr h (.one hs) (.unp _ _ _ _ _ hts))
noncomputable def LR {α:Type} (w:World) (J:List α→FM→Led→Prop) (R:Flow→FM→Led→Prop) (r:List α):Flow→FM→Led→Prop:=fun fl M nw=>match fl with
  | .ret v=>R (.ret v) M nw
  | .brk=>R .next M nw
  | _=>∃ nw2,ar w nw nw2∧J r M nw2
noncomputable def JN {α:Type} (c:Cx) (J:List α→FM→Led→Prop) (r:List α) (m:Str→Option Value) (news:List (Addr×Obj)):Prop:=∃ M nw,J r M nw∧ce c M nw m news
theorem fY {α:Type} {t:IT} {tg:Expr} {body:List Stmt} {b:List IS} {J:List α→FM→Led→Prop} {R:Flow→FM→Led→Prop} {r:List α} {x x':Value} {I:Addr} {oi:Obj} {keep:List (Addr×Obj)} {k:Nat} {s:Shared} {h:Heap} {tk:Nat} {m:Str→Option Value} {news:List (Addr×Obj)} {Q:Flow→Shared→Prop}
    (H:Cok c rm) (ht:CT c.sc tg t) (hb:CB c.sc body b) (hs:Sim x' x) (hk:∀ M nw,J r M nw→∀ p ∈ keep,(p.1,aE.raw p.2) ∈ nw)
    (e:s = { c.s₀ with heap:=s.heap,toks:=s.toks }) (F:Fr c.h₀ c.env.locals h m) (N:News c.h₀ c.env.locals h ((I,oi)::news)) (hne:∀ p ∈ news,p.1≠I) (f:ce c M n m news)
    (step:Cok (c.hide I oi) rm→cW (c.hide I oi) t x M n fun M nw=>wpS (c.hide I oi) k b M nw (LR c.w J R r))
    (post:∀ f' f M' n' s',pe f' f→St c M' n' s'→R f M' n'→Q f' s') :
    wpAny (model PG c.w) c.A (assign tg c.env x') (fun _ s₂=>wpAny (model PG c.w) c.A (execs body c.env) (cX c.h₀ c.env.locals { s with heap:=h,toks:=tk } I oi keep (JN c J r) Q) c.E s₂) c.E { s with heap:=h,toks:=tk }:=by
  rw [H.el] at F N ⊢
  have hI:=N _ (.head _)
  have S1:St (c.hide I oi) M n { s with heap:=h,toks:=tk }:=St.hide e F (fun p hp=>N p (.tail _ hp)) f hne hI.1 hI.2.1 hI.2.2
  have H':Cok (c.hide I oi) rm:=H.hide I oi
  refine iN (c:=c.hide I oi) H'.toCok0 ht hs (step H') _ _ S1 fun M2 n2 s2 S2 hw=>?_
  refine cE hb (c.hide I oi) rm rfl H'.toCok0 k M2 n2 _ hw s2 _ S2 fun f' f0 M3 n3 s3 hf S3 hr=>?_
  have same:∀ h:Heap,Heap.SameBut I h h:=fun h=>.refl _ _
  have S3':St c M3 n3 s3:=S3.unhide (same _)
  have turn:∀ {nw2},ar c.w n3 nw2→J r M3 nw2→∃ h' tk' m' news',s3 = { s with heap:=h',toks:=tk' }∧Fr c.h₀ c.L h' m'∧News c.h₀ c.L h' ((I,oi)::news')∧(∀ p ∈ news',p.1≠I)∧(∀ p ∈ keep,p ∈ news')∧JN c J r m' news':=fun {nw2} hw hj=>by
    obtain ⟨e3,m3,news3,F3,N3,f3⟩:=S3.weak (c:=c.hide I oi) hw
    have nd:(nw2.map (·.1)++I::c.priv).Nodup:=f3.nd
    rw [cj] at nd
    obtain ⟨n1,nn2⟩:=nodup_cons.mp nd
    have off:∀ p ∈ news3,p.1 ∈ nw2.map (·.1)++c.priv→p ∈ cp I news3:=fun p hp q=>ax.mpr ⟨hp,fun e=>n1 (e▸q)⟩
    have hob:∀ p ∈ nw2,∃ o,(p.1,o) ∈ cp I news3∧p.2.Is c.w o:=fun p hp=>by
      refine E1 (f3.ob p hp) fun o q91=>A2 q91 fun h1 h2=>?_
      clear q91
      exact ⟨o,off _ h1 (mem_append_left _ (mem_map_of_mem hp)),h2⟩
    refine ⟨s3.heap,s3.toks,m3,cp I news3,?_,F3,fun p hp=>?_,kj,fun p hp=>?_,M3,nw2,hj,⟨dT f3.vars fun b hb o h=>off _ h (mem_append_right _ (mem_append_right _ hb)),hob,fun p hp=>off p (f3.hid p (.tail _ hp)) (mem_append_right _ (mem_append_left _ (mem_map_of_mem hp))),nn2⟩⟩
    · rw [e3]; show _=_; rw [e]; rfl
    · clear N hne step hI S1 H' S2 hw S3 same e3 F3 nd n1 off hob
      rcases mem_cons.mp hp with rfl | hp
      · exact N3 _ (f3.hid (I,oi) (.head _))
      · exact N3 p (ax.mp hp).1
    · refine E1 (hob _ (hk _ _ hj p hp)) fun o q92=>A2 q92 fun h1 h2=>?_
      clear q92
      have e2:o=p.2:=h2
      rw [e2] at h1; exact h1
  cases f' <;> cases f0 <;> first
    | exact hf.elim
    | (obtain ⟨nw2,hw,hj⟩:=hr
       refine E4 (turn hw hj) fun h' tk' m' news' q93=>A6 q93 fun e' F' N' ne' hk' j'=>?_
       clear q93
       clear S3 S3' turn
       subst e'
       first | exact cX.next F' N' ne' hk' j' | exact cX.cont F' N' ne' hk' j')
    | exact cX.brk (post .next .next _ _ _ trivial S3' hr)
    | exact cX.ret (post (.ret _) (.ret _) _ _ _ hf S3' hr)
theorem DoF.mk {t:IT} {v:Value} {b:List IS} {R:Flow→FM→Led→Prop} (h:∀ target body v' s Q,CT c.sc target t→CB c.sc body b→Sim v' v→St c M n s→(∀ f' f M' n' s',pe f' f→St c M' n' s'→R f M' n'→Q f' s') →
    wpAny (model PG c.w) c.A (pyIter v') (fun it s₂=>TurnsAt PG c.w c.A c.h₀ c.env target body Q c.E it s₂) c.E s):DoF c t v b M n R:=by unfold DoF; exact h
theorem jM {α:Type} {J:List α→FM→Led→Prop} {R:Flow→FM→Led→Prop} {Q:Flow→Shared→Prop} {s:Shared} (H:Cok c rm) (done:∀ M nw,J [] M nw→∃ nw2,ar c.w nw nw2∧R .next M nw2) (e:s = { c.s₀ with heap:=s.heap,toks:=s.toks }) (post:∀ f' f M' n' s',pe f' f→St c M' n' s'→R f M' n'→Q f' s') (m₁:Str→Option Value) (news₁:List (Addr×Obj)) (h:Heap) (tk:Nat) :
    JN c J [] m₁ news₁→Fr c.h₀ c.env.locals h m₁→News c.h₀ c.env.locals h news₁→Q .next { s with heap:=h,toks:=tk }:=fun ⟨M,nw,hj,f⟩ F N=>by
  rw [H.el] at F N
  refine E1 (done M nw hj) fun nw2 q91=>A2 q91 fun hw hr=>?_
  clear q91
  exact post .next .next M nw2 _ trivial ((St.mk' e F N f).weak hw) hr
theorem qb {i:Nat} {ba:Array UInt8} {tb:Tok} {b:List IS} {R:Flow→FM→Led→Prop} {k:Nat} (J:List UInt8→FM→Led→Prop) (H:Cok c rm) (hj:J ba.toList M n)
    (step:∀ c',c'.sc=c.sc→c'.w=c.w→Cok c' rm→∀ x r M nw,J (x::r) M nw→wpS c' k b (M.set i (some (.int (x.toNat:Int) 0))) nw (LR c.w J R r)) (done:∀ M nw,J [] M nw→∃ nw2,ar c.w nw nw2∧R .next M nw2):DoF c (.one i) (.bytes ba tb) b M n R:=DoF.mk fun target body v' s Q ht hb hv S post=>by
  obtain ⟨u,rfl⟩:=bL hv
  obtain ⟨e,m,news,F,N,f⟩:=S
  refine lD (fun _ _ r m news=>JN c J r m news) H.hh (by rw [H.el]; exact F) (by rw [H.el]; exact N) ⟨M,n,hj,f⟩ (by cases ht; exact fun _ _=>rfl) (fun I hI x r t m₁ news₁ h tk oi ⟨M',n',hj',f'⟩ hne hoi F' N'=>?_) (fun m₁ news₁ h tk=>jM H done e post m₁ news₁ h tk)
  exact fY (keep:=[]) H ht hb (x:=.int _ 0) rfl (fun _ _ _ _ h=>nomatch h) e F' N' hne f' (fun h3=>step (c.hide I oi) rfl rfl h3 x r M' n' hj') post
end
end
section
set_option tactic.hygienic false
section
variable {c:Cx} {M:FM} {nw:Led} {rm:Nat} {R:Value→FM→Led→Prop}
theorem jU {a b:Int} {t u:Tok} (h:IntMulOk a b) (hr:R (.int (a * b) 0) M nw):Do c (.bin .Mult) [.int a t,.int b u] M nw R:=Do.mk fun vs' t' hs ht s Q S post=>by
  obtain ⟨x,_,rfl,hx,hs⟩:=hs.cons
  obtain ⟨y,_,rfl,hy,hs⟩:=hs.cons
  cases hs.nil
  cases (show _=_ from ht)
  clear hs ht
  obtain ⟨_,rfl⟩:=ah hx
  obtain ⟨_,rfl⟩:=ah hy
  exact mul_int (post _ (.int _ 0) _ _ _ rfl (S.tok _) hr) h
end
end
section
set_option tactic.hygienic false
inductive dL (w:World):Led→Led→Prop
  | nil:dL w [] []
  | cons {a x o nw nr} (hx:x.Is w o) (h:dL w nw nr):dL w ((a,x)::nw) ((a,.raw o)::nr)
theorem dL.keys {w:World} {nw nr:Led} (h:dL w nw nr):nr.map (·.1)=nw.map (·.1):=by
  induction h with
  | nil=>rfl
  | cons hx h ih=>exact congrArg (List.cons _) ih
theorem dL.weak {w:World} {nw nr:Led} (h:dL w nw nr):ar w nr nw:=by
  induction h with
  | nil=>exact .refl _
  | cons hx h ih=>exact .thaw (fun o e=>e▸hx) ih
noncomputable def ae (w:World) (nw:Led) (a:Addr) (x:aE):Prop:=∃ y,(a,y) ∈ nw∧∀ o,y.Is w o→x.Is w o
theorem ae.mem {w:World} {nw:Led} {a:Addr} {x:aE} (h:(a,x) ∈ nw):ae w nw a x:=⟨x,h,fun _ h=>h⟩
theorem ae.tail {w:World} {nw:Led} {a:Addr} {x:aE} {p:Addr×aE} (h:ae w nw a x):ae w (p::nw) a x:=by
  obtain ⟨y,h1,h2⟩:=h; exact ⟨y,.tail _ h1,h2⟩
theorem ae.head {w:World} {nw:Led} {a:Addr} {x:aE}:ae w ((a,x)::nw) a x:=.mem (.head _)
theorem dL.sees {w:World} {nw nr:Led} (h:dL w nw nr) {a:Addr} {x:aE} (hm:ae w nw a x):ae w nr a x:=by
  refine E1 hm fun y q91=>A2 q91 fun h1 h2=>?_
  try clear hm
  clear q91
  induction h with
  | nil=>cases h1
  | cons hx h ih =>
    rcases mem_cons.mp h1 with e | h1
    · cases e; exact ⟨_,.head _,fun o e=>h2 _ (e▸hx)⟩
    · exact (ih h1).tail
section
variable {c:Cx} {M:FM} {nw:Led} {rm:Nat}
theorem St.sees {s:Shared} {a:Addr} {x:aE} (S:St c M nw s) (h:ae c.w nw a x):∃ o,x.Is c.w o∧s.heap.get? a=some o:=by
  refine E1 h fun y q91=>A2 q91 fun h1 h2=>?_
  try clear h
  clear q91
  refine E1 (S.mem h1) fun o q92=>A2 q92 fun e1 e2=>?_
  clear q92
  exact ⟨o,h2 o e1,e2⟩
theorem gi {m:Str→Option Value} {news:List (Addr×Obj)} (f:ce c M nw m news):∃ nr,dL c.w nw nr∧ce c M nr m news:=by
  have:∀ l:Led,(∀ p ∈ l,p ∈ nw)→∃ nr,dL c.w l nr∧∀ p ∈ nr,∃ o,(p.1,o) ∈ news∧p.2.Is c.w o:=by
    intro l
    induction l with
    | nil=>exact fun _=>⟨[],.nil,fun _ h=>(nomatch h)⟩
    | cons p r ih =>
      intro h
      obtain ⟨nr,h1,h2⟩:=ih fun q hq=>h q (.tail _ hq)
      obtain ⟨o,e1,e2⟩:=f.ob p (h p (.head _))
      refine ⟨(p.1,.raw o)::nr,.cons e2 h1,fun q hq=>?_⟩
      rcases mem_cons.mp hq with rfl | hq
      · exact ⟨o,e1,rfl⟩
      · exact h2 q hq
  obtain ⟨nr,h1,h2⟩:=this nw fun _ h=>h
  exact ⟨nr,h1,f.mono (fun _ h _=>h) h2 (by rw [h1.keys]; exact f.nd)⟩
noncomputable def aW:dA→dA
  | .cell x a=>.cell x a
  | _=>.dead
noncomputable def xC:Str×NameKind→Option dA
  | (x,.local)=>some (.loc x)
  | _=>none
noncomputable def aA (names:List (Str×NameKind)):List dA:=names.filterMap xC
theorem bB:∀ vs:List dA,aj (vs.map aW)=aj vs
  | []=>rfl
  | .loc _::r=>bB r
  | .cell _ _::r=>congrArg (List.cons _) (bB r)
  | .dead::r=>bB r
theorem iK:∀ (names:List (Str×NameKind)) (vs:List dA),aj (aA names++vs)=aj vs
  | [],vs=>rfl
  | (x,k)::r,vs=>by
    unfold aA
    rw [filterMap_cons]
    cases k <;> exact iK r vs
theorem cQ:∀ names:List (Str×NameKind),(aA names).length=fN names
  | []=>rfl
  | (x,k)::r=>by
    unfold aA fN
    rw [filterMap_cons,filter_cons]
    cases k <;> first | exact congrArg (· + 1) (cQ r) | exact cQ r
noncomputable def Cx.dead (c:Cx):Cx:={ c with vs:=c.vs.map aW }
theorem ce.dead {m m':Str→Option Value} {news:List (Addr×Obj)} (f:ce c M nw m news):ce c.dead M nw m' news :=
  ⟨⟨by show (c.vs.map aW).length=_; rw [length_map]; exact f.vars.1,fun i l v hl hv=>by
      have hl':(c.vs.map aW)[i]? = some l:=hl
      rw [List.getElem?_map] at hl'
      refine E1 (map_eq_some_iff.mp hl') fun z q91=>A2 q91 fun hz e92=>?_
      clear q91
      clear hl hl'
      first | subst e92 | cases e92
      have:=f.vars.2 i z v hz hv
      cases z with
      | loc _=>trivial
      | cell _ _=>exact this
      | dead=>trivial⟩,f.ob,f.hid,by
    show (nw.map (·.1)++(c.hid.map (·.1)++aj (c.vs.map aW))).Nodup
    rw [bB]; exact f.nd⟩
theorem ce.alive {m:Str→Option Value} {m':Str→Option Value} {nw₀:Led} {news₀ news:List (Addr×Obj)} (f₀:ce c M nw₀ m news₀) (f:ce c.dead M nw m' news):ce c M nw m news :=
  ⟨⟨f₀.vars.1,fun i l v hl hv=>by
      have h0:=f₀.vars.2 i l v hl hv
      have h1:=f.vars.2 i (aW l) v (by show (c.vs.map aW)[i]? = _; rw [List.getElem?_map,hl]; rfl) hv
      clear hl
      cases l with
      | loc _=>exact h0
      | cell _ _=>exact h1
      | dead=>trivial⟩,f.ob,f.hid,by
    have:=f.nd
    have e:c.dead.priv=c.priv:=by show c.hid.map (·.1)++aj (c.vs.map aW)=_; rw [bB]; rfl
    rw [e] at this; exact this⟩
noncomputable def Cx.comp (c:Cx) (scope:Scope) (cl:List (Str×Addr)) (C D I:Addr) (oD oL oi:Obj):Cx :=
  { c with sc:=aC c.sc scope,env:=compEnvC scope cl C c.env,L:=C,vs:=aA scope.names++c.vs.map aW,hid:=(D,oD)::(c.L,oL)::(I,oi)::c.hid,E:=fun _ _=>False }
theorem dD {sc:SC}:∀ {names:List (Str×NameKind)} {x:Str} {k:NameKind},names.lookup x=some k→(aQ sc names).lookup x=some (if (k == NameKind.free && sc.names.lookup x == some .cell) then NameKind.cell else k)
  | [],_,_,h=>by cases h
  | (y,j)::r,x,k,h=>by
    unfold aQ
    rw [map_cons]
    rw [lookup_cons] at h
    by_cases e:x=y
    · subst e
      simp only [beq_self_eq_true] at h
      cases h
      dsimp only
      split <;> simp [lookup_cons]
    · have e':(x == y)=false:=beq_eq_false_iff_ne.mpr e
      rw [e'] at h
      have ih:=dD (sc:=sc) h
      dsimp only
      split <;> (rw [lookup_cons,e']; exact ih)
theorem eW {sc:SC}:∀ {names:List (Str×NameKind)} {x:Str},names.lookup x=none→(aQ sc names).lookup x=none
  | [],_,h=>rfl
  | (y,j)::r,x,h=>by
    unfold aQ
    rw [map_cons]
    rw [lookup_cons] at h
    by_cases e:x=y
    · subst e; simp at h
    · have e':(x == y)=false:=beq_eq_false_iff_ne.mpr e
      rw [e'] at h
      have ih:=eW (sc:=sc) h
      dsimp only
      split <;> (rw [lookup_cons,e']; exact ih)
theorem cu {cells:List (Str×Addr)} {x:Str}:∀ {l:List (Str×NameKind)} {acc:List (Str×Addr)},((x,.free) ∈ l∨acc.lookup x=some ((cells.lookup x).getD 0))→(aU l cells acc).lookup x=some ((cells.lookup x).getD 0)
  | [],acc,h=>by
    rcases h with h | h
    · cases h
    · exact h
  | (y,k)::r,acc,h=>by
    unfold aU
    by_cases hk:(k == NameKind.free)=true
    · rw [if_pos hk]
      have hk':k = .free:=by simpa using hk
      by_cases e:x=y
      · clear h
        subst e
        exact cu (.inr (by simp [lookup_cons]))
      · refine cu (h.imp (fun h=>?_) fun h=>?_)
        · rcases mem_cons.mp h with h | h
          · cases h; exact absurd rfl e
          · exact h
        · rw [lookup_cons,beq_eq_false_iff_ne.mpr e]; exact h
    · rw [if_neg hk]
      refine cu (h.imp (fun h=>?_) id)
      rcases mem_cons.mp h with h | h
      · cases h; exact absurd rfl hk
      · exact h
theorem uK {names:List (Str×NameKind)} {i:Nat} {x:Str}:(names.filterMap fJ)[i]? = some (some (x,false))↔(aA names)[i]? = some (.loc x):=by
  have e:aA names=(names.filterMap fJ).map fun v=>match v with | some (x,false)=>dA.loc x | _=>.dead:=by
    unfold aA
    induction names with
    | nil=>rfl
    | cons p r ih =>
      obtain ⟨y,k⟩:=p
      rw [filterMap_cons,filterMap_cons]
      cases k <;> first | exact ih | exact congrArg (List.cons _) ih
  rw [e,List.getElem?_map]
  constructor
  · intro h; rw [h]; rfl
  · intro h
    refine E1 (map_eq_some_iff.mp h) fun v q91=>A2 q91 fun hv e=>?_
    clear q91
    rw [hv]
    clear hv
    cases v with
    | none=>cases e
    | some p =>
      obtain ⟨y,b⟩:=p
      cases b with
      | true=>cases e
      | false=>cases e; rfl
theorem rM {names:List (Str×NameKind)} {i:Nat} {x:Str}:(names.filterMap fJ)[i]?≠some (some (x,true)):=fun h=>by
  obtain ⟨⟨y,k⟩,hm,e⟩:=mem_filterMap.mp (mem_of_getElem? h)
  cases k <;> first | cases e | (injection e with e; cases e)
theorem mJ (names:List (Str×NameKind)):(names.filterMap fJ).length=fN names:=by
  rw [← cQ]
  unfold aA
  induction names with
  | nil=>rfl
  | cons p r ih =>
    obtain ⟨y,k⟩:=p
    rw [filterMap_cons,filterMap_cons]
    cases k <;> first | exact ih | exact congrArg (· + 1) ih
theorem jB:∀ {names:List (Str×NameKind)},(names.map (·.1)).Nodup→(aA names).Nodup
  | [],_=>nodup_nil
  | (y,k)::r,nd=>by
    obtain ⟨n1,n2⟩:=nodup_cons.mp nd
    have ih:=jB n2
    unfold aA
    rw [filterMap_cons]
    cases k <;> first
      | exact ih
      | (refine nodup_cons.mpr ⟨fun h=>?_,ih⟩
         obtain ⟨⟨z,k⟩,hm,e⟩:=mem_filterMap.mp h
         cases k <;> first | (cases e; exact n1 (mem_map.mpr ⟨_,hm,rfl⟩)) | cases e)
theorem Cok.comp {scope:Scope} {cl:List (Str×Addr)} {C D I:Addr} {oD oL oi:Obj} (H:Cok c rm) (hk:cx c.sc scope=true) (hcl:cl=aU scope.names c.env.cells []) (hL:∀ h:Heap,h.get? c.L=some oL→∃ m,h.Ns c.L m):Cok (c.comp scope cl C D I oD oL oi) rm:=by
  refine A5 (bT H.toCok0 hk) fun e1 e2 e3 e4 e5=>?_
  have rel:relabel scope c.env = { scope with names:=aQ c.sc scope.names }:=by
    unfold relabel aQ
    have:c.env.kindOf=fun y=>c.sc.names.lookup y:=by funext y; unfold Env.kindOf; rw [H.en]
    rw [H.ek,this]; simp
  refine { K:=H.K,T:=H.T,hh:=H.hh,hA:=H.hA,fe:=H.fe,lf:=?_,above:=H.above,dp:=H.dp,un:=H.un,el:=rfl,eg:=H.eg,eb:=H.eb,ek:=?_,en:=?_,ev:=fun i x h=>?_,ec:=fun i x h hx=>?_,vl:=fun i j x hi hj=>?_,hE:=PassesOwn.never }
  · rcases H.lf with h | ⟨o,h1,h2⟩
    · exact .inr ⟨oL,(by show (c.Lf,oL) ∈ (D,oD)::(c.L,oL)::(I,oi)::c.hid; rw [h]; exact .tail _ (.head _)),(by show ∀ h':Heap,h'.get? c.Lf=some oL→∃ m,h'.Ns c.Lf m; rw [h]; exact hL)⟩
    · exact .inr ⟨o,.tail _ (.tail _ (.tail _ h1)),h2⟩
  · show (relabel scope c.env).kind=_; rw [rel]; exact e2
  · show (relabel scope c.env).names=_; rw [rel]; rfl
  · have h':(scope.names.filterMap fJ++c.sc.vars.map iT)[i]? = some (some (x,false)):=h
    show (aA scope.names++c.vs.map aW)[i]? = _
    rw [List.getElem?_append] at h' ⊢
    rw [cQ,← mJ]
    split at h'
    · rename_i hi; rw [if_pos hi]; exact uK.mp h'
    · rw [List.getElem?_map] at h'
      refine E1 (map_eq_some_iff.mp h') fun v q91=>A2 q91 fun _ e=>?_
      clear q91
      cases v with
      | none=>cases e
      | some p=>obtain ⟨y,b⟩:=p; cases b <;> cases e
  · have h':(scope.names.filterMap fJ++c.sc.vars.map iT)[i]? = some (some (x,true)):=h
    have hx':(aQ c.sc scope.names).lookup x=some .cell:=hx
    rw [List.getElem?_append] at h'
    split at h'
    · exact absurd h' rM
    · rename_i hi
      rw [List.getElem?_map] at h'
      refine E1 (map_eq_some_iff.mp h') fun v q92=>A2 q92 fun hv e=>?_
      clear q92
      have hv':v=some (x,true):=by
        clear hv
        cases v with
        | none=>cases e
        | some p=>obtain ⟨y,b⟩:=p; cases b <;> cases e; rfl
      clear e
      subst hv'
      cases hsx:scope.names.lookup x with
      | none=>rw [eW hsx] at hx'; cases hx'
      | some k =>
        rw [dD hsx] at hx'
        have hmem:=mem_of_lookup hsx
        split at hx'
        · rename_i hfree
          have hf:=Bool.and_eq_true_iff.mp hfree
          have hk':k = .free:=by simpa using hf.1
          clear hsx hfree
          subst hk'
          have hcell:c.sc.names.lookup x=some .cell:=by simpa using hf.2
          refine E1 (H.ec _ _ hv hcell) fun a q93=>A2 q93 fun h1 h2=>?_
          clear q93
          refine ⟨a,?_,?_⟩
          · show (aA scope.names++c.vs.map aW)[i]? = _
            rw [List.getElem?_append,cQ,← mJ,if_neg hi,List.getElem?_map,h1]; rfl
          · show cl.lookup x=some a
            rw [hcl,cu (.inl hmem),h2]; rfl
        · clear hsx
          cases Option.some.inj hx'
          exact absurd rfl (e3 _ hmem)
  · have h1:(aA scope.names++c.vs.map aW)[i]? = some (.loc x):=hi
    have h2:(aA scope.names++c.vs.map aW)[j]? = some (.loc x):=hj
    have fst:∀ {i:Nat},(aA scope.names++c.vs.map aW)[i]? = some (.loc x)→(aA scope.names)[i]? = some (.loc x):=fun {i} h=>by
      rw [List.getElem?_append] at h
      split at h
      · exact h
      · rw [List.getElem?_map] at h
        refine E1 (map_eq_some_iff.mp h) fun v q94=>A2 q94 fun _ e=>?_
        clear q94
        cases v <;> cases e
    have e:(aA scope.names).Nodup:=by
      have nd:(scope.names.map (·.1)).Nodup:=by
        unfold cx at hk
        exact of_decide_eq_true (Bool.and_eq_true_iff.mp hk).2
      exact jB nd
    exact (List.getElem?_inj (List.getElem?_eq_some_iff.mp (fst h1)).1 e).mp ((fst h1).trans (fst h2).symm)
end
end
section
set_option tactic.hygienic false
noncomputable def nH (g:WT):List IE→FM→Led→(Bool→FM→Led→Prop)→Prop
  | [],M,n,R=>R true M n
  | [e],M,n,R=>g e M n R
  | _,_,_,_=>False
inductive ItR:List Itm→List Value→Prop
  | nil:ItR [] []
  | cons {a x its xs} (h:∀ v hp,a.Is v hp→Sim v x) (t:ItR its xs):ItR (a::its) (x::xs)
section
variable {c:Cx} {M:FM} {nw:Led} {rm:Nat}
theorem wP {sc:SC} {es:List Expr} {ies:List IE} (h:PEs sc es ies) (hc:c.sc=sc) (H:Cok0 c rm) (k:Nat) (R:Bool→FM→Led→Prop) (hw:nH (wpT c k) ies M nw R):TrB c (bX es c.env) M nw R:=by
  cases h with
  | nil=>exact fun s Q S post=>qm (post _ _ _ _ S hw)
  | cons hs h t =>
    cases t with
    | nil=>exact fun s Q S post=>pc ((h c rm hc H k M nw).2 _ hw s _ S post)
    | cons _ _ _=>exact hw.elim
noncomputable def tA (mC:Str→Option Value) (names:List (Str×NameKind)) (Mo:FM):Prop:=∀ (i:Nat) x v,(aA names)[i]? = some (.loc x)→Mo[i]? = some v→kX (mC x) v
noncomputable def JO (c:Cx) (names:List (Str×NameKind)) (nwr:Led) (M:FM) (J:List Value→List Value→Prop):pV:=fun r acc mC news=>∃ ra acca Mo m0,ItR r ra∧aD acc acca∧J ra acca∧Mo.length=fN names∧tA mC names Mo∧ce c.dead M nwr m0 news
noncomputable def bg (c:Cx) (rm k:Nat) (M:FM) (nw:Led) (J:List Value→List Value→Prop) (elt:IE) (t:IT) (ifs:List IE):Prop :=
  ∀ c2,c2.w=c.w→Cok c2 rm→∀ nwr,dL c.w nw nwr→∀ x r acc,J (x::r) acc→∀ Mo:FM,Mo.length=k→cW c2 t x (Mo++M) nwr fun M2 nw2=>nH (wpT c2 39) ifs M2 nw2 fun b M2 nw2 =>
    bif b then wpE c2 39 elt M2 nw2 (fun v M' nw'=>ar c.w nw' nwr∧M'.drop k=M∧J r (acc++[v])) else ar c.w nw2 nwr∧M2.drop k=M∧J r acc
noncomputable def gj (c:Cx) (rm k:Nat) (M:FM) (nw:Led) (J:List Value→List Value→Prop) (elt:IE) (t:IT) (ifs:List IE):Prop :=
  ∀ c2,c2.w=c.w→c2.h₀=c.h₀→Cok c2 rm→∀ nwr,dL c.w nw nwr→∀ x r acc,J (x::r) acc→∀ Mo:FM,Mo.length=k→cW c2 t x (Mo++M) nwr fun M2 nw2=>nH (wpT c2 39) ifs M2 nw2 fun b M2 nw2 =>
    bif b then wpE c2 39 elt M2 nw2 (fun v M' nw'=>ar c.w nw' nwr∧M'.drop k=M∧J r (acc++[v])) else ar c.w nw2 nwr∧M2.drop k=M∧J r acc
theorem bg.h {k:Nat} {J:List Value→List Value→Prop} {elt:IE} {t:IT} {ifs:List IE} (h:bg c rm k M nw J elt t ifs):gj c rm k M nw J elt t ifs:=fun c2 h1 _ h2=>h c2 h1 h2
theorem rq {scope:Scope} {cl:List (Str×Addr)} {nwr:Led} {s:Shared} {C D I:Addr} {o oL oi:Obj} {Mo:FM} {m₁ m0:Str→Option Value} {news₁:List (Addr×Obj)} {h:Heap} {tk:Nat}
    (e:s = { c.s₀ with heap:=s.heap,toks:=s.toks }) (hmo:Mo.length=fN scope.names) (hown:tA m₁ scope.names Mo) (hfull:ce c.dead M nwr m0 news₁) (hoff:∀ p ∈ news₁,p.1≠D∧p.1≠c.L∧p.1≠I∧p.1≠C) (hne:D≠c.L∧D≠I∧D≠C∧c.L≠I∧c.L≠C∧I≠C) (F:Fr c.h₀ C h m₁) (N:News c.h₀ C h ((D,o)::(c.L,oL)::(I,oi)::news₁)) :
    St (c.comp scope cl C D I o oL oi) (Mo++M) nwr { s with heap:=h,toks:=tk }:=by
  refine A6 hne fun n1 n2 n3 n4 n5 n6=>?_
  try clear hne
  let c2:=c.comp scope cl C D I o oL oi
  have hpriv:c2.priv=D::c.L::I::c.priv:=by
    show (D::c.L::I::c.hid.map (·.1))++aj (aA scope.names++c.vs.map aW)=_
    rw [iK,bB]; rfl
  have hdp:c.dead.priv=c.priv:=by show c.hid.map (·.1)++aj (c.vs.map aW)=_; rw [bB]; rfl
  have offp:∀ z,(∀ p ∈ news₁,p.1≠z)→z ∉ nwr.map (·.1)++c.priv:=fun z hz=>hdp▸hfull.off hz
  have oD:=offp D fun p hp=>(hoff p hp).1
  have oLL:=offp c.L fun p hp=>(hoff p hp).2.1
  have oI:=offp I fun p hp=>(hoff p hp).2.2.1
  have nd0:(nwr.map (·.1)++c.priv).Nodup:=hdp▸hfull.nd
  have nd2:(nwr.map (·.1)++c2.priv).Nodup:=by
    rw [hpriv,cj,nodup_cons,cj,nodup_cons,cj,nodup_cons]
    have ins:∀ {z y:Addr} {l r:List Addr},z≠y→z ∉ l++r→z ∉ l++y::r:=fun {z y l r} h1 h2 q=>by
      rcases mem_append.mp q with q | q
      · exact h2 (mem_append_left _ q)
      · rcases mem_cons.mp q with q | q
        · exact h1 q
        · exact h2 (mem_append_right _ q)
    exact ⟨ins n1 (ins n2 oD),ins n4 oLL,oI,nd0⟩
  · refine St.mk' (c:=c2) e F N ⟨⟨?_,fun i l w hl hw=>?_⟩,fun p hp=>?_,fun p hp=>?_,nd2⟩
    · show (aA scope.names++c.vs.map aW).length=_
      rw [length_append,length_append,cQ,hmo]
      congr 1; exact hfull.vars.1
    · have hl':(aA scope.names++c.vs.map aW)[i]? = some l:=hl
      rw [List.getElem?_append,cQ] at hl'
      rw [List.getElem?_append,hmo] at hw
      split at hl'
      · rename_i hi
        rw [if_pos hi] at hw
        refine E1 (mem_filterMap.mp (mem_of_getElem? hl')) fun q91 q92=>A2 q92 fun hm e=>?_
        clear q92
        obtain ⟨y,kk⟩:=q91
        cases kk <;> first | (cases e; exact hown i _ w hl' hw) | cases e
      · rename_i hi
        rw [if_neg hi] at hw
        have:=hfull.vars.2 _ l w hl' hw
        clear hl
        cases l with
        | loc y =>
          rw [List.getElem?_map] at hl'
          refine E1 (map_eq_some_iff.mp hl') fun z q93=>A2 q93 fun _ e=>?_
          clear q93
          cases z <;> cases e
        | cell y b=>obtain ⟨o,u,h1,h2⟩:=this; exact ⟨o,u,.tail _ (.tail _ (.tail _ h1)),h2⟩
        | dead=>trivial
    · obtain ⟨o,h1,h2⟩:=hfull.ob p hp; exact ⟨o,.tail _ (.tail _ (.tail _ h1)),h2⟩
    · clear e hoff F N n1 n2 n3 n4 n5 n6 hpriv hdp offp oD oLL oI nd0
      rcases mem_cons.mp hp with rfl | hp
      · exact .head _
      · rcases mem_cons.mp hp with rfl | hp
        · exact .tail _ (.head _)
        · rcases mem_cons.mp hp with rfl | hp
          · exact .tail _ (.tail _ (.head _))
          · exact .tail _ (.tail _ (.tail _ (hfull.hid p hp)))
theorem mt {k:Nat} {scope:Scope} {cl:List (Str×Addr)} {nwr:Led} {keep:List (Addr×Obj)} {s:Shared} {C D I:Addr} {o oL oi:Obj} {m0:Str→Option Value} {news₁:List (Addr×Obj)} {h:Heap} {tk:Nat}
    (e:s = { c.s₀ with heap:=s.heap,toks:=s.toks }) (hn:fN scope.names=k) (hkeep:∀ p ∈ keep,(p.1,aE.raw p.2) ∈ nwr) (hfull:ce c.dead M nwr m0 news₁) (hoff:∀ p ∈ news₁,p.1≠D∧p.1≠c.L∧p.1≠I∧p.1≠C) {M3:FM} {n3:Led} {s3:Shared} (S3:St (c.comp scope cl C D I o oL oi) M3 n3 s3) (hw:ar c.w n3 nwr) (hM:M3.drop k=M) :
    ∃ mC m3 news',s3 = { ({ s with heap:=h,toks:=tk }:Shared) with heap:=s3.heap,toks:=s3.toks }∧Fr c.h₀ C s3.heap mC∧News c.h₀ C s3.heap ((D,o)::(c.L,oL)::(I,oi)::news')∧(∀ p ∈ news',p.1≠D∧p.1≠c.L∧p.1≠I∧p.1≠C)∧(∀ p ∈ keep,p ∈ news')∧(M3.take k).length=fN scope.names∧tA mC scope.names (M3.take k)∧ce c.dead M nwr m3 news':=by
  let c2:=c.comp scope cl C D I o oL oi
  have hpriv:c2.priv=D::c.L::I::c.priv:=by
    show (D::c.L::I::c.hid.map (·.1))++aj (aA scope.names++c.vs.map aW)=_
    rw [iK,bB]; rfl
  have hdp:c.dead.priv=c.priv:=by show c.hid.map (·.1)++aj (c.vs.map aW)=_; rw [bB]; rfl
  have offp:∀ z,(∀ p ∈ news₁,p.1≠z)→z ∉ nwr.map (·.1)++c.priv:=fun z hz=>hdp▸hfull.off hz
  have oD:=offp D fun p hp=>(hoff p hp).1
  have oLL:=offp c.L fun p hp=>(hoff p hp).2.1
  have oI:=offp I fun p hp=>(hoff p hp).2.2.1
  obtain ⟨e3,m3,news3,F3,N3,f3⟩:=St.weak (c:=c2) S3 hw
  have nd3:(nwr.map (·.1)++D::c.L::I::c.priv).Nodup:=hpriv▸f3.nd
  have off3:∀ a ∈ nwr.map (·.1)++c.priv,a≠D∧a≠c.L∧a≠I:=fun a ha=>⟨fun z=>oD (z▸ha),fun z=>oLL (z▸ha),fun z=>oI (z▸ha)⟩
  have hfil:∀ p ∈ news3,p.1 ∈ nwr.map (·.1)++c.priv→p ∈ news3.filter (fun p=>decide (p.1≠D∧p.1≠c.L∧p.1≠I)):=fun p hp q=>mem_filter.mpr ⟨hp,decide_eq_true (off3 _ q)⟩
  have hlen:M3.length=k+c.vs.length:=by
    have:(aA scope.names++c.vs.map aW).length=M3.length:=f3.vars.1
    rw [← this,length_append,cQ,hn,length_map]
  have es3:s3 = { ({ s with heap:=h,toks:=tk }:Shared) with heap:=s3.heap,toks:=s3.toks }:=by
    have q:s3 = { c.s₀ with heap:=s3.heap,toks:=s3.toks }:=e3
    rw [q,e]
  refine ⟨m3,m3,news3.filter (fun p=>decide (p.1≠D∧p.1≠c.L∧p.1≠I)),es3,F3,fun p hp=>?_,fun p hp=>?_,fun p hp=>?_,by rw [length_take,hlen,hn]; exact Nat.min_eq_left (Nat.le_add_right _ _),fun i y v hl hv=>?_,⟨⟨?_,fun i l v hl hv=>?_⟩,fun p hp=>?_,fun p hp=>?_,hfull.nd⟩⟩
  · clear e hfull hoff S3 hw hpriv hdp offp oD oLL oI nd3 off3 hfil hlen
    rcases mem_cons.mp hp with rfl | hp
    · exact N3 _ (f3.hid _ (.head _))
    · rcases mem_cons.mp hp with rfl | hp
      · exact N3 _ (f3.hid _ (.tail _ (.head _)))
      · rcases mem_cons.mp hp with rfl | hp
        · exact N3 _ (f3.hid _ (.tail _ (.tail _ (.head _))))
        · exact N3 _ (mem_filter.mp hp).1
  · obtain ⟨h1,h2⟩:=mem_filter.mp hp
    refine A3 (of_decide_eq_true h2) fun q1 q2 q3=>?_
    exact ⟨q1,q2,q3,(N3 _ h1).2.1⟩
  · refine E1 (f3.ob _ (hkeep p hp)) fun o q91=>A2 q91 fun h1 h2=>?_
    clear q91
    have e2:o=p.2:=h2
    rw [e2] at h1
    exact hfil p h1 (mem_append_left _ (mem_map_of_mem (f:=(·.1)) (hkeep p hp)))
  · rw [List.getElem?_take] at hv
    split at hv
    · have hl2:(aA scope.names++c.vs.map aW)[i]? = some (.loc y):=by rw [List.getElem?_append,if_pos (List.getElem?_eq_some_iff.mp hl).1]; exact hl
      exact f3.vars.2 i _ v hl2 hv
    · cases hv
  · show (c.vs.map aW).length=M.length
    rw [← hM,length_drop,hlen,length_map]; omega
  · have hl':(c.vs.map aW)[i]? = some l:=hl
    have hl2:(aA scope.names++c.vs.map aW)[k+i]? = some l:=by rw [List.getElem?_append,cQ,hn,if_neg (by (clear hn hlen; omega)),show k+i - k=i from by (clear hn hlen; omega)]; exact hl'
    have hv2:M3[k+i]? = some v:=by rw [← hM,List.getElem?_drop] at hv; exact hv
    have:=f3.vars.2 _ l v hl2 hv2
    clear hl hl2
    cases l with
    | loc y =>
      rw [List.getElem?_map] at hl'
      refine E1 (map_eq_some_iff.mp hl') fun z q92=>A2 q92 fun _ e=>?_
      clear q92
      cases z <;> cases e
    | cell y b =>
      refine E2 this fun o u q93=>A2 q93 fun h1 h2=>?_
      try clear this
      clear q93
      rw [List.getElem?_map] at hl'
      refine E1 (map_eq_some_iff.mp hl') fun z q94=>A2 q94 fun hz e=>?_
      clear q94
      cases z with
      | loc _=>cases e
      | dead=>cases e
      | cell y' b' =>
        cases e
        exact ⟨o,u,hfil _ h1 (mem_append_right _ (mem_append_right _ (bx (mem_of_getElem? hz)))),h2⟩
    | dead=>trivial
  · refine E1 (f3.ob p hp) fun o q95=>A2 q95 fun h1 h2=>?_
    clear q95
    exact ⟨o,hfil _ h1 (mem_append_left _ (mem_map_of_mem hp)),h2⟩
  · exact hfil p (f3.hid p (.tail _ (.tail _ (.tail _ hp)))) (mem_append_right _ (mem_append_left _ (mem_map_of_mem hp)))
theorem pH {k:Nat} {elt:IE} {t:IT} {ifs:List IE} {eltE tE:Expr} {ifsE:List Expr} {scope:Scope} {cl:List (Str×Addr)} {J:List Value→List Value→Prop} {nwr:Led} {keep:List (Addr×Obj)} {s:Shared} {m:Str→Option Value} {news₀:List (Addr×Obj)} {nm:String} {len:Nat}
    (H:Cok c rm) (he:CX (aC c.sc scope) (.ex eltE) (.ex elt)) (ht:CT (aC c.sc scope) tE t) (hf:CX (aC c.sc scope) (.exs ifsE) (.exs ifs)) (hk:cx c.sc scope=true) (hn:fN scope.names=k) (hcl:cl=aU scope.names c.env.cells [])
    (e:s = { c.s₀ with heap:=s.heap,toks:=s.toks }) (hfz:dL c.w nw nwr) (hkeep:∀ p ∈ keep,(p.1,aE.raw p.2) ∈ nwr) (step:gj c rm k M nw J elt t ifs) :
    qS PG c.w c.A c.env c.h₀ c.L m s eltE tE ifsE scope cl nm keep len (JO c scope.names nwr M J):=by
  intro I D C oL a r acc ep v m₁ news₁ h tk oi r91 _ hav hoff hne _ F N FL
  refine E4 r91 fun ra acca Mo m0 q91=>A6 q91 fun hr hacc hj hmo hown hfull=>?_
  try clear r91
  clear q91
  cases hr with
  | @cons _ x its xs hx hr =>
  have hsim:Sim v x:=hx v h hav
  have hLobj:∀ h':Heap,h'.get? c.L=some oL→∃ m,h'.Ns c.L m:=fun h' e=>by
    refine E3 FL.ns fun o es ep' q91=>A2 q91 fun hg r=>?_
    clear q91
    have:=(N _ (.tail _ (.head _))).1
    rw [hg] at this; cases this
    exact ⟨m,oL,es,ep',e,r⟩
  let c2:=c.comp scope cl C D I (listOf acc.toArray ep) oL oi
  have H2:Cok c2 rm:=H.comp hk hcl hLobj
  have S2:=rq (cl:=cl) (tk:=tk) e hmo hown hfull hoff hne F N
  have fin:∀ {M3:FM} {n3:Led} {s3:Shared} {acc' acca':List Value},St c2 M3 n3 s3→ar c.w n3 nwr→M3.drop k=M→aD acc' acca'→J xs acca'→ij c.h₀ C D c.L I oL oi acc ep keep { s with heap:=h,toks:=tk } (JO c scope.names nwr M J r acc') s3:=by
    intro M3 n3 s3 acc' acca' S3 hw hM hs hj3
    refine E3 (mt (h:=h) (tk:=tk) e hn hkeep hfull hoff S3 hw hM) fun mC m3 news' q92=>A8 q92 fun es3 F3 N3 off3 hk3 hl3 ho3 hf3=>?_
    clear q92
    rw [es3]
    exact ij.mk (h':=s3.heap) (tk:=s3.toks) F3 N3 off3 hk3 ⟨xs,acca',M3.take k,m3,hr,hs,hj3,hl3,ho3,hf3⟩
  have hst:=step c2 rfl rfl H2 nwr hfz x xs acca hj Mo (hmo.trans hn)
  refine iN (c:=c2) H2.toCok0 ht hsim hst _ _ S2 fun M3 n3 s3 S3 h3=>?_
  refine wP (c:=c2) hf.es rfl H2.toCok0 39 _ h3 s3 _ S3 fun b M4 n4 s4 S4 h4=>?_
  cases b with
  | false=>exact fin S4 h4.1 h4.2.1 hacc h4.2.2
  | true=>exact (he.e c2 rm rfl H2.toCok0 39 M4 n4).1 _ h4 s4 _ S4 fun v' v5 M5 n5 s5 hv5 S5 h5=>fin S5 h5.1 h5.2.1 (hacc.append (.one hv5)) h5.2.2
theorem qd {scope:Scope} {J:List Value→List Value→Prop} {nwr:Led} {s:Shared} {m:Str→Option Value} {news₀:List (Addr×Obj)} {R:Value→FM→Led→Prop} {RR:Value→Addr→Result→Shared→Prop}
    (H:Cok c rm) (f₀:ce c M nw m news₀) (hfz:dL c.w nw nwr) (done:∀ acc,J [] acc→∀ D,R (.ref D) M ((D,.list acc)::nw)) (post:tz c s R RR):xP c.h₀ c.L m s news₀ (JO c scope.names nwr M J) RR:=by
  intro D C acc ep m₁ news₁ h tk r91 hlt hoff h1 h2 h3 h4 hn F N
  refine E4 r91 fun ra acca Mo m0 q91=>A6 q91 fun hr hacc hj hmo hown hfull=>?_
  try clear r91
  clear q91
  cases hr
  refine post D C M ((D,.list acca)::nw) m₁ m ((D,listOf acc.toArray ep)::news₁) h tk (done acca hj D) hn h2 h4 (fun p hp=>?_) F N ?_
  · rcases mem_cons.mp hp with rfl | hp
    · exact h3
    · exact (hoff p hp).2
  · exact ((f₀.alive hfull).weak hfz.weak).cons (fun p hp=>(hoff p hp).1) ⟨acc,ep,hacc,rfl⟩
end
end
section
set_option tactic.hygienic false
section
variable {c:Cx} {M:FM} {nw:Led} {rm:Nat}
theorem io {nwr:Led} {m:Str→Option Value} {news:List (Addr×Obj)} {h:Heap} (hz:dL c.w nw nwr) (f:ce c M nwr m news) (N:News c.h₀ c.L h news) {l:Addr} {o:Obj} (hl:(l,o) ∈ news) (hm:l ∈ nw.map (·.1)):(l,aE.raw o) ∈ nwr:=by
  have:l ∈ nwr.map (·.1):=hz.keys▸hm
  obtain ⟨p,hp,e⟩:=mem_map.mp this
  obtain ⟨o2,h1,h2⟩:=f.ob p hp
  have raw:∀ {nw nr:Led},dL c.w nw nr→∀ q ∈ nr,∃ o,q.2 = .raw o:=by
    intro nw nr h
    induction h with
    | nil=>exact fun _ h=>nomatch h
    | cons hx h ih =>
      intro q hq
      rcases mem_cons.mp hq with rfl | hq
      · exact ⟨_,rfl⟩
      · exact ih q hq
  obtain ⟨o3,e3⟩:=raw hz p hp
  rw [e3] at h2
  have h2':o2=o3:=h2
  rw [e,h2'] at h1
  have:=iE N hl h1
  obtain ⟨pa,px⟩:=p
  dsimp only at e e3
  rw [e,e3,← this] at hp; exact hp
theorem DoC.mk' {k:Nat} {elt:IE} {t:IT} {ifs:List IE} {v:Value} {R:Value→FM→Led→Prop} (H:Cok c rm)
    (h:∀ eltE tE itE ifsE scope pos cl,CT (aC c.sc scope) tE t→∀ v' s RR nwr m news,Sim v' v→s = { c.s₀ with heap:=s.heap,toks:=s.toks }→Fr c.h₀ c.L s.heap m→News c.h₀ c.L s.heap news→ce c M nw m news→dL c.w nw nwr→ce c M nwr m news→(∀ y ∈ scope.names,y.2≠.cell)→scope.kind = .function→fN scope.names=k →
      (∀ keep nm len J,(∀ p ∈ keep,(p.1,aE.raw p.2) ∈ nwr)→gj c rm k M nw J elt t ifs→qS PG c.w c.A c.env c.h₀ c.L m s eltE tE ifsE scope cl nm keep len (JO c scope.names nwr M J)) →
      (∀ J,(∀ acc,J [] acc→∀ D,R (.ref D) M ((D,.list acc)::nw))→xP c.h₀ c.L m s news (JO c scope.names nwr M J) RR) →
      (∀ J its xs,ItR its xs→J xs []→JO c scope.names nwr M J its [] (fun _=>none) news) →
      wpAny (model PG c.w) c.A (pyIter v') (fun it s₂=>bE PG c.w c.A c.E c.env eltE tE itE ifsE scope cl pos RR it s₂) c.E s):DoC c k elt t ifs v M nw R:=by
  unfold DoC
  intro eltE tE itE ifsE scope pos cl he ht hf hk hn hcl v' s RR hv S post
  refine A5 (bT H.toCok0 hk) fun e1 e2 e3 e4 e5=>?_
  obtain ⟨e,m,news,F,N,f⟩:=S
  refine E1 (gi f) fun nwr q91=>A2 q91 fun hz fz=>?_
  clear q91
  refine h eltE tE itE ifsE scope pos cl ht v' s RR nwr m news hv e F N f hz fz e3 e2 hn (fun keep nm len J hkeep step=>pH (news₀:=news) H he ht hf hk hn hcl e hz hkeep step) (fun J done=>qd H f hz done post) (fun J its xs hi hj=>?_)
  refine ⟨xs,[],List.replicate k none,m,hi,rfl,hj,by rw [List.length_replicate,hn],fun i x v hl hv=>?_,fz.dead⟩
  rw [List.getElem?_replicate] at hv
  split at hv
  · cases hv; rfl
  · cases hv
theorem iy:∀ {vs xs:List Value},aD vs xs→ItR (vs.map .val) xs
  | [],[],_=>.nil
  | [],_::_,h=>nomatch h
  | v::vs,xs,h=>by
    cases xs with
    | nil=>cases h
    | cons x xs =>
      obtain ⟨h1,h2⟩:=List.cons.inj h
      exact .cons (fun v' _ hv=>(show v'=v from hv)▸h1) (iy h2)
theorem nu {k:Nat} {elt:IE} {t:IT} {ifs:List IE} {l:Addr} {xs:List Value} {R:Value→FM→Led→Prop} (J:List Value→List Value→Prop) (H:Cok c rm) (hl:ae c.w nw l (.list xs)) (hsz:xs.length≤1000) (hj:J xs []) (step:bg c rm k M nw J elt t ifs)
    (done:∀ acc,J [] acc→∀ D,R (.ref D) M ((D,.list acc)::nw)):DoC c k elt t ifs (.ref l) M nw R :=
  DoC.mk' H fun eltE tE itE ifsE scope pos cl ht v' s RR nwr m news hv e F N f hz fz e3 e2 hn hst hfin h0=>by
    cases aa hv
    refine E1 hl fun y q91=>A2 q91 fun hy1 hy2=>?_
    try clear hl
    clear q91
    refine E1 (f.ob _ hy1) fun o q92=>A2 q92 fun ho hi=>?_
    clear q92
    refine E2 (hy2 o hi) fun ys ep q93=>A2 q93 fun hs e94=>?_
    clear q93
    clear hi
    first | subst e94 | cases e94
    exact oA (fun _=>JO c scope.names nwr M J) H.hh e3 e2 F N (Src.led ho) rfl rfl (by rw [hs.length]; exact hsz) (h0 J _ _ (iy hs) hj) (hst _ _ _ J (fun p hp=>by rw [mem_singleton.mp hp]; exact io hz fz N ho (mem_map_of_mem (f:=(·.1)) hy1)) step.h) (hfin J done)
theorem mI:∀ {i n:Nat},ItR ((List.range' i n).map dC) ((List.range' i n).map fun i:Nat=>Value.int (i:Int) 0)
  | _,0=>.nil
  | i,n+1=>by
    rw [range'_succ]
    exact .cons (fun v _ hv=>by obtain ⟨t,rfl⟩:=hv; rfl) mI
theorem ff {k:Nat} {elt:IE} {i:Nat} {ifs:List IE} {rg:Addr} {n:Nat} {R:Value→FM→Led→Prop} (J:List Value→List Value→Prop) (H:Cok c rm) (hl:ae c.w nw rg (.range 0 n)) (hsz:n≤1000) (hj:J ((List.range' 0 n).map fun i:Nat=>Value.int (i:Int) 0) []) (step:gj c rm k M nw J elt (.one i) ifs)
    (done:∀ acc,J [] acc→∀ D,R (.ref D) M ((D,.list acc)::nw)):DoC c k elt (.one i) ifs (.ref rg) M nw R :=
  DoC.mk' H fun eltE tE itE ifsE scope pos cl ht v' s RR nwr m news hv e F N f hz fz e3 e2 hn hst hfin h0=>by
    cases aa hv
    obtain ⟨y,hy1,hy2⟩:=hl
    obtain ⟨o,ho,hi⟩:=f.ob _ hy1
    obtain ⟨t,u,v,rfl⟩:=hy2 o hi
    exact lu (b₀:=n) (n:=n) (t₀:=t) (u₀:=u) (v₀:=v) (fun _=>JO c scope.names nwr M J) H.hh e3 e2 (by cases ht; exact fun _ _=>rfl) F N (N _ ho).1 (small_one (by omega) (by omega) (by omega) (by omega)) (by rw [rangeSize_one]; split <;> omega) hsz (h0 J _ _ mI hj) (hst _ _ _ J (fun _ h=>nomatch h) step) (hfin J done)
theorem kY {k:Nat} {elt:IE} {i:Nat} {ifs:List IE} {rg:Addr} {n:Nat} {R:Value→FM→Led→Prop} (J:List Value→List Value→Prop) (H:Cok c rm) (hl:ae c.w nw rg (.range 0 n)) (hsz:n≤1000) (hj:J ((List.range' 0 n).map fun i:Nat=>Value.int (i:Int) 0) []) (step:bg c rm k M nw J elt (.one i) ifs)
    (done:∀ acc,J [] acc→∀ D,R (.ref D) M ((D,.list acc)::nw)):DoC c k elt (.one i) ifs (.ref rg) M nw R:=ff J H hl hsz hj step.h done
theorem dh {n:Int} {t:Tok} {R:Value→FM→Led→Prop} (hr:∀ D,R (.ref D) M ((D,.range 0 n)::nw)):Do c .call [.type "range",.int n t] M nw R:=Do.mk fun vs' t' hs ht s Q S post=>by
  obtain ⟨x,_,rfl,hx,hs⟩:=hs.cons
  obtain ⟨y,_,rfl,hy,hs⟩:=hs.cons
  cases hs.nil
  cases ht
  cases aR hx
  obtain ⟨_,rfl⟩:=ah hy
  exact call_range_1 (post _ (.ref _) _ _ _ rfl ((dK (x:=.range 0 n) rfl ⟨_,_,_,rfl⟩ S).tok _) (hr _))
theorem pP {a n:Int} {t u:Tok} {R:Value→FM→Led→Prop} (hr:∀ D,R (.ref D) M ((D,.range a n)::nw)):Do c .call [.type "range",.int a t,.int n u] M nw R:=Do.mk fun vs' t' hs ht s Q S post=>by
  obtain ⟨x,_,rfl,hx,hs⟩:=hs.cons
  obtain ⟨y,_,rfl,hy,hs⟩:=hs.cons
  obtain ⟨z,_,rfl,hz,hs⟩:=hs.cons
  cases hs.nil
  cases ht
  cases aR hx
  obtain ⟨_,rfl⟩:=ah hy
  obtain ⟨_,rfl⟩:=ah hz
  exact call_range_2 (post _ (.ref _) _ _ _ rfl ((dK (x:=.range a n) rfl ⟨_,_,_,rfl⟩ S).tok _) (hr _))
end
end
section
set_option tactic.hygienic false
theorem cX.mono {h₀:Heap} {L:Addr} {s₁:Shared} {I:Addr} {oi:Obj} {keep:List (Addr×Obj)} {Jr Jr':(Str→Option Value)→List (Addr×Obj)→Prop} {Q:Flow→Shared→Prop} (hj:∀ m n,Jr m n→Jr' m n) {f:Flow} {s₂:Shared} (h:cX h₀ L s₁ I oi keep Jr Q f s₂):cX h₀ L s₁ I oi keep Jr' Q f s₂:=by
  have h':=h.elim
  cases f with
  | ret v=>exact cX.ret h'
  | brk=>exact cX.brk h'
  | next =>
    refine E4 h' fun h' tk m' news' q91=>A6 q91 fun e92 F N ne hk j=>?_
    try clear h'
    clear q91
    first | subst e92 | cases e92
    exact cX.next F N ne hk (hj _ _ j)
  | cont =>
    refine E4 h' fun h' tk m' news' q93=>A6 q93 fun e94 F N ne hk j=>?_
    try clear h'
    clear q93
    first | subst e94 | cases e94
    exact cX.cont F N ne hk (hj _ _ j)
section
variable {c:Cx} {M:FM} {nw:Led} {rm:Nat} {t:IT} {b:List IS} {R:Flow→FM→Led→Prop}
theorem DoF.tr {v v':Value} (h:DoF c t v b M nw R) {target:Expr} {body:List Stmt} {s:Shared} {Q:Flow→Shared→Prop} (ht:CT c.sc target t) (hb:CB c.sc body b) (hv:Sim v' v) (S:St c M nw s) (post:∀ f' f M' n' s',pe f' f→St c M' n' s'→R f M' n'→Q f' s') :
    wpAny (model PG c.w) c.A (pyIter v') (fun it s₂=>TurnsAt PG c.w c.A c.h₀ c.env target body Q c.E it s₂) c.E s:=by unfold DoF at h; exact h _ _ _ _ _ ht hb hv S post
theorem DoF.freeze {v:Value} {i:Nat} {l:Addr} {x:aE} (hi:nw[i]? = some (l,x)) (h:∀ o,x.Is c.w o→DoF c t v b M (nw.set i (l,.raw o)) R):DoF c t v b M nw R:=DoF.mk fun target body v' s Q ht hb hv S post=>by
  obtain ⟨e,m,news,F,N,f⟩:=id S
  obtain ⟨o,ho,hx⟩:=f.at hi
  have S':St c M (nw.set i (l,.raw o)) s:=⟨e,m,news,F,N,by
    have f':=f.set (y:=.raw o) (o':=o) hi rfl
    refine f.mono (fun _ h _=>h) (fun p hp=>?_) f'.nd
    obtain ⟨o',h1,h2⟩:=f'.ob p hp
    rcases mem_cons.mp h1 with e | h1
    · cases e; exact ⟨o,ho,h2⟩
    · exact ⟨o',(ax.mp h1).1,h2⟩⟩
  exact (h o hx).tr ht hb hv S' post
theorem jl {l:Addr} {o:Obj} {xs:List Value} {k:Nat} (J:List Value→FM→Led→Prop) (H:Cok c rm) (hx:(aE.list xs).Is c.w o) (hJ:∀ r M nw,J r M nw→(l,aE.raw o) ∈ nw) (hj:J xs M nw)
    (step:∀ I oi,Cok (c.hide I oi) rm→∀ x r M nw,J (x::r) M nw→cW (c.hide I oi) t x M nw fun M nw=>wpS (c.hide I oi) k b M nw (LR c.w J R r)) (done:∀ M nw,J [] M nw→∃ nw2,ar c.w nw nw2∧R .next M nw2):DoF c t (.ref l) b M nw R:=DoF.mk fun target body v' s Q ht hb hv S post=>by
  cases aa hv
  refine E2 hx fun ys ep q91=>A2 q91 fun hs e92=>?_
  try clear hx
  clear q91
  first | subst e92 | cases e92
  obtain ⟨e,m,news,F,N,f⟩:=S
  refine E1 (f.ob _ (hJ _ _ _ hj)) fun o' q93=>A2 q93 fun ho e1=>?_
  clear q93
  have e2:o'=listOf ys.toArray ep:=e1
  subst e2
  refine oo (fun _ _ r m news=>∃ ra,aD r ra∧JN c J ra m news) H.hh (by rw [H.el]; exact F) (by rw [H.el]; exact N) (Src.led ho) rfl rfl ⟨xs,hs,M,nw,hj,f⟩ (fun I hI v r m₁ news₁ h tk oi ⟨ra,hra,M',n',hj',f'⟩ hne hoi F' N'=>?_) (fun m₁ news₁ h tk ⟨ra,hra,hn⟩=>?_)
  · cases ra with
    | nil=>cases hra
    | cons x ra =>
      obtain ⟨h1,h2⟩:=List.cons.inj hra
      refine wpAny_mono (fY (keep:=[(l,listOf ys.toArray ep)]) H ht hb (x:=x) h1 (fun M nw hj p hp=>by rw [mem_singleton.mp hp]; exact hJ _ _ _ hj) e F' N' hne f' (fun g3=>step I oi g3 x ra M' n' hj') post) (fun _ s₂ h₂=>wpAny_mono h₂ (fun f' s₃ h₃=>cX.mono (fun m n hn=>⟨ra,h2,hn⟩) h₃) fun _ _ x=>x) fun _ _ x=>x
  · have:ra=[]:=by cases ra with
      | nil=>rfl
      | cons _ _=>cases hra
    subst this
    exact jM H done e post m₁ news₁ h tk hn
theorem ma {l:Addr} {o:Obj} {xs:List Value} {k:Nat} (J:List Value→FM→Led→Prop) (H:Cok c rm) (hx:(aE.list xs).Is c.w o) (hJ:∀ r M nw,J r M nw→(l,aE.raw o) ∈ nw) (hj:J xs M nw)
    (step:∀ c',c'.sc=c.sc→c'.w=c.w→Cok c' rm→∀ x r M nw,J (x::r) M nw→cW c' t x M nw fun M nw=>wpS c' k b M nw (LR c.w J R r)) (done:∀ M nw,J [] M nw→∃ nw2,ar c.w nw nw2∧R .next M nw2):DoF c t (.ref l) b M nw R :=
  jl J H hx hJ hj (fun I oi h3=>step (c.hide I oi) rfl rfl h3) done
theorem lG {l:Addr} {o:Obj} {xs:List Value} {k:Nat} (J:List Value→FM→Led→Prop) (H:Cok c rm) (hx:(aE.tup xs).Is c.w o) (hJ:∀ r M nw,J r M nw→(l,aE.raw o) ∈ nw) (hj:J xs M nw)
    (step:∀ I oi,Cok (c.hide I oi) rm→∀ x r M nw,J (x::r) M nw→cW (c.hide I oi) t x M nw fun M nw=>wpS (c.hide I oi) k b M nw (LR c.w J R r)) (done:∀ M nw,J [] M nw→∃ nw2,ar c.w nw nw2∧R .next M nw2):DoF c t (.ref l) b M nw R:=DoF.mk fun target body v' s Q ht hb hv S post=>by
  cases aa hv
  obtain ⟨ys,hs,rfl⟩:=hx
  obtain ⟨e,m,news,F,N,f⟩:=S
  obtain ⟨o',ho,e1⟩:=f.ob _ (hJ _ _ _ hj)
  have e2:o'=vP ys:=e1
  clear e1
  subst e2
  refine qT (fun _ _ r m news=>∃ ra,aD r ra∧JN c J ra m news) H.hh (by rw [H.el]; exact F) (by rw [H.el]; exact N) ho rfl rfl ⟨xs,hs,M,nw,hj,f⟩ (fun I hI v r m₁ news₁ h tk oi ⟨ra,hra,M',n',hj',f'⟩ hne hoi F' N'=>?_) (fun m₁ news₁ h tk ⟨ra,hra,hn⟩=>?_)
  · cases ra with
    | nil=>cases hra
    | cons x ra =>
      obtain ⟨h1,h2⟩:=List.cons.inj hra
      refine wpAny_mono (fY (keep:=[(l,vP ys)]) H ht hb (x:=x) h1 (fun M nw hj p hp=>by rw [mem_singleton.mp hp]; exact hJ _ _ _ hj) e F' N' hne f' (fun g3=>step I oi g3 x ra M' n' hj') post) (fun _ s₂ h₂=>wpAny_mono h₂ (fun f' s₃ h₃=>cX.mono (fun m n hn=>⟨ra,h2,hn⟩) h₃) fun _ _ x=>x) fun _ _ x=>x
  · have:ra=[]:=by cases ra with
      | nil=>rfl
      | cons _ _=>cases hra
    clear hra
    subst this
    exact jM H done e post m₁ news₁ h tk hn
theorem ry {l:Addr} {o:Obj} {xs:List Value} {k:Nat} (J:List Value→FM→Led→Prop) (H:Cok c rm) (hx:(aE.tup xs).Is c.w o) (hJ:∀ r M nw,J r M nw→(l,aE.raw o) ∈ nw) (hj:J xs M nw)
    (step:∀ c',c'.sc=c.sc→c'.w=c.w→Cok c' rm→∀ x r M nw,J (x::r) M nw→cW c' t x M nw fun M nw=>wpS c' k b M nw (LR c.w J R r)) (done:∀ M nw,J [] M nw→∃ nw2,ar c.w nw nw2∧R .next M nw2):DoF c t (.ref l) b M nw R :=
  lG J H hx hJ hj (fun I oi h3=>step (c.hide I oi) rfl rfl h3) done
theorem qv {i:Nat} {rg:Addr} {i₀ n:Nat} {k:Nat} (J:List Nat→FM→Led→Prop) (H:Cok c rm) (hl:ae c.w nw rg (.range i₀ (i₀+n:Nat))) (hsz:i₀+n≤1000) (hj:J (List.range' i₀ n) M nw)
    (step:∀ c',c'.sc=c.sc→c'.w=c.w→Cok c' rm→∀ x r M nw,J (x::r) M nw→wpS c' k b (M.set i (some (.int (x:Int) 0))) nw (LR c.w J R r)) (done:∀ M nw,J [] M nw→∃ nw2,ar c.w nw nw2∧R .next M nw2):DoF c (.one i) (.ref rg) b M nw R:=DoF.mk fun target body v' s Q ht hb hv S post=>by
  cases aa hv
  refine E1 hl fun y q91=>A2 q91 fun hy1 hy2=>?_
  try clear hl
  clear q91
  obtain ⟨e,m,news,F,N,f⟩:=S
  refine E1 (f.ob _ hy1) fun o q92=>A2 q92 fun ho hi=>?_
  clear q92
  refine E3 (hy2 o hi) fun t u v e93=>?_
  clear hi
  first | subst e93 | cases e93
  refine kM (i₀:=i₀) (n:=n) (t₀:=t) (u₀:=u) (v₀:=v) (fun _ _ r m news=>JN c J r m news) H.hh (by rw [H.el]; exact F) (by rw [H.el]; exact N) (N _ ho).1 (small_one (by omega) (by omega) (by omega) (by omega)) (by rw [rangeSize_one]; split <;> omega) rfl ⟨M,nw,hj,f⟩ (by cases ht; exact fun _ _=>rfl) (fun I hI x r t m₁ news₁ h tk oi ⟨M',n',hj',f'⟩ hne hoi F' N'=>?_) (fun m₁ news₁ h tk=>jM H done e post m₁ news₁ h tk)
  exact fY (keep:=[]) H ht hb (x:=.int _ 0) rfl (fun _ _ _ _ h=>nomatch h) e F' N' hne f' (fun h3=>step (c.hide I oi) rfl rfl h3 x r M' n' hj') post
theorem jt {i:Nat} {d:Addr} {o:Obj} {kvs:List (Str×Value)} {k:Nat} (J:List Str→FM→Led→Prop) (H:Cok c rm) (hds:(d == sysModules)=false) (hx:(aE.dict kvs).Is c.w o) (hJ:∀ r M nw,J r M nw→(d,aE.raw o) ∈ nw) (hj:J (kvs.map (·.1)) M nw)
    (step:∀ I oi,Cok (c.hide I oi) rm→∀ x r M nw,J (x::r) M nw→wpS (c.hide I oi) k b (M.set i (some (.str x 0))) nw (LR c.w J R r)) (done:∀ M nw,J [] M nw→∃ nw2,ar c.w nw nw2∧R .next M nw2):DoF c (.one i) (.ref d) b M nw R:=DoF.mk fun target body v' s Q ht hb hv S post=>by
  cases aa hv
  obtain ⟨kws,hs,hd⟩:=hx
  obtain ⟨e,m,news,F,N,f⟩:=S
  obtain ⟨o',ho,e1⟩:=f.ob _ (hJ _ _ _ hj)
  have e2:o'=o:=e1
  clear e1
  subst e2
  have hk:kws.map (·.1)=kvs.map (·.1):=by
    have:=congrArg (List.map (·.1)) hs
    simpa [List.map_map,Function.comp_def] using this
  refine oR (od:=o') (kvs:=kws) (fun _ _ r m news=>JN c J r m news) [(d,o')] H.hh hds (by rw [H.el]; exact F) (by rw [H.el]; exact N) (Heap.dictOf_iff.mpr ⟨o',(N _ ho).1,hd⟩) (.inl ⟨rfl,ho⟩) ⟨M,nw,by rw [hk]; exact hj,f⟩ (fun I hI x r t m₁ news₁ h tk oi ⟨M',n',hj',f'⟩ hne hoi F' N'=>?_) (fun m₁ news₁ h tk=>jM H done e post m₁ news₁ h tk)
  exact fY (keep:=[(d,o')]) H ht hb (x:=.str _ 0) rfl (fun M nw hj p hp=>by rw [mem_singleton.mp hp]; exact hJ _ _ _ hj) e F' N' hne f' (fun h3=>step I oi h3 x r M' n' hj') post
theorem tJ {i:Nat} {d:Addr} {o:Obj} {kvs:List (Str×Value)} {k:Nat} (J:List Str→FM→Led→Prop) (H:Cok c rm) (hds:(d == sysModules)=false) (hx:(aE.dict kvs).Is c.w o) (hJ:∀ r M nw,J r M nw→(d,aE.raw o) ∈ nw) (hj:J (kvs.map (·.1)) M nw)
    (step:∀ c',c'.sc=c.sc→c'.w=c.w→Cok c' rm→∀ x r M nw,J (x::r) M nw→wpS c' k b (M.set i (some (.str x 0))) nw (LR c.w J R r)) (done:∀ M nw,J [] M nw→∃ nw2,ar c.w nw nw2∧R .next M nw2):DoF c (.one i) (.ref d) b M nw R :=
  jt J H hds hx hJ hj (fun I oi h3=>step (c.hide I oi) rfl rfl h3) done
end
end
section
set_option tactic.hygienic false
section
variable {c:Cx} {M:FM} {nw:Led} {rm:Nat} {R:Value→FM→Led→Prop}
theorem Do.mk1 {op:Op} {a:Value} (h:∀ u t,Sim u a→aP c op [u] t→Tr c t M nw R):Do c op [a] M nw R:=Do.mk fun vs' t hs ht=>by
  obtain ⟨u,_,rfl,h1,hs⟩:=hs.cons
  cases hs.nil
  exact h u t h1 ht
theorem Do.mk2 {op:Op} {a b:Value} (h:∀ u v t,Sim u a→Sim v b→aP c op [u,v] t→Tr c t M nw R):Do c op [a,b] M nw R:=Do.mk fun vs' t hs ht=>by
  obtain ⟨u,_,rfl,h1,hs⟩:=hs.cons
  obtain ⟨v,_,rfl,h2,hs⟩:=hs.cons
  cases hs.nil
  exact h u v t h1 h2 ht
theorem Do.mk3 {op:Op} {a b d:Value} (h:∀ u v x t,Sim u a→Sim v b→Sim x d→aP c op [u,v,x] t→Tr c t M nw R):Do c op [a,b,d] M nw R:=Do.mk fun vs' t hs ht=>by
  obtain ⟨u,_,rfl,h1,hs⟩:=hs.cons
  obtain ⟨v,_,rfl,h2,hs⟩:=hs.cons
  obtain ⟨x,_,rfl,h3,hs⟩:=hs.cons
  cases hs.nil
  exact h u v x t h1 h2 h3 ht
theorem Do.call1 {id:String} {a:Value} (h:∀ u,Sim u a→Tr c (call (.builtin id) [u]) M nw R):Do c .call [.builtin id,a] M nw R:=Do.mk2 fun u v t h1 h2 ht=>by
  cases dN h1; cases (show _=_ from ht); exact h v h2
theorem Do.call2 {id:String} {a b:Value} (h:∀ u v,Sim u a→Sim v b→Tr c (call (.builtin id) [u,v]) M nw R):Do c .call [.builtin id,a,b] M nw R:=Do.mk3 fun u v x t h1 h2 h3 ht=>by
  cases dN h1; cases (show _=_ from ht); exact h v x h2 h3
theorem Do.call1s {id:String} {x:Str} {t:Tok} (h:∀ u,Tr c (call (.builtin id) [.str x u]) M nw R):Do c .call [.builtin id,.str x t] M nw R:=Do.call1 fun u h1=>by obtain ⟨_,rfl⟩:=aq h1; exact h _
theorem Do.call2s {id:String} {x y:Str} {t t':Tok} (h:∀ u v,Tr c (call (.builtin id) [.str x u,.str y v]) M nw R):Do c .call [.builtin id,.str x t,.str y t'] M nw R:=Do.call2 fun u v h1 h2=>by obtain ⟨_,rfl⟩:=aq h1; obtain ⟨_,rfl⟩:=aq h2; exact h _ _
theorem szs {n:Nat} (h:n≤10000):n≤sizeLine:=by rw [PySem.sizeLine_eq]; omega
theorem eP {x:Str} {o f:Value} (hg:∀ o' pl s (Q:Value×List Value→Shared→Prop),Sim o' o→St c M nw s→Q (f,[o']) s→wpAny (model PG c.w) c.A (getMethod o' x pl) Q c.E s) (hr:R f M nw):Do c (.meth x) [o] M nw R:=Do.mk1 fun u t h1 ht s Q S post=>by
  obtain ⟨_,rfl⟩:=ht
  exact wpAny_bind (hg _ _ _ _ h1 S (by rw [if_pos rfl]; exact wpAny_pure (post _ _ _ _ _ rfl S hr)))
theorem bW {x:Str} {y:Str} {t:Tok} {id:String} (hg:∀ pl s u (Q:Value×List Value→Shared→Prop),Q (.builtin id,[.str y u]) s→wpAny (model PG c.w) c.A (getMethod (.str y u) x pl) Q c.E s) (hr:R (.builtin id) M nw):Do c (.meth x) [.str y t] M nw R :=
  eP (fun o' pl s Q h1 S hq=>by obtain ⟨_,rfl⟩:=aq h1; exact hg _ _ _ _ hq) hr
theorem jW {y:Str} {t:Tok} (hr:R (.builtin "str.startswith") M nw):Do c (.meth "startswith") [.str y t] M nw R:=bW (x := "startswith") (id := "str.startswith") (fun _ _ _ _ h=>GM.startswith h) hr
theorem nI {y:Str} {t:Tok} (hr:R (.builtin "str.endswith") M nw):Do c (.meth "endswith") [.str y t] M nw R:=bW (x := "endswith") (id := "str.endswith") (fun _ _ _ _ h=>GM.endswith h) hr
theorem wb {y:Str} {t:Tok} (hr:R (.builtin "str.count") M nw):Do c (.meth "count") [.str y t] M nw R:=bW (x := "count") (id := "str.count") (fun _ _ _ _ h=>GM.count h) hr
theorem wo {y:Str} {t:Tok} (hr:R (.builtin "str.rfind") M nw):Do c (.meth "rfind") [.str y t] M nw R:=bW (x := "rfind") (id := "str.rfind") (fun _ _ _ _ h=>GM.rfind h) hr
theorem sL {y:Str} {t:Tok} (hr:R (.builtin "str.rstrip") M nw):Do c (.meth "rstrip") [.str y t] M nw R:=bW (x := "rstrip") (id := "str.rstrip") (fun _ _ _ _ h=>GM.rstrip h) hr
theorem uF {y:Str} {t:Tok} (hr:R (.builtin "str.split") M nw):Do c (.meth "split") [.str y t] M nw R:=bW (x := "split") (id := "str.split") (fun _ _ _ _ h=>GM.split h) hr
theorem tW {y:Str} {t:Tok} (hr:R (.builtin "str.join") M nw):Do c (.meth "join") [.str y t] M nw R:=bW (x := "join") (id := "str.join") (fun _ _ _ _ h=>GM.join h) hr
theorem jX {x y:Str} {t t':Tok} (hr:R (.bool (Txt.startswith x y)) M nw):Do c .call [.builtin "str.startswith",.str x t,.str y t'] M nw R:=Do.call2s fun _ _ s Q S post=>SC.startswith (post _ _ _ _ _ rfl S hr)
theorem nZ {x y:Str} {t t':Tok} (hr:R (.bool (Txt.endswith x y)) M nw):Do c .call [.builtin "str.endswith",.str x t,.str y t'] M nw R:=Do.call2s fun _ _ s Q S post=>SC.endswith (post _ _ _ _ _ rfl S hr)
theorem tN {x y:Str} {t t':Tok} (hr:R (.int (Txt.count x y) 0) M nw):Do c .call [.builtin "str.count",.str x t,.str y t'] M nw R:=Do.call2s fun _ _ s Q S post=>KXw.count rfl fun t k=>post _ (.int _ 0) _ _ _ rfl (S.tok _) hr
theorem vd {x y:Str} {t t':Tok} (hr:R (.int (Txt.rfind x y) 0) M nw):Do c .call [.builtin "str.rfind",.str x t,.str y t'] M nw R:=Do.call2s fun _ _ s Q S post=>KXw.rfind rfl fun t k=>post _ (.int _ 0) _ _ _ rfl (S.tok _) hr
theorem tO {x y:Str} {t t':Tok} (hx:x.length≤10000) (hr:R (.str (Txt.rstripChars x y) 0) M nw):Do c .call [.builtin "str.rstrip",.str x t,.str y t'] M nw R:=Do.call2s fun _ _ s Q S post=>KXw.rstripChars rfl (szs hx) fun t k=>post _ (.str _ 0) _ _ _ rfl (S.tok _) hr
theorem wQ {x:Str} {t:Tok} (hx:x.length≤10000) (hr:R (.int x.length 0) M nw):Do c .call [.builtin "len",.str x t] M nw R:=Do.call1s fun _ s Q S post=>SBL.len (by omega) (post _ (.int _ 0) _ _ _ rfl (S.tok _) hr)
theorem lj {x y:Str} {t t':Tok} (hx:x.length+y.length≤10000) (hr:R (.str (x++y) 0) M nw):Do c (.bin .Add) [.str x t,.str y t'] M nw R:=Do.mk2 fun u v t h1 h2 ht=>by
  obtain ⟨_,rfl⟩:=aq h1; obtain ⟨_,rfl⟩:=aq h2; cases (show _=_ from ht)
  exact fun s Q S post=>SBL.add (fun t k _=>post _ (.str _ 0) _ _ _ rfl (S.tok _) hr) (szs hx)
theorem lW {x y:Str} {t t':Tok} (hx:x.length+y.length≤10000) (hr:R (.str (x++y) 0) M nw):Do c (.ibin .Add) [.str x t,.str y t'] M nw R:=Do.mk2 fun u v t h1 h2 ht=>by
  obtain ⟨_,rfl⟩:=aq h1; obtain ⟨_,rfl⟩:=aq h2; cases (show _=_ from ht)
  exact fun s Q S post=>SBL.iadd (fun t k _=>post _ (.str _ 0) _ _ _ rfl (S.tok _) hr) (szs hx)
theorem qN {x:Str} {n:Int} {t t':Tok} (hok:MulOk x n) (hr:R (.str (Txt.mul x n) 0) M nw):Do c (.bin .Mult) [.str x t,.int n t'] M nw R:=Do.mk2 fun u v t h1 h2 ht=>by
  obtain ⟨_,rfl⟩:=aq h1; obtain ⟨_,rfl⟩:=ah h2; cases (show _=_ from ht)
  exact fun s Q S post=>SB.mul hok fun t k=>post _ (.str _ 0) _ _ _ rfl (S.tok _) hr
theorem dm {x:Str} {t:Tok} (hx:x.length≤10000) (hr:R (.bool (x.length != 0)) M nw):Do c .truth [.str x t] M nw R:=Do.mk1 fun u t h1 ht=>by
  obtain ⟨_,rfl⟩:=aq h1; cases (show _=_ from ht)
  exact fun s Q S post=>wpAny_bind (lv (by omega) fun k=>wpAny_pure (post _ _ _ _ _ rfl (S.tok _) hr))
end
end
section
set_option tactic.hygienic false
section
variable {c:Cx} {M:FM} {nw:Led} {rm:Nat} {R:Value→FM→Led→Prop} {l:Addr} {xs:List Value} {i:Nat}
theorem aD.take {a b:List Value} (h:aD a b) (k:Nat):aD (a.take k) (b.take k):=by
  show (a.take k).map vst=(b.take k).map vst
  rw [map_take,map_take,h]
theorem aD.drop {a b:List Value} (h:aD a b) (k:Nat):aD (a.drop k) (b.drop k):=by
  show (a.drop k).map vst=(b.drop k).map vst
  rw [map_drop,map_drop,h]
noncomputable def ac (l:List Str):List Value:=l.map fun x=>.str x 0
noncomputable def bM (l:List Int):List Value:=l.map fun x=>.int x 0
theorem bj:∀ {us:List Value} {l:List Str},aD us (ac l)→StrsAre us l
  | [],[],_=>.nil
  | [],_::_,h=>nomatch h
  | _::_,[],h=>nomatch h
  | u::us,x::l,h=>by
    obtain ⟨h1,h2⟩:=List.cons.inj h
    clear h
    obtain ⟨t,rfl⟩:=aq (show Sim u (.str x 0) from h1)
    exact .cons x t (bj h2)
theorem jR:∀ {us:List Value} {l:List Int},aD us (bM l)→IntsAre us l
  | [],[],_=>.nil
  | [],_::_,h=>nomatch h
  | _::_,[],h=>nomatch h
  | u::us,x::l,h=>by
    obtain ⟨h1,h2⟩:=List.cons.inj h
    clear h
    obtain ⟨t,rfl⟩:=ah (show Sim u (.int x 0) from h1)
    exact .cons x t (jR h2)
theorem jb {us:List Value} {l:List Str} (h:StrsAre us l):aD us (ac l):=by
  induction h with
  | nil=>rfl
  | cons x t _ ih=>exact .mk rfl ih
theorem St.news {s:Shared} (S:St c M nw s):∃ m news,Fr c.h₀ c.L s.heap m∧News c.h₀ c.L s.heap news∧ce c M nw m news:=by
  obtain ⟨e,m,news,F,N,f⟩:=S
  exact ⟨m,news,F,N,f⟩
theorem St.list {s:Shared} (S:St c M nw s) (hl:ae c.w nw l (.list xs)):∃ m news ys n,Fr c.h₀ c.L s.heap m∧News c.h₀ c.L s.heap news∧(l,listOf ys.toArray n) ∈ news∧aD ys xs:=by
  refine E2 S.news fun m news q91=>A3 q91 fun F N f=>?_
  clear q91
  refine E1 hl fun y q92=>A2 q92 fun h1 h2=>?_
  try clear hl
  clear q92
  refine E1 (f.ob _ h1) fun o q93=>A2 q93 fun ho hi=>?_
  clear q93
  refine E2 (h2 o hi) fun ys n q94=>A2 q94 fun hs e95=>?_
  clear q94
  clear hi
  first | subst e95 | cases e95
  exact ⟨m,news,ys,n,F,N,ho,hs⟩
theorem St.isList {s:Shared} (S:St c M nw s) (hl:ae c.w nw l (.list xs)):∃ ys:List Value,s.heap.IsList l ys.toArray∧aD ys xs:=by
  refine E4 (S.list hl) fun m news ys n q91=>A4 q91 fun F N hm hs=>?_
  clear q91
  exact ⟨ys,News.isList N hm,hs⟩
theorem St.isTup {s:Shared} (S:St c M nw s) (hl:ae c.w nw l (.tup xs)):∃ ys:List Value,IsTup s.heap l ys.toArray∧aD ys xs:=by
  refine E1 (S.sees hl) fun o q91=>A2 q91 fun hi hg=>?_
  clear q91
  refine E1 hi fun ys q92=>A2 q92 fun hs e93=>?_
  try clear hi
  clear q92
  first | subst e93 | cases e93
  exact ⟨ys,⟨_,hg,rfl,_,rfl⟩,hs⟩
theorem pf {x:Str} {id:String} (slot:Slot "list" x id) (hty:typeOf (.builtin id)=pure (.type "method_descriptor")) (hl:ae c.w nw l (.list xs)) (hr:R (.builtin id) M nw):Do c (.meth x) [.ref l] M nw R :=
  eP (fun o' pl s Q h1 S hq=>by
    cases aa h1
    refine E4 (S.list hl) fun m news ys n q91=>A4 q91 fun F N hm hs=>?_
    clear q91
    exact listMethod_K N hm slot hty hq) hr
theorem bS (hl:ae c.w nw l (.list xs)) (hr:R (.builtin "list.append") M nw):Do c (.meth "append") [.ref l] M nw R:=pf PySem.F.slot_list_append PySem.F.type_list_append hl hr
theorem su (hl:ae c.w nw l (.list xs)) (hr:R (.builtin "list.pop") M nw):Do c (.meth "pop") [.ref l] M nw R:=pf PySem.F.slot_list_pop PySem.F.type_list_pop hl hr
theorem ux (hl:ae c.w nw l (.list xs)) (hr:R (.builtin "list.clear") M nw):Do c (.meth "clear") [.ref l] M nw R:=pf PySem.F.slot_list_clear PySem.F.type_list_clear hl hr
theorem eA {s:Shared} (S:St c M nw s) (hi:nw[i]? = some (l,.list xs)):∃ m ys n rest,Fr c.h₀ c.L s.heap m∧aD ys xs∧News c.h₀ c.L s.heap ((l,listOf ys.toArray n)::rest)∧(∀ y:List Value,∀ n',Upd l (listOf ys.toArray n) (listOf y.toArray n') ((l,listOf ys.toArray n)::rest) ((l,listOf y.toArray n')::rest)) ∧
    (∀ (zs y:List Value) n' h' t,aD y zs→Fr c.h₀ c.L h' m→News c.h₀ c.L h' ((l,listOf y.toArray n')::rest)→St c M (nw.set i (l,.list zs)) { s with heap:=h',toks:=t }):=by
  refine E3 (S.at hi) fun m o rest q91=>A5 q91 fun F q92 N hne k=>?_
  clear q91
  refine E2 q92 fun ys n q93=>A2 q93 fun hs e94=>?_
  try clear q92
  clear q93
  first | subst e94 | cases e94
  exact ⟨m,ys,n,rest,F,hs,N,fun y n'=>.head hne,fun zs y n' h' t hs' F' N'=>k (.list zs) _ h' t F' N' ⟨y,n',hs',rfl⟩⟩
theorem me {v:Value} (hi:nw[i]? = some (l,.list xs)) (hz:xs.length≤1000) (hr:R .none M (nw.set i (l,.list (xs++[v])))):Do c .call [.builtin "list.append",.ref l,v] M nw R:=Do.call2 fun u y h1 h2 s Q S post=>by
  cases aa h1
  refine E4 (eA S hi) fun m ys n rest q91=>A5 q91 fun F hs N U k=>?_
  clear q91
  exact lU F N (U _ _) (by rw [hs.length]; omega) fun h' F' N'=>post _ .none _ _ _ rfl (k _ _ _ h' s.toks (hs.append (.one h2)) F' N') hr
theorem xg {v:Value} (hi:nw[i]? = some (l,.list (xs++[v]))) (hz:xs.length≤1000) (hr:R v M (nw.set i (l,.list xs))):Do c .call [.builtin "list.pop",.ref l] M nw R:=Do.call1 fun u h1 s Q S post=>by
  cases aa h1
  refine E4 (eA S hi) fun m ys n rest q91=>A5 q91 fun F hs N U k=>?_
  clear q91
  refine E2 hs.snoc fun us u q92=>A3 q92 fun e93 hu hs'=>?_
  clear q92
  first | subst e93 | cases e93
  exact pop_L F N (U _ _) (by rw [hs'.length]; omega) fun h' F' N'=>post _ v _ _ _ hu (k _ _ _ h' s.toks hs' F' N') hr
theorem aD.split {us ps qs:List Value} (h:aD us (ps++qs)):∃ u1 u2,us=u1++u2∧aD u1 ps∧aD u2 qs:=by
  refine ⟨us.take ps.length,us.drop ps.length,(List.take_append_drop _ _).symm,?_,?_⟩
  · have:=h.take ps.length; rw [List.take_left] at this; exact this
  · have:=h.drop ps.length; rw [List.drop_left] at this; exact this
theorem vH {v:Value} {ps qs:List Value} {k:Int} {t:Tok} (hi:nw[i]? = some (l,.list (ps++v::qs))) (hk:k=(ps.length:Int)) (hz:(ps++v::qs).length≤1000) (hr:R v M (nw.set i (l,.list (ps++qs)))):Do c .call [.builtin "list.pop",.ref l,.int k t] M nw R:=Do.call2 fun u y h1 h2 s Q S post=>by
  cases aa h1
  obtain ⟨_,rfl⟩:=ah h2
  refine E4 (eA S hi) fun m ys n rest q91=>A5 q91 fun F hs N U kk=>?_
  clear q91
  have hl:=hs.length
  refine E2 hs.split fun u1 u2 q92=>A3 q92 fun e93 h3 h4=>?_
  clear q92
  clear hs
  first | subst e93 | cases e93
  refine E2 h4.cons fun u us q94=>A3 q94 fun e95 h5 h6=>?_
  clear q94
  first | subst e95 | cases e95
  exact uw F N (by rw [hk,h3.length]) (U _ _) (by rw [hl]; exact hz) fun h' F' N'=>post _ v _ _ _ h5 (kk _ _ _ h' s.toks (h3.append h6) F' N') hr
theorem wc (hi:nw[i]? = some (l,.list xs)) (hz:xs.length≤1000) (hr:R .none M (nw.set i (l,.list []))):Do c .call [.builtin "list.clear",.ref l] M nw R:=Do.call1 fun u h1 s Q S post=>by
  cases aa h1
  refine E4 (eA S hi) fun m ys n rest q91=>A5 q91 fun F hs N U k=>?_
  clear q91
  exact uQ F N (U [] _) (by rw [hs.length]; omega) fun h' F' N'=>post _ .none _ _ _ rfl (k [] [] _ h' s.toks rfl F' N') hr
theorem lL (hl:ae c.w nw l (.list xs)) (hz:xs.length≤10000) (hr:R (.int xs.length 0) M nw):Do c .call [.builtin "len",.ref l] M nw R:=Do.call1 fun u h1 s Q S post=>by
  cases aa h1
  obtain ⟨ys,h,hs⟩:=S.isList hl
  exact len_L h (by rw [hs.length]; omega) fun t tk=>post _ (.int xs.length 0) _ _ _ (by rw [hs.length]; rfl) (S.tok _) hr
theorem tZ (hl:ae c.w nw l (.tup xs)) (hz:xs.length≤10000) (hr:R (.int xs.length 0) M nw):Do c .call [.builtin "len",.ref l] M nw R:=Do.call1 fun u h1 s Q S post=>by
  cases aa h1
  refine E1 (S.isTup hl) fun ys q91=>A2 q91 fun h hs=>?_
  clear q91
  exact len_T h (by rw [hs.length]; omega) fun t tk=>post _ (.int xs.length 0) _ _ _ (by rw [hs.length]; rfl) (S.tok _) hr
theorem aD.empty {a b:List Value} (h:aD a b):a.isEmpty=b.isEmpty:=by
  cases a <;> cases b <;> first | rfl | cases h
theorem vF (hl:ae c.w nw l (.list xs)) (hz:xs.length≤10000) (hr:R (.bool (!xs.isEmpty)) M nw):Do c .call [.type "bool",.ref l] M nw R:=Do.mk2 fun f u t h0 h1 ht=>by
  cases aR h0; cases aa h1; cases (show _=_ from ht)
  intro s Q S post
  refine E1 (S.isList hl) fun ys q91=>A2 q91 fun h hs=>?_
  clear q91
  exact yk h (by rw [hs.length]; omega) fun tk=>post _ (.bool (!xs.isEmpty)) _ _ _ (by rw [hs.empty]; rfl) (S.tok _) hr
theorem mP (hl:ae c.w nw l (.list xs)) (hz:xs.length≤10000) (hr:R (.bool (!xs.isEmpty)) M nw):Do c .truth [.ref l] M nw R:=Do.mk1 fun u t h1 ht=>by
  cases aa h1; cases (show _=_ from ht)
  intro s Q S post
  obtain ⟨ys,h,hs⟩:=S.isList hl
  exact wpAny_bind (ml h (by rw [hs.length]; omega) fun k=>wpAny_pure (post _ (.bool (!xs.isEmpty)) _ _ _ (by rw [hs.empty]; rfl) (S.tok _) hr))
theorem tj (hl:ae c.w nw l (.list xs)) (hz:xs.length≤1000) (hr:∀ D,R (.ref D) M ((D,.tup xs)::nw)):Do c .call [.type "tuple",.ref l] M nw R:=Do.mk2 fun f u t h0 h1 ht=>by
  cases aR h0; cases aa h1; cases (show _=_ from ht)
  intro s Q S post
  refine E1 (S.isList hl) fun ys q91=>A2 q91 fun h hs=>?_
  clear q91
  refine E2 S.open fun m news q92=>A5 q92 fun F N f c93 k=>?_
  clear q92
  clear c93
  exact vh F N h (by rw [hs.length]; exact hz) fun D h' F' N' lt=>post _ (.ref D) _ _ _ rfl (k D _ (.tup xs) h' s.toks F' N' lt ⟨ys,hs,rfl⟩) (hr D)
theorem Do.sub {o v:Value} (h:∀ o' v' sl vl,Sim o' o→Sim v' v→Tr c (subscriptTail vl sl o' v') M nw R):Do c .sub [o,v] M nw R:=Do.mk2 fun u x t h1 h2 ht=>by
  obtain ⟨_,_,rfl⟩:=ht; exact h _ _ _ _ h1 h2
theorem vL (sl:Expr) (o v:Value):∃ ops,subscripted sl false o v=operate ops (getItem o v):=by
  cases sl with
  | Slice lo hi st q=>cases st with
    | none=>exact ⟨[v,o],rfl⟩
    | some st=>exact ⟨[o,v],rfl⟩
  | _=>exact ⟨[o,v],rfl⟩
theorem fL {vl sl:Expr} {o v:Value} {T id:String} {A:Around} {E:Value→Shared→Prop} {s:Shared} {Q:Value→Shared→Prop} {p:Program} {w:World} (hT:s.TypeIs o T) (hl:typeLookup (.type T) "__getitem__" = pure (some (.builtin id))) (hg:wpAny (model p w) A (getItem o v) Q E s):wpAny (model p w) A (subscriptTail vl sl o v) Q E s:=by
  refine E1 (vL sl o v) fun ops h=>?_
  exact tail_any hT hl hg h
theorem kU {k:Int} {t:Tok} {v:Value} (hl:ae c.w nw l (.list xs)) (h0:0≤k) (h1:k < 10000) (hx:xs[k.toNat]? = some v) (hr:R v M nw):Do c .sub [.ref l,.int k t] M nw R:=Do.sub fun o' v' sl vl h2 h3 s Q S post=>by
  cases aa h2; obtain ⟨_,rfl⟩:=ah h3
  refine E1 (S.isList hl) fun ys q91=>A2 q91 fun h hs=>?_
  clear q91
  refine E1 (hs.get hx) fun u q92=>A2 q92 fun hu hv=>?_
  clear q92
  exact fL h.typeIs slot_list_getitem.lookup (wpAny_getItem_list h h0 (by (clear h0; omega)) (by simpa using hu) (post _ v _ _ _ hv S hr))
theorem lK {t:Tok} {v:Value} (hl:ae c.w nw l (.list (xs++[v]))) (hz:xs.length≤10000) (hr:R v M nw):Do c .sub [.ref l,.int (-1) t] M nw R:=Do.sub fun o' v' sl vl h2 h3 s Q S post=>by
  cases aa h2; obtain ⟨_,rfl⟩:=ah h3
  refine E1 (S.isList hl) fun ys q91=>A2 q91 fun h hs=>?_
  clear q91
  refine E2 hs.snoc fun us u q92=>A3 q92 fun e93 hv hs'=>?_
  clear q92
  clear hs
  first | subst e93 | cases e93
  exact fL h.typeIs slot_list_getitem.lookup (tm h (by rw [hs'.length]; omega) (post _ v _ _ _ hv S hr))
end
end
section
set_option tactic.hygienic false
section
variable {c:Cx} {M:FM} {nw:Led} {rm:Nat} {R:Value→FM→Led→Prop} {l d:Addr} {xs ys:List Value} {i:Nat} {kvs:List (Str×Value)}
theorem dS {k:Int} {t:Tok} {v:Value} (hl:ae c.w nw l (.tup xs)) (h0:0≤k) (h1:k < 10000) (hx:xs[k.toNat]? = some v) (hr:R v M nw):Do c .sub [.ref l,.int k t] M nw R:=Do.sub fun o' v' sl vl h2 h3 s Q S post=>by
  cases aa h2; obtain ⟨_,rfl⟩:=ah h3
  obtain ⟨ys,h,hs⟩:=S.isTup hl
  obtain ⟨u,hu,hv⟩:=hs.get hx
  have hlt:=(List.getElem?_eq_some_iff.mp hu).1
  exact fL h.typeIs slot_tuple_getitem.lookup (getItem_tuple h (by (clear h1 hlt; omega)) (by (clear h0 hlt; omega)) (seqIndex_of h0 (by rw [size_toArray]; (clear h0 h1; omega))) (by simpa using hu) (post _ v _ _ _ hv S hr))
theorem fF {M:Model} {A:Around} {E:Value→Shared→Prop} {s:Shared} {o:Obj} {f:Addr→Sem Value} {Q:Value→Shared→Prop} (h:wpAny M A (f s.heap.objs.size) Q E { s with heap:=s.heap.push o }):wpAny M A (do let s ← alloc o; f s) Q E s:=fun Γ p hΓ=>by
  have:=h Γ p hΓ
  rw [Sem.wp_bind']
  exact this
theorem Do.slice {o a b:Value} (h:∀ o' a' b' x q lo hi p (s:Shared) Q,Sim o' o→Sim a' a→Sim b' b→St c M nw s→(∀ v' v M' n' s',Sim v' v→St c M' n' s'→R v M' n'→Q v' s')→wpAny (model PG c.w) c.A (subscriptTail (.Name x q) (.Slice lo hi none p) o' (.ref s.heap.objs.size)) Q c.E { s with heap:=s.heap.push { cls:=.type "slice",data:=.fields #[a',b',.none] } }):Do c .slice [o,a,b] M nw R:=Do.mk3 fun u v z t h1 h2 h3 ht s Q S post=>by
  obtain ⟨_,_,_,_,_,rfl⟩:=ht; exact fF (h _ _ _ _ _ _ _ _ _ _ h1 h2 h3 S post)
theorem wW {a b:Nat} {ta tb:Tok} (hl:ae c.w nw l (.list xs)) (hz:xs.length≤1000) (hr:∀ D,R (.ref D) M ((D,.list ((xs.take b).drop a))::nw)):Do c .slice [.ref l,.int a ta,.int b tb] M nw R:=Do.slice fun o' a' b' x q lo hi p s Q h1 h2 h3 S post=>by
  cases aa h1; obtain ⟨_,rfl⟩:=ah h2; obtain ⟨_,rfl⟩:=ah h3
  refine E1 (S.isList hl) fun ys q91=>A2 q91 fun h hs=>?_
  clear q91
  refine E2 S.open fun m news q92=>A5 q92 fun F N f c93 k=>?_
  clear q92
  clear c93
  exact sk F N h (by rw [hs.length]; omega) (fun D h' F' N' lt=>post _ (.ref D) _ _ _ rfl (k D _ (.list _) h' s.toks F' N' lt ⟨_,_,(hs.take b).drop a,rfl⟩) (hr D)) rfl (fun _=>rfl)
theorem uW {a:Nat} {ta:Tok} (hl:ae c.w nw l (.list xs)) (hz:xs.length≤1000) (hr:∀ D,R (.ref D) M ((D,.list (xs.drop a))::nw)):Do c .slice [.ref l,.int a ta,.none] M nw R:=Do.slice fun o' a' b' x q lo hi p s Q h1 h2 h3 S post=>by
  cases aa h1; obtain ⟨_,rfl⟩:=ah h2; cases aH h3
  refine E1 (S.isList hl) fun ys q91=>A2 q91 fun h hs=>?_
  clear q91
  refine E2 S.open fun m news q92=>A5 q92 fun F N f c93 k=>?_
  clear q92
  clear c93
  exact uE F N h (by rw [hs.length]; omega) (fun D h' F' N' lt=>post _ (.ref D) _ _ _ rfl (k D _ (.list _) h' s.toks F' N' lt ⟨_,_,hs.drop a,rfl⟩) (hr D)) rfl (fun _=>rfl)
theorem slc_b {b:Nat} {tb:Tok} (hl:ae c.w nw l (.list xs)) (hz:xs.length≤1000) (hr:∀ D,R (.ref D) M ((D,.list (xs.take b))::nw)):Do c .slice [.ref l,.none,.int b tb] M nw R:=Do.slice fun o' a' b' x q lo hi p s Q h1 h2 h3 S post=>by
  cases aa h1; cases aH h2; obtain ⟨_,rfl⟩:=ah h3
  refine E1 (S.isList hl) fun ys q91=>A2 q91 fun h hs=>?_
  clear q91
  refine E2 S.open fun m news q92=>A5 q92 fun F N f c93 k=>?_
  clear q92
  clear c93
  exact oG F N h (by rw [hs.length]; omega) (fun D h' F' N' lt=>post _ (.ref D) _ _ _ rfl (k D _ (.list _) h' s.toks F' N' lt ⟨_,_,hs.take b,rfl⟩) (hr D)) rfl (fun _=>rfl)
theorem kW {x z:Str} {s:Shared} {Q:Value→Shared→Prop} (S:St c M nw s) (hr:R (.str z 0) M nw) (post:∀ v' v M' n' s',Sim v' v→St c M' n' s'→R v M' n'→Q v' s'):∃ m news,Fr c.h₀ c.L s.heap m∧News c.h₀ c.L s.heap news∧∀ h' t' k,Fr c.h₀ c.L h' m→News c.h₀ c.L h' news→Q (.str z t') { s with heap:=h',toks:=k }:=by
  refine E2 S.open fun m news q91=>A5 q91 fun F N f k c92=>?_
  clear q91
  clear c92
  exact ⟨m,news,F,N,fun h' t' tk F' N'=>post _ (.str z 0) _ _ _ rfl (k h' tk F' N') hr⟩
theorem ut {x:Str} {j:Int} {t tb:Tok} (hz:x.length≤10000) (hr:R (.str (Txt.slice x none (some j)) 0) M nw):Do c .slice [.str x t,.none,.int j tb] M nw R:=Do.slice fun o' a' b' y q lo hi p s Q h1 h2 h3 S post=>by
  obtain ⟨_,rfl⟩:=aq h1; cases aH h2; obtain ⟨_,rfl⟩:=ah h3
  refine E2 (kW (x:=x) S hr post) fun m news q91=>A3 q91 fun F N k=>?_
  clear q91
  exact slice_strN_ns F N k rfl (fun _=>rfl) (szs hz)
theorem gY {x:Str} {j:Int} {t tb:Tok} (hz:x.length≤10000) (hr:R (.str (Txt.slice x (some j) none) 0) M nw):Do c .slice [.str x t,.int j tb,.none] M nw R:=Do.slice fun o' a' b' y q lo hi p s Q h1 h2 h3 S post=>by
  obtain ⟨_,rfl⟩:=aq h1; obtain ⟨_,rfl⟩:=ah h2; cases aH h3
  refine E2 (kW (x:=x) S hr post) fun m news q91=>A3 q91 fun F N k=>?_
  clear q91
  exact slice_strN_sn F N k rfl (fun _=>rfl) (szs hz)
theorem qR {x:Str} {j j':Int} {t ta tb:Tok} (hz:x.length≤10000) (hr:R (.str (Txt.slice x (some j) (some j')) 0) M nw):Do c .slice [.str x t,.int j ta,.int j' tb] M nw R:=Do.slice fun o' a' b' y q lo hi p s Q h1 h2 h3 S post=>by
  obtain ⟨_,rfl⟩:=aq h1; obtain ⟨_,rfl⟩:=ah h2; obtain ⟨_,rfl⟩:=ah h3
  refine E2 (kW (x:=x) S hr post) fun m news q91=>A3 q91 fun F N k=>?_
  clear q91
  exact slice_strN_ss F N k rfl (fun _=>rfl) (szs hz)
theorem wd {b:Addr} (hl:ae c.w nw l (.list xs)) (hb:ae c.w nw b (.list ys)) (hz:xs.length≤1000) (hy:ys.length≤1000) (hr:∀ D,R (.ref D) M ((D,.list (xs++ys))::nw)):Do c (.bin .Add) [.ref l,.ref b] M nw R:=Do.mk2 fun u v t h1 h2 ht s Q S post=>by
  cases aa h1; cases aa h2; cases (show _=_ from ht)
  refine E1 (S.isList hl) fun us q91=>A2 q91 fun h hs=>?_
  clear q91
  refine E1 (S.isList hb) fun vs q92=>A2 q92 fun h' hs'=>?_
  clear q92
  refine E2 S.open fun m news q93=>A5 q93 fun F N f c94 k=>?_
  clear q93
  clear c94
  exact add_L F N h h' (by rw [hs.length]; omega) (by rw [hs'.length]; omega) fun D h' F' N' lt=>post _ (.ref D) _ _ _ rfl (k D _ (.list _) h' s.toks F' N' lt ⟨_,_,hs.append hs',rfl⟩) (hr D)
theorem Do.cmp {op:CmpOp} {a b:Value} (h:∀ a' b',Sim a' a→Sim b' b→Tr c (compareOp op a' b') M nw R):Do c (.cmp op) [a,b] M nw R:=Do.mk2 fun u v t h1 h2 ht=>by
  cases (show _=_ from ht); exact h _ _ h1 h2
theorem xd {x:Str} {t:Tok} {gs:List Str} (hl:ae c.w nw l (.list (ac gs))) (hr:R (.bool (decide (x ∈ gs))) M nw):Do c (.cmp .In) [.str x t,.ref l] M nw R:=Do.cmp fun a b h1 h2 s Q S post=>by
  obtain ⟨_,rfl⟩:=aq h1; cases aa h2
  obtain ⟨us,h,hs⟩:=S.isList hl
  exact wL h (bj hs) (post _ _ _ _ _ rfl S hr)
theorem iF {x:Str} {t:Tok} {gs:List Str} (hl:ae c.w nw l (.list (ac gs))) (hr:R (.bool (!decide (x ∈ gs))) M nw):Do c (.cmp .NotIn) [.str x t,.ref l] M nw R:=Do.cmp fun a b h1 h2 s Q S post=>by
  obtain ⟨_,rfl⟩:=aq h1; cases aa h2
  obtain ⟨us,h,hs⟩:=S.isList hl
  exact rk h (bj hs) (post _ _ _ _ _ rfl S hr)
theorem xZ {b:Addr} {gs hs:List Str} (H:Cok c (rm+8)) (hl:ae c.w nw l (.list (ac gs))) (hb:ae c.w nw b (.list (ac hs))) (o1:OkS gs) (o2:OkS hs) (hr:R (.bool (decide (gs=hs))) M nw):Do c (.cmp .Eq) [.ref l,.ref b] M nw R:=Do.cmp fun a b h1 h2 s Q S post=>by
  cases aa h1; cases aa h2
  refine E1 (S.isList hl) fun us q91=>A2 q91 fun h e1=>?_
  clear q91
  refine E1 (S.isList hb) fun vs q92=>A2 q92 fun h' e2=>?_
  clear q92
  exact yj h h' (bj e1) (bj e2) o1 o2 (by have:=H.un; omega) (post _ _ _ _ _ rfl S hr)
theorem pE {b:Addr} {gs hs:List Str} (H:Cok c (rm+8)) (hl:ae c.w nw l (.list (ac gs))) (hb:ae c.w nw b (.list (ac hs))) (o1:OkS gs) (o2:OkS hs) (hr:R (.bool (!decide (gs=hs))) M nw):Do c (.cmp .NotEq) [.ref l,.ref b] M nw R:=Do.cmp fun a b h1 h2 s Q S post=>by
  cases aa h1; cases aa h2
  obtain ⟨us,h,e1⟩:=S.isList hl
  obtain ⟨vs,h',e2⟩:=S.isList hb
  exact xm h h' (bj e1) (bj e2) o1 o2 (by have:=H.un; omega) (post _ _ _ _ _ rfl S hr)
theorem uj {x:Str} {t:Tok} {gs:List Str} (hl:ae c.w nw l (.list (ac gs))) (hx:x.length≤16) (hw:(gs.map (·.length)).sum+gs.length≤1048576) (hr:R (.str (Txt.join x gs) 0) M nw):Do c .call [.builtin "str.join",.str x t,.ref l] M nw R:=Do.call2 fun a b h1 h2 s Q S post=>by
  obtain ⟨_,rfl⟩:=aq h1; cases aa h2
  obtain ⟨us,h,hs⟩:=S.isList hl
  exact join_listW h (by simpa using bj hs) hx hw fun t' k=>post _ (.str _ 0) _ _ _ rfl (S.tok _) hr
theorem uB {x y:Str} {t t':Tok} (hy:(y.length == 0)=false) (hx:x.length≤10000) (hr:∀ D,R (.ref D) M ((D,.list (ac (Txt.split x y)))::nw)):Do c .call [.builtin "str.split",.str x t,.str y t'] M nw R:=Do.call2s fun u v s Q S post=>by
  refine E2 S.open fun m news q91=>A5 q91 fun F N f c92 k=>?_
  clear q91
  clear c92
  exact splitN1A F N hy (fun l h' tk e hs hlen hl F' N'=>post _ (.ref _) _ _ _ rfl (k _ _ (.list _) h' tk F' N' (fun p hp=>Heap.lt_size (N p hp).1) ⟨strValues l,0,by rw [← e]; exact jb hs,rfl⟩) (hr _)) (by rw [PySem.sizeLine_eq]; omega)
theorem wa {ns:List Int} (H:Cok c rm) (hl:ae c.w nw l (.list (bM ns))) (hr:R (.int ns.sum 0) M nw):Do c .call [.builtin "sum",.ref l] M nw R:=Do.call1 fun a h1 s Q S post=>by
  cases aa h1
  refine E1 (S.isList hl) fun us q91=>A2 q91 fun h hs=>?_
  clear q91
  refine E2 S.open fun m news q92=>A5 q92 fun F N f k c93=>?_
  clear q92
  clear c93
  exact LSm.sum_ints F N H.hh h (jR hs) fun h' tk t' F' N'=>post _ (.int _ 0) _ _ _ rfl (k h' tk F' N') hr
theorem qe {gs:List Str} (hl:ae c.w nw l (.list (ac gs))) (hz:gs.length < 64) (hr:∀ D gs',gs'.Perm gs→sortedS gs'=true→R (.ref D) M ((D,.list (ac gs'))::nw)):Do c .call [.builtin "sorted",.ref l] M nw R:=Do.call1 fun a h1 s Q S post=>by
  cases aa h1
  refine E1 (S.isList hl) fun us q91=>A2 q91 fun h hs=>?_
  clear q91
  refine E2 S.open fun m news q92=>A5 q92 fun F N f c93 k=>?_
  clear q92
  clear c93
  exact sQ F N h (bj hs) (by rw [hs.length]; simpa [ac] using hz) fun D h' vs' ss' e F' N' lt hv hp hso=>post _ (.ref D) _ _ _ rfl (k D _ (.list _) h' s.toks F' N' lt ⟨_,_,jb hv,rfl⟩) (hr D ss' hp hso)
theorem pi {gs:List Str} (hl:ae c.w nw l (.tup (ac gs))) (hz:gs.length < 64) (hr:∀ D gs',gs'.Perm gs→sortedS gs'=true→R (.ref D) M ((D,.list (ac gs'))::nw)):Do c .call [.builtin "sorted",.ref l] M nw R:=Do.call1 fun a h1 s Q S post=>by
  cases aa h1
  refine E1 (S.isTup hl) fun us q91=>A2 q91 fun h hs=>?_
  clear q91
  refine E2 S.open fun m news q92=>A5 q92 fun F N f c93 k=>?_
  clear q92
  clear c93
  exact tn F N h (bj hs) (by rw [hs.length]; simpa [ac] using hz) fun D h' vs' ss' e F' N' lt hv hp hso=>post _ (.ref D) _ _ _ rfl (k D _ (.list _) h' s.toks F' N' lt ⟨_,_,jb hv,rfl⟩) (hr D ss' hp hso)
end
end
section
set_option tactic.hygienic false
section
variable {c:Cx} {M:FM} {nw:Led} {rm:Nat} {R:Value→FM→Led→Prop} {l d:Addr} {xs ys:List Value} {i:Nat} {kvs:List (Str×Value)}
theorem cS {is:List Nat} (H:Cok c rm) (hl:ae c.w nw d (.tup xs)) (hn:xs.length=is.length) (hr:R .none (dW (is.zip xs) M) nw):Do c (.unp is) [.ref d] M nw R:=Do.mk1 fun u t h1 ht s Q S post=>by
  cases aa h1
  refine E3 (show ∃ ts k p,CTs c.sc ts is∧t=_ from ht) fun ts k p q90=>A2 q90 fun hts e90=>?_
  clear ht q90
  subst e90
  · refine E1 (S.isTup hl) fun ys q91=>A2 q91 fun hT hs=>?_
    clear q91
    refine E1 (km hts) fun xs' q92=>A7 q92 fun h1 h2 h3 h4 h5 h6 h8=>?_
    clear q92
    refine wpAny_bind (assign_Tuple_tuple H.hh hT (by rw [h5,h3,size_toArray,hs.length,hn]) (h6 _) fun h' he=>?_)
    rw [h4]
    refine fW (R:=fun M' n'=>M'=dW (is.zip xs) M∧n'=nw) H.toCok0 hts hs hn ⟨rfl,rfl⟩ _ _ (S.keep fun b o e=>he b o (Nat.ne_of_lt (Heap.lt_size e)) e) fun M' n' s' S' ⟨e1,e2⟩=>?_
    subst e1 e2
    exact wpAny_pure (post _ .none _ _ _ rfl S' hr)
theorem St.dict {s:Shared} (S:St c M nw s) (hl:ae c.w nw d (.dict kvs)):∃ m news kws o,Fr c.h₀ c.L s.heap m∧News c.h₀ c.L s.heap news∧(d,o) ∈ news∧o.IsDictOf (PySem.strKind PG c.w) kws∧SimKV kws kvs:=by
  refine E2 S.news fun m news q91=>A3 q91 fun F N f=>?_
  clear q91
  refine E1 hl fun y q92=>A2 q92 fun h1 h2=>?_
  try clear hl
  clear q92
  refine E1 (f.ob _ h1) fun o q93=>A2 q93 fun ho hi=>?_
  clear q93
  refine E1 (h2 o hi) fun kws q94=>A2 q94 fun hs hd=>?_
  clear q94
  exact ⟨m,news,kws,o,F,N,ho,hd,hs⟩
theorem bq {x:Str}:∀ {us vs:List (Str×Value)},SimKV us vs→kX (valueAt us x) (valueAt vs x)
  | [],[],_=>rfl
  | [],_::_,h=>nomatch h
  | _::_,[],h=>nomatch h
  | (k,u)::us,(k',v)::vs,h=>by
    obtain ⟨h1,h2⟩:=List.cons.inj h
    clear h
    obtain ⟨rfl,e⟩:=Prod.mk.inj h1
    have ih:=bq (x:=x) (us:=us) (vs:=vs) h2
    unfold valueAt at ih ⊢
    rw [find?_cons,find?_cons]
    cases hk:decide (k=x) with
    | true =>
      exact congrArg some e
    | false =>
      exact ih
theorem SimKV.length {us vs:List (Str×Value)} (h:SimKV us vs):us.length=vs.length:=by have:=congrArg List.length h; simpa using this
theorem SimKV.put {x:Str} {u v:Value} (hv:Sim u v):∀ {us vs:List (Str×Value)},SimKV us vs→SimKV (stored us x u) (stored vs x v):=by
  intro us vs h
  have hany:us.any (fun kv=>kv.1=x)=vs.any (fun kv=>kv.1=x):=by
    have:=congrArg (List.any · (fun p=>decide (p.1=x))) h
    simpa only [List.any_map,Function.comp_def] using this
  have hmap:(us.map fun kv=>if kv.1=x then (kv.1,u) else kv).map (fun p=>(p.1,vst p.2))=(vs.map fun kv=>if kv.1=x then (kv.1,v) else kv).map fun p=>(p.1,vst p.2):=by
    have:=congrArg (List.map fun p:Str×Value=>if p.1=x then (p.1,vst v) else p) h
    rw [List.map_map,List.map_map] at this
    rw [List.map_map,List.map_map]
    refine Eq.trans (map_congr_left fun p _=>?_) (this.trans (map_congr_left fun p _=>?_))
    · show (_,vst _)=_
      dsimp only [Function.comp]
      split
      · rw [show vst u=vst v from hv]
      · rfl
    · dsimp only [Function.comp]
      split <;> rfl
  unfold Mine.SimKV stored
  rw [hany]
  split
  · exact hmap
  · rw [map_append,map_append,h]
    exact congrArg (_++[·]) (by show (x,vst u)=(x,vst v); rw [show vst u=vst v from hv])
theorem dF {a b:Option Value} (h:kX a b):a.isSome=b.isSome:=by cases a <;> cases b <;> first | rfl | cases h
theorem aS {x:Str} {t:Tok} {v:Value} (hl:ae c.w nw d (.dict kvs)) (hx:valueAt kvs x=some v) (hr:R v M nw):Do c .sub [.ref d,.str x t] M nw R:=Do.sub fun o' v' sl vl h2 h3 s Q S post=>by
  cases aa h2; obtain ⟨_,rfl⟩:=aq h3
  refine E4 (S.dict hl) fun m news kws o q91=>A5 q91 fun F N hm hd hs=>?_
  clear q91
  refine E1 (cC (hx▸bq (x:=x) hs)) fun u q92=>A2 q92 fun hu hv=>?_
  clear q92
  have hD:=jd N hm hd
  exact fL hD.typeIs slot_dict_getitem.lookup (wpAny_getItem_of (strKind_is _ _ _ _) hD.mapOf hu (post _ v _ _ _ hv (S.tok _) hr))
theorem xl {x:Str} {t:Tok} (lo:(d == sysModules)=false) (hl:ae c.w nw d (.dict kvs)) (hr:R (.bool (valueAt kvs x).isSome) M nw):Do c (.cmp .In) [.str x t,.ref d] M nw R:=Do.cmp fun a b h1 h2 s Q S post=>by
  obtain ⟨_,rfl⟩:=aq h1; cases aa h2
  refine E4 (S.dict hl) fun m news kws o q91=>A5 q91 fun F N hm hd hs=>?_
  clear q91
  exact in_D (jd N hm hd) lo (by rw [dF (bq hs)]; exact post _ _ _ _ _ rfl (S.tok _) hr)
theorem eh {x:Str} {t:Tok} (lo:(d == sysModules)=false) (hl:ae c.w nw d (.dict kvs)) (hr:R (.bool (!(valueAt kvs x).isSome)) M nw):Do c (.cmp .NotIn) [.str x t,.ref d] M nw R:=Do.cmp fun a b h1 h2 s Q S post=>by
  obtain ⟨_,rfl⟩:=aq h1; cases aa h2
  refine E4 (S.dict hl) fun m news kws o q91=>A5 q91 fun F N hm hd hs=>?_
  clear q91
  exact uL (jd N hm hd) lo (by rw [dF (bq hs)]; exact post _ _ _ _ _ rfl (S.tok _) hr)
theorem vS {x:Str} {t:Tok} {v:Value} (hi:nw[i]? = some (d,.dict kvs)) (hz:kvs.length≤1000) (hr:R .none M (nw.set i (d,.dict (stored kvs x v)))):Do c .setI [.ref d,.str x t,v] M nw R:=Do.mk3 fun u v' z t h1 h2 h3 ht s Q S post=>by
  cases aa h1; obtain ⟨_,rfl⟩:=aq h2; cases (show _=_ from ht)
  refine E3 (S.at hi) fun m o rest q91=>A5 q91 fun F q92 N hne k=>?_
  clear q91
  refine E1 q92 fun kws q93=>A2 q93 fun hs hd=>?_
  try clear q92
  clear q93
  exact wpAny_bind (set_D F N (.head hne) hd (by rw [hs.length]; exact hz) fun h' o' F' N' hd'=>wpAny_pure (post _ .none _ _ _ rfl (k (.dict _) o' h' _ F' N' ⟨_,hs.put h3,hd'⟩) hr))
theorem vU (hl:ae c.w nw d (.dict kvs)) (hr:R (.builtin "dict.get") M nw):Do c (.meth "get") [.ref d] M nw R :=
  eP (fun o' pl s Q h1 S hq=>by
    cases aa h1
    refine E4 (S.dict hl) fun m news kws o q91=>A5 q91 fun F N hm hd hs=>?_
    clear q91
    exact kdg_method N hm hd hq) hr
theorem wt {x:Str} {t:Tok} (lo:(d == sysModules)=false) (hl:ae c.w nw d (.dict kvs)) (hr:R ((valueAt kvs x).getD .none) M nw):Do c .call [.builtin "dict.get",.ref d,.str x t] M nw R:=Do.call2 fun a b h1 h2 s Q S post=>by
  cases aa h1; obtain ⟨_,rfl⟩:=aq h2
  refine E4 (S.dict hl) fun m news kws o q91=>A5 q91 fun F N hm hd hs=>?_
  clear q91
  refine kdg_get1 (knd:=PySem.strKind _ _) N hm hd lo (strKind_is _ _ _ _) _ rfl (post _ _ _ _ _ ?_ (S.tok _) hr)
  have:=bq (x:=x) hs
  cases h1:valueAt kws x <;> cases h2:valueAt kvs x <;> rw [h1,h2] at this <;> first | rfl | cases this | exact Option.some.inj this
theorem yl {n:Int} {t:Tok} (hr:R (.int (n.natAbs:Int) 0) M nw):Do c .call [.builtin "abs",.int n t] M nw R:=Do.call1 fun u h1 s Q S post=>by
  obtain ⟨_,rfl⟩:=ah h1
  exact call_abs_int fun u tk=>post _ (.int _ 0) _ _ _ (by show Value.int _ 0 = .int _ 0; congr 1; split <;> omega) (S.tok _) hr
theorem c_int {n:Int} {t:Tok} (hr:R (.int n 0) M nw):Do c .call [.type "int",.int n t] M nw R:=Do.mk2 fun f u t h0 h1 ht s Q S post=>by
  cases aR h0; obtain ⟨_,rfl⟩:=ah h1; cases (show _=_ from ht)
  exact call_int_int (post _ (.int _ 0) _ _ _ rfl S hr)
theorem rY {a b:Int} {t t':Tok} (hb:iz b=true) (hr:∀ D,R (.ref D) M ((D,.tup [.int (a.fdiv b) 0,.int (a.fmod b) 0])::nw)):Do c .call [.builtin "divmod",.int a t,.int b t'] M nw R:=Do.call2 fun u v h1 h2 s Q S post=>by
  obtain ⟨_,rfl⟩:=ah h1; obtain ⟨_,rfl⟩:=ah h2
  obtain ⟨h3,h4⟩:=Bool.and_eq_true_iff.mp hb
  have h3:=of_decide_eq_true h3
  have h4:=of_decide_eq_true h4
  refine E2 S.open fun m news q91=>A5 q91 fun F N f c92 k=>?_
  clear q91
  clear c92
  exact divmod_N F N (by (clear h4; omega)) (fun h' F' N'=>post _ (.ref _) _ _ _ rfl (k _ _ (.tup [.int (a.fdiv b) 0,.int (a.fmod b) 0]) h' _ F' N' (fun p hp=>Heap.lt_size (N p hp).1) ⟨[.int (a.fdiv b) s.toks,.int (a.fmod b) (s.toks+1)],rfl,rfl⟩) (hr s.heap.objs.size))
theorem c_chr {n:Int} {t:Tok} (h0:0≤n) (h1:n≤1114111) (hr:R (.str ⟨#[n.toNat]⟩ 0) M nw):Do c .call [.builtin "chr",.int n t] M nw R:=Do.call1 fun u h2 s Q S post=>by
  obtain ⟨_,rfl⟩:=ah h2
  exact chr_of_range h0 h1 (post _ (.str _ 0) _ _ _ rfl (S.tok _) hr)
theorem vq {x y:Array UInt8} {t t':Tok} (hz:x.size+y.size≤1000000) (hr:R (.bytes (x++y) 0) M nw):Do c (.bin .Add) [.bytes x t,.bytes y t'] M nw R:=Do.mk2 fun u v t h1 h2 ht s Q S post=>by
  obtain ⟨_,rfl⟩:=bL h1; obtain ⟨_,rfl⟩:=bL h2; cases (show _=_ from ht)
  exact KBy.add_bytes (by omega) fun t' k=>post _ (.bytes _ 0) _ _ _ rfl (S.tok _) hr
theorem slcB {b:Array UInt8} {lo hi:Option Int} {x y:Value} {t:Tok} (hx:∀ x',Sim x' x→IsPart x' lo) (hy:∀ y',Sim y' y→IsPart y' hi) (hz:b.size≤10000) (hr:R (.bytes (KBy.picked b lo hi) 0) M nw):Do c .slice [.bytes b t,x,y] M nw R:=Do.slice fun o' a' b' y q lo hi p s Q h1 h2 h3 S post=>by
  obtain ⟨_,rfl⟩:=bL h1
  refine E2 S.open fun m news q91=>A5 q91 fun F N f k c92=>?_
  clear q91
  clear c92
  exact KBc.slice_K F N rfl (hx _ h2) (hy _ h3) (by rw [KBw.ints_length]; omega) (fun h' t' tk F' N' _=>post _ (.bytes _ 0) _ _ _ rfl (k h' tk F' N') hr) rfl (fun _=>rfl)
theorem iS {n:Int} {t:Tok} (v:Value) (h:Sim v (.int n t)):IsPart v (some n):=by obtain ⟨_,rfl⟩:=ah h; exact .int _ _
theorem qX (v:Value) (h:Sim v .none):IsPart v none:=by cases aH h; exact .none
theorem xI {x y:Array UInt8} {t t':Tok} (hr:R (.bool (x.toList != y.toList)) M nw):Do c (.cmp .NotEq) [.bytes x t,.bytes y t'] M nw R:=Do.cmp fun a b h1 h2 s Q S post=>by
  obtain ⟨_,rfl⟩:=bL h1; obtain ⟨_,rfl⟩:=bL h2
  exact ne_bytes (post _ _ _ _ _ rfl S hr)
end
end
section
set_option tactic.hygienic false
noncomputable def SJ {α σ:Type} (Ms:σ→FM) (Ns:σ→Led) (P:List α→σ→Prop):List α→FM→Led→Prop:=fun r M nw=>∃ s,M=Ms s∧nw=Ns s∧P r s
theorem ar.at {w:World} {l:Addr} {x y:aE} (hx:∀ o,y.Is w o→x.Is w o):∀ {i:Nat} {nw:Led},nw[i]? = some (l,y)→ar w nw (nw.set i (l,x))
  | 0,_::_,h=>by cases h; exact .thaw hx (.refl _)
  | _+1,_::_,h=>.keep (ar.at hx h)
section
variable {c:Cx} {M:FM} {nw:Led} {rm:Nat} {σ:Type} {Ms:σ→FM} {R:Flow→FM→Led→Prop} {b:List IS} {k:Nat}
theorem LR.next {α:Type} {w:World} {Ns:σ→Led} {P:List α→σ→Prop} {r:List α} (s:σ) (hw:ar w nw (Ns s)) (hp:P r s) (hM:M=Ms s):∃ nw2,ar w nw nw2∧SJ Ms Ns P r M nw2:=⟨_,hw,s,hM,rfl,hp⟩
theorem oE {i:Nat} {ba:Array UInt8} {tb:Tok} (Ns:σ→Led) (P:List UInt8→σ→Prop) (s₀:σ) (H:Cok c rm) (hM:M=Ms s₀) (hn:nw=Ns s₀) (hp:P ba.toList s₀)
    (step:∀ c',c'.sc=c.sc→c'.w=c.w→Cok c' rm→∀ x r s,P (x::r) s→wpS c' k b ((Ms s).set i (some (.int (x.toNat:Int) 0))) (Ns s) (LR c.w (SJ Ms Ns P) R r)) (done:∀ s,P [] s→R .next (Ms s) (Ns s)):DoF c (.one i) (.bytes ba tb) b M nw R :=
  qb (k:=k) (SJ Ms Ns P) H ⟨s₀,hM,hn,hp⟩ (fun c' h1 h2 h3 x r M nw ⟨s,e1,e2,hp⟩=>by subst e1 e2; exact step c' h1 h2 h3 x r s hp) fun M nw ⟨s,e1,e2,hp⟩=>⟨_,.refl _,by subst e1 e2; exact done s hp⟩
theorem dl {i:Nat} {rg:Addr} {i₀ n:Nat} (Ns:σ→Led) (P:List Nat→σ→Prop) (s₀:σ) (H:Cok c rm) (hl:ae c.w nw rg (.range i₀ (i₀+n:Nat))) (hsz:i₀+n≤1000) (hM:M=Ms s₀) (hn:nw=Ns s₀) (hp:P (List.range' i₀ n) s₀)
    (step:∀ c',c'.sc=c.sc→c'.w=c.w→Cok c' rm→∀ x r s,P (x::r) s→wpS c' k b ((Ms s).set i (some (.int (x:Int) 0))) (Ns s) (LR c.w (SJ Ms Ns P) R r)) (done:∀ s,P [] s→R .next (Ms s) (Ns s)):DoF c (.one i) (.ref rg) b M nw R :=
  qv (k:=k) (SJ Ms Ns P) H hl hsz ⟨s₀,hM,hn,hp⟩ (fun c' h1 h2 h3 x r M nw ⟨s,e1,e2,hp⟩=>by subst e1 e2; exact step c' h1 h2 h3 x r s hp) fun M nw ⟨s,e1,e2,hp⟩=>⟨_,.refl _,by subst e1 e2; exact done s hp⟩
theorem qy {t:IT} {l:Addr} {xs:List Value} (i:Nat) (Ns:aE→σ→Led) (P:List Value→σ→Prop) (s₀:σ) (H:Cok c rm) (hM:M=Ms s₀) (hn:nw=Ns (.list xs) s₀) (hi:∀ y s,(Ns y s)[i]? = some (l,y)) (hset:∀ y z s,(Ns y s).set i (l,z)=Ns z s) (hp:P xs s₀)
    (step:∀ c',c'.sc=c.sc→c'.w=c.w→Cok c' rm→∀ y,(∀ o,y.Is c.w o→(aE.list xs).Is c.w o)→∀ x r s,P (x::r) s→cW c' t x (Ms s) (Ns y s) fun M nw=>wpS c' k b M nw (LR c.w (SJ Ms (Ns y) P) R r)) (done:∀ s,P [] s→R .next (Ms s) (Ns (.list xs) s)):DoF c t (.ref l) b M nw R:=by
  subst hn
  refine DoF.freeze (hi _ _) fun o hx=>?_
  rw [hset]
  refine ma (k:=k) (SJ Ms (Ns (.raw o)) P) H hx (fun r M nw ⟨s,e1,e2,_⟩=>by subst e2; exact mem_of_getElem? (hi _ _)) ⟨s₀,hM,rfl,hp⟩ (fun c' h1 h2 h3 x r M nw ⟨s,e1,e2,hp⟩=>by subst e1 e2; exact step c' h1 h2 h3 (.raw o) (fun o' e=>e▸hx) x r s hp) fun M nw ⟨s,e1,e2,hp⟩=>⟨Ns (.list xs) s,?_,by subst e1; exact done s hp⟩
  subst e2
  have:=ar.at (w:=c.w) (x:=.list xs) (y:=.raw o) (fun o' e=>e▸hx) (hi (.raw o) s)
  rw [hset] at this; exact this
noncomputable def WR (w:World) (Ms:σ→FM) (Ns:σ→Led) (P:σ→Prop) (rank:σ→Nat) (n:Nat) (R:Flow→FM→Led→Prop):Flow→FM→Led→Prop:=fun fl M nw=>match fl with
  | .ret v=>R (.ret v) M nw
  | .brk=>R .next M nw
  | _=>∃ s,M=Ms s∧ar w nw (Ns s)∧P s∧rank s < n
theorem WR.next {w:World} {Ns:σ→Led} {P:σ→Prop} {rank:σ→Nat} {n:Nat} (s:σ) (hw:ar w nw (Ns s)) (hp:P s) (hr:rank s < n) (hM:M=Ms s):∃ s,M=Ms s∧ar w nw (Ns s)∧P s∧rank s < n:=⟨s,hM,hw,hp,hr⟩
theorem iY {t:IE} {e:List IS} (Ns:σ→Led) (P:σ→Prop) (rank:σ→Nat) (s₀:σ) (H:Cok c rm) (hM:M=Ms s₀) (hn:nw=Ns s₀) (hp:P s₀)
    (turn:∀ s,P s→wpT c k t (Ms s) (Ns s) fun x M nw=>bif x then wpS c k b M nw (WR c.w Ms Ns P rank (rank s) R) else wpS c k e M nw R):DoW c t b e M nw R:=by
  unfold DoW
  intro test body orelse pos s Q ht hb he S post
  obtain ⟨e0,m,news,F,N,f⟩:=S
  refine vA (n₀:=rank s₀) (fun _ _ n m news=>∃ z,rank z=n∧P z∧ce c (Ms z) (Ns z) m news) F N ⟨s₀,rfl,hp,hM▸hn▸f⟩ (fun n m₁ news₁ h₁ tk₁ F1 N1 ⟨z,hz,pz,fz⟩=>?_) H.hE
  have S1:St c (Ms z) (Ns z) { s with heap:=h₁,toks:=tk₁ }:=St.mk' e0 F1 N1 fz
  refine (ht.e c rm rfl H.toCok0 k _ _).2 _ (turn z pz) _ _ S1 fun x M2 n2 s2 S2 hx=>?_
  cases x with
  | false=>exact cE he c rm rfl H.toCok0 k M2 n2 _ hx s2 _ S2 post
  | true =>
    refine cE hb c rm rfl H.toCok0 k M2 n2 _ hx s2 _ S2 fun f' f0 M3 n3 s3 hf S3 hr=>?_
    have nxt:∀ {z':σ},M3=Ms z'→ar c.w n3 (Ns z')→P z'→rank z' < rank z→∃ h' tk' m' news',s3 = { s with heap:=h',toks:=tk' }∧Fr c.h₀ c.L h' m'∧News c.h₀ c.L h' news'∧rank z' < n∧∃ y,rank y=rank z'∧P y∧ce c (Ms y) (Ns y) m' news':=fun {z'} e1 hw hp' hlt=>by
      obtain ⟨e3,m3,news3,F3,N3,f3⟩:=S3.weak hw
      clear S3 hr
      subst e1
      exact ⟨s3.heap,s3.toks,m3,news3,by rw [e3,e0],F3,N3,hz▸hlt,z',rfl,hp',f3⟩
    cases f' <;> cases f0 <;> first
      | exact hf.elim
      | (obtain ⟨z',e1,hw,hp',hlt⟩:=hr
         refine E4 (nxt e1 hw hp' hlt) fun h' tk' m' news' q91=>A5 q91 fun e' F' N' hlt' j'=>?_
         clear q91
         clear S3 nxt
         subst e'
         first | exact gN.next F' N' hlt' j' | exact gN.cont F' N' hlt' j')
      | exact gN.brk (post .next .next _ _ _ trivial S3 hr)
      | exact gN.ret (post (.ret _) (.ret _) _ _ _ hf S3 hr)
end
end
section
set_option tactic.hygienic false
section
variable {c:Cx} {M:FM} {nw:Led} {rm:Nat} {R:Value→FM→Led→Prop} {l d:Addr} {xs ys:List Value} {i:Nat} {kvs:List (Str×Value)}
theorem dj {x:Str} {t:Tok} (hr:R (.bool false) M nw):Do c .call [.builtin "isinstance",.str x t,.type "bytes"] M nw R:=Do.call2 fun u v h1 h2 s Q S post=>by
  obtain ⟨_,rfl⟩:=aq h1; cases aR h2
  have hq:=fun tk=>post _ _ _ _ _ rfl (S.tok tk) hr
  clear post hr S
  walk1
  exact hq _
theorem gF {x:Array UInt8} {t:Tok} (H:Cok c rm) (hr:R (.bool true) M nw):Do c .call [.builtin "isinstance",.bytes x t,.type "bytes"] M nw R:=Do.call2 fun u v h1 h2 s Q S post=>by
  obtain ⟨_,rfl⟩:=bL h1; cases aR h2
  refine E2 S.news fun m news q91=>A3 q91 fun F N f=>?_
  clear q91
  exact kia_one kitx_bytes (H.K.keeps F.keep) trivial (by rfl) (fun q=>by cases q) fun tk=>post _ _ _ _ _ rfl (S.tok tk) hr
theorem nn (hl:ae c.w nw l (.tup xs)) (hr:R (.bool true) M nw):Do c .call [.builtin "isinstance",.ref l,.type "tuple"] M nw R:=Do.call2 fun u v h1 h2 s Q S post=>by
  cases aa h1; cases aR h2
  have hq:=post _ _ _ _ _ rfl S hr
  refine E1 (S.sees hl) fun o q91=>A2 q91 fun ho hg=>?_
  clear q91
  refine E1 ho fun ys q92=>A2 q92 fun hs e93=>?_
  try clear ho
  clear q92
  first | subst e93 | cases e93
  exact IsiPair.tuple_tuple hg rfl hq
theorem pk {x:Str} {t:Tok} (hr:R (.type "str") M nw):Do c .call [.type "type",.str x t] M nw R:=Do.mk2 fun f u t h0 h1 ht s Q S post=>by
  cases aR h0; obtain ⟨_,rfl⟩:=aq h1; cases (show _=_ from ht)
  have hq:=fun tk=>post _ _ _ _ _ rfl (S.tok tk) hr
  clear post hr
  walk1
  exact hq _
theorem uP {T:Addr} (hl:ae c.w nw T (.tup [.type "str",.type "bytes"])) (hr:R (.bool true) M nw):Do c .call [.builtin "issubclass",.type "str",.ref T] M nw R:=Do.call2 fun u v h1 h2 s Q S post=>by
  cases aR h1; cases aa h2
  obtain ⟨o,ho,hg⟩:=S.sees hl
  obtain ⟨ys,hs,rfl⟩:=ho
  obtain ⟨a,as,rfl,ha,hs⟩:=hs.cons
  obtain ⟨b,bs,rfl,hb,hs⟩:=hs.cons
  cases hs.nil; cases aR ha; cases aR hb
  exact gC hg fun tk=>post _ _ _ _ _ rfl (S.tok _) hr
end
end
section
set_option tactic.hygienic false
section
variable {c:Cx} {M:FM} {nw:Led} {rm:Nat}
variable {name qual:Str} {params:Arguments} {body:List Stmt} {scope:Scope} {dV kV doc pm cdv ct oc:Value} {an od:Option Addr} {osl:Array (Option Value)} {f:Addr}
theorem gW {args hds rs:List Value} {xs:List Str} {l1 own l2:Led} {M₀:Addr→FM} {ir:List IS} {k:Nat} {R:Value→FM→Led→Prop} (H:Cok c (rm+1))
    (ho:∀ w:World,RowW.prog (OpenRow.toRowW (OpenLaw.row Challenge.rw_il0094_01))=PG→(hd.heap_39 w.params).lookup f=some ⟨oc,od,.func (fnOf name qual params body scope dV kV doc pm an cdv ct),osl⟩) (hcd:∀ w:World,RowW.prog (OpenRow.toRowW (OpenLaw.row Challenge.rw_il0094_01))=PG→codeIn (hd.heap_39 w.params) cdv qual=true)
    (hbind:∀ hs' rs',aD hs' hds→aD rs' rs→bindArgs (fnOf name qual params body scope dV kV doc pm an cdv ct) ⟨hs'++rs',[]⟩=(do let t ← newTuple rs'; pure (xs.zip (hs'++[t]))))
    (hkind:∀ x ∈ xs,scope.names.lookup x=some .local∨scope.names.lookup x=some .cell) (hnd:bw scope.names=true)
    (hM:∀ D,dg (af scope.names) (xs.zip (hds++[.ref D]))=M₀ D) (hB:CB ⟨scope.names,af scope.names⟩ body ir)
    (hco:scope.isCoroutine=false) (hgen:scope.isGenerator=false) (hk:scope.kind = .function)
    (hn:nw=l1++(own++l2)) (he:args=hds++rs) (hz:rs.length≤1000)
    (h:∀ c' D,c'.sc=⟨scope.names,af scope.names⟩→c'.w=c.w→Cok c' rm→wpS c' k ir (M₀ D) ((D,.tup rs)::own) fun fl _ nw'=>∃ own',ar c.w nw' own'∧R (ko fl) M (l1++(own'++l2))) :
    Do c .call (.ref f::args) M nw R:=Do.mk fun vs' t hs ht s Q S post=>by
  subst he hn
  refine E2 hs.cons fun f' vs q91=>A3 q91 fun e92 hf hvs=>?_
  clear q91
  clear hs
  first | subst e92 | cases e92
  cases aa hf
  cases (show _=_ from ht)
  refine wpAny_call ?_
  obtain ⟨mf,Ff⟩:=cJ (H:=H) S
  refine E2 hvs.split fun hs' rs' q93=>A3 q93 fun e94 h1 h2=>?_
  clear q93
  first | subst e94 | cases e94
  refine codeAny_call_function (fd:=fnOf name qual params body scope dV kV doc pm an cdv ct) (by have:=H.dp; (clear hz; omega)) ((H.K.keeps Ff.keep) _ _ (ho c.w rfl)) rfl hco hgen rfl (codeRec_of (H.K.keeps Ff.keep) (hcd c.w rfl)) ?_
  rw [hbind hs' rs' h1 h2]
  have S1:=dK (x:=.tup rs) (o:={ cls:=.type "tuple",data:=.seq rs'.toArray }) rfl ⟨rs',h2,rfl⟩ S
  have S2:St c M (l1++(((s.heap.objs.size,.tup rs)::own)++l2)) _:=S1.perm perm_middle
  refine wpAny_bind (wpAny_newTuple (wpAny_pure ?_) (by rw [h2.length,PySem.sizeLine_eq]; omega))
  exact du (args:=hds++[.ref s.heap.objs.size]) (own:=(s.heap.objs.size,.tup rs)::own) H hkind hnd (hM _) hB hk (by exact (sublist_append_left _ _).trans (sublist_append_right _ _)) (cL rfl) (fun c' e1 e2 e3=>h c' _ e1 e2 e3) (h1.append (.one (show Sim (.ref s.heap.objs.size) (.ref s.heap.objs.size) from rfl))) S2 post
noncomputable def Cx.calm (c:Cx):Cx:={ c with E:=fun _ _=>False }
theorem Cok.calm (H:Cok c rm):Cok c.calm rm:={ { H.toCok0 with hE:=PassesOwn.never:Cok0 c.calm rm } with hh:=H.hh }
theorem St.calm {s:Shared} (S:St c M nw s):St c.calm M nw s:=by
  obtain ⟨e,m,news,F,N,f⟩:=S
  exact ⟨e,m,news,F,N,f.vars,f.ob,f.hid,f.nd⟩
theorem St.uncalm {s:Shared} (S:St c.calm M nw s):St c M nw s:=by
  obtain ⟨e,m,news,F,N,f⟩:=S
  exact ⟨e,m,news,F,N,f.vars,f.ob,f.hid,f.nd⟩
theorem xt {b:List Stmt} {ir:List IS} {h₀:ExceptHandler} {hs:List ExceptHandler} {pos:Pos} {k:Nat} {R:Flow→FM→Led→Prop} (H:Cok c rm) (hb:CB c.sc b ir) (h:wpS c.calm k ir M nw R):DoS c (.Try b (h₀::hs) [] [] pos) M nw R:=by
  unfold DoS
  intro s Q S post
  refine wpAny_Try_except (wpAny_mono (cE hb c.calm rm rfl H.calm.toCok0 k M nw _ h s _ S.calm fun f' f M' n' s' hf S' hr=>?_) (fun _ _ x=>x) fun _ _ x=>x.elim)
  have:=post f' f M' n' s' hf S'.uncalm hr
  cases f' <;> first | exact this | exact wpAny_execs_nil this
end
theorem nk {fd:FuncData} {xs:List Str} {p q:Value} (h:∀ a b,bindArgs fd ⟨[a,b],[]⟩=(do let t ← newTuple [b]; pure (xs.zip [a,t]))) (hs' rs':List Value) (h1:aD hs' [p]) (h2:aD rs' [q]):bindArgs fd ⟨hs'++rs',[]⟩=(do let t ← newTuple rs'; pure (xs.zip (hs'++[t]))):=by
  obtain ⟨a,_,rfl,_,h1⟩:=h1.cons
  obtain ⟨b,_,rfl,_,h2⟩:=h2.cons
  cases h1.nil; cases h2.nil
  exact h a b
theorem rz {fd:FuncData} {xs:List Str} {p p' q q':Value} (h:∀ a a' b b',bindArgs fd ⟨[a,a',b,b'],[]⟩=(do let t ← newTuple [b,b']; pure (xs.zip [a,a',t]))) (hs' rs':List Value) (h1:aD hs' [p,p']) (h2:aD rs' [q,q']):bindArgs fd ⟨hs'++rs',[]⟩=(do let t ← newTuple rs'; pure (xs.zip (hs'++[t]))):=by
  obtain ⟨a,_,rfl,_,h1⟩:=h1.cons
  obtain ⟨a',_,rfl,_,h1⟩:=h1.cons
  obtain ⟨b,_,rfl,_,h2⟩:=h2.cons
  obtain ⟨b',_,rfl,_,h2⟩:=h2.cons
  cases h1.nil; cases h2.nil
  exact h a a' b b'
theorem strR {R:Value→FM→Led→Prop} {x y:Str} {M:FM} {nw:Led} (e:y=x) (hr:R (.str x 0) M nw):R (.str y 0) M nw:=e▸hr
theorem bQ {w:World}:∀ {nw:Led},ar w nw []
  | []=>.refl _
  | _::_=>.drop bQ
theorem gH {w:World} {nw nw':Led} {R:Value→FM→Led→Prop} {v:Value} {M:FM} (hr:R v M nw):∃ new,ar w nw' (new++[])∧R v M (new++nw):=⟨[],bQ,hr⟩
noncomputable def UR (c:Cx) (rm k:Nat) (l:Addr) (o:Obj) (t:IT) (b:List IS) (R:Flow→FM→Led→Prop):List Value→FM→Led→Prop
  | [],M,nw=>R .next M nw
  | v::r,M,nw=>∀ c',c'.sc=c.sc→c'.w=c.w→Cok c' rm→cW c' t v M nw fun M nw=>wpS c' k b M nw (LR c.w (fun (_:List Value) M nw=>(l,.raw o) ∈ nw∧UR c rm k l o t b R r M nw) R [])
theorem iC {c:Cx} {M:FM} {nw:Led} {rm:Nat} {t:IT} {b:List IS} {R:Flow→FM→Led→Prop} {k i:Nat} {l:Addr} {xs:List Value} (H:Cok c rm) (hi:nw[i]? = some (l,.tup xs)) (h:∀ o,(aE.tup xs).Is c.w o→UR c rm k l o t b R xs M (nw.set i (l,.raw o))):DoF c t (.ref l) b M nw R :=
  DoF.freeze hi fun o ho=>ry (k:=k) (fun r M nw=>(l,.raw o) ∈ nw∧UR c rm k l o t b R r M nw) H ho (fun _ _ _ h=>h.1) ⟨mem_of_getElem? (i:=i) (by rw [List.getElem?_set_self (List.getElem?_eq_some_iff.mp hi).1]),h o ho⟩ (fun c' h1 h2 h3 x r M nw hj=>hj.2 c' h1 h2 h3) fun M nw hj=>⟨nw,.refl _,hj.2⟩
theorem aN {b:Bool} {P Q:Prop} (h:b=true→P) (h':b=false→Q):bif b then P else Q:=by cases b <;> first | exact h rfl | exact h' rfl
theorem gA {b:Bool} {P Q:Prop} (e:b=true) (h:P):bif b then P else Q:=by rw [e]; exact h
theorem dz {b:Bool} {P Q:Prop} (e:b=false) (h:Q):bif b then P else Q:=by rw [e]; exact h
theorem eD {gs:List Str} {x:Str}:ac (gs++[x])=ac gs++[.str x 0]:=map_append
theorem gx {gs hs:List Str}:ac (gs++hs)=ac gs++ac hs:=map_append
theorem ao {gs:List Str}:(ac gs).length=gs.length:=length_map _
section
variable {c:Cx} {M:FM} {nw:Led} {R:Value→FM→Led→Prop} {l:Addr} {i:Nat} {gs:List Str} {x:Str}
theorem ca (hi:nw[i]? = some (l,.list (ac gs))) (hz:gs.length≤1000) (hr:R .none M (nw.set i (l,.list (ac (gs++[x]))))):Do c .call [.builtin "list.append",.ref l,.str x 0] M nw R:=me hi (by rw [ao]; exact hz) (by rw [← eD]; exact hr)
theorem uc (hi:nw[i]? = some (l,.list (ac (gs++[x])))) (hz:gs.length≤1000) (hr:R (.str x 0) M (nw.set i (l,.list (ac gs)))):Do c .call [.builtin "list.pop",.ref l] M nw R:=xg (by rw [← eD]; exact hi) (by rw [ao]; exact hz) hr
theorem jo {t:Tok} (hl:ae c.w nw l (.list (ac (gs++[x])))) (hz:gs.length≤10000) (hr:R (.str x 0) M nw):Do c .sub [.ref l,.int (-1) t] M nw R:=lK (by rw [← eD]; exact hl) (by rw [ao]; exact hz) hr
theorem aV (hl:ae c.w nw l (.list (ac gs))) (hz:gs.length≤10000) (hr:R (.bool (!gs.isEmpty)) M nw):Do c .truth [.ref l] M nw R:=mP hl (by rw [ao]; exact hz) (by rw [show (ac gs).isEmpty=gs.isEmpty from by cases gs <;> rfl]; exact hr)
end
section
variable {c:Cx} {M:FM} {nw:Led} {R:Value→FM→Led→Prop} {l:Addr} {i:Nat} {gs hs:List Str} {x:Str}
theorem bk {k:Int} {t:Tok} (hl:ae c.w nw l (.list (ac gs))) (h0:0≤k) (h1:k < gs.length) (hz:gs.length≤1000) (hr:R (.str (gs.getD k.toNat "") 0) M nw):Do c .sub [.ref l,.int k t] M nw R :=
  kU hl h0 (by omega) (by unfold ac; rw [List.getElem?_map,List.getElem?_eq_getElem (by (clear hz; omega)),getD_eq_getElem?_getD,List.getElem?_eq_getElem (by (clear hz; omega))]; rfl) hr
theorem xV {b:Nat} {tb:Tok} (hl:ae c.w nw l (.list (ac gs))) (hz:gs.length≤1000) (hr:∀ D,R (.ref D) M ((D,.list (ac (gs.take b)))::nw)):Do c .slice [.ref l,.none,.int b tb] M nw R:=slc_b hl (by rw [ao]; exact hz) fun D=>by rw [show (ac gs).take b=ac (gs.take b) from map_take.symm]; exact hr D
theorem vo {a b:Nat} {ta tb:Tok} (hl:ae c.w nw l (.list (ac gs))) (hz:gs.length≤1000) (hr:∀ D,R (.ref D) M ((D,.list (ac ((gs.take b).drop a)))::nw)):Do c .slice [.ref l,.int a ta,.int b tb] M nw R:=wW hl (by rw [ao]; exact hz) fun D=>by rw [show ((ac gs).take b).drop a=ac ((gs.take b).drop a) from by unfold ac; rw [map_drop,map_take]]; exact hr D
theorem wy {a:Nat} {ta:Tok} (hl:ae c.w nw l (.list (ac gs))) (hz:gs.length≤1000) (hr:∀ D,R (.ref D) M ((D,.list (ac (gs.drop a)))::nw)):Do c .slice [.ref l,.int a ta,.none] M nw R:=uW hl (by rw [ao]; exact hz) fun D=>by rw [show (ac gs).drop a=ac (gs.drop a) from map_drop.symm]; exact hr D
theorem fB {b:Addr} (hl:ae c.w nw l (.list (ac gs))) (hb:ae c.w nw b (.list (ac hs))) (hz:gs.length≤1000) (hy:hs.length≤1000) (hr:∀ D,R (.ref D) M ((D,.list (ac (gs++hs)))::nw)):Do c (.bin .Add) [.ref l,.ref b] M nw R:=wd hl hb (by rw [ao]; exact hz) (by rw [ao]; exact hy) fun D=>by rw [← gx]; exact hr D
end
end
section
set_option tactic.hygienic false
section
variable {c:Cx} {M:FM} {nw:Led} {rm:Nat} {k:Nat} {elt:IE} {t:IT} {ifs:List IE} {l:Addr} {R:Value→FM→Led→Prop}
theorem kh:∀ {l:List UInt8},ItR (l.map dI) (l.map fun c=>Value.int (c.toNat:Int) 0)
  | []=>.nil
  | _::_=>.cons (fun v _ hv=>by obtain ⟨t,rfl⟩:=hv; rfl) kh
theorem kR {i:Nat} {ba:Array UInt8} {tb:Tok} (J:List Value→List Value→Prop) (H:Cok c rm) (hsz:ba.toList.length≤1000) (hj:J (ba.toList.map fun c=>Value.int (c.toNat:Int) 0) []) (step:bg c rm k M nw J elt (.one i) ifs)
    (done:∀ acc,J [] acc→∀ D,R (.ref D) M ((D,.list acc)::nw)):DoC c k elt (.one i) ifs (.bytes ba tb) M nw R :=
  DoC.mk' H fun eltE tE itE ifsE scope pos cl ht v' s RR nwr m news hv e F N f hz fz e3 e2 hn hst hfin h0=>by
    obtain ⟨_,rfl⟩:=bL hv
    exact ll (fun _=>JO c scope.names nwr M J) H.hh e3 e2 (by cases ht; exact fun _ _=>rfl) F N hsz (h0 J _ _ kh hj) (hst [] "bytes_iterator" _ J (fun _ h=>nomatch h) step.h) (hfin J done)
theorem jh:∀ {l:List Str},ItR (l.map cq) (ac l)
  | []=>.nil
  | _::_=>.cons (fun v _ hv=>by obtain ⟨t,rfl⟩:=hv; rfl) jh
theorem ig {kws kvs:List (Str×Value)} (h:SimKV kws kvs):kws.map (·.1)=kvs.map (·.1):=by
  have:=congrArg (List.map (·.1)) h
  simpa [List.map_map,Function.comp_def] using this
theorem oQ {kvs:List (Str×Value)} (J:List Value→List Value→Prop) (H:Cok c rm) (lo:(l == sysModules)=false) (hl:ae c.w nw l (.dict kvs)) (hsz:kvs.length≤1000) (hj:J (ac (kvs.map (·.1))) []) (step:bg c rm k M nw J elt t ifs)
    (done:∀ acc,J [] acc→∀ D,R (.ref D) M ((D,.list acc)::nw)):DoC c k elt t ifs (.ref l) M nw R :=
  DoC.mk' H fun eltE tE itE ifsE scope pos cl ht v' s RR nwr m news hv e F N f hz fz e3 e2 hn hst hfin h0=>by
    cases aa hv
    refine E1 hl fun y q91=>A2 q91 fun hy1 hy2=>?_
    try clear hl
    clear q91
    refine E1 (f.ob _ hy1) fun o q92=>A2 q92 fun ho hi=>?_
    clear q92
    refine E1 (hy2 o hi) fun kws q93=>A2 q93 fun hs hd=>?_
    clear q93
    have e0:(kws.map fun p=>cq p.1)=(kvs.map (·.1)).map cq:=by rw [← ig hs,List.map_map]; rfl
    exact nJ (fun _=>JO c scope.names nwr M J) H.hh lo e3 e2 F N (Src.led ho) hd (by rw [hs.length]; exact hsz) (e0▸h0 J _ _ jh hj) (hst _ _ _ J (fun p hp=>by rw [mem_singleton.mp hp]; exact io hz fz N ho (mem_map_of_mem (f:=(·.1)) hy1)) step.h) (hfin J done)
end
noncomputable def GJ {α β:Type} (e:α→Value) (e':β→Value) (q:α→Bool) (g:α→β) (as:List α):List Value→List Value→Prop:=fun r acc=>∃ dn r',as=dn++r'∧r=r'.map e∧acc=((dn.filter q).map g).map e'
section
variable {α β:Type} {e:α→Value} {e':β→Value} {q:α→Bool} {g:α→β} {as:List α}
theorem GJ.start:GJ e e' q g as (as.map e) []:=⟨[],as,rfl,rfl,rfl⟩
theorem GJ.head {x:Value} {r acc:List Value} (h:GJ e e' q g as (x::r) acc):∃ a,a ∈ as∧x=e a∧(q a=true→GJ e e' q g as r (acc++[e' (g a)]))∧(q a=false→GJ e e' q g as r acc):=by
  refine E2 h fun dn r' q91=>A3 q91 fun e92 h1 e93=>?_
  try clear h
  clear q91
  first | subst e92 | cases e92
  first | subst e93 | cases e93
  cases r' with
  | nil=>cases h1
  | cons a r' =>
    cases h1
    refine ⟨a,mem_append_right _ (.head _),rfl,fun hq=>⟨dn++[a],r',by simp,rfl,?_⟩,fun hq=>⟨dn++[a],r',by simp,rfl,?_⟩⟩
    · rw [filter_append,map_append,map_append,filter_cons,hq]; rfl
    · rw [filter_append,filter_cons,hq]; simp
theorem GJ.done {acc:List Value} (h:GJ e e' q g as [] acc):acc=((as.filter q).map g).map e':=by
  refine E2 h fun dn r' q91=>A3 q91 fun e92 h1 e93=>?_
  try clear h
  clear q91
  first | subst e92 | cases e92
  first | subst e93 | cases e93
  cases r' with
  | cons a r'=>cases h1
  | nil=>rw [append_nil]
end
section
variable {α β:Type} {c:Cx} {M:FM} {nw:Led} {rm:Nat} {k i:Nat} {elt:IE} {t:IT} {ifs:List IE} {l:Addr} {R:Value→FM→Led→Prop}
theorem cK {as:List α} (e:α→Value) (e':β→Value) (q:α→Bool) (g:α→β) (H:Cok c rm) (hl:ae c.w nw l (.list (as.map e))) (hsz:as.length≤1000) (step:bg c rm k M nw (GJ e e' q g as) elt t ifs) (done:∀ D,R (.ref D) M ((D,.list (((as.filter q).map g).map e'))::nw)):DoC c k elt t ifs (.ref l) M nw R :=
  nu _ H hl (by rw [length_map]; exact hsz) GJ.start step fun acc h D=>h.done▸done D
theorem bp {as:List α} (e:α→Value) (e':β→Value) (g:α→β) (H:Cok c rm) (hl:ae c.w nw l (.list (as.map e))) (hsz:as.length≤1000) (step:bg c rm k M nw (GJ e e' (fun _=>true) g as) elt t ifs) (done:∀ D,R (.ref D) M ((D,.list ((as.map g).map e'))::nw)):DoC c k elt t ifs (.ref l) M nw R :=
  cK e e' _ g H hl hsz step fun D=>by rw [filter_eq_self.mpr fun _ _=>rfl]; exact done D
theorem kc {n:Nat} {rg:Addr} (e':β→Value) (g:Nat→β) (H:Cok c rm) (hl:ae c.w nw rg (.range 0 n)) (hsz:n≤1000) (step:bg c rm k M nw (GJ (fun i:Nat=>Value.int (i:Int) 0) e' (fun _=>true) g (List.range' 0 n)) elt (.one i) ifs) (done:∀ D,R (.ref D) M ((D,.list (((List.range' 0 n).map g).map e'))::nw)):DoC c k elt (.one i) ifs (.ref rg) M nw R :=
  kY _ H hl hsz GJ.start step fun acc h D=>by rw [h.done,filter_eq_self.mpr fun _ _=>rfl]; exact done D
theorem fb {ba:Array UInt8} {tb:Tok} (e':β→Value) (q:UInt8→Bool) (g:UInt8→β) (H:Cok c rm) (hsz:ba.toList.length≤1000) (step:bg c rm k M nw (GJ (fun c:UInt8=>Value.int (c.toNat:Int) 0) e' q g ba.toList) elt (.one i) ifs) (done:∀ D,R (.ref D) M ((D,.list (((ba.toList.filter q).map g).map e'))::nw)):DoC c k elt (.one i) ifs (.bytes ba tb) M nw R :=
  kR _ H hsz GJ.start step fun acc h D=>h.done▸done D
theorem jG {ba:Array UInt8} {tb:Tok} (e':β→Value) (g:UInt8→β) (H:Cok c rm) (hsz:ba.toList.length≤1000) (step:bg c rm k M nw (GJ (fun c:UInt8=>Value.int (c.toNat:Int) 0) e' (fun _=>true) g ba.toList) elt (.one i) ifs) (done:∀ D,R (.ref D) M ((D,.list ((ba.toList.map g).map e'))::nw)):DoC c k elt (.one i) ifs (.bytes ba tb) M nw R :=
  fb e' _ g H hsz step fun D=>by rw [filter_eq_self.mpr fun _ _=>rfl]; exact done D
theorem ky {kvs:List (Str×Value)} (e':β→Value) (q:Str→Bool) (g:Str→β) (H:Cok c rm) (lo:(l == sysModules)=false) (hl:ae c.w nw l (.dict kvs)) (hsz:kvs.length≤1000) (step:bg c rm k M nw (GJ (fun x:Str=>Value.str x 0) e' q g (kvs.map (·.1))) elt t ifs) (done:∀ D,R (.ref D) M ((D,.list ((((kvs.map (·.1)).filter q).map g).map e'))::nw)):DoC c k elt t ifs (.ref l) M nw R :=
  oQ _ H lo hl hsz GJ.start step fun acc h D=>h.done▸done D
end
theorem gG {α:Type} {n:Nat}:∀ {l:List α},l.length=n+1→∃ a t,l=a::t∧t.length=n
  | [],h=>nomatch h
  | a::t,h=>⟨a,t,rfl,Nat.succ.inj h⟩
theorem lnil {α:Type}:∀ {l:List α},l.length=0→l=[]
  | [],_=>rfl
theorem len2 {α:Type} {Mo:List α} (h:Mo.length=2):∃ o p,Mo=[o,p]:=by
  obtain ⟨a,t,rfl,h1⟩:=gG h
  obtain ⟨b,u,rfl,h2⟩:=gG h1
  exact ⟨a,b,by rw [lnil h2]⟩
theorem len4 {α:Type} {Mo:List α} (h:Mo.length=4):∃ o p q r,Mo=[o,p,q,r]:=by
  obtain ⟨a,t,rfl,h1⟩:=gG h
  clear h
  obtain ⟨b,u,rfl,h2⟩:=gG h1
  obtain ⟨c,d,rfl⟩:=len2 h2
  exact ⟨a,b,c,d,rfl⟩
theorem bg.of2 {α β:Type} {e:α→Value} {e':β→Value} {q:α→Bool} {g:α→β} {as:List α} {c:Cx} {M:FM} {nw:Led} {rm:Nat} {elt:IE} {t:IT} {ifs:List IE} (h:∀ c2,c2.w=c.w→Cok c2 rm→∀ nwr,dL c.w nw nwr→∀ n,n ∈ as→∀ r acc,(q n=true→GJ e e' q g as r (acc++[e' (g n)]))→(q n=false→GJ e e' q g as r acc)→∀ o1 o2,cW c2 t (e n) ([o1,o2]++M) nwr fun M2 nw2=>nH (wpT c2 39) ifs M2 nw2 fun b M2 nw2 =>
    bif b then wpE c2 39 elt M2 nw2 (fun v M' nw'=>ar c.w nw' nwr∧M'.drop 2=M∧GJ e e' q g as r (acc++[v])) else ar c.w nw2 nwr∧M2.drop 2=M∧GJ e e' q g as r acc):bg c rm 2 M nw (GJ e e' q g as) elt t ifs:=fun c2 hw H nwr hz x r acc hj Mo hMo=>by
  obtain ⟨o1,o2,rfl⟩:=len2 hMo
  obtain ⟨a,h1,rfl,h3,h4⟩:=hj.head
  exact h c2 hw H nwr hz a h1 r acc h3 h4 o1 o2
theorem bg.of4 {α β:Type} {e:α→Value} {e':β→Value} {q:α→Bool} {g:α→β} {as:List α} {c:Cx} {M:FM} {nw:Led} {rm:Nat} {elt:IE} {t:IT} {ifs:List IE} (h:∀ c2,c2.w=c.w→Cok c2 rm→∀ nwr,dL c.w nw nwr→∀ n,n ∈ as→∀ r acc,(q n=true→GJ e e' q g as r (acc++[e' (g n)]))→(q n=false→GJ e e' q g as r acc)→∀ o1 o2 o3 o4,cW c2 t (e n) ([o1,o2,o3,o4]++M) nwr fun M2 nw2=>nH (wpT c2 39) ifs M2 nw2 fun b M2 nw2 =>
    bif b then wpE c2 39 elt M2 nw2 (fun v M' nw'=>ar c.w nw' nwr∧M'.drop 4=M∧GJ e e' q g as r (acc++[v])) else ar c.w nw2 nwr∧M2.drop 4=M∧GJ e e' q g as r acc):bg c rm 4 M nw (GJ e e' q g as) elt t ifs:=fun c2 hw H nwr hz x r acc hj Mo hMo=>by
  obtain ⟨o1,o2,o3,o4,rfl⟩:=len4 hMo
  obtain ⟨a,h1,rfl,h3,h4⟩:=hj.head
  exact h c2 hw H nwr hz a h1 r acc h3 h4 o1 o2 o3 o4
theorem gj.of2 {α β:Type} {e:α→Value} {e':β→Value} {q:α→Bool} {g:α→β} {as:List α} {c:Cx} {M:FM} {nw:Led} {rm:Nat} {elt:IE} {t:IT} {ifs:List IE} (h:∀ c2,c2.w=c.w→c2.h₀=c.h₀→Cok c2 rm→∀ nwr,dL c.w nw nwr→∀ n,n ∈ as→∀ r acc,(q n=true→GJ e e' q g as r (acc++[e' (g n)]))→(q n=false→GJ e e' q g as r acc)→∀ o1 o2,cW c2 t (e n) ([o1,o2]++M) nwr fun M2 nw2=>nH (wpT c2 39) ifs M2 nw2 fun b M2 nw2 =>
    bif b then wpE c2 39 elt M2 nw2 (fun v M' nw'=>ar c.w nw' nwr∧M'.drop 2=M∧GJ e e' q g as r (acc++[v])) else ar c.w nw2 nwr∧M2.drop 2=M∧GJ e e' q g as r acc):gj c rm 2 M nw (GJ e e' q g as) elt t ifs:=fun c2 hw h0 H nwr hz x r acc hj Mo hMo=>by
  obtain ⟨o1,o2,rfl⟩:=len2 hMo
  obtain ⟨a,h1,rfl,h3,h4⟩:=hj.head
  exact h c2 hw h0 H nwr hz a h1 r acc h3 h4 o1 o2
theorem yf {w:World} {nw nw' own:Led} {p:Addr×aE} {R:Value→FM→Led→Prop} {v:Value} {M:FM} (h:ar w nw' own) (hr:R v M (p::nw)):∃ new,ar w (p::nw') (new++own)∧R v M (new++nw):=⟨[p],.keep h,hr⟩
theorem xO {w:World} {nw nw' own:Led} {R:Value→FM→Led→Prop} {v:Value} {M:FM} (h:ar w nw' own) (hr:R v M nw):∃ new,ar w nw' (new++own)∧R v M (new++nw):=⟨[],h,hr⟩
theorem mO {x y:Str} {n m:Nat} (hx:x.length≤n) (hy:y.length≤m):(x++y).length≤n+m:=by rw [Str.length_append]; exact Nat.add_le_add hx hy
theorem aK {c:Cx} {M:FM} {nw:Led} {R:Value→FM→Led→Prop} {x y:Str} {n m:Nat} (hx:x.length≤n) (hy:y.length≤m) (hz:Nat.ble (n+m) 10000=true) (hr:R (.str (x++y) 0) M nw):Do c (.bin .Add) [.str x 0,.str y 0] M nw R :=
  lj (Nat.le_trans (Nat.add_le_add hx hy) (Nat.le_of_ble_eq_true hz)) hr
theorem aI {x:Str} {n:Nat} (h:Nat.ble x.length n=true):x.length≤n:=Nat.le_of_ble_eq_true h
end
section
set_option tactic.hygienic false
noncomputable def dG (w:World) (nw:Led) (a:Addr) (x:aE):Prop:=∃ o,(a,.raw o) ∈ nw∧x.Is w o
theorem dG.sees {w:World} {nw:Led} {a:Addr} {x:aE} (h:dG w nw a x):ae w nw a x:=by
  refine E1 h fun o q91=>A2 q91 fun h1 h2=>?_
  try clear h
  clear q91
  exact ⟨_,h1,fun o' e=>e▸h2⟩
theorem dG.tail {w:World} {nw:Led} {a:Addr} {x:aE} {p:Addr×aE} (h:dG w nw a x):dG w (p::nw) a x:=by
  refine E1 h fun o q91=>A2 q91 fun h1 h2=>?_
  try clear h
  clear q91
  exact ⟨o,.tail _ h1,h2⟩
theorem dL.seesR {w:World} {nw nr:Led} (h:dL w nw nr) {a:Addr} {x:aE} (hm:ae w nw a x):dG w nr a x:=by
  refine E1 hm fun y q91=>A2 q91 fun h1 h2=>?_
  try clear hm
  clear q91
  induction h with
  | nil=>cases h1
  | cons hx h ih =>
    rcases mem_cons.mp h1 with e | h1
    · cases e; exact ⟨_,.head _,h2 _ hx⟩
    · exact (ih h1).tail
theorem ar.pre {w:World} {nw nw2:Led} (h:ar w nw nw2):∀ l:Led,ar w (l++nw) (l++nw2)
  | []=>h
  | _::l=>.keep (ar.pre h l)
section
variable {c:Cx} {M:FM} {nw:Led} {rm:Nat}
theorem Do.freeze {op:Op} {vs:List Value} {R:Value→FM→Led→Prop} (h:∀ nwr,dL c.w nw nwr→Do c op vs M nwr R):Do c op vs M nw R:=Do.mk fun vs' t hs ht s Q S post=>by
  obtain ⟨e,m,news,F,N,f⟩:=S
  obtain ⟨nwr,hz,fz⟩:=gi f
  exact (h nwr hz).tr hs ht s Q ⟨e,m,news,F,N,fz⟩ post
theorem Do.weakR {op:Op} {vs:List Value} {R:Value→FM→Led→Prop} (h:Do c op vs M nw fun v M n=>∃ n2,ar c.w n n2∧R v M n2):Do c op vs M nw R:=Do.mk fun vs' t hs ht s Q S post =>
  h.tr hs ht s Q S fun v' v M' n' s' hv S' ⟨n2,hw,hr⟩=>post v' v M' n2 s' hv (S'.weak hw) hr
variable {name qual:Str} {params:Arguments} {body:List Stmt} {scope:Scope} {dV kV doc pm cdv ct oc:Value} {an od:Option Addr} {osl:Array (Option Value)} {f:Addr}
theorem bI {args:List Value} {xs:List Str} {M₀:FM} {ir:List IS} {k:Nat} {R:Value→FM→Led→Prop} (H:Cok c (rm+1))
    (ho:∀ w:World,RowW.prog (OpenRow.toRowW (OpenLaw.row Challenge.rw_il0094_01))=PG→(hd.heap_39 w.params).lookup f=some ⟨oc,od,.func (fnOf name qual params body scope dV kV doc pm an cdv ct),osl⟩) (hcd:∀ w:World,RowW.prog (OpenRow.toRowW (OpenLaw.row Challenge.rw_il0094_01))=PG→codeIn (hd.heap_39 w.params) cdv qual=true)
    (hbind:∀ s vs',aD vs' args→BindsTo s (fnOf name qual params body scope dV kV doc pm an cdv ct) ⟨vs',[]⟩ (xs.zip vs'))
    (hkind:∀ x ∈ xs,scope.names.lookup x=some .local∨scope.names.lookup x=some .cell) (hnd:bw scope.names=true)
    (hM:dg (af scope.names) (xs.zip args)=M₀) (hB:CB ⟨scope.names,af scope.names⟩ body ir)
    (hco:scope.isCoroutine=false) (hgen:scope.isGenerator=false) (hk:scope.kind = .function)
    (h:∀ c' nwr,c'.sc=⟨scope.names,af scope.names⟩→c'.w=c.w→Cok c' rm→(∀ a x,ae c.w nw a x→dG c'.w nwr a x)→wpS c' k ir M₀ nwr fun fl _ nw'=>∃ new,ar c.w nw' (new++nwr)∧R (ko fl) M (new++nw)) :
    Do c .call (.ref f::args) M nw R :=
  Do.freeze fun nwr hz=>Do.weakR <| aG (R:=fun v M n=>∃ n2,ar c.w n n2∧R v M n2) (own:=nwr) H ho hcd hbind hkind hnd hM hB hco hgen hk (List.Sublist.refl _)
    (P:=fun fl nw'=>∃ new,ar c.w nw' (new++nwr)∧R (ko fl) M (new++nw))
    (fun fl nw' h1 h2 h3 ⟨new,hw,hr⟩=>bh (R:=fun v M n=>∃ n2,ar c.w n n2∧R v M n2) (List.Sublist.refl _) fl nw' h1 h2 h3 ⟨new,hw,new++nw,hz.weak.pre new,hr⟩)
    fun c' e1 e2 e3=>h c' nwr e1 e2 e3 fun a x hs=>e2▸hz.seesR hs
variable {σ:Type} {Ms:σ→FM} {R:Flow→FM→Led→Prop} {b:List IS} {k:Nat} {t:IT} {l:Addr}
theorem pw {xs:List Value} (Ns:σ→Led) (P:List Value→σ→Prop) (s₀:σ) (H:Cok c rm) {o:Obj} (hx:(aE.list xs).Is c.w o) (hk:∀ s,(l,.raw o) ∈ Ns s) (hM:M=Ms s₀) (hn:nw=Ns s₀) (hp:P xs s₀)
    (step:∀ c',c'.sc=c.sc→c'.w=c.w→Cok c' rm→∀ x r s,P (x::r) s→cW c' t x (Ms s) (Ns s) fun M nw=>wpS c' k b M nw (LR c.w (SJ Ms Ns P) R r)) (done:∀ s,P [] s→R .next (Ms s) (Ns s)):DoF c t (.ref l) b M nw R:=by
  exact ma (k:=k) (SJ Ms Ns P) H hx (fun r M nw ⟨s,e1,e2,_⟩=>by subst e2; exact hk s) ⟨s₀,hM,hn,hp⟩ (fun c' h1 h2 h3 x r M nw ⟨s,e1,e2,hp⟩=>by subst e1 e2; exact step c' h1 h2 h3 x r s hp) fun M nw ⟨s,e1,e2,hp⟩=>⟨_,.refl _,by subst e1 e2; exact done s hp⟩
theorem jq {j:Nat} {kvs:List (Str×Value)} (Ns:σ→Led) (P:List Str→σ→Prop) (s₀:σ) (H:Cok c rm) (hds:(l == sysModules)=false) {o:Obj} (hx:(aE.dict kvs).Is c.w o) (hk:∀ s,(l,.raw o) ∈ Ns s) (hM:M=Ms s₀) (hn:nw=Ns s₀) (hp:P (kvs.map (·.1)) s₀)
    (step:∀ c',c'.sc=c.sc→c'.w=c.w→Cok c' rm→∀ x r s,P (x::r) s→wpS c' k b ((Ms s).set j (some (.str x 0))) (Ns s) (LR c.w (SJ Ms Ns P) R r)) (done:∀ s,P [] s→R .next (Ms s) (Ns s)):DoF c (.one j) (.ref l) b M nw R:=by
  exact tJ (k:=k) (SJ Ms Ns P) H hds hx (fun r M nw ⟨s,e1,e2,_⟩=>by subst e2; exact hk s) ⟨s₀,hM,hn,hp⟩ (fun c' h1 h2 h3 x r M nw ⟨s,e1,e2,hp⟩=>by subst e1 e2; exact step c' h1 h2 h3 x r s hp) fun M nw ⟨s,e1,e2,hp⟩=>⟨_,.refl _,by subst e1 e2; exact done s hp⟩
end
section
variable {c:Cx} {M:FM} {nw:Led} {R:Value→FM→Led→Prop} {l:Addr}
theorem gO {x:Str} {k:Int} {t:Tok} (h0:0≤k) (h1:k < x.length) (hz:x.length≤10000) (hr:R (.str (Txt.item x k) 0) M nw):Do c .sub [.str x 0,.int k t] M nw R:=Do.sub fun o' v' sl vl h2 h3 s Q S post=>by
  obtain ⟨_,rfl⟩:=aq h2; obtain ⟨_,rfl⟩:=ah h3
  obtain ⟨T,id,hl,hT,hg⟩:=SBL.item (prog:=PG) (w:=c.w) (A:=c.A) (E:=c.E) (s:=s) (Q:=Q) (x:=x) (by (clear hz; omega)) h1 (by omega) fun _=>post _ (.str _ 0) _ _ _ rfl (S.tok _) hr
  exact fL hT hl hg
theorem gr {ns:List Int}:(bM ns).length=ns.length:=length_map _
theorem cG {ns:List Int} {k:Int} {t:Tok} (hl:ae c.w nw l (.list (bM ns))) (h0:0≤k) (h1:k < ns.length) (hz:ns.length≤1000) (hr:R (.int (ns.getD k.toNat 0) 0) M nw):Do c .sub [.ref l,.int k t] M nw R :=
  kU hl h0 (by omega) (by unfold bM; rw [List.getElem?_map,List.getElem?_eq_getElem (by (clear hz; omega)),getD_eq_getElem?_getD,List.getElem?_eq_getElem (by (clear hz; omega))]; rfl) hr
end
theorem qn {l:List Str} {i n:Nat} (h:(l.all fun x=>Nat.ble x.length n)=true):(l.getD i "").length≤n:=by
  rw [getD_eq_getElem?_getD]
  cases q:l[i]? with
  | none=>exact Nat.zero_le _
  | some x=>exact Nat.le_of_ble_eq_true (all_eq_true.mp h x (mem_of_getElem? q))
end
section
set_option tactic.hygienic false
noncomputable abbrev Gs:=Addr→aE→Prop
noncomputable def xN (a:Ask):aE:=.tup [.str a.goal 0,.int a.sign 0,.str a.text 0]
noncomputable def ww (G:Gs) (v:Value) (r:Row):Prop:=∃ T l,∃ zs:List (Addr×Ask),v = .ref T∧G T (.tup [.int r.own 0,.ref l])∧G l (.list (zs.map fun z=>.ref z.1))∧r.asks=zs.map (·.2)∧∀ z ∈ zs,G z.1 (xN z.2)
noncomputable abbrev Ks:=List (Str×Value×Row)
noncomputable def Ks.kvs (ks:Ks):List (Str×Value):=ks.map fun k=>(k.1,k.2.1)
noncomputable def Ks.book (ks:Ks):al:=ks.map fun k=>(k.1,k.2.2)
noncomputable def ez (G:Gs) (ks:Ks):Prop:=∀ k ∈ ks,ww G k.2.1 k.2.2
structure iw (G:Gs) (D:Addr) (b:al):Prop where
  lo:(D == sysModules)=false
  ex:∃ ks:Ks,G D (.dict ks.kvs)∧ks.book=b∧ez G ks
theorem ww.mono {G G':Gs} (h:∀ a x,G a x→G' a x) {v:Value} {r:Row}:ww G v r→ww G' v r
  | ⟨T,l,zs,e,a,b,c,d⟩=>⟨T,l,zs,e,h _ _ a,h _ _ b,c,fun z hz=>h _ _ (d z hz)⟩
theorem ez.mono {G G':Gs} (h:∀ a x,G a x→G' a x) {ks:Ks} (k:ez G ks):ez G' ks:=fun p hp=>(k p hp).mono h
theorem iw.mono {G G':Gs} (h:∀ a x,G a x→G' a x) {D:Addr} {b:al} (k:iw G D b):iw G' D b:=⟨k.lo,by
  refine E1 k.ex fun ks q91=>A3 q91 fun a b c=>?_
  clear q91
  exact ⟨ks,h _ _ a,b,c.mono h⟩⟩
theorem Ks.keys (ks:Ks):ks.kvs.map (·.1)=ks.book.map (·.1):=by unfold Ks.kvs Ks.book; rw [List.map_map,List.map_map]; rfl
theorem Ks.len (ks:Ks):ks.kvs.length=ks.book.length:=by unfold Ks.kvs Ks.book; rw [length_map,length_map]
theorem Ks.at {G:Gs} {ks:Ks} (h:ez G ks) (x:Str):(∃ r v,al.at ks.book x=some r∧valueAt ks.kvs x=some v∧ww G v r)∨(al.at ks.book x=none∧valueAt ks.kvs x=none):=by
  unfold al.at valueAt Ks.book Ks.kvs
  rw [find?_map,find?_map]
  show (∃ r v,(Option.map _ (List.find? (fun k:Str×Value×Row=>decide (k.1=x)) ks)).map _=some r∧(Option.map _ (List.find? (fun k:Str×Value×Row=>decide (k.1=x)) ks)).map _=some v∧_)∨((Option.map _ (List.find? (fun k:Str×Value×Row=>decide (k.1=x)) ks)).map _=none∧(Option.map _ (List.find? (fun k:Str×Value×Row=>decide (k.1=x)) ks)).map _=none)
  cases q:List.find? (fun k:Str×Value×Row=>decide (k.1=x)) ks with
  | none=>exact .inr ⟨rfl,rfl⟩
  | some k=>exact .inl ⟨k.2.2,k.2.1,rfl,rfl,h k (mem_of_find?_eq_some q)⟩
theorem Ks.snoc (ks:Ks) (k:Str) (v:Value) (r:Row):Ks.kvs (ks++[(k,v,r)])=ks.kvs++[(k,v)]∧Ks.book (ks++[(k,v,r)])=ks.book++[(k,r)]:=⟨map_append,map_append⟩
theorem ez.snoc {G:Gs} {ks:Ks} (h:ez G ks) {k:Str} {v:Value} {r:Row} (hr:ww G v r):ez G (ks++[(k,v,r)]):=fun p hp=>by
  rcases mem_append.mp hp with hp | hp
  · exact h p hp
  · rw [mem_singleton.mp hp]; exact hr
theorem ae.app {w:World} {nw l:Led} {a:Addr} {x:aE} (h:ae w nw a x):ae w (nw++l) a x:=by
  refine E1 h fun y q91=>A2 q91 fun h1 h2=>?_
  try clear h
  clear q91
  exact ⟨y,mem_append_left _ h1,h2⟩
theorem ae.pre {w:World} {nw:Led} {a:Addr} {x:aE} (h:ae w nw a x) (l:Led):ae w (l++nw) a x:=by
  refine E1 h fun y q91=>A2 q91 fun h1 h2=>?_
  try clear h
  clear q91
  exact ⟨y,mem_append_right _ h1,h2⟩
section
variable {c:Cx} {M:FM} {t:IT} {b:List IS} {R:Flow→FM→Led→Prop} {v:Value}
theorem DoF.freezeM {front mid back:Led} (h:∀ mid',dL c.w mid mid'→DoF c t v b M (front++(mid'++back)) R):DoF c t v b M (front++(mid++back)) R:=DoF.mk fun target body v' s Q ht hb hv S post=>by
  obtain ⟨e,m,news,F,N,f⟩:=id S
  have f1:ce c M mid m news:=f.mono (fun _ h _=>h) (fun p hp=>f.ob p (mem_append_right _ (mem_append_left _ hp))) (f.nd.sublist (((((sublist_append_left _ _).trans (sublist_append_right _ _)).map _)).append_right _))
  refine E1 (gi f1) fun mid' q91=>A2 q91 fun hz fz=>?_
  clear q91
  refine (h mid' hz).tr ht hb hv ⟨e,m,news,F,N,f.mono (fun _ h _=>h) (fun p hp=>?_) ?_⟩ post
  · rcases mem_append.mp hp with hp | hp
    · exact f.ob p (mem_append_left _ hp)
    · rcases mem_append.mp hp with hp | hp
      · exact fz.ob p hp
      · exact f.ob p (mem_append_right _ (mem_append_right _ hp))
  · have:=f.nd
    rw [map_append,map_append] at this ⊢
    rw [hz.keys]; exact this
end
theorem ar.swap {w:World} (a b r:Led):ar w (a++(b++r)) (b++(a++r)):=.perm (by rw [← append_assoc,← append_assoc]; exact List.perm_append_comm.append_right _)
theorem dv {c:Cx} {M:FM} {nw:Led} {R:Value→FM→Led→Prop} {d:Addr} {kvs kvs':List (Str×Value)} {i:Nat} {x:Str} {t:Tok} {v:Value} (hi:nw[i]? = some (d,.dict kvs)) (hz:kvs.length≤1000) (he:stored kvs x v=kvs') (hr:R .none M (nw.set i (d,.dict kvs'))):Do c .setI [.ref d,.str x t,v] M nw R:=vS hi hz (he▸hr)
section
variable {α σ:Type} {c:Cx} {M:FM} {nw:Led} {rm:Nat} {Ms:σ→FM} {R:Flow→FM→Led→Prop} {b:List IS} {k:Nat} {t:IT} {l:Addr}
theorem LR.pair {w:World} {e:α→Value} {Ns:σ→Led} {P:List α→σ→Prop} {r:List α} (s:σ) (hw:ar w nw (Ns s)) (hp:P r s) (hM:M=Ms s):∃ nw2,ar w nw nw2∧SJ Ms Ns (fun r s=>∃ ra:List α,r=ra.map e∧P ra s) (r.map e) M nw2:=⟨_,hw,s,hM,rfl,r,rfl,hp⟩
theorem ee {as:List α} (e:α→Value) (Ns:σ→Led) (P:List α→σ→Prop) (s₀:σ) (H:Cok c rm) {o:Obj} (hx:(aE.list (as.map e)).Is c.w o) (hk:∀ s,(l,.raw o) ∈ Ns s) (hM:M=Ms s₀) (hn:nw=Ns s₀) (hp:P as s₀)
    (step:∀ c',c'.sc=c.sc→c'.w=c.w→Cok c' rm→∀ a r s,P (a::r) s→cW c' t (e a) (Ms s) (Ns s) fun M nw=>wpS c' k b M nw (LR c.w (SJ Ms Ns fun r s=>∃ ra:List α,r=ra.map e∧P ra s) R (r.map e))) (done:∀ s,P [] s→R .next (Ms s) (Ns s)):DoF c t (.ref l) b M nw R :=
  pw (k:=k) Ns (fun r s=>∃ ra:List α,r=ra.map e∧P ra s) s₀ H hx hk hM hn ⟨as,rfl,hp⟩ (fun c' h1 h2 h3 x r s ⟨ra,er,hp⟩=>by
    cases ra with
    | nil=>cases er
    | cons a ra=>cases er; exact step c' h1 h2 h3 a ra s hp) fun s ⟨ra,er,hp⟩=>by
    cases ra with
    | cons a ra=>cases er
    | nil=>exact done s hp
end
structure RP where
  row:Row
  T:Addr
  l:Addr
  zs:List (Addr×Ask)
structure RP.Ok (G:Gs) (ks:Ks) (x:Str) (p:RP):Prop where
  at_:ks.book.at x=some p.row
  va:valueAt ks.kvs x=some (.ref p.T)
  tup:G p.T (.tup [.int p.row.own 0,.ref p.l])
  lst:G p.l (.list (p.zs.map fun z=>.ref z.1))
  asks:p.row.asks=p.zs.map (·.2)
  each:∀ z ∈ p.zs,G z.1 (xN z.2)
theorem Ks.row {G:Gs} {ks:Ks} (h:ez G ks) {x:Str} (hx:(ks.book.at x).isSome=true):∃ p:RP,p.Ok G ks x:=by
  obtain ⟨row',v',e1,hv,T,l,zs,rfl,hT,hl',has,hzs⟩ | ⟨e1,_⟩:=Ks.at h x
  · exact ⟨⟨row',T,l,zs⟩,e1,hv,hT,hl',has,hzs⟩
  · rw [e1] at hx; cases hx
theorem Ks.has {G:Gs} {ks:Ks} (h:ez G ks) (x:Str):(valueAt ks.kvs x).isSome=(ks.book.at x).isSome:=by
  obtain ⟨row',v',e1,hv,_⟩ | ⟨e1,e2⟩:=Ks.at h x
  · rw [e1,hv]; rfl
  · rw [e1,e2]; rfl
theorem da {α:Type} {o:Option α} (h:(!o.isSome)=true):o=none:=by cases o <;> first | rfl | cases h
theorem iM {α:Type} {o:Option α} (h:(!o.isSome)=false):o.isSome=true:=by cases o <;> first | rfl | cases h
end
section
set_option tactic.hygienic false
noncomputable abbrev wY (w:World) (k1 k2 k3 k4:Tok) (n2i:Addr) (rd:Value) (po:Int) (tp:Tok) (nf:Int) (tf:Tok):Obj:=dictOf [⟨PyData.keyHash w.params "_node2info",.str "_node2info" k1,.ref n2i⟩,⟨PyData.keyHash w.params "_ready_nodes",.str "_ready_nodes" k2,rd⟩,⟨PyData.keyHash w.params "_npassedout",.str "_npassedout" k3,.int po tp⟩,⟨PyData.keyHash w.params "_nfinished",.str "_nfinished" k4,.int nf tf⟩] 4
noncomputable def dw:List Str:=["_node2info", "_ready_nodes", "_npassedout", "_nfinished"]
noncomputable def FA (w:World) (x:Str):Prop:=PG=(RowW.prog (OpenRow.toRowW (OpenLaw.row Challenge.rw_il0094_01)))→plainGet (hd.heap_39 w.params) 144 x=true∧findIn (hd.heap_39 w.params) (.ref 144) x=some none
theorem fa_ok (w:World):∀ x ∈ dw,FA w x:=by
  unfold dw
  repeat' (first | exact forall_mem_nil _ | refine co ?_ ?_)
  all_goals (unfold FA; k_fill; intro _; refine ⟨?_,?_⟩ <;> k_is)
noncomputable def FD (w:World):Prop:=PG=(RowW.prog (OpenRow.toRowW (OpenLaw.row Challenge.rw_il0094_01)))→hasDictIn (hd.heap_39 w.params) 144=true∧plainOver (hd.heap_39 w.params) 144=true∧findIn (hd.heap_39 w.params) (.ref 144) "__setattr__" = some (some (.builtin "object.__setattr__"))
theorem nE (w:World):FD w:=by
  unfold FD; k_fill; intro _; refine ⟨?_,?_,?_⟩ <;> k_is
noncomputable def FT (w:World) (x:Str):Prop:=PG=(RowW.prog (OpenRow.toRowW (OpenLaw.row Challenge.rw_il0094_01)))→takerIn (hd.heap_39 w.params) 144 x=some none
theorem sO (w:World):∀ x ∈ dw,FT w x:=by
  unfold dw
  repeat' (first | exact forall_mem_nil _ | refine co ?_ ?_)
  all_goals (unfold FT; k_fill; intro _; k_is)
noncomputable def sdV (w:World) (n2i:Addr) (rd:Value) (po nf:Int):aE:=.obj fun o=>∃ k1 k2 k3 k4 tp tf,o=wY w k1 k2 k3 k4 n2i rd po tp nf tf
section
variable {c:Cx} {M:FM} {nw:Led} {rm:Nat} {R:Value→FM→Led→Prop} {S SD n2i:Addr} {rd:Value} {po nf:Int}
theorem xU {s:Shared} (S':St c M nw s) (h1:ae c.w nw S (.raw (instObj 144 SD))) (h2:ae c.w nw SD (sdV c.w n2i rd po nf)):∃ m news k1 k2 k3 k4 tp tf,Fr c.h₀ c.L s.heap m∧News c.h₀ c.L s.heap news∧(S,instObj 144 SD) ∈ news∧(SD,wY c.w k1 k2 k3 k4 n2i rd po tp nf tf) ∈ news:=by
  refine E2 S'.news fun m news q91=>A3 q91 fun F N f=>?_
  clear q91
  refine E1 h1 fun y1 q92=>A2 q92 fun a1 a2=>?_
  try clear h1
  clear q92
  refine E1 (f.ob _ a1) fun o1 q93=>A2 q93 fun b1 b2=>?_
  clear q93
  have e1:o1=instObj 144 SD:=a2 o1 b2
  subst e1
  refine E1 h2 fun y2 q94=>A2 q94 fun a3 a4=>?_
  try clear h2
  clear q94
  refine E1 (f.ob _ a3) fun o2 q95=>A2 q95 fun b3 b4=>?_
  clear q95
  refine E6 (a4 o2 b4) fun k1 k2 k3 k4 tp tf e96=>?_
  first | subst e96 | cases e96
  exact ⟨m,news,k1,k2,k3,k4,tp,tf,F,N,b1,b3⟩
theorem gv {x:Str} {v:Value} (hx:x ∈ dw) (hv:∀ v',Sim v' v→handedIn v'=true) (hg:∀ k1 k2 k3 k4 tp tf,∃ v',Sim v' v∧getL x [⟨PyData.keyHash c.w.params "_node2info",.str "_node2info" k1,.ref n2i⟩,⟨PyData.keyHash c.w.params "_ready_nodes",.str "_ready_nodes" k2,rd⟩,⟨PyData.keyHash c.w.params "_npassedout",.str "_npassedout" k3,.int po tp⟩,⟨PyData.keyHash c.w.params "_nfinished",.str "_nfinished" k4,.int nf tf⟩]=some (some v')) (H:Cok c rm) (h1:ae c.w nw S (.raw (instObj 144 SD))) (h2:ae c.w nw SD (sdV c.w n2i rd po nf)) (hr:R v M nw):Do c (.getA x) [.ref S] M nw R:=Do.mk1 fun u t hu ht s Q S' post=>by
  cases aa hu
  obtain ⟨_,rfl⟩:=ht
  refine E8 (xU S' h1 h2) fun m news k1 k2 k3 k4 tp tf q91=>A4 q91 fun F N b1 b2=>?_
  clear q91
  refine E1 (hg k1 k2 k3 k4 tp tf) fun v' q92=>A2 q92 fun hs e=>?_
  clear q92
  obtain ⟨f1,f2⟩:=fa_ok c.w x hx rfl
  exact get_own F H.K (InstAt.of_news N b1 b2) f1 (nE c.w rfl).1 f2 rfl e (hv _ hs) (post _ v _ _ _ hs (S'.tok _) hr)
theorem cP (H:Cok c rm) (h1:ae c.w nw S (.raw (instObj 144 SD))) (h2:ae c.w nw SD (sdV c.w n2i rd po nf)) (hr:R (.ref n2i) M nw):Do c (.getA "_node2info") [.ref S] M nw R :=
  gv (by decide +kernel) (fun v' h=>by cases aa h; rfl) (fun _ _ _ _ _ _=>⟨_,rfl,rfl⟩) H h1 h2 hr
theorem br {RN:Addr} (H:Cok c rm) (h1:ae c.w nw S (.raw (instObj 144 SD))) (h2:ae c.w nw SD (sdV c.w n2i (.ref RN) po nf)) (hr:R (.ref RN) M nw):Do c (.getA "_ready_nodes") [.ref S] M nw R :=
  gv (by decide +kernel) (fun v' h=>by cases aa h; rfl) (fun _ _ _ _ _ _=>⟨_,rfl,rfl⟩) H h1 h2 hr
theorem fQ (H:Cok c rm) (h1:ae c.w nw S (.raw (instObj 144 SD))) (h2:ae c.w nw SD (sdV c.w n2i .none po nf)) (hr:R .none M nw):Do c (.getA "_ready_nodes") [.ref S] M nw R :=
  gv (by decide +kernel) (fun v' h=>by cases aH h; rfl) (fun _ _ _ _ _ _=>⟨_,rfl,rfl⟩) H h1 h2 hr
theorem pQ (H:Cok c rm) (h1:ae c.w nw S (.raw (instObj 144 SD))) (h2:ae c.w nw SD (sdV c.w n2i rd po nf)) (hr:R (.int po 0) M nw):Do c (.getA "_npassedout") [.ref S] M nw R :=
  gv (v:=.int po 0) (by decide +kernel) (fun v' h=>by obtain ⟨_,rfl⟩:=ah h; rfl) (fun _ _ _ _ tp _=>⟨.int po tp,rfl,rfl⟩) H h1 h2 hr
theorem re (H:Cok c rm) (h1:ae c.w nw S (.raw (instObj 144 SD))) (h2:ae c.w nw SD (sdV c.w n2i rd po nf)) (hr:R (.int nf 0) M nw):Do c (.getA "_nfinished") [.ref S] M nw R :=
  gv (v:=.int nf 0) (by decide +kernel) (fun v' h=>by obtain ⟨_,rfl⟩:=ah h; rfl) (fun _ _ _ _ _ tf=>⟨.int nf tf,rfl,rfl⟩) H h1 h2 hr
theorem pY {i:Nat} {rd':Value} (H:Cok c rm) (h1:ae c.w nw S (.raw (instObj 144 SD))) (hi:nw[i]? = some (SD,sdV c.w n2i rd po nf)) (hv:∀ v',Sim v' rd'→v'=rd') (hr:R .none M (nw.set i (SD,sdV c.w n2i rd' po nf))):Do c (.setA "_ready_nodes") [.ref S,rd'] M nw R:=Do.mk2 fun u v t hu hw ht s Q S' post=>by
  cases aa hu
  cases hv _ hw
  cases (show _=_ from ht)
  refine E3 (S'.at hi) fun m o rest q91=>A5 q91 fun F q92 N hne k=>?_
  clear q91
  refine E6 q92 fun k1 k2 k3 k4 tp tf e93=>?_
  try clear q92
  first | subst e93 | cases e93
  refine E1 (S'.sees h1) fun oS q94=>A2 q94 fun e1 e2=>?_
  clear q94
  have e3:oS=instObj 144 SD:=e1
  subst e3
  refine A3 (nE c.w rfl) fun f1 f2 f3=>?_
  exact wpAny_bind (set_dict F H.K N ⟨e2,rfl,rfl,(N _ (.head _)).1⟩ rfl f3 f2 (sO c.w _ (by decide +kernel) rfl) f1 rfl rfl (.head hne) (Nat.le_of_ble_eq_true rfl) fun h' F' N'=>wpAny_pure (post _ .none _ _ _ rfl (k (sdV c.w n2i rd' po nf) _ h' _ F' N' ⟨k1,k2,k3,k4,tp,tf,rfl⟩) hr))
theorem wD {i:Nat} {n:Int} {t0:Tok} (H:Cok c rm) (h1:ae c.w nw S (.raw (instObj 144 SD))) (hi:nw[i]? = some (SD,sdV c.w n2i rd po nf)) (hr:R .none M (nw.set i (SD,sdV c.w n2i rd n nf))):Do c (.setA "_npassedout") [.ref S,.int n t0] M nw R:=Do.mk2 fun u v t hu hw ht s Q S' post=>by
  cases aa hu
  obtain ⟨tq,rfl⟩:=ah hw
  cases (show _=_ from ht)
  refine E3 (S'.at hi) fun m o rest q91=>A5 q91 fun F q92 N hne k=>?_
  clear q91
  refine E6 q92 fun k1 k2 k3 k4 tp tf e93=>?_
  try clear q92
  first | subst e93 | cases e93
  refine E1 (S'.sees h1) fun oS q94=>A2 q94 fun e1 e2=>?_
  clear q94
  have e3:oS=instObj 144 SD:=e1
  subst e3
  refine A3 (nE c.w rfl) fun f1 f2 f3=>?_
  exact wpAny_bind (set_dict F H.K N ⟨e2,rfl,rfl,(N _ (.head _)).1⟩ rfl f3 f2 (sO c.w _ (by decide +kernel) rfl) f1 rfl rfl (.head hne) (Nat.le_of_ble_eq_true rfl) fun h' F' N'=>wpAny_pure (post _ .none _ _ _ rfl (k (sdV c.w n2i rd n nf) _ h' _ F' N' ⟨k1,k2,k3,k4,tq,tf,rfl⟩) hr))
theorem xE {i:Nat} {n:Int} {t0:Tok} (H:Cok c rm) (h1:ae c.w nw S (.raw (instObj 144 SD))) (hi:nw[i]? = some (SD,sdV c.w n2i rd po nf)) (hr:R .none M (nw.set i (SD,sdV c.w n2i rd po n))):Do c (.setA "_nfinished") [.ref S,.int n t0] M nw R:=Do.mk2 fun u v t hu hw ht s Q S' post=>by
  cases aa hu
  obtain ⟨tq,rfl⟩:=ah hw
  cases (show _=_ from ht)
  refine E3 (S'.at hi) fun m o rest q91=>A5 q91 fun F q92 N hne k=>?_
  clear q91
  refine E6 q92 fun k1 k2 k3 k4 tp tf e93=>?_
  try clear q92
  first | subst e93 | cases e93
  refine E1 (S'.sees h1) fun oS q94=>A2 q94 fun e1 e2=>?_
  clear q94
  have e3:oS=instObj 144 SD:=e1
  subst e3
  refine A3 (nE c.w rfl) fun f1 f2 f3=>?_
  exact wpAny_bind (set_dict F H.K N ⟨e2,rfl,rfl,(N _ (.head _)).1⟩ rfl f3 f2 (sO c.w _ (by decide +kernel) rfl) f1 rfl rfl (.head hne) (Nat.le_of_ble_eq_true rfl) fun h' F' N'=>wpAny_pure (post _ .none _ _ _ rfl (k (sdV c.w n2i rd po n) _ h' _ F' N' ⟨k1,k2,k3,k4,tp,tq,rfl⟩) hr))
end
end
section
set_option tactic.hygienic false
noncomputable def pU:List (Str×Addr×Nat):=[("node",48,0),("npredecessors",49,1),("successors",50,2)]
structure FSl (K:Frag) (x:Str) (p:Addr) (i:Nat):Prop where
  pg:plainGet K 47 x=true
  fi:findIn K (.ref 47) x=some (some (.ref p))
  sg:specialIn K (.ref p) "__get__" = some (some (.builtin "member_descriptor.__get__"))
  tk:takesIn K (.ref p)=some true
  sl:slotIn K p 47=some i
  tr:takerIn K 47 x=some (some (.ref p))
  ty:typeIn K (.ref p)=some (.type "member_descriptor")
noncomputable def FSlW (w:World) (q:Str×Addr×Nat):Prop:=PG=(RowW.prog (OpenRow.toRowW (OpenLaw.row Challenge.rw_il0094_01)))→FSl (hd.heap_39 w.params) q.1 q.2.1 q.2.2
theorem ue (w:World):∀ q ∈ pU,FSlW w q:=by
  unfold pU
  repeat' (first | exact forall_mem_nil _ | refine co ?_ ?_)
  all_goals (unfold FSlW; dsimp only; k_fill; intro _; refine ⟨?_,?_,?_,?_,?_,?_,?_⟩ <;> k_is)
structure FC (K:Frag) (C fI:Addr):Prop where
  cls:isClsIn K C=true
  sa:findIn K (.ref C) "__setattr__" = some (some (.builtin "object.__setattr__"))
  po:plainOver K C=true
  mks:makesIn K C=true
  ini:findIn K (.ref C) "__init__" = some (some (.ref fI))
  fn:isFn K (.ref fI)=true
noncomputable def FCW (w:World) (q:Addr×Addr):Prop:=PG=(RowW.prog (OpenRow.toRowW (OpenLaw.row Challenge.rw_il0094_01)))→FC (hd.heap_39 w.params) q.1 q.2
theorem wf (w:World):∀ q ∈ [((47:Addr),(43:Addr)),(144,80)],FCW w q:=by
  repeat' (first | exact forall_mem_nil _ | refine co ?_ ?_)
  all_goals (unfold FCW; dsimp only; k_fill; intro _; refine ⟨?_,?_,?_,?_,?_,?_⟩ <;> k_is)
noncomputable def vK:List (Str×Addr):=[("_get_nodeinfo",87),("add",94),("prepare",99),("get_ready",106),("is_active",113),("done",127),("_find_cycle",134)]
structure FMt (K:Frag) (x:Str) (f:Addr):Prop where
  pg:plainGet K 144 x=true
  fi:findIn K (.ref 144) x=some (some (.ref f))
  fn:isFn K (.ref f)=true
noncomputable def FMtW (w:World) (q:Str×Addr):Prop:=PG=(RowW.prog (OpenRow.toRowW (OpenLaw.row Challenge.rw_il0094_01)))→FMt (hd.heap_39 w.params) q.1 q.2
theorem ul (w:World):∀ q ∈ vK,FMtW w q:=by
  unfold vK
  repeat' (first | exact forall_mem_nil _ | refine co ?_ ?_)
  all_goals (unfold FMtW; dsimp only; k_fill; intro _; refine ⟨?_,?_,?_⟩ <;> k_is)
noncomputable def slV (dx:Addr) (vs:List Value):aE:=.obj fun o=>∃ us:List Value,aD us vs∧o=⟨.ref 47,some dx,.plain,(us.map some).toArray⟩
noncomputable def dict0:aE:=.raw (dictOf [] 0)
section
variable {c:Cx} {M:FM} {nw:Led} {rm:Nat} {R:Value→FM→Led→Prop} {S SD a dx:Addr} {rd:Value} {po nf:Int} {vs:List Value}
theorem sl_at {s:Shared} (S':St c M nw s) (h1:ae c.w nw a (slV dx vs)) (h2:ae c.w nw dx dict0):∃ m us,Fr c.h₀ c.L s.heap m∧aD us vs∧InstAt s.heap a ⟨.ref 47,some dx,.plain,(us.map some).toArray⟩ 47 (some (dictOf [] 0)):=by
  refine E2 S'.news fun m news q91=>A3 q91 fun F N f=>?_
  clear q91
  refine E1 (S'.sees h1) fun o1 q92=>A2 q92 fun q93 g1=>?_
  clear q92
  refine E1 q93 fun us q94=>A2 q94 fun hs e95=>?_
  try clear q93
  clear q94
  first | subst e95 | cases e95
  refine E1 (S'.sees h2) fun o2 q96=>A2 q96 fun e2 g2=>?_
  clear q96
  have e3:o2=dictOf [] 0:=e2
  exact ⟨m,us,F,hs,⟨g1,rfl,rfl,by rw [← e3]; exact g2⟩⟩
theorem kT {x:Str} {p:Addr} {i:Nat} {v:Value} (hq:(x,p,i) ∈ pU) (H:Cok c rm) (h1:ae c.w nw a (slV dx vs)) (h2:ae c.w nw dx dict0) (hv:vs[i]? = some v) (hh:∀ v',Sim v' v→handedIn v'=true) (hr:R v M nw):Do c (.getA x) [.ref a] M nw R:=Do.mk1 fun u t hu ht s Q S' post=>by
  cases aa hu
  obtain ⟨_,rfl⟩:=ht
  refine E2 (sl_at S' h1 h2) fun m us q91=>A3 q91 fun F hs I=>?_
  clear q91
  obtain ⟨f1,f2,f3,f4,f5,_,_⟩:=ue c.w _ hq rfl
  refine E1 (hs.get hv) fun u q92=>A2 q92 fun hu hv'=>?_
  clear q92
  have f0:=wf c.w (47,43) (.head _) rfl
  exact get_slot F H.K I f1 f0.cls f2 f3 f4 f5 (v:=u) (by simp [hu]) (hh _ hv') (post _ v _ _ _ hv' (S'.tok _) hr)
theorem lN {k:Nat} {x:Str} {p:Addr} {i:Nat} {v:Value} (vs':List Value) (hq:(x,p,i) ∈ pU) (H:Cok c rm) (h2:ae c.w nw dx dict0) (hi:nw[k]? = some (a,slV dx vs)) (hle:i≤vs.length) (he:vs.take i++v::vs.drop (i+1)=vs') (hr:R .none M (nw.set k (a,slV dx vs'))):Do c (.setA x) [.ref a,v] M nw R:=Do.mk2 fun u v' t hu hw ht s Q S' post=>by
  cases aa hu
  cases (show _=_ from ht)
  refine E3 (S'.at hi) fun m o rest q91=>A5 q91 fun F q92 N hne kk=>?_
  clear q91
  refine E1 q92 fun us q93=>A2 q93 fun hs e94=>?_
  try clear q92
  clear q93
  first | subst e94 | cases e94
  refine E1 (S'.sees h2) fun o2 q95=>A2 q95 fun e2 g2=>?_
  clear q95
  have e3:o2=dictOf [] 0:=e2
  have f0:=wf c.w (47,43) (.head _) rfl
  obtain ⟨f1,f2,f3,f4,f5,f6,f7⟩:=ue c.w _ hq rfl
  have hi2:i < 1000:=by
    have:∀ q ∈ pU,q.2.2 < 1000:=by decide +kernel
    exact this _ hq
  have hle':i≤us.length:=by rw [hs.length]; exact hle
  have key:((us.map some).toArray++Array.replicate (i+1 - (us.map some).toArray.size) none).setIfInBounds i (some v')=((us.take i++v'::us.drop (i+1)).map some).toArray:=by
    apply Array.toList_inj.mp
    rw [Array.toList_setIfInBounds,Array.toList_append,Array.toList_replicate]
    simp only [size_toArray,length_map]
    rcases Nat.lt_or_eq_of_le hle' with h | h
    · rw [show i+1 - us.length=0 from by (clear hle; omega),List.replicate_zero,append_nil,List.set_eq_take_append_cons_drop,if_pos (by rw [length_map]; exact h),map_append,map_cons,map_take,map_drop]
    · clear hq he f1 f2 f3 f4 f5 f6 f7
      subst h
      rw [show us.length+1 - us.length=1 from by (clear hle hi2 hle'; omega)]
      simp
  have hs':aD (us.take i++v'::us.drop (i+1)) vs':=he▸(hs.take i).append (.mk hw (hs.drop (i+1)))
  exact wpAny_bind (set_slot (od:=dictOf [] 0) F H.K N ⟨(N _ (.head _)).1,rfl,rfl,by have:=e3▸g2; exact this⟩ f0.sa f0.po f6 f7 f5 hi2 (ox':=⟨.ref 47,some dx,.plain,((us.take i++v'::us.drop (i+1)).map some).toArray⟩) (by rw [← key]) rfl (.head hne) fun h' F' N'=>wpAny_pure (post _ .none _ _ _ rfl (kk (slV dx vs') _ h' _ F' N' ⟨_,hs',rfl⟩) hr))
theorem bG {x:Str} {f n2i:Addr} (hq:(x,f) ∈ vK) (hn:∀ k1 k2 k3 k4 tp tf,getL x [⟨PyData.keyHash c.w.params "_node2info",.str "_node2info" k1,.ref n2i⟩,⟨PyData.keyHash c.w.params "_ready_nodes",.str "_ready_nodes" k2,rd⟩,⟨PyData.keyHash c.w.params "_npassedout",.str "_npassedout" k3,.int po tp⟩,⟨PyData.keyHash c.w.params "_nfinished",.str "_nfinished" k4,.int nf tf⟩]=some none) (H:Cok c rm) (h1:ae c.w nw S (.raw (instObj 144 SD))) (h2:ae c.w nw SD (sdV c.w n2i rd po nf)) (hr:R (.ref f) M nw):Do c (.meth x) [.ref S] M nw R :=
  eP (fun o' pl s Q h S' hq'=>by
    cases aa h
    refine E8 (xU S' h1 h2) fun m news k1 k2 k3 k4 tp tf q91=>A4 q91 fun F N b1 b2=>?_
    clear q91
    obtain ⟨f1,f2,f3⟩:=ul c.w _ hq rfl
    exact method_inst F H.K (InstAt.of_news N b1 b2) f1 f2 f3 (hn k1 k2 k3 k4 tp tf) hq') hr
end
end
section
set_option tactic.hygienic false
noncomputable def Cx.at (c:Cx) (A:Around) (E:Value→Shared→Prop):Cx:={ c with A:=A,E:=E }
section
variable {c:Cx} {M:FM} {nw:Led} {rm:Nat}
theorem St.sw {s:Shared} {A:Around} {E:Value→Shared→Prop} (S:St c M nw s):St (c.at A E) M nw s:=by
  obtain ⟨e,m,news,F,N,f⟩:=S
  exact ⟨e,m,news,F,N,f.vars,f.ob,f.hid,f.nd⟩
theorem St.sw' {s:Shared} {A:Around} {E:Value→Shared→Prop} (S:St (c.at A E) M nw s):St c M nw s:=by
  obtain ⟨e,m,news,F,N,f⟩:=S
  exact ⟨e,m,news,F,N,f.vars,f.ob,f.hid,f.nd⟩
variable {name qual:Str} {params:Arguments} {body:List Stmt} {scope:Scope} {dV kV doc pm cdv ct oc:Value} {an od:Option Addr} {osl:Array (Option Value)}
theorem jw {C fI:Addr} (hC:(C,fI) ∈ [((47:Addr),(43:Addr)),(144,80)]) {args args2:List Value} {xs:List Str} {M₀:Addr→FM} {ir:List IS} {k:Nat} {R:Value→FM→Led→Prop} (H:Cok c (rm+2))
    (ho:∀ w:World,RowW.prog (OpenRow.toRowW (OpenLaw.row Challenge.rw_il0094_01))=PG→(hd.heap_39 w.params).lookup fI=some ⟨oc,od,.func (fnOf name qual params body scope dV kV doc pm an cdv ct),osl⟩) (hcd:∀ w:World,RowW.prog (OpenRow.toRowW (OpenLaw.row Challenge.rw_il0094_01))=PG→codeIn (hd.heap_39 w.params) cdv qual=true)
    (hbind:∀ (s:Shared) vs' (x:Addr),(FK c.w).In s.heap→aD vs' args→∃ ws,aD ws (.ref x::args2)∧BindsTo s (fnOf name qual params body scope dV kV doc pm an cdv ct) ⟨.ref x::vs',[]⟩ (xs.zip ws))
    (hkind:∀ x ∈ xs,scope.names.lookup x=some .local∨scope.names.lookup x=some .cell) (hnd:bw scope.names=true)
    (hM:∀ x,dg (af scope.names) (xs.zip (.ref x::args2))=M₀ x) (hB:CB ⟨scope.names,af scope.names⟩ body ir)
    (hco:scope.isCoroutine=false) (hgen:scope.isGenerator=false) (hk:scope.kind = .function)
    (h:∀ c' x dx,c'.sc=⟨scope.names,af scope.names⟩→c'.w=c.w→Cok c' rm→wpS c' k ir (M₀ x) [(x,.raw (instObj C dx)),(dx,dict0)] fun fl _ nw'=>ko fl = .none∧∃ own',ar c.w nw' own'∧R (.ref x) M (own'++nw)) :
    Do c .call (.ref C::args) M nw R:=Do.mk fun vs' t hs ht s Q S post=>by
  refine E2 hs.cons fun f' vs q91=>A3 q91 fun e92 hf hvs=>?_
  clear q91
  clear hs
  first | subst e92 | cases e92
  cases aa hf
  cases (show _=_ from ht)
  refine E2 S.open fun m news q93=>A5 q93 fun F N f c94 c95=>?_
  clear q93
  clear c94
  clear c95
  have f0:=wf c.w _ hC rfl
  refine call_cls F H.K N f0.mks f0.ini f0.fn fun x dx h' F' N' lt ltx=>?_
  have S1:St c M ((x,.raw (instObj C dx))::(dx,dict0)::nw) { s with heap:=h',toks:=s.toks }:=St.mk' S.sh F' N' ((f.cons (D:=dx) (o:=dictOf [] 0) (y:=dict0) (fun p hp=>Nat.ne_of_lt (lt p hp)) rfl).cons (D:=x) (o:=instObj C dx) (y:=.raw (instObj C dx)) (fun p hp=>by
    clear N f N'
    rcases mem_cons.mp hp with rfl | hp
    · exact Nat.ne_of_lt ltx
    · exact Nat.ne_of_lt (Nat.lt_trans (lt p hp) ltx)) rfl)
  have H1:Cok (c.at (c.A.under (.builtin "type.__call__" ⟨.ref C::vs,[]⟩)) fun _ _=>False) (rm+1) :=
    { K:=H.K,T:=H.T,hA:=H.hA,fe:=H.fe,lf:=H.lf,above:=H.above,dp:=by have:=H.dp; show (c.A.under _).depth+_ < _; rw [depth_under_make]; omega,un:=by have:=H.un; show (c.A.under _).units+_ < _; rw [units_under_make]; omega,el:=H.el,eg:=H.eg,eb:=H.eb,ek:=H.ek,en:=H.en,ev:=H.ev,ec:=H.ec,vl:=H.vl,hE:=PassesOwn.never,hh:=H.hh }
  have S2:=S1.sw (A:=c.A.under (.builtin "type.__call__" ⟨.ref C::vs,[]⟩)) (E:=fun _ _=>False)
  refine E1 (hbind { s with heap:=h' } vs x (H.K.keeps F'.keep) hvs) fun ws q96=>A2 q96 fun hws hb=>?_
  clear q96
  refine codeAny_call_function (fd:=fnOf name qual params body scope dV kV doc pm an cdv ct) (by have:=H1.dp; exact Nat.lt_of_le_of_lt (Nat.le_add_right _ _) this) ((H.K.keeps F'.keep) _ _ (ho c.w rfl)) rfl hco hgen rfl (codeRec_of (H.K.keeps F'.keep) (hcd c.w rfl)) (hb _ _ _ _ ?_)
  exact du (own:=[(x,.raw (instObj C dx)),(dx,dict0)]) (R:=fun v M n=>v = .none∧R (.ref x) M n) (P:=fun fl nw'=>ko fl = .none∧∃ own',ar c.w nw' own'∧R (.ref x) M (own'++nw)) H1 hkind hnd (hM x) hB hk (sublist_append_left [_,_] nw) (fun fl nw' h1 h2 h3 ⟨e,own',hw,hr⟩=>cL (l1:=[]) (own:=[(x,.raw (instObj C dx)),(dx,dict0)]) (l2:=nw) (R:=fun v M n=>v = .none∧R (.ref x) M n) rfl fl nw' h1 h2 h3 ⟨own',hw,e,hr⟩) (fun c' e1 e2 e3=>h c' x dx e1 e2 e3) hws S2 fun v' v M' n' s' hv S' ⟨e,hr⟩=>by
    subst e
    exact ⟨aH hv,post _ (.ref x) _ _ _ rfl S'.sw' hr⟩
end
end
section
set_option tactic.hygienic false
theorem uy {α:Type} {f:α→Str} {p n:α} {r:List α} (n1:f p ∉ r.map f) (h:n ∈ r):f p≠f n:=fun e=>n1 (by rw [e]; exact mem_map_of_mem h)
structure NA where
  key:Str
  a:Addr
  dx:Addr
  l:Addr
noncomputable def upd {β:Type} (f:Str→β) (k:Str) (v:β):Str→β:=fun y=>if y=k then v else f y
theorem fq {β:Type} {f:Str→β} {k:Str} {v:β}:upd f k v k=v:=if_pos rfl
theorem ke {β:Type} {f:Str→β} {k y:Str} {v:β} (h:y≠k):upd f k v y=f y:=if_neg h
noncomputable abbrev cI (n:NA) (np:Int):aE:=slV n.dx [.str n.key 0,.int np 0,.ref n.l]
noncomputable def nA (ad:List NA) (np:Str→Int):Led:=ad.map fun n=>(n.a,cI n (np n.key))
noncomputable def nB (ad:List NA) (sc:Str→List Str):Led:=ad.map fun n=>(n.l,.list (ac (sc n.key)))
noncomputable def nC (ad:List NA):Led:=ad.map fun n=>(n.dx,dict0)
noncomputable def oV (ad:List NA):List (Str×Value):=ad.map fun n=>(n.key,.ref n.a)
noncomputable def au (ad:List NA):List Str:=ad.map (·.key)
theorem gz (ad:List NA):(oV ad).map (·.1)=au ad:=by unfold oV au; rw [List.map_map]; rfl
theorem rG (ad:List NA):(oV ad).length=ad.length:=length_map _
theorem eG {ad:List NA} (hn:(au ad).Nodup) {n:NA} (h:n ∈ ad):valueAt (oV ad) n.key=some (.ref n.a):=by
  unfold valueAt oV
  rw [find?_map]
  induction ad with
  | nil=>cases h
  | cons p r ih =>
    obtain ⟨n1,n2⟩:=nodup_cons.mp hn
    clear hn
    rcases mem_cons.mp h with rfl | h
    · simp [find?_cons]
    · have:p.key≠n.key:=uy (f:=NA.key) n1 h
      rw [find?_cons]
      simp only [Function.comp,this,decide_false]
      exact ih n2 h
theorem jp {ad:List NA} {x:Str} (h:x ∉ au ad):valueAt (oV ad) x=none:=fc (by rw [gz]; exact h)
theorem cA {ad:List NA} {x:Str} (h:x ∈ au ad):∃ n,n ∈ ad∧n.key=x:=mem_map.mp h
theorem uq {front back:Led} {ad:List NA} {g:NA→Addr×aE} {n:NA} {i:Nat} (hi:ad[i]? = some n):(front++(ad.map g++back))[front.length+i]? = some (g n):=by
  rw [List.getElem?_append_right (Nat.le_add_right _ _),Nat.add_sub_cancel_left,List.getElem?_append_left (by rw [length_map]; exact (List.getElem?_eq_some_iff.mp hi).1),List.getElem?_map,hi]; rfl
theorem map_set {front back:Led} {g g':NA→Addr×aE} {n:NA} {ad:List NA} {i:Nat} (hn:(au ad).Nodup) (hi:ad[i]? = some n) (hg:∀ m,m.key≠n.key→g' m=g m):(front++(ad.map g++back)).set (front.length+i) (g' n)=front++(ad.map g'++back):=by
  have key:∀ {ad:List NA} {i:Nat},(au ad).Nodup→ad[i]? = some n→(ad.map g).set i (g' n)=ad.map g':=by
    intro ad
    induction ad with
    | nil=>intro i _ h; cases h
    | cons p r ih =>
      intro i hn hi
      obtain ⟨n1,n2⟩:=nodup_cons.mp hn
      cases i with
      | zero =>
        cases hi
        show g' n::r.map g=g' n::r.map g'
        rw [map_congr_left fun m hm=>(hg m (uy (f:=NA.key) n1 hm).symm).symm]
      | succ i =>
        have hp:p.key≠n.key:=uy (f:=NA.key) n1 (mem_of_getElem? hi)
        show g p::(r.map g).set i (g' n)=g' p::r.map g'
        rw [ih n2 hi,hg p hp]
  rw [List.set_append_right _ _ (Nat.le_add_right _ _),Nat.add_sub_cancel_left,List.set_append_left _ _ (by rw [length_map]; exact (List.getElem?_eq_some_iff.mp hi).1),key hn hi]
theorem iV {w:World} {front back:Led} {ad:List NA} {g:NA→Addr×aE} {n:NA} (h:n ∈ ad):ae w (front++(ad.map g++back)) (g n).1 (g n).2:=.mem (mem_append_right _ (mem_append_left _ (mem_map_of_mem h)))
noncomputable def srL (w:World) (S SD DD:Addr) (rd:Value) (po nf:Int) (ad:List NA):Led:=[(S,.raw (instObj 144 SD)),(SD,sdV w DD rd po nf),(DD,.dict (oV ad))]
section
variable {c:Cx} {M:FM} {rm:Nat} {R:Value→FM→Led→Prop} {front back:Led} {ad:List NA} {np:Str→Int} {sc:Str→List Str} {n:NA}
theorem ia {nw:Led} (H:Cok c rm) (h1:ae c.w nw n.a (cI n (np n.key))) (h2:ae c.w nw n.dx dict0) (hr:R (.int (np n.key) 0) M nw):Do c (.getA "npredecessors") [.ref n.a] M nw R :=
  kT (p:=49) (i:=1) (by decide +kernel) H h1 h2 rfl (fun v' h=>by obtain ⟨_,rfl⟩:=ah h; rfl) hr
theorem wZ {nw:Led} {z:Int} (H:Cok c rm) (h1:ae c.w nw n.a (cI n z)) (h2:ae c.w nw n.dx dict0) (hr:R (.str n.key 0) M nw):Do c (.getA "node") [.ref n.a] M nw R :=
  kT (p:=48) (i:=0) (by decide +kernel) H h1 h2 rfl (fun v' h=>by obtain ⟨_,rfl⟩:=aq h; rfl) hr
theorem fy {nw:Led} {z:Int} (H:Cok c rm) (h1:ae c.w nw n.a (cI n z)) (h2:ae c.w nw n.dx dict0) (hr:R (.ref n.l) M nw):Do c (.getA "successors") [.ref n.a] M nw R :=
  kT (p:=50) (i:=2) (by decide +kernel) H h1 h2 rfl (fun v' h=>by cases aa h; rfl) hr
theorem lR {v:Int} {t:Tok} (H:Cok c rm) (hn:(au ad).Nodup) (h:n ∈ ad) (h2:ae c.w (front++(nA ad np++back)) n.dx dict0) (hr:R .none M (front++(nA ad (upd np n.key v)++back))):Do c (.setA "npredecessors") [.ref n.a,.int v t] M (front++(nA ad np++back)) R:=by
  obtain ⟨i,hi⟩:=mem_iff_getElem?.mp h
  refine lN (k:=front.length+i) (p:=49) (i:=1) [.str n.key 0,.int v t,.ref n.l] (by decide +kernel) H h2 (uq hi) (Nat.le_of_ble_eq_true rfl) rfl ?_
  have e:slV n.dx [.str n.key 0,.int v t,.ref n.l]=cI n v:=by
    unfold slV
    congr 1
  rw [e]
  have:=map_set (front:=front) (back:=back) (g:=fun n=>(n.a,cI n (np n.key))) (g':=fun m=>(m.a,cI m (upd np n.key v m.key))) hn hi fun m hm=>by rw [ke hm]
  rw [show (n.a,cI n v)=(n.a,cI n (upd np n.key v n.key)) from by rw [fq]]
  rw [show (front++(nA ad np++back)).set (front.length+i) (n.a,cI n (upd np n.key v n.key))=_ from this]
  exact hr
theorem pZ {y:Str} (hn:(au ad).Nodup) (h:n ∈ ad) (hz:(sc n.key).length≤1000) (hr:R .none M (front++(nB ad (upd sc n.key (sc n.key++[y]))++back))):Do c .call [.builtin "list.append",.ref n.l,.str y 0] M (front++(nB ad sc++back)) R:=by
  obtain ⟨i,hi⟩:=mem_iff_getElem?.mp h
  refine ca (i:=front.length+i) (uq hi) hz ?_
  have:=map_set (front:=front) (back:=back) (g:=fun n=>(n.l,aE.list (ac (sc n.key)))) (g':=fun m=>(m.l,aE.list (ac (upd sc n.key (sc n.key++[y]) m.key)))) hn hi fun m hm=>by rw [ke hm]
  rw [show (n.l,aE.list (ac (sc n.key++[y])))=(n.l,aE.list (ac (upd sc n.key (sc n.key++[y]) n.key))) from by rw [fq]]
  rw [show (front++(nB ad sc++back)).set (front.length+i) (n.l,aE.list (ac (upd sc n.key (sc n.key++[y]) n.key)))=_ from this]
  exact hr
end
end
section
noncomputable abbrev en (w:World) (x:Str) (k:Tok) (v:Value):DictEntry:=⟨PyData.keyHash w.params x,.str x k,v⟩
noncomputable def sd1 (w:World) (DD:Addr):aE:=.obj fun o=>∃ k1,o=dictOf [en w "_node2info" k1 (.ref DD)] 1
noncomputable def sd2 (w:World) (DD:Addr):aE:=.obj fun o=>∃ k1 k2,o=dictOf [en w "_node2info" k1 (.ref DD),en w "_ready_nodes" k2 .none] 2
noncomputable def sd3 (w:World) (DD:Addr):aE:=.obj fun o=>∃ k1 k2 k3 tp,o=dictOf [en w "_node2info" k1 (.ref DD),en w "_ready_nodes" k2 .none,en w "_npassedout" k3 (.int 0 tp)] 3
section
variable {c:Cx} {M:FM} {nw:Led} {rm:Nat} {R:Value→FM→Led→Prop} {S SD DD:Addr} {i:Nat}
theorem ji {x:Str} {v:Value} {y z:aE} (hx:x ∈ dw) (hp:∀ o,y.Is c.w o→∃ es n,o=dictOf es n∧(getL x es).isSome=true∧∀ t v',Sim v' v→∃ es' n',(putL x (PyData.keyHash c.w.params x) (.str x t) v' es,putN x es n)=(es',n')∧es'.length≤1000∧z.Is c.w (dictOf es' n')) (H:Cok c rm) (h1:ae c.w nw S (.raw (instObj 144 SD))) (hi:nw[i]? = some (SD,y)) (hr:R .none M (nw.set i (SD,z))):Do c (.setA x) [.ref S,v] M nw R:=Do.mk2 fun u v' t hu hw ht s Q S' post=>by
  cases aa hu
  cases (show _=_ from ht)
  refine E3 (S'.at hi) fun m o rest q91=>A5 q91 fun F ho N hne k=>?_
  clear q91
  refine E2 (hp o ho) fun es n q92=>A3 q92 fun e93 hg hput=>?_
  clear q92
  clear ho
  first | subst e93 | cases e93
  refine E2 (hput (s.toks+1) v' hw) fun es' n' q94=>A3 q94 fun he hz hI=>?_
  clear q94
  refine E1 (S'.sees h1) fun oS q95=>A2 q95 fun e1 e2=>?_
  clear q95
  have e3:oS=instObj 144 SD:=e1
  clear e1
  subst e3
  refine A3 (nE c.w rfl) fun f1 f2 f3=>?_
  exact wpAny_bind (set_dict F H.K N ⟨e2,rfl,rfl,(N _ (.head _)).1⟩ rfl f3 f2 (sO c.w _ hx rfl) f1 hg he (.head hne) hz fun h' F' N'=>wpAny_pure (post _ .none _ _ _ rfl (k z _ h' _ F' N' hI) hr))
theorem xQ (H:Cok c rm) (h1:ae c.w nw S (.raw (instObj 144 SD))) (hi:nw[i]? = some (SD,dict0)) (hr:R .none M (nw.set i (SD,sd1 c.w DD))):Do c (.setA "_node2info") [.ref S,.ref DD] M nw R :=
  ji (y:=dict0) (z:=sd1 c.w DD) (by decide +kernel) (fun o ho=>⟨[],0,ho,rfl,fun t v' hv=>⟨_,_,rfl,Nat.le_of_ble_eq_true rfl,t,by cases aa hv; rfl⟩⟩) H h1 hi hr
theorem xe (H:Cok c rm) (h1:ae c.w nw S (.raw (instObj 144 SD))) (hi:nw[i]? = some (SD,sd1 c.w DD)) (hr:R .none M (nw.set i (SD,sd2 c.w DD))):Do c (.setA "_ready_nodes") [.ref S,.none] M nw R :=
  ji (y:=sd1 c.w DD) (z:=sd2 c.w DD) (by decide +kernel) (fun o ⟨k1,ho⟩=>⟨_,_,ho,rfl,fun t v' hv=>⟨_,_,rfl,Nat.le_of_ble_eq_true rfl,k1,t,by cases aH hv; rfl⟩⟩) H h1 hi hr
theorem wF {t0:Tok} (H:Cok c rm) (h1:ae c.w nw S (.raw (instObj 144 SD))) (hi:nw[i]? = some (SD,sd2 c.w DD)) (hr:R .none M (nw.set i (SD,sd3 c.w DD))):Do c (.setA "_npassedout") [.ref S,.int 0 t0] M nw R :=
  ji (y:=sd2 c.w DD) (z:=sd3 c.w DD) (by decide +kernel) (fun o ⟨k1,k2,ho⟩=>⟨_,_,ho,rfl,fun t v' hv=>by
    obtain ⟨tp,rfl⟩:=ah hv
    exact ⟨_,_,rfl,Nat.le_of_ble_eq_true rfl,k1,k2,t,tp,rfl⟩⟩) H h1 hi hr
theorem xy {t0:Tok} (H:Cok c rm) (h1:ae c.w nw S (.raw (instObj 144 SD))) (hi:nw[i]? = some (SD,sd3 c.w DD)) (hr:R .none M (nw.set i (SD,sdV c.w DD .none 0 0))):Do c (.setA "_nfinished") [.ref S,.int 0 t0] M nw R :=
  ji (y:=sd3 c.w DD) (z:=sdV c.w DD .none 0 0) (by decide +kernel) (fun o ⟨k1,k2,k3,tp,ho⟩=>⟨_,_,ho,rfl,fun t v' hv=>by
    obtain ⟨tf,rfl⟩:=ah hv
    exact ⟨_,_,rfl,Nat.le_of_ble_eq_true rfl,k1,k2,k3,t,tp,tf,rfl⟩⟩) H h1 hi hr
theorem Do.pre {op:Op} {vs:List Value} {nw2:Led} (hw:ar c.w nw nw2) (h:Do c op vs M nw2 R):Do c op vs M nw R:=Do.mk fun vs' t hs ht s Q S' post=>h.tr hs ht s Q (S'.weak hw) post
end
theorem vz (dx:Addr) (w:World):∀ o,(aE.raw (instObj 47 dx)).Is w o→(slV dx []).Is w o:=fun o e=>⟨[],rfl,e⟩
theorem perm3 {α:Type} (a l d:α) (s A B C t:List α):(s++((A++[a])++((B++[l])++((C++[d])++t)))).Perm (a::l::d::(s++(A++(B++(C++t))))):=by
  have one:∀ (x:α) (X Y Z:List α),Y.Perm Z→((X++[x])++Y).Perm (x::(X++Z)):=fun x X Y Z h=>by
    rw [append_assoc]
    exact perm_middle.trans (.cons x (h.append_left X))
  have up:∀ (x:α) (X Y Z:List α),Y.Perm (x::Z)→(X++Y).Perm (x::(X++Z)):=fun x X Y Z h=>(h.append_left X).trans perm_middle
  have h1:=one d C t t (.refl _)
  have h2:=(one l B _ _ h1).trans (.cons l perm_middle)
  have h3:=(one a A _ _ h2).trans (.cons a (perm_middle.trans (.cons l perm_middle)))
  exact (h3.append_left s).trans (perm_middle.trans (.cons a (perm_middle.trans (.cons l perm_middle))))
noncomputable def so0 (w:World) (S SD DD:Addr) (ad:List NA) (np:Str→Int) (sc:Str→List Str) (t:Led):Led:=srL w S SD DD .none 0 0 ad++(nA ad np++(nB ad sc++(nC ad++t)))
noncomputable def so1 (w:World) (S SD DD RN:Addr) (rs:List Str) (po nf:Int) (ad:List NA) (np:Str→Int) (sc:Str→List Str) (t:Led):Led:=srL w S SD DD (.ref RN) po nf ad++((RN,.list (ac rs))::(nA ad np++(nB ad sc++(nC ad++t))))
theorem bv {w:World} {S SD DD:Addr} {ad:List NA} {np:Str→Int} {sc:Str→List Str} {t:Led}:so0 w S SD DD ad np sc []++t=so0 w S SD DD ad np sc t:=by
  unfold so0; simp only [append_assoc,nil_append]
theorem aX {w:World} {S SD DD RN:Addr} {rs:List Str} {po nf:Int} {ad:List NA} {np:Str→Int} {sc:Str→List Str} {t:Led}:so1 w S SD DD RN rs po nf ad np sc []++t=so1 w S SD DD RN rs po nf ad np sc t:=by
  unfold so1; simp only [append_assoc,nil_append,cons_append]
theorem sq {w:World} {S SD DD:Addr} {ad:List NA} {np:Str→Int} {sc:Str→List Str} {n:NA} {t:Led} (h1:np n.key=0) (h2:sc n.key=[]) :
    ar w ((n.a,cI n 0)::(n.l,.list (ac []))::(n.dx,dict0)::(srL w S SD DD .none 0 0 (ad++[n])++(nA ad np++(nB ad sc++(nC ad++t))))) (so0 w S SD DD (ad++[n]) np sc t):=.perm (by
  unfold so0
  rw [show nA (ad++[n]) np=nA ad np++[(n.a,cI n 0)] from by unfold nA; rw [map_append,← h1]; rfl,show nB (ad++[n]) sc=nB ad sc++[(n.l,.list (ac []))] from by unfold nB; rw [map_append,← h2]; rfl,show nC (ad++[n])=nC ad++[(n.dx,dict0)] from map_append]
  exact perm3 _ _ _ _ _ _ _ _)
section
variable {w:World} {S SD DD RN:Addr} {rs:List Str} {po nf:Int} {ad:List NA} {np:Str→Int} {sc:Str→List Str} {t:Led} {n:NA}
theorem nd_a {front back:Led} (h:n ∈ ad):ae w (front++(nA ad np++back)) n.a (cI n (np n.key)):=iV (g:=fun n=>(n.a,cI n (np n.key))) h
theorem nd_l {front back:Led} (h:n ∈ ad):ae w (front++(nB ad sc++back)) n.l (.list (ac (sc n.key))):=iV (g:=fun n=>(n.l,aE.list (ac (sc n.key)))) h
theorem nd_d {front back:Led} (h:n ∈ ad):ae w (front++(nC ad++back)) n.dx dict0:=iV (g:=fun n=>(n.dx,dict0)) h
theorem pr (h:n ∈ ad):ae w (so0 w S SD DD ad np sc t) n.a (cI n (np n.key)):=nd_a h
theorem vp (h:n ∈ ad):ae w (so0 w S SD DD ad np sc t) n.l (.list (ac (sc n.key))):=(nd_l (front:=nA ad np) h).tail.tail.tail
theorem oJ (h:n ∈ ad):ae w (so0 w S SD DD ad np sc t) n.dx dict0:=((nd_d (front:=nB ad sc) h).pre (nA ad np)).tail.tail.tail
theorem rB (h:n ∈ ad):ae w (so1 w S SD DD RN rs po nf ad np sc t) n.a (cI n (np n.key)):=(nd_a (front:=[]) h).tail.tail.tail.tail
theorem xR (h:n ∈ ad):ae w (so1 w S SD DD RN rs po nf ad np sc t) n.l (.list (ac (sc n.key))):=(nd_l (front:=nA ad np) h).tail.tail.tail.tail
theorem kC (h:n ∈ ad):ae w (so1 w S SD DD RN rs po nf ad np sc t) n.dx dict0:=((nd_d (front:=nB ad sc) h).pre (nA ad np)).tail.tail.tail.tail
end
theorem qH {ad:List NA} {n:NA} (h:n.key ∉ au ad):stored (oV ad) n.key (.ref n.a)=oV (ad++[n]):=by
  rw [bJ (jp h)]; unfold oV; rw [map_append]; rfl
noncomputable def bY (ks:List Str) (x:Str):List Str:=if x ∈ ks then ks else ks++[x]
noncomputable def Get (ad:List NA) (x:Str) (ad':List NA):Prop:=ad'=ad∨∃ n:NA,n.key=x∧x ∉ au ad∧ad'=ad++[n]
structure kz (ad:List NA) (np:Str→Int) (sc:Str→List Str):Prop where
  nd:(au ad).Nodup
  z:∀ v,v ∉ au ad→np v=0∧sc v=[]
theorem jH (ad:List NA):(au ad).length=ad.length:=length_map _
theorem Get.keys {ad ad':List NA} {x:Str} (h:Get ad x ad') {n:NA} (hn:n ∈ ad') (e:n.key=x):au ad'=bY (au ad) x:=by
  unfold bY
  rcases h with rfl | ⟨m,_,h2,rfl⟩
  · rw [if_pos (e▸mem_map_of_mem hn)]
  · rw [if_neg h2]; unfold au; rw [map_append]; rename_i h1; rw [show List.map NA.key [m]=[x] from by rw [← h1]; rfl]
theorem Get.len {ad ad':List NA} {x:Str} (h:Get ad x ad'):ad'.length≤ad.length+1:=by
  rcases h with rfl | ⟨m,_,_,rfl⟩
  · exact Nat.le_succ _
  · rw [length_append]; exact Nat.le_refl _
theorem gL (ad:List NA) (m:NA):au (ad++[m])=au ad++[m.key]:=map_append
theorem kz.get {ad ad':List NA} {np:Str→Int} {sc:Str→List Str} {x:Str} (k:kz ad np sc) (h:Get ad x ad'):kz ad' np sc:=by
  rcases h with rfl | ⟨m,h1,h2,rfl⟩
  · exact k
  · refine ⟨?_,fun v hv=>k.z v fun q=>hv (by rw [gL]; exact mem_append_left _ q)⟩
    rw [gL]
    exact nodup_append.mpr ⟨k.nd,nodup_cons.mpr ⟨not_mem_nil,nodup_nil⟩,fun a ha b hb e=>h2 (by rw [mem_singleton.mp hb,h1] at e; exact e▸ha)⟩
theorem kz.np {ad:List NA} {np:Str→Int} {sc:Str→List Str} {n:NA} (k:kz ad np sc) (hn:n ∈ ad) (v:Int):kz ad (upd np n.key v) sc:=⟨k.nd,fun y hy=>by
  rw [ke fun e=>hy (by rw [e]; exact mem_map_of_mem hn)]; exact k.z y hy⟩
theorem kz.sc {ad:List NA} {np:Str→Int} {sc:Str→List Str} {n:NA} (k:kz ad np sc) (hn:n ∈ ad) (v:List Str):kz ad np (upd sc n.key v):=⟨k.nd,fun y hy=>by
  rw [ke fun e=>hy (by rw [e]; exact mem_map_of_mem hn)]; exact k.z y hy⟩
noncomputable def bO (sc:Str→List Str) (x y:Str):Str→List Str:=upd sc y (sc y++[x])
theorem ar.nil' {w:World} (nw:Led):ar w (nw++[]) nw:=by rw [append_nil]; exact .refl _
theorem jZ {l1 own l2 nw:Led} (h:own++l2=nw):l1++nw=l1++(own++l2):=by rw [h]
theorem ix {l1 own l2 nw:Led} (h:own++l2=nw):own.Sublist (l1++nw):=by rw [← h]; exact (sublist_append_left _ _).trans (sublist_append_right _ _)
theorem eK {w:World} {l1 l2 nw' own' nw:Led} {R:Led→Prop} (h:own'++l2=nw) (hw:ar w nw' own') (hr:R (l1++nw)):∃ own',ar w nw' own'∧R (l1++(own'++l2)):=⟨own',hw,by rw [h]; exact hr⟩
theorem jg {sc:Str→List Str} {k:Nat} (h:∀ v,(sc v).length≤k) (x y v:Str):(bO sc x y v).length≤k+1:=by
  by_cases e:v=y
  · subst e
    unfold bO
    rw [fq,length_append]
    exact Nat.succ_le_succ (h v)
  · unfold bO
    rw [ke e]; exact Nat.le_succ_of_le (h v)
end
section
set_option tactic.hygienic false
section
variable {α σ:Type} {c:Cx} {M:FM} {nw:Led} {rm:Nat} {Ms:σ→FM} {R:Flow→FM→Led→Prop} {b:List IS} {k:Nat} {t:IT} {l:Addr}
theorem rI {as:List α} (e:α→Value) (Ns:σ→Led) (P:List α→σ→Prop) (s₀:σ) (H:Cok c rm) {o:Obj} (hx:(aE.tup (as.map e)).Is c.w o) (hk:∀ s,(l,.raw o) ∈ Ns s) (hM:M=Ms s₀) (hn:nw=Ns s₀) (hp:P as s₀)
    (step:∀ c',c'.sc=c.sc→c'.w=c.w→Cok c' rm→∀ a r s,P (a::r) s→cW c' t (e a) (Ms s) (Ns s) fun M nw=>wpS c' k b M nw (LR c.w (SJ Ms Ns fun r s=>∃ ra:List α,r=ra.map e∧P ra s) R (r.map e))) (done:∀ s,P [] s→R .next (Ms s) (Ns s)):DoF c t (.ref l) b M nw R :=
  ry (k:=k) (SJ Ms Ns fun r s=>∃ ra:List α,r=ra.map e∧P ra s) H hx (fun r M nw ⟨s,e1,e2,_⟩=>by subst e2; exact hk s) ⟨s₀,hM,hn,as,rfl,hp⟩ (fun c' h1 h2 h3 x r M nw ⟨s,e1,e2,ra,er,hp⟩=>by
    subst e1 e2
    cases ra with
    | nil=>cases er
    | cons a ra=>cases er; exact step c' h1 h2 h3 a ra s hp) fun M nw ⟨s,e1,e2,ra,er,hp⟩=>⟨_,.refl _,by
    subst e1 e2
    cases ra with
    | cons a ra=>cases er
    | nil=>exact done s hp⟩
end
noncomputable def gl (np:Str→Int) (rs:List Str):Str→Int:=fun y=>if y ∈ rs then -1 else np y
theorem qW (np:Str→Int) (rs:List Str) (x:Str):gl np (rs++[x])=upd (gl np rs) x (-1):=by
  funext y
  unfold gl upd
  by_cases h:y=x
  · rw [if_pos h,if_pos (mem_append_right _ (h▸.head _))]
  · rw [if_neg h]
    have e:(y ∈ rs++[x])↔y ∈ rs:=⟨fun z=>(mem_append.mp z).resolve_right fun z=>h (mem_singleton.mp z),mem_append_left _⟩
    exact ite_congr (propext e) (fun _=>rfl) fun _=>rfl
noncomputable def gI (p:(Str→Int)×List Str) (y:Str):(Str→Int)×List Str:=(upd p.1 y (p.1 y - 1),if p.1 y - 1=0 then p.2++[y] else p.2)
noncomputable def qx (np:Str→Int) (rs:List Str) (x:Str) (ys:List Str):(Str→Int)×List Str:=ys.foldl gI (upd np x (-2),rs)
theorem rW (p:(Str→Int)×List Str) (y:Str):(gI p y).2.length≤p.2.length+1:=by
  show (if p.1 y - 1=0 then p.2++[y] else p.2).length≤_
  split
  · rw [length_append]; exact Nat.le_refl _
  · exact Nat.le_succ _
theorem td {w:World} {l1 l2 nw' own' nw:Led} {p:Addr×aE} {R:Led→Prop} (h:own'++l2=nw) (hw:ar w nw' (p::own')) (hr:R (l1++(p::nw))):∃ own',ar w nw' own'∧R (l1++(own'++l2)):=⟨p::own',hw,by show R (l1++(p::(own'++l2))); rw [h]; exact hr⟩
theorem ar.app {w:World} {a b:Led} (h:ar w a b) (r:Led):ar w (a++r) (b++r):=⟨fun p hp=>by
  rcases mem_append.mp hp with hp | hp
  · obtain ⟨y,h1,h2⟩:=h.mem p hp; exact ⟨y,mem_append_left _ h1,h2⟩
  · exact ⟨p.2,mem_append_right _ hp,fun _ h=>h⟩,fun nd=>by
  rw [map_append] at nd ⊢
  exact h.nd2 nd⟩
end
section
set_option tactic.hygienic false
noncomputable def FrP (o:Obj):aE:=.obj fun o'=>∃ sl,o' = { o with slots:=sl }
noncomputable def dr (nw:Led) (l:List Env):Prop:=∀ env ∈ l,env.scope.kind = .function∧∃ b o,env.frame=some b∧(b,FrP o) ∈ nw∧∃ es n,o.data = .dict es n
structure bo (c:Cx):Prop where
  fr:c.A.frames=some (c.env::c.outer)
  fm:c.env.frame=some c.L
theorem wR {nw:Led} (nd:(nw.map (·.1)).Nodup) {p q:Addr×aE} (hp:p ∈ nw) (hq:q ∈ nw) (e:p.1=q.1):p=q:=by
  obtain ⟨i,hi⟩:=mem_iff_getElem?.mp hp
  obtain ⟨j,hj⟩:=mem_iff_getElem?.mp hq
  have e1:(nw.map (·.1))[i]? = some p.1:=by rw [List.getElem?_map,hi]; rfl
  have e2:(nw.map (·.1))[j]? = some p.1:=by rw [List.getElem?_map,hj,e]; rfl
  have:=(List.getElem?_inj (List.getElem?_eq_some_iff.mp e1).1 nd).mp (e1.trans e2.symm)
  clear e1 e2
  subst this
  rw [hi] at hj; exact Option.some.inj hj
theorem Ups.mem {b:Addr} {o:Obj}:∀ {fl fl':List (Addr×Obj)},Ups fl fl'→(b,o) ∈ fl→∃ sl,(b,{ o with slots:=sl }) ∈ fl'
  | _,_,.nil,h=>nomatch h
  | _,_,.cons sl x,h=>by
    rcases mem_cons.mp h with e | h
    · cases e; exact ⟨sl,.head _⟩
    · obtain ⟨sl',h'⟩:=x.mem h; exact ⟨sl',.tail _ h'⟩
section
variable {c:Cx} {M:FM} {nw:Led} {rm:Nat} {s s':Shared}
noncomputable def StB (B:Heap) (c:Cx) (M:FM) (nw:Led) (s:Shared):Prop:=s = { c.s₀ with heap:=s.heap,toks:=s.toks }∧∃ m news,Fr c.h₀ c.L s.heap m∧News c.h₀ c.L s.heap news∧ce c M nw m news∧∀ p ∈ news,B.get? p.1=some p.2∨∃ es n,p.2.data = .dict es n
theorem StB.st {B:Heap} (S:StB B c M nw s):St c M nw s:=by
  refine A2 S fun e q91=>E2 q91 fun m news q92=>A4 q92 fun F N f _=>?_
  try clear S
  clear q92 q91
  exact ⟨e,m,news,F,N,f⟩
theorem StB.weak {B:Heap} {nw2:Led} (S:StB B c M nw s) (h:ar c.w nw nw2):StB B c M nw2 s:=by
  refine A2 S fun e q91=>E2 q91 fun m news q92=>A4 q92 fun F N f k=>?_
  try clear S
  clear q92 q91
  exact ⟨e,m,news,F,N,f.weak h,k⟩
theorem St.slots (S:St c M nw s) (FR:dr nw c.outer):∃ m rest fl,Fr c.h₀ c.L s.heap m∧News c.h₀ c.L s.heap rest∧News c.h₀ c.L s.heap fl∧(∀ p ∈ rest,∀ q ∈ fl,q.1≠p.1)∧nM fl∧oZ fl c.outer ∧
    ∀ h' tk fl',Fr c.h₀ c.L h' m→News c.h₀ c.L h' rest→News c.h₀ c.L h' fl'→Ups fl fl'→∀ B:Heap,(∀ p ∈ rest,B.get? p.1=some p.2)→StB B c M nw { s with heap:=h',toks:=tk }:=by
  obtain ⟨e,m,news,F,N,f⟩:=S
  obtain ⟨fa,hfa⟩ : ∃ fa,fa=c.outer.filterMap (·.frame):=⟨_,rfl⟩
  have nd:=nodup_append.mp f.nd
  have infa:∀ b ∈ fa,∃ o o',(b,FrP o) ∈ nw∧(b,o') ∈ news∧(FrP o).Is c.w o'∧∃ es n,o'.data = .dict es n:=fun b hb=>by
    rw [hfa] at hb
    refine E1 (mem_filterMap.mp hb) fun env q91=>A2 q91 fun he hf=>?_
    clear q91
    refine A2 (FR env he) fun _ q92=>E2 q92 fun b' o q93=>A3 q93 fun hf' hm q94=>E2 q94 fun es n hd=>?_
    clear q94 q93 q92
    rw [hf] at hf'; cases hf'
    refine E1 (f.ob _ hm) fun o' q95=>A2 q95 fun h1 q96=>E1 q96 fun sl h2=>?_
    clear q96 q95
    exact ⟨o,o',hm,h1,⟨sl,h2⟩,es,n,by rw [h2]; exact hd⟩
  have hD:nM (news.filter fun p=>decide (p.1 ∈ fa)):=fun p hp=>by
    obtain ⟨h1,h2⟩:=mem_filter.mp hp
    refine E2 (infa _ (of_decide_eq_true h2)) fun o o' q97=>A4 q97 fun _ h3 _ q98=>E2 q98 fun es n hd=>?_
    clear q98 q97
    exact ⟨es,n,by rw [iE N h1 h3]; exact hd⟩
  refine ⟨m,news.filter (fun p=>decide (p.1 ∉ fa)),news.filter (fun p=>decide (p.1 ∈ fa)),F,fun p hp=>N p (mem_filter.mp hp).1,fun p hp=>N p (mem_filter.mp hp).1,fun p hp q hq e=>?_,hD,?_,fun h' tk fl' F' Nr Nf U B hB=>?_⟩
  · have h1:=of_decide_eq_true (mem_filter.mp hp).2
    have h2:=of_decide_eq_true (mem_filter.mp hq).2
    exact h1 (e▸h2)
  · have:∀ l:List Env,(∀ env ∈ l,env ∈ c.outer)→oZ (news.filter (fun p=>decide (p.1 ∈ fa))) l:=by
      intro l
      induction l with
      | nil=>exact fun _=>trivial
      | cons env r ih =>
        intro h
        refine A2 (FR env (h env (.head _))) fun hk q99=>E2 q99 fun b o q910=>A2 q910 fun hf _=>?_
        clear q910 q99
        have hb:b ∈ fa:=by rw [hfa]; exact mem_filterMap.mpr ⟨env,h env (.head _),hf⟩
        refine E2 (infa b hb) fun _ o' q911=>A3 q911 fun _ h3 _=>?_
        clear q911
        exact ⟨hk,⟨b,o',hf,mem_filter.mpr ⟨h3,decide_eq_true hb⟩⟩,ih fun env' he=>h env' (.tail _ he)⟩
    exact this _ fun _ h=>h
  · refine ⟨by rw [e],m,news.filter (fun p=>decide (p.1 ∉ fa))++fl',F',fun p hp=>(mem_append.mp hp).elim (Nr p) (Nf p),f.mono (fun p hp q=>mem_append_left _ (mem_filter.mpr ⟨hp,decide_eq_true fun z=>?_⟩)) (fun p hp=>?_) f.nd,fun p hp=>(mem_append.mp hp).elim (fun h=>.inl (hB p h)) fun h=>.inr (U.dicts hD p h)⟩
    · refine E2 (infa _ z) fun o _ q912=>A2 q912 fun hm _=>?_
      clear q912
      exact nd.2.2 _ (mem_map_of_mem hm) _ q rfl
    · refine E1 (f.ob p hp) fun o q913=>A2 q913 fun h1 h2=>?_
      clear q913
      by_cases z:p.1 ∈ fa
      · refine E2 (infa _ z) fun o₀ o' q914=>A4 q914 fun hm h3 q915 _=>?_
        clear q914
        refine E1 q915 fun sl h4=>?_
        try clear q915
        have ep:=wR nd.1 hp hm rfl
        obtain ⟨sl',h5⟩:=U.mem (mem_filter.mpr ⟨h1,decide_eq_true z⟩)
        refine ⟨_,mem_append_right _ h5,?_⟩
        rw [ep]
        exact ⟨sl',by rw [iE N h1 h3,h4]⟩
      · exact ⟨o,mem_append_left _ (mem_filter.mpr ⟨h1,decide_eq_true z⟩),h2⟩
noncomputable def cw (c:Cx) (M:FM) (nw:Led) (e:Addr) (cls:Value) (vs:List Value) (s:Shared):Prop :=
  ∃ B t,Heap.FlyingW B (c.env::c.outer) e cls (.ref t) s.heap∧B.get? t=none∧s.heap.TupAt t vs∧c.h₀.StaysIn B∧∀ h' tk,B.StaysIn h'→s.heap.UpToSlots h'→StB B c M nw { s with heap:=h',toks:=tk }
theorem eU (H:Cok0 c rm) (FC:bo c) (S:St c M nw s) (FR:dr nw c.outer):∃ B,s.heap.FunFrames B (c.env::c.outer)∧B.StaysIn s.heap∧c.h₀.StaysIn B∧∀ (s':Shared) (h':Heap) (tk:Nat),s' = { s with heap:=s'.heap,toks:=s'.toks }→B.StaysIn h'→s.heap.UpToSlots h'→StB B c M nw { s' with heap:=h',toks:=tk }:=by
  refine E3 (S.slots FR) fun m rest fl q91=>A7 q91 fun F N FL ap D FI close=>?_
  clear q91
  refine E3 (id F.ns) fun oL esL epL q92=>A4 q92 fun hL hLd hLk hLf=>?_
  clear q92
  have hfl:∀ q ∈ fl,s.heap.get? q.1=some q.2:=fun q hq=>(FL q hq).1
  refine ⟨hideAll s.heap (c.L::fl.map (·.1)),⟨by rw [H.ek]; decide,⟨c.L,oL,FC.fm,hideAll_none _ (.head _),hL,fun vs q=>by rw [hLd] at q; cases q⟩,FI.fun D hfl fun q hq=>.tail _ (mem_map_of_mem hq)⟩,fun b o q=>of_hideAll _ q,fun b o q=>?_,fun s' h' tk e hs U=>?_⟩
  · refine hideAll_get _ (F.keep b o q) fun hm=>?_
    rcases mem_cons.mp hm with rfl | hm
    · rw [kts_self F] at q; cases q
    · refine E1 (mem_map.mp hm) fun q' q93=>A2 q93 fun hq' e'=>?_
      clear q93
      rw [← e',(FL q' hq').2.2] at q; cases q
  · have gB:∀ b o,c.h₀.get? b=some o→(hideAll s.heap (c.L::fl.map (·.1))).get? b=some o:=fun b o q=>by
      refine hideAll_get _ (F.keep b o q) fun hm=>?_
      rcases mem_cons.mp hm with rfl | hm
      · rw [kts_self F] at q; cases q
      · refine E1 (mem_map.mp hm) fun q' q94=>A2 q94 fun hq' e'=>?_
        clear q94
        rw [← e',(FL q' hq').2.2] at q; cases q
    refine E1 (tY U D hfl) fun fl' q95=>A2 q95 fun hu hfl'=>?_
    clear q95
    rw [e]
    have nB:∀ q ∈ rest,(hideAll s.heap (c.L::fl.map (·.1))).get? q.1=some q.2:=fun q hq=>hideAll_get _ (N q hq).1 fun hm=>by
      rcases mem_cons.mp hm with e' | hm
      · exact (N q hq).2.1 e'
      · refine E1 (mem_map.mp hm) fun q' q96=>A2 q96 fun hq' e'=>?_
        clear q96
        exact ap q hq q' hq' e'
    refine close h' tk fl' (F.of_stays (fun b o q=>hs b o (gB b o q)) U) (fun q hq=>⟨hs _ _ (nB q hq),(N q hq).2⟩) (fun q hq=>?_) hu _ nB
    · refine E1 (vy hu.keys hq) fun q' q97=>A2 q97 fun hq' e'=>?_
      clear q97
      exact ⟨hfl' q hq,e'▸(FL q' hq').2⟩
end
end
section
set_option tactic.hygienic false
section
variable {c:Cx} {M:FM} {nw:Led} {rm:Nat} {s s':Shared} {e:Addr} {cls:Value} {vs:List Value} {K:Shared→Prop} {E:Value→Shared→Prop}
theorem sG {hp:Heap} (H:Cok0 c rm) (FC:bo c) (hx:Heap.MadeExcOf hp s'.heap e cls vs) (S:St c M nw { s' with heap:=hp }) (FR:dr nw c.outer) (k:∀ s3,cw c M nw e cls vs s3→K s3) :
    wpAny (model PG c.w) c.A (noteFrame (.ref e) c.env) (fun _ s₂=>wpAny (model PG c.w) c.A (setFlight (.ref e) none) (fun _ s₃=>K s₃) E s₂) E s':=by
  refine E1 (eU H FC S FR) fun B q91=>A4 q91 fun FF Bh gB close=>?_
  clear q91
  refine E1 hx.there fun t q92=>A3 q92 fun he htn ht=>?_
  clear q92
  have fresh:∀ b,hp.get? b=none→B.get? b=none:=fun b hb=>by
    cases hq:B.get? b with
    | none=>rfl
    | some o'=>have:=Bh b o' hq; rw [show hp.get? b=none from hb] at this; cases this
  have Hs:B.StaysIn s'.heap:=fun b o q=>hx.keeps b o (Bh b o q)
  unfold noteFrame
  simp only [FC.fm]
  refine wpAny_bind (wpAny_field he rfl (x:=.none) rfl ?_)
  rw [if_neg (by decide)]
  refine wpAny_entryW (a0:=.ref t) FC.fr (FF.of_keeps fun b o hb _=>⟨o,hx.keeps b o hb,rfl⟩) FC.fm he Hs (fresh e hx.new) rfl (by simp) rfl fun h₄ hN=>?_
  have hheld₄:Heap.HeldW B (c.env::c.outer) e cls (.ref t) c.L h₄:=⟨hN.1,fresh e hx.new,hN.2.1,hN.2.2.1⟩
  have U4:s'.heap.UpToSlots h₄:=hN.2.2.2
  exact wpAny_landsW hheld₄ fun h₅ hfl hsm₅=>k _ ⟨B,t,hfl,fresh t htn,(Heap.TupAt.of_slots ⟨_,_,ht,rfl,rfl⟩ U4).of_slots hsm₅,gB,fun h' tk hs U=>close { s' with heap:=h₅ } h' tk rfl hs ((Heap.UpToSlots.of_keeps hx.keeps).trans ((U4.trans hsm₅).trans U))⟩
theorem mh (FC:bo c) (FL:cw c M nw e cls vs s') (k:∀ s3,cw c M nw e cls vs s3→K s3) :
    wpAny (model PG c.w) c.A (noteFrame (.ref e) c.env) (fun _ s₂=>wpAny (model PG c.w) c.A (setFlight (.ref e) none) (fun _ s₃=>K s₃) E s₂) E s':=by
  refine E2 FL fun B t q91=>A5 q91 fun hfl hnew htup gB close=>?_
  try clear FL
  clear q91
  exact wpAny_looks_onW FC.fr FC.fm hfl fun h₄ hheld₄ hsm₄=>wpAny_landsW hheld₄ fun h₅ hfl5 hsm5=>k _ ⟨B,t,hfl5,hnew,(htup.of_slots hsm₄).of_slots hsm5,gB,fun h' tk hs U=>close h' tk hs ((hsm₄.trans hsm5).trans U)⟩
theorem uA {A:Around} {x:Str} {np:Pos} {T:String} {Q:Value→Shared→Prop} (H:Cok0 c rm) (S:St c M nw s) (hx:c.sc.names.lookup x=some .globalImplicit) (hm:(x,Value.type T) ∈ dB) (hd:(x == ("__debug__" : Str))=false) (hn:x ≠ "__name__") (hq:Q (.type T) s):wpAny (model PG c.w) A (eval (.Name x np) c.env) Q E s:=by
  refine E2 S.ex fun m news q91=>A3 q91 fun F N f=>?_
  clear q91
  have hk:c.env.kindOf x=some .globalImplicit:=by unfold Env.kindOf; rw [H.en]; exact hx
  exact Name_function_global H.ek hk (loadGlobal_builtin (H.eg▸H.T.g.keeps F.keep) (mg_none_of H.K H.T.g (fw c.w _ hm rfl).1) (H.eb▸H.T.b.keeps F.keep) ((H.T.builtins x hn).trans (fw c.w _ hm rfl).2) hq) hd
theorem wB {A:Around} {x:Str} {np:Pos} {v:Value} {Q:Value→Shared→Prop} (H:Cok0 c rm) (S:St c M nw s) (hx:c.sc.names.lookup x=some .globalImplicit) (hm:(x,v) ∈ eV) (hd:(x == ("__debug__" : Str))=false) (hq:Q v s):wpAny (model PG c.w) A (eval (.Name x np) c.env) Q E s:=by
  refine E2 S.ex fun m news q91=>A3 q91 fun F N f=>?_
  clear q91
  have hk:c.env.kindOf x=some .globalImplicit:=by unfold Env.kindOf; rw [H.en]; exact hx
  exact Name_function_global H.ek hk (loadGlobal_global (H.eg▸H.T.g.keeps F.keep) (mg_of H.K H.T.g (iq c.w _ hm rfl)) hq) hd
theorem cw.now (FL:cw c M nw e cls vs s):St c M nw s:=by
  refine E2 FL fun B t q91=>A5 q91 fun hfl hnew htup gB close=>?_
  try clear FL
  clear q91
  exact (close s.heap s.toks hfl.1 (Heap.UpToSlots.of_keeps fun _ _ h=>h)).st
variable {x:Str} {X T':String} {b₀:Stmt} {suite:List Stmt} {pos np:Pos} {rest:List ExceptHandler} {Q:Flow→Shared→Prop}
theorem wE (H:Cok0 c rm) (FL:cw c M nw e (.type X) vs s) (hx:c.sc.names.lookup x=some .globalImplicit) (hm:(x,Value.type T') ∈ dB) (hd:(x == ("__debug__" : Str))=false) (hn:x ≠ "__name__")
    (hexc:isSubtype (.type T') (.type "BaseException")=pure true) (hnt:isSubtype (.type ((Manifest.find? T').elim "type" fun y=>y.metatype)) (.type "tuple")=pure false) (hsub:isSubtype (.type X) (.type T')=pure true)
    (k:∀ s3,St c M nw s3→wpAny (model PG c.w) (c.A.mark (some (.ref e))) (execs (b₀::suite) c.env) Q (fun _ _=>False) s3) :
    wpAny (model PG c.w) c.A (handleBy (.ref e) c.env (.ExceptHandler (some (.Name x np)) none (b₀::suite) pos::rest)) Q E s:=by
  have S:=FL.now
  refine E2 FL fun B t q91=>A5 q91 fun hfl hnew htup gB close=>?_
  try clear FL
  clear q91
  refine E1 hfl.2.2.2.at.there fun ob q92=>A2 q92 fun hob hobc=>?_
  clear q92
  refine wpAny_handleBy_builtin (X:=X) (T:=T') (b:=true) hexc hnt hsub (uA H S hx hm hd hn ⟨rfl,⟨ob,hob,hobc⟩,?_⟩)
  exact lands_againW hfl fun h₆ hfl₆ hsm₆=>wpAny_mono (k _ (close h₆ s.toks hfl₆.1 hsm₆).st) (fun _ _ y=>y) fun _ _ y=>y.elim
theorem wX {C:Addr} (H:Cok0 c rm) (FL:cw c M nw e (.ref C) vs s) (hx:c.sc.names.lookup x=some .globalImplicit) (hm:(x,Value.ref C) ∈ eV) (hd:(x == ("__debug__" : Str))=false) (q:ktsIn (FK c.w) C "BaseException" = true)
    (k:∀ s3,St c M nw s3→wpAny (model PG c.w) (c.A.mark (some (.ref e))) (execs (b₀::suite) c.env) Q (fun _ _=>False) s3) :
    wpAny (model PG c.w) c.A (handleBy (.ref e) c.env (.ExceptHandler (some (.Name x np)) none (b₀::suite) pos::rest)) Q E s:=by
  have S:=FL.now
  refine E2 S.ex fun m news q91=>A3 q91 fun F N f=>?_
  clear q91
  refine E2 FL fun B t q92=>A5 q92 fun hfl hnew htup gB close=>?_
  try clear FL
  clear q92
  refine E1 hfl.2.2.2.at.there fun ob q93=>A2 q93 fun hob hobc=>?_
  clear q93
  obtain ⟨nm,q',N',bs,bm,hdct,sn,sub,ab,col,dd,k0,k1,k2,k3,k5,newId,hC,hbase,hbT⟩:=kts_cls H.K q
  have hC₅:=F.keep _ _ hC
  refine wpAny_handleBy_cons (codeAny_handlers_test (wB H S hx hm hd ?_)) (by intro q; cases q)
  refine wpAny_excMatches_sub_self hC₅ hob hobc hbase (codeAny_handlers_suite ?_)
  exact lands_againW hfl fun h₆ hfl₆ hsm₆=>wpAny_mono (k _ (close h₆ s.toks hfl₆.1 hsm₆).st) (fun _ _ y=>y) fun _ _ y=>y.elim
end
end
section
set_option tactic.hygienic false
theorem St.here {c:Cx} {M:FM} {nw:Led} {s:Shared} (S:St c M nw s):StB s.heap c M nw s:=by
  obtain ⟨e,m,news,F,N,f⟩:=S
  exact ⟨e,m,news,F,N,f,fun p hp=>.inl (N p hp).1⟩
section
variable {c:Cx} {M:FM} {nw:Led} {rm:Nat}
variable {name qual:Str} {params:Arguments} {body:List Stmt} {scope:Scope} {dV kV doc pm cdv ct oc:Value} {an od:Option Addr} {osl:Array (Option Value)} {f:Addr}
theorem gJ {args vs:List Value} {xs:List Str} {l1 own l2:Led} {M₀:FM} {ir:List IS} {k:Nat} {R:Value→FM→Led→Prop} {X:Value→List Value→Led→Prop} {s:Shared} {RR:Result→Shared→Prop} {EE:Value→Shared→Prop} (H:Cok c (rm+1)) (FC:bo c) (FR:dr own c.outer)
    (hkind:∀ x ∈ xs,scope.names.lookup x=some .local) (hnd:bw scope.names=true) (hM:dg (af scope.names) (xs.zip args)=M₀) (hB:CB ⟨scope.names,af scope.names⟩ body ir) (hk:scope.kind = .function) (hcell:∀ x ∈ scope.names,x.2≠.cell)
    (hn:nw=l1++(own++l2))
    (h:∀ c' oL,c'.sc=⟨scope.names,af scope.names⟩→c'.w=c.w→Cok c' rm→bo c'→(∃ es n,oL.data = .dict es n)→c'.outer=c.env::c.outer→dr ((c.L,FrP oL)::own) c'.outer →
      (∀ e cls vs' (s':Shared) hp M' nw' own',Heap.MadeExcOf hp s'.heap e cls vs'→St c' M' nw' { s' with heap:=hp }→dr nw' c'.outer→ar c.w nw' ((c.L,FrP oL)::own')→X cls vs' own'→c'.E (.ref e) s') →
      wpS c' k ir M₀ ((c.L,FrP oL)::own) fun fl _ nw'=>∃ own',ar c.w nw' ((c.L,FrP oL)::own')∧R (ko fl) M (l1++(own'++l2)))
    (hvs:aD vs args) (S:St c M nw s) (post:∀ v' v M' n' s',Sim v' v→St c M' n' s'→R v M' n'→RR (.ok (.ret v')) s')
    (exc:∀ e cls vs' own' s',X cls vs' own'→cw c M (l1++(own'++l2)) e cls vs' s'→RR (.error (.ref e)) s') :
    wpAny (model PG c.w) c.A.in1 (newFunctionEnv (fnOf name qual params body scope dV kV doc pm an cdv ct).scope (fnOf name qual params body scope dV kV doc pm an cdv ct).globals (fnOf name qual params body scope dV kV doc pm an cdv ct).closure (xs.zip vs) ((fnOf name qual params body scope dV kV doc pm an cdv ct).qualname ++ ".<locals>.") (some f) (fnOf name qual params body scope dV kV doc pm an cdv ct).code none (fnOf name qual params body scope dV kV doc pm an cdv ct).builtins)
      (fun env s₂=>s₂.heap.NoLimit∧codeAny (model PG c.w) c.A (.func body env) RR s₂) EE s:=by
  subst hn
  obtain ⟨e,m,news,F,N,fl⟩:=S
  refine E3 (id F.ns) fun oL esL epL q91=>A4 q91 fun hgL hdL hkL hfL=>?_
  clear q91
  have nd:=nodup_append.mp fl.nd
  have nd1:=nd.1
  rw [map_append,map_append] at nd1
  refine A3 (nodup_append.mp nd1) fun a1 a2 a3=>?_
  refine A3 (nodup_append.mp a2) fun b1 b2 b3=>?_
  have obown:∀ p ∈ own,∃ o,(p.1,o) ∈ news∧p.2.Is c.w o:=fun p hp=>fl.ob p (mem_append_right _ (mem_append_left _ hp))
  have fN:∀ b ∈ own.map (·.1),b≠c.L∧c.h₀.get? b=none:=fun b hb=>by
    refine E1 (mem_map.mp hb) fun p q92=>A2 q92 fun hp e93=>?_
    clear q92
    clear hb
    first | subst e93 | cases e93
    refine E1 (obown p hp) fun o q94=>A2 q94 fun h1 _=>?_
    clear q94
    exact (N _ h1).2
  obtain ⟨as,has⟩ : ∃ as,as=c.L::own.map (·.1):=⟨_,rfl⟩
  have gk:∀ b o,s.heap.get? b=some o→b ∉ as→(hideAll s.heap as).get? b=some o:=fun b o q hb=>hideAll_get _ q hb
  have gn:∀ b ∈ as,(hideAll s.heap as).get? b=none:=fun b hb=>hideAll_none _ hb
  have st:c.h₀.StaysIn (hideAll s.heap as):=fun b o q=>gk b o (F.keep b o q) fun hm=>by
    rw [has] at hm
    clear H FC FR h post exc e N fl hgL nd nd1 a2 a3 b1 b3 obown has
    rcases mem_cons.mp hm with rfl | hm
    · rw [kts_self F] at q; cases q
    · rw [(fN b hm).2] at q; cases q
  obtain ⟨n1,n2⟩ : (scope.names.map (·.1)).Nodup∧(af scope.names).Nodup:=by
    have:=Bool.and_eq_true_iff.mp hnd
    exact ⟨of_decide_eq_true this.1,of_decide_eq_true this.2⟩
  have hvar:∀ {i:Nat} {x:Str} {b:Bool},(af scope.names)[i]? = some (some (x,b))→b=false∧scope.names.lookup x=some .local:=fun {i x b} h=>by
    have hm:=eH h
    clear h
    cases b with
    | true=>exact absurd rfl (hcell _ hm)
    | false=>exact ⟨rfl,dk n1 hm⟩
  refine wpAny_newFunctionEnv hcell (fun y hy=>hkind y.1 (List.of_mem_zip hy).1) (fun h₁ hns hsb=>⟨(H.T.nolimit.keeps F.keep).fresh _ hsb,codeAny_func ?_⟩) hk
  have hk₁:∀ b o,s.heap.get? b=some o→h₁.get? b=some o:=fun b o e=>hsb.extBut b o (Nat.ne_of_lt (Heap.lt_size e)) (Heap.get?_push_of_some _ e)
  generalize hL':s.heap.objs.size=L' at hns hsb
  have hlt:∀ b o,s.heap.get? b=some o→b < L':=fun b o e=>hL'▸Heap.lt_size e
  obtain ⟨c',hc'⟩ : ∃ c':Cx,c' = { sc:=⟨scope.names,af scope.names⟩,w:=c.w,A:=c.A.deeper (envOf qual scope L' f cdv),env:=envOf qual scope L' f cdv,h₀:=hideAll s.heap as,L:=L',vs:=(af scope.names).map (bP []),hid:=[],s₀:=s,E:=fun e s'=>wpAny (model PG c.w) (c.A.deeper (envOf qual scope L' f cdv)) (leaving (envOf qual scope L' f cdv) e) (fun _ s''=>RR (.error e) s'') (fun e' s''=>RR (.error e') s'') s',fe:=envOf qual scope L' f cdv,Lf:=L',outer:=c.env::c.outer,p:=c.p,loose:=c.loose,mean:=c.mean,mg:=c.mg,mb:=c.mb }:=⟨_,rfl⟩
  have hsz:(hideAll s.heap as).objs.size≤L':=by rw [hideAll_size]; exact Nat.le_of_eq hL'
  have HC:Cok c' rm:=by
    subst hc'
    exact
    { K:=H.K.keeps st
      T:=H.T.keeps st
      hh:=H.hh
      hA:=Around.frames_deeper FC.fr
      fe:=⟨qual,scope,f,cdv,[],rfl,hk⟩
      lf:=.inl rfl
      above:=hsz
      dp:=by have:=H.dp; show (c.A.deeper _).depth+rm < _; rw [depth_deeper]; (clear hL' hsz; omega)
      un:=by have:=H.un; show (c.A.deeper _).units+10 * rm < _; rw [units_deeper]; (clear hL' hsz; omega)
      el:=rfl
      eg:=rfl
      eb:=rfl
      ek:=hk
      en:=rfl
      ev:=fun i x h=>by show ((af scope.names).map (bP []))[i]? = _; rw [List.getElem?_map,h]; rfl
      ec:=fun i x h hx=>absurd (hvar h).1 (by decide)
      vl:=fun i j x hi hj=>by
        have get:∀ {i:Nat},((af scope.names).map (bP []))[i]? = some (.loc x)→(af scope.names)[i]? = some (some (x,false)):=fun {i} h=>by
          rw [List.getElem?_map] at h
          refine E1 (map_eq_some_iff.mp h) fun v q95=>A2 q95 fun hv e=>?_
          clear q95
          rw [hv]
          clear hv
          cases v with
          | none=>cases e
          | some p =>
            obtain ⟨y,b⟩:=p
            cases b with
            | true=>cases e
            | false=>cases e; rfl
        have h1:=get hi
        have h2:=get hj
        exact (List.getElem?_inj (List.getElem?_eq_some_iff.mp h1).1 n2).mp (h1.trans h2.symm)
      hE:=PassesOwn.leaving }
  have FC':bo c':=by subst hc'; exact ⟨Around.frames_deeper FC.fr,rfl⟩
  have e0:c'.outer=c.env::c.outer:=by rw [hc']
  have FR':dr ((c.L,FrP oL)::own) c'.outer:=by
    rw [e0]
    intro env he
    clear h post exc e F N fl hgL nd obown fN has st hc' e0
    rcases mem_cons.mp he with rfl | he
    · exact ⟨H.ek,c.L,oL,FC.fm,.head _,esL,epL,hdL⟩
    · refine A2 (FR env he) fun k1 q96=>E2 q96 fun b o q97=>A3 q97 fun k2 k3 k4=>?_
      clear q97 q96
      exact ⟨k1,b,o,k2,.tail _ k3,k4⟩
  have S1:St c' M₀ ((c.L,FrP oL)::own) { s with heap:=h₁,toks:=s.toks+(xs.zip vs).length }:=by
    clear HC FC' e0 FR'
    subst hc'
    refine ⟨rfl,fun y=>(xs.zip vs).reverse.lookup y,(c.L,oL)::news.filter (fun p=>decide (p.1 ∈ own.map (·.1))),⟨hns,fun b o e=>hk₁ b o (of_hideAll _ e),hsz⟩,fun q hq=>?_,⟨⟨?_,fun i l v hl hv=>?_⟩,fun p hp=>?_,fun _ h=>(nomatch h),?_⟩⟩
    · rcases mem_cons.mp hq with rfl | hq
      · exact ⟨hk₁ _ _ hgL,Nat.ne_of_lt (hlt _ _ hgL),gn _ (by rw [has]; exact .head _)⟩
      · obtain ⟨h1,h2⟩:=mem_filter.mp hq
        exact ⟨hk₁ _ _ (N q h1).1,Nat.ne_of_lt (hlt _ _ (N q h1).1),gn _ (by rw [has]; exact List.mem_cons_of_mem _ (of_decide_eq_true h2))⟩
    · show ((af scope.names).map (bP [])).length=M₀.length
      rw [← hM]; unfold dg; rw [length_map,length_map]
    · have hl':((af scope.names).map (bP []))[i]? = some l:=hl
      rw [List.getElem?_map] at hl'
      refine E1 (map_eq_some_iff.mp hl') fun z q98=>A2 q98 fun hz e99=>?_
      clear q98
      clear hl hl'
      first | subst e99 | cases e99
      rw [← hM] at hv
      unfold dg at hv
      rw [List.getElem?_map,hz] at hv
      have hv':=Option.some.inj hv
      cases z with
      | none=>trivial
      | some p =>
        obtain ⟨y,b⟩:=p
        obtain ⟨rfl,_⟩:=hvar hz
        show kX ((xs.zip vs).reverse.lookup y) v
        rw [← hv']
        exact eT (by rw [map_reverse,map_reverse,lg hvs])
    · rcases mem_cons.mp hp with rfl | hp
      · exact ⟨oL,.head _,oL.slots,rfl⟩
      · refine E1 (obown p hp) fun o q910=>A2 q910 fun h1 h2=>?_
        clear q910
        exact ⟨o,.tail _ (mem_filter.mpr ⟨h1,decide_eq_true (mem_map_of_mem (f:=(·.1)) hp)⟩),h2⟩
    · have e2:aj ((af scope.names).map (bP []))=[]:=by
        cases q:aj ((af scope.names).map (bP [])) with
        | nil=>rfl
        | cons a r =>
          obtain ⟨y,hy⟩:=aT (show a ∈ aj ((af scope.names).map (bP [])) from q▸.head _)
          refine E1 (mem_map.mp hy) fun z q911=>A2 q911 fun hz e=>?_
          clear q911
          cases z with
          | none=>cases e
          | some p =>
            obtain ⟨y',b⟩:=p
            obtain ⟨i,hi⟩:=mem_iff_getElem?.mp hz
            obtain ⟨rfl,_⟩:=hvar hi
            cases e
      show ((c.L::own.map fun p:Addr×aE=>p.1)++(([]:List Addr)++aj ((af scope.names).map (bP [])))).Nodup
      rw [e2,append_nil,append_nil]
      exact nodup_cons.mpr ⟨fun q=>(fN _ q).1 rfl,b1⟩
  have back:∀ (B:Heap) M' own' s',(hideAll s.heap as).StaysIn B→StB B c' M' ((c.L,FrP oL)::own') s'→StB B c M (l1++(own'++l2)) s':=by
    intro B M' own' s' gB r91
    refine A2 r91 fun e' q91=>E2 q91 fun m' news' q92=>A4 q92 fun F' N' f' kB=>?_
    try clear r91
    clear q92 q91
    have e2:c'.h₀=hideAll s.heap as:=by rw [hc']
    have e3:c'.s₀=s:=by rw [hc']
    have e4:c'.w=c.w:=by rw [hc']
    have keep':∀ b o,(hideAll s.heap as).get? b=some o→s'.heap.get? b=some o:=fun b o q=>F'.keep b o (e2▸q)
    have new':∀ q ∈ news',(hideAll s.heap as).get? q.1=none:=fun q hq=>e2▸(N' q hq).2.2
    have nd':=(nodup_append.mp f'.nd).1
    obtain ⟨c1,c2⟩:=nodup_cons.mp nd'
    refine E1 (f'.ob _ (.head _)) fun oL' q912=>A2 q912 fun hL1 q913=>E1 q913 fun sl hL2=>?_
    clear q913 q912
    have off:∀ q ∈ news,q.1 ∉ own.map (·.1)→q.1 ∉ as:=fun q hq ho hm=>by
      rw [has] at hm
      rcases mem_cons.mp hm with e | hm
      · exact (N q hq).2.1 e
      · exact ho hm
    have old:∀ q ∈ news,q.1 ∉ own.map (·.1)→(hideAll s.heap as).get? q.1=some q.2:=fun q hq ho=>gk _ _ (N q hq).1 (off q hq ho)
    have fresh:∀ a ∈ own'.map (·.1),∀ o,(a,o) ∈ news→a ∈ own.map (·.1):=fun a ha o ho=>Classical.byContradiction fun z=>by
      refine E1 (mem_map.mp ha) fun p q914=>A2 q914 fun hp e915=>?_
      clear q914
      clear ha
      first | subst e915 | cases e915
      refine E1 (f'.ob p (.tail _ hp)) fun o' q916=>A2 q916 fun h1 _=>?_
      clear q916
      have:=old _ ho z
      rw [new' _ h1] at this; cases this
    refine ⟨by rw [e',e3,e],m,news.filter (fun q=>decide (q.1 ∉ own.map (·.1)))++news'.filter (fun q=>decide (q.1≠c.L)),⟨⟨oL',esL,epL,(N' _ hL1).1,by rw [hL2]; exact ⟨hdL,hkL,hfL⟩⟩,fun b o q=>keep' b o (st b o q),F.above⟩,fun q hq=>?_,fl.mono (fun q hq hp=>?_) (fun p hp=>?_) ?_,fun q hq=>?_⟩
    · rcases mem_append.mp hq with hq | hq
      · obtain ⟨h1,h2⟩:=mem_filter.mp hq
        exact ⟨keep' _ _ (old q h1 (of_decide_eq_true h2)),(N q h1).2⟩
      · obtain ⟨h1,h2⟩:=mem_filter.mp hq
        refine ⟨(N' q h1).1,of_decide_eq_true h2,?_⟩
        cases q0:c.h₀.get? q.1 with
        | none=>rfl
        | some o=>have:=st _ _ q0; rw [new' q h1] at this; cases this
    · refine mem_append_left _ (mem_filter.mpr ⟨hq,decide_eq_true fun z=>?_⟩)
      refine nd.2.2 _ ?_ _ hp rfl
      rw [map_append,map_append]
      exact mem_append_right _ (mem_append_left _ z)
    · have oldp:p ∈ l1++(own++l2)→p.1 ∉ own.map (·.1)→∃ o,(p.1,o) ∈ news.filter (fun q=>decide (q.1 ∉ own.map (·.1)))++news'.filter (fun q=>decide (q.1≠c.L))∧p.2.Is c.w o:=fun hp hz=>by
        refine E1 (fl.ob p hp) fun o q917=>A2 q917 fun h1 h2=>?_
        clear q917
        exact ⟨o,mem_append_left _ (mem_filter.mpr ⟨h1,decide_eq_true hz⟩),h2⟩
      rcases mem_append.mp hp with hp | hp
      · exact oldp (mem_append_left _ hp) fun z=>a3 _ (mem_map_of_mem hp) _ (mem_append_left _ z) rfl
      · rcases mem_append.mp hp with hp | hp
        · refine E1 (f'.ob p (.tail _ hp)) fun o q918=>A2 q918 fun h1 h2=>?_
          clear q918
          exact ⟨o,mem_append_right _ (mem_filter.mpr ⟨h1,decide_eq_true fun z=>c1 (z▸mem_map_of_mem (f:=(·.1)) hp)⟩),e4▸h2⟩
        · exact oldp (mem_append_right _ (mem_append_right _ hp)) fun z=>b3 _ z _ (mem_map_of_mem hp) rfl
    · have inl:∀ a,a ∈ l1.map (·.1)∨a ∈ l2.map (·.1)→(∃ o,(a,o) ∈ news)∧a ∉ own.map (·.1):=fun a ha=>by
        rcases ha with ha | ha
        · refine E1 (mem_map.mp ha) fun p q919=>A2 q919 fun hp e920=>?_
          clear q919
          first | subst e920 | cases e920
          refine E1 (fl.ob p (mem_append_left _ hp)) fun o q921=>A2 q921 fun h1 _=>?_
          clear q921
          exact ⟨⟨o,h1⟩,fun z=>a3 _ ha _ (mem_append_left _ z) rfl⟩
        · refine E1 (mem_map.mp ha) fun p q922=>A2 q922 fun hp e923=>?_
          clear q922
          first | subst e923 | cases e923
          refine E1 (fl.ob p (mem_append_right _ (mem_append_right _ hp))) fun o q924=>A2 q924 fun h1 _=>?_
          clear q924
          exact ⟨⟨o,h1⟩,fun z=>b3 _ z _ ha rfl⟩
      rw [map_append,map_append]
      refine nodup_append.mpr ⟨nodup_append.mpr ⟨a1,nodup_append.mpr ⟨c2,b2,fun a ha b hb e=>?_⟩,fun a ha b hb e=>?_⟩,nd.2.1,fun a ha b hb e=>?_⟩
      · subst e
        refine A2 (inl a (.inr hb)) fun q925 hz=>?_
        refine E1 q925 fun o ho=>?_
        try clear q925
        exact hz (fresh a ha o ho)
      · subst e
        rcases mem_append.mp hb with hb | hb
        · refine A2 (inl a (.inl ha)) fun q926 hz=>?_
          refine E1 q926 fun o ho=>?_
          try clear q926
          exact hz (fresh a hb o ho)
        · exact a3 _ ha _ (mem_append_right _ hb) rfl
      · subst e
        have oldz:a ∈ (l1++(own++l2)).map (·.1)→False:=fun z=>nd.2.2 _ z _ hb rfl
        rcases mem_append.mp ha with ha | ha
        · exact oldz (by rw [map_append]; exact mem_append_left _ ha)
        · rcases mem_append.mp ha with ha | ha
          · obtain ⟨o,ho⟩ : ∃ o,(a,o) ∈ news:=by
              rcases mem_append.mp hb with hb | hb
              · refine E1 (mem_map.mp hb) fun q q927=>A2 q927 fun hq e=>?_
                clear q927
                exact ⟨q.2,e▸fl.hid q hq⟩
              · exact lc fl.vars _ hb
            exact oldz (by rw [map_append,map_append]; exact mem_append_right _ (mem_append_left _ (fresh a ha o ho)))
          · exact oldz (by rw [map_append,map_append]; exact mem_append_right _ (mem_append_right _ ha))
    · rcases mem_append.mp hq with hq | hq
      · obtain ⟨h1,h2⟩:=mem_filter.mp hq
        exact .inl (gB _ _ (old q h1 (of_decide_eq_true h2)))
      · exact kB q (mem_filter.mp hq).1
  have raise:∀ e cls vs' (s':Shared) hp M' nw' own',Heap.MadeExcOf hp s'.heap e cls vs'→St c' M' nw' { s' with heap:=hp }→dr nw' c'.outer→ar c.w nw' ((c.L,FrP oL)::own')→X cls vs' own'→c'.E (.ref e) s':=fun e cls vs' s' hp M' nw' own' hx S' FRn hw hX=>by
    refine E1 (eU HC.toCok0 FC' S' FRn) fun B q928=>A4 q928 fun FF Bh gB close=>?_
    clear q928
    have e2:c'.h₀=hideAll s.heap as:=by rw [hc']
    have e4:c'.w=c.w:=by rw [hc']
    rw [e2] at gB
    have:wpAny (model PG c.w) c'.A (leaving c'.env (.ref e)) (fun _ s''=>RR (.error (.ref e)) s'') (fun e' s''=>RR (.error e') s'') s':=wpAny_leaves_madeW (base:=B) FC'.fr FC'.fm Bh FF hx fun h' t x1 x2 x3 x4=>exc e cls vs' own' _ hX ⟨B,t,e0▸x1,x3,x2,fun b o q=>gB b o (st b o q),fun h'' tk hs U=>back B M' own' _ gB ((close { s' with heap:=h' } h'' tk rfl hs ((Heap.UpToSlots.of_keeps hx.keeps).trans (x4.trans U))).weak (e4.symm▸hw))⟩
    clear HC FC' e0 FR' S1 back S' FRn FF close e2 e4
    subst hc'
    exact this
  have hmain:=h c' oL (by rw [hc']) (by rw [hc']) HC FC' ⟨esL,epL,hdL⟩ e0 FR' raise
  have fin:∀ f' f0 M' n' s',pe f' f0→St c' M' n' s'→(∃ own',ar c.w n' ((c.L,FrP oL)::own')∧R (ko f0) M (l1++(own'++l2)))→RR (.ok (.ret (match f' with | .ret v=>v | _=>.none))) s':=fun f' f0 M' n' s' hf S' ⟨own',hw,hr⟩=>by
    have e2:c'.h₀=hideAll s.heap as:=by rw [hc']
    have e4:c'.w=c.w:=by rw [hc']
    have S2:StB s'.heap c' M' ((c.L,FrP oL)::own') s':=S'.here.weak (e4.symm▸hw)
    have gB:(hideAll s.heap as).StaysIn s'.heap:=by
      refine E2 S'.ex fun m' news' q929=>A2 q929 fun F' _=>?_
      clear q929
      exact fun b o q=>F'.keep b o (e2▸q)
    have S3:=(back _ _ _ _ gB S2).st
    cases f' <;> cases f0 <;> first | exact hf.elim | exact post _ _ _ _ _ hf S3 hr | exact post _ _ _ _ _ rfl S3 hr
  clear FC' e0 FR' back raise
  subst hc'
  have:=cE hB _ rm rfl HC.toCok0 k M₀ _ _ hmain _ _ S1 fin
  exact this
end
end
section
set_option tactic.hygienic false
noncomputable def rE (w:World) (seen:List Str):aE:=.obj fun o=>o.SetObjOf (PySem.strKind PG w) (fun k=>decide (k ∈ seen)) seen.length
section
variable {c:Cx} {M:FM} {nw:Led} {rm:Nat} {R:Value→FM→Led→Prop} {l d a:Addr} {seen:List Str} {x:Str} {t:Tok} {i:Nat}
theorem xD (hr:∀ D,R (.ref D) M ((D,rE c.w [])::nw)):Do c .call [.type "set"] M nw R:=Do.mk1 fun u t h1 ht s Q S post=>by
  cases aR h1; cases (show _=_ from ht)
  refine E2 S.open fun m news q91=>A5 q91 fun F N f c92 k=>?_
  clear q91
  clear c92
  exact kse_new F N fun D h' led F' N' lt _ hs=>post _ (.ref D) _ _ _ rfl (k D _ (rE c.w []) h' s.toks F' N' lt (by
    show Obj.SetObjOf _ _ _ _
    rw [show (fun k=>decide (k ∈ ([]:List Str)))=fun _=>false from funext fun k=>by simp]; exact hs)) (hr D)
theorem tR (hl:ae c.w nw a (rE c.w seen)) (hz:seen.length≤100) (hr:R (.bool (decide (x ∈ seen))) M nw):Do c (.cmp .In) [.str x t,.ref a] M nw R:=Do.cmp fun u v h1 h2 s Q S post=>by
  obtain ⟨_,rfl⟩:=aq h1; cases aa h2
  refine E2 S.news fun m news q91=>A3 q91 fun F N f=>?_
  clear q91
  refine E1 hl fun y q92=>A2 q92 fun q1 q2=>?_
  try clear hl
  clear q92
  refine E1 (f.ob _ q1) fun o q93=>A2 q93 fun ho hi=>?_
  clear q93
  have hs:o.SetObjOf (PySem.strKind PG c.w) (fun k=>decide (k ∈ seen)) seen.length:=q2 o hi
  have hb:seen.length < scanBound:=by unfold scanBound; omega
  exact wpAny_inSet_of (strKind_is _ _ _ _) rfl (hs.setOf (N _ ho).1 hb) (post _ (.bool (decide (x ∈ seen))) _ _ _ rfl (S.tok _) hr)
theorem m_add (hi:nw[i]? = some (a,rE c.w seen)) (hz:seen.length≤100) (hr:R (.builtin "set.add") M nw):Do c (.meth "add") [.ref a] M nw R :=
  eP (fun o' pl s Q h1 S hq=>by
    cases aa h1
    refine E3 (S.at hi) fun m o rest q91=>A5 q91 fun F hs N hne k=>?_
    clear q91
    exact kse_method (knd:=PySem.strKind PG c.w) N (.head hne) hs (by unfold scanBound; omega) hq) hr
theorem c_add (hi:nw[i]? = some (a,rE c.w seen)) (hz:seen.length≤100) (hx:x ∉ seen) (hr:R .none M (nw.set i (a,rE c.w (seen++[x])))):Do c .call [.builtin "set.add",.ref a,.str x 0] M nw R:=Do.call2 fun u v h1 h2 s Q S post=>by
  cases aa h1; obtain ⟨_,rfl⟩:=aq h2
  refine E3 (S.at hi) fun m o rest q91=>A5 q91 fun F hs N hne k=>?_
  clear q91
  refine kse_add (knd:=PySem.strKind PG c.w) F N (.head hne) hs (by unfold scanBound; omega) (strKind_is _ _ _ _) rfl fun h' so' F' N' hs'=>post _ .none _ _ _ rfl (k (rE c.w (seen++[x])) so' h' _ F' N' ?_) hr
  show Obj.SetObjOf _ _ _ _
  rw [if_neg (by simpa using hx)] at hs'
  rw [show (seen++[x]).length=seen.length+1 from by rw [length_append]; rfl,show (fun k=>decide (k ∈ seen++[x]))=fun k'=>decide (k' ∈ seen) || decide (k'=x) from funext fun k=>by simp [mem_append]]
  exact hs'
theorem ym {xs:List Value} (hl:ae c.w nw l (.list xs)) (hr:∀ I,R (.ref I) M ((I,.raw (LI.itObj l 0))::nw)):Do c .call [.builtin "iter",.ref l] M nw R:=Do.call1 fun u h1 s Q S post=>by
  cases aa h1
  refine E1 (S.isList hl) fun ys q91=>A2 q91 fun h hs=>?_
  clear q91
  refine E2 S.open fun m news q92=>A5 q92 fun F N f c93 k=>?_
  clear q92
  clear c93
  exact LI.iter_L F N h fun I h' F' N' lt=>post _ (.ref I) _ _ _ rfl (k I _ (.raw (LI.itObj l 0)) h' s.toks F' N' lt rfl) (hr I)
theorem tK {I:Addr} {j:Nat} (hl:ae c.w nw I (.raw (LI.itObj l j))) (hr:∀ u,R (.ref u) M ((u,.raw (LI.mw I))::nw)):Do c (.getA "__next__") [.ref I] M nw R:=Do.mk1 fun u t h1 ht s Q S post=>by
  cases aa h1
  obtain ⟨_,rfl⟩:=ht
  refine E2 S.open fun m news q91=>A5 q91 fun F N f c92 k=>?_
  clear q91
  clear c92
  refine E1 hl fun y q93=>A2 q93 fun q1 q2=>?_
  try clear hl
  clear q93
  refine E1 (f.ob _ q1) fun o q94=>A2 q94 fun ho hi=>?_
  clear q94
  have e:o=LI.itObj l j:=q2 o hi
  rw [e] at ho
  exact LI.attr_next F N ho fun x h' tk F' N' lt=>post _ (.ref x) _ _ _ rfl (k x _ (.raw (LI.mw I)) h' tk F' N' lt rfl) (hr x)
theorem gy {us vs:List (Str×Value)} (h:SimKV us vs) (k:Str):(valueAt us k).isSome=(valueAt vs k).isSome:=dF (bq h)
theorem SimKV.without {us vs:List (Str×Value)} (h:SimKV us vs) (k:Str):SimKV (without us k) (without vs k):=by
  show List.map _ (List.filter _ us)=List.map _ (List.filter _ vs)
  have e:∀ l:List (Str×Value),(l.filter fun p=>decide (p.1≠k)).map (fun p=>(p.1,vst p.2))=(l.map fun p=>(p.1,vst p.2)).filter fun p=>decide (p.1≠k):=fun l=>by rw [filter_map]; rfl
  exact (e us).trans ((congrArg _ h).trans (e vs).symm)
theorem vD {kvs kvs':List (Str×Value)} (hi:nw[i]? = some (d,.dict kvs)) (hz:kvs.length≤1000) (hx:(valueAt kvs x).isSome=true) (he:without kvs x=kvs') (hr:R .none M (nw.set i (d,.dict kvs'))):Do c .delI [.ref d,.str x t] M nw R:=Do.mk2 fun u v t h1 h2 ht s Q S post=>by
  cases aa h1; obtain ⟨_,rfl⟩:=aq h2; cases (show _=_ from ht)
  refine E3 (S.at hi) fun m o rest q91=>A5 q91 fun F q92 N hne k=>?_
  clear q91
  refine E1 q92 fun kws q93=>A2 q93 fun hs hd=>?_
  try clear q92
  clear q93
  exact wpAny_bind (kob_del (knd:=PySem.strKind PG c.w) F N (.head hne) hd (strKind_is _ _ _ _) ((gy hs x).trans hx) (by rw [hs.length,sizeLine_eq]; omega) fun h' o' F' N' hd'=>wpAny_pure (post _ .none _ _ _ rfl (k (.dict kvs') o' h' _ F' N' ⟨_,he▸hs.without x,hd'⟩) hr))
end
end
section
set_option tactic.hygienic false
section
variable {c:Cx} {M:FM} {nw:Led} {rm:Nat} {s:Shared}
theorem Cok0.at {A:Around} {E:Value→Shared→Prop} (H:Cok0 c rm) (hf:A.frames=c.A.frames) (hd:A.depth=c.A.depth) (hu:A.units=c.A.units) (hE:PassesOwn (model PG c.w) A c.env E):Cok0 (c.at A E) rm :=
  { K:=H.K,T:=H.T,hA:=hf.trans H.hA,fe:=H.fe,lf:=H.lf,above:=H.above,dp:=by have:=H.dp; show A.depth+rm < _; rw [hd]; exact this,un:=by have:=H.un; show A.units+10 * rm < _; rw [hu]; exact this,el:=H.el,eg:=H.eg,eb:=H.eb,ek:=H.ek,en:=H.en,ev:=H.ev,ec:=H.ec,vl:=H.vl,hE:=hE }
theorem StB.sw' {B:Heap} {A:Around} {E:Value→Shared→Prop} (S:StB B (c.at A E) M nw s):StB B c M nw s:=by
  refine A2 S fun e q91=>E2 q91 fun m news q92=>A4 q92 fun F N f k=>?_
  try clear S
  clear q92 q91
  exact ⟨e,m,news,F,N,⟨f.vars,f.ob,f.hid,f.nd⟩,k⟩
theorem cw.sw' {A:Around} {E:Value→Shared→Prop} {e:Addr} {cls:Value} {vs:List Value} (S:cw (c.at A E) M nw e cls vs s):cw c M nw e cls vs s:=by
  refine E2 S fun B t q91=>A5 q91 fun h1 h2 h3 h4 k=>?_
  try clear S
  clear q91
  exact ⟨B,t,h1,h2,h3,h4,fun h' tk q r=>(k h' tk q r).sw'⟩
variable {b:List Stmt} {ir ir2:List IS} {b₀:Stmt} {suite:List Stmt} {x:Str} {X T':String} {np hpos pos:Pos} {k k2:Nat} {R:Flow→FM→Led→Prop} {P:FM→Led→Prop}
theorem ku {Q:Flow→Shared→Prop} {E:Value→Shared→Prop} {env:Env} (post:∀ f' f M' n' s',pe f' f→St c M' n' s'→R f M' n'→Q f' s') {f' f:Flow} {M':FM} {n':Led} {s':Shared} (hf:pe f' f) (S:St c M' n' s') (hr:R f M' n') :
    (match (generalizing:=false) f' with | .next=>wpAny (model PG c.w) c.A (execs [] env) Q E s' | f=>Q f s'):=by
  have:=post f' f M' n' s' hf S hr
  cases f' <;> first | exact this | exact wpAny_execs_nil this
noncomputable def iI (c:Cx) (hs:List ExceptHandler) (Q:Flow→Shared→Prop):Value→Shared→Prop:=fun e s₁=>wpAny (model PG c.w) c.A (noteFrame e c.env) (fun _ s₂=>wpAny (model PG c.w) c.A (setFlight e none) (fun _ s₃=>wpAny (model PG c.w) c.A (handleBy e c.env hs) Q c.E s₃) c.E s₂) c.E s₁
theorem sm (H:Cok c rm) (FC:bo c) (hb:CB c.sc b ir) (hs:CB c.sc (b₀::suite) ir2) (hx:c.sc.names.lookup x=some .globalImplicit) (hm:(x,Value.type T') ∈ dB) (hd:(x == ("__debug__" : Str))=false) (hn:x ≠ "__name__")
    (hexc:isSubtype (.type T') (.type "BaseException")=pure true) (hnt:isSubtype (.type ((Manifest.find? T').elim "type" fun y=>y.metatype)) (.type "tuple")=pure false) (hsub:isSubtype (.type X) (.type T')=pure true)
    (h:∀ c2,c2.sc=c.sc→c2.w=c.w→Cok c2 rm→(∀ e vs (s':Shared) hp M' nw',Heap.MadeExcOf hp s'.heap e (.type X) vs→St c2 M' nw' { s' with heap:=hp }→dr nw' c.outer→P M' nw'→c2.E (.ref e) s')→wpS c2 k ir M nw R)
    (hh:∀ c2,c2.sc=c.sc→c2.w=c.w→Cok0 c2 rm→∀ M' nw',P M' nw'→wpS c2 k2 ir2 M' nw' R) :
    DoS c (.Try b [.ExceptHandler (some (.Name x np)) none (b₀::suite) hpos] [] [] pos) M nw R:=by
  unfold DoS
  intro s Q S post
  have H2:Cok (c.at c.A (iI c [.ExceptHandler (some (.Name x np)) none (b₀::suite) hpos] Q)) rm :=
    { H.toCok0.at rfl rfl rfl PassesOwn.looking with hh:=H.hh }
  refine wpAny_Try_except (wpAny_mono (cE hb (c.at c.A (iI c [.ExceptHandler (some (.Name x np)) none (b₀::suite) hpos] Q)) rm rfl H2.toCok0 k M nw R (h (c.at c.A (iI c [.ExceptHandler (some (.Name x np)) none (b₀::suite) hpos] Q)) rfl rfl H2 fun e vs s' hp M' nw' hx' S' FR hP=>?_) s _ S.sw fun f' f M' n' s' hf S' hr=>ku post hf S'.sw' hr) (fun _ _ x=>x) fun _ _ x=>x)
  exact sG H.toCok0 FC hx' S'.sw' FR fun s3 FL=>wE H.toCok0 FL hx hm hd hn hexc hnt hsub fun s4 S4 =>
    cE hs (c.at (c.A.mark (some (.ref e))) fun _ _=>False) rm rfl (H.toCok0.at rfl rfl rfl PassesOwn.never) k2 M' nw' R (hh (c.at (c.A.mark (some (.ref e))) fun _ _=>False) rfl rfl (H.toCok0.at rfl rfl rfl PassesOwn.never) M' nw' hP) s4 _ S4.sw fun f' f M2 n2 s2 hf S2 hr=>post f' f M2 n2 s2 hf S2.sw' hr
theorem sZ {C:Addr} (H:Cok c rm) (FC:bo c) (hb:CB c.sc b ir) (hs:CB c.sc (b₀::suite) ir2) (hx:c.sc.names.lookup x=some .globalImplicit) (hm:(x,Value.ref C) ∈ eV) (hd:(x == ("__debug__" : Str))=false) (q:ktsIn (FK c.w) C "BaseException" = true)
    (h:∀ c2,c2.sc=c.sc→c2.w=c.w→Cok c2 rm→bo c2→c2.outer=c.outer→(∀ e vs (s':Shared) M' nw',cw c2 M' nw' e (.ref C) vs s'→P M' nw'→c2.E (.ref e) s')→wpS c2 k ir M nw R)
    (hh:∀ c2,c2.sc=c.sc→c2.w=c.w→Cok0 c2 rm→∀ M' nw',P M' nw'→wpS c2 k2 ir2 M' nw' R) :
    DoS c (.Try b [.ExceptHandler (some (.Name x np)) none (b₀::suite) hpos] [] [] pos) M nw R:=by
  unfold DoS
  intro s Q S post
  have H2:Cok (c.at c.A (iI c [.ExceptHandler (some (.Name x np)) none (b₀::suite) hpos] Q)) rm :=
    { H.toCok0.at rfl rfl rfl PassesOwn.looking with hh:=H.hh }
  refine wpAny_Try_except (wpAny_mono (cE hb (c.at c.A (iI c [.ExceptHandler (some (.Name x np)) none (b₀::suite) hpos] Q)) rm rfl H2.toCok0 k M nw R (h (c.at c.A (iI c [.ExceptHandler (some (.Name x np)) none (b₀::suite) hpos] Q)) rfl rfl H2 ⟨FC.fr,FC.fm⟩ rfl fun e vs s' M' nw' FL hP=>?_) s _ S.sw fun f' f M' n' s' hf S' hr=>ku post hf S'.sw' hr) (fun _ _ x=>x) fun _ _ x=>x)
  exact mh FC FL.sw' fun s3 FL=>wX H.toCok0 FL hx hm hd q fun s4 S4 =>
    cE hs (c.at (c.A.mark (some (.ref e))) fun _ _=>False) rm rfl (H.toCok0.at rfl rfl rfl PassesOwn.never) k2 M' nw' R (hh (c.at (c.A.mark (some (.ref e))) fun _ _=>False) rfl rfl (H.toCok0.at rfl rfl rfl PassesOwn.never) M' nw' hP) s4 _ S4.sw fun f' f M2 n2 s2 hf S2 hr=>post f' f M2 n2 s2 hf S2.sw' hr
end
section
variable {c:Cx} {M:FM} {nw:Led} {rm:Nat} {R:Value→FM→Led→Prop} {u it l:Addr} {fo fi:Expr} {q p:Pos} {ie:IE} {j:Nat} {xs:List Value} {k kk:Nat}
theorem qA {V:Value→FM→Led→Prop} (H:Cok0 c rm) (he:CX c.sc (.ex (.Subscript fo fi q)) (.ex ie)) (h:wpE c kk ie M nw V) (h2:∀ v' v M' n' s Q,Sim v' v→V v M' n'→St c M' n' s→(∀ v' v M' n' s',Sim v' v→St c M' n' s'→R v M' n'→Q v' s')→wpAny (model PG c.w) c.A (callWith p v' [] [] []) Q c.E s):Do c (.ev (.Call (.Subscript fo fi q) [] [] p)) [] M nw R:=Do.mk fun vs' t hs ht s Q S post=>by
  cases hs.nil
  cases (show _=_ from ht)
  exact Call_ ((he.e c rm rfl H kk M nw).1 _ h s _ S fun v' v M' n' s' hv S' hV=>h2 v' v M' n' s' Q hv hV S' post)
theorem kZ {v:Value} (H:Cok0 c rm) (he:CX c.sc (.ex (.Subscript fo fi q)) (.ex ie)) (h:wpE c kk ie M nw fun v M' n'=>v = .ref u∧M'=M∧n'=nw) (hu:ae c.w nw u (.raw (LI.mw it))) (hi:nw[k]? = some (it,.raw (LI.itObj l j))) (hl:ae c.w nw l (.list xs)) (hx:xs[j]? = some v) (hr:R v M (nw.set k (it,.raw (LI.itObj l (j+1))))):Do c (.ev (.Call (.Subscript fo fi q) [] [] p)) [] M nw R :=
  qA H he h fun v' v2 M' n' s Q hv ⟨e1,e2,e3⟩ S post=>by
    subst e1 e2 e3
    cases aa hv
    refine E1 (S.isList hl) fun ys q91=>A2 q91 fun hL hs=>?_
    clear q91
    refine E1 (S.sees hu) fun ou q92=>A2 q92 fun hu1 hu2=>?_
    clear q92
    have eu:ou=LI.mw it:=hu1
    clear hu1
    subst eu
    refine E3 (S.at hi) fun m o rest q93=>A5 q93 fun F ho N hne kk=>?_
    clear q93
    have eo:o=LI.itObj l j:=ho
    clear ho
    subst eo
    refine E1 (hs.get hx) fun y q94=>A2 q94 fun hy hsy=>?_
    clear q94
    have hn:=N _ (.head _)
    exact LI.callWith_mw hu2 (LI.call_mw hu2 hn.1 fun A' Q' E' hA hQ hE=>LI.body_item hn.1 hL (by rw [List.getElem?_toArray]; exact hy) fun h' hi' hs'=>hQ _ _ (post _ v _ _ _ hsy (kk (.raw (LI.itObj l (j+1))) _ h' s.toks (F.change hs' hn.2.1 hn.2.2) ((show News c.h₀ c.L s.heap ([]++(it,LI.itObj l j)::rest) from N).setIn (fun _ h=>nomatch h) hne hs' hi') rfl) hr))
theorem nF (hh:c.A.handled=none) (H:Cok0 c rm) (he:CX c.sc (.ex (.Subscript fo fi q)) (.ex ie)) (h:wpE c kk ie M nw fun v M' n'=>v = .ref u∧M'=M∧n'=nw) (hu:ae c.w nw u (.raw (LI.mw it))) {front back:Led} (hi:nw=front++(it,.raw (LI.itObj l j))::back) (hl:ae c.w nw l (.list xs)) (hx:xs[j]? = none)
    (hE:∀ e (s':Shared) hp,Heap.MadeExcOf hp s'.heap e (.type "StopIteration") []→St c M (front++back) { s' with heap:=hp }→c.E (.ref e) s'):Do c (.ev (.Call (.Subscript fo fi q) [] [] p)) [] M nw R :=
  qA H he h fun v' v2 M' n' s Q hv ⟨e1,e2,e3⟩ S post=>by
    subst e1 e2 e3
    cases aa hv
    obtain ⟨ys,hL,hs⟩:=S.isList hl
    obtain ⟨ou,hu1,hu2⟩:=S.sees hu
    have eu:ou=LI.mw it:=hu1
    clear hu1
    subst eu
    obtain ⟨e,m,news,F,N,f⟩:=S
    obtain ⟨o,ho1,ho⟩:=f.ob (it,.raw (LI.itObj l j)) (by rw [hi]; exact mem_append_right _ (.head _))
    have eo:o=LI.itObj l j:=ho
    clear ho
    subst eo
    have hn:=N _ ho1
    have nd:it ∉ (front++back).map (·.1)++c.priv∧((front++back).map (·.1)++c.priv).Nodup:=by
      have:=f.nd
      rw [hi,map_append,map_cons,append_assoc,cons_append,cj,← append_assoc,← map_append] at this
      exact nodup_cons.mp this
    refine LI.callWith_mw hu2 (LI.call_mw hu2 hn.1 fun A' Q' E' hA hQ hE'=>LI.body_end (hA.trans hh) hn.1 hL (by rw [List.getElem?_toArray]; exact List.getElem?_eq_none (by rw [hs.length]; exact List.getElem?_eq_none_iff.mp hx)) fun h₁ h' e2 hs' hx'=>hE' _ _ (hE e2 _ h₁ hx' ?_))
    refine ⟨by rw [e],m,cp it news,F.change hs' hn.2.1 hn.2.2,fun p hp=>?_,f.mono (fun p hp hq=>ax.mpr ⟨hp,fun z=>nd.1 (mem_append_right _ (z▸hq))⟩) (fun p hp=>?_) nd.2⟩
    · obtain ⟨h1,h2⟩:=ax.mp hp
      exact ⟨(hs'.2 _ h2).trans (N p h1).1,(N p h1).2⟩
    · obtain ⟨o,h1,h2⟩:=f.ob p (by
        rw [hi]
        rcases mem_append.mp hp with hp | hp
        · exact mem_append_left _ hp
        · exact mem_append_right _ (.tail _ hp))
      exact ⟨o,ax.mpr ⟨h1,fun z=>nd.1 (mem_append_left _ (z▸mem_map_of_mem (f:=(·.1)) hp))⟩,h2⟩
end
end
section
set_option tactic.hygienic false
section
variable {c:Cx} {M:FM} {nw:Led} {rm:Nat} {R:Value→FM→Led→Prop}
theorem vM {a:Addr} (hr:R .none M nw):Do c .drop [.ref a] M nw R:=Do.mk1 fun u t h1 ht s Q S post=>by
  cases aa h1; obtain ⟨_,rfl⟩:=ht
  exact wpAny_bind (wpAny_standAt (wpAny_bind (wpAny_runValue (codeAny_builtin entry_let_go (show wpAny _ _ (ret .none) _ _ s from wpAny_pure (wpAny_pure (post _ .none _ _ _ rfl S hr)))))))
theorem Do.freezeM {op:Op} {vs:List Value} {front mid back:Led} (h:∀ mid',dL c.w mid mid'→Do c op vs M (front++(mid'++back)) R):Do c op vs M (front++(mid++back)) R:=Do.mk fun vs' t hs ht s Q S post=>by
  obtain ⟨e,m,news,F,N,f⟩:=id S
  have f1:ce c M mid m news:=f.mono (fun _ h _=>h) (fun p hp=>f.ob p (mem_append_right _ (mem_append_left _ hp))) (f.nd.sublist (((((sublist_append_left _ _).trans (sublist_append_right _ _)).map _)).append_right _))
  obtain ⟨mid',hz,fz⟩:=gi f1
  refine (h mid' hz).tr hs ht s Q ⟨e,m,news,F,N,f.mono (fun _ h _=>h) (fun p hp=>?_) ?_⟩ post
  · rcases mem_append.mp hp with hp | hp
    · exact f.ob p (mem_append_left _ hp)
    · rcases mem_append.mp hp with hp | hp
      · exact fz.ob p hp
      · exact f.ob p (mem_append_right _ (mem_append_right _ hp))
  · have:=f.nd
    rw [map_append,map_append] at this ⊢
    rw [hz.keys]; exact this
variable {name qual:Str} {params:Arguments} {body:List Stmt} {scope:Scope} {dV kV doc pm cdv ct oc:Value} {an od:Option Addr} {osl:Array (Option Value)} {f:Addr}
noncomputable def mL (names:List (Str×NameKind)) (xs:List Str):Bool:=(xs.all fun x=>names.lookup x == some .local) && names.all fun x=>x.2 != .cell
theorem rn {names:List (Str×NameKind)} {xs:List Str} (h:mL names xs=true):∀ x ∈ xs,names.lookup x=some .local:=fun x hx=>by
  have:=all_eq_true.mp (Bool.and_eq_true_iff.mp h).1 x hx
  simpa using this
theorem rA {names:List (Str×NameKind)} {xs:List Str} (h:mL names xs=true):∀ x ∈ names,x.2≠.cell:=fun x hx=>by
  have:=all_eq_true.mp (Bool.and_eq_true_iff.mp h).2 x hx
  simpa using this
theorem fx {args:List Value} {xs:List Str} {l1 own l2:Led} {M₀:FM} {ir:List IS} {k:Nat} (X:Value→List Value→Led→Prop) (H:Cok c (rm+1)) (FC:bo c) (FR:dr own c.outer)
    (ho:∀ w:World,RowW.prog (OpenRow.toRowW (OpenLaw.row Challenge.rw_il0094_01))=PG→(hd.heap_39 w.params).lookup f=some ⟨oc,od,.func (fnOf name qual params body scope dV kV doc pm an cdv ct),osl⟩) (hcd:∀ w:World,RowW.prog (OpenRow.toRowW (OpenLaw.row Challenge.rw_il0094_01))=PG→codeIn (hd.heap_39 w.params) cdv qual=true)
    (hbind:∀ s vs',aD vs' args→BindsTo s (fnOf name qual params body scope dV kV doc pm an cdv ct) ⟨vs',[]⟩ (xs.zip vs'))
    (hkind:mL scope.names xs=true) (hnd:bw scope.names=true)
    (hM:dg (af scope.names) (xs.zip args)=M₀) (hB:CB ⟨scope.names,af scope.names⟩ body ir)
    (hco:scope.isCoroutine=false) (hgen:scope.isGenerator=false) (hk:scope.kind = .function) (hn:nw=l1++(own++l2))
    (hx:∀ e cls vs' own' s',X cls vs' own'→cw c M (l1++(own'++l2)) e cls vs' s'→c.E (.ref e) s')
    (h:∀ c' oL,c'.sc=⟨scope.names,af scope.names⟩→c'.w=c.w→Cok c' rm→bo c'→(∃ es n,oL.data = .dict es n)→c'.outer=c.env::c.outer→dr ((c.L,FrP oL)::own) c'.outer →
      (∀ e cls vs' (s':Shared) hp M' nw' own',Heap.MadeExcOf hp s'.heap e cls vs'→St c' M' nw' { s' with heap:=hp }→dr nw' c'.outer→ar c.w nw' ((c.L,FrP oL)::own')→X cls vs' own'→c'.E (.ref e) s') →
      wpS c' k ir M₀ ((c.L,FrP oL)::own) fun fl _ nw'=>∃ own',ar c.w nw' ((c.L,FrP oL)::own')∧R (ko fl) M (l1++(own'++l2))) :
    Do c .call (.ref f::args) M nw R:=Do.mk fun vs' t hs ht s Q S post=>by
  refine E2 hs.cons fun f' vs q91=>A3 q91 fun e92 hf hvs=>?_
  clear q91
  clear hs
  first | subst e92 | cases e92
  cases aa hf
  cases (show _=_ from ht)
  refine wpAny_call ?_
  obtain ⟨mf,Ff⟩:=cJ (H:=H) S
  exact codeAny_call_function (fd:=fnOf name qual params body scope dV kV doc pm an cdv ct) (by have:=H.dp; omega) ((H.K.keeps Ff.keep) _ _ (ho c.w rfl)) rfl hco hgen rfl (codeRec_of (H.K.keeps Ff.keep) (hcd c.w rfl)) (hbind s vs hvs _ _ _ _ (gJ (X:=X) H FC FR (rn hkind) hnd hM hB hk (rA hkind) hn h hvs S post hx))
end
section
variable {σ:Type} {c:Cx} {M:FM} {nw:Led} {rm:Nat} {Ms:σ→FM} {R:Flow→FM→Led→Prop} {b:List IS} {k:Nat} {l:Addr}
theorem ox {j:Nat} {kvs:List (Str×Value)} (Ns:σ→Led) (P:List Str→σ→Prop) (s₀:σ) (H:Cok c rm) (hds:(l == sysModules)=false) {o:Obj} (hx:(aE.dict kvs).Is c.w o) (hk:∀ s,(l,.raw o) ∈ Ns s) (hM:M=Ms s₀) (hn:nw=Ns s₀) (hp:P (kvs.map (·.1)) s₀)
    (step:∀ I oi,Cok (c.hide I oi) rm→∀ x r s,P (x::r) s→wpS (c.hide I oi) k b ((Ms s).set j (some (.str x 0))) (Ns s) (LR c.w (SJ Ms Ns P) R r)) (done:∀ s,P [] s→R .next (Ms s) (Ns s)):DoF c (.one j) (.ref l) b M nw R :=
  jt (k:=k) (SJ Ms Ns P) H hds hx (fun r M nw ⟨s,e1,e2,_⟩=>by subst e2; exact hk s) ⟨s₀,hM,hn,hp⟩ (fun I oi h3 x r M nw ⟨s,e1,e2,hp⟩=>by subst e1 e2; exact step I oi h3 x r s hp) fun M nw ⟨s,e1,e2,hp⟩=>⟨_,.refl _,by subst e1 e2; exact done s hp⟩
end
theorem DoW.pre {c:Cx} {M:FM} {nw nw2:Led} {t:IE} {a b:List IS} {R:Flow→FM→Led→Prop} (hw:ar c.w nw nw2) (h:DoW c t a b M nw2 R):DoW c t a b M nw R:=by
  unfold DoW at h ⊢
  exact fun test body orelse pos s Q h1 h2 h3 S post=>h test body orelse pos s Q h1 h2 h3 (S.weak hw) post
theorem ar.dropL {w:World}:∀ {a b:Led},ar w (a++b) b
  | [],_=>.refl _
  | _::_,_=>.drop ar.dropL
theorem mH {w:World} {l1 mid mid' FO l2:Led} (hz:dL w mid mid'):ar w (l1++((mid'++FO)++l2)) (l1++(mid++(FO++l2))):=ar.pre (by rw [append_assoc]; exact hz.weak.app _) l1
theorem sM {w:World} {l1 mid mid' FO l2:Led} {p:Addr×aE} (hz:dL w mid mid'):ar w (l1++((p::(mid'++FO))++l2)) (p::(l1++(mid++(FO++l2)))):=(ar.perm (nw2:=p::(l1++((mid'++FO)++l2))) perm_middle.symm).trans (.keep (mH hz))
end
section
set_option tactic.hygienic false
noncomputable def F62 (w:World):Prop:=PG=(RowW.prog (OpenRow.toRowW (OpenLaw.row Challenge.rw_il0094_01)))→excIn (hd.heap_39 w.params) 62 [.type "ValueError",.type "Exception",.type "BaseException",.type "object"] "ValueError.__new__" = true∧ktsIn (hd.heap_39 w.params) 62 "BaseException" = true
theorem f62 (w:World):F62 w:=by
  unfold F62; k_fill; intro _; exact ⟨by k_exc,by kts_isx⟩
section
variable {c:Cx} {M:FM} {nw:Led} {rm:Nat}
section
variable {R:Flow→FM→Led→Prop} {x:Str} {np cpos pos:Pos} {e₀:Expr} {rest:List Expr} {ies:List IE}
theorem ic {cls newId initId:String} (FC:ExcCallFacts cls newId initId) (FR:ExcRaiseFacts cls) (H:Cok c rm) (hx:c.sc.names.lookup x=some .globalImplicit) (hm:(x,Value.type cls) ∈ dB) (hd:(x == ("__debug__" : Str))=false) (hn:x ≠ "__name__")
    (he:CX c.sc (.exs (e₀::rest)) (.exs ies)) (h:wpL (wpE c 40) ies M nw fun vs M' nw'=>vs.length≤1000∧∀ e vs' (s':Shared) hp,aD vs' vs→Heap.MadeExcOf hp s'.heap e (.type cls) vs'→St c M' nw' { s' with heap:=hp }→c.E (.ref e) s') :
    DoS c (.Raise (some (.Call (.Name x np) (e₀::rest) [] cpos)) none pos) M nw R:=by
  unfold DoS
  intro s Q S post
  have hs:=he.es.stars
  refine Raise_madeB FC FR H.hh (uA H.toCok0 S hx hm hd hn ⟨rfl,spl he.es rfl H.toCok0 cpos 40 M nw _ h s _ S fun vs' vs M' n' s' hv S' hr=>⟨hv.szl hr.1,fun h' e hx'=>hr.2 e vs' { s' with heap:=h' } s'.heap hv (Heap.MadeExc.of hx') S'⟩⟩) (cz (hs _ (.head _))) (ch fun e he=>hs e (.tail _ he))
theorem oO (H:Cok c rm) (hx:c.sc.names.lookup x=some .globalImplicit) (hm:(x,Value.ref 62) ∈ eV) (hd:(x == ("__debug__" : Str))=false)
    (he:CX c.sc (.exs (e₀::rest)) (.exs ies)) (h:wpL (wpE c 40) ies M nw fun vs M' nw'=>vs.length≤1000∧∀ e vs' (s':Shared) hp,aD vs' vs→Heap.MadeExcOf hp s'.heap e (.ref 62) vs'→St c M' nw' { s' with heap:=hp }→c.E (.ref e) s') :
    DoS c (.Raise (some (.Call (.Name x np) (e₀::rest) [] cpos)) none pos) M nw R:=by
  unfold DoS
  intro s Q S post
  have hs:=he.es.stars
  have O:=own_of_in H.K (topRead_of H.T) (iq c.w _ hm rfl) (f62 c.w rfl).1
  obtain ⟨tl,N,nm,q,bs,hdct,sn,sub,ab,col,dd,k0,k1,k2,k3,k5,mN,hC,hN,hni,T⟩:=O.obj
  refine wpAny_Raise_call_subT (C:=62) (nm:=nm) (q:=q) (N:=N) (bs:=bs) (bm:=tl) (hdct:=hdct) (sn:=sn) (sub:=sub) (ab:=ab) (col:=col) (dd:=dd) (k0:=k0) (k1:=k1) (k2:=k2) (k3:=k3) (k5:=k5)
    PySem.F.excBase_ValueError (mN:=mN) (T.hasType PySem.F.excBase_ValueError.hasBase) H.hh (by rw [cz (hs _ (.head _))]; show (false || (backTo cpos (starEach rest c.env)).any (·.1))=false; rw [ch fun e he=>hs e (.tail _ he)]; rfl) hni (wB H.toCok0 S hx hm hd ⟨rfl,?_⟩)
  have h1:=spl he.es rfl H.toCok0 cpos 40 M nw _ h s (fun vs s₂=>vs.length≤sizeLine∧(∀ b o,c.h₀.get? b=some o→s₂.heap.get? b=some o)∧∀ h' e,Heap.MadeExcOf s₂.heap h' e (.ref 62) vs→c.E (.ref e) { s₂ with heap:=h' }) S fun vs' vs M' n' s' hv S' hr=>⟨hv.szl hr.1,by obtain ⟨m,news,F,_⟩:=S'.ex; exact F.keep,fun h' e hx'=>hr.2 e vs' { s' with heap:=h' } s'.heap hv hx' S'⟩
  rw [cz (hs _ (.head _))] at h1 ⊢
  exact Calls.evalArgs_plain (wpAny_mono h1 (fun vs s₂ h₂=>⟨rfl,h₂.1,h₂.2.1 _ _ hC,hN.keeps h₂.2.1,T.keeps h₂.2.1,h₂.2.2⟩) fun _ _ y=>y)
end
section
variable {R:Value→FM→Led→Prop}
theorem sU {y:Str} {k:Nat} {p p2:Pos} (hr:R (.str y 0) M nw):Do c (.ev (.JoinedStr [.Constant (.str y) k p] p2)) [] M nw R:=Do.mk fun vs' t hs ht s Q S post=>by
  cases hs.nil
  cases (show _=_ from ht)
  exact wpAny_JoinedStr_one (wpAny_Constant_str (post _ (.str _ 0) _ _ _ rfl (S.tok _) hr))
theorem mW {a b x:Str} {k k2:Nat} {p p2 p3 p4 p5:Pos} {n:Str} {i:Nat} (H:Cok0 c rm) (hx:cb c.sc n=some i) (hdb:(n == ("__debug__" : Str))=false) (hv:M[i]? = some (some (.str x 0))) (ha:a.length≤100) (hb:b.length≤100) (hl:(reprText x).length≤100) (hr:R (.str (a++reprText x++b) 0) M nw) :
    Do c (.ev (.JoinedStr [.Constant (.str a) k p,.FormattedValue (.Name n p2) 114 none p3,.Constant (.str b) k2 p4] p5)) [] M nw R:=Do.mk fun vs' t hs ht s Q S post=>by
  cases hs.nil
  cases (show _=_ from ht)
  have e1:(Str.empty++a).length=a.length:=by rw [Str.length_append]; exact Nat.zero_add _
  refine wpAny_JoinedStr (wpAny_Constant_str ⟨a,_,rfl,by rw [e1,sizeLine_eq]; (clear hb hl e1; omega),?_⟩)
  refine wpAny_FormattedValue_repr (gb (R:=fun v M' n'=>v = .str x 0∧M'=M∧n'=nw) H hx hdb hv ⟨rfl,rfl,rfl⟩ _ _ (S.tok _) fun v' v M' n' s' hv' S' ⟨e2,e3,e4⟩=>?_)
  subst e2 e3 e4
  obtain ⟨_,rfl⟩:=aq hv'
  refine wpAny_pyReprObj_str (SB.field_str (fun t' k=>⟨reprText x,_,rfl,by rw [Str.length_append,e1,sizeLine_eq]; (clear hb e1; omega),wpAny_Constant_str ⟨b,_,rfl,by rw [Str.length_append,Str.length_append,e1,sizeLine_eq]; (clear e1; omega),by rw [Str.length_append,Str.length_append,e1,sizeLine_eq]; (clear e1 hv; omega),post _ (.str (a++reprText x++b) 0) _ _ _ ?_ (((S'.tok _).tok _).tok _) hr⟩⟩) (by rw [sizeLine_eq]; (clear ha hb e1; omega))) (by rw [sizeLine_eq]; (clear ha hb e1; omega))
  show Value.str _ 0=Value.str _ 0
  congr 1
  have:∀ s t:Str,s.cps=t.cps→s=t:=fun s t h=>by cases s; cases t; exact congrArg _ h
  exact this _ _ (by simp [Str.cps_append,Str.empty])
noncomputable def uH (X:String) (t:Addr):aE:=.obj fun o=>o.cls = .type X∧∃ ws,o.data = .fields ws∧ws[0]? = some (.ref t)
noncomputable def uZ (m:Str):aE:=.obj fun o=>∃ n tk,o.cls = .type "tuple" ∧ o.data = .seq #[.str m tk] n
theorem tI {X n:String} {e t:Addr} {m:Str} (FX:ExcStrFacts X n) (H:Cok0 c (rm+1)) (h1:ae c.w nw e (uH X t)) (h2:ae c.w nw t (uZ m)) (hr:R (.str m 0) M nw):Do c .call [.type "str",.ref e] M nw R:=Do.mk2 fun f u t0 h0 h1' ht s Q S post=>by
  cases aR h0; cases aa h1'; cases (show _=_ from ht)
  refine E1 (S.sees h1) fun oe q91=>A2 q91 fun q92 a4=>?_
  clear q91
  refine A2 q92 fun a1 q93=>E1 q93 fun ws q94=>A2 q94 fun a2 a3=>?_
  try clear q92
  clear q94 q93
  refine E1 (S.sees h2) fun ot q95=>A2 q95 fun q96 b3=>?_
  clear q95
  refine E2 q96 fun n' tk q97=>A2 q97 fun b1 b2=>?_
  try clear q96
  clear q97
  exact PySem.P.str_of_exc_one FX (by have:=H.un; omega) ⟨oe,ws,a4,a1,a2,a3⟩ ⟨ot,n',b3,b1,b2⟩ (post _ (.str m 0) _ _ _ rfl S hr)
end
end
end
section
set_option tactic.hygienic false
noncomputable def mR:List dA→FM→(Str→Option Value)→FM
  | .loc x::ls,_::M,m=>m x::mR ls M m
  | _::ls,v::M,m=>v::mR ls M m
  | _,_,_=>[]
theorem gT {news:List (Addr×Obj)} {m m':Str→Option Value}:∀ {vs:List dA} {M:FM},wx news m vs M→wx news m' vs (mR vs M m')
  | [],[],_=>⟨rfl,fun i l v h=>by cases h⟩
  | [],_::_,h=>nomatch h.1
  | _::_,[],h=>nomatch h.1
  | l::ls,v::M,h=>by
    have ih:=gT (m':=m') (vs:=ls) (M:=M) ⟨Nat.succ.inj h.1,fun i l v h1 h2=>h.2 (i+1) l v h1 h2⟩
    have h0:=h.2 0 l v rfl rfl
    clear h
    cases l with
    | loc x =>
      refine ⟨congrArg (· + 1) ih.1,fun i l' v' h1 h2=>?_⟩
      cases i with
      | zero=>cases h1; cases h2; exact rfl
      | succ i=>exact ih.2 i l' v' h1 h2
    | cell x a =>
      refine ⟨congrArg (· + 1) ih.1,fun i l' v' h1 h2=>?_⟩
      cases i with
      | zero=>cases h1; cases h2; exact h0
      | succ i=>exact ih.2 i l' v' h1 h2
    | dead =>
      refine ⟨congrArg (· + 1) ih.1,fun i l' v' h1 h2=>?_⟩
      cases i with
      | zero=>cases h1; cases h2; trivial
      | succ i=>exact ih.2 i l' v' h1 h2
section
variable {c:Cx} {M:FM} {nw:Led} {rm:Nat} {s:Shared} {e:Addr} {X T':String} {x nm:Str} {i:Nat} {b₀:Stmt} {suite:List Stmt} {pos np:Pos} {rest:List ExceptHandler} {Q:Flow→Shared→Prop} {E:Value→Shared→Prop}
theorem vV {msg:Str} {tk:Tok} (H:Cok0 c rm) (FL:cw c M nw e (.type X) [.str msg tk] s) (hx:c.sc.names.lookup x=some .globalImplicit) (hm:(x,Value.type T') ∈ dB) (hd:(x == ("__debug__" : Str))=false) (hn:x ≠ "__name__")
    (hexc:isSubtype (.type T') (.type "BaseException")=pure true) (hnt:isSubtype (.type ((Manifest.find? T').elim "type" fun y=>y.metatype)) (.type "tuple")=pure false) (hsub:isSubtype (.type X) (.type T')=pure true) (hnm:cb c.sc nm=some i) (hlo:c.sc.names.lookup nm=some .local)
    (k:∀ t s3 (Q':Flow→Shared→Prop),St c (M.set i (some (.ref e))) ((e,uH X t)::(t,uZ msg)::nw) s3→(∀ f M' n' s4,St c M' n' s4→(∀ M2 s5,St c M2 n' s5→Q f s5)→Q' f s4)→wpAny (model PG c.w) (c.A.mark (some (.ref e))) (execs (b₀::suite) c.env) Q' (fun _ _=>False) s3) :
    wpAny (model PG c.w) c.A (handleBy (.ref e) c.env (.ExceptHandler (some (.Name x np)) (some nm) (b₀::suite) pos::rest)) Q E s:=by
  have S:=FL.now
  refine E2 FL fun B t q91=>A5 q91 fun hfl hnew htup gB close=>?_
  try clear FL
  clear q91
  refine E1 hfl.2.2.2.at.there fun ob q92=>A2 q92 fun hob hobc=>?_
  clear q92
  refine wpAny_handleBy_builtin_as (X:=X) (T:=T') (b:=true) hexc hnt hsub (uA H S hx hm hd hn ⟨rfl,⟨ob,hob,hobc⟩,?_⟩)
  refine lands_againW hfl fun h₆ hfl₆ hsm₆=>?_
  refine A2 (close h₆ s.toks hfl₆.1 hsm₆) fun e0 q93=>E2 q93 fun m news q94=>A4 q94 fun F N f kB=>?_
  clear q94 q93
  refine E2 hfl₆.first fun oe ws q95=>A4 q95 fun hoe hoec hoed hoe0=>?_
  clear q95
  refine E2 (htup.of_slots hsm₆) fun ot nt q96=>A3 q96 fun hot hotc hotd=>?_
  clear q96
  have da:∀ b,B.get? b=none→c.h₀.get? b=none:=fun b hb=>by
    cases q:c.h₀.get? b with
    | none=>rfl
    | some o=>have:=gB _ _ q; rw [hb] at this; cases this
  have off:∀ b o,B.get? b=none→h₆.get? b=some o→(∀ es n,o.data≠.dict es n)→∀ p ∈ news,p.1≠b:=fun b o hb ho hd p hp z=>by
    subst z
    rcases kB p hp with q | ⟨es,n,q⟩
    · rw [hb] at q; cases q
    · have:=(N p hp).1
      rw [show ({ s with heap:=h₆,toks:=s.toks }:Shared).heap.get? p.1=some o from ho] at this
      cases this
      exact hd _ _ q
  refine E3 (id F.ns) fun oL esL epL q97=>A3 q97 fun hgL hdL _=>?_
  clear q97
  have notL:∀ b o,h₆.get? b=some o→(∀ es n,o.data≠.dict es n)→b≠c.L:=fun b o ho hd z=>by
    subst z
    rw [show ({ s with heap:=h₆,toks:=s.toks }:Shared).heap.get? c.L=some o from ho] at hgL
    cases hgL
    exact hd _ _ hdL
  have de:∀ es n,oe.data≠.dict es n:=fun es n q=>by rw [hoed] at q; cases q
  have dt:∀ es n,ot.data≠.dict es n:=fun es n q=>by rw [hotd] at q; cases q
  have het:e≠t:=fun z=>by
    clear k hfl hnew htup hob hfl₆ hoe0
    subst z
    rw [hoe] at hot
    cases hot
    rw [hoed] at hotd; cases hotd
  have S6:St c M ((e,uH X t)::(t,uZ msg)::nw) { s with heap:=h₆,toks:=s.toks }:=by
    refine ⟨e0,m,(e,oe)::(t,ot)::news,F,fun p hp=>?_,((f.cons (D:=t) (o:=ot) (y:=uZ msg) (off t ot hnew hot dt) ⟨nt,tk,hotc,hotd⟩).cons (D:=e) (o:=oe) (y:=uH X t) (fun p hp=>?_) ⟨hoec,ws,hoed,hoe0⟩)⟩
    · clear k hfl htup hob f kB hoec hoed hoe0 hotc hotd off het
      rcases mem_cons.mp hp with rfl | hp
      · exact ⟨hoe,notL _ _ hoe de,da _ hfl₆.2.1⟩
      · rcases mem_cons.mp hp with rfl | hp
        · exact ⟨hot,notL _ _ hot dt,da _ hnew⟩
        · exact N p hp
    · clear hfl hnew htup N f kB hoe0 hot hotc hotd dt
      rcases mem_cons.mp hp with rfl | hp
      · exact fun z=>het z.symm
      · exact off e oe hfl₆.2.1 hoe de p hp
  have H2:Cok0 (c.at (c.A.mark (some (.ref e))) fun _ _=>False) rm:=H.at rfl rfl rfl PassesOwn.never
  have hk:c.env.kindOf nm=some .local:=by unfold Env.kindOf; rw [H.en]; exact hlo
  have asg:=bi (c:=c.at (c.A.mark (some (.ref e))) fun _ _=>False) (M:=M) (n:=(e,uH X t)::(t,uZ msg)::nw) (R:=fun M' n'=>M'=M.set i (some (.ref e))∧n'=(e,uH X t)::(t,uZ msg)::nw) H2 hnm (v:=.ref e) (v':=.ref e) rfl ⟨rfl,rfl⟩ { s with heap:=h₆,toks:=s.toks }
    (fun _ s₃=>wpAny (model PG c.w) (c.A.mark (some (.ref e))) (execs (b₀::suite) c.env) (fun f s₄=>wpAny (model PG c.w) c.A (do bindName c.env nm .none; unbindBehindTheSuite c.env nm pos) (fun _ s₅=>Q f s₅) E s₄) (fun _ _=>False) s₃) S6.sw fun M' n' s3 S3 ⟨q1,q2⟩=>?_
  · exact wpAny_mono asg (fun _ s3 h3=>wpAny_mono h3 (fun _ _ y=>y) fun _ _ y=>y.elim) fun _ _ y=>y.elim
  · subst q1 q2
    refine k t s3 _ S3.sw' fun f M' n' s4 S4 post=>?_
    obtain ⟨e4,m4,news4,F4,N4,f4⟩:=S4
    refine wpAny_nameGoes hk (H.el▸F4.ns) (by rw [H.ek]; rfl) fun h' m' hns hsb=>?_
    refine post (mR c.vs M' m') _ (St.mk' (s:=s4) e4 (m:=m') (news:=news4) ⟨H.el▸hns,fun b o q=>?_,F4.above⟩ (fun p hp=>⟨?_,(N4 p hp).2⟩) ⟨gT f4.vars,f4.ob,f4.hid,f4.nd⟩)
    · exact ((H.el▸hsb).2 b fun z=>by rw [z,kts_self F4] at q; cases q).trans (F4.keep b o q)
    · exact ((H.el▸hsb).2 p.1 (N4 p hp).2.1).trans (N4 p hp).1
variable {b:List Stmt} {ir ir2:List IS} {hpos:Pos} {kf k2:Nat} {R:Flow→FM→Led→Prop} {P:FM→Led→Str→Prop}
theorem qk (H:Cok c rm) (FC:bo c) (hb:CB c.sc b ir) (hs:CB c.sc (b₀::suite) ir2) (hx:c.sc.names.lookup x=some .globalImplicit) (hm:(x,Value.type T') ∈ dB) (hd:(x == ("__debug__" : Str))=false) (hn:x ≠ "__name__")
    (hexc:isSubtype (.type T') (.type "BaseException")=pure true) (hnt:isSubtype (.type ((Manifest.find? T').elim "type" fun y=>y.metatype)) (.type "tuple")=pure false) (hsub:isSubtype (.type X) (.type T')=pure true) (hnm:cb c.sc nm=some i) (hlo:c.sc.names.lookup nm=some .local)
    (h:∀ c2,c2.sc=c.sc→c2.w=c.w→Cok c2 rm→bo c2→c2.outer=c.outer→(∀ e msg tk (s':Shared) M' nw',cw c2 M' nw' e (.type X) [.str msg tk] s'→P M' nw' msg→c2.E (.ref e) s')→wpS c2 kf ir M nw R)
    (hh:∀ c2,c2.sc=c.sc→c2.w=c.w→Cok0 c2 rm→∀ e t M' nw' msg,P M' nw' msg→wpS c2 k2 ir2 (M'.set i (some (.ref e))) ((e,uH X t)::(t,uZ msg)::nw') fun f _ n=>∀ M2,R f M2 n) :
    DoS c (.Try b [.ExceptHandler (some (.Name x np)) (some nm) (b₀::suite) hpos] [] [] pos) M nw R:=by
  unfold DoS
  intro s Q S post
  have H2:Cok (c.at c.A (iI c [.ExceptHandler (some (.Name x np)) (some nm) (b₀::suite) hpos] Q)) rm :=
    { H.toCok0.at rfl rfl rfl PassesOwn.looking with hh:=H.hh }
  refine wpAny_Try_except (wpAny_mono (cE hb (c.at c.A (iI c [.ExceptHandler (some (.Name x np)) (some nm) (b₀::suite) hpos] Q)) rm rfl H2.toCok0 kf M nw R (h (c.at c.A (iI c [.ExceptHandler (some (.Name x np)) (some nm) (b₀::suite) hpos] Q)) rfl rfl H2 ⟨FC.fr,FC.fm⟩ rfl fun e msg tk s' M' nw' FL hP=>?_) s _ S.sw fun f' f M' n' s' hf S' hr=>ku post hf S'.sw' hr) (fun _ _ x=>x) fun _ _ x=>x)
  exact mh FC FL.sw' fun s3 FL=>vV H.toCok0 FL hx hm hd hn hexc hnt hsub hnm hlo fun t s4 Q' S4 post' =>
    cE hs (c.at (c.A.mark (some (.ref e))) fun _ _=>False) rm rfl (H.toCok0.at rfl rfl rfl PassesOwn.never) k2 _ _ _ (hh (c.at (c.A.mark (some (.ref e))) fun _ _=>False) rfl rfl (H.toCok0.at rfl rfl rfl PassesOwn.never) e t M' nw' msg hP) s4 _ S4.sw fun f' f M2 n2 s2 hf S2 hr=>post' f' M2 n2 s2 S2.sw' fun M3 s5 S5=>post f' f M3 n2 s5 hf S5 (hr M3)
end
end
section
set_option tactic.hygienic false
noncomputable def pn (d:Addr):Obj:={ cls:=.type "dict_values",data:=.fields #[.ref d] }
section
variable {c:Cx} {M:FM} {nw:Led} {rm:Nat} {k i:Nat} {elt:IE} {ifs:List IE} {d vw:Addr} {kvs:List (Str×Value)}
section
variable {R:Value→FM→Led→Prop}
theorem rS (hl:ae c.w nw d (.dict kvs)) (hr:R (.builtin "dict.values") M nw):Do c (.meth "values") [.ref d] M nw R :=
  eP (fun o' pl s Q h1 S hq=>by
    cases aa h1
    refine E4 (S.dict hl) fun m news kws o q91=>A5 q91 fun F N hm hd hs=>?_
    clear q91
    exact kdl_method (knd:=PySem.strKind PG c.w) PySem.F.slot_dict_values PySem.F.type_dict_values N hm hd hq) hr
theorem sD (lo:(d == sysModules)=false) (hl:ae c.w nw d (.dict kvs)) (hr:∀ D,R (.ref D) M ((D,.raw (pn d))::nw)):Do c .call [.builtin "dict.values",.ref d] M nw R:=Do.call1 fun u h1 s Q S post=>by
  cases aa h1
  refine E4 (S.dict hl) fun m0 news0 kws o0 q91=>A5 q91 fun F0 N0 hm0 hd0 hs=>?_
  clear q91
  refine E2 S.open fun m news q92=>A5 q92 fun F N f c93 kk=>?_
  clear q92
  clear c93
  refine E1 hl fun y q94=>A2 q94 fun q1 q2=>?_
  try clear hl
  clear q94
  refine E1 (f.ob _ q1) fun o q95=>A2 q95 fun ho hi=>?_
  clear q95
  refine E1 (q2 o hi) fun kws q96=>A2 q96 fun hs hd=>?_
  clear q96
  exact kdl_view_values (knd:=PySem.strKind PG c.w) F N ho hd lo fun D h' F' N' lt=>post _ (.ref D) _ _ _ rfl (kk D _ (.raw (pn d)) h' s.toks F' N' lt rfl) (hr D)
end
variable {R:Value→FM→Led→Prop}
theorem nL {kws kvs:List (Str×Value)} (h:SimKV kws kvs):aD (kws.map (·.2)) (kvs.map (·.2)):=by
  have:=congrArg (List.map (·.2)) h
  show (kws.map (·.2)).map vst=(kvs.map (·.2)).map vst
  rw [List.map_map,List.map_map] at this ⊢
  exact this
theorem nX (J:List Value→List Value→Prop) (H:Cok c rm) (hv:ae c.w nw vw (.raw (pn d))) (hl:ae c.w nw d (.dict kvs)) (hsz:kvs.length≤1000) (hj:J (kvs.map (·.2)) []) (step:bg c rm k M nw J elt (.one i) ifs)
    (done:∀ acc,J [] acc→∀ D,R (.ref D) M ((D,.list acc)::nw)):DoC c k elt (.one i) ifs (.ref vw) M nw R :=
  DoC.mk' H fun eltE tE itE ifsE scope pos cl ht v' s RR nwr m news hv' e F N f hz fz e3 e2 hn hst hfin h0=>by
    cases aa hv'
    obtain ⟨y,hy1,hy2⟩:=hl
    obtain ⟨o,ho,hi⟩:=f.ob _ hy1
    obtain ⟨kws,hs,hd⟩:=hy2 o hi
    obtain ⟨z,hz1,hz2⟩:=hv
    obtain ⟨ov,hov,hiv⟩:=f.ob _ hz1
    have e4:ov=pn d:=hz2 ov hiv
    have e0:(kws.map fun p=>Itm.val p.2)=(kws.map (·.2)).map .val:=by rw [List.map_map]; rfl
    exact nN (fun _=>JO c scope.names nwr M J) H.hh ⟨ov,(N _ hov).1,by rw [e4]; rfl,by rw [e4]; rfl⟩ (by cases ht; exact fun _ _=>rfl) e3 e2 F N (Src.led ho) hd (by rw [hs.length]; exact hsz) (e0▸h0 J _ _ (iy (nL hs)) hj) (hst _ _ _ J (fun p hp=>by rw [mem_singleton.mp hp]; exact io hz fz N ho (mem_map_of_mem (f:=(·.1)) hy1)) step.h) (hfin J done)
theorem kQ {α β:Type} {as:List α} (e:α→Value) (e':β→Value) (q:α→Bool) (g:α→β) (H:Cok c rm) (hv:ae c.w nw vw (.raw (pn d))) (hl:ae c.w nw d (.dict kvs)) (ha:kvs.map (·.2)=as.map e) (hsz:as.length≤1000) (step:bg c rm k M nw (GJ e e' q g as) elt (.one i) ifs) (done:∀ D,R (.ref D) M ((D,.list (((as.filter q).map g).map e'))::nw)):DoC c k elt (.one i) ifs (.ref vw) M nw R :=
  nX _ H hv hl (by have:=congrArg List.length ha; rw [length_map,length_map] at this; omega) (ha▸GJ.start) step fun acc h D=>h.done▸done D
end
end
section
set_option tactic.hygienic false
theorem dr.mono {a b:Led} {l:List Env} (h:dr a l) (k:∀ p ∈ a,p ∈ b):dr b l:=fun env he=>by
  refine A2 (h env he) fun h1 q91=>E2 q91 fun b' o' q92=>A3 q92 fun h2 h3 h4=>?_
  clear q92 q91
  exact ⟨h1,b',o',h2,k _ h3,h4⟩
theorem dr.push {c:Cx} {rm:Nat} {FO:Led} {oL:Obj} (H:Cok0 c rm) (FC:bo c) (hd:∃ es n,oL.data = .dict es n) (FR:dr FO c.outer):dr ((c.L,FrP oL)::FO) (c.env::c.outer):=fun env he=>by
  rcases mem_cons.mp he with rfl | he
  · exact ⟨H.ek,c.L,oL,FC.fm,.head _,hd⟩
  · refine A2 (FR env he) fun k1 q91=>E2 q91 fun b o q92=>A3 q92 fun k2 k3 k4=>?_
    clear q92 q91
    exact ⟨k1,b,o,k2,.tail _ k3,k4⟩
noncomputable def fj (ad:List NA) (np:Str→Int):List Str:=(ad.filter fun n=>decide (np n.key=0)).map (·.key)
section
variable {w:World} {S SD DD RN:Addr} {rs:List Str} {po nf:Int} {ad:List NA} {np:Str→Int} {sc:Str→List Str} {t:Led} {p q:Addr×aE}
theorem jT {α:Type} (p:α) (s A B C t:List α):(s++(A++(B++(C++(p::t))))).Perm (p::(s++(A++(B++(C++t))))) :=
  have h:∀ (X Y Z:List α),Y.Perm (p::Z)→(X++Y).Perm (p::(X++Z)):=fun X Y Z h=>(h.append_left X).trans perm_middle
  h s _ _ (h A _ _ (h B _ _ (h C _ _ (.refl _))))
theorem wT:ar w (p::so0 w S SD DD ad np sc t) (so0 w S SD DD ad np sc (p::t)):=.perm (jT p _ _ _ _ _)
theorem my:(so1 w S SD DD RN rs po nf ad np sc (p::t)).Perm (p::so1 w S SD DD RN rs po nf ad np sc t):=jT p (srL w S SD DD (.ref RN) po nf ad) ((RN,.list (ac rs))::nA ad np) (nB ad sc) (nC ad) t
theorem gp:ar w (so1 w S SD DD RN rs po nf ad np sc (p::t)) (p::so1 w S SD DD RN rs po nf ad np sc t):=.perm my.symm
theorem uf:ar w (p::so1 w S SD DD RN rs po nf ad np sc t) (so1 w S SD DD RN rs po nf ad np sc (p::t)):=.perm my
theorem sC:ar w ((RN,.list (ac rs))::q::p::(srL w S SD DD (.ref RN) po nf ad++(nA ad np++(nB ad sc++(nC ad++t))))) (so1 w S SD DD RN rs po nf ad np sc (p::t)) :=
  (ar.keep (.drop (.refl _))).trans ((ar.perm (nw:=(RN,.list (ac rs))::p::(srL w S SD DD (.ref RN) po nf ad++(nA ad np++(nB ad sc++(nC ad++t))))) (nw2:=p::so1 w S SD DD RN rs po nf ad np sc t) ((List.Perm.cons p (perm_middle (l₁:=srL w S SD DD (.ref RN) po nf ad))).trans (.swap _ _ _))).trans uf)
end
section
variable {c:Cx} {M:FM} {nw:Led} {rm:Nat} {R:Value→FM→Led→Prop}
variable {name qual:Str} {params:Arguments} {body:List Stmt} {scope:Scope} {dV kV doc pm cdv ct oc:Value} {an od:Option Addr} {osl:Array (Option Value)} {f:Addr}
theorem rT {args hds rs:List Value} {xs:List Str} {l1 own l2:Led} {M₀:Addr→FM} {ir:List IS} {k:Nat} (X:Value→List Value→Led→Prop) (H:Cok c (rm+1)) (FC:bo c) (FR:dr own c.outer)
    (ho:∀ w:World,RowW.prog (OpenRow.toRowW (OpenLaw.row Challenge.rw_il0094_01))=PG→(hd.heap_39 w.params).lookup f=some ⟨oc,od,.func (fnOf name qual params body scope dV kV doc pm an cdv ct),osl⟩) (hcd:∀ w:World,RowW.prog (OpenRow.toRowW (OpenLaw.row Challenge.rw_il0094_01))=PG→codeIn (hd.heap_39 w.params) cdv qual=true)
    (hbind:∀ hs' rs',aD hs' hds→aD rs' rs→bindArgs (fnOf name qual params body scope dV kV doc pm an cdv ct) ⟨hs'++rs',[]⟩=(do let t ← newTuple rs'; pure (xs.zip (hs'++[t]))))
    (hkind:mL scope.names xs=true) (hnd:bw scope.names=true)
    (hM:∀ D,dg (af scope.names) (xs.zip (hds++[.ref D]))=M₀ D) (hB:CB ⟨scope.names,af scope.names⟩ body ir)
    (hco:scope.isCoroutine=false) (hgen:scope.isGenerator=false) (hk:scope.kind = .function) (hn:nw=l1++(own++l2)) (he:args=hds++rs) (hz:rs.length≤1000)
    (hx:∀ e cls vs' own' s',X cls vs' own'→cw c M (l1++(own'++l2)) e cls vs' s'→c.E (.ref e) s')
    (h:∀ c' oL D,c'.sc=⟨scope.names,af scope.names⟩→c'.w=c.w→Cok c' rm→bo c'→(∃ es n,oL.data = .dict es n)→c'.outer=c.env::c.outer→dr ((c.L,FrP oL)::(D,.tup rs)::own) c'.outer →
      (∀ e cls vs' (s':Shared) hp M' nw' own',Heap.MadeExcOf hp s'.heap e cls vs'→St c' M' nw' { s' with heap:=hp }→dr nw' c'.outer→ar c.w nw' ((c.L,FrP oL)::own')→X cls vs' own'→c'.E (.ref e) s') →
      wpS c' k ir (M₀ D) ((c.L,FrP oL)::(D,.tup rs)::own) fun fl _ nw'=>∃ own',ar c.w nw' ((c.L,FrP oL)::own')∧R (ko fl) M (l1++(own'++l2))) :
    Do c .call (.ref f::args) M nw R:=Do.mk fun vs' t hs ht s Q S post=>by
  subst he hn
  refine E2 hs.cons fun f' vs q91=>A3 q91 fun e92 hf hvs=>?_
  clear q91
  clear hs
  first | subst e92 | cases e92
  cases aa hf
  cases (show _=_ from ht)
  refine wpAny_call ?_
  obtain ⟨mf,Ff⟩:=cJ (H:=H) S
  refine E2 hvs.split fun hs' rs' q93=>A3 q93 fun e94 h1 h2=>?_
  clear q93
  first | subst e94 | cases e94
  refine codeAny_call_function (fd:=fnOf name qual params body scope dV kV doc pm an cdv ct) (by have:=H.dp; (clear hz; omega)) ((H.K.keeps Ff.keep) _ _ (ho c.w rfl)) rfl hco hgen rfl (codeRec_of (H.K.keeps Ff.keep) (hcd c.w rfl)) ?_
  rw [hbind hs' rs' h1 h2]
  have S1:=dK (x:=.tup rs) (o:={ cls:=.type "tuple",data:=.seq rs'.toArray }) rfl ⟨rs',h2,rfl⟩ S
  have S2:St c M (l1++(((s.heap.objs.size,.tup rs)::own)++l2)) _:=S1.perm perm_middle
  refine wpAny_bind (wpAny_newTuple (wpAny_pure ?_) (by rw [h2.length,PySem.sizeLine_eq]; omega))
  exact gJ (X:=X) (args:=hds++[.ref s.heap.objs.size]) (own:=(s.heap.objs.size,.tup rs)::own) H FC (FR.mono fun _ h=>.tail _ h) (rn hkind) hnd (hM _) hB hk (rA hkind) rfl (fun c' oL e1 e2 e3 e4 e5 e6 e7 e8=>h c' oL _ e1 e2 e3 e4 e5 e6 e7 e8) (h1.append (.one (show Sim (.ref s.heap.objs.size) (.ref s.heap.objs.size) from rfl))) S2 post hx
end
theorem cw.weak {c:Cx} {M:FM} {nw nw2:Led} {e:Addr} {cls:Value} {vs:List Value} {s:Shared} (S:cw c M nw e cls vs s) (h:ar c.w nw nw2):cw c M nw2 e cls vs s:=by
  refine E2 S fun B t q91=>A5 q91 fun h1 h2 h3 h4 k=>?_
  try clear S
  clear q91
  exact ⟨B,t,h1,h2,h3,h4,fun h' tk q r=>(k h' tk q r).weak h⟩
theorem sK {w:World} {S SD DD RN:Addr} {rs:List Str} {po nf:Int} {ad:List NA} {np:Str→Int} {sc:Str→List Str} {t t':Led} (h:ar w t t'):ar w (so1 w S SD DD RN rs po nf ad np sc t) (so1 w S SD DD RN rs po nf ad np sc t'):=((((h.pre (nC ad)).pre (nB ad sc)).pre (nA ad np)).pre [_]).pre (srL w S SD DD (.ref RN) po nf ad)
end
section
set_option tactic.hygienic false
section
variable {c:Cx} {M:FM} {nw:Led} {rm:Nat}
variable {name qual:Str} {params:Arguments} {body:List Stmt} {scope:Scope} {dV kV doc pm cdv ct oc:Value} {an od:Option Addr} {osl:Array (Option Value)} {f:Addr}
theorem lm {q:Addr} {self:Value} {args hds rs:List Value} {xs:List Str} {l1 own l2:Led} {M₀:Addr→FM} {ir:List IS} {k:Nat} {R:Value→FM→Led→Prop} (H:Cok c (rm+1)) (hq:ae c.w nw q (.raw (methodObj (.ref f) self)))
    (ho:∀ w:World,RowW.prog (OpenRow.toRowW (OpenLaw.row Challenge.rw_il0094_01))=PG→(hd.heap_39 w.params).lookup f=some ⟨oc,od,.func (fnOf name qual params body scope dV kV doc pm an cdv ct),osl⟩) (hcd:∀ w:World,RowW.prog (OpenRow.toRowW (OpenLaw.row Challenge.rw_il0094_01))=PG→codeIn (hd.heap_39 w.params) cdv qual=true)
    (hbind:∀ hs' rs',aD hs' hds→aD rs' rs→bindArgs (fnOf name qual params body scope dV kV doc pm an cdv ct) ⟨hs'++rs',[]⟩=(do let t ← newTuple rs'; pure (xs.zip (hs'++[t]))))
    (hkind:∀ x ∈ xs,scope.names.lookup x=some .local∨scope.names.lookup x=some .cell) (hnd:bw scope.names=true)
    (hM:∀ D,dg (af scope.names) (xs.zip (hds++[.ref D]))=M₀ D) (hB:CB ⟨scope.names,af scope.names⟩ body ir)
    (hco:scope.isCoroutine=false) (hgen:scope.isGenerator=false) (hk:scope.kind = .function)
    (hn:nw=l1++(own++l2)) (he:self::args=hds++rs) (hz:rs.length≤1000)
    (h:∀ c' D,c'.sc=⟨scope.names,af scope.names⟩→c'.w=c.w→Cok c' rm→wpS c' k ir (M₀ D) ((D,.tup rs)::own) fun fl _ nw'=>∃ own',ar c.w nw' own'∧R (ko fl) M (l1++(own'++l2))) :
    Do c .call (.ref q::args) M nw R:=Do.mk fun vs' t hs ht s Q S post=>by
  refine E2 hs.cons fun f' vs q91=>A3 q91 fun e92 hf hvs=>?_
  clear q91
  clear hs
  first | subst e92 | cases e92
  cases aa hf
  cases (show _=_ from ht)
  refine E1 (S.sees hq) fun oq q93=>A2 q93 fun eq gq=>?_
  clear q93
  have eq':oq=methodObj (.ref f) self:=eq
  clear eq
  subst eq'
  clear hq
  subst hn
  refine wpAny_call (method_call gq ?_)
  refine E1 (cJ (H:=H) S) fun mf Ff=>?_
  refine E2 ((he▸aD.mk (Sim.refl self) hvs:aD (self::vs) (hds++rs)).split) fun hs' rs' q94=>A3 q94 fun ev h1 h2=>?_
  clear q94
  rw [ev]
  refine codeAny_call_function (fd:=fnOf name qual params body scope dV kV doc pm an cdv ct) (by have:=H.dp; (clear hz; omega)) ((H.K.keeps Ff.keep) _ _ (ho c.w rfl)) rfl hco hgen rfl (codeRec_of (H.K.keeps Ff.keep) (hcd c.w rfl)) ?_
  rw [hbind hs' rs' h1 h2]
  have S1:=dK (x:=.tup rs) (o:={ cls:=.type "tuple",data:=.seq rs'.toArray }) rfl ⟨rs',h2,rfl⟩ S
  have S2:St c M (l1++(((s.heap.objs.size,.tup rs)::own)++l2)) _:=S1.perm perm_middle
  refine wpAny_bind (wpAny_newTuple (wpAny_pure ?_) (by rw [h2.length,PySem.sizeLine_eq]; omega))
  exact du (args:=hds++[.ref s.heap.objs.size]) (own:=(s.heap.objs.size,.tup rs)::own) H hkind hnd (hM _) hB hk (by exact (sublist_append_left _ _).trans (sublist_append_right _ _)) (cL rfl) (fun c' e1 e2 e3=>h c' _ e1 e2 e3) (h1.append (.one (show Sim (.ref s.heap.objs.size) (.ref s.heap.objs.size) from rfl))) S2 post
end
structure FBd (K:Frag) (x:Str) (f:Addr):Prop where
  gf:specialIn K (.ref f) "__get__" = some (some (.builtin "function.__get__"))
  tk:takesIn K (.ref f)=some false
  fn:fnIn K f=true
noncomputable def FBdW (w:World):Prop:=PG=(RowW.prog (OpenRow.toRowW (OpenLaw.row Challenge.rw_il0094_01)))→FBd (hd.heap_39 w.params) "add" 94
theorem xh (w:World):FBdW w:=by
  unfold FBdW; k_fill; intro _; refine ⟨?_,?_,?_⟩ <;> k_is
theorem lh {M:Model} {A:Around} {E:Value→Shared→Prop} {s:Shared} {K:Frag} {env:Env} {pos:Pos} {first:List Value} {Q:Value→Shared→Prop} {e:Expr} {rest:List Expr} {q g:Addr} {self:Value} (hf:fnIn K g=true)
    (h:wpAny M A (spliced (backTo pos (starEach (e::rest) env))) (fun vs s₁=>MethP K q g self s₁.heap∧wpAny M A (call (.ref q) (first++vs)) Q E s₁) E s)
    (he:starEach (e::rest) env=(false,eval e env)::starEach rest env) (hst:(backTo pos (starEach rest env)).any (·.1)=true) :
    wpAny M A (callWith pos (.ref q) first (backTo pos (starEach (e::rest) env)) []) Q E s:=by
  rw [he] at h ⊢
  exact ks_call (by show (false || (backTo pos (starEach rest env)).any (·.1))=true; rw [hst]; rfl) (keeps_M hf) (evalArgs_plain h)
theorem vG {so a b x:Str} {q1 q q2 q3 q4 p:Pos} {env:Env} :
    eval (.Call (.Attribute (.Name so q1) x q) [.Name a q2,.Starred (.Name b q3) q4] [] p) env=(do
      let ov ← eval (.Name so q1) env
      standAt q.atName
      let (f,first) ← holding [ov] (do pure (← getAttr ov x true,[]))
      callWith p f first (backTo p (starEach [.Name a q2,.Starred (.Name b q3) q4] env)) []):=by
  show (do
    let ov ← attributeBase (.Name so q1) x env (eval (.Name so q1) env)
    standAt q.atName
    methodCall (.Name so q1) x q p env ov 2 (backTo p (starEach [.Name a q2,.Starred (.Name b q3) q4] env)) [])=_
  have hall:methodCallForm 2 (backTo p (starEach [.Name a q2,.Starred (.Name b q3) q4] env)) []=false:=rfl
  rw [lA rfl]
  unfold methodCall calleeOf methodCallPos
  rw [hall]
  rfl
section
variable {c:Cx} {M:FM} {nw:Led} {rm:Nat} {R:Value→FM→Led→Prop} {S SD n2i:Addr} {rd:Value} {po nf:Int}
theorem qE {so a b:Str} {q1 q q2 q3 q4 p:Pos} {i j k:Nat} {av:Value} {l:Addr} {xs:List Value} (H:Cok c rm) (h1:ae c.w nw S (.raw (instObj 144 SD))) (h2:ae c.w nw SD (sdV c.w n2i rd po nf))
    (n1:cb c.sc so=some i) (d1:(so == ("__debug__" : Str))=false) (v1:M[i]? = some (some (.ref S))) (n2:cb c.sc a=some j) (d2:(a == ("__debug__" : Str))=false) (v2:M[j]? = some (some av)) (n3:cb c.sc b=some k) (d3:(b == ("__debug__" : Str))=false) (v3:M[k]? = some (some (.ref l)))
    (hl:ae c.w nw l (.list xs)) (hz:xs.length≤1000)
    (hr:∀ m,Do c .call (.ref m::av::xs) M ((m,.raw (methodObj (.ref 94) (.ref S)))::nw) R):Do c (.ev (.Call (.Attribute (.Name so q1) "add" q) [.Name a q2,.Starred (.Name b q3) q4] [] p)) [] M nw R:=Do.mk fun vs' t hs ht s Q S' post=>by
  cases hs.nil
  cases (show _=_ from ht)
  rw [vG]
  refine wpAny_bind (gb (R:=fun v M' n'=>v = .ref S∧M'=M∧n'=nw) H.toCok0 n1 d1 v1 ⟨rfl,rfl,rfl⟩ s _ S' fun v' v M' n' s1 hv S1 ⟨e1,e2,e3⟩=>?_)
  subst e1 e2 e3
  cases aa hv
  refine wpAny_bind (wpAny_standAt (wpAny_bind (wpAny_holding (wpAny_bind ?_))))
  refine E2 S1.open fun m news q91=>A5 q91 fun F N f c92 kd=>?_
  clear q91
  clear c92
  refine E1 h1 fun y1 q93=>A2 q93 fun a1 a2=>?_
  try clear h1
  clear q93
  refine E1 (f.ob _ a1) fun o1 q94=>A2 q94 fun b1 c1=>?_
  clear q94
  have e1:o1=instObj 144 SD:=a2 o1 c1
  clear c1
  subst e1
  refine E1 h2 fun y2 q95=>A2 q95 fun a3 a4=>?_
  try clear h2
  clear q95
  refine E1 (f.ob _ a3) fun o2 q96=>A2 q96 fun b2 c2=>?_
  clear q96
  refine E6 (a4 o2 c2) fun k1 k2 k3 k4 tp tf e97=>?_
  clear c2
  first | subst e97 | cases e97
  obtain ⟨f1,f2,f3⟩:=ul c.w ("add",94) (by decide +kernel) rfl
  obtain ⟨g1,g2,g3⟩:=xh c.w rfl
  refine kbm_bound F H.K N (InstAt.of_news N b1 b2) f1 (nE c.w rfl).1 f2 f3 g1 g2 (by decide +kernel) rfl fun md h' F' N' lt=>?_
  have S2:St c M' ((md,.raw (methodObj (.ref 94) (.ref S)))::n') { s1 with heap:=h',toks:=s1.toks+1 }:=kd md _ _ h' _ F' N' lt rfl
  refine wpAny_pure ?_
  refine lh (self:=.ref S) g3 ?_ rfl rfl
  refine spliced_more ?_ rfl
  refine gb (R:=fun v M1 n1=>v=av∧M1=M'∧n1=((md,aE.raw (methodObj (.ref 94) (.ref S)))::n')) H.toCok0 n2 d2 v2 ⟨rfl,rfl,rfl⟩ _ _ S2 fun u u0 M3 n3' s3 hu S3 ⟨e1,e2,e3⟩=>?_
  subst e1 e2 e3
  refine items_star ?_ rfl
  refine gb (R:=fun v M1 n1=>v = .ref l∧M1=M3∧n1=((md,aE.raw (methodObj (.ref 94) (.ref S)))::n')) H.toCok0 n3 d3 v3 ⟨rfl,rfl,rfl⟩ _ _ S3 fun u2 u20 M4 n4 s4 hu2 S4 ⟨e1,e2,e3⟩=>?_
  subst e1 e2 e3
  cases aa hu2
  refine E2 S4.open fun m5 news5 q98=>A5 q98 fun F5 N5 f5 k5 c99=>?_
  clear q98
  clear c99
  refine E1 hl fun y3 q910=>A2 q910 fun a5 a6=>?_
  try clear hl
  clear q910
  refine E1 (f5.ob _ (.tail _ a5)) fun o3 q911=>A2 q911 fun b3 c3=>?_
  clear q911
  refine E2 (a6 o3 c3) fun ys ep q912=>A2 q912 fun hs3 e913=>?_
  clear q912
  clear c3
  first | subst e913 | cases e913
  refine star_seq F5 N5 b3 rfl rfl (.inl rfl) (ws:=ys) rfl (by rw [size_toArray,hs3.length,PySem.sizeLine_eq]; omega) fun h5 F5' N5'=>?_
  refine spliced_none ?_
  have S5:=k5 h5 s4.toks F5' N5'
  refine E1 (S5.sees (a:=md) (x:=.raw (methodObj (.ref 94) (.ref S))) .head) fun om q914=>A2 q914 fun em gm=>?_
  clear q914
  have em':om=methodObj (.ref 94) (.ref S):=em
  clear em
  subst em'
  obtain ⟨mf,Ff⟩:=cJ (H:=H) S5
  refine ⟨⟨gm,H.K.keeps Ff.keep⟩,?_⟩
  have:=hr md
  exact this.tr (vs':=.ref md::u::(ys++[])) (.mk rfl (.mk hu (by rw [append_nil]; exact hs3))) (.call _ _) _ Q S5 post
end
end
section
set_option tactic.hygienic false
theorem uO:∀ (names:List (Str×NameKind)) (n:Nat) (acc:List (Str×Addr)),(acc.map (·.2)).Nodup→(∀ q ∈ acc,q.2 < n)→((cellsFrom n names acc).map (·.2)).Nodup
  | [],_,_,h,_=>h
  | (y,k)::r,n,acc,h,hl=>by
    unfold cellsFrom
    split
    · refine uO r _ _ (nodup_cons.mpr ⟨fun q=>?_,h⟩) fun q hq=>?_
      · obtain ⟨p,hp,e⟩:=mem_map.mp q
        exact absurd e (Nat.ne_of_lt (hl p hp))
      · rcases mem_cons.mp hq with rfl | hq
        · exact Nat.lt_succ_self _
        · exact Nat.lt_succ_of_lt (hl q hq)
    · exact uO r _ _ h hl
theorem lT:∀ {cs:List (Str×Addr)},(cs.map (·.2)).Nodup→∀ {x y:Str} {a:Addr},(x,a) ∈ cs→(y,a) ∈ cs→x=y
  | p::r,nd,x,y,a,h1,h2=>by
    obtain ⟨n1,n2⟩:=nodup_cons.mp nd
    rcases mem_cons.mp h1 with e | k1 <;> rcases mem_cons.mp h2 with e' | k2
    · exact (Prod.mk.inj (e.trans e'.symm)).1
    · subst e; exact (n1 (mem_map.mpr ⟨_,k2,rfl⟩)).elim
    · subst e'; exact (n1 (mem_map.mpr ⟨_,k1,rfl⟩)).elim
    · exact lT n2 k1 k2
theorem jy {cm:Str→Option Value} {cs:List (Str×Addr)} {cells:List (Addr×Obj)} (X:CellsAre cm cs cells) {x:Str} {a:Addr} (h:cs.lookup x=some a):∃ o,(a,o) ∈ cells∧o.data = .cell (cm x):=by
  induction X with
  | nil=>cases h
  | @cons n' c' o cs cells hd _ ih =>
    rw [lookup_cons] at h
    cases hb:x == n' with
    | true=>rw [hb] at h; cases h; rw [eq_of_beq hb]; exact ⟨o,.head _,hd⟩
    | false=>rw [hb] at h; obtain ⟨o',h1,h2⟩:=ih h; exact ⟨o',.tail _ h1,h2⟩
section
variable {name:Str} {body:List Stmt} {scope:Scope} {cdv:Value} {f:Addr}
theorem xS {w:World} {p:Program} {loose:List Str} {mean:ExcName→Option Value} {mg mb:Str→Option Value} {s₁:Shared} {h₁:Heap} {tk:Tok} {cells:List (Addr×Obj)} {binds:List (Str×Value)} {M₀:FM} {ir:List IS} {k:Nat} {Q:Flow→Shared→Prop} {E:Value→Shared→Prop}
    (K:(FK w).In s₁.heap) (T:Top p loose mean mg mb s₁.heap) (hk:scope.kind = .function) (hnd:bw scope.names=true)
    (F:Fr s₁.heap s₁.heap.objs.size h₁ (bindL (envOfC name scope s₁.heap.objs.size f cdv).kindOf binds fun _=>none)) (N:News s₁.heap s₁.heap.objs.size h₁ cells)
    (X:CellsAre (bindC (envOfC name scope s₁.heap.objs.size f cdv).kindOf binds fun _=>none) (cellsFrom (s₁.heap.objs.size+1) scope.names []) cells)
    (hM:dg (af scope.names) binds=M₀) (hB:CB ⟨scope.names,af scope.names⟩ body ir)
    (h:∀ c,c.sc=⟨scope.names,af scope.names⟩→c.w=w→c.h₀=s₁.heap→c.outer=[]→Cok c 60→bo c→wpS c k ir M₀ [] fun fl _ _=>fl = .ret (.bool true))
    (hQ:∀ h' tk' m',Fr s₁.heap s₁.heap.objs.size h' m'→Q (.ret (.bool true)) { s₁ with heap:=h',toks:=tk' }) :
    wpAny (model PG w) (callerA.deeper (envOfC name scope s₁.heap.objs.size f cdv)) (execs body (envOfC name scope s₁.heap.objs.size f cdv)) Q E { s₁ with heap:=h₁,toks:=tk }:=by
  have hcs2:∀ k x,scope.names.lookup x=some .cell→∃ a,(cellsFrom k scope.names []).lookup x=some a:=fun k x hx=>isSome_iff_exists.mp (cellsFrom_some scope.names k [] (.inl hx))
  generalize hL':s₁.heap.objs.size=L' at F N X hQ ⊢
  generalize he:envOfC name scope L' f cdv=env' at F X ⊢
  generalize hcl:cellsFrom (L' + 1) scope.names []=cs at X
  have henv:env'.locals=L'∧env'.cells=cs∧env'.scope=scope:=by subst he; exact ⟨rfl,hcl,rfl⟩
  have hkO:env'.kindOf=fun y=>scope.names.lookup y:=by funext y; unfold Env.kindOf; rw [henv.2.2]
  obtain ⟨nd1,nd2⟩ : (scope.names.map (·.1)).Nodup∧(af scope.names).Nodup:=by
    have:=Bool.and_eq_true_iff.mp hnd
    exact ⟨of_decide_eq_true this.1,of_decide_eq_true this.2⟩
  have hvar:∀ {i:Nat} {x:Str} {b:Bool},(af scope.names)[i]? = some (some (x,b))→scope.names.lookup x=some (if b then NameKind.cell else NameKind.local):=fun h=>dk nd1 (eH h)
  have hcell:∀ x,scope.names.lookup x=some .cell→∃ a,cs.lookup x=some a:=fun x hx=>hcl▸hcs2 (L' + 1) x hx
  let c':Cx:={ sc:=⟨scope.names,af scope.names⟩,w:=w,A:=callerA.deeper env',env:=env',h₀:=s₁.heap,L:=L',vs:=(af scope.names).map (bP cs),hid:=[],s₀:=s₁,E:=fun _ _=>False,fe:=env',Lf:=L',outer:=[],p:=p,loose:=loose,mean:=mean,mg:=mg,mb:=mb }
  have HC:Cok c' 60 :=
    { K:=K
      T:=T
      hh:=rfl
      hA:=Around.frames_deeper rfl
      fe:=⟨name,scope,f,cdv,cs,by subst he; subst hcl; rfl,hk⟩
      lf:=.inl rfl
      above:=Nat.le_of_eq hL'
      dp:=by show (callerA.deeper env').depth+60 < _; rw [depth_deeper]; decide +kernel
      un:=by show (callerA.deeper env').units+10 * 60 < _; rw [units_deeper]; decide +kernel
      el:=henv.1
      eg:=by subst he; rfl
      eb:=by subst he; rfl
      ek:=by show env'.scope.kind=_; rw [henv.2.2]; exact hk
      en:=by show env'.scope.names=_; rw [henv.2.2]
      ev:=fun i x h=>by show ((af scope.names).map (bP cs))[i]? = _; rw [List.getElem?_map,h]; rfl
      ec:=fun i x h hx=>by
        obtain ⟨a,ha⟩:=hcell x hx
        refine ⟨a,?_,by show env'.cells.lookup x=_; rw [henv.2.1]; exact ha⟩
        show ((af scope.names).map (bP cs))[i]? = _
        rw [List.getElem?_map,h]
        show some (dA.cell x ((cs.lookup x).getD 0))=_
        rw [ha]; rfl
      vl:=fun i j x hi hj=>by
        have get:∀ {i:Nat},((af scope.names).map (bP cs))[i]? = some (.loc x)→(af scope.names)[i]? = some (some (x,false)):=fun {i} h=>by
          rw [List.getElem?_map] at h
          obtain ⟨v,hv,e⟩:=map_eq_some_iff.mp h
          rw [hv]
          clear hv
          cases v with
          | none=>cases e
          | some p =>
            obtain ⟨y,b⟩:=p
            cases b with
            | true=>cases e
            | false=>cases e; rfl
        have h1:=get hi
        have h2:=get hj
        exact (List.getElem?_inj (List.getElem?_eq_some_iff.mp h1).1 nd2).mp (h1.trans h2.symm)
      hE:=PassesOwn.never }
  have FC:bo c':=⟨Around.frames_deeper rfl,by subst he; rfl⟩
  have ndc:(cs.map (·.2)).Nodup:=hcl▸uO _ _ _ nodup_nil fun _ h=>nomatch h
  have inj:∀ x y a,cs.lookup x=some a→cs.lookup y=some a→x=y:=fun x y a h1 h2=>lT ndc (mem_of_lookup h1) (mem_of_lookup h2)
  have S1:St c' M₀ [] { s₁ with heap:=h₁,toks:=tk }:=by
    refine ⟨rfl,_,cells,F,N,⟨⟨?_,fun i l v hl hv=>?_⟩,fun _ h=>(nomatch h),fun _ h=>(nomatch h),?_⟩⟩
    · show ((af scope.names).map (bP cs)).length=M₀.length
      rw [← hM]; unfold dg; rw [length_map,length_map]
    · have hl':((af scope.names).map (bP cs))[i]? = some l:=hl
      rw [List.getElem?_map] at hl'
      clear hk hnd hB h hcs2 he hcl henv nd1 nd2 ndc hl
      obtain ⟨z,hz,rfl⟩:=map_eq_some_iff.mp hl'
      rw [← hM] at hv
      unfold dg at hv
      rw [List.getElem?_map,hz] at hv
      have hv':=Option.some.inj hv
      cases z with
      | none=>trivial
      | some p =>
        obtain ⟨y,b⟩:=p
        have hlk:=hvar hz
        have sim:kX (binds.reverse.lookup y) v:=by rw [← hv']; rfl
        cases b with
        | false =>
          show kX (bindL env'.kindOf binds (fun _=>none) y) v
          rw [fV (by rw [hkO]; exact hlk),or_none]; exact sim
        | true =>
          obtain ⟨a,ha⟩:=hcell y hlk
          obtain ⟨o,h2,h3⟩:=jy X ha
          refine ⟨o,_,?_,h3,by rw [fE (by rw [hkO]; exact hlk),or_none]; exact sim⟩
          rw [ha]; exact h2
    · show (([]:List Addr)++(([]:List Addr)++aj ((af scope.names).map (bP cs)))).Nodup
      rw [nil_append,nil_append]
      refine dP inj nd2 fun y hy=>?_
      obtain ⟨i,hi⟩:=mem_iff_getElem?.mp hy
      exact hcell y (hvar hi)
  refine wpAny_mono (cE hB c' 60 rfl HC.toCok0 k M₀ [] _ (h c' rfl rfl rfl rfl HC FC) _ _ S1 fun f' f0 M' n' s' hf S' hr=>?_) (fun _ _ x=>x) (fun _ _ x=>x.elim)
  subst hr
  cases f' with
  | ret v =>
    cases ei hf
    obtain ⟨e',m',news',F',N',fl'⟩:=S'
    have e2:s' = { s₁ with heap:=s'.heap,toks:=s'.toks }:=e'
    rw [e2]
    exact hQ s'.heap s'.toks m' F'
  | _=>exact hf.elim
end
end
section
set_option tactic.hygienic false
theorem Do.slice3 {c:Cx} {M:FM} {nw:Led} {R:Value→FM→Led→Prop} {o a b d:Value} (h:∀ o' a' b' d' x q lo hi st p (s:Shared) Q,Sim o' o→Sim a' a→Sim b' b→Sim d' d→St c M nw s→(∀ v' v M' n' s',Sim v' v→St c M' n' s'→R v M' n'→Q v' s')→wpAny (model PG c.w) c.A (subscriptTail (.Name x q) (.Slice lo hi (some st) p) o' (.ref s.heap.objs.size)) Q c.E { s with heap:=s.heap.push { cls:=.type "slice",data:=.fields #[a',b',d'] } }):Do c .slice3 [o,a,b,d] M nw R:=Do.mk fun vs' t hs ht s Q S post=>by
  obtain ⟨o',_,rfl,h1,hs⟩:=hs.cons
  obtain ⟨a',_,rfl,h2,hs⟩:=hs.cons
  obtain ⟨b',_,rfl,h3,hs⟩:=hs.cons
  obtain ⟨d',_,rfl,h4,hs⟩:=hs.cons
  cases hs.nil
  refine E6 ht fun _ _ _ _ _ _ e91=>?_
  try clear ht
  first | subst e91 | cases e91
  exact fF (h _ _ _ _ _ _ _ _ _ _ _ _ h1 h2 h3 h4 S post)
noncomputable def vZ (n:Nat) (a b:Int):List Nat:=sliceRange (sliceBounds (some a) none (some b) n).1 (sliceBounds (some a) none (some b) n).2.1 (sliceBounds (some a) none (some b) n).2.2
noncomputable def kp {α:Type} (xs:List α) (a b:Int):List α:=(vZ xs.length a b).filterMap (xs[·]?)
theorem jj (xs:List Value) (a b:Int):(slicePick xs.toArray (some a) none (some b)).toList=kp xs a b:=by
  unfold slicePick kp vZ; rw [size_toArray]
  simp
theorem gV {us:List Value} {ns:List Int} (H:IntsAre us ns):∀ l:List Nat,IntsAre (l.filterMap (us[·]?)) (l.filterMap (ns[·]?))
  | []=>.nil
  | i::l=>by
    have ih:=gV H l
    rw [filterMap_cons,filterMap_cons]
    have key:∀ {us:List Value} {ns:List Int},IntsAre us ns→∀ i:Nat,(us[i]? = none∧ns[i]? = none)∨∃ n t,us[i]? = some (.int n t)∧ns[i]? = some n:=by
      intro us ns H
      induction H with
      | nil=>exact fun i=>.inl ⟨rfl,rfl⟩
      | cons n t _ ih =>
        intro i
        cases i with
        | zero=>exact .inr ⟨n,t,rfl,rfl⟩
        | succ i=>simpa using ih i
    rcases key H i with ⟨h1,h2⟩ | ⟨n,t,h1,h2⟩
    · rw [h1,h2]; exact ih
    · rw [h1,h2]; exact .cons n t ih
theorem rx {us:List Value} {ns:List Int} (H:IntsAre us ns) (a b:Int):IntsAre (kp us a b) (kp ns a b):=by
  unfold kp; rw [H.length]; exact gV H _
theorem th {us vs:List Value} (H:aD us vs) (a b:Int):aD (kp us a b) (kp vs a b):=by
  unfold kp; rw [H.length]
  induction vZ vs.length a b with
  | nil=>rfl
  | cons i l ih =>
    rw [filterMap_cons,filterMap_cons]
    cases e:vs[i]? with
    | none =>
      have:us[i]? = none:=by rw [List.getElem?_eq_none_iff] at e ⊢; rw [H.length]; exact e
      rw [this]; exact ih
    | some v =>
      obtain ⟨u,hu,hv⟩:=H.get e
      rw [hu]; exact .mk hv ih
theorem mZ:∀ {us:List Value} {ns:List Int},IntsAre us ns→aD us (bM ns)
  | _,_,.nil=>rfl
  | _,_,.cons n t r=>.mk rfl (mZ r)
section
variable {c:Cx} {M:FM} {nw:Led} {rm:Nat} {R:Value→FM→Led→Prop} {l:Addr}
theorem slc3 {xs:List Value} {a b:Int} {t t':Tok} (hl:ae c.w nw l (.list xs)) (hz:xs.length≤1000) (hb:b≠0) (hr:∀ D,R (.ref D) M ((D,.list (kp xs a b))::nw)):Do c .slice3 [.ref l,.int a t,.none,.int b t'] M nw R:=Do.slice3 fun o' a' b' d' x q lo hi st p s Q h1 h2 h3 h4 S post=>by
  cases aa h1; obtain ⟨_,rfl⟩:=ah h2; cases aH h3; obtain ⟨_,rfl⟩:=ah h4
  refine E1 (S.isList hl) fun ys q91=>A2 q91 fun h hs=>?_
  clear q91
  refine E2 S.open fun m news q92=>A5 q92 fun F N f c93 k=>?_
  clear q92
  clear c93
  exact kmk_slice3_lit F N h (.int _ _) .none (.int _ _) (by intro e; cases e; exact hb rfl) (jj ys a b) (fun D h' F' N' lt=>post _ (.ref D) _ _ _ rfl (k D _ (.list _) h' s.toks F' N' lt ⟨_,_,th hs a b,rfl⟩) (hr D)) rfl (fun _=>rfl) (by rw [size_toArray,hs.length,PySem.sizeLine_eq]; omega)
theorem slc3B {us:List Value} {ns:List Int} {a b:Int} {t t':Tok} (hl:c.h₀.IsList l us.toArray) (hi:IntsAre us ns) (hz:ns.length≤1000) (hb:b≠0) (hr:∀ D,R (.ref D) M ((D,.list (bM (kp ns a b)))::nw)):Do c .slice3 [.ref l,.int a t,.none,.int b t'] M nw R:=Do.slice3 fun o' a' b' d' x q lo hi' st p s Q h1 h2 h3 h4 S post=>by
  cases aa h1; obtain ⟨_,rfl⟩:=ah h2; cases aH h3; obtain ⟨_,rfl⟩:=ah h4
  refine E2 S.open fun m news q91=>A5 q91 fun F N f c92 k=>?_
  clear q91
  clear c92
  exact kmk_slice3_lit F N (Fr.lst F hl) (.int _ _) .none (.int _ _) (by intro e; cases e; exact hb rfl) (jj us a b) (fun D h' F' N' lt=>post _ (.ref D) _ _ _ rfl (k D _ (.list _) h' s.toks F' N' lt ⟨_,_,mZ (rx hi a b),rfl⟩) (hr D)) rfl (fun _=>rfl) (by rw [size_toArray,hi.length,PySem.sizeLine_eq]; omega)
theorem wI {us:List Value} {ns:List Int} (H:Cok c rm) (hl:c.h₀.IsList l us.toArray) (hi:IntsAre us ns) (hr:R (.int ns.sum 0) M nw):Do c .call [.builtin "sum",.ref l] M nw R:=Do.call1 fun a h1 s Q S post=>by
  cases aa h1
  refine E2 S.open fun m news q91=>A5 q91 fun F N f k c92=>?_
  clear q91
  clear c92
  exact LSm.sum_ints F N H.hh (Fr.lst F hl) hi fun h' tk t' F' N'=>post _ (.int _ 0) _ _ _ rfl (k h' tk F' N') hr
theorem uV (hr:R (.bool true) M nw):Do c (.cmp .Eq) [.none,.none] M nw R:=Do.cmp fun a b h1 h2 s Q S post=>by
  cases aH h1; cases aH h2
  exact EqNone.eq_none_none (post _ _ _ _ _ rfl S hr)
theorem vQ (hr:R (.bool false) M nw):Do c (.cmp .NotEq) [.none,.none] M nw R:=Do.cmp fun a b h1 h2 s Q S post=>by
  cases aH h1; cases aH h2
  exact EqNone.ne_none_none (post _ _ _ _ _ rfl S hr)
theorem wH {x y:Bool} (hr:R (.bool (x == y)) M nw):Do c (.cmp .Is) [.bool x,.bool y] M nw R:=Do.cmp fun a b h1 h2 s Q S post=>by
  cases ei h1; cases ei h2
  exact is_bool (post _ _ _ _ _ rfl S hr)
theorem vf {a b:Addr} (H:Cok c (rm+8)) (hl:ae c.w nw a (.tup [])) (hb:ae c.w nw b (.tup [])) (hr:R (.bool false) M nw):Do c (.cmp .NotEq) [.ref a,.ref b] M nw R:=Do.cmp fun u v h1 h2 s Q S post=>by
  cases aa h1; cases aa h2
  obtain ⟨us,h,e1⟩:=S.isTup hl
  obtain ⟨vs,h',e2⟩:=S.isTup hb
  cases e1.nil; cases e2.nil
  exact ne_dataH_same (reads_newDataT h .nil) (reads_newDataT h' .nil) (by decide +kernel) (by decide +kernel) (by have:=H.un; omega) (by decide +kernel) (post _ (.bool false) _ _ _ rfl S hr)
noncomputable abbrev dM (W:List (Str×Int)):List (Str×Value):=W.map fun p=>(p.1,.int p.2 0)
theorem ur {A:Around} {s:Shared} {kb:List (Str×Int)} {kwb:List (Str×Value)} (hb:SimKV kwb (dM kb)):∀ {ka:List (Str×Int)} {kwa:List (Str×Value)},SimKV kwa (dM ka)→(∀ p ∈ ka,valueAt (dM kb) p.1=some (.int p.2 0))→KeqHits A s kwb kwa true
  | [],[],_,_=>.nil
  | [],_::_,h,_=>nomatch h
  | _::_,[],h,_=>nomatch h
  | (k,n)::ka,(k',v)::kwa,h,hh=>by
    obtain ⟨h1,h2⟩:=List.cons.inj h
    obtain ⟨e1,e2⟩:=Prod.mk.inj h1
    dsimp only at e1 e2
    clear h h1
    subst e1
    obtain ⟨t,rfl⟩:=ah (show Sim v (.int n 0) from e2)
    obtain ⟨u,hu,hv⟩:=cC (show kX (valueAt kwb k') (some (.int n 0)) from hh (k',n) (.head _)▸bq hb)
    obtain ⟨t',rfl⟩:=ah hv
    have:=KeqHits.hit (A:=A) (s:=s) hu (SeqAt.EqAt.int_int n t n t') (ur hb h2 fun p hp=>hh p (.tail _ hp))
    simpa using this
theorem ye {a b:Addr} {ka kb:List (Str×Int)} (H:Cok c rm) (la:(a == sysModules)=false) (lb:(b == sysModules)=false) (ha:ae c.w nw a (.dict (dM ka))) (hb:ae c.w nw b (.dict (dM kb))) (hl:ka.length=kb.length) (hh:∀ p ∈ ka,valueAt (dM kb) p.1=some (.int p.2 0)) (hr:R (.bool false) M nw):Do c (.cmp .NotEq) [.ref a,.ref b] M nw R:=Do.cmp fun u v h1 h2 s Q S post=>by
  cases aa h1; cases aa h2
  refine E2 S.open fun m news q91=>A5 q91 fun F N f c92 c93=>?_
  clear q91
  clear c92
  clear c93
  refine E1 ha fun y1 q94=>A2 q94 fun a1 a2=>?_
  try clear ha
  clear q94
  refine E1 (f.ob _ a1) fun o1 q95=>A2 q95 fun b1 c1=>?_
  clear q95
  refine E1 (a2 o1 c1) fun kwa q96=>A2 q96 fun s1 d1=>?_
  clear q96
  refine E1 hb fun y2 q97=>A2 q97 fun a3 a4=>?_
  try clear hb
  clear q97
  refine E1 (f.ob _ a3) fun o2 q98=>A2 q98 fun b2 c2=>?_
  clear q98
  refine E1 (a4 o2 c2) fun kwb q99=>A2 q99 fun s2 d2=>?_
  clear q99
  exact kne_pairs N b1 b2 d1 d2 la lb (by rw [s1.length,s2.length]; simpa using hl) (by have:=H.un; (clear hl; omega)) (ur s2 s1 hh) (post _ (.bool false) _ _ _ rfl S hr)
end
end
section
set_option tactic.hygienic false
section
variable {c:Cx} {M:FM} {nw:Led} {rm:Nat}
noncomputable abbrev KVs:=List (Str×Value)
noncomputable def JOD (c:Cx) (names:List (Str×NameKind)) (nwr:Led) (M:FM) (J:List Value→KVs→Prop):rX:=fun r o mC news=>∃ ra kws kvs Mo m0,ItR r ra∧o.IsDictOf (PySem.strKind PG c.w) kws∧SimKV kws kvs∧kvs.length≤1000∧J ra kvs∧Mo.length=fN names∧tA mC names Mo∧ce c.dead M nwr m0 news
noncomputable def um (c:Cx) (rm k:Nat) (M:FM) (nw:Led) (J:List Value→KVs→Prop) (kx vx:IE) (t:IT):Prop :=
  ∀ c2,c2.w=c.w→Cok c2 rm→∀ nwr,dL c.w nw nwr→∀ x r kvs,J (x::r) kvs→∀ Mo:FM,Mo.length=k→cW c2 t x (Mo++M) nwr fun M2 nw2=>wpE c2 39 kx M2 nw2 fun kv M3 nw3=>wpE c2 39 vx M3 nw3 fun vv M' nw' =>
    ar c.w nw' nwr∧M'.drop k=M∧∃ key,kv = .str key 0∧(stored kvs key vv).length≤1000∧J r (stored kvs key vv)
theorem nQ {k:Nat} {kx vx:IE} {t:IT} {kE vE tE:Expr} {scope:Scope} {cl:List (Str×Addr)} {J:List Value→KVs→Prop} {nwr:Led} {keep:List (Addr×Obj)} {s:Shared} {m:Str→Option Value} {nm:String}
    (H:Cok c rm) (hkx:CX (aC c.sc scope) (.ex kE) (.ex kx)) (hvx:CX (aC c.sc scope) (.ex vE) (.ex vx)) (ht:CT (aC c.sc scope) tE t) (hk:cx c.sc scope=true) (hn:fN scope.names=k) (hcl:cl=aU scope.names c.env.cells [])
    (e:s = { c.s₀ with heap:=s.heap,toks:=s.toks }) (hfz:dL c.w nw nwr) (hkeep:∀ p ∈ keep,(p.1,aE.raw p.2) ∈ nwr) (step:um c rm k M nw J kx vx t) :
    ug PG c.w c.A c.env c.h₀ c.L m s kE vE tE scope cl nm keep (JOD c scope.names nwr M J):=by
  intro I D C oL a r o v m₁ news₁ h tk oi r91 hav hoff hne _ F N FL
  refine E5 r91 fun ra kws kvs Mo m0 q91=>A8 q91 fun hr hkw hsv hlen hj hmo hown hfull=>?_
  try clear r91
  clear q91
  cases hr with
  | @cons _ x its xs hx hr =>
  have hsim:Sim v x:=hx v h hav
  have hLobj:∀ h':Heap,h'.get? c.L=some oL→∃ m,h'.Ns c.L m:=fun h' e=>by
    refine E3 FL.ns fun o es ep' q91=>A2 q91 fun hg r=>?_
    clear q91
    have:=(N _ (.tail _ (.head _))).1
    rw [hg] at this; cases this
    exact ⟨m,oL,es,ep',e,r⟩
  let c2:=c.comp scope cl C D I o oL oi
  have H2:Cok c2 rm:=H.comp hk hcl hLobj
  have S2:=rq (cl:=cl) (tk:=tk) e hmo hown hfull hoff hne F N
  have hst:=step c2 rfl H2 nwr hfz x xs kvs hj Mo (hmo.trans hn)
  refine iN (c:=c2) H2.toCok0 ht hsim hst _ _ S2 fun M3 n3 s3 S3 h3=>?_
  unfold qI
  refine (hkx.e c2 rm rfl H2.toCok0 39 M3 n3).1 _ h3 s3 _ S3 fun kv' kv M4 n4 s4 hkv S4 h4=>?_
  refine (hvx.e c2 rm rfl H2.toCok0 39 M4 n4).1 _ h4 s4 _ S4 fun v' v5 M5 n5 s5 hv5 S5 h5=>?_
  refine A3 h5 fun hw5 hM5 q92=>E1 q92 fun key q93=>A3 q93 fun e94 hl5 hj5=>?_
  try clear h5
  clear q93 q92
  clear h4
  first | subst e94 | cases e94
  obtain ⟨t5,rfl⟩:=aq hkv
  refine E3 (mt (h:=h) (tk:=tk) e hn hkeep hfull hoff S5 hw5 hM5) fun mC m3 news' q95=>A8 q95 fun es3 F3 N3 off3 hk3 hl3 ho3 hf3=>?_
  clear q95
  rw [es3]
  refine wpAny_dictSet_pairs (knd:=PySem.strKind PG c.w) (k:=key) (hsz:=by rw [hsv.length,PySem.sizeLine_eq]; (clear hn hmo hl5 hl3; omega)) (strKind_is _ _ _ _) (Heap.dictOf_iff.mpr ⟨o,(N3 _ (.head _)).1,hkw⟩) fun h6 hl6 hs6=>?_
  refine E1 (Heap.dictOf_iff.mp hl6) fun o' q96=>A2 q96 fun ho' hd'=>?_
  clear q96
  have hm:=N3 (D,o) (.head _)
  have N6:=N3.setIn (own:=[]) (fun _ h=>nomatch h) (fun p hp=>by
    rcases mem_cons.mp hp with rfl | hp
    · exact Ne.symm hne.1
    · clear hoff N S2 N3 hk3 hf3
      rcases mem_cons.mp hp with rfl | hp
      · exact Ne.symm hne.2.1
      · exact (off3 p hp).1) hs6 ho'
  unfold oh
  exact ⟨h6,_,mC,news',o',rfl,F3.change hs6 hm.2.1 hm.2.2,N6,off3,hk3,xs,_,_,M5.take k,m3,hr,hd',hsv.put hv5,hl5,hj5,hl3,ho3,hf3⟩
noncomputable def nilC:Cd→Ci→Prop
  | .exs es,.exs []=>es=[]
  | _,_=>True
theorem xJ {sc:SC} {es:List Expr} (h:CX sc (.exs es) (.exs [])):es=[]:=CX.ind (Q:=fun _ a b=>nilC a b) (fun sc a b s=>by induction s <;> first | exact True.intro | exact (rfl:([]:List Expr)=[])) h
theorem ow {k:Nat} {kx vx:IE} {t:IT} {l:Addr} {kvs:KVs} {R:Value→FM→Led→Prop} (J:List Value→KVs→Prop) (H:Cok c rm) (lo:(l == sysModules)=false) (hl:ae c.w nw l (.dict kvs)) (hj:J (ac (kvs.map (·.1))) []) (step:um c rm k M nw J kx vx t)
    (done:∀ kvs',J [] kvs'→∀ D,(D == sysModules)=false→R (.ref D) M ((D,.dict kvs')::nw)):wK c k kx vx t [] (.ref l) M nw R:=by
  unfold wK
  intro kE vE tE itE ifsE scope pos cl hkx hvx ht hf hk hn hcl v' s RR hv S post
  cases xJ hf
  cases aa hv
  refine A5 (bT H.toCok0 hk) fun e1 e2 e3 e4 e5=>?_
  obtain ⟨e,m,news,F,N,f⟩:=S
  refine E1 (gi f) fun nwr q91=>A2 q91 fun hz fz=>?_
  clear q91
  refine E1 hl fun y q92=>A2 q92 fun hy1 hy2=>?_
  try clear hl
  clear q92
  refine E1 (f.ob _ hy1) fun o q93=>A2 q93 fun ho hi=>?_
  clear q93
  refine E1 (hy2 o hi) fun kws q94=>A2 q94 fun hs hd=>?_
  clear q94
  have e0:(kws.map fun p=>cq p.1)=(kvs.map (·.1)).map cq:=by rw [← ig hs,List.map_map]; rfl
  unfold kI
  refine nT (JOD c scope.names nwr M J) H.hh lo e3 e2 F N (Src.led ho) hd ⟨ac (kvs.map (·.1)),[],[],List.replicate k none,m,e0▸jh,?_,rfl,Nat.zero_le _,hj,by rw [List.length_replicate,hn],fun i x v hl hv=>?_,fz.dead⟩ (nQ H hkx hvx ht hk hn hcl e hz (fun p hp=>by rw [mem_singleton.mp hp]; exact io hz fz N ho (mem_map_of_mem (f:=(·.1)) hy1)) step) fun D C oD m₁ news₁ h tk hD ⟨ra,kws',kvs',Mo,m0,hr,hkw,hsv,hlen,hj',hmo,hown,hfull⟩ hlt hoff h1 h2 h3 h4 hn' F' N'=>?_
  · exact ⟨#[],0,⟨rfl,rfl,rfl⟩,rfl,(fun _ h=>by simp at h),.nil,nodup_nil⟩
  · rw [List.getElem?_replicate] at hv
    split at hv
    · cases hv; rfl
    · cases hv
  · cases hr
    refine post D C M ((D,.dict kvs')::nw) m₁ m ((D,oD)::news₁) h tk (done kvs' hj' D ?_) hn' h2 h4 (fun p hp=>?_) F' N' ?_
    · exact beq_eq_false_iff_ne.mpr (Nat.ne_of_gt (Nat.lt_of_lt_of_le (Nat.lt_trans (modules_low H.T.nolimit) (Nat.lt_of_le_of_lt F.above F.ns.lt)) hD))
    · rcases mem_cons.mp hp with rfl | hp
      · exact h3
      · exact (hoff p hp).2
    · exact ((f.alive hfull).weak hz.weak).cons (fun p hp=>(hoff p hp).1) ⟨kws',hsv,hkw⟩
end
section
variable {c:Cx} {M:FM} {nw:Led} {rm:Nat} {σ α:Type} {Ms:σ→FM} {R:Flow→FM→Led→Prop} {t:IT} {b:List IS} {k:Nat} {l:Addr}
theorem nW {as:List α} (e:α→Value) (Ns:σ→Led) (P:List α→σ→Prop) (s₀:σ) (H:Cok c rm) {o:Obj} (hx:(aE.list (as.map e)).Is c.w o) (hk:∀ s,(l,.raw o) ∈ Ns s) (hM:M=Ms s₀) (hn:nw=Ns s₀) (hp:P as s₀)
    (step:∀ I oi,Cok (c.hide I oi) rm→∀ a r s,P (a::r) s→cW (c.hide I oi) t (e a) (Ms s) (Ns s) fun M nw=>wpS (c.hide I oi) k b M nw (LR c.w (SJ Ms Ns fun r s=>∃ ra:List α,r=ra.map e∧P ra s) R (r.map e))) (done:∀ s,P [] s→R .next (Ms s) (Ns s)):DoF c t (.ref l) b M nw R :=
  jl (k:=k) (SJ Ms Ns fun r s=>∃ ra:List α,r=ra.map e∧P ra s) H hx (fun r M nw ⟨s,e1,e2,_⟩=>by subst e2; exact hk s) ⟨s₀,hM,hn,as,rfl,hp⟩ (fun I oi h3 x r M nw ⟨s,e1,e2,ra,er,hp⟩=>by
    subst e1 e2
    cases ra with
    | nil=>cases er
    | cons a ra=>cases er; exact step I oi h3 a ra s hp) fun M nw ⟨s,e1,e2,ra,er,hp⟩=>⟨_,.refl _,by
    subst e1 e2
    cases ra with
    | cons a ra=>cases er
    | nil=>exact done s hp⟩
theorem bo.hide {I:Addr} {oi:Obj} (h:bo c):bo (c.hide I oi):=⟨h.fr,h.fm⟩
end
end
section
set_option tactic.hygienic false
noncomputable def bd (x y:Str):Str:=if Txt.startswith y "/" then y else if x.length != 0 then (if Txt.endswith x "/" then x++y else x++("/" ++ y)) else y
theorem wS {x y:Str} (h:Txt.startswith y "/" = true):bd x y=y:=by unfold bd; rw [h]; rfl
theorem xn {x y:Str} (h:Txt.startswith y "/" = false) (h2:(x.length != 0)=false):bd x y=y:=by unfold bd; rw [h,h2]; rfl
theorem wJ {x y:Str} (h:Txt.startswith y "/" = false) (h2:(x.length != 0)=true) (h3:Txt.endswith x "/" = true):bd x y=x++y:=by unfold bd; rw [h,h2,h3]; rfl
theorem yg {x y:Str} (h:Txt.startswith y "/" = false) (h2:(x.length != 0)=true) (h3:Txt.endswith x "/" = false):bd x y=x++("/" ++ y):=by unfold bd; rw [h,h2,h3]; rfl
theorem dU {c:Cx} {M:FM} {nw:Led} {rm:Nat} (H:Cok c (rm+1)) {x:Str} {R:Value→FM→Led→Prop}
    (hr:R (.str x 0) M nw):Do c .call [.ref 221,.str x 0] M nw R:=by
  have hPG:PG=RowW.prog (OpenRow.toRowW (OpenLaw.row Challenge.rw_il0094_01)):=rfl
  refine' aG (f:=221) (own:=[]) (k:=60) (xs:=[("path" : Str)]) (M₀:=[some (.str x 0),none,none,none]) H ?ho ?hcd ?hbind ?hkind ?hnd ?hM ?hB ?hco ?hgen ?hk (nil_sublist _) (bh (nil_sublist _)) ?main
  case ho=>intro w; k_fill; intro _; k_is
  case hcd=>intro w; k_fill; intro _; k_is
  case hbind=>first | exact bb fun _ _=>BindsTo.of_eq rfl | exact aY fun _ _ _=>BindsTo.of_eq rfl | exact bt fun _ _ _ _=>BindsTo.of_eq rfl
  case hkind=>exact ak rfl
  case hM=>exact rfl
  case hnd=>decide +kernel
  case hco=>exact rfl
  case hgen=>exact rfl
  case hk=>exact rfl
  case hB=>repeat' first | (with_reducible (apply CX.fold; apply CXs.var)) <;> exact rfl | (with_reducible (apply CX.fold; apply CXs.glob)) <;> (first | exact rfl | decide +kernel) | with_reducible exact CX.fold (@CXs.raw _ _ (PySem.Expr.Name _ _)) | with_reducible (apply CB.fold; apply CBs.asgc) | with_reducible (apply CX.fold; constructor) | with_reducible (apply CB.fold; constructor) | with_reducible constructor | exact rfl | decide +kernel
  intro c1 hsc hw H1
  refine pk ?_
  intro D
  refine uP .head ?_
  exact gH hr
theorem jP {c:Cx} {M:FM} {nw:Led} {rm:Nat} (H:Cok c (rm+1)) {x:Str} {R:Value→FM→Led→Prop}
    (hr:R (.str "/" 0) M nw):Do c .call [.ref 235,.str x 0] M nw R:=by
  have hPG:PG=RowW.prog (OpenRow.toRowW (OpenLaw.row Challenge.rw_il0094_01)):=rfl
  refine' aG (f:=235) (own:=[]) (k:=60) (xs:=[("path" : Str)]) (M₀:=[some (.str x 0)]) H ?ho ?hcd ?hbind ?hkind ?hnd ?hM ?hB ?hco ?hgen ?hk (nil_sublist _) (bh (nil_sublist _)) ?main
  case ho=>intro w; k_fill; intro _; k_is
  case hcd=>intro w; k_fill; intro _; k_is
  case hbind=>first | exact bb fun _ _=>BindsTo.of_eq rfl | exact aY fun _ _ _=>BindsTo.of_eq rfl | exact bt fun _ _ _ _=>BindsTo.of_eq rfl
  case hkind=>exact ak rfl
  case hM=>exact rfl
  case hnd=>decide +kernel
  case hco=>exact rfl
  case hgen=>exact rfl
  case hk=>exact rfl
  case hB=>repeat' first | (with_reducible (apply CX.fold; apply CXs.var)) <;> exact rfl | (with_reducible (apply CX.fold; apply CXs.glob)) <;> (first | exact rfl | decide +kernel) | with_reducible exact CX.fold (@CXs.raw _ _ (PySem.Expr.Name _ _)) | with_reducible (apply CB.fold; apply CBs.asgc) | with_reducible (apply CX.fold; constructor) | with_reducible (apply CB.fold; constructor) | with_reducible constructor | exact rfl | decide +kernel
  intro c1 hsc hw H1
  exact dj (gH hr)
theorem tU {c:Cx} {M:FM} {nw:Led} {rm:Nat} (H:Cok c (rm+2)) {x y:Str} (hx:x.length≤1000) (hy:y.length≤1000) {R:Value→FM→Led→Prop}
    (hr:R (.str (bd x y) 0) M nw):Do c .call [.ref 242,.str x 0,.str y 0] M nw R:=by
  have hPG:PG=RowW.prog (OpenRow.toRowW (OpenLaw.row Challenge.rw_il0094_01)):=rfl
  refine' gW (f:=242) (hds:=[.str x 0]) (rs:=[.str y 0]) (l1:=[]) (own:=[]) (l2:=nw) (k:=60) (xs:=[("a" : Str), "p"]) (M₀:=fun D=>[some (.str x 0),some (.ref D),none,none,none]) H ?ho ?hcd ?hbind ?hkind ?hnd ?hM ?hB ?hco ?hgen ?hk rfl rfl (Nat.le_add_left _ _) ?main
  case ho=>intro w; k_fill; intro _; k_is
  case hcd=>intro w; k_fill; intro _; k_is
  case hbind=>first | exact nk fun _ _=>rfl | exact rz fun _ _ _ _=>rfl
  case hkind=>exact ak rfl
  case hM=>exact fun _=>rfl
  case hnd=>decide +kernel
  case hco=>exact rfl
  case hgen=>exact rfl
  case hk=>exact rfl
  case hB=>repeat' first | (with_reducible (apply CX.fold; apply CXs.var)) <;> exact rfl | (with_reducible (apply CX.fold; apply CXs.glob)) <;> (first | exact rfl | decide +kernel) | with_reducible exact CX.fold (@CXs.raw _ _ (PySem.Expr.Name _ _)) | with_reducible (apply CB.fold; apply CBs.asgc) | with_reducible (apply CX.fold; constructor) | with_reducible (apply CB.fold; constructor) | with_reducible constructor | exact rfl | decide +kernel
  intro c1 D hsc hw H1
  refine dU H1 ?_
  refine jP H1 ?_
  refine' xt (k:=50) H1 ?hb9 ?m
  case hb9=>rw [hsc]; repeat' first | (with_reducible (apply CX.fold; apply CXs.var)) <;> exact rfl | (with_reducible (apply CX.fold; apply CXs.glob)) <;> (first | exact rfl | decide +kernel) | with_reducible exact CX.fold (@CXs.raw _ _ (PySem.Expr.Name _ _)) | with_reducible (apply CB.fold; apply CBs.asgc) | with_reducible (apply CX.fold; constructor) | with_reducible (apply CB.fold; constructor) | with_reducible constructor | exact rfl | decide +kernel
  refine iC (k:=40) (i:=0) H1.calm rfl fun o _ c2 _ _ H2=>?_
  refine dU H2 ?_
  refine jW ?_
  refine jX ?_
  refine aN (fun h1=>?_) fun h1=>?_
  · exact ⟨_,.refl _,.head _,[],bQ,wS (x:=x) h1▸hr⟩
  refine dm (by omega) ?_
  refine aN (fun h2=>?_) fun h2=>?_
  · exact ⟨_,.refl _,.head _,[],bQ,xn h1 (by simpa using h2)▸hr⟩
  refine nI ?_
  refine nZ ?_
  refine aN (fun h3=>?_) fun h3=>?_
  · refine lW (by omega) ?_
    exact ⟨_,.refl _,.head _,[],bQ,wJ h1 (by simpa using h2) h3▸hr⟩
  · refine lj (by rw [show ("/" : Str).length=1 from rfl]; omega) ?_
    refine lW (by rw [Str.length_append,show ("/" : Str).length=1 from rfl]; omega) ?_
    exact ⟨_,.refl _,.head _,[],bQ,yg h1 (by simpa using h2) h3▸hr⟩
end
section
set_option tactic.hygienic false
noncomputable def kH (x:Str):Prop:=(Txt.slice x none (some 1) != "/")=false∧((Txt.slice x (some 1) (some 2) != "/")=true∨(Txt.slice x (some 2) (some 3) == "/")=true)
theorem lk {c:Cx} {M:FM} {nw:Led} {rm:Nat} (H:Cok c (rm+2)) {x:Str} (hx:x.length≤1000) (ho:kH x) {R:Value→FM→Led→Prop} (hr:∀ D,R (.ref D) M ((D,.tup [.str "" 0,.str "/" 0,.str (Txt.slice x (some 1) none) 0])::nw)):Do c .call [.ref 249,.str x 0] M nw R:=by
  have hPG:PG=RowW.prog (OpenRow.toRowW (OpenLaw.row Challenge.rw_il0094_01)):=rfl
  refine' aG (f:=249) (own:=[]) (k:=60) (xs:=(["p"]:List Str)) (M₀:=[some (.str x 0),none,none]) H ?ho ?hcd ?hbind ?hkind ?hnd ?hM ?hB ?hco ?hgen ?hk (nil_sublist _) (bh (nil_sublist _)) ?main
  case ho=>intro w; k_fill; intro _; k_is
  case hcd=>intro w; k_fill; intro _; k_is
  case hbind=>first | exact bb fun _ _=>BindsTo.of_eq rfl | exact aY fun _ _ _=>BindsTo.of_eq rfl | exact bt fun _ _ _ _=>BindsTo.of_eq rfl
  case hkind=>exact ak rfl
  case hM=>exact rfl
  case hnd=>decide +kernel
  case hco=>exact rfl
  case hgen=>exact rfl
  case hk=>exact rfl
  case hB=>repeat' first | (with_reducible (apply CX.fold; apply CXs.var)) <;> exact rfl | (with_reducible (apply CX.fold; apply CXs.glob)) <;> (first | exact rfl | decide +kernel) | with_reducible exact CX.fold (@CXs.raw _ _ (PySem.Expr.Name _ _)) | with_reducible (apply CB.fold; apply CBs.asgc) | with_reducible (apply CX.fold; constructor) | with_reducible (apply CB.fold; constructor) | with_reducible constructor | exact rfl | decide +kernel
  intro c1 hsc hw H1
  refine dU H1 ?_
  refine dj ?_
  refine ut (by omega) ?_
  refine dz ho.1 ?_
  refine qR (by omega) ?_
  refine aN (fun h=>?_) fun h=>?_
  · refine gY (by omega) fun D=>?_
    exact ⟨[_],.keep bQ,hr D⟩
  · refine qR (by omega) ?_
    refine gA (ho.2.resolve_left (fun z=>by simp at h z; exact z h)) ?_
    refine gY (by omega) fun D=>?_
    exact ⟨[_],.keep bQ,hr D⟩
noncomputable abbrev dc (x:Str):Str:=Txt.slice x none (some (Txt.rfind x "/" + 1))
noncomputable def dR (x:Str):Str:=if (dc x).length != 0 then (if dc x != Txt.mul "/" (dc x).length then Txt.rstripChars (dc x) "/" else dc x) else dc x
theorem dir_1 {x:Str} (h:((dc x).length != 0)=false):dR x=dc x:=by unfold dR; rw [h]; rfl
theorem dir_2 {x:Str} (h:((dc x).length != 0)=true) (h2:(dc x != Txt.mul "/" (dc x).length)=false):dR x=dc x:=by unfold dR; rw [h,h2]; rfl
theorem dir_3 {x:Str} (h:((dc x).length != 0)=true) (h2:(dc x != Txt.mul "/" (dc x).length)=true):dR x=Txt.rstripChars (dc x) "/" := by unfold dR; rw [h,h2]; rfl
theorem qh {c:Cx} {M:FM} {nw:Led} {rm:Nat} (H:Cok c (rm+2)) {x:Str} (hx:x.length≤1000) {R:Value→FM→Led→Prop} (hr:R (.str (dR x) 0) M nw):Do c .call [.ref 256,.str x 0] M nw R:=by
  have hPG:PG=RowW.prog (OpenRow.toRowW (OpenLaw.row Challenge.rw_il0094_01)):=rfl
  refine' aG (f:=256) (own:=[]) (k:=60) (xs:=(["p"]:List Str)) (M₀:=[some (.str x 0),none,none,none]) H ?ho ?hcd ?hbind ?hkind ?hnd ?hM ?hB ?hco ?hgen ?hk (nil_sublist _) (bh (nil_sublist _)) ?main
  case ho=>intro w; k_fill; intro _; k_is
  case hcd=>intro w; k_fill; intro _; k_is
  case hbind=>first | exact bb fun _ _=>BindsTo.of_eq rfl | exact aY fun _ _ _=>BindsTo.of_eq rfl | exact bt fun _ _ _ _=>BindsTo.of_eq rfl
  case hkind=>exact ak rfl
  case hM=>exact rfl
  case hnd=>decide +kernel
  case hco=>exact rfl
  case hgen=>exact rfl
  case hk=>exact rfl
  case hB=>repeat' first | (with_reducible (apply CX.fold; apply CXs.var)) <;> exact rfl | (with_reducible (apply CX.fold; apply CXs.glob)) <;> (first | exact rfl | decide +kernel) | with_reducible exact CX.fold (@CXs.raw _ _ (PySem.Expr.Name _ _)) | with_reducible (apply CB.fold; apply CBs.asgc) | with_reducible (apply CX.fold; constructor) | with_reducible (apply CB.fold; constructor) | with_reducible constructor | exact rfl | decide +kernel
  intro c1 hsc hw H1
  refine dU H1 ?_
  refine jP H1 ?_
  refine wo ?_
  refine vd ?_
  refine ut (by omega) ?_
  have hle:(dc x).length≤1000:=Nat.le_trans (PyProof.Txt.length_slice_le x _ _) hx
  refine dm (Nat.le_trans hle (by decide)) ?_
  refine aN (fun h1=>?_) fun h1=>?_
  · refine wQ (Nat.le_trans hle (by decide)) ?_
    refine qN (mulOk_of 1 1000 (Nat.le_refl _) (Int.ofNat_le.mpr hle) (Int.le_trans (by decide) (Int.natCast_nonneg _)) (by decide) (by decide)) ?_
    refine aN (fun h2=>?_) fun h2=>?_
    · refine sL ?_
      refine tO (Nat.le_trans hle (by decide)) ?_
      exact gH (strR (dir_3 h1 h2).symm hr)
    · exact gH (strR (dir_2 h1 h2).symm hr)
  · exact gH (strR (dir_1 h1).symm hr)
noncomputable def am (acc:List Str) (c:Str):List Str :=
  if (c.length != 0)=false∨(c == ".")=true then acc else if (c != "..")=true∨acc.getLast? = some ".." then acc++[c] else acc.dropLast
theorem mi {acc:List Str} {y:Str} (h:(y.length != 0)=false):am acc y=acc:=by unfold am; rw [if_pos (.inl h)]
theorem tV {acc:List Str} {y:Str} (h:(y == ".")=true):am acc y=acc:=by unfold am; rw [if_pos (.inr h)]
theorem mj {acc:List Str} {y:Str} (h1:(y.length != 0)=true) (h2:(y == ".")=false) (h3:(y != "..")=true):am acc y=acc++[y]:=by
  unfold am; rw [if_neg (by rw [h1,h2]; simp),if_pos (.inl h3)]
theorem ns_dd {ini:List Str} {z y:Str} (h1:(y.length != 0)=true) (h2:(y == ".")=false) (h3:(y != "..")=false) (h4:(z == "..")=false):am (ini++[z]) y=ini:=by
  unfold am; rw [if_neg (by rw [h1,h2]; simp),if_neg (by rw [h3]; simp; intro e; subst e; simp at h4)]; simp
theorem xY {ini:List Str} {z y:Str} (h1:(y.length != 0)=true) (h2:(y == ".")=false) (h4:(z == "..")=true):am (ini++[z]) y=ini++[z]++[y]:=by
  unfold am; rw [if_neg (by rw [h1,h2]; simp),if_pos (.inr (by simp; exact eq_of_beq h4))]
theorem wA {y:Str} (h1:(y.length != 0)=true) (h2:(y == ".")=false) (h3:(y != "..")=false):am [] y=[]:=by
  unfold am; rw [if_neg (by rw [h1,h2]; simp),if_neg (by rw [h3]; simp)]; rfl
noncomputable def ej (x:Str):List Str:=Txt.split (Txt.slice x (some 1) none) "/"
noncomputable def dO (x:Str):Str:=Txt.join "/" ((ej x).foldl am [])
noncomputable def fM (x:Str):Str := "/" ++ dO x
structure dE (x:Str):Prop where
  len:x.length≤1000
  pos:1≤x.length
  root:kH x
  cnt:(ej x).length≤1000
  short:∀ c ∈ ej x,c.length≤1000
  res:(dO x).length≤1000
structure NP (x:Str) (r:List Value) (s:List Str×Option Value):Prop where
  ex:∃ rest:List Str,r=ac rest∧rest.foldl am s.1=(ej x).foldl am []∧(∀ p ∈ rest,p.length≤1000)∧(∀ p ∈ s.1,p.length≤1000)∧s.1.length+rest.length≤1000
theorem lx {acc:List Str} {y:Str} (ha:∀ p ∈ acc,p.length≤1000) (hy:y.length≤1000):(∀ p ∈ am acc y,p.length≤1000)∧(am acc y).length≤acc.length+1:=by
  unfold am
  split
  · exact ⟨ha,Nat.le_succ _⟩
  · split
    · refine ⟨fun p hp=>?_,by simp⟩
      rcases mem_append.mp hp with hp | hp
      · exact ha p hp
      · rw [mem_singleton.mp hp]; exact hy
    · refine ⟨fun p hp=>ha p (List.dropLast_subset _ hp),by rw [List.length_dropLast]; (clear hy; omega)⟩
theorem NP.turn {x:Str} {v:Value} {r:List Value} {s:List Str×Option Value} (h:NP x (v::r) s):∃ y,v = .str y 0∧y.length≤10000∧s.1.length≤1000∧∀ a o,am s.1 y=a→NP x r (a,o):=by
  refine E1 h.ex fun rest q91=>A5 q91 fun e ef b1 b2 b3=>?_
  clear q91
  cases rest with
  | nil=>cases e
  | cons y rest =>
    cases e
    have hy:=b1 y (.head _)
    rw [length_cons] at b3
    refine ⟨y,rfl,by (clear b3; omega),by omega,fun a o ea=>?_⟩
    subst ea
    obtain ⟨c1,c2⟩:=lx b2 hy
    exact ⟨rest,rfl,ef,fun p hp=>b1 p (.tail _ hp),c1,by dsimp only; omega⟩
theorem NP.start {x:Str} (ok:dE x):NP x (ac (Txt.split (Txt.slice x (some 1) none) "/")) ([],none):=⟨ej x,rfl,rfl,ok.short,(fun _ h=>nomatch h),by have:=ok.cnt; simpa using this⟩
theorem NP.done {x:Str} {s:List Str×Option Value} (h:NP x [] s):s.1=(ej x).foldl am []∧(s.1.map (·.length)).sum+s.1.length≤1048576:=by
  refine E1 h.ex fun rest q91=>A5 q91 fun e ef b1 b2 b3=>?_
  clear q91
  cases rest with
  | cons y rest=>cases e
  | nil=>exact ⟨ef,by have:=eR s.1 1000 b2; have b4:s.1.length≤1000:=(by simpa using b3); omega⟩
theorem oa {c:Cx} {M:FM} {nw:Led} {rm:Nat} (H:Cok c (rm+3)) {x:Str} (ok:dE x) {R:Value→FM→Led→Prop} (hr:R (.str (fM x) 0) M nw):Do c .call [.ref 263,.str x 0] M nw R:=by
  have hPG:PG=RowW.prog (OpenRow.toRowW (OpenLaw.row Challenge.rw_il0094_01)):=rfl
  refine' aG (f:=263) (own:=[]) (k:=60) (xs:=(["path"]:List Str)) (M₀:=[some (.str x 0),none,none,none,none,none,none,none,none]) H ?ho ?hcd ?hbind ?hkind ?hnd ?hM ?hB ?hco ?hgen ?hk (nil_sublist _) (bh (nil_sublist _)) ?main
  case ho=>intro w; k_fill; intro _; k_is
  case hcd=>intro w; k_fill; intro _; k_is
  case hbind=>first | exact bb fun _ _=>BindsTo.of_eq rfl | exact aY fun _ _ _=>BindsTo.of_eq rfl | exact bt fun _ _ _ _=>BindsTo.of_eq rfl
  case hkind=>exact ak rfl
  case hM=>exact rfl
  case hnd=>decide +kernel
  case hco=>exact rfl
  case hgen=>exact rfl
  case hk=>exact rfl
  case hB=>repeat' first | (with_reducible (apply CX.fold; apply CXs.var)) <;> exact rfl | (with_reducible (apply CX.fold; apply CXs.glob)) <;> (first | exact rfl | decide +kernel) | with_reducible exact CX.fold (@CXs.raw _ _ (PySem.Expr.Name _ _)) | with_reducible (apply CB.fold; apply CBs.asgc) | with_reducible (apply CX.fold; constructor) | with_reducible (apply CB.fold; constructor) | with_reducible constructor | exact rfl | decide +kernel
  intro c1 hsc hw H1
  have hx:=ok.len
  refine dU H1 ?_
  refine dj ?_
  refine dm (by omega) ?_
  refine dz (by have:=ok.pos; simp; (clear hx; omega)) ?_
  refine lk H1 hx ok.root fun D=>?_
  refine cS H1 .head rfl ?_
  refine uF ?_
  refine uB (by decide) (Nat.le_trans (PyProof.Txt.length_slice_le x _ _) (Nat.le_trans hx (by decide))) fun D2=>?_
  intro D3
  refine qy (k:=50) (Ms:=fun s:List Str×Option Value=>[some (.str (Txt.slice x (some 1) none) 0),some (.str "/" 0),some (.str "." 0),some (.str ".." 0),some (.str "" 0),some (.str "/" 0),some (.ref D2),some (.ref D3),s.2]) 1 (fun y s=>[(D3,.list (ac s.1)),(D2,y),(D,.tup [.str "" 0,.str "/" 0,.str (Txt.slice x (some 1) none) 0])]) (NP x) ([],none) H1 rfl rfl (fun _ _=>rfl) (fun _ _ _=>rfl) (NP.start ok) ?_ ?_
  · intro c2 _ _ H2 o ho v r s hp
    obtain ⟨acc,b⟩:=s
    refine E1 hp.turn fun y q91=>A4 q91 fun e92 hy ha hn=>?_
    clear q91
    clear hp
    first | subst e92 | cases e92
    refine dm hy ?_
    refine aN (fun h1=>?_) fun h1=>?_
    · exact LR.next (acc,some (.str y 0)) (.refl _) (hn _ _ (mi (by simpa using h1))) rfl
    refine aN (fun h2=>?_) fun h2=>?_
    · exact LR.next (acc,some (.str y 0)) (.refl _) (hn _ _ (tV (by simpa using h2))) rfl
    refine aN (fun h3=>?_) fun h3=>?_
    · refine bS .head ?_
      refine ca (i:=0) rfl ha ?_
      exact LR.next (acc++[y],some (.str y 0)) (.refl _) (hn _ _ (mj (by simpa using h1) (by simpa using h2) (by simpa using h3))) rfl
    refine dm (by decide) ?_
    refine aV .head (by (clear hx hy; omega)) ?_
    have h3':y = ".." := by simpa using h3
    subst h3'
    rcases eq_nil_or_concat acc with rfl | ⟨ini,z,rfl⟩
    · refine aV .head (by (clear hx hy; omega)) ?_
      exact LR.next ([],some (.str ".." 0)) (.refl _) (hn _ _ (wA (by decide +kernel) (by decide +kernel) (by decide +kernel))) rfl
    · rw [concat_eq_append] at ha hn ⊢
      refine gA (by simp) ?_
      refine jo .head (by simp at ha; (clear hx hy; omega)) ?_
      have ha':ini.length≤1000:=by simp at ha; (clear hx hy; omega)
      refine aN (fun h4=>?_) fun h4=>?_
      · refine bS .head ?_
        refine ca (i:=0) rfl ha ?_
        exact LR.next (ini++[z]++[(".." : Str)],some (.str ".." 0)) (.refl _) (hn _ _ (xY (by decide +kernel) (by decide +kernel) (by simpa using h4))) rfl
      · refine aV .head (by (clear hx hy ha'; omega)) ?_
        refine gA (by simp) ?_
        refine su .head ?_
        refine uc (i:=0) rfl ha' ?_
        exact LR.next (ini,some (.str ".." 0)) (.refl _) (hn _ _ (ns_dd (by decide +kernel) (by decide +kernel) (by decide +kernel) (by simpa using h4))) rfl
  · intro s hp
    obtain ⟨acc,b⟩:=s
    refine A2 hp.done fun e hj=>?_
    refine tW ?_
    refine uj .head (by decide) hj ?_
    have e2:Txt.join "/" acc=dO x:=congrArg (Txt.join "/") e
    have e3:=ok.res
    have hr':R (.str ("/" ++ dO x) 0) M nw:=hr
    rw [e2]
    generalize dO x=jr at e3 hr' ⊢
    refine lj (by rw [show ("/" : Str).length=1 from rfl]; (clear hx hj; omega)) ?_
    refine dm (by rw [Str.length_append,show ("/" : Str).length=1 from rfl]; (clear hx hj; omega)) ?_
    refine gA (by rw [Str.length_append,show ("/" : Str).length=1 from rfl]; simp) ?_
    exact gH hr'
theorem qq {c:Cx} {M:FM} {nw:Led} {rm:Nat} (H:Cok c (rm+4)) {x y:Str} (hx:x.length≤1000) (hy:y.length≤1000) (hdl:(dR x).length≤1000) (hn:dE (bd (dR x) y)) {R:Value→FM→Led→Prop} (hr:R (.str (fM (bd (dR x) y)) 0) M nw):Do c .call [.ref 299,.str x 0,.str y 0] M nw R:=by
  have hPG:PG=RowW.prog (OpenRow.toRowW (OpenLaw.row Challenge.rw_il0094_01)):=rfl
  refine' aG (f:=299) (own:=[]) (k:=60) (xs:=(["place", "text"]:List Str)) (M₀:=[some (.str x 0),some (.str y 0)]) H ?ho ?hcd ?hbind ?hkind ?hnd ?hM ?hB ?hco ?hgen ?hk (nil_sublist _) (bh (nil_sublist _)) ?main
  case ho=>intro w; k_fill; intro _; k_is
  case hcd=>intro w; k_fill; intro _; k_is
  case hbind=>first | exact bb fun _ _=>BindsTo.of_eq rfl | exact aY fun _ _ _=>BindsTo.of_eq rfl | exact bt fun _ _ _ _=>BindsTo.of_eq rfl
  case hkind=>exact ak rfl
  case hM=>exact rfl
  case hnd=>decide +kernel
  case hco=>exact rfl
  case hgen=>exact rfl
  case hk=>exact rfl
  case hB=>repeat' first | (with_reducible (apply CX.fold; apply CXs.var)) <;> exact rfl | (with_reducible (apply CX.fold; apply CXs.glob)) <;> (first | exact rfl | decide +kernel) | with_reducible exact CX.fold (@CXs.raw _ _ (PySem.Expr.Name _ _)) | with_reducible (apply CB.fold; apply CBs.asgc) | with_reducible (apply CX.fold; constructor) | with_reducible (apply CB.fold; constructor) | with_reducible constructor | exact rfl | decide +kernel
  intro c1 hsc hw H1
  refine qh H1 hx ?_
  refine tU H1 hdl hy ?_
  refine oa H1 hn ?_
  exact gH hr
end
section
set_option tactic.hygienic false
noncomputable def apK:Nat→Nat→List UInt8
  | 0,_=>[]
  | k+1,n=>if n=0 then [] else apK k (n / 16)++[(65+n % 16).toUInt8]
theorem mT:∀ {k j n:Nat},n≤k→n≤j→apK k n=apK j n
  | 0,j,n,h,_=>by
    cases Nat.le_zero.mp h
    cases j <;> rfl
  | k+1,0,n,_,h=>by cases Nat.le_zero.mp h; rfl
  | k+1,j+1,n,h,h'=>by
    by_cases e:n=0
    · subst e; rfl
    · have hd:n / 16 < n:=Nat.div_lt_self (Nat.pos_of_ne_zero e) (by decide)
      unfold apK
      rw [if_neg e,if_neg e,mT (k:=k) (j:=j) (Nat.le_of_lt_succ (Nat.lt_of_lt_of_le hd h)) (Nat.le_of_lt_succ (Nat.lt_of_lt_of_le hd h'))]
noncomputable def apN (n:Nat):List UInt8:=apK n n
theorem aZ:apN 0=[]:=rfl
theorem cO {n:Nat} (h:n≠0):apN n=apN (n / 16)++[(65+n % 16).toUInt8]:=by
  obtain ⟨m,rfl⟩:=Nat.exists_eq_succ_of_ne_zero h
  have hd:m.succ / 16≤m:=Nat.le_of_lt_succ (Nat.div_lt_self (Nat.succ_pos m) (by decide))
  show (if m.succ=0 then [] else apK m (m.succ / 16)++[(65+m.succ % 16).toUInt8])=_
  rw [if_neg h,mT hd (Nat.le_refl _)]; rfl
noncomputable abbrev APb:Array UInt8:=#[65,66,67,68,69,70,71,72,73,74,75,76,77,78,79,80]
theorem vt:∀ j:Nat,j < 16→KBy.picked APb (some (j:Int)) (some ((j:Int)+1)) = #[(65+j).toUInt8]:=by decide +kernel
theorem xo (k:Nat):Int.fmod (k:Int) 16=((k % 16:Nat):Int):=by rw [Int.fmod_eq_emod_of_nonneg _ (by decide)]; omega
theorem xk (k:Nat):Int.fdiv (k:Int) 16=((k / 16:Nat):Int):=by rw [Int.fdiv_eq_ediv_of_nonneg _ (by decide)]; omega
theorem mq (k:Nat):KBy.picked APb (some (Int.fmod (k:Int) 16)) (some (Int.fmod (k:Int) 16+1)) = #[(65+k % 16).toUInt8]:=by rw [xo]; exact vt _ (Nat.mod_lt _ (by decide))
theorem wn (n:Nat):(apN n).length≤n:=by
  induction n using Nat.strongRecOn with
  | _ n ih =>
    by_cases h:n=0
    · subst h; rw [aZ]; exact Nat.le_refl _
    · rw [cO h,length_append,length_singleton]
      have:=ih (n / 16) (by omega)
      omega
theorem rZ {k n:Nat} {v:Array UInt8} (h0:k≠0) (h:apN k++v.toList=apN n):apN (Int.fdiv (k:Int) 16).toNat++(KBy.picked APb (some (Int.fmod (k:Int) 16)) (some (Int.fmod (k:Int) 16+1))++v).toList=apN n∧(Int.fdiv (k:Int) 16).toNat < k∧Int.fdiv (k:Int) 16=(Int.fdiv (k:Int) 16).toNat:=by
  rw [mq,xk]
  refine ⟨?_,by omega,by omega⟩
  rw [cO h0] at h
  rw [← h,Int.toNat_natCast]
  simp
theorem nc {c:Cx} {M:FM} {nw:Led} {rm:Nat} (H:Cok c (rm+1)) {n:Int} (hn:n.natAbs≤100000) {R:Value→FM→Led→Prop} (hr:R (.bytes (apN n.natAbs).toArray 0) M nw):Do c .call [.ref 28,.int n 0] M nw R:=by
  have hPG:PG=RowW.prog (OpenRow.toRowW (OpenLaw.row Challenge.rw_il0094_01)):=rfl
  refine' aG (f:=28) (own:=[]) (k:=60) (xs:=(["num"]:List Str)) (M₀:=[some (.int n 0),none,none,none]) H ?ho ?hcd ?hbind ?hkind ?hnd ?hM ?hB ?hco ?hgen ?hk (nil_sublist _) (bh (nil_sublist _)) ?main
  case ho=>intro w; k_fill; intro _; k_is
  case hcd=>intro w; k_fill; intro _; k_is
  case hbind=>first | exact bb fun _ _=>BindsTo.of_eq rfl | exact aY fun _ _ _=>BindsTo.of_eq rfl | exact bt fun _ _ _ _=>BindsTo.of_eq rfl
  case hkind=>exact ak rfl
  case hM=>exact rfl
  case hnd=>decide +kernel
  case hco=>exact rfl
  case hgen=>exact rfl
  case hk=>exact rfl
  case hB=>repeat' first | (with_reducible (apply CX.fold; apply CXs.var)) <;> exact rfl | (with_reducible (apply CX.fold; apply CXs.glob)) <;> (first | exact rfl | decide +kernel) | with_reducible exact CX.fold (@CXs.raw _ _ (PySem.Expr.Name _ _)) | with_reducible (apply CB.fold; apply CBs.asgc) | with_reducible (apply CX.fold; constructor) | with_reducible (apply CB.fold; constructor) | with_reducible constructor | exact rfl | decide +kernel
  intro c1 hsc hw H1
  refine yl ?_
  refine c_int ?_
  refine iY (k:=50) (Ms:=fun s:Nat×Array UInt8×Option Value=>[some (.int s.1 0),some (.bytes s.2.1 0),some (.bytes APb 0),s.2.2]) (fun _=>[]) (fun s=>apN s.1++s.2.1.toList=apN n.natAbs) (·.1) (n.natAbs,#[],none) H1 rfl rfl (by simp) ?_
  intro s hp
  obtain ⟨k,v,o⟩:=s
  refine aN (fun h=>?_) fun h=>?_
  · have h0:k≠0:=fun e=>by subst e; simp at h
    refine rY (by decide) fun D=>?_
    refine cS H1 .head rfl ?_
    refine slcB iS iS (by decide) ?_
    refine A3 (rZ h0 hp) fun e1 e2 e3=>?_
    refine vq (by rw [mq]; have:=congrArg List.length hp; have l1:=wn n.natAbs; simp at this; simp; (clear e2 e3; omega)) ?_
    refine WR.next ((Int.fdiv k 16).toNat,KBy.picked APb (some (Int.fmod (k:Int) 16)) (some (Int.fmod (k:Int) 16+1))++v,some (.int (Int.fmod (k:Int) 16) 0)) bQ e1 e2 (congrArg (fun z:Int=>[some (Value.int z 0),some (Value.bytes (KBy.picked APb (some (Int.fmod (k:Int) 16)) (some (Int.fmod (k:Int) 16+1))++v) 0),some (Value.bytes APb 0),some (Value.int (Int.fmod (k:Int) 16) 0)]) e3)
  · have h0:k=0:=by simpa using h
    clear h
    subst h0
    refine gH (w:=c.w) ?_
    rw [aZ,nil_append] at hp
    have:v=(apN n.natAbs).toArray:=by rw [← hp]
    exact this▸hr
noncomputable def iW (n:Int) (c:UInt8):Int:=n * 16+c.toNat - 65
noncomputable def kr (l:List UInt8):Int:=l.foldl iW 0
noncomputable def nb (c:UInt8):Prop:=65≤c.toNat∧c.toNat≤80
theorem pW {c:Cx} {M:FM} {nw:Led} {rm:Nat} (H:Cok c (rm+1)) {v:Array UInt8} {R:Value→FM→Led→Prop} (hr:R (.int (kr v.toList) 0) M nw):Do c .call [.ref 325,.bytes v 0] M nw R:=by
  have hPG:PG=RowW.prog (OpenRow.toRowW (OpenLaw.row Challenge.rw_il0094_01)):=rfl
  refine' aG (f:=325) (own:=[]) (k:=60) (xs:=(["word"]:List Str)) (M₀:=[some (.bytes v 0),none,none]) H ?ho ?hcd ?hbind ?hkind ?hnd ?hM ?hB ?hco ?hgen ?hk (nil_sublist _) (bh (nil_sublist _)) ?main
  case ho=>intro w; k_fill; intro _; k_is
  case hcd=>intro w; k_fill; intro _; k_is
  case hbind=>first | exact bb fun _ _=>BindsTo.of_eq rfl | exact aY fun _ _ _=>BindsTo.of_eq rfl | exact bt fun _ _ _ _=>BindsTo.of_eq rfl
  case hkind=>exact ak rfl
  case hM=>exact rfl
  case hnd=>decide +kernel
  case hco=>exact rfl
  case hgen=>exact rfl
  case hk=>exact rfl
  case hB=>repeat' first | (with_reducible (apply CX.fold; apply CXs.var)) <;> exact rfl | (with_reducible (apply CX.fold; apply CXs.glob)) <;> (first | exact rfl | decide +kernel) | with_reducible exact CX.fold (@CXs.raw _ _ (PySem.Expr.Name _ _)) | with_reducible (apply CB.fold; apply CBs.asgc) | with_reducible (apply CX.fold; constructor) | with_reducible (apply CB.fold; constructor) | with_reducible constructor | exact rfl | decide +kernel
  intro c1 hsc hw H1
  refine oE (k:=50) (Ms:=fun s:Int×Option Value=>[some (.bytes v 0),some (.int s.1 0),s.2]) (fun _=>[]) (fun r s=>r.foldl iW s.1=kr v.toList) (0,none) H1 rfl rfl rfl ?_ ?_
  · intro c2 _ _ H2 y r s hp
    refine jU (IntMulOk.of_right (by decide)) ?_
    exact LR.next (s.1 * 16+y.toNat - 65,some (.int y.toNat 0)) (.refl _) hp rfl
  · intro s hp
    exact gH ((show s.1=_ from hp)▸hr)
end
section
set_option tactic.hygienic false
theorem vN {v:Array UInt8} (h:v.toList.head?≠some 65):((KBy.picked v none (some 1)).toList != [65])=true:=by
  rw [bne_iff_ne]
  intro e
  have hb:=KBc.ints_picked (b:=v) (ks:=KBw.bInts v) rfl none (some 1)
  have h1:KBw.bInts (KBy.picked v none (some 1))=[65]:=by unfold KBw.bInts; rw [e]; rfl
  rw [h1] at hb
  simp only [Option.elim,drop_zero,Nat.sub_zero] at hb
  cases hv:v.toList with
  | nil=>rw [show KBw.bInts v=[] from by unfold KBw.bInts; rw [hv]; rfl] at hb; simp at hb
  | cons c r =>
    rw [show KBw.bInts v=(c.toNat:Int)::r.map (fun c=>(c.toNat:Int)) from by unfold KBw.bInts; rw [hv]; rfl] at hb
    have hc:(c.toNat:Int)=65:=by
      cases hm:clipAt (List.length ((c.toNat:Int)::r.map (fun c=>(c.toNat:Int)))) 1 with
      | zero=>rw [hm] at hb; simp at hb
      | succ k=>rw [hm,List.take_succ_cons] at hb; exact (List.cons.inj hb).1.symm
    refine h ?_
    rw [hv]
    have:c=65:=UInt8.toNat_inj.mp (by have:(65:UInt8).toNat=65:=rfl; omega)
    rw [this]; rfl
theorem ph {c:Cx} {M:FM} {nw:Led} {rm:Nat} (H:Cok c (rm+1)) {v:Array UInt8} (hv:∀ c ∈ v.toList,nb c) (hl:v.toList.length≤8) (h0:v.toList.head?≠some 65) {R:Value→FM→Led→Prop} (hr:R (.bool true) M nw):Do c .call [.ref 335,.bytes v 0] M nw R:=by
  have hPG:PG=RowW.prog (OpenRow.toRowW (OpenLaw.row Challenge.rw_il0094_01)):=rfl
  refine' aG (f:=335) (own:=[]) (k:=60) (xs:=(["word"]:List Str)) (M₀:=[some (.bytes v 0)]) H ?ho ?hcd ?hbind ?hkind ?hnd ?hM ?hB ?hco ?hgen ?hk (nil_sublist _) (bh (nil_sublist _)) ?main
  case ho=>intro w; k_fill; intro _; k_is
  case hcd=>intro w; k_fill; intro _; k_is
  case hbind=>first | exact bb fun _ _=>BindsTo.of_eq rfl | exact aY fun _ _ _=>BindsTo.of_eq rfl | exact bt fun _ _ _ _=>BindsTo.of_eq rfl
  case hkind=>exact ak rfl
  case hM=>exact rfl
  case hnd=>decide +kernel
  case hco=>exact rfl
  case hgen=>exact rfl
  case hk=>exact rfl
  case hB=>repeat' first | (with_reducible (apply CX.fold; apply CXs.var)) <;> exact rfl | (with_reducible (apply CX.fold; apply CXs.glob)) <;> (first | exact rfl | decide +kernel) | with_reducible exact CX.fold (@CXs.raw _ _ (PySem.Expr.Name _ _)) | with_reducible (apply CB.fold; apply CBs.asgc) | with_reducible (apply CX.fold; constructor) | with_reducible (apply CB.fold; constructor) | with_reducible constructor | exact bD.no (fun _ _ _ _=>rfl) rfl rfl | exact bD.yes (fun _ _ _ _=>rfl) rfl rfl | exact rfl | decide +kernel
  intro c1 hsc hw H1
  refine gF H1 ?_
  refine slcB qX iS (by rw [← Array.length_toList]; omega) ?_
  refine xI ?_
  refine gA (vN h0) ?_
  refine fb (β:=Unit) (fun _=>.none) (fun c=>decide (c.toNat < 65) || decide (80 < c.toNat)) (fun _=>()) H1 (by omega) ?_ fun D=>?_
  · refine bg.of2 fun c2 _ H2 nwr hz a ha r acc g1 g2 o o'=>?_
    obtain ⟨b1,b2⟩:=hv a ha
    refine dz (decide_eq_false ( by (clear hl b2; omega))) ?_
    refine dz (decide_eq_false ( by (clear hl b1; omega))) ?_
    exact ⟨.refl _,rfl,g2 (by simp; (clear hl; omega))⟩
  · rw [filter_eq_nil_iff.mpr fun a ha=>by obtain ⟨b1,b2⟩:=hv a ha; simp; (clear hl; omega)]
    refine mP .head (by simp) ?_
    exact gH hr
theorem bn (a:Int) {b:Int} (h:0 < b):0≤Int.fmod a b:=Int.fmod_nonneg_of_pos a h
theorem bA (a:Int) {b:Int} (h:0 < b):Int.fmod a b < b:=Int.fmod_lt_of_pos a h
noncomputable def eC (ps:List Str) (k:Nat) (r:Int):Str:=(ps.take k++([("/lost" : Str),("/A/lost" : Str),ps.getD (Int.fmod r 5).toNat ""]:List Str)).getD (Int.fmod (Int.fdiv r 40) ((k:Int)+3)).toNat ""
noncomputable def nR (r:Int):Int:=1 - Int.fmod (Int.fdiv r 5) 2 * 2
noncomputable def qC (up g:Str):List Str:=[up++Txt.slice g (some 1) none, "./../" ++ up++Txt.slice g (some 1) none, "Z//../" ++ up++Txt.slice g (some 1) none ++ "/.", "///" ++ Txt.slice g (some 1) none ++ "//"]
noncomputable def uC (ps:List Str) (k:Nat) (r:Int):Str:=(qC (Txt.mul ("../" : Str) (Txt.count (ps.getD k "") ("/" : Str) - 1)) (eC ps k r)).getD (Int.fmod (Int.fdiv r 10) 4).toNat ""
theorem rj {c:Cx} {M:FM} {nw:Led} {rm:Nat} (H:Cok c (rm+1)) {P:Addr} {ps:List Str} (hP:ae c.w nw P (.list (ac ps))) (h5:ps.length=5) (hl:∀ x ∈ ps,x.length≤30) (hc:∀ x ∈ ps,0≤Txt.count x "/" ∧ Txt.count x "/" ≤ 10) (k:Nat) (hk5:k < 5) (r:Int) {R:Value→FM→Led→Prop} (hr:∀ D,R (.ref D) M ((D,.tup [.str (eC ps k r) 0,.int (nR r) 0,.str (uC ps k r) 0])::nw)):Do c .call [.ref 280,.ref P,.int k 0,.int r 0] M nw R:=by
  have hPG:PG=RowW.prog (OpenRow.toRowW (OpenLaw.row Challenge.rw_il0094_01)):=rfl
  refine' bI (f:=280) (k:=60) (xs:=(["places", "k", "r"]:List Str)) (M₀:=[some (.ref P),some (.int k 0),some (.int r 0),none,none,none,none]) H ?ho ?hcd ?hbind ?hkind ?hnd ?hM ?hB ?hco ?hgen ?hk ?main
  case ho=>intro w; k_fill; intro _; k_is
  case hcd=>intro w; k_fill; intro _; k_is
  case hbind=>first | exact bb fun _ _=>BindsTo.of_eq rfl | exact aY fun _ _ _=>BindsTo.of_eq rfl | exact bt fun _ _ _ _=>BindsTo.of_eq rfl
  case hkind=>exact ak rfl
  case hM=>exact rfl
  case hnd=>decide +kernel
  case hco=>exact rfl
  case hgen=>exact rfl
  case hk=>exact rfl
  case hB=>repeat' first | (with_reducible (apply CX.fold; apply CXs.var)) <;> exact rfl | (with_reducible (apply CX.fold; apply CXs.glob)) <;> (first | exact rfl | decide +kernel) | with_reducible exact CX.fold (@CXs.raw _ _ (PySem.Expr.Name _ _)) | with_reducible (apply CB.fold; apply CBs.asgc) | with_reducible (apply CX.fold; constructor) | with_reducible (apply CB.fold; constructor) | with_reducible constructor | exact bD.no (fun _ _ _ _=>rfl) rfl rfl | exact bD.yes (fun _ _ _ _=>rfl) rfl rfl | exact rfl | decide +kernel
  intro c1 nw1 hsc hw H1 hS
  have hP:=(hS _ _ hP).sees
  have f1:=bn r (b:=5) (by decide)
  have f2:=bA r (b:=5) (by decide)
  have f3:=bn (Int.fdiv r 40) (b:=k+3) ( by (clear h5 hk5 f1 f2; omega))
  have f4:=bA (Int.fdiv r 40) (b:=k+3) ( by (clear h5 hk5 f1 f2 f3; omega))
  have f5:=bn (Int.fdiv r 10) (b:=4) (by decide)
  have f6:=bA (Int.fdiv r 10) (b:=4) (by decide)
  refine xV hP (by omega) fun D1=>?_
  refine bk (.tail hP) f1 ( by (clear hk5 f1 f3 f4 f5 f6; omega)) (by omega) ?_
  intro D2
  refine fB (gs:=ps.take k) (hs:=[_,_,_]) (.tail .head) .head (by rw [length_take]; (clear hk5 f1 f2 f3 f4 f5 f6; omega)) (Nat.le_of_ble_eq_true rfl) fun D3=>?_
  refine ⟨H1.hh,?_⟩
  refine gA (by unfold iz; simp; (clear h5 f1 f2 f3 f4 f5 f6; omega)) ?_
  refine bk .head f3 (by rw [length_append,length_take]; simp only [length_cons,length_nil]; (clear f1 f2 f5 f6; omega)) (by rw [length_append,length_take]; simp only [length_cons,length_nil]; (clear hk5 f1 f2 f3 f4 f5 f6; omega)) ?_
  refine bk (.tail (.tail (.tail hP))) ( by (clear h5 hk5 f1 f2 f3 f4 f5 f6; omega)) (by omega) (by omega) ?_
  refine wb ?_
  refine tN ?_
  have hm:ps.getD k "" ∈ ps:=iU (by omega)
  obtain ⟨q1,q2⟩:=hc _ hm
  rw [Int.toNat_natCast]
  refine qN (mulOk_of 3 30 (by decide) ( by (clear h5 hk5 f1 f2 f3 f4 f5 f6 q1; omega)) ( by (clear h5 hk5 f1 f2 f3 f4 f5 f6 q2; omega)) (by decide) (by decide)) ?_
  have hgl:(eC ps k r).length≤30:=by
    have:eC ps k r ∈ ps.take k++([(("/lost" : Str)), "/A/lost",ps.getD (Int.fmod r 5).toNat ""]:List Str):=iU (by rw [length_append,length_take]; simp only [length_cons,length_nil]; (clear f1 f2 f5 f6 q1 q2; omega))
    rcases mem_append.mp this with h | h
    · exact hl _ (List.mem_of_mem_take h)
    · rcases mem_cons.mp h with e | h
      · rw [e]; decide
      rcases mem_cons.mp h with e | h
      · rw [e]; decide
      · rw [mem_singleton.mp h]; exact hl _ (iU ( by (clear hk5 f1 f3 f4 f5 f6 q1 q2; omega)))
  have hul:(Txt.mul ("../" : Str) (Txt.count (ps.getD k "") ("/" : Str) - 1)).length≤100:=Nat.le_trans (len_mul_leN (L:=3) (N:=30) (by decide) ( by (clear h5 hk5 f1 f2 f3 f4 f5 f6 q1 hgl; omega))) (by decide)
  have hr':∀ D,R (.ref D) M ((D,.tup [.str (eC ps k r) 0,.int (nR r) 0,.str ((qC (Txt.mul ("../" : Str) (Txt.count (ps.getD k "") ("/" : Str) - 1)) (eC ps k r)).getD (Int.fmod (Int.fdiv r 10) 4).toNat "") 0])::nw):=hr
  have hgf:eC ps k r=(ps.take k++([(("/lost" : Str)), "/A/lost",ps.getD (Int.fmod r 5).toNat ""]:List Str)).getD (Int.fmod (Int.fdiv r 40) ((k:Int)+3)).toNat "" := rfl
  rw [← hgf]
  generalize eC ps k r=g at hgl hr' ⊢
  generalize Txt.mul ("../" : Str) (Txt.count (ps.getD k "") ("/" : Str) - 1)=up at hul hr' ⊢
  have hsl:=Nat.le_trans (PyProof.Txt.length_slice_le g (some 1) none) hgl
  have hg4:g.length≤10000:=Nat.le_trans hgl (Nat.le_of_ble_eq_true rfl)
  refine gY hg4 ?_
  refine aK hul hsl rfl ?_
  refine aK (n:=10) (aI (by decide +kernel)) hul rfl ?_
  refine gY hg4 ?_
  refine aK (mO (n:=10) (aI (by decide +kernel)) hul) hsl rfl ?_
  refine aK (n:=10) (aI (by decide +kernel)) hul rfl ?_
  refine gY hg4 ?_
  refine aK (mO (n:=10) (aI (by decide +kernel)) hul) hsl rfl ?_
  refine aK (m:=10) (mO (mO (n:=10) (aI (by decide +kernel)) hul) hsl) (aI (by decide +kernel)) rfl ?_
  refine gY hg4 ?_
  refine aK (n:=10) (aI (by decide +kernel)) hsl rfl ?_
  refine aK (m:=10) (mO (n:=10) (aI (by decide +kernel)) hsl) (aI (by decide +kernel)) rfl ?_
  intro D4
  refine jU (IntMulOk.of_right (by decide)) ?_
  refine bk (gs:=qC up g) .head f5 f6 (Nat.le_of_ble_eq_true rfl) ?_
  intro D5
  exact yf (by repeat' (first | with_reducible exact ar.refl _ | with_reducible apply ar.drop)) (hr' D5)
end
section
set_option tactic.hygienic false
noncomputable def mK (hs os:List Int) (k:Nat):Str:=([("" : Str),("/A" : Str),("/A/B" : Str),("/C" : Str)]:List Str).getD (Int.fmod (hs.getD k 0) 4).toNat "" ++ "/" ++ Txt.item "BCDEF" (k:Int)++Txt.item "ABCDEFGHIJKLMNOP" (Int.fmod (os.getD k 0) 16)
noncomputable def aF (hs os:List Int) (n:Nat):List Str:=(List.range n).map (mK hs os)
theorem sJ {c:Cx} {M:FM} {nw:Led} {rm:Nat} (H:Cok c (rm+1)) {Hd O:Addr} {hs os:List Int} (hH:ae c.w nw Hd (.list (bM hs))) (hO:ae c.w nw O (.list (bM os))) (h5:hs.length=5) (o5:os.length=5) {R:Value→FM→Led→Prop} (hr:∀ D,R (.ref D) M ((D,.list (ac (aF hs os 5)))::nw)):Do c .call [.ref 268,.ref Hd,.ref O] M nw R:=by
  have hPG:PG=RowW.prog (OpenRow.toRowW (OpenLaw.row Challenge.rw_il0094_01)):=rfl
  refine' bI (f:=268) (k:=60) (xs:=(["heads", "owns"]:List Str)) (M₀:=[some (.ref Hd),some (.ref O),none]) H ?ho ?hcd ?hbind ?hkind ?hnd ?hM ?hB ?hco ?hgen ?hk ?main
  case ho=>intro w; k_fill; intro _; k_is
  case hcd=>intro w; k_fill; intro _; k_is
  case hbind=>first | exact bb fun _ _=>BindsTo.of_eq rfl | exact aY fun _ _ _=>BindsTo.of_eq rfl | exact bt fun _ _ _ _=>BindsTo.of_eq rfl
  case hkind=>exact ak rfl
  case hM=>exact rfl
  case hnd=>decide +kernel
  case hco=>exact rfl
  case hgen=>exact rfl
  case hk=>exact rfl
  case hB=>repeat' first | (with_reducible (apply CX.fold; apply CXs.var)) <;> exact rfl | (with_reducible (apply CX.fold; apply CXs.glob)) <;> (first | exact rfl | decide +kernel) | with_reducible exact CX.fold (@CXs.raw _ _ (PySem.Expr.Name _ _)) | with_reducible (apply CB.fold; apply CBs.asgc) | with_reducible (apply CX.fold; constructor) | with_reducible (apply CB.fold; constructor) | with_reducible constructor | exact bD.no (fun _ _ _ _=>rfl) rfl rfl | exact bD.yes (fun _ _ _ _=>rfl) rfl rfl | exact rfl | decide +kernel
  intro c1 nw1 hsc hw H1 hS
  have hH:=(hS _ _ hH).sees
  have hO:=(hS _ _ hO).sees
  intro D1
  refine dh fun D2=>?_
  refine kc (n:=5) (fun x:Str=>.str x 0) (mK hs os) H1 .head (by decide) ?_ fun D=>?_
  · refine bg.of2 fun c2 hw2 H2 nwr hz a ha r acc g1 g2 o o'=>?_
    have ha:a < 5:=by simpa [List.mem_range'_1] using ha
    have f1:=bn (hs.getD a 0) (b:=4) (by decide)
    have f2:=bA (hs.getD a 0) (b:=4) (by decide)
    have f3:=bn (os.getD a 0) (b:=16) (by decide)
    have f4:=bA (os.getD a 0) (b:=16) (by decide)
    have hF:ae c2.w nwr D1 (.list (ac ["", "/A", "/A/B", "/C"])):=hw2▸hz.sees (.tail .head)
    have hH:ae c2.w nwr Hd (.list (bM hs)):=hw2▸hz.sees (.tail (.tail hH))
    have hO:ae c2.w nwr O (.list (bM os)):=hw2▸hz.sees (.tail (.tail hO))
    refine cG hH (Int.natCast_nonneg _) ( by (clear o5 f1 f2 f3 f4; omega)) ( by (clear o5 ha f1 f2 f3 f4; omega)) ?_
    refine bk hF f1 f2 (by decide) ?_
    have fl:((["", "/A", "/A/B", "/C"]:List Str).getD (Int.fmod (hs.getD a 0) 4).toNat "").length≤4:=qn (by decide +kernel)
    refine aK (n:=4) (m:=1) fl (aI (by decide +kernel)) rfl ?_
    refine gO (Int.natCast_nonneg _) (Int.ofNat_lt.mpr ha) (by decide) ?_
    refine aK (n:=5) (m:=1) (mO (m:=1) fl (aI (x := "/") (by decide +kernel))) (Nat.le_of_eq (len_item _ _)) rfl ?_
    refine cG hO (Int.natCast_nonneg _) ( by (clear h5 f1 f2 f3 f4 fl; omega)) ( by (clear h5 ha f1 f2 f3 f4 fl; omega)) ?_
    refine gO f3 f4 (by decide) ?_
    refine aK (n:=6) (m:=1) (mO (mO (m:=1) fl (aI (x := "/") (by decide +kernel))) (Nat.le_of_eq (len_item _ _))) (Nat.le_of_eq (len_item _ _)) rfl ?_
    exact ⟨.refl _,rfl,g1 rfl⟩
  · exact yf (by repeat' (first | with_reducible exact ar.refl _ | with_reducible apply ar.drop)) (hr D)
noncomputable def vY (c:UInt8):Str:=⟨#[c.toNat]⟩
theorem oy (l:List Str) (h:∀ a ∈ l,a.length=1):(Txt.join (Str.ofString "") l).length=l.length:=PySem.W.KT.join_ones l h
theorem pX (n:Nat):∀ c ∈ apN n,32≤c.toNat∧c.toNat≤126:=by
  induction n using Nat.strongRecOn with
  | ind n ih =>
    intro c hc
    by_cases h:n=0
    · subst h; rw [aZ] at hc; cases hc
    · rw [cO h] at hc
      rcases mem_append.mp hc with hc | hc
      · exact ih (n / 16) (by omega) c hc
      · rw [mem_singleton.mp hc]
        have:((65+n % 16).toUInt8).toNat=65+n % 16:=by
          show (65+n % 16) % 256=_
          omega
        rw [this]; (clear this; omega)
theorem vC (n:Nat) (h:n < 4294967296):(apN n).length≤8:=by
  have key:∀ k n:Nat,n < 16 ^ k→(apN n).length≤k:=by
    intro k
    induction k with
    | zero=>intro n h; have:n=0:=(by simpa using h); subst this; rw [aZ]; exact Nat.le_refl _
    | succ k ih =>
      intro n h
      by_cases h0:n=0
      · subst h0; rw [aZ]; exact Nat.zero_le _
      · rw [cO h0,length_append,length_singleton]
        have:=ih (n / 16) (by rw [Nat.pow_succ] at h; omega)
        omega
  exact key 8 n (by omega)
noncomputable def tP (n:Int):Str:=Txt.join "" ((apN n.natAbs).map vY)
noncomputable def qP (hs os:List Int) (k:Nat):Str:=bd (([("/" : Str),("/A" : Str),("/A/B/" : Str),("/C" : Str)]:List Str).getD (Int.fmod (hs.getD k 0) 4).toNat "") (tP (16 * (k:Int)+16+Int.fmod (os.getD k 0) 16))
noncomputable def cR (hs os:List Int) (n:Nat):List Str:=(List.range n).map (qP hs os)
theorem lp (hs os:List Int) (n:Nat):cR hs os (n+1)=cR hs os n++[qP hs os n]:=by unfold cR; rw [List.range_succ,map_append]; rfl
theorem vn {c:Cx} {M:FM} {nw:Led} {rm:Nat} (H:Cok c (rm+3)) {Hd O:Addr} {hs os:List Int} (hH:ae c.w nw Hd (.list (bM hs))) (hO:ae c.w nw O (.list (bM os))) (h5:hs.length=5) (o5:os.length=5) {R:Value→FM→Led→Prop} (hr:∀ D,R (.ref D) M ((D,.list (ac (cR hs os 5)))::nw)):Do c .call [.ref 273,.ref Hd,.ref O] M nw R:=by
  have hPG:PG=RowW.prog (OpenRow.toRowW (OpenLaw.row Challenge.rw_il0094_01)):=rfl
  refine' bI (f:=273) (k:=60) (xs:=(["heads", "owns"]:List Str)) (M₀:=[some (.ref Hd),some (.ref O),none,none,none,none]) H ?ho ?hcd ?hbind ?hkind ?hnd ?hM ?hB ?hco ?hgen ?hk ?main
  case ho=>intro w; k_fill; intro _; k_is
  case hcd=>intro w; k_fill; intro _; k_is
  case hbind=>first | exact bb fun _ _=>BindsTo.of_eq rfl | exact aY fun _ _ _=>BindsTo.of_eq rfl | exact bt fun _ _ _ _=>BindsTo.of_eq rfl
  case hkind=>exact ak rfl
  case hM=>exact rfl
  case hnd=>decide +kernel
  case hco=>exact rfl
  case hgen=>exact rfl
  case hk=>exact rfl
  case hB=>repeat' first | (with_reducible (apply CX.fold; apply CXs.var)) <;> exact rfl | (with_reducible (apply CX.fold; apply CXs.glob)) <;> (first | exact rfl | decide +kernel) | with_reducible exact CX.fold (@CXs.raw _ _ (PySem.Expr.Name _ _)) | with_reducible (apply CB.fold; apply CBs.asgc) | with_reducible (apply CX.fold; constructor) | with_reducible (apply CB.fold; constructor) | with_reducible constructor | exact bD.no (fun _ _ _ _=>rfl) rfl rfl | exact bD.yes (fun _ _ _ _=>rfl) rfl rfl | exact rfl | decide +kernel
  intro c1 nw1 hsc hw H1 hS
  have hH:=(hS _ _ hH).sees
  have hO:=(hS _ _ hO).sees
  refine ⟨H1.hh,?_⟩
  intro D1 D2
  refine dh fun D3=>?_
  refine dl (i₀:=0) (n:=5) (k:=50) (Ms:=fun s:List Str×Option Value×Option Value=>[some (.ref Hd),some (.ref O),some (.ref D1),some (.ref D2),s.2.1,s.2.2]) (fun s=>(D3,.range 0 5)::(D2,.list (ac s.1))::(D1,.list (ac ["/", "/A", "/A/B/", "/C"]))::nw1) (fun r s=>∃ i,i≤5∧r=List.range' i (5 - i)∧s.1=cR hs os i) ([],none,none) H1 .head (by decide) rfl rfl ⟨0,by decide,rfl,rfl⟩ ?_ ?_
  · intro c2 _ hw2 H2 x r s hp
    obtain ⟨acc,ok,on⟩:=s
    refine E1 hp fun i q91=>A3 q91 fun hi hr' e92=>?_
    try clear hp
    clear q91
    first | subst e92 | cases e92
    have f1:=bn (hs.getD i 0) (b:=4) (by decide)
    have f2:=bA (hs.getD i 0) (b:=4) (by decide)
    have f3:=bn (os.getD i 0) (b:=16) (by decide)
    have f4:=bA (os.getD i 0) (b:=16) (by decide)
    refine A2 (mz hr') fun e93 q94=>E1 q94 fun k' q95=>A2 q95 fun hk' hr2=>?_
    clear q95 q94
    clear hr'
    first | subst e93 | cases e93
    have hO2:ae c2.w ((D3,.range 0 5)::(D2,.list (ac (cR hs os x)))::(D1,.list (ac ["/", "/A", "/A/B/", "/C"]))::nw1) O (.list (bM os)):=hw2▸hO.tail.tail.tail
    have hH2:ae c2.w ((D3,.range 0 5)::(D2,.list (ac (cR hs os x)))::(D1,.list (ac ["/", "/A", "/A/B/", "/C"]))::nw1) Hd (.list (bM hs)):=hw2▸hH.tail.tail.tail
    refine tW ?_
    refine jU (IntMulOk.of_left (by decide)) ?_
    refine cG hO2 (Int.natCast_nonneg _) ( by (clear h5 f1 f2 f3 f4; omega)) ( by (clear h5 hi f1 f2 f3 f4 hk'; omega)) ?_
    have hn:(16 * (x:Int)+16+Int.fmod (os.getD x 0) 16).natAbs≤1000:=by (clear h5 o5 f1 f2 hk'; omega)
    refine nc H2 (Nat.le_trans hn (by decide)) ?_
    have hv:∀ c ∈ apN (16 * (x:Int)+16+Int.fmod (os.getD x 0) 16).natAbs,32≤c.toNat∧c.toNat≤126:=fun c hc=>pX _ c hc
    have hv8:(apN (16 * (x:Int)+16+Int.fmod (os.getD x 0) 16).natAbs).length≤8:=vC _ (by omega)
    have hnm:tP (16 * (x:Int)+16+Int.fmod (os.getD x 0) 16)=Txt.join "" ((apN (16 * (x:Int)+16+Int.fmod (os.getD x 0) 16).natAbs).map vY):=rfl
    generalize apN (16 * (x:Int)+16+Int.fmod (os.getD x 0) 16).natAbs=v at hv hv8 hnm
    refine jG (fun x:Str=>.str x 0) vY H2 (by simpa using Nat.le_trans hv8 (by decide)) ?_ fun D4=>?_
    · refine bg.of2 fun c3 hw3 H3 nwr hz a ha r acc g1 g2 o o'=>?_
      obtain ⟨b1,b2⟩:=hv a ha
      refine c_chr (Int.natCast_nonneg _) ( by (clear h5 o5 hi f1 f2 f3 f4 hk' hn hv8 b1; omega)) ?_
      exact ⟨.refl _,rfl,g1 rfl⟩
    have hjl:((v.map vY).map (·.length)).sum+(v.map vY).length≤1048576:=by
      have:=eR (v.map vY) 1 (fun y hy=>by obtain ⟨p,hp,rfl⟩:=mem_map.mp hy; exact Nat.le_refl _)
      rw [length_map] at this ⊢
      (clear h5 o5 hi f1 f2 f3 f4 hk' hn; omega)
    refine uj (gs:=v.map vY) .head (by decide) hjl ?_
    have hl9:(tP (16 * (x:Int)+16+Int.fmod (os.getD x 0) 16)).length≤1000:=by rw [hnm,oy _ (fun a ha=>by obtain ⟨p,hp,rfl⟩:=mem_map.mp ha; rfl),length_map]; (clear h5 o5 hi f1 f2 f3 f4 hk' hn hjl; omega)
    rw [← hnm]
    have hfl:(cR hs os x).length≤1000:=by unfold cR; rw [length_map,length_range]; (clear h5 o5 f1 f2 f3 f4 hk' hn hv8 hjl hl9; omega)
    refine bS (.tail (.tail .head)) ?_
    refine cG hH2.tail (Int.natCast_nonneg _) ( by (clear o5 f1 f2 f3 f4 hn hjl hl9; omega)) ( by (clear o5 hi f1 f2 f3 f4 hk' hn hv8 hjl hl9 hfl; omega)) ?_
    refine bk (.tail (.tail (.tail .head))) f1 f2 (by decide) ?_
    refine tU H2 (Nat.le_trans (qn (n:=10) (by decide +kernel)) (by decide)) hl9 ?_
    refine ca (i:=2) rfl hfl ?_
    exact LR.next (cR hs os x++[qP hs os x],_,_) (.drop (.refl _)) ⟨x+1,by (clear h5 o5 f1 f2 f3 f4 hn hl9; omega),by rw [hr2]; congr 1; (clear h5 o5 f1 f2 f3 f4 hn hjl hl9 hfl; omega),(lp hs os x).symm⟩ rfl
  · intro s hp
    obtain ⟨acc,ok,on⟩:=s
    refine E1 hp fun i q99=>A3 q99 fun hi hr' e910=>?_
    try clear hp
    clear q99
    first | subst e910 | cases e910
    have h5:i=5:=by have:=rp hr'; (clear h5 o5; omega)
    clear hi hr'
    subst h5
    exact ⟨[_],.drop (.keep (.drop (.refl _))),hr D2⟩
end
section
set_option tactic.hygienic false
noncomputable def pt (ps:List Str) (k:Nat) (r:Int):Ask:=⟨eC ps k r,nR r,uC ps k r⟩
noncomputable def rD (ps:List Str) (os ws:List Int) (k:Nat):Row:=⟨os.getD k 0,[pt ps k (Int.fmod (ws.getD k 0) 1000),pt ps k (Int.fdiv (ws.getD k 0) 1000)]⟩
noncomputable def aM (ps:List Str) (os ws:List Int) (n:Nat):al:=(List.range n).map fun k=>(ps.getD k "",rD ps os ws k)
theorem kJ (ps:List Str) (os ws:List Int) (n:Nat):aM ps os ws (n+1)=aM ps os ws n++[(ps.getD n "",rD ps os ws n)]:=by unfold aM; rw [List.range_succ,map_append]; rfl
theorem cF (ps:List Str) (os ws:List Int) (n:Nat):(aM ps os ws n).length=n:=by unfold aM; rw [length_map,length_range]
theorem oK {ps:List Str} (os ws:List Int) {n:Nat} (h:ps.Nodup) (hn:n < ps.length):ps.getD (Int.toNat (n:Int)) "" ∉ (aM ps os ws n).map (·.1):=by
  unfold aM
  rw [List.map_map]
  intro hm
  refine E1 (mem_map.mp hm) fun k q91=>A2 q91 fun hk e=>?_
  clear q91
  have hk':k < n:=mem_range.mp hk
  simp only [Function.comp,Int.toNat_natCast,getD_eq_getElem?_getD,List.getElem?_eq_getElem hn,List.getElem?_eq_getElem (Nat.lt_trans hk' hn),getD_some] at e
  exact absurd ((List.getElem_inj h).mp e) (Nat.ne_of_lt hk')
noncomputable def fD (b:al) (as:List Ask):al:=as.foldl (fun b a=>if (b.at a.goal).isSome then b else b++[(a.goal,⟨0,[]⟩)]) b
noncomputable def gd (b:al) (ps:List Str):al:=ps.foldl (fun b p=>fD b (((b.at p).map (·.asks)).getD [])) b
noncomputable def bu (ps:List Str) (os ws:List Int):al:=gd (aM ps os ws 5) ps
theorem qJ {ps:List Str} (os ws:List Int) (h5:ps.length=5):∀ x ∈ ps,(al.at (aM ps os ws 5) x).isSome:=by
  intro x hx
  obtain ⟨i,hi,e⟩:=List.getElem_of_mem hx
  unfold al.at aM
  rw [isSome_map,find?_isSome]
  exact ⟨(ps.getD i "",rD ps os ws i),mem_map.mpr ⟨i,mem_range.mpr (by omega),rfl⟩,by simp [getD_eq_getElem?_getD,List.getElem?_eq_getElem hi,e]⟩
theorem lC (ps:List Str) (os ws:List Int) (n:Nat):∀ p ∈ aM ps os ws n,p.2.asks.length≤2:=by
  intro p hp
  refine E1 (mem_map.mp hp) fun k q91=>A2 q91 fun _ e=>?_
  clear q91
  rw [← e]; exact Nat.le_refl _
theorem xF {b:al} {x:Str} {r:Row} (h:b.at x=some r):(x,r) ∈ b:=by
  unfold al.at at h
  refine E1 (map_eq_some_iff.mp h) fun p q91=>A2 q91 fun hp e=>?_
  clear q91
  have h1:=find?_some hp
  have h2:=mem_of_find?_eq_some hp
  simp only [decide_eq_true_eq] at h1
  rw [← h1,← e]; exact h2
theorem tx {b:al} {a:Ask} {as:List Ask} {r:Row} (e:b.at a.goal=some r):fD b (a::as)=fD b as:=by
  unfold fD; rw [foldl_cons,e]; rfl
theorem oW {b:al} {a:Ask} {as:List Ask} (e:b.at a.goal=none):fD b (a::as)=fD (b++[(a.goal,⟨0,[]⟩)]) as:=by
  unfold fD; rw [foldl_cons,e]; rfl
theorem kA {b:al} {x:Str} {xs:List Str} {r:Row} (e:b.at x=some r):gd b (x::xs)=gd (fD b r.asks) xs:=by
  unfold gd; rw [foldl_cons,e]; rfl
theorem xL {b:al} {ps:List Str} (h:∀ x ∈ ps,(b.at x).isSome) (p:Str×Row):∀ x ∈ ps,(al.at (b++[p]) x).isSome:=by
  intro x hx
  have:=h x hx
  unfold al.at at this ⊢
  rw [isSome_map] at this ⊢
  rw [find?_append]
  cases e:List.find? (fun p=>decide (p.1=x)) b with
  | none=>rw [e] at this; cases this
  | some y=>rfl
theorem tu {b:al} (h:∀ p ∈ b,p.2.asks.length≤2) {p:Str×Row} (hp:p.2.asks.length≤2):∀ q ∈ b++[p],q.2.asks.length≤2:=by
  intro q hq
  rcases mem_append.mp hq with hq | hq
  · exact h q hq
  · rw [mem_singleton.mp hq]; exact hp
structure B1s (w:World) (ps:List Str) (os ws:List Int) (r:List Nat) (s:Ks×Led×Option Value):Prop where
  ex:∃ i,i≤5∧r=List.range' i (5 - i)∧s.1.book=aM ps os ws i
  rows:ez (ae w s.2.1) s.1
structure Sb where
  ks:Ks
  new:Led
  k:Option Value
  p:Option Value
  a:Option Value
  b:Option Value
  d:Option Value
structure B2s (w:World) (ps:List Str) (os ws:List Int) (rs:List Str) (s:Sb):Prop where
  in_:∀ x ∈ rs,x ∈ ps
  res:gd s.ks.book rs=bu ps os ws
  le:s.ks.book.length+2 * rs.length≤15
  rows:ez (ae w s.new) s.ks
  at_:∀ x ∈ ps,(s.ks.book.at x).isSome
  asks:∀ p ∈ s.ks.book,p.2.asks.length≤2
structure B3s (w:World) (ps:List Str) (b:al) (new:Led) (as:List Ask) (zs:List (Addr×Ask)) (s:Sb):Prop where
  in_:∀ z ∈ zs,ae w new z.1 (xN z.2)
  res:fD s.ks.book (zs.map (·.2))=fD b as
  le:s.ks.book.length+zs.length≤b.length+2
  rows:ez (ae w (s.new++new)) s.ks
  at_:∀ x ∈ ps,(s.ks.book.at x).isSome
  asks:∀ p ∈ s.ks.book,p.2.asks.length≤2
theorem B3s.start {w:World} {ps:List Str} {os ws:List Int} {x:Str} {rs:List Str} {s:Sb} (h:B2s w ps os ws (x::rs) s) {p:RP} (hp:p.Ok (ae w s.new) s.ks x) {new':Led} (hs:∀ a y,ae w s.new a y→ae w new' a y) (s':Sb) (e1:s'.ks=s.ks) (e2:s'.new=[]):B3s w ps s.ks.book new' p.row.asks p.zs s':=by
  have hz2:p.zs.length≤2:=by have:=h.asks _ (xF hp.at_); rw [hp.asks,length_map] at this; exact this
  exact ⟨fun z hz=>hs _ _ (hp.each z hz),by rw [e1,hp.asks],by rw [e1]; omega,by rw [e1,e2]; exact h.rows.mono hs,by rw [e1]; exact h.at_,by rw [e1]; exact h.asks⟩
theorem B3s.found {w:World} {ps:List Str} {b:al} {new:Led} {as:List Ask} {z:Addr×Ask} {zs:List (Addr×Ask)} {s:Sb} (h:B3s w ps b new as (z::zs) s) (hz:(!(valueAt s.ks.kvs z.2.goal).isSome)=false) (s':Sb) (e1:s'.ks=s.ks) (e2:s'.new=s.new):B3s w ps b new as zs s':=by
  refine E1 (isSome_iff_exists.mp ((Ks.has h.rows z.2.goal).symm.trans (iM hz))) fun r hr=>?_
  have:=h.le
  rw [length_cons] at this
  exact ⟨fun y hy=>h.in_ y (.tail _ hy),by rw [e1,← h.res]; exact (tx hr).symm,by rw [e1]; omega,by rw [e1,e2]; exact h.rows,by rw [e1]; exact h.at_,by rw [e1]; exact h.asks⟩
theorem B3s.lost {w:World} {ps:List Str} {b:al} {new:Led} {as:List Ask} {z:Addr×Ask} {zs:List (Addr×Ask)} {s:Sb} (h:B3s w ps b new as (z::zs) s) (hz:(!(valueAt s.ks.kvs z.2.goal).isSome)=true) {T l:Addr} (s':Sb) (e1:s'.ks=s.ks++[(z.2.goal,.ref T,⟨0,[]⟩)]) (e2:s'.new=[(T,.tup [.int 0 0,.ref l]),(l,.list [])]++s.new):B3s w ps b new as zs s':=by
  have hn:=da hz
  have hr:s.ks.book.at z.2.goal=none:=by have:=Ks.has h.rows z.2.goal; rw [hn] at this; exact Option.isSome_eq_false_iff.mp this.symm |> Option.isNone_iff_eq_none.mp
  have hl:=h.le
  rw [length_cons] at hl
  have eb:=(Ks.snoc s.ks z.2.goal (.ref T) ⟨0,[]⟩).2
  rw [← e1] at eb
  refine ⟨fun y hy=>h.in_ y (.tail _ hy),?_,?_,?_,?_,?_⟩
  · rw [← h.res,map_cons,oW hr,eb]
  · rw [eb,length_append,length_singleton]; omega
  · rw [e1,e2]; exact (h.rows.mono fun a y q=>q.pre [_,_]).snoc ⟨T,l,[],rfl,.head,.tail .head,rfl,fun _ h=>nomatch h⟩
  · rw [eb]; exact xL h.at_ _
  · rw [eb]; exact tu h.asks (Nat.zero_le _)
theorem B2s.next {w:World} {ps:List Str} {os ws:List Int} {x:Str} {rs:List Str} {s s':Sb} (h:B2s w ps os ws (x::rs) s) {p:RP} (hp:p.Ok (ae w s.new) s.ks x) {new':Led} {s3:Sb} (k:B3s w ps s.ks.book new' p.row.asks [] s3) (e1:s'.ks=s3.ks) (e2:s'.new=s3.new++new'):B2s w ps os ws rs s':=by
  have h1:=h.le
  have h2:=k.le
  rw [length_cons] at h1
  rw [length_nil] at h2
  exact ⟨fun y hy=>h.in_ y (.tail _ hy),by rw [e1,← h.res,kA hp.at_,← k.res]; rfl,by rw [e1]; omega,by rw [e1,e2]; exact k.rows,by rw [e1]; exact k.at_,by rw [e1]; exact k.asks⟩
theorem xx {c:Cx} {M:FM} {nw:Led} {rm:Nat} (H:Cok c (rm+2)) {P O W:Addr} {ps:List Str} {os ws:List Int} (hP:ae c.w nw P (.list (ac ps))) (hO:ae c.w nw O (.list (bM os))) (hW:ae c.w nw W (.list (bM ws))) (h5:ps.length=5) (o5:os.length=5) (w5:ws.length=5) (hnd:ps.Nodup) (hl:∀ x ∈ ps,x.length≤30) (hc:∀ x ∈ ps,0≤Txt.count x "/" ∧ Txt.count x "/" ≤ 10) {R:Value→FM→Led→Prop} (hr:∀ D new,iw (ae c.w new) D (bu ps os ws)→R (.ref D) M (new++nw)):Do c .call [.ref 287,.ref P,.ref O,.ref W] M nw R:=by
  have hPG:PG=RowW.prog (OpenRow.toRowW (OpenLaw.row Challenge.rw_il0094_01)):=rfl
  refine' bI (f:=287) (k:=60) (xs:=(["places", "owns", "wants"]:List Str)) (M₀:=[some (.ref P),some (.ref O),some (.ref W),none,none,none,none,none,none]) H ?ho ?hcd ?hbind ?hkind ?hnd ?hM ?hB ?hco ?hgen ?hk ?main
  case ho=>intro w; k_fill; intro _; k_is
  case hcd=>intro w; k_fill; intro _; k_is
  case hbind=>first | exact bb fun _ _=>BindsTo.of_eq rfl | exact aY fun _ _ _=>BindsTo.of_eq rfl | exact bt fun _ _ _ _=>BindsTo.of_eq rfl
  case hkind=>exact ak rfl
  case hM=>exact rfl
  case hnd=>decide +kernel
  case hco=>exact rfl
  case hgen=>exact rfl
  case hk=>exact rfl
  case hB=>repeat' first | (with_reducible (apply CX.fold; apply CXs.var)) <;> exact rfl | (with_reducible (apply CX.fold; apply CXs.glob)) <;> (first | exact rfl | decide +kernel) | with_reducible exact CX.fold (@CXs.raw _ _ (PySem.Expr.Name _ _)) | with_reducible (apply CB.fold; apply CBs.asgc) | with_reducible (apply CX.fold; constructor) | with_reducible (apply CB.fold; constructor) | with_reducible constructor | exact rfl | decide +kernel
  intro c1 nw1 hsc hw H1 hS
  have hP:=hS _ _ hP
  have hO:=(hS _ _ hO).sees
  have hW:=(hS _ _ hW).sees
  intro D lo
  refine dh fun Dr=>?_
  refine dl (i₀:=0) (n:=5) (k:=50) (Ms:=fun s:Ks×Led×Option Value=>[some (.ref P),some (.ref O),some (.ref W),some (.ref D),s.2.2,none,none,none,none]) (fun s=>(Dr,.range 0 5)::(D,.dict s.1.kvs)::(s.2.1++nw1)) (B1s c1.w ps os ws) ([],[],none) H1 .head (by decide) rfl rfl ⟨⟨0,by decide,rfl,rfl⟩,fun _ h=>nomatch h⟩ ?_ ?_
  · intro c2 _ hw2 H2 x r s hp
    obtain ⟨ks,new,ok⟩:=s
    obtain ⟨⟨i,hi,hr',hb⟩,hrows⟩:=hp
    obtain ⟨rfl,k',hk',hr2⟩:=mz hr'
    have pre:∀ {a y},ae c1.w nw1 a y→ae c2.w ((Dr,.range 0 5)::(D,.dict ks.kvs)::(new++nw1)) a y:=fun h=>hw2▸(h.pre new).tail.tail
    refine cG (pre hO) (Int.natCast_nonneg _) (by (clear h5 w5; omega)) (by (clear h5 w5 hi hk'; omega)) ?_
    refine cG (pre hW) (Int.natCast_nonneg _) (by (clear h5 o5; omega)) (by (clear h5 o5 hi hk'; omega)) ?_
    refine rj H2 (pre hP.sees) h5 hl hc x (by (clear h5 o5 w5; omega)) _ fun a1=>?_
    refine cG (pre hW).tail (Int.natCast_nonneg _) (by (clear h5 o5; omega)) (by (clear h5 o5 hi hk'; omega)) ?_
    refine rj H2 (pre hP.sees).tail h5 hl hc x (by (clear h5 o5 w5; omega)) _ fun a2=>?_
    intro l T
    refine bk (pre hP.sees).tail.tail.tail.tail (Int.natCast_nonneg _) (by (clear o5 w5; omega)) (by omega) ?_
    have hlen:ks.kvs.length≤1000:=by rw [Ks.len,hb,cF]; (clear h5 o5 w5 hk'; omega)
    have hkey:stored ks.kvs (ps.getD (Int.toNat (x:Int)) "") (.ref T)=Ks.kvs (ks++[(ps.getD x "",.ref T,rD ps os ws x)]):=by
      rw [bJ (fc (by rw [Ks.keys,hb]; exact oK os ws hnd (by (clear o5 w5; omega)))),(Ks.snoc _ _ _ _).1]; rfl
    refine dv (i:=5) rfl hlen hkey ?_
    refine LR.next (ks++[(ps.getD x "",.ref T,rD ps os ws x)],[(T,.tup [.int (os.getD x 0) 0,.ref l]),(l,.list [.ref a1,.ref a2]),(a2,xN (pt ps x (Int.fdiv (ws.getD x 0) 1000))),(a1,xN (pt ps x (Int.fmod (ws.getD x 0) 1000)))]++new,some (.int (x:Int) 0)) (ar.swap [_,_,_,_] [_,_] (new++nw1)) ⟨⟨x+1,by (clear h5 o5 w5; omega),by rw [hr2]; congr 1; (clear h5 o5 w5; omega),?_⟩,?_⟩ rfl
    · rw [(Ks.snoc _ _ _ _).2,hb,kJ]
    · refine ez.snoc (hrows.mono fun a y h=>h.pre _) ⟨T,l,[(a1,pt ps x (Int.fmod (ws.getD x 0) 1000)),(a2,pt ps x (Int.fdiv (ws.getD x 0) 1000))],rfl,.head,.tail .head,rfl,fun z hz=>?_⟩
      rcases mem_cons.mp hz with rfl | hz
      · exact .tail (.tail (.tail .head))
      · rw [mem_singleton.mp hz]; exact .tail (.tail .head)
  · intro s hp
    obtain ⟨ks,new,ok⟩:=s
    obtain ⟨⟨i,hi,hr',hb⟩,hrows⟩:=hp
    have i5:i=5:=by have:=rp hr'; (clear h5 o5 w5; omega)
    clear hi hr'
    subst i5
    have h5':=h5
    obtain ⟨oP,hP1,hP2⟩:=id hP
    refine ee (as:=ps) (e:=fun x:Str=>.str x 0) (k:=45) (Ms:=fun s:Sb=>[some (.ref P),some (.ref O),some (.ref W),some (.ref D),s.k,s.p,s.a,s.b,s.d]) (fun s=>(Dr,.range 0 5)::(D,.dict s.ks.kvs)::(s.new++nw1)) (B2s c1.w ps os ws) ⟨ks,new,ok,none,none,none,none⟩ H1 hP2 (fun s=>.tail _ (.tail _ (mem_append_right _ hP1))) rfl rfl ⟨fun _ h=>h,by rw [hb]; rfl,by rw [hb,cF,h5']; decide,hrows,by rw [hb]; exact qJ os ws h5',by rw [hb]; exact lC _ _ _ _⟩ ?_ ?_
    · intro c2 _ hw2 H2 x rs s hp
      obtain ⟨p,hp2⟩:=Ks.row hp.rows (hp.at_ x (hp.in_ x (.head _)))
      refine aS (.tail .head) hp2.va ?_
      refine dS (hw2▸hp2.tup.app.tail.tail) (by decide) (by decide) rfl ?_
      refine DoF.freezeM (front:=[(Dr,.range 0 5),(D,.dict s.ks.kvs)]) (mid:=s.new) (back:=nw1) fun new' hz=>?_
      obtain ⟨ol,hl1,hl2⟩:=hz.seesR (hw2▸hp2.lst)
      refine ee (as:=p.zs) (e:=fun z:Addr×Ask=>.ref z.1) (k:=40) (Ms:=fun q:Sb=>[some (.ref P),some (.ref O),some (.ref W),some (.ref D),s.k,some (.str x 0),q.a,q.b,q.d]) (fun q=>(Dr,.range 0 5)::(D,.dict q.ks.kvs)::((q.new++new')++nw1)) (B3s c1.w ps s.ks.book new' p.row.asks) ⟨s.ks,[],none,none,s.a,s.b,s.d⟩ H2 hl2 (fun s=>.tail _ (.tail _ (mem_append_left _ (mem_append_right _ hl1)))) rfl rfl (B3s.start hp hp2 (fun a y h=>by rw [← hw2] at h ⊢; exact hz.sees h) _ rfl rfl) ?_ ?_
      · intro c3 _ hw3 H3 z zs q hq
        refine cS H3 (xs:=[.str z.2.goal 0,.int z.2.sign 0,.str z.2.text 0]) (by rw [hw3,hw2]; exact ((hq.in_ z (.head _)).pre q.new).app.tail.tail) rfl ?_
        refine eh lo (.tail .head) ?_
        refine aN (fun h=>?_) fun h=>?_
        · intro l2 T2
          refine dv (i:=3) rfl (by rw [Ks.len]; have h1:=hq.le; have h2:=hp.le; rw [length_cons] at h1 h2; (clear h5 o5 w5 h5'; omega)) ((bJ (da h)).trans (Ks.snoc q.ks z.2.goal (.ref T2) ⟨0,[]⟩).1.symm) ?_
          exact LR.pair ⟨q.ks++[(z.2.goal,.ref T2,⟨0,[]⟩)],[(T2,.tup [.int 0 0,.ref l2]),(l2,.list [])]++q.new,none,none,some (.str z.2.goal 0),some (.int z.2.sign 0),some (.str z.2.text 0)⟩ (ar.swap [_,_] [_,_] (q.new++new'++nw1)) (hq.lost h _ rfl rfl) rfl
        · exact LR.pair ⟨q.ks,q.new,none,none,some (.str z.2.goal 0),some (.int z.2.sign 0),some (.str z.2.text 0)⟩ (.refl _) (hq.found h _ rfl rfl) rfl
      · intro q hq
        exact LR.pair ⟨q.ks,q.new++new',s.k,some (.str x 0),q.a,q.b,q.d⟩ (.refl _) (hp.next hp2 hq rfl rfl) rfl
    · intro s hp
      exact ⟨(D,.dict s.ks.kvs)::s.new,.drop (.refl _),hr D ((D,.dict s.ks.kvs)::s.new) ⟨lo,s.ks,.head,hp.res,hp.rows.mono fun a y h=>(hw▸h:ae c.w s.new a y).tail⟩⟩
end
section
set_option tactic.hygienic false
noncomputable def cU (W:Wor):List (Str×Value):=W.map fun p=>(p.1,.int p.2 0)
theorem bV (W:Wor) (k:Str):valueAt (cU W) k=(Wat W k).map fun v=>.int v 0:=by
  unfold valueAt cU Wat
  rw [find?_map,Option.map_map,Option.map_map]; rfl
theorem nS {W:Wor} (hn:(W.map (·.1)).Nodup) {k:Str} {v:Int} (h:(k,v) ∈ W):Wat W k=some v:=by
  cases e:Wat W k with
  | none=>exact absurd (mem_map.mpr ⟨_,h,rfl⟩) (iu e)
  | some v' =>
    have h2:=eI e
    obtain ⟨i,hi⟩:=mem_iff_getElem?.mp h
    obtain ⟨j,hj⟩:=mem_iff_getElem?.mp h2
    have e1:(W.map (·.1))[i]? = some k:=by rw [List.getElem?_map,hi]; rfl
    have e2:(W.map (·.1))[j]? = some k:=by rw [List.getElem?_map,hj]; rfl
    have:=(List.getElem?_inj (List.getElem?_eq_some_iff.mp e1).1 hn).mp (e1.trans e2.symm)
    clear e1 e2
    subst this
    rw [hi] at hj
    cases hj; rfl
theorem nY {W:Wor} (hn:(W.map (·.1)).Nodup) {k:Str} {v:Int} (hv:∀ v',Wat W k=some v'→v'=v):stored (cU W) k (.int v 0)=cU (ed W k v):=by
  unfold ed
  split
  · rename_i h
    obtain ⟨v',e⟩:=isSome_iff_exists.mp h
    have hm:=eI e
    unfold stored
    rw [if_pos (show (cU W).any (fun kv=>decide (kv.1=k))=true from List.any_eq_true.mpr ⟨(k,Value.int v' 0),mem_map.mpr ⟨(k,v'),hm,rfl⟩,by simp⟩)]
    unfold cU
    rw [List.map_map]
    refine map_congr_left fun p hp=>?_
    dsimp only [Function.comp]
    split
    · rename_i hk
      have:=hv _ (nS hn (hk▸hp:(k,p.2) ∈ W))
      rw [this]
    · rfl
  · rename_i h
    have e:Wat W k=none:=by cases q:Wat W k <;> first | rfl | (rw [q] at h; exact absurd rfl h)
    rw [bJ (by rw [bV,e]; rfl)]
    unfold cU
    rw [map_append]; rfl
theorem vb (W:Wor) (zs:List (Addr×Ask)):(zs.filter fun z=>(Wat W z.2.goal).isNone).map (fun z=>z.2.goal)=ew W (zs.map (·.2)):=by
  unfold ew
  rw [filter_map,List.map_map]; rfl
structure Wst where
  W:Wor
  t:Option Value
  p:Option Value
  o:Option Value
  a:Option Value
structure W1s (b:al) (r:List Nat) (s:Wst):Prop where
  res:cc b r.length s.W=aB b
  ok:WOk b s.W
structure W2s (b:al) (W:Wor) (r:List Str) (s:Wst):Prop where
  in_:∀ x ∈ r,x ∈ b.map (·.1)
  res:bC b s.W r=bC b W (b.map (·.1))
  ok:WOk b s.W
theorem tC {b:al} {W:Wor} {k:Str} {r:Row} (hr:b.at k=some r) (hm:ew W r.asks=[]):bN b W k=ed W k (jm W r):=by
  unfold bN; rw [hr]; exact if_pos hm
theorem qU {b:al} {W:Wor} {k:Str} {r:Row} (hr:b.at k=some r) (hm:ew W r.asks≠[]):bN b W k=W:=by
  unfold bN; rw [hr]; exact if_neg hm
theorem W2s.next {b:al} {W:Wor} {x:Str} {r:List Str} {q:Wst} (h:W2s b W (x::r) q) {row:Row} (hr:b.at x=some row) (q':Wst) (e:q'.W=bN b q.W x):W2s b W r q':=⟨fun y hy=>h.in_ y (.tail _ hy),by rw [e,← h.res]; rfl,by rw [e]; exact lO h.ok hr⟩
theorem W2s.has {b:al} {W:Wor} {x:Str} {r:List Str} {q:Wst} (h:W2s b W (x::r) q):(b.at x).isSome=true:=by
  refine E1 (mem_map.mp (h.in_ x (.head _))) fun p q91=>A2 q91 fun hp e=>?_
  clear q91
  unfold al.at
  rw [isSome_map,find?_isSome]
  exact ⟨p,hp,by simpa using e⟩
theorem qK {b:al} {W:Wor} (h:WOk b W) {x:Str} {row:Row} (hr:b.at x=some row) (hm:ew W row.asks=[]) {zs:List (Addr×Ask)} (ha:row.asks=zs.map (·.2)) :
    stored (cU W) x (.int (((row.own+(zs.map fun z=>z.2.sign * (Wat W z.2.goal).getD 0).sum).natAbs:Nat):Int) 0)=cU (bN b W x):=by
  have e:(((row.own+(zs.map fun z=>z.2.sign * (Wat W z.2.goal).getD 0).sum).natAbs:Nat):Int)=jm W row:=by unfold jm; rw [ha,List.map_map]; rfl
  rw [e,tC hr hm]
  refine nY h.nodup fun v' e=>?_
  refine E1 (h.val e) fun r' q91=>A3 q91 fun h1 _ h3=>?_
  clear q91
  rw [hr] at h1; cases h1
  exact h3
theorem vg {W:Wor} {as:List Ask} (hm:ew W as=[]) {a:Ask} (ha:a ∈ as):valueAt (cU W) a.goal=some (.int ((Wat W a.goal).getD 0) 0):=by
  obtain ⟨v,e⟩:=isSome_iff_exists.mp (dX.mp hm a ha)
  rw [bV,e]; rfl
theorem rl {b:al} (hok:di b) {x:Str} {row:Row} (hr:b.at x=some row) {a:Ask} (ha:a ∈ row.asks) (y:Int):IntMulOk a.sign y:=by
  rcases hok.sign _ (db hr) a ha with h | h <;> rw [h] <;> exact IntMulOk.of_left (by decide)
theorem RP.Ok.len {G:Gs} {ks:Ks} {x:Str} {p:RP} (h:p.Ok G ks x) (hok:di ks.book):p.zs.length≤2:=by
  have:=hok.asks _ (db h.at_); rw [h.asks,length_map] at this; exact this
theorem sj {W:Wor} {as:List Ask}:(ew W as).length≤as.length:=by unfold ew; rw [length_map]; exact length_filter_le _ _
theorem W_len {b:al} {W:Wor} (h:WOk b W) (hok:di b):(cU W).length≤1000:=by unfold cU; rw [length_map]; exact Nat.le_trans (Nat.le_trans h.length hok.len) (by decide)
theorem RP.Ok.mem {G:Gs} {ks:Ks} {x:Str} {p:RP} (h:p.Ok G ks x) {z:Addr×Ask} (hz:z ∈ p.zs):z.2 ∈ p.row.asks:=by rw [h.asks]; exact mem_map_of_mem hz
theorem sR {c:Cx} {M:FM} {nw:Led} {rm:Nat} (H:Cok c (rm+1)) {D:Addr} {b:al} (hB:iw (ae c.w nw) D b) (hok:di b) {R:Value→FM→Led→Prop} (hr:∀ Wd,(Wd == sysModules)=false→R (.ref Wd) M ((Wd,.dict (cU (aB b)))::nw)):Do c .call [.ref 292,.ref D] M nw R:=by
  have hPG:PG=RowW.prog (OpenRow.toRowW (OpenLaw.row Challenge.rw_il0094_01)):=rfl
  refine' bI (f:=292) (k:=60) (xs:=(["book"]:List Str)) (M₀:=[some (.ref D),none,none,none,none,none]) H ?ho ?hcd ?hbind ?hkind ?hnd ?hM ?hB ?hco ?hgen ?hk ?main
  case ho=>intro w; k_fill; intro _; k_is
  case hcd=>intro w; k_fill; intro _; k_is
  case hbind=>first | exact bb fun _ _=>BindsTo.of_eq rfl | exact aY fun _ _ _=>BindsTo.of_eq rfl | exact bt fun _ _ _ _=>BindsTo.of_eq rfl
  case hkind=>exact ak rfl
  case hM=>exact rfl
  case hnd=>decide +kernel
  case hco=>exact rfl
  case hgen=>exact rfl
  case hk=>exact rfl
  case hB=>repeat' first | (with_reducible (apply CX.fold; apply CXs.var)) <;> exact rfl | (with_reducible (apply CX.fold; apply CXs.glob)) <;> (first | exact rfl | decide +kernel) | with_reducible exact CX.fold (@CXs.raw _ _ (PySem.Expr.Name _ _)) | with_reducible (apply CB.fold; apply CBs.asgc) | with_reducible (apply CX.fold; constructor) | with_reducible (apply CB.fold; constructor) | with_reducible constructor | exact rfl | decide +kernel
  intro c1 nw1 hsc hw H1 hS
  have hB:=hB.mono hS
  refine E1 hB.ex fun ks q91=>A3 q91 fun q92 e93 hrows=>?_
  clear q91
  refine E1 q92 fun oD q94=>A2 q94 fun hD1 hD2=>?_
  try clear q92
  clear q94
  first | subst e93 | cases e93
  intro Wd lo
  refine dh fun Dr=>?_
  refine dl (i₀:=0) (n:=6) (k:=50) (Ms:=fun s:Wst=>[some (.ref D),some (.ref Wd),s.t,s.p,s.o,s.a]) (fun s=>(Dr,.range 0 6)::(Wd,.dict (cU s.W))::nw1) (W1s ks.book) ⟨[],none,none,none,none⟩ H1 .head (by decide) rfl rfl ⟨rfl,.nil⟩ ?_ ?_
  · intro c2 _ hw2 H2 x r s hp
    refine jq (k:=45) (Ms:=fun q:Wst=>[some (.ref D),some (.ref Wd),some (.int (x:Int) 0),q.p,q.o,q.a]) (fun q=>(Dr,.range 0 6)::(Wd,.dict (cU q.W))::nw1) (W2s ks.book s.W) ⟨s.W,none,s.p,s.o,s.a⟩ H2 hB.lo (hw2▸hD2) (fun _=>.tail _ (.tail _ hD1)) rfl rfl ⟨by rw [Ks.keys]; exact fun _ h=>h,by rw [Ks.keys],hp.ok⟩ ?_ ?_
    · intro c3 _ hw3 H3 y ys q hq
      obtain ⟨p,hp2⟩:=Ks.row hrows hq.has
      have see:∀ {a y},dG c1.w nw1 a y→ae c3.w ((Dr,.range 0 6)::(Wd,.dict (cU q.W))::nw1) a y:=fun h=>by rw [hw3,hw2]; exact h.sees.tail.tail
      refine aS (see ⟨oD,hD1,hD2⟩) hp2.va ?_
      refine cS H3 (xs:=[.int p.row.own 0,.ref p.l]) (see hp2.tup) rfl ?_
      refine cK (as:=p.zs) (fun z=>.ref z.1) (fun x:Str=>.str x 0) (fun z=>(Wat q.W z.2.goal).isNone) (fun z=>z.2.goal) H3 (see hp2.lst) (Nat.le_trans (hp2.len hok) (by decide)) ?_ fun D4=>?_
      · refine bg.of4 fun c4 hw4 H4 nwr hz z hz1 r acc g1 g2 o1 o2 o3 o4=>?_
        refine cS H4 (xs:=[.str z.2.goal 0,.int z.2.sign 0,.str z.2.text 0]) (hw4▸hz.sees (see (hp2.each z hz1))) rfl ?_
        refine eh lo (hw4▸hz.sees (.tail .head)) ?_
        refine aN (fun h=>?_) fun h=>?_
        · exact ⟨.refl _,rfl,g1 (by rw [bV,isSome_map] at h; rw [da h]; rfl)⟩
        · exact ⟨.refl _,rfl,g2 (by rw [bV,isSome_map] at h; obtain ⟨v,e⟩:=isSome_iff_exists.mp (iM h); rw [e]; rfl)⟩
      rw [vb,← hp2.asks]
      refine aV .head (Nat.le_trans sj (Nat.le_trans (hok.asks _ (db hp2.at_)) (by decide))) ?_
      refine aN (fun h=>?_) fun h=>?_
      · have hm:ew q.W p.row.asks=[]:=by simpa using h
        refine bp (as:=p.zs) (fun z=>.ref z.1) (fun n:Int=>.int n 0) (fun z=>z.2.sign * (Wat q.W z.2.goal).getD 0) H3 (see hp2.lst).tail (Nat.le_trans (hp2.len hok) (by decide)) ?_ fun D5=>?_
        · refine bg.of4 fun c4 hw4 H4 nwr hz z hz1 r acc g1 g2 o1 o2 o3 o4=>?_
          refine cS H4 (xs:=[.str z.2.goal 0,.int z.2.sign 0,.str z.2.text 0]) (hw4▸hz.sees (see (hp2.each z hz1)).tail) rfl ?_
          refine aS (hw4▸hz.sees (.tail (.tail .head))) (vg hm (hp2.mem hz1)) ?_
          refine jU (rl hok hp2.at_ (hp2.mem hz1) _) ?_
          exact ⟨.refl _,rfl,g1 rfl⟩
        refine wa (ns:=p.zs.map fun z=>z.2.sign * (Wat q.W z.2.goal).getD 0) H3 .head ?_
        refine yl ?_
        refine dv (i:=3) rfl (W_len hq.ok hok) (qK hq.ok hp2.at_ hm hp2.asks) ?_
        exact LR.next ⟨bN ks.book q.W y,none,some (.str y 0),some (.int p.row.own 0),some (.ref p.l)⟩ (.drop (.drop (.refl _))) (hq.next hp2.at_ _ rfl) rfl
      · have hm:ew q.W p.row.asks≠[]:=by simpa using h
        exact LR.next ⟨q.W,none,some (.str y 0),some (.int p.row.own 0),some (.ref p.l)⟩ (.drop (.refl _)) (hq.next hp2.at_ _ (qU hp2.at_ hm).symm) rfl
    · intro q hq
      exact LR.next ⟨q.W,some (.int (x:Int) 0),q.p,q.o,q.a⟩ (.refl _) ⟨by rw [← hp.res,show q.W=_ from hq.res]; rfl,hq.ok⟩ rfl
  · intro s hp
    exact ⟨[_],.drop (.refl _),(show s.W=_ from hp.res)▸hr Wd lo⟩
end
section
set_option tactic.hygienic false
theorem jc {c:Cx} {M:FM} {nw:Led} {rm:Nat} (H:Cok c (rm+1)) {D Sk:Addr} (hS:ae c.w nw Sk (.list (ac []))) {R:Value→FM→Led→Prop} (hr:R (.bool true) M nw):Do c .call [.ref 304,.none,.ref D,.ref Sk] M nw R:=by
  have hPG:PG=RowW.prog (OpenRow.toRowW (OpenLaw.row Challenge.rw_il0094_01)):=rfl
  refine' bI (f:=304) (k:=60) (xs:=(["ring", "book", "stuck"]:List Str)) (M₀:=[some .none,some (.ref D),some (.ref Sk),none]) H ?ho ?hcd ?hbind ?hkind ?hnd ?hM ?hB ?hco ?hgen ?hk ?main
  case ho=>intro w; k_fill; intro _; k_is
  case hcd=>intro w; k_fill; intro _; k_is
  case hbind=>first | exact bb fun _ _=>BindsTo.of_eq rfl | exact aY fun _ _ _=>BindsTo.of_eq rfl | exact bt fun _ _ _ _=>BindsTo.of_eq rfl
  case hkind=>exact ak rfl
  case hM=>exact rfl
  case hnd=>decide +kernel
  case hco=>exact rfl
  case hgen=>exact rfl
  case hk=>exact rfl
  case hB=>repeat' first | (with_reducible (apply CX.fold; apply CXs.var)) <;> exact rfl | (with_reducible (apply CX.fold; apply CXs.glob)) <;> (first | exact rfl | decide +kernel) | with_reducible exact CX.fold (@CXs.raw _ _ (PySem.Expr.Name _ _)) | with_reducible (apply CB.fold; apply CBs.asgc) | with_reducible (apply CX.fold; constructor) | with_reducible (apply CB.fold; constructor) | with_reducible constructor | exact rfl | decide +kernel
  intro c1 nw1 hsc hw H1 hS
  have hS':=(hS _ _ ‹ae c.w nw Sk _›).sees
  refine aV hS' (by decide) ?_
  refine aV hS' (by decide) ?_
  exact xO (.refl _) hr
structure eY (b:al) (stuck rs:List Str):Prop where
  len:2≤rs.length∧rs.length≤20
  ends:∃ x,rs[0]? = some x∧rs[rs.length - 1]? = some x
  step:∀ j,j+1 < rs.length→∃ x y row,rs[j+1]? = some x∧rs[j]? = some y∧x ∈ stuck∧x ∉ (rs.take (j+1)).drop 1∧b.at x=some row∧y ∈ row.asks.map (·.goal)
structure RS1 (b:al) (stuck rs:List Str) (i:Nat) (x:Str) (row:Row):Prop where
  cur:rs.getD i "" = x
  at_:b.at x=some row
  stk:x ∈ stuck
  new:x ∉ (rs.take i).drop 1
  prev:rs.getD (i - 1) "" ∈ row.asks.map (·.goal)
theorem eY.at {b:al} {stuck rs:List Str} (h:eY b stuck rs) {i:Nat} (h1:1≤i) (h2:i < rs.length):∃ z:Str×Row,RS1 b stuck rs i z.1 z.2:=by
  obtain ⟨j,rfl⟩ : ∃ j,i=j+1:=⟨i - 1,by (clear h2; omega)⟩
  refine E3 (h.step j h2) fun x y row q91=>A6 q91 fun hx hy hxs hxn hrow hyg=>?_
  clear q91
  exact ⟨(x,row),by rw [getD_eq_getElem?_getD,hx]; rfl,hrow,hxs,hxn,by rw [Nat.add_sub_cancel,getD_eq_getElem?_getD,hy]; exact hyg⟩
theorem eY.last {b:al} {stuck rs:List Str} (h:eY b stuck rs):∃ x,rs=rs.dropLast++[x]∧rs.getD 0 "" = x:=by
  refine E1 h.ends fun x q91=>A2 q91 fun h1 h2=>?_
  clear q91
  refine ⟨x,?_,by rw [getD_eq_getElem?_getD,h1]; rfl⟩
  clear h
  rcases eq_nil_or_concat rs with rfl | ⟨ini,z,rfl⟩
  · cases h1
  · rw [concat_eq_append] at h2 ⊢
    rw [List.dropLast_concat]
    simp at h2
    rw [h2]
theorem tG {c:Cx} {M:FM} {nw:Led} {rm:Nat} (H:Cok c (rm+1)) {Rg D Sk:Addr} {rs stuck:List Str} {b:al} (hR:ae c.w nw Rg (.list (ac rs))) (hB:iw (ae c.w nw) D b) (hK:ae c.w nw Sk (.list (ac stuck))) (hne:stuck≠[]) (hsl:stuck.length≤100) (hok:di b) (hr0:eY b stuck rs) {R:Value→FM→Led→Prop} (hr:R (.bool true) M nw):Do c .call [.ref 304,.ref Rg,.ref D,.ref Sk] M nw R:=by
  have hPG:PG=RowW.prog (OpenRow.toRowW (OpenLaw.row Challenge.rw_il0094_01)):=rfl
  refine' bI (f:=304) (k:=60) (xs:=(["ring", "book", "stuck"]:List Str)) (M₀:=[some (.ref Rg),some (.ref D),some (.ref Sk),none]) H ?ho ?hcd ?hbind ?hkind ?hnd ?hM ?hB ?hco ?hgen ?hk ?main
  case ho=>intro w; k_fill; intro _; k_is
  case hcd=>intro w; k_fill; intro _; k_is
  case hbind=>first | exact bb fun _ _=>BindsTo.of_eq rfl | exact aY fun _ _ _=>BindsTo.of_eq rfl | exact bt fun _ _ _ _=>BindsTo.of_eq rfl
  case hkind=>exact ak rfl
  case hM=>exact rfl
  case hnd=>decide +kernel
  case hco=>exact rfl
  case hgen=>exact rfl
  case hk=>exact rfl
  case hB=>repeat' first | (with_reducible (apply CX.fold; apply CXs.var)) <;> exact rfl | (with_reducible (apply CX.fold; apply CXs.glob)) <;> (first | exact rfl | decide +kernel) | with_reducible exact CX.fold (@CXs.raw _ _ (PySem.Expr.Name _ _)) | with_reducible (apply CB.fold; apply CBs.asgc) | with_reducible (apply CX.fold; constructor) | with_reducible (apply CB.fold; constructor) | with_reducible constructor | exact rfl | decide +kernel
  intro c1 nw1 hsc hw H1 hS
  have hB:=hB.mono hS
  refine E1 hB.ex fun ks q91=>A3 q91 fun hD e92 hrows=>?_
  clear q91
  first | subst e92 | cases e92
  have hR:=(hS _ _ hR).sees
  have hK:=(hS _ _ hK).sees
  obtain ⟨l1,l2⟩:=hr0.len
  refine E1 hr0.last fun x0 q93=>A2 q93 fun e0 e1=>?_
  clear q93
  have l3:rs.length≤1000:=Nat.le_trans l2 (by decide)
  refine aV hK (Nat.le_trans hsl (by decide)) ?_
  refine dz (by simpa using hne) ?_
  refine lL hR (by rw [ao]; (clear hsl l1; omega)) ?_
  refine dz (decide_eq_false (by rw [ao]; (clear hsl l2 l3; omega))) ?_
  refine bk hR (by decide) ( by (clear hsl l2 l3; omega)) l3 ?_
  refine jo (gs:=rs.dropLast) (x:=x0) (e0▸hR) (by rw [List.length_dropLast]; (clear hsl l1; omega)) ?_
  refine dz (by rw [show rs.getD (Int.toNat 0) "" = x0 from e1]; simp) ?_
  refine lL hR (by rw [ao]; (clear hsl l1; omega)) ?_
  rw [ao]
  refine pP fun Dr=>?_
  have el:((1+(rs.length - 1):Nat):Int)=rs.length:=by (clear hsl l2 l3; omega)
  refine dl (i₀:=1) (n:=rs.length - 1) (k:=50) (Ms:=fun s:Option Value=>[some (.ref Rg),some (.ref D),some (.ref Sk),s]) (fun s=>(Dr,.range 1 rs.length)::nw1) (fun r _=>∀ i ∈ r,1≤i∧i < rs.length) none H1 (by rw [el]; exact .head) (by omega) rfl rfl (fun i hi=>by rw [List.mem_range'_1] at hi; omega) ?_ ?_
  · intro c2 _ hw2 H2 i r s hp
    obtain ⟨i1,i2⟩:=hp i (.head _)
    obtain ⟨z,hz⟩:=hr0.at i1 i2
    have see:∀ {a y},ae c1.w nw1 a y→ae c2.w ((Dr,.range 1 rs.length)::nw1) a y:=fun h=>by rw [hw2]; exact h.tail
    have ec:rs.getD (Int.toNat (i:Int)) "" = z.1:=hz.cur
    refine bk (see hR) (Int.natCast_nonneg _) (Int.ofNat_lt.mpr i2) l3 ?_
    rw [ec]
    refine iF (see hK) ?_
    refine dz (by simpa using hz.stk) ?_
    refine bk (see hR) (Int.natCast_nonneg _) (Int.ofNat_lt.mpr i2) l3 ?_
    rw [ec]
    refine vo (a:=1) (b:=i) (see hR) l3 fun D1=>?_
    refine xd .head ?_
    refine dz (by simpa using hz.new) ?_
    refine bk (see hR).tail ( by (clear hsl l1 l2 l3 el i2; omega)) ( by (clear hsl el; omega)) l3 ?_
    refine bk (see hR).tail (Int.natCast_nonneg _) (Int.ofNat_lt.mpr i2) l3 ?_
    rw [ec]
    obtain ⟨p,hp2⟩:=Ks.row hrows (x:=z.1) (by rw [hz.at_]; rfl)
    refine aS (see hD.sees).tail hp2.va ?_
    refine dS (see hp2.tup.sees).tail (by decide) (by decide) rfl ?_
    refine bp (as:=p.zs) (fun z=>.ref z.1) (fun x:Str=>.str x 0) (fun z=>z.2.goal) H2 (see hp2.lst.sees).tail (Nat.le_trans (hp2.len hok) (by decide)) ?_ fun D2=>?_
    · refine bg.of4 fun c4 hw4 H4 nwr hz4 z hz1 r acc g1 g2 o1 o2 o3 o4=>?_
      refine cS H4 (xs:=[.str z.2.goal 0,.int z.2.sign 0,.str z.2.text 0]) (hw4▸hz4.sees (see (hp2.each z hz1).sees).tail) rfl ?_
      exact ⟨.refl _,rfl,g1 rfl⟩
    refine iF (gs:=p.zs.map fun z=>z.2.goal) .head ?_
    have e3:((i:Int) - 1).toNat=i - 1:=by (clear hsl l1 l2 l3 el; omega)
    have e4:p.row=z.2:=Option.some.inj (hp2.at_.symm.trans hz.at_)
    have e5:=hz.prev
    rw [← e4,hp2.asks,List.map_map] at e5
    refine dz (by rw [e3,Bool.not_eq_false',decide_eq_true_iff]; exact e5) ?_
    exact LR.next (some (.int (i:Int) 0)) (.drop (.drop (.refl _))) (fun j hj=>hp j (.tail _ hj)) rfl
  · intro s hp
    exact xO (.drop (.refl _)) hr
end
section
set_option tactic.hygienic false
theorem ya {c:Cx} {M:FM} {nw:Led} {rm:Nat} (H:Cok c (rm+2)) {x:Str} {R:Value→FM→Led→Prop} (hr:∀ n:NA,n.key=x→R (.ref n.a) M ((n.a,cI n 0)::(n.l,.list (ac []))::(n.dx,dict0)::nw)):Do c .call [.ref 47,.str x 0] M nw R:=by
  have hPG:PG=RowW.prog (OpenRow.toRowW (OpenLaw.row Challenge.rw_il0094_01)):=rfl
  refine' jw (C:=47) (fI:=43) (by decide) (args2:=[.str x 0]) (k:=60) (xs:=([("self" : Str),("node" : Str)]:List Str)) (M₀:=fun S=>[some (.ref S),some (.str x 0)]) H ?ho ?hcd ?hbind ?hkind ?hnd ?hM ?hB ?hco ?hgen ?hk ?main
  case ho=>intro w; k_fill; intro _; k_is
  case hcd=>intro w; k_fill; intro _; k_is
  case hkind=>exact ak rfl
  case hM=>exact fun _=>rfl
  case hnd=>decide +kernel
  case hco=>exact rfl
  case hgen=>exact rfl
  case hk=>exact rfl
  case hB=>repeat' first | (with_reducible (apply CX.fold; apply CXs.var)) <;> exact rfl | (with_reducible (apply CX.fold; apply CXs.glob)) <;> (first | exact rfl | decide +kernel) | with_reducible exact CX.fold (@CXs.raw _ _ (PySem.Expr.Name _ _)) | with_reducible exact CX.fold (@CXs.raw _ _ (PySem.Expr.Call _ [_,PySem.Expr.Starred _ _] _ _)) | with_reducible (apply CB.fold; apply CBs.asgc) | with_reducible (apply CX.fold; constructor) | with_reducible (apply CB.fold; constructor) | with_reducible constructor | exact rfl | decide +kernel
  case hbind =>
    intro s vs' S _ hs
    obtain ⟨u,_,rfl,hu,hs⟩:=hs.cons
    cases hs.nil
    exact ⟨[.ref S,u],.two rfl hu,BindsTo.of_eq rfl⟩
  intro c1 S dx hsc hw H1
  refine Do.pre (.thaw (vz dx _) (.refl _)) ?_
  refine lN (k:=0) (dx:=dx) (vs:=[]) (p:=48) (i:=0) [.str x 0] (by decide +kernel) H1 (.tail .head) rfl (Nat.zero_le _) rfl ?_
  refine lN (k:=0) (dx:=dx) (vs:=[.str x 0]) (p:=49) (i:=1) [.str x 0,.int 0 0] (by decide +kernel) H1 (.tail .head) rfl (Nat.le_refl _) rfl ?_
  intro l
  refine lN (k:=1) (dx:=dx) (vs:=[.str x 0,.int 0 0]) (p:=50) (i:=2) [.str x 0,.int 0 0,.ref l] (by decide +kernel) H1 (.tail (.tail .head)) rfl (Nat.le_refl _) rfl ?_
  exact ⟨rfl,[_,_,_],.swap [_] [_] [_],hr ⟨x,S,dx,l⟩ rfl⟩
noncomputable def F73 (w:World):Prop:=PG=(RowW.prog (OpenRow.toRowW (OpenLaw.row Challenge.rw_il0094_01)))→∃ o,(hd.heap_39 w.params).lookup 73=some o∧o.data = .seq #[.none]
theorem f73 (w:World):F73 w:=by
  unfold F73; k_fill; intro _; refine ⟨{ cls:=.type "tuple",data:=.seq #[.none] },?_,rfl⟩
  k_is
theorem v_new {c:Cx} {np:Str→Int} {sc:Str→List Str} {M:FM} {nw:Led} {rm:Nat} (H:Cok c (rm+2)) {R:Value→FM→Led→Prop} (hr:∀ S SD DD,(DD == sysModules)=false→R (.ref S) M (so0 c.w S SD DD [] np sc nw)):Do c .call [.ref 144] M nw R:=by
  have hPG:PG=RowW.prog (OpenRow.toRowW (OpenLaw.row Challenge.rw_il0094_01)):=rfl
  refine' jw (C:=144) (fI:=80) (by decide) (args2:=[.none]) (k:=60) (xs:=([("self" : Str),("graph" : Str)]:List Str)) (M₀:=fun S=>[some (.ref S),some .none,none,none]) H ?ho ?hcd ?hbind ?hkind ?hnd ?hM ?hB ?hco ?hgen ?hk ?main
  case ho=>intro w; k_fill; intro _; k_is
  case hcd=>intro w; k_fill; intro _; k_is
  case hkind=>exact ak rfl
  case hM=>exact fun _=>rfl
  case hnd=>decide +kernel
  case hco=>exact rfl
  case hgen=>exact rfl
  case hk=>exact rfl
  case hB=>repeat' first | (with_reducible (apply CX.fold; apply CXs.var)) <;> exact rfl | (with_reducible (apply CX.fold; apply CXs.glob)) <;> (first | exact rfl | decide +kernel) | with_reducible exact CX.fold (@CXs.raw _ _ (PySem.Expr.Name _ _)) | with_reducible exact CX.fold (@CXs.raw _ _ (PySem.Expr.Call _ [_,PySem.Expr.Starred _ _] _ _)) | with_reducible (apply CB.fold; apply CBs.asgc) | with_reducible (apply CX.fold; constructor) | with_reducible (apply CB.fold; constructor) | with_reducible constructor | exact rfl | decide +kernel
  case hbind =>
    intro s vs' S X hs
    cases hs.nil
    refine ⟨[.ref S,.none],rfl,?_⟩
    obtain ⟨o,h1,h2⟩:=f73 c.w rfl
    exact binds_K X rfl h1 h2 rfl rfl
  intro c1 S SD hsc hw H1
  intro DD lo
  refine xQ (i:=2) H1 (.tail .head) rfl ?_
  refine xe (i:=2) H1 (.tail .head) rfl ?_
  refine wF (i:=2) H1 (.tail .head) rfl ?_
  refine xy (i:=2) H1 (.tail .head) rfl ?_
  exact ⟨rfl,[_,_,_],.swap [_] [_,_] [],hw▸hr S SD DD lo⟩
theorem fK {c:Cx} {M:FM} {l1 l2:Led} {rm:Nat} (H:Cok c (rm+5)) {S SD DD:Addr} {ad:List NA} {np:Str→Int} {sc:Str→List Str} {x:Str} (lo:(DD == sysModules)=false) (hz:ad.length≤20) (h0:kz ad np sc) {R:Value→FM→Led→Prop} (hr:∀ ad',Get ad x ad'→∀ n ∈ ad',n.key=x→R (.ref n.a) M (l1++so0 c.w S SD DD ad' np sc l2)):Do c .call [.ref 87,.ref S,.str x 0] M (l1++so0 c.w S SD DD ad np sc l2) R:=by
  have hPG:PG=RowW.prog (OpenRow.toRowW (OpenLaw.row Challenge.rw_il0094_01)):=rfl
  refine' aG (f:=87) (own:=so0 c.w S SD DD ad np sc []) (k:=60) (xs:=(["self", "node"]:List Str)) (M₀:=[some (.ref S),some (.str x 0),none]) H ?ho ?hcd ?hbind ?hkind ?hnd ?hM ?hB ?hco ?hgen ?hk (ix (by first | exact bv | exact aX)) (cL (jZ (by first | exact bv | exact aX))) ?main
  case ho=>intro w; k_fill; intro _; k_is
  case hcd=>intro w; k_fill; intro _; k_is
  case hbind=>first | exact bb fun _ _=>BindsTo.of_eq rfl | exact aY fun _ _ _=>BindsTo.of_eq rfl | exact bt fun _ _ _ _=>BindsTo.of_eq rfl
  case hkind=>exact ak rfl
  case hM=>exact rfl
  case hnd=>decide +kernel
  case hco=>exact rfl
  case hgen=>exact rfl
  case hk=>exact rfl
  case hB=>repeat' first | (with_reducible (apply CX.fold; apply CXs.var)) <;> exact rfl | (with_reducible (apply CX.fold; apply CXs.glob)) <;> (first | exact rfl | decide +kernel) | with_reducible exact CX.fold (@CXs.raw _ _ (PySem.Expr.Name _ _)) | with_reducible exact CX.fold (@CXs.raw _ _ (PySem.Expr.Call _ [_,PySem.Expr.Starred _ _] _ _)) | with_reducible (apply CB.fold; apply CBs.asgc) | with_reducible (apply CX.fold; constructor) | with_reducible (apply CB.fold; constructor) | with_reducible constructor | exact rfl | decide +kernel
  intro c1 hsc hw H1
  rw [← hw] at hr ⊢
  refine cP H1 .head (.tail .head) ?_
  refine vU (.tail (.tail .head)) ?_
  refine wt lo (.tail (.tail .head)) ?_
  by_cases hx:x ∈ au ad
  · refine E1 (cA hx) fun n q91=>A2 q91 fun h1 e92=>?_
    clear q91
    clear hx
    first | subst e92 | cases e92
    rw [eG h0.nd h1]
    exact eK bv (.refl _) (hr ad (.inl rfl) n h1 rfl)
  · rw [jp hx]
    refine ya H1 fun n e=>?_
    subst e
    refine cP H1 (.tail (.tail (.tail .head))) (.tail (.tail (.tail (.tail .head)))) ?_
    refine dv (i:=5) rfl (by rw [rG]; omega) (qH hx) ?_
    obtain ⟨e1,e2⟩:=h0.z _ hx
    exact eK bv (sq e1 e2) (hr (ad++[n]) (.inr ⟨n,rfl,hx,rfl⟩) n (mem_append_right _ (.head _)) rfl)
theorem v_add {c:Cx} {M:FM} {l1 l2:Led} {rm:Nat} (H:Cok c (rm+6)) {S SD DD:Addr} {ad:List NA} {np:Str→Int} {sc:Str→List Str} {x y z:Str} (lo:(DD == sysModules)=false) (hz:ad.length≤15) (h0:kz ad np sc) (hs:∀ v,(sc v).length≤100) {R:Value→FM→Led→Prop}
    (hr:∀ ad',au ad'=bY (bY (bY (au ad) x) y) z→kz ad' (upd np x (np x+2)) (bO (bO sc x y) x z)→R .none M (l1++so0 c.w S SD DD ad' (upd np x (np x+2)) (bO (bO sc x y) x z) l2)) {q:Addr} (hq:ae c.w (l1++so0 c.w S SD DD ad np sc l2) q (.raw (methodObj (.ref 94) (.ref S)))):Do c .call [.ref q,.str x 0,.str y 0,.str z 0] M (l1++so0 c.w S SD DD ad np sc l2) R:=by
  have hPG:PG=RowW.prog (OpenRow.toRowW (OpenLaw.row Challenge.rw_il0094_01)):=rfl
  refine' lm (f:=94) (self:=.ref S) (hds:=[.ref S,.str x 0]) (rs:=[.str y 0,.str z 0]) (l1:=l1) (own:=so0 c.w S SD DD ad np sc []) (l2:=l2) (k:=60) (xs:=[("self" : Str), "node", "predecessors"]) (M₀:=fun D=>[some (.ref S),some (.str x 0),some (.ref D),none,none,none]) H hq ?ho ?hcd ?hbind ?hkind ?hnd ?hM ?hB ?hco ?hgen ?hk (jZ bv) rfl (Nat.le_of_ble_eq_true rfl) ?main
  case ho=>intro w; k_fill; intro _; k_is
  case hcd=>intro w; k_fill; intro _; k_is
  case hbind=>first | exact nk fun _ _=>rfl | exact rz fun _ _ _ _=>rfl
  case hkind=>exact ak rfl
  case hM=>exact fun _=>rfl
  case hnd=>decide +kernel
  case hco=>exact rfl
  case hgen=>exact rfl
  case hk=>exact rfl
  case hB=>repeat' first | (with_reducible (apply CX.fold; apply CXs.var)) <;> exact rfl | (with_reducible (apply CX.fold; apply CXs.glob)) <;> (first | exact rfl | decide +kernel) | with_reducible exact CX.fold (@CXs.raw _ _ (PySem.Expr.Name _ _)) | with_reducible exact CX.fold (@CXs.raw _ _ (PySem.Expr.Call _ [_,PySem.Expr.Starred _ _] _ _)) | with_reducible (apply CB.fold; apply CBs.asgc) | with_reducible (apply CX.fold; constructor) | with_reducible (apply CB.fold; constructor) | with_reducible constructor | exact rfl | decide +kernel
  intro c1 D hsc hw H1
  rw [← hw] at hr ⊢
  refine fQ H1 (.tail .head) (.tail (.tail .head)) ?_
  refine bG (f:=87) (by decide +kernel) (fun _ _ _ _ _ _=>rfl) H1 (.tail .head) (.tail (.tail .head)) ?_
  refine fK (l1:=[_]) (l2:=[]) H1 lo (by omega) h0 fun ad1 g1 n1 m1 e1=>?_
  have k1:=h0.get g1
  subst e1
  refine ia H1 (pr m1).tail (oJ m1).tail ?_
  refine tZ .head (Nat.le_of_ble_eq_true rfl) ?_
  refine lR (front:=[_,_,_,_]) H1 k1.nd m1 (oJ m1).tail ?_
  have k2:=k1.np m1 (np n1.key+2)
  refine iC (k:=40) (i:=0) H1 rfl fun o _ c2 _ hw2 H2=>?_
  rw [← hw2] at hr ⊢
  refine bG (f:=87) (by decide +kernel) (fun _ _ _ _ _ _=>rfl) H2 (.tail .head) (.tail (.tail .head)) ?_
  refine fK (l1:=[_]) (l2:=[]) H2 lo (Nat.le_trans g1.len (by omega)) k2 fun ad2 g2 n2 m2 e2=>?_
  have k3:=k2.get g2
  refine fy H2 (pr m2).tail (oJ m2).tail ?_
  refine bS (vp m2).tail ?_
  refine pZ (front:=(_::_::_::_::nA ad2 _)) k3.nd m2 (Nat.le_trans (hs _) (by decide)) ?_
  subst e2
  have k4:kz ad2 _ (bO sc n1.key n2.key):=k3.sc m2 (sc n2.key++[n1.key])
  refine ⟨_,.refl _,.head _,fun c3 _ hw3 H3=>?_⟩
  rw [← hw3.trans hw2.symm] at hr ⊢
  refine bG (f:=87) (by decide +kernel) (fun _ _ _ _ _ _=>rfl) H3 (.tail .head) (.tail (.tail .head)) ?_
  refine fK (l1:=[_]) (l2:=[]) H3 lo (Nat.le_trans g2.len (Nat.le_trans (Nat.succ_le_succ g1.len) (by omega))) k4 fun ad3 g3 n3 m3 e3=>?_
  have k5:=k4.get g3
  refine fy H3 (pr m3).tail (oJ m3).tail ?_
  refine bS (vp (sc:=bO sc n1.key n2.key) m3).tail ?_
  refine pZ (sc:=bO sc n1.key n2.key) (front:=(_::_::_::_::nA ad3 _)) k5.nd m3 (Nat.le_trans (jg hs _ _ _) (by decide)) ?_
  subst e3
  refine ⟨_,.refl _,.head _,?_⟩
  refine eK (R:=fun l=>R .none M l) bv (.drop (.refl _)) (hr ad3 ?_ (k5.sc m3 _))
  rw [g3.keys m3 rfl,g2.keys m2 rfl,g1.keys m1 rfl]
end
section
set_option tactic.hygienic false
theorem nh {c:Cx} {M:FM} {l1 l2:Led} {rm:Nat} (H:Cok c (rm+5)) {S SD DD RN:Addr} {rs:List Str} {po nf:Int} {ad:List NA} {np:Str→Int} {sc:Str→List Str} (hz:rs.length≤1000) {R:Value→FM→Led→Prop} (hr:R (.bool (Bool.or (decide (nf < po)) (!rs.isEmpty))) M (l1++so1 c.w S SD DD RN rs po nf ad np sc l2)):Do c .call [.ref 113,.ref S] M (l1++so1 c.w S SD DD RN rs po nf ad np sc l2) R:=by
  have hPG:PG=RowW.prog (OpenRow.toRowW (OpenLaw.row Challenge.rw_il0094_01)):=rfl
  refine' aG (f:=113) (own:=so1 c.w S SD DD RN rs po nf ad np sc []) (k:=60) (xs:=(["self"]:List Str)) (M₀:=[some (.ref S)]) H ?ho ?hcd ?hbind ?hkind ?hnd ?hM ?hB ?hco ?hgen ?hk (ix (by first | exact bv | exact aX)) (cL (jZ (by first | exact bv | exact aX))) ?main
  case ho=>intro w; k_fill; intro _; k_is
  case hcd=>intro w; k_fill; intro _; k_is
  case hbind=>first | exact bb fun _ _=>BindsTo.of_eq rfl | exact aY fun _ _ _=>BindsTo.of_eq rfl | exact bt fun _ _ _ _=>BindsTo.of_eq rfl
  case hkind=>exact ak rfl
  case hM=>exact rfl
  case hnd=>decide +kernel
  case hco=>exact rfl
  case hgen=>exact rfl
  case hk=>exact rfl
  case hB=>repeat' first | (with_reducible (apply CX.fold; apply CXs.var)) <;> exact rfl | (with_reducible (apply CX.fold; apply CXs.glob)) <;> (first | exact rfl | decide +kernel) | with_reducible exact CX.fold (@CXs.raw _ _ (PySem.Expr.Name _ _)) | with_reducible (apply CB.fold; apply CBs.asgc) | with_reducible (apply CX.fold; constructor) | with_reducible (apply CB.fold; constructor) | with_reducible constructor | exact rfl | decide +kernel
  intro c1 hsc hw H1
  rw [← hw] at hr ⊢
  refine br H1 .head (.tail .head) ?_
  refine re H1 .head (.tail .head) ?_
  refine pQ H1 .head (.tail .head) ?_
  refine aN (fun h=>?_) fun h=>?_
  · rw [h] at hr
    exact eK (R:=fun l=>R (.bool (decide (nf < po))) M l) aX (.refl _) (by rw [h]; exact hr)
  · rw [h] at hr
    refine br H1 .head (.tail .head) ?_
    refine vF (.tail (.tail (.tail .head))) (by rw [ao]; omega) ?_
    rw [show (ac rs).isEmpty=rs.isEmpty from by cases rs <;> rfl]
    exact eK (R:=fun l=>R (.bool (!rs.isEmpty)) M l) aX (.refl _) hr
structure Gst where
  np:Str→Int
  nd:Option Value
structure G1s (np:Str→Int) (rs:List Str) (r:List Str) (s:Gst):Prop where
  ex:∃ dn,rs=dn++r∧s.np=gl np dn
theorem G1s.next {np:Str→Int} {rs r:List Str} {x:Str} {s:Gst} (h:G1s np rs (x::r) s) (v:Option Value):G1s np rs r ⟨upd s.np x (-1),v⟩:=by
  refine E1 h.ex fun dn q91=>A2 q91 fun e1 e2=>?_
  clear q91
  exact ⟨dn++[x],by rw [e1,append_assoc]; rfl,by rw [qW,← e2]⟩
theorem G1s.mem {np:Str→Int} {rs r:List Str} {x:Str} {s:Gst} (h:G1s np rs (x::r) s):x ∈ rs:=by
  refine E1 h.ex fun dn q91=>A2 q91 fun e1 e2=>?_
  clear q91
  rw [e1]; exact mem_append_right _ (.head _)
theorem G1s.done {np:Str→Int} {rs:List Str} {s:Gst} (h:G1s np rs [] s):s.np=gl np rs:=by
  obtain ⟨dn,e1,e2⟩:=h.ex
  rw [e1,append_nil]; exact e2
theorem gu {c:Cx} {M:FM} {l1 l2:Led} {rm:Nat} (H:Cok c (rm+5)) {S SD DD RN:Addr} {rs:List Str} {po nf:Int} {ad:List NA} {np:Str→Int} {sc:Str→List Str} (hz:rs.length≤1000) (hn:(au ad).Nodup) (hin:∀ x ∈ rs,x ∈ au ad) {R:Value→FM→Led→Prop} (hr:∀ D,R (.ref D) M (l1++((D,.tup (ac rs))::so1 c.w S SD DD RN [] (po+rs.length) nf ad (gl np rs) sc l2))):Do c .call [.ref 106,.ref S] M (l1++so1 c.w S SD DD RN rs po nf ad np sc l2) R:=by
  have hPG:PG=RowW.prog (OpenRow.toRowW (OpenLaw.row Challenge.rw_il0094_01)):=rfl
  refine' aG (f:=106) (own:=so1 c.w S SD DD RN rs po nf ad np sc []) (k:=60) (xs:=(["self"]:List Str)) (M₀:=[some (.ref S),none,none,none]) H ?ho ?hcd ?hbind ?hkind ?hnd ?hM ?hB ?hco ?hgen ?hk (ix (by first | exact bv | exact aX)) (cL (jZ (by first | exact bv | exact aX))) ?main
  case ho=>intro w; k_fill; intro _; k_is
  case hcd=>intro w; k_fill; intro _; k_is
  case hbind=>first | exact bb fun _ _=>BindsTo.of_eq rfl | exact aY fun _ _ _=>BindsTo.of_eq rfl | exact bt fun _ _ _ _=>BindsTo.of_eq rfl
  case hkind=>exact ak rfl
  case hM=>exact rfl
  case hnd=>decide +kernel
  case hco=>exact rfl
  case hgen=>exact rfl
  case hk=>exact rfl
  case hB=>repeat' first | (with_reducible (apply CX.fold; apply CXs.var)) <;> exact rfl | (with_reducible (apply CX.fold; apply CXs.glob)) <;> (first | exact rfl | decide +kernel) | with_reducible exact CX.fold (@CXs.raw _ _ (PySem.Expr.Name _ _)) | with_reducible (apply CB.fold; apply CBs.asgc) | with_reducible (apply CX.fold; constructor) | with_reducible (apply CB.fold; constructor) | with_reducible constructor | exact rfl | decide +kernel
  intro c1 hsc hw H1
  rw [← hw] at hr ⊢
  refine br H1 .head (.tail .head) ?_
  refine br H1 .head (.tail .head) ?_
  refine tj (.tail (.tail (.tail .head))) (by rw [ao]; exact hz) fun D=>?_
  refine cP H1 (.tail .head) (.tail (.tail .head)) ?_
  refine DoF.freeze (i:=0) rfl fun o ho=>?_
  refine rI (as:=rs) (e:=fun x:Str=>.str x 0) (k:=45) (Ms:=fun s:Gst=>[some (.ref S),some (.ref D),some (.ref DD),s.nd]) (fun s=>(D,.raw o)::so1 c1.w S SD DD RN rs po nf ad s.np sc []) (G1s np rs) ⟨np,none⟩ H1 ho (fun s=>.head _) rfl rfl ⟨[],rfl,by funext y; unfold gl; rw [if_neg not_mem_nil]⟩ ?_ ?_
  · intro c2 _ hw2 H2 x r s hp
    rw [← hw2]
    refine E1 (cA (hin x hp.mem)) fun n q91=>A2 q91 fun m1 e92=>?_
    clear q91
    first | subst e92 | cases e92
    refine aS (.tail (.tail (.tail .head))) (eG hn m1) ?_
    refine lR (front:=[_,_,_,_,_]) H2 hn m1 (kC m1).tail ?_
    exact LR.pair ⟨upd s.np n.key (-1),some (.str n.key 0)⟩ (.refl _) (hp.next _) rfl
  · intro s hp
    refine br H1 (.tail .head) (.tail (.tail .head)) ?_
    refine ux (.tail (.tail (.tail (.tail .head)))) ?_
    refine wc (i:=4) rfl (by rw [ao]; exact hz) ?_
    refine pQ H1 (.tail .head) (.tail (.tail .head)) ?_
    refine tZ (xs:=ac rs) ⟨_,.head _,fun o' e=>e▸ho⟩ (by rw [ao]; omega) ?_
    rw [ao]
    refine wD (i:=2) H1 (.tail .head) rfl ?_
    have hr':=hr D
    rw [← hp.done] at hr'
    exact td (R:=fun l=>R (.ref D) M l) aX (.thaw (fun o' e=>e▸ho) (.refl _)) hr'
structure Dst where
  np:Str→Int
  rs:List Str
  s:Option Value
  i:Option Value
structure D1s (np:Str→Int) (rs:List Str) (ys r:List Str) (s:Dst):Prop where
  ex:∃ dn,ys=dn++r∧(s.np,s.rs)=dn.foldl gI (np,rs)∧s.rs.length≤rs.length+dn.length
theorem D1s.mem {np:Str→Int} {rs ys r:List Str} {x:Str} {s:Dst} (h:D1s np rs ys (x::r) s):x ∈ ys:=by
  refine E1 h.ex fun dn q91=>A2 q91 fun e1 e2=>?_
  clear q91
  rw [e1]; exact mem_append_right _ (.head _)
theorem D1s.len {np:Str→Int} {rs ys r:List Str} {s:Dst} (h:D1s np rs ys r s):s.rs.length≤rs.length+ys.length:=by
  refine E1 h.ex fun dn q91=>A3 q91 fun e1 e2 e3=>?_
  clear q91
  rw [e1,length_append]; omega
theorem D1s.next {np:Str→Int} {rs ys r:List Str} {x:Str} {s s':Dst} (h:D1s np rs ys (x::r) s) (e:(s'.np,s'.rs)=gI (s.np,s.rs) x):D1s np rs ys r s':=by
  refine E1 h.ex fun dn q91=>A3 q91 fun e1 e2 e3=>?_
  clear q91
  refine ⟨dn++[x],by rw [e1,append_assoc]; rfl,by rw [e,e2,foldl_append]; rfl,?_⟩
  have:=rW (s.np,s.rs) x
  rw [← e] at this
  rw [length_append]
  have h2:s'.rs.length≤s.rs.length+1:=this
  show _≤_+(_+1)
  (clear this; omega)
theorem D1s.done {np:Str→Int} {rs ys:List Str} {s:Dst} (h:D1s np rs ys [] s):(s.np,s.rs)=ys.foldl gI (np,rs):=by
  refine E1 h.ex fun dn q91=>A3 q91 fun e1 e2 e3=>?_
  clear q91
  rw [e1,append_nil]; exact e2
theorem xH {c:Cx} {M:FM} {l1 l2:Led} {rm:Nat} (H:Cok c (rm+6)) {S SD DD RN:Addr} {rs:List Str} {po nf:Int} {ad:List NA} {np:Str→Int} {sc:Str→List Str} {x:Str} (lo:(DD == sysModules)=false) (hz:rs.length≤100) (hs:(sc x).length≤100) (hn:(au ad).Nodup) (hx:x ∈ au ad) (hnp:np x = -1) (hin:∀ y ∈ sc x,y ∈ au ad) {R:Value→FM→Led→Prop}
    (hr:R .none M (l1++so1 c.w S SD DD RN (qx np rs x (sc x)).2 po (nf+1) ad (qx np rs x (sc x)).1 sc l2)):Do c .call [.ref 127,.ref S,.str x 0] M (l1++so1 c.w S SD DD RN rs po nf ad np sc l2) R:=by
  have hPG:PG=RowW.prog (OpenRow.toRowW (OpenLaw.row Challenge.rw_il0094_01)):=rfl
  refine' gW (f:=127) (hds:=[.ref S]) (rs:=[.str x 0]) (l1:=l1) (own:=so1 c.w S SD DD RN rs po nf ad np sc []) (l2:=l2) (k:=60) (xs:=[("self" : Str), "nodes"]) (M₀:=fun D=>[some (.ref S),some (.ref D),none,none,none,none,none,none]) H ?ho ?hcd ?hbind ?hkind ?hnd ?hM ?hB ?hco ?hgen ?hk (jZ aX) rfl (Nat.le_of_ble_eq_true rfl) ?main
  case ho=>intro w; k_fill; intro _; k_is
  case hcd=>intro w; k_fill; intro _; k_is
  case hbind=>first | exact nk fun _ _=>rfl | exact rz fun _ _ _ _=>rfl
  case hkind=>exact ak rfl
  case hM=>exact fun _=>rfl
  case hnd=>decide +kernel
  case hco=>exact rfl
  case hgen=>exact rfl
  case hk=>exact rfl
  case hB=>repeat' first | (with_reducible (apply CX.fold; apply CXs.var)) <;> exact rfl | (with_reducible (apply CX.fold; apply CXs.glob)) <;> (first | exact rfl | decide +kernel) | with_reducible exact CX.fold (@CXs.raw _ _ (PySem.Expr.Name _ _)) | with_reducible (apply CB.fold; apply CBs.asgc) | with_reducible (apply CX.fold; constructor) | with_reducible (apply CB.fold; constructor) | with_reducible constructor | exact rfl | decide +kernel
  intro c1 D hsc hw H1
  rw [← hw] at hr ⊢
  refine br H1 (.tail .head) (.tail (.tail .head)) ?_
  refine cP H1 (.tail .head) (.tail (.tail .head)) ?_
  refine iC (k:=40) (i:=0) H1 rfl fun o _ c2 hsc2 hw2 H2=>?_
  rw [← hw2] at hr ⊢
  refine E1 (cA hx) fun n q91=>A2 q91 fun m1 e92=>?_
  clear q91
  first | subst e92 | cases e92
  refine vU (.tail (.tail (.tail .head))) ?_
  refine wt lo (.tail (.tail (.tail .head))) ?_
  rw [eG hn m1]
  refine ia H2 (rB m1).tail (kC m1).tail ?_
  rw [hnp]
  refine lR (front:=[_,_,_,_,_]) H2 hn m1 (kC m1).tail ?_
  refine fy (z:=upd np n.key (-2) n.key) H2 (rB (np:=upd np n.key (-2)) m1).tail (kC m1).tail ?_
  refine DoF.freezeM (front:=_::_::_::_::_::nA ad (upd np n.key (-2))) (mid:=nB ad sc) (back:=nC ad++[]) fun mid hz'=>?_
  obtain ⟨ol,g1,g2⟩:=hz'.seesR (nd_l (front:=[]) (back:=[]) m1 |> fun h=>by rw [append_nil] at h; exact h)
  refine ee (as:=sc n.key) (e:=fun x:Str=>.str x 0) (k:=35) (Ms:=fun s:Dst=>[some (.ref S),some (.ref D),some (.ref DD),some (.str n.key 0),some (.ref n.a),some (.int (-1) 0),s.s,s.i]) (fun s=>(D,.raw o)::(srL c2.w S SD DD (.ref RN) po nf ad++((RN,.list (ac s.rs))::(nA ad s.np++(mid++(nC ad++[])))))) (D1s (upd np n.key (-2)) rs (sc n.key)) ⟨upd np n.key (-2),rs,none,none⟩ H2 g2 (fun s=>.tail _ (.tail _ (.tail _ (.tail _ (.tail _ (mem_append_right _ (mem_append_left _ g1))))))) rfl rfl ⟨[],rfl,rfl,Nat.le_refl _⟩ ?_ ?_
  · intro c3 _ hw3 H3 y r s hp
    rw [← hw3]
    refine E1 (cA (hin y hp.mem)) fun m q93=>A2 q93 fun m2 e94=>?_
    clear q93
    first | subst e94 | cases e94
    have hd:∀ {np:Str→Int} {front:Led},ae c3.w (front++(nA ad np++(mid++(nC ad++[])))) m.dx dict0:=fun {np front}=>(((nd_d (front:=mid) (back:=[]) m2).pre (nA ad np)).pre front)
    refine aS (.tail (.tail (.tail .head))) (eG hn m2) ?_
    refine ia (n:=m) H3 (nd_a (front:=[_,_,_,_,_]) m2) (hd (front:=[_,_,_,_,_])) ?_
    refine lR (front:=[_,_,_,_,_]) H3 hn m2 (hd (front:=[_,_,_,_,_])) ?_
    refine ia (np:=upd s.np m.key (s.np m.key - 1)) H3 (nd_a (front:=[_,_,_,_,_]) m2) (hd (front:=[_,_,_,_,_])) ?_
    rw [fq]
    refine aN (fun h=>?_) fun h=>?_
    · have h0:=of_decide_eq_true h
      refine br H3 (.tail .head) (.tail (.tail .head)) ?_
      refine bS (.tail (.tail (.tail (.tail .head)))) ?_
      refine ca (i:=4) rfl (Nat.le_trans hp.len (by omega)) ?_
      refine LR.pair ⟨upd s.np m.key (s.np m.key - 1),s.rs++[m.key],some (.str m.key 0),some (.ref m.a)⟩ (.refl _) (hp.next ?_) rfl
      unfold gI
      rw [if_pos h0]
    · have h0:=of_decide_eq_false h
      refine LR.pair ⟨upd s.np m.key (s.np m.key - 1),s.rs,some (.str m.key 0),some (.ref m.a)⟩ (.refl _) (hp.next ?_) rfl
      unfold gI
      rw [if_neg h0]
  · intro s hp
    refine re H2 (.tail .head) (.tail (.tail .head)) ?_
    refine xE (i:=2) H2 (.tail .head) rfl ?_
    have e:qx np rs n.key (sc n.key)=(s.np,s.rs):=hp.done.symm
    rw [e] at hr
    refine ⟨_,.refl _,.head _,eK (own':=so1 c2.w S SD DD RN s.rs po (nf+1) ad s.np sc []) (R:=fun l=>R .none M l) aX ?_ hr⟩
    refine .drop (ar.pre (ar.pre (hz'.weak.app _) (nA ad s.np)) [_,_,_,_])
end
section
set_option tactic.hygienic false
noncomputable abbrev Way:=List (Str×List Str)
noncomputable def unw:Way→Option (Str×Way)
  | []=>none
  | (_,[])::st=>unw st
  | (x,y::r)::st=>some (y,(x,r)::st)
noncomputable def dJ:Way→Str→Nat
  | [],_=>0
  | (k,_)::st,x=>if k=x then st.length else dJ st x
noncomputable def az (st:Way):List Str:=st.reverse.map (·.1)
noncomputable def eZ (st:Way) (x:Str):List Str:=(az st).drop (dJ st x)++[x]
noncomputable def dfs (sc:Str→List Str):Nat→List Str→Way→Str→Option (List Str ⊕ List Str)
  | 0,_,_,_=>none
  | n+1,seen,st,x =>
    if x ∈ seen then
      if x ∈ st.map (·.1) then some (.inl (eZ st x))
      else match unw st with
        | none=>some (.inr seen)
        | some (y,st')=>dfs sc n seen st' y
    else match unw ((x,sc x)::st) with
      | none=>some (.inr (seen++[x]))
      | some (y,st')=>dfs sc n (seen++[x]) st' y
noncomputable def goF (sc:Str→List Str) (fuel:Nat):List Str→List Str→Option (Option (List Str))
  | [],_=>some none
  | k::ks,seen=>if k ∈ seen then goF sc fuel ks seen else match dfs sc fuel seen [] k with
    | none=>none
    | some (.inl ring)=>some (some ring)
    | some (.inr seen')=>goF sc fuel ks seen'
noncomputable def jK:Way→Wor
  | []=>[]
  | (x,_)::st=>jK st++[(x,(st.length:Int))]
theorem cv (x:Str) (r:List Str) (st:Way):az ((x,r)::st)=az st++[x]:=by
  unfold az; rw [reverse_cons,map_append]; rfl
theorem cy:∀ st:Way,(jK st).map (·.1)=az st
  | []=>rfl
  | (x,_)::st=>by
    rw [cv,← cy st]
    show ((jK st++[(x,(st.length:Int))]).map (·.1))=_
    rw [map_append]; rfl
theorem aw (st:Way):(az st).length=st.length:=by unfold az; simp
theorem cg {st:Way} {x:Str}:x ∈ az st↔x ∈ st.map (·.1):=by unfold az; simp
theorem pM {x:Str}:∀ {st:Way},(st.map (·.1)).Nodup→x ∈ st.map (·.1)→Wat (jK st) x=some (dJ st x:Int)
  | (k,r)::st,hn,hm=>by
    rw [map_cons,nodup_cons] at hn
    have hk:k ∉ (jK st).map (·.1):=by rw [cy,cg]; exact hn.1
    by_cases e:k=x
    · clear hn hm
      subst e
      have:Wat (jK st) k=none:=by
        cases q:Wat (jK st) k with
        | none=>rfl
        | some v=>exact absurd (ay.mp (by rw [q]; rfl)) hk
      show Wat (jK st++[(k,_)]) k=_
      rw [bK this]
      simp [dJ,Wat]
    · have hm':x ∈ st.map (·.1):=by
        rcases mem_cons.mp hm with h | h
        · exact absurd h.symm e
        · exact h
      show Wat (jK st++[(k,_)]) x=_
      rw [eQ (pM hn.2 hm')]
      simp [dJ,e]
theorem pG:∀ {st:Way} {y:Str} {st':Way},unw st=some (y,st')→st'.length≤st.length
  | (_,[])::st,y,st',h=>by
    have:=pG (st:=st) h
    simp only [length_cons]; omega
  | (x,z::r)::st,y,st',h=>by
    simp only [unw,Option.some.injEq,Prod.mk.injEq] at h
    rw [← h.2]; exact Nat.le_refl _
theorem kP {sc:Str→List Str}:∀ {n:Nat} {seen:List Str} {st:Way} {x:Str} {rs:List Str},dfs sc n seen st x=some (.inl rs)→rs≠[]∧rs.length≤st.length+n
  | 0,_,_,_,_,h=>by cases h
  | n+1,seen,st,x,rs,h=>by
    rw [dfs] at h
    split at h
    · split at h
      · have e:eZ st x=rs:=by simpa using h
        rw [← e]
        unfold eZ
        refine ⟨by simp,?_⟩
        rw [length_append,length_drop,aw,length_singleton]; omega
      · cases e:unw st with
        | none=>rw [e] at h; cases h
        | some p =>
          rw [e] at h
          obtain ⟨h1,h2⟩:=kP h
          have:=pG (st':=p.2) (y:=p.1) e
          exact ⟨h1,by omega⟩
    · cases e:unw ((x,sc x)::st) with
      | none=>rw [e] at h; cases h
      | some p =>
        rw [e] at h
        obtain ⟨h1,h2⟩:=kP h
        have:=pG (st':=p.2) (y:=p.1) e
        simp only [length_cons] at this
        exact ⟨h1,by omega⟩
theorem iL {sc:Str→List Str} {fuel:Nat} {rs:List Str}:∀ {ks seen:List Str},goF sc fuel ks seen=some (some rs)→rs≠[]∧rs.length≤fuel
  | [],_,h=>by cases h
  | k::ks,seen,h=>by
    rw [goF] at h
    split at h
    · exact iL h
    · cases e:dfs sc fuel seen [] k with
      | none=>rw [e] at h; cases h
      | some r =>
        rw [e] at h
        cases r with
        | inl ring =>
          have e2:ring=rs:=by simpa using h
          clear h
          subst e2
          have:=kP e
          simpa using this
        | inr seen'=>exact iL h
structure fk (keys:List Str) (st:Way) (seen:List Str):Prop where
  nd:(st.map (·.1)).Nodup
  sn:seen.Nodup
  sub:∀ x ∈ st.map (·.1),x ∈ seen
  ks:∀ x ∈ seen,x ∈ keys
  rem:∀ p ∈ st,∀ y ∈ p.2,y ∈ keys
theorem fk.tail {keys:List Str} {p:Str×List Str} {st:Way} {seen:List Str} (h:fk keys (p::st) seen):fk keys st seen:=by
  obtain ⟨h1,h2,h3,h4,h5⟩:=h
  rw [map_cons,nodup_cons] at h1
  exact ⟨h1.2,h2,fun x hx=>h3 x (.tail _ hx),h4,fun p hp=>h5 p (.tail _ hp)⟩
theorem fk.rest {keys:List Str} {x y:Str} {r:List Str} {st:Way} {seen:List Str} (h:fk keys ((x,y::r)::st) seen):fk keys ((x,r)::st) seen:=by
  obtain ⟨h1,h2,h3,h4,h5⟩:=h
  exact ⟨h1,h2,h3,h4,fun p hp z hz=>by
    rcases mem_cons.mp hp with rfl | hp
    · exact h5 (x,y::r) (.head _) z (.tail _ hz)
    · exact h5 p (.tail _ hp) z hz⟩
theorem fk.push {keys:List Str} {x:Str} {ys:List Str} {st:Way} {seen:List Str} (h:fk keys st seen) (hx:x ∉ seen) (hk:x ∈ keys) (hy:∀ y ∈ ys,y ∈ keys):fk keys ((x,ys)::st) (seen++[x]):=by
  obtain ⟨h1,h2,h3,h4,h5⟩:=h
  refine ⟨nodup_cons.mpr ⟨fun q=>hx (h3 x q),h1⟩,nodup_append.mpr ⟨h2,nodup_cons.mpr ⟨not_mem_nil,nodup_nil⟩,fun a ha b hb e=>hx (by rw [← mem_singleton.mp hb,← e]; exact ha)⟩,fun y hy=>?_,fun y hy=>?_,fun p hp z hz=>?_⟩
  · clear hx hk h1 h5
    rcases mem_cons.mp hy with rfl | hy
    · exact mem_append_right _ (.head _)
    · exact mem_append_left _ (h3 y hy)
  · rcases mem_append.mp hy with hy | hy
    · exact h4 y hy
    · rw [mem_singleton.mp hy]; exact hk
  · clear hx hk h1 h3
    rcases mem_cons.mp hp with rfl | hp
    · exact hy z hz
    · exact h5 p hp z hz
theorem fk.len {keys:List Str} {st:Way} {seen:List Str} (h:fk keys st seen):st.length≤keys.length∧seen.length≤keys.length:=by
  refine ⟨?_,aO h.sn h.ks⟩
  have:=aO h.nd fun x hx=>h.ks x (h.sub x hx)
  rwa [length_map] at this
end
section
set_option tactic.hygienic false
structure En where
  x:Str
  u:Addr
  it:Addr
  l:Addr
  j:Nat
noncomputable def ilL (st:List En):Led:=st.flatMap fun e=>[(e.u,.raw (LI.mw e.it)),(e.it,.raw (LI.itObj e.l e.j))]
noncomputable def rC (st:List En):List Value:=st.reverse.map fun e=>.ref e.u
noncomputable def cf (sc:Str→List Str) (st:List En):Way:=st.map fun e=>(e.x,(sc e.x).drop e.j)
theorem df (e:En) (st:List En):rC (e::st)=rC st++[.ref e.u]:=by unfold rC; rw [reverse_cons,map_append]; rfl
theorem iB (st:List En):(rC st).length=st.length:=by unfold rC; rw [length_map,List.length_reverse]
theorem fC (sc:Str→List Str) (st:List En):(cf sc st).length=st.length:=length_map _
structure Fst where
  seen:List Str
  st:List En
  nd:Option Value
structure FIn (ad:List NA) (sc:Str→List Str) (s:Fst):Prop where
  ok:fk (au ad) (cf sc s.st) s.seen
  en:∀ e ∈ s.st,∃ n ∈ ad,n.key=e.x∧n.l=e.l
theorem FIn.tail {ad:List NA} {sc:Str→List Str} {seen:List Str} {e:En} {st:List En} {v v':Option Value} (h:FIn ad sc ⟨seen,e::st,v⟩):FIn ad sc ⟨seen,st,v'⟩:=⟨h.ok.tail,fun e he=>h.en e (.tail _ he)⟩
structure FG where
  ND:Addr
  SE:Addr
  IT:Addr
  ST:Addr
noncomputable def FMs (S DD:Addr) (g:FG) (s:Fst):FM:=[some (.ref S),some (.ref DD),some (.ref g.ST),some (.ref g.IT),some (.ref g.SE),some (.ref g.ND),s.nd]
noncomputable def FNs (w:World) (g:FG) (sc:Str→List Str) (rest:Led) (s:Fst):Led:=(g.ND,.dict (cU (jK (cf sc s.st))))::(g.SE,rE w s.seen)::(g.IT,.list (rC s.st))::(g.ST,.list (ac (az (cf sc s.st))))::(ilL s.st++rest)
theorem bZ (sc:Str→List Str) (e:En) (st:List En):az (cf sc (e::st))=az (cf sc st)++[e.x]:=cv _ _ _
theorem rF {w:World} {g:FG} {sc:Str→List Str} {rest:Led} {seen:List Str} {e:En} {st:List En} {v v':Option Value}:FNs w g sc rest ⟨seen,{ e with j:=e.j+1 }::st,v'⟩=(FNs w g sc rest ⟨seen,e::st,v⟩).set 5 (e.it,.raw (LI.itObj e.l (e.j+1))):=by
  unfold FNs
  rw [df,df,bZ,bZ]; rfl
theorem jC {W:Wor} {x:Str} {v:Int} (h:x ∉ W.map (·.1)):without (cU (W++[(x,v)])) x=cU W:=by
  have:∀ W:Wor,x ∉ W.map (·.1)→(cU W).filter (fun p=>decide (p.1≠x))=cU W:=fun W h=>filter_eq_self.mpr fun p hp=>by
    refine E1 (mem_map.mp hp) fun q q91=>A2 q91 fun hq e92=>?_
    clear q91
    clear hp
    first | subst e92 | cases e92
    exact decide_eq_true fun e=>h (e▸mem_map_of_mem (f:=(·.1)) hq)
  show (cU (W++[(x,v)])).filter _=_
  rw [show cU (W++[(x,v)])=cU W++[(x,.int v 0)] from map_append,filter_append,this W h]
  simp
theorem rK {W:Wor} {x:Str} {v:Int} (h:x ∉ W.map (·.1)):stored (cU W) x (.int v 0)=cU (W++[(x,v)]):=by
  rw [bJ (by rw [bV]; cases q:Wat W x with | none=>rfl | some v=>exact absurd (ay.mp (by rw [q]; rfl)) h)]
  exact (show cU (W++[(x,v)])=cU W++[(x,.int v 0)] from map_append).symm
theorem mF (W:Wor):(cU W).length=W.length:=length_map _
theorem mD (st:Way):(jK st).length=st.length:=by
  have:=congrArg List.length (cy st)
  rw [length_map,aw] at this
  exact this
section
variable {c:Cx} {rm:Nat} {S DD:Addr} {g:FG} {ad:List NA} {sc:Str→List Str} {rest:Led} {seen:List Str}
variable {b:List Stmt} {b₀:Stmt} {suite:List Stmt} {np hpos pos q p:Pos} {fo fi:Expr} {R:Flow→FM→Led→Prop}
theorem mU (H:Cok c rm) (FC:bo c) (FR:dr rest c.outer) (hz:ad.length≤20)
    (hb:CB c.sc b [.asg 6 (.raw (.Call (.Subscript fo fi q) [] [] p)),.brk]) (he:CX c.sc (.ex (.Subscript fo fi q)) (.ex (.sub (.loc 3) (.neg (.val (.int 1 0))))))
    (hs:CB c.sc (b₀::suite) [.delI (.loc 5) (.meth (.loc 2) "pop" []),.ex (.meth (.loc 3) "pop" [])]) (hx:c.sc.names.lookup ("StopIteration" : Str)=some .globalImplicit)
    (hl:∀ n ∈ ad,ae c.w rest n.l (.list (ac (sc n.key)))) (U:Option (Str×Way)) (s₀:Fst) (h₀:FIn ad sc s₀) (hU:unw (cf sc s₀.st)=U) (hse:s₀.seen=seen)
    (hnext:∀ st y,FIn ad sc ⟨seen,st,some (.str y 0)⟩→U=some (y,cf sc st)→R .next (FMs S DD g ⟨seen,st,some (.str y 0)⟩) (FNs c.w g sc rest ⟨seen,st,some (.str y 0)⟩))
    (hbrk:∀ v,FIn ad sc ⟨seen,[],v⟩→U=none→R .brk (FMs S DD g ⟨seen,[],v⟩) (FNs c.w g sc rest ⟨seen,[],v⟩)) :
    DoW c (.loc 2) [.raw (.Try b [.ExceptHandler (some (.Name "StopIteration" np)) none (b₀::suite) hpos] [] [] pos)] [.brk] (FMs S DD g s₀) (FNs c.w g sc rest s₀) R:=by
  refine iY (k:=40) (Ms:=FMs S DD g) (FNs c.w g sc rest) (fun s=>FIn ad sc s∧unw (cf sc s.st)=U∧s.seen=seen) (fun s=>s.st.length) s₀ H rfl rfl ⟨h₀,hU,hse⟩ ?_
  intro r91 r92
  obtain ⟨seen',st,v⟩:=r91
  refine A3 r92 fun hi hu e91=>?_
  try clear r92
  clear hse
  first | subst e91 | cases e91
  have hkl:(au ad).length≤20:=by rw [jH]; exact hz
  have hln:=Nat.le_trans hi.ok.len.1 hkl
  refine aV (.tail (.tail (.tail .head))) (by rw [aw]; (clear hz hkl; omega)) ?_
  refine aN (fun h=>?_) fun h=>?_
  · cases st with
    | nil=>cases h
    | cons e st =>
      refine E1 (hi.en e (.head _)) fun n q92=>A3 q92 fun hn ek el=>?_
      clear q92
      have hls:∀ (c2:Cx),c2.w=c.w→∀ f:Led,ae c2.w (f++rest) e.l (.list (ac (sc e.x))):=fun c2 hw f=>by rw [hw,← ek,← el]; exact (hl n hn).pre f
      refine sm (k:=40) (k2:=40) (X := "StopIteration") (T' := "StopIteration") (P:=fun M' nw'=>(sc e.x)[e.j]? = none∧M'=FMs S DD g ⟨seen',e::st,v⟩∧nw'=(g.ND,.dict (cU (jK (cf sc (e::st)))))::(g.SE,rE c.w seen')::(g.IT,.list (rC (e::st)))::(g.ST,.list (ac (az (cf sc (e::st)))))::(e.u,.raw (LI.mw e.it))::(ilL st++rest)) H FC hb hs hx (by decide +kernel) (by decide) (by decide) sx uR si ?_ ?_
      · intro c2 hsc2 hw2 H2 hraise
        have hev:wpE c2 40 (.sub (.loc 3) (.neg (.val (.int 1 0)))) (FMs S DD g ⟨seen',e::st,v⟩) (FNs c.w g sc rest ⟨seen',e::st,v⟩) fun v' M' n'=>v' = .ref e.u∧M'=FMs S DD g ⟨seen',e::st,v⟩∧n'=FNs c.w g sc rest ⟨seen',e::st,v⟩:=by
          refine lK (xs:=rC st) (l:=g.IT) (by rw [← df]; exact .tail (.tail .head)) (by rw [iB]; rw [fC] at hln; exact Nat.le_trans (Nat.le_trans (Nat.le_succ _) hln) (by decide)) ?_
          exact ⟨rfl,rfl,rfl⟩
        cases hj:(sc e.x)[e.j]? with
        | some y =>
          refine kZ (u:=e.u) (it:=e.it) (l:=e.l) (j:=e.j) (k:=5) (kk:=40) (v:=.str y 0) H2.toCok0 (hsc2▸he) hev (.tail (.tail (.tail (.tail .head)))) rfl (hls c2 hw2 (_::_::_::_::ilL (e::st))) (by unfold ac; rw [List.getElem?_map,hj]; rfl) ?_
          have hd:(sc e.x).drop e.j=y::(sc e.x).drop (e.j+1):=by
            obtain ⟨h1,h2⟩:=List.getElem?_eq_some_iff.mp hj
            rw [drop_eq_getElem_cons h1,h2]
          have hw':cf sc (e::st)=(e.x,y::(sc e.x).drop (e.j+1))::cf sc st:=by show (e.x,(sc e.x).drop e.j)::_=_; rw [hd]; rfl
          have key:=hnext ({ e with j:=e.j+1 }::st) y ⟨?_,?_⟩ ?_
          · rw [rF (e:=e) (v:=v)] at key; exact key
          · have:=hi.ok
            rw [show cf sc (⟨seen',e::st,v⟩ : Fst).st=_ from hw'] at this
            exact this.rest
          · intro e' he'
            rcases mem_cons.mp he' with rfl | he'
            · exact ⟨n,hn,ek,el⟩
            · exact hi.en e' (.tail _ he')
          · rw [← hu,show cf sc (⟨seen',e::st,v⟩ : Fst).st=_ from hw']; rfl
        | none =>
          refine nF (u:=e.u) (it:=e.it) (l:=e.l) (j:=e.j) (kk:=40) (front:=[_,_,_,_,_]) (back:=ilL st++rest) H2.hh H2.toCok0 (hsc2▸he) hev (.tail (.tail (.tail (.tail .head)))) rfl (hls c2 hw2 (_::_::_::_::ilL (e::st))) (by unfold ac; rw [List.getElem?_map,hj]; rfl) fun e1 s' hp hx' S'=>hraise e1 _ s' hp _ _ hx' S' (fun env henv=>?_) ⟨hj,rfl,rfl⟩
          refine A2 (FR env henv) fun k1 q93=>E2 q93 fun b' o' q94=>A3 q94 fun k2 k3 k4=>?_
          clear q94 q93
          exact ⟨k1,b',o',k2,mem_append_right _ (mem_append_right _ k3),k4⟩
      · intro c2 hsc2 hw2 H2 M' nw' r93
        refine A3 r93 fun hj e95 e96=>?_
        try clear r93
        first | subst e95 | cases e95
        first | subst e96 | cases e96
        have hnm:=bZ sc e st
        have hl2:st.length≤20:=by rw [fC] at hln; exact Nat.le_of_succ_le hln
        refine su (.tail (.tail (.tail .head))) ?_
        refine uc (i:=3) (gs:=az (cf sc st)) (x:=e.x) (by rw [← hnm]; rfl) (by rw [aw,fC]; (clear hz hkl hln; omega)) ?_
        have hnx:e.x ∉ (jK (cf sc st)).map (·.1):=by
          rw [cy,cg]
          exact (nodup_cons.mp hi.ok.nd).1
        refine vD (i:=0) rfl (by rw [mF,mD]; exact Nat.le_trans hln (by decide)) ?_ (jC (v:=((cf sc st).length:Int)) hnx) ?_
        · rw [bV]
          show (Option.map _ (Wat (jK (cf sc st)++[(e.x,((cf sc st).length:Int))]) e.x)).isSome=true
          rw [isSome_map]
          exact ay.mpr (by rw [map_append]; exact mem_append_right _ (.head _))
        refine su (.tail (.tail .head)) ?_
        refine xg (i:=2) (xs:=rC st) (v:=.ref e.u) (by rw [← df]; rfl) (by rw [iB]; (clear hz hkl hln; omega)) ?_
        refine vM ?_
        have hd:(sc e.x).drop e.j=[]:=List.drop_eq_nil_iff.mpr (List.getElem?_eq_none_iff.mp hj)
        exact WR.next ⟨seen',st,v⟩ (.keep (.keep (.keep (.keep (.drop (.refl _)))))) ⟨hi.tail,by rw [← hu]; show _=unw ((e.x,(sc e.x).drop e.j)::cf sc st); rw [hd]; rfl,rfl⟩ (Nat.lt_succ_self _) rfl
  · cases st with
    | cons e st=>rw [show az (cf sc (⟨seen',e::st,v⟩ : Fst).st)=_ from bZ sc e st] at h; simp at h
    | nil=>exact hbrk v hi hu.symm
end
structure Mst where
  seen:List Str
  st:List En
  x:Str
  n:Nat
noncomputable def vr (sc:Str→List Str) (fuel:Nat) (ks:List Str) (res:Option (List Str)):List Str ⊕ List Str→Prop
  | .inl ring=>res=some ring
  | .inr seen'=>goF sc fuel ks seen'=some res
structure P1f (ad:List NA) (sc:Str→List Str) (fuel:Nat) (res:Option (List Str)) (r:List Str) (s:Fst):Prop where
  em:s.st=[]
  ok:FIn ad sc s
  go:goF sc fuel r s.seen=some res
  ks:∀ x ∈ r,x ∈ au ad
structure P2f (ad:List NA) (sc:Str→List Str) (fuel:Nat) (res:Option (List Str)) (ks:List Str) (q:Mst):Prop where
  ok:FIn ad sc ⟨q.seen,q.st,some (.str q.x 0)⟩
  x:q.x ∈ au ad
  go:∃ r0,dfs sc q.n q.seen (cf sc q.st) q.x=some r0∧vr sc fuel ks res r0
noncomputable def vu (sc:Str→List Str) (n:Nat) (seen:List Str) (fuel:Nat) (ks:List Str) (res:Option (List Str)):Option (Str×Way)→Prop
  | none=>vr sc fuel ks res (.inr seen)
  | some (y,w')=>∃ r0,dfs sc n seen w' y=some r0∧vr sc fuel ks res r0
theorem P2f.start {ad:List NA} {sc:Str→List Str} {fuel:Nat} {res:Option (List Str)} {x:Str} {ks:List Str} {s:Fst} (h:P1f ad sc fuel res (x::ks) s) (hx:x ∉ s.seen):P2f ad sc fuel res ks ⟨s.seen,[],x,fuel⟩:=by
  obtain ⟨h1,h2,h3,h4⟩:=h
  obtain ⟨seen,st,v⟩:=s
  cases h1
  refine ⟨⟨h2.ok,h2.en⟩,h4 x (.head _),?_⟩
  rw [goF,if_neg hx] at h3
  show ∃ r0,dfs sc fuel seen [] x=some r0∧_
  cases e:dfs sc fuel seen [] x with
  | none=>rw [e] at h3; cases h3
  | some r =>
    rw [e] at h3
    clear e
    cases r with
    | inl ring=>exact ⟨_,rfl,(Option.some.inj h3).symm⟩
    | inr seen'=>exact ⟨_,rfl,h3⟩
theorem P1f.skip {ad:List NA} {sc:Str→List Str} {fuel:Nat} {res:Option (List Str)} {x:Str} {ks:List Str} {s:Fst} (h:P1f ad sc fuel res (x::ks) s) (hx:x ∈ s.seen) (v:Option Value):P1f ad sc fuel res ks ⟨s.seen,s.st,v⟩ :=
  ⟨h.em,⟨h.ok.ok,h.ok.en⟩,by have:=h.go; rw [goF,if_pos hx] at this; exact this,fun y hy=>h.ks y (.tail _ hy)⟩
theorem P2f.pos {ad:List NA} {sc:Str→List Str} {fuel:Nat} {res:Option (List Str)} {ks:List Str} {q:Mst} (h:P2f ad sc fuel res ks q):∃ n',q.n=n' + 1:=by
  refine E1 h.go fun r0 q91=>A2 q91 fun h1 _=>?_
  clear q91
  cases e:q.n with
  | zero=>rw [e] at h1; cases h1
  | succ n=>exact ⟨n,rfl⟩
theorem P2f.ring {ad:List NA} {sc:Str→List Str} {fuel:Nat} {res:Option (List Str)} {ks seen:List Str} {st:List En} {x:Str} {n:Nat} (h:P2f ad sc fuel res ks ⟨seen,st,x,n+1⟩) (h1:x ∈ seen) (h2:x ∈ (cf sc st).map (·.1)):res=some (eZ (cf sc st) x):=by
  refine E1 h.go fun r0 q91=>A2 q91 fun h3 h4=>?_
  clear q91
  rw [dfs,if_pos h1,if_pos h2] at h3
  cases h3; exact h4
theorem P2f.old {ad:List NA} {sc:Str→List Str} {fuel:Nat} {res:Option (List Str)} {ks seen:List Str} {st:List En} {x:Str} {n:Nat} (h:P2f ad sc fuel res ks ⟨seen,st,x,n+1⟩) (h1:x ∈ seen) (h2:x ∉ (cf sc st).map (·.1)):vu sc n seen fuel ks res (unw (cf sc st)):=by
  refine E1 h.go fun r0 q91=>A2 q91 fun h3 h4=>?_
  clear q91
  rw [dfs,if_pos h1,if_neg h2] at h3
  cases e:unw (cf sc st) with
  | none=>rw [e] at h3; cases h3; exact h4
  | some p=>rw [e] at h3; exact ⟨r0,h3,h4⟩
theorem P2f.new {ad:List NA} {sc:Str→List Str} {fuel:Nat} {res:Option (List Str)} {ks seen:List Str} {st:List En} {x:Str} {n:Nat} (h:P2f ad sc fuel res ks ⟨seen,st,x,n+1⟩) (h1:x ∉ seen):vu sc n (seen++[x]) fuel ks res (unw ((x,sc x)::cf sc st)):=by
  refine E1 h.go fun r0 q91=>A2 q91 fun h3 h4=>?_
  clear q91
  rw [dfs,if_neg h1] at h3
  cases e:unw ((x,sc x)::cf sc st) with
  | none=>rw [e] at h3; cases h3; exact h4
  | some p=>rw [e] at h3; exact ⟨r0,h3,h4⟩
noncomputable def tT (R:Value→FM→Led→Prop) (M:FM) (nw:Led):Option (List Str)→Prop
  | none=>R .none M nw
  | some rs=>∀ D,R (.ref D) M ((D,.list (ac rs))::nw)
theorem pT {sc:Str→List Str} {st:List En} {x:Str}:(valueAt (cU (jK (cf sc st))) x).isSome=true↔x ∈ (cf sc st).map (·.1):=by
  rw [bV,isSome_map,ay,cy,cg]
theorem qj {sc:Str→List Str} {ad:List NA} {s:Fst} {y:Str} (h:FIn ad sc s):∀ {w':Way},unw (cf sc s.st)=some (y,w')→y ∈ au ad:=by
  have:∀ w:Way,(∀ p ∈ w,∀ y ∈ p.2,y ∈ au ad)→∀ {w':Way},unw w=some (y,w')→y ∈ au ad:=by
    intro w
    induction w with
    | nil=>intro _ _ h; cases h
    | cons p w ih =>
      intro h w' e
      obtain ⟨x,ys⟩:=p
      cases ys with
      | nil=>exact ih (fun q hq=>h q (.tail _ hq)) e
      | cons z r =>
        cases e
        exact h _ (.head _) y (.head _)
  exact fun {w'} e=>this _ h.ok.rem e
theorem qt {c:Cx} {M:FM} {nw l1 mid FO l2:Led} {rm:Nat} (H:Cok c (rm+5)) (FC:bo c) (FR:dr FO c.outer) {S SD DD:Addr} {rd:Value} {po nf:Int} {ad:List NA} {np:Str→Int} {sc:Str→List Str} (lo:(DD == sysModules)=false) (hz:ad.length≤20) (hs:∀ v,(sc v).length≤100) (hnd:(au ad).Nodup) (hin:∀ x,∀ y ∈ sc x,y ∈ au ad)
    (h1:ae c.w mid S (.raw (instObj 144 SD))) (h2:ae c.w mid SD (sdV c.w DD rd po nf)) (h3:ae c.w mid DD (.dict (oV ad))) (h4:∀ n ∈ ad,ae c.w mid n.a (cI n (np n.key))∧ae c.w mid n.l (.list (ac (sc n.key)))∧ae c.w mid n.dx dict0)
    (fuel:Nat) (res:Option (List Str)) (hres:goF sc fuel (au ad) []=some res) (hn:nw=l1++(mid++(FO++l2))) {R:Value→FM→Led→Prop} (hr:tT R M nw res):Do c .call [.ref 134,.ref S] M nw R:=by
  have hPG:PG=RowW.prog (OpenRow.toRowW (OpenLaw.row Challenge.rw_il0094_01)):=rfl
  subst hn
  refine Do.freezeM fun mid' hfz=>Do.weakR ?_
  refine' fx (f:=134) (l1:=l1) (own:=mid'++FO) (l2:=l2) (X:=fun _ _ _=>False) (k:=60) (xs:=[("self" : Str)]) (M₀:=[some (.ref S),none,none,none,none,none,none]) H FC ?fr ?ho ?hcd ?hbind ?hkind ?hnd ?hM ?hB ?hco ?hgen ?hk ?hn ?hx ?main
  case ho=>intro w; k_fill; intro _; k_is
  case hcd=>intro w; k_fill; intro _; k_is
  case hbind=>first | exact bb fun _ _=>BindsTo.of_eq rfl | exact aY fun _ _ _=>BindsTo.of_eq rfl
  case hkind=>decide +kernel
  case hM=>exact rfl
  case hnd=>decide +kernel
  case hco=>exact rfl
  case hgen=>exact rfl
  case hk=>exact rfl
  case hB=>repeat' first | (with_reducible (apply CX.fold; apply CXs.var)) <;> exact rfl | (with_reducible (apply CX.fold; apply CXs.glob)) <;> (first | exact rfl | decide +kernel) | with_reducible exact CX.fold (@CXs.raw _ _ (PySem.Expr.Name _ _)) | with_reducible (apply CB.fold; apply CBs.asgc) | with_reducible (apply CX.fold; constructor) | with_reducible (apply CB.fold; constructor) | with_reducible constructor | exact rfl | decide +kernel
  case fr =>
    intro env he
    refine A2 (FR env he) fun k1 q91=>E2 q91 fun b' o' q92=>A3 q92 fun k2 k3 k4=>?_
    clear q92 q91
    exact ⟨k1,b',o',k2,mem_append_right _ k3,k4⟩
  case hn=>simp only [append_assoc]
  case hx=>exact fun _ _ _ _ _ h=>h.elim
  intro c1 oL hsc hw H1 FC1 _ ho1 FR1 _
  rw [← hw] at h1 h2 h3 h4 hfz ⊢
  have sees:∀ {a x},ae c1.w mid a x→∀ f:Led,ae c1.w (f++((c.L,FrP oL)::(mid'++FO))) a x:=fun h f=>((hfz.sees h).app.tail).pre f
  refine cP H1 (sees h1 []) (sees h2 []) ?_
  intro ST IT
  refine xD fun SE=>?_
  intro ND lo2
  refine E1 (hfz.seesR h3) fun oD q93=>A2 q93 fun hD1 hD2=>?_
  clear q93
  refine ox (k:=50) (Ms:=FMs S DD ⟨ND,SE,IT,ST⟩) (FNs c1.w ⟨ND,SE,IT,ST⟩ sc ((c.L,FrP oL)::(mid'++FO))) (P1f ad sc fuel res) ⟨[],[],none⟩ H1 lo hD2 (fun s=>.tail _ (.tail _ (.tail _ (.tail _ (mem_append_right _ (.tail _ (mem_append_left _ hD1))))))) rfl rfl ⟨rfl,⟨⟨nodup_nil,nodup_nil,fun _ h=>(nomatch h),fun _ h=>(nomatch h),fun _ h=>(nomatch h)⟩,fun _ h=>(nomatch h)⟩,by rw [gz]; exact hres,by rw [gz]; exact fun _ h=>h⟩ ?_ ?_
  · intro I oi H2 x ks s hp
    have hkl:(au ad).length≤20:=by rw [jH]; exact hz
    have hsl:s.seen.length≤20:=Nat.le_trans hp.ok.ok.len.2 hkl
    refine tR (.tail .head) (by (clear hz hkl; omega)) ?_
    refine aN (fun h=>?_) fun h=>?_
    · exact LR.next ⟨s.seen,s.st,some (.str x 0)⟩ (.refl _) (hp.skip (of_decide_eq_true h) _) rfl
    have hp2:=P2f.start hp (of_decide_eq_false h)
    obtain ⟨seen0,st0,v0⟩:=s
    obtain rfl:st0=[]:=hp.em
    refine iY (k:=45) (Ms:=fun q:Mst=>FMs S DD ⟨ND,SE,IT,ST⟩ ⟨q.seen,q.st,some (.str q.x 0)⟩) (fun q=>FNs c1.w ⟨ND,SE,IT,ST⟩ sc ((c.L,FrP oL)::(mid'++FO)) ⟨q.seen,q.st,some (.str q.x 0)⟩) (P2f ad sc fuel res ks) (fun q=>q.n) ⟨seen0,[],x,fuel⟩ H2 rfl rfl hp2 ?_
    intro r91 hq
    obtain ⟨seen,st,y,n1⟩:=r91
    obtain ⟨n,rfl⟩ : ∃ n,n1=n+1:=hq.pos
    obtain ⟨hl1,hl2⟩:=hq.ok.ok.len
    have FC2:bo (c1.hide I oi):=⟨FC1.fr,FC1.fm⟩
    have hwl:(cf sc st).length≤20:=Nat.le_trans hl1 hkl
    have hll:∀ m ∈ ad,ae (c1.hide I oi).w ((c.L,FrP oL)::(mid'++FO)) m.l (.list (ac (sc m.key))):=fun m hm=>sees (h4 m hm).2.1 []
    have hnx:∀ {seen':List Str} {U:Option (Str×Way)} (_:vu sc n seen' fuel ks res U) st' z,FIn ad sc ⟨seen',st',some (.str z 0)⟩→z ∈ au ad→U=some (z,cf sc st')→P2f ad sc fuel res ks ⟨seen',st',z,n⟩:=fun h st' z hi hz e=>⟨hi,hz,by rw [e] at h; exact h⟩
    refine tR (.tail .head) (by (clear hz hsl hl1 hwl; omega)) ?_
    refine aN (fun h=>?_) fun h=>?_
    · have hy:=of_decide_eq_true h
      refine xl lo2 .head ?_
      refine aN (fun h'=>?_) fun h'=>?_
      · have hwm:=pT.mp h'
        have hrr:=hq.ring hy hwm
        refine aS (v:=.int (dJ (cf sc st) y:Int) 0) .head (by rw [bV,pM hq.ok.ok.nd hwm]; rfl) ?_
        refine wy (a:=dJ (cf sc st) y) (gs:=az (cf sc st)) (.tail (.tail (.tail .head))) (by rw [aw]; (clear hz hkl hsl hl1 hl2; omega)) fun D1=>?_
        intro D2
        refine fB (gs:=(az (cf sc st)).drop (dJ (cf sc st) y)) (hs:=[y]) (.tail .head) .head (by rw [length_drop,aw]; (clear hz hkl hsl hl1 hl2; omega)) (Nat.le_of_ble_eq_true rfl) fun D3=>?_
        rw [hrr] at hr
        exact ⟨(D3,.list (ac (eZ (cf sc st) y)))::(mid'++FO),(ar.keep (.drop (.drop (.drop (.drop (.drop (.drop .dropL))))))).trans (.swap [_] [_] _),_,sM hfz,hr D3⟩
      · have hno:=hq.old hy fun q=>Bool.false_ne_true (h'.symm.trans (pT.mpr q))
        refine mU (c:=c1.hide I oi) (g:=⟨ND,SE,IT,ST⟩) (fo:=_) (fi:=_) H2 FC2 FR1 hz (by rw [show (c1.hide I oi).sc=_ from hsc]; repeat' first | (with_reducible (apply CX.fold; apply CXs.var)) <;> exact rfl | (with_reducible (apply CX.fold; apply CXs.glob)) <;> (first | exact rfl | decide +kernel) | with_reducible exact CX.fold (@CXs.raw _ _ (PySem.Expr.Name _ _)) | with_reducible (apply CB.fold; apply CBs.asgc) | with_reducible (apply CX.fold; constructor) | with_reducible (apply CB.fold; constructor) | with_reducible constructor | exact rfl | decide +kernel) (by rw [show (c1.hide I oi).sc=_ from hsc]; repeat' first | (with_reducible (apply CX.fold; apply CXs.var)) <;> exact rfl | (with_reducible (apply CX.fold; apply CXs.glob)) <;> (first | exact rfl | decide +kernel) | with_reducible exact CX.fold (@CXs.raw _ _ (PySem.Expr.Name _ _)) | with_reducible (apply CB.fold; apply CBs.asgc) | with_reducible (apply CX.fold; constructor) | with_reducible (apply CB.fold; constructor) | with_reducible constructor | exact rfl | decide +kernel) (by rw [show (c1.hide I oi).sc=_ from hsc]; repeat' first | (with_reducible (apply CX.fold; apply CXs.var)) <;> exact rfl | (with_reducible (apply CX.fold; apply CXs.glob)) <;> (first | exact rfl | decide +kernel) | with_reducible exact CX.fold (@CXs.raw _ _ (PySem.Expr.Name _ _)) | with_reducible (apply CB.fold; apply CBs.asgc) | with_reducible (apply CX.fold; constructor) | with_reducible (apply CB.fold; constructor) | with_reducible constructor | exact rfl | decide +kernel) (by rw [show (c1.hide I oi).sc=_ from hsc]; rfl) hll (unw (cf sc st)) ⟨seen,st,some (.str y 0)⟩ hq.ok rfl rfl (fun st' z hi e=>?_) fun v hi e=>?_
        · exact WR.next ⟨seen,st',z,n⟩ (.refl _) (hnx hno st' z hi (qj hq.ok e) e) (Nat.lt_succ_self _) rfl
        · rw [e] at hno
          exact LR.next ⟨seen,[],v⟩ (.refl _) ⟨rfl,hi,hno,fun y hy=>hp.ks y (.tail _ hy)⟩ rfl
    · have hy:=of_decide_eq_false h
      have hno:=hq.new hy
      refine E1 (cA hq.x) fun m q94=>A2 q94 fun hm em=>?_
      clear q94
      have em:m.key=y:=em
      have hwk:y ∉ (jK (cf sc st)).map (·.1):=by rw [cy,cg]; exact fun q=>hy (hq.ok.ok.sub y q)
      refine m_add (i:=1) rfl (by (clear hz hsl hl1 hwl; omega)) ?_
      refine c_add (i:=1) rfl (by (clear hz hsl hl1 hwl; omega)) hy ?_
      refine bS (.tail (.tail .head)) ?_
      refine aS (sees h3 (_::_::_::_::ilL st)) (by rw [← em]; exact eG hnd hm) ?_
      refine fy H2 (sees (h4 m hm).1 (_::_::_::_::ilL st)) (sees (h4 m hm).2.2 (_::_::_::_::ilL st)) ?_
      refine ym (sees (h4 m hm).2.1 (_::_::_::_::ilL st)) fun It=>?_
      refine tK .head fun u=>?_
      refine me (i:=4) rfl (by rw [iB,← fC sc st]; exact Nat.le_trans hwl (by decide)) ?_
      refine lL (.tail (.tail (.tail (.tail (.tail .head))))) (by rw [ao,aw]; (clear hz hsl hl2 hwl; omega)) ?_
      rw [ao,aw]
      refine dv (i:=2) rfl (by rw [mF,mD]; (clear hz hsl hl2 hwl; omega)) (rK hwk) ?_
      refine bS (.tail (.tail (.tail (.tail (.tail .head))))) ?_
      refine ca (i:=5) rfl (by rw [aw]; (clear hz hsl h hl2 hwl; omega)) ?_
      have hok:FIn ad sc ⟨seen++[y],⟨y,u,It,m.l,0⟩::st,some (.str y 0)⟩:=⟨hq.ok.ok.push (ys:=sc y) hy hq.x (hin y),fun e he=>by
        rcases mem_cons.mp he with rfl | he
        · exact ⟨m,hm,em,rfl⟩
        · exact hq.ok.en e he⟩
      have hfn:FNs c1.w ⟨ND,SE,IT,ST⟩ sc ((c.L,FrP oL)::(mid'++FO)) ⟨seen++[y],⟨y,u,It,m.l,0⟩::st,some (.str y 0)⟩=(ND,.dict (cU (jK (cf sc st)++[(y,((cf sc st).length:Int))])))::(SE,rE c1.w (seen++[y]))::(IT,.list (rC st++[.ref u]))::(ST,.list (ac (az (cf sc st)++[y])))::(u,.raw (LI.mw It))::(It,.raw (LI.itObj m.l 0))::(ilL st++((c.L,FrP oL)::(mid'++FO))):=by
        unfold FNs
        rw [df,bZ]; rfl
      refine DoW.pre (nw2:=FNs c1.w ⟨ND,SE,IT,ST⟩ sc ((c.L,FrP oL)::(mid'++FO)) ⟨seen++[y],⟨y,u,It,m.l,0⟩::st,some (.str y 0)⟩) (by rw [hfn]; exact ar.swap [_,_] [_,_,_,_] _) ?_
      refine mU (c:=c1.hide I oi) (g:=⟨ND,SE,IT,ST⟩) (fo:=_) (fi:=_) H2 FC2 FR1 hz (by rw [show (c1.hide I oi).sc=_ from hsc]; repeat' first | (with_reducible (apply CX.fold; apply CXs.var)) <;> exact rfl | (with_reducible (apply CX.fold; apply CXs.glob)) <;> (first | exact rfl | decide +kernel) | with_reducible exact CX.fold (@CXs.raw _ _ (PySem.Expr.Name _ _)) | with_reducible (apply CB.fold; apply CBs.asgc) | with_reducible (apply CX.fold; constructor) | with_reducible (apply CB.fold; constructor) | with_reducible constructor | exact rfl | decide +kernel) (by rw [show (c1.hide I oi).sc=_ from hsc]; repeat' first | (with_reducible (apply CX.fold; apply CXs.var)) <;> exact rfl | (with_reducible (apply CX.fold; apply CXs.glob)) <;> (first | exact rfl | decide +kernel) | with_reducible exact CX.fold (@CXs.raw _ _ (PySem.Expr.Name _ _)) | with_reducible (apply CB.fold; apply CBs.asgc) | with_reducible (apply CX.fold; constructor) | with_reducible (apply CB.fold; constructor) | with_reducible constructor | exact rfl | decide +kernel) (by rw [show (c1.hide I oi).sc=_ from hsc]; repeat' first | (with_reducible (apply CX.fold; apply CXs.var)) <;> exact rfl | (with_reducible (apply CX.fold; apply CXs.glob)) <;> (first | exact rfl | decide +kernel) | with_reducible exact CX.fold (@CXs.raw _ _ (PySem.Expr.Name _ _)) | with_reducible (apply CB.fold; apply CBs.asgc) | with_reducible (apply CX.fold; constructor) | with_reducible (apply CB.fold; constructor) | with_reducible constructor | exact rfl | decide +kernel) (by rw [show (c1.hide I oi).sc=_ from hsc]; rfl) hll (unw ((y,sc y)::cf sc st)) ⟨seen++[y],⟨y,u,It,m.l,0⟩::st,some (.str y 0)⟩ hok rfl rfl (fun st' z hi e=>?_) fun v hi e=>?_
      · exact WR.next ⟨seen++[y],st',z,n⟩ (.refl _) (hnx hno st' z hi (qj hok e) e) (Nat.lt_succ_self _) rfl
      · rw [e] at hno
        exact LR.next ⟨seen++[y],[],v⟩ (.refl _) ⟨rfl,hi,hno,fun y hy=>hp.ks y (.tail _ hy)⟩ rfl
  · intro s hp
    obtain ⟨seen,st,v⟩:=s
    obtain rfl:st=[]:=hp.em
    obtain rfl:none=res:=Option.some.inj hp.go
    exact ⟨mid'++FO,.drop (.drop (.drop (.drop (.refl _)))),_,mH hfz,hr⟩
end
section
set_option tactic.hygienic false
theorem xK {sc:Str→List Str} {fuel:Nat} {ks:List Str} {rs:List Str} (h:goF sc fuel ks []=some (some rs)):rs.isEmpty=false:=by
  have:=(iL h).1
  clear h
  cases rs with
  | nil=>exact absurd rfl this
  | cons _ _=>rfl
theorem pI {c:Cx} {M:FM} {l1 FO l2:Led} {rm:Nat} (H:Cok c (rm+6)) (FC:bo c) (FR:dr FO c.outer) {S SD DD:Addr} {ad:List NA} {np:Str→Int} {sc:Str→List Str} (lo:(DD == sysModules)=false) (hz:ad.length≤20) (hs:∀ v,(sc v).length≤100) (hnd:(au ad).Nodup) (hin:∀ x,∀ y ∈ sc x,y ∈ au ad)
    (fuel:Nat) (hfu:fuel≤900) (res:Option (List Str)) (hres:goF sc fuel (au ad) []=some res) {R:Value→FM→Led→Prop}
    (hr:res=none→∀ RN,R .none M (l1++(so1 c.w S SD DD RN (fj ad np) 0 0 ad np sc FO++l2))) (hE:res≠none→∀ RN e vs s',cw c M (l1++(so1 c.w S SD DD RN (fj ad np) 0 0 ad np sc FO++l2)) e (.ref 62) vs s'→c.E (.ref e) s') :
    Do c .call [.ref 99,.ref S] M (l1++(so0 c.w S SD DD ad np sc FO++l2)) R:=by
  have hPG:PG=RowW.prog (OpenRow.toRowW (OpenLaw.row Challenge.rw_il0094_01)):=rfl
  refine' fx (f:=99) (l1:=l1) (own:=so0 c.w S SD DD ad np sc FO) (l2:=l2) (X:=fun cls _ own'=>cls = .ref 62∧res≠none∧∃ RN,own'=so1 c.w S SD DD RN (fj ad np) 0 0 ad np sc FO) (k:=60) (xs:=[("self" : Str)]) (M₀:=[some (.ref S),none]) H FC ?fr ?ho ?hcd ?hbind ?hkind ?hnd ?hM ?hB ?hco ?hgen ?hk rfl ?hx ?main
  case ho=>intro w; k_fill; intro _; k_is
  case hcd=>intro w; k_fill; intro _; k_is
  case hbind=>first | exact bb fun _ _=>BindsTo.of_eq rfl | exact aY fun _ _ _=>BindsTo.of_eq rfl
  case hkind=>decide +kernel
  case hM=>exact rfl
  case hnd=>decide +kernel
  case hco=>exact rfl
  case hgen=>exact rfl
  case hk=>exact rfl
  case hB=>repeat' first | (with_reducible (apply CX.fold; apply CXs.var)) <;> exact rfl | (with_reducible (apply CX.fold; apply CXs.glob)) <;> (first | exact rfl | decide +kernel) | with_reducible exact CX.fold (@CXs.raw _ _ (PySem.Expr.Name _ _)) | with_reducible (apply CB.fold; apply CBs.asgc) | with_reducible (apply CX.fold; constructor) | with_reducible (apply CB.fold; constructor) | with_reducible constructor | exact rfl | decide +kernel
  case fr=>exact FR.mono fun p hp=>mem_append_right _ (mem_append_right _ (mem_append_right _ (mem_append_right _ hp)))
  case hx =>
    intro e cls vs' own' s' r91 FL
    refine A3 r91 fun e91 h1 q92=>E1 q92 fun RN e93=>?_
    try clear r91
    clear q92
    first | subst e91 | cases e91
    first | subst e93 | cases e93
    exact hE h1 RN e vs' s' FL
  intro c1 oL hsc hw H1 FC1 hdL ho1 _ hraise
  have FR2:=dr.push H.toCok0 FC hdL FR
  rw [← ho1] at FR2
  rw [← hw] at hr hE hraise ⊢
  refine fQ H1 (.tail .head) (.tail (.tail .head)) ?_
  refine cP H1 (.tail .head) (.tail (.tail .head)) ?_
  refine rS (.tail (.tail (.tail .head))) ?_
  refine sD lo (.tail (.tail (.tail .head))) fun V=>?_
  refine kQ (as:=ad) (e:=fun n=>.ref n.a) (fun x:Str=>.str x 0) (fun n=>decide (np n.key=0)) (fun n=>n.key) H1 .head (.tail (.tail (.tail (.tail .head)))) (by unfold oV; rw [List.map_map]; rfl) (by omega) ?_ fun D=>?_
  · refine bg.of2 fun c4 hw4 H4 nwr hfz n hn r acc g1 g2 o1 o2=>?_
    have h1:ae c4.w nwr n.a (cI n (np n.key)):=hw4▸hfz.sees (pr hn).tail.tail
    have h2:ae c4.w nwr n.dx dict0:=hw4▸hfz.sees (oJ hn).tail.tail
    refine ia (np:=np) H4 h1 h2 ?_
    refine aN (fun h=>?_) fun h=>?_
    · refine wZ H4 h1 h2 ?_
      exact ⟨.refl _,rfl,g1 h⟩
    · exact ⟨.refl _,rfl,g2 h⟩
  refine pY (i:=4) H1 (.tail (.tail (.tail .head))) rfl (fun v' h=>aa h) ?_
  refine bG (f:=134) (by decide +kernel) (fun _ _ _ _ _ _=>rfl) H1 (.tail (.tail (.tail .head))) (.tail (.tail (.tail (.tail .head)))) ?_
  refine Do.pre (nw2:=so1 c1.w S SD DD D (fj ad np) 0 0 ad np sc ((c.L,FrP oL)::FO)) sC ?_
  refine qt (l1:=[]) (mid:=so1 c1.w S SD DD D (fj ad np) 0 0 ad np sc []) (FO:=(c.L,FrP oL)::FO) (l2:=[]) (np:=np) H1 FC1 FR2 lo hz hs hnd hin .head (.tail .head) (.tail (.tail .head)) (fun n hn=>⟨rB hn,xR hn,kC hn⟩) fuel res hres (by rw [append_nil,nil_append,aX]) ?_
  clear hE
  cases res with
  | none=>exact ⟨_,gp,hr rfl D⟩
  | some rs =>
    intro Dr
    refine aV .head (Nat.le_trans (iL hres).2 (by omega)) ?_
    refine gA (by rw [xK hres]; rfl) ?_
    refine oO (ies:=[_,_]) H1 (by rw [hsc]; rfl) (by decide +kernel) rfl (by rw [hsc]; repeat' first | (with_reducible (apply CX.fold; apply CXs.var)) <;> exact rfl | (with_reducible (apply CX.fold; apply CXs.glob)) <;> (first | exact rfl | decide +kernel) | with_reducible exact CX.fold (@CXs.raw _ _ (PySem.Expr.Name _ _)) | with_reducible (apply CB.fold; apply CBs.asgc) | with_reducible (apply CX.fold; constructor) | with_reducible (apply CB.fold; constructor) | with_reducible constructor | exact rfl | decide +kernel) ?_
    refine sU ?_
    exact ⟨Nat.le_of_ble_eq_true rfl,fun e vs' s' hp hsim hx' S'=>hraise e _ vs' s' hp _ _ (so1 c1.w S SD DD D (fj ad np) 0 0 ad np sc FO) hx' S' (FR2.mono fun p hp=>.tail _ (mem_append_right _ (.tail _ (mem_append_right _ (mem_append_right _ (mem_append_right _ hp)))))) (.drop gp) ⟨rfl,by simp,D,rfl⟩⟩
theorem oT {c:Cx} {M:FM} {l1 FO l2:Led} {rm:Nat} (H:Cok c (rm+7)) (FC:bo c) (FR:dr FO c.outer) {S SD DD:Addr} {ad:List NA} {np:Str→Int} {sc:Str→List Str} (lo:(DD == sysModules)=false) (hz:ad.length≤20) (hs:∀ v,(sc v).length≤100) (hnd:(au ad).Nodup) (hin:∀ x,∀ y ∈ sc x,y ∈ au ad)
    (fuel:Nat) (hfu:fuel≤900) (res:Option (List Str)) (hres:goF sc fuel (au ad) []=some res) {R:Value→FM→Led→Prop}
    (hr:∀ RN,R (if res=none then .none else .str "ring" 0) M (l1++(so1 c.w S SD DD RN (fj ad np) 0 0 ad np sc FO++l2))) :
    Do c .call [.ref 311,.ref S] M (l1++(so0 c.w S SD DD ad np sc FO++l2)) R:=by
  have hPG:PG=RowW.prog (OpenRow.toRowW (OpenLaw.row Challenge.rw_il0094_01)):=rfl
  refine' fx (f:=311) (l1:=l1) (own:=so0 c.w S SD DD ad np sc FO) (l2:=l2) (X:=fun _ _ _=>False) (k:=60) (xs:=[("sorter" : Str)]) (M₀:=[some (.ref S)]) H FC ?fr ?ho ?hcd ?hbind ?hkind ?hnd ?hM ?hB ?hco ?hgen ?hk rfl ?hx ?main
  case ho=>intro w; k_fill; intro _; k_is
  case hcd=>intro w; k_fill; intro _; k_is
  case hbind=>first | exact bb fun _ _=>BindsTo.of_eq rfl | exact aY fun _ _ _=>BindsTo.of_eq rfl
  case hkind=>decide +kernel
  case hM=>exact rfl
  case hnd=>decide +kernel
  case hco=>exact rfl
  case hgen=>exact rfl
  case hk=>exact rfl
  case hB=>repeat' first | (with_reducible (apply CX.fold; apply CXs.var)) <;> exact rfl | (with_reducible (apply CX.fold; apply CXs.glob)) <;> (first | exact rfl | decide +kernel) | with_reducible exact CX.fold (@CXs.raw _ _ (PySem.Expr.Name _ _)) | with_reducible (apply CB.fold; apply CBs.asgc) | with_reducible (apply CX.fold; constructor) | with_reducible (apply CB.fold; constructor) | with_reducible constructor | exact rfl | decide +kernel
  case fr=>exact FR.mono fun p hp=>mem_append_right _ (mem_append_right _ (mem_append_right _ (mem_append_right _ hp)))
  case hx=>exact fun _ _ _ _ _ h=>h.elim
  intro c1 oL hsc hw H1 FC1 hdL ho1 _ _
  have FR2:=dr.push H.toCok0 FC hdL FR
  rw [← ho1] at FR2
  rw [← hw] at hr ⊢
  refine sZ (k:=50) (k2:=50) (P:=fun _ nw'=>res≠none∧∃ RN,nw'=so1 c1.w S SD DD RN (fj ad np) 0 0 ad np sc ((c.L,FrP oL)::FO)) H1 FC1 (by rw [hsc]; repeat' first | (with_reducible (apply CX.fold; apply CXs.var)) <;> exact rfl | (with_reducible (apply CX.fold; apply CXs.glob)) <;> (first | exact rfl | decide +kernel) | with_reducible exact CX.fold (@CXs.raw _ _ (PySem.Expr.Name _ _)) | with_reducible (apply CB.fold; apply CBs.asgc) | with_reducible (apply CX.fold; constructor) | with_reducible (apply CB.fold; constructor) | with_reducible constructor | exact rfl | decide +kernel) (by rw [hsc]; repeat' first | (with_reducible (apply CX.fold; apply CXs.var)) <;> exact rfl | (with_reducible (apply CX.fold; apply CXs.glob)) <;> (first | exact rfl | decide +kernel) | with_reducible exact CX.fold (@CXs.raw _ _ (PySem.Expr.Name _ _)) | with_reducible (apply CB.fold; apply CBs.asgc) | with_reducible (apply CX.fold; constructor) | with_reducible (apply CB.fold; constructor) | with_reducible constructor | exact rfl | decide +kernel) (by rw [hsc]; rfl) (by decide +kernel) rfl (f62 c1.w rfl).2 ?_ ?_
  · intro c2 _ hw2 H2 FC2 ho2 hE
    rw [← hw2] at hr hE ⊢
    refine bG (f:=99) (by decide +kernel) (fun _ _ _ _ _ _=>rfl) H2 (.tail .head) (.tail (.tail .head)) ?_
    refine Do.pre (nw2:=so0 c2.w S SD DD ad np sc ((c.L,FrP oL)::FO)) wT ?_
    rw [show so0 c2.w S SD DD ad np sc ((c.L,FrP oL)::FO)=[]++(so0 c2.w S SD DD ad np sc ((c.L,FrP oL)::FO)++[]) from by rw [append_nil]; rfl]
    refine pI (l1:=[]) (FO:=(c.L,FrP oL)::FO) (l2:=[]) H2 FC2 (ho2▸FR2) lo hz hs hnd hin fuel hfu res hres (fun h RN=>?_) fun h RN e vs s' FL=>hE e vs s' _ _ (FL.weak (ar.nil' _)) ⟨h,RN,rfl⟩
    have:=hr RN
    rw [if_pos h] at this
    exact ⟨_,(ar.nil' _).trans gp,this⟩
  · intro c2 _ hw2 H2 M' nw' r91
    refine A2 r91 fun h q91=>E1 q91 fun RN e92=>?_
    try clear r91
    clear q91
    first | subst e92 | cases e92
    have:=hr RN
    rw [if_neg h] at this
    exact ⟨_,gp,this⟩
noncomputable def nV (x:Str) (k:Int):Str:=("node " : Str)++reprText x++(if k = -2 then (" was already marked done" : Str) else " was not passed out (still not ready)")
theorem jv {c:Cx} {M:FM} {l1 FO l2:Led} {rm:Nat} (H:Cok c (rm+6)) (FC:bo c) (FR:dr FO c.outer) {S SD DD RN:Addr} {rs:List Str} {po nf:Int} {ad:List NA} {np:Str→Int} {sc:Str→List Str} {x:Str} {k:Int} (lo:(DD == sysModules)=false) (hn:(au ad).Nodup) (hx:x ∈ au ad) (hnp:np x=k) (hk:k = -2∨0≤k) (hl:(reprText x).length≤100) {R:Value→FM→Led→Prop}
    (hE:∀ e tk s',cw c M (l1++(so1 c.w S SD DD RN rs po nf ad np sc FO++l2)) e (.type "ValueError") [.str (nV x k) tk] s'→c.E (.ref e) s') :
    Do c .call [.ref 127,.ref S,.str x 0] M (l1++(so1 c.w S SD DD RN rs po nf ad np sc FO++l2)) R:=by
  have hPG:PG=RowW.prog (OpenRow.toRowW (OpenLaw.row Challenge.rw_il0094_01)):=rfl
  refine' rT (f:=127) (hds:=[.ref S]) (rs:=[.str x 0]) (l1:=l1) (own:=so1 c.w S SD DD RN rs po nf ad np sc FO) (l2:=l2) (X:=fun cls vs own'=>cls = .type "ValueError" ∧ (∃ tk,vs=[.str (nV x k) tk])∧own'=so1 c.w S SD DD RN rs po nf ad np sc FO) (k:=60) (xs:=[("self" : Str), "nodes"]) (M₀:=fun D=>[some (.ref S),some (.ref D),none,none,none,none,none,none]) H FC ?fr ?ho ?hcd ?hbind ?hkind ?hnd ?hM ?hB ?hco ?hgen ?hk rfl rfl (Nat.le_of_ble_eq_true rfl) ?hx ?main
  case ho=>intro w; k_fill; intro _; k_is
  case hcd=>intro w; k_fill; intro _; k_is
  case hbind=>exact nk fun _ _=>rfl
  case hkind=>decide +kernel
  case hM=>exact fun _=>rfl
  case hnd=>decide +kernel
  case hco=>exact rfl
  case hgen=>exact rfl
  case hk=>exact rfl
  case hB=>repeat' first | (with_reducible (apply CX.fold; apply CXs.var)) <;> exact rfl | (with_reducible (apply CX.fold; apply CXs.glob)) <;> (first | exact rfl | decide +kernel) | with_reducible exact CX.fold (@CXs.raw _ _ (PySem.Expr.Name _ _)) | with_reducible (apply CB.fold; apply CBs.asgc) | with_reducible (apply CX.fold; constructor) | with_reducible (apply CB.fold; constructor) | with_reducible constructor | exact rfl | decide +kernel
  case fr=>exact FR.mono fun p hp=>mem_append_right _ (.tail _ (mem_append_right _ (mem_append_right _ (mem_append_right _ hp))))
  case hx =>
    intro e cls vs' own' s' r91 FL
    refine A3 r91 fun e91 q92 e93=>?_
    try clear r91
    first | subst e91 | cases e91
    refine E1 q92 fun tk e94=>?_
    try clear q92
    first | subst e94 | cases e94
    first | subst e93 | cases e93
    exact hE e tk s' FL
  intro c1 oL D hsc hw H1 FC1 hdL ho1 FR1 hraise
  rw [← hw] at hE hraise ⊢
  refine br H1 (.tail (.tail .head)) (.tail (.tail (.tail .head))) ?_
  refine cP H1 (.tail (.tail .head)) (.tail (.tail (.tail .head))) ?_
  refine DoF.freeze (i:=1) rfl fun o ho=>?_
  refine lG (k:=40) (fun r M' nw'=>r=[.str x 0]∧M'=[some (.ref S),some (.ref D),some (.ref DD),none,none,none,none,none]∧nw'=(c.L,FrP oL)::(D,.raw o)::so1 c1.w S SD DD RN rs po nf ad np sc FO) H1 ho (fun r M' nw' h=>by rw [h.2.2]; exact .tail _ (.head _)) ⟨rfl,rfl,rfl⟩ ?_ (fun M' nw' h=>nomatch h.1)
  intro I oi H2 y r M' nw' r92
  refine A3 r92 fun e1 e95 e96=>?_
  try clear r92
  first | subst e95 | cases e95
  first | subst e96 | cases e96
  clear hE FR1 ho
  obtain ⟨rfl,rfl⟩:=List.cons.inj e1
  refine E1 (cA hx) fun n q97=>A2 q97 fun m1 e98=>?_
  clear q97
  first | subst e98 | cases e98
  refine vU (.tail (.tail (.tail (.tail .head)))) ?_
  refine wt lo (.tail (.tail (.tail (.tail .head)))) ?_
  rw [eG hn m1]
  refine ia H2 (rB m1).tail.tail (kC m1).tail.tail ?_
  rw [hnp]
  refine gA (b:=!decide (k = -1)) (by simp; (clear hnp hl; omega)) ?_
  have raise:∀ (msg:Str),msg=nV n.key k→∀ e vs' (s':Shared) hp M',aD vs' [.str msg 0]→Heap.MadeExcOf hp s'.heap e (.type "ValueError") vs'→St (c1.hide I oi) M' ((c.L,FrP oL)::(D,.raw o)::so1 c1.w S SD DD RN rs po nf ad np sc FO) { s' with heap:=hp }→(c1.hide I oi).E (.ref e) s':=fun msg em e vs' s' hp M' hsim hx' S'=>by
    refine E2 hsim.cons fun u us q99=>A3 q99 fun e910 hu hs=>?_
    clear q99
    clear hsim
    first | subst e910 | cases e910
    cases hs.nil
    obtain ⟨tk,rfl⟩:=aq hu
    have S2:St c1 M' ((c.L,FrP oL)::(D,.raw o)::so1 c1.w S SD DD RN rs po nf ad np sc FO) { s' with heap:=hp }:=S'.unhide (.refl _ _)
    refine hraise e _ _ s' hp M' _ (so1 c1.w S SD DD RN rs po nf ad np sc FO) hx' S2 (fun env he=>?_) (.keep (.drop (.refl _))) ⟨rfl,⟨tk,by rw [em]⟩,rfl⟩
    have FR2:=dr.push H.toCok0 FC hdL FR
    rw [← ho1] at FR2
    refine A2 (FR2 env he) fun k1 q911=>E2 q911 fun b ob q912=>A3 q912 fun k2 k3 k4=>?_
    clear q912 q911
    refine ⟨k1,b,ob,k2,?_,k4⟩
    rcases mem_cons.mp k3 with e | k3
    · rw [e]; exact .head _
    · exact .tail _ (.tail _ (mem_append_right _ (.tail _ (mem_append_right _ (mem_append_right _ (mem_append_right _ k3))))))
  rcases hk with rfl | hk
  · refine ic (ies:=[_]) PySem.F.excCall_ValueError PySem.F.excRaise_ValueError H2 (by rw [show (c1.hide I oi).sc=_ from hsc]; rfl) (by decide +kernel) rfl (by decide) (by rw [show (c1.hide I oi).sc=_ from hsc]; repeat' first | (with_reducible (apply CX.fold; apply CXs.var)) <;> exact rfl | (with_reducible (apply CX.fold; apply CXs.glob)) <;> (first | exact rfl | decide +kernel) | with_reducible exact CX.fold (@CXs.raw _ _ (PySem.Expr.Name _ _)) | with_reducible (apply CB.fold; apply CBs.asgc) | with_reducible (apply CX.fold; constructor) | with_reducible (apply CB.fold; constructor) | with_reducible constructor | exact rfl | decide +kernel) ?_
    refine mW (i:=3) H2.toCok0 (by rw [show (c1.hide I oi).sc=_ from hsc]; rfl) rfl rfl (aI (by decide +kernel)) (aI (by decide +kernel)) hl ?_
    exact ⟨Nat.le_of_ble_eq_true rfl,fun e vs' s' hp hsim hx' S'=>raise _ rfl e vs' s' hp _ hsim hx' S'⟩
  · refine gA (b:=decide (k≥0)) (by simpa using hk) ?_
    refine ic (ies:=[_]) PySem.F.excCall_ValueError PySem.F.excRaise_ValueError H2 (by rw [show (c1.hide I oi).sc=_ from hsc]; rfl) (by decide +kernel) rfl (by decide) (by rw [show (c1.hide I oi).sc=_ from hsc]; repeat' first | (with_reducible (apply CX.fold; apply CXs.var)) <;> exact rfl | (with_reducible (apply CX.fold; apply CXs.glob)) <;> (first | exact rfl | decide +kernel) | with_reducible exact CX.fold (@CXs.raw _ _ (PySem.Expr.Name _ _)) | with_reducible (apply CB.fold; apply CBs.asgc) | with_reducible (apply CX.fold; constructor) | with_reducible (apply CB.fold; constructor) | with_reducible constructor | exact rfl | decide +kernel) ?_
    refine mW (i:=3) H2.toCok0 (by rw [show (c1.hide I oi).sc=_ from hsc]; rfl) rfl rfl (aI (by decide +kernel)) (aI (by decide +kernel)) hl ?_
    exact ⟨Nat.le_of_ble_eq_true rfl,fun e vs' s' hp hsim hx' S'=>raise _ (by unfold nV; rw [if_neg (by omega)]) e vs' s' hp _ hsim hx' S'⟩
theorem ro {c:Cx} {M:FM} {l1 FO l2:Led} {rm:Nat} (H:Cok c (rm+7)) (FC:bo c) (FR:dr FO c.outer) {S SD DD RN:Addr} {rs:List Str} {po nf:Int} {ad:List NA} {np:Str→Int} {sc:Str→List Str} {x:Str} {k:Int} (lo:(DD == sysModules)=false) (hn:(au ad).Nodup) (hx:x ∈ au ad) (hnp:np x=k) (hk:k = -2∨0≤k) (hl:(reprText x).length≤100) {R:Value→FM→Led→Prop}
    (hr:R (.str (nV x k) 0) M (l1++(so1 c.w S SD DD RN rs po nf ad np sc FO++l2))) :
    Do c .call [.ref 318,.ref S,.str x 0] M (l1++(so1 c.w S SD DD RN rs po nf ad np sc FO++l2)) R:=by
  have hPG:PG=RowW.prog (OpenRow.toRowW (OpenLaw.row Challenge.rw_il0094_01)):=rfl
  refine' fx (f:=318) (l1:=l1) (own:=so1 c.w S SD DD RN rs po nf ad np sc FO) (l2:=l2) (X:=fun _ _ _=>False) (k:=60) (xs:=[("sorter" : Str), "place"]) (M₀:=[some (.ref S),some (.str x 0),none]) H FC ?fr ?ho ?hcd ?hbind ?hkind ?hnd ?hM ?hB ?hco ?hgen ?hk rfl ?hx ?main
  case ho=>intro w; k_fill; intro _; k_is
  case hcd=>intro w; k_fill; intro _; k_is
  case hbind=>first | exact bb fun _ _=>BindsTo.of_eq rfl | exact aY fun _ _ _=>BindsTo.of_eq rfl
  case hkind=>decide +kernel
  case hM=>exact rfl
  case hnd=>decide +kernel
  case hco=>exact rfl
  case hgen=>exact rfl
  case hk=>exact rfl
  case hB=>repeat' first | (with_reducible (apply CX.fold; apply CXs.var)) <;> exact rfl | (with_reducible (apply CX.fold; apply CXs.glob)) <;> (first | exact rfl | decide +kernel) | with_reducible exact CX.fold (@CXs.raw _ _ (PySem.Expr.Name _ _)) | with_reducible (apply CB.fold; apply CBs.asgc) | with_reducible (apply CX.fold; constructor) | with_reducible (apply CB.fold; constructor) | with_reducible constructor | exact rfl | decide +kernel
  case fr=>exact FR.mono fun p hp=>mem_append_right _ (.tail _ (mem_append_right _ (mem_append_right _ (mem_append_right _ hp))))
  case hx=>exact fun _ _ _ _ _ h=>h.elim
  intro c1 oL hsc hw H1 FC1 hdL ho1 _ _
  have FR2:=dr.push H.toCok0 FC hdL FR
  rw [← ho1] at FR2
  rw [← hw] at hr ⊢
  refine qk (X := "ValueError") (T' := "ValueError") (i:=2) (kf:=50) (k2:=50) (P:=fun M' nw' msg=>M'=[some (.ref S),some (.str x 0),none]∧msg=nV x k∧nw'=so1 c1.w S SD DD RN rs po nf ad np sc ((c.L,FrP oL)::FO)) H1 FC1 (by rw [hsc]; repeat' first | (with_reducible (apply CX.fold; apply CXs.var)) <;> exact rfl | (with_reducible (apply CX.fold; apply CXs.glob)) <;> (first | exact rfl | decide +kernel) | with_reducible exact CX.fold (@CXs.raw _ _ (PySem.Expr.Name _ _)) | with_reducible (apply CB.fold; apply CBs.asgc) | with_reducible (apply CX.fold; constructor) | with_reducible (apply CB.fold; constructor) | with_reducible constructor | exact rfl | decide +kernel) (by rw [hsc]; repeat' first | (with_reducible (apply CX.fold; apply CXs.var)) <;> exact rfl | (with_reducible (apply CX.fold; apply CXs.glob)) <;> (first | exact rfl | decide +kernel) | with_reducible exact CX.fold (@CXs.raw _ _ (PySem.Expr.Name _ _)) | with_reducible (apply CB.fold; apply CBs.asgc) | with_reducible (apply CX.fold; constructor) | with_reducible (apply CB.fold; constructor) | with_reducible constructor | exact rfl | decide +kernel) (by rw [hsc]; rfl) (by decide +kernel) rfl (by decide) PySem.F.isExc_ValueError PySem.F.notTuple_ValueError PySem.F.self_ValueError (by rw [hsc]; rfl) (by rw [hsc]; rfl) ?_ ?_
  · intro c2 _ hw2 H2 FC2 ho2 hE
    rw [← hw2] at hr hE ⊢
    refine bG (f:=127) (by decide +kernel) (fun _ _ _ _ _ _=>rfl) H2 (.tail .head) (.tail (.tail .head)) ?_
    refine Do.pre (nw2:=so1 c2.w S SD DD RN rs po nf ad np sc ((c.L,FrP oL)::FO)) uf ?_
    rw [show so1 c2.w S SD DD RN rs po nf ad np sc ((c.L,FrP oL)::FO)=[]++(so1 c2.w S SD DD RN rs po nf ad np sc ((c.L,FrP oL)::FO)++[]) from by rw [append_nil]; rfl]
    exact jv (l1:=[]) (FO:=(c.L,FrP oL)::FO) (l2:=[]) H2 FC2 (ho2▸FR2) lo hn hx hnp hk hl fun e tk s' FL=>hE e _ tk s' _ _ (FL.weak (ar.nil' _)) ⟨rfl,rfl,rfl⟩
  · intro c2 _ hw2 H2 e t M' nw' msg r91
    refine A3 r91 fun e91 e92 e93=>?_
    try clear r91
    first | subst e91 | cases e91
    first | subst e92 | cases e92
    first | subst e93 | cases e93
    refine tI PySem.F.excStr_ValueError (rm:=rm+5) H2 .head (.tail .head) ?_
    exact fun M2=>⟨_,.drop (.drop gp),hr⟩
end
section
set_option tactic.hygienic false
noncomputable abbrev Wds:=List (Str×List UInt8)
noncomputable def Bat (W:Wds) (k:Str):Option (List UInt8):=(W.find? fun p=>p.1=k).map (·.2)
noncomputable def gD (W:Wds):List (Str×Value):=W.map fun p=>(p.1,.bytes p.2.toArray 0)
theorem eO (W:Wds) (k:Str):valueAt (gD W) k=(Bat W k).map fun v=>.bytes v.toArray 0:=by
  unfold valueAt gD Bat
  rw [find?_map,Option.map_map,Option.map_map]; rfl
theorem jA (W:Wds):(gD W).map (·.1)=W.map (·.1):=by unfold gD; rw [List.map_map]; rfl
theorem rV {W:Wds} {k:Str} {v:List UInt8} (h:Bat W k=none):stored (gD W) k (.bytes v.toArray 0)=gD (W++[(k,v)]):=by
  rw [bJ (by rw [eO,h]; rfl)]
  exact (show gD (W++[(k,v)])=gD W++[(k,.bytes v.toArray 0)] from map_append).symm
structure RS where
  words:Wds
  waiting:List Str
  given:List Str
  np:Str→Int
  rs:List Str
  po:Int
  nf:Int
  turn:Int
noncomputable def bF (r:RS):Bool:=Bool.or (decide (r.nf < r.po)) (!r.rs.isEmpty)
noncomputable def ai (b:al) (x:Str):List Ask:=((b.at x).map (·.asks)).getD []
noncomputable def bz (W:Wds) (as:List Ask):List Str:=(as.filter fun a=>(Bat W a.goal).isNone).map (·.goal)
noncomputable def wv (b:al) (r:RS) (x:Str):Bool:=decide (x ∉ r.given) && (bz r.words (ai b x)).isEmpty
noncomputable def dQ (b:al) (r:RS):List Str:=(b.map (·.1)).filter (wv b r)
noncomputable def bH (b:al) (r:RS):List Str:=r.waiting++dQ b r
noncomputable def rJ (b:al) (r:RS):Nat:=(Int.fmod r.turn (bH b r).length).toNat
noncomputable def bf (b:al) (r:RS):Str:=(bH b r).getD (rJ b r) ""
noncomputable def mm (W:Wds) (row:Row):Int:=row.own+(row.asks.map fun a=>a.sign * kr ((Bat W a.goal).getD [])).sum
noncomputable def cT (b:al) (x:Str):Row:=(b.at x).getD ⟨0,[]⟩
noncomputable def eS (sc:Str→List Str) (b:al) (r:RS):RS where
  words:=r.words++[(bf b r,apN (mm r.words (cT b (bf b r))).natAbs)]
  waiting:=(bH b r).eraseIdx (rJ b r)
  given:=r.given++dQ b r
  np:=(qx (gl r.np r.rs) [] (bf b r) (sc (bf b r))).1
  rs:=(qx (gl r.np r.rs) [] (bf b r) (sc (bf b r))).2
  po:=r.po+r.rs.length
  nf:=r.nf+1
  turn:=Int.fdiv r.turn 2
structure sz (b:al) (r:RS):Prop where
  rsl:r.rs.length≤50
  wtl:r.waiting.length≤50
  gvl:r.given.length≤50
  wdl:r.words.length≤50
structure mn (ks:List Str) (sc:Str→List Str) (b:al) (r:RS):Prop where
  perm:r.rs.Perm (dQ b r)
  okd:OkS (dQ b r)
  rsin:∀ x ∈ r.rs,x ∈ ks
  ne:bH b r≠[]
  row:(b.at (bf b r)).isSome=true
  asks:∀ a ∈ (cT b (bf b r)).asks,fM (bd (dR (bf b r)) a.text)=a.goal∧(Bat r.words a.goal).isSome=true∧a.text.length≤1000∧dE (bd (dR (bf b r)) a.text)
  one:(bf b r).length≤1000∧(dR (bf b r)).length≤1000
  val:(mm r.words (cT b (bf b r))).natAbs≤100000
  new:Bat r.words (bf b r)=none
  np:gl r.np r.rs (bf b r) = -1
  onein:bf b r ∈ ks
  sucl:(sc (bf b r)).length≤100
  suci:∀ y ∈ sc (bf b r),y ∈ ks
theorem kn {l:List Str} {i:Nat} (h:i < l.length):∃ p q,l=p++l.getD i "" :: q∧p.length=i∧l.eraseIdx i=p++q:=by
  refine ⟨l.take i,l.drop (i+1),?_,?_,List.eraseIdx_eq_take_drop_succ l i⟩
  · rw [getD_eq_getElem?_getD,List.getElem?_eq_getElem h,getD_some,← drop_eq_getElem_cons h,List.take_append_drop]
  · rw [length_take]; omega
theorem OkS.perm {l r:List Str} (h:OkS l) (p:r.Perm l):OkS r:=fun x hx=>h x (p.mem_iff.mp hx)
theorem sp (W:Wds) (zs:List (Addr×Ask)):(zs.filter fun z=>(Bat W z.2.goal).isNone).map (fun z=>z.2.goal)=bz W (zs.map (·.2)):=by
  unfold bz
  rw [filter_map,List.map_map]; rfl
theorem qO {W:Wds} {as:List Ask}:(bz W as).length≤as.length:=by unfold bz; rw [length_map]; exact length_filter_le _ _
end
section
set_option tactic.hygienic false
structure Rst where
  r:RS
  WT:Addr
  GV:Addr
  d:Option Value
  p:Option Value
  g:Option Value
  o:Option Value
  w:Option Value
  a:Option Value
noncomputable def RMs (S D WD:Addr) (s:Rst):FM:=[some (.ref S),some (.ref D),some (.int s.r.turn 0),some (.ref WD),some (.ref s.WT),some (.ref s.GV),s.d,s.p,s.g,s.o,s.w,s.a]
structure Sg where
  S:Addr
  SD:Addr
  DD:Addr
  RN:Addr
  ad:List NA
  sc:Str→List Str
noncomputable def Sg.led (w:World) (g:Sg) (r:RS) (t:Led):Led:=so1 w g.S g.SD g.DD g.RN r.rs r.po r.nf g.ad r.np g.sc t
noncomputable def RNs (w:World) (g:Sg) (WD:Addr) (t:Led) (s:Rst):Led:=(s.GV,.list (ac s.r.given))::(s.WT,.list (ac s.r.waiting))::(WD,.dict (gD s.r.words))::g.led w s.r t
structure Due where
  due:List Str
  p:Option Value
structure D2s (b:al) (r:RS) (l:List Str) (s:Due):Prop where
  ex:∃ dn,b.map (·.1)=dn++l∧s.due=dn.filter (wv b r)
theorem D2s.mem {b:al} {r:RS} {x:Str} {l:List Str} {s:Due} (h:D2s b r (x::l) s):(b.at x).isSome=true:=by
  refine E1 h.ex fun dn q91=>A2 q91 fun e _=>?_
  clear q91
  have hm:x ∈ b.map (·.1):=by rw [e]; exact mem_append_right _ (.head _)
  refine E1 (mem_map.mp hm) fun p q92=>A2 q92 fun hp e=>?_
  clear q92
  unfold al.at
  rw [isSome_map,find?_isSome]
  exact ⟨p,hp,by simpa using e⟩
theorem D2s.yes {b:al} {r:RS} {x:Str} {l:List Str} {s:Due} (h:D2s b r (x::l) s) (hd:wv b r x=true) (v:Option Value):D2s b r l ⟨s.due++[x],v⟩:=by
  refine E1 h.ex fun dn q91=>A2 q91 fun e1 e2=>?_
  clear q91
  exact ⟨dn++[x],by rw [e1,append_assoc]; rfl,by rw [e2,filter_append,filter_cons,hd]; rfl⟩
theorem D2s.no {b:al} {r:RS} {x:Str} {l:List Str} {s:Due} (h:D2s b r (x::l) s) (hd:wv b r x=false) (v:Option Value):D2s b r l ⟨s.due,v⟩:=by
  refine E1 h.ex fun dn q91=>A2 q91 fun e1 e2=>?_
  clear q91
  exact ⟨dn++[x],by rw [e1,append_assoc]; rfl,by rw [e2,filter_append,filter_cons,hd]; simp⟩
theorem D2s.done {b:al} {r:RS} {s:Due} (h:D2s b r [] s):s.due=dQ b r:=by
  refine E1 h.ex fun dn q91=>A2 q91 fun e1 e2=>?_
  clear q91
  rw [e2]; unfold dQ; rw [e1,append_nil]
theorem D2s.len {b:al} {r:RS} {l:List Str} {s:Due} (h:D2s b r l s):s.due.length≤b.length:=by
  refine E1 h.ex fun dn q91=>A2 q91 fun e1 e2=>?_
  clear q91
  have:=congrArg List.length e1
  rw [length_map,length_append] at this
  rw [e2]
  exact Nat.le_trans (length_filter_le _ _) (by omega)
theorem xf {c:Cx} {M:FM} {nw:Led} {R:Value→FM→Led→Prop} {f:Value} {a b:Int} (h:a=b) (h':Do c .call [f,.int b 0] M nw R):Do c .call [f,.int a 0] M nw R:=h▸h'
theorem v_run {c:Cx} {M:FM} {l1 l2:Led} {rm:Nat} (H:Cok c (rm+20)) {S SD DD RN D:Addr} {ad:List NA} {sc:Str→List Str} {b:al} (lo:(DD == sysModules)=false) (hn:(au ad).Nodup) (hB:iw (ae c.w l2) D b) (hok:di b) (r0:RS) (hw0:r0.words=[]) (hwt:r0.waiting=[]) (hgv:r0.given=[])
    (Iv:RS→Prop) (Ms:RS→Nat) (hI:Iv r0) (hrun:∀ r,Iv r→sz b r) (hstep:∀ r,Iv r→bF r=true→mn (au ad) sc b r∧Iv (eS sc b r)∧Ms (eS sc b r) < Ms r) {R:Value→FM→Led→Prop}
    (hr:∀ r WD,Iv r→bF r=false→(WD == sysModules)=false→R (.ref WD) M (l1++((WD,.dict (gD r.words))::so1 c.w S SD DD RN r.rs r.po r.nf ad r.np sc l2))) :
    Do c .call [.ref 330,.ref S,.ref D,.int r0.turn 0] M (l1++so1 c.w S SD DD RN r0.rs r0.po r0.nf ad r0.np sc l2) R:=by
  have hPG:PG=RowW.prog (OpenRow.toRowW (OpenLaw.row Challenge.rw_il0094_01)):=rfl
  rw [show l1++so1 c.w S SD DD RN r0.rs r0.po r0.nf ad r0.np sc l2=(l1++so1 c.w S SD DD RN r0.rs r0.po r0.nf ad r0.np sc [])++(l2++[]) from by rw [append_nil,append_assoc,aX]]
  refine Do.freezeM fun l2' hfz=>Do.weakR ?_
  rw [show (l1++so1 c.w S SD DD RN r0.rs r0.po r0.nf ad r0.np sc [])++(l2'++[])=l1++(so1 c.w S SD DD RN r0.rs r0.po r0.nf ad r0.np sc l2'++[]) from by rw [append_nil,append_nil,append_assoc,aX]]
  refine' aG (f:=330) (own:=so1 c.w S SD DD RN r0.rs r0.po r0.nf ad r0.np sc l2') (k:=60) (xs:=([("sorter" : Str), "book", "turn"]:List Str)) (M₀:=[some (.ref S),some (.ref D),some (.int r0.turn 0),none,none,none,none,none,none,none,none,none]) H ?ho ?hcd ?hbind ?hkind ?hnd ?hM ?hB ?hco ?hgen ?hk (ix (l2:=[]) rfl) (cL (l1:=l1) (own:=so1 c.w S SD DD RN r0.rs r0.po r0.nf ad r0.np sc l2') (l2:=[]) (R:=fun v M n=>∃ n2,ar c.w n n2∧R v M n2) rfl) ?main
  case ho=>intro w; k_fill; intro _; k_is
  case hcd=>intro w; k_fill; intro _; k_is
  case hbind=>first | exact bb fun _ _=>BindsTo.of_eq rfl | exact aY fun _ _ _=>BindsTo.of_eq rfl | exact bt fun _ _ _ _=>BindsTo.of_eq rfl
  case hkind=>exact ak rfl
  case hM=>exact rfl
  case hnd=>decide +kernel
  case hco=>exact rfl
  case hgen=>exact rfl
  case hk=>exact rfl
  case hB=>repeat' first | (with_reducible (apply CX.fold; apply CXs.var)) <;> exact rfl | (with_reducible (apply CX.fold; apply CXs.glob)) <;> (first | exact rfl | decide +kernel) | with_reducible exact CX.fold (@CXs.raw _ _ (PySem.Expr.Name _ _)) | with_reducible (apply CB.fold; apply CBs.asgc) | with_reducible (apply CX.fold; constructor) | with_reducible (apply CB.fold; constructor) | with_reducible constructor | exact bD.no (fun _ _ _ _=>rfl) rfl rfl | exact bD.yes (fun _ _ _ _=>rfl) rfl rfl | exact rfl | decide +kernel
  intro c1 hsc hw H1
  rw [← hw] at hB hr hfz ⊢
  refine E1 ((hB.mono fun a x h=>hfz.seesR h).ex) fun ks q91=>A3 q91 fun hD hbk hrows=>?_
  clear q91
  refine E1 hD fun oD q92=>A2 q92 fun hD1 hD2=>?_
  try clear hD
  clear q92
  subst hbk
  have see:∀ {a x},dG c1.w l2' a x→∀ (f:Led) (r:RS),ae c1.w (f++(Sg.led c1.w ⟨S,SD,DD,RN,ad,sc⟩ r l2')) a x:=fun h f r=>(((((h.sees.pre (nC ad)).pre (nB ad sc)).pre (nA ad r.np)).pre [_]).pre (srL c1.w S SD DD (.ref RN) r.po r.nf ad)).pre f
  refine ⟨H1.hh,?_⟩
  intro WD lo2 WT GV
  refine iY (k:=50) (Ms:=RMs S D WD) (RNs c1.w ⟨S,SD,DD,RN,ad,sc⟩ WD l2') (fun s=>Iv s.r) (fun s=>Ms s.r) ⟨r0,WT,GV,none,none,none,none,none,none⟩ H1 rfl (by unfold RNs; rw [hw0,hwt,hgv]; rfl) hI ?_
  intro r91 hp
  obtain ⟨r,WT,GV,d0,p0,g0,o0,w0,a0⟩:=r91
  obtain ⟨q1,q2,q3,q4⟩:=hrun r hp
  refine bG (f:=113) (by decide +kernel) (fun _ _ _ _ _ _=>rfl) H1 (.tail (.tail (.tail .head))) (.tail (.tail (.tail (.tail .head)))) ?_
  refine nh (l1:=[_,_,_]) H1 (Nat.le_trans q1 (by decide)) ?_
  refine aN (fun hact=>?_) fun hact=>?_
  · refine A3 (hstep r hp hact) fun ok hI2 hM2=>?_
    intro DU
    refine jq (k:=45) (Ms:=fun s:Due=>[some (.ref S),some (.ref D),some (.int r.turn 0),some (.ref WD),some (.ref WT),some (.ref GV),some (.ref DU),s.p,g0,o0,w0,a0]) (fun s=>(DU,.list (ac s.due))::RNs c1.w ⟨S,SD,DD,RN,ad,sc⟩ WD l2' ⟨r,WT,GV,d0,p0,g0,o0,w0,a0⟩) (D2s ks.book r) ⟨[],p0⟩ H1 hB.lo hD2 (fun s=>.tail _ (.tail _ (.tail _ (.tail _ (mem_append_right _ (.tail _ (mem_append_right _ (mem_append_right _ (mem_append_right _ hD1))))))))) rfl rfl ⟨[],by rw [Ks.keys]; rfl,rfl⟩ ?_ ?_
    · intro c2 _ hw2 H2 x l s hq
      have hlen:s.due.length≤1000:=Nat.le_trans hq.len (Nat.le_trans hok.len (by decide))
      have hdp:wv ks.book r x=(decide (x ∉ r.given) && (bz r.words (ai ks.book x)).isEmpty):=rfl
      refine iF (.tail .head) ?_
      refine aN (fun h=>?_) fun h=>?_
      · refine E1 (Ks.row hrows hq.mem) fun p hp2=>?_
        have ha:ai ks.book x=p.row.asks:=by unfold ai; rw [hp2.at_]; rfl
        have see2:∀ {a y},dG c1.w l2' a y→ae c2.w ((DU,.list (ac s.due))::RNs c1.w ⟨S,SD,DD,RN,ad,sc⟩ WD l2' ⟨r,WT,GV,d0,p0,g0,o0,w0,a0⟩) a y:=fun h=>by rw [hw2]; exact see h [_,_,_,_] r
        refine aS (see2 ⟨oD,hD1,hD2⟩) hp2.va ?_
        refine dS (see2 hp2.tup) (by decide) (by decide) rfl ?_
        refine cK (as:=p.zs) (fun z=>.ref z.1) (fun x:Str=>.str x 0) (fun z=>(Bat r.words z.2.goal).isNone) (fun z=>z.2.goal) H2 (see2 hp2.lst) (Nat.le_trans (hp2.len hok) (by decide)) ?_ fun D4=>?_
        · refine bg.of4 fun c4 hw4 H4 nwr hz z hz1 r' acc g1 g2 o1 o2 o3 o4=>?_
          refine cS H4 (xs:=[.str z.2.goal 0,.int z.2.sign 0,.str z.2.text 0]) (hw4▸hz.sees (see2 (hp2.each z hz1))) rfl ?_
          refine eh lo2 (hw4▸hz.sees (.tail (.tail (.tail .head)))) ?_
          refine aN (fun h=>?_) fun h=>?_
          · exact ⟨.refl _,rfl,g1 (by rw [eO,isSome_map] at h; rw [da h]; rfl)⟩
          · exact ⟨.refl _,rfl,g2 (by rw [eO,isSome_map] at h; obtain ⟨v,e⟩:=isSome_iff_exists.mp (iM h); rw [e]; rfl)⟩
        rw [sp,← hp2.asks]
        refine aV .head (Nat.le_trans qO (Nat.le_trans (hok.asks _ (db hp2.at_)) (by decide))) ?_
        refine aN (fun h2=>?_) fun h2=>?_
        · refine bS (.tail .head) ?_
          refine ca (i:=1) rfl hlen ?_
          exact LR.next ⟨s.due++[x],some (.str x 0)⟩ (.drop (.refl _)) (hq.yes (by rw [hdp,ha]; simpa using ⟨by simpa using h,by simpa using h2⟩) _) rfl
        · exact LR.next ⟨s.due,some (.str x 0)⟩ (.drop (.refl _)) (hq.no (by rw [hdp,ha,Bool.and_eq_false_iff]; exact .inr (by simpa using h2)) _) rfl
      · exact LR.next ⟨s.due,some (.str x 0)⟩ (.refl _) (hq.no (by rw [hdp,Bool.and_eq_false_iff]; exact .inl (by simpa using h)) _) rfl
    · rintro ⟨due,pv⟩ hq
      obtain rfl:due=dQ ks.book r:=hq.done
      have hdl:(dQ ks.book r).length≤20:=Nat.le_trans (hq.len (s:=⟨dQ ks.book r,pv⟩)) (Nat.le_trans hok.len (by decide))
      refine bG (f:=106) (by decide +kernel) (fun _ _ _ _ _ _=>rfl) H1 (.tail (.tail (.tail (.tail .head)))) (.tail (.tail (.tail (.tail (.tail .head))))) ?_
      refine gu (l1:=[_,_,_,_]) H1 (Nat.le_trans q1 (by decide)) hn ok.rsin fun GT=>?_
      refine nn (.tail (.tail (.tail (.tail .head)))) ?_
      refine pi (gs:=r.rs) (.tail (.tail (.tail (.tail .head)))) (by omega) fun D1 gs1 hp1 hs1=>?_
      refine qe (gs:=dQ ks.book r) (.tail .head) ( by (clear q1 q2 q3 q4 hM2; omega)) fun D2 gs2 hp2 hs2=>?_
      refine pE H1 (.tail .head) .head ((ok.okd.perm ok.perm).perm hp1) (ok.okd.perm hp2) ?_
      refine dz (by rw [qz hp1 hp2 ok.perm hs1 hs2]; simp) ?_
      refine fB (gs:=r.given) (hs:=dQ ks.book r) (.tail (.tail (.tail .head))) (.tail (.tail .head)) ( by (clear q1 q2 q4 hM2 hdl; omega)) ( by (clear q1 q2 q3 q4 hM2; omega)) fun GV'=>?_
      refine fB (gs:=r.waiting) (hs:=dQ ks.book r) (.tail (.tail (.tail (.tail (.tail .head))))) (.tail (.tail (.tail .head))) ( by (clear q1 q3 q4 hM2 hdl; omega)) ( by (clear q1 q2 q3 q4 hM2 hs1; omega)) fun WT'=>?_
      have hwl:(bH ks.book r).length≤100:=by unfold bH; rw [length_append]; (clear q1 q3 q4 hM2; omega)
      have hw0:0 < (bH ks.book r).length:=length_pos_iff.mpr ok.ne
      have hix:rJ ks.book r < (bH ks.book r).length:=by unfold rJ; have h1:=Int.fmod_lt_of_pos r.turn (show (0:Int) < (bH ks.book r).length by (clear q1 q2 q3 q4 hM2 hdl hwl; omega)); have h2:=Int.fmod_nonneg_of_pos r.turn (show (0:Int) < (bH ks.book r).length by (clear q1 q2 q3 q4 hM2 hdl hwl h1; omega)); (clear q1 q2 q3 q4 hM2 hdl hwl h2; omega)
      refine E2 (kn hix) fun ps qs q96=>A3 q96 fun e1 e2 e3=>?_
      clear q96
      have e4:ac (bH ks.book r)=ac ps++.str (bf ks.book r) 0::ac qs:=by rw [e1,gx]; rfl
      refine su .head ?_
      refine lL .head (by rw [ao]; exact Nat.le_trans hwl (by decide)) ?_
      rw [ao]
      refine gA (by unfold iz; show (decide (0 < ((bH ks.book r).length:Int)) && decide (((bH ks.book r).length:Int) < 1000000))=true; simp; (clear q1 q2 q3 q4 hM2 hdl hix e2; omega)) ?_
      refine vH (i:=0) (congrArg (fun l=>some (WT',aE.list l)) e4) ?_ (by rw [← e4,ao]; exact Nat.le_trans hwl (by decide)) ?_
      · rw [ao,e2]; unfold rJ; have h2:=Int.fmod_nonneg_of_pos r.turn (show (0:Int) < (bH ks.book r).length by (clear q1 q2 q3 q4 hM2 hdl hwl hix e2; omega)); exact (Int.toNat_of_nonneg h2).symm
      rw [← gx,← e3]
      refine E1 (Ks.row hrows ok.row) fun p hp2=>?_
      have hrow:cT ks.book (bf ks.book r)=p.row:=by unfold cT; rw [hp2.at_]; rfl
      have see3:∀ {a y},dG c1.w l2' a y→∀ f:Led,ae c1.w (f++so1 c1.w S SD DD RN [] (r.po+r.rs.length) r.nf ad (gl r.np r.rs) sc l2') a y:=fun h f=>see h f ⟨[],[],[],gl r.np r.rs,[],r.po+r.rs.length,r.nf,0⟩
      refine aS (see3 ⟨oD,hD1,hD2⟩ [_,_,_,_,_,_,_,_,_]) hp2.va ?_
      refine cS H1 (xs:=[.int p.row.own 0,.ref p.l]) (see3 hp2.tup [_,_,_,_,_,_,_,_,_]) rfl ?_
      have hasks:∀ z ∈ p.zs,fM (bd (dR (bf ks.book r)) z.2.text)=z.2.goal∧(Bat r.words z.2.goal).isSome=true∧z.2.text.length≤1000∧dE (bd (dR (bf ks.book r)) z.2.text):=fun z hz=>ok.asks _ (by rw [hrow]; exact hp2.mem hz)
      refine bp (as:=p.zs) (fun z=>.ref z.1) (fun n:Int=>.int n 0) (fun z=>z.2.sign * kr ((Bat r.words z.2.goal).getD [])) H1 (see3 hp2.lst [_,_,_,_,_,_,_,_,_]) (Nat.le_trans (hp2.len hok) (by decide)) ?_ fun D5=>?_
      · refine bg.of4 fun c4 hw4 H4 nwr hz z hz1 r' acc g1 g2 o1 o2 o3 o4=>?_
        refine A4 (hasks z hz1) fun k1 k2 k3 k4=>?_
        refine E1 (isSome_iff_exists.mp k2) fun v k5=>?_
        refine cS H4 (xs:=[.str z.2.goal 0,.int z.2.sign 0,.str z.2.text 0]) (hw4▸hz.sees (see3 (hp2.each z hz1) [_,_,_,_,_,_,_,_,_])) rfl ?_
        refine qq H4 ok.one.1 k3 ok.one.2 k4 ?_
        rw [k1]
        refine aS (v:=.bytes ((Bat r.words z.2.goal).getD []).toArray 0) (hw4▸hz.sees (.tail (.tail (.tail (.tail (.tail (.tail (.tail .head)))))))) (by rw [eO,k5]; rfl) ?_
        refine pW H4 ?_
        refine jU (rl hok hp2.at_ (hp2.mem hz1) _) ?_
        exact ⟨.refl _,rfl,g1 rfl⟩
      refine wa (ns:=p.zs.map fun z=>z.2.sign * kr ((Bat r.words z.2.goal).getD [])) H1 .head ?_
      have hval:p.row.own+(p.zs.map fun z=>z.2.sign * kr ((Bat r.words z.2.goal).getD [])).sum=mm r.words (cT ks.book (bf ks.book r)):=by rw [hrow]; unfold mm; rw [hp2.asks,List.map_map]; rfl
      refine xf hval ?_
      refine nc H1 ok.val ?_
      refine dv (i:=8) rfl (by show (gD r.words).length≤1000; unfold gD; rw [length_map]; exact Nat.le_trans q4 (by decide)) (rV ok.new) ?_
      refine bG (f:=127) (by decide +kernel) (fun _ _ _ _ _ _=>rfl) H1 (.tail (.tail (.tail (.tail (.tail (.tail (.tail (.tail (.tail (.tail .head)))))))))) (.tail (.tail (.tail (.tail (.tail (.tail (.tail (.tail (.tail (.tail (.tail .head))))))))))) ?_
      refine xH (l1:=[_,_,_,_,_,_,_,_,_,_]) H1 lo (Nat.zero_le _) ok.sucl hn ok.onein ok.np ok.suci ?_
      refine WR.next ⟨eS sc ks.book r,WT',GV',some (.ref DU),pv,some (.ref GT),some (.str (bf ks.book r) 0),some (.int p.row.own 0),some (.ref p.l)⟩ ?_ hI2 hM2 rfl
      exact .drop ((ar.swap [_] [_] _).trans (.keep (.keep (.drop (.drop (.drop (.drop (.drop (.keep (.drop (.refl _)))))))))))
  · have hr2:=hr r WD hp hact lo2
    exact ⟨(WD,.dict (gD r.words))::so1 c1.w S SD DD RN r.rs r.po r.nf ad r.np sc l2',.drop (.drop (.refl _)),_,ar.pre (.keep ((ar.nil' _).trans (sK hfz.weak))) l1,hr2⟩
end
section
set_option tactic.hygienic false
structure GSt where
  ks:List Str
  np:Str→Int
  sc:Str→List Str
noncomputable def gAdd (g:GSt) (x y z:Str):GSt:=⟨bY (bY (bY g.ks x) y) z,upd g.np x (g.np x+2),bO (bO g.sc x y) x z⟩
noncomputable def uX (b:al) (g:GSt) (x:Str):GSt:=match ai b x with
  | [a1,a2]=>gAdd g x a1.goal a2.goal
  | _=>g
noncomputable def ag (b:al) (ps:List Str):GSt:=ps.foldl (uX b) ⟨[],fun _=>0,fun _=>[]⟩
theorem bU (b:al) (ps:List Str) (x:Str):ag b (ps++[x])=uX b (ag b ps) x:=by
  unfold ag; rw [foldl_append]; rfl
structure Ast where
  ad:List NA
  np:Str→Int
  sc:Str→List Str
  p:Option Value
  f:Option Value
structure AIn (b:al) (ps r:List Str) (s:Ast):Prop where
  ex:∃ dn,ps=dn++r∧au s.ad=(ag b dn).ks∧s.np=(ag b dn).np∧s.sc=(ag b dn).sc∧s.ad.length≤3 * dn.length∧∀ v,(s.sc v).length≤2 * dn.length
  ok:kz s.ad s.np s.sc
theorem AIn.mem {b:al} {ps r:List Str} {x:Str} {s:Ast} (h:AIn b ps (x::r) s):x ∈ ps:=by
  refine E1 h.ex fun dn q91=>A2 q91 fun e _=>?_
  clear q91
  rw [e]; exact mem_append_right _ (.head _)
theorem AIn.small {b:al} {ps r:List Str} {x:Str} {s:Ast} (h:AIn b ps (x::r) s) (h5:ps.length=5):s.ad.length≤15∧∀ v,(s.sc v).length≤100:=by
  refine E1 h.ex fun dn q91=>A6 q91 fun e _ _ _ h1 h2=>?_
  clear q91
  have:=congrArg List.length e
  rw [length_append,length_cons] at this
  exact ⟨by omega,fun v=>by have:=h2 v; (clear h1; omega)⟩
theorem fX (ks:List Str) (x:Str):(bY ks x).length≤ks.length+1:=by
  unfold bY; split
  · exact Nat.le_succ _
  · rw [length_append]; exact Nat.le_refl _
theorem AIn.next {b:al} {ps r:List Str} {x:Str} {s:Ast} (h:AIn b ps (x::r) s) {a1 a2:Ask} (ha:ai b x=[a1,a2]) {ad':List NA} (hk:au ad'=bY (bY (bY (au s.ad) x) a1.goal) a2.goal) (hok:kz ad' (upd s.np x (s.np x+2)) (bO (bO s.sc x a1.goal) x a2.goal)) (p f:Option Value):AIn b ps r ⟨ad',upd s.np x (s.np x+2),bO (bO s.sc x a1.goal) x a2.goal,p,f⟩:=by
  refine E1 h.ex fun dn q91=>A6 q91 fun e k1 k2 k3 h1 h2=>?_
  clear q91
  have hg:ag b (dn++[x])=gAdd (ag b dn) x a1.goal a2.goal:=by rw [bU]; unfold uX; rw [ha]
  refine ⟨⟨dn++[x],by rw [e,append_assoc]; rfl,?_,?_,?_,?_,fun v=>?_⟩,hok⟩
  · rw [hg,hk,k1]; rfl
  · rw [hg,k2]; rfl
  · rw [hg,k3]; rfl
  · have e1:ad'.length=(au ad').length:=(length_map _).symm
    have e2:s.ad.length=(au s.ad).length:=(length_map _).symm
    have l1:=fX (au s.ad) x
    have l2:=fX (bY (au s.ad) x) a1.goal
    have l3:=fX (bY (bY (au s.ad) x) a1.goal) a2.goal
    rw [length_append,length_singleton]
    show ad'.length≤_
    rw [e1,hk]; (clear e1; omega)
  · have l1:=jg (sc:=bO s.sc x a1.goal) (jg h2 x a1.goal) x a2.goal v
    rw [length_append,length_singleton]
    show (bO (bO s.sc x a1.goal) x a2.goal v).length≤_
    omega
theorem AIn.start {b:al} {ps:List Str} (p f:Option Value):AIn b ps ps ⟨[],fun _=>0,fun _=>[],p,f⟩:=⟨⟨[],rfl,rfl,rfl,rfl,Nat.le_refl _,fun _=>Nat.le_refl _⟩,⟨nodup_nil,fun _ _=>⟨rfl,rfl⟩⟩⟩
theorem AIn.done {b:al} {ps:List Str} {s:Ast} (h:AIn b ps [] s) (h5:ps.length=5):au s.ad=(ag b ps).ks∧s.np=(ag b ps).np∧s.sc=(ag b ps).sc∧s.ad.length≤20∧∀ v,(s.sc v).length≤100:=by
  refine E1 h.ex fun dn q91=>A6 q91 fun e k1 k2 k3 h1 h2=>?_
  clear q91
  rw [append_nil] at e
  subst e
  exact ⟨k1,k2,k3,by omega,fun v=>by have:=h2 v; omega⟩
end
section
set_option tactic.hygienic false
theorem kO {W:Wds} (nd:(W.map (·.1)).Nodup) {p:Str×List UInt8} (h:p ∈ W):Bat W p.1=some p.2:=by
  induction W with
  | nil=>cases h
  | cons q r ih =>
    obtain ⟨n1,n2⟩:=nodup_cons.mp nd
    unfold Bat
    rw [find?_cons]
    clear nd
    rcases mem_cons.mp h with rfl | h
    · simp
    · have:(decide (q.1=p.1))=false:=decide_eq_false fun e=>n1 (mem_map.mpr ⟨p,h,e.symm⟩)
      rw [this]; exact ih n2 h
noncomputable abbrev eB (W:Wds):List (Str×Int):=W.map fun p=>(p.1,kr p.2)
noncomputable def CJ (W:Wds) (rr:List Value) (kv:KVs):Prop:=∃ dn rest,W=dn++rest∧rr=ac (rest.map (·.1))∧kv=dM (eB dn)
theorem oF {V:List (Str×Int)} {k:Str} (h:k ∉ V.map (·.1)):valueAt (dM V) k=none:=by
  unfold valueAt
  rw [map_eq_none_iff,find?_eq_none]
  intro q hq
  refine E1 (mem_map.mp hq) fun p q91=>A2 q91 fun hp e92=>?_
  clear q91
  clear hq
  first | subst e92 | cases e92
  simp only [decide_eq_true_eq]
  exact fun e=>h (by rw [← e]; exact mem_map_of_mem (f:=fun p:Str×Int=>p.1) hp)
theorem CJ.head {W:Wds} (nd:(W.map (·.1)).Nodup) {x:Value} {rr:List Value} {kv:KVs} (h:CJ W (x::rr) kv):∃ p,p ∈ W∧x = .str p.1 0∧CJ W rr (stored kv p.1 (.int (kr p.2) 0))∧(stored kv p.1 (.int (kr p.2) 0)).length≤W.length:=by
  refine E2 h fun dn rest q91=>A3 q91 fun e92 e2 e93=>?_
  try clear h
  clear q91
  first | subst e92 | cases e92
  first | subst e93 | cases e93
  cases rest with
  | nil=>cases e2
  | cons p rest =>
    obtain ⟨e3,e4⟩:=List.cons.inj e2
    have hnone:valueAt (dM (eB dn)) p.1=none:=by
      refine oF fun hm=>?_
      rw [map_append] at nd
      refine (nodup_append.mp nd).2.2 p.1 ?_ p.1 (.head _) rfl
      unfold eB at hm
      rw [List.map_map] at hm
      exact hm
    have es:stored (dM (eB dn)) p.1 (.int (kr p.2) 0)=dM (eB (dn++[p])):=by
      rw [bJ hnone]
      unfold dM eB
      rw [map_append,map_append]; rfl
    refine ⟨p,mem_append_right _ (.head _),e3,⟨dn++[p],rest,by rw [append_assoc]; rfl,e4,es⟩,?_⟩
    rw [es]
    unfold dM eB
    simp
theorem CJ.done {W:Wds} {kv:KVs} (h:CJ W [] kv):kv=dM (eB W):=by
  refine E2 h fun dn rest q91=>A3 q91 fun e92 e2 e93=>?_
  try clear h
  clear q91
  first | subst e92 | cases e92
  first | subst e93 | cases e93
  cases rest with
  | nil=>rw [append_nil]
  | cons p r=>cases e2
theorem CJ.start {W:Wds}:CJ W (ac ((gD W).map (·.1))) []:=⟨[],W,rfl,by rw [jA],rfl⟩
theorem to (np:Str→Int):gl np []=np:=by funext y; unfold gl; rw [if_neg (by simp)]
end
section
noncomputable def be (ps:List Str) (b:al):List Str:=ps.filter fun x=>(Wat (aB b) x).isNone
structure we (ps:List Str) (b:al) (r:RS):Prop where
  rs:r.rs=[]
  nd:(r.words.map (·.1)).Nodup
  len:r.words.length=(aB b).length
  val:∀ p ∈ r.words,Wat (aB b) p.1=some (kr p.2)
  let_:∀ p ∈ r.words,(∀ c ∈ p.2,nb c)∧p.2.length≤8∧p.2.head?≠some 65
  np:∀ x ∈ ps,(x ∈ be ps b→0≤r.np x)∧(x ∉ be ps b→r.np x = -2)
noncomputable def bR (b:al) (ps:List Str) (turn:Int):RS:=⟨[],[],[],(ag b ps).np,(ag b ps).ks.filter fun x=>decide ((ag b ps).np x=0),0,0,turn⟩
structure xT (ps:List Str) (b:al) (turn:Int) (res:Option (List Str)):Prop where
  iff:res=none↔be ps b=[]
  ring:∀ rs,res=some rs→eY b (be ps b) rs
  okr:∀ rs,res=some rs→OkS rs
  run:∃ (Iv:RS→Prop) (Ms:RS→Nat),Iv (bR b ps turn)∧(∀ r,Iv r→sz b r)∧(∀ r,Iv r→bF r=true→mn (ag b ps).ks (ag b ps).sc b r∧Iv (eS (ag b ps).sc b r)∧Ms (eS (ag b ps).sc b r) < Ms r)∧∀ r,Iv r→bF r=false→we ps b r
structure qc (ps:List Str) (b:al) (turn:Int):Prop where
  refs:∀ x ∈ ps,x ∈ (ag b ps).ks∧(reprText x).length≤100∧(∀ k:Int,0≤k→nV x k = "node '" ++ x ++ "' " ++ "was not passed out (still not ready)")∧nV x (-2) = "node '" ++ x ++ "' " ++ "was already marked done"
  ex:∃ res,goF (ag b ps).sc 100 (ag b ps).ks []=some res∧(∀ x,∀ y ∈ (ag b ps).sc x,y ∈ (ag b ps).ks)∧xT ps b turn res
structure xr (hs os ws:List Int) (turn:Int):Prop where
  filed:cR hs os 5=aF hs os 5
  oks:OkS (aF hs os 5)
  nd:(aF hs os 5).Nodup
  len:∀ x ∈ aF hs os 5,x.length≤30∧(0≤Txt.count x "/" ∧ Txt.count x "/" ≤ 10)
  dir:∀ x ∈ aF hs os 5,(dR x).length≤1000
  bok:di (bu (aF hs os 5) os ws)
  rows:∀ x ∈ aF hs os 5,∃ own a1 a2,(bu (aF hs os 5) os ws).at x=some ⟨own,[a1,a2]⟩
  found:∀ x ∈ aF hs os 5,∀ a ∈ ai (bu (aF hs os 5) os ws) x,fM (bd (dR x) a.text)=a.goal∧a.text.length≤1000∧dE (bd (dR x) a.text)
  okg:∀ x ∈ aF hs os 5,∀ a1 a2,ai (bu (aF hs os 5) os ws) x=[a1,a2]→OkS [a1.goal,a2.goal]
  rest:qc (aF hs os 5) (bu (aF hs os 5) os ws) turn
end
section
set_option tactic.hygienic false
noncomputable def ik:List Int:=[60015,204110,55065,70005,60010,1463,2800,505,3100,1750]
theorem rR {i:Nat} (h:i < 10):(bM ik)[((i:Int)).toNat]? = some (.int (ik.getD i 0) 0):=by
  rw [Int.toNat_natCast]; unfold bM
  rw [List.getElem?_map,List.getElem?_eq_getElem (show i < ik.length from h),getD_eq_getElem?_getD,List.getElem?_eq_getElem (show i < ik.length from h)]; rfl
theorem gM (ns:List Int) (k:Nat):bM (ns.drop k)=(bM ns).drop k:=by unfold bM; exact map_drop
noncomputable abbrev lawM (D:Addr):FM:=[some (.ref D),none,none,none,none,none,none,none,none,none,none,none,none,none,none,none]
theorem wj {name:Str} {body:List Stmt} {scope:Scope} {cdv:Value} {f:Addr} {w:World} {p:Program} {loose:List Str} {mean:ExcName→Option Value} {mg mb:Str→Option Value} {s₁:Shared} {h₁:Heap} {tk:Tok} {cells:List (Addr×Obj)} {binds:List (Str×Value)} {ir:List IS} {Q:Flow→Shared→Prop} {E:Value→Shared→Prop} {D:Addr} {us:List Value} (hl:s₁.heap.IsList D us.toArray)
    (K:(FK w).In s₁.heap) (T:Top p loose mean mg mb s₁.heap) (hk:scope.kind = .function) (hnd:bw scope.names=true)
    (F:Fr s₁.heap s₁.heap.objs.size h₁ (bindL (envOfC name scope s₁.heap.objs.size f cdv).kindOf binds fun _=>none)) (N:News s₁.heap s₁.heap.objs.size h₁ cells)
    (X:CellsAre (bindC (envOfC name scope s₁.heap.objs.size f cdv).kindOf binds fun _=>none) (cellsFrom (s₁.heap.objs.size+1) scope.names []) cells)
    (hM:dg (af scope.names) binds=lawM D) (hB:CB ⟨scope.names,af scope.names⟩ body ir)
    (h:∀ c,c.sc=⟨scope.names,af scope.names⟩→c.h₀.IsList D us.toArray→c.outer=[]→Cok c 60→bo c→wpS c 60 ir (lawM D) [] fun fl _ _=>fl = .ret (.bool true))
    (hQ:∀ h' tk' m',Fr s₁.heap s₁.heap.objs.size h' m'→Q (.ret (.bool true)) { s₁ with heap:=h',toks:=tk' }) :
    wpAny (model PG w) (callerA.deeper (envOfC name scope s₁.heap.objs.size f cdv)) (execs body (envOfC name scope s₁.heap.objs.size f cdv)) Q E { s₁ with heap:=h₁,toks:=tk } :=
  xS K T hk hnd F N X hM hB (fun c h1 _ h3 h4 h5 h6=>h c h1 (h3▸hl) h4 h5 h6) hQ
theorem slc5 {nl:List Int} (h:nl.length=10):(kp nl 4 (-1)).length=5:=by
  refine hG fun G9 k9=>?_
  refine E2 (gG h) fun _ l1 q91=>A2 q91 fun e92 h1=>?_
  clear q91
  first | subst e92 | cases e92
  clear h
  refine E2 (gG h1) fun _ l2 q93=>A2 q93 fun e94 h2=>?_
  clear q93
  first | subst e94 | cases e94
  refine E2 (gG h2) fun _ l3 q95=>A2 q95 fun e96 h3=>?_
  clear q95
  first | subst e96 | cases e96
  refine E2 (gG h3) fun _ l4 q97=>A2 q97 fun e98 h4=>?_
  clear q97
  first | subst e98 | cases e98
  refine E2 (gG h4) fun _ l5 q99=>A2 q99 fun e910 h5=>?_
  clear q99
  first | subst e910 | cases e910
  refine E2 (gG h5) fun _ l6 q911=>A2 q911 fun e912 h6=>?_
  clear q911
  first | subst e912 | cases e912
  refine E4 (len4 h6) fun _ _ _ _ e913=>?_
  first | subst e913 | cases e913
  refine k9 ?_
  rfl
theorem nG (ns:List Int) (a b:Int):kp (bM ns) a b=bM (kp ns a b):=by
  unfold kp bM
  rw [length_map,List.map_filterMap]
  congr 1
  funext i
  rw [List.getElem?_map]
theorem tt (nl:List Int):∀ o ∈ (nl.drop 5).map (fun n=>Int.fmod n 1000 - 500),-500≤o∧o≤500:=fun o ho=>by
  refine E1 (mem_map.mp ho) fun n q91=>A2 q91 fun _ e92=>?_
  clear q91
  first | subst e92 | cases e92
  have h1:=Int.fmod_lt_of_pos n (show (0:Int) < 1000 by decide)
  have h2:=Int.fmod_nonneg_of_pos n (show (0:Int) < 1000 by decide)
  constructor <;> omega
theorem DoF.freezeT {c:Cx} {M:FM} {t:IT} {v:Value} {b:List IS} {R:Flow→FM→Led→Prop} {front mid:Led} (h:∀ mid',dL c.w mid mid'→DoF c t v b M (front++mid') R):DoF c t v b M (front++mid) R:=by
  rw [← append_nil mid]
  exact DoF.freezeM fun mid' hz=>by rw [append_nil]; exact h mid' hz
noncomputable def RingV (rv:Value) (X:Led):Option (List Str)→Prop
  | none=>rv = .none∧X=[]
  | some rs=>∃ D,rv = .ref D∧X=[(D,.list (ac rs))]
theorem jD {R:Value→FM→Led→Prop} {M:FM} {nw:Led} {res:Option (List Str)} (h:∀ rv X,RingV rv X res→R rv M (X++nw)):tT R M nw res:=by
  cases res with
  | none=>exact h _ _ ⟨rfl,rfl⟩
  | some rs=>exact fun D=>h _ [_] ⟨D,rfl,rfl⟩
theorem Do.led {c:Cx} {op:Op} {vs:List Value} {M:FM} {nw nw':Led} {R:Value→FM→Led→Prop} (e:nw=nw') (h:Do c op vs M nw' R):Do c op vs M nw R:=e▸h
theorem join2 {b:Bool} {P1 P2 G:Prop} (g:G) (h1:b=true→G→P1) (h2:b=false→G→P2):bif b then P1 else P2:=by
  cases b with
  | true=>exact h1 rfl g
  | false=>exact h2 rfl g
theorem kF {c:Cx} {M:FM} {l1 FO l2:Led} {rm:Nat} (H:Cok c (rm+7)) (FC:bo c) (FR:dr FO c.outer) {S SD DD:Addr} {ad:List NA} {np:Str→Int} {sc:Str→List Str} (lo:(DD == sysModules)=false) (hz:ad.length≤20) (hs:∀ v,(sc v).length≤100) (hnd:(au ad).Nodup) (hin:∀ x,∀ y ∈ sc x,y ∈ au ad)
    (fuel:Nat) (hfu:fuel≤900) (res:Option (List Str)) (hres:goF sc fuel (au ad) []=some res) {R:Value→FM→Led→Prop}
    (hr:∀ RN q,q=("ring" : Str)→R (if res=none then .none else .str q 0) M (l1++(so1 c.w S SD DD RN (fj ad np) 0 0 ad np sc FO++l2))) :
    Do c .call [.ref 311,.ref S] M (l1++(so0 c.w S SD DD ad np sc FO++l2)) R:=oT H FC FR lo hz hs hnd hin fuel hfu res hres fun RN=>hr RN _ rfl
theorem rO (ad:List NA) (np:Str→Int):fj ad np=(au ad).filter fun x=>decide (np x=0):=by
  unfold fj au; rw [filter_map]; rfl
theorem pJ {α:Type} (l:List α):l.filter (fun _=>false)=[]:=filter_eq_nil_iff.mpr fun _ _ h=>nomatch h
structure Lst2 where
  p:Option Value
  y:Option Value
theorem pu {c:Cx} {M:FM} {nw:Led} {R:Value→FM→Led→Prop} {x y:Str} {n m:Nat} (hx:x.length≤n) (hy:y.length≤m) (hz:Nat.ble (n+m) 10000=true) (hr:∀ z,z=x++y→R (.str z 0) M nw):Do c (.bin .Add) [.str x 0,.str y 0] M nw R:=aK hx hy hz (hr _ rfl)
theorem hZ {c:Cx} {M:FM} {l1 FO l2:Led} {rm:Nat} (H:Cok c (rm+7)) (FC:bo c) (FR:dr FO c.outer) {S SD DD RN:Addr} {rs:List Str} {po nf:Int} {ad:List NA} {np:Str→Int} {sc:Str→List Str} {x:Str} {k:Int} (lo:(DD == sysModules)=false) (hn:(au ad).Nodup) (hx:x ∈ au ad) (hnp:np x=k) (hk:k = -2∨0≤k) (hl:(reprText x).length≤100) {R:Value→FM→Led→Prop}
    (hr:∀ q,q=nV x k→R (.str q 0) M (l1++(so1 c.w S SD DD RN rs po nf ad np sc FO++l2))) :
    Do c .call [.ref 318,.ref S,.str x 0] M (l1++(so1 c.w S SD DD RN rs po nf ad np sc FO++l2)) R:=ro H FC FR lo hn hx hnp hk hl (hr _ rfl)
theorem qf {w:World} {a b:Led} (e:b=a):ar w a b:=e▸.refl _
theorem uT {r:RS} (h:bF r=false) (hr:r.rs=[]):Bool.or (decide (r.nf < r.po+(([]:List Str).length:Int))) (!([]:List Str).isEmpty)=false:=by
  unfold bF at h
  rw [hr] at h
  rw [show r.po+(([]:List Str).length:Int)=r.po from Int.add_zero _]
  exact h
theorem xz (P:∀ hs os ws turn,hs.length=5→os.length=5→ws.length=5→(∀ o ∈ os,-500≤o∧o≤500)→xr hs os ws turn):PySem.Challenge.rw_il0094_01.Holds:=hd (by
  k_go0
  rename Fr _ _ _ _=>F9
  rename News _ _ _ _=>N9
  rename CellsAre _ _ _=>X9
  rename Frag.In _ _=>K9
  rename Top _ _ _ _ _ _=>T9
  rename IntsAre _ _=>I9
  rename Heap.IsList _ _ _=>L9
  rename List Value=>us
  rename List Int=>script
  have hsl:script.length≤63:=by
    have:=‹¬ ((63:Nat):Int) < ((script.length:Nat):Int)›
    omega
  have hPG:PG=RowW.prog (OpenRow.toRowW (OpenLaw.row Challenge.rw_il0094_01)):=rfl
  refine' wj ?l ?K ?T ?hk ?hnd ?F ?N ?X ?hM ?hB ?h ?hQ
  case l=>exact L9
  case F=>exact F9
  case N=>exact N9
  case X=>exact X9
  case K=>exact K9
  case T=>exact T9
  case hk=>kernel_rfl
  case hnd=>kernel_rfl
  case hM=>kernel_rfl
  case hB=>repeat' first | (with_reducible (apply CX.fold; apply CXs.var)) <;> exact rfl | (with_reducible (apply CX.fold; apply CXs.glob)) <;> (first | exact rfl | decide +kernel) | with_reducible exact CX.fold (@CXs.raw _ _ (PySem.Expr.Name _ _)) | with_reducible exact CX.fold (@CXs.raw _ _ (PySem.Expr.Call _ [_,PySem.Expr.Starred _ _] _ _)) | with_reducible (apply CB.fold; apply CBs.asgc) | with_reducible (apply CX.fold; constructor) | with_reducible (apply CB.fold; constructor) | with_reducible constructor | exact bD.no (fun _ _ _ _=>rfl) rfl rfl | exact bD.yes (fun _ _ _ _=>rfl) rfl rfl | exact rfl | decide +kernel
  case hQ=>intro h' tk' m' F'; wrow_close
  case h =>
    clear hPG
    intro c1 hsc hl ho H1 FC
    refine ⟨H1.hh,?_⟩
    intro Dfx
    refine wI H1 hl I9 ?_
    generalize script.sum=turn
    refine dh fun Dr=>?_
    obtain ⟨g,hg⟩ : ∃ g:Nat→Int,g=fun i:Nat=>ik.getD i 0+(kp script (i:Int) 10).sum:=⟨_,rfl⟩
    refine ff (n:=10) (GJ (fun i:Nat=>.int (i:Int) 0) (fun n:Int=>.int n 0) (fun _=>true) g (List.range' 0 10)) H1 .head (by decide) GJ.start ?_ fun acc hacc D1=>?_
    · refine gj.of2 fun c2 hw2 h02 H2 nwr hz i hi r acc g1 g2 o1 o2=>?_
      have hi10:i < 10:=by have:=List.mem_range'.mp hi; omega
      refine kU (v:=.int (ik.getD i 0) 0) (hw2▸hz.sees (.tail .head)) (Int.natCast_nonneg i) (by omega) (rR hi10) ?_
      refine slc3B (h02▸hl) I9 ( by (clear hi10; omega)) (by decide) fun D2=>?_
      refine wa H2 .head ?_
      exact ⟨.drop (.refl _),rfl,hg▸g1 rfl⟩
    obtain ⟨nl,hnl,hlen⟩ : ∃ nl:List Int,acc=bM nl∧nl.length=10:=⟨(List.range' 0 10).map g,by rw [hacc.done]; rfl,by rw [length_map]; rfl⟩
    subst hnl
    clear hacc hg
    refine ⟨H1.hh,?_⟩
    refine uW (a:=5) .head (by rw [gr]; omega) fun D2=>?_
    rw [← gM]
    refine bp (as:=nl.drop 5) (fun n:Int=>.int n 0) (fun n:Int=>.int n 0) (fun n=>Int.fdiv n 1000) H1 .head (by rw [length_drop]; omega) ?_ fun Hd=>?_
    · refine bg.of2 fun c2 hw2 H2 nwr hz n hn r acc g1 g2 o1 o2=>?_
      exact ⟨.refl _,rfl,g1 rfl⟩
    refine uW (a:=5) (.tail (.tail .head)) (by rw [gr]; omega) fun D3=>?_
    rw [← gM]
    refine bp (as:=nl.drop 5) (fun n:Int=>.int n 0) (fun n:Int=>.int n 0) (fun n=>Int.fmod n 1000 - 500) H1 .head (by rw [length_drop]; omega) ?_ fun Od=>?_
    · refine bg.of2 fun c2 hw2 H2 nwr hz n hn r acc g1 g2 o1 o2=>?_
      exact ⟨.refl _,rfl,g1 rfl⟩
    obtain ⟨hs,hhs,hsl5⟩ : ∃ hs:List Int,hs=(nl.drop 5).map (fun n=>Int.fdiv n 1000)∧hs.length=5:=⟨_,rfl,by rw [length_map,length_drop]; omega⟩
    obtain ⟨os,hos,osl5⟩ : ∃ os:List Int,os=(nl.drop 5).map (fun n=>Int.fmod n 1000 - 500)∧os.length=5:=⟨_,rfl,by rw [length_map,length_drop]; (clear hsl5; omega)⟩
    obtain ⟨ws,hws,wsl5⟩ : ∃ ws:List Int,ws=kp nl 4 (-1)∧ws.length=5:=⟨_,rfl,slc5 hlen⟩
    rw [← hhs,← hos]
    have psl5:(aF hs os 5).length=5:=by unfold aF; rw [length_map,length_range]
    obtain ⟨p1,p2,p3,p4,pD,pB,pR,pF,pK,pL⟩:=P hs os ws turn hsl5 osl5 wsl5 (hos▸tt nl)
    refine sJ H1 (hH:=.tail (.tail .head)) (hO:=.head) hsl5 osl5 fun Pl=>?_
    refine vn H1 (hH:=.tail (.tail (.tail .head))) (hO:=.tail .head) hsl5 osl5 fun Fl=>?_
    refine pE H1 .head (.tail .head) (p1▸p2) p2 ?_
    refine dz (by rw [p1]; simp) ?_
    refine ⟨H1.hh,?_⟩
    refine slc3 (a:=4) (b:=-1) (.tail (.tail (.tail (.tail (.tail (.tail .head)))))) (by rw [gr]; omega) (by decide) fun Dw=>?_
    rw [nG,← hws]
    refine xx H1 (hP:=.tail (.tail .head)) (hO:=.tail (.tail (.tail .head))) (hW:=.head) psl5 osl5 wsl5 p3 (fun x hx=>(p4 x hx).1) (fun x hx=>(p4 x hx).2) fun B new hB0=>?_
    generalize bu (aF hs os 5) os ws=b at hB0 pB pR pF pK pL
    generalize aF hs os 5=ps at p1 p2 p3 p4 pD pR pF pK pL psl5 ⊢
    refine v_new (np:=fun _=>0) (sc:=fun _=>[]) H1 fun S SD DD lo=>?_
    rw [← bv]
    refine DoF.freezeT (front:=so0 c1.w S SD DD [] (fun _=>0) (fun _=>[]) []) fun T hfz=>?_
    rw [bv]
    have hB1:iw (dG c1.w T) B (b):=hB0.mono fun a x h=>hfz.seesR h.app
    refine E1 hB1.ex fun ks q910=>A3 q910 fun q911 e912 hrows=>?_
    clear q910
    refine E1 q911 fun oB q913=>A2 q913 fun hD1 hD2=>?_
    try clear q911
    clear q913
    clear hB0
    first | subst e912 | cases e912
    obtain ⟨oP,q1,q2⟩ : dG c1.w T Pl (.list (ac (ps))):=hfz.seesR (ae.pre (.tail (.tail .head)) new)
    refine ee (as:=ps) (e:=fun x:Str=>.str x 0) (k:=50) (Ms:=fun s:Ast=>[some (.ref _),some (.ref Dfx),some (.int turn 0),some (.ref D1),some (.ref Hd),some (.ref Od),some (.ref Pl),some (.ref B),some (.ref S),s.p,s.f,none,none,none,none,none]) (fun s=>so0 c1.w S SD DD s.ad s.np s.sc T) (AIn ks.book ps) ⟨[],fun _=>0,fun _=>[],none,none⟩ H1 q2 (fun s=>mem_append_right _ (mem_append_right _ (mem_append_right _ (mem_append_right _ q1)))) rfl rfl (AIn.start _ _) ?_ ?_
    · intro c2 hsc2 hw2 H2 x r s hq
      refine E3 (pR x hq.mem) fun own a1 a2 ha=>?_
      obtain ⟨p,hp2⟩:=Ks.row hrows (by rw [ha]; rfl)
      have hrow:p.row=⟨own,[a1,a2]⟩:=Option.some.inj (hp2.at_.symm.trans ha)
      have hzs:p.zs.map (·.2)=[a1,a2]:=by rw [← hp2.asks,hrow]
      have has:ai ks.book x=[a1,a2]:=by unfold ai; rw [ha]; rfl
      have see:∀ {a y},dG c1.w T a y→∀ f:Led,ae c2.w (f++so0 c1.w S SD DD s.ad s.np s.sc T) a y:=fun h f=>by
        rw [hw2]
        exact ((((h.sees.pre (nC s.ad)).pre (nB s.ad s.sc)).pre (nA s.ad s.np)).pre (srL c1.w S SD DD .none 0 0 s.ad)).pre f
      have hz2:p.zs.length≤1000:=by have:=congrArg List.length hzs; rw [length_map] at this; exact Nat.le_trans (Nat.le_of_eq this) (Nat.le_of_ble_eq_true rfl)
      refine aS (see ⟨oB,hD1,hD2⟩ []) hp2.va ?_
      refine dS (see hp2.tup []) (by decide) (by decide) rfl ?_
      refine bp (as:=p.zs) (fun z=>.ref z.1) (fun x:Str=>.str x 0) (fun z=>z.2.goal) H2 (see hp2.lst []) hz2 ?_ fun D4=>?_
      · refine bg.of4 fun c4 hw4 H4 nwr hz z hz1 r' acc g1 g2 o1 o2 o3 o4=>?_
        obtain ⟨k1,k2,k3⟩:=pF x hq.mem z.2 (by rw [has,← hzs]; exact mem_map_of_mem hz1)
        refine cS H4 (xs:=[.str z.2.goal 0,.int z.2.sign 0,.str z.2.text 0]) (hw4▸hz.sees (see (hp2.each z hz1) [])) rfl ?_
        refine qq H4 (Nat.le_trans (p4 x hq.mem).1 (by decide)) k2 (pD x hq.mem) k3 ?_
        rw [k1]
        exact ⟨.refl _,rfl,g1 rfl⟩
      refine aS (see ⟨oB,hD1,hD2⟩ [_]) hp2.va ?_
      refine dS (see hp2.tup [_]) (by decide) (by decide) rfl ?_
      refine bp (as:=p.zs) (fun z=>.ref z.1) (fun x:Str=>.str x 0) (fun z=>z.2.goal) H2 (see hp2.lst [_]) hz2 ?_ fun D5=>?_
      · refine bg.of4 fun c4 hw4 H4 nwr hz z hz1 r' acc g1 g2 o1 o2 o3 o4=>?_
        refine cS H4 (xs:=[.str z.2.goal 0,.int z.2.sign 0,.str z.2.text 0]) (hw4▸hz.sees (see (hp2.each z hz1) [_])) rfl ?_
        exact ⟨.refl _,rfl,g1 rfl⟩
      have eg:(p.zs.map fun z=>z.2.goal)=[a1.goal,a2.goal]:=by rw [show (fun z:Addr×Ask=>z.2.goal)=Ask.goal ∘ (·.2) from rfl,← List.map_map,hzs]; rfl
      rw [eg]
      have okg:OkS [a1.goal,a2.goal]:=pK x hq.mem a1 a2 has
      refine pE H2 (gs:=[a1.goal,a2.goal]) (hs:=[a1.goal,a2.goal]) (.tail .head) .head okg okg ?_
      refine dz (by simp) ?_
      rw [← hw2]
      refine qE (i:=8) (j:=9) (k:=10) H2 (S:=S) (SD:=SD) (.tail (.tail .head)) (.tail (.tail (.tail .head))) (by rw [hsc2,hsc]; rfl) (by decide +kernel) rfl (by rw [hsc2,hsc]; rfl) (by decide +kernel) rfl (by rw [hsc2,hsc]; rfl) (by decide +kernel) rfl (.tail .head) (Nat.le_of_ble_eq_true rfl) fun m=>?_
      refine v_add (l1:=[_,_,_]) H2 lo (hq.small psl5).1 hq.ok (hq.small psl5).2 (hq:=.head) fun ad' hk hok=>?_
      rw [hw2]
      exact LR.pair ⟨ad',upd s.np x (s.np x+2),bO (bO s.sc x a1.goal) x a2.goal,some (.str x 0),some (.ref D4)⟩ (.drop (.drop (.drop (.refl _)))) (hq.next has hk hok _ _) rfl
    · intro s hq
      obtain ⟨ad,np,sc,pv,fv⟩:=s
      refine A5 (hq.done psl5) fun kK kN kS kl ksl=>?_
      dsimp only at kK kN kS kl ksl
      have hnd:=hq.ok.nd
      dsimp only at hnd
      have pref:=pL.refs
      refine E1 pL.ex fun res q920=>A3 q920 fun gres pin pst=>?_
      clear q920
      rw [← kS] at gres pin
      rw [← kK] at gres pin
      have see:∀ {a y},dG c1.w T a y→∀ f:Led,ae c1.w (f++so0 c1.w S SD DD ad np sc T) a y:=fun h f=>((((h.sees.pre (nC ad)).pre (nB ad sc)).pre (nA ad np)).pre (srL c1.w S SD DD .none 0 0 ad)).pre f
      have FR:dr [] c1.outer:=fun env he=>by rw [ho] at he; cases he
      refine ⟨H1.hh,?_⟩
      refine sR H1 (hB:=hB1.mono fun a x h=>see h []) pB fun Wd lw=>?_
      refine bG (f:=134) (by decide +kernel) (fun _ _ _ _ _ _=>rfl) H1 (.tail .head) (.tail (.tail .head)) ?_
      refine qt (l1:=[_]) (mid:=so0 c1.w S SD DD ad np sc []) (FO:=[]) (l2:=T) H1 FC FR lo kl ksl hnd pin .head (.tail .head) (.tail (.tail .head)) (fun n hn=>⟨pr hn,vp hn,oJ hn⟩) 100 res gres (by rw [nil_append,bv]; rfl) ?_
      refine jD fun rv X hX=>?_
      refine cK (as:=ps) (fun x=>.str x 0) (fun x:Str=>.str x 0) (fun x=>(Wat (aB ks.book) x).isNone) id H1 ((see ⟨oP,q1,q2⟩ [_]).pre X) (by rw [psl5]; decide) ?_ fun Sk=>?_
      · refine bg.of2 fun c4 hw4 H4 nwr hz x hx1 r' acc g1 g2 o1 o2=>?_
        refine eh lw (hw4▸hz.sees (ae.head.pre X)) ?_
        refine aN (fun h=>?_) fun h=>?_
        · exact ⟨.refl _,rfl,g1 (by rw [bV,isSome_map] at h; rw [da h]; rfl)⟩
        · exact ⟨.refl _,rfl,g2 (by rw [bV,isSome_map] at h; obtain ⟨v,e⟩:=isSome_iff_exists.mp (iM h); rw [e]; rfl)⟩
      rw [List.map_id]
      have hskl:(be ps ks.book).length≤100:=Nat.le_trans (length_filter_le _ _) (by rw [psl5]; decide)
      have ringed:∀ {M:FM} {R:Value→FM→Led→Prop},R (.bool true) M ((Sk,.list (ac (be ps ks.book)))::(X++((Wd,.dict (cU (aB ks.book)))::so0 c1.w S SD DD ad np sc T)))→Do c1 .call [.ref 304,rv,.ref B,.ref Sk] M ((Sk,.list (ac (be ps ks.book)))::(X++((Wd,.dict (cU (aB ks.book)))::so0 c1.w S SD DD ad np sc T))) R:=by
        intro M R hr
        have hB2:iw (ae c1.w ((Sk,.list (ac (be ps ks.book)))::(X++((Wd,.dict (cU (aB ks.book)))::so0 c1.w S SD DD ad np sc T)))) B ks.book:=hB1.mono fun a x h=>((see h [_]).pre X).tail
        clear gres
        cases res with
        | none =>
          clear hB2
          obtain ⟨rfl,rfl⟩:=hX
          have e:=pst.iff.mp rfl
          rw [e] at hr ⊢
          exact jc H1 (hS:=.head) hr
        | some rs =>
          refine E1 hX fun Rg q924=>A2 q924 fun e925 e926=>?_
          try clear hX
          clear q924
          first | subst e925 | cases e925
          first | subst e926 | cases e926
          exact tG H1 (hR:=.tail .head) (hB:=hB2) (hK:=.head) (hne:=fun e=>nomatch pst.iff.mpr e) (hsl:=hskl) pB (pst.ring rs rfl) hr
      refine ringed ?_
      obtain ⟨fr,hfr⟩ : ∃ fr:Led,fr=(Sk,.list (ac (be ps ks.book)))::(X++[(Wd,.dict (cU (aB ks.book)))]):=⟨_,rfl⟩
      have hSk:∀ nw,ae c1.w (fr++nw) Sk (.list (ac (be ps ks.book))):=fun nw=>hfr▸.head
      have hWd:∀ nw,ae c1.w (fr++nw) Wd (.dict (cU (aB ks.book))):=fun nw=>hfr▸(ae.app (ae.pre .head X)).tail
      have hRg:∀ rs,res=some rs→∃ D,rv = .ref D∧∀ nw,ae c1.w (fr++nw) D (.list (ac rs)):=fun rs e=>by
        clear gres pst
        subst e
        refine E1 hX fun D q927=>A2 q927 fun h1 e928=>?_
        try clear hX
        clear q927
        clear ringed
        first | subst e928 | cases e928
        exact ⟨D,h1,fun nw=>hfr▸ae.tail .head⟩
      have hRn:res=none→rv = .none:=fun e=>by subst e; exact hX.1
      refine Do.led (nw':=fr++(so0 c1.w S SD DD ad np sc []++T)) (by rw [hfr,bv,cons_append,append_assoc]; rfl) ?_
      refine kF (l1:=fr) (FO:=[]) (l2:=T) H1 FC FR lo kl ksl hnd pin 100 (by decide) res gres fun RN q hq9=>?_
      refine aV (hSk _) (Nat.le_trans hskl (by decide)) ?_
      refine' join2 (b:=!(be ps ks.book).isEmpty) (G:=?G9) ?g9 ?h19 ?h29
      case h19 =>
        intro hb g
        rw [if_neg (fun e=>by rw [pst.iff.mp e] at hb; cases hb)]
        refine dz (b:=!decide (q = "ring")) (by rw [hq9]; simp) ?_
        exact g
      case h29 =>
        intro hb g
        rw [if_pos (pst.iff.mpr (by simpa using hb))]
        refine vQ ?_
        exact g
      refine E2 pst.run fun Iv Ms q929=>A4 q929 fun i1 i2 i3 i4=>?_
      clear q929
      have er:fj ad np=(bR ks.book ps turn).rs:=by rw [rO,kK,kN]; rfl
      refine Do.led (nw':=fr++so1 c1.w S SD DD RN (bR ks.book ps turn).rs (bR ks.book ps turn).po (bR ks.book ps turn).nf ad (bR ks.book ps turn).np sc T) (by rw [aX,er,kN]; rfl) ?_
      refine v_run (l1:=fr) (l2:=T) H1 lo hnd (hB1.mono fun a x h=>h.sees) pB (bR ks.book ps turn) rfl rfl rfl Iv Ms i1 i2 (by rw [kK,kS]; exact i3) fun r WD hv hact lw2=>?_
      have fin:=i4 r hv hact
      have hwl:(gD r.words).length≤1000:=by unfold gD; rw [length_map]; exact Nat.le_trans (i2 r hv).wdl (by decide)
      have hWD:∀ f nw,ae c1.w (f++(fr++((WD,.dict (gD r.words))::nw))) WD (.dict (gD r.words)):=fun f nw=>((ae.head (nw:=nw)).pre fr).pre f
      refine ow (kvs:=gD r.words) (CJ r.words) H1 lw2 (hWD [] _) CJ.start ?_ fun kv' hkv Dd ld=>?_
      · intro c4 hw4 H4 nwr hz x rr kv hj Mo hMo
        refine E2 (len2 hMo) fun o1 o2 e930=>?_
        clear hMo
        first | subst e930 | cases e930
        refine E1 (hj.head fin.nd) fun p q931=>A4 q931 fun hp e932 hj2 hl2=>?_
        clear q931
        clear hj
        first | subst e932 | cases e932
        refine aS (v:=.bytes p.2.toArray 0) (hw4▸hz.sees (hWD [] _)) (by rw [eO,kO fin.nd hp]; rfl) ?_
        refine pW H4 ?_
        exact ⟨.refl _,rfl,p.1,rfl,Nat.le_trans hl2 (Nat.le_trans (i2 r hv).wdl (by decide)),hj2⟩
      obtain rfl:=hkv.done
      refine ye H1 ld lw .head (hWd _).tail (by rw [length_map]; exact fin.len) (fun q hq=>?_) ?_
      · refine E1 (mem_map.mp hq) fun p q933=>A2 q933 fun hp e934=>?_
        clear q933
        clear hq
        first | subst e934 | cases e934
        exact (bV (aB ks.book) p.1).trans (by rw [fin.val p hp]; rfl)
      refine ky (kvs:=gD r.words) (fun x:Str=>.str x 0) (fun _=>false) id H1 lw2 (hWD [_] _) hwl ?_ fun Ls=>?_
      · refine bg.of2 fun c4 hw4 H4 nwr hz x hx rr acc g1 g2 o1 o2=>?_
        rw [jA] at hx
        refine E1 (mem_map.mp hx) fun p q938=>A2 q938 fun hp e939=>?_
        clear q938
        clear hx g1
        first | subst e939 | cases e939
        refine A3 (fin.let_ p hp) fun l1 l2 l3=>?_
        refine aS (v:=.bytes p.2.toArray 0) (hw4▸hz.sees (hWD [_] _)) (by rw [eO,kO fin.nd hp]; rfl) ?_
        refine ph H4 (v:=p.2.toArray) l1 l2 l3 ?_
        exact ⟨.refl _,rfl,g2 rfl⟩
      rw [pJ]
      refine aV (gs:=[]) .head (by decide) ?_
      obtain ⟨F3,hF3⟩ : ∃ F3:Led,F3=(Ls,.list (ac []))::(Dd,.dict (dM (eB r.words)))::(fr++[(WD,.dict (gD r.words))]):=⟨_,rfl⟩
      have h3:∀ (l:Addr) (x:aE),(∀ nw,ae c1.w (fr++nw) l x)→∀ nw,ae c1.w (F3++nw) l x:=fun l x h nw=>by rw [hF3,cons_append,cons_append,append_assoc]; exact (h _).tail.tail
      refine Do.led (nw':=F3++so1 c1.w S SD DD RN [] r.po r.nf ad r.np sc T) (by rw [hF3,fin.rs,cons_append,cons_append,append_assoc]; rfl) ?_
      refine bG (f:=106) (by decide +kernel) (fun _ _ _ _ _ _=>rfl) H1 (ae.pre .head F3) (ae.pre (.tail .head) F3) ?_
      refine gu (l1:=F3) (rs:=[]) H1 (Nat.zero_le _) hnd (fun x h=>absurd h not_mem_nil) fun GT=>?_
      rw [to]
      intro Et
      refine vf H1 (ae.tail (ae.pre .head F3)) .head ?_
      have eL:∀ po':Int,(Et,aE.tup [])::(F3++((GT,.tup (ac []))::so1 c1.w S SD DD RN [] po' r.nf ad r.np sc T))=((Et,.tup [])::(F3++[(GT,.tup (ac []))]))++(so1 c1.w S SD DD RN [] po' r.nf ad r.np sc []++T):=fun po'=>by rw [aX,cons_append,append_assoc]; rfl
      refine nW (as:=ps) (e:=fun x:Str=>.str x 0) (k:=50) (Ms:=fun s:Lst2=>[some (.ref _),some (.ref Dfx),some (.int turn 0),some (.ref D1),some (.ref Hd),some (.ref Od),some (.ref Pl),some (.ref B),some (.ref S),s.p,fv,some (.ref Wd),some rv,some (.ref Sk),some (.ref WD),s.y]) (fun _=>(Et,.tup [])::(F3++((GT,.tup (ac []))::so1 c1.w S SD DD RN [] (r.po+(([]:List Str).length:Int)) r.nf ad r.np sc T))) (fun rr _=>∀ x ∈ rr,x ∈ ps) ⟨pv,none⟩ H1 q2 (fun _=>.tail _ (mem_append_right _ (.tail _ (mem_append_right _ (.tail _ (mem_append_right _ (mem_append_right _ (mem_append_right _ q1)))))))) rfl rfl (fun _ h=>h) ?_ ?_
      · intro I oi H2 x rr s hq
        have hx:=hq x (.head _)
        refine A4 (pref x hx) fun f1 f2 f3 f4=>?_
        refine xd (h3 Sk _ hSk _).tail ?_
        refine aN (fun hb=>?_) fun hb=>?_
        · refine Do.led (eL _) ?_
          refine hZ (l1:=(Et,.tup [])::(F3++[(GT,.tup (ac []))])) (FO:=[]) (l2:=T) H2 FC.hide FR lo hnd (kK▸f1) rfl (.inr ((fin.np x hx).1 (of_decide_eq_true hb))) f2 fun q9 e9=>?_
          refine aK (n:=6) (m:=30) (aI (by decide +kernel)) (p4 x hx).1 rfl ?_
          refine aK (n:=36) (m:=2) (mO (n:=6) (m:=30) (aI (by decide +kernel)) (p4 x hx).1) (aI (by decide +kernel)) rfl ?_
          refine pu (n:=38) (m:=40) (mO (n:=36) (m:=2) (mO (n:=6) (m:=30) (aI (by decide +kernel)) (p4 x hx).1) (aI (by decide +kernel))) (aI (by decide +kernel)) rfl fun z9 ez9=>?_
          refine dz (b:=!decide (q9=z9)) (by rw [e9,ez9,f3 _ ((fin.np x hx).1 (of_decide_eq_true hb))]; simp) ?_
          exact LR.pair ⟨some (.str x 0),some (.str "was not passed out (still not ready)" 0)⟩ (qf (eL _)) (fun y hy=>hq y (.tail _ hy)) rfl
        · refine Do.led (eL _) ?_
          have hn2:=(fin.np x hx).2 (of_decide_eq_false hb)
          refine hZ (l1:=(Et,.tup [])::(F3++[(GT,.tup (ac []))])) (FO:=[]) (l2:=T) (k:=-2) H2 FC.hide FR lo hnd (kK▸f1) hn2 (.inl rfl) f2 fun q9 e9=>?_
          refine aK (n:=6) (m:=30) (aI (by decide +kernel)) (p4 x hx).1 rfl ?_
          refine aK (n:=36) (m:=2) (mO (n:=6) (m:=30) (aI (by decide +kernel)) (p4 x hx).1) (aI (by decide +kernel)) rfl ?_
          refine pu (n:=38) (m:=40) (mO (n:=36) (m:=2) (mO (n:=6) (m:=30) (aI (by decide +kernel)) (p4 x hx).1) (aI (by decide +kernel))) (aI (by decide +kernel)) rfl fun z9 ez9=>?_
          refine dz (b:=!decide (q9=z9)) (by rw [e9,ez9,f4]; simp) ?_
          exact LR.pair ⟨some (.str x 0),some (.str "was already marked done" 0)⟩ (qf (eL _)) (fun y hy=>hq y (.tail _ hy)) rfl
      · intro s _
        refine bG (f:=113) (by decide +kernel) (fun _ _ _ _ _ _=>rfl) H1 (ae.tail (ae.pre (ae.tail .head) F3)) (ae.tail (ae.pre (.tail (.tail .head)) F3)) ?_
        refine Do.led (eL _) ?_
        rw [aX]
        refine nh (l1:=(Et,.tup [])::(F3++[(GT,.tup (ac []))])) (rs:=[]) H1 (Nat.zero_le _) ?_
        rw [uT hact fin.rs]
        refine wH ?_
        refine bG (f:=134) (by decide +kernel) (fun _ _ _ _ _ _=>rfl) H1 (ae.pre .head _) (ae.pre (.tail .head) _) ?_
        refine qt (l1:=(Et,.tup [])::(F3++[(GT,.tup (ac []))])) (mid:=so1 c1.w S SD DD RN [] (r.po+(([]:List Str).length:Int)) r.nf ad r.np sc []) (FO:=[]) (l2:=T) H1 FC FR lo kl ksl hnd pin .head (.tail .head) (.tail (.tail .head)) (fun n hn=>⟨rB hn,xR hn,kC hn⟩) 100 res gres (by rw [nil_append,aX]) ?_
        refine jD fun rv2 X2 hX2=>?_
        clear gres hX
        cases res with
        | none =>
          obtain ⟨rfl,rfl⟩:=hX2
          obtain rfl:=hRn rfl
          refine uV ?_
          rfl
        | some rs =>
          refine E1 hX2 fun D2 q940=>A2 q940 fun e941 e942=>?_
          try clear hX2
          clear q940
          first | subst e941 | cases e941
          first | subst e942 | cases e942
          refine E1 (hRg rs rfl) fun D1 q943=>A2 q943 fun e944 hR1=>?_
          clear q943
          first | subst e944 | cases e944
          refine xZ H1 (gs:=rs) (hs:=rs) .head (ae.tail (ae.tail (h3 D1 _ hR1 [_]).app)) (pst.okr rs rfl) (pst.okr rs rfl) ?_
          exact congrArg (fun b=>Flow.ret (.bool b)) (decide_eq_true rfl))
end
section
noncomputable def sS:List Str:=["", "/A", "/A/B", "/C"]
noncomputable def plN (k h o:Nat):Str:=sS.getD h "" ++ "/" ++ Txt.item "BCDEF" (k:Int)++Txt.item "ABCDEFGHIJKLMNOP" (o:Int)
noncomputable def tF (k h o:Nat):Str:=bd ((["/", "/A", "/A/B/", "/C"]:List Str).getD h "") (tP (16 * (k:Int)+16+(o:Int)))
noncomputable def chk1 (k h o:Nat):Bool :=
  tF k h o == plN k h o && PyData.strOk (plN k h o) && decide ((plN k h o).length≤30) && decide (0≤Txt.count (plN k h o) "/") && decide (Txt.count (plN k h o) "/" ≤ 10) && decide ((dR (plN k h o)).length≤1000)
    && decide ((reprText (plN k h o)).length≤100) && (reprText (plN k h o) == "'" ++ plN k h o ++ "'") && (Txt.item (plN k h o) (-2) == Txt.item "BCDEF" (k:Int))
    && (dR (plN k h o) == (["/", "/A", "/A/B", "/C"]:List Str).getD h "") && decide (Txt.count (plN k h o) "/" = ([1,2,3,2]:List Int).getD h 0)
theorem sB:(List.range 5).all (fun k=>(List.range 4).all fun h=>(List.range 16).all fun o=>chk1 k h o)=true:=by decide +kernel
end
section
set_option tactic.hygienic false
theorem wC {α:Type} {P:List α→Prop} (h0:P []) (h1:∀ l a,P l→P (l++[a])) (l:List α):P l:=by
  have:∀ r:List α,P r.reverse:=fun r=>by
    induction r with
    | nil=>exact h0
    | cons a r ih=>rw [reverse_cons]; exact h1 _ _ ih
  rw [← List.reverse_reverse l]; exact this _
noncomputable def Two (b:al) (ps:List Str):Prop:=∀ x ∈ ps,∃ a1 a2,ai b x=[a1,a2]
noncomputable def uk (b:al) (y x:Str):List Str:=((ai b x).filter fun a=>decide (a.goal=y)).map fun _=>x
theorem Two.left {b:al} {l:List Str} {a:Str} (h:Two b (l++[a])):Two b l:=fun x hx=>h x (mem_append_left _ hx)
theorem lJ (sc:Str→List Str) (x y v:Str):bO sc x y v=sc v++(if y=v then [x] else []):=by
  unfold bO upd
  by_cases e:v=y
  · subst e; simp
  · rw [if_neg e,if_neg (fun h=>e h.symm),append_nil]
theorem g_sc {b:al}:∀ ps:List Str,Two b ps→∀ y,(ag b ps).sc y=ps.flatMap (uk b y) :=
  wC (fun _ _=>rfl) fun l x ih h y=>by
    refine E2 (h x (mem_append_right _ (.head _))) fun a1 a2 ha=>?_
    rw [bU,List.flatMap_append,← ih h.left y]
    unfold uX
    rw [ha]
    show bO (bO _ x a1.goal) x a2.goal y=_
    rw [lJ,lJ,append_assoc]
    congr 1
    rw [flatMap_cons,List.flatMap_nil,append_nil]
    unfold uk
    rw [ha,filter_cons,filter_cons,List.filter_nil]
    by_cases e1:a1.goal=y <;> by_cases e2:a2.goal=y <;> simp [e1,e2]
theorem g_np {b:al}:∀ ps:List Str,Two b ps→ps.Nodup→∀ x,(ag b ps).np x=if x ∈ ps then 2 else 0 :=
  wC (fun _ _ _=>rfl) fun l x ih h hn y=>by
    refine E2 (h x (mem_append_right _ (.head _))) fun a1 a2 ha=>?_
    have hl:=(nodup_append.mp hn).1
    have hx:x ∉ l:=fun hm=>(nodup_append.mp hn).2.2 x hm x (.head _) rfl
    rw [bU]
    unfold uX
    rw [ha]
    show upd _ x _ y=_
    unfold upd
    by_cases e:y=x
    · clear hn ha
      subst e
      rw [if_pos rfl,ih h.left hl,if_neg hx,if_pos (mem_append_right _ (.head _))]; rfl
    · rw [if_neg e,ih h.left hl]
      by_cases m:y ∈ l
      · rw [if_pos m,if_pos (mem_append_left _ m)]
      · rw [if_neg m,if_neg (fun q=>by
          rcases mem_append.mp q with q | q
          · exact m q
          · exact e (mem_singleton.mp q))]
theorem fR (ks:List Str) (x y:Str):y ∈ bY ks x↔y ∈ ks∨y=x:=by
  unfold bY
  by_cases h:x ∈ ks
  · rw [if_pos h]; exact ⟨.inl,fun q=>q.elim id fun e=>e▸h⟩
  · rw [if_neg h]; simp
theorem wM {b:al}:∀ ps:List Str,Two b ps→∀ y,y ∈ (ag b ps).ks↔y ∈ ps∨∃ x ∈ ps,∃ a ∈ ai b x,a.goal=y :=
  wC (fun _ y=>⟨fun h=>(nomatch h),fun h=>by
    rcases h with h | ⟨_,h,_⟩
    · cases h
    · cases h⟩) fun l x ih h y=>by
    refine E2 (h x (mem_append_right _ (.head _))) fun a1 a2 ha=>?_
    rw [bU]
    unfold uX
    rw [ha]
    show y ∈ bY (bY (bY _ x) a1.goal) a2.goal↔_
    rw [fR,fR,fR,ih h.left y]
    constructor
    · rintro ((((h1 | ⟨z,hz,a,haz,e⟩) | rfl) | rfl) | rfl)
      · exact .inl (mem_append_left _ h1)
      · exact .inr ⟨z,mem_append_left _ hz,a,haz,e⟩
      · exact .inl (mem_append_right _ (.head _))
      · exact .inr ⟨x,mem_append_right _ (.head _),a1,by rw [ha]; exact .head _,rfl⟩
      · exact .inr ⟨x,mem_append_right _ (.head _),a2,by rw [ha]; exact .tail _ (.head _),rfl⟩
    · rintro (h1 | ⟨z,hz,a,haz,e⟩)
      · rcases mem_append.mp h1 with h1 | h1
        · exact .inl (.inl (.inl (.inl h1)))
        · exact .inl (.inl (.inr (mem_singleton.mp h1)))
      · rcases mem_append.mp hz with hz | hz
        · exact .inl (.inl (.inl (.inr ⟨z,hz,a,haz,e⟩)))
        · rw [mem_singleton.mp hz,ha] at haz
          rcases mem_cons.mp haz with rfl | haz
          · exact .inl (.inr e.symm)
          · exact .inr ((mem_singleton.mp haz)▸e.symm)
theorem jV {b:al} {ps:List Str} (h:Two b ps) {x y:Str}:x ∈ (ag b ps).sc y↔x ∈ ps∧∃ a ∈ ai b x,a.goal=y:=by
  rw [g_sc ps h,mem_flatMap]
  constructor
  · intro r91
    refine E1 r91 fun z q91=>A2 q91 fun hz hm=>?_
    try clear r91
    clear q91
    unfold uk at hm
    refine E1 (mem_map.mp hm) fun a q92=>A2 q92 fun ha e93=>?_
    clear q92
    clear hm
    first | subst e93 | cases e93
    obtain ⟨h1,h2⟩:=mem_filter.mp ha
    exact ⟨hz,a,h1,by simpa using h2⟩
  · intro r92
    refine A2 r92 fun hx q94=>E1 q94 fun a q95=>A2 q95 fun ha e=>?_
    try clear r92
    clear q95 q94
    exact ⟨x,hx,mem_map.mpr ⟨a,mem_filter.mpr ⟨ha,by simpa using e⟩,rfl⟩⟩
end
section
set_option tactic.hygienic false
noncomputable def Clo (b:al) (W:Wor):Prop:=∀ k r,b.at k=some r→fg W r.asks→(Wat W k).isSome=true
theorem js (b:al) (W:Wor) (k:Str):∃ V,bN b W k=W++V:=by
  unfold bN ed
  dsimp only
  split
  · split
    · exact ⟨[],(append_nil _).symm⟩
    · exact ⟨_,rfl⟩
  · exact ⟨[],(append_nil _).symm⟩
theorem dZ (b:al):∀ (ks:List Str) (W:Wor),∃ V,bC b W ks=W++V
  | [],W=>⟨[],(append_nil _).symm⟩
  | k::ks,W=>by
    obtain ⟨V,e⟩:=js b W k
    obtain ⟨V',e'⟩:=dZ b ks (bN b W k)
    exact ⟨V++V',by rw [← append_assoc,← e]; exact e'⟩
theorem lM {b:al}:∀ {ks:List Str} {W:Wor},WOk b W→(∀ k ∈ ks,(b.at k).isSome=true)→WOk b (bC b W ks)
  | [],_,h,_=>h
  | k::ks,W,h,hk=>by
    obtain ⟨r,hr⟩:=isSome_iff_exists.mp (hk k (.head _))
    exact lM (ks:=ks) (lO h hr) fun x hx=>hk x (.tail _ hx)
theorem na {W V:Wor} (h:W++V=W):V=[]:=by
  have:=congrArg List.length h
  rw [length_append] at this
  exact length_eq_zero_iff.mp (by omega)
theorem nz {b:al} {W:Wor} {k:Str} {r:Row} (hr:b.at k=some r) (h:bN b W k=W) (ha:fg W r.asks):(Wat W k).isSome=true:=by
  unfold bN at h
  rw [hr] at h
  dsimp only [getD_some] at h
  rw [if_pos (dX.mpr ha)] at h
  unfold ed at h
  split at h
  · assumption
  · exact nomatch na h
theorem gR {b:al}:∀ {ks:List Str} {W:Wor},bC b W ks=W→∀ k ∈ ks,bN b W k=W
  | [],_,_,_,h=>nomatch h
  | x::ks,W,h,k,hk=>by
    obtain ⟨V,e⟩:=js b W x
    obtain ⟨V',e'⟩:=dZ b ks (bN b W x)
    have h':bC b (bN b W x) ks=W:=h
    rw [h',e,append_assoc] at e'
    have hv:V=[]:=(List.append_eq_nil_iff.mp (na e'.symm)).1
    rw [hv,append_nil] at e
    clear h
    rcases mem_cons.mp hk with rfl | hk
    · exact e
    · rw [e] at h'; exact gR h' k hk
theorem ju {b:al} {k:Str} {r:Row} (h:b.at k=some r):k ∈ b.map (·.1):=mem_map.mpr ⟨_,db h,rfl⟩
theorem hY {b:al} {k:Str} (h:k ∈ b.map (·.1)):(b.at k).isSome=true:=by
  refine E1 (mem_map.mp h) fun p q91=>A2 q91 fun hp e=>?_
  clear q91
  unfold al.at
  rw [isSome_map,find?_isSome]
  exact ⟨p,hp,by simpa using e⟩
theorem pN {b:al} {W:Wor} (h:bC b W (b.map (·.1))=W):Clo b W:=fun k r hr ha=>nz hr (gR h k (ju hr)) ha
theorem pS {b:al} {W:Wor} (h:Clo b W) {k:Str} (hk:(b.at k).isSome=true):bN b W k=W:=by
  obtain ⟨r,hr⟩:=isSome_iff_exists.mp hk
  unfold bN
  rw [hr]
  dsimp only [getD_some]
  split
  · rename_i hm
    unfold ed
    rw [if_pos (h k r hr (dX.mp hm))]
  · rfl
theorem jx {b:al} {W:Wor} (h:Clo b W):∀ ks:List Str,(∀ k ∈ ks,(b.at k).isSome=true)→bC b W ks=W
  | [],_=>rfl
  | k::ks,hk=>by
    show bC b (bN b W k) ks=W
    rw [pS h (hk k (.head _))]
    exact jx h ks fun x hx=>hk x (.tail _ hx)
theorem gK {b:al} {W:Wor} (h:Clo b W):∀ n,cc b n W=W
  | 0=>rfl
  | n+1=>by
    show cc b n (bC b W (b.map (·.1)))=W
    rw [jx h _ fun k hk=>hY hk]
    exact gK h n
theorem gS {b:al}:∀ n W,Clo b (cc b n W)∨W.length+n≤(cc b n W).length
  | 0,W=>.inr (Nat.le_refl _)
  | n+1,W=>by
    show Clo b (cc b n (bC b W (b.map (·.1))))∨_≤(cc b n (bC b W (b.map (·.1)))).length
    obtain ⟨V,e⟩:=dZ b (b.map (·.1)) W
    by_cases hV:V=[]
    · subst hV
      rw [append_nil] at e
      have hc:=pN e
      rw [e,gK hc]
      exact .inl hc
    · rcases gS (b:=b) n (bC b W (b.map (·.1))) with h | h
      · exact .inl h
      · refine .inr (Nat.le_trans ?_ h)
        rw [e,length_append]
        have:=length_pos_iff.mpr hV
        (clear h; omega)
theorem jE {b:al}:∀ {n W},WOk b W→WOk b (cc b n W)
  | 0,_,h=>h
  | n+1,W,h=>jE (n:=n) (lM h fun k hk=>hY hk)
theorem gh (b:al):WOk b (aB b):=jE .nil
theorem gQ {b:al}:∀ {ks:List Str} {W:Wor} {k:Str} {r:Row},k ∈ ks→b.at k=some r→r.asks=[]→k ∈ (bC b W ks).map (·.1)
  | [],_,_,_,h,_,_=>nomatch h
  | x::ks,W,k,r,h,hr,ha=>by
    rcases mem_cons.mp h with rfl | h
    · obtain ⟨V,e⟩:=dZ b ks (bN b W k)
      show k ∈ (bC b (bN b W k) ks).map (·.1)
      rw [e,map_append]
      refine mem_append_left _ ?_
      unfold bN
      rw [hr]
      dsimp only [getD_some]
      rw [ha,if_pos (show ew W []=[] from rfl)]
      unfold ed
      split
      · rename_i hs; exact ay.mp hs
      · rw [map_append]; exact mem_append_right _ (.head _)
    · exact gQ (W:=bN b W x) h hr ha
theorem nK {b:al} (hn:(b.map (·.1)).Nodup) (h5:b.length≤(b.filter fun p=>p.2.asks.isEmpty).length+5) (hat:∀ p ∈ b,b.at p.1=some p.2):Clo b (aB b):=by
  rcases gS (b:=b) 5 (bC b [] (b.map (·.1))) with h | h
  · exact h
  · have hl:((b.filter fun p=>p.2.asks.isEmpty).map (·.1)).length≤((bC b [] (b.map (·.1))).map (·.1)).length:=by
      refine aO ((hn.sublist ((List.filter_sublist).map _))) fun x hx=>?_
      refine E1 (mem_map.mp hx) fun p q91=>A2 q91 fun hp e92=>?_
      clear q91
      clear hx
      first | subst e92 | cases e92
      obtain ⟨h1,h2⟩:=mem_filter.mp hp
      exact gQ (mem_map_of_mem (f:=(·.1)) h1) (hat p h1) (by simpa using h2)
    rw [length_map,length_map] at hl
    have hW:=gh b
    have hlen:b.length≤(aB b).length:=by
      show b.length≤(cc b 5 (bC b [] (b.map (·.1)))).length
      omega
    intro k r hr _
    rw [ay]
    refine Classical.byContradiction fun hk=>?_
    have:=aO (l:=k::(aB b).map (·.1)) (l':=b.map (·.1)) (nodup_cons.mpr ⟨hk,hW.nodup⟩) fun x hx=>by
      clear hn h5 hat h hl hlen hk
      rcases mem_cons.mp hx with rfl | hx
      · exact ju hr
      · exact hW.sub x hx
    rw [length_cons,length_map,length_map] at this
    (clear h5 h hl; omega)
theorem qg {b:al} {W:Wor} (hc:Clo b W) {V:Wor} (h:WOk b V):∀ k ∈ V.map (·.1),(Wat W k).isSome=true:=by
  induction h with
  | nil=>exact fun _ h=>nomatch h
  | @snoc V k r hV hk hr ha ih =>
    intro x hx
    rw [map_append] at hx
    rcases mem_append.mp hx with hx | hx
    · exact ih x hx
    · rw [mem_singleton.mp hx]
      exact hc k r hr fun a haa=>ih _ (ay.mp (ha a haa))
theorem xj {b:al} {W:Wor} (hW:WOk b W) (hc:Clo b W) {V:Wor} (h:WOk b V):∀ {k v},Wat V k=some v→Wat W k=some v:=by
  induction h with
  | nil=>intro k v h; cases h
  | @snoc V k' r hV hk hr ha ih =>
    intro k v h
    cases e:Wat V k with
    | some u=>rw [eQ e] at h; rw [← h]; exact ih e
    | none =>
      rw [bK e] at h
      have hm:=eI h
      rw [mem_singleton] at hm
      cases hm
      obtain ⟨u,hu⟩:=isSome_iff_exists.mp (qg hc (.snoc hV hk hr ha) k' (by rw [map_append]; exact mem_append_right _ (.head _)))
      refine E1 (hW.val hu) fun r' q91=>A3 q91 fun h1 h2 h3=>?_
      clear q91
      rw [hr] at h1; cases h1
      rw [hu,h3]
      congr 1
      unfold jm
      have:(r.asks.map fun a=>a.sign * (Wat W a.goal).getD 0)=r.asks.map fun a=>a.sign * (Wat V a.goal).getD 0:=map_congr_left fun a haa=>by
        obtain ⟨z,hz⟩:=isSome_iff_exists.mp (ha a haa)
        rw [hz,ih hz]
      rw [this]
end
section
noncomputable def ve (sc:Str→List Str) (F:List Str):Prop:=∀ l1 y l2,F=l1++y::l2→∀ x ∈ sc y,x ∈ l1
noncomputable def Stk (sc:Str→List Str) (F:List Str):Way→Option Str→Prop
  | [],_=>True
  | (x,r)::st,c=>(∃ dn,sc x=dn++(c.toList++r)∧∀ z ∈ dn,z ∈ F)∧Stk sc F st (some x)
theorem Stk.mono {sc:Str→List Str} {F F':List Str} (hF:∀ z ∈ F,z ∈ F'):∀ {st:Way} {c:Option Str},Stk sc F st c→Stk sc F' st c
  | [],_,_=>trivial
  | (x,r)::st,c,h=>by
    refine A2 h fun q91 h2=>?_
    try clear h
    refine E1 q91 fun dn q92=>A2 q92 fun e hd=>?_
    try clear q91
    clear q92
    exact ⟨⟨dn,e,fun z hz=>hF z (hd z hz)⟩,h2.mono hF⟩
theorem Stk.close {sc:Str→List Str} {F:List Str} {st:Way} {x:Str} (h:Stk sc F st (some x)) (hx:x ∈ F):Stk sc F st none:=by
  cases st with
  | nil=>trivial
  | cons p st =>
    obtain ⟨k,r⟩:=p
    refine A2 h fun q91 h2=>?_
    try clear h
    refine E1 q91 fun dn q92=>A2 q92 fun e hd=>?_
    try clear q91
    clear q92
    refine ⟨⟨dn++[x],by rw [e]; simp,fun z hz=>?_⟩,h2⟩
    rcases mem_append.mp hz with hz | hz
    · exact hd z hz
    · rw [mem_singleton.mp hz]; exact hx
theorem ve.snoc {sc:Str→List Str} {F:List Str} {x:Str} (h:ve sc F) (hx:∀ z ∈ sc x,z ∈ F):ve sc (F++[x]):=by
  intro l1 y l2 e z hz
  rcases eq_nil_or_concat l2 with rfl | ⟨l2',w,rfl⟩
  · obtain ⟨e1,e2⟩:=append_inj' e rfl
    cases e2
    rw [← e1]; exact hx z hz
  · rw [concat_eq_append] at e
    have e':F++[x]=(l1++y::l2')++[w]:=by rw [e]; simp
    obtain ⟨e1,e2⟩:=append_inj' e' rfl
    exact h l1 y l2' e1 z hz
structure DI (sc:Str→List Str) (seen F:List Str) (st:Way):Prop where
  topo:ve sc F
  mem:∀ x,x ∈ seen↔x ∈ F∨x ∈ st.map (·.1)
theorem jJ {sc:Str→List Str} {seen:List Str}:∀ {st:Way} {F:List Str},DI sc seen F st→Stk sc F st none →
    (unw st=none→∃ F',DI sc seen F' [])∧∀ y st',unw st=some (y,st')→∃ F',DI sc seen F' st'∧Stk sc F' st' (some y)
  | [],F,d,_=>⟨fun _=>⟨F,d⟩,fun _ _ h=>nomatch h⟩
  | (x,[])::st,F,d,s=>by
    obtain ⟨⟨dn,e,hd⟩,s2⟩:=s
    have d2:DI sc seen (F++[x]) st:=⟨d.topo.snoc fun z hz=>by rw [e] at hz; simpa using hd z (by simpa using hz),fun z=>by
      rw [d.mem z,map_cons,mem_append,mem_cons,mem_singleton]
      constructor
      · rintro (h | h | h)
        · exact .inl (.inl h)
        · exact .inl (.inr h)
        · exact .inr h
      · rintro ((h | h) | h)
        · exact .inl h
        · exact .inr (.inl h)
        · exact .inr (.inr h)⟩
    have s3:Stk sc (F++[x]) st none:=(s2.mono fun z hz=>mem_append_left _ hz).close (mem_append_right _ (.head _))
    exact jJ (st:=st) d2 s3
  | (x,y::r)::st,F,d,s=>by
    refine ⟨fun h=>(nomatch (show some (y,(x,r)::st)=none from h)),fun y' st' h=>?_⟩
    have h':some (y,(x,r)::st)=some (y',st'):=h
    cases h'
    obtain ⟨⟨dn,e,hd⟩,s2⟩:=s
    exact ⟨F,⟨d.topo,d.mem⟩,⟨dn,e,hd⟩,s2⟩
theorem jf {sc:Str→List Str}:∀ {n:Nat} {seen:List Str} {st:Way} {x:Str} {F seen':List Str},DI sc seen F st→Stk sc F st (some x)→dfs sc n seen st x=some (.inr seen')→∃ F',DI sc seen' F' []∧x ∈ seen'∧∀ z ∈ seen,z ∈ seen'
  | 0,_,_,_,_,_,_,_,h=>nomatch h
  | n+1,seen,st,x,F,seen',d,s,h=>by
    unfold dfs at h
    split at h
    · rename_i hx
      split at h
      · cases h
      · rename_i hns
        have hF:x ∈ F:=((d.mem x).mp hx).elim id fun q=>absurd q hns
        obtain ⟨u1,u2⟩:=jJ d (s.close hF)
        split at h
        · rename_i hu
          cases h
          obtain ⟨F',d'⟩:=u1 hu
          exact ⟨F',d',hx,fun _ h=>h⟩
        · rename_i y st' hu
          refine E1 (u2 y st' hu) fun F' q91=>A2 q91 fun d' s'=>?_
          clear q91
          refine E1 (jf d' s' h) fun F2 q92=>A3 q92 fun d2 h1 h2=>?_
          clear q92
          exact ⟨F2,d2,h2 x hx,h2⟩
    · rename_i hx
      have d1:DI sc (seen++[x]) F ((x,sc x)::st):=⟨d.topo,fun z=>by
        rw [mem_append,mem_singleton,d.mem z,map_cons,mem_cons]
        constructor
        · rintro ((h | h) | h)
          · exact .inl h
          · exact .inr (.inr h)
          · exact .inr (.inl h)
        · rintro (h | h | h)
          · exact .inl (.inl h)
          · exact .inr h
          · exact .inl (.inr h)⟩
      obtain ⟨u1,u2⟩:=jJ (st:=(x,sc x)::st) d1 ⟨⟨[],rfl,fun _ h=>nomatch h⟩,s⟩
      split at h
      · rename_i hu
        cases h
        obtain ⟨F',d'⟩:=u1 hu
        exact ⟨F',d',mem_append_right _ (.head _),fun z hz=>mem_append_left _ hz⟩
      · rename_i y st' hu
        refine E1 (u2 y st' hu) fun F' q93=>A2 q93 fun d' s'=>?_
        clear q93
        refine E1 (jf d' s' h) fun F2 q94=>A3 q94 fun d2 h1 h2=>?_
        clear q94
        exact ⟨F2,d2,h2 x (mem_append_right _ (.head _)),fun z hz=>h2 z (mem_append_left _ hz)⟩
theorem iJ {sc:Str→List Str} {fuel:Nat}:∀ {ks seen F:List Str},DI sc seen F []→goF sc fuel ks seen=some none→∃ F',ve sc F'∧∀ k,k ∈ ks∨k ∈ seen→k ∈ F'
  | [],seen,F,d,_=>⟨F,d.topo,fun k hk=>by
    rcases hk with hk | hk
    · cases hk
    · exact ((d.mem k).mp hk).elim id fun q=>nomatch q⟩
  | k::ks,seen,F,d,h=>by
    unfold goF at h
    split at h
    · rename_i hk
      refine E1 (iJ d h) fun F' q91=>A2 q91 fun t hm=>?_
      clear q91
      refine ⟨F',t,fun z hz=>?_⟩
      rcases hz with hz | hz
      · clear h
        rcases mem_cons.mp hz with rfl | hz
        · exact hm z (.inr hk)
        · exact hm z (.inl hz)
      · exact hm z (.inr hz)
    · split at h
      · cases h
      · cases h
      · rename_i seen' hd
        refine E1 (jf d trivial hd) fun F1 q92=>A3 q92 fun d1 h1 h2=>?_
        clear q92
        refine E1 (iJ d1 h) fun F' q93=>A2 q93 fun t hm=>?_
        clear q93
        refine ⟨F',t,fun z hz=>?_⟩
        rcases hz with hz | hz
        · clear hd h
          rcases mem_cons.mp hz with rfl | hz
          · exact hm z (.inr h1)
          · exact hm z (.inl hz)
        · exact hm z (.inr (h2 z hz))
end
section
noncomputable def ui (sc:Str→List Str) (l:List Str):Prop:=∀ i a b,l[i]? = some a→l[i+1]? = some b→b ∈ sc a
theorem ui.snoc {sc:Str→List Str} {l:List Str} {k x:Str} (h:ui sc (l++[k])) (hx:x ∈ sc k):ui sc (l++[k]++[x]):=by
  intro i a b ha hb
  have hlt:=(List.getElem?_eq_some_iff.mp hb).1
  rw [length_append,length_append,length_singleton,length_singleton] at hlt
  by_cases e:i=l.length
  · clear hlt
    subst e
    rw [append_assoc,List.getElem?_append_right (Nat.le_refl _),Nat.sub_self] at ha
    rw [append_assoc,List.getElem?_append_right (Nat.le_succ _)] at hb
    rw [show l.length+1 - l.length=1 from by omega] at hb
    cases ha; cases hb; exact hx
  · have h1:i+1 < (l++[k]).length:=by rw [length_append,length_singleton]; omega
    rw [List.getElem?_append_left (by omega)] at ha
    rw [List.getElem?_append_left h1] at hb
    exact h i a b ha hb
theorem ui.drop {sc:Str→List Str} {l:List Str} (h:ui sc l) (j:Nat):ui sc (l.drop j):=by
  intro i a b ha hb
  rw [List.getElem?_drop] at ha hb
  exact h (j+i) a b ha (by rw [show j+i+1=j+(i+1) from by omega]; exact hb)
theorem ni {sc:Str→List Str} {F:List Str}:∀ {st:Way} {x:Str},Stk sc F st (some x)→ui sc (az st++[x])
  | [],x,_=>fun i a b ha hb=>by
    have:=(List.getElem?_eq_some_iff.mp hb).1
    simp [az] at this
  | (k,r)::st,x,h=>by
    obtain ⟨⟨dn,e,hd⟩,h2⟩:=h
    rw [cv]
    exact (ni h2).snoc (by rw [e]; simp)
theorem mE {x:Str}:∀ {st:Way},x ∈ st.map (·.1)→(az st)[dJ st x]? = some x
  | [],h=>nomatch h
  | (k,r)::st,h=>by
    rw [cv]
    unfold dJ
    split
    · rename_i e
      rw [← aw st,List.getElem?_append_right (Nat.le_refl _),Nat.sub_self,e]; rfl
    · rename_i e
      have hm:x ∈ st.map (·.1):=(mem_cons.mp h).elim (fun q=>absurd q.symm e) id
      have:=mE hm
      rw [List.getElem?_append_left (List.getElem?_eq_some_iff.mp this).1]; exact this
structure Rng (sc:Str→List Str) (seen rs:List Str):Prop where
  ex:∃ x t,rs=x::(t++[x])∧(t++[x]).Nodup∧∀ z ∈ rs,z ∈ seen
  path:ui sc rs
theorem vc {sc:Str→List Str} {F seen:List Str} {st:Way} {x:Str} (s:Stk sc F st (some x)) (hn:(st.map (·.1)).Nodup) (hs:∀ z ∈ st.map (·.1),z ∈ seen) (hx:x ∈ st.map (·.1)):Rng sc seen (eZ st x):=by
  have h1:=mE hx
  have hlt:=(List.getElem?_eq_some_iff.mp h1).1
  have hnn:(az st).Nodup:=by unfold az; rw [map_reverse]; exact (List.Perm.nodup_iff (List.reverse_perm _)).mpr hn
  have e:(az st).drop (dJ st x)=x::(az st).drop (dJ st x+1):=by
    rw [drop_eq_getElem_cons hlt]
    rw [List.getElem?_eq_getElem hlt] at h1
    rw [Option.some.inj h1]
  have hd:((az st).drop (dJ st x)).Nodup:=hnn.sublist (List.drop_sublist _ _)
  rw [e] at hd
  obtain ⟨n1,n2⟩:=nodup_cons.mp hd
  refine ⟨⟨x,(az st).drop (dJ st x+1),by unfold eZ; rw [e]; rfl,?_,fun z hz=>?_⟩,?_⟩
  · exact nodup_append.mpr ⟨n2,by simp,fun a ha b hb=>by rw [mem_singleton.mp hb]; exact fun q=>n1 (q▸ha)⟩
  · unfold eZ at hz
    rcases mem_append.mp hz with hz | hz
    · exact hs z (cg.mp (List.mem_of_mem_drop hz))
    · rw [mem_singleton.mp hz]; exact hs x hx
  · have:=(ni s).drop (dJ st x)
    rw [List.drop_append_of_le_length (Nat.le_of_lt hlt)] at this
    exact this
theorem ly:∀ {st:Way} {y:Str} {st':Way},unw st=some (y,st')→(st'.map (·.1)).Sublist (st.map (·.1))
  | [],_,_,h=>nomatch h
  | (x,[])::st,y,st',h=>(ly (st:=st) h).trans (List.sublist_cons_self _ _)
  | (x,z::r)::st,y,st',h=>by
    have h':some (z,(x,r)::st)=some (y,st'):=h
    cases h'
    exact List.Sublist.refl _
theorem ln {sc:Str→List Str}:∀ {n:Nat} {seen:List Str} {st:Way} {x:Str} {F rs:List Str},DI sc seen F st→Stk sc F st (some x)→(st.map (·.1)).Nodup→(∀ z ∈ sc x,True)→dfs sc n seen st x=some (.inl rs)→∃ seen',Rng sc seen' rs
  | 0,_,_,_,_,_,_,_,_,_,h=>nomatch h
  | n+1,seen,st,x,F,rs,d,s,hn,_,h=>by
    have hs:∀ z ∈ st.map (·.1),z ∈ seen:=fun z hz=>(d.mem z).mpr (.inr hz)
    unfold dfs at h
    split at h
    · rename_i hx
      split at h
      · rename_i hxs
        cases h
        exact ⟨seen,vc s hn hs hxs⟩
      · rename_i hns
        have hF:x ∈ F:=((d.mem x).mp hx).elim id fun q=>absurd q hns
        obtain ⟨u1,u2⟩:=jJ d (s.close hF)
        split at h
        · cases h
        · rename_i y st' hu
          obtain ⟨F',d',s'⟩:=u2 y st' hu
          exact ln d' s' (hn.sublist (ly hu)) (fun _ _=>trivial) h
    · rename_i hx
      have d1:DI sc (seen++[x]) F ((x,sc x)::st):=⟨d.topo,fun z=>by
        rw [mem_append,mem_singleton,d.mem z,map_cons,mem_cons]
        constructor
        · rintro ((h | h) | h)
          · exact .inl h
          · exact .inr (.inr h)
          · exact .inr (.inl h)
        · rintro (h | h | h)
          · exact .inl (.inl h)
          · exact .inr h
          · exact .inl (.inr h)⟩
      have hn1:(((x,sc x)::st).map (·.1)).Nodup:=nodup_cons.mpr ⟨fun q=>hx (hs x q),hn⟩
      obtain ⟨u1,u2⟩:=jJ (st:=(x,sc x)::st) d1 ⟨⟨[],rfl,fun _ h=>nomatch h⟩,s⟩
      split at h
      · cases h
      · rename_i y st' hu
        obtain ⟨F',d',s'⟩:=u2 y st' hu
        exact ln d' s' (hn1.sublist (ly hu)) (fun _ _=>trivial) h
theorem ja {sc:Str→List Str} {fuel:Nat} {rs:List Str}:∀ {ks seen F:List Str},DI sc seen F []→goF sc fuel ks seen=some (some rs)→∃ seen',Rng sc seen' rs
  | [],_,_,_,h=>nomatch h
  | k::ks,seen,F,d,h=>by
    unfold goF at h
    split at h
    · exact ja d h
    · split at h
      · cases h
      · rename_i ring hd
        cases h
        exact ln d trivial .nil (fun _ _=>trivial) hd
      · rename_i seen' hd
        refine E1 (jf d trivial hd) fun F1 q91=>A3 q91 fun d1 h1 h2=>?_
        clear q91
        exact ja d1 h
end
section
noncomputable def fO (sc:Str→List Str) (seen:List Str):List Str→Nat
  | []=>0
  | k::ks=>(if k ∈ seen then 0 else (sc k).length)+fO sc seen ks
noncomputable def tD:Way→Nat
  | []=>0
  | (_,r)::st=>r.length+tD st
theorem rc {sc:Str→List Str} {seen:List Str} {x:Str}:∀ ks:List Str,fO sc (seen++[x]) ks≤fO sc seen ks
  | []=>Nat.le_refl _
  | k::ks=>by
    have ih:=rc (sc:=sc) (seen:=seen) (x:=x) ks
    unfold fO
    by_cases h:k ∈ seen
    · rw [if_pos h,if_pos (mem_append_left _ h)]; omega
    · rw [if_neg h]; split <;> omega
theorem lQ {sc:Str→List Str} {seen:List Str} {x:Str} (hs:x ∉ seen):∀ {ks:List Str},x ∈ ks→fO sc (seen++[x]) ks+(sc x).length≤fO sc seen ks
  | [],h=>nomatch h
  | k::ks,h=>by
    unfold fO
    by_cases e:k=x
    · subst e
      rw [if_pos (mem_append_right _ (.head _)),if_neg hs]
      have:=rc (sc:=sc) (seen:=seen) (x:=k) ks
      omega
    · have ih:=lQ (sc:=sc) hs ((mem_cons.mp h).elim (fun q=>absurd q.symm e) id)
      by_cases hk:k ∈ seen
      · rw [if_pos hk,if_pos (mem_append_left _ hk)]; omega
      · rw [if_neg hk,if_neg (fun q=>(mem_append.mp q).elim hk fun q=>e (mem_singleton.mp q))]; omega
theorem mG {sc:Str→List Str} {seen:List Str} {B:Nat} (h:∀ k,(sc k).length≤B):∀ ks:List Str,fO sc seen ks≤ks.length * B
  | []=>Nat.zero_le _
  | k::ks=>by
    have ih:=mG (seen:=seen) h ks
    have:=h k
    unfold fO
    rw [length_cons,Nat.succ_mul]
    split <;> omega
theorem lE:∀ {st:Way} {y:Str} {st':Way},unw st=some (y,st')→tD st=tD st' + 1∧(∃ p ∈ st,y ∈ p.2)∧∀ p ∈ st',∃ q ∈ st,∀ z ∈ p.2,z ∈ q.2
  | [],_,_,h=>nomatch h
  | (x,[])::st,y,st',h=>by
    refine A3 (lE (st:=st) h) fun h1 q91 h4=>?_
    refine E1 q91 fun p q92=>A2 q92 fun h2 h3=>?_
    try clear q91
    clear q92
    exact ⟨(show 0+tD st=_ from by omega),⟨p,.tail _ h2,h3⟩,fun p hp=>by obtain ⟨q,h5,h6⟩:=h4 p hp; exact ⟨q,.tail _ h5,h6⟩⟩
  | (x,z::r)::st,y,st',h=>by
    have h':some (z,(x,r)::st)=some (y,st'):=h
    cases h'
    refine ⟨by unfold tD; rw [length_cons]; omega,⟨_,.head _,.head _⟩,fun p hp=>?_⟩
    rcases mem_cons.mp hp with rfl | hp
    · exact ⟨_,.head _,fun w hw=>.tail _ hw⟩
    · exact ⟨p,.tail _ hp,fun _ h=>h⟩
theorem iQ {sc:Str→List Str} {ks:List Str} (hin:∀ k,∀ z ∈ sc k,z ∈ ks):∀ {n:Nat} {seen:List Str} {st:Way} {x:Str},x ∈ ks→(∀ p ∈ st,∀ z ∈ p.2,z ∈ ks)→fO sc seen ks+tD st < n→(dfs sc n seen st x).isSome=true
  | 0,_,_,_,_,_,h=>absurd h (Nat.not_lt_zero _)
  | n+1,seen,st,x,hx,hst,h=>by
    unfold dfs
    split
    · split
      · rfl
      · split
        · rfl
        · rename_i y st' hu
          refine A3 (lE hu) fun h1 q91 h4=>?_
          refine E1 q91 fun p q92=>A2 q92 fun h2 h3=>?_
          try clear q91
          clear q92
          exact iQ hin (hst p h2 y h3) (fun p hp z hz=>by obtain ⟨q,h5,h6⟩:=h4 p hp; exact hst q h5 z (h6 z hz)) (by omega)
    · rename_i hns
      split
      · rfl
      · rename_i y st' hu
        refine A3 (lE hu) fun h1 q93 h4=>?_
        refine E1 q93 fun p q94=>A2 q94 fun h2 h3=>?_
        try clear q93
        clear q94
        have hst2:∀ p ∈ (x,sc x)::st,∀ z ∈ p.2,z ∈ ks:=fun p hp z hz=>by
          rcases mem_cons.mp hp with rfl | hp
          · exact hin x z hz
          · exact hst p hp z hz
        have h5:=lQ (sc:=sc) hns hx
        have h6:tD ((x,sc x)::st)=(sc x).length+tD st:=rfl
        exact iQ hin (hst2 p h2 y h3) (fun p hp z hz=>by obtain ⟨q,h7,h8⟩:=h4 p hp; exact hst2 q h7 z (h8 z hz)) (by omega)
theorem ip {sc:Str→List Str} {keys:List Str} {fuel:Nat} (hin:∀ k,∀ z ∈ sc k,z ∈ keys) (hf:∀ seen,fO sc seen keys < fuel):∀ {ks seen:List Str},(∀ k ∈ ks,k ∈ keys)→(goF sc fuel ks seen).isSome=true
  | [],_,_=>rfl
  | k::ks,seen,hk=>by
    unfold goF
    split
    · exact ip hin hf fun x hx=>hk x (.tail _ hx)
    · have:=iQ hin (n:=fuel) (seen:=seen) (st:=[]) (hk k (.head _)) (fun _ h=>nomatch h) (by simpa [tD] using hf seen)
      split
      · rename_i e; rw [e] at this; cases this
      · rfl
      · exact ip hin hf fun x hx=>hk x (.tail _ hx)
end
section
set_option tactic.hygienic false
structure PB (b:al) (ps:List Str):Prop where
  two:Two b ps
  nd:ps.Nodup
  row:∀ x ∈ ps,∃ r,b.at x=some r∧r.asks=ai b x
  goal:∀ x ∈ ps,∀ a ∈ ai b x,(b.at a.goal).isSome=true
  lost:∀ k r,b.at k=some r→k ∉ ps→r.asks=[]
  clo:Clo b (aB b)
theorem ci {ps:List Str} {b:al} {x:Str}:x ∈ be ps b↔x ∈ ps∧Wat (aB b) x=none:=by
  unfold be
  rw [mem_filter]
  simp [Option.isNone_iff_eq_none]
theorem PB.pred {b:al} {ps:List Str} (h:PB b ps) {x:Str} (hx:x ∈ be ps b):∃ y,y ∈ be ps b∧x ∈ (ag b ps).sc y:=by
  obtain ⟨h1,h2⟩:=ci.mp hx
  obtain ⟨r,hr,ha⟩:=h.row x h1
  have hn:¬ fg (aB b) r.asks:=fun q=>by have:=h.clo x r hr q; rw [h2] at this; cases this
  unfold fg at hn
  obtain ⟨a,hn⟩:=Classical.not_forall.mp hn
  obtain ⟨haa,hn⟩:=Classical.not_imp.mp hn
  have hw:Wat (aB b) a.goal=none:=by
    cases e:Wat (aB b) a.goal with
    | none=>rfl
    | some v=>rw [e] at hn; exact absurd rfl hn
  rw [ha] at haa
  obtain ⟨r2,hr2⟩:=isSome_iff_exists.mp (h.goal x h1 a haa)
  have hp:a.goal ∈ ps:=Classical.byContradiction fun q=>by
    have:=h.clo a.goal r2 hr2 (by rw [h.lost _ _ hr2 q]; exact fun _ h=>nomatch h)
    rw [hw] at this; cases this
  exact ⟨a.goal,ci.mpr ⟨hp,hw⟩,(jV h.two).mpr ⟨h1,a,haa,rfl⟩⟩
noncomputable def fi:List Str→Str→Nat
  | [],_=>0
  | a::l,x=>if a=x then 0 else fi l x+1
theorem wG {x:Str}:∀ {l1:List Str} (l2:List Str),x ∈ l1→fi (l1++l2) x < l1.length
  | [],_,h=>nomatch h
  | a::l1,l2,h=>by
    rw [cons_append]
    unfold fi
    split
    · exact Nat.succ_pos _
    · rename_i e
      have:=wG l2 ((mem_cons.mp h).elim (fun q=>absurd q.symm e) id)
      rw [length_cons]; omega
theorem wN {y:Str}:∀ {F:List Str},y ∈ F→∃ l1 l2,F=l1++y::l2∧fi F y=l1.length
  | [],h=>nomatch h
  | a::F,h=>by
    by_cases e:a=y
    · subst e; exact ⟨[],F,rfl,by unfold fi; rw [if_pos rfl]; rfl⟩
    · refine E2 (wN ((mem_cons.mp h).elim (fun q=>absurd q.symm e) id)) fun l1 l2 q91=>A2 q91 fun h1 h2=>?_
      clear q91
      exact ⟨a::l1,l2,by rw [h1]; rfl,by unfold fi; rw [if_neg e,h2]; rfl⟩
theorem rt {sc:Str→List Str} {F:List Str} (t:ve sc F) {x y:Str} (hy:y ∈ F) (hx:x ∈ sc y):fi F x < fi F y∧fi F y < F.length:=by
  refine E2 (wN hy) fun l1 l2 q91=>A2 q91 fun h1 h2=>?_
  clear q91
  refine ⟨?_,?_⟩
  · rw [h2,h1]; exact wG _ (t l1 y l2 h1 x hx)
  · rw [h2,h1,length_append,length_cons]; (clear h2; omega)
theorem PB.noRing {b:al} {ps:List Str} (h:PB b ps) {F:List Str} (t:ve (ag b ps).sc F) (hF:∀ x ∈ ps,x ∈ F):be ps b=[]:=by
  have key:∀ n,∀ x ∈ be ps b,F.length≤fi F x+n→False:=by
    intro n
    induction n with
    | zero =>
      intro x hx hl
      obtain ⟨y,hy,hs⟩:=h.pred hx
      have:=rt t (hF y (ci.mp hy).1) hs
      omega
    | succ n ih =>
      intro x hx hl
      obtain ⟨y,hy,hs⟩:=h.pred hx
      have:=rt t (hF y (ci.mp hy).1) hs
      exact ih y hy (by omega)
  cases e:be ps b with
  | nil=>rfl
  | cons x r=>exact (key F.length x (by rw [e]; exact .head _) (by omega)).elim
theorem nO {b:al} {ps rs:List Str} (h:PB b ps) (hr:∀ z ∈ rs,z ∈ ps∧∃ y ∈ rs,∃ a ∈ ai b z,a.goal=y):∀ z ∈ rs,z ∈ be ps b:=by
  have key:∀ {W:Wor},WOk b W→∀ z ∈ rs,z ∉ W.map (·.1):=by
    intro W hW
    induction hW with
    | nil=>exact fun _ _ h=>nomatch h
    | @snoc W k r hW hk hat ha ih =>
      intro z hz hm
      rw [map_append] at hm
      rcases mem_append.mp hm with hm | hm
      · exact ih z hz hm
      · have e:=mem_singleton.mp hm
        refine A2 (hr z hz) fun hp q91=>E1 q91 fun y q92=>A2 q92 fun hy q93=>E1 q93 fun a q94=>A2 q94 fun haa eg=>?_
        clear q94 q93 q92 q91
        refine E1 (h.row z hp) fun r' q95=>A2 q95 fun hr' ea=>?_
        clear q95
        rw [e] at hr'
        rw [hat] at hr'; cases hr'
        have:=ha a (by rw [ea]; exact haa)
        rw [eg] at this
        exact ih y hy (ay.mp this)
  intro z hz
  refine ci.mpr ⟨(hr z hz).1,?_⟩
  cases e:Wat (aB b) z with
  | none=>rfl
  | some v=>exact absurd (ay.mp (by rw [e]; rfl)) (key (gh b) z hz)
theorem sA {b:al} {ps seen rs:List Str} (h:PB b ps) (g:Rng (ag b ps).sc seen rs):∀ z ∈ rs,z ∈ ps∧∃ y ∈ rs,∃ a ∈ ai b z,a.goal=y:=by
  obtain ⟨⟨x,t,e,hn,_⟩,hp⟩:=g
  intro z hz
  have hz2:z ∈ t++[x]:=by
    rw [e] at hz
    clear e hn
    rcases mem_cons.mp hz with rfl | hz
    · exact mem_append_right _ (.head _)
    · exact hz
  obtain ⟨i,hi⟩:=mem_iff_getElem?.mp hz2
  have hlt:=(List.getElem?_eq_some_iff.mp hi).1
  have h1:rs[i+1]? = some z:=by rw [e]; exact hi
  have h2:i < rs.length:=by have:=(List.getElem?_eq_some_iff.mp h1).1; (clear hlt; omega)
  have h3:rs[i]? = some rs[i]:=List.getElem?_eq_getElem h2
  obtain ⟨q1,a,q2,q3⟩:=(jV h.two).mp (hp i _ z h3 h1)
  exact ⟨q1,rs[i],List.getElem_mem h2,a,q2,q3⟩
end
section
set_option tactic.hygienic false
theorem mA (sc:Str→List Str):DI sc [] [] []:=⟨fun l1 y l2 e=>by
  have:=congrArg List.length e
  rw [length_append,length_cons] at this
  simp at this,fun x=>⟨fun h=>(nomatch h),fun h=>by
    rcases h with h | h
    · cases h
    · cases h⟩⟩
theorem iD (l:List Str) (x:Str):(l++[x])[l.length]? = some x:=by
  rw [List.getElem?_append_right (Nat.le_refl _),Nat.sub_self]; rfl
theorem PB.ring {b:al} {ps:List Str} (h:PB b ps) (h5:ps.length=5) {rs seen:List Str} (g:Rng (ag b ps).sc seen rs):eY b (be ps b) rs∧be ps b≠[]∧∀ z ∈ rs,z ∈ ps:=by
  have hp:=sA h g
  have hs:=nO h hp
  obtain ⟨⟨x,t,e,hn,_⟩,hpath⟩:=g
  have hlen:rs.length=t.length+2:=by rw [e]; simp
  have ht:t.length+1≤5:=by
    have:=aO hn (l':=ps) fun z hz=>(hp z (by rw [e]; exact .tail _ hz)).1
    rw [length_append,length_singleton] at this
    omega
  refine ⟨⟨⟨by omega,by omega⟩,⟨x,by rw [e]; rfl,?_⟩,fun j hj=>?_⟩,fun q=>?_,fun z hz=>(hp z hz).1⟩
  · rw [hlen,e]
    show (t++[x])[t.length]? = some x
    exact iD t x
  · have h1:rs[j+1]? = some rs[j+1]:=List.getElem?_eq_getElem hj
    have h2:rs[j]? = some (rs[j]'(by omega)):=List.getElem?_eq_getElem (by omega)
    obtain ⟨q1,a,q2,q3⟩:=(jV h.two).mp (hpath j _ _ h2 h1)
    obtain ⟨row,hr,ha⟩:=h.row _ q1
    refine ⟨_,_,row,h1,h2,hs _ (List.getElem_mem hj),?_,hr,by rw [ha]; exact mem_map.mpr ⟨a,q2,q3⟩⟩
    have e3:(rs.take (j+1)).drop 1=(t++[x]).take j:=by rw [e]; rfl
    have hj2:j < (t++[x]).length:=by rw [length_append,length_singleton]; omega
    have e4:rs[j+1]=(t++[x])[j]:=by
      have:rs[j+1]? = (t++[x])[j]?:=by rw [e]; rfl
      rw [List.getElem?_eq_getElem hj,List.getElem?_eq_getElem hj2] at this
      exact Option.some.inj this
    rw [e3,e4]
    intro hm
    obtain ⟨i,hi⟩:=mem_iff_getElem?.mp hm
    have hlt:=(List.getElem?_eq_some_iff.mp hi).1
    rw [length_take] at hlt
    rw [List.getElem?_take,if_pos (by omega)] at hi
    have:=(List.getElem?_inj (by omega) hn).mp (hi.trans (List.getElem?_eq_getElem hj2).symm)
    omega
  · have:=hs x (by rw [e]; exact .head _)
    rw [q] at this; cases this
theorem PB.res {b:al} {ps:List Str} (h:PB b ps) (h5:ps.length=5) {res:Option (List Str)} (g:goF (ag b ps).sc 100 (ag b ps).ks []=some res) :
    (res=none↔be ps b=[])∧∀ rs,res=some rs→eY b (be ps b) rs∧∀ z ∈ rs,z ∈ ps:=by
  cases res with
  | none =>
    refine E1 (iJ (mA _) g) fun F q91=>A2 q91 fun t hF=>?_
    clear q91
    exact ⟨⟨fun _=>h.noRing t fun x hx=>hF x (.inl ((wM ps h.two x).mpr (.inl hx))),fun _=>rfl⟩,fun _ e=>nomatch e⟩
  | some rs =>
    obtain ⟨seen,r⟩:=ja (mA _) g
    refine A3 (h.ring h5 r) fun h1 h2 h3=>?_
    exact ⟨⟨fun e=>(nomatch e),fun e=>absurd e h2⟩,fun rs' e=>by cases e; exact ⟨h1,h3⟩⟩
theorem PB.ends {b:al} {ps:List Str} (h:PB b ps) (hin:∀ x,∀ y ∈ (ag b ps).sc x,y ∈ (ag b ps).ks) (hk:(ag b ps).ks.length≤9) (hs:∀ x,((ag b ps).sc x).length≤10):∃ res,goF (ag b ps).sc 100 (ag b ps).ks []=some res :=
  isSome_iff_exists.mp (ip (keys:=(ag b ps).ks) hin (fun seen=>Nat.lt_of_le_of_lt (mG hs _) (by omega)) fun _ h=>h)
end
section
set_option tactic.hygienic false
theorem tS:∀ (k n:Nat),n < 16 ^ k→(apN n).length≤k
  | 0,n,h=>by
    have:n=0:=by simpa using h
    rw [this,aZ]; exact Nat.le_refl _
  | k+1,n,h=>by
    by_cases h0:n=0
    · rw [h0,aZ]; exact Nat.zero_le _
    · rw [cO h0,length_append,length_singleton]
      have:=tS k (n / 16) (by rw [Nat.pow_succ] at h; omega)
      omega
theorem mV:∀ (k n:Nat),n < 16 ^ k→(apN n).head?≠some 65
  | 0,n,h=>by
    have:n=0:=by simpa using h
    rw [this,aZ]; exact fun h=>nomatch h
  | k+1,n,h=>by
    by_cases h0:n=0
    · rw [h0,aZ]; exact fun h=>nomatch h
    · rw [cO h0]
      by_cases h1:n / 16=0
      · rw [h1,aZ]
        intro e
        have e2:(65+n % 16).toUInt8=65:=Option.some.inj e
        have e3:=congrArg UInt8.toNat e2
        simp at e3
        omega
      · have ih:=mV k (n / 16) (by rw [Nat.pow_succ] at h; omega)
        cases q:apN (n / 16) with
        | nil=>rw [cO h1] at q; simp at q
        | cons c r=>rw [q] at ih; exact ih
theorem oY (n:Nat):((65+n % 16).toUInt8).toNat=65+n % 16:=by
  show (65+n % 16) % 256=_
  omega
theorem gU:∀ (k n:Nat),n < 16 ^ k→∀ c ∈ apN n,nb c
  | 0,n,h=>by
    have:n=0:=by simpa using h
    rw [this,aZ]; exact fun _ h=>nomatch h
  | k+1,n,h=>by
    by_cases h0:n=0
    · rw [h0,aZ]; exact fun _ h=>nomatch h
    · rw [cO h0]
      intro c hc
      rcases mem_append.mp hc with hc | hc
      · exact gU k (n / 16) (by rw [Nat.pow_succ] at h; omega) c hc
      · rw [mem_singleton.mp hc]
        unfold nb
        rw [oY]; omega
theorem pp:∀ (k n:Nat),n < 16 ^ k→kr (apN n)=(n:Int)
  | 0,n,h=>by
    have:n=0:=by simpa using h
    rw [this,aZ]; rfl
  | k+1,n,h=>by
    by_cases h0:n=0
    · rw [h0,aZ]; rfl
    · have ih:=pp k (n / 16) (by rw [Nat.pow_succ] at h; omega)
      unfold kr at ih ⊢
      rw [cO h0,foldl_append,ih]
      show iW _ _=_
      unfold iW
      rw [oY]
      omega
end
section
set_option tactic.hygienic false
noncomputable abbrev cl (x:Str):List Nat:=x.cps.toList
theorem mu {a b:Str} (h:cl a=cl b):a=b:=Str.ext' (Array.toList_inj.mp h)
theorem cr (a b:Str):cl (a++b)=cl a++cl b:=by unfold cl; rw [Str.cps_append,Array.toList_append]
theorem te:("/" : Str)=⟨#[47]⟩:=by decide +kernel
theorem ck (x:Str):x.length=(cl x).length:=(Array.length_toList).symm
theorem gP {c:Nat}:∀ {a b p q:List Nat},c ∉ a→c ∉ b→a++c::p=b++c::q→a=b∧p=q
  | [],[],_,_,_,_,e=>⟨rfl,(List.cons.inj e).2⟩
  | [],b::bs,_,_,_,hb,e=>absurd (by rw [(List.cons.inj e).1]; exact .head _) hb
  | a::as,[],_,_,ha,_,e=>absurd (by rw [← (List.cons.inj e).1]; exact .head _) ha
  | a::as,b::bs,_,_,ha,hb,e=>by
    obtain ⟨e1,e2⟩:=List.cons.inj e
    obtain ⟨h1,h2⟩:=gP (fun h=>ha (.tail _ h)) (fun h=>hb (.tail _ h)) e2
    exact ⟨by rw [e1,h1],h2⟩
noncomputable def jn (c:Nat):List (List Nat)→List Nat
  | []=>[]
  | [x]=>x
  | x::y::r=>x++c::jn c (y::r)
theorem gc (c:Nat):∀ l:List Str,cl (Str.join ⟨#[c]⟩ l)=jn c (l.map cl)
  | []=>rfl
  | [x]=>rfl
  | x::y::r=>by
    show cl (x++⟨#[c]⟩++Str.join ⟨#[c]⟩ (y::r))=_
    rw [cr,cr,gc c (y::r),append_assoc]; rfl
theorem uv {c:Nat}:∀ {A B:List (List Nat)},A≠[]→B≠[]→(∀ x ∈ A,c ∉ x)→(∀ x ∈ B,c ∉ x)→jn c A=jn c B→A=B
  | [],_,h,_,_,_,_=>absurd rfl h
  | _::_,[],_,h,_,_,_=>absurd rfl h
  | [a],[b],_,_,_,_,e=>by rw [show a=b from e]
  | [a],b::b'::r,_,_,ha,_,e=>absurd (by rw [show a=_ from e]; exact mem_append_right _ (.head _)) (ha a (.head _))
  | a::a'::r,[b],_,_,_,hb,e=>absurd (by rw [show b=_ from e.symm]; exact mem_append_right _ (.head _)) (hb b (.head _))
  | a::a'::r,b::b'::r',_,_,ha,hb,e=>by
    obtain ⟨h1,h2⟩:=gP (ha a (.head _)) (hb b (.head _)) e
    rw [h1,uv (cons_ne_nil _ _) (cons_ne_nil _ _) (fun x hx=>ha x (.tail _ hx)) (fun x hx=>hb x (.tail _ hx)) h2]
theorem tc (x y:Str):Txt.split x y≠[]:=by
  unfold Txt.split
  split
  · exact cons_ne_nil _ _
  · split
    · exact cons_ne_nil _ _
    · rw [StrLaws.partsBetween_eq]
      refine E2 (StrLaws.partsFrom_ne x y.length 0 (Builtin.Str.occurrences x y 0 x.length (x.length+1))) fun p r e=>?_
      rw [e]; exact cons_ne_nil _ _
theorem im:∀ {l r:List Str},l.map cl=r.map cl→l=r
  | [],[],_=>rfl
  | [],_::_,h=>nomatch h
  | _::_,[],h=>nomatch h
  | a::l,b::r,h=>by
    obtain ⟨h1,h2⟩:=List.cons.inj h
    rw [mu h1,im h2]
theorem sX {x:Str} {L:List Str} (h0:L≠[]) (hf:∀ p ∈ L,47 ∉ cl p) (e:cl x=jn 47 (L.map cl)):Txt.split x "/" = L:=by
  rw [te]
  refine im (uv (c:=47) (fun h=>tc x _ (map_eq_nil_iff.mp h)) (fun h=>h0 (map_eq_nil_iff.mp h)) ?_ ?_ ?_)
  · intro p hp
    obtain ⟨q,hq,rfl⟩:=mem_map.mp hp
    exact StrLaws.split_free x 47 q hq
  · intro p hp
    obtain ⟨q,hq,rfl⟩:=mem_map.mp hp
    exact hf q hq
  · rw [← gc,← gc,StrLaws.join_split]
    rw [gc,← e]
theorem fu {x:Str} {a b:Nat} (hab:a≤b) (hb:b≤x.length):cl (Txt.slice x (some (a:Int)) (some (b:Int)))=((cl x).drop a).take (b - a):=by
  unfold Txt.slice
  have h:=StrLaws.sliced_plain x hab hb
  split
  · rename_i hc
    have hl:(b - a)=x.length:=by
      rw [StrLaws.strSliceIndices_plain hab hb] at hc
      simpa using hc
    have:a=0:=by omega
    subst this
    rw [drop_zero,take_of_length_le (by rw [← ck]; omega)]
  · exact h
theorem gX {x:Str} {a:Nat} (h:a≤x.length):cl (Txt.slice x (some (a:Int)) none)=(cl x).drop a:=by
  have e:Txt.slice x (some (a:Int)) none=Txt.slice x (some (a:Int)) (some (x.length:Int)):=by
    unfold Txt.slice Builtin.Str.strSliceIndices
    have h1:¬ ((x.length:Int) < 0):=by omega
    have h2:max (0:Int) (min (x.length:Int) (x.length:Int))=x.length:=by omega
    simp only [h1,if_false,h2,show ((1:Int) > 0)=True from by simp,if_true]
  rw [e,fu h (Nat.le_refl _),take_of_length_le (by rw [length_drop,← ck]; exact Nat.le_refl _)]
theorem sd {x:Str} {b:Nat} (h:b≤x.length):cl (Txt.slice x none (some (b:Int)))=(cl x).take b:=by
  have e:Txt.slice x none (some (b:Int))=Txt.slice x (some ((0:Nat):Int)) (some (b:Int)):=by
    unfold Txt.slice Builtin.Str.strSliceIndices
    have h1:¬ (((0:Nat):Int) < 0):=by omega
    have h2:max (0:Int) (min ((0:Nat):Int) (x.length:Int))=0:=by omega
    simp only [h1,if_false,h2,show ((1:Int) > 0)=True from by simp,if_true]
  rw [e,fu (Nat.zero_le _) h,drop_zero,Nat.sub_zero]
theorem pA (x:Str):Txt.startswith x "/" = decide ((cl x)[0]? = some 47):=by
  rw [Bool.eq_iff_iff,decide_eq_true_eq,te,← StrLaws.subAt_one x 47 0]
  unfold Txt.startswith
  rw [Bool.and_eq_true,decide_eq_true_eq]
theorem wl {x:Str} (h:x.length≠0):Txt.endswith x "/" = decide ((cl x)[x.length - 1]? = some 47):=by
  rw [Bool.eq_iff_iff,decide_eq_true_eq,te,← StrLaws.subAt_one x 47 (x.length - 1)]
  unfold Txt.endswith
  have e:x.length - (⟨#[47]⟩ : Str).length=x.length - 1:=rfl
  rw [Bool.and_eq_true,decide_eq_true_eq,e]
  have e2:(⟨#[47]⟩ : Str).length=1:=rfl
  rw [e2]
  constructor
  · rintro ⟨_,h2⟩; exact ⟨by omega,h2⟩
  · rintro ⟨_,h2⟩; exact ⟨by omega,h2⟩
end
section
set_option tactic.hygienic false
noncomputable def mr (h:Nat):List Nat:=([[47],[47,65],[47,65,47,66],[47,67]]:List (List Nat)).getD h []
noncomputable def gE (h:Nat):List (List Nat):=([[],[[65]],[[65],[66]],[[67]]]:List (List (List Nat))).getD h []
noncomputable def upB (h:Nat):List (List Nat):=([[],[[46,46]],[[46,46],[46,46]],[[46,46]]]:List (List (List Nat))).getD h []
noncomputable def wu (w:Nat):List (List Nat):=([[],[[46],[46,46]],[[90],[],[46,46]]]:List (List (List Nat))).getD w []
noncomputable def uu (w:Nat):List Nat:=([[],[],[47,46],[47,47]]:List (List Nat)).getD w []
noncomputable def qL (w:Nat):List Str:=([[],[],["."],["", ""]]:List (List Str)).getD w []
noncomputable def aJ (l:List (List Nat)):List Nat:=l.flatMap fun b=>b++[47]
noncomputable def ub (h w g:Nat):List Nat:=if w=3 then [47,47,47]++aJ (gE g) else aJ (wu w)++(aJ (upB h)++aJ (gE g))
noncomputable def mX (h w g:Nat):List (List Nat):=if w=3 then [[],[]]++gE g else gE h++wu w++upB h++gE g
noncomputable def sH (d p:List Nat):List Nat:=if p[0]? = some 47 then p else if d[d.length - 1]? = some 47 then d++p else d++(47::p)
noncomputable def se (l:List (List Nat)):List Str:=l.map fun b=>⟨b.toArray⟩
noncomputable def chk2 (h w g:Nat):Bool :=
  decide (sH (mr h) (ub h w g)=47::aJ (mX h w g)) && decide ((se (mX h w g)).foldl am []=se (gE g)) && ((mX h w g).all fun b=>!b.contains 47 && decide (b.length≤10)) && decide ((mX h w g).length≤20)
    && (decide ((aJ (mX h w g))[0]?≠some 47) || decide ((aJ (mX h w g)).take 2=[47,47]))
theorem rN:(List.range 4).all (fun h=>(List.range 4).all fun w=>(List.range 4).all fun g=>chk2 h w g)=true:=by decide +kernel
structure Chk2 (h w g:Nat):Prop where
  join:sH (mr h) (ub h w g)=47::aJ (mX h w g)
  norm:(se (mX h w g)).foldl am []=se (gE g)
  free:∀ b ∈ mX h w g,47 ∉ b∧b.length≤10
  len:(mX h w g).length≤20
  root:(aJ (mX h w g))[0]?≠some 47∨(aJ (mX h w g)).take 2=[47,47]
theorem uI {h w g:Nat} (hh:h < 4) (hw:w < 4) (hg:g < 4):Chk2 h w g:=by
  have h1:=all_eq_true.mp (all_eq_true.mp (all_eq_true.mp rN h (mem_range.mpr hh)) w (mem_range.mpr hw)) g (mem_range.mpr hg)
  unfold chk2 at h1
  simp only [Bool.and_eq_true,Bool.or_eq_true,decide_eq_true_eq] at h1
  refine A2 h1 fun q91 h5=>?_
  try clear h1
  refine A2 q91 fun q92 h4=>?_
  try clear q91
  refine A2 q92 fun q93 h3=>?_
  try clear q92
  refine A2 q93 fun h1 h2=>?_
  try clear q93
  refine ⟨h1,h2,fun b hb=>?_,h4,h5⟩
  have:=all_eq_true.mp h3 b hb
  simpa using this
structure uY (n:Str):Prop where
  len:n.length≤10
  pos:1≤n.length
  free:47 ∉ cl n
  dot:(cl n)[0]?≠some 46
theorem lt4 {P:Nat→Prop} (h0:P 0) (h1:P 1) (h2:P 2) (h3:P 3):∀ {n},n < 4→P n
  | 0,_=>h0
  | 1,_=>h1
  | 2,_=>h2
  | 3,_=>h3
  | n+4,h=>absurd h (by omega)
theorem uY.step {n:Str} (h:uY n) (acc:List Str):am acc n=acc++[n]:=by
  refine mj ?_ ?_ ?_
  · have:=h.pos; simp; omega
  · refine beq_eq_false_iff_ne.mpr fun e=>h.dot ?_
    rw [e]; decide +kernel
  · refine bne_iff_ne.mpr fun e=>h.dot ?_
    rw [e]; decide +kernel
theorem pj {w:Nat} (hw:w < 4) (acc:List Str):(qL w).foldl am acc=acc:=by
  have e1:am acc "." = acc:=tV (by decide +kernel)
  have e2:am acc "" = acc:=mi (by decide +kernel)
  revert hw
  refine lt4 (P:=fun w=>(qL w).foldl am acc=acc) rfl rfl e1 ?_
  show am (am acc "") "" = acc
  rw [e2,e2]
theorem uN {w:Nat} (hw:w < 4):∀ n:List Nat,jn 47 (n::(qL w).map cl)=n++uu w:=by
  revert hw
  refine lt4 (P:=fun w=>∀ n:List Nat,jn 47 (n::(qL w).map cl)=n++uu w) ?_ ?_ ?_ ?_
  · exact fun n=>(append_nil n).symm
  · exact fun n=>(append_nil n).symm
  · intro n
    have e:(qL 2).map cl=[[46]]:=by decide +kernel
    rw [e]; rfl
  · intro n
    have e:(qL 3).map cl=[[],[]]:=by decide +kernel
    rw [e]; rfl
theorem li:∀ (l r:List (List Nat)),r≠[]→jn 47 (l++r)=aJ l++jn 47 r
  | [],r,_=>rfl
  | a::l,r,h=>by
    have ih:=li l r h
    obtain ⟨b,t,e⟩ : ∃ b t,l++r=b::t:=by
      clear ih
      cases l with
      | nil=>cases r with
        | nil=>exact absurd rfl h
        | cons b t=>exact ⟨b,t,rfl⟩
      | cons b t=>exact ⟨b,t++r,rfl⟩
    rw [cons_append,e]
    show a++47::jn 47 (b::t)=_
    rw [← e,ih]
    show _=(a++[47]++aJ l)++_
    simp
theorem qG (l:List (List Nat)):(se l).map cl=l:=by
  unfold se
  rw [List.map_map]
  exact (map_congr_left fun b _=>rfl).trans (List.map_id l)
theorem jI {w:Nat} (hw:w < 4):∀ p ∈ qL w,47 ∉ cl p∧p.length≤10:=by
  revert hw
  exact lt4 (P:=fun w=>∀ p ∈ qL w,47 ∉ cl p∧p.length≤10) (fun _ h=>nomatch h) (fun _ h=>nomatch h) (by decide +kernel) (by decide +kernel)
theorem sF {w:Nat} (hw:w < 4):(qL w).length≤2:=by
  revert hw
  exact lt4 (P:=fun w=>(qL w).length≤2) (Nat.zero_le _) (Nat.zero_le _) (by decide) (by decide)
theorem mx {w:Nat} (hw:w < 4):(uu w).length≤2:=by
  revert hw
  exact lt4 (P:=fun w=>(uu w).length≤2) (Nat.zero_le _) (Nat.zero_le _) (by decide) (by decide)
theorem lY {a b:List Nat} (h:a≠[]):(a++b)[0]? = a[0]?:=by
  cases a with
  | nil=>exact absurd rfl h
  | cons=>rfl
theorem xq {d:Str} {h:Nat} (hh:h < 4) (hd:cl d=mr h):(d.length != 0)=true∧Txt.endswith d "/" = decide ((mr h)[(mr h).length - 1]? = some 47):=by
  have h0:d.length≠0:=by
    rw [ck,hd]; revert hh
    exact lt4 (P:=fun h=>(mr h).length≠0) (by decide) (by decide) (by decide) (by decide)
  exact ⟨by simpa using h0,by rw [wl h0,ck,hd]⟩
theorem vW {d t n:Str} {h:Nat} (hh:h < 4) (hd:cl d=mr h) {p q:List Nat} (hn:uY n) (ht:cl t=p++(cl n++q)):cl (bd d t)=sH (mr h) p++(cl n++q):=by
  obtain ⟨h1,h2⟩:=xq hh hd
  have hn0:cl n≠[]:=fun e=>by have:=hn.pos; rw [ck,e] at this; simp at this
  have hs:Txt.startswith t "/" = decide (p[0]? = some 47):=by
    rw [pA,ht]
    clear ht
    cases p with
    | cons a p=>rfl
    | nil =>
      rw [nil_append,lY hn0]
      refine decide_eq_decide.mpr ⟨fun e=>absurd (mem_of_getElem? e) hn.free,fun e=>nomatch e⟩
  unfold bd sH
  rw [hs,h1,h2]
  by_cases c1:p[0]? = some 47
  · rw [if_pos c1,if_pos (decide_eq_true c1),ht]
  · rw [if_neg c1,if_neg (by simpa using c1),if_pos rfl]
    by_cases c2:(mr h)[(mr h).length - 1]? = some 47
    · rw [if_pos c2,if_pos (decide_eq_true c2),cr,hd,ht,append_assoc]
    · rw [if_neg c2,if_neg (by simpa using c2),cr,cr,hd,ht,show cl "/" = [47] by decide +kernel]
      simp
theorem vm {x:Str} {r:List Nat} (hx:cl x=47::r) (hl:1≤r.length) (h:r[0]?≠some 47∨r.take 2=[47,47]):kH x:=by
  have hlen:x.length=r.length+1:=by rw [ck,hx]; rfl
  constructor
  · refine bne_eq_false_iff_eq.mpr (mu ?_)
    rw [show (1:Int)=((1:Nat):Int) from rfl,sd (by (clear hl; omega)),hx]
    show [47]=_
    decide +kernel
  · rcases h with h | h
    · left
      refine bne_iff_ne.mpr fun e=>h ?_
      have e2:=congrArg cl e
      rw [show (1:Int)=((1:Nat):Int) from rfl,show (2:Int)=((2:Nat):Int) from rfl,fu (by omega) (by omega),hx,show cl "/" = [47] by decide +kernel] at e2
      clear hx hl hlen h
      cases r with
      | nil=>cases e2
      | cons a r=>exact congrArg some (List.cons.inj e2).1
    · right
      have h2:2≤r.length:=by have:=congrArg List.length h; rw [length_take] at this; simp at this; (clear hl hlen; omega)
      refine beq_iff_eq.mpr (mu ?_)
      rw [show (2:Int)=((2:Nat):Int) from rfl,show (3:Int)=((3:Nat):Int) from rfl,fu (by omega) (by omega),hx,show cl "/" = [47] by decide +kernel]
      match r,h2,h with
      | a::b::r,_,h =>
        have:=(List.cons.inj (List.cons.inj h).2).1
        show [b]=_
        rw [this]
theorem pC (l:List (List Nat)) (h:∀ b ∈ l,b.length≤10):(aJ l).length≤11 * l.length:=by
  induction l with
  | nil=>exact Nat.le_refl _
  | cons a l ih =>
    have h1:=ih fun b hb=>h b (.tail _ hb)
    have h2:=h a (.head _)
    show (a++[47]++aJ l).length≤_
    rw [length_append,length_append,length_singleton,length_cons]
    omega
theorem nq {l:List (List Nat)} {n q:List Nat} (hn:n≠[]) (hf:47 ∉ n) (h:(aJ l)[0]?≠some 47∨(aJ l).take 2=[47,47]):(aJ l++(n++q))[0]?≠some 47∨(aJ l++(n++q)).take 2=[47,47]:=by
  cases e:aJ l with
  | nil =>
    left
    rw [nil_append,lY hn]
    exact fun e=>hf (mem_of_getElem? e)
  | cons a r =>
    rw [e] at h
    rcases h with h | h
    · exact .inl h
    · right
      clear e
      cases r with
      | nil=>exact nomatch (List.cons.inj h).2
      | cons b r=>exact h
theorem tH {d t n g:Str} {h w k:Nat} (hh:h < 4) (hw:w < 4) (hk:k < 4) (hd:cl d=mr h) (hn:uY n) (ht:cl t=ub h w k++(cl n++uu w)) (hg:cl g=47::(aJ (gE k)++cl n)):fM (bd d t)=g∧dE (bd d t):=by
  have c:=uI hh hw hk
  have hn0:cl n≠[]:=fun e=>by have:=hn.pos; rw [ck,e] at this; simp at this
  have hx:=vW hh hd hn ht
  rw [c.join,cons_append] at hx
  have hnl:(cl n).length≤10:=by have:=hn.len; rwa [ck] at this
  have hfl:=pC _ fun b hb=>(c.free b hb).2
  have hel:=mx hw
  have hcl:=c.len
  have hlen:(bd d t).length≤250∧1≤(bd d t).length:=by
    rw [ck,hx,length_cons,length_append,length_append]
    (clear hh hw hk; omega)
  have hs:ej (bd d t)=se (mX h w k)++(n::qL w):=by
    unfold ej
    refine sX (by simp) ?_ ?_
    · intro p hp
      rcases mem_append.mp hp with hp | hp
      · clear hh hw hk hd ht hg hx hfl hel hcl
        obtain ⟨b,hb,rfl⟩:=mem_map.mp hp
        exact (c.free b hb).1
      · clear ht hg c hn0 hx hnl hfl hel hcl
        rcases mem_cons.mp hp with rfl | hp
        · exact hn.free
        · exact (jI hw p hp).1
    · rw [show (1:Int)=((1:Nat):Int) from rfl,gX hlen.2,hx,map_append,qG,map_cons,li _ _ (cons_ne_nil _ _),uN hw]
      rfl
  have hr:(ej (bd d t)).foldl am []=se (gE k)++[n]:=by
    rw [hs,foldl_append,c.norm,foldl_cons,hn.step,pj hw]
  have hj:cl (dO (bd d t))=aJ (gE k)++cl n:=by
    unfold dO Txt.join
    rw [StrLaws.glued_eq_join,te,gc,hr,map_append,qG,li _ _ (by exact cons_ne_nil _ _)]
    rfl
  have hnf:fM (bd d t)=g:=by
    refine mu ?_
    unfold fM
    rw [cr,hj,hg,show cl "/" = [47] by decide +kernel]; rfl
  refine ⟨hnf,by (clear hh hw hk hnl hfl hel hcl; omega),hlen.2,?_,?_,?_,?_⟩
  · refine vm hx ?_ (nq hn0 hn.free c.root)
    have:=hn.pos
    rw [ck] at this
    rw [length_append,length_append]; (clear hh hw hk hnl hfl hel hcl hlen; omega)
  · rw [hs,length_append,length_cons,show (se (mX h w k)).length=_ from length_map _]
    have:=sF hw
    (clear hh hw hk hnl hfl hel hlen; omega)
  · intro p hp
    rw [hs] at hp
    rcases mem_append.mp hp with hp | hp
    · clear hd ht hg hx hs hr hj
      obtain ⟨b,hb,rfl⟩:=mem_map.mp hp
      have:=(c.free b hb).2
      show (b.toArray).size≤1000
      rw [size_toArray]; (clear hh hw hk hnl hfl hel hcl hlen; omega)
    · clear ht hg c hn0 hx hs hr hj
      rcases mem_cons.mp hp with rfl | hp
      · have:=hn.len; (clear hh hw hk hfl hel hcl hlen hnl; omega)
      · have:=(jI hw p hp).2; (clear hh hw hk hnl hfl hel hcl hlen; omega)
  · have e:=congrArg List.length hj
    have e2:=congrArg List.length hg
    rw [← ck,length_append] at e
    have h3:(aJ (gE k)).length≤4:=by
      revert hk
      exact lt4 (P:=fun k=>(aJ (gE k)).length≤4) (by decide) (by decide) (by decide) (by decide)
    (clear hh hw hk hfl hel hcl hlen e2; omega)
end
section
set_option tactic.hygienic false
structure Chk1 (k h o:Nat):Prop where
  file:tF k h o=plN k h o
  ok:PyData.strOk (plN k h o)=true
  len:(plN k h o).length≤30
  cnt:Txt.count (plN k h o) "/" = ([1,2,3,2]:List Int).getD h 0
  rlen:(reprText (plN k h o)).length≤100
  repr:reprText (plN k h o) = "'" ++ plN k h o ++ "'"
  dir:dR (plN k h o)=(["/", "/A", "/A/B", "/C"]:List Str).getD h ""
theorem eJ {k h o:Nat} (hk:k < 5) (hh:h < 4) (ho:o < 16):Chk1 k h o:=by
  have h1:=all_eq_true.mp (all_eq_true.mp (all_eq_true.mp sB k (mem_range.mpr hk)) h (mem_range.mpr hh)) o (mem_range.mpr ho)
  unfold chk1 at h1
  simp only [Bool.and_eq_true,decide_eq_true_eq,beq_iff_eq] at h1
  refine A2 h1 fun q91 h11=>?_
  try clear h1
  refine A2 q91 fun q92 h10=>?_
  try clear q91
  refine A2 q92 fun q93 h9=>?_
  try clear q92
  refine A2 q93 fun q94 h8=>?_
  try clear q93
  refine A2 q94 fun q95 h7=>?_
  try clear q94
  refine A2 q95 fun q96 h6=>?_
  try clear q95
  refine A2 q96 fun q97 h5=>?_
  try clear q96
  refine A2 q97 fun q98 h4=>?_
  try clear q97
  refine A2 q98 fun q99 h3=>?_
  try clear q98
  refine A2 q99 fun h1 h2=>?_
  try clear q99
  exact ⟨h1,h2,h3,h11,h7,h8,h10⟩
noncomputable def chk3 (k h o:Nat):Bool:=decide (cl (plN k h o)=47::(aJ (gE h)++[66+k,65+o]))
theorem sb:(List.range 5).all (fun k=>(List.range 4).all fun h=>(List.range 16).all fun o=>chk3 k h o)=true:=by decide +kernel
noncomputable def nmN (k o:Nat):Str:=⟨#[66+k,65+o]⟩
theorem wk {k h o:Nat} (hk:k < 5) (hh:h < 4) (ho:o < 16):cl (plN k h o)=47::(aJ (gE h)++cl (nmN k o)):=by
  have h1:=all_eq_true.mp (all_eq_true.mp (all_eq_true.mp sb k (mem_range.mpr hk)) h (mem_range.mpr hh)) o (mem_range.mpr ho)
  unfold chk3 at h1
  exact of_decide_eq_true h1
theorem nm_ok (k o:Nat):uY (nmN k o):=⟨show 2≤10 by decide,show 1≤2 by decide,by
  intro h
  rcases mem_cons.mp h with h | h
  · omega
  · have:=mem_singleton.mp h; omega,by
  intro h
  have:(66+k)=46:=Option.some.inj h
  omega⟩
theorem pl_ne {k h o k' h' o':Nat} (hk:k < 5) (hh:h < 4) (ho:o < 16) (hk':k' < 5) (hh':h' < 4) (ho':o' < 16) (e:plN k h o=plN k' h' o'):k=k':=by
  have e1:=congrArg (fun x=>(cl x).reverse) e
  rw [wk hk hh ho,wk hk' hh' ho',reverse_cons,reverse_cons,List.reverse_append,List.reverse_append] at e1
  have e2:=(List.cons.inj (List.cons.inj (show (65+o)::(66+k)::_=(65+o')::(66+k')::_ from e1)).2).1
  (clear hk hh ho hk' hh' ho'; omega)
noncomputable def hN (hs:List Int) (k:Nat):Nat:=(Int.fmod (hs.getD k 0) 4).toNat
noncomputable def oN (os:List Int) (k:Nat):Nat:=(Int.fmod (os.getD k 0) 16).toNat
theorem yh (hs:List Int) (k:Nat):hN hs k < 4:=by
  unfold hN
  have h1:=bn (hs.getD k 0) (b:=4) (by decide)
  have h2:=bA (hs.getD k 0) (b:=4) (by decide)
  (clear h1; omega)
theorem wz (os:List Int) (k:Nat):oN os k < 16:=by
  unfold oN
  have h1:=bn (os.getD k 0) (b:=16) (by decide)
  have h2:=bA (os.getD k 0) (b:=16) (by decide)
  (clear h1; omega)
theorem ud (os:List Int) (k:Nat):Int.fmod (os.getD k 0) 16=((oN os k:Nat):Int):=by
  unfold oN
  have h1:=bn (os.getD k 0) (b:=16) (by decide)
  omega
theorem lS (hs os:List Int) (k:Nat):mK hs os k=plN k (hN hs k) (oN os k):=by
  unfold mK plN
  rw [ud]; rfl
theorem uG (hs os:List Int) (k:Nat):qP hs os k=tF k (hN hs k) (oN os k):=by
  unfold qP tF
  rw [ud]; rfl
structure Pls (ps:List Str) (H O:Nat→Nat):Prop where
  eq:ps=(List.range 5).map fun k=>plN k (H k) (O k)
  h:∀ k,H k < 4
  o:∀ k,O k < 16
theorem yi (hs os:List Int):Pls (aF hs os 5) (hN hs) (oN os):=⟨map_congr_left fun k _=>lS hs os k,yh hs,wz os⟩
section
variable {ps:List Str} {H O:Nat→Nat} (p:Pls ps H O)
include p
theorem Pls.len5:ps.length=5:=by rw [p.eq,length_map,length_range]
theorem Pls.at_ {k:Nat} (hk:k < 5):ps[k]? = some (plN k (H k) (O k)):=by
  rw [p.eq,List.getElem?_map,List.getElem?_range hk]; rfl
theorem Pls.get {k:Nat} (hk:k < 5):ps.getD k "" = plN k (H k) (O k):=by rw [getD_eq_getElem?_getD,p.at_ hk]; rfl
theorem Pls.mem {x:Str} (hx:x ∈ ps):∃ k,k < 5∧x=plN k (H k) (O k):=by
  rw [p.eq] at hx
  refine E1 (mem_map.mp hx) fun k q91=>A2 q91 fun hk e=>?_
  clear q91
  exact ⟨k,mem_range.mp hk,e.symm⟩
theorem Pls.mem_at {k:Nat} (hk:k < 5):plN k (H k) (O k) ∈ ps:=mem_of_getElem? (p.at_ hk)
theorem Pls.nodup:ps.Nodup:=by
  rw [p.eq]
  unfold List.Nodup
  rw [List.pairwise_map]
  refine List.Pairwise.imp_of_mem (fun {a b} ha hb hne e=>hne (pl_ne (mem_range.mp ha) (p.h a) (p.o a) (mem_range.mp hb) (p.h b) (p.o b) e)) (List.nodup_range (n:=5))
noncomputable def fH (ps:List Str) (g:Str):Prop:=g ∈ ps∨g = "/lost" ∨ g = "/A/lost"
omit p in
theorem rh:uY "lost" := ⟨by decide +kernel,by decide +kernel,by decide +kernel,by decide +kernel⟩
theorem Pls.goal {g:Str} (h:fH ps g):∃ k n,k < 4∧uY n∧cl g=47::(aJ (gE k)++cl n)∧PyData.strOk g=true:=by
  rcases h with h | rfl | rfl
  · obtain ⟨k,hk,rfl⟩:=p.mem h
    exact ⟨_,_,p.h k,nm_ok k (O k),wk hk (p.h k) (p.o k),(eJ hk (p.h k) (p.o k)).ok⟩
  · exact ⟨0, "lost",by decide,rh,by decide +kernel,by decide +kernel⟩
  · exact ⟨1, "lost",by decide,rh,by decide +kernel,by decide +kernel⟩
theorem Pls.goalF_in {k:Nat} (hk:k < 5) (r:Int):fH ps (eC ps k r):=by
  have f3:=bn (Int.fdiv r 40) (b:=k+3) (by (clear hk; omega))
  have f4:=bA (Int.fdiv r 40) (b:=k+3) (by (clear hk f3; omega))
  have g1:=bn r (b:=5) (by decide)
  have g2:=bA r (b:=5) (by decide)
  have hm:eC ps k r ∈ ps.take k++([("/lost" : Str),("/A/lost" : Str),ps.getD (Int.fmod r 5).toNat ""]:List Str):=by
    unfold eC
    generalize ps.getD (Int.fmod r 5).toNat "" = z
    have hl:(Int.fmod (Int.fdiv r 40) ((k:Int)+3)).toNat < (ps.take k++([("/lost" : Str),("/A/lost" : Str),z]:List Str)).length:=by
      rw [length_append,length_take,p.len5]
      show _ < min k 5+3
      omega
    rw [getD_eq_getElem?_getD,List.getElem?_eq_getElem hl]
    exact List.getElem_mem hl
  rcases mem_append.mp hm with h | h
  · exact .inl (List.mem_of_mem_take h)
  · rcases mem_cons.mp h with h | h
    · exact .inr (.inl h)
    rcases mem_cons.mp h with h | h
    · exact .inr (.inr h)
    · rw [mem_singleton.mp h,p.get (by (clear hk f3 f4 g1; omega))]
      exact .inl (p.mem_at (by (clear hk f3 f4 g1; omega)))
end
theorem up_cl {h:Nat} (hh:h < 4):cl (Txt.mul ("../" : Str) (([1,2,3,2]:List Int).getD h 0 - 1))=aJ (upB h):=by
  revert hh
  exact lt4 (P:=fun h=>cl (Txt.mul ("../" : Str) (([1,2,3,2]:List Int).getD h 0 - 1))=aJ (upB h)) (by decide +kernel) (by decide +kernel) (by decide +kernel) (by decide +kernel)
theorem wO {h:Nat} (hh:h < 4):cl ((["/", "/A", "/A/B", "/C"]:List Str).getD h "")=mr h:=by
  revert hh
  exact lt4 (P:=fun h=>cl ((["/", "/A", "/A/B", "/C"]:List Str).getD h "")=mr h) (by decide +kernel) (by decide +kernel) (by decide +kernel) (by decide +kernel)
theorem xW {u g n:Str} {h w k:Nat} (hw:w < 4) (hu:cl u=aJ (upB h)) (hg:cl g=47::(aJ (gE k)++cl n)):cl ((qC u g).getD w "")=ub h w k++(cl n++uu w):=by
  have hs:cl (Txt.slice g (some 1) none)=aJ (gE k)++cl n:=by
    rw [show (1:Int)=((1:Nat):Int) from rfl,gX (by rw [ck,hg]; exact Nat.succ_le_succ (Nat.zero_le _)),hg]; rfl
  revert hw
  refine lt4 (P:=fun w=>cl ((qC u g).getD w "")=ub h w k++(cl n++uu w)) ?_ ?_ ?_ ?_
  · show cl (u++Txt.slice g (some 1) none)=_
    rw [cr,hu,hs]
    show _=[]++(aJ (upB h)++aJ (gE k))++(cl n++[])
    simp only [nil_append,append_nil,append_assoc]
  · show cl ("./../" ++ u++Txt.slice g (some 1) none)=_
    rw [cr,cr,hu,hs,show cl "./../" = aJ (wu 1) by decide +kernel]
    show _=aJ (wu 1)++(aJ (upB h)++aJ (gE k))++(cl n++[])
    simp only [append_nil,append_assoc]
  · show cl ("Z//../" ++ u++Txt.slice g (some 1) none ++ "/.")=_
    rw [cr,cr,cr,hu,hs,show cl "Z//../" = aJ (wu 2) by decide +kernel,show cl "/." = [47,46] by decide +kernel]
    show _=aJ (wu 2)++(aJ (upB h)++aJ (gE k))++(cl n++[47,46])
    simp only [append_assoc]
  · show cl ("///" ++ Txt.slice g (some 1) none ++ "//")=_
    rw [cr,cr,hs,show cl "///" = [47,47,47] by decide +kernel,show cl "//" = [47,47] by decide +kernel]
    show _=[47,47,47]++aJ (gE k)++(cl n++[47,47])
    simp only [append_assoc]
theorem wh:∀ {h w g:Nat},h < 4→w < 4→g < 4→(ub h w g).length≤100:=by
  have:(List.range 4).all (fun h=>(List.range 4).all fun w=>(List.range 4).all fun g=>decide ((ub h w g).length≤100))=true:=by decide +kernel
  exact fun {h w g} hh hw hg=>of_decide_eq_true (all_eq_true.mp (all_eq_true.mp (all_eq_true.mp this h (mem_range.mpr hh)) w (mem_range.mpr hw)) g (mem_range.mpr hg))
theorem Pls.found {ps:List Str} {H O:Nat→Nat} (p:Pls ps H O) {k:Nat} (hk:k < 5) (r:Int):fM (bd (dR (plN k (H k) (O k))) (uC ps k r))=eC ps k r∧(uC ps k r).length≤1000∧dE (bd (dR (plN k (H k) (O k))) (uC ps k r)):=by
  have c:=eJ hk (p.h k) (p.o k)
  refine E2 (p.goal (p.goalF_in hk r)) fun g n q91=>A4 q91 fun hg hn e _=>?_
  clear q91
  have hw:(Int.fmod (Int.fdiv r 10) 4).toNat < 4:=by
    have f5:=bn (Int.fdiv r 10) (b:=4) (by decide)
    have f6:=bA (Int.fdiv r 10) (b:=4) (by decide)
    (clear hk hg f5; omega)
  have ht:cl (uC ps k r)=ub (H k) (Int.fmod (Int.fdiv r 10) 4).toNat g++(cl n++uu (Int.fmod (Int.fdiv r 10) 4).toNat):=by
    unfold uC
    rw [p.get hk,c.cnt]
    exact xW hw (up_cl (p.h k)) e
  have hd:cl (dR (plN k (H k) (O k)))=mr (H k):=by rw [c.dir]; exact wO (p.h k)
  obtain ⟨h1,h2⟩:=tH (p.h k) hw hg hd hn ht e
  refine ⟨h1,?_,h2⟩
  have l1:=wh (p.h k) hw hg
  have l2:=mx hw
  have l3:=hn.len
  rw [ck] at l3
  rw [ck,ht,length_append,length_append]
  (clear hk hg hw; omega)
end
section
set_option tactic.hygienic false
theorem tX {b L:al} {x:Str} (h:(b.at x).isSome=true):al.at (b++L) x=b.at x:=by
  unfold al.at at h ⊢
  rw [find?_append]
  cases e:List.find? (fun p=>decide (p.1=x)) b with
  | none=>rw [e] at h; cases h
  | some y=>rfl
theorem lX {b:al} (hn:(b.map (·.1)).Nodup) {p:Str×Row} (hp:p ∈ b):b.at p.1=some p.2:=by
  induction b with
  | nil=>cases hp
  | cons q r ih =>
    obtain ⟨n1,n2⟩:=nodup_cons.mp hn
    unfold al.at
    rw [find?_cons]
    clear hn
    rcases mem_cons.mp hp with rfl | hp
    · simp
    · have:(decide (q.1=p.1))=false:=decide_eq_false fun e=>n1 (mem_map.mpr ⟨p,hp,e.symm⟩)
      rw [this]; exact ih n2 hp
noncomputable def ti (L:List Str):al:=L.map fun g=>(g,⟨0,[]⟩)
structure kt (b0:al) (G:List Str) (b:al):Prop where
  ex:∃ L,b=b0++ti L∧∀ g ∈ L,g ∈ G
  nd:(b.map (·.1)).Nodup
  at_:∀ g ∈ G,(b.at g).isSome=true
theorem kt.ask {b0 b:al} {G:List Str} (h:kt b0 G b) (g:Str):kt b0 (G++[g]) (if (b.at g).isSome then b else b++[(g,⟨0,[]⟩)]):=by
  obtain ⟨⟨L,e,hL⟩,hn,ha⟩:=h
  by_cases c:(b.at g).isSome=true
  · rw [if_pos c]
    refine ⟨⟨L,e,fun x hx=>mem_append_left _ (hL x hx)⟩,hn,fun x hx=>?_⟩
    rcases mem_append.mp hx with hx | hx
    · exact ha x hx
    · rw [mem_singleton.mp hx]; exact c
  · rw [if_neg c]
    have hg:g ∉ b.map (·.1):=fun q=>c (hY q)
    refine ⟨⟨L++[g],by rw [e,append_assoc]; unfold ti; rw [map_append]; rfl,fun x hx=>?_⟩,?_,fun x hx=>?_⟩
    · rcases mem_append.mp hx with hx | hx
      · exact mem_append_left _ (hL x hx)
      · exact mem_append_right _ hx
    · rw [map_append,nodup_append]
      refine ⟨hn,nodup_cons.mpr ⟨not_mem_nil,nodup_nil⟩,fun x hx y hy q=>hg ?_⟩
      rw [← show y=g from mem_singleton.mp hy,← q]; exact hx
    · rcases mem_append.mp hx with hx | hx
      · rw [tX (ha x hx)]; exact ha x hx
      · rw [mem_singleton.mp hx]
        refine hY ?_
        rw [map_append]; exact mem_append_right _ (.head _)
theorem kt.asks {b0:al}:∀ (as:List Ask) {b:al} {G:List Str},kt b0 G b→kt b0 (G++as.map (·.goal)) (fD b as)
  | [],b,G,h=>by rw [List.map_nil,append_nil]; exact h
  | a::as,b,G,h=>by
    have:=kt.asks as (h.ask a.goal)
    rw [append_assoc] at this
    exact this
theorem kt.pre {b0 b:al} {G:List Str} (h:kt b0 G b) {x:Str} (hx:(b0.at x).isSome=true):b.at x=b0.at x:=by
  refine E1 h.ex fun L q91=>A2 q91 fun e _=>?_
  clear q91
  rw [e]; exact tX hx
theorem kt.all {b0:al}:∀ (xs:List Str) {b:al} {G:List Str},kt b0 G b→(∀ x ∈ xs,(b0.at x).isSome=true)→kt b0 (G++xs.flatMap fun x=>(ai b0 x).map (·.goal)) (gd b xs)
  | [],b,G,h,_=>by rw [List.flatMap_nil,append_nil]; exact h
  | x::xs,b,G,h,hx=>by
    have:=kt.all xs (h.asks (ai b0 x)) fun y hy=>hx y (.tail _ hy)
    rw [append_assoc] at this
    rw [flatMap_cons]
    unfold gd
    rw [foldl_cons,h.pre (hx x (.head _))]
    exact this
theorem oM {ps:List Str} (os ws:List Int) (h5:ps.length=5):(aM ps os ws 5).map (·.1)=ps:=by
  unfold aM
  rw [List.map_map]
  refine List.ext_getElem? fun i=>?_
  rw [List.getElem?_map]
  by_cases h:i < 5
  · rw [List.getElem?_range h]
    show some (ps.getD i "")=_
    rw [getD_eq_getElem?_getD,List.getElem?_eq_getElem (by omega)]; rfl
  · rw [List.getElem?_eq_none (by rw [length_range]; omega),List.getElem?_eq_none (by omega)]; rfl
section
variable {ps:List Str} {H O:Nat→Nat} (p:Pls ps H O) (os ws:List Int)
include p
theorem Pls.keys1:(aM ps os ws 5).map (·.1)=ps:=oM os ws p.len5
theorem Pls.at1 {k:Nat} (hk:k < 5):(aM ps os ws 5).at (plN k (H k) (O k))=some (rD ps os ws k):=by
  have hm:(plN k (H k) (O k),rD ps os ws k) ∈ aM ps os ws 5:=by
    unfold aM
    exact mem_map.mpr ⟨k,mem_range.mpr hk,by rw [p.get hk]⟩
  exact lX (p:=(plN k (H k) (O k),rD ps os ws k)) (by rw [p.keys1]; exact p.nodup) hm
theorem Pls.inv:kt (aM ps os ws 5) (ps.flatMap fun x=>(ai (aM ps os ws 5) x).map (·.goal)) (bu ps os ws):=by
  have h0:kt (aM ps os ws 5) [] (aM ps os ws 5):=⟨⟨[],(append_nil _).symm,fun _ h=>nomatch h⟩,by rw [p.keys1]; exact p.nodup,fun _ h=>nomatch h⟩
  have:=kt.all ps h0 fun x hx=>by
    obtain ⟨k,hk,rfl⟩:=p.mem hx
    rw [p.at1 os ws hk]; rfl
  rw [nil_append] at this
  exact this
theorem Pls.bat {k:Nat} (hk:k < 5):(bu ps os ws).at (plN k (H k) (O k))=some (rD ps os ws k):=by
  have h1:=p.at1 os ws hk
  rw [(p.inv os ws).pre (by rw [h1]; rfl),h1]
theorem Pls.asks {k:Nat} (hk:k < 5):ai (bu ps os ws) (plN k (H k) (O k))=[pt ps k (Int.fmod (ws.getD k 0) 1000),pt ps k (Int.fdiv (ws.getD k 0) 1000)]:=by
  unfold ai
  rw [p.bat os ws hk]; rfl
theorem Pls.asks1 {k:Nat} (hk:k < 5):ai (aM ps os ws 5) (plN k (H k) (O k))=[pt ps k (Int.fmod (ws.getD k 0) 1000),pt ps k (Int.fdiv (ws.getD k 0) 1000)]:=by
  unfold ai
  rw [p.at1 os ws hk]; rfl
theorem Pls.ask {x:Str} (hx:x ∈ ps) {a:Ask} (ha:a ∈ ai (bu ps os ws) x):∃ k r,k < 5∧x=plN k (H k) (O k)∧a=pt ps k r:=by
  refine E1 (p.mem hx) fun k q91=>A2 q91 fun hk e92=>?_
  clear q91
  clear hx
  first | subst e92 | cases e92
  rw [p.asks os ws hk] at ha
  rcases mem_cons.mp ha with h | h
  · exact ⟨k,_,hk,rfl,h⟩
  · exact ⟨k,_,hk,rfl,mem_singleton.mp h⟩
theorem Pls.goals {g:Str} (h:g ∈ ps.flatMap fun x=>(ai (aM ps os ws 5) x).map (·.goal)):fH ps g:=by
  refine E1 (mem_flatMap.mp h) fun x q91=>A2 q91 fun hx h=>?_
  clear q91
  refine E1 (mem_map.mp h) fun a q92=>A2 q92 fun ha e93=>?_
  clear q92
  first | subst e93 | cases e93
  refine E1 (p.mem hx) fun k q94=>A2 q94 fun hk e95=>?_
  clear q94
  first | subst e95 | cases e95
  rw [p.asks1 os ws hk] at ha
  rcases mem_cons.mp ha with rfl | h
  · exact p.goalF_in hk _
  · rw [mem_singleton.mp h]; exact p.goalF_in hk _
theorem Pls.memb {q:Str×Row} (hq:q ∈ bu ps os ws):(∃ k,k < 5∧q.1=plN k (H k) (O k)∧q.2=rD ps os ws k)∨(q.2=⟨0,[]⟩∧fH ps q.1):=by
  refine E1 ((p.inv os ws).ex) fun L q91=>A2 q91 fun e hL=>?_
  clear q91
  rw [e] at hq
  rcases mem_append.mp hq with hq | hq
  · unfold aM at hq
    refine E1 (mem_map.mp hq) fun k q92=>A2 q92 fun hk e93=>?_
    clear q92
    first | subst e93 | cases e93
    exact .inl ⟨k,mem_range.mp hk,p.get (mem_range.mp hk),rfl⟩
  · refine E1 (mem_map.mp hq) fun g q94=>A2 q94 fun hg e95=>?_
    clear q94
    first | subst e95 | cases e95
    exact .inr ⟨rfl,p.goals os ws (hL g hg)⟩
theorem Pls.blen:(bu ps os ws).length≤7:=by
  have:=aO (l':=ps++[("/lost" : Str), "/A/lost"]) (p.inv os ws).nd fun x hx=>by
    obtain ⟨q,hq,rfl⟩:=mem_map.mp hx
    rcases p.memb os ws hq with ⟨k,hk,e,_⟩ | ⟨_,h | h | h⟩
    · rw [e]; exact mem_append_left _ (p.mem_at hk)
    · exact mem_append_left _ h
    · rw [h]; exact mem_append_right _ (.head _)
    · rw [h]; exact mem_append_right _ (.tail _ (.head _))
  rw [length_map,length_append,p.len5] at this
  exact this
omit p in
theorem mS (r:Int):nR r=1∨nR r = -1:=by
  unfold nR
  have h1:=bn (Int.fdiv r 5) (b:=2) (by decide)
  have h2:=bA (Int.fdiv r 5) (b:=2) (by decide)
  omega
theorem Pls.bok (ho:∀ o ∈ os,-500≤o∧o≤500):di (bu ps os ws):=by
  refine ⟨p.blen os ws,fun q hq=>?_,fun q hq=>?_,fun q hq a ha=>?_⟩
  · rcases p.memb os ws hq with ⟨k,hk,_,e⟩ | ⟨e,_⟩
    · rw [e]
      show -500≤os.getD k 0∧os.getD k 0≤500
      rw [getD_eq_getElem?_getD]
      cases q:os[k]? with
      | none=>decide
      | some v=>exact ho v (mem_of_getElem? q)
    · rw [e]; exact ⟨by decide,by decide⟩
  · rcases p.memb os ws hq with ⟨k,hk,_,e⟩ | ⟨e,_⟩
    · rw [e]; exact Nat.le_refl _
    · rw [e]; exact Nat.zero_le _
  · rcases p.memb os ws hq with ⟨k,hk,_,e⟩ | ⟨e,_⟩
    · rw [e] at ha
      rcases mem_cons.mp ha with rfl | h
      · exact mS _
      · rw [mem_singleton.mp h]; exact mS _
    · rw [e] at ha; cases ha
theorem Pls.pb:PB (bu ps os ws) ps:=by
  have hv:=p.inv os ws
  have hat:∀ q ∈ bu ps os ws,(bu ps os ws).at q.1=some q.2:=fun q hq=>lX hv.nd hq
  refine ⟨fun x hx=>?_,p.nodup,fun x hx=>?_,fun x hx a ha=>?_,fun k r hr hk=>?_,nK hv.nd ?_ hat⟩
  · obtain ⟨k,hk,rfl⟩:=p.mem hx
    exact ⟨_,_,p.asks os ws hk⟩
  · obtain ⟨k,hk,rfl⟩:=p.mem hx
    exact ⟨_,p.bat os ws hk,(p.asks os ws hk).symm⟩
  · refine hv.at_ _ (mem_flatMap.mpr ⟨x,hx,mem_map.mpr ⟨a,?_,rfl⟩⟩)
    obtain ⟨k,hk,rfl⟩:=p.mem hx
    rw [p.asks1 os ws hk,← p.asks os ws hk]; exact ha
  · rcases p.memb os ws (db hr) with ⟨j,hj,e,_⟩ | ⟨e,_⟩
    · exact absurd (by rw [show k=_ from e]; exact p.mem_at hj) hk
    · rw [show r=_ from e]
  · obtain ⟨L,e,hL⟩:=hv.ex
    rw [e,filter_append,length_append,length_append]
    have h1:(aM ps os ws 5).length=5:=cF ps os ws 5
    have h2:(ti L).filter (fun p=>p.2.asks.isEmpty)=ti L:=filter_eq_self.mpr fun q hq=>by
      clear e hL
      obtain ⟨g,_,rfl⟩:=mem_map.mp hq
      rfl
    rw [h1,h2]; (clear h1; omega)
end
end
section
set_option tactic.hygienic false
theorem jQ {β:Type} (f:Str→β) (k:Str) (v:β) (y:Str):upd f k v y=if y=k then v else f y:=rfl
structure Tick (f:Str→Int) (ys:List Str) (q:(Str→Int)×List Str):Prop where
  np:∀ y,q.1 y=f y - (ys.count y:Nat)
  rs:∀ y,y ∈ q.2↔1≤f y∧f y≤(ys.count y:Nat)
  nd:q.2.Nodup
theorem wi (f:Str→Int):∀ ys:List Str,Tick f ys (ys.foldl gI (f,[])) :=
  wC ⟨fun y=>by simp,fun y=>⟨fun h=>(nomatch h),fun h=>by have:=h.1; have h2:=h.2; simp at h2; omega⟩,nodup_nil⟩ fun ys a ih=>by
    obtain ⟨h1,h2,h3⟩:=ih
    rw [foldl_append]
    generalize ys.foldl gI (f,[])=q at h1 h2 h3
    have hc:∀ y,((ys++[a]).count y:Nat)=ys.count y+(if y=a then 1 else 0):=fun y=>by
      rw [List.count_append,List.count_singleton]
      by_cases e:y=a
      · subst e; simp
      · rw [if_neg e,if_neg (by simpa using fun q:a=y=>e q.symm)]
    show Tick f (ys++[a]) (gI q a)
    refine ⟨fun y=>?_,fun y=>?_,?_⟩
    · show upd q.1 a (q.1 a - 1) y=_
      rw [jQ,hc]
      by_cases e:y=a
      · subst e; rw [if_pos rfl,if_pos rfl,h1]; omega
      · rw [if_neg e,if_neg e,h1]; omega
    · rw [hc]
      show y ∈ (if q.1 a - 1=0 then q.2++[a] else q.2)↔_
      by_cases c:q.1 a - 1=0
      · rw [if_pos c,mem_append,mem_singleton,h2]
        by_cases e:y=a
        · subst e
          have:=h1 y
          rw [if_pos rfl]
          exact ⟨fun _=>by omega,fun _=>.inr rfl⟩
        · rw [if_neg e]
          exact ⟨fun h=>h.elim id fun q=>absurd q e,.inl⟩
      · rw [if_neg c,h2]
        by_cases e:y=a
        · subst e
          have:=h1 y
          rw [if_pos rfl]
          omega
        · rw [if_neg e]; rfl
    · show (if q.1 a - 1=0 then q.2++[a] else q.2).Nodup
      by_cases c:q.1 a - 1=0
      · rw [if_pos c,nodup_append]
        refine ⟨h3,nodup_cons.mpr ⟨not_mem_nil,nodup_nil⟩,fun x hx y hy e=>?_⟩
        rw [mem_singleton.mp hy] at e
        subst e
        have:=(h2 x).mp hx
        have:=h1 x
        omega
      · rw [if_neg c]; exact h3
noncomputable def sY (as:List Ask) (g:Str):Nat:=(as.filter fun a=>decide (a.goal=g)).length
theorem lz (x y:Str) (n:Nat):((List.replicate n x).count y:Nat)=if x=y then n else 0:=by
  rw [List.count_replicate]
  by_cases e:x=y
  · subst e; simp
  · rw [if_neg e,if_neg (by simpa using e)]
theorem vO (b:al) (z x:Str):uk b z x=List.replicate (sY (ai b x) z) x:=by
  unfold uk sY
  exact List.map_const'
theorem lP {b:al} {z y:Str}:∀ {ps:List Str},ps.Nodup→((ps.flatMap (uk b z)).count y:Nat)=if y ∈ ps then sY (ai b y) z else 0
  | [],_=>by simp
  | x::ps,hn=>by
    obtain ⟨n1,n2⟩:=nodup_cons.mp hn
    rw [flatMap_cons,List.count_append,vO,lz,lP n2]
    by_cases e:x=y
    · subst e
      rw [if_pos rfl,if_neg n1,if_pos (.head _)]; rfl
    · rw [if_neg e]
      by_cases m:y ∈ ps
      · rw [if_pos m,if_pos (.tail _ m),Nat.zero_add]
      · rw [if_neg m,if_neg (fun h=>(mem_cons.mp h).elim (fun q=>e q.symm) m)]
theorem vT (W:Wds) (k:Str) (v:List UInt8) (x:Str):Bat (W++[(k,v)]) x=(Bat W x).or (if k=x then some v else none):=by
  unfold Bat
  rw [find?_append]
  cases e:List.find? (fun p=>decide (p.1=x)) W with
  | some y=>rfl
  | none =>
    rw [Option.none_or,Option.map_none,Option.none_or,find?_cons]
    by_cases c:k=x
    · rw [if_pos c,show decide (k=x)=true from decide_eq_true c]; rfl
    · rw [if_neg c,show decide (k=x)=false from decide_eq_false c]; rfl
theorem oH {W:Wds} {k:Str}:(Bat W k).isSome=true↔k ∈ W.map (·.1):=by
  unfold Bat
  rw [isSome_map,find?_isSome]
  constructor
  · rintro ⟨p,hp,e⟩; exact mem_map.mpr ⟨p,hp,by simpa using e⟩
  · intro h
    obtain ⟨p,hp,e⟩:=mem_map.mp h
    exact ⟨p,hp,by simpa using e⟩
theorem sy {W:Wds} {k:Str}:Bat W k=none↔k ∉ W.map (·.1):=by
  rw [← oH]
  cases Bat W k <;> simp
theorem sI {W:Wds} {k:Str} {v:List UInt8} (h:Bat W k=none) (as:List Ask):(bz (W++[(k,v)]) as).length+sY as k=(bz W as).length:=by
  unfold bz sY
  rw [length_map,length_map]
  induction as with
  | nil=>rfl
  | cons a as ih =>
    rw [filter_cons,filter_cons,filter_cons,vT]
    by_cases c:a.goal=k
    · rw [if_neg (by rw [if_pos c.symm]; simp),if_pos (by simpa using c),if_pos (by rw [c,h]; rfl),length_cons,length_cons]
      omega
    · rw [if_neg (show ¬ k=a.goal from fun e=>c e.symm),or_none,if_neg (show ¬ decide (a.goal=k)=true by simpa using c)]
      by_cases d:(Bat W a.goal).isNone=true
      · rw [if_pos d,if_pos d,length_cons,length_cons]; omega
      · rw [if_neg d,if_neg d]; exact ih
theorem fA {W:Wds} {as:List Ask}:bz W as=[]↔∀ a ∈ as,(Bat W a.goal).isSome=true:=by
  unfold bz
  rw [map_eq_nil_iff,filter_eq_nil_iff]
  exact ⟨fun h a ha=>by have:=h a ha; cases e:Bat W a.goal <;> simp_all,fun h a ha=>by have:=h a ha; cases e:Bat W a.goal <;> simp_all⟩
theorem pO {W:Wds} {as:List Ask} {k:Str} (h:bz W as=[]) (hk:Bat W k=none):sY as k=0:=by
  unfold sY
  rw [length_eq_zero_iff,filter_eq_nil_iff]
  intro a ha e
  have:=fA.mp h a ha
  rw [show a.goal=k by simpa using e,hk] at this
  cases this
theorem fZ (W:Wds) (k:Str):Wat (eB W) k=(Bat W k).map kr:=by
  unfold Wat Bat eB
  rw [find?_map,Option.map_map,Option.map_map]; rfl
theorem ft (W:Wds):(eB W).map (·.1)=W.map (·.1):=by unfold eB; rw [List.map_map]; rfl
theorem wg (W:Wds) (r:Row):((mm W r).natAbs:Int)=jm (eB W) r:=by
  unfold mm jm
  have:(r.asks.map fun a=>a.sign * kr ((Bat W a.goal).getD []))=r.asks.map fun a=>a.sign * (Wat (eB W) a.goal).getD 0:=map_congr_left fun a _=>by
    rw [fZ]
    cases Bat W a.goal <;> rfl
  rw [this]
theorem wm {W:Wds} {as:List Ask} (h:bz W as=[]):fg (eB W) as:=fun a ha=>by
  rw [fZ,isSome_map]; exact fA.mp h a ha
end
section
set_option tactic.hygienic false
structure RB (b:al) (ps:List Str):Prop where
  pb:PB b ps
  bok:di b
  keys:∀ x,x ∈ b.map (·.1)↔x ∈ (ag b ps).ks
  nd:(b.map (·.1)).Nodup
  ksn:(ag b ps).ks.Nodup
  oks:∀ x ∈ b.map (·.1),PyData.strOk x=true
  one:∀ x ∈ b.map (·.1),x.length≤1000∧(dR x).length≤1000
  found:∀ x ∈ ps,∀ a ∈ ai b x,fM (bd (dR x) a.text)=a.goal∧a.text.length≤1000∧dE (bd (dR x) a.text)
  suc:∀ z,((ag b ps).sc z).length≤100
structure RIv (b:al) (ps:List Str) (r:RS):Prop where
  perm:r.given.Perm (r.words.map (·.1)++r.waiting)
  gn:r.given.Nodup
  gk:∀ x ∈ r.given,x ∈ b.map (·.1)
  ga:∀ x ∈ r.given,bz r.words (ai b x)=[]
  wok:WOk b (eB r.words)
  ap:∀ q ∈ r.words,∃ n,n≤63500∧q.2=apN n
  npw:∀ x ∈ r.words.map (·.1),r.np x = -2
  npg:∀ x ∈ r.waiting,r.np x = -1
  npn:∀ x,x ∉ r.given→r.np x=((bz r.words (ai b x)).length:Nat)
  rsn:r.rs.Nodup
  rs:∀ x,x ∈ r.rs↔x ∈ b.map (·.1)∧x ∉ r.given∧bz r.words (ai b x)=[]
  po:r.po=r.given.length
  nf:r.nf=r.words.length
theorem ib (b:al) (x:Str):(cT b x).asks=ai b x:=by
  unfold cT ai
  cases b.at x <;> rfl
theorem PB.noasks {b:al} {ps:List Str} (h:PB b ps) {x:Str} (hx:x ∉ ps):ai b x=[]:=by
  unfold ai
  cases e:b.at x with
  | none=>rfl
  | some r=>exact h.lost x r e hx
theorem RB.count {b:al} {ps:List Str} (h:RB b ps) (z y:Str):(((ag b ps).sc z).count y:Nat)=sY (ai b y) z:=by
  rw [g_sc ps h.pb.two,lP h.pb.nd]
  by_cases m:y ∈ ps
  · rw [if_pos m]
  · rw [if_neg m,h.pb.noasks m]; rfl
theorem RB.start {b:al} {ps:List Str} (h:RB b ps) (turn:Int):RIv b ps (bR b ps turn):=by
  have hm:∀ x,(ag b ps).np x=((bz [] (ai b x)).length:Nat):=fun x=>by
    have e:(bz [] (ai b x)).length=(ai b x).length:=by
      unfold bz
      have:(ai b x).filter (fun a=>(Bat [] a.goal).isNone)=ai b x:=filter_eq_self.mpr fun _ _=>rfl
      rw [length_map,this]
    rw [g_np ps h.pb.two h.pb.nd,e]
    by_cases m:x ∈ ps
    · refine E2 (h.pb.two x m) fun a1 a2 ha=>?_
      rw [if_pos m,ha]; rfl
    · rw [if_neg m,h.pb.noasks m]; rfl
  refine ⟨.refl _,nodup_nil,fun _ h=>(nomatch h),fun _ h=>(nomatch h),.nil,fun _ h=>(nomatch h),fun _ h=>(nomatch h),fun _ h=>(nomatch h),fun x _=>hm x,h.ksn.filter _,fun x=>?_,rfl,rfl⟩
  show x ∈ (ag b ps).ks.filter (fun x=>decide ((ag b ps).np x=0))↔_
  rw [mem_filter,decide_eq_true_eq,hm x,← h.keys x]
  constructor
  · rintro ⟨h1,h2⟩
    exact ⟨h1,not_mem_nil,length_eq_zero_iff.mp (show (bz [] (ai b x)).length=0 by omega)⟩
  · intro r91
    refine A3 r91 fun h1 _ h3=>?_
    try clear r91
    exact ⟨h1,by rw [show bz [] (ai b x)=[] from h3]; rfl⟩
section
variable {b:al} {ps:List Str} {r:RS} (h:RB b ps) (v:RIv b ps r)
include h v
omit h in
theorem RIv.words_in {x:Str} (hx:x ∈ r.words.map (·.1)):x ∈ r.given:=v.perm.mem_iff.mpr (mem_append_left _ hx)
omit h in
theorem RIv.wait_in {x:Str} (hx:x ∈ r.waiting):x ∈ r.given:=v.perm.mem_iff.mpr (mem_append_right _ hx)
omit h in
theorem RIv.nd2:(r.words.map (·.1)++r.waiting).Nodup:=v.perm.nodup_iff.mp v.gn
omit h in
theorem RIv.len2:r.given.length=r.words.length+r.waiting.length:=by rw [v.perm.length_eq,length_append,length_map]
omit h v in
theorem cN {x:Str}:x ∈ dQ b r↔x ∈ b.map (·.1)∧x ∉ r.given∧bz r.words (ai b x)=[]:=by
  unfold dQ wv
  rw [mem_filter,Bool.and_eq_true,decide_eq_true_eq,List.isEmpty_iff]
omit v in
theorem RB.due_nd:(dQ b r).Nodup:=h.nd.filter _
theorem RIv.due:r.rs.Perm (dQ b r):=(List.perm_ext_iff_of_nodup v.rsn h.due_nd).mpr fun x=>(v.rs x).trans cN.symm
theorem RIv.due_iff {x:Str}:x ∈ r.rs↔x ∈ dQ b r:=(v.due h).mem_iff
theorem RIv.runOk:sz b r:=by
  have h1:=aO v.gn v.gk
  have h2:=aO v.rsn (l':=b.map (·.1)) fun x hx=>((v.rs x).mp hx).1
  have h3:=h.bok.len
  have h4:=v.len2
  rw [length_map] at h1 h2
  exact ⟨by (clear h1 h4; omega),by omega,by (clear h2 h4; omega),by omega⟩
theorem RIv.wait_ne (ha:bF r=true):bH b r≠[]:=by
  unfold bF at ha
  rw [Bool.or_eq_true,decide_eq_true_eq] at ha
  intro e
  obtain ⟨e1,e2⟩:=List.append_eq_nil_iff.mp e
  rcases ha with ha | ha
  · have:=v.len2
    rw [v.po,v.nf] at ha
    rw [e1] at this
    simp at this; omega
  · have:=(v.due h).length_eq
    rw [e2] at this
    rw [length_eq_zero_iff.mp this] at ha
    cases ha
omit h v in
theorem xB (hw:bH b r≠[]):rJ b r < (bH b r).length:=by
  have hp:=length_pos_iff.mpr hw
  unfold rJ
  have h1:=bn r.turn (b:=((bH b r).length:Int)) (by omega)
  have h2:=bA r.turn (b:=((bH b r).length:Int)) (by omega)
  (clear h1; omega)
structure RIv.One (b:al) (r:RS) (p q:List Str):Prop where
  eq:bH b r=p++bf b r::q
  er:(bH b r).eraseIdx (rJ b r)=p++q
  miss:bz r.words (ai b (bf b r))=[]
  key:bf b r ∈ b.map (·.1)
  new:Bat r.words (bf b r)=none
  or_:bf b r ∈ r.waiting∨bf b r ∈ dQ b r
  np:gl r.np r.rs (bf b r) = -1
theorem RIv.oneOk (hw:bH b r≠[]):∃ p q,RIv.One b r p q:=by
  refine E2 (kn (xB hw)) fun p q q91=>A3 q91 fun e _ er=>?_
  clear q91
  have e1:bH b r=p++bf b r::q:=e
  have hm:bf b r ∈ bH b r:=by rw [e1]; exact mem_append_right _ (.head _)
  have ho:=mem_append.mp hm
  refine ⟨p,q,e1,er,?_,?_,?_,ho,?_⟩
  · rcases ho with ho | ho
    · exact v.ga _ (v.wait_in ho)
    · exact (cN.mp ho).2.2
  · rcases ho with ho | ho
    · exact v.gk _ (v.wait_in ho)
    · exact (cN.mp ho).1
  · refine sy.mpr fun hx=>?_
    rcases ho with ho | ho
    · exact (nodup_append.mp v.nd2).2.2 _ hx _ ho rfl
    · exact (cN.mp ho).2.1 (v.words_in hx)
  · unfold gl
    by_cases c:bf b r ∈ r.rs
    · rw [if_pos c]
    · rw [if_neg c]
      exact v.npg _ (ho.resolve_right fun q=>c ((v.due_iff h).mpr q))
theorem RIv.wok' {p q:List Str} (o:RIv.One b r p q):WOk b (eB (eS (ag b ps).sc b r).words)∧(mm r.words (cT b (bf b r))).natAbs≤63500:=by
  obtain ⟨row,hr⟩:=isSome_iff_exists.mp (hY o.key)
  have hrow:cT b (bf b r)=row:=by unfold cT; rw [hr]; rfl
  have hasks:ai b (bf b r)=row.asks:=by rw [← ib,hrow]
  have hn:Wat (eB r.words) (bf b r)=none:=by rw [fZ,o.new]; rfl
  have hs:=WOk.snoc v.wok hn hr (wm (by rw [← hasks]; exact o.miss))
  have hv:jm (eB r.words) row=((mm r.words (cT b (bf b r))).natAbs:Int):=by rw [hrow]; exact (wg _ _).symm
  have hb:(mm r.words (cT b (bf b r))).natAbs≤63500:=by
    have:=(hs.bnd7 h.bok (bf b r) (jm (eB r.words) row) (by rw [bK hn]; unfold Wat; simp)).2
    omega
  refine ⟨?_,hb⟩
  have e:eB (eS (ag b ps).sc b r).words=eB r.words++[(bf b r,jm (eB r.words) row)]:=by
    show eB (r.words++[(bf b r,apN (mm r.words (cT b (bf b r))).natAbs)])=_
    unfold eB
    rw [map_append]
    show _++[(bf b r,kr (apN (mm r.words (cT b (bf b r))).natAbs))]=_
    rw [pp 8 _ (by omega),hv]
  rw [e]; exact hs
theorem RIv.turn (ha:bF r=true):mn (ag b ps).ks (ag b ps).sc b r∧RIv b ps (eS (ag b ps).sc b r)∧(eS (ag b ps).sc b r).words.length≤b.length:=by
  have hw:=v.wait_ne h ha
  refine E2 (v.oneOk h hw) fun p q o=>?_
  obtain ⟨hwok,hval⟩:=v.wok' h o
  have hsome:∀ {x},x ∈ (ag b ps).sc (bf b r)→x ∈ ps:=fun {x} hx=>((jV h.pb.two).mp hx).1
  have pskey:∀ {x},x ∈ ps→x ∈ b.map (·.1):=fun {x} hx=>(h.keys x).mpr ((wM ps h.pb.two x).mpr (.inl hx))
  have t:=wi (upd (gl r.np r.rs) (bf b r) (-2)) ((ag b ps).sc (bf b r))
  have hperm:(r.given++dQ b r).Perm (r.words.map (·.1)++[bf b r]++(p++q)):=by
    refine (v.perm.append_right _).trans ?_
    rw [append_assoc,append_assoc]
    refine List.Perm.append_left _ ?_
    show (bH b r).Perm _
    rw [o.eq]
    exact perm_middle
  have hgn:(r.given++dQ b r).Nodup:=nodup_append.mpr ⟨v.gn,h.due_nd,fun x hx y hy e=>(cN.mp hy).2.1 (e▸hx)⟩
  have hnd:=hperm.nodup_iff.mp hgn
  have hone:bf b r ∈ r.given++dQ b r:=hperm.mem_iff.mpr (mem_append_left _ (mem_append_right _ (.head _)))
  have hmiss:∀ x ∈ r.given++dQ b r,bz r.words (ai b x)=[]:=fun x hx=>by
    rcases mem_append.mp hx with hx | hx
    · exact v.ga x hx
    · exact (cN.mp hx).2.2
  have hzero:∀ x ∈ r.given++dQ b r,((ag b ps).sc (bf b r)).count x=0:=fun x hx=>by rw [h.count]; exact pO (hmiss x hx) o.new
  have hf:∀ y,y ∉ r.given++dQ b r→upd (gl r.np r.rs) (bf b r) (-2) y=((bz r.words (ai b y)).length:Nat):=fun y hy=>by
    rw [jQ,if_neg (show ¬ y=bf b r from fun e=>hy (by rw [e]; exact hone))]
    unfold gl
    rw [if_neg fun c=>hy (mem_append_right _ ((v.due_iff h).mp c))]
    exact v.npn y fun c=>hy (mem_append_left _ c)
  have hnew:∀ y,(bz (eS (ag b ps).sc b r).words (ai b y)).length+sY (ai b y) (bf b r)=(bz r.words (ai b y)).length:=fun y=>sI o.new _
  have hg:∀ y,y ∈ r.given++dQ b r→upd (gl r.np r.rs) (bf b r) (-2) y≤0:=fun y hy=>by
    rw [jQ]
    by_cases e:y=bf b r
    · rw [if_pos e]; decide
    · rw [if_neg e]
      unfold gl
      by_cases c:y ∈ r.rs
      · rw [if_pos c]; decide
      · rw [if_neg c]
        rcases mem_append.mp hy with hy | hy
        · rcases mem_append.mp (v.perm.mem_iff.mp hy) with hy | hy
          · rw [v.npw y hy]; decide
          · rw [v.npg y hy]; decide
        · exact absurd ((v.due_iff h).mpr hy) c
  refine ⟨⟨v.due h,fun x hx=>h.oks x (cN.mp hx).1,fun x hx=>(h.keys x).mp ((v.rs x).mp hx).1,hw,hY o.key,fun a ha=>?_,h.one _ o.key,by omega,o.new,o.np,(h.keys _).mp o.key,h.suc _,fun y hy=>(h.keys y).mp (pskey (hsome hy))⟩,
    ⟨?_,hgn,fun x hx=>?_,fun x hx=>?_,hwok,fun z hz=>?_,fun x hx=>?_,fun x hx=>?_,fun x hx=>?_,t.nd,fun x=>?_,?_,?_⟩,?_⟩
  · rw [ib] at ha
    have hps:bf b r ∈ ps:=Classical.byContradiction fun c=>by rw [h.pb.noasks c] at ha; cases ha
    refine A3 (h.found _ hps a ha) fun h1 h2 h3=>?_
    exact ⟨h1,fA.mp o.miss a ha,h2,h3⟩
  · show (r.given++dQ b r).Perm ((r.words++[(bf b r,apN (mm r.words (cT b (bf b r))).natAbs)]).map (·.1)++(bH b r).eraseIdx (rJ b r))
    rw [o.er,map_append]; exact hperm
  · rcases mem_append.mp hx with hx | hx
    · exact v.gk x hx
    · exact (cN.mp hx).1
  · have:=hnew x
    rw [hmiss x hx] at this
    rw [length_nil] at this
    exact length_eq_zero_iff.mp (by (clear hval; omega))
  · rcases mem_append.mp hz with hz | hz
    · exact v.ap z hz
    · rw [mem_singleton.mp hz]; exact ⟨_,hval,rfl⟩
  · have hx2:x ∈ r.words.map (·.1)++[bf b r]:=by
      have:x ∈ (r.words++[(bf b r,apN (mm r.words (cT b (bf b r))).natAbs)]).map (·.1):=hx
      rw [map_append] at this; exact this
    have hxg:x ∈ r.given++dQ b r:=hperm.mem_iff.mpr (mem_append_left _ hx2)
    refine (t.np x).trans ?_
    rw [hzero x hxg,jQ]
    by_cases e:x=bf b r
    · rw [if_pos e]; rfl
    · rw [if_neg e]
      have hxw:x ∈ r.words.map (·.1):=(mem_append.mp hx2).resolve_right fun c=>e (mem_singleton.mp c)
      unfold gl
      rw [if_neg fun c=>((v.rs x).mp c).2.1 (v.words_in hxw),v.npw x hxw]; rfl
  · have hx2:x ∈ p++q:=by rw [← o.er]; exact hx
    have hxg:x ∈ r.given++dQ b r:=hperm.mem_iff.mpr (mem_append_right _ hx2)
    have hne:x≠bf b r:=fun e=>(nodup_append.mp hnd).2.2 _ (mem_append_right _ (.head _)) x hx2 e.symm
    refine (t.np x).trans ?_
    rw [hzero x hxg,jQ,if_neg hne]
    unfold gl
    by_cases c:x ∈ r.rs
    · rw [if_pos c]; rfl
    · rw [if_neg c]
      have hx3:x ∈ bH b r:=by
        rw [o.eq]
        rcases mem_append.mp hx2 with hx | hx
        · exact mem_append_left _ hx
        · exact mem_append_right _ (.tail _ hx)
      rw [v.npg x ((mem_append.mp hx3).resolve_right fun d=>c ((v.due_iff h).mpr d))]; rfl
  · refine (t.np x).trans ?_
    rw [hf x hx,h.count]
    have:=hnew x
    (clear hval; omega)
  · refine (t.rs x).trans ?_
    constructor
    · rintro ⟨h1,h2⟩
      have hxg:x ∉ r.given++dQ b r:=fun c=>by have:=hg x c; (clear hval h2; omega)
      rw [hf x hxg] at h1 h2
      rw [h.count] at h2
      have hps:x ∈ ps:=Classical.byContradiction fun c=>by rw [h.pb.noasks c] at h1; simp [bz] at h1
      have:=hnew x
      exact ⟨pskey hps,hxg,length_eq_zero_iff.mp (by (clear hval h1; omega))⟩
    · intro r91
      refine A3 r91 fun h1 h2 h3=>?_
      try clear r91
      rw [hf x h2,h.count]
      have:=hnew x
      rw [h3] at this
      have hne:bz r.words (ai b x)≠[]:=fun c=>h2 (mem_append_right _ (cN.mpr ⟨h1,fun d=>h2 (mem_append_left _ d),c⟩))
      have:=length_pos_iff.mpr hne
      simp only [length_nil] at *
      (clear hval; omega)
  · show r.po+r.rs.length=((r.given++dQ b r).length:Nat)
    rw [v.po,(v.due h).length_eq,length_append]; (clear hval; omega)
  · show r.nf+1=((r.words++[(bf b r,apN (mm r.words (cT b (bf b r))).natAbs)]).length:Nat)
    rw [v.nf,length_append,length_singleton]; (clear hval; omega)
  · have:=hwok.length
    unfold eB at this
    rwa [length_map] at this
theorem RIv.fin (ha:bF r=false):we ps b r:=by
  unfold bF at ha
  rw [Bool.or_eq_false_iff,decide_eq_false_iff_not,v.po,v.nf] at ha
  have hrs:r.rs=[]:=by
    have:=ha.2
    cases e:r.rs with
    | nil=>rfl
    | cons x l=>rw [e] at this; cases this
  have hwt:r.waiting=[]:=length_eq_zero_iff.mp (by have:=v.len2; omega)
  have hgw:∀ x,x ∈ r.given↔x ∈ r.words.map (·.1):=fun x=>by rw [v.perm.mem_iff,hwt,append_nil]
  have hclo:Clo b (eB r.words):=fun k row hk hall=>by
    rw [ay,ft]
    refine Classical.byContradiction fun c=>?_
    have:k ∈ r.rs:=(v.rs k).mpr ⟨ju hk,fun d=>c ((hgw k).mp d),fA.mpr fun a haa=>by
      have e:ai b k=row.asks:=by unfold ai; rw [hk]; rfl
      rw [e] at haa
      have:=hall a haa
      rw [fZ,isSome_map] at this
      exact this⟩
    rw [hrs] at this; cases this
  have hW:=gh b
  have k1:∀ k,k ∈ (aB b).map (·.1)→k ∈ r.words.map (·.1):=fun k hk=>by
    have:=qg hclo hW k hk
    rw [ay,ft] at this; exact this
  have k2:∀ k,k ∈ r.words.map (·.1)→k ∈ (aB b).map (·.1):=fun k hk=>ay.mp (qg h.pb.clo v.wok k (by rw [ft]; exact hk))
  have wnd:(r.words.map (·.1)).Nodup:=by have:=v.wok.nodup; rwa [ft] at this
  refine ⟨hrs,wnd,?_,fun z hz=>?_,fun z hz=>?_,fun x hx=>⟨fun hs=>?_,fun hs=>?_⟩⟩
  · have h1:=aO wnd k2
    have h2:=aO hW.nodup k1
    rw [length_map,length_map] at h1 h2
    (clear ha; omega)
  · refine xj hW h.pb.clo v.wok ?_
    rw [fZ,kO wnd hz]; rfl
  · obtain ⟨n,hn,e⟩:=v.ap z hz
    rw [e]
    exact ⟨gU 8 n (by (clear ha; omega)),tS 8 n (by (clear ha hrs; omega)),mV 8 n (by (clear ha hrs; omega))⟩
  · have:x ∉ r.given:=fun c=>by
      have:=k2 x ((hgw x).mp c)
      rw [← ay,(ci.mp hs).2] at this; cases this
    rw [v.npn x this]; (clear ha; omega)
  · refine v.npw x (k1 x ?_)
    rw [← ay]
    cases e:Wat (aB b) x with
    | some y=>rfl
    | none=>exact absurd (ci.mpr ⟨hx,e⟩) hs
end
theorem RB.run {b:al} {ps:List Str} (h:RB b ps) (turn:Int):∃ (Iv:RS→Prop) (Ms:RS→Nat),Iv (bR b ps turn)∧(∀ r,Iv r→sz b r)∧(∀ r,Iv r→bF r=true→mn (ag b ps).ks (ag b ps).sc b r∧Iv (eS (ag b ps).sc b r)∧Ms (eS (ag b ps).sc b r) < Ms r)∧∀ r,Iv r→bF r=false→we ps b r :=
  ⟨RIv b ps,fun r=>b.length - r.words.length,h.start turn,fun r v=>v.runOk h,fun r v ha=>by
    refine A3 (v.turn h ha) fun h1 h2 h3=>?_
    refine ⟨h1,h2,?_⟩
    have e:(eS (ag b ps).sc b r).words.length=r.words.length+1:=by
      show (r.words++[_]).length=_
      rw [length_append]; rfl
    show b.length - _ < b.length - _
    omega,fun r v ha=>v.fin h ha⟩
end
section
set_option tactic.hygienic false
theorem iZ {ks:List Str} (h:ks.Nodup) (x:Str):(bY ks x).Nodup:=by
  unfold bY
  by_cases m:x ∈ ks
  · rw [if_pos m]; exact h
  · rw [if_neg m,nodup_append]
    exact ⟨h,nodup_cons.mpr ⟨not_mem_nil,nodup_nil⟩,fun a ha b hb e=>m (by rw [← mem_singleton.mp hb,← e]; exact ha)⟩
theorem g_ksn (b:al):∀ ps:List Str,(ag b ps).ks.Nodup :=
  wC nodup_nil fun l x ih=>by
    rw [bU]
    unfold uX
    split
    · exact iZ (iZ (iZ ih _) _) _
    · exact ih
theorem tQ {b:al} {ps:List Str} (h:Two b ps) (z:Str):((ag b ps).sc z).length≤2 * ps.length:=by
  rw [g_sc ps h]
  induction ps with
  | nil=>exact Nat.le_refl _
  | cons x ps ih =>
    have:=ih fun y hy=>h y (.tail _ hy)
    refine E2 (h x (.head _)) fun a1 a2 ha=>?_
    have h2:(uk b z x).length≤2:=by
      unfold uk
      rw [length_map,ha]
      exact length_filter_le _ _
    rw [flatMap_cons,length_append,length_cons]
    omega
section
variable {ps:List Str} {H O:Nat→Nat} (p:Pls ps H O) (os ws:List Int)
include p
theorem Pls.keys_in {x:Str} (hx:x ∈ (bu ps os ws).map (·.1)):fH ps x:=by
  obtain ⟨q,hq,rfl⟩:=mem_map.mp hx
  rcases p.memb os ws hq with ⟨k,hk,e,_⟩ | ⟨_,h⟩
  · rw [e]; exact .inl (p.mem_at hk)
  · exact h
theorem Pls.keys {x:Str}:x ∈ (bu ps os ws).map (·.1)↔x ∈ (ag (bu ps os ws) ps).ks:=by
  have hv:=p.inv os ws
  have hpb:=p.pb os ws
  have ha:∀ z ∈ ps,ai (aM ps os ws 5) z=ai (bu ps os ws) z:=fun z hz=>by
    refine E1 (p.mem hz) fun k q91=>A2 q91 fun hk e92=>?_
    clear q91
    clear hz
    first | subst e92 | cases e92
    rw [p.asks os ws hk,p.asks1 os ws hk]
  rw [wM ps hpb.two]
  constructor
  · intro hx
    refine E1 hv.ex fun L q93=>A2 q93 fun e hL=>?_
    clear q93
    rw [e,map_append] at hx
    rcases mem_append.mp hx with hx | hx
    · rw [p.keys1 os ws] at hx; exact .inl hx
    · refine E1 (mem_map.mp hx) fun q q94=>A2 q94 fun hq e95=>?_
      clear q94
      first | subst e95 | cases e95
      refine E1 (mem_map.mp hq) fun g q96=>A2 q96 fun hg e97=>?_
      clear q96
      first | subst e97 | cases e97
      refine E1 (mem_flatMap.mp (hL g hg)) fun z q98=>A2 q98 fun hz h=>?_
      clear q98
      refine E1 (mem_map.mp h) fun a q99=>A2 q99 fun haa e2=>?_
      clear q99
      rw [ha z hz] at haa
      exact .inr ⟨z,hz,a,haa,e2⟩
  · rintro (hx | ⟨z,hz,a,haa,rfl⟩)
    · refine E1 (p.mem hx) fun k q910=>A2 q910 fun hk e911=>?_
      clear q910
      clear hx
      first | subst e911 | cases e911
      exact ju (p.bat os ws hk)
    · obtain ⟨r,hr⟩:=isSome_iff_exists.mp (hpb.goal z hz a haa)
      exact ju hr
theorem Pls.okS_goal {g:Str} (h:fH ps g):PyData.strOk g=true:=by
  refine E2 (p.goal h) fun _ _ q91=>A4 q91 fun _ _ _ e=>?_
  clear q91
  exact e
theorem Pls.one {x:Str} (h:fH ps x):x.length≤1000∧(dR x).length≤1000:=by
  rcases h with h | rfl | rfl
  · refine E1 (p.mem h) fun k q91=>A2 q91 fun hk e92=>?_
    clear q91
    first | subst e92 | cases e92
    have c:=eJ hk (p.h k) (p.o k)
    refine ⟨Nat.le_trans c.len (by decide),?_⟩
    rw [c.dir]
    exact lt4 (P:=fun h=>((["/", "/A", "/A/B", "/C"]:List Str).getD h "").length≤1000) (by decide +kernel) (by decide +kernel) (by decide +kernel) (by decide +kernel) (p.h k)
  · exact ⟨by decide +kernel,by decide +kernel⟩
  · exact ⟨by decide +kernel,by decide +kernel⟩
theorem Pls.fnd {x:Str} (hx:x ∈ ps) {a:Ask} (ha:a ∈ ai (bu ps os ws) x):fM (bd (dR x) a.text)=a.goal∧a.text.length≤1000∧dE (bd (dR x) a.text):=by
  refine E2 (p.ask os ws hx ha) fun k r q91=>A3 q91 fun hk e92 e93=>?_
  clear q91
  clear hx ha
  first | subst e92 | cases e92
  first | subst e93 | cases e93
  exact p.found hk r
theorem Pls.rb (ho:∀ o ∈ os,-500≤o∧o≤500):RB (bu ps os ws) ps :=
  ⟨p.pb os ws,p.bok os ws ho,fun x=>p.keys os ws,(p.inv os ws).nd,g_ksn _ ps,fun x hx=>p.okS_goal (p.keys_in os ws hx),fun x hx=>p.one (p.keys_in os ws hx),fun x hx a ha=>p.fnd os ws hx ha,fun z=>Nat.le_trans (tQ (p.pb os ws).two z) (by rw [p.len5]; decide)⟩
omit p in
theorem uh {x:Str} {l m r:Str} (e:reprText x = "'" ++ x ++ "'") (h1:("node " : Str) ++ "'" = l) (h2:("'" : Str)++m=r):("node " : Str)++reprText x++m=l++x++r:=by
  rw [e,← h1,← h2]
  simp only [Str.append_assoc]
theorem Pls.refs {x:Str} (hx:x ∈ ps):(reprText x).length≤100∧(∀ k:Int,0≤k→nV x k = "node '" ++ x ++ "' " ++ "was not passed out (still not ready)")∧nV x (-2) = "node '" ++ x ++ "' " ++ "was already marked done" := by
  refine E1 (p.mem hx) fun k q91=>A2 q91 fun hk e92=>?_
  clear q91
  first | subst e92 | cases e92
  have c:=eJ hk (p.h k) (p.o k)
  refine ⟨c.rlen,fun j hj=>?_,?_⟩
  · unfold nV
    rw [if_neg (by omega),Str.append_assoc _ "' "]
    exact uh c.repr (by decide +kernel) (by decide +kernel)
  · unfold nV
    rw [if_pos rfl,Str.append_assoc _ "' "]
    exact uh c.repr (by decide +kernel) (by decide +kernel)
theorem Pls.rest (ho:∀ o ∈ os,-500≤o∧o≤500) (turn:Int):qc ps (bu ps os ws) turn:=by
  have hrb:=p.rb os ws ho
  have hpb:=p.pb os ws
  have hin:∀ x,∀ y ∈ (ag (bu ps os ws) ps).sc x,y ∈ (ag (bu ps os ws) ps).ks:=fun x y hy=>(wM ps hpb.two y).mpr (.inl ((jV hpb.two).mp hy).1)
  have hk:(ag (bu ps os ws) ps).ks.length≤9:=by
    have:=aO hrb.ksn (l':=(bu ps os ws).map (·.1)) fun x hx=>(hrb.keys x).mpr hx
    have h2:=p.blen os ws
    rw [length_map] at this
    omega
  obtain ⟨res,hres⟩:=hpb.ends hin hk fun z=>by have:=tQ hpb.two z; rw [p.len5] at this; exact this
  obtain ⟨h1,h2⟩:=hpb.res p.len5 hres
  refine ⟨fun x hx=>⟨(wM ps hpb.two x).mpr (.inl hx),p.refs hx⟩,res,hres,hin,h1,fun rs e=>(h2 rs e).1,fun rs e x hx=>p.okS_goal (.inl ((h2 rs e).2 x hx)),hrb.run turn⟩
end
theorem wU (hs os ws:List Int) (turn:Int) (ho:∀ o ∈ os,-500≤o∧o≤500):xr hs os ws turn:=by
  have p:=yi hs os
  refine ⟨?_,fun x hx=>p.okS_goal (.inl hx),p.nodup,fun x hx=>?_,fun x hx=>(p.one (.inl hx)).2,p.bok os ws ho,fun x hx=>?_,fun x hx a ha=>p.fnd os ws hx ha,fun x hx a1 a2 e=>?_,p.rest os ws ho turn⟩
  · unfold cR aF
    refine map_congr_left fun k hk=>?_
    rw [lS,uG]
    exact (eJ (mem_range.mp hk) (yh hs k) (wz os k)).file
  · refine E1 (p.mem hx) fun k q91=>A2 q91 fun hk e92=>?_
    clear q91
    clear hx
    first | subst e92 | cases e92
    have c:=eJ hk (p.h k) (p.o k)
    refine ⟨c.len,?_⟩
    rw [c.cnt]
    exact lt4 (P:=fun h=>0≤(([1,2,3,2]:List Int).getD h 0)∧(([1,2,3,2]:List Int).getD h 0)≤10) (by decide) (by decide) (by decide) (by decide) (p.h k)
  · refine E1 (p.mem hx) fun k q93=>A2 q93 fun hk e94=>?_
    clear q93
    clear hx
    first | subst e94 | cases e94
    exact ⟨_,_,_,p.bat os ws hk⟩
  · intro y hy
    have hg:∀ a ∈ ai (bu (aF hs os 5) os ws) x,PyData.strOk a.goal=true:=fun a ha=>by
      refine E2 (p.ask os ws hx ha) fun k r q95=>A3 q95 fun hk e96 e97=>?_
      clear q95
      clear hx e ha
      first | subst e96 | cases e96
      first | subst e97 | cases e97
      exact p.okS_goal (p.goalF_in hk r)
    rw [e] at hg
    clear e
    rcases mem_cons.mp hy with rfl | hy
    · exact hg _ (.head _)
    · rw [mem_singleton.mp hy]; exact hg _ (.tail _ (.head _))
end
section
theorem lawall:PySem.Challenge.rw_il0094_01.Holds:=xz fun hs os ws turn _ _ _ ho=>wU hs os ws turn ho
end
end Mine
theorem PySem.Challenge.cw_il0094_01_holds : PySem.Challenge.rw_il0094_01.Holds := by
  exact Mine.lawall
