import PyProof.Rows.All
import Wide.All
import OpenK.AllK
import Wide.FinOn
import Lean
import PySem.Challenge.RW_kl0188_01
open PySem PySem.W PyProof.Rows PySem.Calls
set_option Elab.async false
-- names of the library's own «twin» lemmas of the head's tree, taken ahead: the twins (O(n^2) proofs, 330 MB) are then left out
namespace PySem.W.Fast
theorem tw10006666124156027396 : True := trivial
theorem tw10010936943081839664 : True := trivial
theorem tw10015664371746657536 : True := trivial
theorem tw10028428298569065181 : True := trivial
theorem tw10029231156530900338 : True := trivial
theorem tw10030586065758793078 : True := trivial
theorem tw10033396928017900241 : True := trivial
theorem tw10042830170769951172 : True := trivial
theorem tw10057510723706494237 : True := trivial
theorem tw10058976618658966374 : True := trivial
theorem tw10071868454641916008 : True := trivial
theorem tw10073347824450446311 : True := trivial
theorem tw10078919187461690516 : True := trivial
theorem tw10092856319447448734 : True := trivial
theorem tw10138199336372458610 : True := trivial
theorem tw10181792811725400092 : True := trivial
theorem tw10190238754879171395 : True := trivial
theorem tw10205541121877940668 : True := trivial
theorem tw10216692956209284516 : True := trivial
theorem tw10220936982206179058 : True := trivial
theorem tw10227693086864044499 : True := trivial
theorem tw10257574182948591618 : True := trivial
theorem tw10273473676514133216 : True := trivial
theorem tw10276908904998144438 : True := trivial
theorem tw10299114407867686024 : True := trivial
theorem tw10308316962582663543 : True := trivial
theorem tw10314498396905981064 : True := trivial
theorem tw10317580896714288900 : True := trivial
theorem tw10320149354908582346 : True := trivial
theorem tw10323183001455561277 : True := trivial
theorem tw10323968676351773119 : True := trivial
theorem tw10352308551163946355 : True := trivial
theorem tw10353204498128435838 : True := trivial
theorem tw10379131730601215995 : True := trivial
theorem tw1041845030581493396 : True := trivial
theorem tw10422997342228622526 : True := trivial
theorem tw10424941004445345732 : True := trivial
theorem tw10455430044892516648 : True := trivial
theorem tw10460931487171540145 : True := trivial
theorem tw10470071008263537045 : True := trivial
theorem tw10475303700862453374 : True := trivial
theorem tw10477944011785391905 : True := trivial
theorem tw10487160056961263569 : True := trivial
theorem tw10500077913531017323 : True := trivial
theorem tw10508251915553800215 : True := trivial
theorem tw1055568401681811165 : True := trivial
theorem tw10566222408779648918 : True := trivial
theorem tw10589684114461592954 : True := trivial
theorem tw10598567329377039032 : True := trivial
theorem tw10619036274816975696 : True := trivial
theorem tw10647819351689358120 : True := trivial
theorem tw10650810973499830745 : True := trivial
theorem tw10670733350059645105 : True := trivial
theorem tw10672234772466254251 : True := trivial
theorem tw1068659041996821342 : True := trivial
theorem tw10709196673778178906 : True := trivial
theorem tw10719484529398299949 : True := trivial
theorem tw10730351240561388922 : True := trivial
theorem tw1073588757732193504 : True := trivial
theorem tw10749366882036047329 : True := trivial
theorem tw10758392820592806131 : True := trivial
theorem tw10767066097796618615 : True := trivial
theorem tw10782641618400255816 : True := trivial
theorem tw10797649063328284778 : True := trivial
theorem tw10819683100428557426 : True := trivial
theorem tw10846213317406478298 : True := trivial
theorem tw1085346719588807367 : True := trivial
theorem tw10885399304501877467 : True := trivial
theorem tw10919533547850550483 : True := trivial
theorem tw1092655722715705105 : True := trivial
theorem tw10938465397075749097 : True := trivial
theorem tw10939839348159177617 : True := trivial
theorem tw10942035263794033107 : True := trivial
theorem tw10948738476641704880 : True := trivial
theorem tw10964334890339321822 : True := trivial
theorem tw10970087489707964778 : True := trivial
theorem tw10996506086634736982 : True := trivial
theorem tw1100353791813204450 : True := trivial
theorem tw11013792430000457035 : True := trivial
theorem tw1102190903223815498 : True := trivial
theorem tw11036193050239951465 : True := trivial
theorem tw11055029398406535253 : True := trivial
theorem tw11064063364532404858 : True := trivial
theorem tw1107438419126420414 : True := trivial
theorem tw11108263761283441063 : True := trivial
theorem tw11130039905162102590 : True := trivial
theorem tw11137651959834898467 : True := trivial
theorem tw11161088081135249708 : True := trivial
theorem tw11166942722945506595 : True := trivial
theorem tw11176043301313065506 : True := trivial
theorem tw11186114360453789277 : True := trivial
theorem tw11277413387252134812 : True := trivial
theorem tw11277716924127702174 : True := trivial
theorem tw11304879220846320617 : True := trivial
theorem tw11306939235166856333 : True := trivial
theorem tw11310463157757771331 : True := trivial
theorem tw11313170107247368264 : True := trivial
theorem tw11317593695737139937 : True := trivial
theorem tw11328821685186248670 : True := trivial
theorem tw11333186260410459676 : True := trivial
theorem tw11334522289143818824 : True := trivial
theorem tw11363912090873407280 : True := trivial
theorem tw1136578752053086225 : True := trivial
theorem tw1139862187096482527 : True := trivial
theorem tw11433066937589102482 : True := trivial
theorem tw11452132507678324671 : True := trivial
theorem tw11462045893675790159 : True := trivial
theorem tw11495947367809530248 : True := trivial
theorem tw11510725203611331906 : True := trivial
theorem tw11518781747449614426 : True := trivial
theorem tw11519604305632133818 : True := trivial
theorem tw11566699232636054958 : True := trivial
theorem tw11588390666370768167 : True := trivial
theorem tw11625766737575182897 : True := trivial
theorem tw11629953924900746896 : True := trivial
theorem tw11636919720809706868 : True := trivial
theorem tw11682084944484805031 : True := trivial
theorem tw11707433790658880453 : True := trivial
theorem tw117213463901210413 : True := trivial
theorem tw11740888236361828772 : True := trivial
theorem tw11765014963103734823 : True := trivial
theorem tw11786184479649081736 : True := trivial
theorem tw11788150170368784547 : True := trivial
theorem tw11790162104776037713 : True := trivial
theorem tw11793402487394874009 : True := trivial
theorem tw11796506867022685745 : True := trivial
theorem tw11838138170533393997 : True := trivial
theorem tw1184552218554016812 : True := trivial
theorem tw11853533878840232495 : True := trivial
theorem tw11855487677703710099 : True := trivial
theorem tw11861152243698038893 : True := trivial
theorem tw11863081143760314161 : True := trivial
theorem tw1188131947540300063 : True := trivial
theorem tw11882390891050353253 : True := trivial
theorem tw11882691865914478047 : True := trivial
theorem tw11886712299990487620 : True := trivial
theorem tw1189118826323900759 : True := trivial
theorem tw11892598404827812706 : True := trivial
theorem tw1189734492583310 : True := trivial
theorem tw11935356649212052271 : True := trivial
theorem tw11939915149646268982 : True := trivial
theorem tw11957962974430299695 : True := trivial
theorem tw11964429278604863157 : True := trivial
theorem tw11985326045990495214 : True := trivial
theorem tw11994158751524154303 : True := trivial
theorem tw12022618010286034681 : True := trivial
theorem tw12025208970609079342 : True := trivial
theorem tw1204117194425446250 : True := trivial
theorem tw12046425863553024001 : True := trivial
theorem tw12049575158971614909 : True := trivial
theorem tw12050852935592152754 : True := trivial
theorem tw12064662690394058248 : True := trivial
theorem tw12071057409057901078 : True := trivial
theorem tw12095823642532355627 : True := trivial
theorem tw1210750091971509897 : True := trivial
theorem tw12128325577817847261 : True := trivial
theorem tw12136631008300302837 : True := trivial
theorem tw12143486254990352099 : True := trivial
theorem tw12170303376835216750 : True := trivial
theorem tw12172078356533094185 : True := trivial
theorem tw12177639751122801600 : True := trivial
theorem tw12177649209318274912 : True := trivial
theorem tw1218959903707654005 : True := trivial
theorem tw12214085216866374628 : True := trivial
theorem tw12224578244612797663 : True := trivial
theorem tw12225727855978595839 : True := trivial
theorem tw12233582284571471492 : True := trivial
theorem tw12237943961548833269 : True := trivial
theorem tw12268644228514654432 : True := trivial
theorem tw1228064911786449325 : True := trivial
theorem tw12290603225136948437 : True := trivial
theorem tw12296728618847696761 : True := trivial
theorem tw12301736329548577491 : True := trivial
theorem tw12329403913580668285 : True := trivial
theorem tw12359285113459375979 : True := trivial
theorem tw12377561305857167785 : True := trivial
theorem tw12393455550290869266 : True := trivial
theorem tw12450158673883907302 : True := trivial
theorem tw12456492676567594705 : True := trivial
theorem tw12472836147817038354 : True := trivial
theorem tw12475847535787081790 : True := trivial
theorem tw12477758415327278626 : True := trivial
theorem tw12488000419048109807 : True := trivial
theorem tw12494133203773749484 : True := trivial
theorem tw12513138341781932208 : True := trivial
theorem tw12526863579885937616 : True := trivial
theorem tw12527393111034389544 : True := trivial
theorem tw12540713548012372134 : True := trivial
theorem tw12577023982554244617 : True := trivial
theorem tw1258299570235058372 : True := trivial
theorem tw1258717718454355964 : True := trivial
theorem tw12599741558188205749 : True := trivial
theorem tw12606261883493885652 : True := trivial
theorem tw12635297910168745909 : True := trivial
theorem tw12635813782599140982 : True := trivial
theorem tw12647630874787467225 : True := trivial
theorem tw12659028871203227004 : True := trivial
theorem tw12660628722211587041 : True := trivial
theorem tw12674565591061545060 : True := trivial
theorem tw1267870562809915468 : True := trivial
theorem tw12679591844961189642 : True := trivial
theorem tw1269743608478119537 : True := trivial
theorem tw12700099203940778861 : True := trivial
theorem tw12726346659333912481 : True := trivial
theorem tw12731603968600162155 : True := trivial
theorem tw12734952128020822468 : True := trivial
theorem tw12756110868346105713 : True := trivial
theorem tw12767683915131110723 : True := trivial
theorem tw12773889961810623364 : True := trivial
theorem tw1278341880987251545 : True := trivial
theorem tw12807690338718825411 : True := trivial
theorem tw12809422525583811893 : True := trivial
theorem tw12821735335276811757 : True := trivial
theorem tw12825359941727978080 : True := trivial
theorem tw12828332729040242785 : True := trivial
theorem tw12832477231654346042 : True := trivial
theorem tw12835720964997663042 : True := trivial
theorem tw12850107946570832962 : True := trivial
theorem tw12866136484021002089 : True := trivial
theorem tw12877114100897624224 : True := trivial
theorem tw12885971956603332375 : True := trivial
theorem tw12898947447245864913 : True := trivial
theorem tw12913785700363492387 : True := trivial
theorem tw1291980286583624508 : True := trivial
theorem tw12945451867199242903 : True := trivial
theorem tw12945968074294007009 : True := trivial
theorem tw12973657651903071711 : True := trivial
theorem tw12981051755390344553 : True := trivial
theorem tw12985358249318526461 : True := trivial
theorem tw12989987162080215863 : True := trivial
theorem tw12994954067883948608 : True := trivial
theorem tw13016732220969518872 : True := trivial
theorem tw13036272033356848781 : True := trivial
theorem tw13070384816801012346 : True := trivial
theorem tw13141144453892091621 : True := trivial
theorem tw13142473509193869113 : True := trivial
theorem tw13145125596335152023 : True := trivial
theorem tw13156168479132978002 : True := trivial
theorem tw13160144027095335755 : True := trivial
theorem tw13169248704851481478 : True := trivial
theorem tw13170769719875646287 : True := trivial
theorem tw13180171748994924942 : True := trivial
theorem tw13195905796856590283 : True := trivial
theorem tw1320183511955256522 : True := trivial
theorem tw13236226663087606529 : True := trivial
theorem tw13251161224904053152 : True := trivial
theorem tw13252181687094117063 : True := trivial
theorem tw13254397897704925713 : True := trivial
theorem tw13294325848734340343 : True := trivial
theorem tw13314330512976039754 : True := trivial
theorem tw13316322371389871543 : True := trivial
theorem tw13317431791736044220 : True := trivial
theorem tw1333364371103165705 : True := trivial
theorem tw13335737130258781183 : True := trivial
theorem tw13342524657329470049 : True := trivial
theorem tw13404028037160507757 : True := trivial
theorem tw13424232207471783386 : True := trivial
theorem tw13427988762788590312 : True := trivial
theorem tw1343220272319300887 : True := trivial
theorem tw13451486832001684981 : True := trivial
theorem tw13453990235181961046 : True := trivial
theorem tw13471316229770301743 : True := trivial
theorem tw13471461260053382970 : True := trivial
theorem tw13473626796004769751 : True := trivial
theorem tw13491086964462194671 : True := trivial
theorem tw13512673800721320934 : True := trivial
theorem tw13526986893379352335 : True := trivial
theorem tw13549102714576105579 : True := trivial
theorem tw1355338860687761863 : True := trivial
theorem tw13559156169165276386 : True := trivial
theorem tw1356052380124897091 : True := trivial
theorem tw13580328829973926956 : True := trivial
theorem tw13581749221687468397 : True := trivial
theorem tw13607416678640721797 : True := trivial
theorem tw13615603153576403970 : True := trivial
theorem tw13640514254501968386 : True := trivial
theorem tw13642483538084851733 : True := trivial
theorem tw13650077344797733491 : True := trivial
theorem tw13658505271682890234 : True := trivial
theorem tw136631920214876835 : True := trivial
theorem tw13678640442995254988 : True := trivial
theorem tw13690843758732723530 : True := trivial
theorem tw1370275717833778536 : True := trivial
theorem tw13721567128424951087 : True := trivial
theorem tw13725850141900786883 : True := trivial
theorem tw13729253559640862656 : True := trivial
theorem tw1374548495586556601 : True := trivial
theorem tw13746126617404028095 : True := trivial
theorem tw13749758060653150092 : True := trivial
theorem tw1375587502874563802 : True := trivial
theorem tw13759679279233594173 : True := trivial
theorem tw13775618736486673144 : True := trivial
theorem tw13776390136698705113 : True := trivial
theorem tw13783648951372772217 : True := trivial
theorem tw13789449189825218787 : True := trivial
theorem tw1379578315556383370 : True := trivial
theorem tw13804622635509601256 : True := trivial
theorem tw13809362725867891129 : True := trivial
theorem tw13816233472422033322 : True := trivial
theorem tw13833065179229638619 : True := trivial
theorem tw13847470327216474714 : True := trivial
theorem tw13853819408611901635 : True := trivial
theorem tw13871001218405608335 : True := trivial
theorem tw13871739993248717241 : True := trivial
theorem tw13900631225919944168 : True := trivial
theorem tw13902060940116135572 : True := trivial
theorem tw13902233598862641821 : True := trivial
theorem tw13903129631018457399 : True := trivial
theorem tw13912434898499826684 : True := trivial
theorem tw13915792640404377917 : True := trivial
theorem tw13925586954763233925 : True := trivial
theorem tw1393629259489396696 : True := trivial
theorem tw13949143374315933397 : True := trivial
theorem tw13951202360752479828 : True := trivial
theorem tw13951257522405164796 : True := trivial
theorem tw139799656371268569 : True := trivial
theorem tw13981391230805400906 : True := trivial
theorem tw13987355940573415152 : True := trivial
theorem tw1401972060568974870 : True := trivial
theorem tw14023627001141898710 : True := trivial
theorem tw1402947280878808549 : True := trivial
theorem tw14031254098957005024 : True := trivial
theorem tw14073706353221006472 : True := trivial
theorem tw14079958499647549597 : True := trivial
theorem tw14096952598973939363 : True := trivial
theorem tw14097648870716263351 : True := trivial
theorem tw1410096668721982599 : True := trivial
theorem tw14108194823987119177 : True := trivial
theorem tw14112274594779413971 : True := trivial
theorem tw14126943448341045398 : True := trivial
theorem tw1414301608579184545 : True := trivial
theorem tw14159497744377131790 : True := trivial
theorem tw14168537005229113720 : True := trivial
theorem tw14174611291570781762 : True := trivial
theorem tw14185684948912167051 : True := trivial
theorem tw14186486079044719983 : True := trivial
theorem tw14190725551584542720 : True := trivial
theorem tw14209830616999942402 : True := trivial
theorem tw14210447440969649564 : True := trivial
theorem tw14214133299417103183 : True := trivial
theorem tw14223099787259518943 : True := trivial
theorem tw14224011070414065920 : True := trivial
theorem tw1423138165483278961 : True := trivial
theorem tw14273802060069496912 : True := trivial
theorem tw14278799554742785266 : True := trivial
theorem tw14285029430470858289 : True := trivial
theorem tw14285374257681291273 : True := trivial
theorem tw14323765505736481980 : True := trivial
theorem tw14326252917377295143 : True := trivial
theorem tw14333388528381170442 : True := trivial
theorem tw14353494562840921449 : True := trivial
theorem tw14364280277409689854 : True := trivial
theorem tw14380340866092297550 : True := trivial
theorem tw14389334442490810641 : True := trivial
theorem tw14401720017095790664 : True := trivial
theorem tw14420389602138693270 : True := trivial
theorem tw14433975572909055671 : True := trivial
theorem tw14460367522058181017 : True := trivial
theorem tw14489655085307688843 : True := trivial
theorem tw14529259203199301258 : True := trivial
theorem tw14530364306720264245 : True := trivial
theorem tw14537914154153760125 : True := trivial
theorem tw14553827428707814869 : True := trivial
theorem tw14580368152464143365 : True := trivial
theorem tw14588557730865908194 : True := trivial
theorem tw1460277438893781036 : True := trivial
theorem tw14683798417357897080 : True := trivial
theorem tw14714103240675001986 : True := trivial
theorem tw14763704009068828915 : True := trivial
theorem tw14766643958189025262 : True := trivial
theorem tw1481926694345511941 : True := trivial
theorem tw14821650378409806113 : True := trivial
theorem tw148260917463534702 : True := trivial
theorem tw14834023430324568649 : True := trivial
theorem tw14844032806303022069 : True := trivial
theorem tw14870196432650325839 : True := trivial
theorem tw14874922208557711187 : True := trivial
theorem tw14884601019740666482 : True := trivial
theorem tw14896874001708588922 : True := trivial
theorem tw14907048974825807369 : True := trivial
theorem tw14909702598903578594 : True := trivial
theorem tw14934708107589980039 : True := trivial
theorem tw14942985259670156941 : True := trivial
theorem tw14952990662201256454 : True := trivial
theorem tw14973007898608030118 : True := trivial
theorem tw14979626087600564940 : True := trivial
theorem tw14981143343336467331 : True := trivial
theorem tw1499420768645567495 : True := trivial
theorem tw15007238320947547705 : True := trivial
theorem tw15020028541594565831 : True := trivial
theorem tw15025364365136419289 : True := trivial
theorem tw15028816761298942483 : True := trivial
theorem tw1503297043503765363 : True := trivial
theorem tw15034313371233782410 : True := trivial
theorem tw15039117976438264115 : True := trivial
theorem tw15041003319150489328 : True := trivial
theorem tw15059462757989803610 : True := trivial
theorem tw15062378111984178829 : True := trivial
theorem tw15066959818950650227 : True := trivial
theorem tw15067931366933112725 : True := trivial
theorem tw15078596067121957158 : True := trivial
theorem tw15079194523842364033 : True := trivial
theorem tw15103234261437856402 : True := trivial
theorem tw15140604188634761816 : True := trivial
theorem tw15157221202141545114 : True := trivial
theorem tw15195428891847259777 : True := trivial
theorem tw15199281503961881116 : True := trivial
theorem tw15202239659555905331 : True := trivial
theorem tw15207642765257501584 : True := trivial
theorem tw15215539614974913122 : True := trivial
theorem tw15224661121926592747 : True := trivial
theorem tw15250204685079549951 : True := trivial
theorem tw15263041282635125899 : True := trivial
theorem tw15271515629493726085 : True := trivial
theorem tw15278061642289888581 : True := trivial
theorem tw15300170045991075079 : True := trivial
theorem tw15315713394281565010 : True := trivial
theorem tw15323854079317868165 : True := trivial
theorem tw1536587703002861866 : True := trivial
theorem tw15376083050721069600 : True := trivial
theorem tw1537898542681612871 : True := trivial
theorem tw15423634916342008072 : True := trivial
theorem tw1544652992362985085 : True := trivial
theorem tw15450981722951097364 : True := trivial
theorem tw15468230090516036684 : True := trivial
theorem tw15480198773659482676 : True := trivial
theorem tw15490439104401381959 : True := trivial
theorem tw15542503528162795033 : True := trivial
theorem tw15560500314895047343 : True := trivial
theorem tw15560853006256673968 : True := trivial
theorem tw15562837088269578035 : True := trivial
theorem tw15576483152104568565 : True := trivial
theorem tw15598799602833418400 : True := trivial
theorem tw15605440718772780007 : True := trivial
theorem tw15663404670287596823 : True := trivial
theorem tw15720711673333222530 : True := trivial
theorem tw15736541856241217950 : True := trivial
theorem tw1574873078441994576 : True := trivial
theorem tw15766043655864335149 : True := trivial
theorem tw15773981995205291829 : True := trivial
theorem tw15806122291839087668 : True := trivial
theorem tw15808557625122938864 : True := trivial
theorem tw15823609455315575823 : True := trivial
theorem tw15880737140895825463 : True := trivial
theorem tw15894407043143930727 : True := trivial
theorem tw15900120412870309639 : True := trivial
theorem tw15902184279288820625 : True := trivial
theorem tw15917270771655136656 : True := trivial
theorem tw15919542637913265678 : True := trivial
theorem tw15953636156762407896 : True := trivial
theorem tw15965015591981942514 : True := trivial
theorem tw15980859228951719591 : True := trivial
theorem tw15983881195869794717 : True := trivial
theorem tw16039550372008468697 : True := trivial
theorem tw16048576614497160029 : True := trivial
theorem tw16049961110935095269 : True := trivial
theorem tw16127339712140622707 : True := trivial
theorem tw16138931208732196661 : True := trivial
theorem tw16145008321745377990 : True := trivial
theorem tw16148938690769344688 : True := trivial
theorem tw16172117957621229858 : True := trivial
theorem tw16176465441171805009 : True := trivial
theorem tw1617757218408452269 : True := trivial
theorem tw16180483070735683940 : True := trivial
theorem tw16180582048198870337 : True := trivial
theorem tw1620339239838986703 : True := trivial
theorem tw16223305294053301992 : True := trivial
theorem tw16241297035194851746 : True := trivial
theorem tw16241802466949684156 : True := trivial
theorem tw16243683426749602078 : True := trivial
theorem tw16280195873916505411 : True := trivial
theorem tw16289391198768371057 : True := trivial
theorem tw16292439048969090190 : True := trivial
theorem tw16296994325663420285 : True := trivial
theorem tw16309933130070103497 : True := trivial
theorem tw1631149150583789468 : True := trivial
theorem tw16326889199254633757 : True := trivial
theorem tw16328912562034613984 : True := trivial
theorem tw16339471991904476338 : True := trivial
theorem tw16349216596472256690 : True := trivial
theorem tw16349804527192203551 : True := trivial
theorem tw16360918003126229584 : True := trivial
theorem tw16366562015402752707 : True := trivial
theorem tw16369446117885005094 : True := trivial
theorem tw16374537267813192141 : True := trivial
theorem tw1638017585896720355 : True := trivial
theorem tw16406328271908756883 : True := trivial
theorem tw16413264400604254196 : True := trivial
theorem tw16413963553889246368 : True := trivial
theorem tw16414604833108395602 : True := trivial
theorem tw1641718772566732887 : True := trivial
theorem tw16417370028952169744 : True := trivial
theorem tw16434552024888161954 : True := trivial
theorem tw16437185098154296904 : True := trivial
theorem tw16439824349840649037 : True := trivial
theorem tw16451151925259046446 : True := trivial
theorem tw16458521907211103643 : True := trivial
theorem tw16460519517873343938 : True := trivial
theorem tw16474492168511960337 : True := trivial
theorem tw16494616584097029746 : True := trivial
theorem tw16495559152270511615 : True := trivial
theorem tw16531745337717519161 : True := trivial
theorem tw16548257151911338427 : True := trivial
theorem tw16593013826814733010 : True := trivial
theorem tw16643379632663270332 : True := trivial
theorem tw16643706677886111943 : True := trivial
theorem tw16644606511662114574 : True := trivial
theorem tw16645262185327669138 : True := trivial
theorem tw16648231224745350325 : True := trivial
theorem tw16655555454665732581 : True := trivial
theorem tw16658944759067139292 : True := trivial
theorem tw1667231139898017245 : True := trivial
theorem tw16693541655264020344 : True := trivial
theorem tw16697116713213952808 : True := trivial
theorem tw16712280214892120555 : True := trivial
theorem tw16723424844129597499 : True := trivial
theorem tw16729788964589934307 : True := trivial
theorem tw16737559591592110954 : True := trivial
theorem tw16741492637210864865 : True := trivial
theorem tw16751196440357475278 : True := trivial
theorem tw16752143609539240740 : True := trivial
theorem tw16758808235637498351 : True := trivial
theorem tw16792545251062261874 : True := trivial
theorem tw16817318245366136608 : True := trivial
theorem tw16835247145936305501 : True := trivial
theorem tw16846860572762119324 : True := trivial
theorem tw16861218917600885097 : True := trivial
theorem tw16865151637890581275 : True := trivial
theorem tw16873187988247708562 : True := trivial
theorem tw16874561944515371726 : True := trivial
theorem tw16874611443968137885 : True := trivial
theorem tw16904869804480856166 : True := trivial
theorem tw16916688483869632129 : True := trivial
theorem tw16942194440817826258 : True := trivial
theorem tw16942504070071679284 : True := trivial
theorem tw16950312913027304927 : True := trivial
theorem tw16966814322356759819 : True := trivial
theorem tw16987768009889223052 : True := trivial
theorem tw16998109343291152856 : True := trivial
theorem tw17000155066101142889 : True := trivial
theorem tw17000458434675057986 : True := trivial
theorem tw17001327861769816259 : True := trivial
theorem tw17015423121036801654 : True := trivial
theorem tw17018628822417861297 : True := trivial
theorem tw17020146562604978829 : True := trivial
theorem tw17020626225693228618 : True := trivial
theorem tw17024950926791866790 : True := trivial
theorem tw1702518465993881591 : True := trivial
theorem tw17026713947507217902 : True := trivial
theorem tw17027947056734134637 : True := trivial
theorem tw17041471163203698717 : True := trivial
theorem tw17045043414572947948 : True := trivial
theorem tw17057272898397164401 : True := trivial
theorem tw17060125343902188718 : True := trivial
theorem tw1706496860858754268 : True := trivial
theorem tw17069979004554194336 : True := trivial
theorem tw17071476683966804577 : True := trivial
theorem tw1708024556718086227 : True := trivial
theorem tw17082801352038058188 : True := trivial
theorem tw17100903815162463580 : True := trivial
theorem tw17101871299007795629 : True := trivial
theorem tw1711367819467211730 : True := trivial
theorem tw1711657323119017317 : True := trivial
theorem tw17138261911001417010 : True := trivial
theorem tw17139780236743587250 : True := trivial
theorem tw17169101284591775605 : True := trivial
theorem tw17172517015917474193 : True := trivial
theorem tw17183712847048597117 : True := trivial
theorem tw17207840028585114417 : True := trivial
theorem tw17230556039016184743 : True := trivial
theorem tw17231944260260642093 : True := trivial
theorem tw17233024954070867409 : True := trivial
theorem tw17238727255148662236 : True := trivial
theorem tw17263276799224249500 : True := trivial
theorem tw17274371674624000324 : True := trivial
theorem tw17279654841073493023 : True := trivial
theorem tw17280976486791472633 : True := trivial
theorem tw17295947923314359676 : True := trivial
theorem tw17300597898927385350 : True := trivial
theorem tw17303753813447770047 : True := trivial
theorem tw17318589155259679147 : True := trivial
theorem tw17325535178939296128 : True := trivial
theorem tw17335170898614401699 : True := trivial
theorem tw17344680358763864322 : True := trivial
theorem tw17352973434858128600 : True := trivial
theorem tw1735497430108182060 : True := trivial
theorem tw17370054149142409183 : True := trivial
theorem tw17382798495522986874 : True := trivial
theorem tw17394056326795013819 : True := trivial
theorem tw17429684086410527887 : True := trivial
theorem tw17431367730909923944 : True := trivial
theorem tw17434858337260393937 : True := trivial
theorem tw17475289236778735526 : True := trivial
theorem tw17476080006546285661 : True := trivial
theorem tw1749818173716722547 : True := trivial
theorem tw17503288770812694035 : True := trivial
theorem tw17520869792638436183 : True := trivial
theorem tw17528258088376854630 : True := trivial
theorem tw17532440430192770315 : True := trivial
theorem tw17532718790514356516 : True := trivial
theorem tw17552769576498331613 : True := trivial
theorem tw17554001833073541016 : True := trivial
theorem tw17596809139577655471 : True := trivial
theorem tw17626262904599113365 : True := trivial
theorem tw17672482021469178181 : True := trivial
theorem tw17679261114430710190 : True := trivial
theorem tw17695988578738506429 : True := trivial
theorem tw17719373434677690450 : True := trivial
theorem tw1772237422875290029 : True := trivial
theorem tw17727738676932873817 : True := trivial
theorem tw17730428716208468724 : True := trivial
theorem tw17730448691065144110 : True := trivial
theorem tw17765544955259793912 : True := trivial
theorem tw17768419659990539469 : True := trivial
theorem tw17803129079492736432 : True := trivial
theorem tw17804436615005485693 : True := trivial
theorem tw17814930658547583709 : True := trivial
theorem tw17815586953681464072 : True := trivial
theorem tw17827458813498177553 : True := trivial
theorem tw17828083071136270317 : True := trivial
theorem tw17842620306162639686 : True := trivial
theorem tw178441218286455893 : True := trivial
theorem tw17846936440860909165 : True := trivial
theorem tw17848772402925894760 : True := trivial
theorem tw17853915177807527196 : True := trivial
theorem tw17863021456227041891 : True := trivial
theorem tw17888162413812561239 : True := trivial
theorem tw17899373020297197333 : True := trivial
theorem tw17913803186225011329 : True := trivial
theorem tw17919728810627054236 : True := trivial
theorem tw17943406268862710625 : True := trivial
theorem tw17954471519018878134 : True := trivial
theorem tw17954736447514056666 : True := trivial
theorem tw17955133630450735404 : True := trivial
theorem tw17964007177503468958 : True := trivial
theorem tw17975652961387846372 : True := trivial
theorem tw17993156020533580102 : True := trivial
theorem tw18034167525097398909 : True := trivial
theorem tw18052830216330045932 : True := trivial
theorem tw18056578402003937789 : True := trivial
theorem tw18099695126128789690 : True := trivial
theorem tw18101931140130867144 : True := trivial
theorem tw18123110421147349612 : True := trivial
theorem tw18126140380344562322 : True := trivial
theorem tw18131936236247874842 : True := trivial
theorem tw18163462532019968843 : True := trivial
theorem tw18188234029961486008 : True := trivial
theorem tw18200712748503757919 : True := trivial
theorem tw18211773271919218964 : True := trivial
theorem tw18220123701641295943 : True := trivial
theorem tw18247082017555167765 : True := trivial
theorem tw18263319221461684349 : True := trivial
theorem tw18283703058932287227 : True := trivial
theorem tw18286265847491885052 : True := trivial
theorem tw18286751721135489701 : True := trivial
theorem tw18287117734903463105 : True := trivial
theorem tw1829445100760108279 : True := trivial
theorem tw18310272354389090212 : True := trivial
theorem tw18328561965235511954 : True := trivial
theorem tw18340240734955500558 : True := trivial
theorem tw18350330562280901221 : True := trivial
theorem tw18350638575300117064 : True := trivial
theorem tw18360803836614840259 : True := trivial
theorem tw18369220396507247734 : True := trivial
theorem tw18371169792594650754 : True := trivial
theorem tw183835017167291270 : True := trivial
theorem tw18410474027866654770 : True := trivial
theorem tw18416463498863911781 : True := trivial
theorem tw18428756778242999024 : True := trivial
theorem tw1857294707202544078 : True := trivial
theorem tw1869930749605803152 : True := trivial
theorem tw1886563365779066154 : True := trivial
theorem tw189603312586018693 : True := trivial
theorem tw1916944219915559503 : True := trivial
theorem tw1930203975799679532 : True := trivial
theorem tw1944293319124727847 : True := trivial
theorem tw195516440579289731 : True := trivial
theorem tw1962928258387122110 : True := trivial
theorem tw196644378293983589 : True := trivial
theorem tw1971209045111089449 : True := trivial
theorem tw1993567047419047990 : True := trivial
theorem tw1995926237046646575 : True := trivial
theorem tw2037417660504910701 : True := trivial
theorem tw2039238271031011813 : True := trivial
theorem tw2078703811421203504 : True := trivial
theorem tw2081053591005667728 : True := trivial
theorem tw2081907255765424308 : True := trivial
theorem tw2088498060469179804 : True := trivial
theorem tw2088544591296533915 : True := trivial
theorem tw2110668173088178060 : True := trivial
theorem tw2116119154477666557 : True := trivial
theorem tw2165606593764840688 : True := trivial
theorem tw2177526886768309524 : True := trivial
theorem tw2193789692954389824 : True := trivial
theorem tw219737044198020058 : True := trivial
theorem tw221096105963500827 : True := trivial
theorem tw2283851925072248500 : True := trivial
theorem tw2302674139485633275 : True := trivial
theorem tw2305325121136568689 : True := trivial
theorem tw2314638664359121040 : True := trivial
theorem tw2334193516648215543 : True := trivial
theorem tw2334299552400917057 : True := trivial
theorem tw2351620601788327285 : True := trivial
theorem tw2354135333415324597 : True := trivial
theorem tw2370070277545300124 : True := trivial
theorem tw2387720566874501970 : True := trivial
theorem tw2401699919119007470 : True := trivial
theorem tw2408619945344806742 : True := trivial
theorem tw2422670821966735624 : True := trivial
theorem tw2447775223705975068 : True := trivial
theorem tw2447921434856996015 : True := trivial
theorem tw2460228577881660442 : True := trivial
theorem tw2504098582860672743 : True := trivial
theorem tw2506853364499732696 : True := trivial
theorem tw2571919107429820419 : True := trivial
theorem tw2599325451414397859 : True := trivial
theorem tw2611137233208623240 : True := trivial
theorem tw2614552105083212210 : True := trivial
theorem tw2627984346626558326 : True := trivial
theorem tw2637321087531721449 : True := trivial
theorem tw2651664433501786496 : True := trivial
theorem tw2660918139993853925 : True := trivial
theorem tw2664551874359636763 : True := trivial
theorem tw2670528217467546775 : True := trivial
theorem tw2674190319118857908 : True := trivial
theorem tw2708163388286742659 : True := trivial
theorem tw2711585505577850959 : True := trivial
theorem tw2718901123391026995 : True := trivial
theorem tw2719445374943340272 : True := trivial
theorem tw272414042388314806 : True := trivial
theorem tw2735471455948067141 : True := trivial
theorem tw2736616831223182526 : True := trivial
theorem tw2759451637364818457 : True := trivial
theorem tw282004115355043989 : True := trivial
theorem tw2862820112641550484 : True := trivial
theorem tw288087438632003012 : True := trivial
theorem tw2883484788219351825 : True := trivial
theorem tw2895304030280410150 : True := trivial
theorem tw2902314222560053993 : True := trivial
theorem tw2905824091091238844 : True := trivial
theorem tw2948108419219029167 : True := trivial
theorem tw3039592710220408265 : True := trivial
theorem tw3054071069301022655 : True := trivial
theorem tw3069475018656635626 : True := trivial
theorem tw3105397867545767578 : True := trivial
theorem tw3118938333895590913 : True := trivial
theorem tw3131671291697673992 : True := trivial
theorem tw313226197891681235 : True := trivial
theorem tw3139228997032326918 : True := trivial
theorem tw3148276903521382524 : True := trivial
theorem tw3149940706203789266 : True := trivial
theorem tw3152983702415266003 : True := trivial
theorem tw3196378941336150401 : True := trivial
theorem tw3204418006412231623 : True := trivial
theorem tw3209381107111851631 : True := trivial
theorem tw3228652444460286982 : True := trivial
theorem tw325292655437039998 : True := trivial
theorem tw3264259588550801142 : True := trivial
theorem tw3267979357774110234 : True := trivial
theorem tw3302314484089059179 : True := trivial
theorem tw3306904295867340462 : True := trivial
theorem tw3308210559937237381 : True := trivial
theorem tw3315324234476444515 : True := trivial
theorem tw3324361733244956215 : True := trivial
theorem tw3325841961599345399 : True := trivial
theorem tw3327986453032591115 : True := trivial
theorem tw3345107109950449737 : True := trivial
theorem tw3355348695024010778 : True := trivial
theorem tw3362959441861295915 : True := trivial
theorem tw3365010085382643294 : True := trivial
theorem tw3365093317950918147 : True := trivial
theorem tw3386650904741475044 : True := trivial
theorem tw3395616883899927064 : True := trivial
theorem tw3398876845080916796 : True := trivial
theorem tw3417425510633824035 : True := trivial
theorem tw3424931102881643321 : True := trivial
theorem tw3427515755752030745 : True := trivial
theorem tw3433653886696886423 : True := trivial
theorem tw3436264866546951355 : True := trivial
theorem tw3442601649717412197 : True := trivial
theorem tw3459824189758198600 : True := trivial
theorem tw3460871413274159568 : True := trivial
theorem tw3470799630455053000 : True := trivial
theorem tw347637069881736656 : True := trivial
theorem tw3488208955921114670 : True := trivial
theorem tw3504847659760329788 : True := trivial
theorem tw3536357697601684980 : True := trivial
theorem tw3545756843259802059 : True := trivial
theorem tw3558216917135427349 : True := trivial
theorem tw3560238982266916124 : True := trivial
theorem tw3577408171920636059 : True := trivial
theorem tw3633577522364906407 : True := trivial
theorem tw3636048126100218174 : True := trivial
theorem tw3695515675974049574 : True := trivial
theorem tw3698559305507148144 : True := trivial
theorem tw3736136724727406031 : True := trivial
theorem tw3739230766472764640 : True := trivial
theorem tw3740020263889925745 : True := trivial
theorem tw3758773823038459598 : True := trivial
theorem tw3759533730385539206 : True := trivial
theorem tw3764465048917985505 : True := trivial
theorem tw3766158894648301139 : True := trivial
theorem tw3768068617246420682 : True := trivial
theorem tw3777755567575978352 : True := trivial
theorem tw3778451253796500701 : True := trivial
theorem tw3793695936567050837 : True := trivial
theorem tw3797612339304411714 : True := trivial
theorem tw3825061337978711158 : True := trivial
theorem tw3826639566459466600 : True := trivial
theorem tw383695940523520267 : True := trivial
theorem tw3856783459128436802 : True := trivial
theorem tw386519297000764122 : True := trivial
theorem tw3865406201487662470 : True := trivial
theorem tw387338674003428930 : True := trivial
theorem tw3880421473898291048 : True := trivial
theorem tw3889259530307233657 : True := trivial
theorem tw3891137856419664920 : True := trivial
theorem tw39160002569200845 : True := trivial
theorem tw392140993173905013 : True := trivial
theorem tw3952652319720093869 : True := trivial
theorem tw3953757239420563355 : True := trivial
theorem tw396607853666888187 : True := trivial
theorem tw3972328310683599613 : True := trivial
theorem tw3976722010076183465 : True := trivial
theorem tw4039474712603431140 : True := trivial
theorem tw4042386549635913901 : True := trivial
theorem tw4071324889030633612 : True := trivial
theorem tw4090926877573551719 : True := trivial
theorem tw4091194055036891139 : True := trivial
theorem tw4109823476700235019 : True := trivial
theorem tw4110589180456253056 : True := trivial
theorem tw4111355340424721971 : True := trivial
theorem tw4113715883642890645 : True := trivial
theorem tw4172830789200971933 : True := trivial
theorem tw4173924237407464957 : True := trivial
theorem tw4183877074749451670 : True := trivial
theorem tw4187477659947935285 : True := trivial
theorem tw4205239288364317433 : True := trivial
theorem tw4224760802259116069 : True := trivial
theorem tw4246733406610392388 : True := trivial
theorem tw4264315005692455143 : True := trivial
theorem tw4275521005467322725 : True := trivial
theorem tw4278798014809849964 : True := trivial
theorem tw4287028408620065468 : True := trivial
theorem tw4292500188555128830 : True := trivial
theorem tw4299136966843209011 : True := trivial
theorem tw4302124980754421698 : True := trivial
theorem tw4306451927003165895 : True := trivial
theorem tw4318056027017086478 : True := trivial
theorem tw4319011637217762917 : True := trivial
theorem tw4319416812082413722 : True := trivial
theorem tw4344162588907639063 : True := trivial
theorem tw4352594626159697269 : True := trivial
theorem tw43969757491396457 : True := trivial
theorem tw4405960384096086239 : True := trivial
theorem tw4407734736301137906 : True := trivial
theorem tw441327347791068078 : True := trivial
theorem tw4430655021044022179 : True := trivial
theorem tw4434333111790514575 : True := trivial
theorem tw4466658021391931909 : True := trivial
theorem tw447715330943862342 : True := trivial
theorem tw4504083675297759592 : True := trivial
theorem tw4507309187265873474 : True := trivial
theorem tw4520048573886075542 : True := trivial
theorem tw4525517667737911620 : True := trivial
theorem tw4527066259768149269 : True := trivial
theorem tw4549333791460862111 : True := trivial
theorem tw4552823106982906706 : True := trivial
theorem tw4558998842232669794 : True := trivial
theorem tw4575980220486274672 : True := trivial
theorem tw4580202747914273547 : True := trivial
theorem tw4594841794817819559 : True := trivial
theorem tw4600395469775339435 : True := trivial
theorem tw4613930686462287906 : True := trivial
theorem tw4636218855388986860 : True := trivial
theorem tw4658958612460137192 : True := trivial
theorem tw4665496328224945229 : True := trivial
theorem tw4679858250743294509 : True := trivial
theorem tw4681523508651956083 : True := trivial
theorem tw4691851695120001716 : True := trivial
theorem tw470574548607681690 : True := trivial
theorem tw4706425542698204933 : True := trivial
theorem tw4716499452693333712 : True := trivial
theorem tw4724670654266164199 : True := trivial
theorem tw4733837786962973091 : True := trivial
theorem tw4745058802850807175 : True := trivial
theorem tw4748654258956052638 : True := trivial
theorem tw4768464013462379552 : True := trivial
theorem tw4769018279307018242 : True := trivial
theorem tw4775785305629353868 : True := trivial
theorem tw4800724452203346748 : True := trivial
theorem tw482417222145425773 : True := trivial
theorem tw4824431525194463578 : True := trivial
theorem tw4841608483596896988 : True := trivial
theorem tw4858009861420398278 : True := trivial
theorem tw487364732245791922 : True := trivial
theorem tw4879560196417449868 : True := trivial
theorem tw4888971946704870899 : True := trivial
theorem tw489095991917526796 : True := trivial
theorem tw4901617435021342793 : True := trivial
theorem tw4904739604578439355 : True := trivial
theorem tw4921902886906138986 : True := trivial
theorem tw4933834842325187142 : True := trivial
theorem tw4936483359421988267 : True := trivial
theorem tw494703546511474797 : True := trivial
theorem tw4949472239710415697 : True := trivial
theorem tw4978915544186085027 : True := trivial
theorem tw4980102563643897964 : True := trivial
theorem tw4989861115921178866 : True := trivial
theorem tw5032809538720368765 : True := trivial
theorem tw503676674663206642 : True := trivial
theorem tw505943868828395459 : True := trivial
theorem tw5068434257544371817 : True := trivial
theorem tw5082074563857973206 : True := trivial
theorem tw5111356299099525756 : True := trivial
theorem tw5127043949985792152 : True := trivial
theorem tw5135500740108067664 : True := trivial
theorem tw5149714755402479525 : True := trivial
theorem tw5152784196030571298 : True := trivial
theorem tw5173778519053659798 : True := trivial
theorem tw5189142188285759775 : True := trivial
theorem tw5228443966233409354 : True := trivial
theorem tw5247225353297040015 : True := trivial
theorem tw5248340912204065574 : True := trivial
theorem tw5289962621202845349 : True := trivial
theorem tw5299483063635442899 : True := trivial
theorem tw5303519439607764402 : True := trivial
theorem tw5315457868209417068 : True := trivial
theorem tw5345256250457102556 : True := trivial
theorem tw5349121933718820234 : True := trivial
theorem tw535072334866317008 : True := trivial
theorem tw5357591511691535388 : True := trivial
theorem tw5386766301290243201 : True := trivial
theorem tw5396446701170858492 : True := trivial
theorem tw5409283761738284092 : True := trivial
theorem tw5410153933605578482 : True := trivial
theorem tw5415697137353194442 : True := trivial
theorem tw5425108064043664162 : True := trivial
theorem tw5512085447785999860 : True := trivial
theorem tw5518745428033880147 : True := trivial
theorem tw5529568453561195837 : True := trivial
theorem tw5550314157272711993 : True := trivial
theorem tw5555313912996828296 : True := trivial
theorem tw5565278806992967083 : True := trivial
theorem tw558745408833754511 : True := trivial
theorem tw563124612126607214 : True := trivial
theorem tw5631866682500559305 : True := trivial
theorem tw5653986282849419384 : True := trivial
theorem tw5697894365363955025 : True := trivial
theorem tw5698774287046732500 : True := trivial
theorem tw5701610774189311196 : True := trivial
theorem tw5706481520468235054 : True := trivial
theorem tw5720267713326709755 : True := trivial
theorem tw5721027456603625697 : True := trivial
theorem tw5732905514179830355 : True := trivial
theorem tw5736407798762289528 : True := trivial
theorem tw5758256569797452207 : True := trivial
theorem tw5770473976442655180 : True := trivial
theorem tw5770868932273138760 : True := trivial
theorem tw578555737997480806 : True := trivial
theorem tw5820445615435017067 : True := trivial
theorem tw5823794197072137003 : True := trivial
theorem tw5853609219237828028 : True := trivial
theorem tw5854881644878751223 : True := trivial
theorem tw5857867401354281197 : True := trivial
theorem tw5862295025349918931 : True := trivial
theorem tw5889167727604068794 : True := trivial
theorem tw5899667090685427506 : True := trivial
theorem tw5902227825499142635 : True := trivial
theorem tw5923252988546675246 : True := trivial
theorem tw5925582254088234700 : True := trivial
theorem tw5936146933674214641 : True := trivial
theorem tw5946566240119215348 : True := trivial
theorem tw5950129339639070837 : True := trivial
theorem tw5952267759425050802 : True := trivial
theorem tw5976474108018559520 : True := trivial
theorem tw5978237884098788730 : True := trivial
theorem tw5994239182223829532 : True := trivial
theorem tw5998781340512891400 : True := trivial
theorem tw6004533443673955352 : True := trivial
theorem tw6012508502120743258 : True := trivial
theorem tw6019396324639902685 : True := trivial
theorem tw6057444674265745922 : True := trivial
theorem tw6059929106960060952 : True := trivial
theorem tw6076076219008924368 : True := trivial
theorem tw6090905460779295987 : True := trivial
theorem tw610167625130883901 : True := trivial
theorem tw6122645084068987007 : True := trivial
theorem tw6123655918767846522 : True := trivial
theorem tw6125931036764729998 : True := trivial
theorem tw6127375697748050860 : True := trivial
theorem tw6132934438814934913 : True := trivial
theorem tw6135381517318000843 : True := trivial
theorem tw6142071019320080357 : True := trivial
theorem tw6144853644547557980 : True := trivial
theorem tw6148621092414575339 : True := trivial
theorem tw6160057028138905194 : True := trivial
theorem tw6179359751918216688 : True := trivial
theorem tw618205885557783147 : True := trivial
theorem tw6182678533730793537 : True := trivial
theorem tw619697553891244110 : True := trivial
theorem tw6207647186733919153 : True := trivial
theorem tw6213141578215901147 : True := trivial
theorem tw6213697211615256494 : True := trivial
theorem tw6214688769961185500 : True := trivial
theorem tw6224646082405213132 : True := trivial
theorem tw6234664779796018075 : True := trivial
theorem tw6245536207120538393 : True := trivial
theorem tw6267220430429643429 : True := trivial
theorem tw6284913977507520645 : True := trivial
theorem tw6291368078380397288 : True := trivial
theorem tw6348685521300091022 : True := trivial
theorem tw6357409834272390260 : True := trivial
theorem tw6363645014702824404 : True := trivial
theorem tw6376979935183119688 : True := trivial
theorem tw6380047634161181297 : True := trivial
theorem tw6380782515089751550 : True := trivial
theorem tw6426273055680023932 : True := trivial
theorem tw6431602227632030956 : True := trivial
theorem tw6434138532213402376 : True := trivial
theorem tw6434265647005701932 : True := trivial
theorem tw6448080314894763839 : True := trivial
theorem tw6490153154368634044 : True := trivial
theorem tw6504275150365058295 : True := trivial
theorem tw6517296806544964722 : True := trivial
theorem tw6519424955469430661 : True := trivial
theorem tw6550987210724342151 : True := trivial
theorem tw6551367506479906963 : True := trivial
theorem tw6555881627085455882 : True := trivial
theorem tw6580340599500149305 : True := trivial
theorem tw6589095468515690095 : True := trivial
theorem tw6606113021469975653 : True := trivial
theorem tw6607189417530752870 : True := trivial
theorem tw6614585292965373069 : True := trivial
theorem tw662354867322794072 : True := trivial
theorem tw6623780062484046687 : True := trivial
theorem tw6624491594363574236 : True := trivial
theorem tw6636956529411117187 : True := trivial
theorem tw6648157844845288826 : True := trivial
theorem tw6654550962395885724 : True := trivial
theorem tw6662432510661729299 : True := trivial
theorem tw667198328695590252 : True := trivial
theorem tw6679490504615227074 : True := trivial
theorem tw6683783046931543321 : True := trivial
theorem tw6697550738653902072 : True := trivial
theorem tw6698160770425034372 : True := trivial
theorem tw6714822604882049554 : True := trivial
theorem tw6722154040420286063 : True := trivial
theorem tw6733733256287894996 : True := trivial
theorem tw6789855027759293466 : True := trivial
theorem tw6792406925840432001 : True := trivial
theorem tw6813294653679155843 : True := trivial
theorem tw6817277305950994716 : True := trivial
theorem tw682011567655089306 : True := trivial
theorem tw6832808476680081064 : True := trivial
theorem tw6834602518627153040 : True := trivial
theorem tw6841013123486265825 : True := trivial
theorem tw686183698351167624 : True := trivial
theorem tw6888100737891179579 : True := trivial
theorem tw6891000109920058784 : True := trivial
theorem tw6900397732965128853 : True := trivial
theorem tw6909570525239066004 : True := trivial
theorem tw6913438882417360052 : True := trivial
theorem tw6917869754434977982 : True := trivial
theorem tw6929956602132211858 : True := trivial
theorem tw6937325167468391026 : True := trivial
theorem tw6944952908185719654 : True := trivial
theorem tw6952355047532471503 : True := trivial
theorem tw6967401301877209104 : True := trivial
theorem tw6980910045739468074 : True := trivial
theorem tw6990963922061375149 : True := trivial
theorem tw6993175162768986339 : True := trivial
theorem tw7009043117176579089 : True := trivial
theorem tw7035115661146626270 : True := trivial
theorem tw704327219915372674 : True := trivial
theorem tw7057405563618977329 : True := trivial
theorem tw7074542288925894100 : True := trivial
theorem tw7081425507203772304 : True := trivial
theorem tw7094674258960923220 : True := trivial
theorem tw7112787868492120936 : True := trivial
theorem tw7140130562030077042 : True := trivial
theorem tw7146146830050965766 : True := trivial
theorem tw7155543432591195943 : True := trivial
theorem tw7165179329215463379 : True := trivial
theorem tw716658179208862652 : True := trivial
theorem tw7191607858210974391 : True := trivial
theorem tw7198390536060210744 : True := trivial
theorem tw721709456127091705 : True := trivial
theorem tw7231524377534056507 : True := trivial
theorem tw7232422423428716515 : True := trivial
theorem tw724751600484774222 : True := trivial
theorem tw7258234576362860186 : True := trivial
theorem tw725871291056497461 : True := trivial
theorem tw7269565832213808900 : True := trivial
theorem tw7275051467321613617 : True := trivial
theorem tw7276740287692124622 : True := trivial
theorem tw7283709581758218345 : True := trivial
theorem tw7286323032743288035 : True := trivial
theorem tw7295312623806419368 : True := trivial
theorem tw7299303143086499733 : True := trivial
theorem tw7299951869573292228 : True := trivial
theorem tw7313295853046975944 : True := trivial
theorem tw7323676302269181137 : True := trivial
theorem tw7344376507651311505 : True := trivial
theorem tw7365418143572279482 : True := trivial
theorem tw7386744729831018872 : True := trivial
theorem tw7387991725200618308 : True := trivial
theorem tw7392212959928792091 : True := trivial
theorem tw7393211689510517793 : True := trivial
theorem tw7397068168572129948 : True := trivial
theorem tw7401281599722004195 : True := trivial
theorem tw7405434945208526273 : True := trivial
theorem tw7431591544816029494 : True := trivial
theorem tw7449101846280096545 : True := trivial
theorem tw7458669417513538434 : True := trivial
theorem tw7461879971939330490 : True := trivial
theorem tw7469732015759309437 : True := trivial
theorem tw7483462131439158144 : True := trivial
theorem tw7499937903120025604 : True := trivial
theorem tw7503421922109321716 : True := trivial
theorem tw7504490480230193789 : True := trivial
theorem tw7543195961347049332 : True := trivial
theorem tw7543618554067911206 : True := trivial
theorem tw757081541053455785 : True := trivial
theorem tw7573151900890175926 : True := trivial
theorem tw7574553109774388169 : True := trivial
theorem tw7581352650102555174 : True := trivial
theorem tw7581816359482902497 : True := trivial
theorem tw7585139358526817783 : True := trivial
theorem tw7603884862615839908 : True := trivial
theorem tw7619357645376055252 : True := trivial
theorem tw7641510929779896126 : True := trivial
theorem tw764782834095389478 : True := trivial
theorem tw7650934615059315214 : True := trivial
theorem tw7652866986338317172 : True := trivial
theorem tw7670514497116975361 : True := trivial
theorem tw7721631327575515661 : True := trivial
theorem tw7729641633298002090 : True := trivial
theorem tw7733015712792483723 : True := trivial
theorem tw774047393022817027 : True := trivial
theorem tw7745614565497352828 : True := trivial
theorem tw7782445914667556100 : True := trivial
theorem tw7783732958741208154 : True := trivial
theorem tw7785048605280242668 : True := trivial
theorem tw7788680626742099145 : True := trivial
theorem tw7808205228206232076 : True := trivial
theorem tw7813595514833214533 : True := trivial
theorem tw7824674403005707151 : True := trivial
theorem tw7842807204330285214 : True := trivial
theorem tw7892128664451923741 : True := trivial
theorem tw790365300219607850 : True := trivial
theorem tw7957090006295546105 : True := trivial
theorem tw7976981314885711489 : True := trivial
theorem tw7987952416473584550 : True := trivial
theorem tw799472198861031185 : True := trivial
theorem tw8017206721242287953 : True := trivial
theorem tw8047484207015712433 : True := trivial
theorem tw8058433561772132124 : True := trivial
theorem tw8075568018651887793 : True := trivial
theorem tw8098380416015320538 : True := trivial
theorem tw8119918657739134586 : True := trivial
theorem tw8162909057868654942 : True := trivial
theorem tw8164371507598914237 : True := trivial
theorem tw8172093975534723114 : True := trivial
theorem tw8180830640274347804 : True := trivial
theorem tw8206430501311747189 : True := trivial
theorem tw8224813933742928703 : True := trivial
theorem tw8229062606249627158 : True := trivial
theorem tw8229689697521897066 : True := trivial
theorem tw8283515000281207119 : True := trivial
theorem tw830924265138556478 : True := trivial
theorem tw8328094057196393916 : True := trivial
theorem tw8376441433122354887 : True := trivial
theorem tw8385612375773290118 : True := trivial
theorem tw8389248881573145916 : True := trivial
theorem tw8424611434330503625 : True := trivial
theorem tw8430678208038309684 : True := trivial
theorem tw8432684481940611981 : True := trivial
theorem tw8450942572126056277 : True := trivial
theorem tw8451552260295177759 : True := trivial
theorem tw8459811325457737761 : True := trivial
theorem tw8473563963867554017 : True := trivial
theorem tw8474383852179026721 : True := trivial
theorem tw8488268690174267210 : True := trivial
theorem tw8540232549379673566 : True := trivial
theorem tw8552093678088426289 : True := trivial
theorem tw8579058602437062094 : True := trivial
theorem tw8588708647495961459 : True := trivial
theorem tw8595292554425487202 : True := trivial
theorem tw8603108125212654177 : True := trivial
theorem tw8610040677353227653 : True := trivial
theorem tw8620020772036689432 : True := trivial
theorem tw8621552478659558853 : True := trivial
theorem tw8642067239939848140 : True := trivial
theorem tw8649964590619651473 : True := trivial
theorem tw8654737378357257675 : True := trivial
theorem tw8656719876789144132 : True := trivial
theorem tw8686407601681055034 : True := trivial
theorem tw8693227569615203950 : True := trivial
theorem tw8703263022893421829 : True := trivial
theorem tw8704618095886561957 : True := trivial
theorem tw8708707556590381134 : True := trivial
theorem tw8719427161674164953 : True := trivial
theorem tw8727135674562949291 : True := trivial
theorem tw8732485361984058174 : True := trivial
theorem tw8753696776887207221 : True := trivial
theorem tw876465644420266413 : True := trivial
theorem tw8777329075199875621 : True := trivial
theorem tw878741703135273975 : True := trivial
theorem tw8795123598061512290 : True := trivial
theorem tw8796240567053077481 : True := trivial
theorem tw8800560270773162519 : True := trivial
theorem tw8802822988693486460 : True := trivial
theorem tw882838713213173450 : True := trivial
theorem tw8860024209350480642 : True := trivial
theorem tw8868882367808763553 : True := trivial
theorem tw8881496252177385917 : True := trivial
theorem tw8902219603052485911 : True := trivial
theorem tw894076849921957361 : True := trivial
theorem tw8944806292087596576 : True := trivial
theorem tw8959964123841196786 : True := trivial
theorem tw8989982439271903415 : True := trivial
theorem tw8999186272805695465 : True := trivial
theorem tw900395245841561262 : True := trivial
theorem tw9011979029575296479 : True := trivial
theorem tw9041768174481992944 : True := trivial
theorem tw9076128300344869771 : True := trivial
theorem tw9087420756778563785 : True := trivial
theorem tw912392155897948271 : True := trivial
theorem tw9130231340562597213 : True := trivial
theorem tw9131251417149488404 : True := trivial
theorem tw9136488742655976645 : True := trivial
theorem tw9165568632223901487 : True := trivial
theorem tw9190918148164325157 : True := trivial
theorem tw9206804518496725263 : True := trivial
theorem tw921073385446354868 : True := trivial
theorem tw9219426015542480343 : True := trivial
theorem tw9235277983596991582 : True := trivial
theorem tw9236379625843700516 : True := trivial
theorem tw9236875199018929784 : True := trivial
theorem tw9248541637817142097 : True := trivial
theorem tw9249553802937061307 : True := trivial
theorem tw9265879793445154701 : True := trivial
theorem tw9267298106668617725 : True := trivial
theorem tw9281714027785469542 : True := trivial
theorem tw9285146279643344392 : True := trivial
theorem tw9292931687148149277 : True := trivial
theorem tw9300948228871686676 : True := trivial
theorem tw9305466669911107070 : True := trivial
theorem tw9305782018832362445 : True := trivial
theorem tw930746551332336609 : True := trivial
theorem tw931183843429516998 : True := trivial
theorem tw932993149863042379 : True := trivial
theorem tw937105155873367277 : True := trivial
theorem tw9376109419431680627 : True := trivial
theorem tw9396933662098498411 : True := trivial
theorem tw9407582987413476825 : True := trivial
theorem tw9411460985935078520 : True := trivial
theorem tw9413167413068371254 : True := trivial
theorem tw9455686188066324210 : True := trivial
theorem tw9458956999447867950 : True := trivial
theorem tw9467589175468403638 : True := trivial
theorem tw9492235034089005946 : True := trivial
theorem tw9504726810853072989 : True := trivial
theorem tw950723637873067451 : True := trivial
theorem tw9515652053505349548 : True := trivial
theorem tw951843321253372498 : True := trivial
theorem tw9529234661008812162 : True := trivial
theorem tw9537544019596298400 : True := trivial
theorem tw9564595351457756722 : True := trivial
theorem tw9575948337506731703 : True := trivial
theorem tw9577309144901391297 : True := trivial
theorem tw9676229304581654039 : True := trivial
theorem tw9720828393056574044 : True := trivial
theorem tw973662469405803806 : True := trivial
theorem tw9736788993784561348 : True := trivial
theorem tw9759809726879904816 : True := trivial
theorem tw9763268239775435451 : True := trivial
theorem tw9787396351842916947 : True := trivial
theorem tw9787463984185863102 : True := trivial
theorem tw9794667896261083176 : True := trivial
theorem tw9800571698397750058 : True := trivial
theorem tw9821368406582625841 : True := trivial
theorem tw9862997608875712007 : True := trivial
theorem tw9868982950595657695 : True := trivial
theorem tw9893030918988833448 : True := trivial
theorem tw9908251947323293946 : True := trivial
theorem tw9910355351051955638 : True := trivial
theorem tw9931943479562821362 : True := trivial
theorem tw9948023125614773506 : True := trivial
theorem tw9951705424602377420 : True := trivial
theorem tw9977392586421186931 : True := trivial
theorem tw9979284746773624096 : True := trivial
end PySem.W.Fast
namespace Mine
set_option maxRecDepth 100000 in
set_option maxHeartbeats 8000000 in
open_top hd for PySem.Challenge.rw_kl0188_01
end Mine
namespace Mine
set_option maxRecDepth 100000
set_option maxHeartbeats 8000000
section P00
theorem off00 : True := by
  w_top off
  trivial
noncomputable abbrev Led := List (Addr × Obj)
/-- a call from any frame over the ledger `news`; `post` says of the ledger behind and of the answer -/
noncomputable def Says (w : World) (f : Value) (args : List Value) (kw : List (Str × Value)) (cost : Nat) (news : Led) (post : Led → Value → Prop) : Prop :=
  ∀ (dp un : Nat) (gd : Option (List Code)) (cn : Str) (cs : Scope) (a : Addr) (ccd : Value) (cl : List (Str × Addr)) (outer : List Env) (A₀ : Around) (base h₀ : Heap) (L : Addr) (m : Str → Option Value) (s : Shared)
    (p : Program) (loose : List Str) (mean : ExcName → Option Value) (mg mb : Str → Option Value) (Q E : Value → Shared → Prop),
    Below A₀ base outer h₀ → Fr h₀ L s.heap m → (hd.heap_39 w.params).In h₀ → News h₀ L s.heap news → Top p loose mean mg mb h₀ → cs.kind = .function → dp + cost < recursionLimit → un + 8 * cost < cLine →
    (∀ r news' h' tk', Fr h₀ L h' m → News h₀ L h' news' → post news' r → Q r { s with heap := h', toks := tk' }) →
    wpAny (model PySem.Challenge.rw_kl0188_01.row.prog w) (ktrTop dp un gd cn cs L a ccd cl outer) (call f args kw) Q E s
theorem says_use {w : World} {f : Value} {args : List Value} {kw : List (Str × Value)} {cost : Nat} {news : Led} {post : Led → Value → Prop}
    {dp un : Nat} {gd : Option (List Code)} {cn : Str} {cs : Scope} {a : Addr} {ccd : Value} {cl : List (Str × Addr)} {outer : List Env} {A₀ : Around} {base h₀ : Heap} {L : Addr} {m : Str → Option Value} {s : Shared}
    {p : Program} {loose : List Str} {mean : ExcName → Option Value} {mg mb : Str → Option Value} {Q E : Value → Shared → Prop}
    (C : Says w f args kw cost news post)
    (B : Below A₀ base outer h₀) (F : Fr h₀ L s.heap m) (X : (hd.heap_39 w.params).In h₀) (N : News h₀ L s.heap news) (T : Top p loose mean mg mb h₀) (hk : cs.kind = .function) (hd : dp + cost < recursionLimit) (hu : un + 8 * cost < cLine)
    (ret : ∀ r news' h' tk', Fr h₀ L h' m → News h₀ L h' news' → post news' r → Q r { s with heap := h', toks := tk' }) :
    wpAny (model PySem.Challenge.rw_kl0188_01.row.prog w) (ktrTop dp un gd cn cs L a ccd cl outer) (call f args kw) Q E s :=
  C dp un gd cn cs a ccd cl outer A₀ base h₀ L m s p loose mean mg mb Q E B F X N T hk hd hu ret
theorem news_sub {h₀ h : Heap} {L : Addr} {l l' : Led} (N : News h₀ L h l) (hs : ∀ p ∈ l', p ∈ l) : News h₀ L h l' := fun p hp => N p (hs p hp)
theorem allLt_ne {d : Addr} : ∀ {l : Led}, AllLt d l → ∀ p ∈ l, p.1 ≠ d
  | [], _, _, hp => nomatch hp
  | _ :: _, h, _, hp => by
    rcases List.mem_cons.mp hp with rfl | hp
    · exact Nat.ne_of_lt h.1
    · exact allLt_ne h.2 _ hp
/-- what a pure call gives back: V t for some token -/
noncomputable abbrev Gives (R : Led) (V : Tok → Value) : Led → Value → Prop := fun news' r => news' = R ∧ ∃ t, r = V t
theorem says_pure {w : World} {f : Value} {args : List Value} {kw : List (Str × Value)} {cost : Nat} {R : Led} {V : Tok → Value}
    {dp un : Nat} {gd : Option (List Code)} {cn : Str} {cs : Scope} {a : Addr} {ccd : Value} {cl : List (Str × Addr)} {outer : List Env} {A₀ : Around} {base h₀ : Heap} {L : Addr} {m : Str → Option Value} {s : Shared}
    {p : Program} {loose : List Str} {mean : ExcName → Option Value} {mg mb : Str → Option Value} {Q E : Value → Shared → Prop}
    (C : Says w f args kw cost R (Gives R V))
    (B : Below A₀ base outer h₀) (F : Fr h₀ L s.heap m) (X : (hd.heap_39 w.params).In h₀) (N : News h₀ L s.heap R) (T : Top p loose mean mg mb h₀) (hk : cs.kind = .function) (hd : dp + cost < recursionLimit) (hu : un + 8 * cost < cLine)
    (ret : ∀ t h' tk', Fr h₀ L h' m → News h₀ L h' R → Q (V t) { s with heap := h', toks := tk' }) :
    wpAny (model PySem.Challenge.rw_kl0188_01.row.prog w) (ktrTop dp un gd cn cs L a ccd cl outer) (call f args kw) Q E s := by
  refine says_use C B F X N T hk hd hu ?_
  rintro _ _ h' tk' F' N' ⟨rfl, t, rfl⟩
  exact ret t h' tk' F' N'
noncomputable def Stop (P : Prop) : Prop := P
theorem stop_in {P : Prop} (h : Stop P) : P := h
theorem wt_make (C : Addr) (vals : List Value) (kw : List (Str × Value)) : (Code.builtin "type.__call__" ⟨.ref C :: vals, kw⟩).weight = 1 := rfl
theorem un_make (C : Addr) (vals : List Value) (kw : List (Str × Value)) : (Code.builtin "type.__call__" ⟨.ref C :: vals, kw⟩).cUnits = 1 := rfl
theorem ne_ret (v : Value) : Flow.ret v ≠ .next := fun h => nomatch h
theorem ne_brk : Flow.brk ≠ .next := fun h => nomatch h
theorem ne_cont : Flow.cont ≠ .next := fun h => nomatch h
theorem execs_one {M : Model} {A : Around} {E : Value → Shared → Prop} {s : Shared} {env : Env} {st : Stmt} {Q : Flow → Shared → Prop} (h : wpAny M A (exec st env) Q E s) : wpAny M A (execs [st] env) Q E s :=
  wpAny_execs_cons (wpAny_mono h (fun f s' hq => by cases f <;> first | exact wpAny_execs_nil hq | exact hq) (fun _ _ h => h))
/-- a statement with more behind it: what comes behind is a letter with two facts, so that the walk's term does not say it again; the state's parts are said by parts, its counter anew -/
theorem execs_more {M : Model} {A : Around} {E : Value → Shared → Prop} {h0 : Heap} {g : Array GenState} {d : Drawn} {t : Nat} {o : OsState} {env : Env} {st : Stmt} {rest : List Stmt} {Q : Flow → Shared → Prop}
    (H : ∀ q : Flow → Shared → Prop, (∀ h tk, (∀ k, wpAny M A (execs rest env) Q E ⟨h, g, d, k, o⟩) → q .next ⟨h, g, d, tk, o⟩) → (∀ f s', f ≠ .next → Q f s' → q f s') → wpAny M A (exec st env) q E ⟨h0, g, d, t, o⟩) : wpAny M A (execs (st :: rest) env) Q E ⟨h0, g, d, t, o⟩ :=
  wpAny_execs_cons (H _ (fun _ _ h => h _) (fun f s' hf hq => by cases f <;> first | exact hq | exact absurd rfl hf))
/-- a middle point: what stands behind a part of the walk -/
noncomputable def Mid {α : Type} (g : Heap) (L : Addr) (m : Str → Option Value) (s : Shared) (V : α → Led → Prop) (b : α) (s₂ : Shared) : Prop := ∃ h2 tk2 led, s₂ = { s with heap := h2, toks := tk2 } ∧ Fr g L h2 m ∧ News g L h2 led ∧ V b led
theorem mid_in {α : Type} {g : Heap} {L : Addr} {m : Str → Option Value} {s : Shared} {V : α → Led → Prop} {b : α} {h2 : Heap} {tk2 : Nat} (led : Led) (F : Fr g L h2 m) (N : News g L h2 led) (v : V b led) : Mid g L m s V b { s with heap := h2, toks := tk2 } := ⟨h2, tk2, led, rfl, F, N, v⟩
theorem mid_point {α : Type} {M : Model} {A : Around} {t : Sem α} {Q : α → Shared → Prop} {E : Value → Shared → Prop} {s : Shared} {g : Heap} {L : Addr} {m : Str → Option Value} (V : α → Led → Prop) (_ : Fr g L s.heap m)
    (h1 : wpAny M A t (Mid g L m s V) E s)
    (h2 : ∀ b h tk led, Fr g L h m → News g L h led → V b led → Q b { s with heap := h, toks := tk }) : wpAny M A t Q E s :=
  wpAny_mono h1 (fun b s₂ ⟨h, tk, led, e, F, N, v⟩ => e ▸ h2 b h tk led F N v) (fun _ _ x => x)
theorem sub_cons {α : Type} {a : α} {l1 l2 : List α} (h : a ∈ l2) (k : ∀ p ∈ l1, p ∈ l2) : ∀ p ∈ a :: l1, p ∈ l2 := fun p hp => (List.mem_cons.mp hp).elim (fun e => e ▸ h) (k p)
theorem sub_app {α : Type} {l1 l2 l3 : List α} (h : ∀ p ∈ l1, p ∈ l3) (k : ∀ p ∈ l2, p ∈ l3) : ∀ p ∈ l1 ++ l2, p ∈ l3 := fun p hp => (List.mem_append.mp hp).elim (h p) (k p)
theorem st_ne {st : List Str} {z k : Str} (h : st.contains z = false) (hk : st.contains k = true) : z ≠ k := by rintro rfl; rw [hk] at h; cases h
theorem st_sub {st st2 : List Str} {z : Str} (h : st.contains z = false) (hs : st2.all st.contains = true) : ¬ st2.contains z = true := fun e => by
  have := List.all_eq_true.mp hs z (List.contains_iff_mem.mp e)
  rw [h] at this; cases this
theorem st_more {s1 s2 : List Str} {a b z : Str} (h1 : z ≠ a) (h2 : z ≠ b) (h3 : s2.contains z = false) (hs : s1.all (fun k => k == a || k == b || s2.contains k) = true) : s1.contains z = false := by
  cases h : s1.contains z with
  | false => rfl
  | true =>
    have := List.all_eq_true.mp hs z (List.contains_iff_mem.mp h)
    rw [beq_eq_false_iff_ne.mpr h1, beq_eq_false_iff_ne.mpr h2, h3] at this
    cases this
theorem all_cons {α : Type} {P : α → Prop} {a : α} {l : List α} (h : P a) (k : ∀ p ∈ l, P p) : ∀ p ∈ a :: l, P p := fun p hp => (List.mem_cons.mp hp).elim (fun e => e ▸ h) (k p)
theorem off_cons {a b : Addr} {o : Obj} {l : Led} (h : a ≠ b) (k : ∀ p ∈ l, p.1 ≠ b) : ∀ p ∈ (a, o) :: l, p.1 ≠ b := all_cons h k
theorem nd6 {a b c d e f : Addr} {l : List Addr} (h : (a :: b :: c :: d :: e :: f :: l).Nodup) : (a ≠ b ∧ a ≠ c ∧ a ≠ d ∧ a ≠ e ∧ a ≠ f ∧ a ∉ l) ∧ (b ≠ c ∧ b ≠ d ∧ b ≠ e ∧ b ≠ f ∧ b ∉ l) ∧ (c ≠ d ∧ c ≠ e ∧ c ≠ f ∧ c ∉ l) ∧ (d ≠ e ∧ d ≠ f ∧ d ∉ l) := by
  simp only [List.nodup_cons, List.mem_cons, not_or] at h
  exact ⟨h.1, h.2.1, h.2.2.1, h.2.2.2.1⟩
theorem off6 {a b c d e f x : Addr} {l : List Addr} (h : x ∉ a :: b :: c :: d :: e :: f :: l) : x ≠ a ∧ x ≠ b ∧ x ≠ c ∧ x ≠ d ∧ x ≠ e ∧ x ≠ f ∧ x ∉ l := by
  simpa only [List.mem_cons, not_or] using h
theorem nil_sub {α : Type} {l : List α} : ∀ p ∈ ([] : List α), p ∈ l := fun _ h => nomatch h
/-- the surroundings get a name: they stand in every step's term -/
theorem name_A {α : Type} {M : Model} {A : Around} {t : Sem α} {Q : α → Shared → Prop} {E : Value → Shared → Prop} {s : Shared} (h : let A' := A; wpAny M A' t Q E s) : wpAny M A t Q E s := h
end P00
local macro_rules | `(tactic| k_all) => `(tactic| first | assumption | exact allLt_ne (by assumption))
local macro_rules | `(tactic| k_room) => `(tactic| (simp +zetaDelta only [Around.under, Around.deeper, Around.in1, ktrTop, wt_make]; omega))
local macro_rules | `(tactic| k_units) => `(tactic| (simp +zetaDelta only [Around.under, Around.deeper, Around.in1, ktrTop, un_make]; omega))
local macro_rules | `(tactic| tb_rel) => `(tactic| ((case k1 | k2 | k3 | k4 | k5 => k_asm); (case kK => first | exact rfl | assumption); (case kd => k_room); (case ku => k_units)))
section P01
theorem off01 : True := by
  w_top off
  trivial
section
variable {prog : Program} {w : World} {A : Around} {E : Value → Shared → Prop} {s : Shared}
theorem issub_nested_str {k : Value} {dep : Int} {tk : Tok} {Q : Fin → Shared → Prop} (hk : k = .int dep tk) (hq : Q (.done (.ret (.bool true))) s) :
    wpAny (model prog w) A (Builtin.«issubclass.nested» ⟨[.type "str", .type "str", k], []⟩) Q E s := by
  subst hk
  have hm : (Value.type ((Manifest.find? "str").elim "type" (·.metatype)) == Value.type "type") = true := by decide +kernel
  have hself : isSubtype (.type "str") (.type "str") = pure true := by rw [isSubtype_type]; kernel_rfl
  repeat (any_goals (first | assumption | (rw [if_pos hm]) | (rw [hself]) | wp_step))
theorem kind_issubn : builtinKind "issubclass.nested" = none := by decide +kernel
theorem plain_issubn : plainId "issubclass.nested" = true := by decide +kernel
theorem args_issubn (a b c : Value) : argsOk "issubclass.nested" ⟨[a, b, c], []⟩ := by unfold argsOk; kernel_rfl
theorem issub_nested_call {d : Int} {Q : Value → Shared → Prop} (h : Q (.bool true) s) : wpAny (model prog w) A (call (.builtin "issubclass.nested") [.type "str", .type "str", rawInt d]) Q E s :=
  call_function_meets (S := fun _ R s => R (.ok (.ret (.bool true))) s) kind_issubn plain_issubn F.entry_issubclass_nested (args_issubn _ _ _) (fun _ _ _ _ _ hs => issub_nested_str rfl hs) h
theorem issub_nested_pair {D : Addr} {n : Nat} {tk : Tok} {Q : Fin → Shared → Prop} (hD : s.heap.get? D = some { cls := .type "tuple", data := .seq #[.type "str", .type "bytes"] n }) (hq : Q (.done (.ret (.bool true))) s) :
    wpAny (model prog w) A (Builtin.«issubclass.nested» ⟨[.type "str", .ref D, .int 0 tk], []⟩) Q E s := by
  obtain ⟨hh, g, d, t, os⟩ := s
  have hT2 : (⟨hh, g, d, t, os⟩ : Shared).TypeIs (.ref D) "tuple" := ⟨_, hD, rfl⟩
  have f1 := F.isi_sub_tuple
  repeat (any_goals (first | assumption | ((with_reducible show wpAny _ _ (call (Value.builtin "issubclass.nested") _) _ _ _); refine issub_nested_call ?_) | wp_step))
theorem issub_pair_meets {D : Addr} {n : Nat} : Meets (Builtin.«issubclass» ⟨[.type "str", .ref D], []⟩) (fun _ R s => s.heap.get? D = some { cls := .type "tuple", data := .seq #[.type "str", .type "bytes"] n } ∧ R (.ok (.ret (.bool true))) s) :=
  fun _ _ _ _ _ hs => issubclass_outer (issub_nested_pair hs.1 hs.2)
theorem issub_pair {D : Addr} {n : Nat} {Q : Value → Shared → Prop} (hD : s.heap.get? D = some { cls := .type "tuple", data := .seq #[.type "str", .type "bytes"] n }) (h : Q (.bool true) s) :
    wpAny (model prog w) A (call (.builtin "issubclass") [.type "str", .ref D]) Q E s := call_issubclass issub_pair_meets ⟨hD, h⟩
end
theorem in_known {prog : Program} {w : World} {A : Around} {E : Value → Shared → Prop} {s : Shared} {x y : Str} {u t : Tok} {b : Bool} {Q : Value → Shared → Prop} (hb : Txt.contains x y = b) (h : Q (.bool b) s) :
    wpAny (model prog w) A (compareOp .In (.str y u) (.str x t)) Q E s := PyProof.Rows.in_str (by subst hb; exact h)
theorem truthy_long {prog : Program} {w : World} {A : Around} {E : Value → Shared → Prop} {s : Shared} {x : Str} {t : Tok} {Q : Bool → Shared → Prop} (h0 : 0 < x.length) (h1 : x.length ≤ 16777216) (h : ∀ k, Q true { s with toks := k }) :
    wpAny (model prog w) A (truthy (.str x t)) Q E s := by
  refine P.truthy_str (by omega) ?_
  have e : ((x.length : Int) != 0) = true := bne_iff_ne.mpr (by omega)
  rw [e]
  exact h _
theorem notin_known {prog : Program} {w : World} {A : Around} {E : Value → Shared → Prop} {s : Shared} {x y : Str} {u t : Tok} {b : Bool} {Q : Value → Shared → Prop} (hb : Txt.contains x y = b) (h : Q (.bool !b) s) :
    wpAny (model prog w) A (compareOp .NotIn (.str y u) (.str x t)) Q E s := PyProof.Rows.notIn_str (by subst hb; exact h)
end P01
section P02
theorem off02 : True := by
  w_top off
  trivial
open PySem.Builtin PySem.Builtin.Str PySem.StrLaws in
theorem slice_nat (x : Str) {a b : Nat} (hab : a ≤ b) (hb : b ≤ x.length) : Txt.slice x (some (a : Int)) (some (b : Int)) = ⟨((x.cps.toList.drop a).take (b - a)).toArray⟩ := sliceText_nat x hab hb
open PySem.Builtin PySem.Builtin.Str PySem.StrLaws in
theorem slice_to {x : Str} {j : Nat} (h : j ≤ x.length) : Txt.slice x none (some (j : Int)) = ⟨(x.cps.toList.take j).toArray⟩ := by
  have : Txt.slice x none (some (j : Int)) = _ := sliceText_to (x := x) (j := j) ⟨by omega, by simp [Str.length] at h ⊢; omega⟩
  simpa using this
open PySem.Builtin PySem.Builtin.Str PySem.StrLaws in
theorem slice_back {x : Str} (h : 1 ≤ x.length) : Txt.slice x none (some (-1)) = ⟨x.cps.toList.dropLast.toArray⟩ := by
  have : Txt.slice x none (some (-1)) = _ := sliceText_to_neg (x := x) (j := -1) (by omega) (by omega)
  rw [show ((-1 : Int) + x.length - 0).toNat = x.cps.toList.length - 1 by simp [Str.length]; omega] at this
  rw [List.dropLast_eq_take]
  simpa using this
theorem length_mk (l : List Nat) : (Str.mk l.toArray).length = l.length := by simp [Str.length]
theorem mk_append (a b : List Nat) : Str.mk a.toArray ++ Str.mk b.toArray = Str.mk (a ++ b).toArray := by
  show Str.mk (a.toArray ++ b.toArray) = _
  simp
theorem slash_eq : Str.ofString "/" = Str.mk [47].toArray := by decide +kernel
theorem blank_eq : Str.ofString " " = Str.mk [32].toArray := by decide +kernel
theorem empty_eq : Str.ofString "" = Str.mk ([] : List Nat).toArray := by decide +kernel
theorem read_one {buf : Str} {k : Nat} (h : k < buf.length) : Txt.slice (Txt.slice buf (some (k : Int)) (some ((k : Int) + 1)) ++ Str.ofString " ") none (some (-1)) = ⟨((buf.cps.toList.drop k).take 1).toArray⟩ := by
  have e : ((k : Int) + 1) = ((k + 1 : Nat) : Int) := by omega
  rw [e, slice_nat buf (Nat.le_succ k) h, blank_eq, mk_append, slice_back (by rw [length_mk]; simp)]
  rw [show k + 1 - k = 1 by omega]
  simp
end P02
section P03
theorem off03 : True := by
  w_top off
  trivial
theorem index_says (w : World) (n : Int) (t : Tok) (x : Str) (tx : Tok) (R : Led) (h0 : -1 ≤ n) (h1 : n ≤ 1) : Says w (.ref 53) [.int n t, .str x tx] [] 10 R (Gives R (.int n)) := by
  unfold Says
  k_fill
  intro dp un gd cn cs a ccd cl outer A₀ base h₀ L m s p loose mean mg mb Q E B F X N T hk hd hu hret
  refine wpAny_call ?_
  k_dflt (first | (refine' code_def ?k1 ?k2 ?k3 ?k4 ?k5 ?zqkA ?zqkF ?kK ?zqk6 ?zqk7 ?zqk8 ?zqk9 ?zqkB ?_ ?zqc2 ?zqc3 ?zqc4 ?zqc5; (case zqkA | zqkF => exact rfl); (case kK => assumption); (case k1 | k2 => k_asm); (case k3 | k4 | k5 => k_asm); (case zqk6 | zqk7 => k_is); (case zqk8 => k_room); (case zqk9 => first | exact BindsTo.of_eq rfl | exact binds_K (by k_in) rfl (by k_is) rfl rfl rfl | fail); (case zqc5 => decide); (case zqkB => exact locs rfl); (case zqc2 | zqc3 | zqc4 => exact rfl); k_whole; intro g'Z L'Z h'Z FG'Z F'Z N'Z B'Z X'Z T'Z; (try dsimp only); (try k_lift B'Z); (try k_fold); refine name_A ?_; intro aA8; have hN8 := True.intro; have hO8 := True.intro) | (kp_kind "rest"; refine' kp_rest ?k1 ?k2 ?k3 ?k4 ?k5 ?zqkA ?zqkF ?kK ?zqk6 ?zqk7 ?zqk8 ?zqkV ?zqkP ?zqkG ?zqkB ?_ ?zqc2 ?zqc3 ?zqc4 ?zqc5; (case zqkA | zqkF => exact rfl); (case kK => assumption); (case k1 | k2 => k_asm); (case k3 | k4 | k5 => k_asm); (case zqk6 | zqk7 => k_is); (case zqk8 => k_room); (case zqkV | zqkP => exact rfl); (case zqkG => exact fun _ => rfl); (case zqkB => exact fun _ => locs rfl); (case zqc5 => decide); (case zqc2 | zqc3 | zqc4 => exact rfl); k_whole; intro D'Z g'Z L'Z h'Z l1Z FG'Z F'Z N'Z B'Z X'Z T'Z; (try k_lt l1Z); (try dsimp only); (try k_lift B'Z); (try k_fold); refine name_A ?_; intro aA8; have hN8 := True.intro; have hO8 := True.intro) | (kp_kind "both"; refine' kp_both ?k1 ?k2 ?k3 ?k4 ?k5 ?zqkA ?zqkF ?kK ?zqk6 ?zqk7 ?zqk8 ?zqkV ?zqkX ?zqkQ ?zqkM ?zqkN ?zqkD ?zqkR ?zqkP ?zqkS ?zqkT ?zqkB ?_ ?zqc2 ?zqc3 ?zqc4 ?zqc5; (case zqkA | zqkF => exact rfl); (case kK => assumption); (case k1 | k2 => k_asm); (case k3 | k4 | k5 => k_asm); (case zqk6 | zqk7 => k_is); (case zqk8 => k_room); (case zqkV | zqkX => kp_lit); (case zqkQ | zqkM | zqkN => exact rfl); (case zqkD => kp_flats); (case zqkR | zqkP => exact rfl); (case zqkS => exact fun _ => rfl); (case zqkT => exact fun _ _ => rfl); (case zqkB => exact fun _ _ => locs rfl); (case zqc5 => decide); (case zqc2 | zqc3 | zqc4 => exact rfl); k_whole; intro C'Z D'Z o'Z g'Z L'Z h'Z tk'Z l1Z l2Z lo'Z hs'Z fs'Z FG'Z F'Z N'Z B'Z X'Z T'Z; (try k_lt l1Z); (try k_lt2 l2Z); (try dsimp only); (try k_lift B'Z); (try k_fold); refine name_A ?_; intro aA8; have hN8 := True.intro; have hO8 := True.intro))
  repeat' (first | (k_unfold; (try dsimp only)) | (k_end; (with_reducible refine hN8 _ _ ?_); intro kN8; clear hN8 hO8; (try clear qN8); first | with_reducible refine execs_one ?_ | (refine execs_more ?_; intro qN8 hN8 hO8)) | (k_end; (with_reducible refine hO8 _ _ ?zn8 ?_); (case zn8 => first | exact ne_ret _ | exact ne_brk | exact ne_cont); clear hN8 hO8; (try clear qN8)) | (k_end; wrow_close) | ((with_reducible show wpAny _ _ (compareOp _ _ _) _ _ _); (first | (k_here; (with_reducible show wpAny _ _ (compareOp CmpOp.NotIn (Value.str _ _) (Value.str _ _)) _ _ _); (first | (refine notin_known (b := false) (by assumption) ?_) | (refine notin_known (b := true) (by assumption) ?_) | (refine notin_known (b := false) (by decide +kernel) ?_) | (refine notin_known (b := true) (by decide +kernel) ?_)); (try simp only [Bool.not_false, Bool.not_true])) | (k_here; (with_reducible show wpAny _ _ (compareOp CmpOp.In (Value.str _ _) (Value.str _ _)) _ _ _); first | (refine in_known (b := false) (by assumption) ?_) | (refine in_known (b := true) (by assumption) ?_) | (refine in_known (b := false) (by decide +kernel) ?_) | (refine in_known (b := true) (by decide +kernel) ?_)))) | (k_here; (with_reducible show wpAny _ _ (truthy (Value.str _ _)) _ _ _); refine truthy_long (by assumption) (by omega) ?_; intro _) | ((with_reducible show wpAny _ _ (call (Value.builtin "issubclass") _ _) _ _ _); (k_here; k_dflt (refine' issub_pair ?k1 ?_; (case k1 => exact News.get (by k_asm) (by k_mem)); k_whole))) | ((with_reducible show wpAny _ _ (execs _ _) _ _ _); (first | ((with_reducible show wpAny _ _ (execs [] _) _ _ _); (k_here; refine wpAny_execs_nil ?_)) | ((with_reducible show wpAny _ _ (execs (_ :: _) _) _ _ _); (k_here; (try dsimp only); (try k_fold); first | with_reducible refine execs_one ?_ | (refine execs_more ?_; intro qN8 hN8 hO8))))) | ((with_reducible show wpAny _ _ (exec (Stmt.If _ _ _ _) _) _ _ _); (k_here; refine wpAny_If ?_)) | walk1 | ((with_reducible show wpAny _ _ _ _ _ _); dsimp only) | (leave1; walk_say "STEP leave1"; try dsimp only) | fail "no step")
  exact hret _ _ _ _ (by assumption) (by assumption) ⟨rfl, _, rfl⟩
theorem fspath_says (w : World) (x : Str) (tx : Tok) (R : Led) : Says w (.ref 799) [.str x tx] [] 10 R (Gives R (fun _ => .str x tx)) := by
  unfold Says
  k_fill
  intro dp un gd cn cs a ccd cl outer A₀ base h₀ L m s p loose mean mg mb Q E B F X N T hk hd hu hret
  refine wpAny_call ?_
  k_dflt (first | (refine' code_def ?k1 ?k2 ?k3 ?k4 ?k5 ?zqkA ?zqkF ?kK ?zqk6 ?zqk7 ?zqk8 ?zqk9 ?zqkB ?_ ?zqc2 ?zqc3 ?zqc4 ?zqc5; (case zqkA | zqkF => exact rfl); (case kK => assumption); (case k1 | k2 => k_asm); (case k3 | k4 | k5 => k_asm); (case zqk6 | zqk7 => k_is); (case zqk8 => k_room); (case zqk9 => first | exact BindsTo.of_eq rfl | exact binds_K (by k_in) rfl (by k_is) rfl rfl rfl | fail); (case zqc5 => decide); (case zqkB => exact locs rfl); (case zqc2 | zqc3 | zqc4 => exact rfl); k_whole; intro g'Z L'Z h'Z FG'Z F'Z N'Z B'Z X'Z T'Z; (try dsimp only); (try k_lift B'Z); (try k_fold); refine name_A ?_; intro aA8; have hN8 := True.intro; have hO8 := True.intro) | (kp_kind "rest"; refine' kp_rest ?k1 ?k2 ?k3 ?k4 ?k5 ?zqkA ?zqkF ?kK ?zqk6 ?zqk7 ?zqk8 ?zqkV ?zqkP ?zqkG ?zqkB ?_ ?zqc2 ?zqc3 ?zqc4 ?zqc5; (case zqkA | zqkF => exact rfl); (case kK => assumption); (case k1 | k2 => k_asm); (case k3 | k4 | k5 => k_asm); (case zqk6 | zqk7 => k_is); (case zqk8 => k_room); (case zqkV | zqkP => exact rfl); (case zqkG => exact fun _ => rfl); (case zqkB => exact fun _ => locs rfl); (case zqc5 => decide); (case zqc2 | zqc3 | zqc4 => exact rfl); k_whole; intro D'Z g'Z L'Z h'Z l1Z FG'Z F'Z N'Z B'Z X'Z T'Z; (try k_lt l1Z); (try dsimp only); (try k_lift B'Z); (try k_fold); refine name_A ?_; intro aA8; have hN8 := True.intro; have hO8 := True.intro) | (kp_kind "both"; refine' kp_both ?k1 ?k2 ?k3 ?k4 ?k5 ?zqkA ?zqkF ?kK ?zqk6 ?zqk7 ?zqk8 ?zqkV ?zqkX ?zqkQ ?zqkM ?zqkN ?zqkD ?zqkR ?zqkP ?zqkS ?zqkT ?zqkB ?_ ?zqc2 ?zqc3 ?zqc4 ?zqc5; (case zqkA | zqkF => exact rfl); (case kK => assumption); (case k1 | k2 => k_asm); (case k3 | k4 | k5 => k_asm); (case zqk6 | zqk7 => k_is); (case zqk8 => k_room); (case zqkV | zqkX => kp_lit); (case zqkQ | zqkM | zqkN => exact rfl); (case zqkD => kp_flats); (case zqkR | zqkP => exact rfl); (case zqkS => exact fun _ => rfl); (case zqkT => exact fun _ _ => rfl); (case zqkB => exact fun _ _ => locs rfl); (case zqc5 => decide); (case zqc2 | zqc3 | zqc4 => exact rfl); k_whole; intro C'Z D'Z o'Z g'Z L'Z h'Z tk'Z l1Z l2Z lo'Z hs'Z fs'Z FG'Z F'Z N'Z B'Z X'Z T'Z; (try k_lt l1Z); (try k_lt2 l2Z); (try dsimp only); (try k_lift B'Z); (try k_fold); refine name_A ?_; intro aA8; have hN8 := True.intro; have hO8 := True.intro))
  repeat' (first | (k_unfold; (try dsimp only)) | (k_end; (with_reducible refine hN8 _ _ ?_); intro kN8; clear hN8 hO8; (try clear qN8); first | with_reducible refine execs_one ?_ | (refine execs_more ?_; intro qN8 hN8 hO8)) | (k_end; (with_reducible refine hO8 _ _ ?zn8 ?_); (case zn8 => first | exact ne_ret _ | exact ne_brk | exact ne_cont); clear hN8 hO8; (try clear qN8)) | (k_end; wrow_close) | ((with_reducible show wpAny _ _ (compareOp _ _ _) _ _ _); (first | (k_here; (with_reducible show wpAny _ _ (compareOp CmpOp.NotIn (Value.str _ _) (Value.str _ _)) _ _ _); (first | (refine notin_known (b := false) (by assumption) ?_) | (refine notin_known (b := true) (by assumption) ?_) | (refine notin_known (b := false) (by decide +kernel) ?_) | (refine notin_known (b := true) (by decide +kernel) ?_)); (try simp only [Bool.not_false, Bool.not_true])) | (k_here; (with_reducible show wpAny _ _ (compareOp CmpOp.In (Value.str _ _) (Value.str _ _)) _ _ _); first | (refine in_known (b := false) (by assumption) ?_) | (refine in_known (b := true) (by assumption) ?_) | (refine in_known (b := false) (by decide +kernel) ?_) | (refine in_known (b := true) (by decide +kernel) ?_)))) | (k_here; (with_reducible show wpAny _ _ (truthy (Value.str _ _)) _ _ _); refine truthy_long (by assumption) (by omega) ?_; intro _) | ((with_reducible show wpAny _ _ (call (Value.builtin "issubclass") _ _) _ _ _); (k_here; k_dflt (refine' issub_pair ?k1 ?_; (case k1 => exact News.get (by k_asm) (by k_mem)); k_whole))) | ((with_reducible show wpAny _ _ (execs _ _) _ _ _); (first | ((with_reducible show wpAny _ _ (execs [] _) _ _ _); (k_here; refine wpAny_execs_nil ?_)) | ((with_reducible show wpAny _ _ (execs (_ :: _) _) _ _ _); (k_here; (try dsimp only); (try k_fold); first | with_reducible refine execs_one ?_ | (refine execs_more ?_; intro qN8 hN8 hO8))))) | ((with_reducible show wpAny _ _ (exec (Stmt.If _ _ _ _) _) _ _ _); (k_here; refine wpAny_If ?_)) | walk1 | ((with_reducible show wpAny _ _ _ _ _ _); dsimp only) | (leave1; walk_say "STEP leave1"; try dsimp only) | fail "no step")
  exact hret _ _ _ _ (by assumption) (news_sub (by assumption) (fun _ hp => .tail _ hp)) ⟨rfl, 0, rfl⟩
theorem sep_says (w : World) (x : Str) (tx : Tok) (R : Led) : Says w (.ref 813) [.str x tx] [] 10 R (Gives R (.str (Str.ofString "/"))) := by
  unfold Says
  k_fill
  intro dp un gd cn cs a ccd cl outer A₀ base h₀ L m s p loose mean mg mb Q E B F X N T hk hd hu hret
  refine wpAny_call ?_
  k_dflt (first | (refine' code_def ?k1 ?k2 ?k3 ?k4 ?k5 ?zqkA ?zqkF ?kK ?zqk6 ?zqk7 ?zqk8 ?zqk9 ?zqkB ?_ ?zqc2 ?zqc3 ?zqc4 ?zqc5; (case zqkA | zqkF => exact rfl); (case kK => assumption); (case k1 | k2 => k_asm); (case k3 | k4 | k5 => k_asm); (case zqk6 | zqk7 => k_is); (case zqk8 => k_room); (case zqk9 => first | exact BindsTo.of_eq rfl | exact binds_K (by k_in) rfl (by k_is) rfl rfl rfl | fail); (case zqc5 => decide); (case zqkB => exact locs rfl); (case zqc2 | zqc3 | zqc4 => exact rfl); k_whole; intro g'Z L'Z h'Z FG'Z F'Z N'Z B'Z X'Z T'Z; (try dsimp only); (try k_lift B'Z); (try k_fold); refine name_A ?_; intro aA8; have hN8 := True.intro; have hO8 := True.intro) | (kp_kind "rest"; refine' kp_rest ?k1 ?k2 ?k3 ?k4 ?k5 ?zqkA ?zqkF ?kK ?zqk6 ?zqk7 ?zqk8 ?zqkV ?zqkP ?zqkG ?zqkB ?_ ?zqc2 ?zqc3 ?zqc4 ?zqc5; (case zqkA | zqkF => exact rfl); (case kK => assumption); (case k1 | k2 => k_asm); (case k3 | k4 | k5 => k_asm); (case zqk6 | zqk7 => k_is); (case zqk8 => k_room); (case zqkV | zqkP => exact rfl); (case zqkG => exact fun _ => rfl); (case zqkB => exact fun _ => locs rfl); (case zqc5 => decide); (case zqc2 | zqc3 | zqc4 => exact rfl); k_whole; intro D'Z g'Z L'Z h'Z l1Z FG'Z F'Z N'Z B'Z X'Z T'Z; (try k_lt l1Z); (try dsimp only); (try k_lift B'Z); (try k_fold); refine name_A ?_; intro aA8; have hN8 := True.intro; have hO8 := True.intro) | (kp_kind "both"; refine' kp_both ?k1 ?k2 ?k3 ?k4 ?k5 ?zqkA ?zqkF ?kK ?zqk6 ?zqk7 ?zqk8 ?zqkV ?zqkX ?zqkQ ?zqkM ?zqkN ?zqkD ?zqkR ?zqkP ?zqkS ?zqkT ?zqkB ?_ ?zqc2 ?zqc3 ?zqc4 ?zqc5; (case zqkA | zqkF => exact rfl); (case kK => assumption); (case k1 | k2 => k_asm); (case k3 | k4 | k5 => k_asm); (case zqk6 | zqk7 => k_is); (case zqk8 => k_room); (case zqkV | zqkX => kp_lit); (case zqkQ | zqkM | zqkN => exact rfl); (case zqkD => kp_flats); (case zqkR | zqkP => exact rfl); (case zqkS => exact fun _ => rfl); (case zqkT => exact fun _ _ => rfl); (case zqkB => exact fun _ _ => locs rfl); (case zqc5 => decide); (case zqc2 | zqc3 | zqc4 => exact rfl); k_whole; intro C'Z D'Z o'Z g'Z L'Z h'Z tk'Z l1Z l2Z lo'Z hs'Z fs'Z FG'Z F'Z N'Z B'Z X'Z T'Z; (try k_lt l1Z); (try k_lt2 l2Z); (try dsimp only); (try k_lift B'Z); (try k_fold); refine name_A ?_; intro aA8; have hN8 := True.intro; have hO8 := True.intro))
  repeat' (first | (k_unfold; (try dsimp only)) | (k_end; (with_reducible refine hN8 _ _ ?_); intro kN8; clear hN8 hO8; (try clear qN8); first | with_reducible refine execs_one ?_ | (refine execs_more ?_; intro qN8 hN8 hO8)) | (k_end; (with_reducible refine hO8 _ _ ?zn8 ?_); (case zn8 => first | exact ne_ret _ | exact ne_brk | exact ne_cont); clear hN8 hO8; (try clear qN8)) | (k_end; wrow_close) | ((with_reducible show wpAny _ _ (compareOp _ _ _) _ _ _); (first | (k_here; (with_reducible show wpAny _ _ (compareOp CmpOp.NotIn (Value.str _ _) (Value.str _ _)) _ _ _); (first | (refine notin_known (b := false) (by assumption) ?_) | (refine notin_known (b := true) (by assumption) ?_) | (refine notin_known (b := false) (by decide +kernel) ?_) | (refine notin_known (b := true) (by decide +kernel) ?_)); (try simp only [Bool.not_false, Bool.not_true])) | (k_here; (with_reducible show wpAny _ _ (compareOp CmpOp.In (Value.str _ _) (Value.str _ _)) _ _ _); first | (refine in_known (b := false) (by assumption) ?_) | (refine in_known (b := true) (by assumption) ?_) | (refine in_known (b := false) (by decide +kernel) ?_) | (refine in_known (b := true) (by decide +kernel) ?_)))) | (k_here; (with_reducible show wpAny _ _ (truthy (Value.str _ _)) _ _ _); refine truthy_long (by assumption) (by omega) ?_; intro _) | ((with_reducible show wpAny _ _ (call (Value.builtin "issubclass") _ _) _ _ _); (k_here; k_dflt (refine' issub_pair ?k1 ?_; (case k1 => exact News.get (by k_asm) (by k_mem)); k_whole))) | ((with_reducible show wpAny _ _ (execs _ _) _ _ _); (first | ((with_reducible show wpAny _ _ (execs [] _) _ _ _); (k_here; refine wpAny_execs_nil ?_)) | ((with_reducible show wpAny _ _ (execs (_ :: _) _) _ _ _); (k_here; (try dsimp only); (try k_fold); first | with_reducible refine execs_one ?_ | (refine execs_more ?_; intro qN8 hN8 hO8))))) | ((with_reducible show wpAny _ _ (exec (Stmt.If _ _ _ _) _) _ _ _); (k_here; refine wpAny_If ?_)) | walk1 | ((with_reducible show wpAny _ _ _ _ _ _); dsimp only) | (leave1; walk_say "STEP leave1"; try dsimp only) | fail "no step")
  exact hret _ _ _ _ (by assumption) (by assumption) ⟨rfl, _, rfl⟩
end P03
section P04
theorem off04 : True := by
  w_top off
  trivial
structure SioC where
  k1 : Tok
  k2 : Tok
  k3 : Tok
  t1 : Tok
  t2 : Tok
noncomputable abbrev sioD (w : World) (c : SioC) (buf : Str) (pos : Int) (tp : Tok) : Obj :=
  dictOf [⟨PyData.keyHash w.params (Str.ofString "_StringIO__newline"), .str (Str.ofString "_StringIO__newline") c.k1, .str (Str.ofString "\n") c.t1⟩,
    ⟨PyData.keyHash w.params (Str.ofString "_StringIO__buf"), .str (Str.ofString "_StringIO__buf") c.k2, .str buf c.t2⟩,
    ⟨PyData.keyHash w.params (Str.ofString "_StringIO__pos"), .str (Str.ofString "_StringIO__pos") c.k3, .int pos tp⟩] 3
theorem read_says (w : World) (S D : Addr) (c : SioC) (buf : Str) (k : Nat) (tp t : Tok) (R : Led) (hR : ∀ p ∈ R, p.1 ≠ D) (hSD : S ≠ D) (hp2 : k ≤ buf.length) (hb : buf.length ≤ 1000000) :
   Says w (.ref 533) [.ref S, .int 1 t] [] 20 ((S, instObj 587 D) :: (D, sioD w c buf (k : Int) tp) :: R)
    (fun news' r => ∃ tp' t', news' = (S, instObj 587 D) :: (D, sioD w c buf ((k + ((buf.cps.toList.drop k).take 1).length : Nat) : Int) tp') :: R ∧ r = .str ⟨((buf.cps.toList.drop k).take 1).toArray⟩ t') := by
  have hlen : buf.cps.toList.length = buf.length := by simp [Str.length]
  have h1 : ∀ {b : Nat}, buf.length ≤ k → ((buf.cps.toList.drop k).take 1) = [] := fun h => by rw [List.drop_eq_nil_of_le (by omega)]; rfl
  have h2 : k < buf.length → ((buf.cps.toList.drop k).take 1).length = 1 := fun h => by rw [List.length_take, List.length_drop]; omega
  unfold Says
  k_fill
  intro dp un gd cn cs a ccd cl outer A₀ base h₀ L m s p loose mean mg mb Q E B F X N T hk hd hu hret
  refine wpAny_call ?_
  k_dflt (first | (refine' code_def ?k1 ?k2 ?k3 ?k4 ?k5 ?zqkA ?zqkF ?kK ?zqk6 ?zqk7 ?zqk8 ?zqk9 ?zqkB ?_ ?zqc2 ?zqc3 ?zqc4 ?zqc5; (case zqkA | zqkF => exact rfl); (case kK => assumption); (case k1 | k2 => k_asm); (case k3 | k4 | k5 => k_asm); (case zqk6 | zqk7 => k_is); (case zqk8 => k_room); (case zqk9 => first | exact BindsTo.of_eq rfl | exact binds_K (by k_in) rfl (by k_is) rfl rfl rfl | fail); (case zqc5 => decide); (case zqkB => exact locs rfl); (case zqc2 | zqc3 | zqc4 => exact rfl); k_whole; intro g'Z L'Z h'Z FG'Z F'Z N'Z B'Z X'Z T'Z; (try dsimp only); (try k_lift B'Z); (try k_fold); refine name_A ?_; intro aA8; have hN8 := True.intro; have hO8 := True.intro) | (kp_kind "rest"; refine' kp_rest ?k1 ?k2 ?k3 ?k4 ?k5 ?zqkA ?zqkF ?kK ?zqk6 ?zqk7 ?zqk8 ?zqkV ?zqkP ?zqkG ?zqkB ?_ ?zqc2 ?zqc3 ?zqc4 ?zqc5; (case zqkA | zqkF => exact rfl); (case kK => assumption); (case k1 | k2 => k_asm); (case k3 | k4 | k5 => k_asm); (case zqk6 | zqk7 => k_is); (case zqk8 => k_room); (case zqkV | zqkP => exact rfl); (case zqkG => exact fun _ => rfl); (case zqkB => exact fun _ => locs rfl); (case zqc5 => decide); (case zqc2 | zqc3 | zqc4 => exact rfl); k_whole; intro D'Z g'Z L'Z h'Z l1Z FG'Z F'Z N'Z B'Z X'Z T'Z; (try k_lt l1Z); (try dsimp only); (try k_lift B'Z); (try k_fold); refine name_A ?_; intro aA8; have hN8 := True.intro; have hO8 := True.intro) | (kp_kind "both"; refine' kp_both ?k1 ?k2 ?k3 ?k4 ?k5 ?zqkA ?zqkF ?kK ?zqk6 ?zqk7 ?zqk8 ?zqkV ?zqkX ?zqkQ ?zqkM ?zqkN ?zqkD ?zqkR ?zqkP ?zqkS ?zqkT ?zqkB ?_ ?zqc2 ?zqc3 ?zqc4 ?zqc5; (case zqkA | zqkF => exact rfl); (case kK => assumption); (case k1 | k2 => k_asm); (case k3 | k4 | k5 => k_asm); (case zqk6 | zqk7 => k_is); (case zqk8 => k_room); (case zqkV | zqkX => kp_lit); (case zqkQ | zqkM | zqkN => exact rfl); (case zqkD => kp_flats); (case zqkR | zqkP => exact rfl); (case zqkS => exact fun _ => rfl); (case zqkT => exact fun _ _ => rfl); (case zqkB => exact fun _ _ => locs rfl); (case zqc5 => decide); (case zqc2 | zqc3 | zqc4 => exact rfl); k_whole; intro C'Z D'Z o'Z g'Z L'Z h'Z tk'Z l1Z l2Z lo'Z hs'Z fs'Z FG'Z F'Z N'Z B'Z X'Z T'Z; (try k_lt l1Z); (try k_lt2 l2Z); (try dsimp only); (try k_lift B'Z); (try k_fold); refine name_A ?_; intro aA8; have hN8 := True.intro; have hO8 := True.intro))
  repeat' (first | (k_unfold; (try dsimp only)) | (k_end; (with_reducible refine hN8 _ _ ?_); intro kN8; clear hN8 hO8; (try clear qN8); first | with_reducible refine execs_one ?_ | (refine execs_more ?_; intro qN8 hN8 hO8)) | (k_end; (with_reducible refine hO8 _ _ ?zn8 ?_); (case zn8 => first | exact ne_ret _ | exact ne_brk | exact ne_cont); clear hN8 hO8; (try clear qN8)) | (k_end; wrow_close) | ((with_reducible show wpAny _ _ (call _ _ _) _ _ _); (first | (k_here; (with_reducible show wpAny _ _ (call (Value.ref 813) [Value.str _ _]) _ _ _); k_dflt (refine' says_pure (sep_says _ _ _ _) ?k1 ?k2 ?k3 ?k4 ?k5 ?kK ?kd ?ku ?_; tb_rel; intro t9Z h9Z tk9Z F9Z N9Z; (try dsimp only); (try k_fold))) | (k_here; (with_reducible show wpAny _ _ (call (Value.ref 799) [Value.str _ _]) _ _ _); k_dflt (refine' says_pure (fspath_says _ _ _ _) ?k1 ?k2 ?k3 ?k4 ?k5 ?kK ?kd ?ku ?_; tb_rel; intro t9Z h9Z tk9Z F9Z N9Z; (try dsimp only); (try k_fold))) | (k_here; (with_reducible show wpAny _ _ (call (Value.ref 53) [Value.int _ _, Value.str _ _]) _ _ _); k_dflt (refine' says_pure (index_says _ _ _ _ _ _ ?zqkp ?zqkq) ?k1 ?k2 ?k3 ?k4 ?k5 ?kK ?kd ?ku ?_; tb_rel; (case zqkp | zqkq => omega); intro t9Z h9Z tk9Z F9Z N9Z; (try dsimp only); (try k_fold))) | ((with_reducible show wpAny _ _ (call (Value.builtin "issubclass") _ _) _ _ _); (k_here; k_dflt (refine' issub_pair ?k1 ?_; (case k1 => exact News.get (by k_asm) (by k_mem)); k_whole))))) | ((with_reducible show wpAny _ _ (compareOp _ _ _) _ _ _); (first | (k_here; (with_reducible show wpAny _ _ (compareOp CmpOp.NotIn (Value.str _ _) (Value.str _ _)) _ _ _); (first | (refine notin_known (b := false) (by assumption) ?_) | (refine notin_known (b := true) (by assumption) ?_) | (refine notin_known (b := false) (by decide +kernel) ?_) | (refine notin_known (b := true) (by decide +kernel) ?_)); (try simp only [Bool.not_false, Bool.not_true])) | (k_here; (with_reducible show wpAny _ _ (compareOp CmpOp.In (Value.str _ _) (Value.str _ _)) _ _ _); first | (refine in_known (b := false) (by assumption) ?_) | (refine in_known (b := true) (by assumption) ?_) | (refine in_known (b := false) (by decide +kernel) ?_) | (refine in_known (b := true) (by decide +kernel) ?_)))) | (k_here; (with_reducible show wpAny _ _ (truthy (Value.str _ _)) _ _ _); refine truthy_long (by assumption) (by omega) ?_; intro _) | ((with_reducible show wpAny _ _ (execs _ _) _ _ _); (first | ((with_reducible show wpAny _ _ (execs [] _) _ _ _); (k_here; refine wpAny_execs_nil ?_)) | ((with_reducible show wpAny _ _ (execs (_ :: _) _) _ _ _); (k_here; (try dsimp only); (try k_fold); first | with_reducible refine execs_one ?_ | (refine execs_more ?_; intro qN8 hN8 hO8))))) | ((with_reducible show wpAny _ _ (exec (Stmt.If _ _ _ _) _) _ _ _); (k_here; refine wpAny_If ?_)) | walk1 | ((with_reducible show wpAny _ _ _ _ _ _); dsimp only) | (leave1; walk_say "STEP leave1"; try dsimp only) | fail "no step")
  · have h3 := h1 (b := 0) (by omega)
    rw [h3] at hret
    refine hret _ _ _ _ (by assumption) (by assumption) ⟨tp, _, ?_, by rw [empty_eq]⟩
    simp
  · have hk : k < buf.length := by omega
    rw [h2 hk] at hret
    refine hret _ _ _ _ (by assumption) (by assumption) ⟨_, _, rfl, by rw [read_one hk]⟩
  · have hk : k < buf.length := by omega
    have e : ((buf.length : Nat) : Int) = (k : Int) + 1 := by omega
    rw [h2 hk] at hret
    refine hret _ _ _ _ (by assumption) (by assumption) ⟨_, _, by rw [show ((k + 1 : Nat) : Int) = buf.length by omega], by rw [e, read_one hk]⟩
theorem close_says (w : World) (S D : Addr) (c : SioC) (buf : Str) (pos : Int) (tp : Tok) (R : Led) (hR : ∀ p ∈ R, p.1 ≠ D) (hSD : S ≠ D) :
   Says w (.ref 432) [.ref S] [] 10 ((S, instObj 587 D) :: (D, sioD w c buf pos tp) :: R) (Gives R (fun _ => .none)) := by
  unfold Says
  k_fill
  intro dp un gd cn cs a ccd cl outer A₀ base h₀ L m s p loose mean mg mb Q E B F X N T hk hd hu hret
  refine wpAny_call ?_
  k_dflt (first | (refine' code_def ?k1 ?k2 ?k3 ?k4 ?k5 ?zqkA ?zqkF ?kK ?zqk6 ?zqk7 ?zqk8 ?zqk9 ?zqkB ?_ ?zqc2 ?zqc3 ?zqc4 ?zqc5; (case zqkA | zqkF => exact rfl); (case kK => assumption); (case k1 | k2 => k_asm); (case k3 | k4 | k5 => k_asm); (case zqk6 | zqk7 => k_is); (case zqk8 => k_room); (case zqk9 => first | exact BindsTo.of_eq rfl | exact binds_K (by k_in) rfl (by k_is) rfl rfl rfl | fail); (case zqc5 => decide); (case zqkB => exact locs rfl); (case zqc2 | zqc3 | zqc4 => exact rfl); k_whole; intro g'Z L'Z h'Z FG'Z F'Z N'Z B'Z X'Z T'Z; (try dsimp only); (try k_lift B'Z); (try k_fold); refine name_A ?_; intro aA8; have hN8 := True.intro; have hO8 := True.intro) | (kp_kind "rest"; refine' kp_rest ?k1 ?k2 ?k3 ?k4 ?k5 ?zqkA ?zqkF ?kK ?zqk6 ?zqk7 ?zqk8 ?zqkV ?zqkP ?zqkG ?zqkB ?_ ?zqc2 ?zqc3 ?zqc4 ?zqc5; (case zqkA | zqkF => exact rfl); (case kK => assumption); (case k1 | k2 => k_asm); (case k3 | k4 | k5 => k_asm); (case zqk6 | zqk7 => k_is); (case zqk8 => k_room); (case zqkV | zqkP => exact rfl); (case zqkG => exact fun _ => rfl); (case zqkB => exact fun _ => locs rfl); (case zqc5 => decide); (case zqc2 | zqc3 | zqc4 => exact rfl); k_whole; intro D'Z g'Z L'Z h'Z l1Z FG'Z F'Z N'Z B'Z X'Z T'Z; (try k_lt l1Z); (try dsimp only); (try k_lift B'Z); (try k_fold); refine name_A ?_; intro aA8; have hN8 := True.intro; have hO8 := True.intro) | (kp_kind "both"; refine' kp_both ?k1 ?k2 ?k3 ?k4 ?k5 ?zqkA ?zqkF ?kK ?zqk6 ?zqk7 ?zqk8 ?zqkV ?zqkX ?zqkQ ?zqkM ?zqkN ?zqkD ?zqkR ?zqkP ?zqkS ?zqkT ?zqkB ?_ ?zqc2 ?zqc3 ?zqc4 ?zqc5; (case zqkA | zqkF => exact rfl); (case kK => assumption); (case k1 | k2 => k_asm); (case k3 | k4 | k5 => k_asm); (case zqk6 | zqk7 => k_is); (case zqk8 => k_room); (case zqkV | zqkX => kp_lit); (case zqkQ | zqkM | zqkN => exact rfl); (case zqkD => kp_flats); (case zqkR | zqkP => exact rfl); (case zqkS => exact fun _ => rfl); (case zqkT => exact fun _ _ => rfl); (case zqkB => exact fun _ _ => locs rfl); (case zqc5 => decide); (case zqc2 | zqc3 | zqc4 => exact rfl); k_whole; intro C'Z D'Z o'Z g'Z L'Z h'Z tk'Z l1Z l2Z lo'Z hs'Z fs'Z FG'Z F'Z N'Z B'Z X'Z T'Z; (try k_lt l1Z); (try k_lt2 l2Z); (try dsimp only); (try k_lift B'Z); (try k_fold); refine name_A ?_; intro aA8; have hN8 := True.intro; have hO8 := True.intro))
  repeat' (first | (k_unfold; (try dsimp only)) | (k_end; (with_reducible refine hN8 _ _ ?_); intro kN8; clear hN8 hO8; (try clear qN8); first | with_reducible refine execs_one ?_ | (refine execs_more ?_; intro qN8 hN8 hO8)) | (k_end; (with_reducible refine hO8 _ _ ?zn8 ?_); (case zn8 => first | exact ne_ret _ | exact ne_brk | exact ne_cont); clear hN8 hO8; (try clear qN8)) | (k_end; wrow_close) | ((with_reducible show wpAny _ _ (call _ _ _) _ _ _); (first | (k_here; (with_reducible show wpAny _ _ (call (Value.ref 813) [Value.str _ _]) _ _ _); k_dflt (refine' says_pure (sep_says _ _ _ _) ?k1 ?k2 ?k3 ?k4 ?k5 ?kK ?kd ?ku ?_; tb_rel; intro t9Z h9Z tk9Z F9Z N9Z; (try dsimp only); (try k_fold))) | (k_here; (with_reducible show wpAny _ _ (call (Value.ref 799) [Value.str _ _]) _ _ _); k_dflt (refine' says_pure (fspath_says _ _ _ _) ?k1 ?k2 ?k3 ?k4 ?k5 ?kK ?kd ?ku ?_; tb_rel; intro t9Z h9Z tk9Z F9Z N9Z; (try dsimp only); (try k_fold))) | (k_here; (with_reducible show wpAny _ _ (call (Value.ref 53) [Value.int _ _, Value.str _ _]) _ _ _); k_dflt (refine' says_pure (index_says _ _ _ _ _ _ ?zqkp ?zqkq) ?k1 ?k2 ?k3 ?k4 ?k5 ?kK ?kd ?ku ?_; tb_rel; (case zqkp | zqkq => omega); intro t9Z h9Z tk9Z F9Z N9Z; (try dsimp only); (try k_fold))) | ((with_reducible show wpAny _ _ (call (Value.builtin "issubclass") _ _) _ _ _); (k_here; k_dflt (refine' issub_pair ?k1 ?_; (case k1 => exact News.get (by k_asm) (by k_mem)); k_whole))))) | ((with_reducible show wpAny _ _ (compareOp _ _ _) _ _ _); (first | (k_here; (with_reducible show wpAny _ _ (compareOp CmpOp.NotIn (Value.str _ _) (Value.str _ _)) _ _ _); (first | (refine notin_known (b := false) (by assumption) ?_) | (refine notin_known (b := true) (by assumption) ?_) | (refine notin_known (b := false) (by decide +kernel) ?_) | (refine notin_known (b := true) (by decide +kernel) ?_)); (try simp only [Bool.not_false, Bool.not_true])) | (k_here; (with_reducible show wpAny _ _ (compareOp CmpOp.In (Value.str _ _) (Value.str _ _)) _ _ _); first | (refine in_known (b := false) (by assumption) ?_) | (refine in_known (b := true) (by assumption) ?_) | (refine in_known (b := false) (by decide +kernel) ?_) | (refine in_known (b := true) (by decide +kernel) ?_)))) | (k_here; (with_reducible show wpAny _ _ (truthy (Value.str _ _)) _ _ _); refine truthy_long (by assumption) (by omega) ?_; intro _) | ((with_reducible show wpAny _ _ (execs _ _) _ _ _); (first | ((with_reducible show wpAny _ _ (execs [] _) _ _ _); (k_here; refine wpAny_execs_nil ?_)) | ((with_reducible show wpAny _ _ (execs (_ :: _) _) _ _ _); (k_here; (try dsimp only); (try k_fold); first | with_reducible refine execs_one ?_ | (refine execs_more ?_; intro qN8 hN8 hO8))))) | ((with_reducible show wpAny _ _ (exec (Stmt.If _ _ _ _) _) _ _ _); (k_here; refine wpAny_If ?_)) | walk1 | ((with_reducible show wpAny _ _ _ _ _ _); dsimp only) | (leave1; walk_say "STEP leave1"; try dsimp only) | fail "no step")
  exact hret _ _ _ _ (by assumption) (news_sub (by assumption) (fun _ hp => .tail _ (.tail _ hp))) ⟨rfl, 0, rfl⟩
theorem sioInit_says (w : World) (S D : Addr) (buf : Str) (tb : Tok) (R : Led) (hR : ∀ p ∈ R, p.1 ≠ D) (hSD : S ≠ D) (hb : buf.length ≤ 1000000) :
   Says w (.ref 357) [.ref S, .str buf tb] [] 20 ((S, instObj 587 D) :: (D, dictOf [] 0) :: R) (fun news' r => ∃ c tp, news' = (S, instObj 587 D) :: (D, sioD w c buf 0 tp) :: R ∧ r = .none) := by
  unfold Says
  k_fill
  intro dp un gd cn cs a ccd cl outer A₀ base h₀ L m s p loose mean mg mb Q E B F X N T hk hd hu hret
  refine wpAny_call ?_
  k_dflt (first | (refine' code_def ?k1 ?k2 ?k3 ?k4 ?k5 ?zqkA ?zqkF ?kK ?zqk6 ?zqk7 ?zqk8 ?zqk9 ?zqkB ?_ ?zqc2 ?zqc3 ?zqc4 ?zqc5; (case zqkA | zqkF => exact rfl); (case kK => assumption); (case k1 | k2 => k_asm); (case k3 | k4 | k5 => k_asm); (case zqk6 | zqk7 => k_is); (case zqk8 => k_room); (case zqk9 => first | exact BindsTo.of_eq rfl | exact binds_K (by k_in) rfl (by k_is) rfl rfl rfl | fail); (case zqc5 => decide); (case zqkB => exact locs rfl); (case zqc2 | zqc3 | zqc4 => exact rfl); k_whole; intro g'Z L'Z h'Z FG'Z F'Z N'Z B'Z X'Z T'Z; (try dsimp only); (try k_lift B'Z); (try k_fold); refine name_A ?_; intro aA8; have hN8 := True.intro; have hO8 := True.intro) | (kp_kind "rest"; refine' kp_rest ?k1 ?k2 ?k3 ?k4 ?k5 ?zqkA ?zqkF ?kK ?zqk6 ?zqk7 ?zqk8 ?zqkV ?zqkP ?zqkG ?zqkB ?_ ?zqc2 ?zqc3 ?zqc4 ?zqc5; (case zqkA | zqkF => exact rfl); (case kK => assumption); (case k1 | k2 => k_asm); (case k3 | k4 | k5 => k_asm); (case zqk6 | zqk7 => k_is); (case zqk8 => k_room); (case zqkV | zqkP => exact rfl); (case zqkG => exact fun _ => rfl); (case zqkB => exact fun _ => locs rfl); (case zqc5 => decide); (case zqc2 | zqc3 | zqc4 => exact rfl); k_whole; intro D'Z g'Z L'Z h'Z l1Z FG'Z F'Z N'Z B'Z X'Z T'Z; (try k_lt l1Z); (try dsimp only); (try k_lift B'Z); (try k_fold); refine name_A ?_; intro aA8; have hN8 := True.intro; have hO8 := True.intro) | (kp_kind "both"; refine' kp_both ?k1 ?k2 ?k3 ?k4 ?k5 ?zqkA ?zqkF ?kK ?zqk6 ?zqk7 ?zqk8 ?zqkV ?zqkX ?zqkQ ?zqkM ?zqkN ?zqkD ?zqkR ?zqkP ?zqkS ?zqkT ?zqkB ?_ ?zqc2 ?zqc3 ?zqc4 ?zqc5; (case zqkA | zqkF => exact rfl); (case kK => assumption); (case k1 | k2 => k_asm); (case k3 | k4 | k5 => k_asm); (case zqk6 | zqk7 => k_is); (case zqk8 => k_room); (case zqkV | zqkX => kp_lit); (case zqkQ | zqkM | zqkN => exact rfl); (case zqkD => kp_flats); (case zqkR | zqkP => exact rfl); (case zqkS => exact fun _ => rfl); (case zqkT => exact fun _ _ => rfl); (case zqkB => exact fun _ _ => locs rfl); (case zqc5 => decide); (case zqc2 | zqc3 | zqc4 => exact rfl); k_whole; intro C'Z D'Z o'Z g'Z L'Z h'Z tk'Z l1Z l2Z lo'Z hs'Z fs'Z FG'Z F'Z N'Z B'Z X'Z T'Z; (try k_lt l1Z); (try k_lt2 l2Z); (try dsimp only); (try k_lift B'Z); (try k_fold); refine name_A ?_; intro aA8; have hN8 := True.intro; have hO8 := True.intro))
  repeat' (first | (k_unfold; (try dsimp only)) | (k_end; (with_reducible refine hN8 _ _ ?_); intro kN8; clear hN8 hO8; (try clear qN8); first | with_reducible refine execs_one ?_ | (refine execs_more ?_; intro qN8 hN8 hO8)) | (k_end; (with_reducible refine hO8 _ _ ?zn8 ?_); (case zn8 => first | exact ne_ret _ | exact ne_brk | exact ne_cont); clear hN8 hO8; (try clear qN8)) | (k_end; wrow_close) | ((with_reducible show wpAny _ _ (call _ _ _) _ _ _); (first | (k_here; (with_reducible show wpAny _ _ (call (Value.ref 813) [Value.str _ _]) _ _ _); k_dflt (refine' says_pure (sep_says _ _ _ _) ?k1 ?k2 ?k3 ?k4 ?k5 ?kK ?kd ?ku ?_; tb_rel; intro t9Z h9Z tk9Z F9Z N9Z; (try dsimp only); (try k_fold))) | (k_here; (with_reducible show wpAny _ _ (call (Value.ref 799) [Value.str _ _]) _ _ _); k_dflt (refine' says_pure (fspath_says _ _ _ _) ?k1 ?k2 ?k3 ?k4 ?k5 ?kK ?kd ?ku ?_; tb_rel; intro t9Z h9Z tk9Z F9Z N9Z; (try dsimp only); (try k_fold))) | (k_here; (with_reducible show wpAny _ _ (call (Value.ref 53) [Value.int _ _, Value.str _ _]) _ _ _); k_dflt (refine' says_pure (index_says _ _ _ _ _ _ ?zqkp ?zqkq) ?k1 ?k2 ?k3 ?k4 ?k5 ?kK ?kd ?ku ?_; tb_rel; (case zqkp | zqkq => omega); intro t9Z h9Z tk9Z F9Z N9Z; (try dsimp only); (try k_fold))) | ((with_reducible show wpAny _ _ (call (Value.builtin "issubclass") _ _) _ _ _); (k_here; k_dflt (refine' issub_pair ?k1 ?_; (case k1 => exact News.get (by k_asm) (by k_mem)); k_whole))))) | ((with_reducible show wpAny _ _ (compareOp _ _ _) _ _ _); (first | (k_here; (with_reducible show wpAny _ _ (compareOp CmpOp.NotIn (Value.str _ _) (Value.str _ _)) _ _ _); (first | (refine notin_known (b := false) (by assumption) ?_) | (refine notin_known (b := true) (by assumption) ?_) | (refine notin_known (b := false) (by decide +kernel) ?_) | (refine notin_known (b := true) (by decide +kernel) ?_)); (try simp only [Bool.not_false, Bool.not_true])) | (k_here; (with_reducible show wpAny _ _ (compareOp CmpOp.In (Value.str _ _) (Value.str _ _)) _ _ _); first | (refine in_known (b := false) (by assumption) ?_) | (refine in_known (b := true) (by assumption) ?_) | (refine in_known (b := false) (by decide +kernel) ?_) | (refine in_known (b := true) (by decide +kernel) ?_)))) | (k_here; (with_reducible show wpAny _ _ (truthy (Value.str _ _)) _ _ _); refine truthy_long (by assumption) (by omega) ?_; intro _) | ((with_reducible show wpAny _ _ (execs _ _) _ _ _); (first | ((with_reducible show wpAny _ _ (execs [] _) _ _ _); (k_here; refine wpAny_execs_nil ?_)) | ((with_reducible show wpAny _ _ (execs (_ :: _) _) _ _ _); (k_here; (try dsimp only); (try k_fold); first | with_reducible refine execs_one ?_ | (refine execs_more ?_; intro qN8 hN8 hO8))))) | ((with_reducible show wpAny _ _ (exec (Stmt.If _ _ _ _) _) _ _ _); (k_here; refine wpAny_If ?_)) | walk1 | ((with_reducible show wpAny _ _ _ _ _ _); dsimp only) | (leave1; walk_say "STEP leave1"; try dsimp only) | fail "no step")
  exact hret _ _ _ _ (by assumption) (by assumption) ⟨⟨_, _, _, _, _⟩, _, rfl, rfl⟩
theorem read_use {w : World} {S D : Addr} {c : SioC} {buf : Str} {k k' : Nat} {tp t : Tok} {R : Led} {x : Str} (hx : (⟨((buf.cps.toList.drop k).take 1).toArray⟩ : Str) = x) (hk' : k + ((buf.cps.toList.drop k).take 1).length = k')
    (hR : ∀ p ∈ R, p.1 ≠ D) (hSD : S ≠ D) (hp2 : k ≤ buf.length) (hb : buf.length ≤ 1000000)
    {dp un : Nat} {gd : Option (List Code)} {cn : Str} {cs : Scope} {a : Addr} {ccd : Value} {cl : List (Str × Addr)} {outer : List Env} {A₀ : Around} {base h₀ : Heap} {L : Addr} {m : Str → Option Value} {s : Shared}
    {p : Program} {loose : List Str} {mean : ExcName → Option Value} {mg mb : Str → Option Value} {Q E : Value → Shared → Prop}
    (B : Below A₀ base outer h₀) (F : Fr h₀ L s.heap m) (X : (hd.heap_39 w.params).In h₀) (N : News h₀ L s.heap ((S, instObj 587 D) :: (D, sioD w c buf (k : Int) tp) :: R)) (T : Top p loose mean mg mb h₀) (hk : cs.kind = .function) (hd : dp + 20 < recursionLimit) (hu : un + 8 * 20 < cLine)
    (ret : ∀ t' tp' h' tk', Fr h₀ L h' m → News h₀ L h' ((S, instObj 587 D) :: (D, sioD w c buf (k' : Int) tp') :: R) → Q (.str x t') { s with heap := h', toks := tk' }) :
    wpAny (model PySem.Challenge.rw_kl0188_01.row.prog w) (ktrTop dp un gd cn cs L a ccd cl outer) (call (.ref 533) [.ref S, .int 1 t] []) Q E s := by
  refine says_use (read_says w S D c buf k tp t R hR hSD hp2 hb) B F X N T hk hd hu ?_
  rintro _ _ h' tk' F' N' ⟨tp', t', rfl, rfl⟩
  rw [hk'] at N'
  rw [hx]
  exact ret t' tp' h' tk' F' N'
end P04
section P05
theorem off05 : True := by
  w_top off
  trivial
section
variable {prog : Program} {w : World} {A : Around} {E : Value → Shared → Prop} {K : Frag} {C L : Addr} {h₀ : Heap} {m : Str → Option Value} {s : Shared} {R : Result → Shared → Prop} {news : List (Addr × Obj)}
theorem make_own {oc mc : Value} {od : Option Addr} {cd : ClassData} {sl : Array (Option Value)} {p fN fI : Addr} {rest rest' : List Value} (F : Fr h₀ L s.heap m) (X₀ : K.In h₀)
    (hC : K.lookup C = some ⟨oc, od, .cls cd, sl⟩) (h4 : (sl.toList[4]?).join = some .none) (hmro : cd.mro.isEmpty = false) (hin : cd.mro.contains (.ref C) = true)
    (hcall : specialIn K (.ref C) "__call__" = some (some (.builtin "type.__call__"))) (htyp : instIn K (.ref C) (.type "type") = some true)
    (hm : typeIn K (.ref C) = some mc) (hr : readsIn K C mc = true) (e : findCls K (.ref C) mc "__new__" = some (.get (.builtin "staticmethod.__get__") (.ref p) .none (.ref C))) (hp : recIn K p "staticmethod" = some (.ref fN :: rest')) (hv : handedIn (.ref fN) = true)
    (hi : findIn K (.ref C) "__init__" = some (some (.ref fI))) (hf : typeIn K (.ref fI) = some (.type "function"))
    (hnew : wpAny (model prog w) (A.under (.builtin "type.__call__" ⟨.ref C :: rest, []⟩)) (call (.ref fN) (.ref C :: rest) [])
      (fun obj s' => ∃ x ox odd, obj = .ref x ∧ InstAt s'.heap x ox C odd ∧ K.In s'.heap ∧ wpAny (model prog w) (A.under (.builtin "type.__call__" ⟨.ref C :: rest, []⟩)) (call (.ref fI) (.ref x :: rest)) (fun v s'' => v = .none ∧ R (.ok (.ret (.ref x))) s'') (fun e s' => R (.error e) s') s')
      (fun e s' => R (.error e) s') { s with toks := s.toks + 1 }) :
    codeAny (model prog w) A (.call (.ref C) ⟨rest, []⟩) R s := by
  have X := X₀.keeps F.keep
  have hc : clsIn K C = some cd := by unfold clsIn; rw [hC]
  have hCh := X _ _ hC
  have hm' : Looks (model prog w) s.heap (mroOf (.ref C)) cd.mro := (looks_clsIn X hc).andThen .now
  have made : Looks (model prog w) s.heap (Bind.madeBy (.ref C)) none := by
    intro A Q E s k q
    unfold Bind.madeBy
    refine wpAny_bind (hm' A _ E s k ?_)
    cases hl : cd.mro with
    | nil => rw [hl] at hmro; cases hmro
    | cons c l =>
      rw [List.forIn_cons]
      refine wpAny_bind (wpAny_bind (wpAny_bind (wpAny_bind (wpAny_loadPart (k _ _ hCh) (wpAny_pure ?_)))))
      dsimp only
      rw [← Array.getElem?_toList, h4]
      exact wpAny_pure (wpAny_pure (wpAny_pure q))
  have call_ := looks_specialIn (M := model prog w) X hcall
  have typ := looks_instIn (M := model prog w) X htyp
  have GA := fun A Q E (h : Q (.ref fN) { s with toks := s.toks + 1 }) => cls_sm (prog := prog) (w := w) (A := A) (Q := Q) (E := E) (expr := false) F X₀ hm hr e hp hv h
  obtain ⟨hh, g, d, t, os⟩ := s
  refine codeAny_of_tree ?_
  show wpAny _ _ (callAny (.ref C) _) _ _ _
  refine nd_load hCh ?_
  show wpAny _ _ (callAny.viaDunder (.ref C) _) _ _ _
  unfold callAny.viaDunder
  refine wpAny_bind (call_.at ?_)
  dsimp only
  rw [tc_bind]
  refine wpAny_bind (wpAny_pure (wpAny_bind (wpAny_pure ?_)))
  refine wpAny_pure (a := Fin.again (.call (.builtin "type.__call__") ⟨.ref C :: rest, []⟩)) (And.intro rfl ?_)
  refine codeAny_call_builtin_at (Code.quiet_builtin _ (by decide +kernel)) entry_typeCall (check_slot tc_kind tc_split typ (tc_args _ _ _) ?_)
  unfold Builtin.«type.__call__»
  repeat (first | simp only [hmro, Bool.false_eq_true, if_false] | ((with_reducible show wpAny _ _ (getAttr _ _ _) _ _ _); refine GA _ _ _ ?_) | ((fail_if_success (with_reducible show wpAny _ _ (call _ _ _) _ _ _)); lk))
  refine wpAny_mono hnew (fun obj s' z => ?_) fun _ _ z => z
  obtain ⟨x, ox, odd, rfl, I, X', z⟩ := z
  have hsub : subIn K (.ref C) (.ref C) = some true := by
    show mroIn K C (.ref C) = some true
    unfold mroIn; rw [hc, Option.bind_some, if_neg (by rw [hmro]; decide), hin]
  have its : Looks (model prog w) s'.heap (isInstance (.ref x) (.ref C)) true := I.type.andThen (looks_subIn X' hsub)
  refine wpAny_bind (its.here ?_)
  simp only [Bool.not_true, Bool.false_eq_true, if_false]
  refine wpAny_bind (wpAny_holding (special_fn X' I hi hf (wpAny_mono z (fun v s'' y => ?_) fun _ _ y => y)))
  obtain ⟨rfl, y⟩ := y
  exact wpAny_pure y
theorem new_own {oc : Value} {od : Option Addr} {cd : ClassData} {sl : Array (Option Value)} {Q : Value → Shared → Prop} (F : Fr h₀ L s.heap m) (N : News h₀ L s.heap news) (X₀ : K.In h₀)
    (hC : K.lookup C = some ⟨oc, od, .cls cd, sl⟩) (e1 : cd.abstract = false) (e2 : cd.hasDel = false)
    (chk : peek K ⟨prog, w.params⟩ (checkBuiltinCall "object.__new__" ⟨[.ref C], []⟩) = some ()) (mh : peek K ⟨prog, w.params⟩ (Bind.madeHere "object.__new__" (.ref C)) = some ())
    (h : ∀ x dx h', Fr h₀ L h' m → News h₀ L h' ((x, instObj C dx) :: (dx, emptyDict) :: news) → (∀ p ∈ news, p.1 < dx) → dx < x → Q (.ref x) { s with heap := h' }) :
    wpAny (model prog w) A (call (.builtin "object.__new__") [.ref C] []) Q E s := by
  have X := X₀.keeps F.keep
  have hC' := X _ _ hC
  have chk' := Looks.of_peek (M := model prog w) X chk
  have mh' := Looks.of_peek (M := model prog w) X mh
  have FF := PySem.F.objNew
  refine wpAny_call ?_
  refine codeAny_call_builtin_code (Code.quiet_builtin _ FF.quiet) ?_
  obtain ⟨hh, g, d, t, os⟩ := s
  refine chk'.at ?_
  refine codeAny_builtin FF.entry ?_
  unfold Builtin.«object.__new__»
  have fin : ∀ A', wpAny (model prog w) A' (do
      let d ← if typeHasDict (.ref C) then some <$> alloc { cls := .type "dict", data := .dict #[] } else pure none
      ret (← newObj (.ref C) .plain d)) (fun fin s' => match fin with | .done f => (match Except.ok f with | .ok (.ret v) => Q v s' | .ok _ => False | .error e => E e s') | .again c' => c'.quiet = true ∧ codeAny (model prog w) A c' (fun r s' => match r with | .ok (.ret v) => Q v s' | .ok _ => False | .error e => E e s') s') (fun e s' => E e s') ⟨hh, g, d, t, os⟩ := by
    intro A'
    show wpAny _ _ ((alloc emptyDict >>= fun x => pure (some x)) >>= _) _ _ _
    refine wpAny_bind (wpAny_bind (wpAny_alloc (wpAny_pure (wpAny_bind ?_))))
    show wpAny _ _ (newObjAsIs _ _ _) _ _ _
    unfold newObjAsIs classHasDel
    refine wpAny_bind (wpAny_alloc (wpAny_bind (wpAny_bind (wpAny_load (Heap.get?_push_of_some _ (Heap.get?_push_of_some _ hC')) (wpAny_pure ?_)))))
    rw [e2]
    refine wpAny_pure (wpAny_pure ?_)
    show Q _ _
    rw [Heap.size_push]
    have N2 := (N.push F emptyDict).push (F.push _) (instObj C hh.objs.size)
    rw [Heap.size_push] at N2
    exact h _ hh.objs.size _ ((F.push _).push _) N2 (fun p hp => Heap.lt_size (N p hp).1) (Nat.lt_succ_self _)
  repeat (first | simp only [e1, Bool.false_eq_true, if_false] | exact fin _ | lk)
end
theorem sio_chk (w : World) : peek (hd.heap_39 w.params) ⟨PySem.Challenge.rw_kl0188_01.row.prog, w.params⟩ (checkBuiltinCall "object.__new__" ⟨[.ref 587], []⟩) = some () := by kernel_rfl
theorem sio_mh (w : World) : peek (hd.heap_39 w.params) ⟨PySem.Challenge.rw_kl0188_01.row.prog, w.params⟩ (Bind.madeHere "object.__new__" (.ref 587)) = some () := by kernel_rfl
theorem sioNew_says (w : World) (buf : Str) (tb : Tok) (R : Led) : Says w (.ref 80) [.ref 587, .str buf tb] [] 20 R (fun news' r => ∃ x dx, news' = (x, instObj 587 dx) :: (dx, dictOf [] 0) :: R ∧ r = .ref x ∧ AllLt dx R ∧ dx < x) := by
  unfold Says
  k_fill
  intro dp un gd cn cs a ccd cl outer A₀ base h₀ L m s p loose mean mg mb Q E B F X N T hk hd hu hret
  refine wpAny_call ?_
  k_dflt (first | (refine' code_def ?k1 ?k2 ?k3 ?k4 ?k5 ?zqkA ?zqkF ?kK ?zqk6 ?zqk7 ?zqk8 ?zqk9 ?zqkB ?_ ?zqc2 ?zqc3 ?zqc4 ?zqc5; (case zqkA | zqkF => exact rfl); (case kK => assumption); (case k1 | k2 => k_asm); (case k3 | k4 | k5 => k_asm); (case zqk6 | zqk7 => k_is); (case zqk8 => k_room); (case zqk9 => first | exact BindsTo.of_eq rfl | exact binds_K (by k_in) rfl (by k_is) rfl rfl rfl | fail); (case zqc5 => decide); (case zqkB => exact locs rfl); (case zqc2 | zqc3 | zqc4 => exact rfl); k_whole; intro g'Z L'Z h'Z FG'Z F'Z N'Z B'Z X'Z T'Z; (try dsimp only); (try k_lift B'Z); (try k_fold); refine name_A ?_; intro aA8; have hN8 := True.intro; have hO8 := True.intro) | (kp_kind "rest"; refine' kp_rest ?k1 ?k2 ?k3 ?k4 ?k5 ?zqkA ?zqkF ?kK ?zqk6 ?zqk7 ?zqk8 ?zqkV ?zqkP ?zqkG ?zqkB ?_ ?zqc2 ?zqc3 ?zqc4 ?zqc5; (case zqkA | zqkF => exact rfl); (case kK => assumption); (case k1 | k2 => k_asm); (case k3 | k4 | k5 => k_asm); (case zqk6 | zqk7 => k_is); (case zqk8 => k_room); (case zqkV | zqkP => exact rfl); (case zqkG => exact fun _ => rfl); (case zqkB => exact fun _ => locs rfl); (case zqc5 => decide); (case zqc2 | zqc3 | zqc4 => exact rfl); k_whole; intro D'Z g'Z L'Z h'Z l1Z FG'Z F'Z N'Z B'Z X'Z T'Z; (try k_lt l1Z); (try dsimp only); (try k_lift B'Z); (try k_fold); refine name_A ?_; intro aA8; have hN8 := True.intro; have hO8 := True.intro) | (kp_kind "both"; refine' kp_both ?k1 ?k2 ?k3 ?k4 ?k5 ?zqkA ?zqkF ?kK ?zqk6 ?zqk7 ?zqk8 ?zqkV ?zqkX ?zqkQ ?zqkM ?zqkN ?zqkD ?zqkR ?zqkP ?zqkS ?zqkT ?zqkB ?_ ?zqc2 ?zqc3 ?zqc4 ?zqc5; (case zqkA | zqkF => exact rfl); (case kK => assumption); (case k1 | k2 => k_asm); (case k3 | k4 | k5 => k_asm); (case zqk6 | zqk7 => k_is); (case zqk8 => k_room); (case zqkV | zqkX => kp_lit); (case zqkQ | zqkM | zqkN => exact rfl); (case zqkD => kp_flats); (case zqkR | zqkP => exact rfl); (case zqkS => exact fun _ => rfl); (case zqkT => exact fun _ _ => rfl); (case zqkB => exact fun _ _ => locs rfl); (case zqc5 => decide); (case zqc2 | zqc3 | zqc4 => exact rfl); k_whole; intro C'Z D'Z o'Z g'Z L'Z h'Z tk'Z l1Z l2Z lo'Z hs'Z fs'Z FG'Z F'Z N'Z B'Z X'Z T'Z; (try k_lt l1Z); (try k_lt2 l2Z); (try dsimp only); (try k_lift B'Z); (try k_fold); refine name_A ?_; intro aA8; have hN8 := True.intro; have hO8 := True.intro))
  repeat' (first | (k_unfold; (try dsimp only)) | (k_end; (with_reducible refine hN8 _ _ ?_); intro kN8; clear hN8 hO8; (try clear qN8); first | with_reducible refine execs_one ?_ | (refine execs_more ?_; intro qN8 hN8 hO8)) | (k_end; (with_reducible refine hO8 _ _ ?zn8 ?_); (case zn8 => first | exact ne_ret _ | exact ne_brk | exact ne_cont); clear hN8 hO8; (try clear qN8)) | (k_end; wrow_close) | ((with_reducible show wpAny _ _ (call _ _ _) _ _ _); (first | (k_here; (with_reducible show wpAny _ _ (call (Value.builtin "object.__new__") [Value.ref 587]) _ _ _); k_dflt (refine' new_own ?k1 ?k2 ?k3 ?k4 ?k5 ?zqk6 ?zqk7 ?zqk8 ?_; (case k1 | k2 | k3 => k_asm); (case k4 => k_is); (case k5 | zqk6 => exact rfl); (case zqk7 => exact sio_chk _); (case zqk8 => exact sio_mh _); k_whole; intro x'Z d'Z h'Z F'Z N'Z l1Z l2Z; (try k_lt l1Z); (try k_lt2 l2Z); (try k_sweep))) | (k_here; (with_reducible show wpAny _ _ (call (Value.ref 533) [Value.ref _, Value.int 1 _]) _ _ _); k_dflt (refine' read_use ?zqpx ?zqpk ?zqpR ?zqpS ?zqp2 ?zqpb ?k1 ?k2 ?k3 ?k4 ?k5 ?kK ?kd ?ku ?_; tb_rel; (case zqpx | zqpk => assumption); (case zqpR => k_all); (case zqpS | zqp2 | zqpb => assumption); intro t9Z tp9Z h9Z tk9Z F9Z N9Z; (try dsimp only); (try k_fold))) | (k_here; (with_reducible show wpAny _ _ (call (Value.ref 813) [Value.str _ _]) _ _ _); k_dflt (refine' says_pure (sep_says _ _ _ _) ?k1 ?k2 ?k3 ?k4 ?k5 ?kK ?kd ?ku ?_; tb_rel; intro t9Z h9Z tk9Z F9Z N9Z; (try dsimp only); (try k_fold))) | (k_here; (with_reducible show wpAny _ _ (call (Value.ref 799) [Value.str _ _]) _ _ _); k_dflt (refine' says_pure (fspath_says _ _ _ _) ?k1 ?k2 ?k3 ?k4 ?k5 ?kK ?kd ?ku ?_; tb_rel; intro t9Z h9Z tk9Z F9Z N9Z; (try dsimp only); (try k_fold))) | (k_here; (with_reducible show wpAny _ _ (call (Value.ref 53) [Value.int _ _, Value.str _ _]) _ _ _); k_dflt (refine' says_pure (index_says _ _ _ _ _ _ ?zqkp ?zqkq) ?k1 ?k2 ?k3 ?k4 ?k5 ?kK ?kd ?ku ?_; tb_rel; (case zqkp | zqkq => omega); intro t9Z h9Z tk9Z F9Z N9Z; (try dsimp only); (try k_fold))) | ((with_reducible show wpAny _ _ (call (Value.builtin "issubclass") _ _) _ _ _); (k_here; k_dflt (refine' issub_pair ?k1 ?_; (case k1 => exact News.get (by k_asm) (by k_mem)); k_whole))))) | ((with_reducible show wpAny _ _ (compareOp _ _ _) _ _ _); (first | (k_here; (with_reducible show wpAny _ _ (compareOp CmpOp.NotIn (Value.str _ _) (Value.str _ _)) _ _ _); (first | (refine notin_known (b := false) (by assumption) ?_) | (refine notin_known (b := true) (by assumption) ?_) | (refine notin_known (b := false) (by decide +kernel) ?_) | (refine notin_known (b := true) (by decide +kernel) ?_)); (try simp only [Bool.not_false, Bool.not_true])) | (k_here; (with_reducible show wpAny _ _ (compareOp CmpOp.In (Value.str _ _) (Value.str _ _)) _ _ _); first | (refine in_known (b := false) (by assumption) ?_) | (refine in_known (b := true) (by assumption) ?_) | (refine in_known (b := false) (by decide +kernel) ?_) | (refine in_known (b := true) (by decide +kernel) ?_)))) | (k_here; (with_reducible show wpAny _ _ (truthy (Value.str _ _)) _ _ _); refine truthy_long (by assumption) (by omega) ?_; intro _) | ((with_reducible show wpAny _ _ (execs _ _) _ _ _); (first | ((with_reducible show wpAny _ _ (execs [] _) _ _ _); (k_here; refine wpAny_execs_nil ?_)) | ((with_reducible show wpAny _ _ (execs (_ :: _) _) _ _ _); (k_here; (try dsimp only); (try k_fold); first | with_reducible refine execs_one ?_ | (refine execs_more ?_; intro qN8 hN8 hO8))))) | ((with_reducible show wpAny _ _ (exec (Stmt.If _ _ _ _) _) _ _ _); (k_here; refine wpAny_If ?_)) | walk1 | ((with_reducible show wpAny _ _ _ _ _ _); dsimp only) | (leave1; walk_say "STEP leave1"; try dsimp only) | fail "no step")
  exact hret _ _ _ _ (by assumption) (news_sub (l' := (_, instObj 587 _) :: (_, dictOf [] 0) :: R) (by assumption) (fun q hq => by
    rcases List.mem_cons.mp hq with rfl | hq
    · exact .head _
    · rcases List.mem_cons.mp hq with rfl | hq
      · exact .tail _ (.head _)
      · exact .tail _ (.tail _ (.tail _ (.tail _ hq))))) ⟨_, _, rfl, rfl, by rename _ ∧ _ ∧ AllLt _ R => z; exact z.2.2, by omega⟩
theorem sio_says (w : World) (buf : Str) (tb : Tok) (R : Led) (hb : buf.length ≤ 1000000) : Says w (.ref 587) [.str buf tb] [] 60 R (fun news' r => ∃ x dx c tp, news' = (x, instObj 587 dx) :: (dx, sioD w c buf 0 tp) :: R ∧ r = .ref x ∧ AllLt dx R ∧ dx < x) := by
  unfold Says
  k_fill
  intro dp un gd cn cs a ccd cl outer A₀ base h₀ L m s p loose mean mg mb Q E B F X N T hk hd hu hret
  refine wpAny_call ?_
  refine' make_own F X ?k1 ?k2 ?k3 ?k4 ?k5 ?k6 ?k7 ?k8 ?k9 ?k10 ?k11 ?k12 ?k13 ?_
  (case k1 => k_is)
  (case k2 => exact rfl)
  (case k3 => exact rfl)
  (case k4 => decide +kernel)
  (case k5 => k_is)
  (case k6 => k_is)
  (case k7 => k_is)
  (case k8 => k_is)
  (case k9 => k_is)
  (case k10 => k_is)
  (case k11 => exact rfl)
  (case k12 => k_is)
  (case k13 => k_is)
  refine' says_use (sioNew_says w buf tb R) ?k1 ?k2 ?k3 ?k4 ?k5 ?kK ?kd ?ku ?_
  (case k1 => k_asm); (case k2 => k_asm); (case k3 => k_asm); (case k4 => k_asm); (case k5 => k_asm); (case kK => assumption); (case kd => exact (show dp + 1 + 20 < recursionLimit by omega)); (case ku => exact (show un + 1 + 8 * 20 < cLine by omega))
  rintro _ _ h' tk' F' N' ⟨x, dx, rfl, rfl, l1, l2⟩
  refine ⟨x, _, _, rfl, InstAt.of_news N' (.head _) (.tail _ (.head _)), X.keeps F'.keep, ?_⟩
  refine' says_use (sioInit_says w x dx buf tb R (allLt_ne l1) (Nat.ne_of_gt l2) hb) ?k1 ?k2 ?k3 ?k4 ?k5 ?kK ?kd ?ku ?_
  (case k1 => k_asm); (case k2 => k_asm); (case k3 => k_asm); (case k4 => k_asm); (case k5 => k_asm); (case kK => assumption); (case kd => exact (show dp + 1 + 20 < recursionLimit by omega)); (case ku => exact (show un + 1 + 8 * 20 < cLine by omega))
  rintro _ _ h'' tk'' F'' N'' ⟨c, tp, rfl, rfl⟩
  exact ⟨rfl, hret _ _ _ _ F'' N'' ⟨x, dx, c, tp, rfl, rfl, l1, l2⟩⟩
theorem sio_use {w : World} {buf : Str} {tb : Tok} {R : Led}
    {dp un : Nat} {gd : Option (List Code)} {cn : Str} {cs : Scope} {a : Addr} {ccd : Value} {cl : List (Str × Addr)} {outer : List Env} {A₀ : Around} {base h₀ : Heap} {L : Addr} {m : Str → Option Value} {s : Shared}
    {p : Program} {loose : List Str} {mean : ExcName → Option Value} {mg mb : Str → Option Value} {Q E : Value → Shared → Prop} (hb : buf.length ≤ 1000000)
    (B : Below A₀ base outer h₀) (F : Fr h₀ L s.heap m) (X : (hd.heap_39 w.params).In h₀) (N : News h₀ L s.heap R) (T : Top p loose mean mg mb h₀) (hk : cs.kind = .function) (hd : dp + 60 < recursionLimit) (hu : un + 8 * 60 < cLine)
    (ret : ∀ x dx c tp h' tk', Fr h₀ L h' m → News h₀ L h' ((x, instObj 587 dx) :: (dx, sioD w c buf 0 tp) :: R) → AllLt dx R → dx < x → Q (.ref x) { s with heap := h', toks := tk' }) :
    wpAny (model PySem.Challenge.rw_kl0188_01.row.prog w) (ktrTop dp un gd cn cs L a ccd cl outer) (call (.ref 587) [.str buf tb] []) Q E s := by
  refine says_use (sio_says w buf tb R hb) B F X N T hk hd hu ?_
  rintro _ _ h' tk' F' N' ⟨x, dx, c, tp, rfl, rfl, l1, l2⟩
  exact ret x dx c tp h' tk' F' N' l1 l2
theorem allLt_up {a b : Addr} (h : a < b) : ∀ {l : Led}, AllLt a l → AllLt b l
  | [], _ => trivial
  | _ :: _, hl => ⟨Nat.lt_trans hl.1 h, allLt_up h hl.2⟩
end P05
section P06
theorem off06 : True := by
  w_top off
  trivial
noncomputable abbrev dqObj (st : Int) (xs : List Value) : Obj := { cls := .type "collections.deque", data := .fields (Array.mk (Value.none :: Value.int st 0 :: xs)) }
theorem dq_mro : mroOf (.type "collections.deque") = pure [.type "collections.deque", .type "object"] := by rw [mroOf_type]; kernel_rfl
theorem dq_lookup_new : typeLookup (.type "collections.deque") "__new__" = pure (some (.builtin "collections.deque.__new__")) := by rw [typeLookup_type, builtinLookup_eq_fast]; kernel_rfl
theorem dq_slot_init : Slot "collections.deque" "__init__" "collections.deque.__init__" := .of (owner := "collections.deque") (n := "__init__") (by rw [typeLookup_type, builtinLookup_eq_fast]; kernel_rfl) (by decide +kernel) (by decide +kernel) (by decide +kernel)
  (by first | exact .inl (by decide +kernel) | exact .inr (by decide +kernel)) (by rw [isSubtype_type]; kernel_rfl)
theorem dq_sub : isSubtype (.type "collections.deque") (.type "collections.deque") = pure true := by rw [isSubtype_type]; kernel_rfl
theorem dq_called : TypeCalled "collections.deque" "collections.deque.__new__" "collections.deque.__init__" :=
  ⟨by decide +kernel, by decide +kernel, ⟨_, _, dq_mro⟩, madeBy_type dq_mro dq_lookup_new (by decide +kernel), by decide +kernel, dq_sub, dq_slot_init⟩
theorem dq_newCall : checkBuiltinCall "collections.deque.__new__" ⟨[.type "collections.deque"], []⟩ = pure () := by kernel_rfl
theorem dq_checkType : checkTypeCall "collections.deque" ⟨[], []⟩ = pure () := by kernel_rfl
theorem dq_initArgs (o : Value) : argsOk "collections.deque.__init__" ⟨[o], []⟩ := by unfold argsOk; kernel_rfl
theorem dq_entry_new : entryFor table "collections.deque.__new__" = some Builtin.«collections.deque.__new__» := entryFor_of_tree (by kernel_rfl)
theorem dq_entry_init : entryFor table "collections.deque.__init__" = some Builtin.«collections.deque.__init__» := entryFor_of_tree (by kernel_rfl)
theorem dq_new_meets : Meets (Builtin.«collections.deque.__new__» ⟨[.type "collections.deque"], []⟩) (fun _ R s => R (.ok (.ret (.ref s.heap.objs.size))) { s with heap := s.heap.push (dqObj 0 []) }) := by
  refine Meets.of_wp fun prog w A R s hs => ?_
  obtain ⟨h, g, d, t, os⟩ := s
  have f1 : isSubtype (.type "collections.deque") (.type Builtin.Deque.ty) = pure true := dq_sub
  repeat (any_goals (first | assumption | (with_reducible refine wpAny_newObj_type ?_ (by size_fits)) | wp_step))
  exact ⟨_, rfl, hs⟩
theorem dq_init_meets {D : Addr} : Meets (Builtin.«collections.deque.__init__» ⟨[.ref D], []⟩) (fun _ R s => s.heap.get? D = some (dqObj 0 []) ∧ ∀ h', Heap.SameBut D s.heap h' → h'.get? D = some (dqObj 0 []) → R (.ok (.ret .none)) { s with heap := h' }) := by
  refine Meets.of_wp fun prog w A R s hs => ?_
  obtain ⟨h, g, d, t, os⟩ := s
  obtain ⟨hD, hq⟩ := hs
  unfold Builtin.«collections.deque.__init__»
  refine wpAny_bind (wpAny_pure ?_)
  refine wpAny_bind (wpAny_pure ?_)
  refine wpAny_bind (wpAny_pure ?_)
  refine wpAny_bind (wpAny_setField_rec hD (by simp) fun h1 e1 s1 => ?_)
  have e2 : h1.get? D = some (dqObj 0 []) := e1
  unfold Builtin.Deque.clear Builtin.Deque.items
  refine wpAny_bind (wpAny_bind (wpAny_bind (wpAny_fieldsOf e2 rfl (wpAny_pure ?_))))
  repeat (any_goals (first | assumption | wp_step))
  exact ⟨_, rfl, hq _ s1 e2⟩
section
variable {prog : Program} {w : World} {A : Around} {E : Value → Shared → Prop} {s : Shared} {h₀ : Heap} {L D : Addr} {m : Str → Option Value} {news news' : List (Addr × Obj)}
theorem dq_new {Q : Value → Shared → Prop} (F : Fr h₀ L s.heap m) (N : News h₀ L s.heap news) (h : ∀ D h', Fr h₀ L h' m → News h₀ L h' ((D, dqObj 0 []) :: news) → (∀ p ∈ news, p.1 < D) → Q (.ref D) { s with heap := h' }) :
    wpAny (model prog w) A (call (.type "collections.deque") []) Q E s := by
  refine callType_meets (Q₁ := fun obj s₁ => obj = .ref s.heap.objs.size ∧ s₁ = { s with heap := s.heap.push (dqObj 0 []) }) dq_called dq_checkType dq_newCall dq_entry_new dq_entry_init dq_new_meets ⟨rfl, rfl⟩ ?_
  rintro _ _ ⟨rfl, rfl⟩
  have hD : (s.heap.push (dqObj 0 [])).get? s.heap.objs.size = some (dqObj 0 []) := Heap.get?_push_size _ rfl
  refine ⟨⟨_, hD, rfl⟩, dq_initArgs _, _, dq_init_meets, hD, fun h' hs e => ⟨rfl, ?_⟩⟩
  have N1 := N.push F (dqObj 0 [])
  have z := N1 _ (.head _)
  refine h _ h' ((F.push _).change hs z.2.1 z.2.2) (fun p hp => ?_) (fun p hp => Heap.lt_size (N p hp).1)
  rcases List.mem_cons.mp hp with rfl | hq
  · exact ⟨e, z.2⟩
  · have := N1 p hp
    exact ⟨(hs.2 _ (Nat.ne_of_lt (Heap.lt_size (N p hq).1))).trans this.1, this.2⟩
end
theorem dq_plain : PlainAttrs "collections.deque" :=
  ⟨⟨"collections.deque.__getattribute__", by rw [typeLookup_type, builtinLookup_eq_fast]; kernel_rfl, by decide +kernel⟩, by rw [typeLookup_type, builtinLookup_eq_fast]; kernel_rfl⟩
theorem dq_slot_al : Slot "collections.deque" "appendleft" "collections.deque.appendleft" := .of (owner := "collections.deque") (n := "appendleft") (by rw [typeLookup_type, builtinLookup_eq_fast]; kernel_rfl) (by decide +kernel) (by decide +kernel) (by decide +kernel)
  (by first | exact .inl (by decide +kernel) | exact .inr (by decide +kernel)) (by rw [isSubtype_type]; kernel_rfl)
theorem dq_slot_pl : Slot "collections.deque" "popleft" "collections.deque.popleft" := .of (owner := "collections.deque") (n := "popleft") (by rw [typeLookup_type, builtinLookup_eq_fast]; kernel_rfl) (by decide +kernel) (by decide +kernel) (by decide +kernel)
  (by first | exact .inl (by decide +kernel) | exact .inr (by decide +kernel)) (by rw [isSubtype_type]; kernel_rfl)
theorem dq_slot_len : Slot "collections.deque" "__len__" "collections.deque.__len__" := .of (owner := "collections.deque") (n := "__len__") (by rw [typeLookup_type, builtinLookup_eq_fast]; kernel_rfl) (by decide +kernel) (by decide +kernel) (by decide +kernel)
  (by first | exact .inl (by decide +kernel) | exact .inr (by decide +kernel)) (by rw [isSubtype_type]; kernel_rfl)
theorem dq_type_al : typeOf (.builtin "collections.deque.appendleft") = pure (.type "method_descriptor") := by show builtinType _ = _; rw [builtinType_eq_fast]; kernel_rfl
theorem dq_type_pl : typeOf (.builtin "collections.deque.popleft") = pure (.type "method_descriptor") := by show builtinType _ = _; rw [builtinType_eq_fast]; kernel_rfl
theorem dq_entry_al : entryFor table "collections.deque.appendleft" = some Builtin.«collections.deque.appendleft» := entryFor_of_tree (by kernel_rfl)
theorem dq_entry_pl : entryFor table "collections.deque.popleft" = some Builtin.«collections.deque.popleft» := entryFor_of_tree (by kernel_rfl)
theorem dq_entry_len : entryFor table "collections.deque.__len__" = some Builtin.«collections.deque.__len__» := entryFor_of_tree (by kernel_rfl)
theorem dq_args_al (a b : Value) : argsOk "collections.deque.appendleft" ⟨[a, b], []⟩ := by unfold argsOk; kernel_rfl
theorem dq_args_pl (a : Value) : argsOk "collections.deque.popleft" ⟨[a], []⟩ := by unfold argsOk; kernel_rfl
theorem dq_args_len (a : Value) : argsOk "collections.deque.__len__" ⟨[a], []⟩ := by unfold argsOk; kernel_rfl
theorem dq_noBool : typeLookup (.type "collections.deque") "__bool__" = pure none := by rw [typeLookup_type, builtinLookup_eq_fast]; kernel_rfl
section
variable {prog : Program} {w : World} {A : Around} {E : Value → Shared → Prop} {s : Shared} {h₀ : Heap} {L D : Addr} {m : Str → Option Value} {news news' : List (Addr × Obj)} {st : Int} {xs : List Value}
theorem dq_is (N : News h₀ L s.heap news) (hm : (D, dqObj st xs) ∈ news) : s.TypeIs (.ref D) "collections.deque" := ⟨_, (N _ hm).1, rfl⟩
theorem dq_meth {name : Str} {id : String} {pl : Sem Bool} {Q : Value × List Value → Shared → Prop} (slot : Slot "collections.deque" name id) (hty : typeOf (.builtin id) = pure (.type "method_descriptor"))
    (N : News h₀ L s.heap news) (hm : (D, dqObj st xs) ∈ news) (h : Q (.builtin id, [.ref D]) s) : wpAny (model prog w) A (getMethod (.ref D) name pl) Q E s :=
  getMethod_builtin (dq_is N hm) dq_plain slot hty (fun a e => by cases e; exact ⟨_, (N _ hm).1, rfl⟩) h
theorem dq_change {f : Array Value → Array Value} {b : Bool} {ys : List Value} {Q : Unit → Shared → Prop} (ho : s.heap.get? D = some (dqObj st xs)) (hf : f (Array.mk xs) = Array.mk ys) (hsz : ys.length ≤ 1000)
    (h : ∀ h', Heap.SameBut D s.heap h' → h'.get? D = some (dqObj (if b then st + 1 else st) ys) → Q () { s with heap := h' }) : wpAny (model prog w) A (Builtin.Deque.change (.ref D) f b) Q E s := by
  unfold Builtin.Deque.change Builtin.Deque.state
  refine wpAny_bind (wpAny_bind (wpAny_field ho rfl rfl (wpAny_pure ?_)))
  have e1 : (Array.mk (Value.none :: Value.int st 0 :: xs)).extract 2 (Array.mk (Value.none :: Value.int st 0 :: xs)).size = Array.mk xs := by
    apply Array.ext'
    simp [List.extract]
  have e2 : Obj.mapFields (fun vs => #[vs.getD 0 .none, rawInt (if b = true then st + 1 else st)] ++ f (vs.extract 2 vs.size)) (dqObj st xs) = dqObj (if b then st + 1 else st) ys := by
    show Obj.mk _ _ _ _ = _
    dsimp only
    rw [e1, hf]
    have e3 : ((#[(Array.mk (Value.none :: Value.int st 0 :: xs)).getD 0 .none, rawInt (if b = true then st + 1 else st)] : Array Value) ++ Array.mk ys) = Array.mk (.none :: .int (if b = true then st + 1 else st) 0 :: ys) := by
      apply Array.ext'
      simp [rawInt]
    rw [e3]
  refine wpAny_updateFields ho rfl (h _ (Heap.SameBut.update ..) ?_) ?_
  · rw [Heap.get?_update_self _ ho (by rw [e2]; rfl), e2]
  · rw [e1, hf, sizeLine_eq]
    simp
    omega
theorem dq_field0 {Q : Option Nat → Shared → Prop} (ho : s.heap.get? D = some (dqObj st xs)) (h : Q none s) : wpAny (model prog w) A (Builtin.Deque.maxlen (.ref D)) Q E s := by
  unfold Builtin.Deque.maxlen
  exact wpAny_bind (wpAny_field ho rfl rfl (wpAny_pure h))
theorem dq_appendleft {x : Value} {Q : Value → Shared → Prop} (F : Fr h₀ L s.heap m) (N : News h₀ L s.heap news) (U : Upd D (dqObj st xs) (dqObj (st + 1) (x :: xs)) news news') (hsz : xs.length ≤ 100)
    (h : ∀ h', Fr h₀ L h' m → News h₀ L h' news' → Q .none { s with heap := h' }) : wpAny (model prog w) A (call (.builtin "collections.deque.appendleft") [.ref D, x]) Q E s := by
  obtain ⟨pre, post, rfl, rfl, a, b⟩ := U.split
  have z := N (D, dqObj st xs) (List.mem_append.mpr (.inr (.head _)))
  refine wpAny_call_entry dq_slot_al ⟨_, z.1, rfl⟩ dq_entry_al ?_ (dq_args_al _ _)
  unfold Builtin.«collections.deque.appendleft» Builtin.Deque.pushLeft
  refine wpAny_bind (wpAny_pure (wpAny_bind (wpAny_bind (dq_change z.1 (ys := x :: xs) (by simp) (by simp; omega) fun h' hs e => ?_))))
  refine wpAny_bind (dq_field0 (s := { s with heap := h' }) e (wpAny_pure (wpAny_pure ⟨_, rfl, ?_⟩)))
  exact h h' (F.change hs z.2.1 z.2.2) (news_set N a b hs e)
theorem dq_popleft {x : Value} {Q : Value → Shared → Prop} (F : Fr h₀ L s.heap m) (N : News h₀ L s.heap news) (U : Upd D (dqObj st (x :: xs)) (dqObj (st + 1) xs) news news') (hsz : xs.length ≤ 100)
    (h : ∀ h', Fr h₀ L h' m → News h₀ L h' news' → Q x { s with heap := h' }) : wpAny (model prog w) A (call (.builtin "collections.deque.popleft") [.ref D]) Q E s := by
  obtain ⟨pre, post, rfl, rfl, a, b⟩ := U.split
  have z := N (D, dqObj st (x :: xs)) (List.mem_append.mpr (.inr (.head _)))
  refine wpAny_call_entry dq_slot_pl ⟨_, z.1, rfl⟩ dq_entry_pl ?_ (dq_args_pl _)
  unfold Builtin.«collections.deque.popleft» Builtin.Deque.items
  have e1 : ((Array.mk (Value.none :: Value.int st 0 :: x :: xs)).extract 2 (Array.mk (Value.none :: Value.int st 0 :: x :: xs)).size)[0]? = some x := by simp [List.extract]
  refine wpAny_bind (wpAny_pure (wpAny_bind (wpAny_bind (wpAny_fieldsOf z.1 rfl (wpAny_pure ?_)))))
  rw [e1]
  refine wpAny_bind (dq_change z.1 (ys := xs) (by simp) (by omega) fun h' hs e => wpAny_pure ⟨_, rfl, ?_⟩)
  exact h h' (F.change hs z.2.1 z.2.2) (news_set N a b hs e)
theorem dq_size {Q : Nat → Shared → Prop} (ho : s.heap.get? D = some (dqObj st xs)) (h : Q xs.length s) : wpAny (model prog w) A (Builtin.Deque.size (.ref D)) Q E s := by
  unfold Builtin.Deque.size
  refine wpAny_bind (wpAny_fieldsOf ho rfl (wpAny_pure ?_))
  simpa using h
theorem dq_len_body {Q : Value → Shared → Prop} (ho : s.heap.get? D = some (dqObj st xs)) (hsz : xs.length ≤ 1000)
    (h : Q (.int xs.length (s.toks + 1)) { s with toks := s.toks + 1 + 1 }) : wpAny (model prog w) A (Builtin.«len» ⟨[.ref D], []⟩) (fun fin s' => ∃ r, fin = .done (.ret r) ∧ Q r s') E s := by
  have hT : s.TypeIs (.ref D) "collections.deque" := ⟨_, ho, rfl⟩
  unfold Builtin.«len»
  refine wpAny_bind (m := oneArg "len" _) (wpAny_pure ?_)
  refine wpAny_bind (m := callSpecial? (.ref D) (Str.ofString "__len__")) (wpAny_callSpecial?_slot (name := Str.ofString "__len__") hT dq_slot_len
    (wpAny_call_entry dq_slot_len hT dq_entry_len ?_ (dq_args_len _)))
  unfold Builtin.«collections.deque.__len__»
  refine wpAny_bind (wpAny_pure (wpAny_bind (dq_size ho (wpAny_bind (wpAny_mkInt (wpAny_pure ⟨_, rfl, ?_⟩))))))
  refine wpAny_bind (wpAny_holding (wpAny_pure ?_))
  refine wpAny_bind (wpAny_letGo ?_)
  show wpAny _ _ (if ((xs.length : Nat) : Int) < 0 then _ else _) _ _ _
  rw [if_neg (by omega)]
  show wpAny _ _ (if ((xs.length : Nat) : Int) ≥ 2 ^ 63 then _ else _) _ _ _
  rw [if_neg (by omega)]
  exact wpAny_bind (wpAny_mkInt (wpAny_pure ⟨_, rfl, h⟩))
theorem dq_len {Q : Value → Shared → Prop} (N : News h₀ L s.heap news) (hm : (D, dqObj st xs) ∈ news) (hsz : xs.length ≤ 1000)
    (h : Q (.int xs.length (s.toks + 1)) { s with toks := s.toks + 1 + 1 }) : wpAny (model prog w) A (call (.builtin "len") [.ref D]) Q E s :=
  call_function_entry kind_len plain_len entry_len (args_len1 _) (dq_len_body (N _ hm).1 hsz h)
theorem dq_truthy {Q : Bool → Shared → Prop} (N : News h₀ L s.heap news) (hm : (D, dqObj st xs) ∈ news) (hsz : xs.length ≤ 1000)
    (h : Q (decide (0 < xs.length)) { s with toks := s.toks + 1 + 1 }) : wpAny (model prog w) A (truthy (.ref D)) Q E s := by
  have hT := dq_is N hm
  have hne : ((xs.length : Int) != 0) = decide (0 < xs.length) := by
    rcases Nat.eq_zero_or_pos xs.length with e | e
    · rw [e]; rfl
    · rw [decide_eq_true e]; exact bne_iff_ne.mpr (by omega)
  have key : wpAny (model prog w) A (runValue (.builtin "len" ⟨[.ref D], []⟩)) (fun r s' => r = .int xs.length (s.toks + 1) ∧ Q (decide (0 < xs.length)) s') E s := by
    refine wpAny_runValue (codeAny_builtin entry_len ?_)
    rw [Around.under_plainId plain_len _]
    exact wpAny_mono (dq_len_body (Q := fun r s' => r = .int xs.length (s.toks + 1) ∧ Q (decide (0 < xs.length)) s') (N _ hm).1 hsz ⟨rfl, h⟩)
      (fun fin s' h' => by obtain ⟨r, rfl, hq⟩ := h'; exact hq) fun _ _ e => e
  unfold truthy
  first
    | refine wpAny_bind (wpAny_callSpecial?_none (name := Str.ofString "__bool__") hT dq_noBool ?_)
    | refine wpAny_bind (wpAny_pure (wpAny_bind (wpAny_callSpecial?_none (name := Str.ofString "__bool__") hT dq_noBool ?_)))
  first
    | refine wpAny_bind (wpAny_specialOf (name := Str.ofString "__len__") hT dq_slot_len.lookup ?_)
    | refine wpAny_bind (wpAny_pure (wpAny_bind (wpAny_specialOf (name := Str.ofString "__len__") hT dq_slot_len.lookup ?_)))
  first
    | exact wpAny_bind (wpAny_mono key (fun r s' h' => by obtain ⟨rfl, hq⟩ := h'; exact wpAny_pure (hne ▸ hq)) fun _ _ e => e)
    | exact wpAny_bind (wpAny_pure (wpAny_bind (wpAny_mono key (fun r s' h' => by obtain ⟨rfl, hq⟩ := h'; exact wpAny_pure (hne ▸ hq)) fun _ _ e => e)))
end
end P06
section P07
theorem off07 : True := by
  w_top off
  trivial
/-- what stands fast in the lexer's dict: the keys' tokens, some values' tokens, the two deques -/
structure LexC where
  k1 : Tok
  k2 : Tok
  k3 : Tok
  k4 : Tok
  k5 : Tok
  k6 : Tok
  k7 : Tok
  k8 : Tok
  k9 : Tok
  k10 : Tok
  k11 : Tok
  k12 : Tok
  k13 : Tok
  k14 : Tok
  k15 : Tok
  k16 : Tok
  k17 : Tok
  k18 : Tok
  k19 : Tok
  v5 : Tok
  v6 : Tok
  v7 : Tok
  v9 : Tok
  v10 : Tok
  v11 : Tok
  v15 : Tok
  v19 : Tok
  wc : Str
  pb : Addr
  fs : Addr
noncomputable abbrev lexE (w : World) (name : String) (k : Tok) (v : Value) : DictEntry := ⟨PyData.keyHash w.params (Str.ofString name), .str (Str.ofString name) k, v⟩
noncomputable def lexEs (w : World) (c : LexC) (S : Addr) (inf : Str) (ti : Tok) (state : Value) (line : Int) (tl : Tok) (tok : Str) (tt : Tok) : List DictEntry :=
  [lexE w "instream" c.k1 (.ref S), lexE w "infile" c.k2 (.str inf ti), lexE w "posix" c.k3 (.bool true), lexE w "eof" c.k4 .none, lexE w "commenters" c.k5 (.str (Str.ofString "") c.v5), lexE w "wordchars" c.k6 (.str c.wc c.v6),
    lexE w "whitespace" c.k7 (.str (Str.ofString "/") c.v7), lexE w "whitespace_split" c.k8 (.bool true), lexE w "quotes" c.k9 (.str (Str.ofString "") c.v9), lexE w "escape" c.k10 (.str (Str.ofString "") c.v10), lexE w "escapedquotes" c.k11 (.str (Str.ofString "\"") c.v11),
    lexE w "state" c.k12 state, lexE w "pushback" c.k13 (.ref c.pb), lexE w "lineno" c.k14 (.int line tl), lexE w "debug" c.k15 (.int 0 c.v15), lexE w "token" c.k16 (.str tok tt), lexE w "filestack" c.k17 (.ref c.fs), lexE w "source" c.k18 .none, lexE w "_punctuation_chars" c.k19 (.str (Str.ofString "") c.v19)]
noncomputable abbrev lexD (w : World) (c : LexC) (S : Addr) (inf : Str) (ti : Tok) (state : Value) (line : Int) (tl : Tok) (tok : Str) (tt : Tok) : Obj := dictOf (lexEs w c S inf ti state line tl tok tt) 19
section
variable {w : World} {A : Around} {E : Value → Shared → Prop} {h₀ : Heap} {L X D S : Addr} {m : Str → Option Value} {s : Shared} {news news' : Led} {c : LexC} {inf : Str} {ti : Tok} {state : Value} {line : Int} {tl : Tok} {tok : Str} {tt : Tok}
theorem lex_set_state {v : Value} {Q : Unit → Shared → Prop} (F : Fr h₀ L s.heap m) (X₀ : (hd.heap_39 w.params).In h₀) (N : News h₀ L s.heap news) (hX : (X, instObj 722 D) ∈ news) (U : Upd D (lexD w c S inf ti state line tl tok tt) (lexD w c S inf ti v line tl tok tt) news news')
    (h : ∀ h', Fr h₀ L h' m → News h₀ L h' news' → Q () { s with heap := h', toks := s.toks + 2 }) : wpAny (model PySem.Challenge.rw_kl0188_01.row.prog w) A (setAttr (.ref X) (Str.ofString "state") v) Q E s := by
  revert X₀
  k_fill
  intro X₀
  have hD : (D, lexD w c S inf ti state line tl tok tt) ∈ news := by obtain ⟨pre, post, rfl, _, _, _⟩ := U.split; exact List.mem_append.mpr (.inr (.head _))
  refine' set_dict F X₀ N (InstAt.of_news N hX hD) rfl ?k1 ?k2 ?k3 ?k4 ?k5 ?k6 U (Nat.le_of_ble_eq_true rfl) h
  (case k1 => k_is)
  (case k2 => k_is)
  (case k3 => k_is)
  (case k4 => k_is)
  (case k5 => kernel_rfl)
  (case k6 => kernel_rfl)
theorem lex_set_line {n : Int} {t : Tok} {Q : Unit → Shared → Prop} (F : Fr h₀ L s.heap m) (X₀ : (hd.heap_39 w.params).In h₀) (N : News h₀ L s.heap news) (hX : (X, instObj 722 D) ∈ news) (U : Upd D (lexD w c S inf ti state line tl tok tt) (lexD w c S inf ti state n t tok tt) news news')
    (h : ∀ h', Fr h₀ L h' m → News h₀ L h' news' → Q () { s with heap := h', toks := s.toks + 2 }) : wpAny (model PySem.Challenge.rw_kl0188_01.row.prog w) A (setAttr (.ref X) (Str.ofString "lineno") (.int n t)) Q E s := by
  revert X₀
  k_fill
  intro X₀
  have hD : (D, lexD w c S inf ti state line tl tok tt) ∈ news := by obtain ⟨pre, post, rfl, _, _, _⟩ := U.split; exact List.mem_append.mpr (.inr (.head _))
  refine' set_dict F X₀ N (InstAt.of_news N hX hD) rfl ?k1 ?k2 ?k3 ?k4 ?k5 ?k6 U (Nat.le_of_ble_eq_true rfl) h
  (case k1 => k_is)
  (case k2 => k_is)
  (case k3 => k_is)
  (case k4 => k_is)
  (case k5 => kernel_rfl)
  (case k6 => kernel_rfl)
theorem lex_set_tok {x : Str} {t : Tok} {Q : Unit → Shared → Prop} (F : Fr h₀ L s.heap m) (X₀ : (hd.heap_39 w.params).In h₀) (N : News h₀ L s.heap news) (hX : (X, instObj 722 D) ∈ news) (U : Upd D (lexD w c S inf ti state line tl tok tt) (lexD w c S inf ti state line tl x t) news news')
    (h : ∀ h', Fr h₀ L h' m → News h₀ L h' news' → Q () { s with heap := h', toks := s.toks + 2 }) : wpAny (model PySem.Challenge.rw_kl0188_01.row.prog w) A (setAttr (.ref X) (Str.ofString "token") (.str x t)) Q E s := by
  revert X₀
  k_fill
  intro X₀
  have hD : (D, lexD w c S inf ti state line tl tok tt) ∈ news := by obtain ⟨pre, post, rfl, _, _, _⟩ := U.split; exact List.mem_append.mpr (.inr (.head _))
  refine' set_dict F X₀ N (InstAt.of_news N hX hD) rfl ?k1 ?k2 ?k3 ?k4 ?k5 ?k6 U (Nat.le_of_ble_eq_true rfl) h
  (case k1 => k_is)
  (case k2 => k_is)
  (case k3 => k_is)
  (case k4 => k_is)
  (case k5 => kernel_rfl)
  (case k6 => kernel_rfl)
theorem lex_set_inst {S' : Addr} {Q : Unit → Shared → Prop} (F : Fr h₀ L s.heap m) (X₀ : (hd.heap_39 w.params).In h₀) (N : News h₀ L s.heap news) (hX : (X, instObj 722 D) ∈ news) (U : Upd D (lexD w c S inf ti state line tl tok tt) (lexD w c S' inf ti state line tl tok tt) news news')
    (h : ∀ h', Fr h₀ L h' m → News h₀ L h' news' → Q () { s with heap := h', toks := s.toks + 2 }) : wpAny (model PySem.Challenge.rw_kl0188_01.row.prog w) A (setAttr (.ref X) (Str.ofString "instream") (.ref S')) Q E s := by
  revert X₀
  k_fill
  intro X₀
  have hD : (D, lexD w c S inf ti state line tl tok tt) ∈ news := by obtain ⟨pre, post, rfl, _, _, _⟩ := U.split; exact List.mem_append.mpr (.inr (.head _))
  refine' set_dict F X₀ N (InstAt.of_news N hX hD) rfl ?k1 ?k2 ?k3 ?k4 ?k5 ?k6 U (Nat.le_of_ble_eq_true rfl) h
  (case k1 => k_is)
  (case k2 => k_is)
  (case k3 => k_is)
  (case k4 => k_is)
  (case k5 => kernel_rfl)
  (case k6 => kernel_rfl)
theorem lex_set_inf {x : Str} {t : Tok} {Q : Unit → Shared → Prop} (F : Fr h₀ L s.heap m) (X₀ : (hd.heap_39 w.params).In h₀) (N : News h₀ L s.heap news) (hX : (X, instObj 722 D) ∈ news) (U : Upd D (lexD w c S inf ti state line tl tok tt) (lexD w c S x t state line tl tok tt) news news')
    (h : ∀ h', Fr h₀ L h' m → News h₀ L h' news' → Q () { s with heap := h', toks := s.toks + 2 }) : wpAny (model PySem.Challenge.rw_kl0188_01.row.prog w) A (setAttr (.ref X) (Str.ofString "infile") (.str x t)) Q E s := by
  revert X₀
  k_fill
  intro X₀
  have hD : (D, lexD w c S inf ti state line tl tok tt) ∈ news := by obtain ⟨pre, post, rfl, _, _, _⟩ := U.split; exact List.mem_append.mpr (.inr (.head _))
  refine' set_dict F X₀ N (InstAt.of_news N hX hD) rfl ?k1 ?k2 ?k3 ?k4 ?k5 ?k6 U (Nat.le_of_ble_eq_true rfl) h
  (case k1 => k_is)
  (case k2 => k_is)
  (case k3 => k_is)
  (case k4 => k_is)
  (case k5 => kernel_rfl)
  (case k6 => kernel_rfl)
end
theorem lexer_says (w : World) (buf : Str) (tb : Tok) (R : Led) (hb : buf.length ≤ 1000000) :
   Says w (.ref 869) [.str buf tb] [] 200 R (fun news' r => ∃ X D S DS c sc ti ts tl tt tp, r = .ref X ∧ news' = (c.fs, dqObj 0 []) :: (c.pb, dqObj 0 []) :: (S, instObj 587 DS) :: (DS, sioD w sc buf 0 tp) :: (X, instObj 722 D) :: (D, lexD w c S (Str.ofString "") ti (.str (Str.ofString " ") ts) 1 tl (Str.ofString "") tt) :: R ∧
     AllLt D R ∧ @LT.lt Nat _ D X ∧ @LT.lt Nat _ X DS ∧ @LT.lt Nat _ DS S ∧ @LT.lt Nat _ S c.pb ∧ @LT.lt Nat _ c.pb c.fs) := by
  unfold Says
  k_fill
  intro dp un gd cn cs a ccd cl outer A₀ base h₀ L m s p loose mean mg mb Q E B F X N T hk hd hu hret
  refine wpAny_call ?_
  k_dflt (first | (refine' code_def ?k1 ?k2 ?k3 ?k4 ?k5 ?zqkA ?zqkF ?kK ?zqk6 ?zqk7 ?zqk8 ?zqk9 ?zqkB ?_ ?zqc2 ?zqc3 ?zqc4 ?zqc5; (case zqkA | zqkF => exact rfl); (case kK => assumption); (case k1 | k2 => k_asm); (case k3 | k4 | k5 => k_asm); (case zqk6 | zqk7 => k_is); (case zqk8 => k_room); (case zqk9 => first | exact BindsTo.of_eq rfl | exact binds_K (by k_in) rfl (by k_is) rfl rfl rfl | fail); (case zqc5 => decide); (case zqkB => exact locs rfl); (case zqc2 | zqc3 | zqc4 => exact rfl); k_whole; intro g'Z L'Z h'Z FG'Z F'Z N'Z B'Z X'Z T'Z; (try dsimp only); (try k_lift B'Z); (try k_fold); refine name_A ?_; intro aA8; have hN8 := True.intro; have hO8 := True.intro) | (kp_kind "rest"; refine' kp_rest ?k1 ?k2 ?k3 ?k4 ?k5 ?zqkA ?zqkF ?kK ?zqk6 ?zqk7 ?zqk8 ?zqkV ?zqkP ?zqkG ?zqkB ?_ ?zqc2 ?zqc3 ?zqc4 ?zqc5; (case zqkA | zqkF => exact rfl); (case kK => assumption); (case k1 | k2 => k_asm); (case k3 | k4 | k5 => k_asm); (case zqk6 | zqk7 => k_is); (case zqk8 => k_room); (case zqkV | zqkP => exact rfl); (case zqkG => exact fun _ => rfl); (case zqkB => exact fun _ => locs rfl); (case zqc5 => decide); (case zqc2 | zqc3 | zqc4 => exact rfl); k_whole; intro D'Z g'Z L'Z h'Z l1Z FG'Z F'Z N'Z B'Z X'Z T'Z; (try k_lt l1Z); (try dsimp only); (try k_lift B'Z); (try k_fold); refine name_A ?_; intro aA8; have hN8 := True.intro; have hO8 := True.intro) | (kp_kind "both"; refine' kp_both ?k1 ?k2 ?k3 ?k4 ?k5 ?zqkA ?zqkF ?kK ?zqk6 ?zqk7 ?zqk8 ?zqkV ?zqkX ?zqkQ ?zqkM ?zqkN ?zqkD ?zqkR ?zqkP ?zqkS ?zqkT ?zqkB ?_ ?zqc2 ?zqc3 ?zqc4 ?zqc5; (case zqkA | zqkF => exact rfl); (case kK => assumption); (case k1 | k2 => k_asm); (case k3 | k4 | k5 => k_asm); (case zqk6 | zqk7 => k_is); (case zqk8 => k_room); (case zqkV | zqkX => kp_lit); (case zqkQ | zqkM | zqkN => exact rfl); (case zqkD => kp_flats); (case zqkR | zqkP => exact rfl); (case zqkS => exact fun _ => rfl); (case zqkT => exact fun _ _ => rfl); (case zqkB => exact fun _ _ => locs rfl); (case zqc5 => decide); (case zqc2 | zqc3 | zqc4 => exact rfl); k_whole; intro C'Z D'Z o'Z g'Z L'Z h'Z tk'Z l1Z l2Z lo'Z hs'Z fs'Z FG'Z F'Z N'Z B'Z X'Z T'Z; (try k_lt l1Z); (try k_lt2 l2Z); (try dsimp only); (try k_lift B'Z); (try k_fold); refine name_A ?_; intro aA8; have hN8 := True.intro; have hO8 := True.intro))
  repeat' (first | (k_unfold; (try dsimp only)) | (k_end; (with_reducible refine hN8 _ _ ?_); intro kN8; clear hN8 hO8; (try clear qN8); first | with_reducible refine execs_one ?_ | (refine execs_more ?_; intro qN8 hN8 hO8)) | (k_end; (with_reducible refine hO8 _ _ ?zn8 ?_); (case zn8 => first | exact ne_ret _ | exact ne_brk | exact ne_cont); clear hN8 hO8; (try clear qN8)) | (k_end; wrow_close) | ((with_reducible show wpAny _ _ (truthy _) _ _ _); (first | ((with_reducible show wpAny _ _ (truthy (Value.ref _)) _ _ _); (k_here; k_dflt (refine' dq_truthy ?k1 ?k2 ?k3 ?_; (case k1 => k_asm); (case k2 => k_mem); (case k3 => first | assumption | omega | (simp only [List.length_cons, List.length_nil] at *; omega)); k_whole))) | (k_here; (with_reducible show wpAny _ _ (truthy (Value.str _ _)) _ _ _); refine truthy_long (by assumption) (by omega) ?_; intro _))) | ((with_reducible show wpAny _ _ (call _ _ _) _ _ _); (first | (k_here; (with_reducible show wpAny _ _ (call (Value.builtin "len") [Value.ref _]) _ _ _); k_dflt (refine' dq_len ?k1 ?k2 ?k3 ?_; (case k1 => k_asm); (case k2 => k_mem); (case k3 => first | assumption | omega | (simp only [List.length_cons, List.length_nil] at *; omega)); k_whole)) | ((with_reducible show wpAny _ _ (call (Value.builtin "collections.deque.popleft") _ _) _ _ _); (k_here; k_dflt (refine' dq_popleft ?k1 ?k2 ?k3 ?k4 ?_; (case k1 | k2 => k_asm); (case k3 => k_upd); (case k4 => first | assumption | omega | (simp only [List.length_cons, List.length_nil] at *; omega)); k_whole); intro h'Z F'Z N'Z; (try k_sweep))) | ((with_reducible show wpAny _ _ (call (Value.builtin "collections.deque.appendleft") _ _) _ _ _); (k_here; k_dflt (refine' dq_appendleft ?k1 ?k2 ?k3 ?k4 ?_; (case k1 | k2 => k_asm); (case k3 => k_upd); (case k4 => first | assumption | omega | (simp only [List.length_cons, List.length_nil] at *; omega)); k_whole); intro h'Z F'Z N'Z; (try k_sweep))) | ((with_reducible show wpAny _ _ (call (Value.type "collections.deque") _ _) _ _ _); (k_here; k_dflt (refine' dq_new ?k1 ?k2 ?_; (case k1 | k2 => k_asm); k_whole); intro D'Z h'Z F'Z N'Z l1Z; (try k_lt l1Z); (try k_sweep))) | (k_here; (with_reducible show wpAny _ _ (call (Value.ref 587) [Value.str _ _]) _ _ _); k_dflt (refine' sio_use ?zqkp ?k1 ?k2 ?k3 ?k4 ?k5 ?kK ?kd ?ku ?_; tb_rel; (case zqkp => first | assumption | omega); intro x9Z d9Z c9Z tp9Z h9Z tk9Z F9Z N9Z l9Z l8Z; (have l7Z := allLt_up l8Z l9Z); (try simp only [AllLt, and_true] at l9Z l7Z); (replace l8Z := ltN l8Z); (try dsimp only); (try k_fold))) | ((with_reducible show wpAny _ _ (call (Value.builtin "issubclass") _ _) _ _ _); (k_here; k_dflt (refine' issub_pair ?k1 ?_; (case k1 => exact News.get (by k_asm) (by k_mem)); k_whole))))) | ((with_reducible show wpAny _ _ (getMethod _ _ _) _ _ _); (first | (k_here; (with_reducible show wpAny _ _ (getMethod (Value.ref _) (Str.ofString "popleft") _) _ _ _); k_dflt (refine' dq_meth dq_slot_pl dq_type_pl ?k1 ?k2 ?_; (case k1 => k_asm); (case k2 => k_mem); k_whole)) | (k_here; (with_reducible show wpAny _ _ (getMethod (Value.ref _) (Str.ofString "appendleft") _) _ _ _); k_dflt (refine' dq_meth dq_slot_al dq_type_al ?k1 ?k2 ?_; (case k1 => k_asm); (case k2 => k_mem); k_whole)))) | ((with_reducible show wpAny _ _ (compareOp _ _ _) _ _ _); (first | (k_here; (with_reducible show wpAny _ _ (compareOp CmpOp.NotIn (Value.str _ _) (Value.str _ _)) _ _ _); (first | (refine notin_known (b := false) (by assumption) ?_) | (refine notin_known (b := true) (by assumption) ?_) | (refine notin_known (b := false) (by decide +kernel) ?_) | (refine notin_known (b := true) (by decide +kernel) ?_)); (try simp only [Bool.not_false, Bool.not_true])) | (k_here; (with_reducible show wpAny _ _ (compareOp CmpOp.In (Value.str _ _) (Value.str _ _)) _ _ _); first | (refine in_known (b := false) (by assumption) ?_) | (refine in_known (b := true) (by assumption) ?_) | (refine in_known (b := false) (by decide +kernel) ?_) | (refine in_known (b := true) (by decide +kernel) ?_)))) | ((with_reducible show wpAny _ _ (execs _ _) _ _ _); (first | ((with_reducible show wpAny _ _ (execs [] _) _ _ _); (k_here; refine wpAny_execs_nil ?_)) | ((with_reducible show wpAny _ _ (execs (_ :: _) _) _ _ _); (k_here; (try dsimp only); (try k_fold); first | with_reducible refine execs_one ?_ | (refine execs_more ?_; intro qN8 hN8 hO8))))) | ((with_reducible show wpAny _ _ (exec (Stmt.If _ _ _ _) _) _ _ _); (k_here; refine wpAny_If ?_)) | walk1 | ((with_reducible show wpAny _ _ _ _ _ _); dsimp only) | (leave1; walk_say "STEP leave1"; try dsimp only) | fail "no step")
  exact hret _ _ _ _ (by assumption) (by assumption) ⟨_, _, _, _, ⟨_, _, _, _, _, _, _, _, _, _, _, _, _, _, _, _, _, _, _, _, _, _, _, _, _, _, _, _, _, _⟩, _, _, _, _, _, _, rfl, rfl, by first | assumption | exact allLt_of (by assumption), by omega, by omega, by omega, by (try dsimp only); omega, by (try dsimp only); omega⟩
end P07
section P08
theorem off08 : True := by
  w_top off
  trivial
/-- the lexer's next word out of the signs that are left; `tok` is what it has of it -/
noncomputable def lexGo : List Nat → List Nat → Option (List Nat × List Nat)
  | _, [] => none
  | tok, ch :: r => if ch = 47 then (match tok with | [] => lexGo [] r | _ => some (tok, r)) else lexGo (tok ++ [ch]) r
/-- the signs end with a slash, or there are none -/
noncomputable def EndsOk (l : List Nat) : Prop := ∀ x, l.getLast? = some x → x = 47
theorem EndsOk.tail {c : Nat} {r : List Nat} (h : EndsOk (c :: r)) : EndsOk r := fun x hx => h x (by cases r with | nil => cases hx | cons a r => simpa [List.getLast?_cons_cons] using hx)
theorem EndsOk.more {c : Nat} {r : List Nat} (h : EndsOk (c :: r)) (hc : c ≠ 47) : r ≠ [] := by rintro rfl; exact hc (h c rfl)
structure TokSt where
  k : Nat
  tok : List Nat
  x : Str
  line : Int
  tp : Tok
  tl : Tok
  tt : Tok
  st : Value
noncomputable abbrev tokLed (w : World) (X D S DS : Addr) (c : LexC) (sc : SioC) (inf : Str) (ti : Tok) (buf : Str) (R : Led) (q : TokSt) : Led :=
  (S, instObj 587 DS) :: (DS, sioD w sc buf (q.k : Int) q.tp) :: (X, instObj 722 D) :: (D, lexD w c S inf ti q.st q.line q.tl q.x q.tt) :: R
noncomputable def TokInv (buf : Str) (k0 : Nat) (line0 : Int) (q : TokSt) : Prop :=
  q.k ≤ buf.length ∧ lexGo q.tok (buf.cps.toList.drop q.k) = lexGo [] (buf.cps.toList.drop k0) ∧ q.line = line0 + (q.tok.count 10 : Nat) ∧ EndsOk (buf.cps.toList.drop q.k) ∧ q.x = ⟨q.tok.toArray⟩ ∧ q.tok.length ≤ q.k ∧
    ((q.tok = [] ∧ ∃ t, q.st = .str (Str.ofString " ") t) ∨ (q.tok ≠ [] ∧ buf.cps.toList.drop q.k ≠ [] ∧ ∃ t, q.st = .str (Str.ofString "a") t))
theorem kswSame {stored : List Str} {x : Str} {v : Value} {m₀ u : Str → Option Value} (hx : stored.contains x = true) :
    ∀ z, (∀ p ∈ ([] : List (Str × Value)), z ≠ p.1) → stored.contains z = false → (fun y => if y = x then some v else kstB (fun z => if stored.contains z then u z else m₀ z) [] y) z = m₀ z := by
  intro z _ hz
  have : z ≠ x := by rintro rfl; rw [hx] at hz; cases hz
  show (if z = x then some v else (if stored.contains z = true then u z else m₀ z)) = m₀ z
  rw [if_neg this, if_neg (by rw [hz]; decide)]
theorem mem_one (x : Str) (ch : Nat) : Txt.contains x ⟨#[ch]⟩ = decide (ch ∈ x.cps.toList) := StrLaws.found_one x ch
/-- what read_token gives back -/
noncomputable def TokPost (w : World) (X D S DS : Addr) (c : LexC) (sc : SioC) (inf : Str) (ti : Tok) (buf : Str) (R : Led) (k : Nat) (line : Int) (news' : Led) (r : Value) : Prop :=
  match lexGo [] (buf.cps.toList.drop k) with
  | none => ∃ tl tt tp, r = .none ∧ news' = tokLed w X D S DS c sc inf ti buf R ⟨buf.length, [], Str.ofString "", line, tp, tl, tt, .none⟩
  | some (wd, rest) => ∃ k' t tl tt tp ts, r = .str ⟨wd.toArray⟩ t ∧ k' ≤ buf.length ∧ buf.cps.toList.drop k' = rest ∧ news' = tokLed w X D S DS c sc inf ti buf R ⟨k', [], Str.ofString "", line + (wd.count 10 : Nat), tp, tl, tt, .str (Str.ofString " ") ts⟩
theorem lexGo_cons (tok : List Nat) (ch : Nat) (r : List Nat) : lexGo tok (ch :: r) = if ch = 47 then (match tok with | [] => lexGo [] r | _ => some (tok, r)) else lexGo (tok ++ [ch]) r := by cases tok <;> rfl
theorem tok_end {w : World} {X D S DS : Addr} {c : LexC} {sc : SioC} {inf : Str} {ti : Tok} {buf : Str} {R : Led} {k0 : Nat} {line0 : Int} {h₀ h' : Heap} {L : Addr} {s : Shared} {m₀ u : Str → Option Value} {v : Value} {tk : Nat} {q0 : TokSt}
    {k1 : Nat} (tok : List Nat) {x : Str} {line1 : Int} {tp tl tt : Tok} {st : Value} {more : Led}
    (F : Fr h₀ L h' (fun y => if y = Str.ofString "nextchar" then some v else kstB (fun z => if ([Str.ofString "nextchar"] : List Str).contains z then u z else m₀ z) [] y))
    (N : News h₀ L h' (more ++ ((S, instObj 587 DS) :: (DS, sioD w sc buf (k1 : Int) tp) :: (X, instObj 722 D) :: (D, lexD w c S inf ti st line1 tl x tt) :: R)))
    (P : TokInv buf k0 line0 ⟨k1, tok, x, line1, tp, tl, tt, st⟩) (hm : buf.length - k1 + 1 < buf.length - q0.k + 1) :
    KswEnd h₀ L s (tokLed w X D S DS c sc inf ti buf R) (fun _ => []) (fun _ => True) [Str.ofString "nextchar"] m₀ (TokInv buf k0 line0) (fun q => buf.length - q.k + 1) q0 { s with heap := h', toks := tk } :=
  ksw_end (σ := TokSt) ⟨k1, tok, x, line1, tp, tl, tt, st⟩ F N (fun p hp => List.mem_append.mpr (.inr hp)) trivial (fun _ h => nomatch h) (kswSame (by decide +kernel)) P hm
theorem one_line {y : Str} {ch : Nat} (hy : y = ⟨#[ch]⟩) : (y == Str.ofString "\n") = decide (ch = 10) := by
  rw [hy, show Str.ofString "\n" = ⟨#[10]⟩ by decide +kernel]
  by_cases h : ch = 10
  · subst h; rfl
  · rw [decide_eq_false h]; exact beq_eq_false_iff_ne.mpr fun e => h (by simpa using e)
theorem count_one (tok : List Nat) (ch : Nat) : (tok ++ [ch]).count 10 = tok.count 10 + (if ch = 10 then 1 else 0) := by
  rw [List.count_append, List.count_singleton]
  by_cases h : ch = 10 <;> simp [h]
theorem token_says (w : World) (X D S DS : Addr) (c : LexC) (sc : SioC) (inf : Str) (ti ts tl tt tp : Tok) (line : Int) (buf : Str) (k : Nat) (R : Led)
    (hR1 : ∀ p ∈ R, p.1 ≠ D) (hR2 : ∀ p ∈ R, p.1 ≠ DS) (n1 : X ≠ D) (n2 : X ≠ DS) (n3 : S ≠ D) (n4 : S ≠ DS) (n5 : D ≠ DS) (hk : k ≤ buf.length) (hb : buf.length ≤ 1000000) (hE : EndsOk (buf.cps.toList.drop k)) :
   Says w (.ref 690) [.ref X] [] 60 (tokLed w X D S DS c sc inf ti buf R ⟨k, [], Str.ofString "", line, tp, tl, tt, .str (Str.ofString " ") ts⟩) (TokPost w X D S DS c sc inf ti buf R k line) := by
  have hlen : buf.cps.toList.length = buf.length := by simp [Str.length]
  unfold Says
  k_fill
  intro dp un gd cn cs a ccd cl outer A₀ base h₀ L m s p loose mean mg mb Q E B F KX N T hck hd hu hret
  refine wpAny_call ?_
  k_dflt (first | (refine' code_def ?k1 ?k2 ?k3 ?k4 ?k5 ?zqkA ?zqkF ?kK ?zqk6 ?zqk7 ?zqk8 ?zqk9 ?zqkB ?_ ?zqc2 ?zqc3 ?zqc4 ?zqc5; (case zqkA | zqkF => exact rfl); (case kK => assumption); (case k1 | k2 => k_asm); (case k3 | k4 | k5 => k_asm); (case zqk6 | zqk7 => k_is); (case zqk8 => k_room); (case zqk9 => first | exact BindsTo.of_eq rfl | exact binds_K (by k_in) rfl (by k_is) rfl rfl rfl | fail); (case zqc5 => decide); (case zqkB => exact locs rfl); (case zqc2 | zqc3 | zqc4 => exact rfl); k_whole; intro g'Z L'Z h'Z FG'Z F'Z N'Z B'Z X'Z T'Z; (try dsimp only); (try k_lift B'Z); (try k_fold); refine name_A ?_; intro aA8; have hN8 := True.intro; have hO8 := True.intro) | (kp_kind "rest"; refine' kp_rest ?k1 ?k2 ?k3 ?k4 ?k5 ?zqkA ?zqkF ?kK ?zqk6 ?zqk7 ?zqk8 ?zqkV ?zqkP ?zqkG ?zqkB ?_ ?zqc2 ?zqc3 ?zqc4 ?zqc5; (case zqkA | zqkF => exact rfl); (case kK => assumption); (case k1 | k2 => k_asm); (case k3 | k4 | k5 => k_asm); (case zqk6 | zqk7 => k_is); (case zqk8 => k_room); (case zqkV | zqkP => exact rfl); (case zqkG => exact fun _ => rfl); (case zqkB => exact fun _ => locs rfl); (case zqc5 => decide); (case zqc2 | zqc3 | zqc4 => exact rfl); k_whole; intro D'Z g'Z L'Z h'Z l1Z FG'Z F'Z N'Z B'Z X'Z T'Z; (try k_lt l1Z); (try dsimp only); (try k_lift B'Z); (try k_fold); refine name_A ?_; intro aA8; have hN8 := True.intro; have hO8 := True.intro) | (kp_kind "both"; refine' kp_both ?k1 ?k2 ?k3 ?k4 ?k5 ?zqkA ?zqkF ?kK ?zqk6 ?zqk7 ?zqk8 ?zqkV ?zqkX ?zqkQ ?zqkM ?zqkN ?zqkD ?zqkR ?zqkP ?zqkS ?zqkT ?zqkB ?_ ?zqc2 ?zqc3 ?zqc4 ?zqc5; (case zqkA | zqkF => exact rfl); (case kK => assumption); (case k1 | k2 => k_asm); (case k3 | k4 | k5 => k_asm); (case zqk6 | zqk7 => k_is); (case zqk8 => k_room); (case zqkV | zqkX => kp_lit); (case zqkQ | zqkM | zqkN => exact rfl); (case zqkD => kp_flats); (case zqkR | zqkP => exact rfl); (case zqkS => exact fun _ => rfl); (case zqkT => exact fun _ _ => rfl); (case zqkB => exact fun _ _ => locs rfl); (case zqc5 => decide); (case zqc2 | zqc3 | zqc4 => exact rfl); k_whole; intro C'Z D'Z o'Z g'Z L'Z h'Z tk'Z l1Z l2Z lo'Z hs'Z fs'Z FG'Z F'Z N'Z B'Z X'Z T'Z; (try k_lt l1Z); (try k_lt2 l2Z); (try dsimp only); (try k_lift B'Z); (try k_fold); refine name_A ?_; intro aA8; have hN8 := True.intro; have hO8 := True.intro))
  repeat' (first | (k_unfold; (try dsimp only)) | (k_end; (with_reducible refine hN8 _ _ ?_); intro kN8; clear hN8 hO8; (try clear qN8); first | with_reducible refine execs_one ?_ | (refine execs_more ?_; intro qN8 hN8 hO8)) | (k_end; (with_reducible refine hO8 _ _ ?zn8 ?_); (case zn8 => first | exact ne_ret _ | exact ne_brk | exact ne_cont); clear hN8 hO8; (try clear qN8)) | (k_end; wrow_close) | ((with_reducible show wpAny _ _ (setAttr _ _ _) _ _ _); (first | ((with_reducible show wpAny _ _ (setAttr (Value.ref _) (Str.ofString "infile") _) _ _ _); (k_here; k_dflt (refine' lex_set_inf ?k1 ?k2 ?k3 ?k4 ?k5 ?_; (case k1 | k2 | k3 => k_asm); (case k4 => k_mem); (case k5 => k_upd); k_whole); intro h'Z F'Z N'Z; (try k_sweep))) | ((with_reducible show wpAny _ _ (setAttr (Value.ref _) (Str.ofString "instream") _) _ _ _); (k_here; k_dflt (refine' lex_set_inst ?k1 ?k2 ?k3 ?k4 ?k5 ?_; (case k1 | k2 | k3 => k_asm); (case k4 => k_mem); (case k5 => k_upd); k_whole); intro h'Z F'Z N'Z; (try k_sweep))) | ((with_reducible show wpAny _ _ (setAttr (Value.ref _) (Str.ofString "token") _) _ _ _); (k_here; k_dflt (refine' lex_set_tok ?k1 ?k2 ?k3 ?k4 ?k5 ?_; (case k1 | k2 | k3 => k_asm); (case k4 => k_mem); (case k5 => k_upd); k_whole); intro h'Z F'Z N'Z; (try k_sweep))) | ((with_reducible show wpAny _ _ (setAttr (Value.ref _) (Str.ofString "lineno") _) _ _ _); (k_here; k_dflt (refine' lex_set_line ?k1 ?k2 ?k3 ?k4 ?k5 ?_; (case k1 | k2 | k3 => k_asm); (case k4 => k_mem); (case k5 => k_upd); k_whole); intro h'Z F'Z N'Z; (try k_sweep))) | ((with_reducible show wpAny _ _ (setAttr (Value.ref _) (Str.ofString "state") _) _ _ _); (k_here; k_dflt (refine' lex_set_state ?k1 ?k2 ?k3 ?k4 ?k5 ?_; (case k1 | k2 | k3 => k_asm); (case k4 => k_mem); (case k5 => k_upd); k_whole); intro h'Z F'Z N'Z; (try k_sweep))))) | ((with_reducible show wpAny _ _ (exec _ _) _ _ _); (first | ((with_reducible show wpAny _ _ (exec (Stmt.While (Expr.Constant _ _ _) _ _ _) _) _ _ _); (k_here; refine stop_in ?_)) | ((with_reducible show wpAny _ _ (exec (Stmt.If _ _ _ _) _) _ _ _); (k_here; refine wpAny_If ?_)))) | (k_here; (with_reducible show wpAny _ _ (call (Value.ref 533) [Value.ref _, Value.int 1 _]) _ _ _); k_dflt (refine' read_use ?zqpx ?zqpk ?zqpR ?zqpS ?zqp2 ?zqpb ?k1 ?k2 ?k3 ?k4 ?k5 ?kK ?kd ?ku ?_; tb_rel; (case zqpx | zqpk => assumption); (case zqpR => k_all); (case zqpS | zqp2 | zqpb => assumption); intro t9Z tp9Z h9Z tk9Z F9Z N9Z; (try dsimp only); (try k_fold))) | ((with_reducible show wpAny _ _ (compareOp _ _ _) _ _ _); (first | (k_here; (with_reducible show wpAny _ _ (compareOp CmpOp.NotIn (Value.str _ _) (Value.str _ _)) _ _ _); (first | (refine notin_known (b := false) (by assumption) ?_) | (refine notin_known (b := true) (by assumption) ?_) | (refine notin_known (b := false) (by decide +kernel) ?_) | (refine notin_known (b := true) (by decide +kernel) ?_)); (try simp only [Bool.not_false, Bool.not_true])) | (k_here; (with_reducible show wpAny _ _ (compareOp CmpOp.In (Value.str _ _) (Value.str _ _)) _ _ _); first | (refine in_known (b := false) (by assumption) ?_) | (refine in_known (b := true) (by assumption) ?_) | (refine in_known (b := false) (by decide +kernel) ?_) | (refine in_known (b := true) (by decide +kernel) ?_)))) | (k_here; (with_reducible show wpAny _ _ (truthy (Value.str _ _)) _ _ _); refine truthy_long (by assumption) (by omega) ?_; intro _) | ((with_reducible show wpAny _ _ (execs _ _) _ _ _); (first | ((with_reducible show wpAny _ _ (execs [] _) _ _ _); (k_here; refine wpAny_execs_nil ?_)) | ((with_reducible show wpAny _ _ (execs (_ :: _) _) _ _ _); (k_here; (try dsimp only); (try k_fold); first | with_reducible refine execs_one ?_ | (refine execs_more ?_; intro qN8 hN8 hO8))))) | walk1 | ((with_reducible show wpAny _ _ _ _ _ _); dsimp only) | (leave1; walk_say "STEP leave1"; try dsimp only) | fail "no step")
  unfold Stop
  refine ksw_while (σ := TokSt) (tokLed w X D S DS c sc inf ti buf R) (fun _ => []) (fun _ => True) [Str.ofString "nextchar"] (TokInv buf k line) (fun q => buf.length - q.k + 1) ⟨k, [], Str.ofString "", line, tp, tl, tt, .str (Str.ofString " ") ts⟩ (by assumption) (by assumption) trivial (fun _ h => nomatch h) ⟨by assumption, rfl, by simp, hE, empty_eq, Nat.zero_le _, .inl ⟨rfl, _, rfl⟩⟩ ?_
  rintro ⟨k1, tok, x, line1, tp1, tl1, tt1, st1⟩ u h' tk' - ⟨i1, i2, i3, i4, i6, i7, i5⟩ F1 N1
  have n5' : DS ≠ D := n5.symm
  have n2' : DS ≠ X := n2.symm
  dsimp only at *
  simp only [tokLed] at N1
  cases hrest : buf.cps.toList.drop k1 with
  | nil =>
    rw [hrest] at i2 i4 i5
    rcases i5 with ⟨rfl, t1, rfl⟩ | ⟨_, h9, _⟩
    · have px : (⟨((buf.cps.toList.drop k1).take 1).toArray⟩ : Str) = Str.ofString "" := by rw [hrest, empty_eq]; rfl
      have pk : k1 + ((buf.cps.toList.drop k1).take 1).length = k1 := by rw [hrest]; rfl
      rw [← empty_eq] at i6
      subst i6
      have he : (Str.ofString "" == Str.ofString "") = true := beq_self_eq_true _
      (try k_sweep)
      repeat' (first | (k_unfold; (try dsimp only)) | (k_end; (with_reducible refine hN8 _ _ ?_); intro kN8; clear hN8 hO8; (try clear qN8); first | with_reducible refine execs_one ?_ | (refine execs_more ?_; intro qN8 hN8 hO8)) | (k_end; (with_reducible refine hO8 _ _ ?zn8 ?_); (case zn8 => first | exact ne_ret _ | exact ne_brk | exact ne_cont); clear hN8 hO8; (try clear qN8)) | (k_end; wrow_close) | ((with_reducible show wpAny _ _ (setAttr _ _ _) _ _ _); (first | ((with_reducible show wpAny _ _ (setAttr (Value.ref _) (Str.ofString "infile") _) _ _ _); (k_here; k_dflt (refine' lex_set_inf ?k1 ?k2 ?k3 ?k4 ?k5 ?_; (case k1 | k2 | k3 => k_asm); (case k4 => k_mem); (case k5 => k_upd); k_whole); intro h'Z F'Z N'Z; (try k_sweep))) | ((with_reducible show wpAny _ _ (setAttr (Value.ref _) (Str.ofString "instream") _) _ _ _); (k_here; k_dflt (refine' lex_set_inst ?k1 ?k2 ?k3 ?k4 ?k5 ?_; (case k1 | k2 | k3 => k_asm); (case k4 => k_mem); (case k5 => k_upd); k_whole); intro h'Z F'Z N'Z; (try k_sweep))) | ((with_reducible show wpAny _ _ (setAttr (Value.ref _) (Str.ofString "token") _) _ _ _); (k_here; k_dflt (refine' lex_set_tok ?k1 ?k2 ?k3 ?k4 ?k5 ?_; (case k1 | k2 | k3 => k_asm); (case k4 => k_mem); (case k5 => k_upd); k_whole); intro h'Z F'Z N'Z; (try k_sweep))) | ((with_reducible show wpAny _ _ (setAttr (Value.ref _) (Str.ofString "lineno") _) _ _ _); (k_here; k_dflt (refine' lex_set_line ?k1 ?k2 ?k3 ?k4 ?k5 ?_; (case k1 | k2 | k3 => k_asm); (case k4 => k_mem); (case k5 => k_upd); k_whole); intro h'Z F'Z N'Z; (try k_sweep))) | ((with_reducible show wpAny _ _ (setAttr (Value.ref _) (Str.ofString "state") _) _ _ _); (k_here; k_dflt (refine' lex_set_state ?k1 ?k2 ?k3 ?k4 ?k5 ?_; (case k1 | k2 | k3 => k_asm); (case k4 => k_mem); (case k5 => k_upd); k_whole); intro h'Z F'Z N'Z; (try k_sweep))))) | ((with_reducible show wpAny _ _ (exec _ _) _ _ _); (first | ((with_reducible show wpAny _ _ (exec (Stmt.While (Expr.Constant _ _ _) _ _ _) _) _ _ _); (k_here; refine stop_in ?_)) | ((with_reducible show wpAny _ _ (exec (Stmt.If _ _ _ _) _) _ _ _); (k_here; refine wpAny_If ?_)))) | (k_here; (with_reducible show wpAny _ _ (call (Value.ref 533) [Value.ref _, Value.int 1 _]) _ _ _); k_dflt (refine' read_use ?zqpx ?zqpk ?zqpR ?zqpS ?zqp2 ?zqpb ?k1 ?k2 ?k3 ?k4 ?k5 ?kK ?kd ?ku ?_; tb_rel; (case zqpx | zqpk => assumption); (case zqpR => k_all); (case zqpS | zqp2 | zqpb => assumption); intro t9Z tp9Z h9Z tk9Z F9Z N9Z; (try dsimp only); (try k_fold))) | ((with_reducible show wpAny _ _ (compareOp _ _ _) _ _ _); (first | (k_here; (with_reducible show wpAny _ _ (compareOp CmpOp.NotIn (Value.str _ _) (Value.str _ _)) _ _ _); (first | (refine notin_known (b := false) (by assumption) ?_) | (refine notin_known (b := true) (by assumption) ?_) | (refine notin_known (b := false) (by decide +kernel) ?_) | (refine notin_known (b := true) (by decide +kernel) ?_)); (try simp only [Bool.not_false, Bool.not_true])) | (k_here; (with_reducible show wpAny _ _ (compareOp CmpOp.In (Value.str _ _) (Value.str _ _)) _ _ _); first | (refine in_known (b := false) (by assumption) ?_) | (refine in_known (b := true) (by assumption) ?_) | (refine in_known (b := false) (by decide +kernel) ?_) | (refine in_known (b := true) (by decide +kernel) ?_)))) | (k_here; (with_reducible show wpAny _ _ (truthy (Value.str _ _)) _ _ _); refine truthy_long (by assumption) (by omega) ?_; intro _) | ((with_reducible show wpAny _ _ (execs _ _) _ _ _); (first | ((with_reducible show wpAny _ _ (execs [] _) _ _ _); (k_here; refine wpAny_execs_nil ?_)) | ((with_reducible show wpAny _ _ (execs (_ :: _) _) _ _ _); (k_here; (try dsimp only); (try k_fold); first | with_reducible refine execs_one ?_ | (refine execs_more ?_; intro qN8 hN8 hO8))))) | walk1 | ((with_reducible show wpAny _ _ _ _ _ _); dsimp only) | (leave1; walk_say "STEP leave1"; try dsimp only) | fail "no step")
      have hk2 : buf.length = k1 := by have := List.drop_eq_nil_iff.mp hrest; omega
      obtain rfl : line1 = line := by simpa using i3
      refine hret _ _ _ _ (by assumption) (by assumption) ?_
      unfold TokPost
      rw [← i2]
      exact ⟨_, _, _, rfl, by rw [hk2]⟩
    · exact absurd rfl h9
  | cons ch r =>
    rw [hrest] at i2 i4 i5
    have hk1 : k1 < buf.length := by
      have : (buf.cps.toList.drop k1).length = r.length + 1 := by rw [hrest]; rfl
      rw [List.length_drop, hlen] at this; omega
    have hdrop : buf.cps.toList.drop (k1 + 1) = r := by rw [← List.drop_drop, hrest]; rfl
    have pk : k1 + ((buf.cps.toList.drop k1).take 1).length = k1 + 1 := by rw [hrest]; rfl
    obtain ⟨y, hy⟩ : ∃ y : Str, y = ⟨#[ch]⟩ := ⟨_, rfl⟩
    have px : (⟨((buf.cps.toList.drop k1).take 1).toArray⟩ : Str) = y := by rw [hrest, hy]; rfl
    have hy6 := one_line hy
    obtain ⟨line2, hl2⟩ : ∃ l : Int, l = line1 + ((if ch = 10 then 1 else 0 : Nat) : Int) := ⟨_, rfl⟩
    (try k_sweep)
    repeat' (first | (k_unfold; (try dsimp only)) | (k_end; (with_reducible refine hN8 _ _ ?_); intro kN8; clear hN8 hO8; (try clear qN8); first | with_reducible refine execs_one ?_ | (refine execs_more ?_; intro qN8 hN8 hO8)) | (k_end; (with_reducible refine hO8 _ _ ?zn8 ?_); (case zn8 => first | exact ne_ret _ | exact ne_brk | exact ne_cont); clear hN8 hO8; (try clear qN8)) | (k_end; wrow_close) | ((with_reducible show wpAny _ _ (exec _ _) _ _ _); (first | ((with_reducible show wpAny _ _ (exec (Stmt.If (Expr.Compare _ _ _ _) _ _ _) _) _ _ _); (k_here; refine stop_in ?_)) | ((with_reducible show wpAny _ _ (exec (Stmt.While (Expr.Constant _ _ _) _ _ _) _) _ _ _); (k_here; refine stop_in ?_)) | ((with_reducible show wpAny _ _ (exec (Stmt.If _ _ _ _) _) _ _ _); (k_here; refine wpAny_If ?_)))) | ((with_reducible show wpAny _ _ (setAttr _ _ _) _ _ _); (first | ((with_reducible show wpAny _ _ (setAttr (Value.ref _) (Str.ofString "infile") _) _ _ _); (k_here; k_dflt (refine' lex_set_inf ?k1 ?k2 ?k3 ?k4 ?k5 ?_; (case k1 | k2 | k3 => k_asm); (case k4 => k_mem); (case k5 => k_upd); k_whole); intro h'Z F'Z N'Z; (try k_sweep))) | ((with_reducible show wpAny _ _ (setAttr (Value.ref _) (Str.ofString "instream") _) _ _ _); (k_here; k_dflt (refine' lex_set_inst ?k1 ?k2 ?k3 ?k4 ?k5 ?_; (case k1 | k2 | k3 => k_asm); (case k4 => k_mem); (case k5 => k_upd); k_whole); intro h'Z F'Z N'Z; (try k_sweep))) | ((with_reducible show wpAny _ _ (setAttr (Value.ref _) (Str.ofString "token") _) _ _ _); (k_here; k_dflt (refine' lex_set_tok ?k1 ?k2 ?k3 ?k4 ?k5 ?_; (case k1 | k2 | k3 => k_asm); (case k4 => k_mem); (case k5 => k_upd); k_whole); intro h'Z F'Z N'Z; (try k_sweep))) | ((with_reducible show wpAny _ _ (setAttr (Value.ref _) (Str.ofString "lineno") _) _ _ _); (k_here; k_dflt (refine' lex_set_line ?k1 ?k2 ?k3 ?k4 ?k5 ?_; (case k1 | k2 | k3 => k_asm); (case k4 => k_mem); (case k5 => k_upd); k_whole); intro h'Z F'Z N'Z; (try k_sweep))) | ((with_reducible show wpAny _ _ (setAttr (Value.ref _) (Str.ofString "state") _) _ _ _); (k_here; k_dflt (refine' lex_set_state ?k1 ?k2 ?k3 ?k4 ?k5 ?_; (case k1 | k2 | k3 => k_asm); (case k4 => k_mem); (case k5 => k_upd); k_whole); intro h'Z F'Z N'Z; (try k_sweep))))) | (k_here; (with_reducible show wpAny _ _ (call (Value.ref 533) [Value.ref _, Value.int 1 _]) _ _ _); k_dflt (refine' read_use ?zqpx ?zqpk ?zqpR ?zqpS ?zqp2 ?zqpb ?k1 ?k2 ?k3 ?k4 ?k5 ?kK ?kd ?ku ?_; tb_rel; (case zqpx | zqpk => assumption); (case zqpR => k_all); (case zqpS | zqp2 | zqpb => assumption); intro t9Z tp9Z h9Z tk9Z F9Z N9Z; (try dsimp only); (try k_fold))) | ((with_reducible show wpAny _ _ (compareOp _ _ _) _ _ _); (first | (k_here; (with_reducible show wpAny _ _ (compareOp CmpOp.NotIn (Value.str _ _) (Value.str _ _)) _ _ _); (first | (refine notin_known (b := false) (by assumption) ?_) | (refine notin_known (b := true) (by assumption) ?_) | (refine notin_known (b := false) (by decide +kernel) ?_) | (refine notin_known (b := true) (by decide +kernel) ?_)); (try simp only [Bool.not_false, Bool.not_true])) | (k_here; (with_reducible show wpAny _ _ (compareOp CmpOp.In (Value.str _ _) (Value.str _ _)) _ _ _); first | (refine in_known (b := false) (by assumption) ?_) | (refine in_known (b := true) (by assumption) ?_) | (refine in_known (b := false) (by decide +kernel) ?_) | (refine in_known (b := true) (by decide +kernel) ?_)))) | (k_here; (with_reducible show wpAny _ _ (truthy (Value.str _ _)) _ _ _); refine truthy_long (by assumption) (by omega) ?_; intro _) | ((with_reducible show wpAny _ _ (execs _ _) _ _ _); (first | ((with_reducible show wpAny _ _ (execs [] _) _ _ _); (k_here; refine wpAny_execs_nil ?_)) | ((with_reducible show wpAny _ _ (execs (_ :: _) _) _ _ _); (k_here; (try dsimp only); (try k_fold); first | with_reducible refine execs_one ?_ | (refine execs_more ?_; intro qN8 hN8 hO8))))) | walk1 | ((with_reducible show wpAny _ _ _ _ _ _); dsimp only) | (leave1; walk_say "STEP leave1"; try dsimp only) | fail "no step")
    unfold Stop
    rename Fr _ _ _ (fun y => _) => F4
    rename News _ _ _ (_ :: _) => N4
    refine mid_point (fun fl led => fl = .next ∧ ∃ tp2 tl2, led = (S, instObj 587 DS) :: (DS, sioD w sc buf ((k1 + 1 : Nat) : Int) tp2) :: (X, instObj 722 D) :: (D, lexD w c S inf ti st1 line2 tl2 x tt1) :: R) F4 ?_ ?_
    · refine wpAny_If ?_
      cases hy3 : (y == Str.ofString "\n") with
      | true =>
        rw [hy3] at hy6
        have e : line1 + 1 = line2 := by rw [hl2, if_pos (of_decide_eq_true hy6.symm)]; rfl
        repeat' (first | (k_unfold; (try dsimp only)) | (k_end; (with_reducible refine hN8 _ _ ?_); intro kN8; clear hN8 hO8; (try clear qN8); first | with_reducible refine execs_one ?_ | (refine execs_more ?_; intro qN8 hN8 hO8)) | (k_end; (with_reducible refine hO8 _ _ ?zn8 ?_); (case zn8 => first | exact ne_ret _ | exact ne_brk | exact ne_cont); clear hN8 hO8; (try clear qN8)) | (k_end; wrow_close) | ((with_reducible show wpAny _ _ (setAttr _ _ _) _ _ _); (first | ((with_reducible show wpAny _ _ (setAttr (Value.ref _) (Str.ofString "infile") _) _ _ _); (k_here; k_dflt (refine' lex_set_inf ?k1 ?k2 ?k3 ?k4 ?k5 ?_; (case k1 | k2 | k3 => k_asm); (case k4 => k_mem); (case k5 => k_upd); k_whole); intro h'Z F'Z N'Z; (try k_sweep))) | ((with_reducible show wpAny _ _ (setAttr (Value.ref _) (Str.ofString "instream") _) _ _ _); (k_here; k_dflt (refine' lex_set_inst ?k1 ?k2 ?k3 ?k4 ?k5 ?_; (case k1 | k2 | k3 => k_asm); (case k4 => k_mem); (case k5 => k_upd); k_whole); intro h'Z F'Z N'Z; (try k_sweep))) | ((with_reducible show wpAny _ _ (setAttr (Value.ref _) (Str.ofString "token") _) _ _ _); (k_here; k_dflt (refine' lex_set_tok ?k1 ?k2 ?k3 ?k4 ?k5 ?_; (case k1 | k2 | k3 => k_asm); (case k4 => k_mem); (case k5 => k_upd); k_whole); intro h'Z F'Z N'Z; (try k_sweep))) | ((with_reducible show wpAny _ _ (setAttr (Value.ref _) (Str.ofString "lineno") _) _ _ _); (k_here; k_dflt (refine' lex_set_line ?k1 ?k2 ?k3 ?k4 ?k5 ?_; (case k1 | k2 | k3 => k_asm); (case k4 => k_mem); (case k5 => k_upd); k_whole); intro h'Z F'Z N'Z; (try k_sweep))) | ((with_reducible show wpAny _ _ (setAttr (Value.ref _) (Str.ofString "state") _) _ _ _); (k_here; k_dflt (refine' lex_set_state ?k1 ?k2 ?k3 ?k4 ?k5 ?_; (case k1 | k2 | k3 => k_asm); (case k4 => k_mem); (case k5 => k_upd); k_whole); intro h'Z F'Z N'Z; (try k_sweep))))) | ((with_reducible show wpAny _ _ (exec _ _) _ _ _); (first | ((with_reducible show wpAny _ _ (exec (Stmt.While (Expr.Constant _ _ _) _ _ _) _) _ _ _); (k_here; refine stop_in ?_)) | ((with_reducible show wpAny _ _ (exec (Stmt.If _ _ _ _) _) _ _ _); (k_here; refine wpAny_If ?_)))) | (k_here; (with_reducible show wpAny _ _ (call (Value.ref 533) [Value.ref _, Value.int 1 _]) _ _ _); k_dflt (refine' read_use ?zqpx ?zqpk ?zqpR ?zqpS ?zqp2 ?zqpb ?k1 ?k2 ?k3 ?k4 ?k5 ?kK ?kd ?ku ?_; tb_rel; (case zqpx | zqpk => assumption); (case zqpR => k_all); (case zqpS | zqp2 | zqpb => assumption); intro t9Z tp9Z h9Z tk9Z F9Z N9Z; (try dsimp only); (try k_fold))) | ((with_reducible show wpAny _ _ (compareOp _ _ _) _ _ _); (first | (k_here; (with_reducible show wpAny _ _ (compareOp CmpOp.NotIn (Value.str _ _) (Value.str _ _)) _ _ _); (first | (refine notin_known (b := false) (by assumption) ?_) | (refine notin_known (b := true) (by assumption) ?_) | (refine notin_known (b := false) (by decide +kernel) ?_) | (refine notin_known (b := true) (by decide +kernel) ?_)); (try simp only [Bool.not_false, Bool.not_true])) | (k_here; (with_reducible show wpAny _ _ (compareOp CmpOp.In (Value.str _ _) (Value.str _ _)) _ _ _); first | (refine in_known (b := false) (by assumption) ?_) | (refine in_known (b := true) (by assumption) ?_) | (refine in_known (b := false) (by decide +kernel) ?_) | (refine in_known (b := true) (by decide +kernel) ?_)))) | (k_here; (with_reducible show wpAny _ _ (truthy (Value.str _ _)) _ _ _); refine truthy_long (by assumption) (by omega) ?_; intro _) | ((with_reducible show wpAny _ _ (execs _ _) _ _ _); (first | ((with_reducible show wpAny _ _ (execs [] _) _ _ _); (k_here; refine wpAny_execs_nil ?_)) | ((with_reducible show wpAny _ _ (execs (_ :: _) _) _ _ _); (k_here; (try dsimp only); (try k_fold); first | with_reducible refine execs_one ?_ | (refine execs_more ?_; intro qN8 hN8 hO8))))) | walk1 | ((with_reducible show wpAny _ _ _ _ _ _); dsimp only) | (leave1; walk_say "STEP leave1"; try dsimp only) | fail "no step")
        exact mid_in _ (by assumption) (by assumption) ⟨rfl, _, _, by rw [e]⟩
      | false =>
        rw [hy3] at hy6
        have e : line1 = line2 := by rw [hl2, if_neg (of_decide_eq_false hy6.symm)]; exact (Int.add_zero _).symm
        repeat' (first | (k_unfold; (try dsimp only)) | (k_end; (with_reducible refine hN8 _ _ ?_); intro kN8; clear hN8 hO8; (try clear qN8); first | with_reducible refine execs_one ?_ | (refine execs_more ?_; intro qN8 hN8 hO8)) | (k_end; (with_reducible refine hO8 _ _ ?zn8 ?_); (case zn8 => first | exact ne_ret _ | exact ne_brk | exact ne_cont); clear hN8 hO8; (try clear qN8)) | (k_end; wrow_close) | ((with_reducible show wpAny _ _ (setAttr _ _ _) _ _ _); (first | ((with_reducible show wpAny _ _ (setAttr (Value.ref _) (Str.ofString "infile") _) _ _ _); (k_here; k_dflt (refine' lex_set_inf ?k1 ?k2 ?k3 ?k4 ?k5 ?_; (case k1 | k2 | k3 => k_asm); (case k4 => k_mem); (case k5 => k_upd); k_whole); intro h'Z F'Z N'Z; (try k_sweep))) | ((with_reducible show wpAny _ _ (setAttr (Value.ref _) (Str.ofString "instream") _) _ _ _); (k_here; k_dflt (refine' lex_set_inst ?k1 ?k2 ?k3 ?k4 ?k5 ?_; (case k1 | k2 | k3 => k_asm); (case k4 => k_mem); (case k5 => k_upd); k_whole); intro h'Z F'Z N'Z; (try k_sweep))) | ((with_reducible show wpAny _ _ (setAttr (Value.ref _) (Str.ofString "token") _) _ _ _); (k_here; k_dflt (refine' lex_set_tok ?k1 ?k2 ?k3 ?k4 ?k5 ?_; (case k1 | k2 | k3 => k_asm); (case k4 => k_mem); (case k5 => k_upd); k_whole); intro h'Z F'Z N'Z; (try k_sweep))) | ((with_reducible show wpAny _ _ (setAttr (Value.ref _) (Str.ofString "lineno") _) _ _ _); (k_here; k_dflt (refine' lex_set_line ?k1 ?k2 ?k3 ?k4 ?k5 ?_; (case k1 | k2 | k3 => k_asm); (case k4 => k_mem); (case k5 => k_upd); k_whole); intro h'Z F'Z N'Z; (try k_sweep))) | ((with_reducible show wpAny _ _ (setAttr (Value.ref _) (Str.ofString "state") _) _ _ _); (k_here; k_dflt (refine' lex_set_state ?k1 ?k2 ?k3 ?k4 ?k5 ?_; (case k1 | k2 | k3 => k_asm); (case k4 => k_mem); (case k5 => k_upd); k_whole); intro h'Z F'Z N'Z; (try k_sweep))))) | ((with_reducible show wpAny _ _ (exec _ _) _ _ _); (first | ((with_reducible show wpAny _ _ (exec (Stmt.While (Expr.Constant _ _ _) _ _ _) _) _ _ _); (k_here; refine stop_in ?_)) | ((with_reducible show wpAny _ _ (exec (Stmt.If _ _ _ _) _) _ _ _); (k_here; refine wpAny_If ?_)))) | (k_here; (with_reducible show wpAny _ _ (call (Value.ref 533) [Value.ref _, Value.int 1 _]) _ _ _); k_dflt (refine' read_use ?zqpx ?zqpk ?zqpR ?zqpS ?zqp2 ?zqpb ?k1 ?k2 ?k3 ?k4 ?k5 ?kK ?kd ?ku ?_; tb_rel; (case zqpx | zqpk => assumption); (case zqpR => k_all); (case zqpS | zqp2 | zqpb => assumption); intro t9Z tp9Z h9Z tk9Z F9Z N9Z; (try dsimp only); (try k_fold))) | ((with_reducible show wpAny _ _ (compareOp _ _ _) _ _ _); (first | (k_here; (with_reducible show wpAny _ _ (compareOp CmpOp.NotIn (Value.str _ _) (Value.str _ _)) _ _ _); (first | (refine notin_known (b := false) (by assumption) ?_) | (refine notin_known (b := true) (by assumption) ?_) | (refine notin_known (b := false) (by decide +kernel) ?_) | (refine notin_known (b := true) (by decide +kernel) ?_)); (try simp only [Bool.not_false, Bool.not_true])) | (k_here; (with_reducible show wpAny _ _ (compareOp CmpOp.In (Value.str _ _) (Value.str _ _)) _ _ _); first | (refine in_known (b := false) (by assumption) ?_) | (refine in_known (b := true) (by assumption) ?_) | (refine in_known (b := false) (by decide +kernel) ?_) | (refine in_known (b := true) (by decide +kernel) ?_)))) | (k_here; (with_reducible show wpAny _ _ (truthy (Value.str _ _)) _ _ _); refine truthy_long (by assumption) (by omega) ?_; intro _) | ((with_reducible show wpAny _ _ (execs _ _) _ _ _); (first | ((with_reducible show wpAny _ _ (execs [] _) _ _ _); (k_here; refine wpAny_execs_nil ?_)) | ((with_reducible show wpAny _ _ (execs (_ :: _) _) _ _ _); (k_here; (try dsimp only); (try k_fold); first | with_reducible refine execs_one ?_ | (refine execs_more ?_; intro qN8 hN8 hO8))))) | walk1 | ((with_reducible show wpAny _ _ _ _ _ _); dsimp only) | (leave1; walk_say "STEP leave1"; try dsimp only) | fail "no step")
        exact mid_in _ (by assumption) (by assumption) ⟨rfl, _, _, by rw [e]⟩
    rintro fl h20 tk20 _ F20 N20 ⟨rfl, tp2, tl2, rfl⟩
    clear F4 N4 px
    by_cases h47 : ch = 47
    · have hyw : y = Str.ofString "/" := by rw [hy, h47, slash_eq]
      have hl0 : line2 = line1 := by rw [hl2, h47]; exact Int.add_zero _
      rw [hyw] at F20
      rw [hl0] at N20
      rw [h47] at i2 i4
      clear hy6 hl2
      rcases i5 with ⟨rfl, t1, rfl⟩ | ⟨h8, h9, t1, rfl⟩
      · rw [← empty_eq] at i6
        subst i6
        repeat' (first | (k_unfold; (try dsimp only)) | (k_end; (with_reducible refine hN8 _ _ ?_); intro kN8; clear hN8 hO8; (try clear qN8); first | with_reducible refine execs_one ?_ | (refine execs_more ?_; intro qN8 hN8 hO8)) | (k_end; (with_reducible refine hO8 _ _ ?zn8 ?_); (case zn8 => first | exact ne_ret _ | exact ne_brk | exact ne_cont); clear hN8 hO8; (try clear qN8)) | (k_end; wrow_close) | ((with_reducible show wpAny _ _ (setAttr _ _ _) _ _ _); (first | ((with_reducible show wpAny _ _ (setAttr (Value.ref _) (Str.ofString "infile") _) _ _ _); (k_here; k_dflt (refine' lex_set_inf ?k1 ?k2 ?k3 ?k4 ?k5 ?_; (case k1 | k2 | k3 => k_asm); (case k4 => k_mem); (case k5 => k_upd); k_whole); intro h'Z F'Z N'Z; (try k_sweep))) | ((with_reducible show wpAny _ _ (setAttr (Value.ref _) (Str.ofString "instream") _) _ _ _); (k_here; k_dflt (refine' lex_set_inst ?k1 ?k2 ?k3 ?k4 ?k5 ?_; (case k1 | k2 | k3 => k_asm); (case k4 => k_mem); (case k5 => k_upd); k_whole); intro h'Z F'Z N'Z; (try k_sweep))) | ((with_reducible show wpAny _ _ (setAttr (Value.ref _) (Str.ofString "token") _) _ _ _); (k_here; k_dflt (refine' lex_set_tok ?k1 ?k2 ?k3 ?k4 ?k5 ?_; (case k1 | k2 | k3 => k_asm); (case k4 => k_mem); (case k5 => k_upd); k_whole); intro h'Z F'Z N'Z; (try k_sweep))) | ((with_reducible show wpAny _ _ (setAttr (Value.ref _) (Str.ofString "lineno") _) _ _ _); (k_here; k_dflt (refine' lex_set_line ?k1 ?k2 ?k3 ?k4 ?k5 ?_; (case k1 | k2 | k3 => k_asm); (case k4 => k_mem); (case k5 => k_upd); k_whole); intro h'Z F'Z N'Z; (try k_sweep))) | ((with_reducible show wpAny _ _ (setAttr (Value.ref _) (Str.ofString "state") _) _ _ _); (k_here; k_dflt (refine' lex_set_state ?k1 ?k2 ?k3 ?k4 ?k5 ?_; (case k1 | k2 | k3 => k_asm); (case k4 => k_mem); (case k5 => k_upd); k_whole); intro h'Z F'Z N'Z; (try k_sweep))))) | ((with_reducible show wpAny _ _ (exec _ _) _ _ _); (first | ((with_reducible show wpAny _ _ (exec (Stmt.While (Expr.Constant _ _ _) _ _ _) _) _ _ _); (k_here; refine stop_in ?_)) | ((with_reducible show wpAny _ _ (exec (Stmt.If _ _ _ _) _) _ _ _); (k_here; refine wpAny_If ?_)))) | (k_here; (with_reducible show wpAny _ _ (call (Value.ref 533) [Value.ref _, Value.int 1 _]) _ _ _); k_dflt (refine' read_use ?zqpx ?zqpk ?zqpR ?zqpS ?zqp2 ?zqpb ?k1 ?k2 ?k3 ?k4 ?k5 ?kK ?kd ?ku ?_; tb_rel; (case zqpx | zqpk => assumption); (case zqpR => k_all); (case zqpS | zqp2 | zqpb => assumption); intro t9Z tp9Z h9Z tk9Z F9Z N9Z; (try dsimp only); (try k_fold))) | ((with_reducible show wpAny _ _ (compareOp _ _ _) _ _ _); (first | (k_here; (with_reducible show wpAny _ _ (compareOp CmpOp.NotIn (Value.str _ _) (Value.str _ _)) _ _ _); (first | (refine notin_known (b := false) (by assumption) ?_) | (refine notin_known (b := true) (by assumption) ?_) | (refine notin_known (b := false) (by decide +kernel) ?_) | (refine notin_known (b := true) (by decide +kernel) ?_)); (try simp only [Bool.not_false, Bool.not_true])) | (k_here; (with_reducible show wpAny _ _ (compareOp CmpOp.In (Value.str _ _) (Value.str _ _)) _ _ _); first | (refine in_known (b := false) (by assumption) ?_) | (refine in_known (b := true) (by assumption) ?_) | (refine in_known (b := false) (by decide +kernel) ?_) | (refine in_known (b := true) (by decide +kernel) ?_)))) | (k_here; (with_reducible show wpAny _ _ (truthy (Value.str _ _)) _ _ _); refine truthy_long (by assumption) (by omega) ?_; intro _) | ((with_reducible show wpAny _ _ (execs _ _) _ _ _); (first | ((with_reducible show wpAny _ _ (execs [] _) _ _ _); (k_here; refine wpAny_execs_nil ?_)) | ((with_reducible show wpAny _ _ (execs (_ :: _) _) _ _ _); (k_here; (try dsimp only); (try k_fold); first | with_reducible refine execs_one ?_ | (refine execs_more ?_; intro qN8 hN8 hO8))))) | walk1 | ((with_reducible show wpAny _ _ _ _ _ _); dsimp only) | (leave1; walk_say "STEP leave1"; try dsimp only) | fail "no step")
        all_goals
          refine tok_end [] (more := []) (by assumption) (by assumption) ?_ ?_
          · exact ⟨hk1, by rw [hdrop]; exact i2, i3, by rw [hdrop]; exact i4.tail, empty_eq, Nat.zero_le _, .inl ⟨rfl, _, rfl⟩⟩
          · dsimp only; omega
      · have hx1 : 0 < x.length := by rw [i6, length_mk]; exact List.length_pos_iff.mpr h8
        have hx2 : x.length ≤ 1000000 := by rw [i6, length_mk]; omega
        have hx3 : (x == Str.ofString "") = false := beq_eq_false_iff_ne.mpr (by rintro rfl; exact absurd hx1 (by decide +kernel))
        repeat' (first | (k_unfold; (try dsimp only)) | (k_end; (with_reducible refine hN8 _ _ ?_); intro kN8; clear hN8 hO8; (try clear qN8); first | with_reducible refine execs_one ?_ | (refine execs_more ?_; intro qN8 hN8 hO8)) | (k_end; (with_reducible refine hO8 _ _ ?zn8 ?_); (case zn8 => first | exact ne_ret _ | exact ne_brk | exact ne_cont); clear hN8 hO8; (try clear qN8)) | (k_end; wrow_close) | ((with_reducible show wpAny _ _ (setAttr _ _ _) _ _ _); (first | ((with_reducible show wpAny _ _ (setAttr (Value.ref _) (Str.ofString "infile") _) _ _ _); (k_here; k_dflt (refine' lex_set_inf ?k1 ?k2 ?k3 ?k4 ?k5 ?_; (case k1 | k2 | k3 => k_asm); (case k4 => k_mem); (case k5 => k_upd); k_whole); intro h'Z F'Z N'Z; (try k_sweep))) | ((with_reducible show wpAny _ _ (setAttr (Value.ref _) (Str.ofString "instream") _) _ _ _); (k_here; k_dflt (refine' lex_set_inst ?k1 ?k2 ?k3 ?k4 ?k5 ?_; (case k1 | k2 | k3 => k_asm); (case k4 => k_mem); (case k5 => k_upd); k_whole); intro h'Z F'Z N'Z; (try k_sweep))) | ((with_reducible show wpAny _ _ (setAttr (Value.ref _) (Str.ofString "token") _) _ _ _); (k_here; k_dflt (refine' lex_set_tok ?k1 ?k2 ?k3 ?k4 ?k5 ?_; (case k1 | k2 | k3 => k_asm); (case k4 => k_mem); (case k5 => k_upd); k_whole); intro h'Z F'Z N'Z; (try k_sweep))) | ((with_reducible show wpAny _ _ (setAttr (Value.ref _) (Str.ofString "lineno") _) _ _ _); (k_here; k_dflt (refine' lex_set_line ?k1 ?k2 ?k3 ?k4 ?k5 ?_; (case k1 | k2 | k3 => k_asm); (case k4 => k_mem); (case k5 => k_upd); k_whole); intro h'Z F'Z N'Z; (try k_sweep))) | ((with_reducible show wpAny _ _ (setAttr (Value.ref _) (Str.ofString "state") _) _ _ _); (k_here; k_dflt (refine' lex_set_state ?k1 ?k2 ?k3 ?k4 ?k5 ?_; (case k1 | k2 | k3 => k_asm); (case k4 => k_mem); (case k5 => k_upd); k_whole); intro h'Z F'Z N'Z; (try k_sweep))))) | ((with_reducible show wpAny _ _ (exec _ _) _ _ _); (first | ((with_reducible show wpAny _ _ (exec (Stmt.While (Expr.Constant _ _ _) _ _ _) _) _ _ _); (k_here; refine stop_in ?_)) | ((with_reducible show wpAny _ _ (exec (Stmt.If _ _ _ _) _) _ _ _); (k_here; refine wpAny_If ?_)))) | (k_here; (with_reducible show wpAny _ _ (call (Value.ref 533) [Value.ref _, Value.int 1 _]) _ _ _); k_dflt (refine' read_use ?zqpx ?zqpk ?zqpR ?zqpS ?zqp2 ?zqpb ?k1 ?k2 ?k3 ?k4 ?k5 ?kK ?kd ?ku ?_; tb_rel; (case zqpx | zqpk => assumption); (case zqpR => k_all); (case zqpS | zqp2 | zqpb => assumption); intro t9Z tp9Z h9Z tk9Z F9Z N9Z; (try dsimp only); (try k_fold))) | ((with_reducible show wpAny _ _ (compareOp _ _ _) _ _ _); (first | (k_here; (with_reducible show wpAny _ _ (compareOp CmpOp.NotIn (Value.str _ _) (Value.str _ _)) _ _ _); (first | (refine notin_known (b := false) (by assumption) ?_) | (refine notin_known (b := true) (by assumption) ?_) | (refine notin_known (b := false) (by decide +kernel) ?_) | (refine notin_known (b := true) (by decide +kernel) ?_)); (try simp only [Bool.not_false, Bool.not_true])) | (k_here; (with_reducible show wpAny _ _ (compareOp CmpOp.In (Value.str _ _) (Value.str _ _)) _ _ _); first | (refine in_known (b := false) (by assumption) ?_) | (refine in_known (b := true) (by assumption) ?_) | (refine in_known (b := false) (by decide +kernel) ?_) | (refine in_known (b := true) (by decide +kernel) ?_)))) | (k_here; (with_reducible show wpAny _ _ (truthy (Value.str _ _)) _ _ _); refine truthy_long (by assumption) (by omega) ?_; intro _) | ((with_reducible show wpAny _ _ (execs _ _) _ _ _); (first | ((with_reducible show wpAny _ _ (execs [] _) _ _ _); (k_here; refine wpAny_execs_nil ?_)) | ((with_reducible show wpAny _ _ (execs (_ :: _) _) _ _ _); (k_here; (try dsimp only); (try k_fold); first | with_reducible refine execs_one ?_ | (refine execs_more ?_; intro qN8 hN8 hO8))))) | walk1 | ((with_reducible show wpAny _ _ _ _ _ _); dsimp only) | (leave1; walk_say "STEP leave1"; try dsimp only) | fail "no step")
        have e : lexGo tok (47 :: r) = some (tok, r) := by
          cases tok with
          | nil => exact absurd rfl h8
          | cons a b => rfl
        refine hret _ _ _ _ (by assumption) (news_sub (by assumption) (fun _ hp => .tail _ hp)) ?_
        unfold TokPost
        rw [← i2, e]
        exact ⟨k1 + 1, _, _, _, _, _, by rw [i6], hk1, hdrop, by rw [← i3]⟩
    · have hy1 : Txt.contains (Str.ofString "/") y = false := by rw [hy, mem_one, slash_eq]; simp [h47]
      have hy2 : Txt.contains (Str.ofString "") y = false := by rw [hy, mem_one, empty_eq]; simp
      have hy4 : 0 < y.length := by rw [hy]; exact Nat.one_pos
      have hy5 : y.length ≤ 1 := by rw [hy]; exact Nat.le_refl 1
      have hgo : lexGo tok (ch :: r) = lexGo (tok ++ [ch]) r := by rw [lexGo_cons, if_neg h47]
      have hnext : buf.cps.toList.drop (k1 + 1) ≠ [] := by rw [hdrop]; exact i4.more h47
      have hL : line2 = line + ((tok ++ [ch]).count 10 : Nat) := by rw [hl2, i3, count_one, Int.natCast_add, Int.add_assoc]
      have hxy : x ++ y = ⟨(tok ++ [ch]).toArray⟩ := by rw [i6, hy]; exact mk_append tok [ch]
      clear hl2 hy6
      rcases i5 with ⟨rfl, t1, rfl⟩ | ⟨h8, h9, t1, rfl⟩
      · rw [← empty_eq] at i6
        subst i6
        repeat' (first | (k_unfold; (try dsimp only)) | (k_end; (with_reducible refine hN8 _ _ ?_); intro kN8; clear hN8 hO8; (try clear qN8); first | with_reducible refine execs_one ?_ | (refine execs_more ?_; intro qN8 hN8 hO8)) | (k_end; (with_reducible refine hO8 _ _ ?zn8 ?_); (case zn8 => first | exact ne_ret _ | exact ne_brk | exact ne_cont); clear hN8 hO8; (try clear qN8)) | (k_end; wrow_close) | ((with_reducible show wpAny _ _ (setAttr _ _ _) _ _ _); (first | ((with_reducible show wpAny _ _ (setAttr (Value.ref _) (Str.ofString "infile") _) _ _ _); (k_here; k_dflt (refine' lex_set_inf ?k1 ?k2 ?k3 ?k4 ?k5 ?_; (case k1 | k2 | k3 => k_asm); (case k4 => k_mem); (case k5 => k_upd); k_whole); intro h'Z F'Z N'Z; (try k_sweep))) | ((with_reducible show wpAny _ _ (setAttr (Value.ref _) (Str.ofString "instream") _) _ _ _); (k_here; k_dflt (refine' lex_set_inst ?k1 ?k2 ?k3 ?k4 ?k5 ?_; (case k1 | k2 | k3 => k_asm); (case k4 => k_mem); (case k5 => k_upd); k_whole); intro h'Z F'Z N'Z; (try k_sweep))) | ((with_reducible show wpAny _ _ (setAttr (Value.ref _) (Str.ofString "token") _) _ _ _); (k_here; k_dflt (refine' lex_set_tok ?k1 ?k2 ?k3 ?k4 ?k5 ?_; (case k1 | k2 | k3 => k_asm); (case k4 => k_mem); (case k5 => k_upd); k_whole); intro h'Z F'Z N'Z; (try k_sweep))) | ((with_reducible show wpAny _ _ (setAttr (Value.ref _) (Str.ofString "lineno") _) _ _ _); (k_here; k_dflt (refine' lex_set_line ?k1 ?k2 ?k3 ?k4 ?k5 ?_; (case k1 | k2 | k3 => k_asm); (case k4 => k_mem); (case k5 => k_upd); k_whole); intro h'Z F'Z N'Z; (try k_sweep))) | ((with_reducible show wpAny _ _ (setAttr (Value.ref _) (Str.ofString "state") _) _ _ _); (k_here; k_dflt (refine' lex_set_state ?k1 ?k2 ?k3 ?k4 ?k5 ?_; (case k1 | k2 | k3 => k_asm); (case k4 => k_mem); (case k5 => k_upd); k_whole); intro h'Z F'Z N'Z; (try k_sweep))))) | ((with_reducible show wpAny _ _ (exec _ _) _ _ _); (first | ((with_reducible show wpAny _ _ (exec (Stmt.While (Expr.Constant _ _ _) _ _ _) _) _ _ _); (k_here; refine stop_in ?_)) | ((with_reducible show wpAny _ _ (exec (Stmt.If _ _ _ _) _) _ _ _); (k_here; refine wpAny_If ?_)))) | (k_here; (with_reducible show wpAny _ _ (call (Value.ref 533) [Value.ref _, Value.int 1 _]) _ _ _); k_dflt (refine' read_use ?zqpx ?zqpk ?zqpR ?zqpS ?zqp2 ?zqpb ?k1 ?k2 ?k3 ?k4 ?k5 ?kK ?kd ?ku ?_; tb_rel; (case zqpx | zqpk => assumption); (case zqpR => k_all); (case zqpS | zqp2 | zqpb => assumption); intro t9Z tp9Z h9Z tk9Z F9Z N9Z; (try dsimp only); (try k_fold))) | ((with_reducible show wpAny _ _ (compareOp _ _ _) _ _ _); (first | (k_here; (with_reducible show wpAny _ _ (compareOp CmpOp.NotIn (Value.str _ _) (Value.str _ _)) _ _ _); (first | (refine notin_known (b := false) (by assumption) ?_) | (refine notin_known (b := true) (by assumption) ?_) | (refine notin_known (b := false) (by decide +kernel) ?_) | (refine notin_known (b := true) (by decide +kernel) ?_)); (try simp only [Bool.not_false, Bool.not_true])) | (k_here; (with_reducible show wpAny _ _ (compareOp CmpOp.In (Value.str _ _) (Value.str _ _)) _ _ _); first | (refine in_known (b := false) (by assumption) ?_) | (refine in_known (b := true) (by assumption) ?_) | (refine in_known (b := false) (by decide +kernel) ?_) | (refine in_known (b := true) (by decide +kernel) ?_)))) | (k_here; (with_reducible show wpAny _ _ (truthy (Value.str _ _)) _ _ _); refine truthy_long (by assumption) (by omega) ?_; intro _) | ((with_reducible show wpAny _ _ (execs _ _) _ _ _); (first | ((with_reducible show wpAny _ _ (execs [] _) _ _ _); (k_here; refine wpAny_execs_nil ?_)) | ((with_reducible show wpAny _ _ (execs (_ :: _) _) _ _ _); (k_here; (try dsimp only); (try k_fold); first | with_reducible refine execs_one ?_ | (refine execs_more ?_; intro qN8 hN8 hO8))))) | walk1 | ((with_reducible show wpAny _ _ _ _ _ _); dsimp only) | (leave1; walk_say "STEP leave1"; try dsimp only) | fail "no step")
        all_goals
          refine tok_end [ch] (more := []) (by assumption) (by assumption) ?_ ?_
          · exact ⟨hk1, by rw [hdrop, ← i2, hgo]; rfl, hL, by rw [hdrop]; exact i4.tail, by rw [hy], by simp, .inr ⟨by simp, hnext, _, rfl⟩⟩
          · dsimp only; omega
      · have hx1 : 0 < x.length := by rw [i6, length_mk]; exact List.length_pos_iff.mpr h8
        have hx2 : x.length ≤ 1000000 := by rw [i6, length_mk]; omega
        repeat' (first | (k_unfold; (try dsimp only)) | (k_end; (with_reducible refine hN8 _ _ ?_); intro kN8; clear hN8 hO8; (try clear qN8); first | with_reducible refine execs_one ?_ | (refine execs_more ?_; intro qN8 hN8 hO8)) | (k_end; (with_reducible refine hO8 _ _ ?zn8 ?_); (case zn8 => first | exact ne_ret _ | exact ne_brk | exact ne_cont); clear hN8 hO8; (try clear qN8)) | (k_end; wrow_close) | ((with_reducible show wpAny _ _ (setAttr _ _ _) _ _ _); (first | ((with_reducible show wpAny _ _ (setAttr (Value.ref _) (Str.ofString "infile") _) _ _ _); (k_here; k_dflt (refine' lex_set_inf ?k1 ?k2 ?k3 ?k4 ?k5 ?_; (case k1 | k2 | k3 => k_asm); (case k4 => k_mem); (case k5 => k_upd); k_whole); intro h'Z F'Z N'Z; (try k_sweep))) | ((with_reducible show wpAny _ _ (setAttr (Value.ref _) (Str.ofString "instream") _) _ _ _); (k_here; k_dflt (refine' lex_set_inst ?k1 ?k2 ?k3 ?k4 ?k5 ?_; (case k1 | k2 | k3 => k_asm); (case k4 => k_mem); (case k5 => k_upd); k_whole); intro h'Z F'Z N'Z; (try k_sweep))) | ((with_reducible show wpAny _ _ (setAttr (Value.ref _) (Str.ofString "token") _) _ _ _); (k_here; k_dflt (refine' lex_set_tok ?k1 ?k2 ?k3 ?k4 ?k5 ?_; (case k1 | k2 | k3 => k_asm); (case k4 => k_mem); (case k5 => k_upd); k_whole); intro h'Z F'Z N'Z; (try k_sweep))) | ((with_reducible show wpAny _ _ (setAttr (Value.ref _) (Str.ofString "lineno") _) _ _ _); (k_here; k_dflt (refine' lex_set_line ?k1 ?k2 ?k3 ?k4 ?k5 ?_; (case k1 | k2 | k3 => k_asm); (case k4 => k_mem); (case k5 => k_upd); k_whole); intro h'Z F'Z N'Z; (try k_sweep))) | ((with_reducible show wpAny _ _ (setAttr (Value.ref _) (Str.ofString "state") _) _ _ _); (k_here; k_dflt (refine' lex_set_state ?k1 ?k2 ?k3 ?k4 ?k5 ?_; (case k1 | k2 | k3 => k_asm); (case k4 => k_mem); (case k5 => k_upd); k_whole); intro h'Z F'Z N'Z; (try k_sweep))))) | ((with_reducible show wpAny _ _ (exec _ _) _ _ _); (first | ((with_reducible show wpAny _ _ (exec (Stmt.While (Expr.Constant _ _ _) _ _ _) _) _ _ _); (k_here; refine stop_in ?_)) | ((with_reducible show wpAny _ _ (exec (Stmt.If _ _ _ _) _) _ _ _); (k_here; refine wpAny_If ?_)))) | (k_here; (with_reducible show wpAny _ _ (call (Value.ref 533) [Value.ref _, Value.int 1 _]) _ _ _); k_dflt (refine' read_use ?zqpx ?zqpk ?zqpR ?zqpS ?zqp2 ?zqpb ?k1 ?k2 ?k3 ?k4 ?k5 ?kK ?kd ?ku ?_; tb_rel; (case zqpx | zqpk => assumption); (case zqpR => k_all); (case zqpS | zqp2 | zqpb => assumption); intro t9Z tp9Z h9Z tk9Z F9Z N9Z; (try dsimp only); (try k_fold))) | ((with_reducible show wpAny _ _ (compareOp _ _ _) _ _ _); (first | (k_here; (with_reducible show wpAny _ _ (compareOp CmpOp.NotIn (Value.str _ _) (Value.str _ _)) _ _ _); (first | (refine notin_known (b := false) (by assumption) ?_) | (refine notin_known (b := true) (by assumption) ?_) | (refine notin_known (b := false) (by decide +kernel) ?_) | (refine notin_known (b := true) (by decide +kernel) ?_)); (try simp only [Bool.not_false, Bool.not_true])) | (k_here; (with_reducible show wpAny _ _ (compareOp CmpOp.In (Value.str _ _) (Value.str _ _)) _ _ _); first | (refine in_known (b := false) (by assumption) ?_) | (refine in_known (b := true) (by assumption) ?_) | (refine in_known (b := false) (by decide +kernel) ?_) | (refine in_known (b := true) (by decide +kernel) ?_)))) | (k_here; (with_reducible show wpAny _ _ (truthy (Value.str _ _)) _ _ _); refine truthy_long (by assumption) (by omega) ?_; intro _) | ((with_reducible show wpAny _ _ (execs _ _) _ _ _); (first | ((with_reducible show wpAny _ _ (execs [] _) _ _ _); (k_here; refine wpAny_execs_nil ?_)) | ((with_reducible show wpAny _ _ (execs (_ :: _) _) _ _ _); (k_here; (try dsimp only); (try k_fold); first | with_reducible refine execs_one ?_ | (refine execs_more ?_; intro qN8 hN8 hO8))))) | walk1 | ((with_reducible show wpAny _ _ _ _ _ _); dsimp only) | (leave1; walk_say "STEP leave1"; try dsimp only) | fail "no step")
        all_goals
          refine tok_end (tok ++ [ch]) (more := [_]) (by assumption) (by assumption) ?_ ?_
          · exact ⟨hk1, by rw [hdrop, ← i2, hgo], hL, by rw [hdrop]; exact i4.tail, hxy, by simp; omega, .inr ⟨by simp, hnext, _, rfl⟩⟩
          · dsimp only; omega
end P08
section P09
theorem off09 : True := by
  w_top off
  trivial
section
variable {prog : Program} {w : World} {A : Around} {E : Value → Shared → Prop} {s : Shared} {env : Env} {h₀ : Heap} {x : Str} {body : List Stmt} {Q : Flow → Shared → Prop}
theorem off_at {m₁ m₀ : Str → Option Value} {x : Str} (h : ∀ z, z ≠ x → m₁ z = m₀ z) (u : Option Value) : (fun y => if y = x then u else m₁ y) = fun y => if y = x then u else m₀ y := by
  funext y
  by_cases hy : y = x
  · rw [if_pos hy, if_pos hy]
  · rw [if_neg hy, if_neg hy, h y hy]
theorem off_self {m₁ m₀ : Str → Option Value} {x : Str} (h : ∀ z, z ≠ x → m₁ z = m₀ z) : m₁ = fun y => if y = x then m₁ x else m₀ y := by
  funext y
  by_cases hy : y = x
  · rw [if_pos hy, hy]
  · rw [if_neg hy, h y hy]
/-- what stands at a turn's end -/
noncomputable abbrev SeqJ (hd : Addr × Obj) (m₀ : Str → Option Value) (x : Str) (J : Led → Prop) : (Str → Option Value) → Led → Prop := fun m nx => hd ∈ nx ∧ J nx ∧ ∀ z, z ≠ x → m z = m₀ z
theorem list_loop {l : Addr} {vs : List Value} {nn : Nat} {m₀ : Str → Option Value} {news : Led} (n0 : Led) (J : Nat → Led → Prop)
    (hh : A.handled = none) (F : Fr h₀ env.locals s.heap m₀) (N : News h₀ env.locals s.heap news) (hs : ∀ p ∈ n0, p ∈ news) (hl : (l, listOf vs.toArray nn) ∈ n0) (hj : J 0 n0)
    (turn : ∀ i v nx h tk own, vs[i]? = some v → OwnOff own (nx.map (·.1)) → (l, listOf vs.toArray nn) ∈ nx → J i nx → Fr h₀ env.locals h (fun y => if y = x then some v else m₀ y) → News h₀ env.locals h (nx ++ own) →
      wpAny (model prog w) A (execs body env) (InvPostG h₀ env.locals (SeqJ (l, listOf vs.toArray nn) m₀ x (J (i + 1))) own { s with heap := h, toks := tk } Q) E { s with heap := h, toks := tk })
    (done : ∀ u nx h tk, J vs.length nx → Fr h₀ env.locals h (fun y => if y = x then u else m₀ y) → News h₀ env.locals h nx → Q .next { s with heap := h, toks := tk }) :
    wpAny (model prog w) A (pyIter (.ref l)) (fun it s₂ => LoopAtV prog w A h₀ env x body Q E it s₂) E s := by
  refine kdl_iter (news := n0) (fun i m nx => J i nx ∧ ∀ z, z ≠ x → m z = m₀ z) hh hl F (fun p hp => N p (hs p hp)) ⟨hj, fun _ _ => rfl⟩ ?_ ?_
  · intro i v m₁ nx h tk own hv ho hm hJ F₁ N₁
    rw [off_at hJ.2] at F₁
    exact turn i v nx h tk own hv ho hm hJ.1 F₁ N₁
  · intro m₁ nx h tk hJ F₁ N₁
    rw [off_self hJ.2] at F₁
    exact done _ nx h tk hJ.1 F₁ N₁
noncomputable abbrev tupOf (vs : List Value) : Obj := { cls := .type "tuple", data := .seq vs.toArray }
theorem tup_iter {l : Addr} {vs : List Value} {m₀ : Str → Option Value} {news : List (Addr × Obj)} (J : Nat → (Str → Option Value) → List (Addr × Obj) → Prop)
    (hh : A.handled = none) (hl : (l, tupOf vs) ∈ news) (F : Fr h₀ env.locals s.heap m₀) (N : News h₀ env.locals s.heap news) (hj : J 0 m₀ news)
    (turn : ∀ i v m₁ news₁ h tk own, vs[i]? = some v → OwnOff own (news₁.map (·.1)) → (l, tupOf vs) ∈ news₁ → J i m₁ news₁ → Fr h₀ env.locals h (fun y => if y = x then some v else m₁ y) → News h₀ env.locals h (news₁ ++ own) →
      wpAny (model prog w) A (execs body env) (InvPostG h₀ env.locals (fun m' nx => (l, tupOf vs) ∈ nx ∧ J (i + 1) m' nx) own { s with heap := h, toks := tk } Q) E { s with heap := h, toks := tk })
    (done : ∀ m₁ news₁ h tk, J vs.length m₁ news₁ → Fr h₀ env.locals h m₁ → News h₀ env.locals h news₁ → Q .next { s with heap := h, toks := tk }) :
    wpAny (model prog w) A (pyIter (.ref l)) (fun it s₂ => LoopAtV prog w A h₀ env x body Q E it s₂) E s := by
  have hol : s.heap.get? l = some (tupOf vs) := (N _ hl).1
  have hls : s.heap.IsTuple l vs.toArray := ⟨_, hol, rfl, 0, rfl⟩
  have hne : l ≠ s.heap.objs.size := Nat.ne_of_lt (Heap.lt_size hol)
  refine wpAny_pyIter_tuple hls ?_
  have W := Walks.tuple (prog := prog) (w := w) hh s.heap.objs.size l hne vs.toArray
  have hlen : vs.toArray.size = vs.length := by simp
  rw [hlen] at W
  refine ⟨_, _, _, vs.length, _, _, m₀, news, (fun i m nx => (l, tupOf vs) ∈ nx ∧ J i m nx), rfl, W, ?_, ?_, ?_, ⟨⟨_, Heap.get?_push_size _ rfl, rfl, rfl⟩, hls.at fun o e => Heap.get?_push_of_some _ e⟩, F.push _, (fun p hp => ⟨Heap.get?_push_of_some _ (N p hp).1, (N p hp).2⟩), ⟨hl, hj⟩, ?_, ?_⟩
  · intro hm
    rcases List.mem_cons.mp hm with e | hm
    · exact absurd F.ns.lt (e ▸ Nat.lt_irrefl _)
    · exact (N _ hl).2.1 ((List.mem_singleton.mp hm).symm)
  · intro b hb
    rw [List.mem_singleton.mp hb]
    exact next_is_new F
  · intro p hp hI
    exact absurd (Heap.lt_size (N p hp).1) ((List.mem_singleton.mp hI) ▸ Nat.lt_irrefl _)
  · rintro i v m₁ news₁ s₁ own ⟨hh', tk', rfl⟩ hin hP ⟨hl₁, hJ⟩ hoff hown hget hfp hst F₁ N₁
    have hP' : vs[i]? = some v := by simpa using hP
    have hI0 : h₀.get? s.heap.objs.size = none := next_is_new F
    obtain ⟨⟨oI, hoI, _⟩, _⟩ := id hst
    have hIown : (s.heap.objs.size, oI) ∈ own.filter fun p => decide (p.1 = s.heap.objs.size) := List.mem_filter.mpr ⟨hfp _ (List.mem_cons.mpr (.inl rfl)) hI0 _ hoI, by simp⟩
    have hsep : OwnOff (own.filter fun p => decide (p.1 = s.heap.objs.size)) (news₁.map (·.1)) := by
      intro p hp b hb e
      obtain ⟨q, hq, rfl⟩ := List.mem_map.mp hb
      have h1 : p.1 = s.heap.objs.size := by simpa using (List.mem_filter.mp hp).2
      exact hoff q hq (List.mem_singleton.mpr (e ▸ h1))
    have N₂ : News h₀ env.locals hh' (news₁ ++ own.filter fun p => decide (p.1 = s.heap.objs.size)) := fun p hp => N₁ p ((List.mem_append.mp hp).elim (fun h => List.mem_append.mpr (.inr h)) fun h => List.mem_append.mpr (.inl ((List.mem_filter.mp h).1)))
    have hlo : hh'.get? l = some (tupOf vs) := (N₁ _ (List.mem_append.mpr (.inr hl₁))).1
    refine wpAny_mono (turn i v m₁ news₁ hh' tk' _ hP' hsep hl₁ hJ F₁ N₂) (fun f s₂ p => ?_) fun _ _ e => e
    have fin : InvEndG h₀ env.locals (fun m' nx => (l, tupOf vs) ∈ nx ∧ J (i + 1) m' nx) (own.filter fun p => decide (p.1 = s.heap.objs.size)) { s with heap := hh', toks := tk' } s₂ →
        LoopStepU h₀ env.locals [s.heap.objs.size] own (fun m nx => (l, tupOf vs) ∈ nx ∧ J (i + 1) m nx) { s with heap := hh', toks := tk' } .next s₂ := by
      rintro ⟨h', tk, m', news', nx, e, F', N', hn, ho, ha, hm⟩
      refine ⟨rfl, h', tk, m', nx, e, F', fun p hp => ?_, fun p hp hq => ?_, hm⟩
      · rcases List.mem_append.mp hp with h | h
        · by_cases hI : p.1 = s.heap.objs.size
          · exact N' p (ho p (List.mem_filter.mpr ⟨h, by simpa using hI⟩))
          · have h1 : p.1 = l := by
              rcases List.mem_cons.mp (hown p h) with h2 | h2
              · exact absurd h2 hI
              · exact List.mem_singleton.mp h2
            have h2 : hh'.get? p.1 = some p.2 := hget p h
            rw [h1, hlo] at h2
            have h3 : p = (l, tupOf vs) := Prod.ext h1 (Option.some.inj h2).symm
            rw [h3]
            exact N' _ (hn _ hm.1)
        · exact N' p (hn p h)
      · exact ha _ hIown p.1 (List.mem_map.mpr ⟨p, hp, rfl⟩) (List.mem_singleton.mp hq).symm
    cases f with
    | ret v => exact .ret p
    | brk => exact .brk p
    | next => exact .next (fin p)
    | cont => exact .cont (fin p)
  · rintro h' tk m' news' F' N' _ ⟨_, hJ⟩
    exact done m' news' h' tk hJ F' N'
theorem tup_loop {l : Addr} {vs : List Value} {m₀ : Str → Option Value} {news : Led} (n0 : Led) (J : Nat → (Str → Option Value) → Led → Prop) (stored : List Str)
    (hh : A.handled = none) (F : Fr h₀ env.locals s.heap m₀) (N : News h₀ env.locals s.heap news) (hs : ∀ p ∈ n0, p ∈ news) (hl : (l, tupOf vs) ∈ n0) (hj : J 0 m₀ n0)
    (turn : ∀ i v m₁ nx h tk own, vs[i]? = some v → OwnOff own (nx.map (·.1)) → (l, tupOf vs) ∈ nx → J i m₁ nx → (∀ z, z ≠ x → stored.contains z = false → m₁ z = m₀ z) → Fr h₀ env.locals h (fun y => if y = x then some v else m₁ y) → News h₀ env.locals h (nx ++ own) →
      wpAny (model prog w) A (execs body env) (InvPostG h₀ env.locals (fun m' nx => (l, tupOf vs) ∈ nx ∧ J (i + 1) m' nx ∧ ∀ z, z ≠ x → stored.contains z = false → m' z = m₀ z) own { s with heap := h, toks := tk } Q) E { s with heap := h, toks := tk })
    (done : ∀ m₁ nx h tk, J vs.length m₁ nx → (∀ z, z ≠ x → stored.contains z = false → m₁ z = m₀ z) → Fr h₀ env.locals h m₁ → News h₀ env.locals h nx → Q .next { s with heap := h, toks := tk }) :
    wpAny (model prog w) A (pyIter (.ref l)) (fun it s₂ => LoopAtV prog w A h₀ env x body Q E it s₂) E s := by
  refine tup_iter (news := n0) (fun i m nx => J i m nx ∧ ∀ z, z ≠ x → stored.contains z = false → m z = m₀ z) hh hl F (fun p hp => N p (hs p hp)) ⟨hj, fun _ _ _ => rfl⟩ ?_ ?_
  · intro i v m₁ nx h tk own hv ho hm hJ F₁ N₁
    exact turn i v m₁ nx h tk own hv ho hm hJ.1 hJ.2 F₁ N₁
  · intro m₁ nx h tk hJ F₁ N₁
    exact done m₁ nx h tk hJ.1 hJ.2 F₁ N₁
end
section
variable {prog : Program} {w : World} {A : Around} {E : Value → Shared → Prop} {s : Shared} {h₀ : Heap} {L D : Addr} {m : Str → Option Value} {news news' : Led} {vs : List Value} {n : Nat} {x : Value}
theorem append_snoc {Q : Value → Shared → Prop} (F : Fr h₀ L s.heap m) (N : News h₀ L s.heap news) (U : Upd D (listOf vs.toArray n) (listOf (vs ++ [x]).toArray (n + 1)) news news') (hz : vs.length ≤ 100000)
    (h : ∀ h', Fr h₀ L h' m → News h₀ L h' news' → Q .none { s with heap := h' }) : wpAny (model prog w) A (call (.builtin "list.append") [.ref D, x]) Q E s := by
  have e : (vs ++ [x]).toArray = vs.toArray.push x := by simp
  rw [e] at U
  exact append_K F N U h (by rw [List.size_toArray, sizeLine_eq]; omega)
theorem kl_last_snoc : ∀ (vs : List Value) (x : Value), kl_last (vs ++ [x]) = some (vs, x)
  | [], x => rfl
  | a :: vs, x => by
    show (match kl_last (vs ++ [x]) with | some (p, y) => some (a :: p, y) | none => some ([], a)) = _
    rw [kl_last_snoc vs x]
theorem pop_snoc {Q : Value → Shared → Prop} (F : Fr h₀ L s.heap m) (N : News h₀ L s.heap news) (U : Upd D (listOf (vs ++ [x]).toArray n) (listOf vs.toArray (n + 1)) news news') (hz : vs.length ≤ 100000)
    (h : ∀ h', Fr h₀ L h' m → News h₀ L h' news' → Q x { s with heap := h' }) : wpAny (model prog w) A (call (.builtin "list.pop") [.ref D]) Q E s :=
  kl_pop F N (by simpa using kl_last_snoc vs x) U (by rw [sizeLine_eq]; simp; omega) h
theorem truthy_nil {Q : Bool → Shared → Prop} (N : News h₀ L s.heap news) (hm : (D, listOf ([] : List Value).toArray n) ∈ news) (h : Q false { s with toks := s.toks + 1 + 1 }) : wpAny (model prog w) A (truthy (.ref D)) Q E s :=
  kgr_truthy N hm rfl rfl (by simp) h
theorem truthy_snoc {Q : Bool → Shared → Prop} (N : News h₀ L s.heap news) (hm : (D, listOf (vs ++ [x]).toArray n) ∈ news) (hz : vs.length ≤ 100000) (h : Q true { s with toks := s.toks + 1 + 1 }) : wpAny (model prog w) A (truthy (.ref D)) Q E s :=
  kgr_truthy N hm rfl rfl (by simp; omega) (by rw [show (!(vs ++ [x]).isEmpty) = true by simp]; exact h)
theorem item_last {value slice : Expr} {u : Tok} {Q : Value → Shared → Prop} (N : News h₀ L s.heap news) (hm : (D, listOf (vs ++ [x]).toArray n) ∈ news) (h : Q x s)
    (hs : subscripted slice false (.ref D) (.int (-1) u) = operate [.ref D, .int (-1) u] (getItem (.ref D) (.int (-1) u)) := by with_unfolding_all rfl) : wpAny (model prog w) A (subscriptTail value slice (.ref D) (.int (-1) u)) Q E s := by
  have hl : s.heap.IsList D (vs ++ [x]).toArray := ⟨_, (N _ hm).1, rfl, n, rfl⟩
  have e : ((-1 : Int) + ((vs ++ [x]).toArray.size : Int)).toNat = vs.length := by simp; omega
  exact subscriptTail_builtinR hl.typeIs slot_list_getitem.lookup (wpAny_getItem_list_neg (Q := fun r s' => r = _ ∧ Q r s') hl (by decide) (by simp; omega) (by decide) (by rw [e]; simp) ⟨rfl, h⟩) hs
end
theorem news3 {P : Prop} {h₀ h : Heap} {L a b c : Addr} {oa ob oc : Obj} {R : Led} (_ : News h₀ L h ((a, oa) :: (b, ob) :: (c, oc) :: R)) (k : ∀ a' b' c', a' = a → b' = b → c' = c → P) : P := k a b c rfl rfl rfl
theorem seq_end {h₀ h' : Heap} {L : Addr} {hd : Addr × Obj} {m' m₀ : Str → Option Value} {x : Str} {J : Led → Prop} {own news' : Led} {s₁ : Shared} {tk : Nat} (nx : Led) (F : Fr h₀ L h' m') (N : News h₀ L h' news') (hl : hd ∈ nx) (hJ : J nx)
    (hm : ∀ z, z ≠ x → m' z = m₀ z) (off : OwnOff own (nx.map (·.1))) (hn : ∀ p ∈ nx, p ∈ news') (ho : ∀ p ∈ own, p ∈ news') : InvEndG h₀ L (SeqJ hd m₀ x J) own s₁ { s₁ with heap := h', toks := tk } :=
  InvEndG.intro F N ⟨hl, hJ, hm⟩ off hn ho
theorem strs_item {vs : List Value} {xs : List Str} {i : Nat} {v : Value} (h : StrsAre vs xs) (hv : vs[i]? = some v) : ∃ c t, v = .str c t ∧ xs[i]? = some c := by
  have hi : i < xs.length := by rw [← h.length]; exact (List.getElem?_eq_some_iff.mp hv).1
  obtain ⟨t, ht⟩ := h.at (List.getElem?_eq_getElem hi)
  rw [ht] at hv
  exact ⟨_, t, (Option.some.inj hv).symm, List.getElem?_eq_getElem hi⟩
theorem named {α : Type} {P : Prop} (a : α) (k : ∀ b, b = a → P) : P := k a rfl
theorem strs_name {P : Prop} {vs : List Value} {xs : List Str} (_ : StrsAre vs xs) (k : ∀ b, b = vs → P) : P := k vs rfl
theorem in_two {a b : Addr × Obj} {R own R2 : Led} (e : R2 = R ++ own) : ∀ p ∈ a :: b :: R, p ∈ a :: b :: R2 := by
  subst e
  intro p hp
  rcases List.mem_cons.mp hp with rfl | hp
  · exact .head _
  · rcases List.mem_cons.mp hp with rfl | hp
    · exact .tail _ (.head _)
    · exact .tail _ (.tail _ (List.mem_append.mpr (.inl hp)))
theorem own_two {a b : Addr × Obj} {R own R2 : Led} (e : R2 = R ++ own) : ∀ p ∈ own, p ∈ a :: b :: R2 := by
  subst e
  exact fun p hp => .tail _ (.tail _ (List.mem_append.mpr (.inr hp)))
end P09
section P10
theorem off10 : True := by
  w_top off
  trivial
theorem isabs_says (w : World) (x : Str) (tx : Tok) (R : Led) : Says w (.ref 820) [.str x tx] [] 20 R (Gives R (fun _ => .bool (Txt.startswith x (Str.ofString "/")))) := by
  unfold Says
  k_fill
  intro dp un gd cn cs a ccd cl outer A₀ base h₀ L m s p loose mean mg mb Q E B F X N T hk hd hu hret
  refine wpAny_call ?_
  k_dflt (first | (refine' code_def ?k1 ?k2 ?k3 ?k4 ?k5 ?zqkA ?zqkF ?kK ?zqk6 ?zqk7 ?zqk8 ?zqk9 ?zqkB ?_ ?zqc2 ?zqc3 ?zqc4 ?zqc5; (case zqkA | zqkF => exact rfl); (case kK => assumption); (case k1 | k2 => k_asm); (case k3 | k4 | k5 => k_asm); (case zqk6 | zqk7 => k_is); (case zqk8 => k_room); (case zqk9 => first | exact BindsTo.of_eq rfl | exact binds_K (by k_in) rfl (by k_is) rfl rfl rfl | fail); (case zqc5 => decide); (case zqkB => exact locs rfl); (case zqc2 | zqc3 | zqc4 => exact rfl); k_whole; intro g'Z L'Z h'Z FG'Z F'Z N'Z B'Z X'Z T'Z; (try dsimp only); (try k_lift B'Z); (try k_fold); refine name_A ?_; intro aA8; have hN8 := True.intro; have hO8 := True.intro) | (kp_kind "rest"; refine' kp_rest ?k1 ?k2 ?k3 ?k4 ?k5 ?zqkA ?zqkF ?kK ?zqk6 ?zqk7 ?zqk8 ?zqkV ?zqkP ?zqkG ?zqkB ?_ ?zqc2 ?zqc3 ?zqc4 ?zqc5; (case zqkA | zqkF => exact rfl); (case kK => assumption); (case k1 | k2 => k_asm); (case k3 | k4 | k5 => k_asm); (case zqk6 | zqk7 => k_is); (case zqk8 => k_room); (case zqkV | zqkP => exact rfl); (case zqkG => exact fun _ => rfl); (case zqkB => exact fun _ => locs rfl); (case zqc5 => decide); (case zqc2 | zqc3 | zqc4 => exact rfl); k_whole; intro D'Z g'Z L'Z h'Z l1Z FG'Z F'Z N'Z B'Z X'Z T'Z; (try k_lt l1Z); (try dsimp only); (try k_lift B'Z); (try k_fold); refine name_A ?_; intro aA8; have hN8 := True.intro; have hO8 := True.intro) | (kp_kind "both"; refine' kp_both ?k1 ?k2 ?k3 ?k4 ?k5 ?zqkA ?zqkF ?kK ?zqk6 ?zqk7 ?zqk8 ?zqkV ?zqkX ?zqkQ ?zqkM ?zqkN ?zqkD ?zqkR ?zqkP ?zqkS ?zqkT ?zqkB ?_ ?zqc2 ?zqc3 ?zqc4 ?zqc5; (case zqkA | zqkF => exact rfl); (case kK => assumption); (case k1 | k2 => k_asm); (case k3 | k4 | k5 => k_asm); (case zqk6 | zqk7 => k_is); (case zqk8 => k_room); (case zqkV | zqkX => kp_lit); (case zqkQ | zqkM | zqkN => exact rfl); (case zqkD => kp_flats); (case zqkR | zqkP => exact rfl); (case zqkS => exact fun _ => rfl); (case zqkT => exact fun _ _ => rfl); (case zqkB => exact fun _ _ => locs rfl); (case zqc5 => decide); (case zqc2 | zqc3 | zqc4 => exact rfl); k_whole; intro C'Z D'Z o'Z g'Z L'Z h'Z tk'Z l1Z l2Z lo'Z hs'Z fs'Z FG'Z F'Z N'Z B'Z X'Z T'Z; (try k_lt l1Z); (try k_lt2 l2Z); (try dsimp only); (try k_lift B'Z); (try k_fold); refine name_A ?_; intro aA8; have hN8 := True.intro; have hO8 := True.intro))
  repeat' (first | (k_unfold; (try dsimp only)) | (k_end; (with_reducible refine hN8 _ _ ?_); intro kN8; clear hN8 hO8; (try clear qN8); first | with_reducible refine execs_one ?_ | (refine execs_more ?_; intro qN8 hN8 hO8)) | (k_end; (with_reducible refine hO8 _ _ ?zn8 ?_); (case zn8 => first | exact ne_ret _ | exact ne_brk | exact ne_cont); clear hN8 hO8; (try clear qN8)) | (k_end; wrow_close) | ((with_reducible show wpAny _ _ (call _ _ _) _ _ _); (first | (k_here; (with_reducible show wpAny _ _ (call (Value.ref 813) [Value.str _ _]) _ _ _); k_dflt (refine' says_pure (sep_says _ _ _ _) ?k1 ?k2 ?k3 ?k4 ?k5 ?kK ?kd ?ku ?_; tb_rel; intro t9Z h9Z tk9Z F9Z N9Z; (try dsimp only); (try k_fold))) | (k_here; (with_reducible show wpAny _ _ (call (Value.ref 799) [Value.str _ _]) _ _ _); k_dflt (refine' says_pure (fspath_says _ _ _ _) ?k1 ?k2 ?k3 ?k4 ?k5 ?kK ?kd ?ku ?_; tb_rel; intro t9Z h9Z tk9Z F9Z N9Z; (try dsimp only); (try k_fold))) | (k_here; (with_reducible show wpAny _ _ (call (Value.ref 53) [Value.int _ _, Value.str _ _]) _ _ _); k_dflt (refine' says_pure (index_says _ _ _ _ _ _ ?zqkp ?zqkq) ?k1 ?k2 ?k3 ?k4 ?k5 ?kK ?kd ?ku ?_; tb_rel; (case zqkp | zqkq => omega); intro t9Z h9Z tk9Z F9Z N9Z; (try dsimp only); (try k_fold))) | ((with_reducible show wpAny _ _ (call (Value.builtin "issubclass") _ _) _ _ _); (k_here; k_dflt (refine' issub_pair ?k1 ?_; (case k1 => exact News.get (by k_asm) (by k_mem)); k_whole))))) | ((with_reducible show wpAny _ _ (compareOp _ _ _) _ _ _); (first | (k_here; (with_reducible show wpAny _ _ (compareOp CmpOp.NotIn (Value.str _ _) (Value.str _ _)) _ _ _); (first | (refine notin_known (b := false) (by assumption) ?_) | (refine notin_known (b := true) (by assumption) ?_) | (refine notin_known (b := false) (by decide +kernel) ?_) | (refine notin_known (b := true) (by decide +kernel) ?_)); (try simp only [Bool.not_false, Bool.not_true])) | (k_here; (with_reducible show wpAny _ _ (compareOp CmpOp.In (Value.str _ _) (Value.str _ _)) _ _ _); first | (refine in_known (b := false) (by assumption) ?_) | (refine in_known (b := true) (by assumption) ?_) | (refine in_known (b := false) (by decide +kernel) ?_) | (refine in_known (b := true) (by decide +kernel) ?_)))) | (k_here; (with_reducible show wpAny _ _ (truthy (Value.str _ _)) _ _ _); refine truthy_long (by assumption) (by omega) ?_; intro _) | ((with_reducible show wpAny _ _ (execs _ _) _ _ _); (first | ((with_reducible show wpAny _ _ (execs [] _) _ _ _); (k_here; refine wpAny_execs_nil ?_)) | ((with_reducible show wpAny _ _ (execs (_ :: _) _) _ _ _); (k_here; (try dsimp only); (try k_fold); first | with_reducible refine execs_one ?_ | (refine execs_more ?_; intro qN8 hN8 hO8))))) | ((with_reducible show wpAny _ _ (exec (Stmt.If _ _ _ _) _) _ _ _); (k_here; refine wpAny_If ?_)) | walk1 | ((with_reducible show wpAny _ _ _ _ _ _); dsimp only) | (leave1; walk_say "STEP leave1"; try dsimp only) | fail "no step")
  exact hret _ _ _ _ (by assumption) (by assumption) ⟨rfl, 0, rfl⟩
/-- dirname's answer, as the code makes it -/
noncomputable def dirS (x : Str) : Str :=
  if ((Txt.slice x none (some (Txt.rfind x (Str.ofString "/") + 1))).length : Int) ≠ 0 ∧ (Txt.slice x none (some (Txt.rfind x (Str.ofString "/") + 1)) != Txt.mul (Str.ofString "/") (Txt.slice x none (some (Txt.rfind x (Str.ofString "/") + 1))).length) = true
  then Txt.rstripChars (Txt.slice x none (some (Txt.rfind x (Str.ofString "/") + 1))) (Str.ofString "/") else Txt.slice x none (some (Txt.rfind x (Str.ofString "/") + 1))
theorem dirname_says (w : World) (x : Str) (tx : Tok) (R : Led) (hx : x.length ≤ 1000000) : Says w (.ref 841) [.str x tx] [] 20 R (Gives R (.str (dirS x))) := by
  unfold Says
  k_fill
  intro dp un gd cn cs a ccd cl outer A₀ base h₀ L m s p loose mean mg mb Q E B F X N T hk hd hu hret
  refine wpAny_call ?_
  k_dflt (first | (refine' code_def ?k1 ?k2 ?k3 ?k4 ?k5 ?zqkA ?zqkF ?kK ?zqk6 ?zqk7 ?zqk8 ?zqk9 ?zqkB ?_ ?zqc2 ?zqc3 ?zqc4 ?zqc5; (case zqkA | zqkF => exact rfl); (case kK => assumption); (case k1 | k2 => k_asm); (case k3 | k4 | k5 => k_asm); (case zqk6 | zqk7 => k_is); (case zqk8 => k_room); (case zqk9 => first | exact BindsTo.of_eq rfl | exact binds_K (by k_in) rfl (by k_is) rfl rfl rfl | fail); (case zqc5 => decide); (case zqkB => exact locs rfl); (case zqc2 | zqc3 | zqc4 => exact rfl); k_whole; intro g'Z L'Z h'Z FG'Z F'Z N'Z B'Z X'Z T'Z; (try dsimp only); (try k_lift B'Z); (try k_fold); refine name_A ?_; intro aA8; have hN8 := True.intro; have hO8 := True.intro) | (kp_kind "rest"; refine' kp_rest ?k1 ?k2 ?k3 ?k4 ?k5 ?zqkA ?zqkF ?kK ?zqk6 ?zqk7 ?zqk8 ?zqkV ?zqkP ?zqkG ?zqkB ?_ ?zqc2 ?zqc3 ?zqc4 ?zqc5; (case zqkA | zqkF => exact rfl); (case kK => assumption); (case k1 | k2 => k_asm); (case k3 | k4 | k5 => k_asm); (case zqk6 | zqk7 => k_is); (case zqk8 => k_room); (case zqkV | zqkP => exact rfl); (case zqkG => exact fun _ => rfl); (case zqkB => exact fun _ => locs rfl); (case zqc5 => decide); (case zqc2 | zqc3 | zqc4 => exact rfl); k_whole; intro D'Z g'Z L'Z h'Z l1Z FG'Z F'Z N'Z B'Z X'Z T'Z; (try k_lt l1Z); (try dsimp only); (try k_lift B'Z); (try k_fold); refine name_A ?_; intro aA8; have hN8 := True.intro; have hO8 := True.intro) | (kp_kind "both"; refine' kp_both ?k1 ?k2 ?k3 ?k4 ?k5 ?zqkA ?zqkF ?kK ?zqk6 ?zqk7 ?zqk8 ?zqkV ?zqkX ?zqkQ ?zqkM ?zqkN ?zqkD ?zqkR ?zqkP ?zqkS ?zqkT ?zqkB ?_ ?zqc2 ?zqc3 ?zqc4 ?zqc5; (case zqkA | zqkF => exact rfl); (case kK => assumption); (case k1 | k2 => k_asm); (case k3 | k4 | k5 => k_asm); (case zqk6 | zqk7 => k_is); (case zqk8 => k_room); (case zqkV | zqkX => kp_lit); (case zqkQ | zqkM | zqkN => exact rfl); (case zqkD => kp_flats); (case zqkR | zqkP => exact rfl); (case zqkS => exact fun _ => rfl); (case zqkT => exact fun _ _ => rfl); (case zqkB => exact fun _ _ => locs rfl); (case zqc5 => decide); (case zqc2 | zqc3 | zqc4 => exact rfl); k_whole; intro C'Z D'Z o'Z g'Z L'Z h'Z tk'Z l1Z l2Z lo'Z hs'Z fs'Z FG'Z F'Z N'Z B'Z X'Z T'Z; (try k_lt l1Z); (try k_lt2 l2Z); (try dsimp only); (try k_lift B'Z); (try k_fold); refine name_A ?_; intro aA8; have hN8 := True.intro; have hO8 := True.intro))
  repeat' (first | (k_unfold; (try dsimp only)) | (k_end; (with_reducible refine hN8 _ _ ?_); intro kN8; clear hN8 hO8; (try clear qN8); first | with_reducible refine execs_one ?_ | (refine execs_more ?_; intro qN8 hN8 hO8)) | (k_end; (with_reducible refine hO8 _ _ ?zn8 ?_); (case zn8 => first | exact ne_ret _ | exact ne_brk | exact ne_cont); clear hN8 hO8; (try clear qN8)) | (k_end; wrow_close) | ((with_reducible show wpAny _ _ (call _ _ _) _ _ _); (first | (k_here; (with_reducible show wpAny _ _ (call (Value.ref 813) [Value.str _ _]) _ _ _); k_dflt (refine' says_pure (sep_says _ _ _ _) ?k1 ?k2 ?k3 ?k4 ?k5 ?kK ?kd ?ku ?_; tb_rel; intro t9Z h9Z tk9Z F9Z N9Z; (try dsimp only); (try k_fold))) | (k_here; (with_reducible show wpAny _ _ (call (Value.ref 799) [Value.str _ _]) _ _ _); k_dflt (refine' says_pure (fspath_says _ _ _ _) ?k1 ?k2 ?k3 ?k4 ?k5 ?kK ?kd ?ku ?_; tb_rel; intro t9Z h9Z tk9Z F9Z N9Z; (try dsimp only); (try k_fold))) | (k_here; (with_reducible show wpAny _ _ (call (Value.ref 53) [Value.int _ _, Value.str _ _]) _ _ _); k_dflt (refine' says_pure (index_says _ _ _ _ _ _ ?zqkp ?zqkq) ?k1 ?k2 ?k3 ?k4 ?k5 ?kK ?kd ?ku ?_; tb_rel; (case zqkp | zqkq => omega); intro t9Z h9Z tk9Z F9Z N9Z; (try dsimp only); (try k_fold))) | ((with_reducible show wpAny _ _ (call (Value.builtin "issubclass") _ _) _ _ _); (k_here; k_dflt (refine' issub_pair ?k1 ?_; (case k1 => exact News.get (by k_asm) (by k_mem)); k_whole))))) | ((with_reducible show wpAny _ _ (compareOp _ _ _) _ _ _); (first | (k_here; (with_reducible show wpAny _ _ (compareOp CmpOp.NotIn (Value.str _ _) (Value.str _ _)) _ _ _); (first | (refine notin_known (b := false) (by assumption) ?_) | (refine notin_known (b := true) (by assumption) ?_) | (refine notin_known (b := false) (by decide +kernel) ?_) | (refine notin_known (b := true) (by decide +kernel) ?_)); (try simp only [Bool.not_false, Bool.not_true])) | (k_here; (with_reducible show wpAny _ _ (compareOp CmpOp.In (Value.str _ _) (Value.str _ _)) _ _ _); first | (refine in_known (b := false) (by assumption) ?_) | (refine in_known (b := true) (by assumption) ?_) | (refine in_known (b := false) (by decide +kernel) ?_) | (refine in_known (b := true) (by decide +kernel) ?_)))) | (k_here; (with_reducible show wpAny _ _ (truthy (Value.str _ _)) _ _ _); refine truthy_long (by assumption) (by omega) ?_; intro _) | ((with_reducible show wpAny _ _ (execs _ _) _ _ _); (first | ((with_reducible show wpAny _ _ (execs [] _) _ _ _); (k_here; refine wpAny_execs_nil ?_)) | ((with_reducible show wpAny _ _ (execs (_ :: _) _) _ _ _); (k_here; (try dsimp only); (try k_fold); first | with_reducible refine execs_one ?_ | (refine execs_more ?_; intro qN8 hN8 hO8))))) | ((with_reducible show wpAny _ _ (exec (Stmt.If _ _ _ _) _) _ _ _); (k_here; refine wpAny_If ?_)) | walk1 | ((with_reducible show wpAny _ _ _ _ _ _); dsimp only) | (leave1; walk_say "STEP leave1"; try dsimp only) | fail "no step")
  · exact hret _ _ _ _ (by assumption) (by assumption) ⟨rfl, _, congrArg (Value.str · _) (if_pos ⟨by assumption, by assumption⟩).symm⟩
  · refine hret _ _ _ _ (by assumption) (by assumption) ⟨rfl, _, congrArg (Value.str · _) (if_neg ?_).symm⟩
    rename (_ != _) = false => z
    rw [z]
    exact fun h => Bool.false_ne_true h.2
  · refine hret _ _ _ _ (by assumption) (by assumption) ⟨rfl, _, congrArg (Value.str · _) (if_neg ?_).symm⟩
    exact fun h => h.1 (by assumption)
end P10
section P11
theorem off11 : True := by
  w_top off
  trivial
/-- normpath's turn, behind a leading slash -/
noncomputable def normStep (acc : List Str) (c : Str) : List Str := if c = Str.ofString "" ∨ c = Str.ofString "." then acc else if c = Str.ofString ".." then acc.dropLast else acc ++ [c]
theorem norm_len (l : List Str) : ∀ acc : List Str, (l.foldl normStep acc).length ≤ acc.length + l.length := by
  induction l with
  | nil => intro acc; simp
  | cons c l ih =>
    intro acc
    have h := ih (normStep acc c)
    have h2 : (normStep acc c).length ≤ acc.length + 1 := by
      unfold normStep
      split
      · omega
      · split
        · simp; omega
        · simp
    simp only [List.foldl_cons, List.length_cons]
    omega
theorem norm_weight (l : List Str) : ∀ acc : List Str, ((l.foldl normStep acc).map (·.length)).sum ≤ (acc.map (·.length)).sum + (l.map (·.length)).sum := by
  induction l with
  | nil => intro acc; simp
  | cons c l ih =>
    intro acc
    have h := ih (normStep acc c)
    have h2 : ((normStep acc c).map (·.length)).sum ≤ (acc.map (·.length)).sum + c.length := by
      unfold normStep
      split
      · omega
      · split
        · rcases List.eq_nil_or_concat acc with rfl | ⟨a, z, rfl⟩
          · simp
          · simp; omega
        · simp
    simp only [List.foldl_cons, List.map_cons, List.sum_cons]
    omega
theorem norm_step_in {acc : List Str} {c z : Str} (h : z ∈ normStep acc c) : z ∈ acc ∨ (z = c ∧ c ≠ Str.ofString "" ∧ c ≠ Str.ofString "." ∧ c ≠ Str.ofString "..") := by
  unfold normStep at h
  split at h
  · exact .inl h
  · rename_i h1
    split at h
    · exact .inl (List.dropLast_subset _ h)
    · rename_i h2
      rcases List.mem_append.mp h with h | h
      · exact .inl h
      · exact .inr ⟨List.mem_singleton.mp h, fun e => h1 (.inl e), fun e => h1 (.inr e), h2⟩
theorem mem_len {l : List Str} {c : Str} (h : c ∈ l) : c.length ≤ (l.map (·.length)).sum := by
  induction l with
  | nil => cases h
  | cons a l ih =>
    rcases List.mem_cons.mp h with rfl | h
    · simp
    · have := ih h
      simp
      omega
theorem join_len (l : List Str) : (Txt.join (Str.ofString "/") l).length ≤ (l.map (·.length)).sum + l.length := by
  show (Builtin.Str.glued (Str.ofString "/") l).length ≤ _
  rw [StrLaws.glued_eq_join]
  cases l with
  | nil => exact Nat.zero_le _
  | cons a l =>
    rw [len_join_cons, show (Str.ofString "/").length = 1 by decide +kernel, List.length_cons]
    omega
theorem normpath_says (w : World) (x y : Str) (comps : List Str) (tx : Tok) (R : Led) (hx : x.length ≤ 1000000) (p0 : 0 < x.length) (p1 : (Txt.slice x none (some 1) != Str.ofString "/") = false) (p2 : (Txt.slice x (some 1) (some 2) != Str.ofString "/") = true)
    (p3 : Txt.slice x (some 1) none = y) (p4 : Txt.split y (Str.ofString "/") = comps) (p5 : (comps.map (·.length)).sum + comps.length ≤ 100000) : Says w (.ref 848) [.str x tx] [] 30 R (Gives R (.str (Str.ofString "/" ++ Txt.join (Str.ofString "/") (comps.foldl normStep [])))) := by
  unfold Says
  k_fill
  intro dp un gd cn cs a ccd cl outer A₀ base h₀ L m s p loose mean mg mb Q E B F X N T hk hd hu hret
  refine wpAny_call ?_
  k_dflt (first | (refine' code_def ?k1 ?k2 ?k3 ?k4 ?k5 ?zqkA ?zqkF ?kK ?zqk6 ?zqk7 ?zqk8 ?zqk9 ?zqkB ?_ ?zqc2 ?zqc3 ?zqc4 ?zqc5; (case zqkA | zqkF => exact rfl); (case kK => assumption); (case k1 | k2 => k_asm); (case k3 | k4 | k5 => k_asm); (case zqk6 | zqk7 => k_is); (case zqk8 => k_room); (case zqk9 => first | exact BindsTo.of_eq rfl | exact binds_K (by k_in) rfl (by k_is) rfl rfl rfl | fail); (case zqc5 => decide); (case zqkB => exact locs rfl); (case zqc2 | zqc3 | zqc4 => exact rfl); k_whole; intro g'Z L'Z h'Z FG'Z F'Z N'Z B'Z X'Z T'Z; (try dsimp only); (try k_lift B'Z); (try k_fold); refine name_A ?_; intro aA8; have hN8 := True.intro; have hO8 := True.intro) | (kp_kind "rest"; refine' kp_rest ?k1 ?k2 ?k3 ?k4 ?k5 ?zqkA ?zqkF ?kK ?zqk6 ?zqk7 ?zqk8 ?zqkV ?zqkP ?zqkG ?zqkB ?_ ?zqc2 ?zqc3 ?zqc4 ?zqc5; (case zqkA | zqkF => exact rfl); (case kK => assumption); (case k1 | k2 => k_asm); (case k3 | k4 | k5 => k_asm); (case zqk6 | zqk7 => k_is); (case zqk8 => k_room); (case zqkV | zqkP => exact rfl); (case zqkG => exact fun _ => rfl); (case zqkB => exact fun _ => locs rfl); (case zqc5 => decide); (case zqc2 | zqc3 | zqc4 => exact rfl); k_whole; intro D'Z g'Z L'Z h'Z l1Z FG'Z F'Z N'Z B'Z X'Z T'Z; (try k_lt l1Z); (try dsimp only); (try k_lift B'Z); (try k_fold); refine name_A ?_; intro aA8; have hN8 := True.intro; have hO8 := True.intro) | (kp_kind "both"; refine' kp_both ?k1 ?k2 ?k3 ?k4 ?k5 ?zqkA ?zqkF ?kK ?zqk6 ?zqk7 ?zqk8 ?zqkV ?zqkX ?zqkQ ?zqkM ?zqkN ?zqkD ?zqkR ?zqkP ?zqkS ?zqkT ?zqkB ?_ ?zqc2 ?zqc3 ?zqc4 ?zqc5; (case zqkA | zqkF => exact rfl); (case kK => assumption); (case k1 | k2 => k_asm); (case k3 | k4 | k5 => k_asm); (case zqk6 | zqk7 => k_is); (case zqk8 => k_room); (case zqkV | zqkX => kp_lit); (case zqkQ | zqkM | zqkN => exact rfl); (case zqkD => kp_flats); (case zqkR | zqkP => exact rfl); (case zqkS => exact fun _ => rfl); (case zqkT => exact fun _ _ => rfl); (case zqkB => exact fun _ _ => locs rfl); (case zqc5 => decide); (case zqc2 | zqc3 | zqc4 => exact rfl); k_whole; intro C'Z D'Z o'Z g'Z L'Z h'Z tk'Z l1Z l2Z lo'Z hs'Z fs'Z FG'Z F'Z N'Z B'Z X'Z T'Z; (try k_lt l1Z); (try k_lt2 l2Z); (try dsimp only); (try k_lift B'Z); (try k_fold); refine name_A ?_; intro aA8; have hN8 := True.intro; have hO8 := True.intro))
  repeat' (first | (k_unfold; (try dsimp only)) | (k_end; (with_reducible refine hN8 _ _ ?_); intro kN8; clear hN8 hO8; (try clear qN8); first | with_reducible refine execs_one ?_ | (refine execs_more ?_; intro qN8 hN8 hO8)) | (k_end; (with_reducible refine hO8 _ _ ?zn8 ?_); (case zn8 => first | exact ne_ret _ | exact ne_brk | exact ne_cont); clear hN8 hO8; (try clear qN8)) | (k_end; wrow_close) | ((with_reducible show wpAny _ _ (pyIter (Value.ref _)) _ _ _); (k_here; refine stop_in ?_)) | ((with_reducible show wpAny _ _ (exec _ _) _ _ _); (first | ((with_reducible show wpAny _ _ (exec (Stmt.For (Expr.Name _ _) (Expr.Name _ _) _ _ _) _) _ _ _); (k_here; (rename Fr _ _ _ _ => lF'Z); (with_unfolding_all refine' For_invVF lF'Z ?k1 ?k2 ?_; (case k1 | k2 => exact rfl); k_whole))) | ((with_reducible show wpAny _ _ (exec (Stmt.If _ _ _ _) _) _ _ _); (k_here; refine wpAny_If ?_)))) | ((with_reducible show wpAny _ _ (call _ _ _) _ _ _); (first | (k_here; (with_reducible show wpAny _ _ (call (Value.builtin "str.join") [Value.str _ _, Value.ref _]) _ _ _); k_dflt (refine' join_listW ?k1 ?k2 ?k3 ?k4 ?_; (case k1 => exact News.isList (by k_asm) (by k_mem)); (case k2 => assumption); (case k3 => decide +kernel); (case k4 => first | assumption | omega); k_whole); intro _ _) | ((with_reducible show wpAny _ _ (call (Value.builtin "list.pop") _ _) _ _ _); (k_here; k_dflt (refine' pop_snoc ?k1 ?k2 ?k3 ?k4 ?_; (case k1 | k2 => k_asm); (case k3 => k_upd); (case k4 => omega); k_whole); intro h'Z F'Z N'Z; (try k_sweep))) | ((with_reducible show wpAny _ _ (call (Value.builtin "list.append") _ _) _ _ _); (k_here; k_dflt (refine' append_snoc ?k1 ?k2 ?k3 ?k4 ?_; (case k1 | k2 => k_asm); (case k3 => k_upd); (case k4 => omega); k_whole); intro h'Z F'Z N'Z; (try k_sweep))) | (k_here; (with_reducible show wpAny _ _ (call (Value.ref 813) [Value.str _ _]) _ _ _); k_dflt (refine' says_pure (sep_says _ _ _ _) ?k1 ?k2 ?k3 ?k4 ?k5 ?kK ?kd ?ku ?_; tb_rel; intro t9Z h9Z tk9Z F9Z N9Z; (try dsimp only); (try k_fold))) | (k_here; (with_reducible show wpAny _ _ (call (Value.ref 799) [Value.str _ _]) _ _ _); k_dflt (refine' says_pure (fspath_says _ _ _ _) ?k1 ?k2 ?k3 ?k4 ?k5 ?kK ?kd ?ku ?_; tb_rel; intro t9Z h9Z tk9Z F9Z N9Z; (try dsimp only); (try k_fold))) | (k_here; (with_reducible show wpAny _ _ (call (Value.ref 53) [Value.int _ _, Value.str _ _]) _ _ _); k_dflt (refine' says_pure (index_says _ _ _ _ _ _ ?zqkp ?zqkq) ?k1 ?k2 ?k3 ?k4 ?k5 ?kK ?kd ?ku ?_; tb_rel; (case zqkp | zqkq => omega); intro t9Z h9Z tk9Z F9Z N9Z; (try dsimp only); (try k_fold))) | ((with_reducible show wpAny _ _ (call (Value.builtin "issubclass") _ _) _ _ _); (k_here; k_dflt (refine' issub_pair ?k1 ?_; (case k1 => exact News.get (by k_asm) (by k_mem)); k_whole))))) | (k_here; (with_reducible show wpAny _ _ (subscriptTail _ _ (Value.ref _) (Value.int (-1) _)) _ _ _); k_dflt (refine' item_last ?k1 ?k2 ?_ ?k4; (case k1 => k_asm); (case k2 => k_mem); (case k4 => with_unfolding_all rfl); k_whole)) | ((with_reducible show wpAny _ _ (truthy _) _ _ _); (first | ((with_reducible show wpAny _ _ (truthy (Value.ref _)) _ _ _); (k_here; k_dflt (first | (refine' truthy_nil ?k1 ?k2 ?_; (case k1 => k_asm); (case k2 => k_mem); k_whole) | (refine' truthy_snoc ?k1 ?k2 ?k3 ?_; (case k1 => k_asm); (case k2 => k_mem); (case k3 => omega); k_whole)))) | (k_here; (with_reducible show wpAny _ _ (truthy (Value.str _ _)) _ _ _); refine truthy_long (by assumption) (by omega) ?_; intro _))) | ((with_reducible show wpAny _ _ (compareOp _ _ _) _ _ _); (first | (k_here; (with_reducible show wpAny _ _ (compareOp CmpOp.NotIn (Value.str _ _) (Value.str _ _)) _ _ _); (first | (refine notin_known (b := false) (by assumption) ?_) | (refine notin_known (b := true) (by assumption) ?_) | (refine notin_known (b := false) (by decide +kernel) ?_) | (refine notin_known (b := true) (by decide +kernel) ?_)); (try simp only [Bool.not_false, Bool.not_true])) | (k_here; (with_reducible show wpAny _ _ (compareOp CmpOp.In (Value.str _ _) (Value.str _ _)) _ _ _); first | (refine in_known (b := false) (by assumption) ?_) | (refine in_known (b := true) (by assumption) ?_) | (refine in_known (b := false) (by decide +kernel) ?_) | (refine in_known (b := true) (by decide +kernel) ?_)))) | ((with_reducible show wpAny _ _ (execs _ _) _ _ _); (first | ((with_reducible show wpAny _ _ (execs [] _) _ _ _); (k_here; refine wpAny_execs_nil ?_)) | ((with_reducible show wpAny _ _ (execs (_ :: _) _) _ _ _); (k_here; (try dsimp only); (try k_fold); first | with_reducible refine execs_one ?_ | (refine execs_more ?_; intro qN8 hN8 hO8))))) | walk1 | ((with_reducible show wpAny _ _ _ _ _ _); dsimp only) | (leave1; walk_say "STEP leave1"; try dsimp only) | fail "no step")
  unfold Stop
  rename List.map _ _ = Txt.split _ _ => hsp
  rename StrsAre _ _ => hsa
  rename Heap.IsList _ _ _ => hil
  rw [p3, p4] at hsp
  rw [hsp] at hsa
  rename News _ _ _ (_ :: _ :: _ :: R) => N1
  rename Fr _ _ _ (fun y => _) => F1
  rename _ ∧ _ ∧ AllLt _ R => l1
  refine news3 N1 ?_
  intro NL CL TU e1 e2 e3
  subst e1
  subst e3
  rw [← e2] at N1 l1 ⊢
  clear e2
  refine strs_name hsa ?_
  intro vs ev
  rw [← ev] at N1 hsa
  clear ev hil
  have lvs := hsa.length
  have n1 : NL ≠ CL := Nat.ne_of_gt l1.1
  refine list_loop (vs := vs) (nn := 0) ((NL, listOf ([] : List Value).toArray 0) :: (CL, listOf vs.toArray 0) :: R)
    (fun i nx => ∃ us n acc, nx = (NL, listOf us.toArray n) :: (CL, listOf vs.toArray 0) :: R ∧ StrsAre us acc ∧ acc = (comps.take i).foldl normStep [] ∧ Str.ofString ".." ∉ acc) (by rfl) F1 N1 ?_ (.tail _ (.head _)) ⟨[], 0, [], rfl, .nil, rfl, by simp⟩ ?_ ?_
  · intro p hp
    rcases List.mem_cons.mp hp with rfl | hp
    · exact .head _
    · rcases List.mem_cons.mp hp with rfl | hp
      · exact .tail _ (.head _)
      · exact .tail _ (.tail _ (.tail _ hp))
  · rintro i v nx h tk own hv hoff - ⟨us, n, acc, rfl, hus, hacc, hdd⟩ F2 N2
    obtain ⟨c, t, rfl, hc⟩ := strs_item hsa hv
    have hi : i < comps.length := (List.getElem?_eq_some_iff.mp hc).1
    have lus : us.length ≤ 100000 := by
      rw [hus.length, hacc]
      have := norm_len (comps.take i) []
      simp only [List.length_nil, List.length_take] at this
      omega
    have hnext : (comps.take (i + 1)).foldl normStep [] = normStep acc c := by
      rw [List.take_add_one, hc, hacc]
      simp
    have o1 : ∀ p ∈ R ++ own, p.1 ≠ NL := by
      intro p hp
      rcases List.mem_append.mp hp with hp | hp
      · exact allLt_ne l1.2.2 p hp
      · exact hoff p hp _ (.head _)
    simp only [List.cons_append] at N2
    refine named (R ++ own) ?_
    intro R2 hR2
    rw [← hR2] at N2 o1
    have e1 : ∀ z : Str, z ≠ c → (c == z) = false := fun z hz => beq_eq_false_iff_ne.mpr (Ne.symm hz)
    by_cases c0 : c = Str.ofString ""
    · subst c0
      repeat' (first | (k_unfold; (try dsimp only)) | (k_end; (with_reducible refine hN8 _ _ ?_); intro kN8; clear hN8 hO8; (try clear qN8); first | with_reducible refine execs_one ?_ | (refine execs_more ?_; intro qN8 hN8 hO8)) | (k_end; (with_reducible refine hO8 _ _ ?zn8 ?_); (case zn8 => first | exact ne_ret _ | exact ne_brk | exact ne_cont); clear hN8 hO8; (try clear qN8)) | (k_end; wrow_close) | ((with_reducible show wpAny _ _ (pyIter (Value.ref _)) _ _ _); (k_here; refine stop_in ?_)) | ((with_reducible show wpAny _ _ (exec _ _) _ _ _); (first | ((with_reducible show wpAny _ _ (exec (Stmt.For (Expr.Name _ _) (Expr.Name _ _) _ _ _) _) _ _ _); (k_here; (rename Fr _ _ _ _ => lF'Z); (with_unfolding_all refine' For_invVF lF'Z ?k1 ?k2 ?_; (case k1 | k2 => exact rfl); k_whole))) | ((with_reducible show wpAny _ _ (exec (Stmt.If _ _ _ _) _) _ _ _); (k_here; refine wpAny_If ?_)))) | ((with_reducible show wpAny _ _ (call _ _ _) _ _ _); (first | (k_here; (with_reducible show wpAny _ _ (call (Value.builtin "str.join") [Value.str _ _, Value.ref _]) _ _ _); k_dflt (refine' join_listW ?k1 ?k2 ?k3 ?k4 ?_; (case k1 => exact News.isList (by k_asm) (by k_mem)); (case k2 => assumption); (case k3 => decide +kernel); (case k4 => first | assumption | omega); k_whole); intro _ _) | ((with_reducible show wpAny _ _ (call (Value.builtin "list.pop") _ _) _ _ _); (k_here; k_dflt (refine' pop_snoc ?k1 ?k2 ?k3 ?k4 ?_; (case k1 | k2 => k_asm); (case k3 => k_upd); (case k4 => omega); k_whole); intro h'Z F'Z N'Z; (try k_sweep))) | ((with_reducible show wpAny _ _ (call (Value.builtin "list.append") _ _) _ _ _); (k_here; k_dflt (refine' append_snoc ?k1 ?k2 ?k3 ?k4 ?_; (case k1 | k2 => k_asm); (case k3 => k_upd); (case k4 => omega); k_whole); intro h'Z F'Z N'Z; (try k_sweep))) | (k_here; (with_reducible show wpAny _ _ (call (Value.ref 813) [Value.str _ _]) _ _ _); k_dflt (refine' says_pure (sep_says _ _ _ _) ?k1 ?k2 ?k3 ?k4 ?k5 ?kK ?kd ?ku ?_; tb_rel; intro t9Z h9Z tk9Z F9Z N9Z; (try dsimp only); (try k_fold))) | (k_here; (with_reducible show wpAny _ _ (call (Value.ref 799) [Value.str _ _]) _ _ _); k_dflt (refine' says_pure (fspath_says _ _ _ _) ?k1 ?k2 ?k3 ?k4 ?k5 ?kK ?kd ?ku ?_; tb_rel; intro t9Z h9Z tk9Z F9Z N9Z; (try dsimp only); (try k_fold))) | (k_here; (with_reducible show wpAny _ _ (call (Value.ref 53) [Value.int _ _, Value.str _ _]) _ _ _); k_dflt (refine' says_pure (index_says _ _ _ _ _ _ ?zqkp ?zqkq) ?k1 ?k2 ?k3 ?k4 ?k5 ?kK ?kd ?ku ?_; tb_rel; (case zqkp | zqkq => omega); intro t9Z h9Z tk9Z F9Z N9Z; (try dsimp only); (try k_fold))) | ((with_reducible show wpAny _ _ (call (Value.builtin "issubclass") _ _) _ _ _); (k_here; k_dflt (refine' issub_pair ?k1 ?_; (case k1 => exact News.get (by k_asm) (by k_mem)); k_whole))))) | (k_here; (with_reducible show wpAny _ _ (subscriptTail _ _ (Value.ref _) (Value.int (-1) _)) _ _ _); k_dflt (refine' item_last ?k1 ?k2 ?_ ?k4; (case k1 => k_asm); (case k2 => k_mem); (case k4 => with_unfolding_all rfl); k_whole)) | ((with_reducible show wpAny _ _ (truthy _) _ _ _); (first | ((with_reducible show wpAny _ _ (truthy (Value.ref _)) _ _ _); (k_here; k_dflt (first | (refine' truthy_nil ?k1 ?k2 ?_; (case k1 => k_asm); (case k2 => k_mem); k_whole) | (refine' truthy_snoc ?k1 ?k2 ?k3 ?_; (case k1 => k_asm); (case k2 => k_mem); (case k3 => omega); k_whole)))) | (k_here; (with_reducible show wpAny _ _ (truthy (Value.str _ _)) _ _ _); refine truthy_long (by assumption) (by omega) ?_; intro _))) | ((with_reducible show wpAny _ _ (compareOp _ _ _) _ _ _); (first | (k_here; (with_reducible show wpAny _ _ (compareOp CmpOp.NotIn (Value.str _ _) (Value.str _ _)) _ _ _); (first | (refine notin_known (b := false) (by assumption) ?_) | (refine notin_known (b := true) (by assumption) ?_) | (refine notin_known (b := false) (by decide +kernel) ?_) | (refine notin_known (b := true) (by decide +kernel) ?_)); (try simp only [Bool.not_false, Bool.not_true])) | (k_here; (with_reducible show wpAny _ _ (compareOp CmpOp.In (Value.str _ _) (Value.str _ _)) _ _ _); first | (refine in_known (b := false) (by assumption) ?_) | (refine in_known (b := true) (by assumption) ?_) | (refine in_known (b := false) (by decide +kernel) ?_) | (refine in_known (b := true) (by decide +kernel) ?_)))) | ((with_reducible show wpAny _ _ (execs _ _) _ _ _); (first | ((with_reducible show wpAny _ _ (execs [] _) _ _ _); (k_here; refine wpAny_execs_nil ?_)) | ((with_reducible show wpAny _ _ (execs (_ :: _) _) _ _ _); (k_here; (try dsimp only); (try k_fold); first | with_reducible refine execs_one ?_ | (refine execs_more ?_; intro qN8 hN8 hO8))))) | walk1 | ((with_reducible show wpAny _ _ _ _ _ _); dsimp only) | (leave1; walk_say "STEP leave1"; try dsimp only) | fail "no step")
      refine seq_end ((NL, listOf us.toArray n) :: (CL, listOf vs.toArray 0) :: R) (by assumption) (by assumption) (.tail _ (.head _)) ⟨us, n, acc, rfl, hus, by rw [hnext]; exact (if_pos (.inl rfl)).symm, hdd⟩ (fun z hz => if_neg hz) hoff (in_two hR2) (own_two hR2)
    · by_cases c1 : c = Str.ofString "."
      · subst c1
        repeat' (first | (k_unfold; (try dsimp only)) | (k_end; (with_reducible refine hN8 _ _ ?_); intro kN8; clear hN8 hO8; (try clear qN8); first | with_reducible refine execs_one ?_ | (refine execs_more ?_; intro qN8 hN8 hO8)) | (k_end; (with_reducible refine hO8 _ _ ?zn8 ?_); (case zn8 => first | exact ne_ret _ | exact ne_brk | exact ne_cont); clear hN8 hO8; (try clear qN8)) | (k_end; wrow_close) | ((with_reducible show wpAny _ _ (pyIter (Value.ref _)) _ _ _); (k_here; refine stop_in ?_)) | ((with_reducible show wpAny _ _ (exec _ _) _ _ _); (first | ((with_reducible show wpAny _ _ (exec (Stmt.For (Expr.Name _ _) (Expr.Name _ _) _ _ _) _) _ _ _); (k_here; (rename Fr _ _ _ _ => lF'Z); (with_unfolding_all refine' For_invVF lF'Z ?k1 ?k2 ?_; (case k1 | k2 => exact rfl); k_whole))) | ((with_reducible show wpAny _ _ (exec (Stmt.If _ _ _ _) _) _ _ _); (k_here; refine wpAny_If ?_)))) | ((with_reducible show wpAny _ _ (call _ _ _) _ _ _); (first | (k_here; (with_reducible show wpAny _ _ (call (Value.builtin "str.join") [Value.str _ _, Value.ref _]) _ _ _); k_dflt (refine' join_listW ?k1 ?k2 ?k3 ?k4 ?_; (case k1 => exact News.isList (by k_asm) (by k_mem)); (case k2 => assumption); (case k3 => decide +kernel); (case k4 => first | assumption | omega); k_whole); intro _ _) | ((with_reducible show wpAny _ _ (call (Value.builtin "list.pop") _ _) _ _ _); (k_here; k_dflt (refine' pop_snoc ?k1 ?k2 ?k3 ?k4 ?_; (case k1 | k2 => k_asm); (case k3 => k_upd); (case k4 => omega); k_whole); intro h'Z F'Z N'Z; (try k_sweep))) | ((with_reducible show wpAny _ _ (call (Value.builtin "list.append") _ _) _ _ _); (k_here; k_dflt (refine' append_snoc ?k1 ?k2 ?k3 ?k4 ?_; (case k1 | k2 => k_asm); (case k3 => k_upd); (case k4 => omega); k_whole); intro h'Z F'Z N'Z; (try k_sweep))) | (k_here; (with_reducible show wpAny _ _ (call (Value.ref 813) [Value.str _ _]) _ _ _); k_dflt (refine' says_pure (sep_says _ _ _ _) ?k1 ?k2 ?k3 ?k4 ?k5 ?kK ?kd ?ku ?_; tb_rel; intro t9Z h9Z tk9Z F9Z N9Z; (try dsimp only); (try k_fold))) | (k_here; (with_reducible show wpAny _ _ (call (Value.ref 799) [Value.str _ _]) _ _ _); k_dflt (refine' says_pure (fspath_says _ _ _ _) ?k1 ?k2 ?k3 ?k4 ?k5 ?kK ?kd ?ku ?_; tb_rel; intro t9Z h9Z tk9Z F9Z N9Z; (try dsimp only); (try k_fold))) | (k_here; (with_reducible show wpAny _ _ (call (Value.ref 53) [Value.int _ _, Value.str _ _]) _ _ _); k_dflt (refine' says_pure (index_says _ _ _ _ _ _ ?zqkp ?zqkq) ?k1 ?k2 ?k3 ?k4 ?k5 ?kK ?kd ?ku ?_; tb_rel; (case zqkp | zqkq => omega); intro t9Z h9Z tk9Z F9Z N9Z; (try dsimp only); (try k_fold))) | ((with_reducible show wpAny _ _ (call (Value.builtin "issubclass") _ _) _ _ _); (k_here; k_dflt (refine' issub_pair ?k1 ?_; (case k1 => exact News.get (by k_asm) (by k_mem)); k_whole))))) | (k_here; (with_reducible show wpAny _ _ (subscriptTail _ _ (Value.ref _) (Value.int (-1) _)) _ _ _); k_dflt (refine' item_last ?k1 ?k2 ?_ ?k4; (case k1 => k_asm); (case k2 => k_mem); (case k4 => with_unfolding_all rfl); k_whole)) | ((with_reducible show wpAny _ _ (truthy _) _ _ _); (first | ((with_reducible show wpAny _ _ (truthy (Value.ref _)) _ _ _); (k_here; k_dflt (first | (refine' truthy_nil ?k1 ?k2 ?_; (case k1 => k_asm); (case k2 => k_mem); k_whole) | (refine' truthy_snoc ?k1 ?k2 ?k3 ?_; (case k1 => k_asm); (case k2 => k_mem); (case k3 => omega); k_whole)))) | (k_here; (with_reducible show wpAny _ _ (truthy (Value.str _ _)) _ _ _); refine truthy_long (by assumption) (by omega) ?_; intro _))) | ((with_reducible show wpAny _ _ (compareOp _ _ _) _ _ _); (first | (k_here; (with_reducible show wpAny _ _ (compareOp CmpOp.NotIn (Value.str _ _) (Value.str _ _)) _ _ _); (first | (refine notin_known (b := false) (by assumption) ?_) | (refine notin_known (b := true) (by assumption) ?_) | (refine notin_known (b := false) (by decide +kernel) ?_) | (refine notin_known (b := true) (by decide +kernel) ?_)); (try simp only [Bool.not_false, Bool.not_true])) | (k_here; (with_reducible show wpAny _ _ (compareOp CmpOp.In (Value.str _ _) (Value.str _ _)) _ _ _); first | (refine in_known (b := false) (by assumption) ?_) | (refine in_known (b := true) (by assumption) ?_) | (refine in_known (b := false) (by decide +kernel) ?_) | (refine in_known (b := true) (by decide +kernel) ?_)))) | ((with_reducible show wpAny _ _ (execs _ _) _ _ _); (first | ((with_reducible show wpAny _ _ (execs [] _) _ _ _); (k_here; refine wpAny_execs_nil ?_)) | ((with_reducible show wpAny _ _ (execs (_ :: _) _) _ _ _); (k_here; (try dsimp only); (try k_fold); first | with_reducible refine execs_one ?_ | (refine execs_more ?_; intro qN8 hN8 hO8))))) | walk1 | ((with_reducible show wpAny _ _ _ _ _ _); dsimp only) | (leave1; walk_say "STEP leave1"; try dsimp only) | fail "no step")
        refine seq_end ((NL, listOf us.toArray n) :: (CL, listOf vs.toArray 0) :: R) (by assumption) (by assumption) (.tail _ (.head _)) ⟨us, n, acc, rfl, hus, by rw [hnext]; exact (if_pos (.inr rfl)).symm, hdd⟩ (fun z hz => if_neg hz) hoff (in_two hR2) (own_two hR2)
      · by_cases c2 : c = Str.ofString ".."
        · subst c2
          rcases PyProof.Rows.strs_nil_or_snoc hus with ⟨hu, ha⟩ | ⟨ui, ai, z, tz, hu, ha, hui⟩
          · rw [hu] at N2
            repeat' (first | (k_unfold; (try dsimp only)) | (k_end; (with_reducible refine hN8 _ _ ?_); intro kN8; clear hN8 hO8; (try clear qN8); first | with_reducible refine execs_one ?_ | (refine execs_more ?_; intro qN8 hN8 hO8)) | (k_end; (with_reducible refine hO8 _ _ ?zn8 ?_); (case zn8 => first | exact ne_ret _ | exact ne_brk | exact ne_cont); clear hN8 hO8; (try clear qN8)) | (k_end; wrow_close) | ((with_reducible show wpAny _ _ (pyIter (Value.ref _)) _ _ _); (k_here; refine stop_in ?_)) | ((with_reducible show wpAny _ _ (exec _ _) _ _ _); (first | ((with_reducible show wpAny _ _ (exec (Stmt.For (Expr.Name _ _) (Expr.Name _ _) _ _ _) _) _ _ _); (k_here; (rename Fr _ _ _ _ => lF'Z); (with_unfolding_all refine' For_invVF lF'Z ?k1 ?k2 ?_; (case k1 | k2 => exact rfl); k_whole))) | ((with_reducible show wpAny _ _ (exec (Stmt.If _ _ _ _) _) _ _ _); (k_here; refine wpAny_If ?_)))) | ((with_reducible show wpAny _ _ (call _ _ _) _ _ _); (first | (k_here; (with_reducible show wpAny _ _ (call (Value.builtin "str.join") [Value.str _ _, Value.ref _]) _ _ _); k_dflt (refine' join_listW ?k1 ?k2 ?k3 ?k4 ?_; (case k1 => exact News.isList (by k_asm) (by k_mem)); (case k2 => assumption); (case k3 => decide +kernel); (case k4 => first | assumption | omega); k_whole); intro _ _) | ((with_reducible show wpAny _ _ (call (Value.builtin "list.pop") _ _) _ _ _); (k_here; k_dflt (refine' pop_snoc ?k1 ?k2 ?k3 ?k4 ?_; (case k1 | k2 => k_asm); (case k3 => k_upd); (case k4 => omega); k_whole); intro h'Z F'Z N'Z; (try k_sweep))) | ((with_reducible show wpAny _ _ (call (Value.builtin "list.append") _ _) _ _ _); (k_here; k_dflt (refine' append_snoc ?k1 ?k2 ?k3 ?k4 ?_; (case k1 | k2 => k_asm); (case k3 => k_upd); (case k4 => omega); k_whole); intro h'Z F'Z N'Z; (try k_sweep))) | (k_here; (with_reducible show wpAny _ _ (call (Value.ref 813) [Value.str _ _]) _ _ _); k_dflt (refine' says_pure (sep_says _ _ _ _) ?k1 ?k2 ?k3 ?k4 ?k5 ?kK ?kd ?ku ?_; tb_rel; intro t9Z h9Z tk9Z F9Z N9Z; (try dsimp only); (try k_fold))) | (k_here; (with_reducible show wpAny _ _ (call (Value.ref 799) [Value.str _ _]) _ _ _); k_dflt (refine' says_pure (fspath_says _ _ _ _) ?k1 ?k2 ?k3 ?k4 ?k5 ?kK ?kd ?ku ?_; tb_rel; intro t9Z h9Z tk9Z F9Z N9Z; (try dsimp only); (try k_fold))) | (k_here; (with_reducible show wpAny _ _ (call (Value.ref 53) [Value.int _ _, Value.str _ _]) _ _ _); k_dflt (refine' says_pure (index_says _ _ _ _ _ _ ?zqkp ?zqkq) ?k1 ?k2 ?k3 ?k4 ?k5 ?kK ?kd ?ku ?_; tb_rel; (case zqkp | zqkq => omega); intro t9Z h9Z tk9Z F9Z N9Z; (try dsimp only); (try k_fold))) | ((with_reducible show wpAny _ _ (call (Value.builtin "issubclass") _ _) _ _ _); (k_here; k_dflt (refine' issub_pair ?k1 ?_; (case k1 => exact News.get (by k_asm) (by k_mem)); k_whole))))) | (k_here; (with_reducible show wpAny _ _ (subscriptTail _ _ (Value.ref _) (Value.int (-1) _)) _ _ _); k_dflt (refine' item_last ?k1 ?k2 ?_ ?k4; (case k1 => k_asm); (case k2 => k_mem); (case k4 => with_unfolding_all rfl); k_whole)) | ((with_reducible show wpAny _ _ (truthy _) _ _ _); (first | ((with_reducible show wpAny _ _ (truthy (Value.ref _)) _ _ _); (k_here; k_dflt (first | (refine' truthy_nil ?k1 ?k2 ?_; (case k1 => k_asm); (case k2 => k_mem); k_whole) | (refine' truthy_snoc ?k1 ?k2 ?k3 ?_; (case k1 => k_asm); (case k2 => k_mem); (case k3 => omega); k_whole)))) | (k_here; (with_reducible show wpAny _ _ (truthy (Value.str _ _)) _ _ _); refine truthy_long (by assumption) (by omega) ?_; intro _))) | ((with_reducible show wpAny _ _ (compareOp _ _ _) _ _ _); (first | (k_here; (with_reducible show wpAny _ _ (compareOp CmpOp.NotIn (Value.str _ _) (Value.str _ _)) _ _ _); (first | (refine notin_known (b := false) (by assumption) ?_) | (refine notin_known (b := true) (by assumption) ?_) | (refine notin_known (b := false) (by decide +kernel) ?_) | (refine notin_known (b := true) (by decide +kernel) ?_)); (try simp only [Bool.not_false, Bool.not_true])) | (k_here; (with_reducible show wpAny _ _ (compareOp CmpOp.In (Value.str _ _) (Value.str _ _)) _ _ _); first | (refine in_known (b := false) (by assumption) ?_) | (refine in_known (b := true) (by assumption) ?_) | (refine in_known (b := false) (by decide +kernel) ?_) | (refine in_known (b := true) (by decide +kernel) ?_)))) | ((with_reducible show wpAny _ _ (execs _ _) _ _ _); (first | ((with_reducible show wpAny _ _ (execs [] _) _ _ _); (k_here; refine wpAny_execs_nil ?_)) | ((with_reducible show wpAny _ _ (execs (_ :: _) _) _ _ _); (k_here; (try dsimp only); (try k_fold); first | with_reducible refine execs_one ?_ | (refine execs_more ?_; intro qN8 hN8 hO8))))) | walk1 | ((with_reducible show wpAny _ _ _ _ _ _); dsimp only) | (leave1; walk_say "STEP leave1"; try dsimp only) | fail "no step")
            refine seq_end ((NL, listOf ([] : List Value).toArray n) :: (CL, listOf vs.toArray 0) :: R) (by assumption) (by assumption) (.tail _ (.head _)) ⟨[], n, [], rfl, .nil, by rw [hnext, ha]; rfl, by simp⟩ (fun z hz => if_neg hz) hoff (in_two hR2) (own_two hR2)
          · rw [hu] at N2
            rw [hu] at lus
            have lui : ui.length ≤ 100000 := by simp at lus; omega
            have hz2 : z ≠ Str.ofString ".." := fun e => hdd (by rw [ha, e]; simp)
            have hz3 : (z == Str.ofString "..") = false := beq_eq_false_iff_ne.mpr hz2
            repeat' (first | (k_unfold; (try dsimp only)) | (k_end; (with_reducible refine hN8 _ _ ?_); intro kN8; clear hN8 hO8; (try clear qN8); first | with_reducible refine execs_one ?_ | (refine execs_more ?_; intro qN8 hN8 hO8)) | (k_end; (with_reducible refine hO8 _ _ ?zn8 ?_); (case zn8 => first | exact ne_ret _ | exact ne_brk | exact ne_cont); clear hN8 hO8; (try clear qN8)) | (k_end; wrow_close) | ((with_reducible show wpAny _ _ (pyIter (Value.ref _)) _ _ _); (k_here; refine stop_in ?_)) | ((with_reducible show wpAny _ _ (exec _ _) _ _ _); (first | ((with_reducible show wpAny _ _ (exec (Stmt.For (Expr.Name _ _) (Expr.Name _ _) _ _ _) _) _ _ _); (k_here; (rename Fr _ _ _ _ => lF'Z); (with_unfolding_all refine' For_invVF lF'Z ?k1 ?k2 ?_; (case k1 | k2 => exact rfl); k_whole))) | ((with_reducible show wpAny _ _ (exec (Stmt.If _ _ _ _) _) _ _ _); (k_here; refine wpAny_If ?_)))) | ((with_reducible show wpAny _ _ (call _ _ _) _ _ _); (first | (k_here; (with_reducible show wpAny _ _ (call (Value.builtin "str.join") [Value.str _ _, Value.ref _]) _ _ _); k_dflt (refine' join_listW ?k1 ?k2 ?k3 ?k4 ?_; (case k1 => exact News.isList (by k_asm) (by k_mem)); (case k2 => assumption); (case k3 => decide +kernel); (case k4 => first | assumption | omega); k_whole); intro _ _) | ((with_reducible show wpAny _ _ (call (Value.builtin "list.pop") _ _) _ _ _); (k_here; k_dflt (refine' pop_snoc ?k1 ?k2 ?k3 ?k4 ?_; (case k1 | k2 => k_asm); (case k3 => k_upd); (case k4 => omega); k_whole); intro h'Z F'Z N'Z; (try k_sweep))) | ((with_reducible show wpAny _ _ (call (Value.builtin "list.append") _ _) _ _ _); (k_here; k_dflt (refine' append_snoc ?k1 ?k2 ?k3 ?k4 ?_; (case k1 | k2 => k_asm); (case k3 => k_upd); (case k4 => omega); k_whole); intro h'Z F'Z N'Z; (try k_sweep))) | (k_here; (with_reducible show wpAny _ _ (call (Value.ref 813) [Value.str _ _]) _ _ _); k_dflt (refine' says_pure (sep_says _ _ _ _) ?k1 ?k2 ?k3 ?k4 ?k5 ?kK ?kd ?ku ?_; tb_rel; intro t9Z h9Z tk9Z F9Z N9Z; (try dsimp only); (try k_fold))) | (k_here; (with_reducible show wpAny _ _ (call (Value.ref 799) [Value.str _ _]) _ _ _); k_dflt (refine' says_pure (fspath_says _ _ _ _) ?k1 ?k2 ?k3 ?k4 ?k5 ?kK ?kd ?ku ?_; tb_rel; intro t9Z h9Z tk9Z F9Z N9Z; (try dsimp only); (try k_fold))) | (k_here; (with_reducible show wpAny _ _ (call (Value.ref 53) [Value.int _ _, Value.str _ _]) _ _ _); k_dflt (refine' says_pure (index_says _ _ _ _ _ _ ?zqkp ?zqkq) ?k1 ?k2 ?k3 ?k4 ?k5 ?kK ?kd ?ku ?_; tb_rel; (case zqkp | zqkq => omega); intro t9Z h9Z tk9Z F9Z N9Z; (try dsimp only); (try k_fold))) | ((with_reducible show wpAny _ _ (call (Value.builtin "issubclass") _ _) _ _ _); (k_here; k_dflt (refine' issub_pair ?k1 ?_; (case k1 => exact News.get (by k_asm) (by k_mem)); k_whole))))) | (k_here; (with_reducible show wpAny _ _ (subscriptTail _ _ (Value.ref _) (Value.int (-1) _)) _ _ _); k_dflt (refine' item_last ?k1 ?k2 ?_ ?k4; (case k1 => k_asm); (case k2 => k_mem); (case k4 => with_unfolding_all rfl); k_whole)) | ((with_reducible show wpAny _ _ (truthy _) _ _ _); (first | ((with_reducible show wpAny _ _ (truthy (Value.ref _)) _ _ _); (k_here; k_dflt (first | (refine' truthy_nil ?k1 ?k2 ?_; (case k1 => k_asm); (case k2 => k_mem); k_whole) | (refine' truthy_snoc ?k1 ?k2 ?k3 ?_; (case k1 => k_asm); (case k2 => k_mem); (case k3 => omega); k_whole)))) | (k_here; (with_reducible show wpAny _ _ (truthy (Value.str _ _)) _ _ _); refine truthy_long (by assumption) (by omega) ?_; intro _))) | ((with_reducible show wpAny _ _ (compareOp _ _ _) _ _ _); (first | (k_here; (with_reducible show wpAny _ _ (compareOp CmpOp.NotIn (Value.str _ _) (Value.str _ _)) _ _ _); (first | (refine notin_known (b := false) (by assumption) ?_) | (refine notin_known (b := true) (by assumption) ?_) | (refine notin_known (b := false) (by decide +kernel) ?_) | (refine notin_known (b := true) (by decide +kernel) ?_)); (try simp only [Bool.not_false, Bool.not_true])) | (k_here; (with_reducible show wpAny _ _ (compareOp CmpOp.In (Value.str _ _) (Value.str _ _)) _ _ _); first | (refine in_known (b := false) (by assumption) ?_) | (refine in_known (b := true) (by assumption) ?_) | (refine in_known (b := false) (by decide +kernel) ?_) | (refine in_known (b := true) (by decide +kernel) ?_)))) | ((with_reducible show wpAny _ _ (execs _ _) _ _ _); (first | ((with_reducible show wpAny _ _ (execs [] _) _ _ _); (k_here; refine wpAny_execs_nil ?_)) | ((with_reducible show wpAny _ _ (execs (_ :: _) _) _ _ _); (k_here; (try dsimp only); (try k_fold); first | with_reducible refine execs_one ?_ | (refine execs_more ?_; intro qN8 hN8 hO8))))) | walk1 | ((with_reducible show wpAny _ _ _ _ _ _); dsimp only) | (leave1; walk_say "STEP leave1"; try dsimp only) | fail "no step")
            refine seq_end ((NL, listOf ui.toArray (n + 1)) :: (CL, listOf vs.toArray 0) :: R) (by assumption) (by assumption) (.tail _ (.head _)) ⟨ui, n + 1, ai, rfl, hui, ?_, fun h => hdd (by rw [ha]; exact List.mem_append.mpr (.inl h))⟩ (fun z hz => if_neg hz) hoff (in_two hR2) (own_two hR2)
            rw [hnext, ha]
            unfold normStep
            rw [if_neg (fun h => h.elim c0 c1), if_pos rfl, List.dropLast_concat]
        · have d1 : 0 < c.length := Nat.pos_of_ne_zero fun e => c0 (by
            rw [empty_eq]
            obtain ⟨⟨l⟩⟩ := c
            rw [length_mk] at e
            rw [List.eq_nil_of_length_eq_zero e])
          have d5 : c.length ≤ 1000000 := by
            have := mem_len (List.mem_of_getElem? hc)
            omega
          have d2 : (c == Str.ofString ".") = false := beq_eq_false_iff_ne.mpr c1
          have d3 : (c == Str.ofString "..") = false := beq_eq_false_iff_ne.mpr c2
          have d4 : (c != Str.ofString "..") = true := by rw [bne, d3]; rfl
          repeat' (first | (k_unfold; (try dsimp only)) | (k_end; (with_reducible refine hN8 _ _ ?_); intro kN8; clear hN8 hO8; (try clear qN8); first | with_reducible refine execs_one ?_ | (refine execs_more ?_; intro qN8 hN8 hO8)) | (k_end; (with_reducible refine hO8 _ _ ?zn8 ?_); (case zn8 => first | exact ne_ret _ | exact ne_brk | exact ne_cont); clear hN8 hO8; (try clear qN8)) | (k_end; wrow_close) | ((with_reducible show wpAny _ _ (pyIter (Value.ref _)) _ _ _); (k_here; refine stop_in ?_)) | ((with_reducible show wpAny _ _ (exec _ _) _ _ _); (first | ((with_reducible show wpAny _ _ (exec (Stmt.For (Expr.Name _ _) (Expr.Name _ _) _ _ _) _) _ _ _); (k_here; (rename Fr _ _ _ _ => lF'Z); (with_unfolding_all refine' For_invVF lF'Z ?k1 ?k2 ?_; (case k1 | k2 => exact rfl); k_whole))) | ((with_reducible show wpAny _ _ (exec (Stmt.If _ _ _ _) _) _ _ _); (k_here; refine wpAny_If ?_)))) | ((with_reducible show wpAny _ _ (call _ _ _) _ _ _); (first | (k_here; (with_reducible show wpAny _ _ (call (Value.builtin "str.join") [Value.str _ _, Value.ref _]) _ _ _); k_dflt (refine' join_listW ?k1 ?k2 ?k3 ?k4 ?_; (case k1 => exact News.isList (by k_asm) (by k_mem)); (case k2 => assumption); (case k3 => decide +kernel); (case k4 => first | assumption | omega); k_whole); intro _ _) | ((with_reducible show wpAny _ _ (call (Value.builtin "list.pop") _ _) _ _ _); (k_here; k_dflt (refine' pop_snoc ?k1 ?k2 ?k3 ?k4 ?_; (case k1 | k2 => k_asm); (case k3 => k_upd); (case k4 => omega); k_whole); intro h'Z F'Z N'Z; (try k_sweep))) | ((with_reducible show wpAny _ _ (call (Value.builtin "list.append") _ _) _ _ _); (k_here; k_dflt (refine' append_snoc ?k1 ?k2 ?k3 ?k4 ?_; (case k1 | k2 => k_asm); (case k3 => k_upd); (case k4 => omega); k_whole); intro h'Z F'Z N'Z; (try k_sweep))) | (k_here; (with_reducible show wpAny _ _ (call (Value.ref 813) [Value.str _ _]) _ _ _); k_dflt (refine' says_pure (sep_says _ _ _ _) ?k1 ?k2 ?k3 ?k4 ?k5 ?kK ?kd ?ku ?_; tb_rel; intro t9Z h9Z tk9Z F9Z N9Z; (try dsimp only); (try k_fold))) | (k_here; (with_reducible show wpAny _ _ (call (Value.ref 799) [Value.str _ _]) _ _ _); k_dflt (refine' says_pure (fspath_says _ _ _ _) ?k1 ?k2 ?k3 ?k4 ?k5 ?kK ?kd ?ku ?_; tb_rel; intro t9Z h9Z tk9Z F9Z N9Z; (try dsimp only); (try k_fold))) | (k_here; (with_reducible show wpAny _ _ (call (Value.ref 53) [Value.int _ _, Value.str _ _]) _ _ _); k_dflt (refine' says_pure (index_says _ _ _ _ _ _ ?zqkp ?zqkq) ?k1 ?k2 ?k3 ?k4 ?k5 ?kK ?kd ?ku ?_; tb_rel; (case zqkp | zqkq => omega); intro t9Z h9Z tk9Z F9Z N9Z; (try dsimp only); (try k_fold))) | ((with_reducible show wpAny _ _ (call (Value.builtin "issubclass") _ _) _ _ _); (k_here; k_dflt (refine' issub_pair ?k1 ?_; (case k1 => exact News.get (by k_asm) (by k_mem)); k_whole))))) | (k_here; (with_reducible show wpAny _ _ (subscriptTail _ _ (Value.ref _) (Value.int (-1) _)) _ _ _); k_dflt (refine' item_last ?k1 ?k2 ?_ ?k4; (case k1 => k_asm); (case k2 => k_mem); (case k4 => with_unfolding_all rfl); k_whole)) | ((with_reducible show wpAny _ _ (truthy _) _ _ _); (first | ((with_reducible show wpAny _ _ (truthy (Value.ref _)) _ _ _); (k_here; k_dflt (first | (refine' truthy_nil ?k1 ?k2 ?_; (case k1 => k_asm); (case k2 => k_mem); k_whole) | (refine' truthy_snoc ?k1 ?k2 ?k3 ?_; (case k1 => k_asm); (case k2 => k_mem); (case k3 => omega); k_whole)))) | (k_here; (with_reducible show wpAny _ _ (truthy (Value.str _ _)) _ _ _); refine truthy_long (by assumption) (by omega) ?_; intro _))) | ((with_reducible show wpAny _ _ (compareOp _ _ _) _ _ _); (first | (k_here; (with_reducible show wpAny _ _ (compareOp CmpOp.NotIn (Value.str _ _) (Value.str _ _)) _ _ _); (first | (refine notin_known (b := false) (by assumption) ?_) | (refine notin_known (b := true) (by assumption) ?_) | (refine notin_known (b := false) (by decide +kernel) ?_) | (refine notin_known (b := true) (by decide +kernel) ?_)); (try simp only [Bool.not_false, Bool.not_true])) | (k_here; (with_reducible show wpAny _ _ (compareOp CmpOp.In (Value.str _ _) (Value.str _ _)) _ _ _); first | (refine in_known (b := false) (by assumption) ?_) | (refine in_known (b := true) (by assumption) ?_) | (refine in_known (b := false) (by decide +kernel) ?_) | (refine in_known (b := true) (by decide +kernel) ?_)))) | ((with_reducible show wpAny _ _ (execs _ _) _ _ _); (first | ((with_reducible show wpAny _ _ (execs [] _) _ _ _); (k_here; refine wpAny_execs_nil ?_)) | ((with_reducible show wpAny _ _ (execs (_ :: _) _) _ _ _); (k_here; (try dsimp only); (try k_fold); first | with_reducible refine execs_one ?_ | (refine execs_more ?_; intro qN8 hN8 hO8))))) | walk1 | ((with_reducible show wpAny _ _ _ _ _ _); dsimp only) | (leave1; walk_say "STEP leave1"; try dsimp only) | fail "no step")
          refine seq_end ((NL, listOf (us ++ [Value.str c t]).toArray (n + 1)) :: (CL, listOf vs.toArray 0) :: R) (by assumption) (by assumption) (.tail _ (.head _)) ⟨us ++ [Value.str c t], n + 1, acc ++ [c], rfl, hus.append' (.cons _ _ .nil), ?_, ?_⟩ (fun z hz => if_neg hz) hoff (in_two hR2) (own_two hR2)
          · rw [hnext]
            unfold normStep
            rw [if_neg (fun h => h.elim c0 c1), if_neg c2]
          · intro h
            rcases List.mem_append.mp h with h | h
            · exact hdd h
            · exact c2 (List.mem_singleton.mp h).symm
  · rintro u nx h tk ⟨us, n, acc, rfl, hus, hacc, hdd⟩ F2 N2
    rw [lvs, List.take_length] at hacc
    have wt : (acc.map (·.length)).sum + acc.length ≤ 1048576 := by
      have h1 := norm_len comps []
      have h2 := norm_weight comps []
      rw [← hacc] at h1 h2
      simp at h1 h2
      omega
    have ln : (Txt.join (Str.ofString "/") acc).length ≤ 900000 := by
      have h := join_len acc
      have h1 := norm_len comps []
      have h2 := norm_weight comps []
      rw [← hacc] at h1 h2
      simp at h1 h2
      omega
    repeat' (first | (k_unfold; (try dsimp only)) | (k_end; (with_reducible refine hN8 _ _ ?_); intro kN8; clear hN8 hO8; (try clear qN8); first | with_reducible refine execs_one ?_ | (refine execs_more ?_; intro qN8 hN8 hO8)) | (k_end; (with_reducible refine hO8 _ _ ?zn8 ?_); (case zn8 => first | exact ne_ret _ | exact ne_brk | exact ne_cont); clear hN8 hO8; (try clear qN8)) | (k_end; wrow_close) | ((with_reducible show wpAny _ _ (pyIter (Value.ref _)) _ _ _); (k_here; refine stop_in ?_)) | ((with_reducible show wpAny _ _ (exec _ _) _ _ _); (first | ((with_reducible show wpAny _ _ (exec (Stmt.For (Expr.Name _ _) (Expr.Name _ _) _ _ _) _) _ _ _); (k_here; (rename Fr _ _ _ _ => lF'Z); (with_unfolding_all refine' For_invVF lF'Z ?k1 ?k2 ?_; (case k1 | k2 => exact rfl); k_whole))) | ((with_reducible show wpAny _ _ (exec (Stmt.If _ _ _ _) _) _ _ _); (k_here; refine wpAny_If ?_)))) | ((with_reducible show wpAny _ _ (call _ _ _) _ _ _); (first | (k_here; (with_reducible show wpAny _ _ (call (Value.builtin "str.join") [Value.str _ _, Value.ref _]) _ _ _); k_dflt (refine' join_listW ?k1 ?k2 ?k3 ?k4 ?_; (case k1 => exact News.isList (by k_asm) (by k_mem)); (case k2 => assumption); (case k3 => decide +kernel); (case k4 => first | assumption | omega); k_whole); intro _ _) | ((with_reducible show wpAny _ _ (call (Value.builtin "list.pop") _ _) _ _ _); (k_here; k_dflt (refine' pop_snoc ?k1 ?k2 ?k3 ?k4 ?_; (case k1 | k2 => k_asm); (case k3 => k_upd); (case k4 => omega); k_whole); intro h'Z F'Z N'Z; (try k_sweep))) | ((with_reducible show wpAny _ _ (call (Value.builtin "list.append") _ _) _ _ _); (k_here; k_dflt (refine' append_snoc ?k1 ?k2 ?k3 ?k4 ?_; (case k1 | k2 => k_asm); (case k3 => k_upd); (case k4 => omega); k_whole); intro h'Z F'Z N'Z; (try k_sweep))) | (k_here; (with_reducible show wpAny _ _ (call (Value.ref 813) [Value.str _ _]) _ _ _); k_dflt (refine' says_pure (sep_says _ _ _ _) ?k1 ?k2 ?k3 ?k4 ?k5 ?kK ?kd ?ku ?_; tb_rel; intro t9Z h9Z tk9Z F9Z N9Z; (try dsimp only); (try k_fold))) | (k_here; (with_reducible show wpAny _ _ (call (Value.ref 799) [Value.str _ _]) _ _ _); k_dflt (refine' says_pure (fspath_says _ _ _ _) ?k1 ?k2 ?k3 ?k4 ?k5 ?kK ?kd ?ku ?_; tb_rel; intro t9Z h9Z tk9Z F9Z N9Z; (try dsimp only); (try k_fold))) | (k_here; (with_reducible show wpAny _ _ (call (Value.ref 53) [Value.int _ _, Value.str _ _]) _ _ _); k_dflt (refine' says_pure (index_says _ _ _ _ _ _ ?zqkp ?zqkq) ?k1 ?k2 ?k3 ?k4 ?k5 ?kK ?kd ?ku ?_; tb_rel; (case zqkp | zqkq => omega); intro t9Z h9Z tk9Z F9Z N9Z; (try dsimp only); (try k_fold))) | ((with_reducible show wpAny _ _ (call (Value.builtin "issubclass") _ _) _ _ _); (k_here; k_dflt (refine' issub_pair ?k1 ?_; (case k1 => exact News.get (by k_asm) (by k_mem)); k_whole))))) | (k_here; (with_reducible show wpAny _ _ (subscriptTail _ _ (Value.ref _) (Value.int (-1) _)) _ _ _); k_dflt (refine' item_last ?k1 ?k2 ?_ ?k4; (case k1 => k_asm); (case k2 => k_mem); (case k4 => with_unfolding_all rfl); k_whole)) | ((with_reducible show wpAny _ _ (truthy _) _ _ _); (first | ((with_reducible show wpAny _ _ (truthy (Value.ref _)) _ _ _); (k_here; k_dflt (first | (refine' truthy_nil ?k1 ?k2 ?_; (case k1 => k_asm); (case k2 => k_mem); k_whole) | (refine' truthy_snoc ?k1 ?k2 ?k3 ?_; (case k1 => k_asm); (case k2 => k_mem); (case k3 => omega); k_whole)))) | (k_here; (with_reducible show wpAny _ _ (truthy (Value.str _ _)) _ _ _); refine truthy_long (by assumption) (by omega) ?_; intro _))) | ((with_reducible show wpAny _ _ (compareOp _ _ _) _ _ _); (first | (k_here; (with_reducible show wpAny _ _ (compareOp CmpOp.NotIn (Value.str _ _) (Value.str _ _)) _ _ _); (first | (refine notin_known (b := false) (by assumption) ?_) | (refine notin_known (b := true) (by assumption) ?_) | (refine notin_known (b := false) (by decide +kernel) ?_) | (refine notin_known (b := true) (by decide +kernel) ?_)); (try simp only [Bool.not_false, Bool.not_true])) | (k_here; (with_reducible show wpAny _ _ (compareOp CmpOp.In (Value.str _ _) (Value.str _ _)) _ _ _); first | (refine in_known (b := false) (by assumption) ?_) | (refine in_known (b := true) (by assumption) ?_) | (refine in_known (b := false) (by decide +kernel) ?_) | (refine in_known (b := true) (by decide +kernel) ?_)))) | ((with_reducible show wpAny _ _ (execs _ _) _ _ _); (first | ((with_reducible show wpAny _ _ (execs [] _) _ _ _); (k_here; refine wpAny_execs_nil ?_)) | ((with_reducible show wpAny _ _ (execs (_ :: _) _) _ _ _); (k_here; (try dsimp only); (try k_fold); first | with_reducible refine execs_one ?_ | (refine execs_more ?_; intro qN8 hN8 hO8))))) | walk1 | ((with_reducible show wpAny _ _ _ _ _ _); dsimp only) | (leave1; walk_say "STEP leave1"; try dsimp only) | fail "no step")
    exact hret _ _ _ _ (by assumption) (news_sub (by assumption) (fun q hq => .tail _ (.tail _ hq))) ⟨rfl, _, by rw [hacc]⟩
end P11
section P12
theorem off12 : True := by
  w_top off
  trivial
theorem newTuple_ok {vs : List Value} (h : vs.length ≤ sizeLine) : newTuple vs = (do let a ← alloc (tupOf vs); return Value.ref a) := by
  unfold newTuple newObj
  have hn : ¬ vs.toArray.size > sizeLine := by rw [List.size_toArray]; omega
  simp only [if_neg hn]
  rfl
/-- join's turn -/
noncomputable def joinStep (p b : Str) : Str := if Txt.startswith b (Str.ofString "/") = true ∨ p = Str.ofString "" then b else if Txt.endswith p (Str.ofString "/") = true then p ++ b else p ++ (Str.ofString "/" ++ b)
theorem joinStep_len (p b : Str) : (joinStep p b).length ≤ p.length + b.length + 1 := by
  unfold joinStep
  split
  · omega
  · split
    · rw [Str.length_append]; omega
    · rw [Str.length_append, Str.length_append, show (Str.ofString "/").length = 1 by decide +kernel]; omega
theorem joinAll_len (l : List Str) : ∀ p : Str, (l.foldl joinStep p).length ≤ p.length + (l.map (·.length)).sum + l.length := by
  induction l with
  | nil => intro p; simp
  | cons c l ih =>
    intro p
    have h := ih (joinStep p c)
    have h2 := joinStep_len p c
    simp only [List.foldl_cons, List.map_cons, List.sum_cons, List.length_cons]
    omega
theorem take_sum (l : List Str) : ∀ i, ((l.take i).map (·.length)).sum ≤ (l.map (·.length)).sum := by
  induction l with
  | nil => intro i; simp
  | cons c l ih =>
    intro i
    cases i with
    | zero => simp
    | succ i => have := ih i; simp only [List.take_succ_cons, List.map_cons, List.sum_cons]; omega
theorem join_end {g' h' : Heap} {L' D' : Addr} {args : List Value} {R own : Led} {m₀ m₁ m' : Str → Option Value} {tk' : Nat} {s₁ : Shared} {t' : Tok} {q' q : Str} {tr : List Str} {x : Str} (hnext : tr.foldl joinStep x = q) (hm : ∀ z, z ≠ Str.ofString "b" → [Str.ofString "path"].contains z = false → m₁ z = m₀ z)
    (hoff : OwnOff own (((D', tupOf args) :: R).map (·.1))) (F : Fr g' L' h' m') (N : News g' L' h' ((D', tupOf args) :: (R ++ own))) (hq : q = q') (hp9 : m' (Str.ofString "path") = some (.str q' t')) (hm9 : ∀ z, z ≠ Str.ofString "b" → z ≠ Str.ofString "path" → m' z = m₁ z) :
    InvEndG g' L' (fun m' nx => (D', tupOf args) ∈ nx ∧ (nx = (D', tupOf args) :: R ∧ ∃ t, m' (Str.ofString "path") = some (.str (tr.foldl joinStep x) t)) ∧ ∀ z, z ≠ Str.ofString "b" → [Str.ofString "path"].contains z = false → m' z = m₀ z) own s₁ { s₁ with heap := h', toks := tk' } :=
  InvEndG.intro F N ⟨.head _, ⟨rfl, _, by rw [hnext, hq]; exact hp9⟩, fun z z1 z2 => (hm9 z z1 (by simpa using z2)).trans (hm z z1 z2)⟩ hoff
    (fun p hp => (List.mem_cons.mp hp).elim (fun e => e ▸ .head _) fun h => .tail _ (List.mem_append.mpr (.inl h))) (fun p hp => .tail _ (List.mem_append.mpr (.inr hp)))
theorem join_says (w : World) (x : Str) (tx : Tok) (args : List Value) (ys : List Str) (R : Led) (ha : StrsAre args ys) (hw : x.length + (ys.map (·.length)).sum + ys.length ≤ 100000) : Says w (.ref 827) (.str x tx :: args) [] 30 R (Gives R (.str (ys.foldl joinStep x))) := by
  have hz : args.length ≤ sizeLine := by rw [ha.length, sizeLine_eq]; omega
  unfold Says
  k_fill
  intro dp un gd cn cs a ccd cl outer A₀ base h₀ L m s p loose mean mg mb Q E B F X N T hk hd hu hret
  refine wpAny_call ?_
  k_dflt (refine' kp_rest (vs := args) (g₁ := fun D => some [(Str.ofString "a", Value.str x tx), (Str.ofString "p", Value.ref D)]) (binds := fun D => [(Str.ofString "a", Value.str x tx), (Str.ofString "p", Value.ref D)]) ?k1 ?k2 ?k3 ?k4 ?k5 ?kA ?kF ?kK ?k6 ?k7 ?k8 ?kV ?kP ?kG ?kB ?_ ?c2 ?c3 ?c4 ?c5; (case kA => exact rfl); (case kF => exact rfl); (case kK => assumption); (case k1 => k_asm); (case k2 => k_asm); (case k3 => k_asm); (case k4 => k_asm); (case k5 => k_asm); (case k6 => k_is); (case k7 => k_is); (case k8 => k_room); (case kV => exact rfl); (case kP => (refine (congrArg (peek1 _ _) (show _ = (newTuple args >>= fun v => pure [(Str.ofString "a", Value.str x tx), (Str.ofString "p", v)]) from by cases args <;> kernel_rfl)).trans ?_; rw [newTuple_ok hz]; rfl)); (case kG => exact fun _ => rfl); (case kB => exact fun _ => locs rfl); (case c5 => decide); (case c2 => exact rfl); (case c3 => exact rfl); (case c4 => exact rfl); k_whole; intro D' g' L' h' l1 FG' F' N' B' X' T'; (try k_lt l1); (try dsimp only); (try k_lift B'); (try k_fold))
  repeat' (first | (k_unfold; (try dsimp only)) | (k_end; (with_reducible refine hN8 _ _ ?_); intro kN8; clear hN8 hO8; (try clear qN8); first | with_reducible refine execs_one ?_ | (refine execs_more ?_; intro qN8 hN8 hO8)) | (k_end; (with_reducible refine hO8 _ _ ?zn8 ?_); (case zn8 => first | exact ne_ret _ | exact ne_brk | exact ne_cont); clear hN8 hO8; (try clear qN8)) | (k_end; wrow_close) | ((with_reducible show wpAny _ _ (pyIter (Value.ref _)) _ _ _); (k_here; refine stop_in ?_)) | ((with_reducible show wpAny _ _ (exec _ _) _ _ _); (first | ((with_reducible show wpAny _ _ (exec (Stmt.For (Expr.Name _ _) (Expr.Name _ _) _ _ _) _) _ _ _); (k_here; (rename Fr _ _ _ _ => lF'Z); (with_unfolding_all refine' For_invVF lF'Z ?k1 ?k2 ?_; (case k1 | k2 => exact rfl); k_whole))) | ((with_reducible show wpAny _ _ (exec (Stmt.If _ _ _ _) _) _ _ _); (k_here; refine wpAny_If ?_)))) | ((with_reducible show wpAny _ _ (call _ _ _) _ _ _); (first | (k_here; (with_reducible show wpAny _ _ (call (Value.builtin "str.join") [Value.str _ _, Value.ref _]) _ _ _); k_dflt (refine' join_listW ?k1 ?k2 ?k3 ?k4 ?_; (case k1 => exact News.isList (by k_asm) (by k_mem)); (case k2 => assumption); (case k3 => decide +kernel); (case k4 => first | assumption | omega); k_whole); intro _ _) | ((with_reducible show wpAny _ _ (call (Value.builtin "list.pop") _ _) _ _ _); (k_here; k_dflt (refine' pop_snoc ?k1 ?k2 ?k3 ?k4 ?_; (case k1 | k2 => k_asm); (case k3 => k_upd); (case k4 => omega); k_whole); intro h'Z F'Z N'Z; (try k_sweep))) | ((with_reducible show wpAny _ _ (call (Value.builtin "list.append") _ _) _ _ _); (k_here; k_dflt (refine' append_snoc ?k1 ?k2 ?k3 ?k4 ?_; (case k1 | k2 => k_asm); (case k3 => k_upd); (case k4 => omega); k_whole); intro h'Z F'Z N'Z; (try k_sweep))) | (k_here; (with_reducible show wpAny _ _ (call (Value.ref 813) [Value.str _ _]) _ _ _); k_dflt (refine' says_pure (sep_says _ _ _ _) ?k1 ?k2 ?k3 ?k4 ?k5 ?kK ?kd ?ku ?_; tb_rel; intro t9Z h9Z tk9Z F9Z N9Z; (try dsimp only); (try k_fold))) | (k_here; (with_reducible show wpAny _ _ (call (Value.ref 799) [Value.str _ _]) _ _ _); k_dflt (refine' says_pure (fspath_says _ _ _ _) ?k1 ?k2 ?k3 ?k4 ?k5 ?kK ?kd ?ku ?_; tb_rel; intro t9Z h9Z tk9Z F9Z N9Z; (try dsimp only); (try k_fold))) | (k_here; (with_reducible show wpAny _ _ (call (Value.ref 53) [Value.int _ _, Value.str _ _]) _ _ _); k_dflt (refine' says_pure (index_says _ _ _ _ _ _ ?zqkp ?zqkq) ?k1 ?k2 ?k3 ?k4 ?k5 ?kK ?kd ?ku ?_; tb_rel; (case zqkp | zqkq => omega); intro t9Z h9Z tk9Z F9Z N9Z; (try dsimp only); (try k_fold))) | ((with_reducible show wpAny _ _ (call (Value.builtin "issubclass") _ _) _ _ _); (k_here; k_dflt (refine' issub_pair ?k1 ?_; (case k1 => exact News.get (by k_asm) (by k_mem)); k_whole))))) | (k_here; (with_reducible show wpAny _ _ (subscriptTail _ _ (Value.ref _) (Value.int (-1) _)) _ _ _); k_dflt (refine' item_last ?k1 ?k2 ?_ ?k4; (case k1 => k_asm); (case k2 => k_mem); (case k4 => with_unfolding_all rfl); k_whole)) | ((with_reducible show wpAny _ _ (truthy _) _ _ _); (first | ((with_reducible show wpAny _ _ (truthy (Value.ref _)) _ _ _); (k_here; k_dflt (first | (refine' truthy_nil ?k1 ?k2 ?_; (case k1 => k_asm); (case k2 => k_mem); k_whole) | (refine' truthy_snoc ?k1 ?k2 ?k3 ?_; (case k1 => k_asm); (case k2 => k_mem); (case k3 => omega); k_whole)))) | (k_here; (with_reducible show wpAny _ _ (truthy (Value.str _ _)) _ _ _); refine truthy_long (by assumption) (by omega) ?_; intro _))) | ((with_reducible show wpAny _ _ (compareOp _ _ _) _ _ _); (first | (k_here; (with_reducible show wpAny _ _ (compareOp CmpOp.NotIn (Value.str _ _) (Value.str _ _)) _ _ _); (first | (refine notin_known (b := false) (by assumption) ?_) | (refine notin_known (b := true) (by assumption) ?_) | (refine notin_known (b := false) (by decide +kernel) ?_) | (refine notin_known (b := true) (by decide +kernel) ?_)); (try simp only [Bool.not_false, Bool.not_true])) | (k_here; (with_reducible show wpAny _ _ (compareOp CmpOp.In (Value.str _ _) (Value.str _ _)) _ _ _); first | (refine in_known (b := false) (by assumption) ?_) | (refine in_known (b := true) (by assumption) ?_) | (refine in_known (b := false) (by decide +kernel) ?_) | (refine in_known (b := true) (by decide +kernel) ?_)))) | ((with_reducible show wpAny _ _ (execs _ _) _ _ _); (first | ((with_reducible show wpAny _ _ (execs [] _) _ _ _); (k_here; refine wpAny_execs_nil ?_)) | ((with_reducible show wpAny _ _ (execs (_ :: _) _) _ _ _); (k_here; (try dsimp only); (try k_fold); first | with_reducible refine execs_one ?_ | (refine execs_more ?_; intro qN8 hN8 hO8))))) | walk1 | ((with_reducible show wpAny _ _ _ _ _ _); dsimp only) | (leave1; walk_say "STEP leave1"; try dsimp only) | fail "no step")
  unfold Stop
  rename News _ _ _ (_ :: R) => N1
  rename Fr _ _ _ (fun y => _) => F1
  refine tup_loop (vs := args) ((D', tupOf args) :: R) (fun i m nx => nx = (D', tupOf args) :: R ∧ ∃ t, m (Str.ofString "path") = some (.str ((ys.take i).foldl joinStep x) t)) [Str.ofString "path"] (by rfl) F1 N1 (fun _ hp => hp) (.head _) ⟨rfl, _, rfl⟩ ?_ ?_
  · rintro i v m₁ nx h tk own hv hoff - ⟨rfl, t1, hp⟩ hm F2 N2
    obtain ⟨c, tc, rfl, hc⟩ := strs_item ha hv
    have hi : i < ys.length := (List.getElem?_eq_some_iff.mp hc).1
    obtain ⟨q, hq⟩ : ∃ q, q = (ys.take i).foldl joinStep x := ⟨_, rfl⟩
    rw [← hq] at hp
    have hnext : (ys.take (i + 1)).foldl joinStep x = joinStep q c := by
      rw [List.take_add_one, hc, hq]
      simp
    have ql : q.length ≤ 100000 := by
      have h1 := joinAll_len (ys.take i) x
      have h2 := take_sum ys i
      rw [← hq, List.length_take] at h1
      omega
    have cl : c.length ≤ 100000 := by
      have := mem_len (List.mem_of_getElem? hc)
      omega
    have F3 := kst_fr (ps := [(Str.ofString "path", Value.str q t1)]) (stored := []) (fun p hq => by rw [List.mem_singleton.mp hq]; exact hp) (fun z z1 z2 _ => hm z z1 (by simpa using z2)) F2
    clear F2
    dsimp only [kstB] at F3
    simp only [List.cons_append] at N2
    cases q1 : Txt.startswith c (Str.ofString "/") with
    | true =>
      repeat' (first | (k_unfold; (try dsimp only)) | (k_end; (with_reducible refine hN8 _ _ ?_); intro kN8; clear hN8 hO8; (try clear qN8); first | with_reducible refine execs_one ?_ | (refine execs_more ?_; intro qN8 hN8 hO8)) | (k_end; (with_reducible refine hO8 _ _ ?zn8 ?_); (case zn8 => first | exact ne_ret _ | exact ne_brk | exact ne_cont); clear hN8 hO8; (try clear qN8)) | (k_end; wrow_close) | ((with_reducible show wpAny _ _ (pyIter (Value.ref _)) _ _ _); (k_here; refine stop_in ?_)) | ((with_reducible show wpAny _ _ (exec _ _) _ _ _); (first | ((with_reducible show wpAny _ _ (exec (Stmt.For (Expr.Name _ _) (Expr.Name _ _) _ _ _) _) _ _ _); (k_here; (rename Fr _ _ _ _ => lF'Z); (with_unfolding_all refine' For_invVF lF'Z ?k1 ?k2 ?_; (case k1 | k2 => exact rfl); k_whole))) | ((with_reducible show wpAny _ _ (exec (Stmt.If _ _ _ _) _) _ _ _); (k_here; refine wpAny_If ?_)))) | ((with_reducible show wpAny _ _ (call _ _ _) _ _ _); (first | (k_here; (with_reducible show wpAny _ _ (call (Value.builtin "str.join") [Value.str _ _, Value.ref _]) _ _ _); k_dflt (refine' join_listW ?k1 ?k2 ?k3 ?k4 ?_; (case k1 => exact News.isList (by k_asm) (by k_mem)); (case k2 => assumption); (case k3 => decide +kernel); (case k4 => first | assumption | omega); k_whole); intro _ _) | ((with_reducible show wpAny _ _ (call (Value.builtin "list.pop") _ _) _ _ _); (k_here; k_dflt (refine' pop_snoc ?k1 ?k2 ?k3 ?k4 ?_; (case k1 | k2 => k_asm); (case k3 => k_upd); (case k4 => omega); k_whole); intro h'Z F'Z N'Z; (try k_sweep))) | ((with_reducible show wpAny _ _ (call (Value.builtin "list.append") _ _) _ _ _); (k_here; k_dflt (refine' append_snoc ?k1 ?k2 ?k3 ?k4 ?_; (case k1 | k2 => k_asm); (case k3 => k_upd); (case k4 => omega); k_whole); intro h'Z F'Z N'Z; (try k_sweep))) | (k_here; (with_reducible show wpAny _ _ (call (Value.ref 813) [Value.str _ _]) _ _ _); k_dflt (refine' says_pure (sep_says _ _ _ _) ?k1 ?k2 ?k3 ?k4 ?k5 ?kK ?kd ?ku ?_; tb_rel; intro t9Z h9Z tk9Z F9Z N9Z; (try dsimp only); (try k_fold))) | (k_here; (with_reducible show wpAny _ _ (call (Value.ref 799) [Value.str _ _]) _ _ _); k_dflt (refine' says_pure (fspath_says _ _ _ _) ?k1 ?k2 ?k3 ?k4 ?k5 ?kK ?kd ?ku ?_; tb_rel; intro t9Z h9Z tk9Z F9Z N9Z; (try dsimp only); (try k_fold))) | (k_here; (with_reducible show wpAny _ _ (call (Value.ref 53) [Value.int _ _, Value.str _ _]) _ _ _); k_dflt (refine' says_pure (index_says _ _ _ _ _ _ ?zqkp ?zqkq) ?k1 ?k2 ?k3 ?k4 ?k5 ?kK ?kd ?ku ?_; tb_rel; (case zqkp | zqkq => omega); intro t9Z h9Z tk9Z F9Z N9Z; (try dsimp only); (try k_fold))) | ((with_reducible show wpAny _ _ (call (Value.builtin "issubclass") _ _) _ _ _); (k_here; k_dflt (refine' issub_pair ?k1 ?_; (case k1 => exact News.get (by k_asm) (by k_mem)); k_whole))))) | (k_here; (with_reducible show wpAny _ _ (subscriptTail _ _ (Value.ref _) (Value.int (-1) _)) _ _ _); k_dflt (refine' item_last ?k1 ?k2 ?_ ?k4; (case k1 => k_asm); (case k2 => k_mem); (case k4 => with_unfolding_all rfl); k_whole)) | ((with_reducible show wpAny _ _ (truthy _) _ _ _); (first | ((with_reducible show wpAny _ _ (truthy (Value.ref _)) _ _ _); (k_here; k_dflt (first | (refine' truthy_nil ?k1 ?k2 ?_; (case k1 => k_asm); (case k2 => k_mem); k_whole) | (refine' truthy_snoc ?k1 ?k2 ?k3 ?_; (case k1 => k_asm); (case k2 => k_mem); (case k3 => omega); k_whole)))) | (k_here; (with_reducible show wpAny _ _ (truthy (Value.str _ _)) _ _ _); refine truthy_long (by assumption) (by omega) ?_; intro _))) | ((with_reducible show wpAny _ _ (compareOp _ _ _) _ _ _); (first | (k_here; (with_reducible show wpAny _ _ (compareOp CmpOp.NotIn (Value.str _ _) (Value.str _ _)) _ _ _); (first | (refine notin_known (b := false) (by assumption) ?_) | (refine notin_known (b := true) (by assumption) ?_) | (refine notin_known (b := false) (by decide +kernel) ?_) | (refine notin_known (b := true) (by decide +kernel) ?_)); (try simp only [Bool.not_false, Bool.not_true])) | (k_here; (with_reducible show wpAny _ _ (compareOp CmpOp.In (Value.str _ _) (Value.str _ _)) _ _ _); first | (refine in_known (b := false) (by assumption) ?_) | (refine in_known (b := true) (by assumption) ?_) | (refine in_known (b := false) (by decide +kernel) ?_) | (refine in_known (b := true) (by decide +kernel) ?_)))) | ((with_reducible show wpAny _ _ (execs _ _) _ _ _); (first | ((with_reducible show wpAny _ _ (execs [] _) _ _ _); (k_here; refine wpAny_execs_nil ?_)) | ((with_reducible show wpAny _ _ (execs (_ :: _) _) _ _ _); (k_here; (try dsimp only); (try k_fold); first | with_reducible refine execs_one ?_ | (refine execs_more ?_; intro qN8 hN8 hO8))))) | walk1 | ((with_reducible show wpAny _ _ _ _ _ _); dsimp only) | (leave1; walk_say "STEP leave1"; try dsimp only) | fail "no step")
      refine join_end hnext hm hoff (by assumption) (by assumption) (if_pos (.inl q1)) rfl (fun z z1 z2 => by rw [hm z z1 (by simpa using z2)]; simp only [if_neg z1, if_neg z2]; exact if_neg (by simp))
    | false =>
      by_cases q2 : q = Str.ofString ""
      · subst q2
        repeat' (first | (k_unfold; (try dsimp only)) | (k_end; (with_reducible refine hN8 _ _ ?_); intro kN8; clear hN8 hO8; (try clear qN8); first | with_reducible refine execs_one ?_ | (refine execs_more ?_; intro qN8 hN8 hO8)) | (k_end; (with_reducible refine hO8 _ _ ?zn8 ?_); (case zn8 => first | exact ne_ret _ | exact ne_brk | exact ne_cont); clear hN8 hO8; (try clear qN8)) | (k_end; wrow_close) | ((with_reducible show wpAny _ _ (pyIter (Value.ref _)) _ _ _); (k_here; refine stop_in ?_)) | ((with_reducible show wpAny _ _ (exec _ _) _ _ _); (first | ((with_reducible show wpAny _ _ (exec (Stmt.For (Expr.Name _ _) (Expr.Name _ _) _ _ _) _) _ _ _); (k_here; (rename Fr _ _ _ _ => lF'Z); (with_unfolding_all refine' For_invVF lF'Z ?k1 ?k2 ?_; (case k1 | k2 => exact rfl); k_whole))) | ((with_reducible show wpAny _ _ (exec (Stmt.If _ _ _ _) _) _ _ _); (k_here; refine wpAny_If ?_)))) | ((with_reducible show wpAny _ _ (call _ _ _) _ _ _); (first | (k_here; (with_reducible show wpAny _ _ (call (Value.builtin "str.join") [Value.str _ _, Value.ref _]) _ _ _); k_dflt (refine' join_listW ?k1 ?k2 ?k3 ?k4 ?_; (case k1 => exact News.isList (by k_asm) (by k_mem)); (case k2 => assumption); (case k3 => decide +kernel); (case k4 => first | assumption | omega); k_whole); intro _ _) | ((with_reducible show wpAny _ _ (call (Value.builtin "list.pop") _ _) _ _ _); (k_here; k_dflt (refine' pop_snoc ?k1 ?k2 ?k3 ?k4 ?_; (case k1 | k2 => k_asm); (case k3 => k_upd); (case k4 => omega); k_whole); intro h'Z F'Z N'Z; (try k_sweep))) | ((with_reducible show wpAny _ _ (call (Value.builtin "list.append") _ _) _ _ _); (k_here; k_dflt (refine' append_snoc ?k1 ?k2 ?k3 ?k4 ?_; (case k1 | k2 => k_asm); (case k3 => k_upd); (case k4 => omega); k_whole); intro h'Z F'Z N'Z; (try k_sweep))) | (k_here; (with_reducible show wpAny _ _ (call (Value.ref 813) [Value.str _ _]) _ _ _); k_dflt (refine' says_pure (sep_says _ _ _ _) ?k1 ?k2 ?k3 ?k4 ?k5 ?kK ?kd ?ku ?_; tb_rel; intro t9Z h9Z tk9Z F9Z N9Z; (try dsimp only); (try k_fold))) | (k_here; (with_reducible show wpAny _ _ (call (Value.ref 799) [Value.str _ _]) _ _ _); k_dflt (refine' says_pure (fspath_says _ _ _ _) ?k1 ?k2 ?k3 ?k4 ?k5 ?kK ?kd ?ku ?_; tb_rel; intro t9Z h9Z tk9Z F9Z N9Z; (try dsimp only); (try k_fold))) | (k_here; (with_reducible show wpAny _ _ (call (Value.ref 53) [Value.int _ _, Value.str _ _]) _ _ _); k_dflt (refine' says_pure (index_says _ _ _ _ _ _ ?zqkp ?zqkq) ?k1 ?k2 ?k3 ?k4 ?k5 ?kK ?kd ?ku ?_; tb_rel; (case zqkp | zqkq => omega); intro t9Z h9Z tk9Z F9Z N9Z; (try dsimp only); (try k_fold))) | ((with_reducible show wpAny _ _ (call (Value.builtin "issubclass") _ _) _ _ _); (k_here; k_dflt (refine' issub_pair ?k1 ?_; (case k1 => exact News.get (by k_asm) (by k_mem)); k_whole))))) | (k_here; (with_reducible show wpAny _ _ (subscriptTail _ _ (Value.ref _) (Value.int (-1) _)) _ _ _); k_dflt (refine' item_last ?k1 ?k2 ?_ ?k4; (case k1 => k_asm); (case k2 => k_mem); (case k4 => with_unfolding_all rfl); k_whole)) | ((with_reducible show wpAny _ _ (truthy _) _ _ _); (first | ((with_reducible show wpAny _ _ (truthy (Value.ref _)) _ _ _); (k_here; k_dflt (first | (refine' truthy_nil ?k1 ?k2 ?_; (case k1 => k_asm); (case k2 => k_mem); k_whole) | (refine' truthy_snoc ?k1 ?k2 ?k3 ?_; (case k1 => k_asm); (case k2 => k_mem); (case k3 => omega); k_whole)))) | (k_here; (with_reducible show wpAny _ _ (truthy (Value.str _ _)) _ _ _); refine truthy_long (by assumption) (by omega) ?_; intro _))) | ((with_reducible show wpAny _ _ (compareOp _ _ _) _ _ _); (first | (k_here; (with_reducible show wpAny _ _ (compareOp CmpOp.NotIn (Value.str _ _) (Value.str _ _)) _ _ _); (first | (refine notin_known (b := false) (by assumption) ?_) | (refine notin_known (b := true) (by assumption) ?_) | (refine notin_known (b := false) (by decide +kernel) ?_) | (refine notin_known (b := true) (by decide +kernel) ?_)); (try simp only [Bool.not_false, Bool.not_true])) | (k_here; (with_reducible show wpAny _ _ (compareOp CmpOp.In (Value.str _ _) (Value.str _ _)) _ _ _); first | (refine in_known (b := false) (by assumption) ?_) | (refine in_known (b := true) (by assumption) ?_) | (refine in_known (b := false) (by decide +kernel) ?_) | (refine in_known (b := true) (by decide +kernel) ?_)))) | ((with_reducible show wpAny _ _ (execs _ _) _ _ _); (first | ((with_reducible show wpAny _ _ (execs [] _) _ _ _); (k_here; refine wpAny_execs_nil ?_)) | ((with_reducible show wpAny _ _ (execs (_ :: _) _) _ _ _); (k_here; (try dsimp only); (try k_fold); first | with_reducible refine execs_one ?_ | (refine execs_more ?_; intro qN8 hN8 hO8))))) | walk1 | ((with_reducible show wpAny _ _ _ _ _ _); dsimp only) | (leave1; walk_say "STEP leave1"; try dsimp only) | fail "no step")
        refine join_end hnext hm hoff (by assumption) (by assumption) (if_pos (.inr rfl)) rfl (fun z z1 z2 => by rw [hm z z1 (by simpa using z2)]; simp only [if_neg z1, if_neg z2]; exact if_neg (by simp))
      · have q3 : 0 < q.length := Nat.pos_of_ne_zero fun e => q2 (by
          rw [empty_eq]
          obtain ⟨⟨l⟩⟩ := q
          rw [length_mk] at e
          rw [List.eq_nil_of_length_eq_zero e])
        have q6 : q.length ≤ 1000000 := by omega
        have q5 : ¬ (Txt.startswith c (Str.ofString "/") = true ∨ q = Str.ofString "") := fun h => h.elim (fun e => by rw [q1] at e; cases e) q2
        cases q4 : Txt.endswith q (Str.ofString "/") with
        | true =>
          repeat' (first | (k_unfold; (try dsimp only)) | (k_end; (with_reducible refine hN8 _ _ ?_); intro kN8; clear hN8 hO8; (try clear qN8); first | with_reducible refine execs_one ?_ | (refine execs_more ?_; intro qN8 hN8 hO8)) | (k_end; (with_reducible refine hO8 _ _ ?zn8 ?_); (case zn8 => first | exact ne_ret _ | exact ne_brk | exact ne_cont); clear hN8 hO8; (try clear qN8)) | (k_end; wrow_close) | ((with_reducible show wpAny _ _ (pyIter (Value.ref _)) _ _ _); (k_here; refine stop_in ?_)) | ((with_reducible show wpAny _ _ (exec _ _) _ _ _); (first | ((with_reducible show wpAny _ _ (exec (Stmt.For (Expr.Name _ _) (Expr.Name _ _) _ _ _) _) _ _ _); (k_here; (rename Fr _ _ _ _ => lF'Z); (with_unfolding_all refine' For_invVF lF'Z ?k1 ?k2 ?_; (case k1 | k2 => exact rfl); k_whole))) | ((with_reducible show wpAny _ _ (exec (Stmt.If _ _ _ _) _) _ _ _); (k_here; refine wpAny_If ?_)))) | ((with_reducible show wpAny _ _ (call _ _ _) _ _ _); (first | (k_here; (with_reducible show wpAny _ _ (call (Value.builtin "str.join") [Value.str _ _, Value.ref _]) _ _ _); k_dflt (refine' join_listW ?k1 ?k2 ?k3 ?k4 ?_; (case k1 => exact News.isList (by k_asm) (by k_mem)); (case k2 => assumption); (case k3 => decide +kernel); (case k4 => first | assumption | omega); k_whole); intro _ _) | ((with_reducible show wpAny _ _ (call (Value.builtin "list.pop") _ _) _ _ _); (k_here; k_dflt (refine' pop_snoc ?k1 ?k2 ?k3 ?k4 ?_; (case k1 | k2 => k_asm); (case k3 => k_upd); (case k4 => omega); k_whole); intro h'Z F'Z N'Z; (try k_sweep))) | ((with_reducible show wpAny _ _ (call (Value.builtin "list.append") _ _) _ _ _); (k_here; k_dflt (refine' append_snoc ?k1 ?k2 ?k3 ?k4 ?_; (case k1 | k2 => k_asm); (case k3 => k_upd); (case k4 => omega); k_whole); intro h'Z F'Z N'Z; (try k_sweep))) | (k_here; (with_reducible show wpAny _ _ (call (Value.ref 813) [Value.str _ _]) _ _ _); k_dflt (refine' says_pure (sep_says _ _ _ _) ?k1 ?k2 ?k3 ?k4 ?k5 ?kK ?kd ?ku ?_; tb_rel; intro t9Z h9Z tk9Z F9Z N9Z; (try dsimp only); (try k_fold))) | (k_here; (with_reducible show wpAny _ _ (call (Value.ref 799) [Value.str _ _]) _ _ _); k_dflt (refine' says_pure (fspath_says _ _ _ _) ?k1 ?k2 ?k3 ?k4 ?k5 ?kK ?kd ?ku ?_; tb_rel; intro t9Z h9Z tk9Z F9Z N9Z; (try dsimp only); (try k_fold))) | (k_here; (with_reducible show wpAny _ _ (call (Value.ref 53) [Value.int _ _, Value.str _ _]) _ _ _); k_dflt (refine' says_pure (index_says _ _ _ _ _ _ ?zqkp ?zqkq) ?k1 ?k2 ?k3 ?k4 ?k5 ?kK ?kd ?ku ?_; tb_rel; (case zqkp | zqkq => omega); intro t9Z h9Z tk9Z F9Z N9Z; (try dsimp only); (try k_fold))) | ((with_reducible show wpAny _ _ (call (Value.builtin "issubclass") _ _) _ _ _); (k_here; k_dflt (refine' issub_pair ?k1 ?_; (case k1 => exact News.get (by k_asm) (by k_mem)); k_whole))))) | (k_here; (with_reducible show wpAny _ _ (subscriptTail _ _ (Value.ref _) (Value.int (-1) _)) _ _ _); k_dflt (refine' item_last ?k1 ?k2 ?_ ?k4; (case k1 => k_asm); (case k2 => k_mem); (case k4 => with_unfolding_all rfl); k_whole)) | ((with_reducible show wpAny _ _ (truthy _) _ _ _); (first | ((with_reducible show wpAny _ _ (truthy (Value.ref _)) _ _ _); (k_here; k_dflt (first | (refine' truthy_nil ?k1 ?k2 ?_; (case k1 => k_asm); (case k2 => k_mem); k_whole) | (refine' truthy_snoc ?k1 ?k2 ?k3 ?_; (case k1 => k_asm); (case k2 => k_mem); (case k3 => omega); k_whole)))) | (k_here; (with_reducible show wpAny _ _ (truthy (Value.str _ _)) _ _ _); refine truthy_long (by assumption) (by omega) ?_; intro _))) | ((with_reducible show wpAny _ _ (compareOp _ _ _) _ _ _); (first | (k_here; (with_reducible show wpAny _ _ (compareOp CmpOp.NotIn (Value.str _ _) (Value.str _ _)) _ _ _); (first | (refine notin_known (b := false) (by assumption) ?_) | (refine notin_known (b := true) (by assumption) ?_) | (refine notin_known (b := false) (by decide +kernel) ?_) | (refine notin_known (b := true) (by decide +kernel) ?_)); (try simp only [Bool.not_false, Bool.not_true])) | (k_here; (with_reducible show wpAny _ _ (compareOp CmpOp.In (Value.str _ _) (Value.str _ _)) _ _ _); first | (refine in_known (b := false) (by assumption) ?_) | (refine in_known (b := true) (by assumption) ?_) | (refine in_known (b := false) (by decide +kernel) ?_) | (refine in_known (b := true) (by decide +kernel) ?_)))) | ((with_reducible show wpAny _ _ (execs _ _) _ _ _); (first | ((with_reducible show wpAny _ _ (execs [] _) _ _ _); (k_here; refine wpAny_execs_nil ?_)) | ((with_reducible show wpAny _ _ (execs (_ :: _) _) _ _ _); (k_here; (try dsimp only); (try k_fold); first | with_reducible refine execs_one ?_ | (refine execs_more ?_; intro qN8 hN8 hO8))))) | walk1 | ((with_reducible show wpAny _ _ _ _ _ _); dsimp only) | (leave1; walk_say "STEP leave1"; try dsimp only) | fail "no step")
          refine join_end hnext hm hoff (by assumption) (by assumption) ((if_neg q5).trans (if_pos q4)) rfl (fun z z1 z2 => by rw [hm z z1 (by simpa using z2)]; simp only [if_neg z1, if_neg z2]; exact if_neg (by simp))
        | false =>
          repeat' (first | (k_unfold; (try dsimp only)) | (k_end; (with_reducible refine hN8 _ _ ?_); intro kN8; clear hN8 hO8; (try clear qN8); first | with_reducible refine execs_one ?_ | (refine execs_more ?_; intro qN8 hN8 hO8)) | (k_end; (with_reducible refine hO8 _ _ ?zn8 ?_); (case zn8 => first | exact ne_ret _ | exact ne_brk | exact ne_cont); clear hN8 hO8; (try clear qN8)) | (k_end; wrow_close) | ((with_reducible show wpAny _ _ (pyIter (Value.ref _)) _ _ _); (k_here; refine stop_in ?_)) | ((with_reducible show wpAny _ _ (exec _ _) _ _ _); (first | ((with_reducible show wpAny _ _ (exec (Stmt.For (Expr.Name _ _) (Expr.Name _ _) _ _ _) _) _ _ _); (k_here; (rename Fr _ _ _ _ => lF'Z); (with_unfolding_all refine' For_invVF lF'Z ?k1 ?k2 ?_; (case k1 | k2 => exact rfl); k_whole))) | ((with_reducible show wpAny _ _ (exec (Stmt.If _ _ _ _) _) _ _ _); (k_here; refine wpAny_If ?_)))) | ((with_reducible show wpAny _ _ (call _ _ _) _ _ _); (first | (k_here; (with_reducible show wpAny _ _ (call (Value.builtin "str.join") [Value.str _ _, Value.ref _]) _ _ _); k_dflt (refine' join_listW ?k1 ?k2 ?k3 ?k4 ?_; (case k1 => exact News.isList (by k_asm) (by k_mem)); (case k2 => assumption); (case k3 => decide +kernel); (case k4 => first | assumption | omega); k_whole); intro _ _) | ((with_reducible show wpAny _ _ (call (Value.builtin "list.pop") _ _) _ _ _); (k_here; k_dflt (refine' pop_snoc ?k1 ?k2 ?k3 ?k4 ?_; (case k1 | k2 => k_asm); (case k3 => k_upd); (case k4 => omega); k_whole); intro h'Z F'Z N'Z; (try k_sweep))) | ((with_reducible show wpAny _ _ (call (Value.builtin "list.append") _ _) _ _ _); (k_here; k_dflt (refine' append_snoc ?k1 ?k2 ?k3 ?k4 ?_; (case k1 | k2 => k_asm); (case k3 => k_upd); (case k4 => omega); k_whole); intro h'Z F'Z N'Z; (try k_sweep))) | (k_here; (with_reducible show wpAny _ _ (call (Value.ref 813) [Value.str _ _]) _ _ _); k_dflt (refine' says_pure (sep_says _ _ _ _) ?k1 ?k2 ?k3 ?k4 ?k5 ?kK ?kd ?ku ?_; tb_rel; intro t9Z h9Z tk9Z F9Z N9Z; (try dsimp only); (try k_fold))) | (k_here; (with_reducible show wpAny _ _ (call (Value.ref 799) [Value.str _ _]) _ _ _); k_dflt (refine' says_pure (fspath_says _ _ _ _) ?k1 ?k2 ?k3 ?k4 ?k5 ?kK ?kd ?ku ?_; tb_rel; intro t9Z h9Z tk9Z F9Z N9Z; (try dsimp only); (try k_fold))) | (k_here; (with_reducible show wpAny _ _ (call (Value.ref 53) [Value.int _ _, Value.str _ _]) _ _ _); k_dflt (refine' says_pure (index_says _ _ _ _ _ _ ?zqkp ?zqkq) ?k1 ?k2 ?k3 ?k4 ?k5 ?kK ?kd ?ku ?_; tb_rel; (case zqkp | zqkq => omega); intro t9Z h9Z tk9Z F9Z N9Z; (try dsimp only); (try k_fold))) | ((with_reducible show wpAny _ _ (call (Value.builtin "issubclass") _ _) _ _ _); (k_here; k_dflt (refine' issub_pair ?k1 ?_; (case k1 => exact News.get (by k_asm) (by k_mem)); k_whole))))) | (k_here; (with_reducible show wpAny _ _ (subscriptTail _ _ (Value.ref _) (Value.int (-1) _)) _ _ _); k_dflt (refine' item_last ?k1 ?k2 ?_ ?k4; (case k1 => k_asm); (case k2 => k_mem); (case k4 => with_unfolding_all rfl); k_whole)) | ((with_reducible show wpAny _ _ (truthy _) _ _ _); (first | ((with_reducible show wpAny _ _ (truthy (Value.ref _)) _ _ _); (k_here; k_dflt (first | (refine' truthy_nil ?k1 ?k2 ?_; (case k1 => k_asm); (case k2 => k_mem); k_whole) | (refine' truthy_snoc ?k1 ?k2 ?k3 ?_; (case k1 => k_asm); (case k2 => k_mem); (case k3 => omega); k_whole)))) | (k_here; (with_reducible show wpAny _ _ (truthy (Value.str _ _)) _ _ _); refine truthy_long (by assumption) (by omega) ?_; intro _))) | ((with_reducible show wpAny _ _ (compareOp _ _ _) _ _ _); (first | (k_here; (with_reducible show wpAny _ _ (compareOp CmpOp.NotIn (Value.str _ _) (Value.str _ _)) _ _ _); (first | (refine notin_known (b := false) (by assumption) ?_) | (refine notin_known (b := true) (by assumption) ?_) | (refine notin_known (b := false) (by decide +kernel) ?_) | (refine notin_known (b := true) (by decide +kernel) ?_)); (try simp only [Bool.not_false, Bool.not_true])) | (k_here; (with_reducible show wpAny _ _ (compareOp CmpOp.In (Value.str _ _) (Value.str _ _)) _ _ _); first | (refine in_known (b := false) (by assumption) ?_) | (refine in_known (b := true) (by assumption) ?_) | (refine in_known (b := false) (by decide +kernel) ?_) | (refine in_known (b := true) (by decide +kernel) ?_)))) | ((with_reducible show wpAny _ _ (execs _ _) _ _ _); (first | ((with_reducible show wpAny _ _ (execs [] _) _ _ _); (k_here; refine wpAny_execs_nil ?_)) | ((with_reducible show wpAny _ _ (execs (_ :: _) _) _ _ _); (k_here; (try dsimp only); (try k_fold); first | with_reducible refine execs_one ?_ | (refine execs_more ?_; intro qN8 hN8 hO8))))) | walk1 | ((with_reducible show wpAny _ _ _ _ _ _); dsimp only) | (leave1; walk_say "STEP leave1"; try dsimp only) | fail "no step")
          refine join_end hnext hm hoff (by assumption) (by assumption) ((if_neg q5).trans (if_neg (by rw [q4]; exact Bool.false_ne_true))) rfl (fun z z1 z2 => by rw [hm z z1 (by simpa using z2)]; simp only [if_neg z1, if_neg z2]; exact if_neg (by simp))
  · rintro m₁ nx h tk ⟨rfl, t1, hp⟩ hm F2 N2
    rw [ha.length, List.take_length] at hp
    have F3 := kst_frOut (ps := [(Str.ofString "path", Value.str (ys.foldl joinStep x) t1)]) (stored := []) (fun p hq => by rw [List.mem_singleton.mp hq]; exact hp) (fun z z1 z2 _ => hm z z1 (by simpa using z2)) F2
    clear F2
    dsimp only [kstB] at F3
    repeat' (first | (k_unfold; (try dsimp only)) | (k_end; (with_reducible refine hN8 _ _ ?_); intro kN8; clear hN8 hO8; (try clear qN8); first | with_reducible refine execs_one ?_ | (refine execs_more ?_; intro qN8 hN8 hO8)) | (k_end; (with_reducible refine hO8 _ _ ?zn8 ?_); (case zn8 => first | exact ne_ret _ | exact ne_brk | exact ne_cont); clear hN8 hO8; (try clear qN8)) | (k_end; wrow_close) | ((with_reducible show wpAny _ _ (pyIter (Value.ref _)) _ _ _); (k_here; refine stop_in ?_)) | ((with_reducible show wpAny _ _ (exec _ _) _ _ _); (first | ((with_reducible show wpAny _ _ (exec (Stmt.For (Expr.Name _ _) (Expr.Name _ _) _ _ _) _) _ _ _); (k_here; (rename Fr _ _ _ _ => lF'Z); (with_unfolding_all refine' For_invVF lF'Z ?k1 ?k2 ?_; (case k1 | k2 => exact rfl); k_whole))) | ((with_reducible show wpAny _ _ (exec (Stmt.If _ _ _ _) _) _ _ _); (k_here; refine wpAny_If ?_)))) | ((with_reducible show wpAny _ _ (call _ _ _) _ _ _); (first | (k_here; (with_reducible show wpAny _ _ (call (Value.builtin "str.join") [Value.str _ _, Value.ref _]) _ _ _); k_dflt (refine' join_listW ?k1 ?k2 ?k3 ?k4 ?_; (case k1 => exact News.isList (by k_asm) (by k_mem)); (case k2 => assumption); (case k3 => decide +kernel); (case k4 => first | assumption | omega); k_whole); intro _ _) | ((with_reducible show wpAny _ _ (call (Value.builtin "list.pop") _ _) _ _ _); (k_here; k_dflt (refine' pop_snoc ?k1 ?k2 ?k3 ?k4 ?_; (case k1 | k2 => k_asm); (case k3 => k_upd); (case k4 => omega); k_whole); intro h'Z F'Z N'Z; (try k_sweep))) | ((with_reducible show wpAny _ _ (call (Value.builtin "list.append") _ _) _ _ _); (k_here; k_dflt (refine' append_snoc ?k1 ?k2 ?k3 ?k4 ?_; (case k1 | k2 => k_asm); (case k3 => k_upd); (case k4 => omega); k_whole); intro h'Z F'Z N'Z; (try k_sweep))) | (k_here; (with_reducible show wpAny _ _ (call (Value.ref 813) [Value.str _ _]) _ _ _); k_dflt (refine' says_pure (sep_says _ _ _ _) ?k1 ?k2 ?k3 ?k4 ?k5 ?kK ?kd ?ku ?_; tb_rel; intro t9Z h9Z tk9Z F9Z N9Z; (try dsimp only); (try k_fold))) | (k_here; (with_reducible show wpAny _ _ (call (Value.ref 799) [Value.str _ _]) _ _ _); k_dflt (refine' says_pure (fspath_says _ _ _ _) ?k1 ?k2 ?k3 ?k4 ?k5 ?kK ?kd ?ku ?_; tb_rel; intro t9Z h9Z tk9Z F9Z N9Z; (try dsimp only); (try k_fold))) | (k_here; (with_reducible show wpAny _ _ (call (Value.ref 53) [Value.int _ _, Value.str _ _]) _ _ _); k_dflt (refine' says_pure (index_says _ _ _ _ _ _ ?zqkp ?zqkq) ?k1 ?k2 ?k3 ?k4 ?k5 ?kK ?kd ?ku ?_; tb_rel; (case zqkp | zqkq => omega); intro t9Z h9Z tk9Z F9Z N9Z; (try dsimp only); (try k_fold))) | ((with_reducible show wpAny _ _ (call (Value.builtin "issubclass") _ _) _ _ _); (k_here; k_dflt (refine' issub_pair ?k1 ?_; (case k1 => exact News.get (by k_asm) (by k_mem)); k_whole))))) | (k_here; (with_reducible show wpAny _ _ (subscriptTail _ _ (Value.ref _) (Value.int (-1) _)) _ _ _); k_dflt (refine' item_last ?k1 ?k2 ?_ ?k4; (case k1 => k_asm); (case k2 => k_mem); (case k4 => with_unfolding_all rfl); k_whole)) | ((with_reducible show wpAny _ _ (truthy _) _ _ _); (first | ((with_reducible show wpAny _ _ (truthy (Value.ref _)) _ _ _); (k_here; k_dflt (first | (refine' truthy_nil ?k1 ?k2 ?_; (case k1 => k_asm); (case k2 => k_mem); k_whole) | (refine' truthy_snoc ?k1 ?k2 ?k3 ?_; (case k1 => k_asm); (case k2 => k_mem); (case k3 => omega); k_whole)))) | (k_here; (with_reducible show wpAny _ _ (truthy (Value.str _ _)) _ _ _); refine truthy_long (by assumption) (by omega) ?_; intro _))) | ((with_reducible show wpAny _ _ (compareOp _ _ _) _ _ _); (first | (k_here; (with_reducible show wpAny _ _ (compareOp CmpOp.NotIn (Value.str _ _) (Value.str _ _)) _ _ _); (first | (refine notin_known (b := false) (by assumption) ?_) | (refine notin_known (b := true) (by assumption) ?_) | (refine notin_known (b := false) (by decide +kernel) ?_) | (refine notin_known (b := true) (by decide +kernel) ?_)); (try simp only [Bool.not_false, Bool.not_true])) | (k_here; (with_reducible show wpAny _ _ (compareOp CmpOp.In (Value.str _ _) (Value.str _ _)) _ _ _); first | (refine in_known (b := false) (by assumption) ?_) | (refine in_known (b := true) (by assumption) ?_) | (refine in_known (b := false) (by decide +kernel) ?_) | (refine in_known (b := true) (by decide +kernel) ?_)))) | ((with_reducible show wpAny _ _ (execs _ _) _ _ _); (first | ((with_reducible show wpAny _ _ (execs [] _) _ _ _); (k_here; refine wpAny_execs_nil ?_)) | ((with_reducible show wpAny _ _ (execs (_ :: _) _) _ _ _); (k_here; (try dsimp only); (try k_fold); first | with_reducible refine execs_one ?_ | (refine execs_more ?_; intro qN8 hN8 hO8))))) | walk1 | ((with_reducible show wpAny _ _ _ _ _ _); dsimp only) | (leave1; walk_say "STEP leave1"; try dsimp only) | fail "no step")
    exact hret _ _ _ _ (by assumption) (news_sub (by assumption) (fun q hq => .tail _ hq)) ⟨rfl, _, rfl⟩
end P12
section P13
theorem off13 : True := by
  w_top off
  trivial
theorem push_says (w : World) (X D S fs : Addr) (c : LexC) (hfs : c.fs = fs) (inf : Str) (ti ts tl tt : Tok) (line : Int) (st : Value) (tok : Str) (q : Int) (xs : List Value) (buf nm : Str) (tb tn : Tok) (R : Led)
    (hR1 : ∀ p ∈ R, p.1 ≠ D) (hR2 : ∀ p ∈ R, p.1 ≠ fs) (n1 : X ≠ D) (n2 : fs ≠ D) (n3 : fs ≠ X) (hb : buf.length ≤ 1000000) (hx : xs.length ≤ 50) :
   Says w (.ref 669) [.ref X, .str buf tb, .str nm tn] [] 100 ((fs, dqObj q xs) :: (X, instObj 722 D) :: (D, lexD w c S inf ti st line tl tok tt) :: R) (fun news' r => r = .none ∧ ∃ T S' DS' sc tp tl', news' = (T, tupOf [.str inf ti, .ref S, .int line tl]) :: (S', instObj 587 DS') :: (DS', sioD w sc buf 0 tp) :: (fs, dqObj (q + 1) (.ref T :: xs)) :: (X, instObj 722 D) :: (D, lexD w c S' nm tn st 1 tl' tok tt) :: R ∧
     AllLt DS' ((fs, dqObj q xs) :: (X, instObj 722 D) :: (D, lexD w c S inf ti st line tl tok tt) :: R) ∧ @LT.lt Nat _ DS' S' ∧ @LT.lt Nat _ S' T) := by
  subst hfs
  have n3' := n3.symm
  have n2' := n2.symm
  unfold Says
  k_fill
  intro dp un gd cn cs a ccd cl outer A₀ base h₀ L m s p loose mean mg mb Q E B F KX N T0 hk hd hu hret
  refine wpAny_call ?_
  k_dflt (first | (refine' code_def ?k1 ?k2 ?k3 ?k4 ?k5 ?zqkA ?zqkF ?kK ?zqk6 ?zqk7 ?zqk8 ?zqk9 ?zqkB ?_ ?zqc2 ?zqc3 ?zqc4 ?zqc5; (case zqkA | zqkF => exact rfl); (case kK => assumption); (case k1 | k2 => k_asm); (case k3 | k4 | k5 => k_asm); (case zqk6 | zqk7 => k_is); (case zqk8 => k_room); (case zqk9 => first | exact BindsTo.of_eq rfl | exact binds_K (by k_in) rfl (by k_is) rfl rfl rfl | fail); (case zqc5 => decide); (case zqkB => exact locs rfl); (case zqc2 | zqc3 | zqc4 => exact rfl); k_whole; intro g'Z L'Z h'Z FG'Z F'Z N'Z B'Z X'Z T'Z; (try dsimp only); (try k_lift B'Z); (try k_fold); refine name_A ?_; intro aA8; have hN8 := True.intro; have hO8 := True.intro) | (kp_kind "rest"; refine' kp_rest ?k1 ?k2 ?k3 ?k4 ?k5 ?zqkA ?zqkF ?kK ?zqk6 ?zqk7 ?zqk8 ?zqkV ?zqkP ?zqkG ?zqkB ?_ ?zqc2 ?zqc3 ?zqc4 ?zqc5; (case zqkA | zqkF => exact rfl); (case kK => assumption); (case k1 | k2 => k_asm); (case k3 | k4 | k5 => k_asm); (case zqk6 | zqk7 => k_is); (case zqk8 => k_room); (case zqkV | zqkP => exact rfl); (case zqkG => exact fun _ => rfl); (case zqkB => exact fun _ => locs rfl); (case zqc5 => decide); (case zqc2 | zqc3 | zqc4 => exact rfl); k_whole; intro D'Z g'Z L'Z h'Z l1Z FG'Z F'Z N'Z B'Z X'Z T'Z; (try k_lt l1Z); (try dsimp only); (try k_lift B'Z); (try k_fold); refine name_A ?_; intro aA8; have hN8 := True.intro; have hO8 := True.intro) | (kp_kind "both"; refine' kp_both ?k1 ?k2 ?k3 ?k4 ?k5 ?zqkA ?zqkF ?kK ?zqk6 ?zqk7 ?zqk8 ?zqkV ?zqkX ?zqkQ ?zqkM ?zqkN ?zqkD ?zqkR ?zqkP ?zqkS ?zqkT ?zqkB ?_ ?zqc2 ?zqc3 ?zqc4 ?zqc5; (case zqkA | zqkF => exact rfl); (case kK => assumption); (case k1 | k2 => k_asm); (case k3 | k4 | k5 => k_asm); (case zqk6 | zqk7 => k_is); (case zqk8 => k_room); (case zqkV | zqkX => kp_lit); (case zqkQ | zqkM | zqkN => exact rfl); (case zqkD => kp_flats); (case zqkR | zqkP => exact rfl); (case zqkS => exact fun _ => rfl); (case zqkT => exact fun _ _ => rfl); (case zqkB => exact fun _ _ => locs rfl); (case zqc5 => decide); (case zqc2 | zqc3 | zqc4 => exact rfl); k_whole; intro C'Z D'Z o'Z g'Z L'Z h'Z tk'Z l1Z l2Z lo'Z hs'Z fs'Z FG'Z F'Z N'Z B'Z X'Z T'Z; (try k_lt l1Z); (try k_lt2 l2Z); (try dsimp only); (try k_lift B'Z); (try k_fold); refine name_A ?_; intro aA8; have hN8 := True.intro; have hO8 := True.intro))
  repeat' (first | (k_unfold; (try dsimp only)) | (k_end; (with_reducible refine hN8 _ _ ?_); intro kN8; clear hN8 hO8; (try clear qN8); first | with_reducible refine execs_one ?_ | (refine execs_more ?_; intro qN8 hN8 hO8)) | (k_end; (with_reducible refine hO8 _ _ ?zn8 ?_); (case zn8 => first | exact ne_ret _ | exact ne_brk | exact ne_cont); clear hN8 hO8; (try clear qN8)) | (k_end; wrow_close) | ((with_reducible show wpAny _ _ (setAttr _ _ _) _ _ _); (first | ((with_reducible show wpAny _ _ (setAttr (Value.ref _) (Str.ofString "infile") _) _ _ _); (k_here; k_dflt (refine' lex_set_inf ?k1 ?k2 ?k3 ?k4 ?k5 ?_; (case k1 | k2 | k3 => k_asm); (case k4 => k_mem); (case k5 => k_upd); k_whole); intro h'Z F'Z N'Z; (try k_sweep))) | ((with_reducible show wpAny _ _ (setAttr (Value.ref _) (Str.ofString "instream") _) _ _ _); (k_here; k_dflt (refine' lex_set_inst ?k1 ?k2 ?k3 ?k4 ?k5 ?_; (case k1 | k2 | k3 => k_asm); (case k4 => k_mem); (case k5 => k_upd); k_whole); intro h'Z F'Z N'Z; (try k_sweep))) | ((with_reducible show wpAny _ _ (setAttr (Value.ref _) (Str.ofString "token") _) _ _ _); (k_here; k_dflt (refine' lex_set_tok ?k1 ?k2 ?k3 ?k4 ?k5 ?_; (case k1 | k2 | k3 => k_asm); (case k4 => k_mem); (case k5 => k_upd); k_whole); intro h'Z F'Z N'Z; (try k_sweep))) | ((with_reducible show wpAny _ _ (setAttr (Value.ref _) (Str.ofString "lineno") _) _ _ _); (k_here; k_dflt (refine' lex_set_line ?k1 ?k2 ?k3 ?k4 ?k5 ?_; (case k1 | k2 | k3 => k_asm); (case k4 => k_mem); (case k5 => k_upd); k_whole); intro h'Z F'Z N'Z; (try k_sweep))) | ((with_reducible show wpAny _ _ (setAttr (Value.ref _) (Str.ofString "state") _) _ _ _); (k_here; k_dflt (refine' lex_set_state ?k1 ?k2 ?k3 ?k4 ?k5 ?_; (case k1 | k2 | k3 => k_asm); (case k4 => k_mem); (case k5 => k_upd); k_whole); intro h'Z F'Z N'Z; (try k_sweep))))) | ((with_reducible show wpAny _ _ (exec _ _) _ _ _); (first | ((with_reducible show wpAny _ _ (exec (Stmt.While (Expr.Constant _ _ _) _ _ _) _) _ _ _); (k_here; refine stop_in ?_)) | ((with_reducible show wpAny _ _ (exec (Stmt.If _ _ _ _) _) _ _ _); (k_here; refine wpAny_If ?_)))) | ((with_reducible show wpAny _ _ (truthy _) _ _ _); (first | ((with_reducible show wpAny _ _ (truthy (Value.ref _)) _ _ _); (k_here; k_dflt (refine' dq_truthy ?k1 ?k2 ?k3 ?_; (case k1 => k_asm); (case k2 => k_mem); (case k3 => first | assumption | omega | (simp only [List.length_cons, List.length_nil] at *; omega)); k_whole))) | (k_here; (with_reducible show wpAny _ _ (truthy (Value.str _ _)) _ _ _); refine truthy_long (by assumption) (by omega) ?_; intro _))) | ((with_reducible show wpAny _ _ (call _ _ _) _ _ _); (first | (k_here; (with_reducible show wpAny _ _ (call (Value.builtin "len") [Value.ref _]) _ _ _); k_dflt (refine' dq_len ?k1 ?k2 ?k3 ?_; (case k1 => k_asm); (case k2 => k_mem); (case k3 => first | assumption | omega | (simp only [List.length_cons, List.length_nil] at *; omega)); k_whole)) | ((with_reducible show wpAny _ _ (call (Value.builtin "collections.deque.popleft") _ _) _ _ _); (k_here; k_dflt (refine' dq_popleft ?k1 ?k2 ?k3 ?k4 ?_; (case k1 | k2 => k_asm); (case k3 => k_upd); (case k4 => first | assumption | omega | (simp only [List.length_cons, List.length_nil] at *; omega)); k_whole); intro h'Z F'Z N'Z; (try k_sweep))) | ((with_reducible show wpAny _ _ (call (Value.builtin "collections.deque.appendleft") _ _) _ _ _); (k_here; k_dflt (refine' dq_appendleft ?k1 ?k2 ?k3 ?k4 ?_; (case k1 | k2 => k_asm); (case k3 => k_upd); (case k4 => first | assumption | omega | (simp only [List.length_cons, List.length_nil] at *; omega)); k_whole); intro h'Z F'Z N'Z; (try k_sweep))) | ((with_reducible show wpAny _ _ (call (Value.type "collections.deque") _ _) _ _ _); (k_here; k_dflt (refine' dq_new ?k1 ?k2 ?_; (case k1 | k2 => k_asm); k_whole); intro D'Z h'Z F'Z N'Z l1Z; (try k_lt l1Z); (try k_sweep))) | (k_here; (with_reducible show wpAny _ _ (call (Value.ref 587) [Value.str _ _]) _ _ _); k_dflt (refine' sio_use ?zqkp ?k1 ?k2 ?k3 ?k4 ?k5 ?kK ?kd ?ku ?_; tb_rel; (case zqkp => first | assumption | omega); intro x9Z d9Z c9Z tp9Z h9Z tk9Z F9Z N9Z l9Z l8Z; (have l7Z := allLt_up l8Z l9Z); (try simp only [AllLt, and_true] at l9Z l7Z); (replace l8Z := ltN l8Z); (try dsimp only); (try k_fold))) | (k_here; (with_reducible show wpAny _ _ (call (Value.ref 533) [Value.ref _, Value.int 1 _]) _ _ _); k_dflt (refine' read_use ?zqpx ?zqpk ?zqpR ?zqpS ?zqp2 ?zqpb ?k1 ?k2 ?k3 ?k4 ?k5 ?kK ?kd ?ku ?_; tb_rel; (case zqpx | zqpk => assumption); (case zqpR => k_all); (case zqpS | zqp2 | zqpb => assumption); intro t9Z tp9Z h9Z tk9Z F9Z N9Z; (try dsimp only); (try k_fold))))) | ((with_reducible show wpAny _ _ (getMethod _ _ _) _ _ _); (first | (k_here; (with_reducible show wpAny _ _ (getMethod (Value.ref _) (Str.ofString "popleft") _) _ _ _); k_dflt (refine' dq_meth dq_slot_pl dq_type_pl ?k1 ?k2 ?_; (case k1 => k_asm); (case k2 => k_mem); k_whole)) | (k_here; (with_reducible show wpAny _ _ (getMethod (Value.ref _) (Str.ofString "appendleft") _) _ _ _); k_dflt (refine' dq_meth dq_slot_al dq_type_al ?k1 ?k2 ?_; (case k1 => k_asm); (case k2 => k_mem); k_whole)))) | (k_here; (with_reducible show wpAny _ _ (compareOp CmpOp.In (Value.str _ _) (Value.str _ _)) _ _ _); first | (refine in_known (b := false) (by assumption) ?_) | (refine in_known (b := true) (by assumption) ?_) | (refine in_known (b := false) (by decide +kernel) ?_) | (refine in_known (b := true) (by decide +kernel) ?_)) | ((with_reducible show wpAny _ _ (execs _ _) _ _ _); (first | ((with_reducible show wpAny _ _ (execs [] _) _ _ _); (k_here; refine wpAny_execs_nil ?_)) | ((with_reducible show wpAny _ _ (execs (_ :: _) _) _ _ _); (k_here; (try dsimp only); (try k_fold); first | with_reducible refine execs_one ?_ | (refine execs_more ?_; intro qN8 hN8 hO8))))) | walk1 | ((with_reducible show wpAny _ _ _ _ _ _); dsimp only) | (leave1; walk_say "STEP leave1"; try dsimp only) | fail "no step")
  exact hret _ _ _ _ (by assumption) (by assumption) ⟨rfl, _, _, _, _, _, _, rfl, by assumption, by omega, by omega⟩
theorem pop_says (w : World) (X D S DS S' fs T : Addr) (c : LexC) (hfs : c.fs = fs) (sc : SioC) (inf inf' : Str) (ti ti' ts tl tl' tt tp : Tok) (line line' : Int) (st : Value) (tok buf : Str) (k q : Int) (xs : List Value) (R : Led)
    (hR1 : ∀ p ∈ R, p.1 ≠ D) (hR2 : ∀ p ∈ R, p.1 ≠ fs) (hR3 : ∀ p ∈ R, p.1 ≠ DS) (n1 : X ≠ D) (n2 : fs ≠ D) (n3 : fs ≠ X) (n4 : S ≠ DS) (n5 : D ≠ DS) (n6 : fs ≠ DS) (n7 : X ≠ DS) (n8 : S ≠ D) (n9 : S ≠ fs) (n10 : T ≠ D) (n11 : T ≠ fs) (n12 : T ≠ DS) (hx : xs.length ≤ 50) :
   Says w (.ref 676) [.ref X] [] 100 ((S, instObj 587 DS) :: (DS, sioD w sc buf k tp) :: (T, tupOf [.str inf' ti', .ref S', .int line' tl']) :: (fs, dqObj q (.ref T :: xs)) :: (X, instObj 722 D) :: (D, lexD w c S inf ti st line tl tok tt) :: R) (fun news' r => r = .none ∧ ∃ ts', news' = (fs, dqObj (q + 1) xs) :: (X, instObj 722 D) :: (D, lexD w c S' inf' ti' (.str (Str.ofString " ") ts') line' tl' tok tt) :: R) := by
  subst hfs
  have n3' := n3.symm
  have n2' := n2.symm
  have n6' := n6.symm
  have n5' := n5.symm
  unfold Says
  k_fill
  intro dp un gd cn cs a ccd cl outer A₀ base h₀ L m s p loose mean mg mb Q E B F KX N T0 hk hd hu hret
  refine wpAny_call ?_
  k_dflt (first | (refine' code_def ?k1 ?k2 ?k3 ?k4 ?k5 ?zqkA ?zqkF ?kK ?zqk6 ?zqk7 ?zqk8 ?zqk9 ?zqkB ?_ ?zqc2 ?zqc3 ?zqc4 ?zqc5; (case zqkA | zqkF => exact rfl); (case kK => assumption); (case k1 | k2 => k_asm); (case k3 | k4 | k5 => k_asm); (case zqk6 | zqk7 => k_is); (case zqk8 => k_room); (case zqk9 => first | exact BindsTo.of_eq rfl | exact binds_K (by k_in) rfl (by k_is) rfl rfl rfl | fail); (case zqc5 => decide); (case zqkB => exact locs rfl); (case zqc2 | zqc3 | zqc4 => exact rfl); k_whole; intro g'Z L'Z h'Z FG'Z F'Z N'Z B'Z X'Z T'Z; (try dsimp only); (try k_lift B'Z); (try k_fold); refine name_A ?_; intro aA8; have hN8 := True.intro; have hO8 := True.intro) | (kp_kind "rest"; refine' kp_rest ?k1 ?k2 ?k3 ?k4 ?k5 ?zqkA ?zqkF ?kK ?zqk6 ?zqk7 ?zqk8 ?zqkV ?zqkP ?zqkG ?zqkB ?_ ?zqc2 ?zqc3 ?zqc4 ?zqc5; (case zqkA | zqkF => exact rfl); (case kK => assumption); (case k1 | k2 => k_asm); (case k3 | k4 | k5 => k_asm); (case zqk6 | zqk7 => k_is); (case zqk8 => k_room); (case zqkV | zqkP => exact rfl); (case zqkG => exact fun _ => rfl); (case zqkB => exact fun _ => locs rfl); (case zqc5 => decide); (case zqc2 | zqc3 | zqc4 => exact rfl); k_whole; intro D'Z g'Z L'Z h'Z l1Z FG'Z F'Z N'Z B'Z X'Z T'Z; (try k_lt l1Z); (try dsimp only); (try k_lift B'Z); (try k_fold); refine name_A ?_; intro aA8; have hN8 := True.intro; have hO8 := True.intro) | (kp_kind "both"; refine' kp_both ?k1 ?k2 ?k3 ?k4 ?k5 ?zqkA ?zqkF ?kK ?zqk6 ?zqk7 ?zqk8 ?zqkV ?zqkX ?zqkQ ?zqkM ?zqkN ?zqkD ?zqkR ?zqkP ?zqkS ?zqkT ?zqkB ?_ ?zqc2 ?zqc3 ?zqc4 ?zqc5; (case zqkA | zqkF => exact rfl); (case kK => assumption); (case k1 | k2 => k_asm); (case k3 | k4 | k5 => k_asm); (case zqk6 | zqk7 => k_is); (case zqk8 => k_room); (case zqkV | zqkX => kp_lit); (case zqkQ | zqkM | zqkN => exact rfl); (case zqkD => kp_flats); (case zqkR | zqkP => exact rfl); (case zqkS => exact fun _ => rfl); (case zqkT => exact fun _ _ => rfl); (case zqkB => exact fun _ _ => locs rfl); (case zqc5 => decide); (case zqc2 | zqc3 | zqc4 => exact rfl); k_whole; intro C'Z D'Z o'Z g'Z L'Z h'Z tk'Z l1Z l2Z lo'Z hs'Z fs'Z FG'Z F'Z N'Z B'Z X'Z T'Z; (try k_lt l1Z); (try k_lt2 l2Z); (try dsimp only); (try k_lift B'Z); (try k_fold); refine name_A ?_; intro aA8; have hN8 := True.intro; have hO8 := True.intro))
  repeat' (first | (k_unfold; (try dsimp only)) | (k_end; (with_reducible refine hN8 _ _ ?_); intro kN8; clear hN8 hO8; (try clear qN8); first | with_reducible refine execs_one ?_ | (refine execs_more ?_; intro qN8 hN8 hO8)) | (k_end; (with_reducible refine hO8 _ _ ?zn8 ?_); (case zn8 => first | exact ne_ret _ | exact ne_brk | exact ne_cont); clear hN8 hO8; (try clear qN8)) | (k_end; wrow_close) | ((with_reducible show wpAny _ _ (setAttr _ _ _) _ _ _); (first | ((with_reducible show wpAny _ _ (setAttr (Value.ref _) (Str.ofString "infile") _) _ _ _); (k_here; k_dflt (refine' lex_set_inf ?k1 ?k2 ?k3 ?k4 ?k5 ?_; (case k1 | k2 | k3 => k_asm); (case k4 => k_mem); (case k5 => k_upd); k_whole); intro h'Z F'Z N'Z; (try k_sweep))) | ((with_reducible show wpAny _ _ (setAttr (Value.ref _) (Str.ofString "instream") _) _ _ _); (k_here; k_dflt (refine' lex_set_inst ?k1 ?k2 ?k3 ?k4 ?k5 ?_; (case k1 | k2 | k3 => k_asm); (case k4 => k_mem); (case k5 => k_upd); k_whole); intro h'Z F'Z N'Z; (try k_sweep))) | ((with_reducible show wpAny _ _ (setAttr (Value.ref _) (Str.ofString "token") _) _ _ _); (k_here; k_dflt (refine' lex_set_tok ?k1 ?k2 ?k3 ?k4 ?k5 ?_; (case k1 | k2 | k3 => k_asm); (case k4 => k_mem); (case k5 => k_upd); k_whole); intro h'Z F'Z N'Z; (try k_sweep))) | ((with_reducible show wpAny _ _ (setAttr (Value.ref _) (Str.ofString "lineno") _) _ _ _); (k_here; k_dflt (refine' lex_set_line ?k1 ?k2 ?k3 ?k4 ?k5 ?_; (case k1 | k2 | k3 => k_asm); (case k4 => k_mem); (case k5 => k_upd); k_whole); intro h'Z F'Z N'Z; (try k_sweep))) | ((with_reducible show wpAny _ _ (setAttr (Value.ref _) (Str.ofString "state") _) _ _ _); (k_here; k_dflt (refine' lex_set_state ?k1 ?k2 ?k3 ?k4 ?k5 ?_; (case k1 | k2 | k3 => k_asm); (case k4 => k_mem); (case k5 => k_upd); k_whole); intro h'Z F'Z N'Z; (try k_sweep))))) | ((with_reducible show wpAny _ _ (exec _ _) _ _ _); (first | ((with_reducible show wpAny _ _ (exec (Stmt.While (Expr.Constant _ _ _) _ _ _) _) _ _ _); (k_here; refine stop_in ?_)) | ((with_reducible show wpAny _ _ (exec (Stmt.If _ _ _ _) _) _ _ _); (k_here; refine wpAny_If ?_)))) | ((with_reducible show wpAny _ _ (truthy _) _ _ _); (first | ((with_reducible show wpAny _ _ (truthy (Value.ref _)) _ _ _); (k_here; k_dflt (refine' dq_truthy ?k1 ?k2 ?k3 ?_; (case k1 => k_asm); (case k2 => k_mem); (case k3 => first | assumption | omega | (simp only [List.length_cons, List.length_nil] at *; omega)); k_whole))) | (k_here; (with_reducible show wpAny _ _ (truthy (Value.str _ _)) _ _ _); refine truthy_long (by assumption) (by omega) ?_; intro _))) | ((with_reducible show wpAny _ _ (call _ _ _) _ _ _); (first | (k_here; (with_reducible show wpAny _ _ (call (Value.builtin "len") [Value.ref _]) _ _ _); k_dflt (refine' dq_len ?k1 ?k2 ?k3 ?_; (case k1 => k_asm); (case k2 => k_mem); (case k3 => first | assumption | omega | (simp only [List.length_cons, List.length_nil] at *; omega)); k_whole)) | ((with_reducible show wpAny _ _ (call (Value.builtin "collections.deque.popleft") _ _) _ _ _); (k_here; k_dflt (refine' dq_popleft ?k1 ?k2 ?k3 ?k4 ?_; (case k1 | k2 => k_asm); (case k3 => k_upd); (case k4 => first | assumption | omega | (simp only [List.length_cons, List.length_nil] at *; omega)); k_whole); intro h'Z F'Z N'Z; (try k_sweep))) | ((with_reducible show wpAny _ _ (call (Value.builtin "collections.deque.appendleft") _ _) _ _ _); (k_here; k_dflt (refine' dq_appendleft ?k1 ?k2 ?k3 ?k4 ?_; (case k1 | k2 => k_asm); (case k3 => k_upd); (case k4 => first | assumption | omega | (simp only [List.length_cons, List.length_nil] at *; omega)); k_whole); intro h'Z F'Z N'Z; (try k_sweep))) | ((with_reducible show wpAny _ _ (call (Value.type "collections.deque") _ _) _ _ _); (k_here; k_dflt (refine' dq_new ?k1 ?k2 ?_; (case k1 | k2 => k_asm); k_whole); intro D'Z h'Z F'Z N'Z l1Z; (try k_lt l1Z); (try k_sweep))) | (k_here; (with_reducible show wpAny _ _ (call (Value.ref 587) [Value.str _ _]) _ _ _); k_dflt (refine' sio_use ?zqkp ?k1 ?k2 ?k3 ?k4 ?k5 ?kK ?kd ?ku ?_; tb_rel; (case zqkp => first | assumption | omega); intro x9Z d9Z c9Z tp9Z h9Z tk9Z F9Z N9Z l9Z l8Z; (have l7Z := allLt_up l8Z l9Z); (try simp only [AllLt, and_true] at l9Z l7Z); (replace l8Z := ltN l8Z); (try dsimp only); (try k_fold))) | (k_here; (with_reducible show wpAny _ _ (call (Value.ref 533) [Value.ref _, Value.int 1 _]) _ _ _); k_dflt (refine' read_use ?zqpx ?zqpk ?zqpR ?zqpS ?zqp2 ?zqpb ?k1 ?k2 ?k3 ?k4 ?k5 ?kK ?kd ?ku ?_; tb_rel; (case zqpx | zqpk => assumption); (case zqpR => k_all); (case zqpS | zqp2 | zqpb => assumption); intro t9Z tp9Z h9Z tk9Z F9Z N9Z; (try dsimp only); (try k_fold))))) | ((with_reducible show wpAny _ _ (getMethod _ _ _) _ _ _); (first | (k_here; (with_reducible show wpAny _ _ (getMethod (Value.ref _) (Str.ofString "popleft") _) _ _ _); k_dflt (refine' dq_meth dq_slot_pl dq_type_pl ?k1 ?k2 ?_; (case k1 => k_asm); (case k2 => k_mem); k_whole)) | (k_here; (with_reducible show wpAny _ _ (getMethod (Value.ref _) (Str.ofString "appendleft") _) _ _ _); k_dflt (refine' dq_meth dq_slot_al dq_type_al ?k1 ?k2 ?_; (case k1 => k_asm); (case k2 => k_mem); k_whole)))) | (k_here; (with_reducible show wpAny _ _ (compareOp CmpOp.In (Value.str _ _) (Value.str _ _)) _ _ _); first | (refine in_known (b := false) (by assumption) ?_) | (refine in_known (b := true) (by assumption) ?_) | (refine in_known (b := false) (by decide +kernel) ?_) | (refine in_known (b := true) (by decide +kernel) ?_)) | ((with_reducible show wpAny _ _ (execs _ _) _ _ _); (first | ((with_reducible show wpAny _ _ (execs [] _) _ _ _); (k_here; refine wpAny_execs_nil ?_)) | ((with_reducible show wpAny _ _ (execs (_ :: _) _) _ _ _); (k_here; (try dsimp only); (try k_fold); first | with_reducible refine execs_one ?_ | (refine execs_more ?_; intro qN8 hN8 hO8))))) | walk1 | ((with_reducible show wpAny _ _ _ _ _ _); dsimp only) | (leave1; walk_say "STEP leave1"; try dsimp only) | fail "no step")
  exact hret _ _ _ _ (by assumption) (news_sub (by assumption) (fun q hq => .tail _ (.tail _ (.tail _ hq)))) ⟨rfl, _, rfl⟩
theorem lead_says (w : World) (X D S : Addr) (c : LexC) (inf : Str) (ti ts tl tt : Tok) (line : Int) (st : Value) (tok : Str) (R : Led) (hi : inf.length ≤ 100000) (h0 : 0 ≤ line) (h1 : line ≤ 1000000) :
   Says w (.ref 705) [.ref X] [] 20 ((X, instObj 722 D) :: (D, lexD w c S inf ti st line tl tok tt) :: R) (Gives ((X, instObj 722 D) :: (D, lexD w c S inf ti st line tl tok tt) :: R) (.str (Str.ofString "\"" ++ inf ++ Str.ofString "\", line " ++ Str.ofString (toString line) ++ Str.ofString ": "))) := by
  unfold Says
  k_fill
  intro dp un gd cn cs a ccd cl outer A₀ base h₀ L m s p loose mean mg mb Q E B F KX N T0 hk hd hu hret
  refine wpAny_call ?_
  k_dflt (first | (refine' code_def ?k1 ?k2 ?k3 ?k4 ?k5 ?zqkA ?zqkF ?kK ?zqk6 ?zqk7 ?zqk8 ?zqk9 ?zqkB ?_ ?zqc2 ?zqc3 ?zqc4 ?zqc5; (case zqkA | zqkF => exact rfl); (case kK => assumption); (case k1 | k2 => k_asm); (case k3 | k4 | k5 => k_asm); (case zqk6 | zqk7 => k_is); (case zqk8 => k_room); (case zqk9 => first | exact BindsTo.of_eq rfl | exact binds_K (by k_in) rfl (by k_is) rfl rfl rfl | fail); (case zqc5 => decide); (case zqkB => exact locs rfl); (case zqc2 | zqc3 | zqc4 => exact rfl); k_whole; intro g'Z L'Z h'Z FG'Z F'Z N'Z B'Z X'Z T'Z; (try dsimp only); (try k_lift B'Z); (try k_fold); refine name_A ?_; intro aA8; have hN8 := True.intro; have hO8 := True.intro) | (kp_kind "rest"; refine' kp_rest ?k1 ?k2 ?k3 ?k4 ?k5 ?zqkA ?zqkF ?kK ?zqk6 ?zqk7 ?zqk8 ?zqkV ?zqkP ?zqkG ?zqkB ?_ ?zqc2 ?zqc3 ?zqc4 ?zqc5; (case zqkA | zqkF => exact rfl); (case kK => assumption); (case k1 | k2 => k_asm); (case k3 | k4 | k5 => k_asm); (case zqk6 | zqk7 => k_is); (case zqk8 => k_room); (case zqkV | zqkP => exact rfl); (case zqkG => exact fun _ => rfl); (case zqkB => exact fun _ => locs rfl); (case zqc5 => decide); (case zqc2 | zqc3 | zqc4 => exact rfl); k_whole; intro D'Z g'Z L'Z h'Z l1Z FG'Z F'Z N'Z B'Z X'Z T'Z; (try k_lt l1Z); (try dsimp only); (try k_lift B'Z); (try k_fold); refine name_A ?_; intro aA8; have hN8 := True.intro; have hO8 := True.intro) | (kp_kind "both"; refine' kp_both ?k1 ?k2 ?k3 ?k4 ?k5 ?zqkA ?zqkF ?kK ?zqk6 ?zqk7 ?zqk8 ?zqkV ?zqkX ?zqkQ ?zqkM ?zqkN ?zqkD ?zqkR ?zqkP ?zqkS ?zqkT ?zqkB ?_ ?zqc2 ?zqc3 ?zqc4 ?zqc5; (case zqkA | zqkF => exact rfl); (case kK => assumption); (case k1 | k2 => k_asm); (case k3 | k4 | k5 => k_asm); (case zqk6 | zqk7 => k_is); (case zqk8 => k_room); (case zqkV | zqkX => kp_lit); (case zqkQ | zqkM | zqkN => exact rfl); (case zqkD => kp_flats); (case zqkR | zqkP => exact rfl); (case zqkS => exact fun _ => rfl); (case zqkT => exact fun _ _ => rfl); (case zqkB => exact fun _ _ => locs rfl); (case zqc5 => decide); (case zqc2 | zqc3 | zqc4 => exact rfl); k_whole; intro C'Z D'Z o'Z g'Z L'Z h'Z tk'Z l1Z l2Z lo'Z hs'Z fs'Z FG'Z F'Z N'Z B'Z X'Z T'Z; (try k_lt l1Z); (try k_lt2 l2Z); (try dsimp only); (try k_lift B'Z); (try k_fold); refine name_A ?_; intro aA8; have hN8 := True.intro; have hO8 := True.intro))
  repeat' (first | (k_unfold; (try dsimp only)) | (k_end; (with_reducible refine hN8 _ _ ?_); intro kN8; clear hN8 hO8; (try clear qN8); first | with_reducible refine execs_one ?_ | (refine execs_more ?_; intro qN8 hN8 hO8)) | (k_end; (with_reducible refine hO8 _ _ ?zn8 ?_); (case zn8 => first | exact ne_ret _ | exact ne_brk | exact ne_cont); clear hN8 hO8; (try clear qN8)) | (k_end; wrow_close) | ((with_reducible show wpAny _ _ (setAttr _ _ _) _ _ _); (first | ((with_reducible show wpAny _ _ (setAttr (Value.ref _) (Str.ofString "infile") _) _ _ _); (k_here; k_dflt (refine' lex_set_inf ?k1 ?k2 ?k3 ?k4 ?k5 ?_; (case k1 | k2 | k3 => k_asm); (case k4 => k_mem); (case k5 => k_upd); k_whole); intro h'Z F'Z N'Z; (try k_sweep))) | ((with_reducible show wpAny _ _ (setAttr (Value.ref _) (Str.ofString "instream") _) _ _ _); (k_here; k_dflt (refine' lex_set_inst ?k1 ?k2 ?k3 ?k4 ?k5 ?_; (case k1 | k2 | k3 => k_asm); (case k4 => k_mem); (case k5 => k_upd); k_whole); intro h'Z F'Z N'Z; (try k_sweep))) | ((with_reducible show wpAny _ _ (setAttr (Value.ref _) (Str.ofString "token") _) _ _ _); (k_here; k_dflt (refine' lex_set_tok ?k1 ?k2 ?k3 ?k4 ?k5 ?_; (case k1 | k2 | k3 => k_asm); (case k4 => k_mem); (case k5 => k_upd); k_whole); intro h'Z F'Z N'Z; (try k_sweep))) | ((with_reducible show wpAny _ _ (setAttr (Value.ref _) (Str.ofString "lineno") _) _ _ _); (k_here; k_dflt (refine' lex_set_line ?k1 ?k2 ?k3 ?k4 ?k5 ?_; (case k1 | k2 | k3 => k_asm); (case k4 => k_mem); (case k5 => k_upd); k_whole); intro h'Z F'Z N'Z; (try k_sweep))) | ((with_reducible show wpAny _ _ (setAttr (Value.ref _) (Str.ofString "state") _) _ _ _); (k_here; k_dflt (refine' lex_set_state ?k1 ?k2 ?k3 ?k4 ?k5 ?_; (case k1 | k2 | k3 => k_asm); (case k4 => k_mem); (case k5 => k_upd); k_whole); intro h'Z F'Z N'Z; (try k_sweep))))) | ((with_reducible show wpAny _ _ (exec _ _) _ _ _); (first | ((with_reducible show wpAny _ _ (exec (Stmt.While (Expr.Constant _ _ _) _ _ _) _) _ _ _); (k_here; refine stop_in ?_)) | ((with_reducible show wpAny _ _ (exec (Stmt.If _ _ _ _) _) _ _ _); (k_here; refine wpAny_If ?_)))) | ((with_reducible show wpAny _ _ (truthy _) _ _ _); (first | ((with_reducible show wpAny _ _ (truthy (Value.ref _)) _ _ _); (k_here; k_dflt (refine' dq_truthy ?k1 ?k2 ?k3 ?_; (case k1 => k_asm); (case k2 => k_mem); (case k3 => first | assumption | omega | (simp only [List.length_cons, List.length_nil] at *; omega)); k_whole))) | (k_here; (with_reducible show wpAny _ _ (truthy (Value.str _ _)) _ _ _); refine truthy_long (by assumption) (by omega) ?_; intro _))) | ((with_reducible show wpAny _ _ (call _ _ _) _ _ _); (first | (k_here; (with_reducible show wpAny _ _ (call (Value.builtin "len") [Value.ref _]) _ _ _); k_dflt (refine' dq_len ?k1 ?k2 ?k3 ?_; (case k1 => k_asm); (case k2 => k_mem); (case k3 => first | assumption | omega | (simp only [List.length_cons, List.length_nil] at *; omega)); k_whole)) | ((with_reducible show wpAny _ _ (call (Value.builtin "collections.deque.popleft") _ _) _ _ _); (k_here; k_dflt (refine' dq_popleft ?k1 ?k2 ?k3 ?k4 ?_; (case k1 | k2 => k_asm); (case k3 => k_upd); (case k4 => first | assumption | omega | (simp only [List.length_cons, List.length_nil] at *; omega)); k_whole); intro h'Z F'Z N'Z; (try k_sweep))) | ((with_reducible show wpAny _ _ (call (Value.builtin "collections.deque.appendleft") _ _) _ _ _); (k_here; k_dflt (refine' dq_appendleft ?k1 ?k2 ?k3 ?k4 ?_; (case k1 | k2 => k_asm); (case k3 => k_upd); (case k4 => first | assumption | omega | (simp only [List.length_cons, List.length_nil] at *; omega)); k_whole); intro h'Z F'Z N'Z; (try k_sweep))) | ((with_reducible show wpAny _ _ (call (Value.type "collections.deque") _ _) _ _ _); (k_here; k_dflt (refine' dq_new ?k1 ?k2 ?_; (case k1 | k2 => k_asm); k_whole); intro D'Z h'Z F'Z N'Z l1Z; (try k_lt l1Z); (try k_sweep))) | (k_here; (with_reducible show wpAny _ _ (call (Value.ref 587) [Value.str _ _]) _ _ _); k_dflt (refine' sio_use ?zqkp ?k1 ?k2 ?k3 ?k4 ?k5 ?kK ?kd ?ku ?_; tb_rel; (case zqkp => first | assumption | omega); intro x9Z d9Z c9Z tp9Z h9Z tk9Z F9Z N9Z l9Z l8Z; (have l7Z := allLt_up l8Z l9Z); (try simp only [AllLt, and_true] at l9Z l7Z); (replace l8Z := ltN l8Z); (try dsimp only); (try k_fold))) | (k_here; (with_reducible show wpAny _ _ (call (Value.ref 533) [Value.ref _, Value.int 1 _]) _ _ _); k_dflt (refine' read_use ?zqpx ?zqpk ?zqpR ?zqpS ?zqp2 ?zqpb ?k1 ?k2 ?k3 ?k4 ?k5 ?kK ?kd ?ku ?_; tb_rel; (case zqpx | zqpk => assumption); (case zqpR => k_all); (case zqpS | zqp2 | zqpb => assumption); intro t9Z tp9Z h9Z tk9Z F9Z N9Z; (try dsimp only); (try k_fold))))) | ((with_reducible show wpAny _ _ (getMethod _ _ _) _ _ _); (first | (k_here; (with_reducible show wpAny _ _ (getMethod (Value.ref _) (Str.ofString "popleft") _) _ _ _); k_dflt (refine' dq_meth dq_slot_pl dq_type_pl ?k1 ?k2 ?_; (case k1 => k_asm); (case k2 => k_mem); k_whole)) | (k_here; (with_reducible show wpAny _ _ (getMethod (Value.ref _) (Str.ofString "appendleft") _) _ _ _); k_dflt (refine' dq_meth dq_slot_al dq_type_al ?k1 ?k2 ?_; (case k1 => k_asm); (case k2 => k_mem); k_whole)))) | (k_here; (with_reducible show wpAny _ _ (compareOp CmpOp.In (Value.str _ _) (Value.str _ _)) _ _ _); first | (refine in_known (b := false) (by assumption) ?_) | (refine in_known (b := true) (by assumption) ?_) | (refine in_known (b := false) (by decide +kernel) ?_) | (refine in_known (b := true) (by decide +kernel) ?_)) | ((with_reducible show wpAny _ _ (execs _ _) _ _ _); (first | ((with_reducible show wpAny _ _ (execs [] _) _ _ _); (k_here; refine wpAny_execs_nil ?_)) | ((with_reducible show wpAny _ _ (execs (_ :: _) _) _ _ _); (k_here; (try dsimp only); (try k_fold); first | with_reducible refine execs_one ?_ | (refine execs_more ?_; intro qN8 hN8 hO8))))) | walk1 | ((with_reducible show wpAny _ _ _ _ _ _); dsimp only) | (leave1; walk_say "STEP leave1"; try dsimp only) | fail "no step")
  exact hret _ _ _ _ (by assumption) (news_sub (by assumption) (fun q hq => .tail _ hq)) ⟨rfl, _, rfl⟩
end P13
section P14
theorem off14 : True := by
  w_top off
  trivial
section
variable {w : World} {X D S DS : Addr} {c : LexC} {sc : SioC} {inf : Str} {ti ts tl tt tp : Tok} {line : Int} {buf : Str} {k : Nat} {R : Led}
    {dp un : Nat} {gd : Option (List Code)} {cn : Str} {cs : Scope} {a : Addr} {ccd : Value} {cl : List (Str × Addr)} {outer : List Env} {A₀ : Around} {base h₀ : Heap} {L : Addr} {m : Str → Option Value} {s : Shared}
    {p : Program} {loose : List Str} {mean : ExcName → Option Value} {mg mb : Str → Option Value} {Q E : Value → Shared → Prop}
theorem token_none (hg : lexGo [] (buf.cps.toList.drop k) = none) (hR1 : ∀ p ∈ R, p.1 ≠ D) (hR2 : ∀ p ∈ R, p.1 ≠ DS) (n1 : X ≠ D) (n2 : X ≠ DS) (n3 : S ≠ D) (n4 : S ≠ DS) (n5 : D ≠ DS) (hk : k ≤ buf.length) (hb : buf.length ≤ 1000000) (hE : EndsOk (buf.cps.toList.drop k))
    (B : Below A₀ base outer h₀) (F : Fr h₀ L s.heap m) (KX : (hd.heap_39 w.params).In h₀) (N : News h₀ L s.heap ((S, instObj 587 DS) :: (DS, sioD w sc buf (k : Int) tp) :: (X, instObj 722 D) :: (D, lexD w c S inf ti (.str (Str.ofString " ") ts) line tl (Str.ofString "") tt) :: R)) (T : Top p loose mean mg mb h₀) (hck : cs.kind = .function) (hd : dp + 60 < recursionLimit) (hu : un + 8 * 60 < cLine)
    (ret : ∀ tl tt tp h' tk', Fr h₀ L h' m → News h₀ L h' ((S, instObj 587 DS) :: (DS, sioD w sc buf (buf.length : Int) tp) :: (X, instObj 722 D) :: (D, lexD w c S inf ti .none line tl (Str.ofString "") tt) :: R) → Q .none { s with heap := h', toks := tk' }) :
    wpAny (model PySem.Challenge.rw_kl0188_01.row.prog w) (ktrTop dp un gd cn cs L a ccd cl outer) (call (.ref 690) [.ref X] []) Q E s := by
  refine says_use (token_says w X D S DS c sc inf ti ts tl tt tp line buf k R hR1 hR2 n1 n2 n3 n4 n5 hk hb hE) B F KX N T hck hd hu ?_
  intro r news' h' tk' F' N' hp
  unfold TokPost at hp
  rw [hg] at hp
  obtain ⟨tl', tt', tp', rfl, rfl⟩ := hp
  exact ret tl' tt' tp' h' tk' F' N'
theorem token_some {wd rest : List Nat} (hg : lexGo [] (buf.cps.toList.drop k) = some (wd, rest)) (hR1 : ∀ p ∈ R, p.1 ≠ D) (hR2 : ∀ p ∈ R, p.1 ≠ DS) (n1 : X ≠ D) (n2 : X ≠ DS) (n3 : S ≠ D) (n4 : S ≠ DS) (n5 : D ≠ DS) (hk : k ≤ buf.length) (hb : buf.length ≤ 1000000) (hE : EndsOk (buf.cps.toList.drop k))
    (B : Below A₀ base outer h₀) (F : Fr h₀ L s.heap m) (KX : (hd.heap_39 w.params).In h₀) (N : News h₀ L s.heap ((S, instObj 587 DS) :: (DS, sioD w sc buf (k : Int) tp) :: (X, instObj 722 D) :: (D, lexD w c S inf ti (.str (Str.ofString " ") ts) line tl (Str.ofString "") tt) :: R)) (T : Top p loose mean mg mb h₀) (hck : cs.kind = .function) (hd : dp + 60 < recursionLimit) (hu : un + 8 * 60 < cLine)
    (ret : ∀ k' t tl tt tp ts h' tk', k' ≤ buf.length → buf.cps.toList.drop k' = rest → Fr h₀ L h' m → News h₀ L h' ((S, instObj 587 DS) :: (DS, sioD w sc buf (k' : Int) tp) :: (X, instObj 722 D) :: (D, lexD w c S inf ti (.str (Str.ofString " ") ts) (line + (wd.count 10 : Nat)) tl (Str.ofString "") tt) :: R) → Q (.str ⟨wd.toArray⟩ t) { s with heap := h', toks := tk' }) :
    wpAny (model PySem.Challenge.rw_kl0188_01.row.prog w) (ktrTop dp un gd cn cs L a ccd cl outer) (call (.ref 690) [.ref X] []) Q E s := by
  refine says_use (token_says w X D S DS c sc inf ti ts tl tt tp line buf k R hR1 hR2 n1 n2 n3 n4 n5 hk hb hE) B F KX N T hck hd hu ?_
  intro r news' h' tk' F' N' hp
  unfold TokPost at hp
  rw [hg] at hp
  obtain ⟨k', t, tl', tt', tp', ts', rfl, h1, h2, rfl⟩ := hp
  exact ret k' t tl' tt' tp' ts' h' tk' h1 h2 F' N'
end
/-- one frame of the reader: its file's name, its stream, the place in it, the line -/
structure Fm where
  inf : Str
  ti : Tok
  S : Addr
  DS : Addr
  sc : SioC
  buf : Str
  k : Nat
  tp : Tok
  line : Int
  tl : Tok
noncomputable abbrev fmTup (f : Fm) : Obj := tupOf [.str f.inf f.ti, .ref f.S, .int f.line f.tl]
noncomputable def stkLed (w : World) : List (Addr × Fm) → Led
  | [] => []
  | (T, f) :: r => (T, fmTup f) :: (f.S, instObj 587 f.DS) :: (f.DS, sioD w f.sc f.buf (f.k : Int) f.tp) :: stkLed w r
noncomputable def stkAdr : List (Addr × Fm) → List Addr
  | [] => []
  | (T, f) :: r => T :: f.S :: f.DS :: stkAdr r
noncomputable def Fm.left (f : Fm) : List Nat := f.buf.cps.toList.drop f.k
noncomputable def Fm.Ok (f : Fm) : Prop := f.k ≤ f.buf.length ∧ f.buf.length ≤ 1000000 ∧ EndsOk f.left
noncomputable abbrev getLed (w : World) (X D : Addr) (c : LexC) (f : Fm) (st : Value) (tt : Tok) (q : Int) (stk : List (Addr × Fm)) (R : Led) : Led :=
  (f.S, instObj 587 f.DS) :: (f.DS, sioD w f.sc f.buf (f.k : Int) f.tp) :: (X, instObj 722 D) :: (D, lexD w c f.S f.inf f.ti st f.line f.tl (Str.ofString "") tt) :: (c.fs, dqObj q (stk.map fun p => .ref p.1)) :: (c.pb, dqObj 0 []) :: (stkLed w stk ++ R)
noncomputable def nextTok (f : Fm) : List (Addr × Fm) → Option (List Nat × List Nat × Fm × List (Addr × Fm))
  | [] => match lexGo [] f.left with
    | some p => some (p.1, p.2, f, [])
    | none => none
  | (T, g) :: r => match lexGo [] f.left with
    | some p => some (p.1, p.2, f, (T, g) :: r)
    | none => nextTok g r
structure Apart (X D : Addr) (c : LexC) (f : Fm) (stk : List (Addr × Fm)) (R : Led) : Prop where
  nd : (c.fs :: c.pb :: X :: D :: f.S :: f.DS :: stkAdr stk).Nodup
  off : ∀ p ∈ R, p.1 ∉ c.fs :: c.pb :: X :: D :: f.S :: f.DS :: stkAdr stk
noncomputable def GetPost (w : World) (X D : Addr) (c : LexC) (f : Fm) (stk : List (Addr × Fm)) (R : Led) (news' : Led) (r : Value) : Prop :=
  match nextTok f stk with
  | none => r = .none ∧ ∃ S inf ti line tl tt q, news' = (X, instObj 722 D) :: (D, lexD w c S inf ti .none line tl (Str.ofString "") tt) :: (c.fs, dqObj q []) :: R
  | some (wd, rest, g, stk') => ∃ k' t ts tl tt tp q', r = .str ⟨wd.toArray⟩ t ∧ k' ≤ g.buf.length ∧ g.buf.cps.toList.drop k' = rest ∧
      news' = getLed w X D c { g with k := k', tp := tp, line := g.line + (wd.count 10 : Nat), tl := tl } (.str (Str.ofString " ") ts) tt q' stk' R
theorem stk_sub {w : World} {stk : List (Addr × Fm)} : ∀ p ∈ stkLed w stk, p.1 ∈ stkAdr stk := by
  induction stk with
  | nil => intro p hp; cases hp
  | cons x r ih =>
    obtain ⟨T, f⟩ := x
    intro p hp
    simp only [stkLed, stkAdr, List.mem_cons] at hp ⊢
    rcases hp with rfl | rfl | rfl | hp
    · exact .inl rfl
    · exact .inr (.inl rfl)
    · exact .inr (.inr (.inl rfl))
    · exact .inr (.inr (.inr (ih p hp)))
theorem pop_use {w : World} {X D S DS S' DS' T : Addr} {c : LexC} {sc sc' : SioC} {inf inf' : Str} {ti ti' tl tl' tt tp tp' : Tok} {line line' : Int} {st : Value} {tok buf buf' : Str} {k k' : Nat} {q : Int} {xs : List Value} {R : Led}
    {dp un : Nat} {gd : Option (List Code)} {cn : Str} {cs : Scope} {a : Addr} {ccd : Value} {cl : List (Str × Addr)} {outer : List Env} {A₀ : Around} {base h₀ : Heap} {L : Addr} {m : Str → Option Value} {s : Shared}
    {p : Program} {loose : List Str} {mean : ExcName → Option Value} {mg mb : Str → Option Value} {Q E : Value → Shared → Prop}
    (hR1 : ∀ p ∈ (c.pb, dqObj 0 []) :: (S', instObj 587 DS') :: (DS', sioD w sc' buf' (k' : Int) tp') :: R, p.1 ≠ D) (hR2 : ∀ p ∈ (c.pb, dqObj 0 []) :: (S', instObj 587 DS') :: (DS', sioD w sc' buf' (k' : Int) tp') :: R, p.1 ≠ c.fs) (hR3 : ∀ p ∈ (c.pb, dqObj 0 []) :: (S', instObj 587 DS') :: (DS', sioD w sc' buf' (k' : Int) tp') :: R, p.1 ≠ DS)
    (n1 : X ≠ D) (n2 : c.fs ≠ D) (n3 : c.fs ≠ X) (n4 : S ≠ DS) (n5 : D ≠ DS) (n6 : c.fs ≠ DS) (n7 : X ≠ DS) (n8 : S ≠ D) (n9 : S ≠ c.fs) (n10 : T ≠ D) (n11 : T ≠ c.fs) (n12 : T ≠ DS) (hx : xs.length ≤ 50)
    (B : Below A₀ base outer h₀) (F : Fr h₀ L s.heap m) (KX : (hd.heap_39 w.params).In h₀)
    (N : News h₀ L s.heap ((S, instObj 587 DS) :: (DS, sioD w sc buf (k : Int) tp) :: (X, instObj 722 D) :: (D, lexD w c S inf ti st line tl tok tt) :: (c.fs, dqObj q (.ref T :: xs)) :: (c.pb, dqObj 0 []) :: (T, tupOf [.str inf' ti', .ref S', .int line' tl']) :: (S', instObj 587 DS') :: (DS', sioD w sc' buf' (k' : Int) tp') :: R))
    (TT : Top p loose mean mg mb h₀) (hck : cs.kind = .function) (hd : dp + 100 < recursionLimit) (hu : un + 8 * 100 < cLine)
    (ret : ∀ ts h' tk', Fr h₀ L h' m → News h₀ L h' ((S', instObj 587 DS') :: (DS', sioD w sc' buf' (k' : Int) tp') :: (X, instObj 722 D) :: (D, lexD w c S' inf' ti' (.str (Str.ofString " ") ts) line' tl' tok tt) :: (c.fs, dqObj (q + 1) xs) :: (c.pb, dqObj 0 []) :: R) → Q .none { s with heap := h', toks := tk' }) :
    wpAny (model PySem.Challenge.rw_kl0188_01.row.prog w) (ktrTop dp un gd cn cs L a ccd cl outer) (call (.ref 676) [.ref X] []) Q E s := by
  refine says_use (pop_says w X D S DS S' c.fs T c rfl sc inf inf' ti ti' ti tl tl' tt tp line line' st tok buf k q xs _ hR1 hR2 hR3 n1 n2 n3 n4 n5 n6 n7 n8 n9 n10 n11 n12 hx) B F KX (news_sub N (fun z hz => ?_)) TT hck hd hu ?_
  · simp only [List.mem_cons] at hz ⊢
    rcases hz with h | h | h | h | h | h | h | h | h | h <;> simp only [h, true_or, or_true]
  · rintro r news' h' tk' F' N' ⟨rfl, ts, rfl⟩
    refine ret ts h' tk' F' (news_sub N' (fun z hz => ?_))
    simp only [List.mem_cons] at hz ⊢
    rcases hz with h | h | h | h | h | h | h <;> simp only [h, true_or, or_true]
end P14
section P15
theorem off15 : True := by
  w_top off
  trivial
theorem all4 {P : Addr × Obj → Prop} {a b c : Addr × Obj} {R : Led} (ha : P a) (hb : P b) (hc : P c) (hR : ∀ p ∈ R, P p) : ∀ p ∈ a :: b :: c :: R, P p := by
  intro p hp
  simp only [List.mem_cons] at hp
  rcases hp with rfl | rfl | rfl | hp
  · exact ha
  · exact hb
  · exact hc
  · exact hR p hp
theorem got_none {h₀ h : Heap} {L a b x d f g : Addr} {oa ob ox od of' og : Obj} {R : Led} (N : News h₀ L h ((a, oa) :: (b, ob) :: (x, ox) :: (d, od) :: (f, of') :: (g, og) :: R)) : News h₀ L h ((x, ox) :: (d, od) :: (f, of') :: R) := by
  refine news_sub N (fun z hz => ?_)
  simp only [List.mem_cons] at hz ⊢
  rcases hz with h | h | h | h <;> simp only [h, true_or, or_true]
theorem get_says (w : World) (X D : Addr) (c : LexC) (R : Led) : ∀ (stk : List (Addr × Fm)) (f : Fm) (ts tt : Tok) (q : Int), f.Ok → (∀ p ∈ stk, p.2.Ok) → Apart X D c f stk R → stk.length ≤ 20 →
    Says w (.ref 683) [.ref X] [] (110 + 10 * stk.length) (getLed w X D c f (.str (Str.ofString " ") ts) tt q stk R) (GetPost w X D c f stk R)
  | [], f, ts, tt, q, ok, oks, ap, hl => by
    obtain ⟨inf, ti, S, DS, sc, buf, k, tp, line, tl⟩ := f
    obtain ⟨ok1, ok2, ok3⟩ := ok
    have nd := ap.nd
    have off := ap.off
    simp only [stkAdr, List.nodup_cons, List.mem_cons, not_or, List.not_mem_nil, or_false, not_false_iff, and_true, List.nodup_nil, true_and] at nd off
    dsimp only [Fm.left] at *
    obtain ⟨⟨d1, d2, d3, d4, d5⟩, ⟨d6, d7, d8, d9⟩, ⟨d10, d11, d12⟩, ⟨d13, d14⟩, d15⟩ := nd
    have o1 : ∀ p ∈ R, p.1 ≠ D := fun p hp => (off p hp).2.2.2.1
    have o2 : ∀ p ∈ R, p.1 ≠ DS := fun p hp => (off p hp).2.2.2.2.2
    have n3 : S ≠ D := Ne.symm d13
    cases hg : lexGo [] (buf.cps.toList.drop k) with
    | none =>
      unfold Says
      k_fill
      intro dp un gd cn cs a ccd cl outer A₀ base h₀ L m s p loose mean mg mb Q E B F KX N T0 hk hd hu hret
      simp only [getLed, stkLed, List.map_nil, List.nil_append, List.length_nil, Nat.mul_zero, Nat.add_zero] at N hd hu
      refine wpAny_call ?_
      k_dflt (first | (refine' code_def ?k1 ?k2 ?k3 ?k4 ?k5 ?zqkA ?zqkF ?kK ?zqk6 ?zqk7 ?zqk8 ?zqk9 ?zqkB ?_ ?zqc2 ?zqc3 ?zqc4 ?zqc5; (case zqkA | zqkF => exact rfl); (case kK => assumption); (case k1 | k2 => k_asm); (case k3 | k4 | k5 => k_asm); (case zqk6 | zqk7 => k_is); (case zqk8 => k_room); (case zqk9 => first | exact BindsTo.of_eq rfl | exact binds_K (by k_in) rfl (by k_is) rfl rfl rfl | fail); (case zqc5 => decide); (case zqkB => exact locs rfl); (case zqc2 | zqc3 | zqc4 => exact rfl); k_whole; intro g'Z L'Z h'Z FG'Z F'Z N'Z B'Z X'Z T'Z; (try dsimp only); (try k_lift B'Z); (try k_fold); refine name_A ?_; intro aA8; have hN8 := True.intro; have hO8 := True.intro) | (kp_kind "rest"; refine' kp_rest ?k1 ?k2 ?k3 ?k4 ?k5 ?zqkA ?zqkF ?kK ?zqk6 ?zqk7 ?zqk8 ?zqkV ?zqkP ?zqkG ?zqkB ?_ ?zqc2 ?zqc3 ?zqc4 ?zqc5; (case zqkA | zqkF => exact rfl); (case kK => assumption); (case k1 | k2 => k_asm); (case k3 | k4 | k5 => k_asm); (case zqk6 | zqk7 => k_is); (case zqk8 => k_room); (case zqkV | zqkP => exact rfl); (case zqkG => exact fun _ => rfl); (case zqkB => exact fun _ => locs rfl); (case zqc5 => decide); (case zqc2 | zqc3 | zqc4 => exact rfl); k_whole; intro D'Z g'Z L'Z h'Z l1Z FG'Z F'Z N'Z B'Z X'Z T'Z; (try k_lt l1Z); (try dsimp only); (try k_lift B'Z); (try k_fold); refine name_A ?_; intro aA8; have hN8 := True.intro; have hO8 := True.intro) | (kp_kind "both"; refine' kp_both ?k1 ?k2 ?k3 ?k4 ?k5 ?zqkA ?zqkF ?kK ?zqk6 ?zqk7 ?zqk8 ?zqkV ?zqkX ?zqkQ ?zqkM ?zqkN ?zqkD ?zqkR ?zqkP ?zqkS ?zqkT ?zqkB ?_ ?zqc2 ?zqc3 ?zqc4 ?zqc5; (case zqkA | zqkF => exact rfl); (case kK => assumption); (case k1 | k2 => k_asm); (case k3 | k4 | k5 => k_asm); (case zqk6 | zqk7 => k_is); (case zqk8 => k_room); (case zqkV | zqkX => kp_lit); (case zqkQ | zqkM | zqkN => exact rfl); (case zqkD => kp_flats); (case zqkR | zqkP => exact rfl); (case zqkS => exact fun _ => rfl); (case zqkT => exact fun _ _ => rfl); (case zqkB => exact fun _ _ => locs rfl); (case zqc5 => decide); (case zqc2 | zqc3 | zqc4 => exact rfl); k_whole; intro C'Z D'Z o'Z g'Z L'Z h'Z tk'Z l1Z l2Z lo'Z hs'Z fs'Z FG'Z F'Z N'Z B'Z X'Z T'Z; (try k_lt l1Z); (try k_lt2 l2Z); (try dsimp only); (try k_lift B'Z); (try k_fold); refine name_A ?_; intro aA8; have hN8 := True.intro; have hO8 := True.intro))
      repeat' (first | (k_unfold; (try dsimp only)) | (k_end; (with_reducible refine hN8 _ _ ?_); intro kN8; clear hN8 hO8; (try clear qN8); first | with_reducible refine execs_one ?_ | (refine execs_more ?_; intro qN8 hN8 hO8)) | (k_end; (with_reducible refine hO8 _ _ ?zn8 ?_); (case zn8 => first | exact ne_ret _ | exact ne_brk | exact ne_cont); clear hN8 hO8; (try clear qN8)) | (k_end; wrow_close) | ((with_reducible show wpAny _ _ (call _ _ _) _ _ _); (first | (k_here; (with_reducible show wpAny _ _ (call (Value.ref 683) _) _ _ _); refine stop_in ?_) | (k_here; (with_reducible show wpAny _ _ (call (Value.ref 676) _) _ _ _); refine stop_in ?_) | (k_here; (with_reducible show wpAny _ _ (call (Value.ref 690) _) _ _ _); first | (k_dflt (refine' token_some ?zqhg ?zqa1 ?zqa2 ?zqa3 ?zqa4 ?zqa5 ?zqa6 ?zqa7 ?zqa8 ?zqa9 ?zqaE ?k1 ?k2 ?k3 ?k4 ?k5 ?kK ?kd ?ku ?_; (case zqhg => assumption); tb_rel; (case zqa1 | zqa2 => k_all); (case zqa3 | zqa4 => assumption); (case zqa5 | zqa6 => assumption); (case zqa7 | zqa8 => assumption); (case zqa9 | zqaE => assumption); intro k9Z t9Z tl9Z tt9Z tp9Z ts9Z h9Z tk9Z hk9Z hd9Z F9Z N9Z; (try dsimp only); (try k_fold))) | (k_dflt (refine' token_none ?zqhg ?zqa1 ?zqa2 ?zqa3 ?zqa4 ?zqa5 ?zqa6 ?zqa7 ?zqa8 ?zqa9 ?zqaE ?k1 ?k2 ?k3 ?k4 ?k5 ?kK ?kd ?ku ?_; (case zqhg => assumption); tb_rel; (case zqa1 | zqa2 => k_all); (case zqa3 | zqa4 => assumption); (case zqa5 | zqa6 => assumption); (case zqa7 | zqa8 => assumption); (case zqa9 | zqaE => assumption); intro tl9Z tt9Z tp9Z h9Z tk9Z F9Z N9Z; (try dsimp only); (try k_fold)))) | (k_here; (with_reducible show wpAny _ _ (call (Value.builtin "len") [Value.ref _]) _ _ _); k_dflt (refine' dq_len ?k1 ?k2 ?k3 ?_; (case k1 => k_asm); (case k2 => k_mem); (case k3 => first | assumption | omega | (simp only [List.length_cons, List.length_nil] at *; omega)); k_whole)) | ((with_reducible show wpAny _ _ (call (Value.builtin "collections.deque.popleft") _ _) _ _ _); (k_here; k_dflt (refine' dq_popleft ?k1 ?k2 ?k3 ?k4 ?_; (case k1 | k2 => k_asm); (case k3 => k_upd); (case k4 => first | assumption | omega | (simp only [List.length_cons, List.length_nil] at *; omega)); k_whole); intro h'Z F'Z N'Z; (try k_sweep))) | ((with_reducible show wpAny _ _ (call (Value.builtin "collections.deque.appendleft") _ _) _ _ _); (k_here; k_dflt (refine' dq_appendleft ?k1 ?k2 ?k3 ?k4 ?_; (case k1 | k2 => k_asm); (case k3 => k_upd); (case k4 => first | assumption | omega | (simp only [List.length_cons, List.length_nil] at *; omega)); k_whole); intro h'Z F'Z N'Z; (try k_sweep))) | ((with_reducible show wpAny _ _ (call (Value.type "collections.deque") _ _) _ _ _); (k_here; k_dflt (refine' dq_new ?k1 ?k2 ?_; (case k1 | k2 => k_asm); k_whole); intro D'Z h'Z F'Z N'Z l1Z; (try k_lt l1Z); (try k_sweep))))) | ((with_reducible show wpAny _ _ (exec _ _) _ _ _); (first | ((with_reducible show wpAny _ _ (exec (Stmt.While (Expr.Compare _ _ _ _) _ _ _) _) _ _ _); (k_here; k_dflt (refine whl_start 100 ?_))) | ((with_reducible show wpAny _ _ (exec (Stmt.While (Expr.Compare _ _ _ _) _ _ _) _) _ _ _); (k_here; refine stop_in ?_)) | ((with_reducible show wpAny _ _ (exec (Stmt.While (Expr.Constant _ _ _) _ _ _) _) _ _ _); (k_here; refine stop_in ?_)) | ((with_reducible show wpAny _ _ (exec (Stmt.If _ _ _ _) _) _ _ _); (k_here; refine wpAny_If ?_)))) | ((with_reducible show wpAny _ _ (truthy _) _ _ _); (first | ((with_reducible show wpAny _ _ (truthy (Value.ref _)) _ _ _); (k_here; k_dflt (refine' dq_truthy ?k1 ?k2 ?k3 ?_; (case k1 => k_asm); (case k2 => k_mem); (case k3 => first | assumption | omega | (simp only [List.length_cons, List.length_nil] at *; omega)); k_whole))) | (k_here; (with_reducible show wpAny _ _ (truthy (Value.str _ _)) _ _ _); refine truthy_long (by assumption) (by omega) ?_; intro _))) | ((with_reducible show wpAny _ _ (getMethod _ _ _) _ _ _); (first | (k_here; (with_reducible show wpAny _ _ (getMethod (Value.ref _) (Str.ofString "popleft") _) _ _ _); k_dflt (refine' dq_meth dq_slot_pl dq_type_pl ?k1 ?k2 ?_; (case k1 => k_asm); (case k2 => k_mem); k_whole)) | (k_here; (with_reducible show wpAny _ _ (getMethod (Value.ref _) (Str.ofString "appendleft") _) _ _ _); k_dflt (refine' dq_meth dq_slot_al dq_type_al ?k1 ?k2 ?_; (case k1 => k_asm); (case k2 => k_mem); k_whole)))) | (k_here; (with_reducible show wpAny _ _ (compareOp CmpOp.In (Value.str _ _) (Value.str _ _)) _ _ _); first | (refine in_known (b := false) (by assumption) ?_) | (refine in_known (b := true) (by assumption) ?_) | (refine in_known (b := false) (by decide +kernel) ?_) | (refine in_known (b := true) (by decide +kernel) ?_)) | ((with_reducible show wpAny _ _ (execs _ _) _ _ _); (first | ((with_reducible show wpAny _ _ (execs [] _) _ _ _); (k_here; refine wpAny_execs_nil ?_)) | ((with_reducible show wpAny _ _ (execs (_ :: _) _) _ _ _); (k_here; (try dsimp only); (try k_fold); first | with_reducible refine execs_one ?_ | (refine execs_more ?_; intro qN8 hN8 hO8))))) | walk1 | ((with_reducible show wpAny _ _ _ _ _ _); dsimp only) | (leave1; walk_say "STEP leave1"; try dsimp only) | fail "no step")
      refine hret _ _ _ _ (by assumption) (got_none (by assumption)) ?_
      unfold GetPost
      rw [show nextTok ⟨inf, ti, S, DS, sc, buf, k, tp, line, tl⟩ [] = none by simp only [nextTok, Fm.left, hg]]
      exact ⟨rfl, _, _, _, _, _, _, _, rfl⟩
    | some wr =>
      obtain ⟨wd, rest⟩ := wr
      unfold Says
      k_fill
      intro dp un gd cn cs a ccd cl outer A₀ base h₀ L m s p loose mean mg mb Q E B F KX N T0 hk hd hu hret
      simp only [getLed, stkLed, List.map_nil, List.nil_append, List.length_nil, Nat.mul_zero, Nat.add_zero] at N hd hu
      refine wpAny_call ?_
      k_dflt (first | (refine' code_def ?k1 ?k2 ?k3 ?k4 ?k5 ?zqkA ?zqkF ?kK ?zqk6 ?zqk7 ?zqk8 ?zqk9 ?zqkB ?_ ?zqc2 ?zqc3 ?zqc4 ?zqc5; (case zqkA | zqkF => exact rfl); (case kK => assumption); (case k1 | k2 => k_asm); (case k3 | k4 | k5 => k_asm); (case zqk6 | zqk7 => k_is); (case zqk8 => k_room); (case zqk9 => first | exact BindsTo.of_eq rfl | exact binds_K (by k_in) rfl (by k_is) rfl rfl rfl | fail); (case zqc5 => decide); (case zqkB => exact locs rfl); (case zqc2 | zqc3 | zqc4 => exact rfl); k_whole; intro g'Z L'Z h'Z FG'Z F'Z N'Z B'Z X'Z T'Z; (try dsimp only); (try k_lift B'Z); (try k_fold); refine name_A ?_; intro aA8; have hN8 := True.intro; have hO8 := True.intro) | (kp_kind "rest"; refine' kp_rest ?k1 ?k2 ?k3 ?k4 ?k5 ?zqkA ?zqkF ?kK ?zqk6 ?zqk7 ?zqk8 ?zqkV ?zqkP ?zqkG ?zqkB ?_ ?zqc2 ?zqc3 ?zqc4 ?zqc5; (case zqkA | zqkF => exact rfl); (case kK => assumption); (case k1 | k2 => k_asm); (case k3 | k4 | k5 => k_asm); (case zqk6 | zqk7 => k_is); (case zqk8 => k_room); (case zqkV | zqkP => exact rfl); (case zqkG => exact fun _ => rfl); (case zqkB => exact fun _ => locs rfl); (case zqc5 => decide); (case zqc2 | zqc3 | zqc4 => exact rfl); k_whole; intro D'Z g'Z L'Z h'Z l1Z FG'Z F'Z N'Z B'Z X'Z T'Z; (try k_lt l1Z); (try dsimp only); (try k_lift B'Z); (try k_fold); refine name_A ?_; intro aA8; have hN8 := True.intro; have hO8 := True.intro) | (kp_kind "both"; refine' kp_both ?k1 ?k2 ?k3 ?k4 ?k5 ?zqkA ?zqkF ?kK ?zqk6 ?zqk7 ?zqk8 ?zqkV ?zqkX ?zqkQ ?zqkM ?zqkN ?zqkD ?zqkR ?zqkP ?zqkS ?zqkT ?zqkB ?_ ?zqc2 ?zqc3 ?zqc4 ?zqc5; (case zqkA | zqkF => exact rfl); (case kK => assumption); (case k1 | k2 => k_asm); (case k3 | k4 | k5 => k_asm); (case zqk6 | zqk7 => k_is); (case zqk8 => k_room); (case zqkV | zqkX => kp_lit); (case zqkQ | zqkM | zqkN => exact rfl); (case zqkD => kp_flats); (case zqkR | zqkP => exact rfl); (case zqkS => exact fun _ => rfl); (case zqkT => exact fun _ _ => rfl); (case zqkB => exact fun _ _ => locs rfl); (case zqc5 => decide); (case zqc2 | zqc3 | zqc4 => exact rfl); k_whole; intro C'Z D'Z o'Z g'Z L'Z h'Z tk'Z l1Z l2Z lo'Z hs'Z fs'Z FG'Z F'Z N'Z B'Z X'Z T'Z; (try k_lt l1Z); (try k_lt2 l2Z); (try dsimp only); (try k_lift B'Z); (try k_fold); refine name_A ?_; intro aA8; have hN8 := True.intro; have hO8 := True.intro))
      repeat' (first | (k_unfold; (try dsimp only)) | (k_end; (with_reducible refine hN8 _ _ ?_); intro kN8; clear hN8 hO8; (try clear qN8); first | with_reducible refine execs_one ?_ | (refine execs_more ?_; intro qN8 hN8 hO8)) | (k_end; (with_reducible refine hO8 _ _ ?zn8 ?_); (case zn8 => first | exact ne_ret _ | exact ne_brk | exact ne_cont); clear hN8 hO8; (try clear qN8)) | (k_end; wrow_close) | ((with_reducible show wpAny _ _ (call _ _ _) _ _ _); (first | (k_here; (with_reducible show wpAny _ _ (call (Value.ref 683) _) _ _ _); refine stop_in ?_) | (k_here; (with_reducible show wpAny _ _ (call (Value.ref 676) _) _ _ _); refine stop_in ?_) | (k_here; (with_reducible show wpAny _ _ (call (Value.ref 690) _) _ _ _); first | (k_dflt (refine' token_some ?zqhg ?zqa1 ?zqa2 ?zqa3 ?zqa4 ?zqa5 ?zqa6 ?zqa7 ?zqa8 ?zqa9 ?zqaE ?k1 ?k2 ?k3 ?k4 ?k5 ?kK ?kd ?ku ?_; (case zqhg => assumption); tb_rel; (case zqa1 | zqa2 => k_all); (case zqa3 | zqa4 => assumption); (case zqa5 | zqa6 => assumption); (case zqa7 | zqa8 => assumption); (case zqa9 | zqaE => assumption); intro k9Z t9Z tl9Z tt9Z tp9Z ts9Z h9Z tk9Z hk9Z hd9Z F9Z N9Z; (try dsimp only); (try k_fold))) | (k_dflt (refine' token_none ?zqhg ?zqa1 ?zqa2 ?zqa3 ?zqa4 ?zqa5 ?zqa6 ?zqa7 ?zqa8 ?zqa9 ?zqaE ?k1 ?k2 ?k3 ?k4 ?k5 ?kK ?kd ?ku ?_; (case zqhg => assumption); tb_rel; (case zqa1 | zqa2 => k_all); (case zqa3 | zqa4 => assumption); (case zqa5 | zqa6 => assumption); (case zqa7 | zqa8 => assumption); (case zqa9 | zqaE => assumption); intro tl9Z tt9Z tp9Z h9Z tk9Z F9Z N9Z; (try dsimp only); (try k_fold)))) | (k_here; (with_reducible show wpAny _ _ (call (Value.builtin "len") [Value.ref _]) _ _ _); k_dflt (refine' dq_len ?k1 ?k2 ?k3 ?_; (case k1 => k_asm); (case k2 => k_mem); (case k3 => first | assumption | omega | (simp only [List.length_cons, List.length_nil] at *; omega)); k_whole)) | ((with_reducible show wpAny _ _ (call (Value.builtin "collections.deque.popleft") _ _) _ _ _); (k_here; k_dflt (refine' dq_popleft ?k1 ?k2 ?k3 ?k4 ?_; (case k1 | k2 => k_asm); (case k3 => k_upd); (case k4 => first | assumption | omega | (simp only [List.length_cons, List.length_nil] at *; omega)); k_whole); intro h'Z F'Z N'Z; (try k_sweep))) | ((with_reducible show wpAny _ _ (call (Value.builtin "collections.deque.appendleft") _ _) _ _ _); (k_here; k_dflt (refine' dq_appendleft ?k1 ?k2 ?k3 ?k4 ?_; (case k1 | k2 => k_asm); (case k3 => k_upd); (case k4 => first | assumption | omega | (simp only [List.length_cons, List.length_nil] at *; omega)); k_whole); intro h'Z F'Z N'Z; (try k_sweep))) | ((with_reducible show wpAny _ _ (call (Value.type "collections.deque") _ _) _ _ _); (k_here; k_dflt (refine' dq_new ?k1 ?k2 ?_; (case k1 | k2 => k_asm); k_whole); intro D'Z h'Z F'Z N'Z l1Z; (try k_lt l1Z); (try k_sweep))))) | ((with_reducible show wpAny _ _ (exec _ _) _ _ _); (first | ((with_reducible show wpAny _ _ (exec (Stmt.While (Expr.Compare _ _ _ _) _ _ _) _) _ _ _); (k_here; k_dflt (refine whl_start 100 ?_))) | ((with_reducible show wpAny _ _ (exec (Stmt.While (Expr.Compare _ _ _ _) _ _ _) _) _ _ _); (k_here; refine stop_in ?_)) | ((with_reducible show wpAny _ _ (exec (Stmt.While (Expr.Constant _ _ _) _ _ _) _) _ _ _); (k_here; refine stop_in ?_)) | ((with_reducible show wpAny _ _ (exec (Stmt.If _ _ _ _) _) _ _ _); (k_here; refine wpAny_If ?_)))) | ((with_reducible show wpAny _ _ (truthy _) _ _ _); (first | ((with_reducible show wpAny _ _ (truthy (Value.ref _)) _ _ _); (k_here; k_dflt (refine' dq_truthy ?k1 ?k2 ?k3 ?_; (case k1 => k_asm); (case k2 => k_mem); (case k3 => first | assumption | omega | (simp only [List.length_cons, List.length_nil] at *; omega)); k_whole))) | (k_here; (with_reducible show wpAny _ _ (truthy (Value.str _ _)) _ _ _); refine truthy_long (by assumption) (by omega) ?_; intro _))) | ((with_reducible show wpAny _ _ (getMethod _ _ _) _ _ _); (first | (k_here; (with_reducible show wpAny _ _ (getMethod (Value.ref _) (Str.ofString "popleft") _) _ _ _); k_dflt (refine' dq_meth dq_slot_pl dq_type_pl ?k1 ?k2 ?_; (case k1 => k_asm); (case k2 => k_mem); k_whole)) | (k_here; (with_reducible show wpAny _ _ (getMethod (Value.ref _) (Str.ofString "appendleft") _) _ _ _); k_dflt (refine' dq_meth dq_slot_al dq_type_al ?k1 ?k2 ?_; (case k1 => k_asm); (case k2 => k_mem); k_whole)))) | (k_here; (with_reducible show wpAny _ _ (compareOp CmpOp.In (Value.str _ _) (Value.str _ _)) _ _ _); first | (refine in_known (b := false) (by assumption) ?_) | (refine in_known (b := true) (by assumption) ?_) | (refine in_known (b := false) (by decide +kernel) ?_) | (refine in_known (b := true) (by decide +kernel) ?_)) | ((with_reducible show wpAny _ _ (execs _ _) _ _ _); (first | ((with_reducible show wpAny _ _ (execs [] _) _ _ _); (k_here; refine wpAny_execs_nil ?_)) | ((with_reducible show wpAny _ _ (execs (_ :: _) _) _ _ _); (k_here; (try dsimp only); (try k_fold); first | with_reducible refine execs_one ?_ | (refine execs_more ?_; intro qN8 hN8 hO8))))) | walk1 | ((with_reducible show wpAny _ _ _ _ _ _); dsimp only) | (leave1; walk_say "STEP leave1"; try dsimp only) | fail "no step")
      refine hret _ _ _ _ (by assumption) (by assumption) ?_
      unfold GetPost
      rw [show nextTok ⟨inf, ti, S, DS, sc, buf, k, tp, line, tl⟩ [] = some (wd, rest, ⟨inf, ti, S, DS, sc, buf, k, tp, line, tl⟩, []) by simp only [nextTok, Fm.left, hg]]
      exact ⟨_, _, _, _, _, _, _, rfl, by assumption, by assumption, rfl⟩
  | (T, g) :: r, f, ts, tt, q, ok, oks, ap, hl => by
    obtain ⟨inf, ti, S, DS, sc, buf, k, tp, line, tl⟩ := f
    obtain ⟨inf', ti', S', DS', sc', buf', k', tp', line', tl'⟩ := g
    obtain ⟨ok1, ok2, ok3⟩ := ok
    have okg := oks _ (.head _)
    have nd := ap.nd
    have off := ap.off
    simp only [stkAdr, List.nodup_cons, List.mem_cons, not_or, List.not_mem_nil, or_false, not_false_iff, and_true, List.nodup_nil] at nd off
    dsimp only [Fm.left] at ok3
    obtain ⟨⟨d1, d2, d3, d4, d5, d6, d7, d8, d9⟩, ⟨e1, e2, e3, e4, e5, e6, e7, e8⟩, ⟨f1, f2, f3, f4, f5, f6, f7⟩, ⟨g1, g2, g3, g4, g5, g6⟩, ⟨i1, i2, i3, i4, i5⟩, ⟨j1, j2, j3, j4⟩, ⟨l1, l2, l3⟩, ⟨m1, m2⟩, m3, nr⟩ := nd
    have hlen : r.length + 1 ≤ 20 := by simpa using hl
    have lx : (r.map fun p => Value.ref p.1).length ≤ 50 := by rw [List.length_map]; omega
    have n3 : S ≠ D := Ne.symm g1
    cases hg : lexGo [] (buf.cps.toList.drop k) with
    | some wr =>
      obtain ⟨wd, rest⟩ := wr
      have o : ∀ p ∈ stkLed w ((T, ⟨inf', ti', S', DS', sc', buf', k', tp', line', tl'⟩) :: r) ++ R, p.1 ≠ D ∧ p.1 ≠ DS := by
        intro p hp
        rcases List.mem_append.mp hp with hp | hp
        · have := stk_sub p hp
          simp only [stkAdr, List.mem_cons] at this
          rcases this with h | h | h | h
          · rw [h]; exact ⟨Ne.symm g3, Ne.symm j1⟩
          · rw [h]; exact ⟨Ne.symm g4, Ne.symm j2⟩
          · rw [h]; exact ⟨Ne.symm g5, Ne.symm j3⟩
          · exact ⟨fun e => g6 (e ▸ h), fun e => j4 (e ▸ h)⟩
        · exact ⟨(off p hp).2.2.2.1, (off p hp).2.2.2.2.2.1⟩
      unfold Says
      k_fill
      intro dp un gd cn cs a ccd cl outer A₀ base h₀ L m s p loose mean mg mb Q E B F KX N T0 hk hd hu hret
      simp only [getLed] at N hret
      refine named (stkLed w ((T, ⟨inf', ti', S', DS', sc', buf', k', tp', line', tl'⟩) :: r) ++ R) ?_
      intro R2 hR2
      rw [← hR2] at N o
      have o1 : ∀ p ∈ R2, p.1 ≠ D := fun p hp => (o p hp).1
      have o2 : ∀ p ∈ R2, p.1 ≠ DS := fun p hp => (o p hp).2
      refine wpAny_call ?_
      k_dflt (first | (refine' code_def ?k1 ?k2 ?k3 ?k4 ?k5 ?zqkA ?zqkF ?kK ?zqk6 ?zqk7 ?zqk8 ?zqk9 ?zqkB ?_ ?zqc2 ?zqc3 ?zqc4 ?zqc5; (case zqkA | zqkF => exact rfl); (case kK => assumption); (case k1 | k2 => k_asm); (case k3 | k4 | k5 => k_asm); (case zqk6 | zqk7 => k_is); (case zqk8 => k_room); (case zqk9 => first | exact BindsTo.of_eq rfl | exact binds_K (by k_in) rfl (by k_is) rfl rfl rfl | fail); (case zqc5 => decide); (case zqkB => exact locs rfl); (case zqc2 | zqc3 | zqc4 => exact rfl); k_whole; intro g'Z L'Z h'Z FG'Z F'Z N'Z B'Z X'Z T'Z; (try dsimp only); (try k_lift B'Z); (try k_fold); refine name_A ?_; intro aA8; have hN8 := True.intro; have hO8 := True.intro) | (kp_kind "rest"; refine' kp_rest ?k1 ?k2 ?k3 ?k4 ?k5 ?zqkA ?zqkF ?kK ?zqk6 ?zqk7 ?zqk8 ?zqkV ?zqkP ?zqkG ?zqkB ?_ ?zqc2 ?zqc3 ?zqc4 ?zqc5; (case zqkA | zqkF => exact rfl); (case kK => assumption); (case k1 | k2 => k_asm); (case k3 | k4 | k5 => k_asm); (case zqk6 | zqk7 => k_is); (case zqk8 => k_room); (case zqkV | zqkP => exact rfl); (case zqkG => exact fun _ => rfl); (case zqkB => exact fun _ => locs rfl); (case zqc5 => decide); (case zqc2 | zqc3 | zqc4 => exact rfl); k_whole; intro D'Z g'Z L'Z h'Z l1Z FG'Z F'Z N'Z B'Z X'Z T'Z; (try k_lt l1Z); (try dsimp only); (try k_lift B'Z); (try k_fold); refine name_A ?_; intro aA8; have hN8 := True.intro; have hO8 := True.intro) | (kp_kind "both"; refine' kp_both ?k1 ?k2 ?k3 ?k4 ?k5 ?zqkA ?zqkF ?kK ?zqk6 ?zqk7 ?zqk8 ?zqkV ?zqkX ?zqkQ ?zqkM ?zqkN ?zqkD ?zqkR ?zqkP ?zqkS ?zqkT ?zqkB ?_ ?zqc2 ?zqc3 ?zqc4 ?zqc5; (case zqkA | zqkF => exact rfl); (case kK => assumption); (case k1 | k2 => k_asm); (case k3 | k4 | k5 => k_asm); (case zqk6 | zqk7 => k_is); (case zqk8 => k_room); (case zqkV | zqkX => kp_lit); (case zqkQ | zqkM | zqkN => exact rfl); (case zqkD => kp_flats); (case zqkR | zqkP => exact rfl); (case zqkS => exact fun _ => rfl); (case zqkT => exact fun _ _ => rfl); (case zqkB => exact fun _ _ => locs rfl); (case zqc5 => decide); (case zqc2 | zqc3 | zqc4 => exact rfl); k_whole; intro C'Z D'Z o'Z g'Z L'Z h'Z tk'Z l1Z l2Z lo'Z hs'Z fs'Z FG'Z F'Z N'Z B'Z X'Z T'Z; (try k_lt l1Z); (try k_lt2 l2Z); (try dsimp only); (try k_lift B'Z); (try k_fold); refine name_A ?_; intro aA8; have hN8 := True.intro; have hO8 := True.intro))
      repeat' (first | (k_unfold; (try dsimp only)) | (k_end; (with_reducible refine hN8 _ _ ?_); intro kN8; clear hN8 hO8; (try clear qN8); first | with_reducible refine execs_one ?_ | (refine execs_more ?_; intro qN8 hN8 hO8)) | (k_end; (with_reducible refine hO8 _ _ ?zn8 ?_); (case zn8 => first | exact ne_ret _ | exact ne_brk | exact ne_cont); clear hN8 hO8; (try clear qN8)) | (k_end; wrow_close) | ((with_reducible show wpAny _ _ (call _ _ _) _ _ _); (first | (k_here; (with_reducible show wpAny _ _ (call (Value.ref 683) _) _ _ _); refine stop_in ?_) | (k_here; (with_reducible show wpAny _ _ (call (Value.ref 676) _) _ _ _); refine stop_in ?_) | (k_here; (with_reducible show wpAny _ _ (call (Value.ref 690) _) _ _ _); first | (k_dflt (refine' token_some ?zqhg ?zqa1 ?zqa2 ?zqa3 ?zqa4 ?zqa5 ?zqa6 ?zqa7 ?zqa8 ?zqa9 ?zqaE ?k1 ?k2 ?k3 ?k4 ?k5 ?kK ?kd ?ku ?_; (case zqhg => assumption); tb_rel; (case zqa1 | zqa2 => k_all); (case zqa3 | zqa4 => assumption); (case zqa5 | zqa6 => assumption); (case zqa7 | zqa8 => assumption); (case zqa9 | zqaE => assumption); intro k9Z t9Z tl9Z tt9Z tp9Z ts9Z h9Z tk9Z hk9Z hd9Z F9Z N9Z; (try dsimp only); (try k_fold))) | (k_dflt (refine' token_none ?zqhg ?zqa1 ?zqa2 ?zqa3 ?zqa4 ?zqa5 ?zqa6 ?zqa7 ?zqa8 ?zqa9 ?zqaE ?k1 ?k2 ?k3 ?k4 ?k5 ?kK ?kd ?ku ?_; (case zqhg => assumption); tb_rel; (case zqa1 | zqa2 => k_all); (case zqa3 | zqa4 => assumption); (case zqa5 | zqa6 => assumption); (case zqa7 | zqa8 => assumption); (case zqa9 | zqaE => assumption); intro tl9Z tt9Z tp9Z h9Z tk9Z F9Z N9Z; (try dsimp only); (try k_fold)))) | (k_here; (with_reducible show wpAny _ _ (call (Value.builtin "len") [Value.ref _]) _ _ _); k_dflt (refine' dq_len ?k1 ?k2 ?k3 ?_; (case k1 => k_asm); (case k2 => k_mem); (case k3 => first | assumption | omega | (simp only [List.length_cons, List.length_nil] at *; omega)); k_whole)) | ((with_reducible show wpAny _ _ (call (Value.builtin "collections.deque.popleft") _ _) _ _ _); (k_here; k_dflt (refine' dq_popleft ?k1 ?k2 ?k3 ?k4 ?_; (case k1 | k2 => k_asm); (case k3 => k_upd); (case k4 => first | assumption | omega | (simp only [List.length_cons, List.length_nil] at *; omega)); k_whole); intro h'Z F'Z N'Z; (try k_sweep))) | ((with_reducible show wpAny _ _ (call (Value.builtin "collections.deque.appendleft") _ _) _ _ _); (k_here; k_dflt (refine' dq_appendleft ?k1 ?k2 ?k3 ?k4 ?_; (case k1 | k2 => k_asm); (case k3 => k_upd); (case k4 => first | assumption | omega | (simp only [List.length_cons, List.length_nil] at *; omega)); k_whole); intro h'Z F'Z N'Z; (try k_sweep))) | ((with_reducible show wpAny _ _ (call (Value.type "collections.deque") _ _) _ _ _); (k_here; k_dflt (refine' dq_new ?k1 ?k2 ?_; (case k1 | k2 => k_asm); k_whole); intro D'Z h'Z F'Z N'Z l1Z; (try k_lt l1Z); (try k_sweep))))) | ((with_reducible show wpAny _ _ (exec _ _) _ _ _); (first | ((with_reducible show wpAny _ _ (exec (Stmt.While (Expr.Compare _ _ _ _) _ _ _) _) _ _ _); (k_here; k_dflt (refine whl_start 100 ?_))) | ((with_reducible show wpAny _ _ (exec (Stmt.While (Expr.Compare _ _ _ _) _ _ _) _) _ _ _); (k_here; refine stop_in ?_)) | ((with_reducible show wpAny _ _ (exec (Stmt.While (Expr.Constant _ _ _) _ _ _) _) _ _ _); (k_here; refine stop_in ?_)) | ((with_reducible show wpAny _ _ (exec (Stmt.If _ _ _ _) _) _ _ _); (k_here; refine wpAny_If ?_)))) | ((with_reducible show wpAny _ _ (truthy _) _ _ _); (first | ((with_reducible show wpAny _ _ (truthy (Value.ref _)) _ _ _); (k_here; k_dflt (refine' dq_truthy ?k1 ?k2 ?k3 ?_; (case k1 => k_asm); (case k2 => k_mem); (case k3 => first | assumption | omega | (simp only [List.length_cons, List.length_nil] at *; omega)); k_whole))) | (k_here; (with_reducible show wpAny _ _ (truthy (Value.str _ _)) _ _ _); refine truthy_long (by assumption) (by omega) ?_; intro _))) | ((with_reducible show wpAny _ _ (getMethod _ _ _) _ _ _); (first | (k_here; (with_reducible show wpAny _ _ (getMethod (Value.ref _) (Str.ofString "popleft") _) _ _ _); k_dflt (refine' dq_meth dq_slot_pl dq_type_pl ?k1 ?k2 ?_; (case k1 => k_asm); (case k2 => k_mem); k_whole)) | (k_here; (with_reducible show wpAny _ _ (getMethod (Value.ref _) (Str.ofString "appendleft") _) _ _ _); k_dflt (refine' dq_meth dq_slot_al dq_type_al ?k1 ?k2 ?_; (case k1 => k_asm); (case k2 => k_mem); k_whole)))) | (k_here; (with_reducible show wpAny _ _ (compareOp CmpOp.In (Value.str _ _) (Value.str _ _)) _ _ _); first | (refine in_known (b := false) (by assumption) ?_) | (refine in_known (b := true) (by assumption) ?_) | (refine in_known (b := false) (by decide +kernel) ?_) | (refine in_known (b := true) (by decide +kernel) ?_)) | ((with_reducible show wpAny _ _ (execs _ _) _ _ _); (first | ((with_reducible show wpAny _ _ (execs [] _) _ _ _); (k_here; refine wpAny_execs_nil ?_)) | ((with_reducible show wpAny _ _ (execs (_ :: _) _) _ _ _); (k_here; (try dsimp only); (try k_fold); first | with_reducible refine execs_one ?_ | (refine execs_more ?_; intro qN8 hN8 hO8))))) | walk1 | ((with_reducible show wpAny _ _ _ _ _ _); dsimp only) | (leave1; walk_say "STEP leave1"; try dsimp only) | fail "no step")
      refine hret _ _ _ _ (by assumption) (by assumption) ?_
      unfold GetPost
      rw [show nextTok ⟨inf, ti, S, DS, sc, buf, k, tp, line, tl⟩ ((T, ⟨inf', ti', S', DS', sc', buf', k', tp', line', tl'⟩) :: r) = some (wd, rest, ⟨inf, ti, S, DS, sc, buf, k, tp, line, tl⟩, (T, ⟨inf', ti', S', DS', sc', buf', k', tp', line', tl'⟩) :: r) by simp only [nextTok, Fm.left, hg]]
      exact ⟨_, _, _, _, _, _, _, rfl, by assumption, by assumption, by rw [hR2]⟩
    | none =>
      have o : ∀ p ∈ stkLed w r ++ R, p.1 ≠ D ∧ p.1 ≠ DS ∧ p.1 ≠ c.fs := by
        intro p hp
        rcases List.mem_append.mp hp with hp | hp
        · have h := stk_sub p hp
          exact ⟨fun e => g6 (e ▸ h), fun e => j4 (e ▸ h), fun e => d9 (e ▸ h)⟩
        · exact ⟨(off p hp).2.2.2.1, (off p hp).2.2.2.2.2.1, (off p hp).1⟩
      have ih := get_says w X D c R r ⟨inf', ti', S', DS', sc', buf', k', tp', line', tl'⟩
      unfold Says
      k_fill
      intro dp un gd cn cs a ccd cl outer A₀ base h₀ L m s p loose mean mg mb Q E B F KX N T0 hk hd hu hret
      simp only [getLed, stkLed, List.cons_append, List.map_cons, List.length_cons] at N hret hd hu
      refine named (stkLed w r ++ R) ?_
      intro R2 hR2
      refine named (r.map fun p => Value.ref p.1) ?_
      intro xs hxs
      rw [← hR2] at N o
      rw [← hxs] at N lx
      have o1 : ∀ p ∈ R2, p.1 ≠ D := fun p hp => (o p hp).1
      have o2 : ∀ p ∈ R2, p.1 ≠ DS := fun p hp => (o p hp).2.1
      have q1 : T ≠ D := Ne.symm g3
      have q2 : T ≠ DS := Ne.symm j1
      have q3 : S' ≠ D := Ne.symm g4
      have q4 : S' ≠ DS := Ne.symm j2
      have q5 : DS' ≠ D := Ne.symm g5
      have q6 : DS' ≠ DS := Ne.symm j3
      have lx2 : xs.length ≤ 1000 := by omega
      refine wpAny_call ?_
      k_dflt (first | (refine' code_def ?k1 ?k2 ?k3 ?k4 ?k5 ?zqkA ?zqkF ?kK ?zqk6 ?zqk7 ?zqk8 ?zqk9 ?zqkB ?_ ?zqc2 ?zqc3 ?zqc4 ?zqc5; (case zqkA | zqkF => exact rfl); (case kK => assumption); (case k1 | k2 => k_asm); (case k3 | k4 | k5 => k_asm); (case zqk6 | zqk7 => k_is); (case zqk8 => k_room); (case zqk9 => first | exact BindsTo.of_eq rfl | exact binds_K (by k_in) rfl (by k_is) rfl rfl rfl | fail); (case zqc5 => decide); (case zqkB => exact locs rfl); (case zqc2 | zqc3 | zqc4 => exact rfl); k_whole; intro g'Z L'Z h'Z FG'Z F'Z N'Z B'Z X'Z T'Z; (try dsimp only); (try k_lift B'Z); (try k_fold); refine name_A ?_; intro aA8; have hN8 := True.intro; have hO8 := True.intro) | (kp_kind "rest"; refine' kp_rest ?k1 ?k2 ?k3 ?k4 ?k5 ?zqkA ?zqkF ?kK ?zqk6 ?zqk7 ?zqk8 ?zqkV ?zqkP ?zqkG ?zqkB ?_ ?zqc2 ?zqc3 ?zqc4 ?zqc5; (case zqkA | zqkF => exact rfl); (case kK => assumption); (case k1 | k2 => k_asm); (case k3 | k4 | k5 => k_asm); (case zqk6 | zqk7 => k_is); (case zqk8 => k_room); (case zqkV | zqkP => exact rfl); (case zqkG => exact fun _ => rfl); (case zqkB => exact fun _ => locs rfl); (case zqc5 => decide); (case zqc2 | zqc3 | zqc4 => exact rfl); k_whole; intro D'Z g'Z L'Z h'Z l1Z FG'Z F'Z N'Z B'Z X'Z T'Z; (try k_lt l1Z); (try dsimp only); (try k_lift B'Z); (try k_fold); refine name_A ?_; intro aA8; have hN8 := True.intro; have hO8 := True.intro) | (kp_kind "both"; refine' kp_both ?k1 ?k2 ?k3 ?k4 ?k5 ?zqkA ?zqkF ?kK ?zqk6 ?zqk7 ?zqk8 ?zqkV ?zqkX ?zqkQ ?zqkM ?zqkN ?zqkD ?zqkR ?zqkP ?zqkS ?zqkT ?zqkB ?_ ?zqc2 ?zqc3 ?zqc4 ?zqc5; (case zqkA | zqkF => exact rfl); (case kK => assumption); (case k1 | k2 => k_asm); (case k3 | k4 | k5 => k_asm); (case zqk6 | zqk7 => k_is); (case zqk8 => k_room); (case zqkV | zqkX => kp_lit); (case zqkQ | zqkM | zqkN => exact rfl); (case zqkD => kp_flats); (case zqkR | zqkP => exact rfl); (case zqkS => exact fun _ => rfl); (case zqkT => exact fun _ _ => rfl); (case zqkB => exact fun _ _ => locs rfl); (case zqc5 => decide); (case zqc2 | zqc3 | zqc4 => exact rfl); k_whole; intro C'Z D'Z o'Z g'Z L'Z h'Z tk'Z l1Z l2Z lo'Z hs'Z fs'Z FG'Z F'Z N'Z B'Z X'Z T'Z; (try k_lt l1Z); (try k_lt2 l2Z); (try dsimp only); (try k_lift B'Z); (try k_fold); refine name_A ?_; intro aA8; have hN8 := True.intro; have hO8 := True.intro))
      repeat' (first | (k_unfold; (try dsimp only)) | (k_end; (with_reducible refine hN8 _ _ ?_); intro kN8; clear hN8 hO8; (try clear qN8); first | with_reducible refine execs_one ?_ | (refine execs_more ?_; intro qN8 hN8 hO8)) | (k_end; (with_reducible refine hO8 _ _ ?zn8 ?_); (case zn8 => first | exact ne_ret _ | exact ne_brk | exact ne_cont); clear hN8 hO8; (try clear qN8)) | (k_end; wrow_close) | ((with_reducible show wpAny _ _ (call _ _ _) _ _ _); (first | (k_here; (with_reducible show wpAny _ _ (call (Value.ref 683) _) _ _ _); refine stop_in ?_) | (k_here; (with_reducible show wpAny _ _ (call (Value.ref 676) _) _ _ _); refine stop_in ?_) | (k_here; (with_reducible show wpAny _ _ (call (Value.ref 690) _) _ _ _); first | (k_dflt (refine' token_some ?zqhg ?zqa1 ?zqa2 ?zqa3 ?zqa4 ?zqa5 ?zqa6 ?zqa7 ?zqa8 ?zqa9 ?zqaE ?k1 ?k2 ?k3 ?k4 ?k5 ?kK ?kd ?ku ?_; (case zqhg => assumption); tb_rel; (case zqa1 | zqa2 => k_all); (case zqa3 | zqa4 => assumption); (case zqa5 | zqa6 => assumption); (case zqa7 | zqa8 => assumption); (case zqa9 | zqaE => assumption); intro k9Z t9Z tl9Z tt9Z tp9Z ts9Z h9Z tk9Z hk9Z hd9Z F9Z N9Z; (try dsimp only); (try k_fold))) | (k_dflt (refine' token_none ?zqhg ?zqa1 ?zqa2 ?zqa3 ?zqa4 ?zqa5 ?zqa6 ?zqa7 ?zqa8 ?zqa9 ?zqaE ?k1 ?k2 ?k3 ?k4 ?k5 ?kK ?kd ?ku ?_; (case zqhg => assumption); tb_rel; (case zqa1 | zqa2 => k_all); (case zqa3 | zqa4 => assumption); (case zqa5 | zqa6 => assumption); (case zqa7 | zqa8 => assumption); (case zqa9 | zqaE => assumption); intro tl9Z tt9Z tp9Z h9Z tk9Z F9Z N9Z; (try dsimp only); (try k_fold)))) | (k_here; (with_reducible show wpAny _ _ (call (Value.builtin "len") [Value.ref _]) _ _ _); k_dflt (refine' dq_len ?k1 ?k2 ?k3 ?_; (case k1 => k_asm); (case k2 => k_mem); (case k3 => first | assumption | omega | (simp only [List.length_cons, List.length_nil] at *; omega)); k_whole)) | ((with_reducible show wpAny _ _ (call (Value.builtin "collections.deque.popleft") _ _) _ _ _); (k_here; k_dflt (refine' dq_popleft ?k1 ?k2 ?k3 ?k4 ?_; (case k1 | k2 => k_asm); (case k3 => k_upd); (case k4 => first | assumption | omega | (simp only [List.length_cons, List.length_nil] at *; omega)); k_whole); intro h'Z F'Z N'Z; (try k_sweep))) | ((with_reducible show wpAny _ _ (call (Value.builtin "collections.deque.appendleft") _ _) _ _ _); (k_here; k_dflt (refine' dq_appendleft ?k1 ?k2 ?k3 ?k4 ?_; (case k1 | k2 => k_asm); (case k3 => k_upd); (case k4 => first | assumption | omega | (simp only [List.length_cons, List.length_nil] at *; omega)); k_whole); intro h'Z F'Z N'Z; (try k_sweep))) | ((with_reducible show wpAny _ _ (call (Value.type "collections.deque") _ _) _ _ _); (k_here; k_dflt (refine' dq_new ?k1 ?k2 ?_; (case k1 | k2 => k_asm); k_whole); intro D'Z h'Z F'Z N'Z l1Z; (try k_lt l1Z); (try k_sweep))))) | ((with_reducible show wpAny _ _ (exec _ _) _ _ _); (first | ((with_reducible show wpAny _ _ (exec (Stmt.While (Expr.Compare _ _ _ _) _ _ _) _) _ _ _); (k_here; k_dflt (refine whl_start 100 ?_))) | ((with_reducible show wpAny _ _ (exec (Stmt.While (Expr.Compare _ _ _ _) _ _ _) _) _ _ _); (k_here; refine stop_in ?_)) | ((with_reducible show wpAny _ _ (exec (Stmt.While (Expr.Constant _ _ _) _ _ _) _) _ _ _); (k_here; refine stop_in ?_)) | ((with_reducible show wpAny _ _ (exec (Stmt.If _ _ _ _) _) _ _ _); (k_here; refine wpAny_If ?_)))) | ((with_reducible show wpAny _ _ (truthy _) _ _ _); (first | ((with_reducible show wpAny _ _ (truthy (Value.ref _)) _ _ _); (k_here; k_dflt (refine' dq_truthy ?k1 ?k2 ?k3 ?_; (case k1 => k_asm); (case k2 => k_mem); (case k3 => first | assumption | omega | (simp only [List.length_cons, List.length_nil] at *; omega)); k_whole))) | (k_here; (with_reducible show wpAny _ _ (truthy (Value.str _ _)) _ _ _); refine truthy_long (by assumption) (by omega) ?_; intro _))) | ((with_reducible show wpAny _ _ (getMethod _ _ _) _ _ _); (first | (k_here; (with_reducible show wpAny _ _ (getMethod (Value.ref _) (Str.ofString "popleft") _) _ _ _); k_dflt (refine' dq_meth dq_slot_pl dq_type_pl ?k1 ?k2 ?_; (case k1 => k_asm); (case k2 => k_mem); k_whole)) | (k_here; (with_reducible show wpAny _ _ (getMethod (Value.ref _) (Str.ofString "appendleft") _) _ _ _); k_dflt (refine' dq_meth dq_slot_al dq_type_al ?k1 ?k2 ?_; (case k1 => k_asm); (case k2 => k_mem); k_whole)))) | (k_here; (with_reducible show wpAny _ _ (compareOp CmpOp.In (Value.str _ _) (Value.str _ _)) _ _ _); first | (refine in_known (b := false) (by assumption) ?_) | (refine in_known (b := true) (by assumption) ?_) | (refine in_known (b := false) (by decide +kernel) ?_) | (refine in_known (b := true) (by decide +kernel) ?_)) | ((with_reducible show wpAny _ _ (execs _ _) _ _ _); (first | ((with_reducible show wpAny _ _ (execs [] _) _ _ _); (k_here; refine wpAny_execs_nil ?_)) | ((with_reducible show wpAny _ _ (execs (_ :: _) _) _ _ _); (k_here; (try dsimp only); (try k_fold); first | with_reducible refine execs_one ?_ | (refine execs_more ?_; intro qN8 hN8 hO8))))) | walk1 | ((with_reducible show wpAny _ _ _ _ _ _); dsimp only) | (leave1; walk_say "STEP leave1"; try dsimp only) | fail "no step")
      · unfold Stop
        k_dflt (refine' pop_use ?a1 ?a2 ?a3 ?b1 ?b2 ?b3 ?b4 ?b5 ?b6 ?b7 ?b8 ?b9 ?c1 ?c2 ?c3 ?c4 ?k1 ?k2 ?k3 ?k4 ?k5 ?kK ?kd ?ku ?_)
        tb_rel
        (case a1 => exact all4 e2 q3 q5 o1)
        (case a2 => exact all4 (Ne.symm d1) (Ne.symm d7) (Ne.symm d8) (fun p hp => (o p hp).2.2))
        (case a3 => exact all4 e4 q4 q6 o2)
        (case b1 => assumption)
        (case b2 => assumption)
        (case b3 => assumption)
        (case b4 => assumption)
        (case b5 => assumption)
        (case b6 => assumption)
        (case b7 => assumption)
        (case b8 => assumption)
        (case b9 => exact Ne.symm d4)
        (case c1 => assumption)
        (case c2 => exact Ne.symm d6)
        (case c3 => assumption)
        (case c4 => assumption)
        intro ts1 h1 tk1 F1 N1
        repeat' (first | (k_unfold; (try dsimp only)) | (k_end; (with_reducible refine hN8 _ _ ?_); intro kN8; clear hN8 hO8; (try clear qN8); first | with_reducible refine execs_one ?_ | (refine execs_more ?_; intro qN8 hN8 hO8)) | (k_end; (with_reducible refine hO8 _ _ ?zn8 ?_); (case zn8 => first | exact ne_ret _ | exact ne_brk | exact ne_cont); clear hN8 hO8; (try clear qN8)) | (k_end; wrow_close) | ((with_reducible show wpAny _ _ (call _ _ _) _ _ _); (first | (k_here; (with_reducible show wpAny _ _ (call (Value.ref 683) _) _ _ _); refine stop_in ?_) | (k_here; (with_reducible show wpAny _ _ (call (Value.ref 676) _) _ _ _); refine stop_in ?_) | (k_here; (with_reducible show wpAny _ _ (call (Value.ref 690) _) _ _ _); first | (k_dflt (refine' token_some ?zqhg ?zqa1 ?zqa2 ?zqa3 ?zqa4 ?zqa5 ?zqa6 ?zqa7 ?zqa8 ?zqa9 ?zqaE ?k1 ?k2 ?k3 ?k4 ?k5 ?kK ?kd ?ku ?_; (case zqhg => assumption); tb_rel; (case zqa1 | zqa2 => k_all); (case zqa3 | zqa4 => assumption); (case zqa5 | zqa6 => assumption); (case zqa7 | zqa8 => assumption); (case zqa9 | zqaE => assumption); intro k9Z t9Z tl9Z tt9Z tp9Z ts9Z h9Z tk9Z hk9Z hd9Z F9Z N9Z; (try dsimp only); (try k_fold))) | (k_dflt (refine' token_none ?zqhg ?zqa1 ?zqa2 ?zqa3 ?zqa4 ?zqa5 ?zqa6 ?zqa7 ?zqa8 ?zqa9 ?zqaE ?k1 ?k2 ?k3 ?k4 ?k5 ?kK ?kd ?ku ?_; (case zqhg => assumption); tb_rel; (case zqa1 | zqa2 => k_all); (case zqa3 | zqa4 => assumption); (case zqa5 | zqa6 => assumption); (case zqa7 | zqa8 => assumption); (case zqa9 | zqaE => assumption); intro tl9Z tt9Z tp9Z h9Z tk9Z F9Z N9Z; (try dsimp only); (try k_fold)))) | (k_here; (with_reducible show wpAny _ _ (call (Value.builtin "len") [Value.ref _]) _ _ _); k_dflt (refine' dq_len ?k1 ?k2 ?k3 ?_; (case k1 => k_asm); (case k2 => k_mem); (case k3 => first | assumption | omega | (simp only [List.length_cons, List.length_nil] at *; omega)); k_whole)) | ((with_reducible show wpAny _ _ (call (Value.builtin "collections.deque.popleft") _ _) _ _ _); (k_here; k_dflt (refine' dq_popleft ?k1 ?k2 ?k3 ?k4 ?_; (case k1 | k2 => k_asm); (case k3 => k_upd); (case k4 => first | assumption | omega | (simp only [List.length_cons, List.length_nil] at *; omega)); k_whole); intro h'Z F'Z N'Z; (try k_sweep))) | ((with_reducible show wpAny _ _ (call (Value.builtin "collections.deque.appendleft") _ _) _ _ _); (k_here; k_dflt (refine' dq_appendleft ?k1 ?k2 ?k3 ?k4 ?_; (case k1 | k2 => k_asm); (case k3 => k_upd); (case k4 => first | assumption | omega | (simp only [List.length_cons, List.length_nil] at *; omega)); k_whole); intro h'Z F'Z N'Z; (try k_sweep))) | ((with_reducible show wpAny _ _ (call (Value.type "collections.deque") _ _) _ _ _); (k_here; k_dflt (refine' dq_new ?k1 ?k2 ?_; (case k1 | k2 => k_asm); k_whole); intro D'Z h'Z F'Z N'Z l1Z; (try k_lt l1Z); (try k_sweep))))) | ((with_reducible show wpAny _ _ (exec _ _) _ _ _); (first | ((with_reducible show wpAny _ _ (exec (Stmt.While (Expr.Compare _ _ _ _) _ _ _) _) _ _ _); (k_here; k_dflt (refine whl_start 100 ?_))) | ((with_reducible show wpAny _ _ (exec (Stmt.While (Expr.Compare _ _ _ _) _ _ _) _) _ _ _); (k_here; refine stop_in ?_)) | ((with_reducible show wpAny _ _ (exec (Stmt.While (Expr.Constant _ _ _) _ _ _) _) _ _ _); (k_here; refine stop_in ?_)) | ((with_reducible show wpAny _ _ (exec (Stmt.If _ _ _ _) _) _ _ _); (k_here; refine wpAny_If ?_)))) | ((with_reducible show wpAny _ _ (truthy _) _ _ _); (first | ((with_reducible show wpAny _ _ (truthy (Value.ref _)) _ _ _); (k_here; k_dflt (refine' dq_truthy ?k1 ?k2 ?k3 ?_; (case k1 => k_asm); (case k2 => k_mem); (case k3 => first | assumption | omega | (simp only [List.length_cons, List.length_nil] at *; omega)); k_whole))) | (k_here; (with_reducible show wpAny _ _ (truthy (Value.str _ _)) _ _ _); refine truthy_long (by assumption) (by omega) ?_; intro _))) | ((with_reducible show wpAny _ _ (getMethod _ _ _) _ _ _); (first | (k_here; (with_reducible show wpAny _ _ (getMethod (Value.ref _) (Str.ofString "popleft") _) _ _ _); k_dflt (refine' dq_meth dq_slot_pl dq_type_pl ?k1 ?k2 ?_; (case k1 => k_asm); (case k2 => k_mem); k_whole)) | (k_here; (with_reducible show wpAny _ _ (getMethod (Value.ref _) (Str.ofString "appendleft") _) _ _ _); k_dflt (refine' dq_meth dq_slot_al dq_type_al ?k1 ?k2 ?_; (case k1 => k_asm); (case k2 => k_mem); k_whole)))) | (k_here; (with_reducible show wpAny _ _ (compareOp CmpOp.In (Value.str _ _) (Value.str _ _)) _ _ _); first | (refine in_known (b := false) (by assumption) ?_) | (refine in_known (b := true) (by assumption) ?_) | (refine in_known (b := false) (by decide +kernel) ?_) | (refine in_known (b := true) (by decide +kernel) ?_)) | ((with_reducible show wpAny _ _ (execs _ _) _ _ _); (first | ((with_reducible show wpAny _ _ (execs [] _) _ _ _); (k_here; refine wpAny_execs_nil ?_)) | ((with_reducible show wpAny _ _ (execs (_ :: _) _) _ _ _); (k_here; (try dsimp only); (try k_fold); first | with_reducible refine execs_one ?_ | (refine execs_more ?_; intro qN8 hN8 hO8))))) | walk1 | ((with_reducible show wpAny _ _ _ _ _ _); dsimp only) | (leave1; walk_say "STEP leave1"; try dsimp only) | fail "no step")
        unfold Stop
        subst hR2
        subst hxs
        have ap' : Apart X D c ⟨inf', ti', S', DS', sc', buf', k', tp', line', tl'⟩ r R := by
          refine ⟨?_, fun p hp => ?_⟩
          · simp only [List.nodup_cons, List.mem_cons, not_or]
            exact ⟨⟨d1, d2, d3, d7, d8, d9⟩, ⟨e1, e2, e6, e7, e8⟩, ⟨f1, f5, f6, f7⟩, ⟨g4, g5, g6⟩, ⟨m1, m2⟩, m3, nr⟩
          · have h := off p hp
            simp only [List.mem_cons, not_or]
            exact ⟨h.1, h.2.1, h.2.2.1, h.2.2.2.1, h.2.2.2.2.2.2.2.1, h.2.2.2.2.2.2.2.2.1, h.2.2.2.2.2.2.2.2.2⟩
        k_dflt (refine' says_use (ih ts1 ?tt (q + 1) okg (fun p hp => oks p (.tail _ hp)) ap' (by omega)) ?k1 ?k2 ?k3 ?k4 ?k5 ?kK ?kd ?ku ?_)
        (case k4 => exact N1)
        (case k1 => k_asm)
        (case k2 => k_asm)
        (case k3 => k_asm)
        (case k5 => k_asm)
        (case kK => first | exact rfl | assumption)
        (case kd => k_room)
        (case ku => k_units)
        intro r2 news2 h2 tk2 F2 N2 hp
        unfold GetPost at hp
        cases hn : nextTok ⟨inf', ti', S', DS', sc', buf', k', tp', line', tl'⟩ r with
        | none =>
          rw [hn] at hp
          obtain ⟨rfl, S9, inf9, ti9, line9, tl9, tt9, q9, rfl⟩ := hp
          repeat' (first | (k_unfold; (try dsimp only)) | (k_end; (with_reducible refine hN8 _ _ ?_); intro kN8; clear hN8 hO8; (try clear qN8); first | with_reducible refine execs_one ?_ | (refine execs_more ?_; intro qN8 hN8 hO8)) | (k_end; (with_reducible refine hO8 _ _ ?zn8 ?_); (case zn8 => first | exact ne_ret _ | exact ne_brk | exact ne_cont); clear hN8 hO8; (try clear qN8)) | (k_end; wrow_close) | ((with_reducible show wpAny _ _ (call _ _ _) _ _ _); (first | (k_here; (with_reducible show wpAny _ _ (call (Value.ref 683) _) _ _ _); refine stop_in ?_) | (k_here; (with_reducible show wpAny _ _ (call (Value.ref 676) _) _ _ _); refine stop_in ?_) | (k_here; (with_reducible show wpAny _ _ (call (Value.ref 690) _) _ _ _); first | (k_dflt (refine' token_some ?zqhg ?zqa1 ?zqa2 ?zqa3 ?zqa4 ?zqa5 ?zqa6 ?zqa7 ?zqa8 ?zqa9 ?zqaE ?k1 ?k2 ?k3 ?k4 ?k5 ?kK ?kd ?ku ?_; (case zqhg => assumption); tb_rel; (case zqa1 | zqa2 => k_all); (case zqa3 | zqa4 => assumption); (case zqa5 | zqa6 => assumption); (case zqa7 | zqa8 => assumption); (case zqa9 | zqaE => assumption); intro k9Z t9Z tl9Z tt9Z tp9Z ts9Z h9Z tk9Z hk9Z hd9Z F9Z N9Z; (try dsimp only); (try k_fold))) | (k_dflt (refine' token_none ?zqhg ?zqa1 ?zqa2 ?zqa3 ?zqa4 ?zqa5 ?zqa6 ?zqa7 ?zqa8 ?zqa9 ?zqaE ?k1 ?k2 ?k3 ?k4 ?k5 ?kK ?kd ?ku ?_; (case zqhg => assumption); tb_rel; (case zqa1 | zqa2 => k_all); (case zqa3 | zqa4 => assumption); (case zqa5 | zqa6 => assumption); (case zqa7 | zqa8 => assumption); (case zqa9 | zqaE => assumption); intro tl9Z tt9Z tp9Z h9Z tk9Z F9Z N9Z; (try dsimp only); (try k_fold)))) | (k_here; (with_reducible show wpAny _ _ (call (Value.builtin "len") [Value.ref _]) _ _ _); k_dflt (refine' dq_len ?k1 ?k2 ?k3 ?_; (case k1 => k_asm); (case k2 => k_mem); (case k3 => first | assumption | omega | (simp only [List.length_cons, List.length_nil] at *; omega)); k_whole)) | ((with_reducible show wpAny _ _ (call (Value.builtin "collections.deque.popleft") _ _) _ _ _); (k_here; k_dflt (refine' dq_popleft ?k1 ?k2 ?k3 ?k4 ?_; (case k1 | k2 => k_asm); (case k3 => k_upd); (case k4 => first | assumption | omega | (simp only [List.length_cons, List.length_nil] at *; omega)); k_whole); intro h'Z F'Z N'Z; (try k_sweep))) | ((with_reducible show wpAny _ _ (call (Value.builtin "collections.deque.appendleft") _ _) _ _ _); (k_here; k_dflt (refine' dq_appendleft ?k1 ?k2 ?k3 ?k4 ?_; (case k1 | k2 => k_asm); (case k3 => k_upd); (case k4 => first | assumption | omega | (simp only [List.length_cons, List.length_nil] at *; omega)); k_whole); intro h'Z F'Z N'Z; (try k_sweep))) | ((with_reducible show wpAny _ _ (call (Value.type "collections.deque") _ _) _ _ _); (k_here; k_dflt (refine' dq_new ?k1 ?k2 ?_; (case k1 | k2 => k_asm); k_whole); intro D'Z h'Z F'Z N'Z l1Z; (try k_lt l1Z); (try k_sweep))))) | ((with_reducible show wpAny _ _ (exec _ _) _ _ _); (first | ((with_reducible show wpAny _ _ (exec (Stmt.While (Expr.Compare _ _ _ _) _ _ _) _) _ _ _); (k_here; k_dflt (refine whl_start 100 ?_))) | ((with_reducible show wpAny _ _ (exec (Stmt.While (Expr.Compare _ _ _ _) _ _ _) _) _ _ _); (k_here; refine stop_in ?_)) | ((with_reducible show wpAny _ _ (exec (Stmt.While (Expr.Constant _ _ _) _ _ _) _) _ _ _); (k_here; refine stop_in ?_)) | ((with_reducible show wpAny _ _ (exec (Stmt.If _ _ _ _) _) _ _ _); (k_here; refine wpAny_If ?_)))) | ((with_reducible show wpAny _ _ (truthy _) _ _ _); (first | ((with_reducible show wpAny _ _ (truthy (Value.ref _)) _ _ _); (k_here; k_dflt (refine' dq_truthy ?k1 ?k2 ?k3 ?_; (case k1 => k_asm); (case k2 => k_mem); (case k3 => first | assumption | omega | (simp only [List.length_cons, List.length_nil] at *; omega)); k_whole))) | (k_here; (with_reducible show wpAny _ _ (truthy (Value.str _ _)) _ _ _); refine truthy_long (by assumption) (by omega) ?_; intro _))) | ((with_reducible show wpAny _ _ (getMethod _ _ _) _ _ _); (first | (k_here; (with_reducible show wpAny _ _ (getMethod (Value.ref _) (Str.ofString "popleft") _) _ _ _); k_dflt (refine' dq_meth dq_slot_pl dq_type_pl ?k1 ?k2 ?_; (case k1 => k_asm); (case k2 => k_mem); k_whole)) | (k_here; (with_reducible show wpAny _ _ (getMethod (Value.ref _) (Str.ofString "appendleft") _) _ _ _); k_dflt (refine' dq_meth dq_slot_al dq_type_al ?k1 ?k2 ?_; (case k1 => k_asm); (case k2 => k_mem); k_whole)))) | (k_here; (with_reducible show wpAny _ _ (compareOp CmpOp.In (Value.str _ _) (Value.str _ _)) _ _ _); first | (refine in_known (b := false) (by assumption) ?_) | (refine in_known (b := true) (by assumption) ?_) | (refine in_known (b := false) (by decide +kernel) ?_) | (refine in_known (b := true) (by decide +kernel) ?_)) | ((with_reducible show wpAny _ _ (execs _ _) _ _ _); (first | ((with_reducible show wpAny _ _ (execs [] _) _ _ _); (k_here; refine wpAny_execs_nil ?_)) | ((with_reducible show wpAny _ _ (execs (_ :: _) _) _ _ _); (k_here; (try dsimp only); (try k_fold); first | with_reducible refine execs_one ?_ | (refine execs_more ?_; intro qN8 hN8 hO8))))) | walk1 | ((with_reducible show wpAny _ _ _ _ _ _); dsimp only) | (leave1; walk_say "STEP leave1"; try dsimp only) | fail "no step")
          refine hret _ _ _ _ (by assumption) (by assumption) ?_
          unfold GetPost
          rw [show nextTok ⟨inf, ti, S, DS, sc, buf, k, tp, line, tl⟩ ((T, ⟨inf', ti', S', DS', sc', buf', k', tp', line', tl'⟩) :: r) = none by simp only [nextTok, Fm.left, hg, hn]]
          exact ⟨rfl, _, _, _, _, _, _, _, rfl⟩
        | some y =>
          obtain ⟨wd, rest, g9, stk9⟩ := y
          rw [hn] at hp
          obtain ⟨k9, t9, ts9, tl9, tt9, tp9, q9, rfl, hk9, hr9, rfl⟩ := hp
          repeat' (first | (k_unfold; (try dsimp only)) | (k_end; (with_reducible refine hN8 _ _ ?_); intro kN8; clear hN8 hO8; (try clear qN8); first | with_reducible refine execs_one ?_ | (refine execs_more ?_; intro qN8 hN8 hO8)) | (k_end; (with_reducible refine hO8 _ _ ?zn8 ?_); (case zn8 => first | exact ne_ret _ | exact ne_brk | exact ne_cont); clear hN8 hO8; (try clear qN8)) | (k_end; wrow_close) | ((with_reducible show wpAny _ _ (call _ _ _) _ _ _); (first | (k_here; (with_reducible show wpAny _ _ (call (Value.ref 683) _) _ _ _); refine stop_in ?_) | (k_here; (with_reducible show wpAny _ _ (call (Value.ref 676) _) _ _ _); refine stop_in ?_) | (k_here; (with_reducible show wpAny _ _ (call (Value.ref 690) _) _ _ _); first | (k_dflt (refine' token_some ?zqhg ?zqa1 ?zqa2 ?zqa3 ?zqa4 ?zqa5 ?zqa6 ?zqa7 ?zqa8 ?zqa9 ?zqaE ?k1 ?k2 ?k3 ?k4 ?k5 ?kK ?kd ?ku ?_; (case zqhg => assumption); tb_rel; (case zqa1 | zqa2 => k_all); (case zqa3 | zqa4 => assumption); (case zqa5 | zqa6 => assumption); (case zqa7 | zqa8 => assumption); (case zqa9 | zqaE => assumption); intro k9Z t9Z tl9Z tt9Z tp9Z ts9Z h9Z tk9Z hk9Z hd9Z F9Z N9Z; (try dsimp only); (try k_fold))) | (k_dflt (refine' token_none ?zqhg ?zqa1 ?zqa2 ?zqa3 ?zqa4 ?zqa5 ?zqa6 ?zqa7 ?zqa8 ?zqa9 ?zqaE ?k1 ?k2 ?k3 ?k4 ?k5 ?kK ?kd ?ku ?_; (case zqhg => assumption); tb_rel; (case zqa1 | zqa2 => k_all); (case zqa3 | zqa4 => assumption); (case zqa5 | zqa6 => assumption); (case zqa7 | zqa8 => assumption); (case zqa9 | zqaE => assumption); intro tl9Z tt9Z tp9Z h9Z tk9Z F9Z N9Z; (try dsimp only); (try k_fold)))) | (k_here; (with_reducible show wpAny _ _ (call (Value.builtin "len") [Value.ref _]) _ _ _); k_dflt (refine' dq_len ?k1 ?k2 ?k3 ?_; (case k1 => k_asm); (case k2 => k_mem); (case k3 => first | assumption | omega | (simp only [List.length_cons, List.length_nil] at *; omega)); k_whole)) | ((with_reducible show wpAny _ _ (call (Value.builtin "collections.deque.popleft") _ _) _ _ _); (k_here; k_dflt (refine' dq_popleft ?k1 ?k2 ?k3 ?k4 ?_; (case k1 | k2 => k_asm); (case k3 => k_upd); (case k4 => first | assumption | omega | (simp only [List.length_cons, List.length_nil] at *; omega)); k_whole); intro h'Z F'Z N'Z; (try k_sweep))) | ((with_reducible show wpAny _ _ (call (Value.builtin "collections.deque.appendleft") _ _) _ _ _); (k_here; k_dflt (refine' dq_appendleft ?k1 ?k2 ?k3 ?k4 ?_; (case k1 | k2 => k_asm); (case k3 => k_upd); (case k4 => first | assumption | omega | (simp only [List.length_cons, List.length_nil] at *; omega)); k_whole); intro h'Z F'Z N'Z; (try k_sweep))) | ((with_reducible show wpAny _ _ (call (Value.type "collections.deque") _ _) _ _ _); (k_here; k_dflt (refine' dq_new ?k1 ?k2 ?_; (case k1 | k2 => k_asm); k_whole); intro D'Z h'Z F'Z N'Z l1Z; (try k_lt l1Z); (try k_sweep))))) | ((with_reducible show wpAny _ _ (exec _ _) _ _ _); (first | ((with_reducible show wpAny _ _ (exec (Stmt.While (Expr.Compare _ _ _ _) _ _ _) _) _ _ _); (k_here; k_dflt (refine whl_start 100 ?_))) | ((with_reducible show wpAny _ _ (exec (Stmt.While (Expr.Compare _ _ _ _) _ _ _) _) _ _ _); (k_here; refine stop_in ?_)) | ((with_reducible show wpAny _ _ (exec (Stmt.While (Expr.Constant _ _ _) _ _ _) _) _ _ _); (k_here; refine stop_in ?_)) | ((with_reducible show wpAny _ _ (exec (Stmt.If _ _ _ _) _) _ _ _); (k_here; refine wpAny_If ?_)))) | ((with_reducible show wpAny _ _ (truthy _) _ _ _); (first | ((with_reducible show wpAny _ _ (truthy (Value.ref _)) _ _ _); (k_here; k_dflt (refine' dq_truthy ?k1 ?k2 ?k3 ?_; (case k1 => k_asm); (case k2 => k_mem); (case k3 => first | assumption | omega | (simp only [List.length_cons, List.length_nil] at *; omega)); k_whole))) | (k_here; (with_reducible show wpAny _ _ (truthy (Value.str _ _)) _ _ _); refine truthy_long (by assumption) (by omega) ?_; intro _))) | ((with_reducible show wpAny _ _ (getMethod _ _ _) _ _ _); (first | (k_here; (with_reducible show wpAny _ _ (getMethod (Value.ref _) (Str.ofString "popleft") _) _ _ _); k_dflt (refine' dq_meth dq_slot_pl dq_type_pl ?k1 ?k2 ?_; (case k1 => k_asm); (case k2 => k_mem); k_whole)) | (k_here; (with_reducible show wpAny _ _ (getMethod (Value.ref _) (Str.ofString "appendleft") _) _ _ _); k_dflt (refine' dq_meth dq_slot_al dq_type_al ?k1 ?k2 ?_; (case k1 => k_asm); (case k2 => k_mem); k_whole)))) | (k_here; (with_reducible show wpAny _ _ (compareOp CmpOp.In (Value.str _ _) (Value.str _ _)) _ _ _); first | (refine in_known (b := false) (by assumption) ?_) | (refine in_known (b := true) (by assumption) ?_) | (refine in_known (b := false) (by decide +kernel) ?_) | (refine in_known (b := true) (by decide +kernel) ?_)) | ((with_reducible show wpAny _ _ (execs _ _) _ _ _); (first | ((with_reducible show wpAny _ _ (execs [] _) _ _ _); (k_here; refine wpAny_execs_nil ?_)) | ((with_reducible show wpAny _ _ (execs (_ :: _) _) _ _ _); (k_here; (try dsimp only); (try k_fold); first | with_reducible refine execs_one ?_ | (refine execs_more ?_; intro qN8 hN8 hO8))))) | walk1 | ((with_reducible show wpAny _ _ _ _ _ _); dsimp only) | (leave1; walk_say "STEP leave1"; try dsimp only) | fail "no step")
          refine hret _ _ _ _ (by assumption) (by assumption) ?_
          unfold GetPost
          rw [show nextTok ⟨inf, ti, S, DS, sc, buf, k, tp, line, tl⟩ ((T, ⟨inf', ti', S', DS', sc', buf', k', tp', line', tl'⟩) :: r) = some (wd, rest, g9, stk9) by simp only [nextTok, Fm.left, hg, hn]]
          exact ⟨_, _, _, _, _, _, _, rfl, hk9, hr9, rfl⟩
      · rename ¬ (0 < _) => z
        exact absurd (Nat.succ_pos _) z
end P15
section P16
theorem off16 : True := by
  w_top off
  trivial
/- the plain law: no program in sight -/
noncomputable abbrev sg (x : Str) : List Nat := x.cps.toList
theorem sg_inj {x y : Str} (h : sg x = sg y) : x = y := by
  obtain ⟨⟨x⟩⟩ := x
  obtain ⟨⟨y⟩⟩ := y
  simp only [sg] at h
  rw [h]
theorem sg_append (x y : Str) : sg (x ++ y) = sg x ++ sg y := by
  show (x.cps ++ y.cps).toList = _
  simp
theorem sg_len (x : Str) : (sg x).length = x.length := by simp [sg, Str.length]
theorem sg_slash : sg (Str.ofString "/") = [47] := by decide +kernel
theorem starts_slash (x : Str) : Txt.startswith x (Str.ofString "/") = decide ((sg x).head? = some 47) := by
  unfold Txt.startswith
  rw [StrLaws.subAt_eq]
  obtain ⟨⟨l⟩⟩ := x
  cases l with
  | nil => decide +kernel
  | cons c r =>
    have e1 : (Str.ofString "/").length = 1 := by decide +kernel
    have e2 : (Str.ofString "/").cps.toList = [47] := by decide +kernel
    rw [e1, e2]
    by_cases hc : c = 47
    · subst hc; simp [Str.length, sg]
    · simp [Str.length, sg, hc, beq_iff_eq, Bool.beq_eq_decide_eq]
theorem ends_slash (x : Str) : Txt.endswith x (Str.ofString "/") = decide ((sg x).getLast? = some 47) := by
  unfold Txt.endswith
  rw [StrLaws.subAt_eq]
  obtain ⟨⟨l⟩⟩ := x
  have e1 : (Str.ofString "/").length = 1 := by decide +kernel
  have e2 : (Str.ofString "/").cps.toList = [47] := by decide +kernel
  rw [e1, e2]
  rcases List.eq_nil_or_concat l with rfl | ⟨r, c, rfl⟩
  · decide +kernel
  · by_cases hc : c = 47
    · subst hc; simp [Str.length]
    · simp [Str.length, hc]
theorem empty_iff (x : Str) : x = Str.ofString "" ↔ sg x = [] := by
  constructor
  · rintro rfl; decide +kernel
  · intro h; exact sg_inj (h.trans (by decide +kernel))
theorem join_eq (sep : Str) (l : List Str) : Txt.join sep l = Str.join sep l := StrLaws.glued_eq_join sep l
theorem join_snocS (sep w : Str) : ∀ l : List Str, l ≠ [] → Str.join sep (l ++ [w]) = Str.join sep l ++ (sep ++ w)
  | [], h => absurd rfl h
  | [a], _ => by show a ++ sep ++ w = a ++ (sep ++ w); exact Str.append_assoc _ _ _
  | a :: b :: r, _ => by
    have ih := join_snocS sep w (b :: r) (by simp)
    show a ++ sep ++ Str.join sep ((b :: r) ++ [w]) = (a ++ sep ++ Str.join sep (b :: r)) ++ (sep ++ w)
    rw [ih, Str.append_assoc (a ++ sep)]
theorem join_snoc (sep w : Str) (l : List Str) (h : l ≠ []) : Txt.join sep (l ++ [w]) = Txt.join sep l ++ (sep ++ w) := by rw [join_eq, join_eq, join_snocS sep w l h]
/-- a name: some signs, no slash -/
noncomputable def Good (x : Str) : Prop := sg x ≠ [] ∧ 47 ∉ sg x
noncomputable def hereOf (names : List Str) : Str := Str.ofString "/" ++ Txt.join (Str.ofString "/") names
theorem here_nil : sg (hereOf []) = [47] := by decide +kernel
theorem here_snoc (names : List Str) (w : Str) : sg (hereOf (names ++ [w])) = (if names = [] then [] else sg (hereOf names)) ++ 47 :: sg w := by
  unfold hereOf
  by_cases h : names = []
  · subst h
    rw [if_pos rfl]
    show sg (Str.ofString "/" ++ w) = _
    rw [sg_append, sg_slash]; rfl
  · rw [if_neg h, join_snoc _ _ _ h, sg_append, sg_append, sg_append, sg_append, sg_slash]
    simp
theorem here_end {names : List Str} {w : Str} (h : Good w) : (sg (hereOf (names ++ [w]))).getLast? ≠ some 47 := by
  rw [here_snoc]
  intro e
  rcases List.eq_nil_or_concat (sg w) with h1 | ⟨r, c, h1⟩ <;> try rw [List.concat_eq_append] at h1
  · exact h.1 h1
  · rw [h1, show ∀ a : List Nat, a ++ 47 :: (r ++ [c]) = (a ++ 47 :: r) ++ [c] by simp] at e
    simp only [List.getLast?_append, List.getLast?_singleton, Option.some_or] at e
    have : c = 47 := Option.some.inj e
    exact h.2 (by rw [h1, this]; simp)
theorem good_start {w : Str} (h : Good w) : Txt.startswith w (Str.ofString "/") = false := by
  rw [starts_slash]
  refine decide_eq_false fun e => h.2 ?_
  cases hs : sg w with
  | nil => rw [hs] at e; cases e
  | cons c r => rw [hs] at e; simp at e; rw [e]; simp
theorem join_here {names : List Str} {w : Str} (hn : ∀ x ∈ names, Good x) (h : Good w) : joinStep (hereOf names) w = hereOf (names ++ [w]) := by
  unfold joinStep
  have hs := good_start h
  have hne : hereOf names ≠ Str.ofString "" := by
    intro e
    have := (empty_iff _).mp e
    unfold hereOf at this
    rw [sg_append, sg_slash] at this
    cases this
  rw [if_neg (by rw [hs]; exact fun h => h.elim (fun e => nomatch e) hne)]
  rcases List.eq_nil_or_concat names with rfl | ⟨r, c, rfl⟩
  · rw [if_pos (by decide +kernel)]
    refine sg_inj ?_
    rw [sg_append, here_snoc, here_nil]; rfl
  · have hc := here_end (names := r) (hn c (by simp))
    rw [List.concat_eq_append] at *
    rw [if_neg (by rw [ends_slash, decide_eq_true_eq]; exact hc)]
    refine sg_inj ?_
    rw [sg_append, sg_append, here_snoc _ w, if_neg (by simp), sg_slash]; rfl
theorem slash_one : Str.ofString "/" = ⟨#[47]⟩ := by decide +kernel
theorem rfind_at {x : Str} {pre w : List Nat} (h : sg x = pre ++ 47 :: w) (hw : 47 ∉ w) : Txt.rfind x (Str.ofString "/") = (pre.length : Int) := by
  have hat : ∀ i, StrLaws.At x (Str.ofString "/") x.length i ↔ (sg x)[i]? = some 47 := fun i => by rw [slash_one]; exact StrLaws.subAt_one x 47 i
  have h0 : (sg x)[pre.length]? = some 47 := by rw [h]; simp
  unfold Txt.rfind
  rcases StrLaws.last_spec x (Str.ofString "/") with ⟨_, h2⟩ | ⟨i, h1, h2, h3⟩
  · exact absurd ((hat _).mpr h0) (h2 _)
  · rw [h1]
    have hi := (hat i).mp h2
    have : ¬ i < pre.length := fun hlt => h3 _ hlt ((hat _).mpr h0)
    by_cases he : i = pre.length
    · rw [he]
    · exfalso
      rw [h, List.getElem?_append_right (by omega), show i - pre.length = (i - pre.length - 1) + 1 by omega, List.getElem?_cons_succ] at hi
      exact hw (List.mem_of_getElem? hi)
theorem mul_slash (n : Nat) : ∀ c ∈ sg (Txt.mul (Str.ofString "/") (n : Int)), c = 47 := by
  have key : ∀ (l : List (Array Nat)) (acc : Array Nat), (∀ a ∈ l, ∀ c ∈ a.toList, c = 47) → (∀ c ∈ acc.toList, c = 47) → ∀ c ∈ (l.foldl (· ++ ·) acc).toList, c = 47 := by
    intro l
    induction l with
    | nil => intro acc _ h c hc; exact h c hc
    | cons a l ih =>
      intro acc h1 h2 c hc
      refine ih (acc ++ a) (fun b hb => h1 b (.tail _ hb)) (fun c hc => ?_) c hc
      rw [Array.toList_append] at hc
      rcases List.mem_append.mp hc with hc | hc
      · exact h2 c hc
      · exact h1 a (.head _) c hc
  unfold Txt.mul
  intro c hc
  split at hc
  · cases hc
  · split at hc
    · rw [sg_slash] at hc; simpa using hc
    · refine key _ _ (fun a ha c hc => ?_) (fun _ h => by simp at h) c hc
      rw [List.eq_of_mem_replicate ha] at hc
      have : c ∈ sg (Str.ofString "/") := hc
      rw [sg_slash] at this; simpa using this
theorem rstrip_slash {x : Str} {pre : List Nat} {c : Nat} (h : sg x = pre ++ [c] ++ [47]) (hc : c ≠ 47) : sg (Txt.rstripChars x (Str.ofString "/")) = pre ++ [c] := by
  have hgo : ∀ d : Nat, (Str.ofString "/").cps.contains d = decide (d = 47) := fun d => by
    rw [slash_one]
    simp [Bool.beq_eq_decide_eq]
  have hlen : x.length = pre.length + 2 := by rw [← sg_len, h]; simp
  have hhi : stripHi (Str.ofString "/").cps.contains true x (stripLo (Str.ofString "/").cps.contains false x) = pre.length + 1 := by
    unfold stripHi stripLo
    rw [if_pos rfl, if_neg (by decide)]
    show x.length - (((sg x).drop 0).reverse.takeWhile _).length = _
    rw [h, hlen, show (Str.ofString "/").cps.contains = fun d => decide (d = 47) from funext hgo]
    simp [hc]
  have hlo : stripLo (Str.ofString "/").cps.contains false x = 0 := rfl
  unfold Txt.rstripChars Txt.stripBy
  have hs : stripSame (Str.ofString "/").cps.contains false true x = false := by
    unfold stripSame
    rw [hhi, hlo, hlen]
    simp
  rw [hs, if_neg (by decide)]
  unfold PySem.stripped
  rw [hhi, hlo]
  show (Builtin.Str.strSub x 0 (pre.length + 1)).cps.toList = _
  rw [StrLaws.strSub_toList]
  show ((sg x).drop 0).take _ = _
  rw [h, List.drop_zero, Nat.sub_zero, show pre.length + 1 = (pre ++ [c]).length by simp, List.take_left]
theorem dir_at {x : Str} {pre w : List Nat} (h : sg x = pre ++ 47 :: w) (hw : 47 ∉ w) (hp : pre.getLast? ≠ some 47) : sg (dirS x) = if pre = [] then [47] else pre := by
  have hr := rfind_at h hw
  have hlen : x.length = pre.length + 1 + w.length := by rw [← sg_len, h]; simp; omega
  have hs : Txt.slice x none (some (Txt.rfind x (Str.ofString "/") + 1)) = ⟨(pre ++ [47]).toArray⟩ := by
    rw [hr, show (pre.length : Int) + 1 = ((pre.length + 1 : Nat) : Int) by omega, slice_to (by omega)]
    show (⟨((sg x).take _).toArray⟩ : Str) = _
    rw [h, show pre ++ 47 :: w = (pre ++ [47]) ++ w by simp, show pre.length + 1 = (pre ++ [47]).length by simp, List.take_left]
  unfold dirS
  rw [hs]
  have hL : (Str.mk (pre ++ [47]).toArray).length = pre.length + 1 := by rw [length_mk]; simp
  by_cases hpre : pre = []
  · subst hpre
    rw [if_pos rfl]
    decide +kernel
  · rw [if_neg hpre]
    obtain ⟨r, c, rfl⟩ : ∃ r c, pre = r ++ [c] := by
      rcases List.eq_nil_or_concat pre with e | ⟨r, c, e⟩
      · exact absurd e hpre
      · exact ⟨r, c, by rw [e, List.concat_eq_append]⟩
    have hc : c ≠ 47 := by rintro rfl; exact hp (by simp)
    have hb : ((Str.mk (r ++ [c] ++ [47]).toArray) != Txt.mul (Str.ofString "/") ((Str.mk (r ++ [c] ++ [47]).toArray).length : Int)) = true := by
      refine bne_iff_ne.mpr fun e => hc (mul_slash (Str.mk (r ++ [c] ++ [47]).toArray).length c ?_)
      rw [← e]
      show c ∈ (r ++ [c] ++ [47])
      simp
    rw [if_pos ⟨by rw [hL]; omega, hb⟩]
    exact rstrip_slash rfl hc
theorem here_ne (names : List Str) : sg (hereOf names) ≠ [] := by
  unfold hereOf
  rw [sg_append, sg_slash]
  exact fun h => nomatch h
theorem dir_here {names : List Str} (hn : ∀ x ∈ names, Good x) : dirS (hereOf names) = hereOf names.dropLast := by
  refine sg_inj ?_
  rcases List.eq_nil_or_concat names with rfl | ⟨r, c, rfl⟩
  · exact (dir_at (pre := []) (w := []) here_nil (by simp) (by simp)).trans here_nil.symm
  · rw [List.concat_eq_append] at *
    have hg := hn c (by simp)
    rw [List.dropLast_concat]
    have h := here_snoc r c
    by_cases hr : r = []
    · subst hr
      rw [if_pos rfl] at h
      rw [dir_at h hg.2 (by simp), if_pos rfl, here_nil]
    · rw [if_neg hr] at h
      rw [dir_at h hg.2 ?_, if_neg (here_ne r)]
      obtain ⟨q, d, rfl⟩ : ∃ q d, r = q ++ [d] := by
        rcases List.eq_nil_or_concat r with e | ⟨q, d, e⟩
        · exact absurd e hr
        · exact ⟨q, d, by rw [e, List.concat_eq_append]⟩
      exact here_end (hn d (by simp))
/-- the words of the signs, each with the line behind it; `tok` is what there is of the first -/
noncomputable def wordsGo : List Nat → List Nat → Nat → List (Str × Nat)
  | _, [], _ => []
  | tok, ch :: r, line => if ch = 47 then (if tok = [] then wordsGo [] r line else (⟨tok.toArray⟩, line + tok.count 10) :: wordsGo [] r (line + tok.count 10)) else wordsGo (tok ++ [ch]) r line
theorem lexGo_slash (tok r : List Nat) : lexGo tok (47 :: r) = if tok = [] then lexGo [] r else some (tok, r) := by
  cases tok with
  | nil => rfl
  | cons a t => rfl
theorem lexGo_other (tok r : List Nat) {ch : Nat} (h : ch ≠ 47) : lexGo tok (ch :: r) = lexGo (tok ++ [ch]) r := by
  cases tok <;> exact if_neg h
theorem wordsGo_slash (tok r : List Nat) (line : Nat) : wordsGo tok (47 :: r) line = if tok = [] then wordsGo [] r line else (⟨tok.toArray⟩, line + tok.count 10) :: wordsGo [] r (line + tok.count 10) := if_pos rfl
theorem wordsGo_other (tok r : List Nat) (line : Nat) {ch : Nat} (h : ch ≠ 47) : wordsGo tok (ch :: r) line = wordsGo (tok ++ [ch]) r line := if_neg h
theorem words_none : ∀ (l tok : List Nat) (line : Nat), lexGo tok l = none → wordsGo tok l line = []
  | [], _, _, _ => rfl
  | ch :: r, tok, line, h => by
    by_cases hc : ch = 47
    · subst hc
      rw [lexGo_slash] at h
      rw [wordsGo_slash]
      by_cases ht : tok = []
      · rw [if_pos ht] at h ⊢
        exact words_none r [] line h
      · rw [if_neg ht] at h; cases h
    · rw [lexGo_other _ _ hc] at h
      rw [wordsGo_other _ _ _ hc]
      exact words_none r _ line h
theorem words_some {wd rest : List Nat} : ∀ (l tok : List Nat) (line : Nat), lexGo tok l = some (wd, rest) → wordsGo tok l line = (⟨wd.toArray⟩, line + wd.count 10) :: wordsGo [] rest (line + wd.count 10)
  | [], _, _, h => nomatch h
  | ch :: r, tok, line, h => by
    by_cases hc : ch = 47
    · subst hc
      rw [lexGo_slash] at h
      rw [wordsGo_slash]
      by_cases ht : tok = []
      · rw [if_pos ht] at h ⊢
        exact words_some r [] line h
      · rw [if_neg ht] at h ⊢
        cases h; rfl
    · rw [lexGo_other _ _ hc] at h
      rw [wordsGo_other _ _ _ hc]
      exact words_some r _ line h
theorem lex_good {wd rest : List Nat} : ∀ (l tok : List Nat), 47 ∉ tok → lexGo tok l = some (wd, rest) → wd ≠ [] ∧ 47 ∉ wd ∧ wd.length + 1 + rest.length ≤ tok.length + l.length ∧ (∀ c ∈ wd, c ∈ tok ∨ c ∈ l) ∧ (∀ c ∈ rest, c ∈ l) ∧ (EndsOk l → EndsOk rest)
  | [], _, _, h => nomatch h
  | ch :: r, tok, ht, h => by
    by_cases hc : ch = 47
    · subst hc
      rw [lexGo_slash] at h
      by_cases hn : tok = []
      · rw [if_pos hn] at h
        obtain ⟨h1, h2, h3, h4, h5, h6⟩ := lex_good r [] (by simp) h
        refine ⟨h1, h2, ?_, fun c hc => ?_, fun c hc => .tail _ (h5 c hc), fun e => h6 e.tail⟩
        · simp only [List.length_cons, List.length_nil] at h3 ⊢; omega
        · rcases h4 c hc with h | h
          · cases h
          · exact .inr (.tail _ h)
      · rw [if_neg hn] at h
        cases h
        refine ⟨hn, ht, ?_, fun c hc => .inl hc, fun c hc => .tail _ hc, fun e => e.tail⟩
        simp only [List.length_cons]; omega
    · rw [lexGo_other _ _ hc] at h
      obtain ⟨h1, h2, h3, h4, h5, h6⟩ := lex_good r (tok ++ [ch]) (by simp only [List.mem_append, List.mem_singleton, not_or]; exact ⟨ht, fun e => hc e.symm⟩) h
      refine ⟨h1, h2, ?_, fun c hc => ?_, fun c hc => .tail _ (h5 c hc), fun e => h6 e.tail⟩
      · simp only [List.length_append, List.length_cons, List.length_nil] at h3 ⊢; omega
      · rcases h4 c hc with h | h
        · rcases List.mem_append.mp h with h | h
          · exact .inl h
          · rw [List.mem_singleton.mp h]; exact .inr (.head _)
        · exact .inr (.tail _ h)
theorem words_more : ∀ (l tok : List Nat) (line : Nat), EndsOk l → (l = [] → tok = []) → wordsGo tok (l ++ [47]) line = wordsGo tok l line
  | [], tok, line, _, h => by rw [h rfl]; rfl
  | ch :: r, tok, line, e, _ => by
    rw [List.cons_append]
    by_cases hc : ch = 47
    · subst hc
      rw [wordsGo_slash, wordsGo_slash, words_more r [] line e.tail (fun _ => rfl), words_more r [] _ e.tail (fun _ => rfl)]
    · rw [wordsGo_other _ _ _ hc, wordsGo_other _ _ _ hc]
      exact words_more r _ line e.tail (fun h => absurd h (e.more hc))
theorem words_append (b : List Nat) : ∀ (a tok : List Nat) (line : Nat), wordsGo tok (a ++ 47 :: b) line = wordsGo tok (a ++ [47]) line ++ wordsGo [] b (line + (tok ++ a).count 10)
  | [], tok, line => by
    rw [List.nil_append, List.nil_append, wordsGo_slash, wordsGo_slash, List.append_nil]
    by_cases ht : tok = []
    · subst ht; rw [if_pos rfl, if_pos rfl]; rfl
    · rw [if_neg ht, if_neg ht]; rfl
  | ch :: a, tok, line => by
    rw [List.cons_append, List.cons_append]
    by_cases hc : ch = 47
    · subst hc
      rw [wordsGo_slash, wordsGo_slash]
      by_cases ht : tok = []
      · subst ht
        rw [if_pos rfl, if_pos rfl, words_append b a [] line]
        congr 2
      · rw [if_neg ht, if_neg ht, words_append b a [] _, List.cons_append]
        rw [show (tok ++ 47 :: a).count 10 = tok.count 10 + a.count 10 by simp, List.nil_append, Nat.add_assoc]
    · rw [wordsGo_other _ _ _ hc, wordsGo_other _ _ _ hc, words_append b a _ line]
      congr 2
      simp
theorem words_one {p : List Nat} (hp : 47 ∉ p) (line : Nat) : ∀ tok, wordsGo tok (p ++ [47]) line = if tok ++ p = [] then [] else [(⟨(tok ++ p).toArray⟩, line + (tok ++ p).count 10)] := by
  induction p with
  | nil => intro tok; rw [List.nil_append, wordsGo_slash, List.append_nil]; rfl
  | cons c r ih =>
    intro tok
    rw [List.cons_append, wordsGo_other _ _ _ (fun e => hp (by rw [e]; exact .head _)), ih (fun h => hp (.tail _ h))]
    simp
theorem words_weight : ∀ (l tok : List Nat) (line : Nat), ((wordsGo tok l line).map fun p => p.1.length + 1).sum ≤ tok.length + l.length
  | [], _, _ => Nat.zero_le _
  | ch :: r, tok, line => by
    by_cases hc : ch = 47
    · subst hc
      rw [wordsGo_slash]
      by_cases ht : tok = []
      · rw [if_pos ht]
        have := words_weight r [] line
        simp only [List.length_cons, List.length_nil] at this ⊢; omega
      · rw [if_neg ht]
        have := words_weight r [] (line + tok.count 10)
        simp only [List.map_cons, List.sum_cons, List.length_cons, List.length_nil, length_mk] at this ⊢; omega
    · rw [wordsGo_other _ _ _ hc]
      have := words_weight r (tok ++ [ch]) line
      simp only [List.length_append, List.length_cons, List.length_nil] at this ⊢; omega
theorem words_in : ∀ (l tok : List Nat) (line : Nat), 47 ∉ tok → ∀ p ∈ wordsGo tok l line, Good p.1 ∧ ∀ c ∈ sg p.1, c ∈ tok ∨ c ∈ l
  | [], _, _, _, _, h => nomatch h
  | ch :: r, tok, line, ht, p, h => by
    by_cases hc : ch = 47
    · subst hc
      rw [wordsGo_slash] at h
      by_cases hn : tok = []
      · rw [if_pos hn] at h
        obtain ⟨h1, h2⟩ := words_in r [] line (by simp) p h
        refine ⟨h1, fun c hc => (h2 c hc).elim (fun h => nomatch h) (fun h => .inr (.tail _ h))⟩
      · rw [if_neg hn] at h
        rcases List.mem_cons.mp h with rfl | h
        · exact ⟨⟨hn, ht⟩, fun c hc => .inl hc⟩
        · obtain ⟨h1, h2⟩ := words_in r [] _ (by simp) p h
          refine ⟨h1, fun c hc => (h2 c hc).elim (fun h => nomatch h) (fun h => .inr (.tail _ h))⟩
    · rw [wordsGo_other _ _ _ hc] at h
      obtain ⟨h1, h2⟩ := words_in r (tok ++ [ch]) line (by simp only [List.mem_append, List.mem_singleton, not_or]; exact ⟨ht, fun e => hc e.symm⟩) p h
      refine ⟨h1, fun c hc => ?_⟩
      rcases h2 c hc with h | h
      · rcases List.mem_append.mp h with h | h
        · exact .inl h
        · rw [List.mem_singleton.mp h]; exact .inr (.head _)
      · exact .inr (.tail _ h)
theorem cnt_count (c : Nat) : ∀ l : List Nat, cnt c l = (l.count c : Nat)
  | [] => rfl
  | a :: l => by
    rw [cnt_cons, cnt_count c l, List.count_cons]
    by_cases h : a = c
    · subst h; simp; omega
    · simp [h]
theorem count_nl (x : Str) : Txt.count x (Str.ofString "\n") = ((sg x).count 10 : Nat) := by
  rw [show Str.ofString "\n" = ⟨#[10]⟩ by decide +kernel, count_cnt, cnt_count]
theorem join_count (sep : Str) (hs : (sg sep).count 10 = 0) : ∀ l : List Str, (sg (Txt.join sep l)).count 10 = (l.map fun x => (sg x).count 10).sum
  | [] => by rw [join_eq]; rfl
  | [a] => by rw [join_eq]; simp [Str.join]
  | a :: b :: r => by
    have ih := join_count sep hs (b :: r)
    rw [join_eq] at ih ⊢
    show (sg (a ++ sep ++ Str.join sep (b :: r))).count 10 = _
    rw [sg_append, sg_append, List.count_append, List.count_append, hs, ih]
    simp
structure WSt where
  names : List Str
  left : Nat
  told : List Dat
/-- the walk behind its first pieces -/
noncomputable def atPiece (F : WSt → Str × Nat → WSt) (pieces : List Str) : Nat → WSt → WSt
  | 0, st => st
  | k + 1, st => match pieces[k]? with
    | some p => if sg p = [] then atPiece F pieces k st else F (atPiece F pieces k st) (p, 1 + (sg (Txt.join (Str.ofString "") (pieces.take (k + 1)))).count 10)
    | none => atPiece F pieces k st
theorem atPiece_words (F : WSt → Str × Nat → WSt) (pieces : List Str) (hp : ∀ p ∈ pieces, 47 ∉ sg p) (st : WSt) : ∀ k, 0 < k → k ≤ pieces.length → atPiece F pieces k st = (wordsGo [] (sg (Txt.join (Str.ofString "/") (pieces.take k)) ++ [47]) 1).foldl F st
  | 0, h, _ => absurd h (Nat.lt_irrefl _)
  | k + 1, _, hk => by
    have hk' : k < pieces.length := hk
    have e := List.getElem?_eq_getElem hk'
    obtain ⟨p, hpe⟩ : ∃ p, p = pieces[k] := ⟨_, rfl⟩
    rw [← hpe] at e
    have hg : 47 ∉ sg p := hp p (by rw [hpe]; exact List.getElem_mem _)
    have ht : pieces.take (k + 1) = pieces.take k ++ [p] := by rw [List.take_add_one, e]; rfl
    have hstep : atPiece F pieces (k + 1) st = if sg p = [] then atPiece F pieces k st else F (atPiece F pieces k st) (p, 1 + (sg (Txt.join (Str.ofString "") (pieces.take (k + 1)))).count 10) := by
      show (match pieces[k]? with | some p => _ | none => _) = _
      rw [e]
    have hcnt : (sg (Txt.join (Str.ofString "") (pieces.take (k + 1)))).count 10 = (sg (Txt.join (Str.ofString "/") (pieces.take k))).count 10 + (sg p).count 10 := by
      rw [join_count _ (by decide +kernel), join_count _ (by decide +kernel), ht]
      simp
    rw [hstep, hcnt]
    by_cases h0 : k = 0
    · subst h0
      rw [ht]
      show _ = (wordsGo [] (sg p ++ [47]) 1).foldl F st
      rw [words_one hg]
      by_cases h : sg p = []
      · rw [if_pos h, List.nil_append, if_pos h]; rfl
      · rw [if_neg h, List.nil_append, if_neg h]
        show F st (p, _) = F st (p, _)
        congr 3
        rw [List.take_zero, show (sg (Txt.join (Str.ofString "/") [])).count 10 = 0 by decide +kernel]
        omega
    · have ih := atPiece_words F pieces hp st k (by omega) (by omega)
      rw [ih, ht, join_snoc _ _ _ (by intro h; have := congrArg List.length h; rw [List.length_take, List.length_nil] at this; omega), sg_append, sg_append, sg_slash]
      have e2 : sg (Txt.join (Str.ofString "/") (List.take k pieces)) ++ ([47] ++ sg p) ++ [47] = sg (Txt.join (Str.ofString "/") (List.take k pieces)) ++ 47 :: (sg p ++ [47]) := by simp
      rw [e2, words_append (sg p ++ [47]), List.foldl_append, words_one hg]
      by_cases h : sg p = []
      · rw [if_pos h, List.nil_append, if_pos h]; rfl
      · rw [if_neg h, List.nil_append, if_neg h]
        show F _ (p, _) = F _ (p, _)
        congr 2
        rw [List.nil_append]
        omega
theorem split_ne (x y : Str) : Txt.split x y ≠ [] := by
  unfold Txt.split
  split
  · simp
  · split
    · simp
    · rw [StrLaws.partsBetween_eq]
      obtain ⟨p, r, e⟩ := StrLaws.partsFrom_ne x y.length 0 (Builtin.Str.occurrences x y 0 x.length (x.length + 1))
      rw [e]; simp
theorem split_slash (x : Str) : ∀ p ∈ Txt.split x (Str.ofString "/"), 47 ∉ sg p := by
  rw [slash_one]
  exact StrLaws.split_free x 47
theorem atPiece_all (F : WSt → Str × Nat → WSt) (x : Str) (st : WSt) : atPiece F (Txt.split x (Str.ofString "/")) (Txt.split x (Str.ofString "/")).length st = (wordsGo [] (sg x ++ [47]) 1).foldl F st := by
  rw [atPiece_words F _ (split_slash x) st _ (List.length_pos_iff.mpr (split_ne _ _)) (Nat.le_refl _), List.take_length, join_eq, StrLaws.join_split]
noncomputable def leadS (owner : Str) (line : Int) : Str := Str.ofString "\"" ++ owner ++ Str.ofString "\", line " ++ Str.ofString (toString line) ++ Str.ofString ": "
noncomputable def toldOf (word owner : Str) (line depth : Nat) (names : List Str) : Dat := .tuple [.str word, .str (leadS owner line), .int depth, .str (hereOf names)]
noncomputable def startOf (t : Str) (names : List Str) : List Str := if Txt.startswith t (Str.ofString "/") = true then [] else names
/-- the walk's turn at a word -/
noncomputable def wStep (lk : Str → Option Str) (rec : Str → Str → Nat → WSt → WSt) (owner : Str) (depth : Nat) (st : WSt) (w : Str × Nat) : WSt :=
  if w.1 = Str.ofString ".." then ⟨st.names.dropLast, st.left, st.told ++ [toldOf w.1 owner w.2 depth st.names]⟩
  else if w.1 = Str.ofString "." then ⟨st.names, st.left, st.told ++ [toldOf w.1 owner w.2 depth st.names]⟩
  else match lk (hereOf (st.names ++ [w.1])), st.left with
    | some t, l + 1 => rec t (hereOf (st.names ++ [w.1])) (depth + 1) ⟨startOf t st.names, l, st.told ++ [toldOf w.1 owner w.2 depth st.names]⟩
    | _, _ => ⟨st.names ++ [w.1], st.left, st.told ++ [toldOf w.1 owner w.2 depth st.names]⟩
noncomputable def walkF (lk : Str → Option Str) : Nat → Str → Str → Nat → WSt → WSt
  | 0, _, _, _, st => st
  | n + 1, text, owner, depth, st => (wordsGo [] (sg text ++ [47]) 1).foldl (wStep lk (walkF lk n) owner depth) st
theorem step_up {lk : Str → Option Str} {rec : Str → Str → Nat → WSt → WSt} {owner : Str} {depth : Nat} {st : WSt} {w : Str × Nat} (h : w.1 = Str.ofString "..") : wStep lk rec owner depth st w = ⟨st.names.dropLast, st.left, st.told ++ [toldOf w.1 owner w.2 depth st.names]⟩ := if_pos h
theorem step_dot {lk : Str → Option Str} {rec : Str → Str → Nat → WSt → WSt} {owner : Str} {depth : Nat} {st : WSt} {w : Str × Nat} (h : w.1 = Str.ofString ".") : wStep lk rec owner depth st w = ⟨st.names, st.left, st.told ++ [toldOf w.1 owner w.2 depth st.names]⟩ := by
  unfold wStep
  rw [if_neg (by rw [h]; decide +kernel), if_pos h]
theorem step_link {lk : Str → Option Str} {rec : Str → Str → Nat → WSt → WSt} {owner : Str} {depth : Nat} {st : WSt} {w : Str × Nat} {t : Str} {l : Nat} (h1 : w.1 ≠ Str.ofString "..") (h2 : w.1 ≠ Str.ofString ".") (h3 : lk (hereOf (st.names ++ [w.1])) = some t) (h4 : st.left = l + 1) :
    wStep lk rec owner depth st w = rec t (hereOf (st.names ++ [w.1])) (depth + 1) ⟨startOf t st.names, l, st.told ++ [toldOf w.1 owner w.2 depth st.names]⟩ := by
  unfold wStep
  rw [if_neg h1, if_neg h2, h3, h4]
theorem step_name {lk : Str → Option Str} {rec : Str → Str → Nat → WSt → WSt} {owner : Str} {depth : Nat} {st : WSt} {w : Str × Nat} (h1 : w.1 ≠ Str.ofString "..") (h2 : w.1 ≠ Str.ofString ".") (h3 : lk (hereOf (st.names ++ [w.1])) = none ∨ st.left = 0) :
    wStep lk rec owner depth st w = ⟨st.names ++ [w.1], st.left, st.told ++ [toldOf w.1 owner w.2 depth st.names]⟩ := by
  unfold wStep
  rw [if_neg h1, if_neg h2]
  rcases h3 with h | h
  · rw [h]
  · rw [h]; cases lk (hereOf (st.names ++ [w.1])) <;> rfl
/-- what the links are: each target short and laid out of signs -/
noncomputable def LkOk (lk : Str → Option Str) : Prop := ∀ p t, lk p = some t → t.length ≤ 38 ∧ PyData.strOk t = true
noncomputable def wt (st : WSt) : Nat := (st.names.map fun x => x.length + 1).sum + st.told.length + 130 * st.left
theorem names_drop (l : List Str) : (l.dropLast.map fun x : Str => x.length + 1).sum ≤ (l.map fun x => x.length + 1).sum := by
  rcases List.eq_nil_or_concat l with rfl | ⟨r, c, rfl⟩
  · exact Nat.le_refl _
  · rw [List.concat_eq_append, List.dropLast_concat]; simp
theorem start_sum (t : Str) (l : List Str) : ((startOf t l).map fun x : Str => x.length + 1).sum ≤ (l.map fun x => x.length + 1).sum := by
  unfold startOf
  split
  · exact Nat.zero_le _
  · exact Nat.le_refl _
theorem wStep_wt {lk : Str → Option Str} (hl : LkOk lk) {rec : Str → Str → Nat → WSt → WSt} (hr : ∀ t o d st, wt (rec t o d st) ≤ wt st + 2 * (t.length + 1)) (owner : Str) (depth : Nat) (st : WSt) (w : Str × Nat) :
    wt (wStep lk rec owner depth st w) ≤ wt st + 2 * (w.1.length + 1) := by
  by_cases h1 : w.1 = Str.ofString ".."
  · rw [step_up h1]
    have := names_drop st.names
    simp only [wt, List.length_append, List.length_cons, List.length_nil] at *; omega
  · by_cases h2 : w.1 = Str.ofString "."
    · rw [step_dot h2]
      simp only [wt, List.length_append, List.length_cons, List.length_nil] at *; omega
    · cases h3 : lk (hereOf (st.names ++ [w.1])) with
      | none =>
        rw [step_name h1 h2 (.inl h3)]
        simp only [wt, List.length_append, List.length_cons, List.length_nil, List.map_append, List.sum_append, List.map_cons, List.map_nil, List.sum_cons, List.sum_nil] at *; omega
      | some t =>
        cases h4 : st.left with
        | zero =>
          rw [step_name h1 h2 (.inr h4)]
          simp only [wt, List.length_append, List.length_cons, List.length_nil, List.map_append, List.sum_append, List.map_cons, List.map_nil, List.sum_cons, List.sum_nil] at *; omega
        | succ l =>
          rw [step_link h1 h2 h3 h4]
          have q1 := hr t (hereOf (st.names ++ [w.1])) (depth + 1) ⟨startOf t st.names, l, st.told ++ [toldOf w.1 owner w.2 depth st.names]⟩
          have q2 := start_sum t st.names
          have q3 := (hl _ _ h3).1
          simp only [wt, List.length_append, List.length_cons, List.length_nil] at *; omega
theorem fold_wt {F : WSt → Str × Nat → WSt} (hF : ∀ st w, wt (F st w) ≤ wt st + 2 * (w.1.length + 1)) : ∀ (ws : List (Str × Nat)) (st : WSt), wt (ws.foldl F st) ≤ wt st + 2 * (ws.map fun p => p.1.length + 1).sum
  | [], st => Nat.le_refl _
  | w :: ws, st => by
    have h1 := fold_wt hF ws (F st w)
    have h2 := hF st w
    simp only [List.foldl_cons, List.map_cons, List.sum_cons] at *; omega
theorem walkF_wt {lk : Str → Option Str} (hl : LkOk lk) : ∀ n t o d st, wt (walkF lk n t o d st) ≤ wt st + 2 * (t.length + 1)
  | 0, t, o, d, st => by show wt st ≤ _; omega
  | n + 1, t, o, d, st => by
    have h1 := fold_wt (wStep_wt hl (walkF_wt hl n) o d) (wordsGo [] (sg t ++ [47]) 1) st
    have h2 := words_weight (sg t ++ [47]) [] 1
    have h3 := sg_len t
    simp only [List.length_append, List.length_cons, List.length_nil] at h2
    show wt (List.foldl _ _ _) ≤ _
    omega
theorem fold_left {F : WSt → Str × Nat → WSt} (hF : ∀ st w, (F st w).left ≤ st.left) : ∀ (ws : List (Str × Nat)) (st : WSt), (ws.foldl F st).left ≤ st.left
  | [], st => Nat.le_refl _
  | w :: ws, st => Nat.le_trans (fold_left hF ws (F st w)) (hF st w)
theorem wStep_left {lk : Str → Option Str} {rec : Str → Str → Nat → WSt → WSt} (hr : ∀ t o d st, (rec t o d st).left ≤ st.left) (owner : Str) (depth : Nat) (st : WSt) (w : Str × Nat) : (wStep lk rec owner depth st w).left ≤ st.left := by
  by_cases h1 : w.1 = Str.ofString ".."
  · rw [step_up h1]; exact Nat.le_refl _
  · by_cases h2 : w.1 = Str.ofString "."
    · rw [step_dot h2]; exact Nat.le_refl _
    · cases h3 : lk (hereOf (st.names ++ [w.1])) with
      | none => rw [step_name h1 h2 (.inl h3)]; exact Nat.le_refl _
      | some t =>
        cases h4 : st.left with
        | zero => rw [step_name h1 h2 (.inr h4)]; exact Nat.le_of_eq h4
        | succ l => rw [step_link h1 h2 h3 h4]; exact Nat.le_trans (hr _ _ _ _) (Nat.le_succ l)
theorem walkF_left (lk : Str → Option Str) : ∀ n t o d st, (walkF lk n t o d st).left ≤ st.left
  | 0, _, _, _, _ => Nat.le_refl _
  | n + 1, _, o, d, _ => fold_left (wStep_left (walkF_left lk n) o d) _ _
theorem strOk_iff (x : Str) : PyData.strOk x = true ↔ ∀ c ∈ sg x, c < 0x110000 := by
  unfold PyData.strOk
  rw [Array.all_eq_true_iff_forall_mem]
  constructor
  · intro h c hc
    exact of_decide_eq_true (h c (Array.mem_toList_iff.mp hc))
  · intro h c hc
    exact decide_eq_true (h c (Array.mem_toList_iff.mpr hc))
theorem strOk_append {x y : Str} (hx : PyData.strOk x = true) (hy : PyData.strOk y = true) : PyData.strOk (x ++ y) = true := by
  rw [strOk_iff] at *
  intro c hc
  rw [sg_append] at hc
  exact (List.mem_append.mp hc).elim (hx c) (hy c)
theorem strOk_of (z : String) : PyData.strOk (Str.ofString z) = true := by
  rw [strOk_iff]
  intro c hc
  have : sg (Str.ofString z) = z.toList.map Char.toNat := signs_ofString z
  rw [this] at hc
  obtain ⟨d, -, rfl⟩ := List.mem_map.mp hc
  have := d.valid
  unfold UInt32.isValidChar Nat.isValidChar at this
  show d.val.toNat < 0x110000
  omega
theorem strOk_join {sep : Str} (hs : PyData.strOk sep = true) : ∀ l : List Str, (∀ x ∈ l, PyData.strOk x = true) → PyData.strOk (Txt.join sep l) = true
  | [], _ => by rw [join_eq]; exact strOk_of ""
  | [a], h => by rw [join_eq]; exact h a (.head _)
  | a :: b :: r, h => by
    have ih := strOk_join hs (b :: r) (fun x hx => h x (.tail _ hx))
    rw [join_eq] at ih ⊢
    exact strOk_append (strOk_append (h a (.head _)) hs) ih
theorem strOk_here {l : List Str} (h : ∀ x ∈ l, PyData.strOk x = true) : PyData.strOk (hereOf l) = true := strOk_append (strOk_of _) (strOk_join (strOk_of _) l h)
theorem strOk_lead {x : Str} (h : PyData.strOk x = true) (n : Int) : PyData.strOk (leadS x n) = true := strOk_append (strOk_append (strOk_append (strOk_append (strOk_of _) h) (strOk_of _)) (strOk_of _)) (strOk_of _)
structure StOk (st : WSt) : Prop where
  good : ∀ x ∈ st.names, Good x
  names : ∀ x ∈ st.names, PyData.strOk x = true
  told : ∀ d ∈ st.told, kqdOk 8 d = true
theorem told_ok {w o : Str} {l d : Nat} {ns : List Str} (hw : PyData.strOk w = true) (ho : PyData.strOk o = true) (hn : ∀ x ∈ ns, PyData.strOk x = true) : kqdOk 8 (toldOf w o l d ns) = true := by
  have h1 := strOk_lead ho l
  have h2 := strOk_here hn
  simp [toldOf, kqdOk, hw, h1, h2]
theorem start_in {t : Str} {l : List Str} : ∀ x ∈ startOf t l, x ∈ l := by
  unfold startOf
  split
  · intro x h; cases h
  · exact fun x h => h
theorem drop_in {l : List Str} : ∀ x ∈ l.dropLast, x ∈ l := fun _ h => List.dropLast_subset _ h
theorem wStep_ok {lk : Str → Option Str} (hl : LkOk lk) {rec : Str → Str → Nat → WSt → WSt} (hr : ∀ t o d st, PyData.strOk t = true → PyData.strOk o = true → StOk st → StOk (rec t o d st)) {owner : Str} (ho : PyData.strOk owner = true) (depth : Nat) {st : WSt} (hs : StOk st) {w : Str × Nat}
    (hg : Good w.1) (hw : PyData.strOk w.1 = true) : StOk (wStep lk rec owner depth st w) := by
  have ht : ∀ d ∈ st.told ++ [toldOf w.1 owner w.2 depth st.names], kqdOk 8 d = true := fun d hd => (List.mem_append.mp hd).elim (hs.told d) fun h => by rw [List.mem_singleton.mp h]; exact told_ok hw ho hs.names
  have hn : ∀ x ∈ st.names ++ [w.1], PyData.strOk x = true := fun d hd => (List.mem_append.mp hd).elim (hs.names d) fun h => by rw [List.mem_singleton.mp h]; exact hw
  have hgn : ∀ x ∈ st.names ++ [w.1], Good x := fun d hd => (List.mem_append.mp hd).elim (hs.good d) fun h => by rw [List.mem_singleton.mp h]; exact hg
  by_cases h1 : w.1 = Str.ofString ".."
  · rw [step_up h1]; exact ⟨fun x hx => hs.good x (drop_in x hx), fun x hx => hs.names x (drop_in x hx), ht⟩
  · by_cases h2 : w.1 = Str.ofString "."
    · rw [step_dot h2]; exact ⟨hs.good, hs.names, ht⟩
    · cases h3 : lk (hereOf (st.names ++ [w.1])) with
      | none => rw [step_name h1 h2 (.inl h3)]; exact ⟨hgn, hn, ht⟩
      | some t =>
        cases h4 : st.left with
        | zero => rw [step_name h1 h2 (.inr h4)]; exact ⟨hgn, hn, ht⟩
        | succ l =>
          rw [step_link h1 h2 h3 h4]
          exact hr _ _ _ _ (hl _ _ h3).2 (strOk_here hn) ⟨fun x hx => hs.good x (start_in x hx), fun x hx => hs.names x (start_in x hx), ht⟩
theorem fold_ok {F : WSt → Str × Nat → WSt} : ∀ (ws : List (Str × Nat)) (st : WSt), (∀ w ∈ ws, ∀ st, StOk st → StOk (F st w)) → StOk st → StOk (ws.foldl F st)
  | [], _, _, h => h
  | w :: ws, st, hF, h => fold_ok ws (F st w) (fun v hv => hF v (.tail _ hv)) (hF w (.head _) st h)
theorem words_ok {l : List Nat} (hl : ∀ c ∈ l, c < 0x110000) {line : Nat} : ∀ p ∈ wordsGo [] l line, Good p.1 ∧ PyData.strOk p.1 = true := fun p hp => by
  obtain ⟨h1, h2⟩ := words_in l [] line (by simp) p hp
  exact ⟨h1, (strOk_iff _).mpr fun c hc => (h2 c hc).elim (fun h => nomatch h) (hl c)⟩
theorem walkF_ok {lk : Str → Option Str} (hl : LkOk lk) : ∀ n t o d st, PyData.strOk t = true → PyData.strOk o = true → StOk st → StOk (walkF lk n t o d st)
  | 0, _, _, _, _, _, _, h => h
  | n + 1, t, o, d, st, ht, ho, h => by
    refine fold_ok _ _ (fun w hw st hs => ?_) h
    obtain ⟨h1, h2⟩ := words_ok (fun c hc => (List.mem_append.mp hc).elim ((strOk_iff t).mp ht c) fun e => by rw [List.mem_singleton.mp e]; decide) w hw
    exact wStep_ok hl (walkF_ok hl n) ho d hs h1 h2
/-- a frame of the reader: its name, the signs that are left, the line -/
structure PF where
  inf : Str
  rest : List Nat
  line : Nat
noncomputable def cont (lk : Str → Option Str) : List PF → WSt → WSt
  | [], st => st
  | f :: r, st => cont lk r ((wordsGo [] f.rest f.line).foldl (wStep lk (walkF lk (5 - r.length)) f.inf r.length) st)
noncomputable def nextP : List PF → Option (List Nat × PF × List PF)
  | [] => none
  | f :: r => match lexGo [] f.rest with
    | some p => some (p.1, ⟨f.inf, p.2, f.line + p.1.count 10⟩, r)
    | none => nextP r
theorem cont_none {lk : Str → Option Str} : ∀ {fs : List PF} {st : WSt}, nextP fs = none → cont lk fs st = st
  | [], _, _ => rfl
  | f :: r, st, h => by
    unfold nextP at h
    cases hg : lexGo [] f.rest with
    | some p => rw [hg] at h; cases h
    | none =>
      rw [hg] at h
      show cont lk r _ = _
      rw [words_none _ _ _ hg]
      exact cont_none h
theorem cont_some {lk : Str → Option Str} {wd : List Nat} {g : PF} {r : List PF} : ∀ {fs : List PF} {st : WSt}, nextP fs = some (wd, g, r) → cont lk fs st = cont lk (g :: r) (wStep lk (walkF lk (5 - r.length)) g.inf r.length st (⟨wd.toArray⟩, g.line))
  | [], _, h => nomatch h
  | f :: q, st, h => by
    unfold nextP at h
    cases hg : lexGo [] f.rest with
    | some p =>
      rw [hg] at h
      obtain ⟨wd', rest⟩ := p
      simp only [Option.some.injEq, Prod.mk.injEq] at h
      obtain ⟨rfl, rfl, rfl⟩ := h
      show cont lk q _ = cont lk q _
      rw [words_some _ _ _ hg]; rfl
    | none =>
      rw [hg] at h
      show cont lk q _ = _
      rw [words_none _ _ _ hg]
      exact cont_some h
/-- the row behind its last slash -/
noncomputable def rowC (row : List Str) : List Str := row.foldl (fun acc w => if w = Str.ofString "/" then [] else acc ++ [w]) []
theorem rowC_snoc (row : List Str) (w : Str) : rowC (row ++ [w]) = if w = Str.ofString "/" then [] else rowC row ++ [w] := by
  unfold rowC
  rw [List.foldl_append]; rfl
theorem rowC_in (row : List Str) : ∀ x ∈ rowC row, x ∈ row ∧ x ≠ Str.ofString "/" := by
  suffices h : ∀ (l acc : List Str), (∀ x ∈ acc, x ≠ Str.ofString "/") → ∀ x ∈ l.foldl (fun acc w => if w = Str.ofString "/" then [] else acc ++ [w]) acc, (x ∈ acc ∨ x ∈ l) ∧ x ≠ Str.ofString "/" by
    intro x hx
    obtain ⟨h1, h2⟩ := h row [] (fun _ h => nomatch h) x hx
    exact ⟨h1.elim (fun h => nomatch h) id, h2⟩
  intro l
  induction l with
  | nil => exact fun acc ha x hx => ⟨.inl hx, ha x hx⟩
  | cons a l ih =>
    intro acc ha x hx
    rw [List.foldl_cons] at hx
    by_cases h : a = Str.ofString "/"
    · rw [if_pos h] at hx
      obtain ⟨h1, h2⟩ := ih [] (fun _ h => nomatch h) x hx
      exact ⟨h1.elim (fun h => nomatch h) (fun h => .inr (.tail _ h)), h2⟩
    · rw [if_neg h] at hx
      obtain ⟨h1, h2⟩ := ih (acc ++ [a]) (fun y hy => (List.mem_append.mp hy).elim (ha y) fun e => by rw [List.mem_singleton.mp e]; exact h) x hx
      refine ⟨h1.elim (fun h => ?_) (fun h => .inr (.tail _ h)), h2⟩
      rcases List.mem_append.mp h with h | h
      · exact .inl h
      · rw [List.mem_singleton.mp h]; exact .inr (.head _)
noncomputable def RowOk (row : List Str) : Prop := ∀ x ∈ row, Good x ∨ x = Str.ofString "/"
theorem rowC_good {row : List Str} (h : RowOk row) : ∀ x ∈ rowC row, Good x := fun x hx => by
  obtain ⟨h1, h2⟩ := rowC_in row x hx
  exact (h x h1).resolve_right h2
theorem slash_here : Str.ofString "/" = hereOf [] := by decide +kernel
/-- joined behind the root: the row behind its last slash -/
theorem join_row : ∀ row : List Str, RowOk row → row.foldl joinStep (Str.ofString "/") = hereOf (rowC row) := by
  suffices h : ∀ (l acc : List Str), RowOk l → (∀ x ∈ acc, Good x) → l.foldl joinStep (hereOf acc) = hereOf (l.foldl (fun acc w => if w = Str.ofString "/" then [] else acc ++ [w]) acc) by
    intro row hr
    have := h row [] hr (fun _ h => nomatch h)
    rw [← slash_here] at this
    exact this
  intro l
  induction l with
  | nil => intro acc _ _; rfl
  | cons a l ih =>
    intro acc hl ha
    rw [List.foldl_cons, List.foldl_cons]
    by_cases h : a = Str.ofString "/"
    · rw [if_pos h, show joinStep (hereOf acc) a = hereOf [] by
        unfold joinStep
        rw [if_pos (.inl (by rw [h]; decide +kernel)), h, slash_here]]
      exact ih [] (fun x hx => hl x (.tail _ hx)) (fun _ h => nomatch h)
    · have hg : Good a := (hl a (.head _)).resolve_right h
      rw [if_neg h, join_here ha hg]
      exact ih _ (fun x hx => hl x (.tail _ hx)) fun x hx => (List.mem_append.mp hx).elim (ha x) fun e => by rw [List.mem_singleton.mp e]; exact hg
/-- the pieces of a joined row -/
theorem split_join {c : Nat} : ∀ (l m : List Str), l ≠ [] → m ≠ [] → (∀ x ∈ l, c ∉ sg x) → (∀ x ∈ m, c ∉ sg x) → sg (Str.join ⟨#[c]⟩ l) = sg (Str.join ⟨#[c]⟩ m) → l = m := by
  have key : ∀ (a b r q : List Nat), c ∉ a → c ∉ b → a ++ c :: r = b ++ c :: q → a = b ∧ r = q := by
    intro a
    induction a with
    | nil =>
      intro b r q _ hb h
      cases b with
      | nil => exact ⟨rfl, (List.cons.inj h).2⟩
      | cons d b => exact absurd (by rw [(List.cons.inj h).1]; exact .head _) hb
    | cons d a ih =>
      intro b r q ha hb h
      cases b with
      | nil => exact absurd (by rw [← (List.cons.inj h).1]; exact .head _) ha
      | cons e b =>
        obtain ⟨h1, h2⟩ := List.cons.inj h
        obtain ⟨h3, h4⟩ := ih b r q (fun h => ha (.tail _ h)) (fun h => hb (.tail _ h)) h2
        exact ⟨by rw [h1, h3], h4⟩
  have hsep : sg ⟨#[c]⟩ = [c] := rfl
  intro l
  induction l with
  | nil => intro m h; exact absurd rfl h
  | cons a l ih =>
    intro m _ hm hl hm' h
    cases m with
    | nil => exact absurd rfl hm
    | cons b m =>
      cases l with
      | nil =>
        cases m with
        | nil => exact congrArg (fun x => [x]) (sg_inj h)
        | cons d m =>
          exfalso
          refine hl a (.head _) ?_
          have h' : sg a = sg (b ++ ⟨#[c]⟩ ++ Str.join ⟨#[c]⟩ (d :: m)) := h
          rw [h', sg_append, sg_append, hsep]
          simp
      | cons e l =>
        cases m with
        | nil =>
          exfalso
          refine hm' b (.head _) ?_
          have h' : sg (a ++ ⟨#[c]⟩ ++ Str.join ⟨#[c]⟩ (e :: l)) = sg b := h
          rw [← h', sg_append, sg_append, hsep]
          simp
        | cons d m =>
          have h' : sg (a ++ ⟨#[c]⟩ ++ Str.join ⟨#[c]⟩ (e :: l)) = sg (b ++ ⟨#[c]⟩ ++ Str.join ⟨#[c]⟩ (d :: m)) := h
          rw [sg_append, sg_append, sg_append, sg_append, hsep] at h'
          simp only [List.append_assoc, List.singleton_append] at h'
          obtain ⟨h1, h2⟩ := key _ _ _ _ (hl a (.head _)) (hm' b (.head _)) h'
          rw [sg_inj h1, ih (d :: m) (by simp) (by simp) (fun x hx => hl x (.tail _ hx)) (fun x hx => hm' x (.tail _ hx)) h2]
theorem split_names {names : List Str} (h : ∀ x ∈ names, Good x) : (Txt.split (Txt.join (Str.ofString "/") names) (Str.ofString "/")).foldl normStep [] = names.foldl normStep [] := by
  by_cases hn : names = []
  · subst hn; decide +kernel
  · rw [split_join (c := 47) (Txt.split (Txt.join (Str.ofString "/") names) (Str.ofString "/")) names (split_ne _ _) hn (split_slash _) (fun x hx => (h x hx).2) ?_]
    rw [← slash_one, StrLaws.join_split, join_eq]
/-- joined with nothing: a slash at its end -/
theorem push_sg (t : Str) : EndsOk (sg (joinStep t (Str.ofString ""))) ∧ (sg (joinStep t (Str.ofString ""))).length ≤ t.length + 1 ∧ ∀ line, wordsGo [] (sg (joinStep t (Str.ofString ""))) line = wordsGo [] (sg t ++ [47]) line := by
  have e0 : sg (Str.ofString "") = [] := by decide +kernel
  unfold joinStep
  by_cases h : t = Str.ofString ""
  · subst h
    rw [if_pos (.inr rfl), e0]
    exact ⟨fun x hx => (nomatch hx), Nat.zero_le _, fun line => rfl⟩
  · rw [if_neg (fun h' => h'.elim (fun e => by rw [starts_slash, e0] at e; cases e) h)]
    by_cases he : (sg t).getLast? = some 47
    · rw [if_pos (by rw [ends_slash]; exact decide_eq_true he), sg_append, e0, List.append_nil]
      have hE : EndsOk (sg t) := fun x hx => Option.some.inj (hx.symm.trans he)
      exact ⟨hE, by rw [sg_len]; omega, fun line => (words_more _ [] line hE (fun _ => rfl)).symm⟩
    · rw [if_neg (by rw [ends_slash, decide_eq_true_eq]; exact he), sg_append, sg_append, e0, List.append_nil, sg_slash]
      exact ⟨fun x hx => by simpa using hx.symm, by rw [List.length_append, sg_len]; exact Nat.le_refl _, fun line => rfl⟩
noncomputable def rowW (row : List Str) : Nat := (row.map fun x => x.length + 1).sum
noncomputable def restW (fs : List PF) : Nat := (fs.map fun f => f.rest.length).sum
structure RInv (lk : Str → Option Str) (FIN : WSt) (fs : List PF) (st : WSt) (row : List Str) : Prop where
  eq : cont lk fs st = FIN
  deep : st.left + fs.length ≤ 6
  good : ∀ x ∈ st.names, Good x
  rows : RowOk row
  norm : (rowC row).foldl normStep [] = st.names
  small : wt st + rowW row + 3 * restW fs ≤ 20000
  frames : ∀ f ∈ fs, f.inf.length ≤ 20001 ∧ f.line + f.rest.length ≤ 20000
theorem next_sub {wd : List Nat} {g : PF} {r : List PF} : ∀ {fs : List PF}, nextP fs = some (wd, g, r) → (wd ≠ [] ∧ 47 ∉ wd) ∧ r.length < fs.length ∧ restW (g :: r) + wd.length + 1 ≤ restW fs ∧ (∀ N M, (∀ f ∈ fs, f.inf.length ≤ N ∧ f.line + f.rest.length ≤ M) → ∀ f ∈ g :: r, f.inf.length ≤ N ∧ f.line + f.rest.length ≤ M)
  | [], h => nomatch h
  | f :: q, h => by
    unfold nextP at h
    cases hg : lexGo [] f.rest with
    | some p =>
      rw [hg] at h
      obtain ⟨wd', rest⟩ := p
      simp only [Option.some.injEq, Prod.mk.injEq] at h
      obtain ⟨rfl, rfl, rfl⟩ := h
      obtain ⟨h1, h2, h3, -, -, -⟩ := lex_good _ _ (by simp) hg
      have hc : wd'.count 10 ≤ wd'.length := List.count_le_length
      refine ⟨⟨h1, h2⟩, Nat.lt_succ_self _, ?_, fun N M hf f' hf' => ?_⟩
      · simp only [restW, List.map_cons, List.sum_cons, List.length_nil] at h3 ⊢; omega
      · rcases List.mem_cons.mp hf' with rfl | hf'
        · have := hf f (.head _)
          simp only [List.length_nil] at h3
          exact ⟨this.1, by show f.line + _ + rest.length ≤ M; omega⟩
        · exact hf f' (.tail _ hf')
    | none =>
      rw [hg] at h
      obtain ⟨h1, h2, h3, h4⟩ := next_sub h
      refine ⟨h1, Nat.lt_succ_of_lt h2, ?_, fun N M hf => h4 N M fun f' hf' => hf f' (.tail _ hf')⟩
      have : restW (f :: q) = f.rest.length + restW q := rfl
      omega
theorem row_up {row : List Str} {names : List Str} {w : Str} (h : RowOk row) (hn : (rowC row).foldl normStep [] = names) (hw : Good w) :
    RowOk (row ++ [w]) ∧ (rowC (row ++ [w])).foldl normStep [] = normStep names w ∧ rowW (row ++ [w]) = rowW row + (w.length + 1) := by
  refine ⟨fun x hx => (List.mem_append.mp hx).elim (h x) fun e => .inl (by rw [List.mem_singleton.mp e]; exact hw), ?_, by simp [rowW]⟩
  have hne : w ≠ Str.ofString "/" := by rintro rfl; exact hw.2 (by decide +kernel)
  rw [rowC_snoc, if_neg hne, List.foldl_append, hn]; rfl
theorem good_dot : Good (Str.ofString ".") := ⟨by decide +kernel, by decide +kernel⟩
theorem good_up : Good (Str.ofString "..") := ⟨by decide +kernel, by decide +kernel⟩
section
variable {lk : Str → Option Str} {FIN : WSt} {fs : List PF} {st : WSt} {row : List Str} {wd : List Nat} {g : PF} {r : List PF}
theorem good_word (hx : nextP fs = some (wd, g, r)) : Good ⟨wd.toArray⟩ := (next_sub hx).1
theorem inv_eq (I : RInv lk FIN fs st row) (hx : nextP fs = some (wd, g, r)) {st' : WSt} (h : wStep lk (walkF lk (5 - r.length)) g.inf r.length st (⟨wd.toArray⟩, g.line) = st') : cont lk (g :: r) st' = FIN := by
  rw [← I.eq, cont_some hx, h]
theorem inv_up (I : RInv lk FIN fs st row) (hx : nextP fs = some (wd, g, r)) (hw : (⟨wd.toArray⟩ : Str) = Str.ofString "..") :
    RInv lk FIN (g :: r) ⟨st.names.dropLast, st.left, st.told ++ [toldOf ⟨wd.toArray⟩ g.inf g.line r.length st.names]⟩ (row ++ [⟨wd.toArray⟩]) := by
  have hg := good_word hx
  obtain ⟨-, n1, n2, n3⟩ := next_sub hx
  obtain ⟨r1, r2, r3⟩ := row_up I.rows I.norm hg
  refine ⟨inv_eq I hx (step_up hw), ?_, fun x hx => I.good x (drop_in x hx), r1, ?_, ?_, n3 _ _ I.frames⟩
  · have := I.deep; simp only [List.length_cons] at *; omega
  · rw [r2, hw]; rfl
  · have h1 := I.small
    have h2 := names_drop st.names
    rw [r3, length_mk]
    simp only [wt, List.length_append, List.length_cons, List.length_nil] at *; omega
theorem inv_dot (I : RInv lk FIN fs st row) (hx : nextP fs = some (wd, g, r)) (hw : (⟨wd.toArray⟩ : Str) = Str.ofString ".") :
    RInv lk FIN (g :: r) ⟨st.names, st.left, st.told ++ [toldOf ⟨wd.toArray⟩ g.inf g.line r.length st.names]⟩ (row ++ [⟨wd.toArray⟩]) := by
  have hg := good_word hx
  obtain ⟨-, n1, n2, n3⟩ := next_sub hx
  obtain ⟨r1, r2, r3⟩ := row_up I.rows I.norm hg
  refine ⟨inv_eq I hx (step_dot hw), ?_, I.good, r1, ?_, ?_, n3 _ _ I.frames⟩
  · have := I.deep; simp only [List.length_cons] at *; omega
  · rw [r2, hw]; rfl
  · have h1 := I.small
    rw [r3, length_mk]
    simp only [wt, List.length_append, List.length_cons, List.length_nil] at *; omega
theorem inv_name (I : RInv lk FIN fs st row) (hx : nextP fs = some (wd, g, r)) (h1 : (⟨wd.toArray⟩ : Str) ≠ Str.ofString "..") (h2 : (⟨wd.toArray⟩ : Str) ≠ Str.ofString ".") (h3 : lk (hereOf (st.names ++ [⟨wd.toArray⟩])) = none ∨ st.left = 0) :
    RInv lk FIN (g :: r) ⟨st.names ++ [⟨wd.toArray⟩], st.left, st.told ++ [toldOf ⟨wd.toArray⟩ g.inf g.line r.length st.names]⟩ (row ++ [⟨wd.toArray⟩]) := by
  have hg := good_word hx
  obtain ⟨-, n1, n2, n3⟩ := next_sub hx
  obtain ⟨r1, r2, r3⟩ := row_up I.rows I.norm hg
  refine ⟨inv_eq I hx (step_name h1 h2 h3), ?_, fun x hx => (List.mem_append.mp hx).elim (I.good x) fun e => by rw [List.mem_singleton.mp e]; exact hg, r1, ?_, ?_, n3 _ _ I.frames⟩
  · have := I.deep; simp only [List.length_cons] at *; omega
  · rw [r2]
    unfold normStep
    rw [if_neg (fun h => h.elim (fun e => hg.1 ((empty_iff _).mp e)) h2), if_neg h1]
  · have h1 := I.small
    rw [r3, length_mk]
    have : (Str.mk wd.toArray).length = wd.length := length_mk _
    simp only [wt, List.length_append, List.length_cons, List.length_nil, List.map_append, List.sum_append, List.map_cons, List.map_nil, List.sum_cons, List.sum_nil] at *; omega
theorem join_len2 (l : List Str) : (hereOf l).length ≤ 1 + (l.map fun x => x.length + 1).sum := by
  unfold hereOf
  rw [Str.length_append, join_eq]
  have h0 : (Str.ofString "/").length = 1 := by decide +kernel
  have h1 := StrLaws.join_length_le (Str.ofString "/") l
  have h2 : (l.map fun x => x.length + 1).sum = (l.map (·.length)).sum + l.length := by
    induction l with
    | nil => rfl
    | cons a l ih =>
      have := StrLaws.join_length_le (Str.ofString "/") l
      simp only [List.map_cons, List.sum_cons, List.length_cons] at ih ⊢
      have := ih this
      omega
  rw [h0] at *
  omega
theorem inv_link (hl : LkOk lk) (I : RInv lk FIN fs st row) (hx : nextP fs = some (wd, g, r)) (h1 : (⟨wd.toArray⟩ : Str) ≠ Str.ofString "..") (h2 : (⟨wd.toArray⟩ : Str) ≠ Str.ofString ".") {t : Str} {l : Nat} (h3 : lk (hereOf (st.names ++ [⟨wd.toArray⟩])) = some t) (h4 : st.left = l + 1) :
    RInv lk FIN (⟨hereOf (st.names ++ [⟨wd.toArray⟩]), sg (joinStep t (Str.ofString "")), 1⟩ :: g :: r) ⟨startOf t st.names, l, st.told ++ [toldOf ⟨wd.toArray⟩ g.inf g.line r.length st.names]⟩ (row ++ [if Txt.startswith t (Str.ofString "/") = true then Str.ofString "/" else Str.ofString "."]) := by
  have hg := good_word hx
  obtain ⟨-, n1, n2, n3⟩ := next_sub hx
  obtain ⟨p1, p2, p3⟩ := push_sg t
  have hd := I.deep
  have hs := I.small
  have ht := (hl _ _ h3).1
  have hlen : (Str.mk wd.toArray).length = wd.length := length_mk _
  have e5 : 5 - r.length = (5 - (g :: r).length) + 1 := by simp only [List.length_cons] at *; omega
  refine ⟨?_, ?_, fun x hx => I.good x (start_in x hx), ?_, ?_, ?_, ?_⟩
  · refine Eq.trans ?_ (inv_eq I hx (step_link h1 h2 h3 h4))
    show cont lk (g :: r) (List.foldl _ _ (wordsGo [] (sg (joinStep t (Str.ofString ""))) 1)) = _
    rw [p3, e5]; rfl
  · simp only [List.length_cons] at *; omega
  · by_cases ha : Txt.startswith t (Str.ofString "/") = true
    · rw [if_pos ha]
      exact fun x hx => (List.mem_append.mp hx).elim (I.rows x) fun e => .inr (List.mem_singleton.mp e)
    · rw [if_neg ha]; exact (row_up I.rows I.norm good_dot).1
  · unfold startOf
    by_cases ha : Txt.startswith t (Str.ofString "/") = true
    · rw [if_pos ha, if_pos ha, rowC_snoc, if_pos rfl]; rfl
    · rw [if_neg ha, if_neg ha, (row_up I.rows I.norm good_dot).2.1]; rfl
  · have q1 := start_sum t st.names
    have q2 : rowW (row ++ [if Txt.startswith t (Str.ofString "/") = true then Str.ofString "/" else Str.ofString "."]) = rowW row + 2 := by
      have a1 : (Str.ofString "/").length = 1 := by decide +kernel
      have a2 : (Str.ofString ".").length = 1 := by decide +kernel
      by_cases ha : Txt.startswith t (Str.ofString "/") = true
      · rw [if_pos ha]; simp [rowW, a1]
      · rw [if_neg ha]; simp [rowW, a2]
    have q3 : restW (⟨hereOf (st.names ++ [⟨wd.toArray⟩]), sg (joinStep t (Str.ofString "")), 1⟩ :: g :: r) = (sg (joinStep t (Str.ofString ""))).length + restW (g :: r) := rfl
    rw [q2, q3]
    simp only [wt, List.length_append, List.length_cons, List.length_nil] at *; omega
  · intro f hf
    rcases List.mem_cons.mp hf with rfl | hf
    · have q := join_len2 (st.names ++ [⟨wd.toArray⟩])
      simp only [wt, List.length_append, List.length_cons, List.length_nil, List.map_append, List.sum_append, List.map_cons, List.map_nil, List.sum_cons, List.sum_nil] at *
      refine ⟨?_, ?_⟩
      · show (hereOf _).length ≤ _
        omega
      · show 1 + (sg _).length ≤ _
        omega
    · exact n3 _ _ I.frames f hf
theorem inv_end (I : RInv lk FIN fs st row) (hx : nextP fs = none) : st = FIN := by rw [← I.eq, cont_none hx]
end
theorem inv_start (lk : Str → Option Str) {path : Str} (hE : EndsOk (sg path)) (hl : path.length ≤ 1000) : RInv lk (walkF lk 6 path (Str.ofString "") 0 ⟨[], 5, []⟩) [⟨Str.ofString "", sg path, 1⟩] ⟨[], 5, []⟩ [] := by
  have h0 := sg_len path
  refine ⟨?_, Nat.le_refl 6, fun x h => (nomatch h), fun x h => (nomatch h), rfl, ?_, ?_⟩
  · show List.foldl _ _ (wordsGo [] (sg path) 1) = List.foldl _ _ (wordsGo [] (sg path ++ [47]) 1)
    rw [words_more _ [] 1 hE (fun _ => rfl)]; rfl
  · simp only [wt, rowW, restW, List.map_nil, List.sum_nil, List.length_nil, List.map_cons, List.sum_cons]
    omega
  · intro f hf
    rw [List.mem_singleton.mp hf]
    refine ⟨by show (Str.ofString "").length ≤ _; decide +kernel, ?_⟩
    show 1 + (sg path).length ≤ _
    omega
/-- the row joined and made straight is where the walk stands -/
theorem norm_slice (l : List Str) (h : ∀ x ∈ l, Good x) : (Txt.slice (hereOf l) none (some 1) != Str.ofString "/") = false ∧ (Txt.slice (hereOf l) (some 1) (some 2) != Str.ofString "/") = true ∧ Txt.slice (hereOf l) (some 1) none = Txt.join (Str.ofString "/") l := by
  have hs : sg (hereOf l) = 47 :: sg (Txt.join (Str.ofString "/") l) := by unfold hereOf; rw [sg_append, sg_slash]; rfl
  have hlen : (hereOf l).length = 1 + (sg (Txt.join (Str.ofString "/") l)).length := by rw [← sg_len, hs, List.length_cons]; omega
  refine ⟨?_, ?_, ?_⟩
  · have e : Txt.slice (hereOf l) none (some 1) = Str.ofString "/" := by
      rw [show (1 : Int) = ((1 : Nat) : Int) from rfl, slice_to (by omega)]
      refine sg_inj ?_
      show (sg (hereOf l)).take 1 = _
      rw [hs, sg_slash]; rfl
    rw [e]; decide +kernel
  · cases l with
    | nil => decide +kernel
    | cons a r =>
      obtain ⟨g1, g2⟩ := h a (.head _)
      obtain ⟨c, q, hq⟩ : ∃ c q, sg a = c :: q := by
        cases e : sg a with
        | nil => exact absurd e g1
        | cons c q => exact ⟨c, q, rfl⟩
      obtain ⟨q', hq'⟩ : ∃ q', sg (Txt.join (Str.ofString "/") (a :: r)) = c :: q' := by
        rw [join_eq]
        cases r with
        | nil => exact ⟨q, hq⟩
        | cons b r =>
          refine ⟨q ++ sg (Str.ofString "/") ++ sg (Str.join (Str.ofString "/") (b :: r)), ?_⟩
          show sg (a ++ Str.ofString "/" ++ Str.join (Str.ofString "/") (b :: r)) = _
          rw [sg_append, sg_append, hq]; rfl
      rw [hq'] at hs hlen
      have e : Txt.slice (hereOf (a :: r)) (some 1) (some 2) = ⟨[c].toArray⟩ := by
        rw [show (1 : Int) = ((1 : Nat) : Int) from rfl, show (2 : Int) = ((2 : Nat) : Int) from rfl, slice_nat _ (by decide) (by rw [hlen, List.length_cons]; omega)]
        show (⟨(((sg (hereOf (a :: r))).drop 1).take 1).toArray⟩ : Str) = _
        rw [hs]; rfl
      rw [e]
      refine bne_iff_ne.mpr fun e2 => g2 ?_
      have e3 : ([c] : List Nat) = [47] := (congrArg sg e2).trans sg_slash
      rw [hq, (List.cons.inj e3).1]; exact .head _
  · refine sg_inj ?_
    have e : Txt.slice (hereOf l) (some 1) none = _ := PySem.StrLaws.sliceText_from (x := hereOf l) (i := 1) ⟨by decide, by show (1 : Int) ≤ ((sg (hereOf l)).length : Nat); rw [hs, List.length_cons]; omega⟩
    rw [e]
    show ((sg (hereOf l)).drop 1).take (((sg (hereOf l)).length : Int) - 1).toNat = _
    rw [hs, List.drop_succ_cons, List.drop_zero, List.take_of_length_le (by simp)]
end P16
section P17
theorem off17 : True := by
  w_top off
  trivial
section
variable {prog : Program} {w : World} {A : Around} {E : Value → Shared → Prop} {s : Shared} {env : Env} {h₀ : Heap} {x : Str} {body : List Stmt} {Q : Flow → Shared → Prop}
theorem list_loopS {l : Addr} {vs : List Value} {nn : Nat} {m₀ : Str → Option Value} {news : Led} (n0 : Led) (J : Nat → (Str → Option Value) → Led → Prop) (stored : List Str)
    (hh : A.handled = none) (F : Fr h₀ env.locals s.heap m₀) (N : News h₀ env.locals s.heap news) (hs : ∀ p ∈ n0, p ∈ news) (hl : (l, listOf vs.toArray nn) ∈ n0) (hj : J 0 m₀ n0)
    (turn : ∀ i v m₁ nx h tk own, vs[i]? = some v → OwnOff own (nx.map (·.1)) → (l, listOf vs.toArray nn) ∈ nx → J i m₁ nx → (∀ z, z ≠ x → stored.contains z = false → m₁ z = m₀ z) → Fr h₀ env.locals h (fun y => if y = x then some v else m₁ y) → News h₀ env.locals h (nx ++ own) →
      wpAny (model prog w) A (execs body env) (InvPostG h₀ env.locals (fun m' nx => (l, listOf vs.toArray nn) ∈ nx ∧ J (i + 1) m' nx ∧ ∀ z, z ≠ x → stored.contains z = false → m' z = m₀ z) own { s with heap := h, toks := tk } Q) E { s with heap := h, toks := tk })
    (done : ∀ m₁ nx h tk, J vs.length m₁ nx → (∀ z, z ≠ x → stored.contains z = false → m₁ z = m₀ z) → Fr h₀ env.locals h m₁ → News h₀ env.locals h nx → Q .next { s with heap := h, toks := tk }) :
    wpAny (model prog w) A (pyIter (.ref l)) (fun it s₂ => LoopAtV prog w A h₀ env x body Q E it s₂) E s := by
  refine kdl_iter (news := n0) (fun i m nx => J i m nx ∧ ∀ z, z ≠ x → stored.contains z = false → m z = m₀ z) hh hl F (fun p hp => N p (hs p hp)) ⟨hj, fun _ _ _ => rfl⟩ ?_ ?_
  · intro i v m₁ nx h tk own hv ho hm hJ F₁ N₁
    exact turn i v m₁ nx h tk own hv ho hm hJ.1 hJ.2 F₁ N₁
  · intro m₁ nx h tk hJ F₁ N₁
    exact done m₁ nx h tk hJ.1 hJ.2 F₁ N₁
end
/- a slice of a made list -/
theorem pick_upto (vs : List Value) (j : Nat) {y : Int} (hy : y = (j : Int)) : slicePick vs.toArray none (some y) none = (vs.take j).toArray := by
  subst hy
  have e : sliceBounds none (some (j : Int)) none vs.toArray.size = (((0 : Nat) : Int), ((min j vs.toArray.size : Nat) : Int), 1) := by
    simp only [sliceBounds, Option.getD_none, show (1 : Int) > 0 by decide, if_true, if_neg (show ¬ ((j : Int) < 0) by omega)]
    congr 1
    congr 1
    omega
  rw [kmk_pick_nat _ e]
  show ((vs.drop 0).take (min j vs.toArray.size - 0)).toArray = _
  rw [List.drop_zero, Nat.sub_zero, List.size_toArray, kmk_take_min]
theorem pick_back (vs : List Value) : slicePick vs.toArray none (some (-1)) none = vs.dropLast.toArray := by
  have e : sliceBounds none (some (-1)) none vs.toArray.size = (((0 : Nat) : Int), ((vs.toArray.size - 1 : Nat) : Int), 1) := by
    simp only [sliceBounds, Option.getD_none, show (1 : Int) > 0 by decide, if_true, if_pos (show (-1 : Int) < 0 by decide)]
    congr 1
    congr 1
    omega
  rw [kmk_pick_nat _ e]
  show ((vs.drop 0).take (vs.toArray.size - 1 - 0)).toArray = _
  rw [List.drop_zero, Nat.sub_zero, List.size_toArray, List.dropLast_eq_take]
theorem strs_dropLast {vs : List Value} {xs : List Str} (h : StrsAre vs xs) : StrsAre vs.dropLast xs.dropLast := by
  rw [List.dropLast_eq_take, List.dropLast_eq_take, h.length]
  exact h.take' _
section
variable {prog : Program} {w : World} {A : Around} {E : Value → Shared → Prop} {s : Shared} {h₀ : Heap} {L l : Addr} {m : Str → Option Value} {news : Led} {value slice : PySem.Expr} {vs : List Value} {n : Nat} {vl vu : Value} {Q : Value → Shared → Prop}
theorem slice_upto {y : Int} {t : Tok} (j : Nat) (F : Fr h₀ L s.heap m) (N : News h₀ L s.heap news) (hl : (l, listOf vs.toArray n) ∈ news) (hz : vs.length ≤ 100000) (hy : y = (j : Int))
    (h : ∀ D h', Fr h₀ L h' m → News h₀ L h' ((D, listOf (vs.take j).toArray 0) :: news) → (∀ p ∈ news, p.1 < D) → Q (.ref D) { s with heap := h' })
    (hs : subscripted slice false (.ref l) (.ref s.heap.objs.size) = operate [.ref s.heap.objs.size, .ref l] (getItem (.ref l) (.ref s.heap.objs.size))) (ht : ∀ r, letTemporaryGo value (.ref l) r = pure ()) :
    wpAny (model prog w) A (subscriptTail value slice (.ref l) (.ref s.heap.objs.size)) Q E { s with heap := s.heap.push { cls := .type "slice", data := .fields #[.none, .int y t, .none] } } := by
  refine kmk_slice F N (News.isList N hl) IsPart.none (IsPart.int y t) (fun D h' F' N' l1 => h D h' F' ?_ l1) hs ht (by rw [List.size_toArray, sizeLine_eq]; omega)
  rw [pick_upto vs j hy] at N'
  exact N'
theorem slice_last {t : Tok} (F : Fr h₀ L s.heap m) (N : News h₀ L s.heap news) (hl : (l, listOf vs.toArray n) ∈ news) (hz : vs.length ≤ 100000)
    (h : ∀ D h', Fr h₀ L h' m → News h₀ L h' ((D, listOf vs.dropLast.toArray 0) :: news) → (∀ p ∈ news, p.1 < D) → Q (.ref D) { s with heap := h' })
    (hs : subscripted slice false (.ref l) (.ref s.heap.objs.size) = operate [.ref s.heap.objs.size, .ref l] (getItem (.ref l) (.ref s.heap.objs.size))) (ht : ∀ r, letTemporaryGo value (.ref l) r = pure ()) :
    wpAny (model prog w) A (subscriptTail value slice (.ref l) (.ref s.heap.objs.size)) Q E { s with heap := s.heap.push { cls := .type "slice", data := .fields #[.none, .int (-1) t, .none] } } := by
  refine kmk_slice F N (News.isList N hl) IsPart.none (IsPart.int (-1) t) (fun D h' F' N' l1 => h D h' F' ?_ l1) hs ht (by rw [List.size_toArray, sizeLine_eq]; omega)
  rw [pick_back vs] at N'
  exact N'
theorem cat_made {l b : Addr} {vs ws : List Value} {n k : Nat} (F : Fr h₀ L s.heap m) (N : News h₀ L s.heap news) (hl : (l, listOf vs.toArray n) ∈ news) (hb : (b, listOf ws.toArray k) ∈ news) (hz : vs.length + ws.length ≤ 100000)
    (h : ∀ D h', Fr h₀ L h' m → News h₀ L h' ((D, listOf (vs ++ ws).toArray 0) :: news) → (∀ p ∈ news, p.1 < D) → Q (.ref D) { s with heap := h' }) :
    wpAny (model prog w) A (binaryOp .Add (.ref l) (.ref b)) Q E s :=
  add_lists F N (News.isList N hl) (News.isList N hb) (fun h' F' N' => h _ h' F' N' fun p hp => Heap.lt_size (N p hp).1) (by rw [sizeLine_eq]; omega)
theorem strs_at {vs : List Value} {xs : List Str} {u : Tok} {k : Nat} {c : Str} (N : News h₀ L s.heap news) (hm : (l, listOf vs.toArray n) ∈ news) (hv : StrsAre vs xs) (hc : xs[k]? = some c) (hz : xs.length ≤ 100000) (h : ∀ t, Q (.str c t) s)
    (hs : subscripted slice false (.ref l) (.int (k : Int) u) = operate [.ref l, .int (k : Int) u] (getItem (.ref l) (.int (k : Int) u)) := by with_unfolding_all rfl) : wpAny (model prog w) A (subscriptTail value slice (.ref l) (.int (k : Int) u)) Q E s := by
  have hl : s.heap.IsList l vs.toArray := ⟨_, (N _ hm).1, rfl, n, rfl⟩
  obtain ⟨t, ht⟩ := hv.at hc
  have hk : k < xs.length := (List.getElem?_eq_some_iff.mp hc).1
  exact subscriptTail_builtinR hl.typeIs slot_list_getitem.lookup (wpAny_getItem_list (Q := fun r s' => r = _ ∧ Q r s') hl (by omega) (by omega) (by simpa using ht) ⟨rfl, h t⟩) hs
theorem len_made {Q : Value → Shared → Prop} (N : News h₀ L s.heap news) (hm : (l, listOf vs.toArray n) ∈ news) (hz : vs.length ≤ 100000) (h : ∀ t k, Q (.int (vs.length : Int) t) { s with toks := k }) : wpAny (model prog w) A (call (.builtin "len") [.ref l]) Q E s := by
  have hl : s.heap.IsList l vs.toArray := ⟨_, (N _ hm).1, rfl, n, rfl⟩
  have e : vs.toArray.size = vs.length := List.size_toArray
  exact len_list hl (by rw [e]; omega) (by rw [e]; exact h _ _)
end
/- the links: a dict of texts by texts -/
noncomputable def dD (c : List (Str × Str)) : List (PyData × PyData) := c.map fun p => (PyData.str p.1, PyData.str p.2)
noncomputable def dPut (c : List (Str × Str)) (k v : Str) : List (Str × Str) :=
  if c.any (fun p => decide (p.1 = k)) then c.map (fun p => if decide (p.1 = k) then (p.1, v) else p) else c ++ [(k, v)]
noncomputable def lkC (c : List (Str × Str)) (k : Str) : Option Str := (c.find? fun p => decide (p.1 = k)).map (·.2)
theorem dPut_len (c : List (Str × Str)) (k v : Str) : (dPut c k v).length ≤ c.length + 1 := by
  unfold dPut
  split
  · rw [List.length_map]; omega
  · rw [List.length_append]; simp
theorem dPut_in {c : List (Str × Str)} {k v : Str} : ∀ p ∈ dPut c k v, p.2 = v ∨ p ∈ c := by
  unfold dPut
  split
  · intro p hp
    obtain ⟨q, hq, rfl⟩ := List.mem_map.mp hp
    by_cases h : decide (q.1 = k) = true
    · rw [if_pos h]; exact .inl rfl
    · rw [if_neg h]; exact .inr hq
  · intro p hp
    rcases List.mem_append.mp hp with h | h
    · exact .inr h
    · rw [List.mem_singleton.mp h]; exact .inl rfl
theorem dD_any (c : List (Str × Str)) (k : Str) : ((dD c).any fun p => PySem.Spec.same p.1 (PyData.str k)) = c.any fun p => decide (p.1 = k) := by
  induction c with
  | nil => rfl
  | cons p c ih =>
    show (PySem.Spec.same (PyData.str p.1) (PyData.str k) || (dD c).any fun p => PySem.Spec.same p.1 (PyData.str k)) = (decide (p.1 = k) || c.any fun p => decide (p.1 = k))
    rw [ih, PyProof.V.same_str]
theorem dD_put (c : List (Str × Str)) (k v : Str) : PyProof.V.putD (PyData.str k) (PyData.str v) (dD c) = dD (dPut c k v) := by
  unfold PyProof.V.putD dPut
  rw [dD_any]
  by_cases hc : (c.any fun p => decide (p.1 = k)) = true
  · rw [if_pos hc, if_pos hc]
    unfold dD
    rw [List.map_map, List.map_map]
    refine List.map_congr_left fun p _ => ?_
    show (if PySem.Spec.same (PyData.str p.1) (PyData.str k) = true then (PyData.str p.1, PyData.str v) else (PyData.str p.1, PyData.str p.2)) = (fun p : Str × Str => (PyData.str p.1, PyData.str p.2)) (if decide (p.1 = k) = true then (p.1, v) else p)
    rw [PyProof.V.same_str]
    by_cases hp : p.1 = k
    · rw [if_pos (decide_eq_true hp), if_pos (decide_eq_true hp)]
    · rw [if_neg (by simp [hp]), if_neg (by simp [hp])]
  · rw [if_neg hc, if_neg hc]
    unfold dD
    rw [List.map_append]
    rfl
theorem dD_lookup (k : Str) : ∀ c : List (Str × Str), PySem.Spec.lookup (PyData.str k) (dD c) = (lkC c k).map PyData.str
  | [] => rfl
  | (i, v) :: c => by
    show (if PySem.Spec.same (PyData.str i) (PyData.str k) = true then some (PyData.str v) else PySem.Spec.lookup (PyData.str k) (dD c)) = _
    rw [PyProof.V.same_str, dD_lookup k c]
    unfold lkC
    rw [List.find?_cons]
    by_cases h : i = k
    · simp [h]
    · simp [h]
structure IsLinks (w : World) (d : Addr) (o : Obj) (c : List (Str × Str)) : Prop where
  low : (d == sysModules) = false
  tab : ∃ kvs, o.IsDictOf (PySem.strKind PySem.Challenge.rw_kl0188_01.row.prog w) kvs ∧ PyProof.V.FlatPairs PyData.str kvs (dD c)
section
variable {w : World} {A : Around} {E : Value → Shared → Prop} {s : Shared} {h₀ : Heap} {L d : Addr} {m : Str → Option Value} {news : Led} {o : Obj} {c : List (Str × Str)} {k v : Str} {tk tv : Tok}
theorem links_tab (N : News h₀ L s.heap news) (hm : (d, o) ∈ news) (K : IsLinks w d o c) : StrTab PySem.Challenge.rw_kl0188_01.row.prog w s.heap d (dD c) :=
  ⟨K.low, K.tab.choose, Heap.dictOf_iff.mpr ⟨o, N.get hm, K.tab.choose_spec.1⟩, K.tab.choose_spec.2⟩
theorem links_in {b : Bool} {Q : Value → Shared → Prop} (N : News h₀ L s.heap news) (hm : (d, o) ∈ news) (K : IsLinks w d o c) (hb : (lkC c k).isSome = b) (h : Q (.bool b) { s with toks := s.toks + 1 }) : wpAny (model PySem.Challenge.rw_kl0188_01.row.prog w) A (compareOp .In (.str k tk) (.ref d)) Q E s :=
  in_strTab (links_tab N hm K) (by rw [dD_lookup, Option.isSome_map, hb]; exact h)
theorem links_item {value slice : PySem.Expr} {t : Str} {Q : Value → Shared → Prop} (N : News h₀ L s.heap news) (hm : (d, o) ∈ news) (K : IsLinks w d o c) (hk : lkC c k = some t) (h : ∀ u, Q (.str t u) { s with toks := s.toks + 1 })
    (hs : subscripted slice false (.ref d) (.str k tk) = operate [.ref d, .str k tk] (getItem (.ref d) (.str k tk)) := by with_unfolding_all rfl) (hg : ∀ r, letTemporaryGo value (.ref d) r = pure () := by intro _; with_unfolding_all rfl) :
    wpAny (model PySem.Challenge.rw_kl0188_01.row.prog w) A (subscriptTail value slice (.ref d) (.str k tk)) Q E s :=
  item_strTab (links_tab N hm K) (by rw [dD_lookup, hk]; rfl) (fun v hv => by
    obtain ⟨u, rfl⟩ := PyProof.V.Flat.str_inv hv
    exact h u) hs hg
theorem links_set {u : Obj → Led} {Q : Unit → Shared → Prop} (F : Fr h₀ L s.heap m) (N : News h₀ L s.heap news) (U : UpdF d o news u) (K : IsLinks w d o c) (hc : c.length ≤ 100000)
    (h : ∀ h' o', Fr h₀ L h' m → News h₀ L h' (u o') → IsLinks w d o' (dPut c k v) → Q () { s with heap := h', toks := s.toks + 1 }) :
    wpAny (model PySem.Challenge.rw_kl0188_01.row.prog w) A (setItem (.ref d) (.str k tk) (.str v tv)) Q E s := by
  obtain ⟨lo, kvs, h1, h2⟩ := K
  exact setItem_K PyProof.V.same_str (strKind_is _ _ _ _) (PyProof.V.Flat.str v tv) F N U h1 h2 (fun h' o' F' N' a b => h h' o' F' N' ⟨lo, _, a, by rw [← dD_put]; exact b⟩) (by rw [show (dD c).length = c.length by unfold dD; rw [List.length_map], sizeLine_eq]; omega)
end
theorem news2 {P : Prop} {h₀ h : Heap} {L a b : Addr} {oa ob : Obj} {R : Led} (_ : News h₀ L h ((a, oa) :: (b, ob) :: R)) (k : ∀ a' b', a' = a → b' = b → P) : P := k a b rfl rfl
theorem pool_list {h₀ h : Heap} {L a b : Addr} {oa : Obj} {t1 t2 t3 t4 t5 t6 t7 : Tok} {x1 x2 x3 x4 x5 x6 x7 : Str} {R : Led} (_ : News h₀ L h ((a, oa) :: (b, listOf #[.str x1 t1, .str x2 t2, .str x3 t3, .str x4 t4, .str x5 t5, .str x6 t6, .str x7 t7] 0) :: R)) :
    ∃ pv, StrsAre pv [x1, x2, x3, x4, x5, x6, x7] ∧ #[Value.str x1 t1, .str x2 t2, .str x3 t3, .str x4 t4, .str x5 t5, .str x6 t6, .str x7 t7] = pv.toArray :=
  ⟨_, .cons _ _ (.cons _ _ (.cons _ _ (.cons _ _ (.cons _ _ (.cons _ _ (.cons _ _ .nil)))))), rfl⟩
theorem fr_as {h₀ h : Heap} {L : Addr} {m m' : Str → Option Value} (F : Fr h₀ L h m) (e : m = m') : Fr h₀ L h m' := e ▸ F
theorem strs_atI {prog : Program} {w : World} {A : Around} {E : Value → Shared → Prop} {s : Shared} {h₀ : Heap} {L l : Addr} {news : Led} {value slice : PySem.Expr} {n : Nat} {Q : Value → Shared → Prop} {vs : List Value} {xs : List Str} {u : Tok} {i : Int} (N : News h₀ L s.heap news) (hm : (l, listOf vs.toArray n) ∈ news) (hv : StrsAre vs xs) (h0 : 0 ≤ i) (h1 : i < (xs.length : Int)) (hz : xs.length ≤ 100000) (h : ∀ c t, c ∈ xs → Q (.str c t) s)
    (hs : subscripted slice false (.ref l) (.int i u) = operate [.ref l, .int i u] (getItem (.ref l) (.int i u)) := by with_unfolding_all rfl) : wpAny (model prog w) A (subscriptTail value slice (.ref l) (.int i u)) Q E s := by
  have hl : s.heap.IsList l vs.toArray := ⟨_, (N _ hm).1, rfl, n, rfl⟩
  have hk : i.toNat < xs.length := by omega
  obtain ⟨t, ht⟩ := hv.at (List.getElem?_eq_getElem hk)
  exact subscriptTail_builtinR hl.typeIs slot_list_getitem.lookup (wpAny_getItem_list (Q := fun r s' => r = _ ∧ Q r s') hl h0 (by omega) (by simpa using ht) ⟨rfl, h _ t (List.getElem_mem hk)⟩) hs
theorem strs_dat {n₁ : Led} : ∀ {vs : List Value} {xs : List Str}, StrsAre vs xs → DatAll n₁ vs (xs.map Dat.str)
  | _, _, .nil => .nil
  | _, _, .cons x t h => .cons (.str x t) (strs_dat h)
theorem row_eq_nil {prog : Program} {w : World} {A : Around} {E : Value → Shared → Prop} {s : Shared} {h₀ : Heap} {L a b : Addr} {news : Led} {n k : Nat} {vs : List Value} {xs : List Str} {Q : Value → Shared → Prop} (N : News h₀ L s.heap news) (ma : (a, listOf vs.toArray n) ∈ news) (mb : (b, listOf ([] : List Value).toArray k) ∈ news) (hv : StrsAre vs xs)
    (ho : ∀ x ∈ xs, PyData.strOk x = true) (hu : A.units + 64 < cLine) (h : Q (.bool xs.isEmpty) s) : wpAny (model prog w) A (compareOp .Eq (.ref a) (.ref b)) Q E s := by
  refine kqd_eq N ma rfl rfl (strs_dat (n₁ := []) hv) (fun _ h => nomatch h) mb rfl rfl (DatAll.nil (news := [])) (fun _ h => nomatch h) (fun d hd => ?_) (fun _ h => nomatch h) hu ?_
  · obtain ⟨x, hx, rfl⟩ := List.mem_map.mp hd
    exact ho x hx
  · cases hv with
    | nil => simpa using h
    | cons x t hr => simpa using h
/-- a short text out of signs -/
noncomputable def Ok (n : Nat) (x : Str) : Prop := x.length ≤ n ∧ PyData.strOk x = true
theorem cat_ok {prog : Program} {w : World} {A : Around} {E : Value → Shared → Prop} {s : Shared} {x y : Str} {t u : Tok} {n k : Nat} {Q : Value → Shared → Prop} (hx : Ok n x) (hy : Ok k y) (hz : n + k ≤ 100000) (h : ∀ t' tk, Ok (n + k) (x ++ y) → Q (.str (x ++ y) t') { s with toks := tk }) : wpAny (model prog w) A (binaryOp .Add (.str x t) (.str y u)) Q E s :=
  PyProof.Rows.add_str (fun t' tk => h t' tk ⟨by rw [Str.length_append]; have := hx.1; have := hy.1; omega, strOk_append hx.2 hy.2⟩) (by have := hx.1; have := hy.1; rw [sizeLine_eq]; omega)
theorem strs_atP {prog : Program} {w : World} {A : Around} {E : Value → Shared → Prop} {s : Shared} {h₀ : Heap} {L l : Addr} {news : Led} {value slice : PySem.Expr} {n : Nat} {Q : Value → Shared → Prop} {vs : List Value} {xs : List Str} {u : Tok} {i : Int} {P : Str → Prop} (N : News h₀ L s.heap news) (hm : (l, listOf vs.toArray n) ∈ news) (hv : StrsAre vs xs) (hP : ∀ c ∈ xs, P c) (h0 : 0 ≤ i) (h1 : i < (xs.length : Int)) (hz : xs.length ≤ 100000) (h : ∀ c t, P c → Q (.str c t) s)
    (hs : subscripted slice false (.ref l) (.int i u) = operate [.ref l, .int i u] (getItem (.ref l) (.int i u)) := by with_unfolding_all rfl) : wpAny (model prog w) A (subscriptTail value slice (.ref l) (.int i u)) Q E s :=
  strs_atI N hm hv h0 h1 hz (fun c t hc => h c t (hP c hc)) hs
end P17
section P18
theorem off18 : True := by
  w_top off
  trivial
structure TxSt where
  y : Int
  ty : Tok
  vs : List Value
  xs : List Str
  nn : Nat
noncomputable def TxOk (q : TxSt) : Prop := 0 ≤ q.y ∧ StrsAre q.vs q.xs ∧ q.xs.length ≤ 3 ∧ ∀ x ∈ q.xs, x.length ≤ 6 ∧ PyData.strOk x = true
noncomputable abbrev poolS : List Str := [Str.ofString "a", Str.ofString "b", Str.ofString "..", Str.ofString ".", Str.ofString "", Str.ofString "...", Str.ofString "it's\n#"]
theorem kswOne {x : Str} {v v0 : Value} {m₀ u : Str → Option Value} : ∀ z, (∀ p ∈ [(x, v)], z ≠ p.1) → ([] : List Str).contains z = false → (fun y => if y = x then some v else kstB (fun z => if ([] : List Str).contains z then u z else m₀ z) [(x, v0)] y) z = m₀ z := by
  intro z hz _
  have : z ≠ x := hz _ (.head _)
  show (if z = x then some v else if z = x then some v0 else (if ([] : List Str).contains z = true then u z else m₀ z)) = m₀ z
  rw [if_neg this, if_neg this, if_neg (by simp)]
theorem tx_step {y : Int} (hy : 0 ≤ y) {vs : List Value} {xs : List Str} {c : Str} {t : Tok} (i2 : StrsAre vs xs) (h3 : (vs.length : Int) < 3) (i4 : ∀ x ∈ xs, x.length ≤ 6 ∧ PyData.strOk x = true) (hc : c.length ≤ 6 ∧ PyData.strOk c = true) (ty : Tok) (nn : Nat) :
    TxOk ⟨y.fdiv 8, ty, vs ++ [Value.str c t], xs ++ [c], nn⟩ ∧ 3 - (xs ++ [c]).length < 3 - xs.length := by
  have i5 := i2.length
  refine ⟨⟨?_, i2.append' (.cons _ _ .nil), ?_, fun x hx => (List.mem_append.mp hx).elim (i4 x) fun e => by rw [List.mem_singleton.mp e]; exact hc⟩, ?_⟩
  · show 0 ≤ y.fdiv 8
    rw [Int.fdiv_eq_ediv_of_nonneg _ (by decide)]; omega
  · simp only [List.length_append, List.length_cons, List.length_nil]; omega
  · simp only [List.length_append, List.length_cons, List.length_nil]; omega
theorem tx_end {g : Heap} {L : Addr} {s : Shared} {rw pl : Addr} {pv : List Value} {R : Led} {m₀ u : Str → Option Value} {y1 : Int} {ty1 t1 t2 : Tok} {vs : List Value} {xs : List Str} {nn : Nat} {h' : Heap} {tk : Nat} {c : Str}
    (F : Fr g L h' (fun y => if y = Str.ofString "y" then some (Value.int (y1.fdiv 8) t2) else kstB (fun z => if ([] : List Str).contains z then u z else m₀ z) [(Str.ofString "y", Value.int y1 ty1)] y)) (N : News g L h' ((rw, listOf (vs ++ [Value.str c t1]).toArray (nn + 1)) :: (pl, listOf pv.toArray 0) :: R))
    (hy : 0 ≤ y1) (i2 : StrsAre vs xs) (h3 : (vs.length : Int) < 3) (i4 : ∀ x ∈ xs, x.length ≤ 6 ∧ PyData.strOk x = true) (hc : c.length ≤ 6 ∧ PyData.strOk c = true) :
    KswEnd g L s (fun q : TxSt => (rw, listOf q.vs.toArray q.nn) :: (pl, listOf pv.toArray 0) :: R) (fun q : TxSt => [(Str.ofString "y", Value.int q.y q.ty)]) (fun _ => True) [] m₀ TxOk (fun q => 3 - q.xs.length) ⟨y1, ty1, vs, xs, nn⟩ { s with heap := h', toks := tk } := by
  obtain ⟨q1, q2⟩ := tx_step hy i2 h3 i4 hc t2 (nn + 1) (t := t1)
  exact ksw_end (σ := TxSt) ⟨y1.fdiv 8, t2, vs ++ [Value.str c t1], xs ++ [c], nn + 1⟩ F N (fun _ hp => hp) trivial (fun p hp => by rw [List.mem_singleton.mp hp]; exact if_pos rfl) kswOne q1 q2
theorem pool_fact : ∀ c ∈ poolS, c.length ≤ 6 ∧ PyData.strOk c = true := by decide +kernel
theorem chr_fact {y : Int} (hy : 0 ≤ y) : (Str.mk #[(1 + (y.fdiv 8).fmod 55295).toNat]).length ≤ 6 ∧ PyData.strOk ⟨#[(1 + (y.fdiv 8).fmod 55295).toNat]⟩ = true := by
  refine ⟨by show (1 : Nat) ≤ 6; decide, ?_⟩
  rw [strOk_iff]
  intro c hc
  rw [List.mem_singleton.mp hc, Int.fmod_eq_emod_of_nonneg _ (by decide), Int.fdiv_eq_ediv_of_nonneg _ (by decide)]
  omega
set_option maxHeartbeats 4000000 in
theorem text_says (w : World) (y : Int) (ty t3 : Tok) (R : Led) (hy : 0 ≤ y) : Says w (.ref 855) [.int y ty, .int 3 t3] [] 40 R (fun news' r => news' = R ∧ ∃ x t, r = .str x t ∧ x.length ≤ 30 ∧ PyData.strOk x = true) := by
  unfold Says
  k_fill
  intro dp un gd cn cs a ccd cl outer A₀ base h₀ L m s p loose mean mg mb Q E B F X N T hk hd hu hret
  refine wpAny_call ?_
  k_dflt (first | (refine' code_def ?k1 ?k2 ?k3 ?k4 ?k5 ?zqkA ?zqkF ?kK ?zqk6 ?zqk7 ?zqk8 ?zqk9 ?zqkB ?_ ?zqc2 ?zqc3 ?zqc4 ?zqc5; (case zqkA | zqkF => exact rfl); (case kK => assumption); (case k1 | k2 => k_asm); (case k3 | k4 | k5 => k_asm); (case zqk6 | zqk7 => k_is); (case zqk8 => k_room); (case zqk9 => first | exact BindsTo.of_eq rfl | exact binds_K (by k_in) rfl (by k_is) rfl rfl rfl | fail); (case zqc5 => decide); (case zqkB => exact locs rfl); (case zqc2 | zqc3 | zqc4 => exact rfl); k_whole; intro g'Z L'Z h'Z FG'Z F'Z N'Z B'Z X'Z T'Z; (try dsimp only); (try k_lift B'Z); (try k_fold); refine name_A ?_; intro aA8; have hN8 := True.intro; have hO8 := True.intro) | (kp_kind "rest"; refine' kp_rest ?k1 ?k2 ?k3 ?k4 ?k5 ?zqkA ?zqkF ?kK ?zqk6 ?zqk7 ?zqk8 ?zqkV ?zqkP ?zqkG ?zqkB ?_ ?zqc2 ?zqc3 ?zqc4 ?zqc5; (case zqkA | zqkF => exact rfl); (case kK => assumption); (case k1 | k2 => k_asm); (case k3 | k4 | k5 => k_asm); (case zqk6 | zqk7 => k_is); (case zqk8 => k_room); (case zqkV | zqkP => exact rfl); (case zqkG => exact fun _ => rfl); (case zqkB => exact fun _ => locs rfl); (case zqc5 => decide); (case zqc2 | zqc3 | zqc4 => exact rfl); k_whole; intro D'Z g'Z L'Z h'Z l1Z FG'Z F'Z N'Z B'Z X'Z T'Z; (try k_lt l1Z); (try dsimp only); (try k_lift B'Z); (try k_fold); refine name_A ?_; intro aA8; have hN8 := True.intro; have hO8 := True.intro) | (kp_kind "both"; refine' kp_both ?k1 ?k2 ?k3 ?k4 ?k5 ?zqkA ?zqkF ?kK ?zqk6 ?zqk7 ?zqk8 ?zqkV ?zqkX ?zqkQ ?zqkM ?zqkN ?zqkD ?zqkR ?zqkP ?zqkS ?zqkT ?zqkB ?_ ?zqc2 ?zqc3 ?zqc4 ?zqc5; (case zqkA | zqkF => exact rfl); (case kK => assumption); (case k1 | k2 => k_asm); (case k3 | k4 | k5 => k_asm); (case zqk6 | zqk7 => k_is); (case zqk8 => k_room); (case zqkV | zqkX => kp_lit); (case zqkQ | zqkM | zqkN => exact rfl); (case zqkD => kp_flats); (case zqkR | zqkP => exact rfl); (case zqkS => exact fun _ => rfl); (case zqkT => exact fun _ _ => rfl); (case zqkB => exact fun _ _ => locs rfl); (case zqc5 => decide); (case zqc2 | zqc3 | zqc4 => exact rfl); k_whole; intro C'Z D'Z o'Z g'Z L'Z h'Z tk'Z l1Z l2Z lo'Z hs'Z fs'Z FG'Z F'Z N'Z B'Z X'Z T'Z; (try k_lt l1Z); (try k_lt2 l2Z); (try dsimp only); (try k_lift B'Z); (try k_fold); refine name_A ?_; intro aA8; have hN8 := True.intro; have hO8 := True.intro))
  rename Fr _ _ _ (fun y => _) => FA
  replace FA := fr_as (m' := fun y' => List.lookup y' [(Str.ofString "most", Value.int 3 t3), (Str.ofString "y", Value.int y ty)]) FA (by kernel_rfl)
  generalize s.toks + _ = tkA
  repeat' (first | (k_unfold; (try dsimp only)) | (k_end; (with_reducible refine hN8 _ _ ?_); intro kN8; clear hN8 hO8; (try clear qN8); first | with_reducible refine execs_one ?_ | (refine execs_more ?_; intro qN8 hN8 hO8)) | (k_end; (with_reducible refine hO8 _ _ ?zn8 ?_); (case zn8 => first | exact ne_ret _ | exact ne_brk | exact ne_cont); clear hN8 hO8; (try clear qN8)) | (k_end; wrow_close) | ((with_reducible show wpAny _ _ (compareOp _ _ _) _ _ _); (first | ((with_reducible show wpAny _ _ (compareOp CmpOp.Eq (Value.ref _) (Value.ref _)) _ _ _); (k_here; k_dflt (refine' row_eq_nil ?k1 ?k2 ?k3 ?k4 ?k5 ?zqk6 ?_; (case k1 => k_asm); (case k2 | k3 => k_mem); (case k4 | k5 => assumption); (case zqk6 => k_units); k_whole))) | ((with_reducible show wpAny _ _ (compareOp CmpOp.In (Value.str _ _) (Value.ref _)) _ _ _); (k_here; k_dflt (refine' links_in ?k1 ?k2 ?k3 ?k4 ?_; (case k1 => k_asm); (case k2 => k_mem); (case k3 | k4 => assumption); k_whole))) | (k_here; (with_reducible show wpAny _ _ (compareOp CmpOp.In (Value.str _ _) (Value.str _ _)) _ _ _); first | (refine in_known (b := false) (by assumption) ?_) | (refine in_known (b := true) (by assumption) ?_) | (refine in_known (b := false) (by decide +kernel) ?_) | (refine in_known (b := true) (by decide +kernel) ?_)))) | ((with_reducible show wpAny _ _ (exec _ _) _ _ _); (first | ((with_reducible show wpAny _ _ (exec (Stmt.While (Expr.BoolOp _ _ _) _ _ _) _) _ _ _); (k_here; refine stop_in ?_)) | ((with_reducible show wpAny _ _ (exec (Stmt.For (Expr.Name _ _) (Expr.Name _ _) _ _ _) _) _ _ _); (k_here; (rename Fr _ _ _ _ => lF'Z); (with_unfolding_all refine' For_invVF lF'Z ?k1 ?k2 ?_; (case k1 | k2 => exact rfl); k_whole))) | ((with_reducible show wpAny _ _ (exec (Stmt.If _ _ _ _) _) _ _ _); (k_here; refine wpAny_If ?_)))) | ((with_reducible show wpAny _ _ (call _ _ _) _ _ _); (first | (k_here; (with_reducible show wpAny _ _ (call (Value.builtin "len") [Value.ref _]) _ _ _); k_dflt (refine' len_made ?k1 ?k2 ?k3 ?_; (case k1 => k_asm); (case k2 => k_mem); (case k3 => omega); k_whole); intro t9Z tk9Z) | (k_here; (with_reducible show wpAny _ _ (call (Value.builtin "str.join") [Value.str _ _, Value.ref _]) _ _ _); k_dflt (refine' join_listW ?k1 ?k2 ?k3 ?k4 ?_; (case k1 => exact News.isList (by k_asm) (by k_mem)); (case k2 => assumption); (case k3 => decide +kernel); (case k4 => first | assumption | omega); k_whole); intro _ _) | ((with_reducible show wpAny _ _ (call (Value.builtin "list.append") _ _) _ _ _); (k_here; k_dflt (refine' append_snoc ?k1 ?k2 ?k3 ?k4 ?_; (case k1 | k2 => k_asm); (case k3 => k_upd); (case k4 => omega); k_whole); intro h'Z F'Z N'Z; (try k_sweep))))) | ((with_reducible show wpAny _ _ (pyIter (Value.ref _)) _ _ _); (k_here; refine stop_in ?_)) | (k_here; (with_reducible show wpAny _ _ (subscriptTail _ _ (Value.ref _) (Value.int (-1) _)) _ _ _); k_dflt (refine' item_last ?k1 ?k2 ?_ ?k4; (case k1 => k_asm); (case k2 => k_mem); (case k4 => with_unfolding_all rfl); k_whole)) | ((with_reducible show wpAny _ _ (truthy _) _ _ _); (first | ((with_reducible show wpAny _ _ (truthy (Value.ref _)) _ _ _); (k_here; k_dflt (first | (refine' truthy_nil ?k1 ?k2 ?_; (case k1 => k_asm); (case k2 => k_mem); k_whole) | (refine' truthy_snoc ?k1 ?k2 ?k3 ?_; (case k1 => k_asm); (case k2 => k_mem); (case k3 => omega); k_whole)))) | (k_here; (with_reducible show wpAny _ _ (truthy (Value.str _ _)) _ _ _); refine truthy_long (by assumption) (by omega) ?_; intro _))) | ((with_reducible show wpAny _ _ (execs _ _) _ _ _); (first | ((with_reducible show wpAny _ _ (execs [] _) _ _ _); (k_here; refine wpAny_execs_nil ?_)) | ((with_reducible show wpAny _ _ (execs (_ :: _) _) _ _ _); (k_here; (try dsimp only); (try k_fold); first | with_reducible refine execs_one ?_ | (refine execs_more ?_; intro qN8 hN8 hO8))))) | walk1 | ((with_reducible show wpAny _ _ _ _ _ _); dsimp only) | (leave1; walk_say "STEP leave1"; try dsimp only) | fail "no step")
  unfold Stop
  rename News _ _ _ (_ :: _ :: R) => N1
  refine news2 N1 ?_
  intro rw pl e1 e2
  subst e1
  subst e2
  rename Fr _ _ _ (fun y => _) => F1
  obtain ⟨pv, hpv, hpv2⟩ := pool_list N1
  have hP7 : poolS.length = 7 := rfl
  have hPf := pool_fact
  refine named poolS ?_
  intro PS hPS
  rw [← hPS] at hP7 hPf
  replace hpv : StrsAre pv PS := hPS ▸ hpv
  clear hPS
  rw [hpv2] at N1
  clear hpv2
  refine ksw_while (σ := TxSt) (fun q => (rw, listOf q.vs.toArray q.nn) :: (pl, listOf pv.toArray 0) :: R) (fun q : TxSt => [(Str.ofString "y", Value.int q.y q.ty)]) (fun _ => True) [] TxOk (fun q => 3 - q.xs.length) ⟨y, ty, [], [], 0⟩ F1 ?f2 trivial ?f3 ?f4 ?f5 ?hE
  case f2 => exact N1
  case f3 => exact fun p hp => by rw [List.mem_singleton.mp hp]; kernel_rfl
  case f4 => exact ⟨hy, .nil, Nat.zero_le _, fun _ h => nomatch h⟩
  case hE => passes_own
  rintro ⟨y1, ty1, vs, xs, nn⟩ u h' tk' - ⟨i1, i2, i3, i4⟩ F1 N1
  dsimp only at *
  have i5 := i2.length
  have i6 : 0 ≤ y1.fmod 8 := by rw [Int.fmod_eq_emod_of_nonneg _ (by decide)]; omega
  have i7 : ∀ x ∈ xs, PyData.strOk x = true := fun x hx => (i4 x hx).2
  have i8 : (xs.map (·.length)).sum + xs.length * 1 ≤ 100 := by
    have := StrLaws.sumLen_le xs (B := 6) fun x hx => (i4 x hx).1
    omega
  refine mid_point (fun b led => led = ((rw, listOf vs.toArray nn) :: (pl, listOf pv.toArray 0) :: R) ∧ (b = true → (vs.length : Int) < 3)) F1 ?tst ?rst
  case tst =>
    repeat' (first | (k_unfold; (try dsimp only)) | (k_end; (with_reducible refine hN8 _ _ ?_); intro kN8; clear hN8 hO8; (try clear qN8); first | with_reducible refine execs_one ?_ | (refine execs_more ?_; intro qN8 hN8 hO8)) | (k_end; (with_reducible refine hO8 _ _ ?zn8 ?_); (case zn8 => first | exact ne_ret _ | exact ne_brk | exact ne_cont); clear hN8 hO8; (try clear qN8)) | (k_end; wrow_close) | ((with_reducible show wpAny _ _ (compareOp _ _ _) _ _ _); (first | ((with_reducible show wpAny _ _ (compareOp CmpOp.Eq (Value.ref _) (Value.ref _)) _ _ _); (k_here; k_dflt (refine' row_eq_nil ?k1 ?k2 ?k3 ?k4 ?k5 ?zqk6 ?_; (case k1 => k_asm); (case k2 | k3 => k_mem); (case k4 | k5 => assumption); (case zqk6 => k_units); k_whole))) | ((with_reducible show wpAny _ _ (compareOp CmpOp.In (Value.str _ _) (Value.ref _)) _ _ _); (k_here; k_dflt (refine' links_in ?k1 ?k2 ?k3 ?k4 ?_; (case k1 => k_asm); (case k2 => k_mem); (case k3 | k4 => assumption); k_whole))) | (k_here; (with_reducible show wpAny _ _ (compareOp CmpOp.In (Value.str _ _) (Value.str _ _)) _ _ _); first | (refine in_known (b := false) (by assumption) ?_) | (refine in_known (b := true) (by assumption) ?_) | (refine in_known (b := false) (by decide +kernel) ?_) | (refine in_known (b := true) (by decide +kernel) ?_)))) | ((with_reducible show wpAny _ _ (exec _ _) _ _ _); (first | ((with_reducible show wpAny _ _ (exec (Stmt.While (Expr.BoolOp _ _ _) _ _ _) _) _ _ _); (k_here; refine stop_in ?_)) | ((with_reducible show wpAny _ _ (exec (Stmt.For (Expr.Name _ _) (Expr.Name _ _) _ _ _) _) _ _ _); (k_here; (rename Fr _ _ _ _ => lF'Z); (with_unfolding_all refine' For_invVF lF'Z ?k1 ?k2 ?_; (case k1 | k2 => exact rfl); k_whole))) | ((with_reducible show wpAny _ _ (exec (Stmt.If _ _ _ _) _) _ _ _); (k_here; refine wpAny_If ?_)))) | ((with_reducible show wpAny _ _ (call _ _ _) _ _ _); (first | (k_here; (with_reducible show wpAny _ _ (call (Value.builtin "len") [Value.ref _]) _ _ _); k_dflt (refine' len_made ?k1 ?k2 ?k3 ?_; (case k1 => k_asm); (case k2 => k_mem); (case k3 => omega); k_whole); intro t9Z tk9Z) | (k_here; (with_reducible show wpAny _ _ (call (Value.builtin "str.join") [Value.str _ _, Value.ref _]) _ _ _); k_dflt (refine' join_listW ?k1 ?k2 ?k3 ?k4 ?_; (case k1 => exact News.isList (by k_asm) (by k_mem)); (case k2 => assumption); (case k3 => decide +kernel); (case k4 => first | assumption | omega); k_whole); intro _ _) | ((with_reducible show wpAny _ _ (call (Value.builtin "list.append") _ _) _ _ _); (k_here; k_dflt (refine' append_snoc ?k1 ?k2 ?k3 ?k4 ?_; (case k1 | k2 => k_asm); (case k3 => k_upd); (case k4 => omega); k_whole); intro h'Z F'Z N'Z; (try k_sweep))))) | ((with_reducible show wpAny _ _ (pyIter (Value.ref _)) _ _ _); (k_here; refine stop_in ?_)) | (k_here; (with_reducible show wpAny _ _ (subscriptTail _ _ (Value.ref _) (Value.int (-1) _)) _ _ _); k_dflt (refine' item_last ?k1 ?k2 ?_ ?k4; (case k1 => k_asm); (case k2 => k_mem); (case k4 => with_unfolding_all rfl); k_whole)) | ((with_reducible show wpAny _ _ (truthy _) _ _ _); (first | ((with_reducible show wpAny _ _ (truthy (Value.ref _)) _ _ _); (k_here; k_dflt (first | (refine' truthy_nil ?k1 ?k2 ?_; (case k1 => k_asm); (case k2 => k_mem); k_whole) | (refine' truthy_snoc ?k1 ?k2 ?k3 ?_; (case k1 => k_asm); (case k2 => k_mem); (case k3 => omega); k_whole)))) | (k_here; (with_reducible show wpAny _ _ (truthy (Value.str _ _)) _ _ _); refine truthy_long (by assumption) (by omega) ?_; intro _))) | ((with_reducible show wpAny _ _ (execs _ _) _ _ _); (first | ((with_reducible show wpAny _ _ (execs [] _) _ _ _); (k_here; refine wpAny_execs_nil ?_)) | ((with_reducible show wpAny _ _ (execs (_ :: _) _) _ _ _); (k_here; (try dsimp only); (try k_fold); first | with_reducible refine execs_one ?_ | (refine execs_more ?_; intro qN8 hN8 hO8))))) | walk1 | ((with_reducible show wpAny _ _ _ _ _ _); dsimp only) | (leave1; walk_say "STEP leave1"; try dsimp only) | fail "no step")
    all_goals first
      | exact mid_in _ (by assumption) (by assumption) ⟨rfl, fun _ => by assumption⟩
      | exact mid_in _ (by assumption) (by assumption) ⟨rfl, fun h => nomatch h⟩
      | exact mid_in _ (by assumption) (news_sub (by assumption) (fun _ hp => .tail _ hp)) ⟨rfl, fun _ => by assumption⟩
      | exact mid_in _ (by assumption) (news_sub (by assumption) (fun _ hp => .tail _ hp)) ⟨rfl, fun h => nomatch h⟩
  case rst =>
    rintro b h2 tk2 _ F2 N2 ⟨rfl, hb⟩
    cases b with
    | true =>
      have hb' := hb rfl
      have i9 : y1.fmod 8 < 7 → (PS.getD (y1.fmod 8).toNat Str.empty).length ≤ 6 ∧ PyData.strOk (PS.getD (y1.fmod 8).toNat Str.empty) = true := fun h => by
        have : (y1.fmod 8).toNat < PS.length := by omega
        rw [List.getD_eq_getElem?_getD, List.getElem?_eq_getElem this]
        exact hPf _ (List.getElem_mem _)
      rw [if_pos rfl]
      repeat' (first | (k_unfold; (try dsimp only)) | (k_end; (with_reducible refine hN8 _ _ ?_); intro kN8; clear hN8 hO8; (try clear qN8); first | with_reducible refine execs_one ?_ | (refine execs_more ?_; intro qN8 hN8 hO8)) | (k_end; (with_reducible refine hO8 _ _ ?zn8 ?_); (case zn8 => first | exact ne_ret _ | exact ne_brk | exact ne_cont); clear hN8 hO8; (try clear qN8)) | (k_end; wrow_close) | ((with_reducible show wpAny _ _ (compareOp _ _ _) _ _ _); (first | ((with_reducible show wpAny _ _ (compareOp CmpOp.Eq (Value.ref _) (Value.ref _)) _ _ _); (k_here; k_dflt (refine' row_eq_nil ?k1 ?k2 ?k3 ?k4 ?k5 ?zqk6 ?_; (case k1 => k_asm); (case k2 | k3 => k_mem); (case k4 | k5 => assumption); (case zqk6 => k_units); k_whole))) | ((with_reducible show wpAny _ _ (compareOp CmpOp.In (Value.str _ _) (Value.ref _)) _ _ _); (k_here; k_dflt (refine' links_in ?k1 ?k2 ?k3 ?k4 ?_; (case k1 => k_asm); (case k2 => k_mem); (case k3 | k4 => assumption); k_whole))) | (k_here; (with_reducible show wpAny _ _ (compareOp CmpOp.In (Value.str _ _) (Value.str _ _)) _ _ _); first | (refine in_known (b := false) (by assumption) ?_) | (refine in_known (b := true) (by assumption) ?_) | (refine in_known (b := false) (by decide +kernel) ?_) | (refine in_known (b := true) (by decide +kernel) ?_)))) | ((with_reducible show wpAny _ _ (exec _ _) _ _ _); (first | ((with_reducible show wpAny _ _ (exec (Stmt.While (Expr.BoolOp _ _ _) _ _ _) _) _ _ _); (k_here; refine stop_in ?_)) | ((with_reducible show wpAny _ _ (exec (Stmt.For (Expr.Name _ _) (Expr.Name _ _) _ _ _) _) _ _ _); (k_here; (rename Fr _ _ _ _ => lF'Z); (with_unfolding_all refine' For_invVF lF'Z ?k1 ?k2 ?_; (case k1 | k2 => exact rfl); k_whole))) | ((with_reducible show wpAny _ _ (exec (Stmt.If _ _ _ _) _) _ _ _); (k_here; refine wpAny_If ?_)))) | ((with_reducible show wpAny _ _ (call _ _ _) _ _ _); (first | (k_here; (with_reducible show wpAny _ _ (call (Value.builtin "len") [Value.ref _]) _ _ _); k_dflt (refine' len_made ?k1 ?k2 ?k3 ?_; (case k1 => k_asm); (case k2 => k_mem); (case k3 => omega); k_whole); intro t9Z tk9Z) | (k_here; (with_reducible show wpAny _ _ (call (Value.builtin "str.join") [Value.str _ _, Value.ref _]) _ _ _); k_dflt (refine' join_listW ?k1 ?k2 ?k3 ?k4 ?_; (case k1 => exact News.isList (by k_asm) (by k_mem)); (case k2 => assumption); (case k3 => decide +kernel); (case k4 => first | assumption | omega); k_whole); intro _ _) | ((with_reducible show wpAny _ _ (call (Value.builtin "list.append") _ _) _ _ _); (k_here; k_dflt (refine' append_snoc ?k1 ?k2 ?k3 ?k4 ?_; (case k1 | k2 => k_asm); (case k3 => k_upd); (case k4 => omega); k_whole); intro h'Z F'Z N'Z; (try k_sweep))))) | ((with_reducible show wpAny _ _ (pyIter (Value.ref _)) _ _ _); (k_here; refine stop_in ?_)) | (k_here; (with_reducible show wpAny _ _ (subscriptTail _ _ (Value.ref _) (Value.int (-1) _)) _ _ _); k_dflt (refine' item_last ?k1 ?k2 ?_ ?k4; (case k1 => k_asm); (case k2 => k_mem); (case k4 => with_unfolding_all rfl); k_whole)) | ((with_reducible show wpAny _ _ (truthy _) _ _ _); (first | ((with_reducible show wpAny _ _ (truthy (Value.ref _)) _ _ _); (k_here; k_dflt (first | (refine' truthy_nil ?k1 ?k2 ?_; (case k1 => k_asm); (case k2 => k_mem); k_whole) | (refine' truthy_snoc ?k1 ?k2 ?k3 ?_; (case k1 => k_asm); (case k2 => k_mem); (case k3 => omega); k_whole)))) | (k_here; (with_reducible show wpAny _ _ (truthy (Value.str _ _)) _ _ _); refine truthy_long (by assumption) (by omega) ?_; intro _))) | ((with_reducible show wpAny _ _ (execs _ _) _ _ _); (first | ((with_reducible show wpAny _ _ (execs [] _) _ _ _); (k_here; refine wpAny_execs_nil ?_)) | ((with_reducible show wpAny _ _ (execs (_ :: _) _) _ _ _); (k_here; (try dsimp only); (try k_fold); first | with_reducible refine execs_one ?_ | (refine execs_more ?_; intro qN8 hN8 hO8))))) | walk1 | ((with_reducible show wpAny _ _ _ _ _ _); dsimp only) | (leave1; walk_say "STEP leave1"; try dsimp only) | fail "no step")
      · exact tx_end (by assumption) (by assumption) i1 (by assumption) hb' i4 (i9 (by assumption))
      · exact tx_end (by assumption) (by assumption) i1 (by assumption) hb' i4 (chr_fact i1)
    | false =>
      rw [if_neg (by decide)]
      repeat' (first | (k_unfold; (try dsimp only)) | (k_end; (with_reducible refine hN8 _ _ ?_); intro kN8; clear hN8 hO8; (try clear qN8); first | with_reducible refine execs_one ?_ | (refine execs_more ?_; intro qN8 hN8 hO8)) | (k_end; (with_reducible refine hO8 _ _ ?zn8 ?_); (case zn8 => first | exact ne_ret _ | exact ne_brk | exact ne_cont); clear hN8 hO8; (try clear qN8)) | (k_end; wrow_close) | ((with_reducible show wpAny _ _ (compareOp _ _ _) _ _ _); (first | ((with_reducible show wpAny _ _ (compareOp CmpOp.Eq (Value.ref _) (Value.ref _)) _ _ _); (k_here; k_dflt (refine' row_eq_nil ?k1 ?k2 ?k3 ?k4 ?k5 ?zqk6 ?_; (case k1 => k_asm); (case k2 | k3 => k_mem); (case k4 | k5 => assumption); (case zqk6 => k_units); k_whole))) | ((with_reducible show wpAny _ _ (compareOp CmpOp.In (Value.str _ _) (Value.ref _)) _ _ _); (k_here; k_dflt (refine' links_in ?k1 ?k2 ?k3 ?k4 ?_; (case k1 => k_asm); (case k2 => k_mem); (case k3 | k4 => assumption); k_whole))) | (k_here; (with_reducible show wpAny _ _ (compareOp CmpOp.In (Value.str _ _) (Value.str _ _)) _ _ _); first | (refine in_known (b := false) (by assumption) ?_) | (refine in_known (b := true) (by assumption) ?_) | (refine in_known (b := false) (by decide +kernel) ?_) | (refine in_known (b := true) (by decide +kernel) ?_)))) | ((with_reducible show wpAny _ _ (exec _ _) _ _ _); (first | ((with_reducible show wpAny _ _ (exec (Stmt.While (Expr.BoolOp _ _ _) _ _ _) _) _ _ _); (k_here; refine stop_in ?_)) | ((with_reducible show wpAny _ _ (exec (Stmt.For (Expr.Name _ _) (Expr.Name _ _) _ _ _) _) _ _ _); (k_here; (rename Fr _ _ _ _ => lF'Z); (with_unfolding_all refine' For_invVF lF'Z ?k1 ?k2 ?_; (case k1 | k2 => exact rfl); k_whole))) | ((with_reducible show wpAny _ _ (exec (Stmt.If _ _ _ _) _) _ _ _); (k_here; refine wpAny_If ?_)))) | ((with_reducible show wpAny _ _ (call _ _ _) _ _ _); (first | (k_here; (with_reducible show wpAny _ _ (call (Value.builtin "len") [Value.ref _]) _ _ _); k_dflt (refine' len_made ?k1 ?k2 ?k3 ?_; (case k1 => k_asm); (case k2 => k_mem); (case k3 => omega); k_whole); intro t9Z tk9Z) | (k_here; (with_reducible show wpAny _ _ (call (Value.builtin "str.join") [Value.str _ _, Value.ref _]) _ _ _); k_dflt (refine' join_listW ?k1 ?k2 ?k3 ?k4 ?_; (case k1 => exact News.isList (by k_asm) (by k_mem)); (case k2 => assumption); (case k3 => decide +kernel); (case k4 => first | assumption | omega); k_whole); intro _ _) | ((with_reducible show wpAny _ _ (call (Value.builtin "list.append") _ _) _ _ _); (k_here; k_dflt (refine' append_snoc ?k1 ?k2 ?k3 ?k4 ?_; (case k1 | k2 => k_asm); (case k3 => k_upd); (case k4 => omega); k_whole); intro h'Z F'Z N'Z; (try k_sweep))))) | ((with_reducible show wpAny _ _ (pyIter (Value.ref _)) _ _ _); (k_here; refine stop_in ?_)) | (k_here; (with_reducible show wpAny _ _ (subscriptTail _ _ (Value.ref _) (Value.int (-1) _)) _ _ _); k_dflt (refine' item_last ?k1 ?k2 ?_ ?k4; (case k1 => k_asm); (case k2 => k_mem); (case k4 => with_unfolding_all rfl); k_whole)) | ((with_reducible show wpAny _ _ (truthy _) _ _ _); (first | ((with_reducible show wpAny _ _ (truthy (Value.ref _)) _ _ _); (k_here; k_dflt (first | (refine' truthy_nil ?k1 ?k2 ?_; (case k1 => k_asm); (case k2 => k_mem); k_whole) | (refine' truthy_snoc ?k1 ?k2 ?k3 ?_; (case k1 => k_asm); (case k2 => k_mem); (case k3 => omega); k_whole)))) | (k_here; (with_reducible show wpAny _ _ (truthy (Value.str _ _)) _ _ _); refine truthy_long (by assumption) (by omega) ?_; intro _))) | ((with_reducible show wpAny _ _ (execs _ _) _ _ _); (first | ((with_reducible show wpAny _ _ (execs [] _) _ _ _); (k_here; refine wpAny_execs_nil ?_)) | ((with_reducible show wpAny _ _ (execs (_ :: _) _) _ _ _); (k_here; (try dsimp only); (try k_fold); first | with_reducible refine execs_one ?_ | (refine execs_more ?_; intro qN8 hN8 hO8))))) | walk1 | ((with_reducible show wpAny _ _ _ _ _ _); dsimp only) | (leave1; walk_say "STEP leave1"; try dsimp only) | fail "no step")
      refine hret _ _ _ _ (by assumption) (news_sub (by assumption) (fun _ hp => .tail _ (.tail _ hp))) ⟨rfl, _, _, rfl, ?_, strOk_join (strOk_of _) xs i7⟩
      have := StrLaws.join_length_le (Str.ofString "/") xs
      rw [show (Str.ofString "/").length = 1 by decide +kernel] at this
      rw [join_eq]
      have := StrLaws.sumLen_le xs (B := 6) fun x hx => (i4 x hx).1
      omega
end P18
section P19
theorem off19 : True := by
  w_top off
  trivial
theorem abs_gen {prog : Program} {w : World} {A : Around} {E : Value → Shared → Prop} {s : Shared} {n : Int} {t : Tok} {Q : Value → Shared → Prop} (h : ∀ y u tk, 0 ≤ y → Q (.int y u) { s with toks := tk }) : wpAny (model prog w) A (call (.builtin "abs") [.int n t]) Q E s :=
  call_abs_int fun u tk => h _ u tk (by split <;> omega)
/-- as Says, where the base heap is known to hold more -/
noncomputable def SaysK (w : World) (K : Heap → Prop) (f : Value) (args : List Value) (kw : List (Str × Value)) (cost : Nat) (news : Led) (post : Led → Value → Prop) : Prop :=
  ∀ (dp un : Nat) (gd : Option (List Code)) (cn : Str) (cs : Scope) (a : Addr) (ccd : Value) (cl : List (Str × Addr)) (outer : List Env) (A₀ : Around) (base h₀ : Heap) (L : Addr) (m : Str → Option Value) (s : Shared)
    (p : Program) (loose : List Str) (mean : ExcName → Option Value) (mg mb : Str → Option Value) (Q E : Value → Shared → Prop),
    K h₀ → Below A₀ base outer h₀ → Fr h₀ L s.heap m → (hd.heap_39 w.params).In h₀ → News h₀ L s.heap news → Top p loose mean mg mb h₀ → cs.kind = .function → dp + cost < recursionLimit → un + 8 * cost < cLine →
    (∀ r news' h' tk', Fr h₀ L h' m → News h₀ L h' news' → post news' r → Q r { s with heap := h', toks := tk' }) →
    wpAny (model PySem.Challenge.rw_kl0188_01.row.prog w) (ktrTop dp un gd cn cs L a ccd cl outer) (call f args kw) Q E s
structure LinksOk (c : List (Str × Str)) (n : Nat) : Prop where
  len : c.length ≤ n
  each : ∀ q ∈ c, q.2.length ≤ 38 ∧ PyData.strOk q.2 = true
structure PathOk (p : Str) (n : Nat) : Prop where
  len : p.length ≤ 31 * n
  ends : EndsOk (sg p)
  ok : PyData.strOk p = true
noncomputable def DrawnPost (w : World) (R : Led) (news' : Led) (r : Value) : Prop :=
  ∃ T D o c p tp, news' = (T, tupOf [.ref D, .str p tp]) :: (D, o) :: R ∧ r = .ref T ∧ IsLinks w D o c ∧ LinksOk c 19 ∧ PathOk p 19 ∧ AllLt D R ∧ @LT.lt Nat _ D T
noncomputable abbrev namesS : List Str := [Str.ofString "a", Str.ofString "b", Str.ofString "...", Str.ofString "it's\n#"]
theorem path_nil : PathOk (Str.ofString "") 0 := ⟨by decide +kernel, (fun x hx => by rw [show sg (Str.ofString "") = [] by decide +kernel] at hx; cases hx), by decide +kernel⟩
theorem drawn_loop {P : Prop} {h₀ h : Heap} {L x1 x2 x3 x4 x5 d nl : Addr} {o1 o2 o3 o4 o5 o : Obj} {t1 t2 t3 t4 : Tok} {y1 y2 y3 y4 : Str} {R : Led}
    (N : News h₀ L h ((x1, o1) :: (x2, o2) :: (x3, o3) :: (x4, o4) :: (x5, o5) :: (d, o) :: (nl, listOf #[.str y1 t1, .str y2 t2, .str y3 t3, .str y4 t4] 0) :: R))
    (k : ∀ X D M, X = x1 → D = d → M = nl → (∃ nv, StrsAre nv [y1, y2, y3, y4] ∧ News h₀ L h ((X, o1) :: (D, o) :: (M, listOf nv.toArray 0) :: R)) → P) : P :=
  k x1 d nl rfl rfl rfl ⟨_, .cons _ _ (.cons _ _ (.cons _ _ (.cons _ _ .nil))), news_sub N (fun z hz => by
    rcases List.mem_cons.mp hz with rfl | hz
    · exact .head _
    · rcases List.mem_cons.mp hz with rfl | hz
      · exact .tail _ (.tail _ (.tail _ (.tail _ (.tail _ (.head _)))))
      · rcases List.mem_cons.mp hz with rfl | hz
        · exact .tail _ (.tail _ (.tail _ (.tail _ (.tail _ (.tail _ (.head _))))))
        · exact .tail _ (.tail _ (.tail _ (.tail _ (.tail _ (.tail _ (.tail _ hz)))))))⟩
theorem ints_name {P : Prop} {vs : List Value} {ns : List Int} (_ : IntsAre vs ns) (k : ∀ b, b = vs → P) : P := k vs rfl
theorem ok_le {n k : Nat} {x : Str} (h : Ok n x) (hk : n ≤ k) : Ok k x := ⟨Nat.le_trans h.1 hk, h.2⟩
theorem links_up {c : List (Str × Str)} {n : Nat} (h : LinksOk c n) : LinksOk c (n + 1) := ⟨Nat.le_succ_of_le h.len, h.each⟩
theorem links_put {c : List (Str × Str)} {n : Nat} {k v : Str} (h : LinksOk c n) (hv : Ok 33 v) : LinksOk (dPut c k v) (n + 1) :=
  ⟨Nat.le_trans (dPut_len c k v) (Nat.succ_le_succ h.len), fun q hq => (dPut_in q hq).elim (fun e => by rw [e]; exact ⟨Nat.le_trans hv.1 (by decide), hv.2⟩) (h.each q)⟩
theorem path_up {p : Str} {n : Nat} (h : PathOk p n) : PathOk p (n + 1) := ⟨by have := h.len; omega, h.ends, h.ok⟩
theorem path_add {p x : Str} {n : Nat} (h : PathOk p n) (hx : Ok (31 * n + 30 + 1) (p ++ x ++ Str.ofString "/")) : PathOk (p ++ x ++ Str.ofString "/") (n + 1) :=
  ⟨by have := hx.1; omega, fun z hz => by rw [sg_append, sg_slash] at hz; simpa using hz.symm, hx.2⟩
theorem drawn_end {w : World} {g h' : Heap} {L IL D NL : Addr} {oi o1 onl : Obj} {R R2 own : Led} {m' m₀ : Str → Option Value} {x : Str} {stored : List Str} {i : Nat} {s₁ : Shared} {tk : Nat} (o' : Obj) (c' : List (Str × Str)) (p' : Str) (t' : Tok)
    (F : Fr g L h' m') (N : News g L h' ((IL, oi) :: (D, o') :: (NL, onl) :: R2)) (hR2 : R2 = R ++ own) (hoff : OwnOff own (((IL, oi) :: (D, o1) :: (NL, onl) :: R).map (·.1))) (hp : m' (Str.ofString "path") = some (.str p' t')) (K : IsLinks w D o' c') (hL : LinksOk c' (i + 1)) (hP : PathOk p' (i + 1))
    (hm : ∀ z, z ≠ x → stored.contains z = false → m' z = m₀ z) :
    InvEndG g L (fun m' nx => (IL, oi) ∈ nx ∧ (∃ o c p tp, nx = (IL, oi) :: (D, o) :: (NL, onl) :: R ∧ m' (Str.ofString "path") = some (.str p tp) ∧ IsLinks w D o c ∧ LinksOk c (i + 1) ∧ PathOk p (i + 1)) ∧ ∀ z, z ≠ x → stored.contains z = false → m' z = m₀ z) own s₁ { s₁ with heap := h', toks := tk } := by
  subst hR2
  refine InvEndG.intro (nx := (IL, oi) :: (D, o') :: (NL, onl) :: R) F N ⟨.head _, ⟨o', c', p', t', rfl, hp, K, hL, hP⟩, hm⟩ hoff (fun q hq => ?_) (fun q hq => .tail _ (.tail _ (.tail _ (List.mem_append.mpr (.inr hq)))))
  simp only [List.mem_cons, List.mem_append] at hq ⊢
  rcases hq with h | h | h | h <;> simp only [h, true_or, or_true]
theorem drawn_sub {T IL D NL : Addr} {oT oi o onl : Obj} (R : Led) : ∀ q ∈ (T, oT) :: (D, o) :: R, q ∈ (T, oT) :: (IL, oi) :: (D, o) :: (NL, onl) :: R := fun q hq => by
  simp only [List.mem_cons] at hq ⊢
  rcases hq with h | h | h <;> simp only [h, true_or, or_true]
set_option maxHeartbeats 1500000 in
theorem drawn_says (w : World) (S : Addr) (sv : List Value) (ns : List Int) (hi : IntsAre sv ns) (hn : ns.length ≤ 63) (R : Led) : SaysK w (fun h => h.IsList S sv.toArray) (.ref 862) [.ref S] [] 60 R (DrawnPost w R) := by
  unfold SaysK
  k_fill
  intro dp un gd cn cs a ccd cl outer A₀ base h₀ L m s p loose mean mg mb Q E hS B F X N T hk hd hu hret
  refine wpAny_call ?_
  k_dflt (first | (refine' code_def ?k1 ?k2 ?k3 ?k4 ?k5 ?zqkA ?zqkF ?kK ?zqk6 ?zqk7 ?zqk8 ?zqk9 ?zqkB ?_ ?zqc2 ?zqc3 ?zqc4 ?zqc5; (case zqkA | zqkF => exact rfl); (case kK => assumption); (case k1 | k2 => k_asm); (case k3 | k4 | k5 => k_asm); (case zqk6 | zqk7 => k_is); (case zqk8 => k_room); (case zqk9 => first | exact BindsTo.of_eq rfl | exact binds_K (by k_in) rfl (by k_is) rfl rfl rfl | fail); (case zqc5 => decide); (case zqkB => exact locs rfl); (case zqc2 | zqc3 | zqc4 => exact rfl); k_whole; intro g'Z L'Z h'Z FG'Z F'Z N'Z B'Z X'Z T'Z; (try dsimp only); (try k_lift B'Z); (try k_fold); refine name_A ?_; intro aA8; have hN8 := True.intro; have hO8 := True.intro) | (kp_kind "rest"; refine' kp_rest ?k1 ?k2 ?k3 ?k4 ?k5 ?zqkA ?zqkF ?kK ?zqk6 ?zqk7 ?zqk8 ?zqkV ?zqkP ?zqkG ?zqkB ?_ ?zqc2 ?zqc3 ?zqc4 ?zqc5; (case zqkA | zqkF => exact rfl); (case kK => assumption); (case k1 | k2 => k_asm); (case k3 | k4 | k5 => k_asm); (case zqk6 | zqk7 => k_is); (case zqk8 => k_room); (case zqkV | zqkP => exact rfl); (case zqkG => exact fun _ => rfl); (case zqkB => exact fun _ => locs rfl); (case zqc5 => decide); (case zqc2 | zqc3 | zqc4 => exact rfl); k_whole; intro D'Z g'Z L'Z h'Z l1Z FG'Z F'Z N'Z B'Z X'Z T'Z; (try k_lt l1Z); (try dsimp only); (try k_lift B'Z); (try k_fold); refine name_A ?_; intro aA8; have hN8 := True.intro; have hO8 := True.intro) | (kp_kind "both"; refine' kp_both ?k1 ?k2 ?k3 ?k4 ?k5 ?zqkA ?zqkF ?kK ?zqk6 ?zqk7 ?zqk8 ?zqkV ?zqkX ?zqkQ ?zqkM ?zqkN ?zqkD ?zqkR ?zqkP ?zqkS ?zqkT ?zqkB ?_ ?zqc2 ?zqc3 ?zqc4 ?zqc5; (case zqkA | zqkF => exact rfl); (case kK => assumption); (case k1 | k2 => k_asm); (case k3 | k4 | k5 => k_asm); (case zqk6 | zqk7 => k_is); (case zqk8 => k_room); (case zqkV | zqkX => kp_lit); (case zqkQ | zqkM | zqkN => exact rfl); (case zqkD => kp_flats); (case zqkR | zqkP => exact rfl); (case zqkS => exact fun _ => rfl); (case zqkT => exact fun _ _ => rfl); (case zqkB => exact fun _ _ => locs rfl); (case zqc5 => decide); (case zqc2 | zqc3 | zqc4 => exact rfl); k_whole; intro C'Z D'Z o'Z g'Z L'Z h'Z tk'Z l1Z l2Z lo'Z hs'Z fs'Z FG'Z F'Z N'Z B'Z X'Z T'Z; (try k_lt l1Z); (try k_lt2 l2Z); (try dsimp only); (try k_lift B'Z); (try k_fold); refine name_A ?_; intro aA8; have hN8 := True.intro; have hO8 := True.intro))
  rename Fr _ _ _ (fun y => _) => FA
  replace FA := fr_as (m' := fun y' => List.lookup y' [(Str.ofString "script", Value.ref S)]) FA (by kernel_rfl)
  generalize s.toks + _ = tkA
  rename Fr h₀ L _ m => FG
  have hS2 := Fr.lst FG hS
  clear hS
  repeat' (first | (k_unfold; (try dsimp only)) | (k_end; (with_reducible refine hN8 _ _ ?_); intro kN8; clear hN8 hO8; (try clear qN8); first | with_reducible refine execs_one ?_ | (refine execs_more ?_; intro qN8 hN8 hO8)) | (k_end; (with_reducible refine hO8 _ _ ?zn8 ?_); (case zn8 => first | exact ne_ret _ | exact ne_brk | exact ne_cont); clear hN8 hO8; (try clear qN8)) | (k_end; wrow_close) | (k_here; (with_reducible show wpAny _ _ (setItem (Value.ref _) (Value.str _ _) (Value.str _ _)) _ _ _); k_dflt (refine' links_set ?zqF ?zqN ?zqU ?zqd ?zqz ?_; (case zqF | zqN => k_asm); (case zqU => k_updF); (case zqd => k_asm); (case zqz => assumption); k_whole); intro h'Z o'Z F'Z N'Z hd'Z; (try dsimp only at N'Z)) | ((with_reducible show wpAny _ _ (eval (Expr.IfExp _ _ _ _) _) _ _ _); (k_here; refine stop_in ?_)) | ((with_reducible show wpAny _ _ (exec _ _) _ _ _); (first | ((with_reducible show wpAny _ _ (exec (Stmt.For (Expr.Name _ _) (Expr.BinOp _ _ _ _) _ _ _) _) _ _ _); (k_here; (rename Fr _ _ _ _ => lF'Z); (with_unfolding_all refine' For_invVF lF'Z ?k1 ?k2 ?_; (case k1 | k2 => exact rfl); k_whole))) | ((with_reducible show wpAny _ _ (exec (Stmt.For (Expr.Name _ _) (Expr.Name _ _) _ _ _) _) _ _ _); (k_here; (rename Fr _ _ _ _ => lF'Z); (with_unfolding_all refine' For_invVF lF'Z ?k1 ?k2 ?_; (case k1 | k2 => exact rfl); k_whole))) | ((with_reducible show wpAny _ _ (exec (Stmt.If _ _ _ _) _) _ _ _); (k_here; refine wpAny_If ?_)))) | ((with_reducible show wpAny _ _ (binaryOp Operator.Add (Value.str _ _) (Value.str _ _)) _ _ _); (k_here; k_dflt (refine' cat_ok ?k1 ?k2 ?k3 ?_; (case k1 | k2 => assumption); (case k3 => omega); k_whole); intro t9Z tk9Z o9Z)) | ((with_reducible show wpAny _ _ (subscriptTail _ _ _ _) _ _ _); (first | (k_here; (with_reducible show wpAny _ _ (subscriptTail _ _ (Value.ref _) (Value.int _ _)) _ _ _); k_dflt (refine' strs_atP ?k1 ?k2 ?k3 ?zqk9 ?k4 ?k5 ?zqk6 ?_ ?zqk7; (case k1 => k_asm); (case k2 => k_mem); (case k3 | zqk9 => assumption); (case k4 => (rw [Int.fmod_eq_emod_of_nonneg _ (by decide)]; omega)); (case k5 => first | omega | (rw [Int.fmod_eq_emod_of_nonneg _ (by decide)]; omega)); (case zqk6 => omega); (case zqk7 => with_unfolding_all rfl); k_whole); intro c9Z t9Z hc9Z) | (k_here; (with_reducible show wpAny _ _ (subscriptTail _ _ (Value.ref _) (Value.int (-1) _)) _ _ _); k_dflt (refine' item_last ?k1 ?k2 ?_ ?k4; (case k1 => k_asm); (case k2 => k_mem); (case k4 => with_unfolding_all rfl); k_whole)))) | ((with_reducible show wpAny _ _ (call _ _ _) _ _ _); (first | ((with_reducible show wpAny _ _ (call (Value.builtin "abs") _ _) _ _ _); (refine abs_gen ?_; intro y9Z t9Z tk9Z hy9Z)) | (k_here; (with_reducible show wpAny _ _ (call (Value.ref 855) [Value.int _ _, Value.int 3 _]) _ _ _); k_dflt (refine' says_use (text_says _ _ _ _ _ ?zqkp) ?k1 ?k2 ?k3 ?k4 ?k5 ?kK ?kd ?ku ?_; tb_rel; (case zqkp => first | assumption | omega | (rw [Int.fdiv_eq_ediv_of_nonneg _ (by decide)]; omega)); rintro r9Z n9Z h9Z tk9Z F9Z N9Z ⟨e9Z, x9Z, t9Z, q9Z, hx9Z, ho9Z⟩; subst e9Z; subst q9Z; (have o9Z : Ok 30 x9Z := ⟨hx9Z, ho9Z⟩); (try dsimp only); (try k_fold))) | (k_here; (with_reducible show wpAny _ _ (call (Value.builtin "len") [Value.ref _]) _ _ _); k_dflt (refine' len_made ?k1 ?k2 ?k3 ?_; (case k1 => k_asm); (case k2 => k_mem); (case k3 => omega); k_whole); intro t9Z tk9Z) | (k_here; (with_reducible show wpAny _ _ (call (Value.builtin "str.join") [Value.str _ _, Value.ref _]) _ _ _); k_dflt (refine' join_listW ?k1 ?k2 ?k3 ?k4 ?_; (case k1 => exact News.isList (by k_asm) (by k_mem)); (case k2 => assumption); (case k3 => decide +kernel); (case k4 => first | assumption | omega); k_whole); intro _ _) | ((with_reducible show wpAny _ _ (call (Value.builtin "list.append") _ _) _ _ _); (k_here; k_dflt (refine' append_snoc ?k1 ?k2 ?k3 ?k4 ?_; (case k1 | k2 => k_asm); (case k3 => k_upd); (case k4 => omega); k_whole); intro h'Z F'Z N'Z; (try k_sweep))))) | ((with_reducible show wpAny _ _ (compareOp _ _ _) _ _ _); (first | ((with_reducible show wpAny _ _ (compareOp CmpOp.In (Value.str _ _) (Value.ref _)) _ _ _); (k_here; k_dflt (refine' links_in ?k1 ?k2 ?k3 ?k4 ?_; (case k1 => k_asm); (case k2 => k_mem); (case k3 | k4 => assumption); k_whole))) | (k_here; (with_reducible show wpAny _ _ (compareOp CmpOp.In (Value.str _ _) (Value.str _ _)) _ _ _); first | (refine in_known (b := false) (by assumption) ?_) | (refine in_known (b := true) (by assumption) ?_) | (refine in_known (b := false) (by decide +kernel) ?_) | (refine in_known (b := true) (by decide +kernel) ?_)))) | ((with_reducible show wpAny _ _ (pyIter (Value.ref _)) _ _ _); (k_here; refine stop_in ?_)) | ((with_reducible show wpAny _ _ (truthy _) _ _ _); (first | ((with_reducible show wpAny _ _ (truthy (Value.ref _)) _ _ _); (k_here; k_dflt (first | (refine' truthy_nil ?k1 ?k2 ?_; (case k1 => k_asm); (case k2 => k_mem); k_whole) | (refine' truthy_snoc ?k1 ?k2 ?k3 ?_; (case k1 => k_asm); (case k2 => k_mem); (case k3 => omega); k_whole)))) | (k_here; (with_reducible show wpAny _ _ (truthy (Value.str _ _)) _ _ _); refine truthy_long (by assumption) (by omega) ?_; intro _))) | ((with_reducible show wpAny _ _ (execs _ _) _ _ _); (first | ((with_reducible show wpAny _ _ (execs [] _) _ _ _); (k_here; refine wpAny_execs_nil ?_)) | ((with_reducible show wpAny _ _ (execs (_ :: _) _) _ _ _); (k_here; (try dsimp only); (try k_fold); first | with_reducible refine execs_one ?_ | (refine execs_more ?_; intro qN8 hN8 hO8))))) | walk1 | ((with_reducible show wpAny _ _ _ _ _ _); dsimp only) | (leave1; walk_say "STEP leave1"; try dsimp only) | fail "no step")
  unfold Stop
  rename News _ _ _ (_ :: _) => N1
  rename Fr _ _ _ (fun y => _) => F1
  refine drawn_loop N1 ?_
  rintro IL D NL e1 e2 e3 ⟨nv, hnv, N2⟩
  subst e1
  subst e2
  subst e3
  have hP4 : namesS.length = 4 := rfl
  have hPf : ∀ c ∈ namesS, Ok 6 c := by unfold Ok; decide +kernel
  have oS1 : Ok 1 (Str.ofString "/") := ⟨by decide +kernel, strOk_of _⟩
  have oS3 : Ok 3 (Str.ofString "///") := ⟨by decide +kernel, strOk_of _⟩
  refine named namesS ?_
  intro PS hPS
  rw [← hPS] at hP4 hPf
  replace hnv : StrsAre nv PS := hPS ▸ hnv
  clear hPS
  rename IntsAre _ ([2784, 2148] ++ List.take 16 ns ++ [193]) => hI
  refine named ([2784, 2148] ++ List.take 16 ns ++ [193]) ?_
  intro xs hxs
  rw [← hxs] at hI
  have hxl : xs.length ≤ 19 := by
    rw [hxs]
    simp only [List.length_append, List.length_cons, List.length_nil, List.length_take]
    omega
  clear hxs
  clear N1
  rename _ ∧ AllLt D R => lND
  rename _ ∧ _ ∧ _ ∧ _ ∧ _ ∧ _ ∧ AllLt IL R => lIL
  have lDR := lND.2
  have dNL : NL ≠ D := Nat.ne_of_lt lND.1
  have dIL : IL ≠ D := (Nat.ne_of_lt lIL.2.2.2.2.1).symm
  have dR := allLt_ne lDR
  refine ints_name hI ?_
  intro ws ews
  subst ews
  refine list_loopS _ (fun i m nx => ∃ o c p tp, nx = (IL, listOf ws.toArray 0) :: (D, o) :: (NL, listOf nv.toArray 0) :: R ∧ m (Str.ofString "path") = some (.str p tp) ∧ IsLinks w D o c ∧ LinksOk c i ∧ PathOk p i) [Str.ofString "y", Str.ofString "place", Str.ofString "text", Str.ofString "path"] rfl F1 N2 (fun _ hp => hp) (.head _)
    ⟨_, [], Str.ofString "", _, rfl, rfl, ⟨by assumption, [], by assumption, by assumption⟩, ⟨Nat.zero_le _, fun _ h => nomatch h⟩, path_nil⟩ ?turn ?done
  case turn =>
    rintro i v m₁ nx h tk own hv hoff - ⟨o1, c, p1, tp1, rfl, hp, K, hL, hP⟩ hm F2 N3
    obtain ⟨n, t1, rfl, -⟩ := hI.at i v hv
    have hil : i < 19 := by
      have := (List.getElem?_eq_some_iff.mp hv).1
      have := hI.length
      omega
    have F3 := kst_fr (ps := [(Str.ofString "path", Value.str p1 tp1)]) (stored := [Str.ofString "y", Str.ofString "place", Str.ofString "text"]) (fun p hq => by rw [List.mem_singleton.mp hq]; exact hp) (fun z z1 z2 z3 => hm z z1 (st_more (a := Str.ofString "path") (b := Str.ofString "path") (z2 _ (.head _)) (z2 _ (.head _)) z3 (by decide +kernel))) F2
    clear F2
    dsimp only [kstB] at F3
    simp only [List.cons_append] at N3
    have oR : ∀ p ∈ R ++ own, p.1 ≠ D := fun p hp => (List.mem_append.mp hp).elim (dR p) fun h => hoff p h D (by simp)
    refine named (R ++ own) ?_
    intro R2 hR2
    rw [← hR2] at N3 oR
    have oN : ∀ p ∈ (NL, listOf nv.toArray 0) :: R2, p.1 ≠ D := fun p hp => (List.mem_cons.mp hp).elim (fun e => by rw [e]; exact dNL) (oR p)
    have hcl : c.length ≤ 100000 := by have := hL.len; omega
    have oP : Ok (31 * i) p1 := ⟨hP.len, hP.ok⟩
    repeat' (first | (k_unfold; (try dsimp only)) | (k_end; (with_reducible refine hN8 _ _ ?_); intro kN8; clear hN8 hO8; (try clear qN8); first | with_reducible refine execs_one ?_ | (refine execs_more ?_; intro qN8 hN8 hO8)) | (k_end; (with_reducible refine hO8 _ _ ?zn8 ?_); (case zn8 => first | exact ne_ret _ | exact ne_brk | exact ne_cont); clear hN8 hO8; (try clear qN8)) | (k_end; wrow_close) | (k_here; (with_reducible show wpAny _ _ (setItem (Value.ref _) (Value.str _ _) (Value.str _ _)) _ _ _); k_dflt (refine' links_set ?zqF ?zqN ?zqU ?zqd ?zqz ?_; (case zqF | zqN => k_asm); (case zqU => k_updF); (case zqd => k_asm); (case zqz => assumption); k_whole); intro h'Z o'Z F'Z N'Z hd'Z; (try dsimp only at N'Z)) | ((with_reducible show wpAny _ _ (eval (Expr.IfExp _ _ _ _) _) _ _ _); (k_here; refine stop_in ?_)) | ((with_reducible show wpAny _ _ (exec _ _) _ _ _); (first | ((with_reducible show wpAny _ _ (exec (Stmt.For (Expr.Name _ _) (Expr.BinOp _ _ _ _) _ _ _) _) _ _ _); (k_here; (rename Fr _ _ _ _ => lF'Z); (with_unfolding_all refine' For_invVF lF'Z ?k1 ?k2 ?_; (case k1 | k2 => exact rfl); k_whole))) | ((with_reducible show wpAny _ _ (exec (Stmt.For (Expr.Name _ _) (Expr.Name _ _) _ _ _) _) _ _ _); (k_here; (rename Fr _ _ _ _ => lF'Z); (with_unfolding_all refine' For_invVF lF'Z ?k1 ?k2 ?_; (case k1 | k2 => exact rfl); k_whole))) | ((with_reducible show wpAny _ _ (exec (Stmt.If _ _ _ _) _) _ _ _); (k_here; refine wpAny_If ?_)))) | ((with_reducible show wpAny _ _ (binaryOp Operator.Add (Value.str _ _) (Value.str _ _)) _ _ _); (k_here; k_dflt (refine' cat_ok ?k1 ?k2 ?k3 ?_; (case k1 | k2 => assumption); (case k3 => omega); k_whole); intro t9Z tk9Z o9Z)) | ((with_reducible show wpAny _ _ (subscriptTail _ _ _ _) _ _ _); (first | (k_here; (with_reducible show wpAny _ _ (subscriptTail _ _ (Value.ref _) (Value.int _ _)) _ _ _); k_dflt (refine' strs_atP ?k1 ?k2 ?k3 ?zqk9 ?k4 ?k5 ?zqk6 ?_ ?zqk7; (case k1 => k_asm); (case k2 => k_mem); (case k3 | zqk9 => assumption); (case k4 => (rw [Int.fmod_eq_emod_of_nonneg _ (by decide)]; omega)); (case k5 => first | omega | (rw [Int.fmod_eq_emod_of_nonneg _ (by decide)]; omega)); (case zqk6 => omega); (case zqk7 => with_unfolding_all rfl); k_whole); intro c9Z t9Z hc9Z) | (k_here; (with_reducible show wpAny _ _ (subscriptTail _ _ (Value.ref _) (Value.int (-1) _)) _ _ _); k_dflt (refine' item_last ?k1 ?k2 ?_ ?k4; (case k1 => k_asm); (case k2 => k_mem); (case k4 => with_unfolding_all rfl); k_whole)))) | ((with_reducible show wpAny _ _ (call _ _ _) _ _ _); (first | ((with_reducible show wpAny _ _ (call (Value.builtin "abs") _ _) _ _ _); (refine abs_gen ?_; intro y9Z t9Z tk9Z hy9Z)) | (k_here; (with_reducible show wpAny _ _ (call (Value.ref 855) [Value.int _ _, Value.int 3 _]) _ _ _); k_dflt (refine' says_use (text_says _ _ _ _ _ ?zqkp) ?k1 ?k2 ?k3 ?k4 ?k5 ?kK ?kd ?ku ?_; tb_rel; (case zqkp => first | assumption | omega | (rw [Int.fdiv_eq_ediv_of_nonneg _ (by decide)]; omega)); rintro r9Z n9Z h9Z tk9Z F9Z N9Z ⟨e9Z, x9Z, t9Z, q9Z, hx9Z, ho9Z⟩; subst e9Z; subst q9Z; (have o9Z : Ok 30 x9Z := ⟨hx9Z, ho9Z⟩); (try dsimp only); (try k_fold))) | (k_here; (with_reducible show wpAny _ _ (call (Value.builtin "len") [Value.ref _]) _ _ _); k_dflt (refine' len_made ?k1 ?k2 ?k3 ?_; (case k1 => k_asm); (case k2 => k_mem); (case k3 => omega); k_whole); intro t9Z tk9Z) | (k_here; (with_reducible show wpAny _ _ (call (Value.builtin "str.join") [Value.str _ _, Value.ref _]) _ _ _); k_dflt (refine' join_listW ?k1 ?k2 ?k3 ?k4 ?_; (case k1 => exact News.isList (by k_asm) (by k_mem)); (case k2 => assumption); (case k3 => decide +kernel); (case k4 => first | assumption | omega); k_whole); intro _ _) | ((with_reducible show wpAny _ _ (call (Value.builtin "list.append") _ _) _ _ _); (k_here; k_dflt (refine' append_snoc ?k1 ?k2 ?k3 ?k4 ?_; (case k1 | k2 => k_asm); (case k3 => k_upd); (case k4 => omega); k_whole); intro h'Z F'Z N'Z; (try k_sweep))))) | ((with_reducible show wpAny _ _ (compareOp _ _ _) _ _ _); (first | ((with_reducible show wpAny _ _ (compareOp CmpOp.In (Value.str _ _) (Value.ref _)) _ _ _); (k_here; k_dflt (refine' links_in ?k1 ?k2 ?k3 ?k4 ?_; (case k1 => k_asm); (case k2 => k_mem); (case k3 | k4 => assumption); k_whole))) | (k_here; (with_reducible show wpAny _ _ (compareOp CmpOp.In (Value.str _ _) (Value.str _ _)) _ _ _); first | (refine in_known (b := false) (by assumption) ?_) | (refine in_known (b := true) (by assumption) ?_) | (refine in_known (b := false) (by decide +kernel) ?_) | (refine in_known (b := true) (by decide +kernel) ?_)))) | ((with_reducible show wpAny _ _ (pyIter (Value.ref _)) _ _ _); (k_here; refine stop_in ?_)) | ((with_reducible show wpAny _ _ (truthy _) _ _ _); (first | ((with_reducible show wpAny _ _ (truthy (Value.ref _)) _ _ _); (k_here; k_dflt (first | (refine' truthy_nil ?k1 ?k2 ?_; (case k1 => k_asm); (case k2 => k_mem); k_whole) | (refine' truthy_snoc ?k1 ?k2 ?k3 ?_; (case k1 => k_asm); (case k2 => k_mem); (case k3 => omega); k_whole)))) | (k_here; (with_reducible show wpAny _ _ (truthy (Value.str _ _)) _ _ _); refine truthy_long (by assumption) (by omega) ?_; intro _))) | ((with_reducible show wpAny _ _ (execs _ _) _ _ _); (first | ((with_reducible show wpAny _ _ (execs [] _) _ _ _); (k_here; refine wpAny_execs_nil ?_)) | ((with_reducible show wpAny _ _ (execs (_ :: _) _) _ _ _); (k_here; (try dsimp only); (try k_fold); first | with_reducible refine execs_one ?_ | (refine execs_more ?_; intro qN8 hN8 hO8))))) | walk1 | ((with_reducible show wpAny _ _ _ _ _ _); dsimp only) | (leave1; walk_say "STEP leave1"; try dsimp only) | fail "no step")
    · unfold Stop
      (try dsimp only)
      rename Fr _ _ _ _ => F4
      rename News _ _ _ _ => N4
      refine mid_point (fun v led => led = (IL, listOf ws.toArray 0) :: (D, o1) :: (NL, listOf nv.toArray 0) :: R2 ∧ ∃ x t, v = .str x t ∧ Ok 33 x) F4 ?_ ?_
      · refine IfExp_ ?_
        repeat' (first | (k_unfold; (try dsimp only)) | (k_end; (with_reducible refine hN8 _ _ ?_); intro kN8; clear hN8 hO8; (try clear qN8); first | with_reducible refine execs_one ?_ | (refine execs_more ?_; intro qN8 hN8 hO8)) | (k_end; (with_reducible refine hO8 _ _ ?zn8 ?_); (case zn8 => first | exact ne_ret _ | exact ne_brk | exact ne_cont); clear hN8 hO8; (try clear qN8)) | (k_end; wrow_close) | (k_here; (with_reducible show wpAny _ _ (setItem (Value.ref _) (Value.str _ _) (Value.str _ _)) _ _ _); k_dflt (refine' links_set ?zqF ?zqN ?zqU ?zqd ?zqz ?_; (case zqF | zqN => k_asm); (case zqU => k_updF); (case zqd => k_asm); (case zqz => assumption); k_whole); intro h'Z o'Z F'Z N'Z hd'Z; (try dsimp only at N'Z)) | ((with_reducible show wpAny _ _ (eval (Expr.IfExp _ _ _ _) _) _ _ _); (k_here; refine stop_in ?_)) | ((with_reducible show wpAny _ _ (exec _ _) _ _ _); (first | ((with_reducible show wpAny _ _ (exec (Stmt.For (Expr.Name _ _) (Expr.BinOp _ _ _ _) _ _ _) _) _ _ _); (k_here; (rename Fr _ _ _ _ => lF'Z); (with_unfolding_all refine' For_invVF lF'Z ?k1 ?k2 ?_; (case k1 | k2 => exact rfl); k_whole))) | ((with_reducible show wpAny _ _ (exec (Stmt.For (Expr.Name _ _) (Expr.Name _ _) _ _ _) _) _ _ _); (k_here; (rename Fr _ _ _ _ => lF'Z); (with_unfolding_all refine' For_invVF lF'Z ?k1 ?k2 ?_; (case k1 | k2 => exact rfl); k_whole))) | ((with_reducible show wpAny _ _ (exec (Stmt.If _ _ _ _) _) _ _ _); (k_here; refine wpAny_If ?_)))) | ((with_reducible show wpAny _ _ (binaryOp Operator.Add (Value.str _ _) (Value.str _ _)) _ _ _); (k_here; k_dflt (refine' cat_ok ?k1 ?k2 ?k3 ?_; (case k1 | k2 => assumption); (case k3 => omega); k_whole); intro t9Z tk9Z o9Z)) | ((with_reducible show wpAny _ _ (subscriptTail _ _ _ _) _ _ _); (first | (k_here; (with_reducible show wpAny _ _ (subscriptTail _ _ (Value.ref _) (Value.int _ _)) _ _ _); k_dflt (refine' strs_atP ?k1 ?k2 ?k3 ?zqk9 ?k4 ?k5 ?zqk6 ?_ ?zqk7; (case k1 => k_asm); (case k2 => k_mem); (case k3 | zqk9 => assumption); (case k4 => (rw [Int.fmod_eq_emod_of_nonneg _ (by decide)]; omega)); (case k5 => first | omega | (rw [Int.fmod_eq_emod_of_nonneg _ (by decide)]; omega)); (case zqk6 => omega); (case zqk7 => with_unfolding_all rfl); k_whole); intro c9Z t9Z hc9Z) | (k_here; (with_reducible show wpAny _ _ (subscriptTail _ _ (Value.ref _) (Value.int (-1) _)) _ _ _); k_dflt (refine' item_last ?k1 ?k2 ?_ ?k4; (case k1 => k_asm); (case k2 => k_mem); (case k4 => with_unfolding_all rfl); k_whole)))) | ((with_reducible show wpAny _ _ (call _ _ _) _ _ _); (first | ((with_reducible show wpAny _ _ (call (Value.builtin "abs") _ _) _ _ _); (refine abs_gen ?_; intro y9Z t9Z tk9Z hy9Z)) | (k_here; (with_reducible show wpAny _ _ (call (Value.ref 855) [Value.int _ _, Value.int 3 _]) _ _ _); k_dflt (refine' says_use (text_says _ _ _ _ _ ?zqkp) ?k1 ?k2 ?k3 ?k4 ?k5 ?kK ?kd ?ku ?_; tb_rel; (case zqkp => first | assumption | omega | (rw [Int.fdiv_eq_ediv_of_nonneg _ (by decide)]; omega)); rintro r9Z n9Z h9Z tk9Z F9Z N9Z ⟨e9Z, x9Z, t9Z, q9Z, hx9Z, ho9Z⟩; subst e9Z; subst q9Z; (have o9Z : Ok 30 x9Z := ⟨hx9Z, ho9Z⟩); (try dsimp only); (try k_fold))) | (k_here; (with_reducible show wpAny _ _ (call (Value.builtin "len") [Value.ref _]) _ _ _); k_dflt (refine' len_made ?k1 ?k2 ?k3 ?_; (case k1 => k_asm); (case k2 => k_mem); (case k3 => omega); k_whole); intro t9Z tk9Z) | (k_here; (with_reducible show wpAny _ _ (call (Value.builtin "str.join") [Value.str _ _, Value.ref _]) _ _ _); k_dflt (refine' join_listW ?k1 ?k2 ?k3 ?k4 ?_; (case k1 => exact News.isList (by k_asm) (by k_mem)); (case k2 => assumption); (case k3 => decide +kernel); (case k4 => first | assumption | omega); k_whole); intro _ _) | ((with_reducible show wpAny _ _ (call (Value.builtin "list.append") _ _) _ _ _); (k_here; k_dflt (refine' append_snoc ?k1 ?k2 ?k3 ?k4 ?_; (case k1 | k2 => k_asm); (case k3 => k_upd); (case k4 => omega); k_whole); intro h'Z F'Z N'Z; (try k_sweep))))) | ((with_reducible show wpAny _ _ (compareOp _ _ _) _ _ _); (first | ((with_reducible show wpAny _ _ (compareOp CmpOp.In (Value.str _ _) (Value.ref _)) _ _ _); (k_here; k_dflt (refine' links_in ?k1 ?k2 ?k3 ?k4 ?_; (case k1 => k_asm); (case k2 => k_mem); (case k3 | k4 => assumption); k_whole))) | (k_here; (with_reducible show wpAny _ _ (compareOp CmpOp.In (Value.str _ _) (Value.str _ _)) _ _ _); first | (refine in_known (b := false) (by assumption) ?_) | (refine in_known (b := true) (by assumption) ?_) | (refine in_known (b := false) (by decide +kernel) ?_) | (refine in_known (b := true) (by decide +kernel) ?_)))) | ((with_reducible show wpAny _ _ (pyIter (Value.ref _)) _ _ _); (k_here; refine stop_in ?_)) | ((with_reducible show wpAny _ _ (truthy _) _ _ _); (first | ((with_reducible show wpAny _ _ (truthy (Value.ref _)) _ _ _); (k_here; k_dflt (first | (refine' truthy_nil ?k1 ?k2 ?_; (case k1 => k_asm); (case k2 => k_mem); k_whole) | (refine' truthy_snoc ?k1 ?k2 ?k3 ?_; (case k1 => k_asm); (case k2 => k_mem); (case k3 => omega); k_whole)))) | (k_here; (with_reducible show wpAny _ _ (truthy (Value.str _ _)) _ _ _); refine truthy_long (by assumption) (by omega) ?_; intro _))) | ((with_reducible show wpAny _ _ (execs _ _) _ _ _); (first | ((with_reducible show wpAny _ _ (execs [] _) _ _ _); (k_here; refine wpAny_execs_nil ?_)) | ((with_reducible show wpAny _ _ (execs (_ :: _) _) _ _ _); (k_here; (try dsimp only); (try k_fold); first | with_reducible refine execs_one ?_ | (refine execs_more ?_; intro qN8 hN8 hO8))))) | walk1 | ((with_reducible show wpAny _ _ _ _ _ _); dsimp only) | (leave1; walk_say "STEP leave1"; try dsimp only) | fail "no step")
        all_goals (try dsimp only)
        all_goals first
          | exact mid_in _ (by assumption) (by assumption) ⟨rfl, _, _, rfl, by assumption⟩
          | exact mid_in _ (by assumption) (by assumption) ⟨rfl, _, _, rfl, ok_le (by assumption) (by decide)⟩
      · rintro v h4 tk4 _ F5 N5 ⟨rfl, x5, t5, rfl, o5⟩
        repeat' (first | (k_unfold; (try dsimp only)) | (k_end; (with_reducible refine hN8 _ _ ?_); intro kN8; clear hN8 hO8; (try clear qN8); first | with_reducible refine execs_one ?_ | (refine execs_more ?_; intro qN8 hN8 hO8)) | (k_end; (with_reducible refine hO8 _ _ ?zn8 ?_); (case zn8 => first | exact ne_ret _ | exact ne_brk | exact ne_cont); clear hN8 hO8; (try clear qN8)) | (k_end; wrow_close) | (k_here; (with_reducible show wpAny _ _ (setItem (Value.ref _) (Value.str _ _) (Value.str _ _)) _ _ _); k_dflt (refine' links_set ?zqF ?zqN ?zqU ?zqd ?zqz ?_; (case zqF | zqN => k_asm); (case zqU => k_updF); (case zqd => k_asm); (case zqz => assumption); k_whole); intro h'Z o'Z F'Z N'Z hd'Z; (try dsimp only at N'Z)) | ((with_reducible show wpAny _ _ (eval (Expr.IfExp _ _ _ _) _) _ _ _); (k_here; refine stop_in ?_)) | ((with_reducible show wpAny _ _ (exec _ _) _ _ _); (first | ((with_reducible show wpAny _ _ (exec (Stmt.For (Expr.Name _ _) (Expr.BinOp _ _ _ _) _ _ _) _) _ _ _); (k_here; (rename Fr _ _ _ _ => lF'Z); (with_unfolding_all refine' For_invVF lF'Z ?k1 ?k2 ?_; (case k1 | k2 => exact rfl); k_whole))) | ((with_reducible show wpAny _ _ (exec (Stmt.For (Expr.Name _ _) (Expr.Name _ _) _ _ _) _) _ _ _); (k_here; (rename Fr _ _ _ _ => lF'Z); (with_unfolding_all refine' For_invVF lF'Z ?k1 ?k2 ?_; (case k1 | k2 => exact rfl); k_whole))) | ((with_reducible show wpAny _ _ (exec (Stmt.If _ _ _ _) _) _ _ _); (k_here; refine wpAny_If ?_)))) | ((with_reducible show wpAny _ _ (binaryOp Operator.Add (Value.str _ _) (Value.str _ _)) _ _ _); (k_here; k_dflt (refine' cat_ok ?k1 ?k2 ?k3 ?_; (case k1 | k2 => assumption); (case k3 => omega); k_whole); intro t9Z tk9Z o9Z)) | ((with_reducible show wpAny _ _ (subscriptTail _ _ _ _) _ _ _); (first | (k_here; (with_reducible show wpAny _ _ (subscriptTail _ _ (Value.ref _) (Value.int _ _)) _ _ _); k_dflt (refine' strs_atP ?k1 ?k2 ?k3 ?zqk9 ?k4 ?k5 ?zqk6 ?_ ?zqk7; (case k1 => k_asm); (case k2 => k_mem); (case k3 | zqk9 => assumption); (case k4 => (rw [Int.fmod_eq_emod_of_nonneg _ (by decide)]; omega)); (case k5 => first | omega | (rw [Int.fmod_eq_emod_of_nonneg _ (by decide)]; omega)); (case zqk6 => omega); (case zqk7 => with_unfolding_all rfl); k_whole); intro c9Z t9Z hc9Z) | (k_here; (with_reducible show wpAny _ _ (subscriptTail _ _ (Value.ref _) (Value.int (-1) _)) _ _ _); k_dflt (refine' item_last ?k1 ?k2 ?_ ?k4; (case k1 => k_asm); (case k2 => k_mem); (case k4 => with_unfolding_all rfl); k_whole)))) | ((with_reducible show wpAny _ _ (call _ _ _) _ _ _); (first | ((with_reducible show wpAny _ _ (call (Value.builtin "abs") _ _) _ _ _); (refine abs_gen ?_; intro y9Z t9Z tk9Z hy9Z)) | (k_here; (with_reducible show wpAny _ _ (call (Value.ref 855) [Value.int _ _, Value.int 3 _]) _ _ _); k_dflt (refine' says_use (text_says _ _ _ _ _ ?zqkp) ?k1 ?k2 ?k3 ?k4 ?k5 ?kK ?kd ?ku ?_; tb_rel; (case zqkp => first | assumption | omega | (rw [Int.fdiv_eq_ediv_of_nonneg _ (by decide)]; omega)); rintro r9Z n9Z h9Z tk9Z F9Z N9Z ⟨e9Z, x9Z, t9Z, q9Z, hx9Z, ho9Z⟩; subst e9Z; subst q9Z; (have o9Z : Ok 30 x9Z := ⟨hx9Z, ho9Z⟩); (try dsimp only); (try k_fold))) | (k_here; (with_reducible show wpAny _ _ (call (Value.builtin "len") [Value.ref _]) _ _ _); k_dflt (refine' len_made ?k1 ?k2 ?k3 ?_; (case k1 => k_asm); (case k2 => k_mem); (case k3 => omega); k_whole); intro t9Z tk9Z) | (k_here; (with_reducible show wpAny _ _ (call (Value.builtin "str.join") [Value.str _ _, Value.ref _]) _ _ _); k_dflt (refine' join_listW ?k1 ?k2 ?k3 ?k4 ?_; (case k1 => exact News.isList (by k_asm) (by k_mem)); (case k2 => assumption); (case k3 => decide +kernel); (case k4 => first | assumption | omega); k_whole); intro _ _) | ((with_reducible show wpAny _ _ (call (Value.builtin "list.append") _ _) _ _ _); (k_here; k_dflt (refine' append_snoc ?k1 ?k2 ?k3 ?k4 ?_; (case k1 | k2 => k_asm); (case k3 => k_upd); (case k4 => omega); k_whole); intro h'Z F'Z N'Z; (try k_sweep))))) | ((with_reducible show wpAny _ _ (compareOp _ _ _) _ _ _); (first | ((with_reducible show wpAny _ _ (compareOp CmpOp.In (Value.str _ _) (Value.ref _)) _ _ _); (k_here; k_dflt (refine' links_in ?k1 ?k2 ?k3 ?k4 ?_; (case k1 => k_asm); (case k2 => k_mem); (case k3 | k4 => assumption); k_whole))) | (k_here; (with_reducible show wpAny _ _ (compareOp CmpOp.In (Value.str _ _) (Value.str _ _)) _ _ _); first | (refine in_known (b := false) (by assumption) ?_) | (refine in_known (b := true) (by assumption) ?_) | (refine in_known (b := false) (by decide +kernel) ?_) | (refine in_known (b := true) (by decide +kernel) ?_)))) | ((with_reducible show wpAny _ _ (pyIter (Value.ref _)) _ _ _); (k_here; refine stop_in ?_)) | ((with_reducible show wpAny _ _ (truthy _) _ _ _); (first | ((with_reducible show wpAny _ _ (truthy (Value.ref _)) _ _ _); (k_here; k_dflt (first | (refine' truthy_nil ?k1 ?k2 ?_; (case k1 => k_asm); (case k2 => k_mem); k_whole) | (refine' truthy_snoc ?k1 ?k2 ?k3 ?_; (case k1 => k_asm); (case k2 => k_mem); (case k3 => omega); k_whole)))) | (k_here; (with_reducible show wpAny _ _ (truthy (Value.str _ _)) _ _ _); refine truthy_long (by assumption) (by omega) ?_; intro _))) | ((with_reducible show wpAny _ _ (execs _ _) _ _ _); (first | ((with_reducible show wpAny _ _ (execs [] _) _ _ _); (k_here; refine wpAny_execs_nil ?_)) | ((with_reducible show wpAny _ _ (execs (_ :: _) _) _ _ _); (k_here; (try dsimp only); (try k_fold); first | with_reducible refine execs_one ?_ | (refine execs_more ?_; intro qN8 hN8 hO8))))) | walk1 | ((with_reducible show wpAny _ _ _ _ _ _); dsimp only) | (leave1; walk_say "STEP leave1"; try dsimp only) | fail "no step")
        exact drawn_end _ _ _ _ (by assumption) (by assumption) hR2 hoff rfl (by assumption) (links_put hL o5) (path_up hP) (fun z z1 z2 => by
        (repeat (first | with_reducible refine (if_neg z1).trans ?_ | ((with_reducible refine (if_neg (st_ne z2 ?zqst8)).trans ?_); (case zqst8 => decide +kernel)))); exact if_neg (st_sub z2 (by decide +kernel)))
    · unfold Stop
      (try dsimp only)
      rename Fr _ _ _ _ => F4
      rename News _ _ _ _ => N4
      refine mid_point (fun v led => led = (IL, listOf ws.toArray 0) :: (D, o1) :: (NL, listOf nv.toArray 0) :: R2 ∧ ∃ x t, v = .str x t ∧ Ok 33 x) F4 ?_ ?_
      · refine IfExp_ ?_
        repeat' (first | (k_unfold; (try dsimp only)) | (k_end; (with_reducible refine hN8 _ _ ?_); intro kN8; clear hN8 hO8; (try clear qN8); first | with_reducible refine execs_one ?_ | (refine execs_more ?_; intro qN8 hN8 hO8)) | (k_end; (with_reducible refine hO8 _ _ ?zn8 ?_); (case zn8 => first | exact ne_ret _ | exact ne_brk | exact ne_cont); clear hN8 hO8; (try clear qN8)) | (k_end; wrow_close) | (k_here; (with_reducible show wpAny _ _ (setItem (Value.ref _) (Value.str _ _) (Value.str _ _)) _ _ _); k_dflt (refine' links_set ?zqF ?zqN ?zqU ?zqd ?zqz ?_; (case zqF | zqN => k_asm); (case zqU => k_updF); (case zqd => k_asm); (case zqz => assumption); k_whole); intro h'Z o'Z F'Z N'Z hd'Z; (try dsimp only at N'Z)) | ((with_reducible show wpAny _ _ (eval (Expr.IfExp _ _ _ _) _) _ _ _); (k_here; refine stop_in ?_)) | ((with_reducible show wpAny _ _ (exec _ _) _ _ _); (first | ((with_reducible show wpAny _ _ (exec (Stmt.For (Expr.Name _ _) (Expr.BinOp _ _ _ _) _ _ _) _) _ _ _); (k_here; (rename Fr _ _ _ _ => lF'Z); (with_unfolding_all refine' For_invVF lF'Z ?k1 ?k2 ?_; (case k1 | k2 => exact rfl); k_whole))) | ((with_reducible show wpAny _ _ (exec (Stmt.For (Expr.Name _ _) (Expr.Name _ _) _ _ _) _) _ _ _); (k_here; (rename Fr _ _ _ _ => lF'Z); (with_unfolding_all refine' For_invVF lF'Z ?k1 ?k2 ?_; (case k1 | k2 => exact rfl); k_whole))) | ((with_reducible show wpAny _ _ (exec (Stmt.If _ _ _ _) _) _ _ _); (k_here; refine wpAny_If ?_)))) | ((with_reducible show wpAny _ _ (binaryOp Operator.Add (Value.str _ _) (Value.str _ _)) _ _ _); (k_here; k_dflt (refine' cat_ok ?k1 ?k2 ?k3 ?_; (case k1 | k2 => assumption); (case k3 => omega); k_whole); intro t9Z tk9Z o9Z)) | ((with_reducible show wpAny _ _ (subscriptTail _ _ _ _) _ _ _); (first | (k_here; (with_reducible show wpAny _ _ (subscriptTail _ _ (Value.ref _) (Value.int _ _)) _ _ _); k_dflt (refine' strs_atP ?k1 ?k2 ?k3 ?zqk9 ?k4 ?k5 ?zqk6 ?_ ?zqk7; (case k1 => k_asm); (case k2 => k_mem); (case k3 | zqk9 => assumption); (case k4 => (rw [Int.fmod_eq_emod_of_nonneg _ (by decide)]; omega)); (case k5 => first | omega | (rw [Int.fmod_eq_emod_of_nonneg _ (by decide)]; omega)); (case zqk6 => omega); (case zqk7 => with_unfolding_all rfl); k_whole); intro c9Z t9Z hc9Z) | (k_here; (with_reducible show wpAny _ _ (subscriptTail _ _ (Value.ref _) (Value.int (-1) _)) _ _ _); k_dflt (refine' item_last ?k1 ?k2 ?_ ?k4; (case k1 => k_asm); (case k2 => k_mem); (case k4 => with_unfolding_all rfl); k_whole)))) | ((with_reducible show wpAny _ _ (call _ _ _) _ _ _); (first | ((with_reducible show wpAny _ _ (call (Value.builtin "abs") _ _) _ _ _); (refine abs_gen ?_; intro y9Z t9Z tk9Z hy9Z)) | (k_here; (with_reducible show wpAny _ _ (call (Value.ref 855) [Value.int _ _, Value.int 3 _]) _ _ _); k_dflt (refine' says_use (text_says _ _ _ _ _ ?zqkp) ?k1 ?k2 ?k3 ?k4 ?k5 ?kK ?kd ?ku ?_; tb_rel; (case zqkp => first | assumption | omega | (rw [Int.fdiv_eq_ediv_of_nonneg _ (by decide)]; omega)); rintro r9Z n9Z h9Z tk9Z F9Z N9Z ⟨e9Z, x9Z, t9Z, q9Z, hx9Z, ho9Z⟩; subst e9Z; subst q9Z; (have o9Z : Ok 30 x9Z := ⟨hx9Z, ho9Z⟩); (try dsimp only); (try k_fold))) | (k_here; (with_reducible show wpAny _ _ (call (Value.builtin "len") [Value.ref _]) _ _ _); k_dflt (refine' len_made ?k1 ?k2 ?k3 ?_; (case k1 => k_asm); (case k2 => k_mem); (case k3 => omega); k_whole); intro t9Z tk9Z) | (k_here; (with_reducible show wpAny _ _ (call (Value.builtin "str.join") [Value.str _ _, Value.ref _]) _ _ _); k_dflt (refine' join_listW ?k1 ?k2 ?k3 ?k4 ?_; (case k1 => exact News.isList (by k_asm) (by k_mem)); (case k2 => assumption); (case k3 => decide +kernel); (case k4 => first | assumption | omega); k_whole); intro _ _) | ((with_reducible show wpAny _ _ (call (Value.builtin "list.append") _ _) _ _ _); (k_here; k_dflt (refine' append_snoc ?k1 ?k2 ?k3 ?k4 ?_; (case k1 | k2 => k_asm); (case k3 => k_upd); (case k4 => omega); k_whole); intro h'Z F'Z N'Z; (try k_sweep))))) | ((with_reducible show wpAny _ _ (compareOp _ _ _) _ _ _); (first | ((with_reducible show wpAny _ _ (compareOp CmpOp.In (Value.str _ _) (Value.ref _)) _ _ _); (k_here; k_dflt (refine' links_in ?k1 ?k2 ?k3 ?k4 ?_; (case k1 => k_asm); (case k2 => k_mem); (case k3 | k4 => assumption); k_whole))) | (k_here; (with_reducible show wpAny _ _ (compareOp CmpOp.In (Value.str _ _) (Value.str _ _)) _ _ _); first | (refine in_known (b := false) (by assumption) ?_) | (refine in_known (b := true) (by assumption) ?_) | (refine in_known (b := false) (by decide +kernel) ?_) | (refine in_known (b := true) (by decide +kernel) ?_)))) | ((with_reducible show wpAny _ _ (pyIter (Value.ref _)) _ _ _); (k_here; refine stop_in ?_)) | ((with_reducible show wpAny _ _ (truthy _) _ _ _); (first | ((with_reducible show wpAny _ _ (truthy (Value.ref _)) _ _ _); (k_here; k_dflt (first | (refine' truthy_nil ?k1 ?k2 ?_; (case k1 => k_asm); (case k2 => k_mem); k_whole) | (refine' truthy_snoc ?k1 ?k2 ?k3 ?_; (case k1 => k_asm); (case k2 => k_mem); (case k3 => omega); k_whole)))) | (k_here; (with_reducible show wpAny _ _ (truthy (Value.str _ _)) _ _ _); refine truthy_long (by assumption) (by omega) ?_; intro _))) | ((with_reducible show wpAny _ _ (execs _ _) _ _ _); (first | ((with_reducible show wpAny _ _ (execs [] _) _ _ _); (k_here; refine wpAny_execs_nil ?_)) | ((with_reducible show wpAny _ _ (execs (_ :: _) _) _ _ _); (k_here; (try dsimp only); (try k_fold); first | with_reducible refine execs_one ?_ | (refine execs_more ?_; intro qN8 hN8 hO8))))) | walk1 | ((with_reducible show wpAny _ _ _ _ _ _); dsimp only) | (leave1; walk_say "STEP leave1"; try dsimp only) | fail "no step")
        all_goals (try dsimp only)
        all_goals first
          | exact mid_in _ (by assumption) (by assumption) ⟨rfl, _, _, rfl, by assumption⟩
          | exact mid_in _ (by assumption) (by assumption) ⟨rfl, _, _, rfl, ok_le (by assumption) (by decide)⟩
      · rintro v h4 tk4 _ F5 N5 ⟨rfl, x5, t5, rfl, o5⟩
        repeat' (first | (k_unfold; (try dsimp only)) | (k_end; (with_reducible refine hN8 _ _ ?_); intro kN8; clear hN8 hO8; (try clear qN8); first | with_reducible refine execs_one ?_ | (refine execs_more ?_; intro qN8 hN8 hO8)) | (k_end; (with_reducible refine hO8 _ _ ?zn8 ?_); (case zn8 => first | exact ne_ret _ | exact ne_brk | exact ne_cont); clear hN8 hO8; (try clear qN8)) | (k_end; wrow_close) | (k_here; (with_reducible show wpAny _ _ (setItem (Value.ref _) (Value.str _ _) (Value.str _ _)) _ _ _); k_dflt (refine' links_set ?zqF ?zqN ?zqU ?zqd ?zqz ?_; (case zqF | zqN => k_asm); (case zqU => k_updF); (case zqd => k_asm); (case zqz => assumption); k_whole); intro h'Z o'Z F'Z N'Z hd'Z; (try dsimp only at N'Z)) | ((with_reducible show wpAny _ _ (eval (Expr.IfExp _ _ _ _) _) _ _ _); (k_here; refine stop_in ?_)) | ((with_reducible show wpAny _ _ (exec _ _) _ _ _); (first | ((with_reducible show wpAny _ _ (exec (Stmt.For (Expr.Name _ _) (Expr.BinOp _ _ _ _) _ _ _) _) _ _ _); (k_here; (rename Fr _ _ _ _ => lF'Z); (with_unfolding_all refine' For_invVF lF'Z ?k1 ?k2 ?_; (case k1 | k2 => exact rfl); k_whole))) | ((with_reducible show wpAny _ _ (exec (Stmt.For (Expr.Name _ _) (Expr.Name _ _) _ _ _) _) _ _ _); (k_here; (rename Fr _ _ _ _ => lF'Z); (with_unfolding_all refine' For_invVF lF'Z ?k1 ?k2 ?_; (case k1 | k2 => exact rfl); k_whole))) | ((with_reducible show wpAny _ _ (exec (Stmt.If _ _ _ _) _) _ _ _); (k_here; refine wpAny_If ?_)))) | ((with_reducible show wpAny _ _ (binaryOp Operator.Add (Value.str _ _) (Value.str _ _)) _ _ _); (k_here; k_dflt (refine' cat_ok ?k1 ?k2 ?k3 ?_; (case k1 | k2 => assumption); (case k3 => omega); k_whole); intro t9Z tk9Z o9Z)) | ((with_reducible show wpAny _ _ (subscriptTail _ _ _ _) _ _ _); (first | (k_here; (with_reducible show wpAny _ _ (subscriptTail _ _ (Value.ref _) (Value.int _ _)) _ _ _); k_dflt (refine' strs_atP ?k1 ?k2 ?k3 ?zqk9 ?k4 ?k5 ?zqk6 ?_ ?zqk7; (case k1 => k_asm); (case k2 => k_mem); (case k3 | zqk9 => assumption); (case k4 => (rw [Int.fmod_eq_emod_of_nonneg _ (by decide)]; omega)); (case k5 => first | omega | (rw [Int.fmod_eq_emod_of_nonneg _ (by decide)]; omega)); (case zqk6 => omega); (case zqk7 => with_unfolding_all rfl); k_whole); intro c9Z t9Z hc9Z) | (k_here; (with_reducible show wpAny _ _ (subscriptTail _ _ (Value.ref _) (Value.int (-1) _)) _ _ _); k_dflt (refine' item_last ?k1 ?k2 ?_ ?k4; (case k1 => k_asm); (case k2 => k_mem); (case k4 => with_unfolding_all rfl); k_whole)))) | ((with_reducible show wpAny _ _ (call _ _ _) _ _ _); (first | ((with_reducible show wpAny _ _ (call (Value.builtin "abs") _ _) _ _ _); (refine abs_gen ?_; intro y9Z t9Z tk9Z hy9Z)) | (k_here; (with_reducible show wpAny _ _ (call (Value.ref 855) [Value.int _ _, Value.int 3 _]) _ _ _); k_dflt (refine' says_use (text_says _ _ _ _ _ ?zqkp) ?k1 ?k2 ?k3 ?k4 ?k5 ?kK ?kd ?ku ?_; tb_rel; (case zqkp => first | assumption | omega | (rw [Int.fdiv_eq_ediv_of_nonneg _ (by decide)]; omega)); rintro r9Z n9Z h9Z tk9Z F9Z N9Z ⟨e9Z, x9Z, t9Z, q9Z, hx9Z, ho9Z⟩; subst e9Z; subst q9Z; (have o9Z : Ok 30 x9Z := ⟨hx9Z, ho9Z⟩); (try dsimp only); (try k_fold))) | (k_here; (with_reducible show wpAny _ _ (call (Value.builtin "len") [Value.ref _]) _ _ _); k_dflt (refine' len_made ?k1 ?k2 ?k3 ?_; (case k1 => k_asm); (case k2 => k_mem); (case k3 => omega); k_whole); intro t9Z tk9Z) | (k_here; (with_reducible show wpAny _ _ (call (Value.builtin "str.join") [Value.str _ _, Value.ref _]) _ _ _); k_dflt (refine' join_listW ?k1 ?k2 ?k3 ?k4 ?_; (case k1 => exact News.isList (by k_asm) (by k_mem)); (case k2 => assumption); (case k3 => decide +kernel); (case k4 => first | assumption | omega); k_whole); intro _ _) | ((with_reducible show wpAny _ _ (call (Value.builtin "list.append") _ _) _ _ _); (k_here; k_dflt (refine' append_snoc ?k1 ?k2 ?k3 ?k4 ?_; (case k1 | k2 => k_asm); (case k3 => k_upd); (case k4 => omega); k_whole); intro h'Z F'Z N'Z; (try k_sweep))))) | ((with_reducible show wpAny _ _ (compareOp _ _ _) _ _ _); (first | ((with_reducible show wpAny _ _ (compareOp CmpOp.In (Value.str _ _) (Value.ref _)) _ _ _); (k_here; k_dflt (refine' links_in ?k1 ?k2 ?k3 ?k4 ?_; (case k1 => k_asm); (case k2 => k_mem); (case k3 | k4 => assumption); k_whole))) | (k_here; (with_reducible show wpAny _ _ (compareOp CmpOp.In (Value.str _ _) (Value.str _ _)) _ _ _); first | (refine in_known (b := false) (by assumption) ?_) | (refine in_known (b := true) (by assumption) ?_) | (refine in_known (b := false) (by decide +kernel) ?_) | (refine in_known (b := true) (by decide +kernel) ?_)))) | ((with_reducible show wpAny _ _ (pyIter (Value.ref _)) _ _ _); (k_here; refine stop_in ?_)) | ((with_reducible show wpAny _ _ (truthy _) _ _ _); (first | ((with_reducible show wpAny _ _ (truthy (Value.ref _)) _ _ _); (k_here; k_dflt (first | (refine' truthy_nil ?k1 ?k2 ?_; (case k1 => k_asm); (case k2 => k_mem); k_whole) | (refine' truthy_snoc ?k1 ?k2 ?k3 ?_; (case k1 => k_asm); (case k2 => k_mem); (case k3 => omega); k_whole)))) | (k_here; (with_reducible show wpAny _ _ (truthy (Value.str _ _)) _ _ _); refine truthy_long (by assumption) (by omega) ?_; intro _))) | ((with_reducible show wpAny _ _ (execs _ _) _ _ _); (first | ((with_reducible show wpAny _ _ (execs [] _) _ _ _); (k_here; refine wpAny_execs_nil ?_)) | ((with_reducible show wpAny _ _ (execs (_ :: _) _) _ _ _); (k_here; (try dsimp only); (try k_fold); first | with_reducible refine execs_one ?_ | (refine execs_more ?_; intro qN8 hN8 hO8))))) | walk1 | ((with_reducible show wpAny _ _ _ _ _ _); dsimp only) | (leave1; walk_say "STEP leave1"; try dsimp only) | fail "no step")
        exact drawn_end _ _ _ _ (by assumption) (by assumption) hR2 hoff rfl (by assumption) (links_put hL o5) (path_up hP) (fun z z1 z2 => by
        (repeat (first | with_reducible refine (if_neg z1).trans ?_ | ((with_reducible refine (if_neg (st_ne z2 ?zqst8)).trans ?_); (case zqst8 => decide +kernel)))); exact if_neg (st_sub z2 (by decide +kernel)))
    · exact drawn_end _ _ _ _ (by assumption) (by assumption) hR2 hoff rfl K (links_up hL) (path_add hP (by assumption)) (fun z z1 z2 => by
        (repeat (first | with_reducible refine (if_neg z1).trans ?_ | ((with_reducible refine (if_neg (st_ne z2 ?zqst8)).trans ?_); (case zqst8 => decide +kernel)))); exact if_neg (st_sub z2 (by decide +kernel)))
    · exact drawn_end _ _ _ _ (by assumption) (by assumption) hR2 hoff rfl K (links_up hL) (path_up hP) (fun z z1 z2 => by
        (repeat (first | with_reducible refine (if_neg z1).trans ?_ | ((with_reducible refine (if_neg (st_ne z2 ?zqst8)).trans ?_); (case zqst8 => decide +kernel)))); exact if_neg (st_sub z2 (by decide +kernel)))
  case done =>
    rintro m₁ nx h tk ⟨o1, c, p1, tp1, rfl, hp, K, hL, hP⟩ hm F2 N3
    have F3 := kst_frOut (ps := [(Str.ofString "path", Value.str p1 tp1)]) (stored := [Str.ofString "y", Str.ofString "place", Str.ofString "text"]) (fun p hq => by rw [List.mem_singleton.mp hq]; exact hp) (fun z z1 z2 z3 => hm z z1 (st_more (a := Str.ofString "path") (b := Str.ofString "path") (z2 _ (.head _)) (z2 _ (.head _)) z3 (by decide +kernel))) F2
    clear F2
    dsimp only [kstB] at F3
    have lDT := Heap.lt_size (N3 _ (.tail _ (.head _))).1
    repeat' (first | (k_unfold; (try dsimp only)) | (k_end; (with_reducible refine hN8 _ _ ?_); intro kN8; clear hN8 hO8; (try clear qN8); first | with_reducible refine execs_one ?_ | (refine execs_more ?_; intro qN8 hN8 hO8)) | (k_end; (with_reducible refine hO8 _ _ ?zn8 ?_); (case zn8 => first | exact ne_ret _ | exact ne_brk | exact ne_cont); clear hN8 hO8; (try clear qN8)) | (k_end; wrow_close) | (k_here; (with_reducible show wpAny _ _ (setItem (Value.ref _) (Value.str _ _) (Value.str _ _)) _ _ _); k_dflt (refine' links_set ?zqF ?zqN ?zqU ?zqd ?zqz ?_; (case zqF | zqN => k_asm); (case zqU => k_updF); (case zqd => k_asm); (case zqz => assumption); k_whole); intro h'Z o'Z F'Z N'Z hd'Z; (try dsimp only at N'Z)) | ((with_reducible show wpAny _ _ (eval (Expr.IfExp _ _ _ _) _) _ _ _); (k_here; refine stop_in ?_)) | ((with_reducible show wpAny _ _ (exec _ _) _ _ _); (first | ((with_reducible show wpAny _ _ (exec (Stmt.For (Expr.Name _ _) (Expr.BinOp _ _ _ _) _ _ _) _) _ _ _); (k_here; (rename Fr _ _ _ _ => lF'Z); (with_unfolding_all refine' For_invVF lF'Z ?k1 ?k2 ?_; (case k1 | k2 => exact rfl); k_whole))) | ((with_reducible show wpAny _ _ (exec (Stmt.For (Expr.Name _ _) (Expr.Name _ _) _ _ _) _) _ _ _); (k_here; (rename Fr _ _ _ _ => lF'Z); (with_unfolding_all refine' For_invVF lF'Z ?k1 ?k2 ?_; (case k1 | k2 => exact rfl); k_whole))) | ((with_reducible show wpAny _ _ (exec (Stmt.If _ _ _ _) _) _ _ _); (k_here; refine wpAny_If ?_)))) | ((with_reducible show wpAny _ _ (binaryOp Operator.Add (Value.str _ _) (Value.str _ _)) _ _ _); (k_here; k_dflt (refine' cat_ok ?k1 ?k2 ?k3 ?_; (case k1 | k2 => assumption); (case k3 => omega); k_whole); intro t9Z tk9Z o9Z)) | ((with_reducible show wpAny _ _ (subscriptTail _ _ _ _) _ _ _); (first | (k_here; (with_reducible show wpAny _ _ (subscriptTail _ _ (Value.ref _) (Value.int _ _)) _ _ _); k_dflt (refine' strs_atP ?k1 ?k2 ?k3 ?zqk9 ?k4 ?k5 ?zqk6 ?_ ?zqk7; (case k1 => k_asm); (case k2 => k_mem); (case k3 | zqk9 => assumption); (case k4 => (rw [Int.fmod_eq_emod_of_nonneg _ (by decide)]; omega)); (case k5 => first | omega | (rw [Int.fmod_eq_emod_of_nonneg _ (by decide)]; omega)); (case zqk6 => omega); (case zqk7 => with_unfolding_all rfl); k_whole); intro c9Z t9Z hc9Z) | (k_here; (with_reducible show wpAny _ _ (subscriptTail _ _ (Value.ref _) (Value.int (-1) _)) _ _ _); k_dflt (refine' item_last ?k1 ?k2 ?_ ?k4; (case k1 => k_asm); (case k2 => k_mem); (case k4 => with_unfolding_all rfl); k_whole)))) | ((with_reducible show wpAny _ _ (call _ _ _) _ _ _); (first | ((with_reducible show wpAny _ _ (call (Value.builtin "abs") _ _) _ _ _); (refine abs_gen ?_; intro y9Z t9Z tk9Z hy9Z)) | (k_here; (with_reducible show wpAny _ _ (call (Value.ref 855) [Value.int _ _, Value.int 3 _]) _ _ _); k_dflt (refine' says_use (text_says _ _ _ _ _ ?zqkp) ?k1 ?k2 ?k3 ?k4 ?k5 ?kK ?kd ?ku ?_; tb_rel; (case zqkp => first | assumption | omega | (rw [Int.fdiv_eq_ediv_of_nonneg _ (by decide)]; omega)); rintro r9Z n9Z h9Z tk9Z F9Z N9Z ⟨e9Z, x9Z, t9Z, q9Z, hx9Z, ho9Z⟩; subst e9Z; subst q9Z; (have o9Z : Ok 30 x9Z := ⟨hx9Z, ho9Z⟩); (try dsimp only); (try k_fold))) | (k_here; (with_reducible show wpAny _ _ (call (Value.builtin "len") [Value.ref _]) _ _ _); k_dflt (refine' len_made ?k1 ?k2 ?k3 ?_; (case k1 => k_asm); (case k2 => k_mem); (case k3 => omega); k_whole); intro t9Z tk9Z) | (k_here; (with_reducible show wpAny _ _ (call (Value.builtin "str.join") [Value.str _ _, Value.ref _]) _ _ _); k_dflt (refine' join_listW ?k1 ?k2 ?k3 ?k4 ?_; (case k1 => exact News.isList (by k_asm) (by k_mem)); (case k2 => assumption); (case k3 => decide +kernel); (case k4 => first | assumption | omega); k_whole); intro _ _) | ((with_reducible show wpAny _ _ (call (Value.builtin "list.append") _ _) _ _ _); (k_here; k_dflt (refine' append_snoc ?k1 ?k2 ?k3 ?k4 ?_; (case k1 | k2 => k_asm); (case k3 => k_upd); (case k4 => omega); k_whole); intro h'Z F'Z N'Z; (try k_sweep))))) | ((with_reducible show wpAny _ _ (compareOp _ _ _) _ _ _); (first | ((with_reducible show wpAny _ _ (compareOp CmpOp.In (Value.str _ _) (Value.ref _)) _ _ _); (k_here; k_dflt (refine' links_in ?k1 ?k2 ?k3 ?k4 ?_; (case k1 => k_asm); (case k2 => k_mem); (case k3 | k4 => assumption); k_whole))) | (k_here; (with_reducible show wpAny _ _ (compareOp CmpOp.In (Value.str _ _) (Value.str _ _)) _ _ _); first | (refine in_known (b := false) (by assumption) ?_) | (refine in_known (b := true) (by assumption) ?_) | (refine in_known (b := false) (by decide +kernel) ?_) | (refine in_known (b := true) (by decide +kernel) ?_)))) | ((with_reducible show wpAny _ _ (pyIter (Value.ref _)) _ _ _); (k_here; refine stop_in ?_)) | ((with_reducible show wpAny _ _ (truthy _) _ _ _); (first | ((with_reducible show wpAny _ _ (truthy (Value.ref _)) _ _ _); (k_here; k_dflt (first | (refine' truthy_nil ?k1 ?k2 ?_; (case k1 => k_asm); (case k2 => k_mem); k_whole) | (refine' truthy_snoc ?k1 ?k2 ?k3 ?_; (case k1 => k_asm); (case k2 => k_mem); (case k3 => omega); k_whole)))) | (k_here; (with_reducible show wpAny _ _ (truthy (Value.str _ _)) _ _ _); refine truthy_long (by assumption) (by omega) ?_; intro _))) | ((with_reducible show wpAny _ _ (execs _ _) _ _ _); (first | ((with_reducible show wpAny _ _ (execs [] _) _ _ _); (k_here; refine wpAny_execs_nil ?_)) | ((with_reducible show wpAny _ _ (execs (_ :: _) _) _ _ _); (k_here; (try dsimp only); (try k_fold); first | with_reducible refine execs_one ?_ | (refine execs_more ?_; intro qN8 hN8 hO8))))) | walk1 | ((with_reducible show wpAny _ _ _ _ _ _); dsimp only) | (leave1; walk_say "STEP leave1"; try dsimp only) | fail "no step")
    refine hret _ _ _ _ (by assumption) (news_sub (by assumption) (drawn_sub _)) ⟨_, _, _, _, _, _, rfl, rfl, K, ⟨Nat.le_trans hL.len (by have := hI.length; omega), hL.each⟩, ⟨Nat.le_trans hP.len (by have := hI.length; omega), hP.ends, hP.ok⟩, lDR, lDT⟩
end P19
section P20
theorem off20 : True := by
  w_top off
  trivial
/-- a frame gets a name -/
theorem fr_let {g h : Heap} {L : Addr} {m : Str → Option Value} {P : Prop} (F : Fr g L h m) (k : let m' := m; Fr g L h m' → P) : P := k F
section
variable {prog : Program} {w : World} {A : Around} {E : Value → Shared → Prop} {s : Shared} {env : Env} {h₀ : Heap} {x : Str} {body : List Stmt} {Q : Flow → Shared → Prop}
theorem range_loopS {r : Addr} {n : Nat} {t₀ u₀ v₀ : Tok} {m₀ : Str → Option Value} {news : Led} (n0 : Led) (J : Nat → (Str → Option Value) → Led → Prop) (stored : List Str)
    (hh : A.handled = none) (hr : IsRange s.heap r 0 (n : Int) 1 t₀ u₀ v₀) (hz : n ≤ 100000) (F : Fr h₀ env.locals s.heap m₀) (N : News h₀ env.locals s.heap news) (hs : ∀ p ∈ n0, p ∈ news) (hj : J 0 m₀ n0)
    (turn : ∀ i t m₁ nx h tk own, i < n → OwnOff own (nx.map (·.1)) → J i m₁ nx → (∀ z, z ≠ x → stored.contains z = false → m₁ z = m₀ z) → Fr h₀ env.locals h (fun y => if y = x then some (.int (i : Int) t) else m₁ y) → News h₀ env.locals h (nx ++ own) →
      wpAny (model prog w) A (execs body env) (InvPostG h₀ env.locals (fun m' nx => J (i + 1) m' nx ∧ ∀ z, z ≠ x → stored.contains z = false → m' z = m₀ z) own { s with heap := h, toks := tk } Q) E { s with heap := h, toks := tk })
    (done : ∀ m₁ nx h tk, J n m₁ nx → (∀ z, z ≠ x → stored.contains z = false → m₁ z = m₀ z) → Fr h₀ env.locals h m₁ → News h₀ env.locals h nx → Q .next { s with heap := h, toks := tk }) :
    wpAny (model prog w) A (pyIter (.ref r)) (fun it s₂ => LoopAtV prog w A h₀ env x body Q E it s₂) E s := by
  refine wpAny_pyIter_range hr (small_one (by omega) (by omega) (by omega) (by omega)) ?_
  have W : Walks prog w A s.heap.objs.size [s.heap.objs.size] [s.heap.objs.size] n (fun i v => i < n ∧ ∃ t, v = .int (0 + i * 1) t)
      (fun i h => IsRangeIter h s.heap.objs.size (0 + (i : Nat) * 1) ((n : Int) - (i : Nat)) 1) := (Walks.range hh _ 0 1 n).bound
  have hsz : Builtin.Range.rangeSize 0 (n : Int) 1 = (n : Int) := by first | exact rangeSize_nat _ _ | rfl
  refine kdr_loop (fun i m nx => J i m nx ∧ ∀ z, z ≠ x → stored.contains z = false → m z = m₀ z) W (fun _ h => h) (fun _ h => h) ?_ ?_ ?_ ?_ (by show IsRangeIter _ _ _ _ _; rw [hsz]; simpa using Heap.get?_push_size _ rfl) (F.push _) (fun p hp => ⟨Heap.get?_push_of_some _ (N p (hs p hp)).1, (N p (hs p hp)).2⟩) ⟨hj, fun _ _ _ => rfl⟩ ?_ ?_
  · intro i h hi b hb
    rw [List.mem_singleton.mp hb]
    exact ⟨_, hi⟩
  · intro hm
    exact absurd F.ns.lt ((List.mem_singleton.mp hm) ▸ Nat.lt_irrefl _)
  · intro b hb
    rw [List.mem_singleton.mp hb]
    exact next_is_new F
  · intro p hp hI
    exact absurd (Heap.lt_size (N p (hs p hp)).1) ((List.mem_singleton.mp hI) ▸ Nat.lt_irrefl _)
  · rintro i v m₁ nx h tk own hi ⟨_, t, rfl⟩ hoff ⟨hJ, hm⟩ F₁ N₁
    have e1 : (0 : Int) + (i : Int) * 1 = (i : Int) := by omega
    rw [e1] at F₁
    exact turn i t m₁ nx h tk own hi hoff hJ hm F₁ N₁
  · rintro m₁ nx h tk ⟨hJ, hm⟩ F₁ N₁
    exact done m₁ nx h tk hJ hm F₁ N₁
end
structure WalkIn (TD D NM : Addr) (R R0 n₁ : Led) : Prop where
  td : TD ≠ D
  tn : TD ≠ NM
  tr : ∀ p ∈ R, p.1 ≠ TD
  nm : ∀ p ∈ R0, p.1 ≠ NM
  sub0 : ∀ p ∈ R0, p ∈ R
  sub : ∀ p ∈ n₁, p ∈ R
noncomputable def WalkPost (TD D : Addr) (o : Obj) (R R0 n₁ : Led) (st : WSt) (news' : Led) (r : Value) : Prop :=
  ∃ T NM nv nn tv k lt add, news' = (T, tupOf [.ref NM, .int (st.left : Int) lt]) :: (TD, listOf (List.toArray tv) k) :: (D, o) :: (NM, listOf (List.toArray nv) nn) :: (add ++ R) ∧ r = .ref T ∧ StrsAre nv st.names ∧ DatAll (add ++ n₁) tv st.told ∧
    (∀ p ∈ add, p.1 ≠ TD) ∧ (∀ p ∈ add, ∀ q ∈ R, p.1 ≠ q.1) ∧ NM ≠ TD ∧ (∀ p ∈ R0, p.1 ≠ NM) ∧ T ≠ TD
noncomputable def WalkSays (w : World) (D : Addr) (o : Obj) (lk : Str → Option Str) (n : Nat) : Prop :=
  ∀ (text owner : Str) (tt to td tl : Tok) (depth : Nat) (di li : Int) (st : WSt) (NM TD : Addr) (nv tv : List Value) (nn k : Nat) (R R0 n₁ : Led), StrsAre nv st.names → DatAll n₁ tv st.told → WalkIn TD D NM R R0 n₁ → st.left ≤ n → wt st + 2 * (text.length + 1) ≤ 20000 → depth + n ≤ 10 → owner.length ≤ 80000 → di = (depth : Int) → li = (st.left : Int) →
    Says w (.ref 883) [.ref D, .str text tt, .str owner to, .int di td, .ref NM, .int li tl, .ref TD] [] (60 + 20 * n) ((TD, listOf tv.toArray k) :: (D, o) :: (NM, listOf nv.toArray nn) :: R) (WalkPost TD D o R R0 n₁ (walkF lk (n + 1) text owner depth st))
theorem nil_sub8 {α : Type} {l : List α} : ∀ p ∈ ([] : List α), p ∈ l := fun _ h => nomatch h
theorem strValues_len (l : List (Str × Tok)) : (strValues l).length = l.length := by simp [strValues]
noncomputable def WalkJ (TD D PC : Addr) (o oP : Obj) (R R0 n₁ : Led) (at' : Nat → WSt) (i : Nat) (m : Str → Option Value) (nx : Led) : Prop :=
  ∃ NM nv nn tv k lt add, nx = (TD, listOf (List.toArray tv) k) :: (D, o) :: (NM, listOf (List.toArray nv) nn) :: (PC, oP) :: (add ++ R) ∧ m (Str.ofString "names") = some (.ref NM) ∧ m (Str.ofString "left") = some (.int ((at' i).left : Int) lt) ∧ StrsAre nv (at' i).names ∧ DatAll (add ++ n₁) tv (at' i).told ∧
    (∀ p ∈ add, p.1 ≠ TD) ∧ (∀ p ∈ add, ∀ q ∈ R, p.1 ≠ q.1) ∧ NM ≠ TD ∧ (∀ p ∈ R0, p.1 ≠ NM)
theorem news1 {P : Prop} {h₀ h : Heap} {L a : Addr} {oa : Obj} {R : Led} (_ : News h₀ L h ((a, oa) :: R)) (k : ∀ a', a' = a → P) : P := k a rfl
theorem atPiece_succ {F : WSt → Str × Nat → WSt} {ps : List Str} {k : Nat} {p : Str} (st : WSt) (h : ps[k]? = some p) : atPiece F ps (k + 1) st = if sg p = [] then atPiece F ps k st else F (atPiece F ps k st) (p, 1 + (sg (Txt.join (Str.ofString "") (ps.take (k + 1)))).count 10) := by
  show (match ps[k]? with | some p => _ | none => _) = _
  rw [h]
theorem atPiece_wt {F : WSt → Str × Nat → WSt} (hF : ∀ st w, wt (F st w) ≤ wt st + 2 * (w.1.length + 1)) (ps : List Str) (st : WSt) : ∀ k, k ≤ ps.length → wt (atPiece F ps k st) ≤ wt st + 2 * ((ps.take k).map fun x => x.length + 1).sum
  | 0, _ => Nat.le_add_right _ _
  | k + 1, hk => by
    have ih := atPiece_wt hF ps st k (Nat.le_of_succ_le hk)
    have e := List.getElem?_eq_getElem hk
    rw [atPiece_succ st e, List.take_add_one, e]
    simp only [Option.toList_some, List.map_append, List.map_cons, List.map_nil, List.sum_append, List.sum_cons, List.sum_nil]
    split
    · omega
    · have := hF (atPiece F ps k st) (ps[k], 1 + (sg (Txt.join (Str.ofString "") (ps.take (k + 1)))).count 10)
      simp only [List.take_add_one, e, Option.toList_some] at this ⊢
      omega
theorem atPiece_left {F : WSt → Str × Nat → WSt} (hF : ∀ st w, (F st w).left ≤ st.left) (ps : List Str) (st : WSt) : ∀ k, (atPiece F ps k st).left ≤ st.left
  | 0 => Nat.le_refl _
  | k + 1 => by
    have ih := atPiece_left hF ps st k
    show (match ps[k]? with | some p => _ | none => _ : WSt).left ≤ _
    split
    · split
      · exact ih
      · exact Nat.le_trans (hF _ _) ih
    · exact ih
theorem take_sum1 (l : List Str) (k : Nat) : ((l.take k).map fun x => x.length + 1).sum ≤ (l.map fun x => x.length + 1).sum := by
  induction l generalizing k with
  | nil => simp
  | cons a l ih =>
    cases k with
    | zero => simp
    | succ k => simp only [List.take_succ_cons, List.map_cons, List.sum_cons]; have := ih k; omega
theorem succ_int (i : Nat) : (i : Int) + 1 = ((i + 1 : Nat) : Int) := rfl
theorem sum1 (l : List Str) : (l.map fun x => x.length + 1).sum = (l.map (·.length)).sum + l.length := by
  induction l with
  | nil => rfl
  | cons a l ih => simp only [List.map_cons, List.sum_cons, List.length_cons, ih]; omega
theorem walk_sub {PC TD D NM : Addr} {a b c d : Obj} (R : Led) : ∀ p ∈ (TD, a) :: (D, b) :: (NM, c) :: (PC, d) :: ([] ++ R), p ∈ (PC, d) :: (TD, a) :: (D, b) :: (NM, c) :: R := (by (repeat' (first | exact nil_sub8 | ((refine sub_cons ?zqmm8 ?_); (case zqmm8 => repeat (first | exact List.mem_cons_self | refine List.mem_cons_of_mem _ ?_ | refine List.mem_append_right _ ?_))) | refine sub_app ?_ ?_)); all_goals (intro pZ hpZ; repeat (first | exact hpZ | exact List.mem_append_left _ hpZ | refine List.mem_cons_of_mem _ ?_ | refine List.mem_append_right _ ?_)))
theorem walk_tuple {P : Prop} {g h : Heap} {L TP X1 : Addr} {o1 : Obj} {pc owner X : Str} {depth : Nat} {names : List Str} {t1 t2 t3 t4 : Tok} {R : Led}
    (N : News g L h ((TP, { cls := .type "tuple", data := .seq #[.str pc t1, .str (Str.ofString "\"" ++ owner ++ Str.ofString "\", line " ++ Str.ofString (toString (1 + Txt.count X (Str.ofString "\n"))) ++ Str.ofString ": ") t2, .int (depth : Int) t3, .str (Str.ofString "/" ++ Txt.join (Str.ofString "/") names) t4] }) :: (X1, o1) :: R))
    (k : ∀ oT, News g L h ((TP, oT) :: R) → DatIn [(TP, oT)] (.ref TP) (toldOf pc owner (1 + (sg X).count 10) depth names) → P) : P := by
  refine k _ (news_sub N (fun z hz => (List.mem_cons.mp hz).elim (fun e => e ▸ .head _) fun h => .tail _ (.tail _ h))) ?_
  have hl : ((1 + (sg X).count 10 : Nat) : Int) = 1 + Txt.count X (Str.ofString "\n") := by rw [count_nl]; omega
  unfold toldOf leadS hereOf
  rw [hl]
  exact .tuple (.head _) (.cons (.str _ _) (.cons (.str _ _) (.cons (.int _ _) (.cons (.str _ _) .nil))))
theorem links_inB {w : World} {A : Around} {E : Value → Shared → Prop} {s : Shared} {h₀ : Heap} {L d : Addr} {news : Led} {o : Obj} {c : List (Str × Str)} {k : Str} {tk : Tok} {Q : Value → Shared → Prop} (N : News h₀ L s.heap news) (hm : (d, o) ∈ news) (K : IsLinks w d o c) (h : Q (.bool (lkC c k).isSome) { s with toks := s.toks + 1 }) : wpAny (model PySem.Challenge.rw_kl0188_01.row.prog w) A (compareOp .In (.str k tk) (.ref d)) Q E s :=
  links_in N hm K rfl h
theorem links_itemI {w : World} {A : Around} {E : Value → Shared → Prop} {s : Shared} {h₀ : Heap} {L d : Addr} {news : Led} {o : Obj} {c : List (Str × Str)} {k : Str} {tk : Tok} {value slice : PySem.Expr} {Q : Value → Shared → Prop} (N : News h₀ L s.heap news) (hm : (d, o) ∈ news) (K : IsLinks w d o c) (hk : (lkC c k).isSome = true) (hl : LkOk (lkC c)) (h : ∀ t u, lkC c k = some t → t.length ≤ 38 → Q (.str t u) { s with toks := s.toks + 1 })
    (hs : subscripted slice false (.ref d) (.str k tk) = operate [.ref d, .str k tk] (getItem (.ref d) (.str k tk)) := by with_unfolding_all rfl) (hg : ∀ r, letTemporaryGo value (.ref d) r = pure () := by intro _; with_unfolding_all rfl) :
    wpAny (model PySem.Challenge.rw_kl0188_01.row.prog w) A (subscriptTail value slice (.ref d) (.str k tk)) Q E s := by
  obtain ⟨t, ht⟩ := Option.isSome_iff_exists.mp hk
  exact links_item N hm K ht (fun u => h t u ht (hl _ _ ht).1) hs hg
theorem news_vals {P : Prop} {g h : Heap} {L a : Addr} {vs : List Value} {n : Nat} {R : Led} (_ : News g L h ((a, listOf vs.toArray n) :: R)) (k : ∀ vs', vs' = vs → P) : P := k vs rfl
theorem walk_end {g h' : Heap} {L TD D PC NM1 : Addr} {o oP o1 o2 : Obj} {R R0 n₁ own add : Led} {at' : Nat → WSt} {i : Nat} {m' m₀ : Str → Option Value} {x : Str} {stored : List Str} {s₁ : Shared} {tk : Nat} {NM' : Addr} {nv' tv' : List Value} {nn' k' : Nat} {lt' : Tok} {news' : Led} (st' : WSt) (add' : Led)
    (hoff : OwnOff own (((TD, o1) :: (D, o) :: (NM1, o2) :: (PC, oP) :: (add ++ R)).map (·.1)))
    (F : Fr g L h' m') (N : News g L h' news') (hat : at' (i + 1) = st') (hnm : m' (Str.ofString "names") = some (.ref NM')) (hlf : m' (Str.ofString "left") = some (.int (st'.left : Int) lt')) (hnv : StrsAre nv' st'.names) (hdt : DatAll (add' ++ n₁) tv' st'.told)
    (hsub : ∀ p ∈ (TD, listOf tv'.toArray k') :: (D, o) :: (NM', listOf nv'.toArray nn') :: (PC, oP) :: (add' ++ R), p ∈ news') (hown : ∀ p ∈ own, p ∈ news') (hNMo : ∀ p ∈ own, p.1 ≠ NM') (hao : ∀ q ∈ add', q ∈ add ∨ ∀ p ∈ own, p.1 ≠ q.1)
    (ha1 : ∀ p ∈ add', p.1 ≠ TD) (ha2 : ∀ p ∈ add', ∀ q ∈ R, p.1 ≠ q.1) (hn1 : NM' ≠ TD) (hn2 : ∀ p ∈ R0, p.1 ≠ NM') (hm : ∀ z, z ≠ x → stored.contains z = false → m' z = m₀ z) :
    InvEndG g L (fun m' nx => WalkJ TD D PC o oP R R0 n₁ at' (i + 1) m' nx ∧ ∀ z, z ≠ x → stored.contains z = false → m' z = m₀ z) own s₁ { s₁ with heap := h', toks := tk } := by
  refine InvEndG.intro F N ⟨⟨NM', nv', nn', tv', k', lt', add', rfl, hnm, by rw [hat]; exact hlf, by rw [hat]; exact hnv, by rw [hat]; exact hdt, ha1, ha2, hn1, hn2⟩, hm⟩ ?_ hsub hown
  intro p hp b hb
  simp only [List.map_cons, List.map_append, List.mem_cons, List.mem_append] at hb
  rcases hb with rfl | rfl | rfl | rfl | hb | hb
  · exact hoff p hp _ (by repeat (first | exact List.mem_cons_self | refine List.mem_cons_of_mem _ ?_ | refine List.mem_append_right _ ?_))
  · exact hoff p hp _ (by repeat (first | exact List.mem_cons_self | refine List.mem_cons_of_mem _ ?_ | refine List.mem_append_right _ ?_))
  · exact hNMo p hp
  · exact hoff p hp _ (by repeat (first | exact List.mem_cons_self | refine List.mem_cons_of_mem _ ?_ | refine List.mem_append_right _ ?_))
  · obtain ⟨q, hq, rfl⟩ := List.mem_map.mp hb
    rcases hao q hq with h | h
    · exact hoff p hp _ (by simp only [List.map_cons, List.map_append, List.mem_cons, List.mem_append]; exact .inr (.inr (.inr (.inr (.inl (List.mem_map.mpr ⟨q, h, rfl⟩))))))
    · exact h p hp
  · exact hoff p hp _ (by simp only [List.map_cons, List.map_append, List.mem_cons, List.mem_append]; exact .inr (.inr (.inr (.inr (.inr hb)))))
theorem slice_starts (t : Str) : Txt.slice t none (some 1) = Str.ofString "/" ↔ Txt.startswith t (Str.ofString "/") = true := by
  rw [starts_slash, decide_eq_true_eq]
  obtain ⟨⟨l⟩⟩ := t
  cases l with
  | nil => exact ⟨fun h => absurd h (by decide +kernel), fun h => by cases h⟩
  | cons a r =>
    rw [show (1 : Int) = ((1 : Nat) : Int) from rfl, slice_to (by rw [length_mk]; simp)]
    constructor
    · intro h
      have h2 : ([a] : List Nat) = [47] := (congrArg sg h).trans sg_slash
      rw [(List.cons.inj h2).1]; rfl
    · intro h
      have h2 : a = 47 := Option.some.inj h
      subst h2
      refine sg_inj ?_
      rw [sg_slash]; rfl
theorem walk_sub2 {T PC TD D NM : Addr} {a b c d e : Obj} (R : Led) : ∀ p ∈ (T, e) :: (TD, a) :: (D, b) :: (NM, c) :: R, p ∈ (T, e) :: (TD, a) :: (D, b) :: (NM, c) :: (PC, d) :: R := (by (repeat' (first | exact nil_sub8 | ((refine sub_cons ?zqmm8 ?_); (case zqmm8 => repeat (first | exact List.mem_cons_self | refine List.mem_cons_of_mem _ ?_ | refine List.mem_append_right _ ?_))) | refine sub_app ?_ ?_)); all_goals (intro pZ hpZ; repeat (first | exact hpZ | exact List.mem_append_left _ hpZ | refine List.mem_cons_of_mem _ ?_ | refine List.mem_append_right _ ?_)))
theorem walk_zero (w : World) (D : Addr) (o : Obj) (c : List (Str × Str)) (K : IsLinks w D o c) (hl : LkOk (lkC c)) (n : Nat) (ih : ∀ k, k + 1 = n → WalkSays w D o (lkC c) k) : WalkSays w D o (lkC c) n := by
  intro text owner tt to td tl depth di li st NM TD nv tv nn k R R0 n₁ hnv htv hW hle hwt hdep how hdi hli
  unfold Says
  k_fill
  intro dp un gd cn cs a ccd cl outer A₀ base h₀ L m s p loose mean mg mb Q E B F X N T hk hd hu hret
  refine wpAny_call ?_
  k_dflt (first | (refine' code_def ?k1 ?k2 ?k3 ?k4 ?k5 ?zqkA ?zqkF ?kK ?zqk6 ?zqk7 ?zqk8 ?zqk9 ?zqkB ?_ ?zqc2 ?zqc3 ?zqc4 ?zqc5; (case zqkA | zqkF => exact rfl); (case kK => assumption); (case k1 | k2 => k_asm); (case k3 | k4 | k5 => k_asm); (case zqk6 | zqk7 => k_is); (case zqk8 => k_room); (case zqk9 => first | exact BindsTo.of_eq rfl | exact binds_K (by k_in) rfl (by k_is) rfl rfl rfl | fail); (case zqc5 => decide); (case zqkB => exact locs rfl); (case zqc2 | zqc3 | zqc4 => exact rfl); k_whole; intro g'Z L'Z h'Z FG'Z F'Z N'Z B'Z X'Z T'Z; (try dsimp only); (try k_lift B'Z); (try k_fold); refine name_A ?_; intro aA8; have hN8 := True.intro; have hO8 := True.intro) | (kp_kind "rest"; refine' kp_rest ?k1 ?k2 ?k3 ?k4 ?k5 ?zqkA ?zqkF ?kK ?zqk6 ?zqk7 ?zqk8 ?zqkV ?zqkP ?zqkG ?zqkB ?_ ?zqc2 ?zqc3 ?zqc4 ?zqc5; (case zqkA | zqkF => exact rfl); (case kK => assumption); (case k1 | k2 => k_asm); (case k3 | k4 | k5 => k_asm); (case zqk6 | zqk7 => k_is); (case zqk8 => k_room); (case zqkV | zqkP => exact rfl); (case zqkG => exact fun _ => rfl); (case zqkB => exact fun _ => locs rfl); (case zqc5 => decide); (case zqc2 | zqc3 | zqc4 => exact rfl); k_whole; intro D'Z g'Z L'Z h'Z l1Z FG'Z F'Z N'Z B'Z X'Z T'Z; (try k_lt l1Z); (try dsimp only); (try k_lift B'Z); (try k_fold); refine name_A ?_; intro aA8; have hN8 := True.intro; have hO8 := True.intro) | (kp_kind "both"; refine' kp_both ?k1 ?k2 ?k3 ?k4 ?k5 ?zqkA ?zqkF ?kK ?zqk6 ?zqk7 ?zqk8 ?zqkV ?zqkX ?zqkQ ?zqkM ?zqkN ?zqkD ?zqkR ?zqkP ?zqkS ?zqkT ?zqkB ?_ ?zqc2 ?zqc3 ?zqc4 ?zqc5; (case zqkA | zqkF => exact rfl); (case kK => assumption); (case k1 | k2 => k_asm); (case k3 | k4 | k5 => k_asm); (case zqk6 | zqk7 => k_is); (case zqk8 => k_room); (case zqkV | zqkX => kp_lit); (case zqkQ | zqkM | zqkN => exact rfl); (case zqkD => kp_flats); (case zqkR | zqkP => exact rfl); (case zqkS => exact fun _ => rfl); (case zqkT => exact fun _ _ => rfl); (case zqkB => exact fun _ _ => locs rfl); (case zqc5 => decide); (case zqc2 | zqc3 | zqc4 => exact rfl); k_whole; intro C'Z D'Z o'Z g'Z L'Z h'Z tk'Z l1Z l2Z lo'Z hs'Z fs'Z FG'Z F'Z N'Z B'Z X'Z T'Z; (try k_lt l1Z); (try k_lt2 l2Z); (try dsimp only); (try k_lift B'Z); (try k_fold); refine name_A ?_; intro aA8; have hN8 := True.intro; have hO8 := True.intro))
  rename Fr _ _ _ (fun y => _) => FA
  replace FA := fr_as (m' := fun y' => List.lookup y' [(Str.ofString "told", Value.ref TD), (Str.ofString "left", Value.int li tl), (Str.ofString "names", Value.ref NM), (Str.ofString "depth", Value.int di td), (Str.ofString "owner", Value.str owner to), (Str.ofString "text", Value.str text tt), (Str.ofString "links", Value.ref D)]) FA (by kernel_rfl)
  generalize s.toks + _ = tkA
  rename News _ _ _ _ => NB
  have hlt := fun p hp => Heap.lt_size (NB p hp).1
  repeat' (first | (k_unfold; (try dsimp only)) | (k_end; (with_reducible refine hN8 _ _ ?_); intro kN8; clear hN8 hO8; (try clear qN8); first | with_reducible refine execs_one ?_ | (refine execs_more ?_; intro qN8 hN8 hO8)) | (k_end; (with_reducible refine hO8 _ _ ?zn8 ?_); (case zn8 => first | exact ne_ret _ | exact ne_brk | exact ne_cont); clear hN8 hO8; (try clear qN8)) | (k_end; wrow_close) | ((with_reducible show wpAny _ _ (binaryOp Operator.Add (Value.ref _) (Value.ref _)) _ _ _); (k_here; k_dflt (refine' cat_made ?zqF ?zqN ?zql ?zqb ?zqz ?_; (case zqF | zqN => k_asm); (case zql | zqb => k_mem); (case zqz => (simp only [List.length_append, List.length_cons, List.length_nil]; omega)); k_whole); intro D'Z h'Z F'Z N'Z l1Z; (try k_lt l1Z); (try k_sweep))) | ((with_reducible show wpAny _ _ (subscriptTail _ _ _ _) _ _ _); (first | (k_here; (with_reducible show wpAny _ _ (subscriptTail _ _ (Value.ref _) (Value.str _ _)) _ _ _); k_dflt (refine' links_item ?k1 ?k2 ?k3 ?k4 ?_ ?zqk6 ?zqk7; (case k1 => k_asm); (case k2 => k_mem); (case k3 | k4 => assumption); (case zqk6 => with_unfolding_all rfl); (case zqk7 => intro _; with_unfolding_all rfl); k_whole); intro u9Z) | (k_here; (with_reducible show wpAny _ _ (subscriptTail _ _ (Value.ref _) (Value.str _ _)) _ _ _); k_dflt (refine' links_itemI ?k1 ?k2 ?k3 ?k4 ?k5 ?_ ?zqk6 ?zqk7; (case k1 => k_asm); (case k2 => k_mem); (case k3 | k4 | k5 => assumption); (case zqk6 => with_unfolding_all rfl); (case zqk7 => intro _; with_unfolding_all rfl); k_whole); intro t9Z u9Z hk9Z hz9Z) | ((with_reducible show wpAny _ _ (subscriptTail (Expr.Name _ _) (Expr.Slice _ _ _ _) (Value.ref _) (Value.ref _)) _ _ _); (k_here; k_dflt (refine' slice_last ?zqF ?zqN ?zql ?zqz ?_ ?zqs ?zqt; (case zqF | zqN => k_asm); (case zql => k_mem); (case zqz => assumption); (case zqs => with_unfolding_all rfl); (case zqt => kmk_pure); k_whole); intro D'Z h'Z F'Z N'Z l1Z; (try k_lt l1Z); (try k_sweep))) | ((with_reducible show wpAny _ _ (subscriptTail (Expr.Name _ _) (Expr.Slice _ _ _ _) (Value.ref _) (Value.ref _)) _ _ _); (k_here; k_dflt (refine' slice_upto _ ?zqF ?zqN ?zql ?zqz ?zqy ?_ ?zqs ?zqt; (case zqF | zqN => k_asm); (case zql => k_mem); (case zqz => assumption); (case zqy => exact succ_int _); (case zqs => with_unfolding_all rfl); (case zqt => kmk_pure); k_whole); intro D'Z h'Z F'Z N'Z l1Z; (try k_lt l1Z); (try k_sweep))) | (k_here; (with_reducible show wpAny _ _ (subscriptTail _ _ (Value.ref _) (Value.int _ _)) _ _ _); k_dflt (refine' strs_at ?k1 ?k2 ?k3 ?k4 ?k5 ?_ ?zqk7; (case k1 => k_asm); (case k2 => k_mem); (case k3 | k4 | k5 => assumption); (case zqk7 => with_unfolding_all rfl); k_whole); intro t9Z) | (k_here; (with_reducible show wpAny _ _ (subscriptTail _ _ (Value.ref _) (Value.int (-1) _)) _ _ _); k_dflt (refine' item_last ?k1 ?k2 ?_ ?k4; (case k1 => k_asm); (case k2 => k_mem); (case k4 => with_unfolding_all rfl); k_whole)))) | ((with_reducible show wpAny _ _ (compareOp _ _ _) _ _ _); (first | ((with_reducible show wpAny _ _ (compareOp CmpOp.In (Value.str _ _) (Value.ref _)) _ _ _); (k_here; k_dflt (refine' links_inB ?k1 ?k2 ?k3 ?_; (case k1 => k_asm); (case k2 => k_mem); (case k3 => assumption); k_whole))) | ((with_reducible show wpAny _ _ (compareOp CmpOp.In (Value.str _ _) (Value.ref _)) _ _ _); (k_here; k_dflt (refine' links_in ?k1 ?k2 ?k3 ?k4 ?_; (case k1 => k_asm); (case k2 => k_mem); (case k3 | k4 => assumption); k_whole))) | (k_here; (with_reducible show wpAny _ _ (compareOp CmpOp.In (Value.str _ _) (Value.str _ _)) _ _ _); first | (refine in_known (b := false) (by assumption) ?_) | (refine in_known (b := true) (by assumption) ?_) | (refine in_known (b := false) (by decide +kernel) ?_) | (refine in_known (b := true) (by decide +kernel) ?_)))) | ((with_reducible show wpAny _ _ (call _ _ _) _ _ _); (first | ((with_reducible show wpAny _ _ (call (Value.builtin "list.append") _ _) _ _ _); (k_here; refine stop_in ?_)) | (k_here; (with_reducible show wpAny _ _ (call (Value.ref 883) _) _ _ _); refine stop_in ?_) | (k_here; (with_reducible show wpAny _ _ (call (Value.builtin "str.join") [Value.str _ _, Value.ref _]) _ _ _); k_dflt (refine' join_listW ?k1 ?k2 ?k3 ?k4 ?_; (case k1 => exact News.isList (by k_asm) (by k_mem)); (case k2 => first | assumption | exact StrsAre.append' (by assumption) (.cons _ _ .nil)); (case k3 => decide +kernel); (case k4 => first | assumption | omega | (simp only [List.map_append, List.sum_append, List.map_cons, List.map_nil, List.sum_cons, List.sum_nil, List.length_append, List.length_cons, List.length_nil]; omega)); k_whole); intro _ _) | (k_here; (with_reducible show wpAny _ _ (call (Value.builtin "len") [Value.ref _]) _ _ _); k_dflt (refine' len_made ?k1 ?k2 ?k3 ?_; (case k1 => k_asm); (case k2 => k_mem); (case k3 => omega); k_whole); intro t9Z tk9Z) | (k_here; (with_reducible show wpAny _ _ (call (Value.builtin "str.join") [Value.str _ _, Value.ref _]) _ _ _); k_dflt (refine' join_listW ?k1 ?k2 ?k3 ?k4 ?_; (case k1 => exact News.isList (by k_asm) (by k_mem)); (case k2 => assumption); (case k3 => decide +kernel); (case k4 => first | assumption | omega); k_whole); intro _ _) | ((with_reducible show wpAny _ _ (call (Value.builtin "list.append") _ _) _ _ _); (k_here; k_dflt (refine' append_snoc ?k1 ?k2 ?k3 ?k4 ?_; (case k1 | k2 => k_asm); (case k3 => k_upd); (case k4 => omega); k_whole); intro h'Z F'Z N'Z; (try k_sweep))))) | ((with_reducible show wpAny _ _ (pyIter (Value.ref _)) _ _ _); (k_here; refine stop_in ?_)) | ((with_reducible show wpAny _ _ (exec _ _) _ _ _); (first | ((with_reducible show wpAny _ _ (exec (Stmt.For (Expr.Name _ _) (Expr.Name _ _) _ _ _) _) _ _ _); (k_here; (rename Fr _ _ _ _ => lF'Z); (with_unfolding_all refine' For_invVF lF'Z ?k1 ?k2 ?_; (case k1 | k2 => exact rfl); k_whole))) | ((with_reducible show wpAny _ _ (exec (Stmt.If _ _ _ _) _) _ _ _); (k_here; refine wpAny_If ?_)))) | ((with_reducible show wpAny _ _ (truthy _) _ _ _); (first | ((with_reducible show wpAny _ _ (truthy (Value.ref _)) _ _ _); (k_here; k_dflt (first | (refine' truthy_nil ?k1 ?k2 ?_; (case k1 => k_asm); (case k2 => k_mem); k_whole) | (refine' truthy_snoc ?k1 ?k2 ?k3 ?_; (case k1 => k_asm); (case k2 => k_mem); (case k3 => omega); k_whole)))) | (k_here; (with_reducible show wpAny _ _ (truthy (Value.str _ _)) _ _ _); refine truthy_long (by assumption) (by omega) ?_; intro _))) | ((with_reducible show wpAny _ _ (execs _ _) _ _ _); (first | ((with_reducible show wpAny _ _ (execs [] _) _ _ _); (k_here; refine wpAny_execs_nil ?_)) | ((with_reducible show wpAny _ _ (execs (_ :: _) _) _ _ _); (k_here; (try dsimp only); (try k_fold); first | with_reducible refine execs_one ?_ | (refine execs_more ?_; intro qN8 hN8 hO8))))) | walk1 | ((with_reducible show wpAny _ _ _ _ _ _); dsimp only) | (leave1; walk_say "STEP leave1"; try dsimp only) | fail "no step")
  unfold Stop
  rename Fr _ _ _ (fun y => _) => F1
  rename News _ _ _ (_ :: _) => N1
  rename IsRange _ _ _ _ _ _ _ _ => hR
  rename StrsAre _ _ => hpv
  rename List.map _ _ = Txt.split _ _ => hpe
  rw [hpe] at hpv
  refine news1 N1 ?_
  intro PC ePC
  have hPC : ∀ p ∈ (TD, listOf tv.toArray k) :: (D, o) :: (NM, listOf nv.toArray nn) :: R, p.1 < PC := fun p hp => by rw [ePC]; exact hlt p hp
  rw [← ePC] at N1 F1
  clear hlt ePC
  refine strs_name hpv ?_
  intro pv epv
  have hln := hpv.length
  rw [strValues_len] at hln
  rw [hln] at hR
  rw [← epv] at N1 hpv
  clear epv
  replace N1 : News _ _ _ ((PC, listOf pv.toArray 0) :: (TD, listOf tv.toArray k) :: (D, o) :: (NM, listOf nv.toArray nn) :: R) := N1
  have hPD := Nat.ne_of_gt (hPC _ (.head _))
  subst hdi
  subst hli
  have hsw := split_weight text (Str.ofString "/") (by decide +kernel)
  rename List.map _ _ = Txt.split _ _ => hpe
  clear hpe hln
  refine named (Txt.split text (Str.ofString "/")) ?_
  intro PS hPS
  rw [← hPS] at hsw hpv hR
  have hPl := hpv.length
  have hw20 : ∀ i, i ≤ PS.length → wt (atPiece (wStep (lkC c) (walkF (lkC c) n) owner depth) PS i st) ≤ 20000 := fun i hi => by
    have h1 := atPiece_wt (wStep_wt hl (walkF_wt hl n) owner depth) PS st i hi
    have h2 := take_sum1 PS i
    rw [sum1 PS] at h2
    omega
  have hw38 : ∀ i, i < PS.length → wt (atPiece (wStep (lkC c) (walkF (lkC c) n) owner depth) PS i st) ≤ 20000 := fun i hi => hw20 i (Nat.le_of_lt hi)
  have hlf : ∀ i, (atPiece (wStep (lkC c) (walkF (lkC c) n) owner depth) PS i st).left ≤ n := fun i => Nat.le_trans (atPiece_left (wStep_left (walkF_left _ n) owner depth) PS st i) hle
  refine range_loopS _ (WalkJ TD D PC o (listOf pv.toArray 0) R R0 n₁ (fun i => atPiece (wStep (lkC c) (walkF (lkC c) n) owner depth) PS i st)) [Str.ofString "word", Str.ofString "line", Str.ofString "place", Str.ofString "start", Str.ofString "names", Str.ofString "left"] rfl hR (by omega) F1 N1 (walk_sub _) ⟨NM, nv, nn, tv, k, tl, [], rfl, rfl, rfl, hnv, htv, fun _ h => (nomatch h), fun _ h => (nomatch h), hW.tn.symm, hW.nm⟩ ?turn ?done
  case turn =>
    rintro i t m₁ nx h tk own hi hoff ⟨NM1, nv1, nn1, tv1, k1, lt1, add, rfl, hnm, hlfm, hnv1, htv1, ha1, ha2, hn1, hn2⟩ hm F2 N2
    dsimp only at hlfm hnv1 htv1
    have hi1 := atPiece_succ (F := wStep (lkC c) (walkF (lkC c) n) owner depth) st (List.getElem?_eq_getElem hi)
    have hwi := hw38 i hi
    have hli := hlf i
    refine named (atPiece (wStep (lkC c) (walkF (lkC c) n) owner depth) PS i st) ?_
    rintro ⟨names1, left1, told1⟩ hst
    rw [← hst] at hi1 hwi hli hlfm hnv1 htv1
    have hpc := List.getElem?_eq_getElem hi
    refine named PS[i] ?_
    intro pc epc
    rw [← epc] at hi1 hpc
    dsimp only at hli hlfm hnv1 htv1
    have F3 := kst_fr (ps := [(Str.ofString "names", Value.ref NM1), (Str.ofString "left", Value.int (left1 : Int) lt1)]) (stored := [Str.ofString "word", Str.ofString "line", Str.ofString "place", Str.ofString "start"]) (fun p hq => by
      rcases List.mem_cons.mp hq with rfl | hq
      · exact hnm
      · rw [List.mem_singleton.mp hq]; exact hlfm) (fun z z1 z2 z3 => hm z z1 (st_more (a := Str.ofString "names") (b := Str.ofString "left") (z2 _ (.head _)) (z2 _ (.tail _ (.head _))) z3 (by decide +kernel))) F2
    clear F2
    dsimp only [kstB] at F3
    refine fr_let F3 ?_
    intro mK8 F3'
    clear F3
    simp only [List.cons_append] at N2
    refine named (add ++ R ++ own) ?_
    intro R2 hR2
    rw [← hR2] at N2
    have hpl : pv.length ≤ 100000 := by omega
    have hPSl : PS.length ≤ 100000 := by omega
    have htk := hpv.take' (i + 1)
    have h5 := hnv1.length
    have h6 := htv1.length
    have hwt1 : (names1.map (·.length)).sum + names1.length + told1.length ≤ 20000 := by
      have := sum1 names1
      unfold wt at hwi
      dsimp only at hwi
      omega
    have h7 : ((PS.take (i + 1)).map (·.length)).sum + (PS.take (i + 1)).length ≤ 100000 := by
      have q1 := take_sum1 PS (i + 1)
      rw [sum1, sum1] at q1
      omega
    have hc0 := (PyProof.Rows.count_bounds (Txt.join (Str.ofString "") (PS.take (i + 1))) (Str.ofString "\n")).1
    have hc1 := (PyProof.Rows.count_bounds (Txt.join (Str.ofString "") (PS.take (i + 1))) (Str.ofString "\n")).2
    have hc2 := StrLaws.join_length_le (Str.ofString "") (PS.take (i + 1))
    rw [← join_eq, show (Str.ofString "").length = 0 by decide +kernel] at hc2
    have hc3 : Txt.count (Txt.join (Str.ofString "") (PS.take (i + 1))) (Str.ofString "\n") ≤ 200000 := by omega
    have hjn : (Txt.join (Str.ofString "/") names1).length ≤ 20001 := by
      have q1 := StrLaws.join_length_le (Str.ofString "/") names1
      rw [← join_eq, show (Str.ofString "/").length = 1 by decide +kernel] at q1
      omega
    have hpcl : pc.length ≤ 20001 := by
      have := mem_len (List.mem_of_getElem? hpc)
      omega
    have hjn2 : (Txt.join (Str.ofString "/") (names1 ++ [pc])).length ≤ 60000 := by
      have q1 := StrLaws.join_length_le (Str.ofString "/") (names1 ++ [pc])
      rw [← join_eq, show (Str.ofString "/").length = 1 by decide +kernel] at q1
      simp only [List.map_append, List.sum_append, List.map_cons, List.map_nil, List.sum_cons, List.sum_nil, List.length_append, List.length_cons, List.length_nil] at q1
      omega
    clear hc1 hc2
    have h8 : (names1.map (·.length)).sum + names1.length ≤ 100000 := by omega
    have hnl : nv1.length ≤ 100000 := by omega
    have htl : tv1.length ≤ 100000 := by omega
    repeat' (first | (k_unfold; (try dsimp only)) | (k_end; (with_reducible refine hN8 _ _ ?_); intro kN8; clear hN8 hO8; (try clear qN8); first | with_reducible refine execs_one ?_ | (refine execs_more ?_; intro qN8 hN8 hO8)) | (k_end; (with_reducible refine hO8 _ _ ?zn8 ?_); (case zn8 => first | exact ne_ret _ | exact ne_brk | exact ne_cont); clear hN8 hO8; (try clear qN8)) | (k_end; wrow_close) | ((with_reducible show wpAny _ _ (binaryOp Operator.Add (Value.ref _) (Value.ref _)) _ _ _); (k_here; k_dflt (refine' cat_made ?zqF ?zqN ?zql ?zqb ?zqz ?_; (case zqF | zqN => k_asm); (case zql | zqb => k_mem); (case zqz => (simp only [List.length_append, List.length_cons, List.length_nil]; omega)); k_whole); intro D'Z h'Z F'Z N'Z l1Z; (try k_lt l1Z); (try k_sweep))) | ((with_reducible show wpAny _ _ (subscriptTail _ _ _ _) _ _ _); (first | (k_here; (with_reducible show wpAny _ _ (subscriptTail _ _ (Value.ref _) (Value.str _ _)) _ _ _); k_dflt (refine' links_item ?k1 ?k2 ?k3 ?k4 ?_ ?zqk6 ?zqk7; (case k1 => k_asm); (case k2 => k_mem); (case k3 | k4 => assumption); (case zqk6 => with_unfolding_all rfl); (case zqk7 => intro _; with_unfolding_all rfl); k_whole); intro u9Z) | (k_here; (with_reducible show wpAny _ _ (subscriptTail _ _ (Value.ref _) (Value.str _ _)) _ _ _); k_dflt (refine' links_itemI ?k1 ?k2 ?k3 ?k4 ?k5 ?_ ?zqk6 ?zqk7; (case k1 => k_asm); (case k2 => k_mem); (case k3 | k4 | k5 => assumption); (case zqk6 => with_unfolding_all rfl); (case zqk7 => intro _; with_unfolding_all rfl); k_whole); intro t9Z u9Z hk9Z hz9Z) | ((with_reducible show wpAny _ _ (subscriptTail (Expr.Name _ _) (Expr.Slice _ _ _ _) (Value.ref _) (Value.ref _)) _ _ _); (k_here; k_dflt (refine' slice_last ?zqF ?zqN ?zql ?zqz ?_ ?zqs ?zqt; (case zqF | zqN => k_asm); (case zql => k_mem); (case zqz => assumption); (case zqs => with_unfolding_all rfl); (case zqt => kmk_pure); k_whole); intro D'Z h'Z F'Z N'Z l1Z; (try k_lt l1Z); (try k_sweep))) | ((with_reducible show wpAny _ _ (subscriptTail (Expr.Name _ _) (Expr.Slice _ _ _ _) (Value.ref _) (Value.ref _)) _ _ _); (k_here; k_dflt (refine' slice_upto _ ?zqF ?zqN ?zql ?zqz ?zqy ?_ ?zqs ?zqt; (case zqF | zqN => k_asm); (case zql => k_mem); (case zqz => assumption); (case zqy => exact succ_int _); (case zqs => with_unfolding_all rfl); (case zqt => kmk_pure); k_whole); intro D'Z h'Z F'Z N'Z l1Z; (try k_lt l1Z); (try k_sweep))) | (k_here; (with_reducible show wpAny _ _ (subscriptTail _ _ (Value.ref _) (Value.int _ _)) _ _ _); k_dflt (refine' strs_at ?k1 ?k2 ?k3 ?k4 ?k5 ?_ ?zqk7; (case k1 => k_asm); (case k2 => k_mem); (case k3 | k4 | k5 => assumption); (case zqk7 => with_unfolding_all rfl); k_whole); intro t9Z) | (k_here; (with_reducible show wpAny _ _ (subscriptTail _ _ (Value.ref _) (Value.int (-1) _)) _ _ _); k_dflt (refine' item_last ?k1 ?k2 ?_ ?k4; (case k1 => k_asm); (case k2 => k_mem); (case k4 => with_unfolding_all rfl); k_whole)))) | ((with_reducible show wpAny _ _ (compareOp _ _ _) _ _ _); (first | ((with_reducible show wpAny _ _ (compareOp CmpOp.In (Value.str _ _) (Value.ref _)) _ _ _); (k_here; k_dflt (refine' links_inB ?k1 ?k2 ?k3 ?_; (case k1 => k_asm); (case k2 => k_mem); (case k3 => assumption); k_whole))) | ((with_reducible show wpAny _ _ (compareOp CmpOp.In (Value.str _ _) (Value.ref _)) _ _ _); (k_here; k_dflt (refine' links_in ?k1 ?k2 ?k3 ?k4 ?_; (case k1 => k_asm); (case k2 => k_mem); (case k3 | k4 => assumption); k_whole))) | (k_here; (with_reducible show wpAny _ _ (compareOp CmpOp.In (Value.str _ _) (Value.str _ _)) _ _ _); first | (refine in_known (b := false) (by assumption) ?_) | (refine in_known (b := true) (by assumption) ?_) | (refine in_known (b := false) (by decide +kernel) ?_) | (refine in_known (b := true) (by decide +kernel) ?_)))) | ((with_reducible show wpAny _ _ (call _ _ _) _ _ _); (first | ((with_reducible show wpAny _ _ (call (Value.builtin "list.append") _ _) _ _ _); (k_here; refine stop_in ?_)) | (k_here; (with_reducible show wpAny _ _ (call (Value.ref 883) _) _ _ _); refine stop_in ?_) | (k_here; (with_reducible show wpAny _ _ (call (Value.builtin "str.join") [Value.str _ _, Value.ref _]) _ _ _); k_dflt (refine' join_listW ?k1 ?k2 ?k3 ?k4 ?_; (case k1 => exact News.isList (by k_asm) (by k_mem)); (case k2 => first | assumption | exact StrsAre.append' (by assumption) (.cons _ _ .nil)); (case k3 => decide +kernel); (case k4 => first | assumption | omega | (simp only [List.map_append, List.sum_append, List.map_cons, List.map_nil, List.sum_cons, List.sum_nil, List.length_append, List.length_cons, List.length_nil]; omega)); k_whole); intro _ _) | (k_here; (with_reducible show wpAny _ _ (call (Value.builtin "len") [Value.ref _]) _ _ _); k_dflt (refine' len_made ?k1 ?k2 ?k3 ?_; (case k1 => k_asm); (case k2 => k_mem); (case k3 => omega); k_whole); intro t9Z tk9Z) | (k_here; (with_reducible show wpAny _ _ (call (Value.builtin "str.join") [Value.str _ _, Value.ref _]) _ _ _); k_dflt (refine' join_listW ?k1 ?k2 ?k3 ?k4 ?_; (case k1 => exact News.isList (by k_asm) (by k_mem)); (case k2 => assumption); (case k3 => decide +kernel); (case k4 => first | assumption | omega); k_whole); intro _ _) | ((with_reducible show wpAny _ _ (call (Value.builtin "list.append") _ _) _ _ _); (k_here; k_dflt (refine' append_snoc ?k1 ?k2 ?k3 ?k4 ?_; (case k1 | k2 => k_asm); (case k3 => k_upd); (case k4 => omega); k_whole); intro h'Z F'Z N'Z; (try k_sweep))))) | ((with_reducible show wpAny _ _ (pyIter (Value.ref _)) _ _ _); (k_here; refine stop_in ?_)) | ((with_reducible show wpAny _ _ (exec _ _) _ _ _); (first | ((with_reducible show wpAny _ _ (exec (Stmt.For (Expr.Name _ _) (Expr.Name _ _) _ _ _) _) _ _ _); (k_here; (rename Fr _ _ _ _ => lF'Z); (with_unfolding_all refine' For_invVF lF'Z ?k1 ?k2 ?_; (case k1 | k2 => exact rfl); k_whole))) | ((with_reducible show wpAny _ _ (exec (Stmt.If _ _ _ _) _) _ _ _); (k_here; refine wpAny_If ?_)))) | ((with_reducible show wpAny _ _ (truthy _) _ _ _); (first | ((with_reducible show wpAny _ _ (truthy (Value.ref _)) _ _ _); (k_here; k_dflt (first | (refine' truthy_nil ?k1 ?k2 ?_; (case k1 => k_asm); (case k2 => k_mem); k_whole) | (refine' truthy_snoc ?k1 ?k2 ?k3 ?_; (case k1 => k_asm); (case k2 => k_mem); (case k3 => omega); k_whole)))) | (k_here; (with_reducible show wpAny _ _ (truthy (Value.str _ _)) _ _ _); refine truthy_long (by assumption) (by omega) ?_; intro _))) | ((with_reducible show wpAny _ _ (execs _ _) _ _ _); (first | ((with_reducible show wpAny _ _ (execs [] _) _ _ _); (k_here; refine wpAny_execs_nil ?_)) | ((with_reducible show wpAny _ _ (execs (_ :: _) _) _ _ _); (k_here; (try dsimp only); (try k_fold); first | with_reducible refine execs_one ?_ | (refine execs_more ?_; intro qN8 hN8 hO8))))) | walk1 | ((with_reducible show wpAny _ _ _ _ _ _); dsimp only) | (leave1; walk_say "STEP leave1"; try dsimp only) | fail "no step")
    · have e0 : sg pc = [] := (empty_iff pc).mp (eq_of_beq (by assumption))
      subst hR2
      have inO : ∀ p ∈ own, p ∈ add ++ R ++ own := fun p hp => List.mem_append_right _ hp
      have inA : ∀ p ∈ add, p ∈ add ++ R ++ own := fun p hp => List.mem_append_left _ (List.mem_append_left _ hp)
      have inR : ∀ p ∈ R, p ∈ add ++ R ++ own := fun p hp => List.mem_append_left _ (List.mem_append_right _ hp)
      refine walk_end (k' := k1) (nn' := nn1) ⟨names1, left1, told1⟩ add hoff (by assumption) (by assumption) (hi1.trans (if_pos e0)) rfl rfl hnv1 htv1 ?zsa ?zsb (fun p hp => hoff p hp _ (by repeat (first | exact List.mem_cons_self | refine List.mem_cons_of_mem _ ?_ | refine List.mem_append_right _ ?_))) (fun q hq => .inl hq) ha1 ha2 hn1 hn2 ?zsc
      case zsa => exact (by (repeat' (first | exact nil_sub8 | ((refine sub_cons ?zqmm8 ?_); (case zqmm8 => repeat (first | exact List.mem_cons_self | refine List.mem_cons_of_mem _ ?_ | refine List.mem_append_right _ ?_))) | refine sub_app ?_ ?_)); all_goals (intro pZ hpZ; repeat (first | exact hpZ | exact inA pZ hpZ | exact inR pZ hpZ | exact inO pZ hpZ | exact List.mem_append_left _ hpZ | refine List.mem_cons_of_mem _ ?_ | refine List.mem_append_right _ ?_)))
      case zsb => exact (by (repeat' (first | exact nil_sub8 | ((refine sub_cons ?zqmm8 ?_); (case zqmm8 => repeat (first | exact List.mem_cons_self | refine List.mem_cons_of_mem _ ?_ | refine List.mem_append_right _ ?_))) | refine sub_app ?_ ?_)); all_goals (intro pZ hpZ; repeat (first | exact hpZ | exact inA pZ hpZ | exact inR pZ hpZ | exact inO pZ hpZ | exact List.mem_append_left _ hpZ | refine List.mem_cons_of_mem _ ?_ | refine List.mem_append_right _ ?_)))
      case zsc => intro z z1 z2; (repeat (first | with_reducible refine (if_neg z1).trans ?_ | ((with_reducible refine (if_neg (st_ne z2 ?zqst8)).trans ?_); (case zqst8 => decide +kernel)))); exact if_neg (st_sub z2 (by decide +kernel))
    · unfold Stop
      rename Fr _ _ _ (fun y => _) => F4
      rename News _ _ _ (_ :: _) => N4
      refine news1 N4 ?_
      intro TP eTP
      subst eTP
      rename _ ∧ _ ∧ _ ∧ _ ∧ _ ∧ AllLt TP R2 => lTP
      refine walk_tuple N4 ?_
      clear N4
      intro oT N4 hT
      have nTT : TP ≠ TD := Nat.ne_of_gt lTP.2.1
      have oR2 : ∀ p ∈ R2, p.1 ≠ TD := fun p hp => by
        rw [hR2] at hp
        rcases List.mem_append.mp hp with hp | hp
        · exact (List.mem_append.mp hp).elim (ha1 p) (hW.tr p)
        · exact hoff p hp TD (by repeat (first | exact List.mem_cons_self | refine List.mem_cons_of_mem _ ?_ | refine List.mem_append_right _ ?_))
      have nDT : D ≠ TD := hW.td.symm
      refine append_snoc (n := k1) F4 N4 (by k_upd) htl ?_
      intro h5 F5 N5
      clear N4
      have hT2 : DatAll (((TP, oT) :: add) ++ n₁) (tv1 ++ [Value.ref TP]) (told1 ++ [toldOf pc owner (1 + (sg (Txt.join (Str.ofString "") (PS.take (i + 1)))).count 10) depth names1]) := (htv1.mono fun p hp => .tail _ hp).append (.one (hT.mono fun p hp => by rw [List.mem_singleton.mp hp]; exact List.Mem.head _))
      clear hT
      have nTR2 : ∀ p ∈ R2, p.1 ≠ TP := allLt_ne lTP.2.2.2.2.2
      have tA1 : ∀ p ∈ (TP, oT) :: add, p.1 ≠ TD := fun p hp => (List.mem_cons.mp hp).elim (fun e => by rw [e]; exact nTT) (ha1 p)
      have tA2 : ∀ p ∈ (TP, oT) :: add, ∀ q ∈ R, p.1 ≠ q.1 := fun p hp q hq => (List.mem_cons.mp hp).elim (fun e => by rw [e]; exact (nTR2 q (by rw [hR2]; exact List.mem_append.mpr (.inl (List.mem_append.mpr (.inr hq))))).symm) (fun h => ha2 p h q hq)
      have tAo : ∀ q ∈ (TP, oT) :: add, q ∈ add ∨ ∀ p ∈ own, p.1 ≠ q.1 := fun q hq => (List.mem_cons.mp hq).elim (fun e => .inr fun p hp => by rw [e]; exact nTR2 p (by rw [hR2]; exact List.mem_append.mpr (.inr hp))) .inl
      have inO : ∀ p ∈ own, p ∈ R2 := fun p hp => by rw [hR2]; exact List.mem_append.mpr (.inr hp)
      have inR : ∀ p ∈ R, p ∈ R2 := fun p hp => by rw [hR2]; exact List.mem_append.mpr (.inl (List.mem_append.mpr (.inr hp)))
      have inA : ∀ p ∈ add, p ∈ R2 := fun p hp => by rw [hR2]; exact List.mem_append.mpr (.inl (List.mem_append.mpr (.inl hp)))
      have in0 : ∀ p ∈ R0, p ∈ R2 := fun p hp => inR p (hW.sub0 p hp)
      repeat' (first | (k_unfold; (try dsimp only)) | (k_end; (with_reducible refine hN8 _ _ ?_); intro kN8; clear hN8 hO8; (try clear qN8); first | with_reducible refine execs_one ?_ | (refine execs_more ?_; intro qN8 hN8 hO8)) | (k_end; (with_reducible refine hO8 _ _ ?zn8 ?_); (case zn8 => first | exact ne_ret _ | exact ne_brk | exact ne_cont); clear hN8 hO8; (try clear qN8)) | (k_end; wrow_close) | ((with_reducible show wpAny _ _ (binaryOp Operator.Add (Value.ref _) (Value.ref _)) _ _ _); (k_here; k_dflt (refine' cat_made ?zqF ?zqN ?zql ?zqb ?zqz ?_; (case zqF | zqN => k_asm); (case zql | zqb => k_mem); (case zqz => (simp only [List.length_append, List.length_cons, List.length_nil]; omega)); k_whole); intro D'Z h'Z F'Z N'Z l1Z; (try k_lt l1Z); (try k_sweep))) | ((with_reducible show wpAny _ _ (subscriptTail _ _ _ _) _ _ _); (first | (k_here; (with_reducible show wpAny _ _ (subscriptTail _ _ (Value.ref _) (Value.str _ _)) _ _ _); k_dflt (refine' links_item ?k1 ?k2 ?k3 ?k4 ?_ ?zqk6 ?zqk7; (case k1 => k_asm); (case k2 => k_mem); (case k3 | k4 => assumption); (case zqk6 => with_unfolding_all rfl); (case zqk7 => intro _; with_unfolding_all rfl); k_whole); intro u9Z) | (k_here; (with_reducible show wpAny _ _ (subscriptTail _ _ (Value.ref _) (Value.str _ _)) _ _ _); k_dflt (refine' links_itemI ?k1 ?k2 ?k3 ?k4 ?k5 ?_ ?zqk6 ?zqk7; (case k1 => k_asm); (case k2 => k_mem); (case k3 | k4 | k5 => assumption); (case zqk6 => with_unfolding_all rfl); (case zqk7 => intro _; with_unfolding_all rfl); k_whole); intro t9Z u9Z hk9Z hz9Z) | ((with_reducible show wpAny _ _ (subscriptTail (Expr.Name _ _) (Expr.Slice _ _ _ _) (Value.ref _) (Value.ref _)) _ _ _); (k_here; k_dflt (refine' slice_last ?zqF ?zqN ?zql ?zqz ?_ ?zqs ?zqt; (case zqF | zqN => k_asm); (case zql => k_mem); (case zqz => assumption); (case zqs => with_unfolding_all rfl); (case zqt => kmk_pure); k_whole); intro D'Z h'Z F'Z N'Z l1Z; (try k_lt l1Z); (try k_sweep))) | ((with_reducible show wpAny _ _ (subscriptTail (Expr.Name _ _) (Expr.Slice _ _ _ _) (Value.ref _) (Value.ref _)) _ _ _); (k_here; k_dflt (refine' slice_upto _ ?zqF ?zqN ?zql ?zqz ?zqy ?_ ?zqs ?zqt; (case zqF | zqN => k_asm); (case zql => k_mem); (case zqz => assumption); (case zqy => exact succ_int _); (case zqs => with_unfolding_all rfl); (case zqt => kmk_pure); k_whole); intro D'Z h'Z F'Z N'Z l1Z; (try k_lt l1Z); (try k_sweep))) | (k_here; (with_reducible show wpAny _ _ (subscriptTail _ _ (Value.ref _) (Value.int _ _)) _ _ _); k_dflt (refine' strs_at ?k1 ?k2 ?k3 ?k4 ?k5 ?_ ?zqk7; (case k1 => k_asm); (case k2 => k_mem); (case k3 | k4 | k5 => assumption); (case zqk7 => with_unfolding_all rfl); k_whole); intro t9Z) | (k_here; (with_reducible show wpAny _ _ (subscriptTail _ _ (Value.ref _) (Value.int (-1) _)) _ _ _); k_dflt (refine' item_last ?k1 ?k2 ?_ ?k4; (case k1 => k_asm); (case k2 => k_mem); (case k4 => with_unfolding_all rfl); k_whole)))) | ((with_reducible show wpAny _ _ (compareOp _ _ _) _ _ _); (first | ((with_reducible show wpAny _ _ (compareOp CmpOp.In (Value.str _ _) (Value.ref _)) _ _ _); (k_here; k_dflt (refine' links_inB ?k1 ?k2 ?k3 ?_; (case k1 => k_asm); (case k2 => k_mem); (case k3 => assumption); k_whole))) | ((with_reducible show wpAny _ _ (compareOp CmpOp.In (Value.str _ _) (Value.ref _)) _ _ _); (k_here; k_dflt (refine' links_in ?k1 ?k2 ?k3 ?k4 ?_; (case k1 => k_asm); (case k2 => k_mem); (case k3 | k4 => assumption); k_whole))) | (k_here; (with_reducible show wpAny _ _ (compareOp CmpOp.In (Value.str _ _) (Value.str _ _)) _ _ _); first | (refine in_known (b := false) (by assumption) ?_) | (refine in_known (b := true) (by assumption) ?_) | (refine in_known (b := false) (by decide +kernel) ?_) | (refine in_known (b := true) (by decide +kernel) ?_)))) | ((with_reducible show wpAny _ _ (call _ _ _) _ _ _); (first | ((with_reducible show wpAny _ _ (call (Value.builtin "list.append") _ _) _ _ _); (k_here; refine stop_in ?_)) | (k_here; (with_reducible show wpAny _ _ (call (Value.ref 883) _) _ _ _); refine stop_in ?_) | (k_here; (with_reducible show wpAny _ _ (call (Value.builtin "str.join") [Value.str _ _, Value.ref _]) _ _ _); k_dflt (refine' join_listW ?k1 ?k2 ?k3 ?k4 ?_; (case k1 => exact News.isList (by k_asm) (by k_mem)); (case k2 => first | assumption | exact StrsAre.append' (by assumption) (.cons _ _ .nil)); (case k3 => decide +kernel); (case k4 => first | assumption | omega | (simp only [List.map_append, List.sum_append, List.map_cons, List.map_nil, List.sum_cons, List.sum_nil, List.length_append, List.length_cons, List.length_nil]; omega)); k_whole); intro _ _) | (k_here; (with_reducible show wpAny _ _ (call (Value.builtin "len") [Value.ref _]) _ _ _); k_dflt (refine' len_made ?k1 ?k2 ?k3 ?_; (case k1 => k_asm); (case k2 => k_mem); (case k3 => omega); k_whole); intro t9Z tk9Z) | (k_here; (with_reducible show wpAny _ _ (call (Value.builtin "str.join") [Value.str _ _, Value.ref _]) _ _ _); k_dflt (refine' join_listW ?k1 ?k2 ?k3 ?k4 ?_; (case k1 => exact News.isList (by k_asm) (by k_mem)); (case k2 => assumption); (case k3 => decide +kernel); (case k4 => first | assumption | omega); k_whole); intro _ _) | ((with_reducible show wpAny _ _ (call (Value.builtin "list.append") _ _) _ _ _); (k_here; k_dflt (refine' append_snoc ?k1 ?k2 ?k3 ?k4 ?_; (case k1 | k2 => k_asm); (case k3 => k_upd); (case k4 => omega); k_whole); intro h'Z F'Z N'Z; (try k_sweep))))) | ((with_reducible show wpAny _ _ (pyIter (Value.ref _)) _ _ _); (k_here; refine stop_in ?_)) | ((with_reducible show wpAny _ _ (exec _ _) _ _ _); (first | ((with_reducible show wpAny _ _ (exec (Stmt.For (Expr.Name _ _) (Expr.Name _ _) _ _ _) _) _ _ _); (k_here; (rename Fr _ _ _ _ => lF'Z); (with_unfolding_all refine' For_invVF lF'Z ?k1 ?k2 ?_; (case k1 | k2 => exact rfl); k_whole))) | ((with_reducible show wpAny _ _ (exec (Stmt.If _ _ _ _) _) _ _ _); (k_here; refine wpAny_If ?_)))) | ((with_reducible show wpAny _ _ (truthy _) _ _ _); (first | ((with_reducible show wpAny _ _ (truthy (Value.ref _)) _ _ _); (k_here; k_dflt (first | (refine' truthy_nil ?k1 ?k2 ?_; (case k1 => k_asm); (case k2 => k_mem); k_whole) | (refine' truthy_snoc ?k1 ?k2 ?k3 ?_; (case k1 => k_asm); (case k2 => k_mem); (case k3 => omega); k_whole)))) | (k_here; (with_reducible show wpAny _ _ (truthy (Value.str _ _)) _ _ _); refine truthy_long (by assumption) (by omega) ?_; intro _))) | ((with_reducible show wpAny _ _ (execs _ _) _ _ _); (first | ((with_reducible show wpAny _ _ (execs [] _) _ _ _); (k_here; refine wpAny_execs_nil ?_)) | ((with_reducible show wpAny _ _ (execs (_ :: _) _) _ _ _); (k_here; (try dsimp only); (try k_fold); first | with_reducible refine execs_one ?_ | (refine execs_more ?_; intro qN8 hN8 hO8))))) | walk1 | ((with_reducible show wpAny _ _ _ _ _ _); dsimp only) | (leave1; walk_say "STEP leave1"; try dsimp only) | fail "no step")
      · have e0 : ¬ sg pc = [] := fun h => beq_eq_false_iff_ne.mp (by assumption) ((empty_iff pc).mpr h)
        rename _ ∧ _ ∧ _ ∧ _ ∧ _ ∧ _ ∧ _ ∧ AllLt _ R2 => lD
        refine walk_end (k' := k1 + 1) (nn' := 0) ⟨names1.dropLast, left1, _⟩ ((TP, oT) :: add) hoff (by assumption) (by assumption) (hi1.trans ((if_neg e0).trans (step_up (eq_of_beq (by assumption))))) rfl rfl (strs_dropLast hnv1) hT2 ?zsa ?zsb (fun p hp => allLt_ne lD.2.2.2.2.2.2.2 p (inO p hp)) tAo tA1 tA2 (Nat.ne_of_gt lD.2.2.2.1) (fun p hp => allLt_ne lD.2.2.2.2.2.2.2 p (in0 p hp)) ?zsc
        case zsa => exact (by (repeat' (first | exact nil_sub8 | ((refine sub_cons ?zqmm8 ?_); (case zqmm8 => repeat (first | exact List.mem_cons_self | refine List.mem_cons_of_mem _ ?_ | refine List.mem_append_right _ ?_))) | refine sub_app ?_ ?_)); all_goals (intro pZ hpZ; repeat (first | exact hpZ | exact inA pZ hpZ | exact inR pZ hpZ | exact inO pZ hpZ | exact List.mem_append_left _ hpZ | refine List.mem_cons_of_mem _ ?_ | refine List.mem_append_right _ ?_)))
        case zsb => exact (by (repeat' (first | exact nil_sub8 | ((refine sub_cons ?zqmm8 ?_); (case zqmm8 => repeat (first | exact List.mem_cons_self | refine List.mem_cons_of_mem _ ?_ | refine List.mem_append_right _ ?_))) | refine sub_app ?_ ?_)); all_goals (intro pZ hpZ; repeat (first | exact hpZ | exact inA pZ hpZ | exact inR pZ hpZ | exact inO pZ hpZ | exact List.mem_append_left _ hpZ | refine List.mem_cons_of_mem _ ?_ | refine List.mem_append_right _ ?_)))
        case zsc => intro z z1 z2; (repeat (first | with_reducible refine (if_neg z1).trans ?_ | ((with_reducible refine (if_neg (st_ne z2 ?zqst8)).trans ?_); (case zqst8 => decide +kernel)))); exact if_neg (st_sub z2 (by decide +kernel))
      · have e0 : ¬ sg pc = [] := fun h => beq_eq_false_iff_ne.mp (by assumption) ((empty_iff pc).mpr h)
        unfold Stop
        rename Fr _ _ _ _ => F6
        rename News _ _ _ (_ :: _) => N6
        rename lkC c _ = some _ => hk9
        rename Str.length _ ≤ 38 => hz9
        have hpos : 0 < left1 := by omega
        obtain ⟨l, rfl⟩ : ∃ l, left1 = l + 1 := ⟨left1 - 1, by omega⟩
        obtain ⟨n', rfl⟩ : ∃ n', n = n' + 1 := ⟨n - 1, by omega⟩
        rename _ ∧ _ ∧ _ ∧ _ ∧ _ ∧ _ ∧ _ ∧ AllLt _ R2 => lD
        obtain ⟨TX, hTX⟩ : ∃ TX, lkC c (hereOf (names1 ++ [pc])) = some TX := ⟨_, hk9⟩
        obtain rfl := Option.some.inj (hTX.symm.trans hk9)
        refine news1 N6 ?_
        intro NMX eNM
        subst eNM
        have N7 := N6
        obtain ⟨nv2, nn2, ev2, hnv2⟩ : ∃ nv2 : List Value, ∃ nn2 : Nat, (nv2 = [] ∧ nn2 = 0) ∧ StrsAre nv2 (startOf TX names1) := ⟨[], 0, ⟨rfl, rfl⟩, by rw [show startOf TX names1 = [] from if_pos ((slice_starts _).mp (eq_of_beq (by assumption)))]; exact .nil⟩
        obtain ⟨ev3, ev4⟩ := ev2
        rw [show listOf #[] 0 = listOf nv2.toArray nn2 by rw [ev3, ev4]] at N7
        have hnM : ∀ p ∈ own ++ R0, p.1 ≠ NMX := fun p hp => (List.mem_append.mp hp).elim (fun h => allLt_ne lD.2.2.2.2.2.2.2 p (inO p h)) (fun h => allLt_ne lD.2.2.2.2.2.2.2 p (in0 p h))
        have hWI : WalkIn TD D NMX ((TP, oT) :: (PC, listOf pv.toArray 0) :: R2) (own ++ R0) ((TP, oT) :: (add ++ n₁)) := ⟨hW.td, (Nat.ne_of_lt lD.2.2.2.1), fun p hp => (List.mem_cons.mp hp).elim (fun e => by rw [e]; exact nTT) fun hp => (List.mem_cons.mp hp).elim (fun e => by rw [e]; exact hPD) (oR2 p), hnM, fun p hp => .tail _ (.tail _ ((List.mem_append.mp hp).elim (inO p) (in0 p))), fun p hp => (List.mem_cons.mp hp).elim (fun e => by rw [e]; exact List.Mem.head _) fun hp => .tail _ (.tail _ ((List.mem_append.mp hp).elim (inA p) fun h => inR p (hW.sub p h)))⟩
        have N8 : News _ _ _ ((TD, listOf (tv1 ++ [Value.ref TP]).toArray (k1 + 1)) :: (D, o) :: (NMX, listOf nv2.toArray nn2) :: ((TP, oT) :: (PC, listOf pv.toArray 0) :: R2)) := news_sub N7 (by (repeat' (first | exact nil_sub8 | ((refine sub_cons ?zqmm8 ?_); (case zqmm8 => repeat (first | exact List.mem_cons_self | refine List.mem_cons_of_mem _ ?_ | refine List.mem_append_right _ ?_))) | refine sub_app ?_ ?_)); all_goals (intro pZ hpZ; repeat (first | exact hpZ | exact List.mem_append_left _ hpZ | refine List.mem_cons_of_mem _ ?_ | refine List.mem_append_right _ ?_)))
        have hst2 := start_sum TX names1
        have hwt2 : wt ⟨startOf TX names1, l, told1 ++ [toldOf pc owner (1 + (sg (Txt.join (Str.ofString "") (PS.take (i + 1)))).count 10) depth names1]⟩ + 2 * (TX.length + 1) ≤ 20000 := by
          unfold wt at hwi ⊢
          dsimp only at hwi ⊢
          rw [List.length_append, List.length_cons, List.length_nil]
          omega
        refine' says_use (ih n' rfl TX (hereOf (names1 ++ [pc])) _ _ _ _ (depth + 1) _ _ ⟨startOf TX names1, l, told1 ++ [toldOf pc owner (1 + (sg (Txt.join (Str.ofString "") (PS.take (i + 1)))).count 10) depth names1]⟩ NMX TD nv2 (tv1 ++ [Value.ref TP]) nn2 (k1 + 1) ((TP, oT) :: (PC, listOf pv.toArray 0) :: R2) (own ++ R0) ((TP, oT) :: (add ++ n₁)) hnv2 hT2 hWI (by show l ≤ n'; omega) hwt2 (by omega) (by have := join_len2 (names1 ++ [pc]); rw [sum1] at this; simp only [List.map_append, List.sum_append, List.map_cons, List.map_nil, List.sum_cons, List.sum_nil, List.length_append, List.length_cons, List.length_nil] at this; omega) rfl (by show (((l + 1 : Nat) : Int) - 1) = (l : Int); omega)) ?k1 ?k2 ?k3 ?k4 ?k5 ?kK ?kd ?ku ?_
        tb_rel
        clear N6 N7 N8
        rintro r9 n9 h9 tk9 F9 N9 ⟨T9, NM2, nv3, nn3, tv3, k3, lt3, add3, e9, q9, w1, w2, w3, w4, w5, w6, w7⟩
        subst e9
        subst q9
        (try dsimp only)
        repeat' (first | (k_unfold; (try dsimp only)) | (k_end; (with_reducible refine hN8 _ _ ?_); intro kN8; clear hN8 hO8; (try clear qN8); first | with_reducible refine execs_one ?_ | (refine execs_more ?_; intro qN8 hN8 hO8)) | (k_end; (with_reducible refine hO8 _ _ ?zn8 ?_); (case zn8 => first | exact ne_ret _ | exact ne_brk | exact ne_cont); clear hN8 hO8; (try clear qN8)) | (k_end; wrow_close) | ((with_reducible show wpAny _ _ (binaryOp Operator.Add (Value.ref _) (Value.ref _)) _ _ _); (k_here; k_dflt (refine' cat_made ?zqF ?zqN ?zql ?zqb ?zqz ?_; (case zqF | zqN => k_asm); (case zql | zqb => k_mem); (case zqz => (simp only [List.length_append, List.length_cons, List.length_nil]; omega)); k_whole); intro D'Z h'Z F'Z N'Z l1Z; (try k_lt l1Z); (try k_sweep))) | ((with_reducible show wpAny _ _ (subscriptTail _ _ _ _) _ _ _); (first | (k_here; (with_reducible show wpAny _ _ (subscriptTail _ _ (Value.ref _) (Value.str _ _)) _ _ _); k_dflt (refine' links_item ?k1 ?k2 ?k3 ?k4 ?_ ?zqk6 ?zqk7; (case k1 => k_asm); (case k2 => k_mem); (case k3 | k4 => assumption); (case zqk6 => with_unfolding_all rfl); (case zqk7 => intro _; with_unfolding_all rfl); k_whole); intro u9Z) | (k_here; (with_reducible show wpAny _ _ (subscriptTail _ _ (Value.ref _) (Value.str _ _)) _ _ _); k_dflt (refine' links_itemI ?k1 ?k2 ?k3 ?k4 ?k5 ?_ ?zqk6 ?zqk7; (case k1 => k_asm); (case k2 => k_mem); (case k3 | k4 | k5 => assumption); (case zqk6 => with_unfolding_all rfl); (case zqk7 => intro _; with_unfolding_all rfl); k_whole); intro t9Z u9Z hk9Z hz9Z) | ((with_reducible show wpAny _ _ (subscriptTail (Expr.Name _ _) (Expr.Slice _ _ _ _) (Value.ref _) (Value.ref _)) _ _ _); (k_here; k_dflt (refine' slice_last ?zqF ?zqN ?zql ?zqz ?_ ?zqs ?zqt; (case zqF | zqN => k_asm); (case zql => k_mem); (case zqz => assumption); (case zqs => with_unfolding_all rfl); (case zqt => kmk_pure); k_whole); intro D'Z h'Z F'Z N'Z l1Z; (try k_lt l1Z); (try k_sweep))) | ((with_reducible show wpAny _ _ (subscriptTail (Expr.Name _ _) (Expr.Slice _ _ _ _) (Value.ref _) (Value.ref _)) _ _ _); (k_here; k_dflt (refine' slice_upto _ ?zqF ?zqN ?zql ?zqz ?zqy ?_ ?zqs ?zqt; (case zqF | zqN => k_asm); (case zql => k_mem); (case zqz => assumption); (case zqy => exact succ_int _); (case zqs => with_unfolding_all rfl); (case zqt => kmk_pure); k_whole); intro D'Z h'Z F'Z N'Z l1Z; (try k_lt l1Z); (try k_sweep))) | (k_here; (with_reducible show wpAny _ _ (subscriptTail _ _ (Value.ref _) (Value.int _ _)) _ _ _); k_dflt (refine' strs_at ?k1 ?k2 ?k3 ?k4 ?k5 ?_ ?zqk7; (case k1 => k_asm); (case k2 => k_mem); (case k3 | k4 | k5 => assumption); (case zqk7 => with_unfolding_all rfl); k_whole); intro t9Z) | (k_here; (with_reducible show wpAny _ _ (subscriptTail _ _ (Value.ref _) (Value.int (-1) _)) _ _ _); k_dflt (refine' item_last ?k1 ?k2 ?_ ?k4; (case k1 => k_asm); (case k2 => k_mem); (case k4 => with_unfolding_all rfl); k_whole)))) | ((with_reducible show wpAny _ _ (compareOp _ _ _) _ _ _); (first | ((with_reducible show wpAny _ _ (compareOp CmpOp.In (Value.str _ _) (Value.ref _)) _ _ _); (k_here; k_dflt (refine' links_inB ?k1 ?k2 ?k3 ?_; (case k1 => k_asm); (case k2 => k_mem); (case k3 => assumption); k_whole))) | ((with_reducible show wpAny _ _ (compareOp CmpOp.In (Value.str _ _) (Value.ref _)) _ _ _); (k_here; k_dflt (refine' links_in ?k1 ?k2 ?k3 ?k4 ?_; (case k1 => k_asm); (case k2 => k_mem); (case k3 | k4 => assumption); k_whole))) | (k_here; (with_reducible show wpAny _ _ (compareOp CmpOp.In (Value.str _ _) (Value.str _ _)) _ _ _); first | (refine in_known (b := false) (by assumption) ?_) | (refine in_known (b := true) (by assumption) ?_) | (refine in_known (b := false) (by decide +kernel) ?_) | (refine in_known (b := true) (by decide +kernel) ?_)))) | ((with_reducible show wpAny _ _ (call _ _ _) _ _ _); (first | ((with_reducible show wpAny _ _ (call (Value.builtin "list.append") _ _) _ _ _); (k_here; refine stop_in ?_)) | (k_here; (with_reducible show wpAny _ _ (call (Value.ref 883) _) _ _ _); refine stop_in ?_) | (k_here; (with_reducible show wpAny _ _ (call (Value.builtin "str.join") [Value.str _ _, Value.ref _]) _ _ _); k_dflt (refine' join_listW ?k1 ?k2 ?k3 ?k4 ?_; (case k1 => exact News.isList (by k_asm) (by k_mem)); (case k2 => first | assumption | exact StrsAre.append' (by assumption) (.cons _ _ .nil)); (case k3 => decide +kernel); (case k4 => first | assumption | omega | (simp only [List.map_append, List.sum_append, List.map_cons, List.map_nil, List.sum_cons, List.sum_nil, List.length_append, List.length_cons, List.length_nil]; omega)); k_whole); intro _ _) | (k_here; (with_reducible show wpAny _ _ (call (Value.builtin "len") [Value.ref _]) _ _ _); k_dflt (refine' len_made ?k1 ?k2 ?k3 ?_; (case k1 => k_asm); (case k2 => k_mem); (case k3 => omega); k_whole); intro t9Z tk9Z) | (k_here; (with_reducible show wpAny _ _ (call (Value.builtin "str.join") [Value.str _ _, Value.ref _]) _ _ _); k_dflt (refine' join_listW ?k1 ?k2 ?k3 ?k4 ?_; (case k1 => exact News.isList (by k_asm) (by k_mem)); (case k2 => assumption); (case k3 => decide +kernel); (case k4 => first | assumption | omega); k_whole); intro _ _) | ((with_reducible show wpAny _ _ (call (Value.builtin "list.append") _ _) _ _ _); (k_here; k_dflt (refine' append_snoc ?k1 ?k2 ?k3 ?k4 ?_; (case k1 | k2 => k_asm); (case k3 => k_upd); (case k4 => omega); k_whole); intro h'Z F'Z N'Z; (try k_sweep))))) | ((with_reducible show wpAny _ _ (pyIter (Value.ref _)) _ _ _); (k_here; refine stop_in ?_)) | ((with_reducible show wpAny _ _ (exec _ _) _ _ _); (first | ((with_reducible show wpAny _ _ (exec (Stmt.For (Expr.Name _ _) (Expr.Name _ _) _ _ _) _) _ _ _); (k_here; (rename Fr _ _ _ _ => lF'Z); (with_unfolding_all refine' For_invVF lF'Z ?k1 ?k2 ?_; (case k1 | k2 => exact rfl); k_whole))) | ((with_reducible show wpAny _ _ (exec (Stmt.If _ _ _ _) _) _ _ _); (k_here; refine wpAny_If ?_)))) | ((with_reducible show wpAny _ _ (truthy _) _ _ _); (first | ((with_reducible show wpAny _ _ (truthy (Value.ref _)) _ _ _); (k_here; k_dflt (first | (refine' truthy_nil ?k1 ?k2 ?_; (case k1 => k_asm); (case k2 => k_mem); k_whole) | (refine' truthy_snoc ?k1 ?k2 ?k3 ?_; (case k1 => k_asm); (case k2 => k_mem); (case k3 => omega); k_whole)))) | (k_here; (with_reducible show wpAny _ _ (truthy (Value.str _ _)) _ _ _); refine truthy_long (by assumption) (by omega) ?_; intro _))) | ((with_reducible show wpAny _ _ (execs _ _) _ _ _); (first | ((with_reducible show wpAny _ _ (execs [] _) _ _ _); (k_here; refine wpAny_execs_nil ?_)) | ((with_reducible show wpAny _ _ (execs (_ :: _) _) _ _ _); (k_here; (try dsimp only); (try k_fold); first | with_reducible refine execs_one ?_ | (refine execs_more ?_; intro qN8 hN8 hO8))))) | walk1 | ((with_reducible show wpAny _ _ _ _ _ _); dsimp only) | (leave1; walk_say "STEP leave1"; try dsimp only) | fail "no step")
        refine walk_end (k' := k3) (nn' := nn3) (tv' := tv3) (nv' := nv3) (walkF (lkC c) (n' + 1) TX (hereOf (names1 ++ [pc])) (depth + 1) ⟨startOf TX names1, l, told1 ++ [toldOf pc owner (1 + (sg (Txt.join (Str.ofString "") (PS.take (i + 1)))).count 10) depth names1]⟩) (add3 ++ ((TP, oT) :: add)) hoff (by assumption) (by assumption) (hi1.trans ((if_neg e0).trans (step_link (beq_eq_false_iff_ne.mp (by assumption)) (bne_iff_ne.mp (by assumption)) hk9 rfl))) rfl rfl w1 (by rw [List.append_assoc]; exact w2) ?zsa ?zsb (fun p hp => w6 p (List.mem_append.mpr (.inl hp))) (fun q hq => (List.mem_append.mp hq).elim (fun h => .inr fun p hp => (w4 q h p (.tail _ (.tail _ (inO p hp)))).symm) (tAo q)) (fun p hp => (List.mem_append.mp hp).elim (w3 p) (tA1 p)) (fun p hp q hq => (List.mem_append.mp hp).elim (fun h => w4 p h q (.tail _ (.tail _ (inR q hq)))) fun h => tA2 p h q hq) w5 (fun p hp => w6 p (List.mem_append.mpr (.inr hp))) ?zsc
        case zsa => exact (by (repeat' (first | exact nil_sub8 | ((refine sub_cons ?zqmm8 ?_); (case zqmm8 => repeat (first | exact List.mem_cons_self | refine List.mem_cons_of_mem _ ?_ | refine List.mem_append_right _ ?_))) | refine sub_app ?_ ?_)); all_goals (intro pZ hpZ; repeat (first | exact hpZ | exact inA pZ hpZ | exact inR pZ hpZ | exact inO pZ hpZ | exact List.mem_append_left _ hpZ | refine List.mem_cons_of_mem _ ?_ | refine List.mem_append_right _ ?_)))
        case zsb => exact (by (repeat' (first | exact nil_sub8 | ((refine sub_cons ?zqmm8 ?_); (case zqmm8 => repeat (first | exact List.mem_cons_self | refine List.mem_cons_of_mem _ ?_ | refine List.mem_append_right _ ?_))) | refine sub_app ?_ ?_)); all_goals (intro pZ hpZ; repeat (first | exact hpZ | exact inA pZ hpZ | exact inR pZ hpZ | exact inO pZ hpZ | exact List.mem_append_left _ hpZ | refine List.mem_cons_of_mem _ ?_ | refine List.mem_append_right _ ?_)))
        case zsc => intro z z1 z2; (repeat (first | with_reducible refine (if_neg z1).trans ?_ | ((with_reducible refine (if_neg (st_ne z2 ?zqst8)).trans ?_); (case zqst8 => decide +kernel)))); exact if_neg (st_sub z2 (by decide +kernel))
      · have e0 : ¬ sg pc = [] := fun h => beq_eq_false_iff_ne.mp (by assumption) ((empty_iff pc).mpr h)
        unfold Stop
        rename Fr _ _ _ _ => F6
        rename News _ _ _ (_ :: _) => N6
        rename lkC c _ = some _ => hk9
        rename Str.length _ ≤ 38 => hz9
        have hpos : 0 < left1 := by omega
        obtain ⟨l, rfl⟩ : ∃ l, left1 = l + 1 := ⟨left1 - 1, by omega⟩
        obtain ⟨n', rfl⟩ : ∃ n', n = n' + 1 := ⟨n - 1, by omega⟩
        obtain ⟨TX, hTX⟩ : ∃ TX, lkC c (hereOf (names1 ++ [pc])) = some TX := ⟨_, hk9⟩
        obtain rfl := Option.some.inj (hTX.symm.trans hk9)
        have N7 := N6
        refine named NM1 ?_
        intro NMX eNM
        subst eNM
        refine named nv1 ?_
        intro nv2 env2
        refine named nn1 ?_
        intro nn2 enn2
        subst env2
        subst enn2
        have hnv2 : StrsAre nv2 (startOf TX names1) := by rw [show startOf TX names1 = names1 from if_neg (fun h => beq_eq_false_iff_ne.mp (by assumption) ((slice_starts _).mpr h))]; exact hnv1
        have hnM : ∀ p ∈ own ++ R0, p.1 ≠ NMX := fun p hp => (List.mem_append.mp hp).elim (fun h => hoff p h _ (by repeat (first | exact List.mem_cons_self | refine List.mem_cons_of_mem _ ?_ | refine List.mem_append_right _ ?_))) (hn2 p)
        have hWI : WalkIn TD D NMX ((TP, oT) :: (PC, listOf pv.toArray 0) :: R2) (own ++ R0) ((TP, oT) :: (add ++ n₁)) := ⟨hW.td, hn1.symm, fun p hp => (List.mem_cons.mp hp).elim (fun e => by rw [e]; exact nTT) fun hp => (List.mem_cons.mp hp).elim (fun e => by rw [e]; exact hPD) (oR2 p), hnM, fun p hp => .tail _ (.tail _ ((List.mem_append.mp hp).elim (inO p) (in0 p))), fun p hp => (List.mem_cons.mp hp).elim (fun e => by rw [e]; exact List.Mem.head _) fun hp => .tail _ (.tail _ ((List.mem_append.mp hp).elim (inA p) fun h => inR p (hW.sub p h)))⟩
        have N8 : News _ _ _ ((TD, listOf (tv1 ++ [Value.ref TP]).toArray (k1 + 1)) :: (D, o) :: (NMX, listOf nv2.toArray nn2) :: ((TP, oT) :: (PC, listOf pv.toArray 0) :: R2)) := news_sub N7 (by (repeat' (first | exact nil_sub8 | ((refine sub_cons ?zqmm8 ?_); (case zqmm8 => repeat (first | exact List.mem_cons_self | refine List.mem_cons_of_mem _ ?_ | refine List.mem_append_right _ ?_))) | refine sub_app ?_ ?_)); all_goals (intro pZ hpZ; repeat (first | exact hpZ | exact List.mem_append_left _ hpZ | refine List.mem_cons_of_mem _ ?_ | refine List.mem_append_right _ ?_)))
        have hst2 := start_sum TX names1
        have hwt2 : wt ⟨startOf TX names1, l, told1 ++ [toldOf pc owner (1 + (sg (Txt.join (Str.ofString "") (PS.take (i + 1)))).count 10) depth names1]⟩ + 2 * (TX.length + 1) ≤ 20000 := by
          unfold wt at hwi ⊢
          dsimp only at hwi ⊢
          rw [List.length_append, List.length_cons, List.length_nil]
          omega
        refine' says_use (ih n' rfl TX (hereOf (names1 ++ [pc])) _ _ _ _ (depth + 1) _ _ ⟨startOf TX names1, l, told1 ++ [toldOf pc owner (1 + (sg (Txt.join (Str.ofString "") (PS.take (i + 1)))).count 10) depth names1]⟩ NMX TD nv2 (tv1 ++ [Value.ref TP]) nn2 (k1 + 1) ((TP, oT) :: (PC, listOf pv.toArray 0) :: R2) (own ++ R0) ((TP, oT) :: (add ++ n₁)) hnv2 hT2 hWI (by show l ≤ n'; omega) hwt2 (by omega) (by have := join_len2 (names1 ++ [pc]); rw [sum1] at this; simp only [List.map_append, List.sum_append, List.map_cons, List.map_nil, List.sum_cons, List.sum_nil, List.length_append, List.length_cons, List.length_nil] at this; omega) rfl (by show (((l + 1 : Nat) : Int) - 1) = (l : Int); omega)) ?k1 ?k2 ?k3 ?k4 ?k5 ?kK ?kd ?ku ?_
        tb_rel
        clear N6 N7 N8
        rintro r9 n9 h9 tk9 F9 N9 ⟨T9, NM2, nv3, nn3, tv3, k3, lt3, add3, e9, q9, w1, w2, w3, w4, w5, w6, w7⟩
        subst e9
        subst q9
        (try dsimp only)
        repeat' (first | (k_unfold; (try dsimp only)) | (k_end; (with_reducible refine hN8 _ _ ?_); intro kN8; clear hN8 hO8; (try clear qN8); first | with_reducible refine execs_one ?_ | (refine execs_more ?_; intro qN8 hN8 hO8)) | (k_end; (with_reducible refine hO8 _ _ ?zn8 ?_); (case zn8 => first | exact ne_ret _ | exact ne_brk | exact ne_cont); clear hN8 hO8; (try clear qN8)) | (k_end; wrow_close) | ((with_reducible show wpAny _ _ (binaryOp Operator.Add (Value.ref _) (Value.ref _)) _ _ _); (k_here; k_dflt (refine' cat_made ?zqF ?zqN ?zql ?zqb ?zqz ?_; (case zqF | zqN => k_asm); (case zql | zqb => k_mem); (case zqz => (simp only [List.length_append, List.length_cons, List.length_nil]; omega)); k_whole); intro D'Z h'Z F'Z N'Z l1Z; (try k_lt l1Z); (try k_sweep))) | ((with_reducible show wpAny _ _ (subscriptTail _ _ _ _) _ _ _); (first | (k_here; (with_reducible show wpAny _ _ (subscriptTail _ _ (Value.ref _) (Value.str _ _)) _ _ _); k_dflt (refine' links_item ?k1 ?k2 ?k3 ?k4 ?_ ?zqk6 ?zqk7; (case k1 => k_asm); (case k2 => k_mem); (case k3 | k4 => assumption); (case zqk6 => with_unfolding_all rfl); (case zqk7 => intro _; with_unfolding_all rfl); k_whole); intro u9Z) | (k_here; (with_reducible show wpAny _ _ (subscriptTail _ _ (Value.ref _) (Value.str _ _)) _ _ _); k_dflt (refine' links_itemI ?k1 ?k2 ?k3 ?k4 ?k5 ?_ ?zqk6 ?zqk7; (case k1 => k_asm); (case k2 => k_mem); (case k3 | k4 | k5 => assumption); (case zqk6 => with_unfolding_all rfl); (case zqk7 => intro _; with_unfolding_all rfl); k_whole); intro t9Z u9Z hk9Z hz9Z) | ((with_reducible show wpAny _ _ (subscriptTail (Expr.Name _ _) (Expr.Slice _ _ _ _) (Value.ref _) (Value.ref _)) _ _ _); (k_here; k_dflt (refine' slice_last ?zqF ?zqN ?zql ?zqz ?_ ?zqs ?zqt; (case zqF | zqN => k_asm); (case zql => k_mem); (case zqz => assumption); (case zqs => with_unfolding_all rfl); (case zqt => kmk_pure); k_whole); intro D'Z h'Z F'Z N'Z l1Z; (try k_lt l1Z); (try k_sweep))) | ((with_reducible show wpAny _ _ (subscriptTail (Expr.Name _ _) (Expr.Slice _ _ _ _) (Value.ref _) (Value.ref _)) _ _ _); (k_here; k_dflt (refine' slice_upto _ ?zqF ?zqN ?zql ?zqz ?zqy ?_ ?zqs ?zqt; (case zqF | zqN => k_asm); (case zql => k_mem); (case zqz => assumption); (case zqy => exact succ_int _); (case zqs => with_unfolding_all rfl); (case zqt => kmk_pure); k_whole); intro D'Z h'Z F'Z N'Z l1Z; (try k_lt l1Z); (try k_sweep))) | (k_here; (with_reducible show wpAny _ _ (subscriptTail _ _ (Value.ref _) (Value.int _ _)) _ _ _); k_dflt (refine' strs_at ?k1 ?k2 ?k3 ?k4 ?k5 ?_ ?zqk7; (case k1 => k_asm); (case k2 => k_mem); (case k3 | k4 | k5 => assumption); (case zqk7 => with_unfolding_all rfl); k_whole); intro t9Z) | (k_here; (with_reducible show wpAny _ _ (subscriptTail _ _ (Value.ref _) (Value.int (-1) _)) _ _ _); k_dflt (refine' item_last ?k1 ?k2 ?_ ?k4; (case k1 => k_asm); (case k2 => k_mem); (case k4 => with_unfolding_all rfl); k_whole)))) | ((with_reducible show wpAny _ _ (compareOp _ _ _) _ _ _); (first | ((with_reducible show wpAny _ _ (compareOp CmpOp.In (Value.str _ _) (Value.ref _)) _ _ _); (k_here; k_dflt (refine' links_inB ?k1 ?k2 ?k3 ?_; (case k1 => k_asm); (case k2 => k_mem); (case k3 => assumption); k_whole))) | ((with_reducible show wpAny _ _ (compareOp CmpOp.In (Value.str _ _) (Value.ref _)) _ _ _); (k_here; k_dflt (refine' links_in ?k1 ?k2 ?k3 ?k4 ?_; (case k1 => k_asm); (case k2 => k_mem); (case k3 | k4 => assumption); k_whole))) | (k_here; (with_reducible show wpAny _ _ (compareOp CmpOp.In (Value.str _ _) (Value.str _ _)) _ _ _); first | (refine in_known (b := false) (by assumption) ?_) | (refine in_known (b := true) (by assumption) ?_) | (refine in_known (b := false) (by decide +kernel) ?_) | (refine in_known (b := true) (by decide +kernel) ?_)))) | ((with_reducible show wpAny _ _ (call _ _ _) _ _ _); (first | ((with_reducible show wpAny _ _ (call (Value.builtin "list.append") _ _) _ _ _); (k_here; refine stop_in ?_)) | (k_here; (with_reducible show wpAny _ _ (call (Value.ref 883) _) _ _ _); refine stop_in ?_) | (k_here; (with_reducible show wpAny _ _ (call (Value.builtin "str.join") [Value.str _ _, Value.ref _]) _ _ _); k_dflt (refine' join_listW ?k1 ?k2 ?k3 ?k4 ?_; (case k1 => exact News.isList (by k_asm) (by k_mem)); (case k2 => first | assumption | exact StrsAre.append' (by assumption) (.cons _ _ .nil)); (case k3 => decide +kernel); (case k4 => first | assumption | omega | (simp only [List.map_append, List.sum_append, List.map_cons, List.map_nil, List.sum_cons, List.sum_nil, List.length_append, List.length_cons, List.length_nil]; omega)); k_whole); intro _ _) | (k_here; (with_reducible show wpAny _ _ (call (Value.builtin "len") [Value.ref _]) _ _ _); k_dflt (refine' len_made ?k1 ?k2 ?k3 ?_; (case k1 => k_asm); (case k2 => k_mem); (case k3 => omega); k_whole); intro t9Z tk9Z) | (k_here; (with_reducible show wpAny _ _ (call (Value.builtin "str.join") [Value.str _ _, Value.ref _]) _ _ _); k_dflt (refine' join_listW ?k1 ?k2 ?k3 ?k4 ?_; (case k1 => exact News.isList (by k_asm) (by k_mem)); (case k2 => assumption); (case k3 => decide +kernel); (case k4 => first | assumption | omega); k_whole); intro _ _) | ((with_reducible show wpAny _ _ (call (Value.builtin "list.append") _ _) _ _ _); (k_here; k_dflt (refine' append_snoc ?k1 ?k2 ?k3 ?k4 ?_; (case k1 | k2 => k_asm); (case k3 => k_upd); (case k4 => omega); k_whole); intro h'Z F'Z N'Z; (try k_sweep))))) | ((with_reducible show wpAny _ _ (pyIter (Value.ref _)) _ _ _); (k_here; refine stop_in ?_)) | ((with_reducible show wpAny _ _ (exec _ _) _ _ _); (first | ((with_reducible show wpAny _ _ (exec (Stmt.For (Expr.Name _ _) (Expr.Name _ _) _ _ _) _) _ _ _); (k_here; (rename Fr _ _ _ _ => lF'Z); (with_unfolding_all refine' For_invVF lF'Z ?k1 ?k2 ?_; (case k1 | k2 => exact rfl); k_whole))) | ((with_reducible show wpAny _ _ (exec (Stmt.If _ _ _ _) _) _ _ _); (k_here; refine wpAny_If ?_)))) | ((with_reducible show wpAny _ _ (truthy _) _ _ _); (first | ((with_reducible show wpAny _ _ (truthy (Value.ref _)) _ _ _); (k_here; k_dflt (first | (refine' truthy_nil ?k1 ?k2 ?_; (case k1 => k_asm); (case k2 => k_mem); k_whole) | (refine' truthy_snoc ?k1 ?k2 ?k3 ?_; (case k1 => k_asm); (case k2 => k_mem); (case k3 => omega); k_whole)))) | (k_here; (with_reducible show wpAny _ _ (truthy (Value.str _ _)) _ _ _); refine truthy_long (by assumption) (by omega) ?_; intro _))) | ((with_reducible show wpAny _ _ (execs _ _) _ _ _); (first | ((with_reducible show wpAny _ _ (execs [] _) _ _ _); (k_here; refine wpAny_execs_nil ?_)) | ((with_reducible show wpAny _ _ (execs (_ :: _) _) _ _ _); (k_here; (try dsimp only); (try k_fold); first | with_reducible refine execs_one ?_ | (refine execs_more ?_; intro qN8 hN8 hO8))))) | walk1 | ((with_reducible show wpAny _ _ _ _ _ _); dsimp only) | (leave1; walk_say "STEP leave1"; try dsimp only) | fail "no step")
        refine walk_end (k' := k3) (nn' := nn3) (tv' := tv3) (nv' := nv3) (walkF (lkC c) (n' + 1) TX (hereOf (names1 ++ [pc])) (depth + 1) ⟨startOf TX names1, l, told1 ++ [toldOf pc owner (1 + (sg (Txt.join (Str.ofString "") (PS.take (i + 1)))).count 10) depth names1]⟩) (add3 ++ ((TP, oT) :: add)) hoff (by assumption) (by assumption) (hi1.trans ((if_neg e0).trans (step_link (beq_eq_false_iff_ne.mp (by assumption)) (bne_iff_ne.mp (by assumption)) hk9 rfl))) rfl rfl w1 (by rw [List.append_assoc]; exact w2) ?zsa ?zsb (fun p hp => w6 p (List.mem_append.mpr (.inl hp))) (fun q hq => (List.mem_append.mp hq).elim (fun h => .inr fun p hp => (w4 q h p (.tail _ (.tail _ (inO p hp)))).symm) (tAo q)) (fun p hp => (List.mem_append.mp hp).elim (w3 p) (tA1 p)) (fun p hp q hq => (List.mem_append.mp hp).elim (fun h => w4 p h q (.tail _ (.tail _ (inR q hq)))) fun h => tA2 p h q hq) w5 (fun p hp => w6 p (List.mem_append.mpr (.inr hp))) ?zsc
        case zsa => exact (by (repeat' (first | exact nil_sub8 | ((refine sub_cons ?zqmm8 ?_); (case zqmm8 => repeat (first | exact List.mem_cons_self | refine List.mem_cons_of_mem _ ?_ | refine List.mem_append_right _ ?_))) | refine sub_app ?_ ?_)); all_goals (intro pZ hpZ; repeat (first | exact hpZ | exact inA pZ hpZ | exact inR pZ hpZ | exact inO pZ hpZ | exact List.mem_append_left _ hpZ | refine List.mem_cons_of_mem _ ?_ | refine List.mem_append_right _ ?_)))
        case zsb => exact (by (repeat' (first | exact nil_sub8 | ((refine sub_cons ?zqmm8 ?_); (case zqmm8 => repeat (first | exact List.mem_cons_self | refine List.mem_cons_of_mem _ ?_ | refine List.mem_append_right _ ?_))) | refine sub_app ?_ ?_)); all_goals (intro pZ hpZ; repeat (first | exact hpZ | exact inA pZ hpZ | exact inR pZ hpZ | exact inO pZ hpZ | exact List.mem_append_left _ hpZ | refine List.mem_cons_of_mem _ ?_ | refine List.mem_append_right _ ?_)))
        case zsc => intro z z1 z2; (repeat (first | with_reducible refine (if_neg z1).trans ?_ | ((with_reducible refine (if_neg (st_ne z2 ?zqst8)).trans ?_); (case zqst8 => decide +kernel)))); exact if_neg (st_sub z2 (by decide +kernel))
      · have e0 : ¬ sg pc = [] := fun h => beq_eq_false_iff_ne.mp (by assumption) ((empty_iff pc).mpr h)
        rename _ ∧ _ ∧ _ ∧ _ ∧ _ ∧ _ ∧ _ ∧ _ ∧ AllLt _ R2 => lD
        rename News _ _ _ (_ :: _) => N7
        refine news_vals N7 ?_
        intro nv2 env2
        have hnv2 : StrsAre nv2 (names1 ++ [pc]) := by rw [env2]; exact hnv1.append' (.cons _ _ .nil)
        rw [← env2] at N7
        refine walk_end (k' := k1 + 1) (nn' := 0) ⟨names1 ++ [pc], left1, _⟩ ((TP, oT) :: add) hoff (by assumption) N7 (hi1.trans ((if_neg e0).trans (step_name (beq_eq_false_iff_ne.mp (by assumption)) (bne_iff_ne.mp (by assumption)) (.inr (by show left1 = 0; omega))))) rfl rfl hnv2 hT2 ?zsa ?zsb (fun p hp => allLt_ne lD.2.2.2.2.2.2.2.2 p (inO p hp)) tAo tA1 tA2 (Nat.ne_of_gt lD.2.2.2.2.1) (fun p hp => allLt_ne lD.2.2.2.2.2.2.2.2 p (in0 p hp)) ?zsc
        case zsa => exact (by (repeat' (first | exact nil_sub8 | ((refine sub_cons ?zqmm8 ?_); (case zqmm8 => repeat (first | exact List.mem_cons_self | refine List.mem_cons_of_mem _ ?_ | refine List.mem_append_right _ ?_))) | refine sub_app ?_ ?_)); all_goals (intro pZ hpZ; repeat (first | exact hpZ | exact inA pZ hpZ | exact inR pZ hpZ | exact inO pZ hpZ | exact List.mem_append_left _ hpZ | refine List.mem_cons_of_mem _ ?_ | refine List.mem_append_right _ ?_)))
        case zsb => exact (by (repeat' (first | exact nil_sub8 | ((refine sub_cons ?zqmm8 ?_); (case zqmm8 => repeat (first | exact List.mem_cons_self | refine List.mem_cons_of_mem _ ?_ | refine List.mem_append_right _ ?_))) | refine sub_app ?_ ?_)); all_goals (intro pZ hpZ; repeat (first | exact hpZ | exact inA pZ hpZ | exact inR pZ hpZ | exact inO pZ hpZ | exact List.mem_append_left _ hpZ | refine List.mem_cons_of_mem _ ?_ | refine List.mem_append_right _ ?_)))
        case zsc => intro z z1 z2; (repeat (first | with_reducible refine (if_neg z1).trans ?_ | ((with_reducible refine (if_neg (st_ne z2 ?zqst8)).trans ?_); (case zqst8 => decide +kernel)))); exact if_neg (st_sub z2 (by decide +kernel))
      · have e0 : ¬ sg pc = [] := fun h => beq_eq_false_iff_ne.mp (by assumption) ((empty_iff pc).mpr h)
        rename _ ∧ _ ∧ _ ∧ _ ∧ _ ∧ _ ∧ _ ∧ _ ∧ AllLt _ R2 => lD
        rename News _ _ _ (_ :: _) => N7
        refine news_vals N7 ?_
        intro nv2 env2
        have hnv2 : StrsAre nv2 (names1 ++ [pc]) := by rw [env2]; exact hnv1.append' (.cons _ _ .nil)
        rw [← env2] at N7
        refine walk_end (k' := k1 + 1) (nn' := 0) ⟨names1 ++ [pc], left1, _⟩ ((TP, oT) :: add) hoff (by assumption) N7 (hi1.trans ((if_neg e0).trans (step_name (beq_eq_false_iff_ne.mp (by assumption)) (bne_iff_ne.mp (by assumption)) (.inl (Option.isSome_eq_false_iff.mp (by assumption) |> Option.isNone_iff_eq_none.mp))))) rfl rfl hnv2 hT2 ?zsa ?zsb (fun p hp => allLt_ne lD.2.2.2.2.2.2.2.2 p (inO p hp)) tAo tA1 tA2 (Nat.ne_of_gt lD.2.2.2.2.1) (fun p hp => allLt_ne lD.2.2.2.2.2.2.2.2 p (in0 p hp)) ?zsc
        case zsa => exact (by (repeat' (first | exact nil_sub8 | ((refine sub_cons ?zqmm8 ?_); (case zqmm8 => repeat (first | exact List.mem_cons_self | refine List.mem_cons_of_mem _ ?_ | refine List.mem_append_right _ ?_))) | refine sub_app ?_ ?_)); all_goals (intro pZ hpZ; repeat (first | exact hpZ | exact inA pZ hpZ | exact inR pZ hpZ | exact inO pZ hpZ | exact List.mem_append_left _ hpZ | refine List.mem_cons_of_mem _ ?_ | refine List.mem_append_right _ ?_)))
        case zsb => exact (by (repeat' (first | exact nil_sub8 | ((refine sub_cons ?zqmm8 ?_); (case zqmm8 => repeat (first | exact List.mem_cons_self | refine List.mem_cons_of_mem _ ?_ | refine List.mem_append_right _ ?_))) | refine sub_app ?_ ?_)); all_goals (intro pZ hpZ; repeat (first | exact hpZ | exact inA pZ hpZ | exact inR pZ hpZ | exact inO pZ hpZ | exact List.mem_append_left _ hpZ | refine List.mem_cons_of_mem _ ?_ | refine List.mem_append_right _ ?_)))
        case zsc => intro z z1 z2; (repeat (first | with_reducible refine (if_neg z1).trans ?_ | ((with_reducible refine (if_neg (st_ne z2 ?zqst8)).trans ?_); (case zqst8 => decide +kernel)))); exact if_neg (st_sub z2 (by decide +kernel))
      · have e0 : ¬ sg pc = [] := fun h => beq_eq_false_iff_ne.mp (by assumption) ((empty_iff pc).mpr h)
        refine walk_end (k' := k1 + 1) (nn' := nn1) ⟨names1, left1, _⟩ ((TP, oT) :: add) hoff (by assumption) (by assumption) (hi1.trans ((if_neg e0).trans (step_dot (bne_eq_false_iff_eq.mp (by assumption))))) rfl rfl hnv1 hT2 ?zsa ?zsb (fun p hp => hoff p hp _ (by repeat (first | exact List.mem_cons_self | refine List.mem_cons_of_mem _ ?_ | refine List.mem_append_right _ ?_))) tAo tA1 tA2 hn1 hn2 ?zsc
        case zsa => exact (by (repeat' (first | exact nil_sub8 | ((refine sub_cons ?zqmm8 ?_); (case zqmm8 => repeat (first | exact List.mem_cons_self | refine List.mem_cons_of_mem _ ?_ | refine List.mem_append_right _ ?_))) | refine sub_app ?_ ?_)); all_goals (intro pZ hpZ; repeat (first | exact hpZ | exact inA pZ hpZ | exact inR pZ hpZ | exact inO pZ hpZ | exact List.mem_append_left _ hpZ | refine List.mem_cons_of_mem _ ?_ | refine List.mem_append_right _ ?_)))
        case zsb => exact (by (repeat' (first | exact nil_sub8 | ((refine sub_cons ?zqmm8 ?_); (case zqmm8 => repeat (first | exact List.mem_cons_self | refine List.mem_cons_of_mem _ ?_ | refine List.mem_append_right _ ?_))) | refine sub_app ?_ ?_)); all_goals (intro pZ hpZ; repeat (first | exact hpZ | exact inA pZ hpZ | exact inR pZ hpZ | exact inO pZ hpZ | exact List.mem_append_left _ hpZ | refine List.mem_cons_of_mem _ ?_ | refine List.mem_append_right _ ?_)))
        case zsc => intro z z1 z2; (repeat (first | with_reducible refine (if_neg z1).trans ?_ | ((with_reducible refine (if_neg (st_ne z2 ?zqst8)).trans ?_); (case zqst8 => decide +kernel)))); exact if_neg (st_sub z2 (by decide +kernel))
  case done =>
    rintro m₁ nx h tk ⟨NM1, nv1, nn1, tv1, k1, lt1, add, rfl, hnm, hlfm, hnv1, htv1, ha1, ha2, hn1, hn2⟩ hm F2 N2
    dsimp only at hlfm hnv1 htv1
    have hall : atPiece (wStep (lkC c) (walkF (lkC c) n) owner depth) PS PS.length st = walkF (lkC c) (n + 1) text owner depth st := by rw [hPS]; exact atPiece_all _ _ _
    rw [hall] at hlfm hnv1 htv1
    have F3 := kst_frOut (ps := [(Str.ofString "names", Value.ref NM1), (Str.ofString "left", Value.int ((walkF (lkC c) (n + 1) text owner depth st).left : Int) lt1)]) (stored := [Str.ofString "word", Str.ofString "line", Str.ofString "place", Str.ofString "start"]) (fun p hq => by
      rcases List.mem_cons.mp hq with rfl | hq
      · exact hnm
      · rw [List.mem_singleton.mp hq]; exact hlfm) (fun z z1 z2 z3 => hm z z1 (st_more (a := Str.ofString "names") (b := Str.ofString "left") (z2 _ (.head _)) (z2 _ (.tail _ (.head _))) z3 (by decide +kernel))) F2
    clear F2
    dsimp only [kstB] at F3
    refine named (add ++ R) ?_
    intro R2 hR2
    rw [← hR2] at N2
    repeat' (first | (k_unfold; (try dsimp only)) | (k_end; (with_reducible refine hN8 _ _ ?_); intro kN8; clear hN8 hO8; (try clear qN8); first | with_reducible refine execs_one ?_ | (refine execs_more ?_; intro qN8 hN8 hO8)) | (k_end; (with_reducible refine hO8 _ _ ?zn8 ?_); (case zn8 => first | exact ne_ret _ | exact ne_brk | exact ne_cont); clear hN8 hO8; (try clear qN8)) | (k_end; wrow_close) | ((with_reducible show wpAny _ _ (binaryOp Operator.Add (Value.ref _) (Value.ref _)) _ _ _); (k_here; k_dflt (refine' cat_made ?zqF ?zqN ?zql ?zqb ?zqz ?_; (case zqF | zqN => k_asm); (case zql | zqb => k_mem); (case zqz => (simp only [List.length_append, List.length_cons, List.length_nil]; omega)); k_whole); intro D'Z h'Z F'Z N'Z l1Z; (try k_lt l1Z); (try k_sweep))) | ((with_reducible show wpAny _ _ (subscriptTail _ _ _ _) _ _ _); (first | (k_here; (with_reducible show wpAny _ _ (subscriptTail _ _ (Value.ref _) (Value.str _ _)) _ _ _); k_dflt (refine' links_item ?k1 ?k2 ?k3 ?k4 ?_ ?zqk6 ?zqk7; (case k1 => k_asm); (case k2 => k_mem); (case k3 | k4 => assumption); (case zqk6 => with_unfolding_all rfl); (case zqk7 => intro _; with_unfolding_all rfl); k_whole); intro u9Z) | (k_here; (with_reducible show wpAny _ _ (subscriptTail _ _ (Value.ref _) (Value.str _ _)) _ _ _); k_dflt (refine' links_itemI ?k1 ?k2 ?k3 ?k4 ?k5 ?_ ?zqk6 ?zqk7; (case k1 => k_asm); (case k2 => k_mem); (case k3 | k4 | k5 => assumption); (case zqk6 => with_unfolding_all rfl); (case zqk7 => intro _; with_unfolding_all rfl); k_whole); intro t9Z u9Z hk9Z hz9Z) | ((with_reducible show wpAny _ _ (subscriptTail (Expr.Name _ _) (Expr.Slice _ _ _ _) (Value.ref _) (Value.ref _)) _ _ _); (k_here; k_dflt (refine' slice_last ?zqF ?zqN ?zql ?zqz ?_ ?zqs ?zqt; (case zqF | zqN => k_asm); (case zql => k_mem); (case zqz => assumption); (case zqs => with_unfolding_all rfl); (case zqt => kmk_pure); k_whole); intro D'Z h'Z F'Z N'Z l1Z; (try k_lt l1Z); (try k_sweep))) | ((with_reducible show wpAny _ _ (subscriptTail (Expr.Name _ _) (Expr.Slice _ _ _ _) (Value.ref _) (Value.ref _)) _ _ _); (k_here; k_dflt (refine' slice_upto _ ?zqF ?zqN ?zql ?zqz ?zqy ?_ ?zqs ?zqt; (case zqF | zqN => k_asm); (case zql => k_mem); (case zqz => assumption); (case zqy => exact succ_int _); (case zqs => with_unfolding_all rfl); (case zqt => kmk_pure); k_whole); intro D'Z h'Z F'Z N'Z l1Z; (try k_lt l1Z); (try k_sweep))) | (k_here; (with_reducible show wpAny _ _ (subscriptTail _ _ (Value.ref _) (Value.int _ _)) _ _ _); k_dflt (refine' strs_at ?k1 ?k2 ?k3 ?k4 ?k5 ?_ ?zqk7; (case k1 => k_asm); (case k2 => k_mem); (case k3 | k4 | k5 => assumption); (case zqk7 => with_unfolding_all rfl); k_whole); intro t9Z) | (k_here; (with_reducible show wpAny _ _ (subscriptTail _ _ (Value.ref _) (Value.int (-1) _)) _ _ _); k_dflt (refine' item_last ?k1 ?k2 ?_ ?k4; (case k1 => k_asm); (case k2 => k_mem); (case k4 => with_unfolding_all rfl); k_whole)))) | ((with_reducible show wpAny _ _ (compareOp _ _ _) _ _ _); (first | ((with_reducible show wpAny _ _ (compareOp CmpOp.In (Value.str _ _) (Value.ref _)) _ _ _); (k_here; k_dflt (refine' links_inB ?k1 ?k2 ?k3 ?_; (case k1 => k_asm); (case k2 => k_mem); (case k3 => assumption); k_whole))) | ((with_reducible show wpAny _ _ (compareOp CmpOp.In (Value.str _ _) (Value.ref _)) _ _ _); (k_here; k_dflt (refine' links_in ?k1 ?k2 ?k3 ?k4 ?_; (case k1 => k_asm); (case k2 => k_mem); (case k3 | k4 => assumption); k_whole))) | (k_here; (with_reducible show wpAny _ _ (compareOp CmpOp.In (Value.str _ _) (Value.str _ _)) _ _ _); first | (refine in_known (b := false) (by assumption) ?_) | (refine in_known (b := true) (by assumption) ?_) | (refine in_known (b := false) (by decide +kernel) ?_) | (refine in_known (b := true) (by decide +kernel) ?_)))) | ((with_reducible show wpAny _ _ (call _ _ _) _ _ _); (first | ((with_reducible show wpAny _ _ (call (Value.builtin "list.append") _ _) _ _ _); (k_here; refine stop_in ?_)) | (k_here; (with_reducible show wpAny _ _ (call (Value.ref 883) _) _ _ _); refine stop_in ?_) | (k_here; (with_reducible show wpAny _ _ (call (Value.builtin "str.join") [Value.str _ _, Value.ref _]) _ _ _); k_dflt (refine' join_listW ?k1 ?k2 ?k3 ?k4 ?_; (case k1 => exact News.isList (by k_asm) (by k_mem)); (case k2 => first | assumption | exact StrsAre.append' (by assumption) (.cons _ _ .nil)); (case k3 => decide +kernel); (case k4 => first | assumption | omega | (simp only [List.map_append, List.sum_append, List.map_cons, List.map_nil, List.sum_cons, List.sum_nil, List.length_append, List.length_cons, List.length_nil]; omega)); k_whole); intro _ _) | (k_here; (with_reducible show wpAny _ _ (call (Value.builtin "len") [Value.ref _]) _ _ _); k_dflt (refine' len_made ?k1 ?k2 ?k3 ?_; (case k1 => k_asm); (case k2 => k_mem); (case k3 => omega); k_whole); intro t9Z tk9Z) | (k_here; (with_reducible show wpAny _ _ (call (Value.builtin "str.join") [Value.str _ _, Value.ref _]) _ _ _); k_dflt (refine' join_listW ?k1 ?k2 ?k3 ?k4 ?_; (case k1 => exact News.isList (by k_asm) (by k_mem)); (case k2 => assumption); (case k3 => decide +kernel); (case k4 => first | assumption | omega); k_whole); intro _ _) | ((with_reducible show wpAny _ _ (call (Value.builtin "list.append") _ _) _ _ _); (k_here; k_dflt (refine' append_snoc ?k1 ?k2 ?k3 ?k4 ?_; (case k1 | k2 => k_asm); (case k3 => k_upd); (case k4 => omega); k_whole); intro h'Z F'Z N'Z; (try k_sweep))))) | ((with_reducible show wpAny _ _ (pyIter (Value.ref _)) _ _ _); (k_here; refine stop_in ?_)) | ((with_reducible show wpAny _ _ (exec _ _) _ _ _); (first | ((with_reducible show wpAny _ _ (exec (Stmt.For (Expr.Name _ _) (Expr.Name _ _) _ _ _) _) _ _ _); (k_here; (rename Fr _ _ _ _ => lF'Z); (with_unfolding_all refine' For_invVF lF'Z ?k1 ?k2 ?_; (case k1 | k2 => exact rfl); k_whole))) | ((with_reducible show wpAny _ _ (exec (Stmt.If _ _ _ _) _) _ _ _); (k_here; refine wpAny_If ?_)))) | ((with_reducible show wpAny _ _ (truthy _) _ _ _); (first | ((with_reducible show wpAny _ _ (truthy (Value.ref _)) _ _ _); (k_here; k_dflt (first | (refine' truthy_nil ?k1 ?k2 ?_; (case k1 => k_asm); (case k2 => k_mem); k_whole) | (refine' truthy_snoc ?k1 ?k2 ?k3 ?_; (case k1 => k_asm); (case k2 => k_mem); (case k3 => omega); k_whole)))) | (k_here; (with_reducible show wpAny _ _ (truthy (Value.str _ _)) _ _ _); refine truthy_long (by assumption) (by omega) ?_; intro _))) | ((with_reducible show wpAny _ _ (execs _ _) _ _ _); (first | ((with_reducible show wpAny _ _ (execs [] _) _ _ _); (k_here; refine wpAny_execs_nil ?_)) | ((with_reducible show wpAny _ _ (execs (_ :: _) _) _ _ _); (k_here; (try dsimp only); (try k_fold); first | with_reducible refine execs_one ?_ | (refine execs_more ?_; intro qN8 hN8 hO8))))) | walk1 | ((with_reducible show wpAny _ _ _ _ _ _); dsimp only) | (leave1; walk_say "STEP leave1"; try dsimp only) | fail "no step")
    rename _ ∧ _ ∧ _ ∧ _ ∧ AllLt _ R2 => lT
    exact hret _ _ _ _ (by assumption) (news_sub (by assumption) (walk_sub2 _)) ⟨_, NM1, nv1, nn1, tv1, k1, _, add, by rw [← hR2], rfl, hnv1, htv1, ha1, ha2, hn1, hn2, Nat.ne_of_gt lT.1⟩
theorem walk_says (w : World) (D : Addr) (o : Obj) (c : List (Str × Str)) (K : IsLinks w D o c) (hl : LkOk (lkC c)) : ∀ n, WalkSays w D o (lkC c) n
  | 0 => walk_zero w D o c K hl 0 (fun k hk => absurd hk (Nat.succ_ne_zero k))
  | n + 1 => walk_zero w D o c K hl (n + 1) (fun k hk => by rw [Nat.succ.inj hk]; exact walk_says w D o c K hl n)
end P20
section P21
theorem off21 : True := by
  w_top off
  trivial
theorem ki_setL_snoc (x y : Value) : ∀ vs : List Value, ki_setL (vs ++ [x]) vs.length y = some (vs ++ [y])
  | [] => rfl
  | a :: vs => by
    have ih := ki_setL_snoc x y vs
    show (match ki_setL (vs ++ [x]) vs.length y with | some q => some (a :: q) | none => none) = _
    rw [ih]; rfl
theorem set_last {prog : Program} {w : World} {A : Around} {E : Value → Shared → Prop} {s : Shared} {h₀ : Heap} {L D : Addr} {m : Str → Option Value} {news news' : Led} {vs : List Value} {x y : Value} {t : Tok} {n : Nat} {Q : Unit → Shared → Prop} (F : Fr h₀ L s.heap m) (N : News h₀ L s.heap news) (U : Upd D (listOf (vs ++ [x]).toArray n) (listOf (vs ++ [y]).toArray n) news news')
    (h : ∀ h', Fr h₀ L h' m → News h₀ L h' news' → Q () { s with heap := h' }) : wpAny (model prog w) A (setItem (.ref D) (.int (-1) t) y) Q E s := by
  refine ki_setNeg (j := vs.length) F N (by decide) (by decide) ?_ (by simpa using ki_setL_snoc x y vs) U h
  rw [PySem.seqIndex_neg (by decide) (by simp; omega)]
  congr 1
  simp
  omega
/-- a middle point behind a statement: the frame is said too -/
noncomputable def MidM (g : Heap) (L : Addr) (s : Shared) (V : (Str → Option Value) → Led → Prop) (fl : Flow) (s₂ : Shared) : Prop := fl = .next ∧ ∃ h2 tk2 m2 led, s₂ = { s with heap := h2, toks := tk2 } ∧ Fr g L h2 m2 ∧ News g L h2 led ∧ V m2 led
theorem midM_in {g : Heap} {L : Addr} {s : Shared} {V : (Str → Option Value) → Led → Prop} {h2 : Heap} {tk2 : Nat} {m2 : Str → Option Value} (led : Led) (F : Fr g L h2 m2) (N : News g L h2 led) (v : V m2 led) : MidM g L s V .next { s with heap := h2, toks := tk2 } := ⟨rfl, h2, tk2, m2, led, rfl, F, N, v⟩
theorem midM_point {M : Model} {A : Around} {t : Sem Flow} {Q : Flow → Shared → Prop} {E : Value → Shared → Prop} {s : Shared} {g : Heap} {L : Addr} {m : Str → Option Value} (V : (Str → Option Value) → Led → Prop) (_ : Fr g L s.heap m)
    (h1 : wpAny M A t (MidM g L s V) E s)
    (h2 : ∀ h tk m2 led, Fr g L h m2 → News g L h led → V m2 led → Q .next { s with heap := h, toks := tk }) : wpAny M A t Q E s :=
  wpAny_mono h1 (fun fl s₂ ⟨e1, h, tk, m2, led, e, F, N, v⟩ => e1 ▸ e ▸ h2 h tk m2 led F N v) (fun _ _ x => x)
/-- a frame where three names are known -/
noncomputable def kst3 (here left : Value) (m : Str → Option Value) : Str → Option Value := fun z => if z = Str.ofString "here" then some here else if z = Str.ofString "left" then some left else m z
theorem kst3_of {a b : Value} {m1 m : Str → Option Value} (h1 : m1 (Str.ofString "here") = some a) (h2 : m1 (Str.ofString "left") = some b) (h3 : ∀ z, z ≠ Str.ofString "here" → z ≠ Str.ofString "left" → m1 z = m z) : m1 = kst3 a b m := by
  funext z
  unfold kst3
  by_cases q1 : z = Str.ofString "here"
  · rw [if_pos q1, q1, h1]
  · by_cases q2 : z = Str.ofString "left"
    · rw [if_neg q1, if_pos q2, q2, h2]
    · rw [if_neg q1, if_neg q2, h3 z q1 q2]
section
variable {w : World} {X D S : Addr} {c : LexC} {inf : Str} {ti ts tl tt : Tok} {line : Int} {st : Value} {tok : Str} {news : Led}
    {dp un : Nat} {gd : Option (List Code)} {cn : Str} {cs : Scope} {a : Addr} {ccd : Value} {cl : List (Str × Addr)} {outer : List Env} {A₀ : Around} {base h₀ : Heap} {L : Addr} {m : Str → Option Value} {s : Shared}
    {p : Program} {loose : List Str} {mean : ExcName → Option Value} {mg mb : Str → Option Value} {Q E : Value → Shared → Prop}
theorem lead_use (hX : (X, instObj 722 D) ∈ news) (hD : (D, lexD w c S inf ti st line tl tok tt) ∈ news) (hi : inf.length ≤ 100000) (h0 : 0 ≤ line) (h1 : line ≤ 1000000)
    (B : Below A₀ base outer h₀) (F : Fr h₀ L s.heap m) (KX : (hd.heap_39 w.params).In h₀) (N : News h₀ L s.heap news) (T : Top p loose mean mg mb h₀) (hk : cs.kind = .function) (hd : dp + 20 < recursionLimit) (hu : un + 8 * 20 < cLine)
    (ret : ∀ t h' tk', Fr h₀ L h' m → News h₀ L h' news → Q (.str (leadS inf line) t) { s with heap := h', toks := tk' }) :
    wpAny (model PySem.Challenge.rw_kl0188_01.row.prog w) (ktrTop dp un gd cn cs L a ccd cl outer) (call (.ref 705) [.ref X] []) Q E s := by
  have NN : News h₀ L s.heap ((X, instObj 722 D) :: (D, lexD w c S inf ti st line tl tok tt) :: news) := fun z hz => by
    rcases List.mem_cons.mp hz with rfl | hz
    · exact N _ hX
    · rcases List.mem_cons.mp hz with rfl | hz
      · exact N _ hD
      · exact N z hz
  refine says_pure (lead_says w X D S c inf ti ti tl tt line st tok news hi h0 h1) B F KX NN T hk hd hu ?_
  intro t h' tk' F' N'
  exact ret t h' tk' F' (news_sub N' fun z hz => .tail _ (.tail _ hz))
end
/-- the reader's frame without its addresses -/
noncomputable def pf (f : Fm) : PF := ⟨f.inf, f.left, f.line.toNat⟩
noncomputable def pfs (f : Fm) (stk : List (Addr × Fm)) : List PF := pf f :: stk.map fun p => pf p.2
theorem next_lex {wd rest : List Nat} {g : Fm} {stk' : List (Addr × Fm)} : ∀ {stk : List (Addr × Fm)} {f : Fm}, nextTok f stk = some (wd, rest, g, stk') → lexGo [] g.left = some (wd, rest) ∧ nextP (pfs f stk) = some (wd, ⟨g.inf, rest, g.line.toNat + wd.count 10⟩, stk'.map fun p => pf p.2) ∧ ((g = f ∧ stk' = stk) ∨ ∃ pre T, stk = pre ++ (T, g) :: stk')
  | [], f, h => by
    unfold nextTok at h
    cases hg : lexGo [] f.left with
    | none => rw [hg] at h; cases h
    | some wr =>
      rw [hg] at h
      obtain ⟨w1, r1⟩ := wr
      simp only [Option.some.injEq, Prod.mk.injEq] at h
      obtain ⟨rfl, rfl, rfl, rfl⟩ := h
      refine ⟨hg, ?_, .inl ⟨rfl, rfl⟩⟩
      show (match lexGo [] f.left with | some p => _ | none => _) = _
      rw [hg]; rfl
  | (T, g0) :: r, f, h => by
    unfold nextTok at h
    cases hg : lexGo [] f.left with
    | none =>
      rw [hg] at h
      obtain ⟨h1, h2, h3⟩ := next_lex h
      refine ⟨h1, ?_, .inr ?_⟩
      · show (match lexGo [] f.left with | some p => _ | none => _) = _
        rw [hg]; exact h2
      · rcases h3 with ⟨rfl, rfl⟩ | ⟨pre, T', rfl⟩
        · exact ⟨[], T, rfl⟩
        · exact ⟨(T, g0) :: pre, T', rfl⟩
    | some wr =>
      rw [hg] at h
      obtain ⟨w1, r1⟩ := wr
      simp only [Option.some.injEq, Prod.mk.injEq] at h
      obtain ⟨rfl, rfl, rfl, rfl⟩ := h
      refine ⟨hg, ?_, .inl ⟨rfl, rfl⟩⟩
      show (match lexGo [] f.left with | some p => _ | none => _) = _
      rw [hg]; rfl
theorem next_none : ∀ {stk : List (Addr × Fm)} {f : Fm}, nextTok f stk = none → nextP (pfs f stk) = none
  | [], f, h => by
    unfold nextTok at h
    cases hg : lexGo [] f.left with
    | some wr => rw [hg] at h; cases h
    | none => show (match lexGo [] f.left with | some p => _ | none => _) = _; rw [hg]; rfl
  | (T, g0) :: r, f, h => by
    unfold nextTok at h
    cases hg : lexGo [] f.left with
    | some wr => rw [hg] at h; cases h
    | none =>
      rw [hg] at h
      show (match lexGo [] f.left with | some p => _ | none => _) = _
      rw [hg]; exact next_none h
theorem stkAdr_app : ∀ (a b : List (Addr × Fm)), stkAdr (a ++ b) = stkAdr a ++ stkAdr b
  | [], _ => rfl
  | (T, f) :: a, b => by simp only [List.cons_append, stkAdr, stkAdr_app a b]
structure FsOk (f : Fm) (stk : List (Addr × Fm)) : Prop where
  one : f.Ok ∧ 0 ≤ f.line
  all : ∀ p ∈ stk, p.2.Ok ∧ 0 ≤ p.2.line
theorem next_state {wd rest : List Nat} {g f : Fm} {stk' stk : List (Addr × Fm)} {X D : Addr} {c : LexC} {R : Led} (h : nextTok f stk = some (wd, rest, g, stk')) (ok : FsOk f stk) (ap : Apart X D c f stk R) {k' : Nat} {tp tl : Tok} (hk : k' ≤ g.buf.length) (hr : g.buf.cps.toList.drop k' = rest) :
    FsOk { g with k := k', tp := tp, line := g.line + (wd.count 10 : Nat), tl := tl } stk' ∧ Apart X D c { g with k := k', tp := tp, line := g.line + (wd.count 10 : Nat), tl := tl } stk' R ∧
      nextP (pfs f stk) = some (wd, pf { g with k := k', tp := tp, line := g.line + (wd.count 10 : Nat), tl := tl }, stk'.map fun p => pf p.2) ∧ stk'.length ≤ stk.length := by
  obtain ⟨h1, h2, h3⟩ := next_lex h
  have hg : g.Ok ∧ 0 ≤ g.line := by
    rcases h3 with ⟨rfl, rfl⟩ | ⟨pre, T, rfl⟩
    · exact ok.one
    · exact ok.all (T, g) (by simp)
  have hs : ∀ p ∈ stk', p ∈ stk := by
    rcases h3 with ⟨rfl, rfl⟩ | ⟨pre, T, rfl⟩
    · exact fun p hp => hp
    · exact fun p hp => List.mem_append.mpr (.inr (.tail _ hp))
  have hE := (lex_good _ _ (by simp) h1).2.2.2.2.2 hg.1.2.2
  have hsub : (c.fs :: c.pb :: X :: D :: g.S :: g.DS :: stkAdr stk').Sublist (c.fs :: c.pb :: X :: D :: f.S :: f.DS :: stkAdr stk) := by
    rcases h3 with ⟨rfl, rfl⟩ | ⟨pre, T, rfl⟩
    · exact List.Sublist.refl _
    · refine .cons₂ _ (.cons₂ _ (.cons₂ _ (.cons₂ _ ?_)))
      rw [stkAdr_app]
      refine .cons _ (.cons _ ?_)
      refine List.Sublist.trans ?_ (List.sublist_append_right _ _)
      exact .cons _ (List.Sublist.refl _)
  refine ⟨⟨⟨⟨hk, hg.1.2.1, by show EndsOk (g.buf.cps.toList.drop k'); rw [hr]; exact hE⟩, by show 0 ≤ g.line + _; have := hg.2; omega⟩, fun p hp => ok.all p (hs p hp)⟩, ⟨ap.nd.sublist hsub, fun p hp hm => ap.off p hp (hsub.subset hm)⟩, ?_, ?_⟩
  · rw [h2]
    congr 3
    · unfold pf Fm.left
      congr 1
      · exact hr.symm
      · show _ = (g.line + _).toNat
        have := hg.2
        omega
  · rcases h3 with ⟨rfl, rfl⟩ | ⟨pre, T, rfl⟩
    · exact Nat.le_refl _
    · simp; omega
section
variable {w : World} {X D : Addr} {c : LexC} {f : Fm} {stk : List (Addr × Fm)} {ts tt : Tok} {q : Int} {R : Led}
    {dp un : Nat} {gd : Option (List Code)} {cn : Str} {cs : Scope} {a : Addr} {ccd : Value} {cl : List (Str × Addr)} {outer : List Env} {A₀ : Around} {base h₀ : Heap} {L : Addr} {m : Str → Option Value} {s : Shared}
    {p : Program} {loose : List Str} {mean : ExcName → Option Value} {mg mb : Str → Option Value} {Q E : Value → Shared → Prop}
theorem get_use (ok : FsOk f stk) (ap : Apart X D c f stk R) (hl : stk.length ≤ 20)
    (B : Below A₀ base outer h₀) (F : Fr h₀ L s.heap m) (KX : (hd.heap_39 w.params).In h₀) (N : News h₀ L s.heap (getLed w X D c f (.str (Str.ofString " ") ts) tt q stk R)) (T : Top p loose mean mg mb h₀) (hk : cs.kind = .function) (hd : dp + 310 < recursionLimit) (hu : un + 8 * 310 < cLine)
    (rnone : ∀ h' tk', nextTok f stk = none → Fr h₀ L h' m → News h₀ L h' R → Q .none { s with heap := h', toks := tk' })
    (rsome : ∀ wd rest g stk' k' t ts tl tt tp q' h' tk', nextTok f stk = some (wd, rest, g, stk') → k' ≤ g.buf.length → g.buf.cps.toList.drop k' = rest → Fr h₀ L h' m →
      News h₀ L h' (getLed w X D c { g with k := k', tp := tp, line := g.line + (wd.count 10 : Nat), tl := tl } (.str (Str.ofString " ") ts) tt q' stk' R) → Q (.str ⟨wd.toArray⟩ t) { s with heap := h', toks := tk' }) :
    wpAny (model PySem.Challenge.rw_kl0188_01.row.prog w) (ktrTop dp un gd cn cs L a ccd cl outer) (call (.ref 683) [.ref X] []) Q E s := by
  refine says_use (get_says w X D c R stk f ts tt q ok.one.1 (fun z hz => (ok.all z hz).1) ap hl) B F KX N T hk (by omega) (by omega) ?_
  intro r news' h' tk' F' N' hp
  unfold GetPost at hp
  cases hg : nextTok f stk with
  | none =>
    rw [hg] at hp
    obtain ⟨rfl, _, _, _, _, _, _, _, rfl⟩ := hp
    exact rnone h' tk' hg F' (news_sub N' fun z hz => .tail _ (.tail _ (.tail _ hz)))
  | some x =>
    obtain ⟨wd, rest, g, stk'⟩ := x
    rw [hg] at hp
    obtain ⟨k', t, ts', tl', tt', tp', q', rfl, h1, h2, rfl⟩ := hp
    exact rsome wd rest g stk' k' t ts' tl' tt' tp' q' h' tk' hg h1 h2 F' N'
end
structure RSt where
  f : Fm
  stk : List (Addr × Fm)
  ts : Tok
  tt : Tok
  q : Int
  st : WSt
  row : List Str
  tv : List Value
  rv : List Value
  tn : Nat
  rn : Nat
  th : Tok
  tl : Tok
  add : Led
  pend : Option (List Nat)
  tw : Tok
noncomputable abbrev rBase (TD RW D0 : Addr) (o : Obj) (R : Led) (tv rv : List Value) (tn rn : Nat) (add : Led) : Led := (TD, listOf tv.toArray tn) :: (RW, listOf rv.toArray rn) :: (D0, o) :: (add ++ R)
noncomputable def rLed (w : World) (X D TD RW D0 : Addr) (c : LexC) (o : Obj) (R : Led) (q : RSt) : Led := match q.pend with
  | none => rBase TD RW D0 o R q.tv q.rv q.tn q.rn q.add
  | some _ => getLed w X D c q.f (.str (Str.ofString " ") q.ts) q.tt q.q q.stk (rBase TD RW D0 o R q.tv q.rv q.tn q.rn q.add)
noncomputable def rWord (q : RSt) : Value := match q.pend with
  | none => .none
  | some wd => .str ⟨wd.toArray⟩ q.tw
structure ROk (lk : Str → Option Str) (FIN : WSt) (TD RW D0 : Addr) (o : Obj) (R : Led) (st : WSt) (row : List Str) (tv rv : List Value) (add : Led) : Prop where
  rows : StrsAre rv row
  told : DatAll add tv st.told
  off : ∀ p ∈ (D0, o) :: (add ++ R), p.1 ≠ TD ∧ p.1 ≠ RW
  two : TD ≠ RW
noncomputable def RP (lk : Str → Option Str) (FIN : WSt) (X D TD RW D0 : Addr) (c : LexC) (o : Obj) (R : Led) (q : RSt) : Prop :=
  ROk lk FIN TD RW D0 o R q.st q.row q.tv q.rv q.add ∧ ∃ fs0, RInv lk FIN fs0 q.st q.row ∧ match q.pend with
    | none => nextP fs0 = none
    | some wd => nextP fs0 = some (wd, pf q.f, q.stk.map fun p => pf p.2) ∧ FsOk q.f q.stk ∧ Apart X D c q.f q.stk (rBase TD RW D0 o R q.tv q.rv q.tn q.rn q.add)
noncomputable def rMu (q : RSt) : Nat := match q.pend with
  | none => 0
  | some _ => 1 + restW (pfs q.f q.stk) + 40 * q.st.left
theorem join2_says (w : World) (x y : Str) (tx ty : Tok) (R : Led) (hx : x.length ≤ 40000) (hy : y.length ≤ 40000) : Says w (.ref 827) [.str x tx, .str y ty] [] 30 R (Gives R (.str (joinStep x y))) :=
  join_says w x tx [.str y ty] [y] R (.cons _ _ .nil) (by simp only [List.map_cons, List.map_nil, List.sum_cons, List.sum_nil, List.length_cons, List.length_nil]; omega)
theorem fr_fun {P : Prop} {g h : Heap} {L : Addr} {m : Str → Option Value} (_ : Fr g L h m) (k : ∀ m', m' = m → P) : P := k m rfl
theorem allLt_lt {d : Addr} : ∀ {l : Led}, AllLt d l → ∀ p ∈ l, @LT.lt Nat _ p.1 d
  | [], _, _, hp => nomatch hp
  | _ :: _, h, _, hp => by
    rcases List.mem_cons.mp hp with rfl | hp
    · exact h.1
    · exact allLt_lt h.2 _ hp
theorem read_start {X D S DS TD RW D0 : Addr} {c : LexC} {o oT oR : Obj} {R : Led} {inf buf : Str} {ti tp tl : Tok} {sc : SioC} (hE : EndsOk (sg buf)) (hlen : buf.length ≤ 1000) (l1 : AllLt D ((D0, o) :: R)) (l2 : @LT.lt Nat _ D X) (l3 : @LT.lt Nat _ X DS) (l4 : @LT.lt Nat _ DS S) (l5 : @LT.lt Nat _ S c.pb) (l6 : @LT.lt Nat _ c.pb c.fs) (l7 : @LT.lt Nat _ c.fs TD) (l8 : @LT.lt Nat _ TD RW) :
    FsOk ⟨inf, ti, S, DS, sc, buf, 0, tp, 1, tl⟩ [] ∧ Apart X D c ⟨inf, ti, S, DS, sc, buf, 0, tp, 1, tl⟩ [] ((TD, oT) :: (RW, oR) :: (D0, o) :: ([] ++ R)) ∧ (∀ p ∈ (D0, o) :: (([] : Led) ++ R), p.1 ≠ TD ∧ p.1 ≠ RW) ∧ TD ≠ RW := by
  have hl := allLt_lt l1
  have hlt : ∀ p ∈ (D0, o) :: (([] : Led) ++ R), @LT.lt Nat _ p.1 D := hl
  refine ⟨⟨⟨⟨Nat.zero_le _, Nat.le_trans hlen (by decide), hE⟩, by show (0 : Int) ≤ 1; decide⟩, fun _ h => nomatch h⟩, ⟨?_, ?_⟩, ?_, ?_⟩
  · simp only [stkAdr, List.nodup_cons, List.mem_cons, not_or, List.not_mem_nil, or_false, not_false_iff, and_true, List.nodup_nil]
    refine ⟨⟨?_, ?_, ?_, ?_, ?_⟩, ⟨?_, ?_, ?_, ?_⟩, ⟨?_, ?_, ?_⟩, ⟨?_, ?_⟩, ?_⟩ <;> (intro e; have e' : @Eq Nat _ _ := e; omega)
  · intro p hp hm
    simp only [stkAdr, List.mem_cons, List.not_mem_nil, or_false] at hm
    rcases List.mem_cons.mp hp with rfl | hp
    · rcases hm with e | e | e | e | e | e <;> (have e' : @Eq Nat _ _ := e; omega)
    · rcases List.mem_cons.mp hp with rfl | hp
      · rcases hm with e | e | e | e | e | e <;> (have e' : @Eq Nat _ _ := e; omega)
      · have := hlt p hp
        rcases hm with e | e | e | e | e | e <;> (have e' : @Eq Nat _ _ := e; omega)
  · intro p hp
    have := hlt p hp
    constructor <;> (intro e; have e' : @Eq Nat _ _ := e; omega)
  · intro e; have e' : @Eq Nat _ _ := e; omega
theorem read_tuple {P : Prop} {g h : Heap} {L TP : Addr} {wd : Str} {inf : Str} {line : Int} {n : Nat} {names : List Str} {t1 t2 t3 t4 : Tok} {R : Led} (h0 : 0 ≤ line)
    (N : News g L h ((TP, { cls := .type "tuple", data := .seq #[.str wd t1, .str (leadS inf line) t2, .int (n : Int) t3, .str (hereOf names) t4] }) :: R))
    (k : ∀ oT, News g L h ((TP, oT) :: R) → DatIn [(TP, oT)] (.ref TP) (toldOf wd inf line.toNat n names) → P) : P := by
  refine k _ N ?_
  unfold toldOf
  rw [Int.toNat_of_nonneg h0]
  exact .tuple (.head _) (.cons (.str _ _) (.cons (.str _ _) (.cons (.int _ _) (.cons (.str _ _) .nil))))
theorem stkAdr_in {w : World} : ∀ {stk : List (Addr × Fm)} {a : Addr}, a ∈ stkAdr stk → ∃ p ∈ stkLed w stk, p.1 = a
  | (T, f) :: r, a, h => by
    simp only [stkAdr, List.mem_cons] at h
    rcases h with rfl | rfl | rfl | h
    · exact ⟨_, .head _, rfl⟩
    · exact ⟨_, .tail _ (.head _), rfl⟩
    · exact ⟨_, .tail _ (.tail _ (.head _)), rfl⟩
    · obtain ⟨p, hp, e⟩ := stkAdr_in h
      exact ⟨p, .tail _ (.tail _ (.tail _ hp)), e⟩
theorem apart_more {w : World} {X D TD RW D0 TP : Addr} {c : LexC} {o oT o1 o2 o3 o4 : Obj} {f : Fm} {stk : List (Addr × Fm)} {add R R2 : Led} (hR2 : R2 = stkLed w stk ++ (add ++ R)) (ap : Apart X D c f stk ((TD, o1) :: (RW, o2) :: (D0, o) :: (add ++ R)))
    (h1 : @LT.lt Nat _ f.S TP) (h2 : @LT.lt Nat _ f.DS TP) (h3 : @LT.lt Nat _ X TP) (h4 : @LT.lt Nat _ D TP) (h5 : @LT.lt Nat _ c.fs TP) (h6 : @LT.lt Nat _ c.pb TP) (h7 : AllLt TP R2) : Apart X D c f stk ((TD, o3) :: (RW, o4) :: (D0, o) :: ((TP, oT) :: add ++ R)) := by
  refine ⟨ap.nd, fun p hp => ?_⟩
  rcases List.mem_cons.mp hp with rfl | hp
  · exact ap.off (TD, o1) (.head _)
  · rcases List.mem_cons.mp hp with rfl | hp
    · exact ap.off (RW, o2) (.tail _ (.head _))
    · rcases List.mem_cons.mp hp with rfl | hp
      · exact ap.off (D0, o) (.tail _ (.tail _ (.head _)))
      · rcases List.mem_cons.mp hp with rfl | hp
        · intro hm
          have key : ∀ a ∈ c.fs :: c.pb :: X :: D :: f.S :: f.DS :: stkAdr stk, @LT.lt Nat _ a TP := by
            intro a ha
            simp only [List.mem_cons] at ha
            rcases ha with rfl | rfl | rfl | rfl | rfl | rfl | ha
            · exact h5
            · exact h6
            · exact h3
            · exact h4
            · exact h1
            · exact h2
            · obtain ⟨q, hq, rfl⟩ := stkAdr_in (w := w) ha
              exact allLt_lt h7 q (by rw [hR2]; exact List.mem_append.mpr (.inl hq))
          exact Nat.lt_irrefl _ (key TP hm)
        · exact ap.off p (.tail _ (.tail _ (.tail _ hp)))
theorem read_sub {w : World} {X D TD RW D0 TP : Addr} {c : LexC} {o oT : Obj} {f : Fm} {st : Value} {tt : Tok} {q : Int} {stk : List (Addr × Fm)} {add R R2 : Led} {tv rv : List Value} {tn rn : Nat} (hR2 : R2 = stkLed w stk ++ (add ++ R)) :
    ∀ p ∈ getLed w X D c f st tt q stk (rBase TD RW D0 o R tv rv tn rn ((TP, oT) :: add)), p ∈ (TP, oT) :: (TD, listOf tv.toArray tn) :: (RW, listOf rv.toArray rn) :: (D0, o) :: (f.S, instObj 587 f.DS) :: (f.DS, sioD w f.sc f.buf (f.k : Int) f.tp) :: (X, instObj 722 D) :: (D, lexD w c f.S f.inf f.ti st f.line f.tl (Str.ofString "") tt) :: (c.fs, dqObj q (stk.map fun p => .ref p.1)) :: (c.pb, dqObj 0 []) :: R2 := by
  have inS : ∀ p ∈ stkLed w stk, p ∈ R2 := fun p hp => by rw [hR2]; exact List.mem_append_left _ hp
  have inA : ∀ p ∈ add, p ∈ R2 := fun p hp => by rw [hR2]; exact List.mem_append_right _ (List.mem_append_left _ hp)
  have inR : ∀ p ∈ R, p ∈ R2 := fun p hp => by rw [hR2]; exact List.mem_append_right _ (List.mem_append_right _ hp)
  exact (by (repeat' (first | exact nil_sub8 | ((refine sub_cons ?zqmm8 ?_); (case zqmm8 => repeat (first | exact List.mem_cons_self | refine List.mem_cons_of_mem _ ?_ | refine List.mem_append_right _ ?_))) | refine sub_app ?_ ?_)); all_goals (intro pZ hpZ; repeat (first | exact hpZ | exact inA pZ hpZ | exact inR pZ hpZ | exact inS pZ hpZ | exact List.mem_append_left _ hpZ | refine List.mem_cons_of_mem _ ?_ | refine List.mem_append_right _ ?_)))
theorem apart_push {w : World} {X D : Addr} {c : LexC} {f : Fm} {stk : List (Addr × Fm)} {B : Led} {NW : Led} {S' DS' T : Addr} {g : Fm} (hg1 : g.S = S') (hg2 : g.DS = DS') (ap : Apart X D c f stk B)
    (hn : ∀ a ∈ c.fs :: c.pb :: X :: D :: f.S :: f.DS :: stkAdr stk, @LT.lt Nat _ a DS') (hB : ∀ p ∈ B, @LT.lt Nat _ p.1 DS') (l1 : @LT.lt Nat _ DS' S') (l2 : @LT.lt Nat _ S' T) : Apart X D c g ((T, f) :: stk) B := by
  have e : c.fs :: c.pb :: X :: D :: g.S :: g.DS :: stkAdr ((T, f) :: stk) = [c.fs, c.pb, X, D] ++ ([S', DS', T] ++ (f.S :: f.DS :: stkAdr stk)) := by rw [hg1, hg2]; rfl
  have pm : (c.fs :: c.pb :: X :: D :: g.S :: g.DS :: stkAdr ((T, f) :: stk)).Perm (S' :: DS' :: T :: (c.fs :: c.pb :: X :: D :: f.S :: f.DS :: stkAdr stk)) := by
    rw [e]
    exact List.perm_append_comm_assoc [c.fs, c.pb, X, D] [S', DS', T] (f.S :: f.DS :: stkAdr stk)
  refine ⟨pm.nodup_iff.mpr ?_, fun p hp hm => ?_⟩
  · refine List.nodup_cons.mpr ⟨fun h => ?_, List.nodup_cons.mpr ⟨fun h => ?_, List.nodup_cons.mpr ⟨fun h => ?_, ap.nd⟩⟩⟩
    · rcases List.mem_cons.mp h with e | h
      · have e' : @Eq Nat _ _ := e; omega
      · rcases List.mem_cons.mp h with e | h
        · have e' : @Eq Nat _ _ := e; omega
        · have := hn _ h; omega
    · rcases List.mem_cons.mp h with e | h
      · have e' : @Eq Nat _ _ := e; omega
      · have := hn _ h; omega
    · have := hn _ h; omega
  · have hm := pm.mem_iff.mp hm
    have hb := hB p hp
    rcases List.mem_cons.mp hm with e | hm
    · have e' : @Eq Nat _ _ := e; omega
    · rcases List.mem_cons.mp hm with e | hm
      · have e' : @Eq Nat _ _ := e; omega
      · rcases List.mem_cons.mp hm with e | hm
        · have e' : @Eq Nat _ _ := e; omega
        · exact ap.off p hp hm
theorem call3_tok {M : Model} {A : Around} {f : Value} {X : Addr} {b nm : Str} {tb tn : Tok} {Q E : Value → Shared → Prop} {s : Shared} (k : ∀ t, t = tn → wpAny M A (call f [.ref X, .str b tb, .str nm t] []) Q E s) : wpAny M A (call f [.ref X, .str b tb, .str nm tn] []) Q E s := k tn rfl
theorem apart_rv {X D TD RW D0 : Addr} {c : LexC} {o : Obj} {f : Fm} {stk : List (Addr × Fm)} {add R : Led} {tv rv rv' : List Value} {tn rn rn' : Nat} (ap : Apart X D c f stk (rBase TD RW D0 o R tv rv tn rn add)) : Apart X D c f stk (rBase TD RW D0 o R tv rv' tn rn' add) := by
  refine ⟨ap.nd, fun p hp => ?_⟩
  rcases List.mem_cons.mp hp with rfl | hp
  · exact ap.off _ (.head _)
  · rcases List.mem_cons.mp hp with rfl | hp
    · exact ap.off (RW, listOf rv.toArray rn) (.tail _ (.head _))
    · exact ap.off p (.tail _ (.tail _ hp))
theorem push_sub2 {w : World} {X D TD RW D0 TP T S' DS' : Addr} {c : LexC} {o oT : Obj} {f : Fm} {st : Value} {tt TK9 tp' tl' : Tok} {q : Int} {stk : List (Addr × Fm)} {add R R2 : Led} {tv rv : List Value} {tn rn : Nat} {nm buf : Str} {sc' : SioC} (hR2 : R2 = stkLed w stk ++ (add ++ R)) :
    ∀ p ∈ getLed w X D c ⟨nm, TK9, S', DS', sc', buf, 0, tp', 1, tl'⟩ st tt (q + 1) ((T, f) :: stk) (rBase TD RW D0 o R tv rv tn rn ((TP, oT) :: add)), p ∈ (RW, listOf rv.toArray rn) :: (T, tupOf [.str f.inf f.ti, .ref f.S, .int f.line f.tl]) :: (S', instObj 587 DS') :: (DS', sioD w sc' buf 0 tp') :: (c.fs, dqObj (q + 1) (.ref T :: stk.map fun p => .ref p.1)) :: (X, instObj 722 D) :: (D, lexD w c S' nm TK9 st 1 tl' (Str.ofString "") tt) :: (TP, oT) :: (TD, listOf tv.toArray tn) :: (D0, o) :: (f.S, instObj 587 f.DS) :: (f.DS, sioD w f.sc f.buf (f.k : Int) f.tp) :: (c.pb, dqObj 0 []) :: R2 := by
  have inS : ∀ p ∈ stkLed w stk, p ∈ R2 := fun p hp => by rw [hR2]; exact List.mem_append_left _ hp
  have inA : ∀ p ∈ add, p ∈ R2 := fun p hp => by rw [hR2]; exact List.mem_append_right _ (List.mem_append_left _ hp)
  have inR : ∀ p ∈ R, p ∈ R2 := fun p hp => by rw [hR2]; exact List.mem_append_right _ (List.mem_append_right _ hp)
  exact (by (repeat' (first | exact nil_sub8 | ((refine sub_cons ?zqmm8 ?_); (case zqmm8 => repeat (first | exact List.mem_cons_self | refine List.mem_cons_of_mem _ ?_ | refine List.mem_append_right _ ?_))) | refine sub_app ?_ ?_)); all_goals (intro pZ hpZ; repeat (first | exact hpZ | exact inA pZ hpZ | exact inR pZ hpZ | exact inS pZ hpZ | exact List.mem_append_left _ hpZ | refine List.mem_cons_of_mem _ ?_ | refine List.mem_append_right _ ?_)))
theorem sub_all {α : Type} {P : α → Prop} {l1 l2 : List α} (h : ∀ p ∈ l1, P p) (k : ∀ p ∈ l2, P p) : ∀ p ∈ l1 ++ l2, P p := fun p hp => (List.mem_append.mp hp).elim (h p) (k p)
/-- what holds behind the if of the reader's loop -/
inductive MidV (w : World) (X D TD RW D0 TP : Addr) (c : LexC) (o oT : Obj) (add R : Led) (tv : List Value) (tn : Nat) (lk : Str → Option Str) (FIN : WSt) (told : List Dat) (mB : Str → Option Value) (n : Nat) (m2 : Str → Option Value) (led : Led) : Prop
  | mk (f2 : Fm) (stk2 : List (Addr × Fm)) (ts2 tt2 : Tok) (q2 : Int) (names2 : List Str) (left2 : Nat) (row2 : List Str) (rv2 : List Value) (rn2 : Nat) (th2 tl2 : Tok)
    (e1 : m2 = kst3 (.str (hereOf names2) th2) (.int ((left2 : Nat) : Int) tl2) mB) (e2 : led = getLed w X D c f2 (.str (Str.ofString " ") ts2) tt2 q2 stk2 (rBase TD RW D0 o R tv rv2 tn rn2 ((TP, oT) :: add)))
    (o1 : FsOk f2 stk2) (o2 : Apart X D c f2 stk2 (rBase TD RW D0 o R tv rv2 tn rn2 ((TP, oT) :: add))) (o3 : StrsAre rv2 row2) (o4 : RInv lk FIN (pfs f2 stk2) ⟨names2, left2, told⟩ row2) (o5 : restW (pfs f2 stk2) + 40 * left2 ≤ n) : MidV w X D TD RW D0 TP c o oT add R tv tn lk FIN told mB n m2 led
set_option maxHeartbeats 600000 in
theorem lawread_says (w : World) (D0 : Addr) (o : Obj) (lc : List (Str × Str)) (K : IsLinks w D0 o lc) (hl : LkOk (lkC lc)) (path : Str) (tp t5 : Tok) (R : Led) (hE : EndsOk (sg path)) (hlen : path.length ≤ 1000) :
    Says w (.ref 876) [.ref D0, .str path tp, .int 5 t5] [] 500 ((D0, o) :: R) (fun news' r => ∃ RL rv rk n₁, news' = (RL, listOf (List.toArray rv) rk) :: (n₁ ++ ((D0, o) :: R)) ∧ r = .ref RL ∧
      DatAll n₁ rv ((walkF (lkC lc) 6 path (Str.ofString "") 0 ⟨[], 5, []⟩).told ++ [.str (hereOf (walkF (lkC lc) 6 path (Str.ofString "") 0 ⟨[], 5, []⟩).names), .str (hereOf (walkF (lkC lc) 6 path (Str.ofString "") 0 ⟨[], 5, []⟩).names)])) := by
  have I0 := inv_start (lkC lc) hE hlen
  refine named (walkF (lkC lc) 6 path (Str.ofString "") 0 ⟨[], 5, []⟩) ?_
  intro FIN hFIN
  rw [← hFIN] at I0 ⊢
  clear hFIN
  unfold Says
  k_fill
  intro dp un gd cn cs a ccd cl outer A₀ base h₀ L m s p loose mean mg mb Q E B F KX N T hk hd hu hret
  refine wpAny_call ?_
  k_dflt (first | (refine' code_def ?k1 ?k2 ?k3 ?k4 ?k5 ?zqkA ?zqkF ?kK ?zqk6 ?zqk7 ?zqk8 ?zqk9 ?zqkB ?_ ?zqc2 ?zqc3 ?zqc4 ?zqc5; (case zqkA | zqkF => exact rfl); (case kK => assumption); (case k1 | k2 => k_asm); (case k3 | k4 | k5 => k_asm); (case zqk6 | zqk7 => k_is); (case zqk8 => k_room); (case zqk9 => first | exact BindsTo.of_eq rfl | exact binds_K (by k_in) rfl (by k_is) rfl rfl rfl | fail); (case zqc5 => decide); (case zqkB => exact locs rfl); (case zqc2 | zqc3 | zqc4 => exact rfl); k_whole; intro g'Z L'Z h'Z FG'Z F'Z N'Z B'Z X'Z T'Z; (try dsimp only); (try k_lift B'Z); (try k_fold); refine name_A ?_; intro aA8; have hN8 := True.intro; have hO8 := True.intro) | (kp_kind "rest"; refine' kp_rest ?k1 ?k2 ?k3 ?k4 ?k5 ?zqkA ?zqkF ?kK ?zqk6 ?zqk7 ?zqk8 ?zqkV ?zqkP ?zqkG ?zqkB ?_ ?zqc2 ?zqc3 ?zqc4 ?zqc5; (case zqkA | zqkF => exact rfl); (case kK => assumption); (case k1 | k2 => k_asm); (case k3 | k4 | k5 => k_asm); (case zqk6 | zqk7 => k_is); (case zqk8 => k_room); (case zqkV | zqkP => exact rfl); (case zqkG => exact fun _ => rfl); (case zqkB => exact fun _ => locs rfl); (case zqc5 => decide); (case zqc2 | zqc3 | zqc4 => exact rfl); k_whole; intro D'Z g'Z L'Z h'Z l1Z FG'Z F'Z N'Z B'Z X'Z T'Z; (try k_lt l1Z); (try dsimp only); (try k_lift B'Z); (try k_fold); refine name_A ?_; intro aA8; have hN8 := True.intro; have hO8 := True.intro) | (kp_kind "both"; refine' kp_both ?k1 ?k2 ?k3 ?k4 ?k5 ?zqkA ?zqkF ?kK ?zqk6 ?zqk7 ?zqk8 ?zqkV ?zqkX ?zqkQ ?zqkM ?zqkN ?zqkD ?zqkR ?zqkP ?zqkS ?zqkT ?zqkB ?_ ?zqc2 ?zqc3 ?zqc4 ?zqc5; (case zqkA | zqkF => exact rfl); (case kK => assumption); (case k1 | k2 => k_asm); (case k3 | k4 | k5 => k_asm); (case zqk6 | zqk7 => k_is); (case zqk8 => k_room); (case zqkV | zqkX => kp_lit); (case zqkQ | zqkM | zqkN => exact rfl); (case zqkD => kp_flats); (case zqkR | zqkP => exact rfl); (case zqkS => exact fun _ => rfl); (case zqkT => exact fun _ _ => rfl); (case zqkB => exact fun _ _ => locs rfl); (case zqc5 => decide); (case zqc2 | zqc3 | zqc4 => exact rfl); k_whole; intro C'Z D'Z o'Z g'Z L'Z h'Z tk'Z l1Z l2Z lo'Z hs'Z fs'Z FG'Z F'Z N'Z B'Z X'Z T'Z; (try k_lt l1Z); (try k_lt2 l2Z); (try dsimp only); (try k_lift B'Z); (try k_fold); refine name_A ?_; intro aA8; have hN8 := True.intro; have hO8 := True.intro))
  rename Fr _ _ _ (fun y => _) => FA
  replace FA := fr_as (m' := fun y' => List.lookup y' [(Str.ofString "left", Value.int 5 t5), (Str.ofString "path", Value.str path tp), (Str.ofString "links", Value.ref D0)]) FA (by kernel_rfl)
  generalize s.toks + _ = tkA
  repeat' (first | (k_unfold; (try dsimp only)) | (k_end; (with_reducible refine hN8 _ _ ?_); intro kN8; clear hN8 hO8; (try clear qN8); first | with_reducible refine execs_one ?_ | (refine execs_more ?_; intro qN8 hN8 hO8)) | (k_end; (with_reducible refine hO8 _ _ ?zn8 ?_); (case zn8 => first | exact ne_ret _ | exact ne_brk | exact ne_cont); clear hN8 hO8; (try clear qN8)) | (k_end; wrow_close) | ((with_reducible show wpAny _ _ (exec _ _) _ _ _); (first | ((with_reducible show wpAny _ _ (exec (Stmt.While (Expr.Compare _ _ _ _) _ _ _) _) _ _ _); (k_here; refine stop_in ?_)) | ((with_reducible show wpAny _ _ (exec (Stmt.If (Expr.Compare _ _ _ _) _ _ _) _) _ _ _); (k_here; refine stop_in ?_)) | ((with_reducible show wpAny _ _ (exec (Stmt.While (Expr.Compare _ _ _ _) _ _ _) _) _ _ _); (k_here; refine stop_in ?_)) | ((with_reducible show wpAny _ _ (exec (Stmt.If _ _ _ _) _) _ _ _); (k_here; refine wpAny_If ?_)))) | ((with_reducible show wpAny _ _ (call _ _ _) _ _ _); (first | (k_here; (with_reducible show wpAny _ _ (call (Value.ref 869) [Value.str _ _]) _ _ _); refine stop_in ?_) | (k_here; (with_reducible show wpAny _ _ (call (Value.ref 827) (Value.str (Str.ofString "/") _ :: _)) _ _ _); k_dflt (refine' says_pure (join_says _ _ _ _ _ _ ?zqka ?zqkb) ?k1 ?k2 ?k3 ?k4 ?k5 ?kK ?kd ?ku ?_; (case zqka => assumption); tb_rel; (case zqkb => assumption); intro t9Z h9Z tk9Z F9Z N9Z; (try dsimp only); (try k_fold))) | (k_here; (with_reducible show wpAny _ _ (call (Value.ref 848) _) _ _ _); refine stop_in ?_) | (k_here; (with_reducible show wpAny _ _ (call (Value.ref 820) [Value.str _ _]) _ _ _); k_dflt (refine' says_pure (isabs_says _ _ _ _) ?k1 ?k2 ?k3 ?k4 ?k5 ?kK ?kd ?ku ?_; tb_rel; intro t9Z h9Z tk9Z F9Z N9Z; (try dsimp only); (try k_fold))) | (k_here; (with_reducible show wpAny _ _ (call (Value.ref 841) [Value.str _ _]) _ _ _); k_dflt (refine' says_pure (dirname_says _ _ _ _ ?zqka) ?k1 ?k2 ?k3 ?k4 ?k5 ?kK ?kd ?ku ?_; tb_rel; (case zqka => first | assumption | omega); intro t9Z h9Z tk9Z F9Z N9Z; (try dsimp only); (try k_fold))) | (k_here; (with_reducible show wpAny _ _ (call (Value.ref 827) [Value.str _ _, Value.str _ _]) _ _ _); k_dflt (refine' says_pure (join2_says _ _ _ _ _ _ ?zqka ?zqkb) ?k1 ?k2 ?k3 ?k4 ?k5 ?kK ?kd ?ku ?_; tb_rel; (case zqka | zqkb => first | assumption | omega | decide +kernel); intro t9Z h9Z tk9Z F9Z N9Z; (try dsimp only); (try k_fold))) | (k_here; (with_reducible show wpAny _ _ (call (Value.ref 705) _) _ _ _); k_dflt (refine' lead_use ?zqa1 ?zqa2 ?zqa3 ?zqa4 ?zqa5 ?k1 ?k2 ?k3 ?k4 ?k5 ?kK ?kd ?ku ?_; tb_rel; (case zqa1 | zqa2 => k_mem); (case zqa3 | zqa4 | zqa5 => assumption); intro t9Z h9Z tk9Z F9Z N9Z; (try dsimp only); (try k_fold))) | ((with_reducible show wpAny _ _ (call (Value.builtin "list.append") _ _) _ _ _); (k_here; refine stop_in ?_)) | (k_here; (with_reducible show wpAny _ _ (call (Value.ref 669) _) _ _ _); refine stop_in ?_) | (k_here; (with_reducible show wpAny _ _ (call (Value.ref 683) _) _ _ _); refine stop_in ?_) | (k_here; (with_reducible show wpAny _ _ (call (Value.builtin "len") [Value.ref _]) _ _ _); k_dflt (refine' len_made ?k1 ?k2 ?k3 ?_; (case k1 => k_asm); (case k2 => k_mem); (case k3 => omega); k_whole); intro t9Z tk9Z) | ((with_reducible show wpAny _ _ (call (Value.builtin "list.append") _ _) _ _ _); (k_here; k_dflt (refine' append_snoc ?k1 ?k2 ?k3 ?k4 ?_; (case k1 | k2 => k_asm); (case k3 => k_upd); (case k4 => omega); k_whole); intro h'Z F'Z N'Z; (try k_sweep))) | (k_here; (with_reducible show wpAny _ _ (call (Value.builtin "len") [Value.ref _]) _ _ _); k_dflt (refine' dq_len ?k1 ?k2 ?k3 ?_; (case k1 => k_asm); (case k2 => k_mem); (case k3 => first | assumption | omega | (simp only [List.length_cons, List.length_nil] at *; omega)); k_whole)))) | ((with_reducible show wpAny _ _ (setItem (Value.ref _) (Value.int _ _) _) _ _ _); (k_here; refine stop_in ?_)) | ((with_reducible show KswEnd _ _ _ _ _ _ _ _ _ _ _ _); (refine stop_in ?_)) | ((with_reducible show wpAny _ _ (subscriptTail _ _ _ _) _ _ _); (first | (k_here; (with_reducible show wpAny _ _ (subscriptTail _ _ (Value.ref _) (Value.str _ _)) _ _ _); k_dflt (refine' links_item ?k1 ?k2 ?k3 ?k4 ?_ ?zqk6 ?zqk7; (case k1 => k_asm); (case k2 => k_mem); (case k3 | k4 => assumption); (case zqk6 => with_unfolding_all rfl); (case zqk7 => intro _; with_unfolding_all rfl); k_whole); intro u9Z) | (k_here; (with_reducible show wpAny _ _ (subscriptTail _ _ (Value.ref _) (Value.str _ _)) _ _ _); k_dflt (refine' links_itemI ?k1 ?k2 ?k3 ?k4 ?k5 ?_ ?zqk6 ?zqk7; (case k1 => k_asm); (case k2 => k_mem); (case k3 | k4 | k5 => assumption); (case zqk6 => with_unfolding_all rfl); (case zqk7 => intro _; with_unfolding_all rfl); k_whole); intro t9Z u9Z hk9Z hz9Z) | (k_here; (with_reducible show wpAny _ _ (subscriptTail _ _ (Value.ref _) (Value.int (-1) _)) _ _ _); k_dflt (refine' item_last ?k1 ?k2 ?_ ?k4; (case k1 => k_asm); (case k2 => k_mem); (case k4 => with_unfolding_all rfl); k_whole)))) | ((with_reducible show wpAny _ _ (compareOp _ _ _) _ _ _); (first | ((with_reducible show wpAny _ _ (compareOp CmpOp.In (Value.str _ _) (Value.ref _)) _ _ _); (k_here; k_dflt (refine' links_inB ?k1 ?k2 ?k3 ?_; (case k1 => k_asm); (case k2 => k_mem); (case k3 => assumption); k_whole))) | ((with_reducible show wpAny _ _ (compareOp CmpOp.In (Value.str _ _) (Value.ref _)) _ _ _); (k_here; k_dflt (refine' links_in ?k1 ?k2 ?k3 ?k4 ?_; (case k1 => k_asm); (case k2 => k_mem); (case k3 | k4 => assumption); k_whole))) | (k_here; (with_reducible show wpAny _ _ (compareOp CmpOp.In (Value.str _ _) (Value.str _ _)) _ _ _); first | (refine in_known (b := false) (by assumption) ?_) | (refine in_known (b := true) (by assumption) ?_) | (refine in_known (b := false) (by decide +kernel) ?_) | (refine in_known (b := true) (by decide +kernel) ?_)))) | ((with_reducible show wpAny _ _ (binaryOp Operator.Add (Value.ref _) (Value.ref _)) _ _ _); (k_here; k_dflt (refine' cat_made ?zqF ?zqN ?zql ?zqb ?zqz ?_; (case zqF | zqN => k_asm); (case zql | zqb => k_mem); (case zqz => (simp only [List.length_append, List.length_cons, List.length_nil]; omega)); k_whole); intro D'Z h'Z F'Z N'Z l1Z; (try k_lt l1Z); (try k_sweep))) | ((with_reducible show StarOf _ _ _ (Value.ref _) _ _); (k_here; k_dflt (refine' star_seq ?k1 ?k2 ?zqm ?zqc ?zqd ?zqT ?zqe ?zqz ?_; (case k1 | k2 => k_asm); (case zqm => k_mem); (case zqc | zqd => exact rfl); (case zqT => exact .inl rfl); (case zqe => exact rfl); (case zqz => (rw [List.size_toArray, sizeLine_eq]; omega)); k_whole); intro h'Z F'Z N'Z; (try k_sweep); try dsimp only [List.nil_append, List.cons_append])) | ((with_reducible show wpAny _ _ (truthy _) _ _ _); (first | ((with_reducible show wpAny _ _ (truthy (Value.ref _)) _ _ _); (k_here; k_dflt (first | (refine' truthy_nil ?k1 ?k2 ?_; (case k1 => k_asm); (case k2 => k_mem); k_whole) | (refine' truthy_snoc ?k1 ?k2 ?k3 ?_; (case k1 => k_asm); (case k2 => k_mem); (case k3 => omega); k_whole)))) | ((with_reducible show wpAny _ _ (truthy (Value.ref _)) _ _ _); (k_here; k_dflt (refine' dq_truthy ?k1 ?k2 ?k3 ?_; (case k1 => k_asm); (case k2 => k_mem); (case k3 => first | assumption | omega | (simp only [List.length_cons, List.length_nil] at *; omega)); k_whole))) | (k_here; (with_reducible show wpAny _ _ (truthy (Value.str _ _)) _ _ _); refine truthy_long (by assumption) (by omega) ?_; intro _))) | ((with_reducible show wpAny _ _ (execs _ _) _ _ _); (first | ((with_reducible show wpAny _ _ (execs [] _) _ _ _); (k_here; refine wpAny_execs_nil ?_)) | ((with_reducible show wpAny _ _ (execs (_ :: _) _) _ _ _); (k_here; (try dsimp only); (try k_fold); first | with_reducible refine execs_one ?_ | (refine execs_more ?_; intro qN8 hN8 hO8))))) | walk1 | ((with_reducible show wpAny _ _ _ _ _ _); dsimp only) | (leave1; walk_say "STEP leave1"; try dsimp only) | fail "no step")
  unfold Stop
  refine' says_use (lexer_says w path _ ((D0, o) :: R) (by omega)) ?k1 ?k2 ?k3 ?k4 ?k5 ?kK ?kd ?ku ?_
  tb_rel
  rintro r9 n9 h9 tk9 F9 N9 ⟨X, D, S, DS, c, sc, ti, ts, tl, tt, tp9, e9, q9, l1, l2, l3, l4, l5, l6⟩
  subst e9
  subst q9
  (try dsimp only)
  repeat' (first | (k_unfold; (try dsimp only)) | (k_end; (with_reducible refine hN8 _ _ ?_); intro kN8; clear hN8 hO8; (try clear qN8); first | with_reducible refine execs_one ?_ | (refine execs_more ?_; intro qN8 hN8 hO8)) | (k_end; (with_reducible refine hO8 _ _ ?zn8 ?_); (case zn8 => first | exact ne_ret _ | exact ne_brk | exact ne_cont); clear hN8 hO8; (try clear qN8)) | (k_end; wrow_close) | ((with_reducible show wpAny _ _ (exec _ _) _ _ _); (first | ((with_reducible show wpAny _ _ (exec (Stmt.While (Expr.Compare _ _ _ _) _ _ _) _) _ _ _); (k_here; refine stop_in ?_)) | ((with_reducible show wpAny _ _ (exec (Stmt.If (Expr.Compare _ _ _ _) _ _ _) _) _ _ _); (k_here; refine stop_in ?_)) | ((with_reducible show wpAny _ _ (exec (Stmt.While (Expr.Compare _ _ _ _) _ _ _) _) _ _ _); (k_here; refine stop_in ?_)) | ((with_reducible show wpAny _ _ (exec (Stmt.If _ _ _ _) _) _ _ _); (k_here; refine wpAny_If ?_)))) | ((with_reducible show wpAny _ _ (call _ _ _) _ _ _); (first | (k_here; (with_reducible show wpAny _ _ (call (Value.ref 869) [Value.str _ _]) _ _ _); refine stop_in ?_) | (k_here; (with_reducible show wpAny _ _ (call (Value.ref 827) (Value.str (Str.ofString "/") _ :: _)) _ _ _); k_dflt (refine' says_pure (join_says _ _ _ _ _ _ ?zqka ?zqkb) ?k1 ?k2 ?k3 ?k4 ?k5 ?kK ?kd ?ku ?_; (case zqka => assumption); tb_rel; (case zqkb => assumption); intro t9Z h9Z tk9Z F9Z N9Z; (try dsimp only); (try k_fold))) | (k_here; (with_reducible show wpAny _ _ (call (Value.ref 848) _) _ _ _); refine stop_in ?_) | (k_here; (with_reducible show wpAny _ _ (call (Value.ref 820) [Value.str _ _]) _ _ _); k_dflt (refine' says_pure (isabs_says _ _ _ _) ?k1 ?k2 ?k3 ?k4 ?k5 ?kK ?kd ?ku ?_; tb_rel; intro t9Z h9Z tk9Z F9Z N9Z; (try dsimp only); (try k_fold))) | (k_here; (with_reducible show wpAny _ _ (call (Value.ref 841) [Value.str _ _]) _ _ _); k_dflt (refine' says_pure (dirname_says _ _ _ _ ?zqka) ?k1 ?k2 ?k3 ?k4 ?k5 ?kK ?kd ?ku ?_; tb_rel; (case zqka => first | assumption | omega); intro t9Z h9Z tk9Z F9Z N9Z; (try dsimp only); (try k_fold))) | (k_here; (with_reducible show wpAny _ _ (call (Value.ref 827) [Value.str _ _, Value.str _ _]) _ _ _); k_dflt (refine' says_pure (join2_says _ _ _ _ _ _ ?zqka ?zqkb) ?k1 ?k2 ?k3 ?k4 ?k5 ?kK ?kd ?ku ?_; tb_rel; (case zqka | zqkb => first | assumption | omega | decide +kernel); intro t9Z h9Z tk9Z F9Z N9Z; (try dsimp only); (try k_fold))) | (k_here; (with_reducible show wpAny _ _ (call (Value.ref 705) _) _ _ _); k_dflt (refine' lead_use ?zqa1 ?zqa2 ?zqa3 ?zqa4 ?zqa5 ?k1 ?k2 ?k3 ?k4 ?k5 ?kK ?kd ?ku ?_; tb_rel; (case zqa1 | zqa2 => k_mem); (case zqa3 | zqa4 | zqa5 => assumption); intro t9Z h9Z tk9Z F9Z N9Z; (try dsimp only); (try k_fold))) | ((with_reducible show wpAny _ _ (call (Value.builtin "list.append") _ _) _ _ _); (k_here; refine stop_in ?_)) | (k_here; (with_reducible show wpAny _ _ (call (Value.ref 669) _) _ _ _); refine stop_in ?_) | (k_here; (with_reducible show wpAny _ _ (call (Value.ref 683) _) _ _ _); refine stop_in ?_) | (k_here; (with_reducible show wpAny _ _ (call (Value.builtin "len") [Value.ref _]) _ _ _); k_dflt (refine' len_made ?k1 ?k2 ?k3 ?_; (case k1 => k_asm); (case k2 => k_mem); (case k3 => omega); k_whole); intro t9Z tk9Z) | ((with_reducible show wpAny _ _ (call (Value.builtin "list.append") _ _) _ _ _); (k_here; k_dflt (refine' append_snoc ?k1 ?k2 ?k3 ?k4 ?_; (case k1 | k2 => k_asm); (case k3 => k_upd); (case k4 => omega); k_whole); intro h'Z F'Z N'Z; (try k_sweep))) | (k_here; (with_reducible show wpAny _ _ (call (Value.builtin "len") [Value.ref _]) _ _ _); k_dflt (refine' dq_len ?k1 ?k2 ?k3 ?_; (case k1 => k_asm); (case k2 => k_mem); (case k3 => first | assumption | omega | (simp only [List.length_cons, List.length_nil] at *; omega)); k_whole)))) | ((with_reducible show wpAny _ _ (setItem (Value.ref _) (Value.int _ _) _) _ _ _); (k_here; refine stop_in ?_)) | ((with_reducible show KswEnd _ _ _ _ _ _ _ _ _ _ _ _); (refine stop_in ?_)) | ((with_reducible show wpAny _ _ (subscriptTail _ _ _ _) _ _ _); (first | (k_here; (with_reducible show wpAny _ _ (subscriptTail _ _ (Value.ref _) (Value.str _ _)) _ _ _); k_dflt (refine' links_item ?k1 ?k2 ?k3 ?k4 ?_ ?zqk6 ?zqk7; (case k1 => k_asm); (case k2 => k_mem); (case k3 | k4 => assumption); (case zqk6 => with_unfolding_all rfl); (case zqk7 => intro _; with_unfolding_all rfl); k_whole); intro u9Z) | (k_here; (with_reducible show wpAny _ _ (subscriptTail _ _ (Value.ref _) (Value.str _ _)) _ _ _); k_dflt (refine' links_itemI ?k1 ?k2 ?k3 ?k4 ?k5 ?_ ?zqk6 ?zqk7; (case k1 => k_asm); (case k2 => k_mem); (case k3 | k4 | k5 => assumption); (case zqk6 => with_unfolding_all rfl); (case zqk7 => intro _; with_unfolding_all rfl); k_whole); intro t9Z u9Z hk9Z hz9Z) | (k_here; (with_reducible show wpAny _ _ (subscriptTail _ _ (Value.ref _) (Value.int (-1) _)) _ _ _); k_dflt (refine' item_last ?k1 ?k2 ?_ ?k4; (case k1 => k_asm); (case k2 => k_mem); (case k4 => with_unfolding_all rfl); k_whole)))) | ((with_reducible show wpAny _ _ (compareOp _ _ _) _ _ _); (first | ((with_reducible show wpAny _ _ (compareOp CmpOp.In (Value.str _ _) (Value.ref _)) _ _ _); (k_here; k_dflt (refine' links_inB ?k1 ?k2 ?k3 ?_; (case k1 => k_asm); (case k2 => k_mem); (case k3 => assumption); k_whole))) | ((with_reducible show wpAny _ _ (compareOp CmpOp.In (Value.str _ _) (Value.ref _)) _ _ _); (k_here; k_dflt (refine' links_in ?k1 ?k2 ?k3 ?k4 ?_; (case k1 => k_asm); (case k2 => k_mem); (case k3 | k4 => assumption); k_whole))) | (k_here; (with_reducible show wpAny _ _ (compareOp CmpOp.In (Value.str _ _) (Value.str _ _)) _ _ _); first | (refine in_known (b := false) (by assumption) ?_) | (refine in_known (b := true) (by assumption) ?_) | (refine in_known (b := false) (by decide +kernel) ?_) | (refine in_known (b := true) (by decide +kernel) ?_)))) | ((with_reducible show wpAny _ _ (binaryOp Operator.Add (Value.ref _) (Value.ref _)) _ _ _); (k_here; k_dflt (refine' cat_made ?zqF ?zqN ?zql ?zqb ?zqz ?_; (case zqF | zqN => k_asm); (case zql | zqb => k_mem); (case zqz => (simp only [List.length_append, List.length_cons, List.length_nil]; omega)); k_whole); intro D'Z h'Z F'Z N'Z l1Z; (try k_lt l1Z); (try k_sweep))) | ((with_reducible show StarOf _ _ _ (Value.ref _) _ _); (k_here; k_dflt (refine' star_seq ?k1 ?k2 ?zqm ?zqc ?zqd ?zqT ?zqe ?zqz ?_; (case k1 | k2 => k_asm); (case zqm => k_mem); (case zqc | zqd => exact rfl); (case zqT => exact .inl rfl); (case zqe => exact rfl); (case zqz => (rw [List.size_toArray, sizeLine_eq]; omega)); k_whole); intro h'Z F'Z N'Z; (try k_sweep); try dsimp only [List.nil_append, List.cons_append])) | ((with_reducible show wpAny _ _ (truthy _) _ _ _); (first | ((with_reducible show wpAny _ _ (truthy (Value.ref _)) _ _ _); (k_here; k_dflt (first | (refine' truthy_nil ?k1 ?k2 ?_; (case k1 => k_asm); (case k2 => k_mem); k_whole) | (refine' truthy_snoc ?k1 ?k2 ?k3 ?_; (case k1 => k_asm); (case k2 => k_mem); (case k3 => omega); k_whole)))) | ((with_reducible show wpAny _ _ (truthy (Value.ref _)) _ _ _); (k_here; k_dflt (refine' dq_truthy ?k1 ?k2 ?k3 ?_; (case k1 => k_asm); (case k2 => k_mem); (case k3 => first | assumption | omega | (simp only [List.length_cons, List.length_nil] at *; omega)); k_whole))) | (k_here; (with_reducible show wpAny _ _ (truthy (Value.str _ _)) _ _ _); refine truthy_long (by assumption) (by omega) ?_; intro _))) | ((with_reducible show wpAny _ _ (execs _ _) _ _ _); (first | ((with_reducible show wpAny _ _ (execs [] _) _ _ _); (k_here; refine wpAny_execs_nil ?_)) | ((with_reducible show wpAny _ _ (execs (_ :: _) _) _ _ _); (k_here; (try dsimp only); (try k_fold); first | with_reducible refine execs_one ?_ | (refine execs_more ?_; intro qN8 hN8 hO8))))) | walk1 | ((with_reducible show wpAny _ _ _ _ _ _); dsimp only) | (leave1; walk_say "STEP leave1"; try dsimp only) | fail "no step")
  unfold Stop
  rename Fr _ _ _ (fun y => _) => F1
  rename News _ _ _ (_ :: _) => N1
  refine news2 N1 ?_
  intro RW TD e1 e2
  subst e1
  subst e2
  rename _ ∧ _ ∧ _ ∧ _ ∧ _ ∧ _ ∧ _ ∧ AllLt TD R => lT
  rename _ ∧ _ ∧ _ ∧ _ ∧ _ ∧ _ ∧ _ ∧ _ ∧ AllLt RW R => lR
  obtain ⟨b1, b2, b3, b4⟩ := read_start (inf := Str.ofString "") (ti := ti) (tp := tp9) (tl := tl) (sc := sc) (oT := listOf ([] : List Value).toArray 0) (oR := listOf ([] : List Value).toArray 0) hE hlen l1 l2 l3 l4 l5 l6 lT.1 lR.1
  replace N1 : News _ _ _ (getLed w X D c ⟨Str.ofString "", ti, S, DS, sc, path, 0, tp9, 1, tl⟩ (.str (Str.ofString " ") ts) tt 0 [] (rBase TD RW D0 o R [] [] 0 0 [])) := news_sub N1 (by (repeat' (first | exact nil_sub8 | ((refine sub_cons ?zqmm8 ?_); (case zqmm8 => repeat (first | exact List.mem_cons_self | refine List.mem_cons_of_mem _ ?_ | refine List.mem_append_right _ ?_))) | refine sub_app ?_ ?_)); all_goals (intro pZ hpZ; repeat (first | exact hpZ | exact List.mem_append_left _ hpZ | refine List.mem_cons_of_mem _ ?_ | refine List.mem_append_right _ ?_)))
  refine mid_point (fun v led => ∃ q : RSt, v = rWord q ∧ led = rLed w X D TD RW D0 c o R q ∧ RP (lkC lc) FIN X D TD RW D0 c o R q ∧ q.st = ⟨[], 5, []⟩ ∧ q.th = 0 ∧ q.tl = t5) F1 ?_ ?_
  · refine get_use b1 b2 (by decide) (by assumption) F1 (by assumption) N1 (by assumption) rfl (by k_room) (by k_units) ?_ ?_
    · intro h5 tk5 hg F5 N5
      refine mid_in _ F5 N5 ⟨⟨⟨Str.ofString "", ti, S, DS, sc, path, 0, tp9, 1, tl⟩, [], ts, tt, 0, ⟨[], 5, []⟩, [], [], [], 0, 0, 0, t5, [], none, 0⟩, rfl, rfl, ⟨⟨.nil, .nil, b3, b4⟩, _, I0, next_none hg⟩, rfl, rfl, rfl⟩
    · intro wd rest g stk' k' t ts' tl' tt' tp' q' h5 tk5 hg hk' hr' F5 N5
      obtain ⟨n1, n2, n3, n4⟩ := next_state (tp := tp') (tl := tl') hg b1 b2 hk' hr'
      refine mid_in _ F5 N5 ⟨⟨_, stk', ts', tt', q', ⟨[], 5, []⟩, [], [], [], 0, 0, 0, t5, [], some wd, t⟩, rfl, rfl, ⟨⟨.nil, .nil, b3, b4⟩, _, I0, n3, n1, n2⟩, rfl, rfl, rfl⟩
  · rintro v h5 tk5 _ F5 N5 ⟨q0, rfl, rfl, P0, q1, q2, q3⟩
    repeat' (first | (k_unfold; (try dsimp only)) | (k_end; (with_reducible refine hN8 _ _ ?_); intro kN8; clear hN8 hO8; (try clear qN8); first | with_reducible refine execs_one ?_ | (refine execs_more ?_; intro qN8 hN8 hO8)) | (k_end; (with_reducible refine hO8 _ _ ?zn8 ?_); (case zn8 => first | exact ne_ret _ | exact ne_brk | exact ne_cont); clear hN8 hO8; (try clear qN8)) | (k_end; wrow_close) | ((with_reducible show wpAny _ _ (exec _ _) _ _ _); (first | ((with_reducible show wpAny _ _ (exec (Stmt.While (Expr.Compare _ _ _ _) _ _ _) _) _ _ _); (k_here; refine stop_in ?_)) | ((with_reducible show wpAny _ _ (exec (Stmt.If (Expr.Compare _ _ _ _) _ _ _) _) _ _ _); (k_here; refine stop_in ?_)) | ((with_reducible show wpAny _ _ (exec (Stmt.While (Expr.Compare _ _ _ _) _ _ _) _) _ _ _); (k_here; refine stop_in ?_)) | ((with_reducible show wpAny _ _ (exec (Stmt.If _ _ _ _) _) _ _ _); (k_here; refine wpAny_If ?_)))) | ((with_reducible show wpAny _ _ (call _ _ _) _ _ _); (first | (k_here; (with_reducible show wpAny _ _ (call (Value.ref 869) [Value.str _ _]) _ _ _); refine stop_in ?_) | (k_here; (with_reducible show wpAny _ _ (call (Value.ref 827) (Value.str (Str.ofString "/") _ :: _)) _ _ _); k_dflt (refine' says_pure (join_says _ _ _ _ _ _ ?zqka ?zqkb) ?k1 ?k2 ?k3 ?k4 ?k5 ?kK ?kd ?ku ?_; (case zqka => assumption); tb_rel; (case zqkb => assumption); intro t9Z h9Z tk9Z F9Z N9Z; (try dsimp only); (try k_fold))) | (k_here; (with_reducible show wpAny _ _ (call (Value.ref 848) _) _ _ _); refine stop_in ?_) | (k_here; (with_reducible show wpAny _ _ (call (Value.ref 820) [Value.str _ _]) _ _ _); k_dflt (refine' says_pure (isabs_says _ _ _ _) ?k1 ?k2 ?k3 ?k4 ?k5 ?kK ?kd ?ku ?_; tb_rel; intro t9Z h9Z tk9Z F9Z N9Z; (try dsimp only); (try k_fold))) | (k_here; (with_reducible show wpAny _ _ (call (Value.ref 841) [Value.str _ _]) _ _ _); k_dflt (refine' says_pure (dirname_says _ _ _ _ ?zqka) ?k1 ?k2 ?k3 ?k4 ?k5 ?kK ?kd ?ku ?_; tb_rel; (case zqka => first | assumption | omega); intro t9Z h9Z tk9Z F9Z N9Z; (try dsimp only); (try k_fold))) | (k_here; (with_reducible show wpAny _ _ (call (Value.ref 827) [Value.str _ _, Value.str _ _]) _ _ _); k_dflt (refine' says_pure (join2_says _ _ _ _ _ _ ?zqka ?zqkb) ?k1 ?k2 ?k3 ?k4 ?k5 ?kK ?kd ?ku ?_; tb_rel; (case zqka | zqkb => first | assumption | omega | decide +kernel); intro t9Z h9Z tk9Z F9Z N9Z; (try dsimp only); (try k_fold))) | (k_here; (with_reducible show wpAny _ _ (call (Value.ref 705) _) _ _ _); k_dflt (refine' lead_use ?zqa1 ?zqa2 ?zqa3 ?zqa4 ?zqa5 ?k1 ?k2 ?k3 ?k4 ?k5 ?kK ?kd ?ku ?_; tb_rel; (case zqa1 | zqa2 => k_mem); (case zqa3 | zqa4 | zqa5 => assumption); intro t9Z h9Z tk9Z F9Z N9Z; (try dsimp only); (try k_fold))) | ((with_reducible show wpAny _ _ (call (Value.builtin "list.append") _ _) _ _ _); (k_here; refine stop_in ?_)) | (k_here; (with_reducible show wpAny _ _ (call (Value.ref 669) _) _ _ _); refine stop_in ?_) | (k_here; (with_reducible show wpAny _ _ (call (Value.ref 683) _) _ _ _); refine stop_in ?_) | (k_here; (with_reducible show wpAny _ _ (call (Value.builtin "len") [Value.ref _]) _ _ _); k_dflt (refine' len_made ?k1 ?k2 ?k3 ?_; (case k1 => k_asm); (case k2 => k_mem); (case k3 => omega); k_whole); intro t9Z tk9Z) | ((with_reducible show wpAny _ _ (call (Value.builtin "list.append") _ _) _ _ _); (k_here; k_dflt (refine' append_snoc ?k1 ?k2 ?k3 ?k4 ?_; (case k1 | k2 => k_asm); (case k3 => k_upd); (case k4 => omega); k_whole); intro h'Z F'Z N'Z; (try k_sweep))) | (k_here; (with_reducible show wpAny _ _ (call (Value.builtin "len") [Value.ref _]) _ _ _); k_dflt (refine' dq_len ?k1 ?k2 ?k3 ?_; (case k1 => k_asm); (case k2 => k_mem); (case k3 => first | assumption | omega | (simp only [List.length_cons, List.length_nil] at *; omega)); k_whole)))) | ((with_reducible show wpAny _ _ (setItem (Value.ref _) (Value.int _ _) _) _ _ _); (k_here; refine stop_in ?_)) | ((with_reducible show KswEnd _ _ _ _ _ _ _ _ _ _ _ _); (refine stop_in ?_)) | ((with_reducible show wpAny _ _ (subscriptTail _ _ _ _) _ _ _); (first | (k_here; (with_reducible show wpAny _ _ (subscriptTail _ _ (Value.ref _) (Value.str _ _)) _ _ _); k_dflt (refine' links_item ?k1 ?k2 ?k3 ?k4 ?_ ?zqk6 ?zqk7; (case k1 => k_asm); (case k2 => k_mem); (case k3 | k4 => assumption); (case zqk6 => with_unfolding_all rfl); (case zqk7 => intro _; with_unfolding_all rfl); k_whole); intro u9Z) | (k_here; (with_reducible show wpAny _ _ (subscriptTail _ _ (Value.ref _) (Value.str _ _)) _ _ _); k_dflt (refine' links_itemI ?k1 ?k2 ?k3 ?k4 ?k5 ?_ ?zqk6 ?zqk7; (case k1 => k_asm); (case k2 => k_mem); (case k3 | k4 | k5 => assumption); (case zqk6 => with_unfolding_all rfl); (case zqk7 => intro _; with_unfolding_all rfl); k_whole); intro t9Z u9Z hk9Z hz9Z) | (k_here; (with_reducible show wpAny _ _ (subscriptTail _ _ (Value.ref _) (Value.int (-1) _)) _ _ _); k_dflt (refine' item_last ?k1 ?k2 ?_ ?k4; (case k1 => k_asm); (case k2 => k_mem); (case k4 => with_unfolding_all rfl); k_whole)))) | ((with_reducible show wpAny _ _ (compareOp _ _ _) _ _ _); (first | ((with_reducible show wpAny _ _ (compareOp CmpOp.In (Value.str _ _) (Value.ref _)) _ _ _); (k_here; k_dflt (refine' links_inB ?k1 ?k2 ?k3 ?_; (case k1 => k_asm); (case k2 => k_mem); (case k3 => assumption); k_whole))) | ((with_reducible show wpAny _ _ (compareOp CmpOp.In (Value.str _ _) (Value.ref _)) _ _ _); (k_here; k_dflt (refine' links_in ?k1 ?k2 ?k3 ?k4 ?_; (case k1 => k_asm); (case k2 => k_mem); (case k3 | k4 => assumption); k_whole))) | (k_here; (with_reducible show wpAny _ _ (compareOp CmpOp.In (Value.str _ _) (Value.str _ _)) _ _ _); first | (refine in_known (b := false) (by assumption) ?_) | (refine in_known (b := true) (by assumption) ?_) | (refine in_known (b := false) (by decide +kernel) ?_) | (refine in_known (b := true) (by decide +kernel) ?_)))) | ((with_reducible show wpAny _ _ (binaryOp Operator.Add (Value.ref _) (Value.ref _)) _ _ _); (k_here; k_dflt (refine' cat_made ?zqF ?zqN ?zql ?zqb ?zqz ?_; (case zqF | zqN => k_asm); (case zql | zqb => k_mem); (case zqz => (simp only [List.length_append, List.length_cons, List.length_nil]; omega)); k_whole); intro D'Z h'Z F'Z N'Z l1Z; (try k_lt l1Z); (try k_sweep))) | ((with_reducible show StarOf _ _ _ (Value.ref _) _ _); (k_here; k_dflt (refine' star_seq ?k1 ?k2 ?zqm ?zqc ?zqd ?zqT ?zqe ?zqz ?_; (case k1 | k2 => k_asm); (case zqm => k_mem); (case zqc | zqd => exact rfl); (case zqT => exact .inl rfl); (case zqe => exact rfl); (case zqz => (rw [List.size_toArray, sizeLine_eq]; omega)); k_whole); intro h'Z F'Z N'Z; (try k_sweep); try dsimp only [List.nil_append, List.cons_append])) | ((with_reducible show wpAny _ _ (truthy _) _ _ _); (first | ((with_reducible show wpAny _ _ (truthy (Value.ref _)) _ _ _); (k_here; k_dflt (first | (refine' truthy_nil ?k1 ?k2 ?_; (case k1 => k_asm); (case k2 => k_mem); k_whole) | (refine' truthy_snoc ?k1 ?k2 ?k3 ?_; (case k1 => k_asm); (case k2 => k_mem); (case k3 => omega); k_whole)))) | ((with_reducible show wpAny _ _ (truthy (Value.ref _)) _ _ _); (k_here; k_dflt (refine' dq_truthy ?k1 ?k2 ?k3 ?_; (case k1 => k_asm); (case k2 => k_mem); (case k3 => first | assumption | omega | (simp only [List.length_cons, List.length_nil] at *; omega)); k_whole))) | (k_here; (with_reducible show wpAny _ _ (truthy (Value.str _ _)) _ _ _); refine truthy_long (by assumption) (by omega) ?_; intro _))) | ((with_reducible show wpAny _ _ (execs _ _) _ _ _); (first | ((with_reducible show wpAny _ _ (execs [] _) _ _ _); (k_here; refine wpAny_execs_nil ?_)) | ((with_reducible show wpAny _ _ (execs (_ :: _) _) _ _ _); (k_here; (try dsimp only); (try k_fold); first | with_reducible refine execs_one ?_ | (refine execs_more ?_; intro qN8 hN8 hO8))))) | walk1 | ((with_reducible show wpAny _ _ _ _ _ _); dsimp only) | (leave1; walk_say "STEP leave1"; try dsimp only) | fail "no step")
    unfold Stop
    rename Fr _ _ _ (fun y => _) => F6
    refine fr_fun F6 ?_
    intro mF hmF
    obtain ⟨tH, hH⟩ : ∃ t, mF (Str.ofString "here") = some (.str (Str.ofString "/") t) := ⟨_, by rw [hmF]; rfl⟩
    have hLf : mF (Str.ofString "left") = some (.int 5 t5) := by rw [hmF]; rfl
    have hWd : mF (Str.ofString "word") = some (rWord q0) := by rw [hmF]; rfl
    rw [hmF] at hH hLf hWd
    clear hmF
    refine ksw_while (σ := RSt) (rLed w X D TD RW D0 c o R) (fun q => [(Str.ofString "here", .str (hereOf q.st.names) q.th), (Str.ofString "left", .int (q.st.left : Int) q.tl), (Str.ofString "word", rWord q)]) (fun _ => True) [Str.ofString "place"] (RP (lkC lc) FIN X D TD RW D0 c o R) rMu { q0 with th := tH } F6 (by assumption) trivial (fun p hp => ?_) P0 ?_
    · rcases List.mem_cons.mp hp with rfl | hp
      · show _ = some (Value.str (hereOf q0.st.names) tH)
        rw [q1, ← slash_here]; exact hH
      · rcases List.mem_cons.mp hp with rfl | hp
        · show _ = some (Value.int (q0.st.left : Int) q0.tl)
          rw [q1, q3]; exact hLf
        · rw [List.mem_singleton.mp hp]; exact hWd
    · clear hH hLf hWd P0
      rintro ⟨f, stk, ts1, tt1, qq, ⟨names, left, told⟩, row, tv, rv, tn, rn, th, tl1, add, pend, tw⟩ u h7 tk7 - ⟨P1, fs0, I, P2⟩ F7 N7
      cases pend with
      | none =>
        simp only [rLed, rWord, kstB] at F7 N7 P2
        dsimp only at F7 N7 P1 I P2
        simp only [rBase] at N7
        have z1 := I.small
        have z2 : rowW row = (row.map (·.length)).sum + row.length := sum1 row
        unfold wt at z1
        dsimp only at z1
        have z3 := P1.rows.length
        have z4 := P1.told.length
        have z5 : StrsAre rv row := P1.rows
        have z6 : (Str.ofString "/").length + (row.map (·.length)).sum + row.length ≤ 100000 := by rw [show (Str.ofString "/").length = 1 by decide +kernel]; omega
        have eF := inv_end I P2
        have ns := norm_slice (rowC row) (rowC_good I.rows)
        have ejr := join_row row I.rows
        have zr := joinAll_len row (Str.ofString "/")
        rw [ejr] at zr
        have zr2 : (hereOf (rowC row)).length ≤ 30000 := by
          rw [show (Str.ofString "/").length = 1 by decide +kernel] at zr
          omega
        have zr3 : 0 < (hereOf (rowC row)).length := by
          have := here_ne (rowC row)
          rw [← sg_len]
          exact List.length_pos_iff.mpr this
        have zsp : ((Txt.split (Txt.join (Str.ofString "/") (rowC row)) (Str.ofString "/")).map (·.length)).sum + (Txt.split (Txt.join (Str.ofString "/") (rowC row)) (Str.ofString "/")).length ≤ 100000 := by
          have q1 := split_weight (Txt.join (Str.ofString "/") (rowC row)) (Str.ofString "/") (by decide +kernel)
          have q2 : (hereOf (rowC row)).length = 1 + (Txt.join (Str.ofString "/") (rowC row)).length := by
            unfold hereOf
            rw [Str.length_append, show (Str.ofString "/").length = 1 by decide +kernel]
          omega
        have enm : Str.ofString "/" ++ Txt.join (Str.ofString "/") ((Txt.split (Txt.join (Str.ofString "/") (rowC row)) (Str.ofString "/")).foldl normStep []) = hereOf names := by
          rw [split_names (rowC_good I.rows), I.norm]; rfl
        have ztl : tv.length ≤ 50000 := by
          have h9 : tv.length = told.length := z4
          omega
        repeat' (first | (k_unfold; (try dsimp only)) | (k_end; (with_reducible refine hN8 _ _ ?_); intro kN8; clear hN8 hO8; (try clear qN8); first | with_reducible refine execs_one ?_ | (refine execs_more ?_; intro qN8 hN8 hO8)) | (k_end; (with_reducible refine hO8 _ _ ?zn8 ?_); (case zn8 => first | exact ne_ret _ | exact ne_brk | exact ne_cont); clear hN8 hO8; (try clear qN8)) | (k_end; wrow_close) | ((with_reducible show wpAny _ _ (exec _ _) _ _ _); (first | ((with_reducible show wpAny _ _ (exec (Stmt.While (Expr.Compare _ _ _ _) _ _ _) _) _ _ _); (k_here; refine stop_in ?_)) | ((with_reducible show wpAny _ _ (exec (Stmt.If (Expr.Compare _ _ _ _) _ _ _) _) _ _ _); (k_here; refine stop_in ?_)) | ((with_reducible show wpAny _ _ (exec (Stmt.While (Expr.Compare _ _ _ _) _ _ _) _) _ _ _); (k_here; refine stop_in ?_)) | ((with_reducible show wpAny _ _ (exec (Stmt.If _ _ _ _) _) _ _ _); (k_here; refine wpAny_If ?_)))) | ((with_reducible show wpAny _ _ (call _ _ _) _ _ _); (first | (k_here; (with_reducible show wpAny _ _ (call (Value.ref 869) [Value.str _ _]) _ _ _); refine stop_in ?_) | (k_here; (with_reducible show wpAny _ _ (call (Value.ref 827) (Value.str (Str.ofString "/") _ :: _)) _ _ _); k_dflt (refine' says_pure (join_says _ _ _ _ _ _ ?zqka ?zqkb) ?k1 ?k2 ?k3 ?k4 ?k5 ?kK ?kd ?ku ?_; (case zqka => assumption); tb_rel; (case zqkb => assumption); intro t9Z h9Z tk9Z F9Z N9Z; (try dsimp only); (try k_fold))) | (k_here; (with_reducible show wpAny _ _ (call (Value.ref 848) _) _ _ _); refine stop_in ?_) | (k_here; (with_reducible show wpAny _ _ (call (Value.ref 820) [Value.str _ _]) _ _ _); k_dflt (refine' says_pure (isabs_says _ _ _ _) ?k1 ?k2 ?k3 ?k4 ?k5 ?kK ?kd ?ku ?_; tb_rel; intro t9Z h9Z tk9Z F9Z N9Z; (try dsimp only); (try k_fold))) | (k_here; (with_reducible show wpAny _ _ (call (Value.ref 841) [Value.str _ _]) _ _ _); k_dflt (refine' says_pure (dirname_says _ _ _ _ ?zqka) ?k1 ?k2 ?k3 ?k4 ?k5 ?kK ?kd ?ku ?_; tb_rel; (case zqka => first | assumption | omega); intro t9Z h9Z tk9Z F9Z N9Z; (try dsimp only); (try k_fold))) | (k_here; (with_reducible show wpAny _ _ (call (Value.ref 827) [Value.str _ _, Value.str _ _]) _ _ _); k_dflt (refine' says_pure (join2_says _ _ _ _ _ _ ?zqka ?zqkb) ?k1 ?k2 ?k3 ?k4 ?k5 ?kK ?kd ?ku ?_; tb_rel; (case zqka | zqkb => first | assumption | omega | decide +kernel); intro t9Z h9Z tk9Z F9Z N9Z; (try dsimp only); (try k_fold))) | (k_here; (with_reducible show wpAny _ _ (call (Value.ref 705) _) _ _ _); k_dflt (refine' lead_use ?zqa1 ?zqa2 ?zqa3 ?zqa4 ?zqa5 ?k1 ?k2 ?k3 ?k4 ?k5 ?kK ?kd ?ku ?_; tb_rel; (case zqa1 | zqa2 => k_mem); (case zqa3 | zqa4 | zqa5 => assumption); intro t9Z h9Z tk9Z F9Z N9Z; (try dsimp only); (try k_fold))) | ((with_reducible show wpAny _ _ (call (Value.builtin "list.append") _ _) _ _ _); (k_here; refine stop_in ?_)) | (k_here; (with_reducible show wpAny _ _ (call (Value.ref 669) _) _ _ _); refine stop_in ?_) | (k_here; (with_reducible show wpAny _ _ (call (Value.ref 683) _) _ _ _); refine stop_in ?_) | (k_here; (with_reducible show wpAny _ _ (call (Value.builtin "len") [Value.ref _]) _ _ _); k_dflt (refine' len_made ?k1 ?k2 ?k3 ?_; (case k1 => k_asm); (case k2 => k_mem); (case k3 => omega); k_whole); intro t9Z tk9Z) | ((with_reducible show wpAny _ _ (call (Value.builtin "list.append") _ _) _ _ _); (k_here; k_dflt (refine' append_snoc ?k1 ?k2 ?k3 ?k4 ?_; (case k1 | k2 => k_asm); (case k3 => k_upd); (case k4 => omega); k_whole); intro h'Z F'Z N'Z; (try k_sweep))) | (k_here; (with_reducible show wpAny _ _ (call (Value.builtin "len") [Value.ref _]) _ _ _); k_dflt (refine' dq_len ?k1 ?k2 ?k3 ?_; (case k1 => k_asm); (case k2 => k_mem); (case k3 => first | assumption | omega | (simp only [List.length_cons, List.length_nil] at *; omega)); k_whole)))) | ((with_reducible show wpAny _ _ (setItem (Value.ref _) (Value.int _ _) _) _ _ _); (k_here; refine stop_in ?_)) | ((with_reducible show KswEnd _ _ _ _ _ _ _ _ _ _ _ _); (refine stop_in ?_)) | ((with_reducible show wpAny _ _ (subscriptTail _ _ _ _) _ _ _); (first | (k_here; (with_reducible show wpAny _ _ (subscriptTail _ _ (Value.ref _) (Value.str _ _)) _ _ _); k_dflt (refine' links_item ?k1 ?k2 ?k3 ?k4 ?_ ?zqk6 ?zqk7; (case k1 => k_asm); (case k2 => k_mem); (case k3 | k4 => assumption); (case zqk6 => with_unfolding_all rfl); (case zqk7 => intro _; with_unfolding_all rfl); k_whole); intro u9Z) | (k_here; (with_reducible show wpAny _ _ (subscriptTail _ _ (Value.ref _) (Value.str _ _)) _ _ _); k_dflt (refine' links_itemI ?k1 ?k2 ?k3 ?k4 ?k5 ?_ ?zqk6 ?zqk7; (case k1 => k_asm); (case k2 => k_mem); (case k3 | k4 | k5 => assumption); (case zqk6 => with_unfolding_all rfl); (case zqk7 => intro _; with_unfolding_all rfl); k_whole); intro t9Z u9Z hk9Z hz9Z) | (k_here; (with_reducible show wpAny _ _ (subscriptTail _ _ (Value.ref _) (Value.int (-1) _)) _ _ _); k_dflt (refine' item_last ?k1 ?k2 ?_ ?k4; (case k1 => k_asm); (case k2 => k_mem); (case k4 => with_unfolding_all rfl); k_whole)))) | ((with_reducible show wpAny _ _ (compareOp _ _ _) _ _ _); (first | ((with_reducible show wpAny _ _ (compareOp CmpOp.In (Value.str _ _) (Value.ref _)) _ _ _); (k_here; k_dflt (refine' links_inB ?k1 ?k2 ?k3 ?_; (case k1 => k_asm); (case k2 => k_mem); (case k3 => assumption); k_whole))) | ((with_reducible show wpAny _ _ (compareOp CmpOp.In (Value.str _ _) (Value.ref _)) _ _ _); (k_here; k_dflt (refine' links_in ?k1 ?k2 ?k3 ?k4 ?_; (case k1 => k_asm); (case k2 => k_mem); (case k3 | k4 => assumption); k_whole))) | (k_here; (with_reducible show wpAny _ _ (compareOp CmpOp.In (Value.str _ _) (Value.str _ _)) _ _ _); first | (refine in_known (b := false) (by assumption) ?_) | (refine in_known (b := true) (by assumption) ?_) | (refine in_known (b := false) (by decide +kernel) ?_) | (refine in_known (b := true) (by decide +kernel) ?_)))) | ((with_reducible show wpAny _ _ (binaryOp Operator.Add (Value.ref _) (Value.ref _)) _ _ _); (k_here; k_dflt (refine' cat_made ?zqF ?zqN ?zql ?zqb ?zqz ?_; (case zqF | zqN => k_asm); (case zql | zqb => k_mem); (case zqz => (simp only [List.length_append, List.length_cons, List.length_nil]; omega)); k_whole); intro D'Z h'Z F'Z N'Z l1Z; (try k_lt l1Z); (try k_sweep))) | ((with_reducible show StarOf _ _ _ (Value.ref _) _ _); (k_here; k_dflt (refine' star_seq ?k1 ?k2 ?zqm ?zqc ?zqd ?zqT ?zqe ?zqz ?_; (case k1 | k2 => k_asm); (case zqm => k_mem); (case zqc | zqd => exact rfl); (case zqT => exact .inl rfl); (case zqe => exact rfl); (case zqz => (rw [List.size_toArray, sizeLine_eq]; omega)); k_whole); intro h'Z F'Z N'Z; (try k_sweep); try dsimp only [List.nil_append, List.cons_append])) | ((with_reducible show wpAny _ _ (truthy _) _ _ _); (first | ((with_reducible show wpAny _ _ (truthy (Value.ref _)) _ _ _); (k_here; k_dflt (first | (refine' truthy_nil ?k1 ?k2 ?_; (case k1 => k_asm); (case k2 => k_mem); k_whole) | (refine' truthy_snoc ?k1 ?k2 ?k3 ?_; (case k1 => k_asm); (case k2 => k_mem); (case k3 => omega); k_whole)))) | ((with_reducible show wpAny _ _ (truthy (Value.ref _)) _ _ _); (k_here; k_dflt (refine' dq_truthy ?k1 ?k2 ?k3 ?_; (case k1 => k_asm); (case k2 => k_mem); (case k3 => first | assumption | omega | (simp only [List.length_cons, List.length_nil] at *; omega)); k_whole))) | (k_here; (with_reducible show wpAny _ _ (truthy (Value.str _ _)) _ _ _); refine truthy_long (by assumption) (by omega) ?_; intro _))) | ((with_reducible show wpAny _ _ (execs _ _) _ _ _); (first | ((with_reducible show wpAny _ _ (execs [] _) _ _ _); (k_here; refine wpAny_execs_nil ?_)) | ((with_reducible show wpAny _ _ (execs (_ :: _) _) _ _ _); (k_here; (try dsimp only); (try k_fold); first | with_reducible refine execs_one ?_ | (refine execs_more ?_; intro qN8 hN8 hO8))))) | walk1 | ((with_reducible show wpAny _ _ _ _ _ _); dsimp only) | (leave1; walk_say "STEP leave1"; try dsimp only) | fail "no step")
        rw [List.append_nil]
        refine says_pure (join_says w (Str.ofString "/") _ rv row _ z5 z6) (by assumption) (by assumption) (by assumption) (by assumption) (by assumption) rfl (by k_room) (by k_units) ?_
        intro t30 h30 tk30 F30 N30
        (try dsimp only)
        rw [ejr]
        repeat' (first | (k_unfold; (try dsimp only)) | (k_end; (with_reducible refine hN8 _ _ ?_); intro kN8; clear hN8 hO8; (try clear qN8); first | with_reducible refine execs_one ?_ | (refine execs_more ?_; intro qN8 hN8 hO8)) | (k_end; (with_reducible refine hO8 _ _ ?zn8 ?_); (case zn8 => first | exact ne_ret _ | exact ne_brk | exact ne_cont); clear hN8 hO8; (try clear qN8)) | (k_end; wrow_close) | ((with_reducible show wpAny _ _ (exec _ _) _ _ _); (first | ((with_reducible show wpAny _ _ (exec (Stmt.While (Expr.Compare _ _ _ _) _ _ _) _) _ _ _); (k_here; refine stop_in ?_)) | ((with_reducible show wpAny _ _ (exec (Stmt.If (Expr.Compare _ _ _ _) _ _ _) _) _ _ _); (k_here; refine stop_in ?_)) | ((with_reducible show wpAny _ _ (exec (Stmt.While (Expr.Compare _ _ _ _) _ _ _) _) _ _ _); (k_here; refine stop_in ?_)) | ((with_reducible show wpAny _ _ (exec (Stmt.If _ _ _ _) _) _ _ _); (k_here; refine wpAny_If ?_)))) | ((with_reducible show wpAny _ _ (call _ _ _) _ _ _); (first | (k_here; (with_reducible show wpAny _ _ (call (Value.ref 869) [Value.str _ _]) _ _ _); refine stop_in ?_) | (k_here; (with_reducible show wpAny _ _ (call (Value.ref 827) (Value.str (Str.ofString "/") _ :: _)) _ _ _); k_dflt (refine' says_pure (join_says _ _ _ _ _ _ ?zqka ?zqkb) ?k1 ?k2 ?k3 ?k4 ?k5 ?kK ?kd ?ku ?_; (case zqka => assumption); tb_rel; (case zqkb => assumption); intro t9Z h9Z tk9Z F9Z N9Z; (try dsimp only); (try k_fold))) | (k_here; (with_reducible show wpAny _ _ (call (Value.ref 848) _) _ _ _); refine stop_in ?_) | (k_here; (with_reducible show wpAny _ _ (call (Value.ref 820) [Value.str _ _]) _ _ _); k_dflt (refine' says_pure (isabs_says _ _ _ _) ?k1 ?k2 ?k3 ?k4 ?k5 ?kK ?kd ?ku ?_; tb_rel; intro t9Z h9Z tk9Z F9Z N9Z; (try dsimp only); (try k_fold))) | (k_here; (with_reducible show wpAny _ _ (call (Value.ref 841) [Value.str _ _]) _ _ _); k_dflt (refine' says_pure (dirname_says _ _ _ _ ?zqka) ?k1 ?k2 ?k3 ?k4 ?k5 ?kK ?kd ?ku ?_; tb_rel; (case zqka => first | assumption | omega); intro t9Z h9Z tk9Z F9Z N9Z; (try dsimp only); (try k_fold))) | (k_here; (with_reducible show wpAny _ _ (call (Value.ref 827) [Value.str _ _, Value.str _ _]) _ _ _); k_dflt (refine' says_pure (join2_says _ _ _ _ _ _ ?zqka ?zqkb) ?k1 ?k2 ?k3 ?k4 ?k5 ?kK ?kd ?ku ?_; tb_rel; (case zqka | zqkb => first | assumption | omega | decide +kernel); intro t9Z h9Z tk9Z F9Z N9Z; (try dsimp only); (try k_fold))) | (k_here; (with_reducible show wpAny _ _ (call (Value.ref 705) _) _ _ _); k_dflt (refine' lead_use ?zqa1 ?zqa2 ?zqa3 ?zqa4 ?zqa5 ?k1 ?k2 ?k3 ?k4 ?k5 ?kK ?kd ?ku ?_; tb_rel; (case zqa1 | zqa2 => k_mem); (case zqa3 | zqa4 | zqa5 => assumption); intro t9Z h9Z tk9Z F9Z N9Z; (try dsimp only); (try k_fold))) | ((with_reducible show wpAny _ _ (call (Value.builtin "list.append") _ _) _ _ _); (k_here; refine stop_in ?_)) | (k_here; (with_reducible show wpAny _ _ (call (Value.ref 669) _) _ _ _); refine stop_in ?_) | (k_here; (with_reducible show wpAny _ _ (call (Value.ref 683) _) _ _ _); refine stop_in ?_) | (k_here; (with_reducible show wpAny _ _ (call (Value.builtin "len") [Value.ref _]) _ _ _); k_dflt (refine' len_made ?k1 ?k2 ?k3 ?_; (case k1 => k_asm); (case k2 => k_mem); (case k3 => omega); k_whole); intro t9Z tk9Z) | ((with_reducible show wpAny _ _ (call (Value.builtin "list.append") _ _) _ _ _); (k_here; k_dflt (refine' append_snoc ?k1 ?k2 ?k3 ?k4 ?_; (case k1 | k2 => k_asm); (case k3 => k_upd); (case k4 => omega); k_whole); intro h'Z F'Z N'Z; (try k_sweep))) | (k_here; (with_reducible show wpAny _ _ (call (Value.builtin "len") [Value.ref _]) _ _ _); k_dflt (refine' dq_len ?k1 ?k2 ?k3 ?_; (case k1 => k_asm); (case k2 => k_mem); (case k3 => first | assumption | omega | (simp only [List.length_cons, List.length_nil] at *; omega)); k_whole)))) | ((with_reducible show wpAny _ _ (setItem (Value.ref _) (Value.int _ _) _) _ _ _); (k_here; refine stop_in ?_)) | ((with_reducible show KswEnd _ _ _ _ _ _ _ _ _ _ _ _); (refine stop_in ?_)) | ((with_reducible show wpAny _ _ (subscriptTail _ _ _ _) _ _ _); (first | (k_here; (with_reducible show wpAny _ _ (subscriptTail _ _ (Value.ref _) (Value.str _ _)) _ _ _); k_dflt (refine' links_item ?k1 ?k2 ?k3 ?k4 ?_ ?zqk6 ?zqk7; (case k1 => k_asm); (case k2 => k_mem); (case k3 | k4 => assumption); (case zqk6 => with_unfolding_all rfl); (case zqk7 => intro _; with_unfolding_all rfl); k_whole); intro u9Z) | (k_here; (with_reducible show wpAny _ _ (subscriptTail _ _ (Value.ref _) (Value.str _ _)) _ _ _); k_dflt (refine' links_itemI ?k1 ?k2 ?k3 ?k4 ?k5 ?_ ?zqk6 ?zqk7; (case k1 => k_asm); (case k2 => k_mem); (case k3 | k4 | k5 => assumption); (case zqk6 => with_unfolding_all rfl); (case zqk7 => intro _; with_unfolding_all rfl); k_whole); intro t9Z u9Z hk9Z hz9Z) | (k_here; (with_reducible show wpAny _ _ (subscriptTail _ _ (Value.ref _) (Value.int (-1) _)) _ _ _); k_dflt (refine' item_last ?k1 ?k2 ?_ ?k4; (case k1 => k_asm); (case k2 => k_mem); (case k4 => with_unfolding_all rfl); k_whole)))) | ((with_reducible show wpAny _ _ (compareOp _ _ _) _ _ _); (first | ((with_reducible show wpAny _ _ (compareOp CmpOp.In (Value.str _ _) (Value.ref _)) _ _ _); (k_here; k_dflt (refine' links_inB ?k1 ?k2 ?k3 ?_; (case k1 => k_asm); (case k2 => k_mem); (case k3 => assumption); k_whole))) | ((with_reducible show wpAny _ _ (compareOp CmpOp.In (Value.str _ _) (Value.ref _)) _ _ _); (k_here; k_dflt (refine' links_in ?k1 ?k2 ?k3 ?k4 ?_; (case k1 => k_asm); (case k2 => k_mem); (case k3 | k4 => assumption); k_whole))) | (k_here; (with_reducible show wpAny _ _ (compareOp CmpOp.In (Value.str _ _) (Value.str _ _)) _ _ _); first | (refine in_known (b := false) (by assumption) ?_) | (refine in_known (b := true) (by assumption) ?_) | (refine in_known (b := false) (by decide +kernel) ?_) | (refine in_known (b := true) (by decide +kernel) ?_)))) | ((with_reducible show wpAny _ _ (binaryOp Operator.Add (Value.ref _) (Value.ref _)) _ _ _); (k_here; k_dflt (refine' cat_made ?zqF ?zqN ?zql ?zqb ?zqz ?_; (case zqF | zqN => k_asm); (case zql | zqb => k_mem); (case zqz => (simp only [List.length_append, List.length_cons, List.length_nil]; omega)); k_whole); intro D'Z h'Z F'Z N'Z l1Z; (try k_lt l1Z); (try k_sweep))) | ((with_reducible show StarOf _ _ _ (Value.ref _) _ _); (k_here; k_dflt (refine' star_seq ?k1 ?k2 ?zqm ?zqc ?zqd ?zqT ?zqe ?zqz ?_; (case k1 | k2 => k_asm); (case zqm => k_mem); (case zqc | zqd => exact rfl); (case zqT => exact .inl rfl); (case zqe => exact rfl); (case zqz => (rw [List.size_toArray, sizeLine_eq]; omega)); k_whole); intro h'Z F'Z N'Z; (try k_sweep); try dsimp only [List.nil_append, List.cons_append])) | ((with_reducible show wpAny _ _ (truthy _) _ _ _); (first | ((with_reducible show wpAny _ _ (truthy (Value.ref _)) _ _ _); (k_here; k_dflt (first | (refine' truthy_nil ?k1 ?k2 ?_; (case k1 => k_asm); (case k2 => k_mem); k_whole) | (refine' truthy_snoc ?k1 ?k2 ?k3 ?_; (case k1 => k_asm); (case k2 => k_mem); (case k3 => omega); k_whole)))) | ((with_reducible show wpAny _ _ (truthy (Value.ref _)) _ _ _); (k_here; k_dflt (refine' dq_truthy ?k1 ?k2 ?k3 ?_; (case k1 => k_asm); (case k2 => k_mem); (case k3 => first | assumption | omega | (simp only [List.length_cons, List.length_nil] at *; omega)); k_whole))) | (k_here; (with_reducible show wpAny _ _ (truthy (Value.str _ _)) _ _ _); refine truthy_long (by assumption) (by omega) ?_; intro _))) | ((with_reducible show wpAny _ _ (execs _ _) _ _ _); (first | ((with_reducible show wpAny _ _ (execs [] _) _ _ _); (k_here; refine wpAny_execs_nil ?_)) | ((with_reducible show wpAny _ _ (execs (_ :: _) _) _ _ _); (k_here; (try dsimp only); (try k_fold); first | with_reducible refine execs_one ?_ | (refine execs_more ?_; intro qN8 hN8 hO8))))) | walk1 | ((with_reducible show wpAny _ _ _ _ _ _); dsimp only) | (leave1; walk_say "STEP leave1"; try dsimp only) | fail "no step")
        unfold Stop
        refine says_pure (normpath_says w (hereOf (rowC row)) (Txt.join (Str.ofString "/") (rowC row)) _ _ _ (by omega) zr3 ns.1 ns.2.1 ns.2.2 rfl zsp) (by assumption) (by assumption) (by assumption) (by assumption) (by assumption) rfl (by k_room) (by k_units) ?_
        intro t31 h31 tk31 F31 N31
        (try dsimp only)
        rw [enm]
        clear F30 N30
        repeat' (first | (k_unfold; (try dsimp only)) | (k_end; (with_reducible refine hN8 _ _ ?_); intro kN8; clear hN8 hO8; (try clear qN8); first | with_reducible refine execs_one ?_ | (refine execs_more ?_; intro qN8 hN8 hO8)) | (k_end; (with_reducible refine hO8 _ _ ?zn8 ?_); (case zn8 => first | exact ne_ret _ | exact ne_brk | exact ne_cont); clear hN8 hO8; (try clear qN8)) | (k_end; wrow_close) | ((with_reducible show wpAny _ _ (exec _ _) _ _ _); (first | ((with_reducible show wpAny _ _ (exec (Stmt.While (Expr.Compare _ _ _ _) _ _ _) _) _ _ _); (k_here; refine stop_in ?_)) | ((with_reducible show wpAny _ _ (exec (Stmt.If (Expr.Compare _ _ _ _) _ _ _) _) _ _ _); (k_here; refine stop_in ?_)) | ((with_reducible show wpAny _ _ (exec (Stmt.While (Expr.Compare _ _ _ _) _ _ _) _) _ _ _); (k_here; refine stop_in ?_)) | ((with_reducible show wpAny _ _ (exec (Stmt.If _ _ _ _) _) _ _ _); (k_here; refine wpAny_If ?_)))) | ((with_reducible show wpAny _ _ (call _ _ _) _ _ _); (first | (k_here; (with_reducible show wpAny _ _ (call (Value.ref 869) [Value.str _ _]) _ _ _); refine stop_in ?_) | (k_here; (with_reducible show wpAny _ _ (call (Value.ref 827) (Value.str (Str.ofString "/") _ :: _)) _ _ _); k_dflt (refine' says_pure (join_says _ _ _ _ _ _ ?zqka ?zqkb) ?k1 ?k2 ?k3 ?k4 ?k5 ?kK ?kd ?ku ?_; (case zqka => assumption); tb_rel; (case zqkb => assumption); intro t9Z h9Z tk9Z F9Z N9Z; (try dsimp only); (try k_fold))) | (k_here; (with_reducible show wpAny _ _ (call (Value.ref 848) _) _ _ _); refine stop_in ?_) | (k_here; (with_reducible show wpAny _ _ (call (Value.ref 820) [Value.str _ _]) _ _ _); k_dflt (refine' says_pure (isabs_says _ _ _ _) ?k1 ?k2 ?k3 ?k4 ?k5 ?kK ?kd ?ku ?_; tb_rel; intro t9Z h9Z tk9Z F9Z N9Z; (try dsimp only); (try k_fold))) | (k_here; (with_reducible show wpAny _ _ (call (Value.ref 841) [Value.str _ _]) _ _ _); k_dflt (refine' says_pure (dirname_says _ _ _ _ ?zqka) ?k1 ?k2 ?k3 ?k4 ?k5 ?kK ?kd ?ku ?_; tb_rel; (case zqka => first | assumption | omega); intro t9Z h9Z tk9Z F9Z N9Z; (try dsimp only); (try k_fold))) | (k_here; (with_reducible show wpAny _ _ (call (Value.ref 827) [Value.str _ _, Value.str _ _]) _ _ _); k_dflt (refine' says_pure (join2_says _ _ _ _ _ _ ?zqka ?zqkb) ?k1 ?k2 ?k3 ?k4 ?k5 ?kK ?kd ?ku ?_; tb_rel; (case zqka | zqkb => first | assumption | omega | decide +kernel); intro t9Z h9Z tk9Z F9Z N9Z; (try dsimp only); (try k_fold))) | (k_here; (with_reducible show wpAny _ _ (call (Value.ref 705) _) _ _ _); k_dflt (refine' lead_use ?zqa1 ?zqa2 ?zqa3 ?zqa4 ?zqa5 ?k1 ?k2 ?k3 ?k4 ?k5 ?kK ?kd ?ku ?_; tb_rel; (case zqa1 | zqa2 => k_mem); (case zqa3 | zqa4 | zqa5 => assumption); intro t9Z h9Z tk9Z F9Z N9Z; (try dsimp only); (try k_fold))) | ((with_reducible show wpAny _ _ (call (Value.builtin "list.append") _ _) _ _ _); (k_here; refine stop_in ?_)) | (k_here; (with_reducible show wpAny _ _ (call (Value.ref 669) _) _ _ _); refine stop_in ?_) | (k_here; (with_reducible show wpAny _ _ (call (Value.ref 683) _) _ _ _); refine stop_in ?_) | (k_here; (with_reducible show wpAny _ _ (call (Value.builtin "len") [Value.ref _]) _ _ _); k_dflt (refine' len_made ?k1 ?k2 ?k3 ?_; (case k1 => k_asm); (case k2 => k_mem); (case k3 => omega); k_whole); intro t9Z tk9Z) | ((with_reducible show wpAny _ _ (call (Value.builtin "list.append") _ _) _ _ _); (k_here; k_dflt (refine' append_snoc ?k1 ?k2 ?k3 ?k4 ?_; (case k1 | k2 => k_asm); (case k3 => k_upd); (case k4 => omega); k_whole); intro h'Z F'Z N'Z; (try k_sweep))) | (k_here; (with_reducible show wpAny _ _ (call (Value.builtin "len") [Value.ref _]) _ _ _); k_dflt (refine' dq_len ?k1 ?k2 ?k3 ?_; (case k1 => k_asm); (case k2 => k_mem); (case k3 => first | assumption | omega | (simp only [List.length_cons, List.length_nil] at *; omega)); k_whole)))) | ((with_reducible show wpAny _ _ (setItem (Value.ref _) (Value.int _ _) _) _ _ _); (k_here; refine stop_in ?_)) | ((with_reducible show KswEnd _ _ _ _ _ _ _ _ _ _ _ _); (refine stop_in ?_)) | ((with_reducible show wpAny _ _ (subscriptTail _ _ _ _) _ _ _); (first | (k_here; (with_reducible show wpAny _ _ (subscriptTail _ _ (Value.ref _) (Value.str _ _)) _ _ _); k_dflt (refine' links_item ?k1 ?k2 ?k3 ?k4 ?_ ?zqk6 ?zqk7; (case k1 => k_asm); (case k2 => k_mem); (case k3 | k4 => assumption); (case zqk6 => with_unfolding_all rfl); (case zqk7 => intro _; with_unfolding_all rfl); k_whole); intro u9Z) | (k_here; (with_reducible show wpAny _ _ (subscriptTail _ _ (Value.ref _) (Value.str _ _)) _ _ _); k_dflt (refine' links_itemI ?k1 ?k2 ?k3 ?k4 ?k5 ?_ ?zqk6 ?zqk7; (case k1 => k_asm); (case k2 => k_mem); (case k3 | k4 | k5 => assumption); (case zqk6 => with_unfolding_all rfl); (case zqk7 => intro _; with_unfolding_all rfl); k_whole); intro t9Z u9Z hk9Z hz9Z) | (k_here; (with_reducible show wpAny _ _ (subscriptTail _ _ (Value.ref _) (Value.int (-1) _)) _ _ _); k_dflt (refine' item_last ?k1 ?k2 ?_ ?k4; (case k1 => k_asm); (case k2 => k_mem); (case k4 => with_unfolding_all rfl); k_whole)))) | ((with_reducible show wpAny _ _ (compareOp _ _ _) _ _ _); (first | ((with_reducible show wpAny _ _ (compareOp CmpOp.In (Value.str _ _) (Value.ref _)) _ _ _); (k_here; k_dflt (refine' links_inB ?k1 ?k2 ?k3 ?_; (case k1 => k_asm); (case k2 => k_mem); (case k3 => assumption); k_whole))) | ((with_reducible show wpAny _ _ (compareOp CmpOp.In (Value.str _ _) (Value.ref _)) _ _ _); (k_here; k_dflt (refine' links_in ?k1 ?k2 ?k3 ?k4 ?_; (case k1 => k_asm); (case k2 => k_mem); (case k3 | k4 => assumption); k_whole))) | (k_here; (with_reducible show wpAny _ _ (compareOp CmpOp.In (Value.str _ _) (Value.str _ _)) _ _ _); first | (refine in_known (b := false) (by assumption) ?_) | (refine in_known (b := true) (by assumption) ?_) | (refine in_known (b := false) (by decide +kernel) ?_) | (refine in_known (b := true) (by decide +kernel) ?_)))) | ((with_reducible show wpAny _ _ (binaryOp Operator.Add (Value.ref _) (Value.ref _)) _ _ _); (k_here; k_dflt (refine' cat_made ?zqF ?zqN ?zql ?zqb ?zqz ?_; (case zqF | zqN => k_asm); (case zql | zqb => k_mem); (case zqz => (simp only [List.length_append, List.length_cons, List.length_nil]; omega)); k_whole); intro D'Z h'Z F'Z N'Z l1Z; (try k_lt l1Z); (try k_sweep))) | ((with_reducible show StarOf _ _ _ (Value.ref _) _ _); (k_here; k_dflt (refine' star_seq ?k1 ?k2 ?zqm ?zqc ?zqd ?zqT ?zqe ?zqz ?_; (case k1 | k2 => k_asm); (case zqm => k_mem); (case zqc | zqd => exact rfl); (case zqT => exact .inl rfl); (case zqe => exact rfl); (case zqz => (rw [List.size_toArray, sizeLine_eq]; omega)); k_whole); intro h'Z F'Z N'Z; (try k_sweep); try dsimp only [List.nil_append, List.cons_append])) | ((with_reducible show wpAny _ _ (truthy _) _ _ _); (first | ((with_reducible show wpAny _ _ (truthy (Value.ref _)) _ _ _); (k_here; k_dflt (first | (refine' truthy_nil ?k1 ?k2 ?_; (case k1 => k_asm); (case k2 => k_mem); k_whole) | (refine' truthy_snoc ?k1 ?k2 ?k3 ?_; (case k1 => k_asm); (case k2 => k_mem); (case k3 => omega); k_whole)))) | ((with_reducible show wpAny _ _ (truthy (Value.ref _)) _ _ _); (k_here; k_dflt (refine' dq_truthy ?k1 ?k2 ?k3 ?_; (case k1 => k_asm); (case k2 => k_mem); (case k3 => first | assumption | omega | (simp only [List.length_cons, List.length_nil] at *; omega)); k_whole))) | (k_here; (with_reducible show wpAny _ _ (truthy (Value.str _ _)) _ _ _); refine truthy_long (by assumption) (by omega) ?_; intro _))) | ((with_reducible show wpAny _ _ (execs _ _) _ _ _); (first | ((with_reducible show wpAny _ _ (execs [] _) _ _ _); (k_here; refine wpAny_execs_nil ?_)) | ((with_reducible show wpAny _ _ (execs (_ :: _) _) _ _ _); (k_here; (try dsimp only); (try k_fold); first | with_reducible refine execs_one ?_ | (refine execs_more ?_; intro qN8 hN8 hO8))))) | walk1 | ((with_reducible show wpAny _ _ _ _ _ _); dsimp only) | (leave1; walk_say "STEP leave1"; try dsimp only) | fail "no step")
        have zD : DatAll add (tv ++ [Value.str (hereOf names) th, Value.str (hereOf names) t31]) (told ++ [.str (hereOf names), .str (hereOf names)]) := P1.told.append (.cons (.str _ _) (.cons (.str _ _) .nil))
        refine hret _ _ _ _ (by assumption) (news_sub (by assumption) (by (repeat' (first | exact nil_sub8 | ((refine sub_cons ?zqmm8 ?_); (case zqmm8 => repeat (first | exact List.mem_cons_self | refine List.mem_cons_of_mem _ ?_ | refine List.mem_append_right _ ?_))) | refine sub_app ?_ ?_)); all_goals (intro pZ hpZ; repeat (first | exact hpZ | exact List.mem_append_left _ hpZ | refine List.mem_cons_of_mem _ ?_ | refine List.mem_append_right _ ?_)))) ⟨_, tv ++ [Value.str (hereOf names) th, Value.str (hereOf names) t31], 0, add, rfl, rfl, ?_⟩
        · rw [← eF]; exact zD
      | some wd =>
        simp only [rLed, rWord, kstB] at F7 N7 P2
        dsimp only at F7 N7 P1 I P2
        refine fr_let F7 ?_
        intro mK8 F7'
        clear F7
        obtain ⟨P2, P3, P4⟩ := P2
        refine named (stkLed w stk ++ (add ++ R)) ?_
        intro R2 hR2
        have inS : ∀ p ∈ stkLed w stk, p ∈ R2 := fun p hp => by rw [hR2]; exact List.mem_append_left _ hp
        have inA : ∀ p ∈ add, p ∈ R2 := fun p hp => by rw [hR2]; exact List.mem_append_right _ (List.mem_append_left _ hp)
        have inR : ∀ p ∈ R, p ∈ R2 := fun p hp => by rw [hR2]; exact List.mem_append_right _ (List.mem_append_right _ hp)
        replace N7 : News _ _ _ ((TD, listOf tv.toArray tn) :: (RW, listOf rv.toArray rn) :: (D0, o) :: (f.S, instObj 587 f.DS) :: (f.DS, sioD w f.sc f.buf (f.k : Int) f.tp) :: (X, instObj 722 D) :: (D, lexD w c f.S f.inf f.ti (.str (Str.ofString " ") ts1) f.line f.tl (Str.ofString "") tt1) :: (c.fs, dqObj qq (stk.map fun p => .ref p.1)) :: (c.pb, dqObj 0 []) :: R2) := news_sub N7 (by (repeat' (first | exact nil_sub8 | ((refine sub_cons ?zqmm8 ?_); (case zqmm8 => repeat (first | exact List.mem_cons_self | refine List.mem_cons_of_mem _ ?_ | refine List.mem_append_right _ ?_))))); intro pZ hpZ; rw [hR2] at hpZ; exact (List.mem_append.mp hpZ).elim (fun h => by repeat (first | exact List.mem_append_left _ h | refine List.mem_cons_of_mem _ ?_)) (fun h => by repeat (first | exact h | refine List.mem_cons_of_mem _ ?_ | refine List.mem_append_right _ ?_)))
        have z1 := I.small
        have z2 : rowW row = (row.map (·.length)).sum + row.length := sum1 row
        have z0 := sum1 names
        unfold wt at z1
        dsimp only at z1
        have z3 := P1.rows.length
        have z4 := P1.told.length
        have zf := (next_sub P2).2.2.2 _ _ I.frames (pf f) (.head _)
        have zi : f.inf.length ≤ 100000 := Nat.le_trans zf.1 (by decide)
        have zl0 := P3.one.2
        have zl1 : f.line ≤ 1000000 := by
          have := zf.2
          show f.line ≤ 1000000
          have h9 : f.line.toNat + f.left.length ≤ 20000 := this
          omega
        have zst : stk.length ≤ 6 := by
          have q1 := I.deep
          have q2 := (next_sub P2).2.1
          rw [List.length_map] at q2
          omega
        have zdq : (stk.map fun p : Addr × Fm => Value.ref p.1).length ≤ 1000 := by rw [List.length_map]; omega
        have hTD := P4.off _ (.head _)
        have hRW := P4.off _ (.tail _ (.head _))
        have oT6 := off6 hTD
        have oR6 := off6 hRW
        have d1 := (P1.off _ (.head _)).1
        have d2 := (P1.off _ (.head _)).2
        have w1 := P1.two
        have w2 := w1.symm
        have oTD : ∀ p ∈ R2, p.1 ≠ TD := fun p hp => by
          rw [hR2] at hp
          exact (List.mem_append.mp hp).elim (fun h e => oT6.2.2.2.2.2.2 (e ▸ stk_sub p h)) fun h => (P1.off p (.tail _ h)).1
        have oRW : ∀ p ∈ R2, p.1 ≠ RW := fun p hp => by
          rw [hR2] at hp
          exact (List.mem_append.mp hp).elim (fun h e => oR6.2.2.2.2.2.2 (e ▸ stk_sub p h)) fun h => (P1.off p (.tail _ h)).2
        have htvl : tv.length ≤ 100000 := by
          have h9 : tv.length = told.length := z4
          omega
        have hrvl : rv.length ≤ 100000 := by
          have h9 : rv.length = row.length := z3
          omega
        have hgw := good_word P2
        have hwl : (Str.mk wd.toArray).length ≤ 40000 := by
          have q1 := (next_sub P2).2.2.1
          rw [length_mk]
          omega
        have hhl : (hereOf names).length ≤ 40000 := by
          have q1 := join_len2 names
          omega
        repeat' (first | (k_unfold; (try dsimp only)) | (k_end; (with_reducible refine hN8 _ _ ?_); intro kN8; clear hN8 hO8; (try clear qN8); first | with_reducible refine execs_one ?_ | (refine execs_more ?_; intro qN8 hN8 hO8)) | (k_end; (with_reducible refine hO8 _ _ ?zn8 ?_); (case zn8 => first | exact ne_ret _ | exact ne_brk | exact ne_cont); clear hN8 hO8; (try clear qN8)) | (k_end; wrow_close) | ((with_reducible show wpAny _ _ (exec _ _) _ _ _); (first | ((with_reducible show wpAny _ _ (exec (Stmt.While (Expr.Compare _ _ _ _) _ _ _) _) _ _ _); (k_here; refine stop_in ?_)) | ((with_reducible show wpAny _ _ (exec (Stmt.If (Expr.Compare _ _ _ _) _ _ _) _) _ _ _); (k_here; refine stop_in ?_)) | ((with_reducible show wpAny _ _ (exec (Stmt.While (Expr.Compare _ _ _ _) _ _ _) _) _ _ _); (k_here; refine stop_in ?_)) | ((with_reducible show wpAny _ _ (exec (Stmt.If _ _ _ _) _) _ _ _); (k_here; refine wpAny_If ?_)))) | ((with_reducible show wpAny _ _ (call _ _ _) _ _ _); (first | (k_here; (with_reducible show wpAny _ _ (call (Value.ref 869) [Value.str _ _]) _ _ _); refine stop_in ?_) | (k_here; (with_reducible show wpAny _ _ (call (Value.ref 827) (Value.str (Str.ofString "/") _ :: _)) _ _ _); k_dflt (refine' says_pure (join_says _ _ _ _ _ _ ?zqka ?zqkb) ?k1 ?k2 ?k3 ?k4 ?k5 ?kK ?kd ?ku ?_; (case zqka => assumption); tb_rel; (case zqkb => assumption); intro t9Z h9Z tk9Z F9Z N9Z; (try dsimp only); (try k_fold))) | (k_here; (with_reducible show wpAny _ _ (call (Value.ref 848) _) _ _ _); refine stop_in ?_) | (k_here; (with_reducible show wpAny _ _ (call (Value.ref 820) [Value.str _ _]) _ _ _); k_dflt (refine' says_pure (isabs_says _ _ _ _) ?k1 ?k2 ?k3 ?k4 ?k5 ?kK ?kd ?ku ?_; tb_rel; intro t9Z h9Z tk9Z F9Z N9Z; (try dsimp only); (try k_fold))) | (k_here; (with_reducible show wpAny _ _ (call (Value.ref 841) [Value.str _ _]) _ _ _); k_dflt (refine' says_pure (dirname_says _ _ _ _ ?zqka) ?k1 ?k2 ?k3 ?k4 ?k5 ?kK ?kd ?ku ?_; tb_rel; (case zqka => first | assumption | omega); intro t9Z h9Z tk9Z F9Z N9Z; (try dsimp only); (try k_fold))) | (k_here; (with_reducible show wpAny _ _ (call (Value.ref 827) [Value.str _ _, Value.str _ _]) _ _ _); k_dflt (refine' says_pure (join2_says _ _ _ _ _ _ ?zqka ?zqkb) ?k1 ?k2 ?k3 ?k4 ?k5 ?kK ?kd ?ku ?_; tb_rel; (case zqka | zqkb => first | assumption | omega | decide +kernel); intro t9Z h9Z tk9Z F9Z N9Z; (try dsimp only); (try k_fold))) | (k_here; (with_reducible show wpAny _ _ (call (Value.ref 705) _) _ _ _); k_dflt (refine' lead_use ?zqa1 ?zqa2 ?zqa3 ?zqa4 ?zqa5 ?k1 ?k2 ?k3 ?k4 ?k5 ?kK ?kd ?ku ?_; tb_rel; (case zqa1 | zqa2 => k_mem); (case zqa3 | zqa4 | zqa5 => assumption); intro t9Z h9Z tk9Z F9Z N9Z; (try dsimp only); (try k_fold))) | ((with_reducible show wpAny _ _ (call (Value.builtin "list.append") _ _) _ _ _); (k_here; refine stop_in ?_)) | (k_here; (with_reducible show wpAny _ _ (call (Value.ref 669) _) _ _ _); refine stop_in ?_) | (k_here; (with_reducible show wpAny _ _ (call (Value.ref 683) _) _ _ _); refine stop_in ?_) | (k_here; (with_reducible show wpAny _ _ (call (Value.builtin "len") [Value.ref _]) _ _ _); k_dflt (refine' len_made ?k1 ?k2 ?k3 ?_; (case k1 => k_asm); (case k2 => k_mem); (case k3 => omega); k_whole); intro t9Z tk9Z) | ((with_reducible show wpAny _ _ (call (Value.builtin "list.append") _ _) _ _ _); (k_here; k_dflt (refine' append_snoc ?k1 ?k2 ?k3 ?k4 ?_; (case k1 | k2 => k_asm); (case k3 => k_upd); (case k4 => omega); k_whole); intro h'Z F'Z N'Z; (try k_sweep))) | (k_here; (with_reducible show wpAny _ _ (call (Value.builtin "len") [Value.ref _]) _ _ _); k_dflt (refine' dq_len ?k1 ?k2 ?k3 ?_; (case k1 => k_asm); (case k2 => k_mem); (case k3 => first | assumption | omega | (simp only [List.length_cons, List.length_nil] at *; omega)); k_whole)))) | ((with_reducible show wpAny _ _ (setItem (Value.ref _) (Value.int _ _) _) _ _ _); (k_here; refine stop_in ?_)) | ((with_reducible show KswEnd _ _ _ _ _ _ _ _ _ _ _ _); (refine stop_in ?_)) | ((with_reducible show wpAny _ _ (subscriptTail _ _ _ _) _ _ _); (first | (k_here; (with_reducible show wpAny _ _ (subscriptTail _ _ (Value.ref _) (Value.str _ _)) _ _ _); k_dflt (refine' links_item ?k1 ?k2 ?k3 ?k4 ?_ ?zqk6 ?zqk7; (case k1 => k_asm); (case k2 => k_mem); (case k3 | k4 => assumption); (case zqk6 => with_unfolding_all rfl); (case zqk7 => intro _; with_unfolding_all rfl); k_whole); intro u9Z) | (k_here; (with_reducible show wpAny _ _ (subscriptTail _ _ (Value.ref _) (Value.str _ _)) _ _ _); k_dflt (refine' links_itemI ?k1 ?k2 ?k3 ?k4 ?k5 ?_ ?zqk6 ?zqk7; (case k1 => k_asm); (case k2 => k_mem); (case k3 | k4 | k5 => assumption); (case zqk6 => with_unfolding_all rfl); (case zqk7 => intro _; with_unfolding_all rfl); k_whole); intro t9Z u9Z hk9Z hz9Z) | (k_here; (with_reducible show wpAny _ _ (subscriptTail _ _ (Value.ref _) (Value.int (-1) _)) _ _ _); k_dflt (refine' item_last ?k1 ?k2 ?_ ?k4; (case k1 => k_asm); (case k2 => k_mem); (case k4 => with_unfolding_all rfl); k_whole)))) | ((with_reducible show wpAny _ _ (compareOp _ _ _) _ _ _); (first | ((with_reducible show wpAny _ _ (compareOp CmpOp.In (Value.str _ _) (Value.ref _)) _ _ _); (k_here; k_dflt (refine' links_inB ?k1 ?k2 ?k3 ?_; (case k1 => k_asm); (case k2 => k_mem); (case k3 => assumption); k_whole))) | ((with_reducible show wpAny _ _ (compareOp CmpOp.In (Value.str _ _) (Value.ref _)) _ _ _); (k_here; k_dflt (refine' links_in ?k1 ?k2 ?k3 ?k4 ?_; (case k1 => k_asm); (case k2 => k_mem); (case k3 | k4 => assumption); k_whole))) | (k_here; (with_reducible show wpAny _ _ (compareOp CmpOp.In (Value.str _ _) (Value.str _ _)) _ _ _); first | (refine in_known (b := false) (by assumption) ?_) | (refine in_known (b := true) (by assumption) ?_) | (refine in_known (b := false) (by decide +kernel) ?_) | (refine in_known (b := true) (by decide +kernel) ?_)))) | ((with_reducible show wpAny _ _ (binaryOp Operator.Add (Value.ref _) (Value.ref _)) _ _ _); (k_here; k_dflt (refine' cat_made ?zqF ?zqN ?zql ?zqb ?zqz ?_; (case zqF | zqN => k_asm); (case zql | zqb => k_mem); (case zqz => (simp only [List.length_append, List.length_cons, List.length_nil]; omega)); k_whole); intro D'Z h'Z F'Z N'Z l1Z; (try k_lt l1Z); (try k_sweep))) | ((with_reducible show StarOf _ _ _ (Value.ref _) _ _); (k_here; k_dflt (refine' star_seq ?k1 ?k2 ?zqm ?zqc ?zqd ?zqT ?zqe ?zqz ?_; (case k1 | k2 => k_asm); (case zqm => k_mem); (case zqc | zqd => exact rfl); (case zqT => exact .inl rfl); (case zqe => exact rfl); (case zqz => (rw [List.size_toArray, sizeLine_eq]; omega)); k_whole); intro h'Z F'Z N'Z; (try k_sweep); try dsimp only [List.nil_append, List.cons_append])) | ((with_reducible show wpAny _ _ (truthy _) _ _ _); (first | ((with_reducible show wpAny _ _ (truthy (Value.ref _)) _ _ _); (k_here; k_dflt (first | (refine' truthy_nil ?k1 ?k2 ?_; (case k1 => k_asm); (case k2 => k_mem); k_whole) | (refine' truthy_snoc ?k1 ?k2 ?k3 ?_; (case k1 => k_asm); (case k2 => k_mem); (case k3 => omega); k_whole)))) | ((with_reducible show wpAny _ _ (truthy (Value.ref _)) _ _ _); (k_here; k_dflt (refine' dq_truthy ?k1 ?k2 ?k3 ?_; (case k1 => k_asm); (case k2 => k_mem); (case k3 => first | assumption | omega | (simp only [List.length_cons, List.length_nil] at *; omega)); k_whole))) | (k_here; (with_reducible show wpAny _ _ (truthy (Value.str _ _)) _ _ _); refine truthy_long (by assumption) (by omega) ?_; intro _))) | ((with_reducible show wpAny _ _ (execs _ _) _ _ _); (first | ((with_reducible show wpAny _ _ (execs [] _) _ _ _); (k_here; refine wpAny_execs_nil ?_)) | ((with_reducible show wpAny _ _ (execs (_ :: _) _) _ _ _); (k_here; (try dsimp only); (try k_fold); first | with_reducible refine execs_one ?_ | (refine execs_more ?_; intro qN8 hN8 hO8))))) | walk1 | ((with_reducible show wpAny _ _ _ _ _ _); dsimp only) | (leave1; walk_say "STEP leave1"; try dsimp only) | fail "no step")
        unfold Stop
        rename Fr _ _ _ (fun y => _) => F8
        rename News _ _ _ (_ :: _) => N8
        refine news1 N8 ?_
        intro TP eTP
        subst eTP
        rename _ ∧ _ ∧ _ ∧ _ ∧ _ ∧ _ ∧ _ ∧ _ ∧ _ ∧ AllLt TP R2 => lTP
        refine read_tuple zl0 N8 ?_
        clear N8
        intro oT N8 hT
        rw [show (stk.map fun p : Addr × Fm => Value.ref p.1).length = stk.length from List.length_map ..] at hT
        have nT1 : TP ≠ TD := Nat.ne_of_gt lTP.1
        have nT2 : TP ≠ RW := Nat.ne_of_gt lTP.2.1
        have hU1 : ∀ p ∈ (RW, listOf rv.toArray rn) :: (D0, o) :: (f.S, instObj 587 f.DS) :: (f.DS, sioD w f.sc f.buf (f.k : Int) f.tp) :: (X, instObj 722 D) :: (D, lexD w c f.S f.inf f.ti (.str (Str.ofString " ") ts1) f.line f.tl (Str.ofString "") tt1) :: (c.fs, dqObj qq (stk.map fun p => .ref p.1)) :: (c.pb, dqObj 0 []) :: R2, p.1 ≠ TD := off_cons w2 (off_cons d1 (off_cons oT6.2.2.2.2.1.symm (off_cons oT6.2.2.2.2.2.1.symm (off_cons oT6.2.2.1.symm (off_cons oT6.2.2.2.1.symm (off_cons oT6.1.symm (off_cons oT6.2.1.symm oTD)))))))
        refine append_snoc (n := tn) F8 N8 (.tail nT1 (.head hU1)) htvl ?_
        intro h9 F9 N9
        clear N8 F8
        repeat' (first | (k_unfold; (try dsimp only)) | (k_end; (with_reducible refine hN8 _ _ ?_); intro kN8; clear hN8 hO8; (try clear qN8); first | with_reducible refine execs_one ?_ | (refine execs_more ?_; intro qN8 hN8 hO8)) | (k_end; (with_reducible refine hO8 _ _ ?zn8 ?_); (case zn8 => first | exact ne_ret _ | exact ne_brk | exact ne_cont); clear hN8 hO8; (try clear qN8)) | (k_end; wrow_close) | ((with_reducible show wpAny _ _ (exec _ _) _ _ _); (first | ((with_reducible show wpAny _ _ (exec (Stmt.While (Expr.Compare _ _ _ _) _ _ _) _) _ _ _); (k_here; refine stop_in ?_)) | ((with_reducible show wpAny _ _ (exec (Stmt.If (Expr.Compare _ _ _ _) _ _ _) _) _ _ _); (k_here; refine stop_in ?_)) | ((with_reducible show wpAny _ _ (exec (Stmt.While (Expr.Compare _ _ _ _) _ _ _) _) _ _ _); (k_here; refine stop_in ?_)) | ((with_reducible show wpAny _ _ (exec (Stmt.If _ _ _ _) _) _ _ _); (k_here; refine wpAny_If ?_)))) | ((with_reducible show wpAny _ _ (call _ _ _) _ _ _); (first | (k_here; (with_reducible show wpAny _ _ (call (Value.ref 869) [Value.str _ _]) _ _ _); refine stop_in ?_) | (k_here; (with_reducible show wpAny _ _ (call (Value.ref 827) (Value.str (Str.ofString "/") _ :: _)) _ _ _); k_dflt (refine' says_pure (join_says _ _ _ _ _ _ ?zqka ?zqkb) ?k1 ?k2 ?k3 ?k4 ?k5 ?kK ?kd ?ku ?_; (case zqka => assumption); tb_rel; (case zqkb => assumption); intro t9Z h9Z tk9Z F9Z N9Z; (try dsimp only); (try k_fold))) | (k_here; (with_reducible show wpAny _ _ (call (Value.ref 848) _) _ _ _); refine stop_in ?_) | (k_here; (with_reducible show wpAny _ _ (call (Value.ref 820) [Value.str _ _]) _ _ _); k_dflt (refine' says_pure (isabs_says _ _ _ _) ?k1 ?k2 ?k3 ?k4 ?k5 ?kK ?kd ?ku ?_; tb_rel; intro t9Z h9Z tk9Z F9Z N9Z; (try dsimp only); (try k_fold))) | (k_here; (with_reducible show wpAny _ _ (call (Value.ref 841) [Value.str _ _]) _ _ _); k_dflt (refine' says_pure (dirname_says _ _ _ _ ?zqka) ?k1 ?k2 ?k3 ?k4 ?k5 ?kK ?kd ?ku ?_; tb_rel; (case zqka => first | assumption | omega); intro t9Z h9Z tk9Z F9Z N9Z; (try dsimp only); (try k_fold))) | (k_here; (with_reducible show wpAny _ _ (call (Value.ref 827) [Value.str _ _, Value.str _ _]) _ _ _); k_dflt (refine' says_pure (join2_says _ _ _ _ _ _ ?zqka ?zqkb) ?k1 ?k2 ?k3 ?k4 ?k5 ?kK ?kd ?ku ?_; tb_rel; (case zqka | zqkb => first | assumption | omega | decide +kernel); intro t9Z h9Z tk9Z F9Z N9Z; (try dsimp only); (try k_fold))) | (k_here; (with_reducible show wpAny _ _ (call (Value.ref 705) _) _ _ _); k_dflt (refine' lead_use ?zqa1 ?zqa2 ?zqa3 ?zqa4 ?zqa5 ?k1 ?k2 ?k3 ?k4 ?k5 ?kK ?kd ?ku ?_; tb_rel; (case zqa1 | zqa2 => k_mem); (case zqa3 | zqa4 | zqa5 => assumption); intro t9Z h9Z tk9Z F9Z N9Z; (try dsimp only); (try k_fold))) | ((with_reducible show wpAny _ _ (call (Value.builtin "list.append") _ _) _ _ _); (k_here; refine stop_in ?_)) | (k_here; (with_reducible show wpAny _ _ (call (Value.ref 669) _) _ _ _); refine stop_in ?_) | (k_here; (with_reducible show wpAny _ _ (call (Value.ref 683) _) _ _ _); refine stop_in ?_) | (k_here; (with_reducible show wpAny _ _ (call (Value.builtin "len") [Value.ref _]) _ _ _); k_dflt (refine' len_made ?k1 ?k2 ?k3 ?_; (case k1 => k_asm); (case k2 => k_mem); (case k3 => omega); k_whole); intro t9Z tk9Z) | ((with_reducible show wpAny _ _ (call (Value.builtin "list.append") _ _) _ _ _); (k_here; k_dflt (refine' append_snoc ?k1 ?k2 ?k3 ?k4 ?_; (case k1 | k2 => k_asm); (case k3 => k_upd); (case k4 => omega); k_whole); intro h'Z F'Z N'Z; (try k_sweep))) | (k_here; (with_reducible show wpAny _ _ (call (Value.builtin "len") [Value.ref _]) _ _ _); k_dflt (refine' dq_len ?k1 ?k2 ?k3 ?_; (case k1 => k_asm); (case k2 => k_mem); (case k3 => first | assumption | omega | (simp only [List.length_cons, List.length_nil] at *; omega)); k_whole)))) | ((with_reducible show wpAny _ _ (setItem (Value.ref _) (Value.int _ _) _) _ _ _); (k_here; refine stop_in ?_)) | ((with_reducible show KswEnd _ _ _ _ _ _ _ _ _ _ _ _); (refine stop_in ?_)) | ((with_reducible show wpAny _ _ (subscriptTail _ _ _ _) _ _ _); (first | (k_here; (with_reducible show wpAny _ _ (subscriptTail _ _ (Value.ref _) (Value.str _ _)) _ _ _); k_dflt (refine' links_item ?k1 ?k2 ?k3 ?k4 ?_ ?zqk6 ?zqk7; (case k1 => k_asm); (case k2 => k_mem); (case k3 | k4 => assumption); (case zqk6 => with_unfolding_all rfl); (case zqk7 => intro _; with_unfolding_all rfl); k_whole); intro u9Z) | (k_here; (with_reducible show wpAny _ _ (subscriptTail _ _ (Value.ref _) (Value.str _ _)) _ _ _); k_dflt (refine' links_itemI ?k1 ?k2 ?k3 ?k4 ?k5 ?_ ?zqk6 ?zqk7; (case k1 => k_asm); (case k2 => k_mem); (case k3 | k4 | k5 => assumption); (case zqk6 => with_unfolding_all rfl); (case zqk7 => intro _; with_unfolding_all rfl); k_whole); intro t9Z u9Z hk9Z hz9Z) | (k_here; (with_reducible show wpAny _ _ (subscriptTail _ _ (Value.ref _) (Value.int (-1) _)) _ _ _); k_dflt (refine' item_last ?k1 ?k2 ?_ ?k4; (case k1 => k_asm); (case k2 => k_mem); (case k4 => with_unfolding_all rfl); k_whole)))) | ((with_reducible show wpAny _ _ (compareOp _ _ _) _ _ _); (first | ((with_reducible show wpAny _ _ (compareOp CmpOp.In (Value.str _ _) (Value.ref _)) _ _ _); (k_here; k_dflt (refine' links_inB ?k1 ?k2 ?k3 ?_; (case k1 => k_asm); (case k2 => k_mem); (case k3 => assumption); k_whole))) | ((with_reducible show wpAny _ _ (compareOp CmpOp.In (Value.str _ _) (Value.ref _)) _ _ _); (k_here; k_dflt (refine' links_in ?k1 ?k2 ?k3 ?k4 ?_; (case k1 => k_asm); (case k2 => k_mem); (case k3 | k4 => assumption); k_whole))) | (k_here; (with_reducible show wpAny _ _ (compareOp CmpOp.In (Value.str _ _) (Value.str _ _)) _ _ _); first | (refine in_known (b := false) (by assumption) ?_) | (refine in_known (b := true) (by assumption) ?_) | (refine in_known (b := false) (by decide +kernel) ?_) | (refine in_known (b := true) (by decide +kernel) ?_)))) | ((with_reducible show wpAny _ _ (binaryOp Operator.Add (Value.ref _) (Value.ref _)) _ _ _); (k_here; k_dflt (refine' cat_made ?zqF ?zqN ?zql ?zqb ?zqz ?_; (case zqF | zqN => k_asm); (case zql | zqb => k_mem); (case zqz => (simp only [List.length_append, List.length_cons, List.length_nil]; omega)); k_whole); intro D'Z h'Z F'Z N'Z l1Z; (try k_lt l1Z); (try k_sweep))) | ((with_reducible show StarOf _ _ _ (Value.ref _) _ _); (k_here; k_dflt (refine' star_seq ?k1 ?k2 ?zqm ?zqc ?zqd ?zqT ?zqe ?zqz ?_; (case k1 | k2 => k_asm); (case zqm => k_mem); (case zqc | zqd => exact rfl); (case zqT => exact .inl rfl); (case zqe => exact rfl); (case zqz => (rw [List.size_toArray, sizeLine_eq]; omega)); k_whole); intro h'Z F'Z N'Z; (try k_sweep); try dsimp only [List.nil_append, List.cons_append])) | ((with_reducible show wpAny _ _ (truthy _) _ _ _); (first | ((with_reducible show wpAny _ _ (truthy (Value.ref _)) _ _ _); (k_here; k_dflt (first | (refine' truthy_nil ?k1 ?k2 ?_; (case k1 => k_asm); (case k2 => k_mem); k_whole) | (refine' truthy_snoc ?k1 ?k2 ?k3 ?_; (case k1 => k_asm); (case k2 => k_mem); (case k3 => omega); k_whole)))) | ((with_reducible show wpAny _ _ (truthy (Value.ref _)) _ _ _); (k_here; k_dflt (refine' dq_truthy ?k1 ?k2 ?k3 ?_; (case k1 => k_asm); (case k2 => k_mem); (case k3 => first | assumption | omega | (simp only [List.length_cons, List.length_nil] at *; omega)); k_whole))) | (k_here; (with_reducible show wpAny _ _ (truthy (Value.str _ _)) _ _ _); refine truthy_long (by assumption) (by omega) ?_; intro _))) | ((with_reducible show wpAny _ _ (execs _ _) _ _ _); (first | ((with_reducible show wpAny _ _ (execs [] _) _ _ _); (k_here; refine wpAny_execs_nil ?_)) | ((with_reducible show wpAny _ _ (execs (_ :: _) _) _ _ _); (k_here; (try dsimp only); (try k_fold); first | with_reducible refine execs_one ?_ | (refine execs_more ?_; intro qN8 hN8 hO8))))) | walk1 | ((with_reducible show wpAny _ _ _ _ _ _); dsimp only) | (leave1; walk_say "STEP leave1"; try dsimp only) | fail "no step")
        unfold Stop
        rename Fr _ _ _ (fun y => _) => F8
        rename News _ _ _ (_ :: _) => N8
        have hU2 : ∀ p ∈ (D0, o) :: (f.S, instObj 587 f.DS) :: (f.DS, sioD w f.sc f.buf (f.k : Int) f.tp) :: (X, instObj 722 D) :: (D, lexD w c f.S f.inf f.ti (.str (Str.ofString " ") ts1) f.line f.tl (Str.ofString "") tt1) :: (c.fs, dqObj qq (stk.map fun p => .ref p.1)) :: (c.pb, dqObj 0 []) :: R2, p.1 ≠ RW := off_cons d2 (off_cons oR6.2.2.2.2.1.symm (off_cons oR6.2.2.2.2.2.1.symm (off_cons oR6.2.2.1.symm (off_cons oR6.2.2.2.1.symm (off_cons oR6.1.symm (off_cons oR6.2.1.symm oRW))))))
        refine append_snoc (n := rn) F8 N8 (.tail nT2 (.tail w1 (.head hU2))) hrvl ?_
        intro h10 F10 N10
        clear N8 F8
        repeat' (first | (k_unfold; (try dsimp only)) | (k_end; (with_reducible refine hN8 _ _ ?_); intro kN8; clear hN8 hO8; (try clear qN8); first | with_reducible refine execs_one ?_ | (refine execs_more ?_; intro qN8 hN8 hO8)) | (k_end; (with_reducible refine hO8 _ _ ?zn8 ?_); (case zn8 => first | exact ne_ret _ | exact ne_brk | exact ne_cont); clear hN8 hO8; (try clear qN8)) | (k_end; wrow_close) | ((with_reducible show wpAny _ _ (exec _ _) _ _ _); (first | ((with_reducible show wpAny _ _ (exec (Stmt.While (Expr.Compare _ _ _ _) _ _ _) _) _ _ _); (k_here; refine stop_in ?_)) | ((with_reducible show wpAny _ _ (exec (Stmt.If (Expr.Compare _ _ _ _) _ _ _) _) _ _ _); (k_here; refine stop_in ?_)) | ((with_reducible show wpAny _ _ (exec (Stmt.While (Expr.Compare _ _ _ _) _ _ _) _) _ _ _); (k_here; refine stop_in ?_)) | ((with_reducible show wpAny _ _ (exec (Stmt.If _ _ _ _) _) _ _ _); (k_here; refine wpAny_If ?_)))) | ((with_reducible show wpAny _ _ (call _ _ _) _ _ _); (first | (k_here; (with_reducible show wpAny _ _ (call (Value.ref 869) [Value.str _ _]) _ _ _); refine stop_in ?_) | (k_here; (with_reducible show wpAny _ _ (call (Value.ref 827) (Value.str (Str.ofString "/") _ :: _)) _ _ _); k_dflt (refine' says_pure (join_says _ _ _ _ _ _ ?zqka ?zqkb) ?k1 ?k2 ?k3 ?k4 ?k5 ?kK ?kd ?ku ?_; (case zqka => assumption); tb_rel; (case zqkb => assumption); intro t9Z h9Z tk9Z F9Z N9Z; (try dsimp only); (try k_fold))) | (k_here; (with_reducible show wpAny _ _ (call (Value.ref 848) _) _ _ _); refine stop_in ?_) | (k_here; (with_reducible show wpAny _ _ (call (Value.ref 820) [Value.str _ _]) _ _ _); k_dflt (refine' says_pure (isabs_says _ _ _ _) ?k1 ?k2 ?k3 ?k4 ?k5 ?kK ?kd ?ku ?_; tb_rel; intro t9Z h9Z tk9Z F9Z N9Z; (try dsimp only); (try k_fold))) | (k_here; (with_reducible show wpAny _ _ (call (Value.ref 841) [Value.str _ _]) _ _ _); k_dflt (refine' says_pure (dirname_says _ _ _ _ ?zqka) ?k1 ?k2 ?k3 ?k4 ?k5 ?kK ?kd ?ku ?_; tb_rel; (case zqka => first | assumption | omega); intro t9Z h9Z tk9Z F9Z N9Z; (try dsimp only); (try k_fold))) | (k_here; (with_reducible show wpAny _ _ (call (Value.ref 827) [Value.str _ _, Value.str _ _]) _ _ _); k_dflt (refine' says_pure (join2_says _ _ _ _ _ _ ?zqka ?zqkb) ?k1 ?k2 ?k3 ?k4 ?k5 ?kK ?kd ?ku ?_; tb_rel; (case zqka | zqkb => first | assumption | omega | decide +kernel); intro t9Z h9Z tk9Z F9Z N9Z; (try dsimp only); (try k_fold))) | (k_here; (with_reducible show wpAny _ _ (call (Value.ref 705) _) _ _ _); k_dflt (refine' lead_use ?zqa1 ?zqa2 ?zqa3 ?zqa4 ?zqa5 ?k1 ?k2 ?k3 ?k4 ?k5 ?kK ?kd ?ku ?_; tb_rel; (case zqa1 | zqa2 => k_mem); (case zqa3 | zqa4 | zqa5 => assumption); intro t9Z h9Z tk9Z F9Z N9Z; (try dsimp only); (try k_fold))) | ((with_reducible show wpAny _ _ (call (Value.builtin "list.append") _ _) _ _ _); (k_here; refine stop_in ?_)) | (k_here; (with_reducible show wpAny _ _ (call (Value.ref 669) _) _ _ _); refine stop_in ?_) | (k_here; (with_reducible show wpAny _ _ (call (Value.ref 683) _) _ _ _); refine stop_in ?_) | (k_here; (with_reducible show wpAny _ _ (call (Value.builtin "len") [Value.ref _]) _ _ _); k_dflt (refine' len_made ?k1 ?k2 ?k3 ?_; (case k1 => k_asm); (case k2 => k_mem); (case k3 => omega); k_whole); intro t9Z tk9Z) | ((with_reducible show wpAny _ _ (call (Value.builtin "list.append") _ _) _ _ _); (k_here; k_dflt (refine' append_snoc ?k1 ?k2 ?k3 ?k4 ?_; (case k1 | k2 => k_asm); (case k3 => k_upd); (case k4 => omega); k_whole); intro h'Z F'Z N'Z; (try k_sweep))) | (k_here; (with_reducible show wpAny _ _ (call (Value.builtin "len") [Value.ref _]) _ _ _); k_dflt (refine' dq_len ?k1 ?k2 ?k3 ?_; (case k1 => k_asm); (case k2 => k_mem); (case k3 => first | assumption | omega | (simp only [List.length_cons, List.length_nil] at *; omega)); k_whole)))) | ((with_reducible show wpAny _ _ (setItem (Value.ref _) (Value.int _ _) _) _ _ _); (k_here; refine stop_in ?_)) | ((with_reducible show KswEnd _ _ _ _ _ _ _ _ _ _ _ _); (refine stop_in ?_)) | ((with_reducible show wpAny _ _ (subscriptTail _ _ _ _) _ _ _); (first | (k_here; (with_reducible show wpAny _ _ (subscriptTail _ _ (Value.ref _) (Value.str _ _)) _ _ _); k_dflt (refine' links_item ?k1 ?k2 ?k3 ?k4 ?_ ?zqk6 ?zqk7; (case k1 => k_asm); (case k2 => k_mem); (case k3 | k4 => assumption); (case zqk6 => with_unfolding_all rfl); (case zqk7 => intro _; with_unfolding_all rfl); k_whole); intro u9Z) | (k_here; (with_reducible show wpAny _ _ (subscriptTail _ _ (Value.ref _) (Value.str _ _)) _ _ _); k_dflt (refine' links_itemI ?k1 ?k2 ?k3 ?k4 ?k5 ?_ ?zqk6 ?zqk7; (case k1 => k_asm); (case k2 => k_mem); (case k3 | k4 | k5 => assumption); (case zqk6 => with_unfolding_all rfl); (case zqk7 => intro _; with_unfolding_all rfl); k_whole); intro t9Z u9Z hk9Z hz9Z) | (k_here; (with_reducible show wpAny _ _ (subscriptTail _ _ (Value.ref _) (Value.int (-1) _)) _ _ _); k_dflt (refine' item_last ?k1 ?k2 ?_ ?k4; (case k1 => k_asm); (case k2 => k_mem); (case k4 => with_unfolding_all rfl); k_whole)))) | ((with_reducible show wpAny _ _ (compareOp _ _ _) _ _ _); (first | ((with_reducible show wpAny _ _ (compareOp CmpOp.In (Value.str _ _) (Value.ref _)) _ _ _); (k_here; k_dflt (refine' links_inB ?k1 ?k2 ?k3 ?_; (case k1 => k_asm); (case k2 => k_mem); (case k3 => assumption); k_whole))) | ((with_reducible show wpAny _ _ (compareOp CmpOp.In (Value.str _ _) (Value.ref _)) _ _ _); (k_here; k_dflt (refine' links_in ?k1 ?k2 ?k3 ?k4 ?_; (case k1 => k_asm); (case k2 => k_mem); (case k3 | k4 => assumption); k_whole))) | (k_here; (with_reducible show wpAny _ _ (compareOp CmpOp.In (Value.str _ _) (Value.str _ _)) _ _ _); first | (refine in_known (b := false) (by assumption) ?_) | (refine in_known (b := true) (by assumption) ?_) | (refine in_known (b := false) (by decide +kernel) ?_) | (refine in_known (b := true) (by decide +kernel) ?_)))) | ((with_reducible show wpAny _ _ (binaryOp Operator.Add (Value.ref _) (Value.ref _)) _ _ _); (k_here; k_dflt (refine' cat_made ?zqF ?zqN ?zql ?zqb ?zqz ?_; (case zqF | zqN => k_asm); (case zql | zqb => k_mem); (case zqz => (simp only [List.length_append, List.length_cons, List.length_nil]; omega)); k_whole); intro D'Z h'Z F'Z N'Z l1Z; (try k_lt l1Z); (try k_sweep))) | ((with_reducible show StarOf _ _ _ (Value.ref _) _ _); (k_here; k_dflt (refine' star_seq ?k1 ?k2 ?zqm ?zqc ?zqd ?zqT ?zqe ?zqz ?_; (case k1 | k2 => k_asm); (case zqm => k_mem); (case zqc | zqd => exact rfl); (case zqT => exact .inl rfl); (case zqe => exact rfl); (case zqz => (rw [List.size_toArray, sizeLine_eq]; omega)); k_whole); intro h'Z F'Z N'Z; (try k_sweep); try dsimp only [List.nil_append, List.cons_append])) | ((with_reducible show wpAny _ _ (truthy _) _ _ _); (first | ((with_reducible show wpAny _ _ (truthy (Value.ref _)) _ _ _); (k_here; k_dflt (first | (refine' truthy_nil ?k1 ?k2 ?_; (case k1 => k_asm); (case k2 => k_mem); k_whole) | (refine' truthy_snoc ?k1 ?k2 ?k3 ?_; (case k1 => k_asm); (case k2 => k_mem); (case k3 => omega); k_whole)))) | ((with_reducible show wpAny _ _ (truthy (Value.ref _)) _ _ _); (k_here; k_dflt (refine' dq_truthy ?k1 ?k2 ?k3 ?_; (case k1 => k_asm); (case k2 => k_mem); (case k3 => first | assumption | omega | (simp only [List.length_cons, List.length_nil] at *; omega)); k_whole))) | (k_here; (with_reducible show wpAny _ _ (truthy (Value.str _ _)) _ _ _); refine truthy_long (by assumption) (by omega) ?_; intro _))) | ((with_reducible show wpAny _ _ (execs _ _) _ _ _); (first | ((with_reducible show wpAny _ _ (execs [] _) _ _ _); (k_here; refine wpAny_execs_nil ?_)) | ((with_reducible show wpAny _ _ (execs (_ :: _) _) _ _ _); (k_here; (try dsimp only); (try k_fold); first | with_reducible refine execs_one ?_ | (refine execs_more ?_; intro qN8 hN8 hO8))))) | walk1 | ((with_reducible show wpAny _ _ _ _ _ _); dsimp only) | (leave1; walk_say "STEP leave1"; try dsimp only) | fail "no step")
        unfold Stop
        rename Fr _ _ _ (fun y => _) => F8
        rename News _ _ _ (_ :: _) => N8
        refine fr_fun F8 ?_
        intro mB hmB
        have hT2 : DatAll ((TP, oT) :: add) (tv ++ [.ref TP]) (told ++ [toldOf ⟨wd.toArray⟩ f.inf f.line.toNat stk.length names]) := (P1.told.mono fun p hp => .tail _ hp).append (.one (hT.mono fun p hp => by rw [List.mem_singleton.mp hp]; exact List.Mem.head _))
        have ejn := join_here I.good hgw
        dsimp only at ejn
        refine midM_point (MidV w X D TD RW D0 TP c o oT add R (tv ++ [.ref TP]) (tn + 1) (lkC lc) FIN (told ++ [toldOf ⟨wd.toArray⟩ f.inf f.line.toNat stk.length names]) mB (restW (pfs f stk) + 40 * left)) F8 ?_ ?_
        · have hAp := apart_more (oT := oT) (o3 := listOf (tv ++ [Value.ref TP]).toArray (tn + 1)) (o4 := listOf (rv ++ [Value.str ⟨wd.toArray⟩ tw]).toArray (rn + 1)) hR2 P4 lTP.2.2.2.1 lTP.2.2.2.2.1 lTP.2.2.2.2.2.1 lTP.2.2.2.2.2.2.1 lTP.2.2.2.2.2.2.2.1 lTP.2.2.2.2.2.2.2.2.1 lTP.2.2.2.2.2.2.2.2.2
          have hRs : StrsAre (rv ++ [Value.str ⟨wd.toArray⟩ tw]) (row ++ [⟨wd.toArray⟩]) := P1.rows.append' (.cons _ _ .nil)
          refine wpAny_If ?_
          repeat' (first | (k_unfold; (try dsimp only)) | (k_end; (with_reducible refine hN8 _ _ ?_); intro kN8; clear hN8 hO8; (try clear qN8); first | with_reducible refine execs_one ?_ | (refine execs_more ?_; intro qN8 hN8 hO8)) | (k_end; (with_reducible refine hO8 _ _ ?zn8 ?_); (case zn8 => first | exact ne_ret _ | exact ne_brk | exact ne_cont); clear hN8 hO8; (try clear qN8)) | (k_end; wrow_close) | ((with_reducible show wpAny _ _ (exec _ _) _ _ _); (first | ((with_reducible show wpAny _ _ (exec (Stmt.While (Expr.Compare _ _ _ _) _ _ _) _) _ _ _); (k_here; refine stop_in ?_)) | ((with_reducible show wpAny _ _ (exec (Stmt.If (Expr.Compare _ _ _ _) _ _ _) _) _ _ _); (k_here; refine stop_in ?_)) | ((with_reducible show wpAny _ _ (exec (Stmt.While (Expr.Compare _ _ _ _) _ _ _) _) _ _ _); (k_here; refine stop_in ?_)) | ((with_reducible show wpAny _ _ (exec (Stmt.If _ _ _ _) _) _ _ _); (k_here; refine wpAny_If ?_)))) | ((with_reducible show wpAny _ _ (call _ _ _) _ _ _); (first | (k_here; (with_reducible show wpAny _ _ (call (Value.ref 869) [Value.str _ _]) _ _ _); refine stop_in ?_) | (k_here; (with_reducible show wpAny _ _ (call (Value.ref 827) (Value.str (Str.ofString "/") _ :: _)) _ _ _); k_dflt (refine' says_pure (join_says _ _ _ _ _ _ ?zqka ?zqkb) ?k1 ?k2 ?k3 ?k4 ?k5 ?kK ?kd ?ku ?_; (case zqka => assumption); tb_rel; (case zqkb => assumption); intro t9Z h9Z tk9Z F9Z N9Z; (try dsimp only); (try k_fold))) | (k_here; (with_reducible show wpAny _ _ (call (Value.ref 848) _) _ _ _); refine stop_in ?_) | (k_here; (with_reducible show wpAny _ _ (call (Value.ref 820) [Value.str _ _]) _ _ _); k_dflt (refine' says_pure (isabs_says _ _ _ _) ?k1 ?k2 ?k3 ?k4 ?k5 ?kK ?kd ?ku ?_; tb_rel; intro t9Z h9Z tk9Z F9Z N9Z; (try dsimp only); (try k_fold))) | (k_here; (with_reducible show wpAny _ _ (call (Value.ref 841) [Value.str _ _]) _ _ _); k_dflt (refine' says_pure (dirname_says _ _ _ _ ?zqka) ?k1 ?k2 ?k3 ?k4 ?k5 ?kK ?kd ?ku ?_; tb_rel; (case zqka => first | assumption | omega); intro t9Z h9Z tk9Z F9Z N9Z; (try dsimp only); (try k_fold))) | (k_here; (with_reducible show wpAny _ _ (call (Value.ref 827) [Value.str _ _, Value.str _ _]) _ _ _); k_dflt (refine' says_pure (join2_says _ _ _ _ _ _ ?zqka ?zqkb) ?k1 ?k2 ?k3 ?k4 ?k5 ?kK ?kd ?ku ?_; tb_rel; (case zqka | zqkb => first | assumption | omega | decide +kernel); intro t9Z h9Z tk9Z F9Z N9Z; (try dsimp only); (try k_fold))) | (k_here; (with_reducible show wpAny _ _ (call (Value.ref 705) _) _ _ _); k_dflt (refine' lead_use ?zqa1 ?zqa2 ?zqa3 ?zqa4 ?zqa5 ?k1 ?k2 ?k3 ?k4 ?k5 ?kK ?kd ?ku ?_; tb_rel; (case zqa1 | zqa2 => k_mem); (case zqa3 | zqa4 | zqa5 => assumption); intro t9Z h9Z tk9Z F9Z N9Z; (try dsimp only); (try k_fold))) | ((with_reducible show wpAny _ _ (call (Value.builtin "list.append") _ _) _ _ _); (k_here; refine stop_in ?_)) | (k_here; (with_reducible show wpAny _ _ (call (Value.ref 669) _) _ _ _); refine stop_in ?_) | (k_here; (with_reducible show wpAny _ _ (call (Value.ref 683) _) _ _ _); refine stop_in ?_) | (k_here; (with_reducible show wpAny _ _ (call (Value.builtin "len") [Value.ref _]) _ _ _); k_dflt (refine' len_made ?k1 ?k2 ?k3 ?_; (case k1 => k_asm); (case k2 => k_mem); (case k3 => omega); k_whole); intro t9Z tk9Z) | ((with_reducible show wpAny _ _ (call (Value.builtin "list.append") _ _) _ _ _); (k_here; k_dflt (refine' append_snoc ?k1 ?k2 ?k3 ?k4 ?_; (case k1 | k2 => k_asm); (case k3 => k_upd); (case k4 => omega); k_whole); intro h'Z F'Z N'Z; (try k_sweep))) | (k_here; (with_reducible show wpAny _ _ (call (Value.builtin "len") [Value.ref _]) _ _ _); k_dflt (refine' dq_len ?k1 ?k2 ?k3 ?_; (case k1 => k_asm); (case k2 => k_mem); (case k3 => first | assumption | omega | (simp only [List.length_cons, List.length_nil] at *; omega)); k_whole)))) | ((with_reducible show wpAny _ _ (setItem (Value.ref _) (Value.int _ _) _) _ _ _); (k_here; refine stop_in ?_)) | ((with_reducible show KswEnd _ _ _ _ _ _ _ _ _ _ _ _); (refine stop_in ?_)) | ((with_reducible show wpAny _ _ (subscriptTail _ _ _ _) _ _ _); (first | (k_here; (with_reducible show wpAny _ _ (subscriptTail _ _ (Value.ref _) (Value.str _ _)) _ _ _); k_dflt (refine' links_item ?k1 ?k2 ?k3 ?k4 ?_ ?zqk6 ?zqk7; (case k1 => k_asm); (case k2 => k_mem); (case k3 | k4 => assumption); (case zqk6 => with_unfolding_all rfl); (case zqk7 => intro _; with_unfolding_all rfl); k_whole); intro u9Z) | (k_here; (with_reducible show wpAny _ _ (subscriptTail _ _ (Value.ref _) (Value.str _ _)) _ _ _); k_dflt (refine' links_itemI ?k1 ?k2 ?k3 ?k4 ?k5 ?_ ?zqk6 ?zqk7; (case k1 => k_asm); (case k2 => k_mem); (case k3 | k4 | k5 => assumption); (case zqk6 => with_unfolding_all rfl); (case zqk7 => intro _; with_unfolding_all rfl); k_whole); intro t9Z u9Z hk9Z hz9Z) | (k_here; (with_reducible show wpAny _ _ (subscriptTail _ _ (Value.ref _) (Value.int (-1) _)) _ _ _); k_dflt (refine' item_last ?k1 ?k2 ?_ ?k4; (case k1 => k_asm); (case k2 => k_mem); (case k4 => with_unfolding_all rfl); k_whole)))) | ((with_reducible show wpAny _ _ (compareOp _ _ _) _ _ _); (first | ((with_reducible show wpAny _ _ (compareOp CmpOp.In (Value.str _ _) (Value.ref _)) _ _ _); (k_here; k_dflt (refine' links_inB ?k1 ?k2 ?k3 ?_; (case k1 => k_asm); (case k2 => k_mem); (case k3 => assumption); k_whole))) | ((with_reducible show wpAny _ _ (compareOp CmpOp.In (Value.str _ _) (Value.ref _)) _ _ _); (k_here; k_dflt (refine' links_in ?k1 ?k2 ?k3 ?k4 ?_; (case k1 => k_asm); (case k2 => k_mem); (case k3 | k4 => assumption); k_whole))) | (k_here; (with_reducible show wpAny _ _ (compareOp CmpOp.In (Value.str _ _) (Value.str _ _)) _ _ _); first | (refine in_known (b := false) (by assumption) ?_) | (refine in_known (b := true) (by assumption) ?_) | (refine in_known (b := false) (by decide +kernel) ?_) | (refine in_known (b := true) (by decide +kernel) ?_)))) | ((with_reducible show wpAny _ _ (binaryOp Operator.Add (Value.ref _) (Value.ref _)) _ _ _); (k_here; k_dflt (refine' cat_made ?zqF ?zqN ?zql ?zqb ?zqz ?_; (case zqF | zqN => k_asm); (case zql | zqb => k_mem); (case zqz => (simp only [List.length_append, List.length_cons, List.length_nil]; omega)); k_whole); intro D'Z h'Z F'Z N'Z l1Z; (try k_lt l1Z); (try k_sweep))) | ((with_reducible show StarOf _ _ _ (Value.ref _) _ _); (k_here; k_dflt (refine' star_seq ?k1 ?k2 ?zqm ?zqc ?zqd ?zqT ?zqe ?zqz ?_; (case k1 | k2 => k_asm); (case zqm => k_mem); (case zqc | zqd => exact rfl); (case zqT => exact .inl rfl); (case zqe => exact rfl); (case zqz => (rw [List.size_toArray, sizeLine_eq]; omega)); k_whole); intro h'Z F'Z N'Z; (try k_sweep); try dsimp only [List.nil_append, List.cons_append])) | ((with_reducible show wpAny _ _ (truthy _) _ _ _); (first | ((with_reducible show wpAny _ _ (truthy (Value.ref _)) _ _ _); (k_here; k_dflt (first | (refine' truthy_nil ?k1 ?k2 ?_; (case k1 => k_asm); (case k2 => k_mem); k_whole) | (refine' truthy_snoc ?k1 ?k2 ?k3 ?_; (case k1 => k_asm); (case k2 => k_mem); (case k3 => omega); k_whole)))) | ((with_reducible show wpAny _ _ (truthy (Value.ref _)) _ _ _); (k_here; k_dflt (refine' dq_truthy ?k1 ?k2 ?k3 ?_; (case k1 => k_asm); (case k2 => k_mem); (case k3 => first | assumption | omega | (simp only [List.length_cons, List.length_nil] at *; omega)); k_whole))) | (k_here; (with_reducible show wpAny _ _ (truthy (Value.str _ _)) _ _ _); refine truthy_long (by assumption) (by omega) ?_; intro _))) | ((with_reducible show wpAny _ _ (execs _ _) _ _ _); (first | ((with_reducible show wpAny _ _ (execs [] _) _ _ _); (k_here; refine wpAny_execs_nil ?_)) | ((with_reducible show wpAny _ _ (execs (_ :: _) _) _ _ _); (k_here; (try dsimp only); (try k_fold); first | with_reducible refine execs_one ?_ | (refine execs_more ?_; intro qN8 hN8 hO8))))) | walk1 | ((with_reducible show wpAny _ _ _ _ _ _); dsimp only) | (leave1; walk_say "STEP leave1"; try dsimp only) | fail "no step")
          · have J := inv_up I P2 (eq_of_beq (by assumption))
            rw [List.length_map] at J
            exact midM_in _ (by assumption) (news_sub (by assumption) (read_sub hR2)) ⟨f, stk, ts1, tt1, qq, names.dropLast, left, row ++ [Str.mk wd.toArray], _, rn + 1, _, _, by rw [hmB]; exact kst3_of (by rw [← dir_here I.good]; rfl) rfl (fun z z1 z2 => by (repeat (first | with_reducible refine (if_neg z1).trans ?_ | with_reducible refine (if_neg z2).trans ?_)); rfl), rfl, P3, hAp, hRs, J, Nat.le_refl _⟩
          · unfold Stop
            rename Fr _ _ _ (fun y => _) => F11
            rename News _ _ _ (_ :: _) => N11
            rename lkC lc _ = some _ => hk9
            rename Str.length _ ≤ 38 => hz9
            obtain ⟨l, rfl⟩ : ∃ l, left = l + 1 := ⟨left - 1, by omega⟩
            obtain ⟨TX, hTX⟩ : ∃ TX, lkC lc (hereOf (names ++ [Str.mk wd.toArray])) = some TX := ⟨_, by rw [← ejn]; exact hk9⟩
            rw [ejn] at hk9 F11
            rw [ejn]
            refine call3_tok ?_
            intro TK9 eTK9
            clear eTK9
            obtain rfl := Option.some.inj (hTX.symm.trans hk9)
            have nd := nd6 hAp.nd
            have hoff : ∀ q ∈ rBase TD RW D0 o R (tv ++ [Value.ref TP]) (rv ++ [Value.str ⟨wd.toArray⟩ tw]) (tn + 1) (rn + 1) ((TP, oT) :: add), q.1 ≠ D ∧ q.1 ≠ c.fs := fun q hq => ⟨fun e => hAp.off q hq (by rw [e]; repeat (first | exact List.mem_cons_self | refine List.mem_cons_of_mem _ ?_ | refine List.mem_append_right _ ?_)), fun e => hAp.off q hq (by rw [e]; repeat (first | exact List.mem_cons_self | refine List.mem_cons_of_mem _ ?_ | refine List.mem_append_right _ ?_))⟩
            have hRD2 : ∀ p ∈ R2, p.1 ≠ D ∧ p.1 ≠ c.fs := by
              rw [hR2]
              exact sub_all (fun p hp => ⟨fun e => nd.2.2.2.2.2 (e ▸ stk_sub p hp), fun e => nd.1.2.2.2.2.2 (e ▸ stk_sub p hp)⟩) (fun p hp => hoff p (.tail _ (.tail _ (.tail _ (.tail _ hp)))))
            have hRD : ∀ p ∈ (TP, oT) :: (TD, listOf (tv ++ [Value.ref TP]).toArray (tn + 1)) :: (RW, listOf (rv ++ [Value.str ⟨wd.toArray⟩ tw]).toArray (rn + 1)) :: (D0, o) :: (f.S, instObj 587 f.DS) :: (f.DS, sioD w f.sc f.buf (f.k : Int) f.tp) :: (c.pb, dqObj 0 []) :: R2, p.1 ≠ D ∧ p.1 ≠ c.fs := all_cons (hoff _ (by repeat (first | exact List.mem_cons_self | refine List.mem_cons_of_mem _ ?_ | refine List.mem_append_right _ ?_))) (all_cons (hoff _ (by repeat (first | exact List.mem_cons_self | refine List.mem_cons_of_mem _ ?_ | refine List.mem_append_right _ ?_))) (all_cons (hoff _ (by repeat (first | exact List.mem_cons_self | refine List.mem_cons_of_mem _ ?_ | refine List.mem_append_right _ ?_))) (all_cons (hoff _ (by repeat (first | exact List.mem_cons_self | refine List.mem_cons_of_mem _ ?_ | refine List.mem_append_right _ ?_))) (all_cons ⟨Ne.symm nd.2.2.2.1, Ne.symm nd.1.2.2.2.1⟩ (all_cons ⟨Ne.symm nd.2.2.2.2.1, Ne.symm nd.1.2.2.2.2.1⟩ (all_cons ⟨nd.2.1.2.1, Ne.symm nd.1.1⟩ hRD2))))))
            have hbl : (joinStep TX (Str.ofString "")).length ≤ 1000000 := by
              have := (push_sg TX).2.1
              rw [sg_len] at this
              omega
            refine says_use (push_says w X D f.S c.fs c rfl f.inf f.ti 0 f.tl tt1 f.line (.str (Str.ofString " ") ts1) (Str.ofString "") qq (stk.map fun p => .ref p.1) (joinStep TX (Str.ofString "")) (hereOf (names ++ [Str.mk wd.toArray])) _ TK9 _ (fun p hp => (hRD p hp).1) (fun p hp => (hRD p hp).2) nd.2.2.1.1 nd.1.2.2.1 nd.1.2.1 hbl (by rw [List.length_map]; omega)) (by assumption) F11 (by assumption) (news_sub N11 (by (repeat' (first | exact nil_sub8 | ((refine sub_cons ?zqmm8 ?_); (case zqmm8 => repeat (first | exact List.mem_cons_self | refine List.mem_cons_of_mem _ ?_ | refine List.mem_append_right _ ?_))) | refine sub_app ?_ ?_)); all_goals (intro pZ hpZ; repeat (first | exact hpZ | exact List.mem_append_left _ hpZ | refine List.mem_cons_of_mem _ ?_ | refine List.mem_append_right _ ?_)))) (by assumption) rfl (by k_room) (by k_units) ?_
            clear N11
            rintro r12 n12 h12 tk12 F12 N12 ⟨q12, T, S', DS', sc', tp', tl', e12, a1, a2, a3⟩
            subst e12
            subst q12
            (try dsimp only)
            have hlt := allLt_lt a1
            have hRW9 : @LT.lt Nat _ RW DS' := hlt (RW, listOf (rv ++ [Value.str ⟨wd.toArray⟩ tw]).toArray (rn + 1)) (by repeat (first | exact List.mem_cons_self | refine List.mem_cons_of_mem _ ?_ | refine List.mem_append_right _ ?_))
            have hL9 : ∀ b ∈ c.fs :: c.pb :: X :: D :: f.S :: f.DS :: stkAdr stk, @LT.lt Nat _ b DS' :=
              all_cons (hlt (c.fs, dqObj qq (stk.map fun p => .ref p.1)) (by repeat (first | exact List.mem_cons_self | refine List.mem_cons_of_mem _ ?_ | refine List.mem_append_right _ ?_))) (all_cons (hlt (c.pb, dqObj 0 []) (by repeat (first | exact List.mem_cons_self | refine List.mem_cons_of_mem _ ?_ | refine List.mem_append_right _ ?_))) (all_cons (hlt (X, instObj 722 D) (by repeat (first | exact List.mem_cons_self | refine List.mem_cons_of_mem _ ?_ | refine List.mem_append_right _ ?_))) (all_cons (hlt (D, lexD w c f.S f.inf f.ti (.str (Str.ofString " ") ts1) f.line f.tl (Str.ofString "") tt1) (by repeat (first | exact List.mem_cons_self | refine List.mem_cons_of_mem _ ?_ | refine List.mem_append_right _ ?_))) (all_cons (hlt (f.S, instObj 587 f.DS) (by repeat (first | exact List.mem_cons_self | refine List.mem_cons_of_mem _ ?_ | refine List.mem_append_right _ ?_))) (all_cons (hlt (f.DS, sioD w f.sc f.buf (f.k : Int) f.tp) (by repeat (first | exact List.mem_cons_self | refine List.mem_cons_of_mem _ ?_ | refine List.mem_append_right _ ?_))) (fun b hb => by
                obtain ⟨q, hq, rfl⟩ := stkAdr_in (w := w) hb
                exact hlt q (by have hp := inS q hq; repeat (first | exact hp | refine List.mem_cons_of_mem _ ?_))))))))
            have hB9 : ∀ p ∈ rBase TD RW D0 o R (tv ++ [Value.ref TP]) (rv ++ [Value.str ⟨wd.toArray⟩ tw]) (tn + 1) (rn + 1) ((TP, oT) :: add), @LT.lt Nat _ p.1 DS' := all_cons (hlt (TD, listOf (tv ++ [Value.ref TP]).toArray (tn + 1)) (by repeat (first | exact List.mem_cons_self | refine List.mem_cons_of_mem _ ?_ | refine List.mem_append_right _ ?_))) (all_cons (hlt (RW, listOf (rv ++ [Value.str ⟨wd.toArray⟩ tw]).toArray (rn + 1)) (by repeat (first | exact List.mem_cons_self | refine List.mem_cons_of_mem _ ?_ | refine List.mem_append_right _ ?_))) (all_cons (hlt (D0, o) (by repeat (first | exact List.mem_cons_self | refine List.mem_cons_of_mem _ ?_ | refine List.mem_append_right _ ?_))) (all_cons (hlt (TP, oT) (by repeat (first | exact List.mem_cons_self | refine List.mem_cons_of_mem _ ?_ | refine List.mem_append_right _ ?_))) (sub_all (fun p hp => hlt p (by have hp := inA p hp; repeat (first | exact hp | refine List.mem_cons_of_mem _ ?_))) (fun p hp => hlt p (by have hp := inR p hp; repeat (first | exact hp | refine List.mem_cons_of_mem _ ?_)))))))
            obtain ⟨g9, hg9⟩ : ∃ g9 : Fm, g9 = ⟨hereOf (names ++ [Str.mk wd.toArray]), TK9, S', DS', sc', joinStep TX (Str.ofString ""), 0, tp', 1, tl'⟩ := ⟨_, rfl⟩
            have hAp9 := apart_push (w := w) (NW := []) (g := g9) (T := T) (S' := S') (DS' := DS') (by rw [hg9]) (by rw [hg9]) hAp hL9 hB9 a2 a3
            have hFs9 : FsOk g9 ((T, f) :: stk) := by
              rw [hg9]
              refine ⟨⟨⟨Nat.zero_le _, hbl, (push_sg TX).1⟩, by show (0 : Int) ≤ 1; decide⟩, fun p hp => (List.mem_cons.mp hp).elim (fun e => by rw [e]; exact P3.one) (P3.all p)⟩
            have J := inv_link hl I P2 (beq_eq_false_iff_ne.mp (by assumption)) (bne_iff_ne.mp (by assumption)) hTX rfl
            rw [List.length_map] at J
            have hpf9 : pfs g9 ((T, f) :: stk) = ⟨hereOf (names ++ [Str.mk wd.toArray]), sg (joinStep TX (Str.ofString "")), 1⟩ :: pf f :: stk.map fun p => pf p.2 := by rw [hg9]; rfl
            have hle9 : restW (pfs g9 ((T, f) :: stk)) + 40 * l ≤ restW (pfs f stk) + 40 * (l + 1) := by
              have e1 : restW (pfs g9 ((T, f) :: stk)) = (sg (joinStep TX (Str.ofString ""))).length + restW (pfs f stk) := by rw [hpf9]; rfl
              have e2 := (push_sg TX).2.1
              omega
            have hoth : ∀ p ∈ (T, tupOf [.str f.inf f.ti, .ref f.S, .int f.line f.tl]) :: (S', instObj 587 DS') :: (DS', sioD w sc' (joinStep TX (Str.ofString "")) 0 tp') :: (c.fs, dqObj (qq + 1) (.ref T :: stk.map fun p => .ref p.1)) :: (X, instObj 722 D) :: (D, lexD w c S' (hereOf (names ++ [Str.mk wd.toArray])) TK9 (.str (Str.ofString " ") ts1) 1 tl' (Str.ofString "") tt1) :: (TP, oT) :: (TD, listOf (tv ++ [Value.ref TP]).toArray (tn + 1)) :: (D0, o) :: (f.S, instObj 587 f.DS) :: (f.DS, sioD w f.sc f.buf (f.k : Int) f.tp) :: (c.pb, dqObj 0 []) :: R2, p.1 ≠ RW := off_cons (Nat.ne_of_gt (Nat.lt_trans (Nat.lt_trans hRW9 a2) a3)) (off_cons (Nat.ne_of_gt (Nat.lt_trans hRW9 a2)) (off_cons (Nat.ne_of_gt hRW9) (off_cons oR6.1.symm (off_cons oR6.2.2.1.symm (off_cons oR6.2.2.2.1.symm (off_cons nT2 (off_cons w1 (off_cons d2 (off_cons oR6.2.2.2.2.1.symm (off_cons oR6.2.2.2.2.2.1.symm (off_cons oR6.2.1.symm oRW)))))))))))
            repeat' (first | (k_unfold; (try dsimp only)) | (k_end; (with_reducible refine hN8 _ _ ?_); intro kN8; clear hN8 hO8; (try clear qN8); first | with_reducible refine execs_one ?_ | (refine execs_more ?_; intro qN8 hN8 hO8)) | (k_end; (with_reducible refine hO8 _ _ ?zn8 ?_); (case zn8 => first | exact ne_ret _ | exact ne_brk | exact ne_cont); clear hN8 hO8; (try clear qN8)) | (k_end; wrow_close) | ((with_reducible show wpAny _ _ (exec _ _) _ _ _); (first | ((with_reducible show wpAny _ _ (exec (Stmt.While (Expr.Compare _ _ _ _) _ _ _) _) _ _ _); (k_here; refine stop_in ?_)) | ((with_reducible show wpAny _ _ (exec (Stmt.If (Expr.Compare _ _ _ _) _ _ _) _) _ _ _); (k_here; refine stop_in ?_)) | ((with_reducible show wpAny _ _ (exec (Stmt.While (Expr.Compare _ _ _ _) _ _ _) _) _ _ _); (k_here; refine stop_in ?_)) | ((with_reducible show wpAny _ _ (exec (Stmt.If _ _ _ _) _) _ _ _); (k_here; refine wpAny_If ?_)))) | ((with_reducible show wpAny _ _ (call _ _ _) _ _ _); (first | (k_here; (with_reducible show wpAny _ _ (call (Value.ref 869) [Value.str _ _]) _ _ _); refine stop_in ?_) | (k_here; (with_reducible show wpAny _ _ (call (Value.ref 827) (Value.str (Str.ofString "/") _ :: _)) _ _ _); k_dflt (refine' says_pure (join_says _ _ _ _ _ _ ?zqka ?zqkb) ?k1 ?k2 ?k3 ?k4 ?k5 ?kK ?kd ?ku ?_; (case zqka => assumption); tb_rel; (case zqkb => assumption); intro t9Z h9Z tk9Z F9Z N9Z; (try dsimp only); (try k_fold))) | (k_here; (with_reducible show wpAny _ _ (call (Value.ref 848) _) _ _ _); refine stop_in ?_) | (k_here; (with_reducible show wpAny _ _ (call (Value.ref 820) [Value.str _ _]) _ _ _); k_dflt (refine' says_pure (isabs_says _ _ _ _) ?k1 ?k2 ?k3 ?k4 ?k5 ?kK ?kd ?ku ?_; tb_rel; intro t9Z h9Z tk9Z F9Z N9Z; (try dsimp only); (try k_fold))) | (k_here; (with_reducible show wpAny _ _ (call (Value.ref 841) [Value.str _ _]) _ _ _); k_dflt (refine' says_pure (dirname_says _ _ _ _ ?zqka) ?k1 ?k2 ?k3 ?k4 ?k5 ?kK ?kd ?ku ?_; tb_rel; (case zqka => first | assumption | omega); intro t9Z h9Z tk9Z F9Z N9Z; (try dsimp only); (try k_fold))) | (k_here; (with_reducible show wpAny _ _ (call (Value.ref 827) [Value.str _ _, Value.str _ _]) _ _ _); k_dflt (refine' says_pure (join2_says _ _ _ _ _ _ ?zqka ?zqkb) ?k1 ?k2 ?k3 ?k4 ?k5 ?kK ?kd ?ku ?_; tb_rel; (case zqka | zqkb => first | assumption | omega | decide +kernel); intro t9Z h9Z tk9Z F9Z N9Z; (try dsimp only); (try k_fold))) | (k_here; (with_reducible show wpAny _ _ (call (Value.ref 705) _) _ _ _); k_dflt (refine' lead_use ?zqa1 ?zqa2 ?zqa3 ?zqa4 ?zqa5 ?k1 ?k2 ?k3 ?k4 ?k5 ?kK ?kd ?ku ?_; tb_rel; (case zqa1 | zqa2 => k_mem); (case zqa3 | zqa4 | zqa5 => assumption); intro t9Z h9Z tk9Z F9Z N9Z; (try dsimp only); (try k_fold))) | ((with_reducible show wpAny _ _ (call (Value.builtin "list.append") _ _) _ _ _); (k_here; refine stop_in ?_)) | (k_here; (with_reducible show wpAny _ _ (call (Value.ref 669) _) _ _ _); refine stop_in ?_) | (k_here; (with_reducible show wpAny _ _ (call (Value.ref 683) _) _ _ _); refine stop_in ?_) | (k_here; (with_reducible show wpAny _ _ (call (Value.builtin "len") [Value.ref _]) _ _ _); k_dflt (refine' len_made ?k1 ?k2 ?k3 ?_; (case k1 => k_asm); (case k2 => k_mem); (case k3 => omega); k_whole); intro t9Z tk9Z) | ((with_reducible show wpAny _ _ (call (Value.builtin "list.append") _ _) _ _ _); (k_here; k_dflt (refine' append_snoc ?k1 ?k2 ?k3 ?k4 ?_; (case k1 | k2 => k_asm); (case k3 => k_upd); (case k4 => omega); k_whole); intro h'Z F'Z N'Z; (try k_sweep))) | (k_here; (with_reducible show wpAny _ _ (call (Value.builtin "len") [Value.ref _]) _ _ _); k_dflt (refine' dq_len ?k1 ?k2 ?k3 ?_; (case k1 => k_asm); (case k2 => k_mem); (case k3 => first | assumption | omega | (simp only [List.length_cons, List.length_nil] at *; omega)); k_whole)))) | ((with_reducible show wpAny _ _ (setItem (Value.ref _) (Value.int _ _) _) _ _ _); (k_here; refine stop_in ?_)) | ((with_reducible show KswEnd _ _ _ _ _ _ _ _ _ _ _ _); (refine stop_in ?_)) | ((with_reducible show wpAny _ _ (subscriptTail _ _ _ _) _ _ _); (first | (k_here; (with_reducible show wpAny _ _ (subscriptTail _ _ (Value.ref _) (Value.str _ _)) _ _ _); k_dflt (refine' links_item ?k1 ?k2 ?k3 ?k4 ?_ ?zqk6 ?zqk7; (case k1 => k_asm); (case k2 => k_mem); (case k3 | k4 => assumption); (case zqk6 => with_unfolding_all rfl); (case zqk7 => intro _; with_unfolding_all rfl); k_whole); intro u9Z) | (k_here; (with_reducible show wpAny _ _ (subscriptTail _ _ (Value.ref _) (Value.str _ _)) _ _ _); k_dflt (refine' links_itemI ?k1 ?k2 ?k3 ?k4 ?k5 ?_ ?zqk6 ?zqk7; (case k1 => k_asm); (case k2 => k_mem); (case k3 | k4 | k5 => assumption); (case zqk6 => with_unfolding_all rfl); (case zqk7 => intro _; with_unfolding_all rfl); k_whole); intro t9Z u9Z hk9Z hz9Z) | (k_here; (with_reducible show wpAny _ _ (subscriptTail _ _ (Value.ref _) (Value.int (-1) _)) _ _ _); k_dflt (refine' item_last ?k1 ?k2 ?_ ?k4; (case k1 => k_asm); (case k2 => k_mem); (case k4 => with_unfolding_all rfl); k_whole)))) | ((with_reducible show wpAny _ _ (compareOp _ _ _) _ _ _); (first | ((with_reducible show wpAny _ _ (compareOp CmpOp.In (Value.str _ _) (Value.ref _)) _ _ _); (k_here; k_dflt (refine' links_inB ?k1 ?k2 ?k3 ?_; (case k1 => k_asm); (case k2 => k_mem); (case k3 => assumption); k_whole))) | ((with_reducible show wpAny _ _ (compareOp CmpOp.In (Value.str _ _) (Value.ref _)) _ _ _); (k_here; k_dflt (refine' links_in ?k1 ?k2 ?k3 ?k4 ?_; (case k1 => k_asm); (case k2 => k_mem); (case k3 | k4 => assumption); k_whole))) | (k_here; (with_reducible show wpAny _ _ (compareOp CmpOp.In (Value.str _ _) (Value.str _ _)) _ _ _); first | (refine in_known (b := false) (by assumption) ?_) | (refine in_known (b := true) (by assumption) ?_) | (refine in_known (b := false) (by decide +kernel) ?_) | (refine in_known (b := true) (by decide +kernel) ?_)))) | ((with_reducible show wpAny _ _ (binaryOp Operator.Add (Value.ref _) (Value.ref _)) _ _ _); (k_here; k_dflt (refine' cat_made ?zqF ?zqN ?zql ?zqb ?zqz ?_; (case zqF | zqN => k_asm); (case zql | zqb => k_mem); (case zqz => (simp only [List.length_append, List.length_cons, List.length_nil]; omega)); k_whole); intro D'Z h'Z F'Z N'Z l1Z; (try k_lt l1Z); (try k_sweep))) | ((with_reducible show StarOf _ _ _ (Value.ref _) _ _); (k_here; k_dflt (refine' star_seq ?k1 ?k2 ?zqm ?zqc ?zqd ?zqT ?zqe ?zqz ?_; (case k1 | k2 => k_asm); (case zqm => k_mem); (case zqc | zqd => exact rfl); (case zqT => exact .inl rfl); (case zqe => exact rfl); (case zqz => (rw [List.size_toArray, sizeLine_eq]; omega)); k_whole); intro h'Z F'Z N'Z; (try k_sweep); try dsimp only [List.nil_append, List.cons_append])) | ((with_reducible show wpAny _ _ (truthy _) _ _ _); (first | ((with_reducible show wpAny _ _ (truthy (Value.ref _)) _ _ _); (k_here; k_dflt (first | (refine' truthy_nil ?k1 ?k2 ?_; (case k1 => k_asm); (case k2 => k_mem); k_whole) | (refine' truthy_snoc ?k1 ?k2 ?k3 ?_; (case k1 => k_asm); (case k2 => k_mem); (case k3 => omega); k_whole)))) | ((with_reducible show wpAny _ _ (truthy (Value.ref _)) _ _ _); (k_here; k_dflt (refine' dq_truthy ?k1 ?k2 ?k3 ?_; (case k1 => k_asm); (case k2 => k_mem); (case k3 => first | assumption | omega | (simp only [List.length_cons, List.length_nil] at *; omega)); k_whole))) | (k_here; (with_reducible show wpAny _ _ (truthy (Value.str _ _)) _ _ _); refine truthy_long (by assumption) (by omega) ?_; intro _))) | ((with_reducible show wpAny _ _ (execs _ _) _ _ _); (first | ((with_reducible show wpAny _ _ (execs [] _) _ _ _); (k_here; refine wpAny_execs_nil ?_)) | ((with_reducible show wpAny _ _ (execs (_ :: _) _) _ _ _); (k_here; (try dsimp only); (try k_fold); first | with_reducible refine execs_one ?_ | (refine execs_more ?_; intro qN8 hN8 hO8))))) | walk1 | ((with_reducible show wpAny _ _ _ _ _ _); dsimp only) | (leave1; walk_say "STEP leave1"; try dsimp only) | fail "no step")
            unfold Stop
            rename Fr _ _ _ (fun y => _) => F13
            rename News _ _ _ (_ :: _) => N13
            refine set_last (vs := rv) (x := Value.str (Str.mk wd.toArray) tw) (n := rn + 1) F13 (news_sub N13 (by (repeat' (first | exact nil_sub8 | ((refine sub_cons ?zqmm8 ?_); (case zqmm8 => repeat (first | exact List.mem_cons_self | refine List.mem_cons_of_mem _ ?_ | refine List.mem_append_right _ ?_))) | refine sub_app ?_ ?_)); all_goals (intro pZ hpZ; repeat (first | exact hpZ | exact List.mem_append_left _ hpZ | refine List.mem_cons_of_mem _ ?_ | refine List.mem_append_right _ ?_)))) (.head hoth) ?_
            intro h14 F14 N14
            clear N13 F13
            cases hab : Txt.startswith TX (Str.ofString "/") with
            | false =>
              repeat' (first | (k_unfold; (try dsimp only)) | (k_end; (with_reducible refine hN8 _ _ ?_); intro kN8; clear hN8 hO8; (try clear qN8); first | with_reducible refine execs_one ?_ | (refine execs_more ?_; intro qN8 hN8 hO8)) | (k_end; (with_reducible refine hO8 _ _ ?zn8 ?_); (case zn8 => first | exact ne_ret _ | exact ne_brk | exact ne_cont); clear hN8 hO8; (try clear qN8)) | (k_end; wrow_close) | ((with_reducible show wpAny _ _ (exec _ _) _ _ _); (first | ((with_reducible show wpAny _ _ (exec (Stmt.While (Expr.Compare _ _ _ _) _ _ _) _) _ _ _); (k_here; refine stop_in ?_)) | ((with_reducible show wpAny _ _ (exec (Stmt.If (Expr.Compare _ _ _ _) _ _ _) _) _ _ _); (k_here; refine stop_in ?_)) | ((with_reducible show wpAny _ _ (exec (Stmt.While (Expr.Compare _ _ _ _) _ _ _) _) _ _ _); (k_here; refine stop_in ?_)) | ((with_reducible show wpAny _ _ (exec (Stmt.If _ _ _ _) _) _ _ _); (k_here; refine wpAny_If ?_)))) | ((with_reducible show wpAny _ _ (call _ _ _) _ _ _); (first | (k_here; (with_reducible show wpAny _ _ (call (Value.ref 869) [Value.str _ _]) _ _ _); refine stop_in ?_) | (k_here; (with_reducible show wpAny _ _ (call (Value.ref 827) (Value.str (Str.ofString "/") _ :: _)) _ _ _); k_dflt (refine' says_pure (join_says _ _ _ _ _ _ ?zqka ?zqkb) ?k1 ?k2 ?k3 ?k4 ?k5 ?kK ?kd ?ku ?_; (case zqka => assumption); tb_rel; (case zqkb => assumption); intro t9Z h9Z tk9Z F9Z N9Z; (try dsimp only); (try k_fold))) | (k_here; (with_reducible show wpAny _ _ (call (Value.ref 848) _) _ _ _); refine stop_in ?_) | (k_here; (with_reducible show wpAny _ _ (call (Value.ref 820) [Value.str _ _]) _ _ _); k_dflt (refine' says_pure (isabs_says _ _ _ _) ?k1 ?k2 ?k3 ?k4 ?k5 ?kK ?kd ?ku ?_; tb_rel; intro t9Z h9Z tk9Z F9Z N9Z; (try dsimp only); (try k_fold))) | (k_here; (with_reducible show wpAny _ _ (call (Value.ref 841) [Value.str _ _]) _ _ _); k_dflt (refine' says_pure (dirname_says _ _ _ _ ?zqka) ?k1 ?k2 ?k3 ?k4 ?k5 ?kK ?kd ?ku ?_; tb_rel; (case zqka => first | assumption | omega); intro t9Z h9Z tk9Z F9Z N9Z; (try dsimp only); (try k_fold))) | (k_here; (with_reducible show wpAny _ _ (call (Value.ref 827) [Value.str _ _, Value.str _ _]) _ _ _); k_dflt (refine' says_pure (join2_says _ _ _ _ _ _ ?zqka ?zqkb) ?k1 ?k2 ?k3 ?k4 ?k5 ?kK ?kd ?ku ?_; tb_rel; (case zqka | zqkb => first | assumption | omega | decide +kernel); intro t9Z h9Z tk9Z F9Z N9Z; (try dsimp only); (try k_fold))) | (k_here; (with_reducible show wpAny _ _ (call (Value.ref 705) _) _ _ _); k_dflt (refine' lead_use ?zqa1 ?zqa2 ?zqa3 ?zqa4 ?zqa5 ?k1 ?k2 ?k3 ?k4 ?k5 ?kK ?kd ?ku ?_; tb_rel; (case zqa1 | zqa2 => k_mem); (case zqa3 | zqa4 | zqa5 => assumption); intro t9Z h9Z tk9Z F9Z N9Z; (try dsimp only); (try k_fold))) | ((with_reducible show wpAny _ _ (call (Value.builtin "list.append") _ _) _ _ _); (k_here; refine stop_in ?_)) | (k_here; (with_reducible show wpAny _ _ (call (Value.ref 669) _) _ _ _); refine stop_in ?_) | (k_here; (with_reducible show wpAny _ _ (call (Value.ref 683) _) _ _ _); refine stop_in ?_) | (k_here; (with_reducible show wpAny _ _ (call (Value.builtin "len") [Value.ref _]) _ _ _); k_dflt (refine' len_made ?k1 ?k2 ?k3 ?_; (case k1 => k_asm); (case k2 => k_mem); (case k3 => omega); k_whole); intro t9Z tk9Z) | ((with_reducible show wpAny _ _ (call (Value.builtin "list.append") _ _) _ _ _); (k_here; k_dflt (refine' append_snoc ?k1 ?k2 ?k3 ?k4 ?_; (case k1 | k2 => k_asm); (case k3 => k_upd); (case k4 => omega); k_whole); intro h'Z F'Z N'Z; (try k_sweep))) | (k_here; (with_reducible show wpAny _ _ (call (Value.builtin "len") [Value.ref _]) _ _ _); k_dflt (refine' dq_len ?k1 ?k2 ?k3 ?_; (case k1 => k_asm); (case k2 => k_mem); (case k3 => first | assumption | omega | (simp only [List.length_cons, List.length_nil] at *; omega)); k_whole)))) | ((with_reducible show wpAny _ _ (setItem (Value.ref _) (Value.int _ _) _) _ _ _); (k_here; refine stop_in ?_)) | ((with_reducible show KswEnd _ _ _ _ _ _ _ _ _ _ _ _); (refine stop_in ?_)) | ((with_reducible show wpAny _ _ (subscriptTail _ _ _ _) _ _ _); (first | (k_here; (with_reducible show wpAny _ _ (subscriptTail _ _ (Value.ref _) (Value.str _ _)) _ _ _); k_dflt (refine' links_item ?k1 ?k2 ?k3 ?k4 ?_ ?zqk6 ?zqk7; (case k1 => k_asm); (case k2 => k_mem); (case k3 | k4 => assumption); (case zqk6 => with_unfolding_all rfl); (case zqk7 => intro _; with_unfolding_all rfl); k_whole); intro u9Z) | (k_here; (with_reducible show wpAny _ _ (subscriptTail _ _ (Value.ref _) (Value.str _ _)) _ _ _); k_dflt (refine' links_itemI ?k1 ?k2 ?k3 ?k4 ?k5 ?_ ?zqk6 ?zqk7; (case k1 => k_asm); (case k2 => k_mem); (case k3 | k4 | k5 => assumption); (case zqk6 => with_unfolding_all rfl); (case zqk7 => intro _; with_unfolding_all rfl); k_whole); intro t9Z u9Z hk9Z hz9Z) | (k_here; (with_reducible show wpAny _ _ (subscriptTail _ _ (Value.ref _) (Value.int (-1) _)) _ _ _); k_dflt (refine' item_last ?k1 ?k2 ?_ ?k4; (case k1 => k_asm); (case k2 => k_mem); (case k4 => with_unfolding_all rfl); k_whole)))) | ((with_reducible show wpAny _ _ (compareOp _ _ _) _ _ _); (first | ((with_reducible show wpAny _ _ (compareOp CmpOp.In (Value.str _ _) (Value.ref _)) _ _ _); (k_here; k_dflt (refine' links_inB ?k1 ?k2 ?k3 ?_; (case k1 => k_asm); (case k2 => k_mem); (case k3 => assumption); k_whole))) | ((with_reducible show wpAny _ _ (compareOp CmpOp.In (Value.str _ _) (Value.ref _)) _ _ _); (k_here; k_dflt (refine' links_in ?k1 ?k2 ?k3 ?k4 ?_; (case k1 => k_asm); (case k2 => k_mem); (case k3 | k4 => assumption); k_whole))) | (k_here; (with_reducible show wpAny _ _ (compareOp CmpOp.In (Value.str _ _) (Value.str _ _)) _ _ _); first | (refine in_known (b := false) (by assumption) ?_) | (refine in_known (b := true) (by assumption) ?_) | (refine in_known (b := false) (by decide +kernel) ?_) | (refine in_known (b := true) (by decide +kernel) ?_)))) | ((with_reducible show wpAny _ _ (binaryOp Operator.Add (Value.ref _) (Value.ref _)) _ _ _); (k_here; k_dflt (refine' cat_made ?zqF ?zqN ?zql ?zqb ?zqz ?_; (case zqF | zqN => k_asm); (case zql | zqb => k_mem); (case zqz => (simp only [List.length_append, List.length_cons, List.length_nil]; omega)); k_whole); intro D'Z h'Z F'Z N'Z l1Z; (try k_lt l1Z); (try k_sweep))) | ((with_reducible show StarOf _ _ _ (Value.ref _) _ _); (k_here; k_dflt (refine' star_seq ?k1 ?k2 ?zqm ?zqc ?zqd ?zqT ?zqe ?zqz ?_; (case k1 | k2 => k_asm); (case zqm => k_mem); (case zqc | zqd => exact rfl); (case zqT => exact .inl rfl); (case zqe => exact rfl); (case zqz => (rw [List.size_toArray, sizeLine_eq]; omega)); k_whole); intro h'Z F'Z N'Z; (try k_sweep); try dsimp only [List.nil_append, List.cons_append])) | ((with_reducible show wpAny _ _ (truthy _) _ _ _); (first | ((with_reducible show wpAny _ _ (truthy (Value.ref _)) _ _ _); (k_here; k_dflt (first | (refine' truthy_nil ?k1 ?k2 ?_; (case k1 => k_asm); (case k2 => k_mem); k_whole) | (refine' truthy_snoc ?k1 ?k2 ?k3 ?_; (case k1 => k_asm); (case k2 => k_mem); (case k3 => omega); k_whole)))) | ((with_reducible show wpAny _ _ (truthy (Value.ref _)) _ _ _); (k_here; k_dflt (refine' dq_truthy ?k1 ?k2 ?k3 ?_; (case k1 => k_asm); (case k2 => k_mem); (case k3 => first | assumption | omega | (simp only [List.length_cons, List.length_nil] at *; omega)); k_whole))) | (k_here; (with_reducible show wpAny _ _ (truthy (Value.str _ _)) _ _ _); refine truthy_long (by assumption) (by omega) ?_; intro _))) | ((with_reducible show wpAny _ _ (execs _ _) _ _ _); (first | ((with_reducible show wpAny _ _ (execs [] _) _ _ _); (k_here; refine wpAny_execs_nil ?_)) | ((with_reducible show wpAny _ _ (execs (_ :: _) _) _ _ _); (k_here; (try dsimp only); (try k_fold); first | with_reducible refine execs_one ?_ | (refine execs_more ?_; intro qN8 hN8 hO8))))) | walk1 | ((with_reducible show wpAny _ _ _ _ _ _); dsimp only) | (leave1; walk_say "STEP leave1"; try dsimp only) | fail "no step")
              rw [if_neg (by rw [hab]; decide)] at J
              refine midM_in _ (by assumption) (news_sub (by assumption) (by rw [hg9]; exact push_sub2 hR2)) ⟨g9, (T, f) :: stk, ts1, tt1, qq + 1, names, l, row ++ [Str.ofString "."], _, rn + 1, _, _, (by rw [hmB]; exact kst3_of rfl (by rw [show ((l : Nat) : Int) = ((l + 1 : Nat) : Int) - 1 by omega]; rfl) (fun z z1 z2 => by simp only [if_neg z1, if_neg z2, ejn])), rfl, hFs9, apart_rv hAp9, P1.rows.append' (.cons _ _ .nil), ?_, hle9⟩
              · rw [hpf9]
                have e9 : startOf TX names = names := if_neg (by rw [hab]; decide)
                dsimp only at J
                rw [e9] at J
                exact J
            | true =>
              repeat' (first | (k_unfold; (try dsimp only)) | (k_end; (with_reducible refine hN8 _ _ ?_); intro kN8; clear hN8 hO8; (try clear qN8); first | with_reducible refine execs_one ?_ | (refine execs_more ?_; intro qN8 hN8 hO8)) | (k_end; (with_reducible refine hO8 _ _ ?zn8 ?_); (case zn8 => first | exact ne_ret _ | exact ne_brk | exact ne_cont); clear hN8 hO8; (try clear qN8)) | (k_end; wrow_close) | ((with_reducible show wpAny _ _ (exec _ _) _ _ _); (first | ((with_reducible show wpAny _ _ (exec (Stmt.While (Expr.Compare _ _ _ _) _ _ _) _) _ _ _); (k_here; refine stop_in ?_)) | ((with_reducible show wpAny _ _ (exec (Stmt.If (Expr.Compare _ _ _ _) _ _ _) _) _ _ _); (k_here; refine stop_in ?_)) | ((with_reducible show wpAny _ _ (exec (Stmt.While (Expr.Compare _ _ _ _) _ _ _) _) _ _ _); (k_here; refine stop_in ?_)) | ((with_reducible show wpAny _ _ (exec (Stmt.If _ _ _ _) _) _ _ _); (k_here; refine wpAny_If ?_)))) | ((with_reducible show wpAny _ _ (call _ _ _) _ _ _); (first | (k_here; (with_reducible show wpAny _ _ (call (Value.ref 869) [Value.str _ _]) _ _ _); refine stop_in ?_) | (k_here; (with_reducible show wpAny _ _ (call (Value.ref 827) (Value.str (Str.ofString "/") _ :: _)) _ _ _); k_dflt (refine' says_pure (join_says _ _ _ _ _ _ ?zqka ?zqkb) ?k1 ?k2 ?k3 ?k4 ?k5 ?kK ?kd ?ku ?_; (case zqka => assumption); tb_rel; (case zqkb => assumption); intro t9Z h9Z tk9Z F9Z N9Z; (try dsimp only); (try k_fold))) | (k_here; (with_reducible show wpAny _ _ (call (Value.ref 848) _) _ _ _); refine stop_in ?_) | (k_here; (with_reducible show wpAny _ _ (call (Value.ref 820) [Value.str _ _]) _ _ _); k_dflt (refine' says_pure (isabs_says _ _ _ _) ?k1 ?k2 ?k3 ?k4 ?k5 ?kK ?kd ?ku ?_; tb_rel; intro t9Z h9Z tk9Z F9Z N9Z; (try dsimp only); (try k_fold))) | (k_here; (with_reducible show wpAny _ _ (call (Value.ref 841) [Value.str _ _]) _ _ _); k_dflt (refine' says_pure (dirname_says _ _ _ _ ?zqka) ?k1 ?k2 ?k3 ?k4 ?k5 ?kK ?kd ?ku ?_; tb_rel; (case zqka => first | assumption | omega); intro t9Z h9Z tk9Z F9Z N9Z; (try dsimp only); (try k_fold))) | (k_here; (with_reducible show wpAny _ _ (call (Value.ref 827) [Value.str _ _, Value.str _ _]) _ _ _); k_dflt (refine' says_pure (join2_says _ _ _ _ _ _ ?zqka ?zqkb) ?k1 ?k2 ?k3 ?k4 ?k5 ?kK ?kd ?ku ?_; tb_rel; (case zqka | zqkb => first | assumption | omega | decide +kernel); intro t9Z h9Z tk9Z F9Z N9Z; (try dsimp only); (try k_fold))) | (k_here; (with_reducible show wpAny _ _ (call (Value.ref 705) _) _ _ _); k_dflt (refine' lead_use ?zqa1 ?zqa2 ?zqa3 ?zqa4 ?zqa5 ?k1 ?k2 ?k3 ?k4 ?k5 ?kK ?kd ?ku ?_; tb_rel; (case zqa1 | zqa2 => k_mem); (case zqa3 | zqa4 | zqa5 => assumption); intro t9Z h9Z tk9Z F9Z N9Z; (try dsimp only); (try k_fold))) | ((with_reducible show wpAny _ _ (call (Value.builtin "list.append") _ _) _ _ _); (k_here; refine stop_in ?_)) | (k_here; (with_reducible show wpAny _ _ (call (Value.ref 669) _) _ _ _); refine stop_in ?_) | (k_here; (with_reducible show wpAny _ _ (call (Value.ref 683) _) _ _ _); refine stop_in ?_) | (k_here; (with_reducible show wpAny _ _ (call (Value.builtin "len") [Value.ref _]) _ _ _); k_dflt (refine' len_made ?k1 ?k2 ?k3 ?_; (case k1 => k_asm); (case k2 => k_mem); (case k3 => omega); k_whole); intro t9Z tk9Z) | ((with_reducible show wpAny _ _ (call (Value.builtin "list.append") _ _) _ _ _); (k_here; k_dflt (refine' append_snoc ?k1 ?k2 ?k3 ?k4 ?_; (case k1 | k2 => k_asm); (case k3 => k_upd); (case k4 => omega); k_whole); intro h'Z F'Z N'Z; (try k_sweep))) | (k_here; (with_reducible show wpAny _ _ (call (Value.builtin "len") [Value.ref _]) _ _ _); k_dflt (refine' dq_len ?k1 ?k2 ?k3 ?_; (case k1 => k_asm); (case k2 => k_mem); (case k3 => first | assumption | omega | (simp only [List.length_cons, List.length_nil] at *; omega)); k_whole)))) | ((with_reducible show wpAny _ _ (setItem (Value.ref _) (Value.int _ _) _) _ _ _); (k_here; refine stop_in ?_)) | ((with_reducible show KswEnd _ _ _ _ _ _ _ _ _ _ _ _); (refine stop_in ?_)) | ((with_reducible show wpAny _ _ (subscriptTail _ _ _ _) _ _ _); (first | (k_here; (with_reducible show wpAny _ _ (subscriptTail _ _ (Value.ref _) (Value.str _ _)) _ _ _); k_dflt (refine' links_item ?k1 ?k2 ?k3 ?k4 ?_ ?zqk6 ?zqk7; (case k1 => k_asm); (case k2 => k_mem); (case k3 | k4 => assumption); (case zqk6 => with_unfolding_all rfl); (case zqk7 => intro _; with_unfolding_all rfl); k_whole); intro u9Z) | (k_here; (with_reducible show wpAny _ _ (subscriptTail _ _ (Value.ref _) (Value.str _ _)) _ _ _); k_dflt (refine' links_itemI ?k1 ?k2 ?k3 ?k4 ?k5 ?_ ?zqk6 ?zqk7; (case k1 => k_asm); (case k2 => k_mem); (case k3 | k4 | k5 => assumption); (case zqk6 => with_unfolding_all rfl); (case zqk7 => intro _; with_unfolding_all rfl); k_whole); intro t9Z u9Z hk9Z hz9Z) | (k_here; (with_reducible show wpAny _ _ (subscriptTail _ _ (Value.ref _) (Value.int (-1) _)) _ _ _); k_dflt (refine' item_last ?k1 ?k2 ?_ ?k4; (case k1 => k_asm); (case k2 => k_mem); (case k4 => with_unfolding_all rfl); k_whole)))) | ((with_reducible show wpAny _ _ (compareOp _ _ _) _ _ _); (first | ((with_reducible show wpAny _ _ (compareOp CmpOp.In (Value.str _ _) (Value.ref _)) _ _ _); (k_here; k_dflt (refine' links_inB ?k1 ?k2 ?k3 ?_; (case k1 => k_asm); (case k2 => k_mem); (case k3 => assumption); k_whole))) | ((with_reducible show wpAny _ _ (compareOp CmpOp.In (Value.str _ _) (Value.ref _)) _ _ _); (k_here; k_dflt (refine' links_in ?k1 ?k2 ?k3 ?k4 ?_; (case k1 => k_asm); (case k2 => k_mem); (case k3 | k4 => assumption); k_whole))) | (k_here; (with_reducible show wpAny _ _ (compareOp CmpOp.In (Value.str _ _) (Value.str _ _)) _ _ _); first | (refine in_known (b := false) (by assumption) ?_) | (refine in_known (b := true) (by assumption) ?_) | (refine in_known (b := false) (by decide +kernel) ?_) | (refine in_known (b := true) (by decide +kernel) ?_)))) | ((with_reducible show wpAny _ _ (binaryOp Operator.Add (Value.ref _) (Value.ref _)) _ _ _); (k_here; k_dflt (refine' cat_made ?zqF ?zqN ?zql ?zqb ?zqz ?_; (case zqF | zqN => k_asm); (case zql | zqb => k_mem); (case zqz => (simp only [List.length_append, List.length_cons, List.length_nil]; omega)); k_whole); intro D'Z h'Z F'Z N'Z l1Z; (try k_lt l1Z); (try k_sweep))) | ((with_reducible show StarOf _ _ _ (Value.ref _) _ _); (k_here; k_dflt (refine' star_seq ?k1 ?k2 ?zqm ?zqc ?zqd ?zqT ?zqe ?zqz ?_; (case k1 | k2 => k_asm); (case zqm => k_mem); (case zqc | zqd => exact rfl); (case zqT => exact .inl rfl); (case zqe => exact rfl); (case zqz => (rw [List.size_toArray, sizeLine_eq]; omega)); k_whole); intro h'Z F'Z N'Z; (try k_sweep); try dsimp only [List.nil_append, List.cons_append])) | ((with_reducible show wpAny _ _ (truthy _) _ _ _); (first | ((with_reducible show wpAny _ _ (truthy (Value.ref _)) _ _ _); (k_here; k_dflt (first | (refine' truthy_nil ?k1 ?k2 ?_; (case k1 => k_asm); (case k2 => k_mem); k_whole) | (refine' truthy_snoc ?k1 ?k2 ?k3 ?_; (case k1 => k_asm); (case k2 => k_mem); (case k3 => omega); k_whole)))) | ((with_reducible show wpAny _ _ (truthy (Value.ref _)) _ _ _); (k_here; k_dflt (refine' dq_truthy ?k1 ?k2 ?k3 ?_; (case k1 => k_asm); (case k2 => k_mem); (case k3 => first | assumption | omega | (simp only [List.length_cons, List.length_nil] at *; omega)); k_whole))) | (k_here; (with_reducible show wpAny _ _ (truthy (Value.str _ _)) _ _ _); refine truthy_long (by assumption) (by omega) ?_; intro _))) | ((with_reducible show wpAny _ _ (execs _ _) _ _ _); (first | ((with_reducible show wpAny _ _ (execs [] _) _ _ _); (k_here; refine wpAny_execs_nil ?_)) | ((with_reducible show wpAny _ _ (execs (_ :: _) _) _ _ _); (k_here; (try dsimp only); (try k_fold); first | with_reducible refine execs_one ?_ | (refine execs_more ?_; intro qN8 hN8 hO8))))) | walk1 | ((with_reducible show wpAny _ _ _ _ _ _); dsimp only) | (leave1; walk_say "STEP leave1"; try dsimp only) | fail "no step")
              unfold Stop
              rename Fr _ _ _ (fun y => _) => F15
              rename News _ _ _ (_ :: _) => N15
              refine set_last (vs := rv) (n := rn + 1) F15 N15 (.head hoth) ?_
              intro h16 F16 N16
              clear N15 F15
              repeat' (first | (k_unfold; (try dsimp only)) | (k_end; (with_reducible refine hN8 _ _ ?_); intro kN8; clear hN8 hO8; (try clear qN8); first | with_reducible refine execs_one ?_ | (refine execs_more ?_; intro qN8 hN8 hO8)) | (k_end; (with_reducible refine hO8 _ _ ?zn8 ?_); (case zn8 => first | exact ne_ret _ | exact ne_brk | exact ne_cont); clear hN8 hO8; (try clear qN8)) | (k_end; wrow_close) | ((with_reducible show wpAny _ _ (exec _ _) _ _ _); (first | ((with_reducible show wpAny _ _ (exec (Stmt.While (Expr.Compare _ _ _ _) _ _ _) _) _ _ _); (k_here; refine stop_in ?_)) | ((with_reducible show wpAny _ _ (exec (Stmt.If (Expr.Compare _ _ _ _) _ _ _) _) _ _ _); (k_here; refine stop_in ?_)) | ((with_reducible show wpAny _ _ (exec (Stmt.While (Expr.Compare _ _ _ _) _ _ _) _) _ _ _); (k_here; refine stop_in ?_)) | ((with_reducible show wpAny _ _ (exec (Stmt.If _ _ _ _) _) _ _ _); (k_here; refine wpAny_If ?_)))) | ((with_reducible show wpAny _ _ (call _ _ _) _ _ _); (first | (k_here; (with_reducible show wpAny _ _ (call (Value.ref 869) [Value.str _ _]) _ _ _); refine stop_in ?_) | (k_here; (with_reducible show wpAny _ _ (call (Value.ref 827) (Value.str (Str.ofString "/") _ :: _)) _ _ _); k_dflt (refine' says_pure (join_says _ _ _ _ _ _ ?zqka ?zqkb) ?k1 ?k2 ?k3 ?k4 ?k5 ?kK ?kd ?ku ?_; (case zqka => assumption); tb_rel; (case zqkb => assumption); intro t9Z h9Z tk9Z F9Z N9Z; (try dsimp only); (try k_fold))) | (k_here; (with_reducible show wpAny _ _ (call (Value.ref 848) _) _ _ _); refine stop_in ?_) | (k_here; (with_reducible show wpAny _ _ (call (Value.ref 820) [Value.str _ _]) _ _ _); k_dflt (refine' says_pure (isabs_says _ _ _ _) ?k1 ?k2 ?k3 ?k4 ?k5 ?kK ?kd ?ku ?_; tb_rel; intro t9Z h9Z tk9Z F9Z N9Z; (try dsimp only); (try k_fold))) | (k_here; (with_reducible show wpAny _ _ (call (Value.ref 841) [Value.str _ _]) _ _ _); k_dflt (refine' says_pure (dirname_says _ _ _ _ ?zqka) ?k1 ?k2 ?k3 ?k4 ?k5 ?kK ?kd ?ku ?_; tb_rel; (case zqka => first | assumption | omega); intro t9Z h9Z tk9Z F9Z N9Z; (try dsimp only); (try k_fold))) | (k_here; (with_reducible show wpAny _ _ (call (Value.ref 827) [Value.str _ _, Value.str _ _]) _ _ _); k_dflt (refine' says_pure (join2_says _ _ _ _ _ _ ?zqka ?zqkb) ?k1 ?k2 ?k3 ?k4 ?k5 ?kK ?kd ?ku ?_; tb_rel; (case zqka | zqkb => first | assumption | omega | decide +kernel); intro t9Z h9Z tk9Z F9Z N9Z; (try dsimp only); (try k_fold))) | (k_here; (with_reducible show wpAny _ _ (call (Value.ref 705) _) _ _ _); k_dflt (refine' lead_use ?zqa1 ?zqa2 ?zqa3 ?zqa4 ?zqa5 ?k1 ?k2 ?k3 ?k4 ?k5 ?kK ?kd ?ku ?_; tb_rel; (case zqa1 | zqa2 => k_mem); (case zqa3 | zqa4 | zqa5 => assumption); intro t9Z h9Z tk9Z F9Z N9Z; (try dsimp only); (try k_fold))) | ((with_reducible show wpAny _ _ (call (Value.builtin "list.append") _ _) _ _ _); (k_here; refine stop_in ?_)) | (k_here; (with_reducible show wpAny _ _ (call (Value.ref 669) _) _ _ _); refine stop_in ?_) | (k_here; (with_reducible show wpAny _ _ (call (Value.ref 683) _) _ _ _); refine stop_in ?_) | (k_here; (with_reducible show wpAny _ _ (call (Value.builtin "len") [Value.ref _]) _ _ _); k_dflt (refine' len_made ?k1 ?k2 ?k3 ?_; (case k1 => k_asm); (case k2 => k_mem); (case k3 => omega); k_whole); intro t9Z tk9Z) | ((with_reducible show wpAny _ _ (call (Value.builtin "list.append") _ _) _ _ _); (k_here; k_dflt (refine' append_snoc ?k1 ?k2 ?k3 ?k4 ?_; (case k1 | k2 => k_asm); (case k3 => k_upd); (case k4 => omega); k_whole); intro h'Z F'Z N'Z; (try k_sweep))) | (k_here; (with_reducible show wpAny _ _ (call (Value.builtin "len") [Value.ref _]) _ _ _); k_dflt (refine' dq_len ?k1 ?k2 ?k3 ?_; (case k1 => k_asm); (case k2 => k_mem); (case k3 => first | assumption | omega | (simp only [List.length_cons, List.length_nil] at *; omega)); k_whole)))) | ((with_reducible show wpAny _ _ (setItem (Value.ref _) (Value.int _ _) _) _ _ _); (k_here; refine stop_in ?_)) | ((with_reducible show KswEnd _ _ _ _ _ _ _ _ _ _ _ _); (refine stop_in ?_)) | ((with_reducible show wpAny _ _ (subscriptTail _ _ _ _) _ _ _); (first | (k_here; (with_reducible show wpAny _ _ (subscriptTail _ _ (Value.ref _) (Value.str _ _)) _ _ _); k_dflt (refine' links_item ?k1 ?k2 ?k3 ?k4 ?_ ?zqk6 ?zqk7; (case k1 => k_asm); (case k2 => k_mem); (case k3 | k4 => assumption); (case zqk6 => with_unfolding_all rfl); (case zqk7 => intro _; with_unfolding_all rfl); k_whole); intro u9Z) | (k_here; (with_reducible show wpAny _ _ (subscriptTail _ _ (Value.ref _) (Value.str _ _)) _ _ _); k_dflt (refine' links_itemI ?k1 ?k2 ?k3 ?k4 ?k5 ?_ ?zqk6 ?zqk7; (case k1 => k_asm); (case k2 => k_mem); (case k3 | k4 | k5 => assumption); (case zqk6 => with_unfolding_all rfl); (case zqk7 => intro _; with_unfolding_all rfl); k_whole); intro t9Z u9Z hk9Z hz9Z) | (k_here; (with_reducible show wpAny _ _ (subscriptTail _ _ (Value.ref _) (Value.int (-1) _)) _ _ _); k_dflt (refine' item_last ?k1 ?k2 ?_ ?k4; (case k1 => k_asm); (case k2 => k_mem); (case k4 => with_unfolding_all rfl); k_whole)))) | ((with_reducible show wpAny _ _ (compareOp _ _ _) _ _ _); (first | ((with_reducible show wpAny _ _ (compareOp CmpOp.In (Value.str _ _) (Value.ref _)) _ _ _); (k_here; k_dflt (refine' links_inB ?k1 ?k2 ?k3 ?_; (case k1 => k_asm); (case k2 => k_mem); (case k3 => assumption); k_whole))) | ((with_reducible show wpAny _ _ (compareOp CmpOp.In (Value.str _ _) (Value.ref _)) _ _ _); (k_here; k_dflt (refine' links_in ?k1 ?k2 ?k3 ?k4 ?_; (case k1 => k_asm); (case k2 => k_mem); (case k3 | k4 => assumption); k_whole))) | (k_here; (with_reducible show wpAny _ _ (compareOp CmpOp.In (Value.str _ _) (Value.str _ _)) _ _ _); first | (refine in_known (b := false) (by assumption) ?_) | (refine in_known (b := true) (by assumption) ?_) | (refine in_known (b := false) (by decide +kernel) ?_) | (refine in_known (b := true) (by decide +kernel) ?_)))) | ((with_reducible show wpAny _ _ (binaryOp Operator.Add (Value.ref _) (Value.ref _)) _ _ _); (k_here; k_dflt (refine' cat_made ?zqF ?zqN ?zql ?zqb ?zqz ?_; (case zqF | zqN => k_asm); (case zql | zqb => k_mem); (case zqz => (simp only [List.length_append, List.length_cons, List.length_nil]; omega)); k_whole); intro D'Z h'Z F'Z N'Z l1Z; (try k_lt l1Z); (try k_sweep))) | ((with_reducible show StarOf _ _ _ (Value.ref _) _ _); (k_here; k_dflt (refine' star_seq ?k1 ?k2 ?zqm ?zqc ?zqd ?zqT ?zqe ?zqz ?_; (case k1 | k2 => k_asm); (case zqm => k_mem); (case zqc | zqd => exact rfl); (case zqT => exact .inl rfl); (case zqe => exact rfl); (case zqz => (rw [List.size_toArray, sizeLine_eq]; omega)); k_whole); intro h'Z F'Z N'Z; (try k_sweep); try dsimp only [List.nil_append, List.cons_append])) | ((with_reducible show wpAny _ _ (truthy _) _ _ _); (first | ((with_reducible show wpAny _ _ (truthy (Value.ref _)) _ _ _); (k_here; k_dflt (first | (refine' truthy_nil ?k1 ?k2 ?_; (case k1 => k_asm); (case k2 => k_mem); k_whole) | (refine' truthy_snoc ?k1 ?k2 ?k3 ?_; (case k1 => k_asm); (case k2 => k_mem); (case k3 => omega); k_whole)))) | ((with_reducible show wpAny _ _ (truthy (Value.ref _)) _ _ _); (k_here; k_dflt (refine' dq_truthy ?k1 ?k2 ?k3 ?_; (case k1 => k_asm); (case k2 => k_mem); (case k3 => first | assumption | omega | (simp only [List.length_cons, List.length_nil] at *; omega)); k_whole))) | (k_here; (with_reducible show wpAny _ _ (truthy (Value.str _ _)) _ _ _); refine truthy_long (by assumption) (by omega) ?_; intro _))) | ((with_reducible show wpAny _ _ (execs _ _) _ _ _); (first | ((with_reducible show wpAny _ _ (execs [] _) _ _ _); (k_here; refine wpAny_execs_nil ?_)) | ((with_reducible show wpAny _ _ (execs (_ :: _) _) _ _ _); (k_here; (try dsimp only); (try k_fold); first | with_reducible refine execs_one ?_ | (refine execs_more ?_; intro qN8 hN8 hO8))))) | walk1 | ((with_reducible show wpAny _ _ _ _ _ _); dsimp only) | (leave1; walk_say "STEP leave1"; try dsimp only) | fail "no step")
              rw [if_pos hab] at J
              refine midM_in _ (by assumption) (news_sub (by assumption) (by rw [hg9]; exact push_sub2 hR2)) ⟨g9, (T, f) :: stk, ts1, tt1, qq + 1, [], l, row ++ [Str.ofString "/"], _, rn + 1, _, _, (by rw [hmB]; exact kst3_of (by rw [← slash_here]; rfl) (by rw [show ((l : Nat) : Int) = ((l + 1 : Nat) : Int) - 1 by omega]; rfl) (fun z z1 z2 => by simp only [if_neg z1, if_neg z2, ejn])), rfl, hFs9, apart_rv hAp9, P1.rows.append' (.cons _ _ .nil), ?_, hle9⟩
              · rw [hpf9]
                have e9 : startOf TX names = [] := if_pos hab
                dsimp only at J
                rw [e9] at J
                exact J
          · unfold Stop
            refine wpAny_If ?_
            repeat' (first | (k_unfold; (try dsimp only)) | (k_end; (with_reducible refine hN8 _ _ ?_); intro kN8; clear hN8 hO8; (try clear qN8); first | with_reducible refine execs_one ?_ | (refine execs_more ?_; intro qN8 hN8 hO8)) | (k_end; (with_reducible refine hO8 _ _ ?zn8 ?_); (case zn8 => first | exact ne_ret _ | exact ne_brk | exact ne_cont); clear hN8 hO8; (try clear qN8)) | (k_end; wrow_close) | ((with_reducible show wpAny _ _ (exec _ _) _ _ _); (first | ((with_reducible show wpAny _ _ (exec (Stmt.While (Expr.Compare _ _ _ _) _ _ _) _) _ _ _); (k_here; refine stop_in ?_)) | ((with_reducible show wpAny _ _ (exec (Stmt.If (Expr.Compare _ _ _ _) _ _ _) _) _ _ _); (k_here; refine stop_in ?_)) | ((with_reducible show wpAny _ _ (exec (Stmt.While (Expr.Compare _ _ _ _) _ _ _) _) _ _ _); (k_here; refine stop_in ?_)) | ((with_reducible show wpAny _ _ (exec (Stmt.If _ _ _ _) _) _ _ _); (k_here; refine wpAny_If ?_)))) | ((with_reducible show wpAny _ _ (call _ _ _) _ _ _); (first | (k_here; (with_reducible show wpAny _ _ (call (Value.ref 869) [Value.str _ _]) _ _ _); refine stop_in ?_) | (k_here; (with_reducible show wpAny _ _ (call (Value.ref 827) (Value.str (Str.ofString "/") _ :: _)) _ _ _); k_dflt (refine' says_pure (join_says _ _ _ _ _ _ ?zqka ?zqkb) ?k1 ?k2 ?k3 ?k4 ?k5 ?kK ?kd ?ku ?_; (case zqka => assumption); tb_rel; (case zqkb => assumption); intro t9Z h9Z tk9Z F9Z N9Z; (try dsimp only); (try k_fold))) | (k_here; (with_reducible show wpAny _ _ (call (Value.ref 848) _) _ _ _); refine stop_in ?_) | (k_here; (with_reducible show wpAny _ _ (call (Value.ref 820) [Value.str _ _]) _ _ _); k_dflt (refine' says_pure (isabs_says _ _ _ _) ?k1 ?k2 ?k3 ?k4 ?k5 ?kK ?kd ?ku ?_; tb_rel; intro t9Z h9Z tk9Z F9Z N9Z; (try dsimp only); (try k_fold))) | (k_here; (with_reducible show wpAny _ _ (call (Value.ref 841) [Value.str _ _]) _ _ _); k_dflt (refine' says_pure (dirname_says _ _ _ _ ?zqka) ?k1 ?k2 ?k3 ?k4 ?k5 ?kK ?kd ?ku ?_; tb_rel; (case zqka => first | assumption | omega); intro t9Z h9Z tk9Z F9Z N9Z; (try dsimp only); (try k_fold))) | (k_here; (with_reducible show wpAny _ _ (call (Value.ref 827) [Value.str _ _, Value.str _ _]) _ _ _); k_dflt (refine' says_pure (join2_says _ _ _ _ _ _ ?zqka ?zqkb) ?k1 ?k2 ?k3 ?k4 ?k5 ?kK ?kd ?ku ?_; tb_rel; (case zqka | zqkb => first | assumption | omega | decide +kernel); intro t9Z h9Z tk9Z F9Z N9Z; (try dsimp only); (try k_fold))) | (k_here; (with_reducible show wpAny _ _ (call (Value.ref 705) _) _ _ _); k_dflt (refine' lead_use ?zqa1 ?zqa2 ?zqa3 ?zqa4 ?zqa5 ?k1 ?k2 ?k3 ?k4 ?k5 ?kK ?kd ?ku ?_; tb_rel; (case zqa1 | zqa2 => k_mem); (case zqa3 | zqa4 | zqa5 => assumption); intro t9Z h9Z tk9Z F9Z N9Z; (try dsimp only); (try k_fold))) | ((with_reducible show wpAny _ _ (call (Value.builtin "list.append") _ _) _ _ _); (k_here; refine stop_in ?_)) | (k_here; (with_reducible show wpAny _ _ (call (Value.ref 669) _) _ _ _); refine stop_in ?_) | (k_here; (with_reducible show wpAny _ _ (call (Value.ref 683) _) _ _ _); refine stop_in ?_) | (k_here; (with_reducible show wpAny _ _ (call (Value.builtin "len") [Value.ref _]) _ _ _); k_dflt (refine' len_made ?k1 ?k2 ?k3 ?_; (case k1 => k_asm); (case k2 => k_mem); (case k3 => omega); k_whole); intro t9Z tk9Z) | ((with_reducible show wpAny _ _ (call (Value.builtin "list.append") _ _) _ _ _); (k_here; k_dflt (refine' append_snoc ?k1 ?k2 ?k3 ?k4 ?_; (case k1 | k2 => k_asm); (case k3 => k_upd); (case k4 => omega); k_whole); intro h'Z F'Z N'Z; (try k_sweep))) | (k_here; (with_reducible show wpAny _ _ (call (Value.builtin "len") [Value.ref _]) _ _ _); k_dflt (refine' dq_len ?k1 ?k2 ?k3 ?_; (case k1 => k_asm); (case k2 => k_mem); (case k3 => first | assumption | omega | (simp only [List.length_cons, List.length_nil] at *; omega)); k_whole)))) | ((with_reducible show wpAny _ _ (setItem (Value.ref _) (Value.int _ _) _) _ _ _); (k_here; refine stop_in ?_)) | ((with_reducible show KswEnd _ _ _ _ _ _ _ _ _ _ _ _); (refine stop_in ?_)) | ((with_reducible show wpAny _ _ (subscriptTail _ _ _ _) _ _ _); (first | (k_here; (with_reducible show wpAny _ _ (subscriptTail _ _ (Value.ref _) (Value.str _ _)) _ _ _); k_dflt (refine' links_item ?k1 ?k2 ?k3 ?k4 ?_ ?zqk6 ?zqk7; (case k1 => k_asm); (case k2 => k_mem); (case k3 | k4 => assumption); (case zqk6 => with_unfolding_all rfl); (case zqk7 => intro _; with_unfolding_all rfl); k_whole); intro u9Z) | (k_here; (with_reducible show wpAny _ _ (subscriptTail _ _ (Value.ref _) (Value.str _ _)) _ _ _); k_dflt (refine' links_itemI ?k1 ?k2 ?k3 ?k4 ?k5 ?_ ?zqk6 ?zqk7; (case k1 => k_asm); (case k2 => k_mem); (case k3 | k4 | k5 => assumption); (case zqk6 => with_unfolding_all rfl); (case zqk7 => intro _; with_unfolding_all rfl); k_whole); intro t9Z u9Z hk9Z hz9Z) | (k_here; (with_reducible show wpAny _ _ (subscriptTail _ _ (Value.ref _) (Value.int (-1) _)) _ _ _); k_dflt (refine' item_last ?k1 ?k2 ?_ ?k4; (case k1 => k_asm); (case k2 => k_mem); (case k4 => with_unfolding_all rfl); k_whole)))) | ((with_reducible show wpAny _ _ (compareOp _ _ _) _ _ _); (first | ((with_reducible show wpAny _ _ (compareOp CmpOp.In (Value.str _ _) (Value.ref _)) _ _ _); (k_here; k_dflt (refine' links_inB ?k1 ?k2 ?k3 ?_; (case k1 => k_asm); (case k2 => k_mem); (case k3 => assumption); k_whole))) | ((with_reducible show wpAny _ _ (compareOp CmpOp.In (Value.str _ _) (Value.ref _)) _ _ _); (k_here; k_dflt (refine' links_in ?k1 ?k2 ?k3 ?k4 ?_; (case k1 => k_asm); (case k2 => k_mem); (case k3 | k4 => assumption); k_whole))) | (k_here; (with_reducible show wpAny _ _ (compareOp CmpOp.In (Value.str _ _) (Value.str _ _)) _ _ _); first | (refine in_known (b := false) (by assumption) ?_) | (refine in_known (b := true) (by assumption) ?_) | (refine in_known (b := false) (by decide +kernel) ?_) | (refine in_known (b := true) (by decide +kernel) ?_)))) | ((with_reducible show wpAny _ _ (binaryOp Operator.Add (Value.ref _) (Value.ref _)) _ _ _); (k_here; k_dflt (refine' cat_made ?zqF ?zqN ?zql ?zqb ?zqz ?_; (case zqF | zqN => k_asm); (case zql | zqb => k_mem); (case zqz => (simp only [List.length_append, List.length_cons, List.length_nil]; omega)); k_whole); intro D'Z h'Z F'Z N'Z l1Z; (try k_lt l1Z); (try k_sweep))) | ((with_reducible show StarOf _ _ _ (Value.ref _) _ _); (k_here; k_dflt (refine' star_seq ?k1 ?k2 ?zqm ?zqc ?zqd ?zqT ?zqe ?zqz ?_; (case k1 | k2 => k_asm); (case zqm => k_mem); (case zqc | zqd => exact rfl); (case zqT => exact .inl rfl); (case zqe => exact rfl); (case zqz => (rw [List.size_toArray, sizeLine_eq]; omega)); k_whole); intro h'Z F'Z N'Z; (try k_sweep); try dsimp only [List.nil_append, List.cons_append])) | ((with_reducible show wpAny _ _ (truthy _) _ _ _); (first | ((with_reducible show wpAny _ _ (truthy (Value.ref _)) _ _ _); (k_here; k_dflt (first | (refine' truthy_nil ?k1 ?k2 ?_; (case k1 => k_asm); (case k2 => k_mem); k_whole) | (refine' truthy_snoc ?k1 ?k2 ?k3 ?_; (case k1 => k_asm); (case k2 => k_mem); (case k3 => omega); k_whole)))) | ((with_reducible show wpAny _ _ (truthy (Value.ref _)) _ _ _); (k_here; k_dflt (refine' dq_truthy ?k1 ?k2 ?k3 ?_; (case k1 => k_asm); (case k2 => k_mem); (case k3 => first | assumption | omega | (simp only [List.length_cons, List.length_nil] at *; omega)); k_whole))) | (k_here; (with_reducible show wpAny _ _ (truthy (Value.str _ _)) _ _ _); refine truthy_long (by assumption) (by omega) ?_; intro _))) | ((with_reducible show wpAny _ _ (execs _ _) _ _ _); (first | ((with_reducible show wpAny _ _ (execs [] _) _ _ _); (k_here; refine wpAny_execs_nil ?_)) | ((with_reducible show wpAny _ _ (execs (_ :: _) _) _ _ _); (k_here; (try dsimp only); (try k_fold); first | with_reducible refine execs_one ?_ | (refine execs_more ?_; intro qN8 hN8 hO8))))) | walk1 | ((with_reducible show wpAny _ _ _ _ _ _); dsimp only) | (leave1; walk_say "STEP leave1"; try dsimp only) | fail "no step")
            have J := inv_name I P2 (beq_eq_false_iff_ne.mp (by assumption)) (bne_iff_ne.mp (by assumption)) (.inr (by show left = 0; omega))
            rw [List.length_map] at J
            exact midM_in _ (by assumption) (news_sub (by assumption) (read_sub hR2)) ⟨f, stk, ts1, tt1, qq, names ++ [Str.mk wd.toArray], left, row ++ [Str.mk wd.toArray], _, rn + 1, _, _, by rw [hmB]; exact kst3_of (by rw [← ejn]; rfl) rfl (fun z z1 z2 => by (repeat (first | with_reducible refine (if_neg z1).trans ?_ | with_reducible refine (if_neg z2).trans ?_)); rfl), rfl, P3, hAp, hRs, J, Nat.le_refl _⟩
          · unfold Stop
            refine wpAny_If ?_
            repeat' (first | (k_unfold; (try dsimp only)) | (k_end; (with_reducible refine hN8 _ _ ?_); intro kN8; clear hN8 hO8; (try clear qN8); first | with_reducible refine execs_one ?_ | (refine execs_more ?_; intro qN8 hN8 hO8)) | (k_end; (with_reducible refine hO8 _ _ ?zn8 ?_); (case zn8 => first | exact ne_ret _ | exact ne_brk | exact ne_cont); clear hN8 hO8; (try clear qN8)) | (k_end; wrow_close) | ((with_reducible show wpAny _ _ (exec _ _) _ _ _); (first | ((with_reducible show wpAny _ _ (exec (Stmt.While (Expr.Compare _ _ _ _) _ _ _) _) _ _ _); (k_here; refine stop_in ?_)) | ((with_reducible show wpAny _ _ (exec (Stmt.If (Expr.Compare _ _ _ _) _ _ _) _) _ _ _); (k_here; refine stop_in ?_)) | ((with_reducible show wpAny _ _ (exec (Stmt.While (Expr.Compare _ _ _ _) _ _ _) _) _ _ _); (k_here; refine stop_in ?_)) | ((with_reducible show wpAny _ _ (exec (Stmt.If _ _ _ _) _) _ _ _); (k_here; refine wpAny_If ?_)))) | ((with_reducible show wpAny _ _ (call _ _ _) _ _ _); (first | (k_here; (with_reducible show wpAny _ _ (call (Value.ref 869) [Value.str _ _]) _ _ _); refine stop_in ?_) | (k_here; (with_reducible show wpAny _ _ (call (Value.ref 827) (Value.str (Str.ofString "/") _ :: _)) _ _ _); k_dflt (refine' says_pure (join_says _ _ _ _ _ _ ?zqka ?zqkb) ?k1 ?k2 ?k3 ?k4 ?k5 ?kK ?kd ?ku ?_; (case zqka => assumption); tb_rel; (case zqkb => assumption); intro t9Z h9Z tk9Z F9Z N9Z; (try dsimp only); (try k_fold))) | (k_here; (with_reducible show wpAny _ _ (call (Value.ref 848) _) _ _ _); refine stop_in ?_) | (k_here; (with_reducible show wpAny _ _ (call (Value.ref 820) [Value.str _ _]) _ _ _); k_dflt (refine' says_pure (isabs_says _ _ _ _) ?k1 ?k2 ?k3 ?k4 ?k5 ?kK ?kd ?ku ?_; tb_rel; intro t9Z h9Z tk9Z F9Z N9Z; (try dsimp only); (try k_fold))) | (k_here; (with_reducible show wpAny _ _ (call (Value.ref 841) [Value.str _ _]) _ _ _); k_dflt (refine' says_pure (dirname_says _ _ _ _ ?zqka) ?k1 ?k2 ?k3 ?k4 ?k5 ?kK ?kd ?ku ?_; tb_rel; (case zqka => first | assumption | omega); intro t9Z h9Z tk9Z F9Z N9Z; (try dsimp only); (try k_fold))) | (k_here; (with_reducible show wpAny _ _ (call (Value.ref 827) [Value.str _ _, Value.str _ _]) _ _ _); k_dflt (refine' says_pure (join2_says _ _ _ _ _ _ ?zqka ?zqkb) ?k1 ?k2 ?k3 ?k4 ?k5 ?kK ?kd ?ku ?_; tb_rel; (case zqka | zqkb => first | assumption | omega | decide +kernel); intro t9Z h9Z tk9Z F9Z N9Z; (try dsimp only); (try k_fold))) | (k_here; (with_reducible show wpAny _ _ (call (Value.ref 705) _) _ _ _); k_dflt (refine' lead_use ?zqa1 ?zqa2 ?zqa3 ?zqa4 ?zqa5 ?k1 ?k2 ?k3 ?k4 ?k5 ?kK ?kd ?ku ?_; tb_rel; (case zqa1 | zqa2 => k_mem); (case zqa3 | zqa4 | zqa5 => assumption); intro t9Z h9Z tk9Z F9Z N9Z; (try dsimp only); (try k_fold))) | ((with_reducible show wpAny _ _ (call (Value.builtin "list.append") _ _) _ _ _); (k_here; refine stop_in ?_)) | (k_here; (with_reducible show wpAny _ _ (call (Value.ref 669) _) _ _ _); refine stop_in ?_) | (k_here; (with_reducible show wpAny _ _ (call (Value.ref 683) _) _ _ _); refine stop_in ?_) | (k_here; (with_reducible show wpAny _ _ (call (Value.builtin "len") [Value.ref _]) _ _ _); k_dflt (refine' len_made ?k1 ?k2 ?k3 ?_; (case k1 => k_asm); (case k2 => k_mem); (case k3 => omega); k_whole); intro t9Z tk9Z) | ((with_reducible show wpAny _ _ (call (Value.builtin "list.append") _ _) _ _ _); (k_here; k_dflt (refine' append_snoc ?k1 ?k2 ?k3 ?k4 ?_; (case k1 | k2 => k_asm); (case k3 => k_upd); (case k4 => omega); k_whole); intro h'Z F'Z N'Z; (try k_sweep))) | (k_here; (with_reducible show wpAny _ _ (call (Value.builtin "len") [Value.ref _]) _ _ _); k_dflt (refine' dq_len ?k1 ?k2 ?k3 ?_; (case k1 => k_asm); (case k2 => k_mem); (case k3 => first | assumption | omega | (simp only [List.length_cons, List.length_nil] at *; omega)); k_whole)))) | ((with_reducible show wpAny _ _ (setItem (Value.ref _) (Value.int _ _) _) _ _ _); (k_here; refine stop_in ?_)) | ((with_reducible show KswEnd _ _ _ _ _ _ _ _ _ _ _ _); (refine stop_in ?_)) | ((with_reducible show wpAny _ _ (subscriptTail _ _ _ _) _ _ _); (first | (k_here; (with_reducible show wpAny _ _ (subscriptTail _ _ (Value.ref _) (Value.str _ _)) _ _ _); k_dflt (refine' links_item ?k1 ?k2 ?k3 ?k4 ?_ ?zqk6 ?zqk7; (case k1 => k_asm); (case k2 => k_mem); (case k3 | k4 => assumption); (case zqk6 => with_unfolding_all rfl); (case zqk7 => intro _; with_unfolding_all rfl); k_whole); intro u9Z) | (k_here; (with_reducible show wpAny _ _ (subscriptTail _ _ (Value.ref _) (Value.str _ _)) _ _ _); k_dflt (refine' links_itemI ?k1 ?k2 ?k3 ?k4 ?k5 ?_ ?zqk6 ?zqk7; (case k1 => k_asm); (case k2 => k_mem); (case k3 | k4 | k5 => assumption); (case zqk6 => with_unfolding_all rfl); (case zqk7 => intro _; with_unfolding_all rfl); k_whole); intro t9Z u9Z hk9Z hz9Z) | (k_here; (with_reducible show wpAny _ _ (subscriptTail _ _ (Value.ref _) (Value.int (-1) _)) _ _ _); k_dflt (refine' item_last ?k1 ?k2 ?_ ?k4; (case k1 => k_asm); (case k2 => k_mem); (case k4 => with_unfolding_all rfl); k_whole)))) | ((with_reducible show wpAny _ _ (compareOp _ _ _) _ _ _); (first | ((with_reducible show wpAny _ _ (compareOp CmpOp.In (Value.str _ _) (Value.ref _)) _ _ _); (k_here; k_dflt (refine' links_inB ?k1 ?k2 ?k3 ?_; (case k1 => k_asm); (case k2 => k_mem); (case k3 => assumption); k_whole))) | ((with_reducible show wpAny _ _ (compareOp CmpOp.In (Value.str _ _) (Value.ref _)) _ _ _); (k_here; k_dflt (refine' links_in ?k1 ?k2 ?k3 ?k4 ?_; (case k1 => k_asm); (case k2 => k_mem); (case k3 | k4 => assumption); k_whole))) | (k_here; (with_reducible show wpAny _ _ (compareOp CmpOp.In (Value.str _ _) (Value.str _ _)) _ _ _); first | (refine in_known (b := false) (by assumption) ?_) | (refine in_known (b := true) (by assumption) ?_) | (refine in_known (b := false) (by decide +kernel) ?_) | (refine in_known (b := true) (by decide +kernel) ?_)))) | ((with_reducible show wpAny _ _ (binaryOp Operator.Add (Value.ref _) (Value.ref _)) _ _ _); (k_here; k_dflt (refine' cat_made ?zqF ?zqN ?zql ?zqb ?zqz ?_; (case zqF | zqN => k_asm); (case zql | zqb => k_mem); (case zqz => (simp only [List.length_append, List.length_cons, List.length_nil]; omega)); k_whole); intro D'Z h'Z F'Z N'Z l1Z; (try k_lt l1Z); (try k_sweep))) | ((with_reducible show StarOf _ _ _ (Value.ref _) _ _); (k_here; k_dflt (refine' star_seq ?k1 ?k2 ?zqm ?zqc ?zqd ?zqT ?zqe ?zqz ?_; (case k1 | k2 => k_asm); (case zqm => k_mem); (case zqc | zqd => exact rfl); (case zqT => exact .inl rfl); (case zqe => exact rfl); (case zqz => (rw [List.size_toArray, sizeLine_eq]; omega)); k_whole); intro h'Z F'Z N'Z; (try k_sweep); try dsimp only [List.nil_append, List.cons_append])) | ((with_reducible show wpAny _ _ (truthy _) _ _ _); (first | ((with_reducible show wpAny _ _ (truthy (Value.ref _)) _ _ _); (k_here; k_dflt (first | (refine' truthy_nil ?k1 ?k2 ?_; (case k1 => k_asm); (case k2 => k_mem); k_whole) | (refine' truthy_snoc ?k1 ?k2 ?k3 ?_; (case k1 => k_asm); (case k2 => k_mem); (case k3 => omega); k_whole)))) | ((with_reducible show wpAny _ _ (truthy (Value.ref _)) _ _ _); (k_here; k_dflt (refine' dq_truthy ?k1 ?k2 ?k3 ?_; (case k1 => k_asm); (case k2 => k_mem); (case k3 => first | assumption | omega | (simp only [List.length_cons, List.length_nil] at *; omega)); k_whole))) | (k_here; (with_reducible show wpAny _ _ (truthy (Value.str _ _)) _ _ _); refine truthy_long (by assumption) (by omega) ?_; intro _))) | ((with_reducible show wpAny _ _ (execs _ _) _ _ _); (first | ((with_reducible show wpAny _ _ (execs [] _) _ _ _); (k_here; refine wpAny_execs_nil ?_)) | ((with_reducible show wpAny _ _ (execs (_ :: _) _) _ _ _); (k_here; (try dsimp only); (try k_fold); first | with_reducible refine execs_one ?_ | (refine execs_more ?_; intro qN8 hN8 hO8))))) | walk1 | ((with_reducible show wpAny _ _ _ _ _ _); dsimp only) | (leave1; walk_say "STEP leave1"; try dsimp only) | fail "no step")
            have J := inv_name I P2 (beq_eq_false_iff_ne.mp (by assumption)) (bne_iff_ne.mp (by assumption)) (.inl (by dsimp only; rw [← ejn]; exact Option.isSome_eq_false_iff.mp (by assumption) |> Option.isNone_iff_eq_none.mp))
            rw [List.length_map] at J
            exact midM_in _ (by assumption) (news_sub (by assumption) (read_sub hR2)) ⟨f, stk, ts1, tt1, qq, names ++ [Str.mk wd.toArray], left, row ++ [Str.mk wd.toArray], _, rn + 1, _, _, by rw [hmB]; exact kst3_of (by rw [← ejn]; rfl) rfl (fun z z1 z2 => by (repeat (first | with_reducible refine (if_neg z1).trans ?_ | with_reducible refine (if_neg z2).trans ?_)); rfl), rfl, P3, hAp, hRs, J, Nat.le_refl _⟩
          · unfold Stop
            refine wpAny_If ?_
            repeat' (first | (k_unfold; (try dsimp only)) | (k_end; (with_reducible refine hN8 _ _ ?_); intro kN8; clear hN8 hO8; (try clear qN8); first | with_reducible refine execs_one ?_ | (refine execs_more ?_; intro qN8 hN8 hO8)) | (k_end; (with_reducible refine hO8 _ _ ?zn8 ?_); (case zn8 => first | exact ne_ret _ | exact ne_brk | exact ne_cont); clear hN8 hO8; (try clear qN8)) | (k_end; wrow_close) | ((with_reducible show wpAny _ _ (exec _ _) _ _ _); (first | ((with_reducible show wpAny _ _ (exec (Stmt.While (Expr.Compare _ _ _ _) _ _ _) _) _ _ _); (k_here; refine stop_in ?_)) | ((with_reducible show wpAny _ _ (exec (Stmt.If (Expr.Compare _ _ _ _) _ _ _) _) _ _ _); (k_here; refine stop_in ?_)) | ((with_reducible show wpAny _ _ (exec (Stmt.While (Expr.Compare _ _ _ _) _ _ _) _) _ _ _); (k_here; refine stop_in ?_)) | ((with_reducible show wpAny _ _ (exec (Stmt.If _ _ _ _) _) _ _ _); (k_here; refine wpAny_If ?_)))) | ((with_reducible show wpAny _ _ (call _ _ _) _ _ _); (first | (k_here; (with_reducible show wpAny _ _ (call (Value.ref 869) [Value.str _ _]) _ _ _); refine stop_in ?_) | (k_here; (with_reducible show wpAny _ _ (call (Value.ref 827) (Value.str (Str.ofString "/") _ :: _)) _ _ _); k_dflt (refine' says_pure (join_says _ _ _ _ _ _ ?zqka ?zqkb) ?k1 ?k2 ?k3 ?k4 ?k5 ?kK ?kd ?ku ?_; (case zqka => assumption); tb_rel; (case zqkb => assumption); intro t9Z h9Z tk9Z F9Z N9Z; (try dsimp only); (try k_fold))) | (k_here; (with_reducible show wpAny _ _ (call (Value.ref 848) _) _ _ _); refine stop_in ?_) | (k_here; (with_reducible show wpAny _ _ (call (Value.ref 820) [Value.str _ _]) _ _ _); k_dflt (refine' says_pure (isabs_says _ _ _ _) ?k1 ?k2 ?k3 ?k4 ?k5 ?kK ?kd ?ku ?_; tb_rel; intro t9Z h9Z tk9Z F9Z N9Z; (try dsimp only); (try k_fold))) | (k_here; (with_reducible show wpAny _ _ (call (Value.ref 841) [Value.str _ _]) _ _ _); k_dflt (refine' says_pure (dirname_says _ _ _ _ ?zqka) ?k1 ?k2 ?k3 ?k4 ?k5 ?kK ?kd ?ku ?_; tb_rel; (case zqka => first | assumption | omega); intro t9Z h9Z tk9Z F9Z N9Z; (try dsimp only); (try k_fold))) | (k_here; (with_reducible show wpAny _ _ (call (Value.ref 827) [Value.str _ _, Value.str _ _]) _ _ _); k_dflt (refine' says_pure (join2_says _ _ _ _ _ _ ?zqka ?zqkb) ?k1 ?k2 ?k3 ?k4 ?k5 ?kK ?kd ?ku ?_; tb_rel; (case zqka | zqkb => first | assumption | omega | decide +kernel); intro t9Z h9Z tk9Z F9Z N9Z; (try dsimp only); (try k_fold))) | (k_here; (with_reducible show wpAny _ _ (call (Value.ref 705) _) _ _ _); k_dflt (refine' lead_use ?zqa1 ?zqa2 ?zqa3 ?zqa4 ?zqa5 ?k1 ?k2 ?k3 ?k4 ?k5 ?kK ?kd ?ku ?_; tb_rel; (case zqa1 | zqa2 => k_mem); (case zqa3 | zqa4 | zqa5 => assumption); intro t9Z h9Z tk9Z F9Z N9Z; (try dsimp only); (try k_fold))) | ((with_reducible show wpAny _ _ (call (Value.builtin "list.append") _ _) _ _ _); (k_here; refine stop_in ?_)) | (k_here; (with_reducible show wpAny _ _ (call (Value.ref 669) _) _ _ _); refine stop_in ?_) | (k_here; (with_reducible show wpAny _ _ (call (Value.ref 683) _) _ _ _); refine stop_in ?_) | (k_here; (with_reducible show wpAny _ _ (call (Value.builtin "len") [Value.ref _]) _ _ _); k_dflt (refine' len_made ?k1 ?k2 ?k3 ?_; (case k1 => k_asm); (case k2 => k_mem); (case k3 => omega); k_whole); intro t9Z tk9Z) | ((with_reducible show wpAny _ _ (call (Value.builtin "list.append") _ _) _ _ _); (k_here; k_dflt (refine' append_snoc ?k1 ?k2 ?k3 ?k4 ?_; (case k1 | k2 => k_asm); (case k3 => k_upd); (case k4 => omega); k_whole); intro h'Z F'Z N'Z; (try k_sweep))) | (k_here; (with_reducible show wpAny _ _ (call (Value.builtin "len") [Value.ref _]) _ _ _); k_dflt (refine' dq_len ?k1 ?k2 ?k3 ?_; (case k1 => k_asm); (case k2 => k_mem); (case k3 => first | assumption | omega | (simp only [List.length_cons, List.length_nil] at *; omega)); k_whole)))) | ((with_reducible show wpAny _ _ (setItem (Value.ref _) (Value.int _ _) _) _ _ _); (k_here; refine stop_in ?_)) | ((with_reducible show KswEnd _ _ _ _ _ _ _ _ _ _ _ _); (refine stop_in ?_)) | ((with_reducible show wpAny _ _ (subscriptTail _ _ _ _) _ _ _); (first | (k_here; (with_reducible show wpAny _ _ (subscriptTail _ _ (Value.ref _) (Value.str _ _)) _ _ _); k_dflt (refine' links_item ?k1 ?k2 ?k3 ?k4 ?_ ?zqk6 ?zqk7; (case k1 => k_asm); (case k2 => k_mem); (case k3 | k4 => assumption); (case zqk6 => with_unfolding_all rfl); (case zqk7 => intro _; with_unfolding_all rfl); k_whole); intro u9Z) | (k_here; (with_reducible show wpAny _ _ (subscriptTail _ _ (Value.ref _) (Value.str _ _)) _ _ _); k_dflt (refine' links_itemI ?k1 ?k2 ?k3 ?k4 ?k5 ?_ ?zqk6 ?zqk7; (case k1 => k_asm); (case k2 => k_mem); (case k3 | k4 | k5 => assumption); (case zqk6 => with_unfolding_all rfl); (case zqk7 => intro _; with_unfolding_all rfl); k_whole); intro t9Z u9Z hk9Z hz9Z) | (k_here; (with_reducible show wpAny _ _ (subscriptTail _ _ (Value.ref _) (Value.int (-1) _)) _ _ _); k_dflt (refine' item_last ?k1 ?k2 ?_ ?k4; (case k1 => k_asm); (case k2 => k_mem); (case k4 => with_unfolding_all rfl); k_whole)))) | ((with_reducible show wpAny _ _ (compareOp _ _ _) _ _ _); (first | ((with_reducible show wpAny _ _ (compareOp CmpOp.In (Value.str _ _) (Value.ref _)) _ _ _); (k_here; k_dflt (refine' links_inB ?k1 ?k2 ?k3 ?_; (case k1 => k_asm); (case k2 => k_mem); (case k3 => assumption); k_whole))) | ((with_reducible show wpAny _ _ (compareOp CmpOp.In (Value.str _ _) (Value.ref _)) _ _ _); (k_here; k_dflt (refine' links_in ?k1 ?k2 ?k3 ?k4 ?_; (case k1 => k_asm); (case k2 => k_mem); (case k3 | k4 => assumption); k_whole))) | (k_here; (with_reducible show wpAny _ _ (compareOp CmpOp.In (Value.str _ _) (Value.str _ _)) _ _ _); first | (refine in_known (b := false) (by assumption) ?_) | (refine in_known (b := true) (by assumption) ?_) | (refine in_known (b := false) (by decide +kernel) ?_) | (refine in_known (b := true) (by decide +kernel) ?_)))) | ((with_reducible show wpAny _ _ (binaryOp Operator.Add (Value.ref _) (Value.ref _)) _ _ _); (k_here; k_dflt (refine' cat_made ?zqF ?zqN ?zql ?zqb ?zqz ?_; (case zqF | zqN => k_asm); (case zql | zqb => k_mem); (case zqz => (simp only [List.length_append, List.length_cons, List.length_nil]; omega)); k_whole); intro D'Z h'Z F'Z N'Z l1Z; (try k_lt l1Z); (try k_sweep))) | ((with_reducible show StarOf _ _ _ (Value.ref _) _ _); (k_here; k_dflt (refine' star_seq ?k1 ?k2 ?zqm ?zqc ?zqd ?zqT ?zqe ?zqz ?_; (case k1 | k2 => k_asm); (case zqm => k_mem); (case zqc | zqd => exact rfl); (case zqT => exact .inl rfl); (case zqe => exact rfl); (case zqz => (rw [List.size_toArray, sizeLine_eq]; omega)); k_whole); intro h'Z F'Z N'Z; (try k_sweep); try dsimp only [List.nil_append, List.cons_append])) | ((with_reducible show wpAny _ _ (truthy _) _ _ _); (first | ((with_reducible show wpAny _ _ (truthy (Value.ref _)) _ _ _); (k_here; k_dflt (first | (refine' truthy_nil ?k1 ?k2 ?_; (case k1 => k_asm); (case k2 => k_mem); k_whole) | (refine' truthy_snoc ?k1 ?k2 ?k3 ?_; (case k1 => k_asm); (case k2 => k_mem); (case k3 => omega); k_whole)))) | ((with_reducible show wpAny _ _ (truthy (Value.ref _)) _ _ _); (k_here; k_dflt (refine' dq_truthy ?k1 ?k2 ?k3 ?_; (case k1 => k_asm); (case k2 => k_mem); (case k3 => first | assumption | omega | (simp only [List.length_cons, List.length_nil] at *; omega)); k_whole))) | (k_here; (with_reducible show wpAny _ _ (truthy (Value.str _ _)) _ _ _); refine truthy_long (by assumption) (by omega) ?_; intro _))) | ((with_reducible show wpAny _ _ (execs _ _) _ _ _); (first | ((with_reducible show wpAny _ _ (execs [] _) _ _ _); (k_here; refine wpAny_execs_nil ?_)) | ((with_reducible show wpAny _ _ (execs (_ :: _) _) _ _ _); (k_here; (try dsimp only); (try k_fold); first | with_reducible refine execs_one ?_ | (refine execs_more ?_; intro qN8 hN8 hO8))))) | walk1 | ((with_reducible show wpAny _ _ _ _ _ _); dsimp only) | (leave1; walk_say "STEP leave1"; try dsimp only) | fail "no step")
            have J := inv_dot I P2 (bne_eq_false_iff_eq.mp (by assumption))
            rw [List.length_map] at J
            exact midM_in _ (by assumption) (news_sub (by assumption) (read_sub hR2)) ⟨f, stk, ts1, tt1, qq, names, left, row ++ [Str.mk wd.toArray], _, rn + 1, _, _, by rw [hmB]; exact kst3_of rfl rfl (fun z z1 z2 => by (repeat (first | with_reducible refine (if_neg z1).trans ?_ | with_reducible refine (if_neg z2).trans ?_)); rfl), rfl, P3, hAp, hRs, J, Nat.le_refl _⟩
        · rintro h20 tk20 m2 _ F20 N20 ⟨f2, stk2, ts2, tt2, q2, names2, left2, row2, rv2, rn2, th2, tl2, rfl, rfl, o1, o2, o3, o4, o5⟩
          have hofN : ∀ p ∈ (D0, o) :: ((TP, oT) :: add ++ R), p.1 ≠ TD ∧ p.1 ≠ RW := fun p hp => by
            rcases List.mem_cons.mp hp with e | hp
            · rw [e]; exact ⟨d1, d2⟩
            · rcases List.mem_cons.mp hp with e | hp
              · rw [e]; exact ⟨nT1, nT2⟩
              · exact P1.off p (.tail _ hp)
          have hs20 : stk2.length ≤ 20 := by
            have q1 := o4.deep
            have q3 : (pfs f2 stk2).length = stk2.length + 1 := by simp [pfs]
            rw [q3] at q1
            omega
          rw [hmB] at F20
          unfold kst3 at F20
          (try dsimp only at F20)
          clear hmB F8 N8
          repeat' (first | (k_unfold; (try dsimp only)) | (k_end; (with_reducible refine hN8 _ _ ?_); intro kN8; clear hN8 hO8; (try clear qN8); first | with_reducible refine execs_one ?_ | (refine execs_more ?_; intro qN8 hN8 hO8)) | (k_end; (with_reducible refine hO8 _ _ ?zn8 ?_); (case zn8 => first | exact ne_ret _ | exact ne_brk | exact ne_cont); clear hN8 hO8; (try clear qN8)) | (k_end; wrow_close) | ((with_reducible show wpAny _ _ (exec _ _) _ _ _); (first | ((with_reducible show wpAny _ _ (exec (Stmt.While (Expr.Compare _ _ _ _) _ _ _) _) _ _ _); (k_here; refine stop_in ?_)) | ((with_reducible show wpAny _ _ (exec (Stmt.If (Expr.Compare _ _ _ _) _ _ _) _) _ _ _); (k_here; refine stop_in ?_)) | ((with_reducible show wpAny _ _ (exec (Stmt.While (Expr.Compare _ _ _ _) _ _ _) _) _ _ _); (k_here; refine stop_in ?_)) | ((with_reducible show wpAny _ _ (exec (Stmt.If _ _ _ _) _) _ _ _); (k_here; refine wpAny_If ?_)))) | ((with_reducible show wpAny _ _ (call _ _ _) _ _ _); (first | (k_here; (with_reducible show wpAny _ _ (call (Value.ref 869) [Value.str _ _]) _ _ _); refine stop_in ?_) | (k_here; (with_reducible show wpAny _ _ (call (Value.ref 827) (Value.str (Str.ofString "/") _ :: _)) _ _ _); k_dflt (refine' says_pure (join_says _ _ _ _ _ _ ?zqka ?zqkb) ?k1 ?k2 ?k3 ?k4 ?k5 ?kK ?kd ?ku ?_; (case zqka => assumption); tb_rel; (case zqkb => assumption); intro t9Z h9Z tk9Z F9Z N9Z; (try dsimp only); (try k_fold))) | (k_here; (with_reducible show wpAny _ _ (call (Value.ref 848) _) _ _ _); refine stop_in ?_) | (k_here; (with_reducible show wpAny _ _ (call (Value.ref 820) [Value.str _ _]) _ _ _); k_dflt (refine' says_pure (isabs_says _ _ _ _) ?k1 ?k2 ?k3 ?k4 ?k5 ?kK ?kd ?ku ?_; tb_rel; intro t9Z h9Z tk9Z F9Z N9Z; (try dsimp only); (try k_fold))) | (k_here; (with_reducible show wpAny _ _ (call (Value.ref 841) [Value.str _ _]) _ _ _); k_dflt (refine' says_pure (dirname_says _ _ _ _ ?zqka) ?k1 ?k2 ?k3 ?k4 ?k5 ?kK ?kd ?ku ?_; tb_rel; (case zqka => first | assumption | omega); intro t9Z h9Z tk9Z F9Z N9Z; (try dsimp only); (try k_fold))) | (k_here; (with_reducible show wpAny _ _ (call (Value.ref 827) [Value.str _ _, Value.str _ _]) _ _ _); k_dflt (refine' says_pure (join2_says _ _ _ _ _ _ ?zqka ?zqkb) ?k1 ?k2 ?k3 ?k4 ?k5 ?kK ?kd ?ku ?_; tb_rel; (case zqka | zqkb => first | assumption | omega | decide +kernel); intro t9Z h9Z tk9Z F9Z N9Z; (try dsimp only); (try k_fold))) | (k_here; (with_reducible show wpAny _ _ (call (Value.ref 705) _) _ _ _); k_dflt (refine' lead_use ?zqa1 ?zqa2 ?zqa3 ?zqa4 ?zqa5 ?k1 ?k2 ?k3 ?k4 ?k5 ?kK ?kd ?ku ?_; tb_rel; (case zqa1 | zqa2 => k_mem); (case zqa3 | zqa4 | zqa5 => assumption); intro t9Z h9Z tk9Z F9Z N9Z; (try dsimp only); (try k_fold))) | ((with_reducible show wpAny _ _ (call (Value.builtin "list.append") _ _) _ _ _); (k_here; refine stop_in ?_)) | (k_here; (with_reducible show wpAny _ _ (call (Value.ref 669) _) _ _ _); refine stop_in ?_) | (k_here; (with_reducible show wpAny _ _ (call (Value.ref 683) _) _ _ _); refine stop_in ?_) | (k_here; (with_reducible show wpAny _ _ (call (Value.builtin "len") [Value.ref _]) _ _ _); k_dflt (refine' len_made ?k1 ?k2 ?k3 ?_; (case k1 => k_asm); (case k2 => k_mem); (case k3 => omega); k_whole); intro t9Z tk9Z) | ((with_reducible show wpAny _ _ (call (Value.builtin "list.append") _ _) _ _ _); (k_here; k_dflt (refine' append_snoc ?k1 ?k2 ?k3 ?k4 ?_; (case k1 | k2 => k_asm); (case k3 => k_upd); (case k4 => omega); k_whole); intro h'Z F'Z N'Z; (try k_sweep))) | (k_here; (with_reducible show wpAny _ _ (call (Value.builtin "len") [Value.ref _]) _ _ _); k_dflt (refine' dq_len ?k1 ?k2 ?k3 ?_; (case k1 => k_asm); (case k2 => k_mem); (case k3 => first | assumption | omega | (simp only [List.length_cons, List.length_nil] at *; omega)); k_whole)))) | ((with_reducible show wpAny _ _ (setItem (Value.ref _) (Value.int _ _) _) _ _ _); (k_here; refine stop_in ?_)) | ((with_reducible show KswEnd _ _ _ _ _ _ _ _ _ _ _ _); (refine stop_in ?_)) | ((with_reducible show wpAny _ _ (subscriptTail _ _ _ _) _ _ _); (first | (k_here; (with_reducible show wpAny _ _ (subscriptTail _ _ (Value.ref _) (Value.str _ _)) _ _ _); k_dflt (refine' links_item ?k1 ?k2 ?k3 ?k4 ?_ ?zqk6 ?zqk7; (case k1 => k_asm); (case k2 => k_mem); (case k3 | k4 => assumption); (case zqk6 => with_unfolding_all rfl); (case zqk7 => intro _; with_unfolding_all rfl); k_whole); intro u9Z) | (k_here; (with_reducible show wpAny _ _ (subscriptTail _ _ (Value.ref _) (Value.str _ _)) _ _ _); k_dflt (refine' links_itemI ?k1 ?k2 ?k3 ?k4 ?k5 ?_ ?zqk6 ?zqk7; (case k1 => k_asm); (case k2 => k_mem); (case k3 | k4 | k5 => assumption); (case zqk6 => with_unfolding_all rfl); (case zqk7 => intro _; with_unfolding_all rfl); k_whole); intro t9Z u9Z hk9Z hz9Z) | (k_here; (with_reducible show wpAny _ _ (subscriptTail _ _ (Value.ref _) (Value.int (-1) _)) _ _ _); k_dflt (refine' item_last ?k1 ?k2 ?_ ?k4; (case k1 => k_asm); (case k2 => k_mem); (case k4 => with_unfolding_all rfl); k_whole)))) | ((with_reducible show wpAny _ _ (compareOp _ _ _) _ _ _); (first | ((with_reducible show wpAny _ _ (compareOp CmpOp.In (Value.str _ _) (Value.ref _)) _ _ _); (k_here; k_dflt (refine' links_inB ?k1 ?k2 ?k3 ?_; (case k1 => k_asm); (case k2 => k_mem); (case k3 => assumption); k_whole))) | ((with_reducible show wpAny _ _ (compareOp CmpOp.In (Value.str _ _) (Value.ref _)) _ _ _); (k_here; k_dflt (refine' links_in ?k1 ?k2 ?k3 ?k4 ?_; (case k1 => k_asm); (case k2 => k_mem); (case k3 | k4 => assumption); k_whole))) | (k_here; (with_reducible show wpAny _ _ (compareOp CmpOp.In (Value.str _ _) (Value.str _ _)) _ _ _); first | (refine in_known (b := false) (by assumption) ?_) | (refine in_known (b := true) (by assumption) ?_) | (refine in_known (b := false) (by decide +kernel) ?_) | (refine in_known (b := true) (by decide +kernel) ?_)))) | ((with_reducible show wpAny _ _ (binaryOp Operator.Add (Value.ref _) (Value.ref _)) _ _ _); (k_here; k_dflt (refine' cat_made ?zqF ?zqN ?zql ?zqb ?zqz ?_; (case zqF | zqN => k_asm); (case zql | zqb => k_mem); (case zqz => (simp only [List.length_append, List.length_cons, List.length_nil]; omega)); k_whole); intro D'Z h'Z F'Z N'Z l1Z; (try k_lt l1Z); (try k_sweep))) | ((with_reducible show StarOf _ _ _ (Value.ref _) _ _); (k_here; k_dflt (refine' star_seq ?k1 ?k2 ?zqm ?zqc ?zqd ?zqT ?zqe ?zqz ?_; (case k1 | k2 => k_asm); (case zqm => k_mem); (case zqc | zqd => exact rfl); (case zqT => exact .inl rfl); (case zqe => exact rfl); (case zqz => (rw [List.size_toArray, sizeLine_eq]; omega)); k_whole); intro h'Z F'Z N'Z; (try k_sweep); try dsimp only [List.nil_append, List.cons_append])) | ((with_reducible show wpAny _ _ (truthy _) _ _ _); (first | ((with_reducible show wpAny _ _ (truthy (Value.ref _)) _ _ _); (k_here; k_dflt (first | (refine' truthy_nil ?k1 ?k2 ?_; (case k1 => k_asm); (case k2 => k_mem); k_whole) | (refine' truthy_snoc ?k1 ?k2 ?k3 ?_; (case k1 => k_asm); (case k2 => k_mem); (case k3 => omega); k_whole)))) | ((with_reducible show wpAny _ _ (truthy (Value.ref _)) _ _ _); (k_here; k_dflt (refine' dq_truthy ?k1 ?k2 ?k3 ?_; (case k1 => k_asm); (case k2 => k_mem); (case k3 => first | assumption | omega | (simp only [List.length_cons, List.length_nil] at *; omega)); k_whole))) | (k_here; (with_reducible show wpAny _ _ (truthy (Value.str _ _)) _ _ _); refine truthy_long (by assumption) (by omega) ?_; intro _))) | ((with_reducible show wpAny _ _ (execs _ _) _ _ _); (first | ((with_reducible show wpAny _ _ (execs [] _) _ _ _); (k_here; refine wpAny_execs_nil ?_)) | ((with_reducible show wpAny _ _ (execs (_ :: _) _) _ _ _); (k_here; (try dsimp only); (try k_fold); first | with_reducible refine execs_one ?_ | (refine execs_more ?_; intro qN8 hN8 hO8))))) | walk1 | ((with_reducible show wpAny _ _ _ _ _ _); dsimp only) | (leave1; walk_say "STEP leave1"; try dsimp only) | fail "no step")
          unfold Stop
          refine get_use o1 o2 hs20 (by assumption) F20 (by assumption) N20 (by assumption) rfl (by k_room) (by k_units) ?_ ?_
          · intro h21 tk21 hg F21 N21
            (try dsimp only)
            clear F20 N20
            repeat' (first | (k_unfold; (try dsimp only)) | (k_end; (with_reducible refine hN8 _ _ ?_); intro kN8; clear hN8 hO8; (try clear qN8); first | with_reducible refine execs_one ?_ | (refine execs_more ?_; intro qN8 hN8 hO8)) | (k_end; (with_reducible refine hO8 _ _ ?zn8 ?_); (case zn8 => first | exact ne_ret _ | exact ne_brk | exact ne_cont); clear hN8 hO8; (try clear qN8)) | (k_end; wrow_close) | ((with_reducible show wpAny _ _ (exec _ _) _ _ _); (first | ((with_reducible show wpAny _ _ (exec (Stmt.While (Expr.Compare _ _ _ _) _ _ _) _) _ _ _); (k_here; refine stop_in ?_)) | ((with_reducible show wpAny _ _ (exec (Stmt.If (Expr.Compare _ _ _ _) _ _ _) _) _ _ _); (k_here; refine stop_in ?_)) | ((with_reducible show wpAny _ _ (exec (Stmt.While (Expr.Compare _ _ _ _) _ _ _) _) _ _ _); (k_here; refine stop_in ?_)) | ((with_reducible show wpAny _ _ (exec (Stmt.If _ _ _ _) _) _ _ _); (k_here; refine wpAny_If ?_)))) | ((with_reducible show wpAny _ _ (call _ _ _) _ _ _); (first | (k_here; (with_reducible show wpAny _ _ (call (Value.ref 869) [Value.str _ _]) _ _ _); refine stop_in ?_) | (k_here; (with_reducible show wpAny _ _ (call (Value.ref 827) (Value.str (Str.ofString "/") _ :: _)) _ _ _); k_dflt (refine' says_pure (join_says _ _ _ _ _ _ ?zqka ?zqkb) ?k1 ?k2 ?k3 ?k4 ?k5 ?kK ?kd ?ku ?_; (case zqka => assumption); tb_rel; (case zqkb => assumption); intro t9Z h9Z tk9Z F9Z N9Z; (try dsimp only); (try k_fold))) | (k_here; (with_reducible show wpAny _ _ (call (Value.ref 848) _) _ _ _); refine stop_in ?_) | (k_here; (with_reducible show wpAny _ _ (call (Value.ref 820) [Value.str _ _]) _ _ _); k_dflt (refine' says_pure (isabs_says _ _ _ _) ?k1 ?k2 ?k3 ?k4 ?k5 ?kK ?kd ?ku ?_; tb_rel; intro t9Z h9Z tk9Z F9Z N9Z; (try dsimp only); (try k_fold))) | (k_here; (with_reducible show wpAny _ _ (call (Value.ref 841) [Value.str _ _]) _ _ _); k_dflt (refine' says_pure (dirname_says _ _ _ _ ?zqka) ?k1 ?k2 ?k3 ?k4 ?k5 ?kK ?kd ?ku ?_; tb_rel; (case zqka => first | assumption | omega); intro t9Z h9Z tk9Z F9Z N9Z; (try dsimp only); (try k_fold))) | (k_here; (with_reducible show wpAny _ _ (call (Value.ref 827) [Value.str _ _, Value.str _ _]) _ _ _); k_dflt (refine' says_pure (join2_says _ _ _ _ _ _ ?zqka ?zqkb) ?k1 ?k2 ?k3 ?k4 ?k5 ?kK ?kd ?ku ?_; tb_rel; (case zqka | zqkb => first | assumption | omega | decide +kernel); intro t9Z h9Z tk9Z F9Z N9Z; (try dsimp only); (try k_fold))) | (k_here; (with_reducible show wpAny _ _ (call (Value.ref 705) _) _ _ _); k_dflt (refine' lead_use ?zqa1 ?zqa2 ?zqa3 ?zqa4 ?zqa5 ?k1 ?k2 ?k3 ?k4 ?k5 ?kK ?kd ?ku ?_; tb_rel; (case zqa1 | zqa2 => k_mem); (case zqa3 | zqa4 | zqa5 => assumption); intro t9Z h9Z tk9Z F9Z N9Z; (try dsimp only); (try k_fold))) | ((with_reducible show wpAny _ _ (call (Value.builtin "list.append") _ _) _ _ _); (k_here; refine stop_in ?_)) | (k_here; (with_reducible show wpAny _ _ (call (Value.ref 669) _) _ _ _); refine stop_in ?_) | (k_here; (with_reducible show wpAny _ _ (call (Value.ref 683) _) _ _ _); refine stop_in ?_) | (k_here; (with_reducible show wpAny _ _ (call (Value.builtin "len") [Value.ref _]) _ _ _); k_dflt (refine' len_made ?k1 ?k2 ?k3 ?_; (case k1 => k_asm); (case k2 => k_mem); (case k3 => omega); k_whole); intro t9Z tk9Z) | ((with_reducible show wpAny _ _ (call (Value.builtin "list.append") _ _) _ _ _); (k_here; k_dflt (refine' append_snoc ?k1 ?k2 ?k3 ?k4 ?_; (case k1 | k2 => k_asm); (case k3 => k_upd); (case k4 => omega); k_whole); intro h'Z F'Z N'Z; (try k_sweep))) | (k_here; (with_reducible show wpAny _ _ (call (Value.builtin "len") [Value.ref _]) _ _ _); k_dflt (refine' dq_len ?k1 ?k2 ?k3 ?_; (case k1 => k_asm); (case k2 => k_mem); (case k3 => first | assumption | omega | (simp only [List.length_cons, List.length_nil] at *; omega)); k_whole)))) | ((with_reducible show wpAny _ _ (setItem (Value.ref _) (Value.int _ _) _) _ _ _); (k_here; refine stop_in ?_)) | ((with_reducible show KswEnd _ _ _ _ _ _ _ _ _ _ _ _); (refine stop_in ?_)) | ((with_reducible show wpAny _ _ (subscriptTail _ _ _ _) _ _ _); (first | (k_here; (with_reducible show wpAny _ _ (subscriptTail _ _ (Value.ref _) (Value.str _ _)) _ _ _); k_dflt (refine' links_item ?k1 ?k2 ?k3 ?k4 ?_ ?zqk6 ?zqk7; (case k1 => k_asm); (case k2 => k_mem); (case k3 | k4 => assumption); (case zqk6 => with_unfolding_all rfl); (case zqk7 => intro _; with_unfolding_all rfl); k_whole); intro u9Z) | (k_here; (with_reducible show wpAny _ _ (subscriptTail _ _ (Value.ref _) (Value.str _ _)) _ _ _); k_dflt (refine' links_itemI ?k1 ?k2 ?k3 ?k4 ?k5 ?_ ?zqk6 ?zqk7; (case k1 => k_asm); (case k2 => k_mem); (case k3 | k4 | k5 => assumption); (case zqk6 => with_unfolding_all rfl); (case zqk7 => intro _; with_unfolding_all rfl); k_whole); intro t9Z u9Z hk9Z hz9Z) | (k_here; (with_reducible show wpAny _ _ (subscriptTail _ _ (Value.ref _) (Value.int (-1) _)) _ _ _); k_dflt (refine' item_last ?k1 ?k2 ?_ ?k4; (case k1 => k_asm); (case k2 => k_mem); (case k4 => with_unfolding_all rfl); k_whole)))) | ((with_reducible show wpAny _ _ (compareOp _ _ _) _ _ _); (first | ((with_reducible show wpAny _ _ (compareOp CmpOp.In (Value.str _ _) (Value.ref _)) _ _ _); (k_here; k_dflt (refine' links_inB ?k1 ?k2 ?k3 ?_; (case k1 => k_asm); (case k2 => k_mem); (case k3 => assumption); k_whole))) | ((with_reducible show wpAny _ _ (compareOp CmpOp.In (Value.str _ _) (Value.ref _)) _ _ _); (k_here; k_dflt (refine' links_in ?k1 ?k2 ?k3 ?k4 ?_; (case k1 => k_asm); (case k2 => k_mem); (case k3 | k4 => assumption); k_whole))) | (k_here; (with_reducible show wpAny _ _ (compareOp CmpOp.In (Value.str _ _) (Value.str _ _)) _ _ _); first | (refine in_known (b := false) (by assumption) ?_) | (refine in_known (b := true) (by assumption) ?_) | (refine in_known (b := false) (by decide +kernel) ?_) | (refine in_known (b := true) (by decide +kernel) ?_)))) | ((with_reducible show wpAny _ _ (binaryOp Operator.Add (Value.ref _) (Value.ref _)) _ _ _); (k_here; k_dflt (refine' cat_made ?zqF ?zqN ?zql ?zqb ?zqz ?_; (case zqF | zqN => k_asm); (case zql | zqb => k_mem); (case zqz => (simp only [List.length_append, List.length_cons, List.length_nil]; omega)); k_whole); intro D'Z h'Z F'Z N'Z l1Z; (try k_lt l1Z); (try k_sweep))) | ((with_reducible show StarOf _ _ _ (Value.ref _) _ _); (k_here; k_dflt (refine' star_seq ?k1 ?k2 ?zqm ?zqc ?zqd ?zqT ?zqe ?zqz ?_; (case k1 | k2 => k_asm); (case zqm => k_mem); (case zqc | zqd => exact rfl); (case zqT => exact .inl rfl); (case zqe => exact rfl); (case zqz => (rw [List.size_toArray, sizeLine_eq]; omega)); k_whole); intro h'Z F'Z N'Z; (try k_sweep); try dsimp only [List.nil_append, List.cons_append])) | ((with_reducible show wpAny _ _ (truthy _) _ _ _); (first | ((with_reducible show wpAny _ _ (truthy (Value.ref _)) _ _ _); (k_here; k_dflt (first | (refine' truthy_nil ?k1 ?k2 ?_; (case k1 => k_asm); (case k2 => k_mem); k_whole) | (refine' truthy_snoc ?k1 ?k2 ?k3 ?_; (case k1 => k_asm); (case k2 => k_mem); (case k3 => omega); k_whole)))) | ((with_reducible show wpAny _ _ (truthy (Value.ref _)) _ _ _); (k_here; k_dflt (refine' dq_truthy ?k1 ?k2 ?k3 ?_; (case k1 => k_asm); (case k2 => k_mem); (case k3 => first | assumption | omega | (simp only [List.length_cons, List.length_nil] at *; omega)); k_whole))) | (k_here; (with_reducible show wpAny _ _ (truthy (Value.str _ _)) _ _ _); refine truthy_long (by assumption) (by omega) ?_; intro _))) | ((with_reducible show wpAny _ _ (execs _ _) _ _ _); (first | ((with_reducible show wpAny _ _ (execs [] _) _ _ _); (k_here; refine wpAny_execs_nil ?_)) | ((with_reducible show wpAny _ _ (execs (_ :: _) _) _ _ _); (k_here; (try dsimp only); (try k_fold); first | with_reducible refine execs_one ?_ | (refine execs_more ?_; intro qN8 hN8 hO8))))) | walk1 | ((with_reducible show wpAny _ _ _ _ _ _); dsimp only) | (leave1; walk_say "STEP leave1"; try dsimp only) | fail "no step")
            unfold Stop
            refine ksw_end (σ := RSt) ⟨f2, stk2, ts2, tt2, q2, ⟨names2, left2, told ++ [toldOf (Str.mk wd.toArray) f.inf f.line.toNat stk.length names]⟩, row2, tv ++ [Value.ref TP], rv2, tn + 1, rn2, th2, tl2, (TP, oT) :: add, none, 0⟩ (by assumption) (by assumption) (fun p hp => hp) trivial (fun p hp => by
              rcases List.mem_cons.mp hp with e | hp
              · rw [e]; rfl
              · rcases List.mem_cons.mp hp with e | hp
                · rw [e]; rfl
                · rw [List.mem_singleton.mp hp]; rfl) (fun z hz hs => by have y1Z : z ≠ Str.ofString "here" := hz _ (.head _); have y2Z : z ≠ Str.ofString "left" := hz _ (.tail _ (.head _)); have y3Z : z ≠ Str.ofString "word" := hz _ (.tail _ (.tail _ (.head _))); (repeat (first | with_reducible refine (if_neg y1Z).trans ?_ | with_reducible refine (if_neg y2Z).trans ?_ | with_reducible refine (if_neg y3Z).trans ?_ | ((with_reducible refine (if_neg (st_ne hs ?zqst8)).trans ?_); (case zqst8 => decide +kernel)))); exact if_neg (st_sub hs (by decide +kernel))) ⟨⟨o3, hT2, hofN, P1.two⟩, _, o4, next_none hg⟩ (by unfold rMu; dsimp only; omega)
          · intro wd2 rest2 g2 stk3 k3 t3 ts3 tl3 tt3 tp3 q3 h21 tk21 hg hk3 hr3 F21 N21
            obtain ⟨n1, n2, n3, n4⟩ := next_state (tp := tp3) (tl := tl3) hg o1 o2 hk3 hr3
            (try dsimp only)
            clear F20 N20
            repeat' (first | (k_unfold; (try dsimp only)) | (k_end; (with_reducible refine hN8 _ _ ?_); intro kN8; clear hN8 hO8; (try clear qN8); first | with_reducible refine execs_one ?_ | (refine execs_more ?_; intro qN8 hN8 hO8)) | (k_end; (with_reducible refine hO8 _ _ ?zn8 ?_); (case zn8 => first | exact ne_ret _ | exact ne_brk | exact ne_cont); clear hN8 hO8; (try clear qN8)) | (k_end; wrow_close) | ((with_reducible show wpAny _ _ (exec _ _) _ _ _); (first | ((with_reducible show wpAny _ _ (exec (Stmt.While (Expr.Compare _ _ _ _) _ _ _) _) _ _ _); (k_here; refine stop_in ?_)) | ((with_reducible show wpAny _ _ (exec (Stmt.If (Expr.Compare _ _ _ _) _ _ _) _) _ _ _); (k_here; refine stop_in ?_)) | ((with_reducible show wpAny _ _ (exec (Stmt.While (Expr.Compare _ _ _ _) _ _ _) _) _ _ _); (k_here; refine stop_in ?_)) | ((with_reducible show wpAny _ _ (exec (Stmt.If _ _ _ _) _) _ _ _); (k_here; refine wpAny_If ?_)))) | ((with_reducible show wpAny _ _ (call _ _ _) _ _ _); (first | (k_here; (with_reducible show wpAny _ _ (call (Value.ref 869) [Value.str _ _]) _ _ _); refine stop_in ?_) | (k_here; (with_reducible show wpAny _ _ (call (Value.ref 827) (Value.str (Str.ofString "/") _ :: _)) _ _ _); k_dflt (refine' says_pure (join_says _ _ _ _ _ _ ?zqka ?zqkb) ?k1 ?k2 ?k3 ?k4 ?k5 ?kK ?kd ?ku ?_; (case zqka => assumption); tb_rel; (case zqkb => assumption); intro t9Z h9Z tk9Z F9Z N9Z; (try dsimp only); (try k_fold))) | (k_here; (with_reducible show wpAny _ _ (call (Value.ref 848) _) _ _ _); refine stop_in ?_) | (k_here; (with_reducible show wpAny _ _ (call (Value.ref 820) [Value.str _ _]) _ _ _); k_dflt (refine' says_pure (isabs_says _ _ _ _) ?k1 ?k2 ?k3 ?k4 ?k5 ?kK ?kd ?ku ?_; tb_rel; intro t9Z h9Z tk9Z F9Z N9Z; (try dsimp only); (try k_fold))) | (k_here; (with_reducible show wpAny _ _ (call (Value.ref 841) [Value.str _ _]) _ _ _); k_dflt (refine' says_pure (dirname_says _ _ _ _ ?zqka) ?k1 ?k2 ?k3 ?k4 ?k5 ?kK ?kd ?ku ?_; tb_rel; (case zqka => first | assumption | omega); intro t9Z h9Z tk9Z F9Z N9Z; (try dsimp only); (try k_fold))) | (k_here; (with_reducible show wpAny _ _ (call (Value.ref 827) [Value.str _ _, Value.str _ _]) _ _ _); k_dflt (refine' says_pure (join2_says _ _ _ _ _ _ ?zqka ?zqkb) ?k1 ?k2 ?k3 ?k4 ?k5 ?kK ?kd ?ku ?_; tb_rel; (case zqka | zqkb => first | assumption | omega | decide +kernel); intro t9Z h9Z tk9Z F9Z N9Z; (try dsimp only); (try k_fold))) | (k_here; (with_reducible show wpAny _ _ (call (Value.ref 705) _) _ _ _); k_dflt (refine' lead_use ?zqa1 ?zqa2 ?zqa3 ?zqa4 ?zqa5 ?k1 ?k2 ?k3 ?k4 ?k5 ?kK ?kd ?ku ?_; tb_rel; (case zqa1 | zqa2 => k_mem); (case zqa3 | zqa4 | zqa5 => assumption); intro t9Z h9Z tk9Z F9Z N9Z; (try dsimp only); (try k_fold))) | ((with_reducible show wpAny _ _ (call (Value.builtin "list.append") _ _) _ _ _); (k_here; refine stop_in ?_)) | (k_here; (with_reducible show wpAny _ _ (call (Value.ref 669) _) _ _ _); refine stop_in ?_) | (k_here; (with_reducible show wpAny _ _ (call (Value.ref 683) _) _ _ _); refine stop_in ?_) | (k_here; (with_reducible show wpAny _ _ (call (Value.builtin "len") [Value.ref _]) _ _ _); k_dflt (refine' len_made ?k1 ?k2 ?k3 ?_; (case k1 => k_asm); (case k2 => k_mem); (case k3 => omega); k_whole); intro t9Z tk9Z) | ((with_reducible show wpAny _ _ (call (Value.builtin "list.append") _ _) _ _ _); (k_here; k_dflt (refine' append_snoc ?k1 ?k2 ?k3 ?k4 ?_; (case k1 | k2 => k_asm); (case k3 => k_upd); (case k4 => omega); k_whole); intro h'Z F'Z N'Z; (try k_sweep))) | (k_here; (with_reducible show wpAny _ _ (call (Value.builtin "len") [Value.ref _]) _ _ _); k_dflt (refine' dq_len ?k1 ?k2 ?k3 ?_; (case k1 => k_asm); (case k2 => k_mem); (case k3 => first | assumption | omega | (simp only [List.length_cons, List.length_nil] at *; omega)); k_whole)))) | ((with_reducible show wpAny _ _ (setItem (Value.ref _) (Value.int _ _) _) _ _ _); (k_here; refine stop_in ?_)) | ((with_reducible show KswEnd _ _ _ _ _ _ _ _ _ _ _ _); (refine stop_in ?_)) | ((with_reducible show wpAny _ _ (subscriptTail _ _ _ _) _ _ _); (first | (k_here; (with_reducible show wpAny _ _ (subscriptTail _ _ (Value.ref _) (Value.str _ _)) _ _ _); k_dflt (refine' links_item ?k1 ?k2 ?k3 ?k4 ?_ ?zqk6 ?zqk7; (case k1 => k_asm); (case k2 => k_mem); (case k3 | k4 => assumption); (case zqk6 => with_unfolding_all rfl); (case zqk7 => intro _; with_unfolding_all rfl); k_whole); intro u9Z) | (k_here; (with_reducible show wpAny _ _ (subscriptTail _ _ (Value.ref _) (Value.str _ _)) _ _ _); k_dflt (refine' links_itemI ?k1 ?k2 ?k3 ?k4 ?k5 ?_ ?zqk6 ?zqk7; (case k1 => k_asm); (case k2 => k_mem); (case k3 | k4 | k5 => assumption); (case zqk6 => with_unfolding_all rfl); (case zqk7 => intro _; with_unfolding_all rfl); k_whole); intro t9Z u9Z hk9Z hz9Z) | (k_here; (with_reducible show wpAny _ _ (subscriptTail _ _ (Value.ref _) (Value.int (-1) _)) _ _ _); k_dflt (refine' item_last ?k1 ?k2 ?_ ?k4; (case k1 => k_asm); (case k2 => k_mem); (case k4 => with_unfolding_all rfl); k_whole)))) | ((with_reducible show wpAny _ _ (compareOp _ _ _) _ _ _); (first | ((with_reducible show wpAny _ _ (compareOp CmpOp.In (Value.str _ _) (Value.ref _)) _ _ _); (k_here; k_dflt (refine' links_inB ?k1 ?k2 ?k3 ?_; (case k1 => k_asm); (case k2 => k_mem); (case k3 => assumption); k_whole))) | ((with_reducible show wpAny _ _ (compareOp CmpOp.In (Value.str _ _) (Value.ref _)) _ _ _); (k_here; k_dflt (refine' links_in ?k1 ?k2 ?k3 ?k4 ?_; (case k1 => k_asm); (case k2 => k_mem); (case k3 | k4 => assumption); k_whole))) | (k_here; (with_reducible show wpAny _ _ (compareOp CmpOp.In (Value.str _ _) (Value.str _ _)) _ _ _); first | (refine in_known (b := false) (by assumption) ?_) | (refine in_known (b := true) (by assumption) ?_) | (refine in_known (b := false) (by decide +kernel) ?_) | (refine in_known (b := true) (by decide +kernel) ?_)))) | ((with_reducible show wpAny _ _ (binaryOp Operator.Add (Value.ref _) (Value.ref _)) _ _ _); (k_here; k_dflt (refine' cat_made ?zqF ?zqN ?zql ?zqb ?zqz ?_; (case zqF | zqN => k_asm); (case zql | zqb => k_mem); (case zqz => (simp only [List.length_append, List.length_cons, List.length_nil]; omega)); k_whole); intro D'Z h'Z F'Z N'Z l1Z; (try k_lt l1Z); (try k_sweep))) | ((with_reducible show StarOf _ _ _ (Value.ref _) _ _); (k_here; k_dflt (refine' star_seq ?k1 ?k2 ?zqm ?zqc ?zqd ?zqT ?zqe ?zqz ?_; (case k1 | k2 => k_asm); (case zqm => k_mem); (case zqc | zqd => exact rfl); (case zqT => exact .inl rfl); (case zqe => exact rfl); (case zqz => (rw [List.size_toArray, sizeLine_eq]; omega)); k_whole); intro h'Z F'Z N'Z; (try k_sweep); try dsimp only [List.nil_append, List.cons_append])) | ((with_reducible show wpAny _ _ (truthy _) _ _ _); (first | ((with_reducible show wpAny _ _ (truthy (Value.ref _)) _ _ _); (k_here; k_dflt (first | (refine' truthy_nil ?k1 ?k2 ?_; (case k1 => k_asm); (case k2 => k_mem); k_whole) | (refine' truthy_snoc ?k1 ?k2 ?k3 ?_; (case k1 => k_asm); (case k2 => k_mem); (case k3 => omega); k_whole)))) | ((with_reducible show wpAny _ _ (truthy (Value.ref _)) _ _ _); (k_here; k_dflt (refine' dq_truthy ?k1 ?k2 ?k3 ?_; (case k1 => k_asm); (case k2 => k_mem); (case k3 => first | assumption | omega | (simp only [List.length_cons, List.length_nil] at *; omega)); k_whole))) | (k_here; (with_reducible show wpAny _ _ (truthy (Value.str _ _)) _ _ _); refine truthy_long (by assumption) (by omega) ?_; intro _))) | ((with_reducible show wpAny _ _ (execs _ _) _ _ _); (first | ((with_reducible show wpAny _ _ (execs [] _) _ _ _); (k_here; refine wpAny_execs_nil ?_)) | ((with_reducible show wpAny _ _ (execs (_ :: _) _) _ _ _); (k_here; (try dsimp only); (try k_fold); first | with_reducible refine execs_one ?_ | (refine execs_more ?_; intro qN8 hN8 hO8))))) | walk1 | ((with_reducible show wpAny _ _ _ _ _ _); dsimp only) | (leave1; walk_say "STEP leave1"; try dsimp only) | fail "no step")
            unfold Stop
            have n5 := (next_sub n3).2.2.1
            refine ksw_end (σ := RSt) ⟨_, stk3, ts3, tt3, q3, ⟨names2, left2, told ++ [toldOf (Str.mk wd.toArray) f.inf f.line.toNat stk.length names]⟩, row2, tv ++ [Value.ref TP], rv2, tn + 1, rn2, th2, tl2, (TP, oT) :: add, some wd2, t3⟩ (by assumption) (by assumption) (fun p hp => hp) trivial (fun p hp => by
              rcases List.mem_cons.mp hp with e | hp
              · rw [e]; rfl
              · rcases List.mem_cons.mp hp with e | hp
                · rw [e]; rfl
                · rw [List.mem_singleton.mp hp]; rfl) (fun z hz hs => by have y1Z : z ≠ Str.ofString "here" := hz _ (.head _); have y2Z : z ≠ Str.ofString "left" := hz _ (.tail _ (.head _)); have y3Z : z ≠ Str.ofString "word" := hz _ (.tail _ (.tail _ (.head _))); (repeat (first | with_reducible refine (if_neg y1Z).trans ?_ | with_reducible refine (if_neg y2Z).trans ?_ | with_reducible refine (if_neg y3Z).trans ?_ | ((with_reducible refine (if_neg (st_ne hs ?zqst8)).trans ?_); (case zqst8 => decide +kernel)))); exact if_neg (st_sub hs (by decide +kernel))) ⟨⟨o3, hT2, hofN, P1.two⟩, _, o4, n3, n1, n2⟩ (by
              unfold rMu
              dsimp only
              have n6 : restW (pfs { g2 with k := k3, tp := tp3, line := g2.line + (wd2.count 10 : Nat), tl := tl3 } stk3) + wd2.length + 1 ≤ restW (pfs f2 stk2) := n5
              omega)
end P21
section P22
theorem off22 : True := by
  w_top off
  trivial
theorem lk_ok {c : List (Str × Str)} {n : Nat} (h : LinksOk c n) : LkOk (lkC c) := fun k t hk => by
  unfold lkC at hk
  obtain ⟨q, hq, rfl⟩ := Option.map_eq_some_iff.mp hk
  exact h.each q (List.mem_of_find?_eq_some hq)
theorem saysK_use {w : World} {K : Heap → Prop} {f : Value} {args : List Value} {kw : List (Str × Value)} {cost : Nat} {news : Led} {post : Led → Value → Prop}
    {dp un : Nat} {gd : Option (List Code)} {cn : Str} {cs : Scope} {a : Addr} {ccd : Value} {cl : List (Str × Addr)} {outer : List Env} {A₀ : Around} {base h₀ : Heap} {L : Addr} {m : Str → Option Value} {s : Shared}
    {p : Program} {loose : List Str} {mean : ExcName → Option Value} {mg mb : Str → Option Value} {Q E : Value → Shared → Prop}
    (C : SaysK w K f args kw cost news post) (hK : K h₀)
    (B : Below A₀ base outer h₀) (F : Fr h₀ L s.heap m) (X : (Mine.hd.heap_39 w.params).In h₀) (N : News h₀ L s.heap news) (T : Top p loose mean mg mb h₀) (hk : cs.kind = .function) (hd : dp + cost < recursionLimit) (hu : un + 8 * cost < cLine)
    (ret : ∀ r news' h' tk', Fr h₀ L h' m → News h₀ L h' news' → post news' r → Q r { s with heap := h', toks := tk' }) :
    wpAny (model PySem.Challenge.rw_kl0188_01.row.prog w) (ktrTop dp un gd cn cs L a ccd cl outer) (call f args kw) Q E s :=
  C dp un gd cn cs a ccd cl outer A₀ base h₀ L m s p loose mean mg mb Q E hK B F X N T hk hd hu ret
theorem fin : PySem.Challenge.rw_kl0188_01.Holds := hd (by
  k_go0
  repeat' (first | (k_unfold; (try dsimp only)) | (k_end; (with_reducible refine hN8 _ _ ?_); intro kN8; clear hN8 hO8; (try clear qN8); first | with_reducible refine execs_one ?_ | (refine execs_more ?_; intro qN8 hN8 hO8)) | (k_end; (with_reducible refine hO8 _ _ ?zn8 ?_); (case zn8 => first | exact ne_ret _ | exact ne_brk | exact ne_cont); clear hN8 hO8; (try clear qN8)) | (k_end; wrow_close) | ((with_reducible show wpAny _ _ (binaryOp Operator.Add (Value.ref _) (Value.ref _)) _ _ _); (k_here; k_dflt (refine' cat_made ?zqF ?zqN ?zql ?zqb ?zqz ?_; (case zqF | zqN => k_asm); (case zql | zqb => k_mem); (case zqz => (simp only [List.length_append, List.length_cons, List.length_nil]; omega)); k_whole); intro D'Z h'Z F'Z N'Z l1Z; (try k_lt l1Z); (try k_sweep))) | ((with_reducible show wpAny _ _ (compareOp _ _ _) _ _ _); (first | ((with_reducible show wpAny _ _ (compareOp CmpOp.Eq (Value.ref _) (Value.ref _)) _ _ _); (k_here; refine stop_in ?_)) | (k_here; (with_reducible show wpAny _ _ (compareOp CmpOp.In (Value.str _ _) (Value.str _ _)) _ _ _); first | (refine in_known (b := false) (by assumption) ?_) | (refine in_known (b := true) (by assumption) ?_) | (refine in_known (b := false) (by decide +kernel) ?_) | (refine in_known (b := true) (by decide +kernel) ?_)))) | ((with_reducible show wpAny _ _ (call _ _ _) _ _ _); (first | (k_here; (with_reducible show wpAny _ _ (call (Value.ref 876) _) _ _ _); refine stop_in ?_) | (k_here; (with_reducible show wpAny _ _ (call (Value.ref 883) _) _ _ _); refine stop_in ?_) | (k_here; (with_reducible show wpAny _ _ (call (Value.ref 862) _) _ _ _); refine stop_in ?_) | (k_here; (with_reducible show wpAny _ _ (call (Value.builtin "str.join") [Value.str _ _, Value.ref _]) _ _ _); k_dflt (refine' join_listW ?k1 ?k2 ?k3 ?k4 ?_; (case k1 => exact News.isList (by k_asm) (by k_mem)); (case k2 => assumption); (case k3 => decide +kernel); (case k4 => first | assumption | omega); k_whole); intro _ _) | ((with_reducible show wpAny _ _ (call (Value.builtin "list.append") _ _) _ _ _); (k_here; k_dflt (refine' append_snoc ?k1 ?k2 ?k3 ?k4 ?_; (case k1 | k2 => k_asm); (case k3 => k_upd); (case k4 => omega); k_whole); intro h'Z F'Z N'Z; (try k_sweep))))) | (k_here; (with_reducible show wpAny _ _ (subscriptTail _ _ (Value.ref _) (Value.int (-1) _)) _ _ _); k_dflt (refine' item_last ?k1 ?k2 ?_ ?k4; (case k1 => k_asm); (case k2 => k_mem); (case k4 => with_unfolding_all rfl); k_whole)) | ((with_reducible show wpAny _ _ (truthy _) _ _ _); (first | ((with_reducible show wpAny _ _ (truthy (Value.ref _)) _ _ _); (k_here; k_dflt (first | (refine' truthy_nil ?k1 ?k2 ?_; (case k1 => k_asm); (case k2 => k_mem); k_whole) | (refine' truthy_snoc ?k1 ?k2 ?k3 ?_; (case k1 => k_asm); (case k2 => k_mem); (case k3 => omega); k_whole)))) | (k_here; (with_reducible show wpAny _ _ (truthy (Value.str _ _)) _ _ _); refine truthy_long (by assumption) (by omega) ?_; intro _))) | ((with_reducible show wpAny _ _ (execs _ _) _ _ _); (first | ((with_reducible show wpAny _ _ (execs [] _) _ _ _); (k_here; refine wpAny_execs_nil ?_)) | ((with_reducible show wpAny _ _ (execs (_ :: _) _) _ _ _); (k_here; (try dsimp only); (try k_fold); first | with_reducible refine execs_one ?_ | (refine execs_more ?_; intro qN8 hN8 hO8))))) | ((with_reducible show wpAny _ _ (exec (Stmt.If _ _ _ _) _) _ _ _); (k_here; refine wpAny_If ?_)) | walk1 | ((with_reducible show wpAny _ _ _ _ _ _); dsimp only) | (leave1; walk_say "STEP leave1"; try dsimp only) | fail "no step")
  unfold Stop
  rename IntsAre _ _ => hI
  rename Heap.IsList _ _ _ => hS
  rename ¬ _ < _ => hn
  k_dflt (refine' saysK_use (drawn_says _ _ _ _ hI (by omega) []) hS ?k1 ?k2 ?k3 ?k4 ?k5 ?kK ?kd ?ku ?_)
  case k1 => k_asm
  case k2 => k_asm
  case k3 => k_asm
  case k4 => k_asm
  case k5 => k_asm
  case kK => first | exact rfl | assumption
  case kd => k_room
  case ku => k_units
  rintro r9 n9 h9 tk9 F9 N9 ⟨T, D, o, c, p, tp, e9, q9, K, hL, hP, l1, l2⟩
  subst e9
  subst q9
  (try dsimp only)
  repeat' (first | (k_unfold; (try dsimp only)) | (k_end; (with_reducible refine hN8 _ _ ?_); intro kN8; clear hN8 hO8; (try clear qN8); first | with_reducible refine execs_one ?_ | (refine execs_more ?_; intro qN8 hN8 hO8)) | (k_end; (with_reducible refine hO8 _ _ ?zn8 ?_); (case zn8 => first | exact ne_ret _ | exact ne_brk | exact ne_cont); clear hN8 hO8; (try clear qN8)) | (k_end; wrow_close) | ((with_reducible show wpAny _ _ (binaryOp Operator.Add (Value.ref _) (Value.ref _)) _ _ _); (k_here; k_dflt (refine' cat_made ?zqF ?zqN ?zql ?zqb ?zqz ?_; (case zqF | zqN => k_asm); (case zql | zqb => k_mem); (case zqz => (simp only [List.length_append, List.length_cons, List.length_nil]; omega)); k_whole); intro D'Z h'Z F'Z N'Z l1Z; (try k_lt l1Z); (try k_sweep))) | ((with_reducible show wpAny _ _ (compareOp _ _ _) _ _ _); (first | ((with_reducible show wpAny _ _ (compareOp CmpOp.Eq (Value.ref _) (Value.ref _)) _ _ _); (k_here; refine stop_in ?_)) | (k_here; (with_reducible show wpAny _ _ (compareOp CmpOp.In (Value.str _ _) (Value.str _ _)) _ _ _); first | (refine in_known (b := false) (by assumption) ?_) | (refine in_known (b := true) (by assumption) ?_) | (refine in_known (b := false) (by decide +kernel) ?_) | (refine in_known (b := true) (by decide +kernel) ?_)))) | ((with_reducible show wpAny _ _ (call _ _ _) _ _ _); (first | (k_here; (with_reducible show wpAny _ _ (call (Value.ref 876) _) _ _ _); refine stop_in ?_) | (k_here; (with_reducible show wpAny _ _ (call (Value.ref 883) _) _ _ _); refine stop_in ?_) | (k_here; (with_reducible show wpAny _ _ (call (Value.ref 862) _) _ _ _); refine stop_in ?_) | (k_here; (with_reducible show wpAny _ _ (call (Value.builtin "str.join") [Value.str _ _, Value.ref _]) _ _ _); k_dflt (refine' join_listW ?k1 ?k2 ?k3 ?k4 ?_; (case k1 => exact News.isList (by k_asm) (by k_mem)); (case k2 => assumption); (case k3 => decide +kernel); (case k4 => first | assumption | omega); k_whole); intro _ _) | ((with_reducible show wpAny _ _ (call (Value.builtin "list.append") _ _) _ _ _); (k_here; k_dflt (refine' append_snoc ?k1 ?k2 ?k3 ?k4 ?_; (case k1 | k2 => k_asm); (case k3 => k_upd); (case k4 => omega); k_whole); intro h'Z F'Z N'Z; (try k_sweep))))) | (k_here; (with_reducible show wpAny _ _ (subscriptTail _ _ (Value.ref _) (Value.int (-1) _)) _ _ _); k_dflt (refine' item_last ?k1 ?k2 ?_ ?k4; (case k1 => k_asm); (case k2 => k_mem); (case k4 => with_unfolding_all rfl); k_whole)) | ((with_reducible show wpAny _ _ (truthy _) _ _ _); (first | ((with_reducible show wpAny _ _ (truthy (Value.ref _)) _ _ _); (k_here; k_dflt (first | (refine' truthy_nil ?k1 ?k2 ?_; (case k1 => k_asm); (case k2 => k_mem); k_whole) | (refine' truthy_snoc ?k1 ?k2 ?k3 ?_; (case k1 => k_asm); (case k2 => k_mem); (case k3 => omega); k_whole)))) | (k_here; (with_reducible show wpAny _ _ (truthy (Value.str _ _)) _ _ _); refine truthy_long (by assumption) (by omega) ?_; intro _))) | ((with_reducible show wpAny _ _ (execs _ _) _ _ _); (first | ((with_reducible show wpAny _ _ (execs [] _) _ _ _); (k_here; refine wpAny_execs_nil ?_)) | ((with_reducible show wpAny _ _ (execs (_ :: _) _) _ _ _); (k_here; (try dsimp only); (try k_fold); first | with_reducible refine execs_one ?_ | (refine execs_more ?_; intro qN8 hN8 hO8))))) | ((with_reducible show wpAny _ _ (exec (Stmt.If _ _ _ _) _) _ _ _); (k_here; refine wpAny_If ?_)) | walk1 | ((with_reducible show wpAny _ _ _ _ _ _); dsimp only) | (leave1; walk_say "STEP leave1"; try dsimp only) | fail "no step")
  unfold Stop
  rename Fr _ _ _ (fun y => _) => F10
  rename News _ _ _ (_ :: _) => N10
  have hlk := lk_ok hL
  have hpl : p.length ≤ 1000 := Nat.le_trans hP.len (by decide)
  refine news2 N10 ?_
  intro NM TD e1 e2
  subst e1
  subst e2
  rename T < TD ∧ D < TD => m1
  rename TD < NM ∧ T < NM ∧ D < NM => m2
  have hWI : WalkIn TD D NM [(T, tupOf [.ref D, .str p tp])] [] [] := ⟨Nat.ne_of_gt m1.2, Nat.ne_of_lt m2.1, fun z hz => by rw [List.mem_singleton.mp hz]; exact Nat.ne_of_lt m1.1, fun z hz => (nomatch hz), fun z hz => (nomatch hz), fun z hz => (nomatch hz)⟩
  have N11 : News _ _ _ ((TD, listOf ([] : List Value).toArray 0) :: (D, o) :: (NM, listOf ([] : List Value).toArray 0) :: [(T, tupOf [.ref D, .str p tp])]) := news_sub N10 (fun z hz => by
    simp only [List.mem_cons, List.not_mem_nil, or_false] at hz ⊢
    rcases hz with h | h | h | h <;> simp only [h, true_or, or_true])
  have hwt : wt ⟨[], 5, []⟩ + 2 * (p.length + 1) ≤ 20000 := by
    unfold wt
    simp only [List.map_nil, List.sum_nil, List.length_nil]
    omega
  clear N10
  k_dflt (refine' says_use (walk_says _ D o c K hlk 5 p (Str.ofString "") _ _ _ _ 0 0 5 ⟨[], 5, []⟩ NM TD [] [] 0 0 [(T, tupOf [.ref D, .str p tp])] [] [] .nil .nil hWI (Nat.le_refl 5) hwt (by decide) (by decide +kernel) rfl rfl) ?k1 ?k2 ?k3 ?k4 ?k5 ?kK ?kd ?ku ?_)
  case k1 => k_asm
  case k2 => k_asm
  case k3 => k_asm
  case k4 => exact N11
  case k5 => k_asm
  case kK => first | exact rfl | assumption
  case kd => k_room
  case ku => k_units
  clear N11
  have hok := walkF_ok hlk 6 p (Str.ofString "") 0 ⟨[], 5, []⟩ hP.ok (strOk_of _) ⟨fun _ h => (nomatch h), fun _ h => (nomatch h), fun _ h => (nomatch h)⟩
  have hwF := walkF_wt hlk 6 p (Str.ofString "") 0 ⟨[], 5, []⟩
  refine named (walkF (lkC c) 6 p (Str.ofString "") 0 ⟨[], 5, []⟩) ?_
  intro FIN hFIN
  rw [← hFIN] at hok hwF ⊢
  rintro r9 n9 h9 tk9 F9 N9 ⟨T2, NM2, nv2, nn2, tv2, k2, lt2, add2, e9, q9, w1, w2, w3, w4, w5, w6, w7⟩
  subst e9
  subst q9
  have y1 : (FIN.names.map (·.length)).sum + FIN.names.length ≤ 100000 := by
    have h1 := sum1 FIN.names
    have h2 : wt FIN ≤ wt ⟨[], 5, []⟩ + 2 * (p.length + 1) := hwF
    unfold wt at h2 hwt
    omega
  have y2 : FIN.told.length ≤ 50000 := by
    have h2 : wt FIN ≤ wt ⟨[], 5, []⟩ + 2 * (p.length + 1) := hwF
    unfold wt at h2 hwt
    omega
  have y3 : (Txt.join (Str.ofString "/") FIN.names).length ≤ 200000 := by
    have q1 := StrLaws.join_length_le (Str.ofString "/") FIN.names
    rw [← join_eq, show (Str.ofString "/").length = 1 by decide +kernel] at q1
    omega
  have y4 := w2.length
  (try dsimp only)
  repeat' (first | (k_unfold; (try dsimp only)) | (k_end; (with_reducible refine hN8 _ _ ?_); intro kN8; clear hN8 hO8; (try clear qN8); first | with_reducible refine execs_one ?_ | (refine execs_more ?_; intro qN8 hN8 hO8)) | (k_end; (with_reducible refine hO8 _ _ ?zn8 ?_); (case zn8 => first | exact ne_ret _ | exact ne_brk | exact ne_cont); clear hN8 hO8; (try clear qN8)) | (k_end; wrow_close) | ((with_reducible show wpAny _ _ (binaryOp Operator.Add (Value.ref _) (Value.ref _)) _ _ _); (k_here; k_dflt (refine' cat_made ?zqF ?zqN ?zql ?zqb ?zqz ?_; (case zqF | zqN => k_asm); (case zql | zqb => k_mem); (case zqz => (simp only [List.length_append, List.length_cons, List.length_nil]; omega)); k_whole); intro D'Z h'Z F'Z N'Z l1Z; (try k_lt l1Z); (try k_sweep))) | ((with_reducible show wpAny _ _ (compareOp _ _ _) _ _ _); (first | ((with_reducible show wpAny _ _ (compareOp CmpOp.Eq (Value.ref _) (Value.ref _)) _ _ _); (k_here; refine stop_in ?_)) | (k_here; (with_reducible show wpAny _ _ (compareOp CmpOp.In (Value.str _ _) (Value.str _ _)) _ _ _); first | (refine in_known (b := false) (by assumption) ?_) | (refine in_known (b := true) (by assumption) ?_) | (refine in_known (b := false) (by decide +kernel) ?_) | (refine in_known (b := true) (by decide +kernel) ?_)))) | ((with_reducible show wpAny _ _ (call _ _ _) _ _ _); (first | (k_here; (with_reducible show wpAny _ _ (call (Value.ref 876) _) _ _ _); refine stop_in ?_) | (k_here; (with_reducible show wpAny _ _ (call (Value.ref 883) _) _ _ _); refine stop_in ?_) | (k_here; (with_reducible show wpAny _ _ (call (Value.ref 862) _) _ _ _); refine stop_in ?_) | (k_here; (with_reducible show wpAny _ _ (call (Value.builtin "str.join") [Value.str _ _, Value.ref _]) _ _ _); k_dflt (refine' join_listW ?k1 ?k2 ?k3 ?k4 ?_; (case k1 => exact News.isList (by k_asm) (by k_mem)); (case k2 => assumption); (case k3 => decide +kernel); (case k4 => first | assumption | omega); k_whole); intro _ _) | ((with_reducible show wpAny _ _ (call (Value.builtin "list.append") _ _) _ _ _); (k_here; k_dflt (refine' append_snoc ?k1 ?k2 ?k3 ?k4 ?_; (case k1 | k2 => k_asm); (case k3 => k_upd); (case k4 => omega); k_whole); intro h'Z F'Z N'Z; (try k_sweep))))) | (k_here; (with_reducible show wpAny _ _ (subscriptTail _ _ (Value.ref _) (Value.int (-1) _)) _ _ _); k_dflt (refine' item_last ?k1 ?k2 ?_ ?k4; (case k1 => k_asm); (case k2 => k_mem); (case k4 => with_unfolding_all rfl); k_whole)) | ((with_reducible show wpAny _ _ (truthy _) _ _ _); (first | ((with_reducible show wpAny _ _ (truthy (Value.ref _)) _ _ _); (k_here; k_dflt (first | (refine' truthy_nil ?k1 ?k2 ?_; (case k1 => k_asm); (case k2 => k_mem); k_whole) | (refine' truthy_snoc ?k1 ?k2 ?k3 ?_; (case k1 => k_asm); (case k2 => k_mem); (case k3 => omega); k_whole)))) | (k_here; (with_reducible show wpAny _ _ (truthy (Value.str _ _)) _ _ _); refine truthy_long (by assumption) (by omega) ?_; intro _))) | ((with_reducible show wpAny _ _ (execs _ _) _ _ _); (first | ((with_reducible show wpAny _ _ (execs [] _) _ _ _); (k_here; refine wpAny_execs_nil ?_)) | ((with_reducible show wpAny _ _ (execs (_ :: _) _) _ _ _); (k_here; (try dsimp only); (try k_fold); first | with_reducible refine execs_one ?_ | (refine execs_more ?_; intro qN8 hN8 hO8))))) | ((with_reducible show wpAny _ _ (exec (Stmt.If _ _ _ _) _) _ _ _); (k_here; refine wpAny_If ?_)) | walk1 | ((with_reducible show wpAny _ _ _ _ _ _); dsimp only) | (leave1; walk_say "STEP leave1"; try dsimp only) | fail "no step")
  unfold Stop
  rename Fr _ _ _ (fun y => _) => F12
  rename News _ _ _ (_ :: _) => N12
  have N13 : News _ _ _ ((D, o) :: ((T2, tupOf [Value.ref NM2, Value.int (FIN.left : Int) lt2]) :: (TD, listOf tv2.toArray k2) :: (NM2, listOf nv2.toArray nn2) :: (add2 ++ [(T, tupOf [.ref D, .str p tp])]))) := news_sub N12 (fun z hz => by
    simp only [List.mem_cons] at hz ⊢
    rcases hz with h | h | h | h | h <;> simp only [h, true_or, or_true])
  clear N12
  have C := lawread_says _ D o c K hlk p tp
  rw [← hFIN] at C
  k_dflt (refine' says_use (C _ _ hP.ends hpl) ?k1 ?k2 ?k3 ?k4 ?k5 ?kK ?kd ?ku ?_)
  case k1 => k_asm
  case k2 => k_asm
  case k3 => k_asm
  case k4 => exact N13
  case k5 => k_asm
  case kK => first | exact rfl | assumption
  case kd => k_room
  case ku => k_units
  clear N13 C
  rintro r14 n14 h14 tk14 F14 N14 ⟨RL, rv, rk, n₁, e14, q14, hD⟩
  subst e14
  subst q14
  refine named (n₁ ++ ((D, o) :: ((T2, tupOf [Value.ref NM2, Value.int (FIN.left : Int) lt2]) :: (TD, listOf tv2.toArray k2) :: (NM2, listOf nv2.toArray nn2) :: (add2 ++ [(T, tupOf [.ref D, .str p tp])])))) ?_
  intro NN hNN
  have hTDm : (TD, listOf tv2.toArray k2) ∈ NN := by rw [hNN]; simp
  have hadd : ∀ z ∈ add2, z ∈ NN := fun z hz => by
    rw [hNN]
    simp only [List.mem_append, List.mem_cons]
    simp only [hz, true_or, or_true]
  have hn1 : ∀ z ∈ n₁, z ∈ NN := fun z hz => by rw [hNN]; exact List.mem_append.mpr (.inl hz)
  rw [← hNN] at N14
  clear hNN
  replace N14 : News _ _ _ ((RL, listOf rv.toArray rk) :: (TD, listOf tv2.toArray k2) :: NN) := news_sub N14 (fun z hz => by
    rcases List.mem_cons.mp hz with e | hz
    · rw [e]; exact .head _
    · rcases List.mem_cons.mp hz with e | hz
      · rw [e]; exact .tail _ hTDm
      · exact .tail _ hz)
  have y5 : tv2.length ≤ 50000 := by omega
  (try dsimp only)
  repeat' (first | (k_unfold; (try dsimp only)) | (k_end; (with_reducible refine hN8 _ _ ?_); intro kN8; clear hN8 hO8; (try clear qN8); first | with_reducible refine execs_one ?_ | (refine execs_more ?_; intro qN8 hN8 hO8)) | (k_end; (with_reducible refine hO8 _ _ ?zn8 ?_); (case zn8 => first | exact ne_ret _ | exact ne_brk | exact ne_cont); clear hN8 hO8; (try clear qN8)) | (k_end; wrow_close) | ((with_reducible show wpAny _ _ (binaryOp Operator.Add (Value.ref _) (Value.ref _)) _ _ _); (k_here; k_dflt (refine' cat_made ?zqF ?zqN ?zql ?zqb ?zqz ?_; (case zqF | zqN => k_asm); (case zql | zqb => k_mem); (case zqz => (simp only [List.length_append, List.length_cons, List.length_nil]; omega)); k_whole); intro D'Z h'Z F'Z N'Z l1Z; (try k_lt l1Z); (try k_sweep))) | ((with_reducible show wpAny _ _ (compareOp _ _ _) _ _ _); (first | ((with_reducible show wpAny _ _ (compareOp CmpOp.Eq (Value.ref _) (Value.ref _)) _ _ _); (k_here; refine stop_in ?_)) | (k_here; (with_reducible show wpAny _ _ (compareOp CmpOp.In (Value.str _ _) (Value.str _ _)) _ _ _); first | (refine in_known (b := false) (by assumption) ?_) | (refine in_known (b := true) (by assumption) ?_) | (refine in_known (b := false) (by decide +kernel) ?_) | (refine in_known (b := true) (by decide +kernel) ?_)))) | ((with_reducible show wpAny _ _ (call _ _ _) _ _ _); (first | (k_here; (with_reducible show wpAny _ _ (call (Value.ref 876) _) _ _ _); refine stop_in ?_) | (k_here; (with_reducible show wpAny _ _ (call (Value.ref 883) _) _ _ _); refine stop_in ?_) | (k_here; (with_reducible show wpAny _ _ (call (Value.ref 862) _) _ _ _); refine stop_in ?_) | (k_here; (with_reducible show wpAny _ _ (call (Value.builtin "str.join") [Value.str _ _, Value.ref _]) _ _ _); k_dflt (refine' join_listW ?k1 ?k2 ?k3 ?k4 ?_; (case k1 => exact News.isList (by k_asm) (by k_mem)); (case k2 => assumption); (case k3 => decide +kernel); (case k4 => first | assumption | omega); k_whole); intro _ _) | ((with_reducible show wpAny _ _ (call (Value.builtin "list.append") _ _) _ _ _); (k_here; k_dflt (refine' append_snoc ?k1 ?k2 ?k3 ?k4 ?_; (case k1 | k2 => k_asm); (case k3 => k_upd); (case k4 => omega); k_whole); intro h'Z F'Z N'Z; (try k_sweep))))) | (k_here; (with_reducible show wpAny _ _ (subscriptTail _ _ (Value.ref _) (Value.int (-1) _)) _ _ _); k_dflt (refine' item_last ?k1 ?k2 ?_ ?k4; (case k1 => k_asm); (case k2 => k_mem); (case k4 => with_unfolding_all rfl); k_whole)) | ((with_reducible show wpAny _ _ (truthy _) _ _ _); (first | ((with_reducible show wpAny _ _ (truthy (Value.ref _)) _ _ _); (k_here; k_dflt (first | (refine' truthy_nil ?k1 ?k2 ?_; (case k1 => k_asm); (case k2 => k_mem); k_whole) | (refine' truthy_snoc ?k1 ?k2 ?k3 ?_; (case k1 => k_asm); (case k2 => k_mem); (case k3 => omega); k_whole)))) | (k_here; (with_reducible show wpAny _ _ (truthy (Value.str _ _)) _ _ _); refine truthy_long (by assumption) (by omega) ?_; intro _))) | ((with_reducible show wpAny _ _ (execs _ _) _ _ _); (first | ((with_reducible show wpAny _ _ (execs [] _) _ _ _); (k_here; refine wpAny_execs_nil ?_)) | ((with_reducible show wpAny _ _ (execs (_ :: _) _) _ _ _); (k_here; (try dsimp only); (try k_fold); first | with_reducible refine execs_one ?_ | (refine execs_more ?_; intro qN8 hN8 hO8))))) | ((with_reducible show wpAny _ _ (exec (Stmt.If _ _ _ _) _) _ _ _); (k_here; refine wpAny_If ?_)) | walk1 | ((with_reducible show wpAny _ _ _ _ _ _); dsimp only) | (leave1; walk_say "STEP leave1"; try dsimp only) | fail "no step")
  unfold Stop
  rename News _ _ _ (_ :: _) => N16
  rw [List.append_nil] at w2
  have hq : ∀ d ∈ FIN.told ++ [Dat.str (hereOf FIN.names), Dat.str (hereOf FIN.names)], kqdOk 8 d = true := fun d hd => by
    have hs := strOk_here hok.names
    rcases List.mem_append.mp hd with h | h
    · exact hok.told d h
    · rcases List.mem_cons.mp h with e | h
      · rw [e]; exact hs
      · rw [List.mem_singleton.mp h]; exact hs
  have hdec : ∀ i : Decidable (FIN.told ++ [Dat.str (hereOf FIN.names), Dat.str (hereOf FIN.names)] = FIN.told ++ [Dat.str (hereOf FIN.names), Dat.str (hereOf FIN.names)]), @decide _ i = true := fun i => @decide_eq_true _ i rfl
  refine kqd_eq (es := FIN.told ++ [Dat.str (hereOf FIN.names), Dat.str (hereOf FIN.names)]) N16 (.tail _ (.tail _ (.head _))) rfl rfl hD (fun z hz => .tail _ (.tail _ (.tail _ (.tail _ (hn1 z hz))))) (.head _) rfl rfl (w2.append (.cons (.str _ _) (.cons (.str _ _) .nil))) (fun z hz => .tail _ (.tail _ (.tail _ (.tail _ (hadd z hz))))) hq hq (by k_units) ?_
  rw [hdec]
  repeat' (first | (k_unfold; (try dsimp only)) | (k_end; (with_reducible refine hN8 _ _ ?_); intro kN8; clear hN8 hO8; (try clear qN8); first | with_reducible refine execs_one ?_ | (refine execs_more ?_; intro qN8 hN8 hO8)) | (k_end; (with_reducible refine hO8 _ _ ?zn8 ?_); (case zn8 => first | exact ne_ret _ | exact ne_brk | exact ne_cont); clear hN8 hO8; (try clear qN8)) | (k_end; wrow_close) | ((with_reducible show wpAny _ _ (binaryOp Operator.Add (Value.ref _) (Value.ref _)) _ _ _); (k_here; k_dflt (refine' cat_made ?zqF ?zqN ?zql ?zqb ?zqz ?_; (case zqF | zqN => k_asm); (case zql | zqb => k_mem); (case zqz => (simp only [List.length_append, List.length_cons, List.length_nil]; omega)); k_whole); intro D'Z h'Z F'Z N'Z l1Z; (try k_lt l1Z); (try k_sweep))) | ((with_reducible show wpAny _ _ (compareOp _ _ _) _ _ _); (first | ((with_reducible show wpAny _ _ (compareOp CmpOp.Eq (Value.ref _) (Value.ref _)) _ _ _); (k_here; refine stop_in ?_)) | (k_here; (with_reducible show wpAny _ _ (compareOp CmpOp.In (Value.str _ _) (Value.str _ _)) _ _ _); first | (refine in_known (b := false) (by assumption) ?_) | (refine in_known (b := true) (by assumption) ?_) | (refine in_known (b := false) (by decide +kernel) ?_) | (refine in_known (b := true) (by decide +kernel) ?_)))) | ((with_reducible show wpAny _ _ (call _ _ _) _ _ _); (first | (k_here; (with_reducible show wpAny _ _ (call (Value.ref 876) _) _ _ _); refine stop_in ?_) | (k_here; (with_reducible show wpAny _ _ (call (Value.ref 883) _) _ _ _); refine stop_in ?_) | (k_here; (with_reducible show wpAny _ _ (call (Value.ref 862) _) _ _ _); refine stop_in ?_) | (k_here; (with_reducible show wpAny _ _ (call (Value.builtin "str.join") [Value.str _ _, Value.ref _]) _ _ _); k_dflt (refine' join_listW ?k1 ?k2 ?k3 ?k4 ?_; (case k1 => exact News.isList (by k_asm) (by k_mem)); (case k2 => assumption); (case k3 => decide +kernel); (case k4 => first | assumption | omega); k_whole); intro _ _) | ((with_reducible show wpAny _ _ (call (Value.builtin "list.append") _ _) _ _ _); (k_here; k_dflt (refine' append_snoc ?k1 ?k2 ?k3 ?k4 ?_; (case k1 | k2 => k_asm); (case k3 => k_upd); (case k4 => omega); k_whole); intro h'Z F'Z N'Z; (try k_sweep))))) | (k_here; (with_reducible show wpAny _ _ (subscriptTail _ _ (Value.ref _) (Value.int (-1) _)) _ _ _); k_dflt (refine' item_last ?k1 ?k2 ?_ ?k4; (case k1 => k_asm); (case k2 => k_mem); (case k4 => with_unfolding_all rfl); k_whole)) | ((with_reducible show wpAny _ _ (truthy _) _ _ _); (first | ((with_reducible show wpAny _ _ (truthy (Value.ref _)) _ _ _); (k_here; k_dflt (first | (refine' truthy_nil ?k1 ?k2 ?_; (case k1 => k_asm); (case k2 => k_mem); k_whole) | (refine' truthy_snoc ?k1 ?k2 ?k3 ?_; (case k1 => k_asm); (case k2 => k_mem); (case k3 => omega); k_whole)))) | (k_here; (with_reducible show wpAny _ _ (truthy (Value.str _ _)) _ _ _); refine truthy_long (by assumption) (by omega) ?_; intro _))) | ((with_reducible show wpAny _ _ (execs _ _) _ _ _); (first | ((with_reducible show wpAny _ _ (execs [] _) _ _ _); (k_here; refine wpAny_execs_nil ?_)) | ((with_reducible show wpAny _ _ (execs (_ :: _) _) _ _ _); (k_here; (try dsimp only); (try k_fold); first | with_reducible refine execs_one ?_ | (refine execs_more ?_; intro qN8 hN8 hO8))))) | ((with_reducible show wpAny _ _ (exec (Stmt.If _ _ _ _) _) _ _ _); (k_here; refine wpAny_If ?_)) | walk1 | ((with_reducible show wpAny _ _ _ _ _ _); dsimp only) | (leave1; walk_say "STEP leave1"; try dsimp only) | fail "no step"))
end P22
end Mine
theorem PySem.Challenge.cw_kl0188_01_holds : PySem.Challenge.rw_kl0188_01.Holds :=
  Mine.fin
