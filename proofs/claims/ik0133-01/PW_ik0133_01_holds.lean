import PyProof.Rows.All
import Wide.All
import OpenK.AllK
import Wide.FinOn
import Lean
import PySem.Challenge.RW_ik0133_01
open PySem PySem.W PyProof.Rows
set_option Elab.async false
set_option linter.all false
set_option maxRecDepth 100000
set_option maxHeartbeats 8000000
set_option compiler.extract_closed false
namespace Mine
section
local macro_rules | `(tactic| o_head ($_f $k $a $e)) => `(tactic| o_head (kmHook $k $a $e [86, 93]))
theorem cq_eq : @PySem.W.segRun = @PySem.W.segRun := rfl
name_quick tw2036183076959481453 for PySem.W.segRun by Mine.cq_eq
name_quick tw8075568018651887793 for PySem.W.segRun by Mine.cq_eq
name_quick tw2250404784220189610 for PySem.W.segRun by Mine.cq_eq
name_quick tw7329097827560834383 for PySem.W.segRun by Mine.cq_eq
name_quick tw4655285865082966866 for PySem.W.segRun by Mine.cq_eq
name_quick tw6805717912840619427 for PySem.W.segRun by Mine.cq_eq
name_quick tw13005008825342478051 for PySem.W.segRun by Mine.cq_eq
name_quick tw1239245957066099557 for PySem.W.segRun by Mine.cq_eq
name_quick tw402457016068546867 for PySem.W.segRun by Mine.cq_eq
name_quick tw16948507473371384652 for PySem.W.segRun by Mine.cq_eq
name_quick tw14979626087600564940 for PySem.W.segRun by Mine.cq_eq
name_quick tw9241078212966496916 for PySem.W.segRun by Mine.cq_eq
name_quick tw18031405306278617540 for PySem.W.segRun by Mine.cq_eq
name_quick tw9548065526061515126 for PySem.W.segRun by Mine.cq_eq
name_quick tw6733733256287894996 for PySem.W.segRun by Mine.cq_eq
name_quick tw17041471163203698717 for PySem.W.segRun by Mine.cq_eq
name_quick tw13584531192698683762 for PySem.W.segRun by Mine.cq_eq
name_quick tw13674904513147759565 for PySem.W.segRun by Mine.cq_eq
name_quick tw7891562316972591567 for PySem.W.segRun by Mine.cq_eq
name_quick tw4251353427327788602 for PySem.W.segRun by Mine.cq_eq
name_quick tw7528362787312075124 for PySem.W.segRun by Mine.cq_eq
name_quick tw9851784056462626060 for PySem.W.segRun by Mine.cq_eq
name_quick tw16519947266957812712 for PySem.W.segRun by Mine.cq_eq
name_quick tw11631884870976334500 for PySem.W.segRun by Mine.cq_eq
name_quick tw1652650375092770541 for PySem.W.segRun by Mine.cq_eq
name_quick tw7354301952310539038 for PySem.W.segRun by Mine.cq_eq
name_quick tw13159241964716117882 for PySem.W.segRun by Mine.cq_eq
name_quick tw17000756265888016 for PySem.W.segRun by Mine.cq_eq
name_quick tw1410096668721982599 for PySem.W.segRun by Mine.cq_eq
name_quick tw12475847535787081790 for PySem.W.segRun by Mine.cq_eq
name_quick tw10810343834524570367 for PySem.W.segRun by Mine.cq_eq
name_quick tw9336959277828583989 for PySem.W.segRun by Mine.cq_eq
name_quick tw6431602227632030956 for PySem.W.segRun by Mine.cq_eq
name_quick tw10661177867035829227 for PySem.W.segRun by Mine.cq_eq
name_quick tw10010511219673018494 for PySem.W.segRun by Mine.cq_eq
name_quick tw17344496456200356348 for PySem.W.segRun by Mine.cq_eq
name_quick tw18466492976756830 for PySem.W.segRun by Mine.cq_eq
name_quick tw2895304030280410150 for PySem.W.segRun by Mine.cq_eq
name_quick tw18360803836614840259 for PySem.W.segRun by Mine.cq_eq
name_quick tw12225727855978595839 for PySem.W.segRun by Mine.cq_eq
name_quick tw15313067249213587214 for PySem.W.segRun by Mine.cq_eq
name_quick tw6827457635259423662 for PySem.W.segRun by Mine.cq_eq
name_quick tw14837249469386935497 for PySem.W.segRun by Mine.cq_eq
name_quick tw7543618554067911206 for PySem.W.segRun by Mine.cq_eq
name_quick tw11166942722945506595 for PySem.W.segRun by Mine.cq_eq
name_quick tw3345107109950449737 for PySem.W.segRun by Mine.cq_eq
name_quick tw16413963553889246368 for PySem.W.segRun by Mine.cq_eq
name_quick tw1771862750571323454 for PySem.W.segRun by Mine.cq_eq
name_quick tw7692015426583400375 for PySem.W.segRun by Mine.cq_eq
name_quick tw9626942728845285128 for PySem.W.segRun by Mine.cq_eq
name_quick tw9267298106668617725 for PySem.W.segRun by Mine.cq_eq
name_quick tw5550314157272711993 for PySem.W.segRun by Mine.cq_eq
name_quick tw13759679279233594173 for PySem.W.segRun by Mine.cq_eq
name_quick tw15195428891847259777 for PySem.W.segRun by Mine.cq_eq
name_quick tw17335170898614401699 for PySem.W.segRun by Mine.cq_eq
name_quick tw1536587703002861866 for PySem.W.segRun by Mine.cq_eq
name_quick tw3196378941336150401 for PySem.W.segRun by Mine.cq_eq
name_quick tw7386744729831018872 for PySem.W.segRun by Mine.cq_eq
name_quick tw6832808476680081064 for PySem.W.segRun by Mine.cq_eq
name_quick tw3373567504368509048 for PySem.W.segRun by Mine.cq_eq
name_quick tw15781324953245214433 for PySem.W.segRun by Mine.cq_eq
name_quick tw8708707556590381134 for PySem.W.segRun by Mine.cq_eq
name_quick tw10487160056961263569 for PySem.W.segRun by Mine.cq_eq
name_quick tw1708024556718086227 for PySem.W.segRun by Mine.cq_eq
name_quick tw11310463157757771331 for PySem.W.segRun by Mine.cq_eq
name_quick tw8180830640274347804 for PySem.W.segRun by Mine.cq_eq
name_quick tw16289391198768371057 for PySem.W.segRun by Mine.cq_eq
name_quick tw11825729669827539873 for PySem.W.segRun by Mine.cq_eq
name_quick tw3427515755752030745 for PySem.W.segRun by Mine.cq_eq
name_quick tw13424232207471783386 for PySem.W.segRun by Mine.cq_eq
name_quick tw7094674258960923220 for PySem.W.segRun by Mine.cq_eq
name_quick tw14386900418201647394 for PySem.W.segRun by Mine.cq_eq
name_quick tw5950129339639070837 for PySem.W.segRun by Mine.cq_eq
name_quick tw16223305294053301992 for PySem.W.segRun by Mine.cq_eq
name_quick tw5815302876190815700 for PySem.W.segRun by Mine.cq_eq
name_quick tw1711657323119017317 for PySem.W.segRun by Mine.cq_eq
name_quick tw8253183596043897158 for PySem.W.segRun by Mine.cq_eq
name_quick tw15025364365136419289 for PySem.W.segRun by Mine.cq_eq
name_quick tw13833065179229638619 for PySem.W.segRun by Mine.cq_eq
name_quick tw1228064911786449325 for PySem.W.segRun by Mine.cq_eq
name_quick tw7652866986338317172 for PySem.W.segRun by Mine.cq_eq
name_quick tw6648157844845288826 for PySem.W.segRun by Mine.cq_eq
name_quick tw16846860572762119324 for PySem.W.segRun by Mine.cq_eq
name_quick tw6801968546669101340 for PySem.W.segRun by Mine.cq_eq
name_quick tw17991947082810275242 for PySem.W.segRun by Mine.cq_eq
name_quick tw16432479971616331241 for PySem.W.segRun by Mine.cq_eq
name_quick tw17815586953681464072 for PySem.W.segRun by Mine.cq_eq
name_quick tw5425108064043664162 for PySem.W.segRun by Mine.cq_eq
name_quick tw17164873540382356111 for PySem.W.segRun by Mine.cq_eq
name_quick tw3139228997032326918 for PySem.W.segRun by Mine.cq_eq
name_quick tw13453990235181961046 for PySem.W.segRun by Mine.cq_eq
name_quick tw9130231340562597213 for PySem.W.segRun by Mine.cq_eq
name_quick tw10263206537837412290 for PySem.W.segRun by Mine.cq_eq
name_quick tw4575980220486274672 for PySem.W.segRun by Mine.cq_eq
name_quick tw10470071008263537045 for PySem.W.segRun by Mine.cq_eq
name_quick tw17954471519018878134 for PySem.W.segRun by Mine.cq_eq
name_quick tw7431591544816029494 for PySem.W.segRun by Mine.cq_eq
name_quick tw5853609219237828028 for PySem.W.segRun by Mine.cq_eq
name_quick tw9376109419431680627 for PySem.W.segRun by Mine.cq_eq
name_quick tw12756110868346105713 for PySem.W.segRun by Mine.cq_eq
name_quick tw15480198773659482676 for PySem.W.segRun by Mine.cq_eq
name_quick tw13254397897704925713 for PySem.W.segRun by Mine.cq_eq
name_quick tw8119918657739134586 for PySem.W.segRun by Mine.cq_eq
name_quick tw6967401301877209104 for PySem.W.segRun by Mine.cq_eq
name_quick tw12392613427281201732 for PySem.W.segRun by Mine.cq_eq
name_quick tw8488268690174267210 for PySem.W.segRun by Mine.cq_eq
name_quick tw771018646841630093 for PySem.W.segRun by Mine.cq_eq
name_quick tw5732905514179830355 for PySem.W.segRun by Mine.cq_eq
name_quick tw11317593695737139937 for PySem.W.segRun by Mine.cq_eq
name_quick tw16148938690769344688 for PySem.W.segRun by Mine.cq_eq
name_quick tw2088498060469179804 for PySem.W.segRun by Mine.cq_eq
name_quick tw608726401823008365 for PySem.W.segRun by Mine.cq_eq
name_quick tw16643379632663270332 for PySem.W.segRun by Mine.cq_eq
name_quick tw4636218855388986860 for PySem.W.segRun by Mine.cq_eq
name_quick tw16495097172686442475 for PySem.W.segRun by Mine.cq_eq
name_quick tw11254254501726123291 for PySem.W.segRun by Mine.cq_eq
name_quick tw662354867322794072 for PySem.W.segRun by Mine.cq_eq
name_quick tw16723424844129597499 for PySem.W.segRun by Mine.cq_eq
name_quick tw2637321087531721449 for PySem.W.segRun by Mine.cq_eq
name_quick tw5936146933674214641 for PySem.W.segRun by Mine.cq_eq
name_quick tw13358618909089187005 for PySem.W.segRun by Mine.cq_eq
name_quick tw12885971956603332375 for PySem.W.segRun by Mine.cq_eq
name_quick tw18099695126128789690 for PySem.W.segRun by Mine.cq_eq
name_quick tw15103234261437856402 for PySem.W.segRun by Mine.cq_eq
name_quick tw16444073730201381095 for PySem.W.segRun by Mine.cq_eq
name_quick tw11729385059970357855 for PySem.W.segRun by Mine.cq_eq
name_quick tw578555737997480806 for PySem.W.segRun by Mine.cq_eq
name_quick tw9092458845897301907 for PySem.W.segRun by Mine.cq_eq
name_quick tw9908251947323293946 for PySem.W.segRun by Mine.cq_eq
name_quick tw8753696776887207221 for PySem.W.segRun by Mine.cq_eq
name_quick tw11280230395552571071 for PySem.W.segRun by Mine.cq_eq
name_quick tw12227490674122928909 for PySem.W.segRun by Mine.cq_eq
name_quick tw18253757678009453241 for PySem.W.segRun by Mine.cq_eq
name_quick tw8777329075199875621 for PySem.W.segRun by Mine.cq_eq
name_quick tw15542691292777871779 for PySem.W.segRun by Mine.cq_eq
name_quick tw16861218917600885097 for PySem.W.segRun by Mine.cq_eq
name_quick tw961816596523099452 for PySem.W.segRun by Mine.cq_eq
name_quick tw14660294095824935610 for PySem.W.segRun by Mine.cq_eq
name_quick tw15768644013482014892 for PySem.W.segRun by Mine.cq_eq
name_quick tw15190520802936310887 for PySem.W.segRun by Mine.cq_eq
name_quick tw6904946511330054154 for PySem.W.segRun by Mine.cq_eq
name_quick tw14200474593977847096 for PySem.W.segRun by Mine.cq_eq
name_quick tw2611137233208623240 for PySem.W.segRun by Mine.cq_eq
name_quick tw11796506867022685745 for PySem.W.segRun by Mine.cq_eq
name_quick tw14443633870133607999 for PySem.W.segRun by Mine.cq_eq
name_quick tw2314638664359121040 for PySem.W.segRun by Mine.cq_eq
name_quick tw252367510798351285 for PySem.W.segRun by Mine.cq_eq
name_quick tw10948738476641704880 for PySem.W.segRun by Mine.cq_eq
name_quick tw13607416678640721797 for PySem.W.segRun by Mine.cq_eq
name_quick tw12064662690394058248 for PySem.W.segRun by Mine.cq_eq
name_quick tw14530364306720264245 for PySem.W.segRun by Mine.cq_eq
name_quick tw7098571738820278039 for PySem.W.segRun by Mine.cq_eq
name_quick tw6580340599500149305 for PySem.W.segRun by Mine.cq_eq
name_quick tw15965015591981942514 for PySem.W.segRun by Mine.cq_eq
name_quick tw7232422423428716515 for PySem.W.segRun by Mine.cq_eq
name_quick tw9948023125614773506 for PySem.W.segRun by Mine.cq_eq
name_quick tw13658505271682890234 for PySem.W.segRun by Mine.cq_eq
name_quick tw9315938663221665524 for PySem.W.segRun by Mine.cq_eq
name_quick tw2351620601788327285 for PySem.W.segRun by Mine.cq_eq
name_quick tw6528253989541921203 for PySem.W.segRun by Mine.cq_eq
name_quick tw16460519517873343938 for PySem.W.segRun by Mine.cq_eq
name_quick tw1954329431781641577 for PySem.W.segRun by Mine.cq_eq
name_quick tw15475462885187679331 for PySem.W.segRun by Mine.cq_eq
name_quick tw6284913977507520645 for PySem.W.segRun by Mine.cq_eq
name_quick tw9407582987413476825 for PySem.W.segRun by Mine.cq_eq
name_quick tw1210750091971509897 for PySem.W.segRun by Mine.cq_eq
name_quick tw14389334442490810641 for PySem.W.segRun by Mine.cq_eq
name_quick tw16349216596472256690 for PySem.W.segRun by Mine.cq_eq
name_quick tw5721027456603625697 for PySem.W.segRun by Mine.cq_eq
name_quick tw6434138532213402376 for PySem.W.segRun by Mine.cq_eq
name_quick tw7332914688054063159 for PySem.W.segRun by Mine.cq_eq
name_quick tw11064063364532404858 for PySem.W.segRun by Mine.cq_eq
name_quick tw15720711673333222530 for PySem.W.segRun by Mine.cq_eq
name_quick tw10942035263794033107 for PySem.W.segRun by Mine.cq_eq
name_quick tw13949143374315933397 for PySem.W.segRun by Mine.cq_eq
name_quick tw1378346296635387435 for PySem.W.segRun by Mine.cq_eq
name_quick tw2354135333415324597 for PySem.W.segRun by Mine.cq_eq
name_quick tw9743207683681685546 for PySem.W.segRun by Mine.cq_eq
name_quick tw14278799554742785266 for PySem.W.segRun by Mine.cq_eq
name_quick tw13491086964462194671 for PySem.W.segRun by Mine.cq_eq
name_quick tw13317431791736044220 for PySem.W.segRun by Mine.cq_eq
name_quick tw4205239288364317433 for PySem.W.segRun by Mine.cq_eq
name_quick tw1995926237046646575 for PySem.W.segRun by Mine.cq_eq
name_quick tw16645262185327669138 for PySem.W.segRun by Mine.cq_eq
name_quick tw1772237422875290029 for PySem.W.segRun by Mine.cq_eq
name_quick tw2627984346626558326 for PySem.W.segRun by Mine.cq_eq
name_quick tw4264315005692455143 for PySem.W.segRun by Mine.cq_eq
name_quick tw10078919187461690516 for PySem.W.segRun by Mine.cq_eq
name_quick tw5032809538720368765 for PySem.W.segRun by Mine.cq_eq
name_quick tw13195905796856590283 for PySem.W.segRun by Mine.cq_eq
name_quick tw7165179329215463379 for PySem.W.segRun by Mine.cq_eq
name_quick tw9467589175468403638 for PySem.W.segRun by Mine.cq_eq
name_quick tw5697894365363955025 for PySem.W.segRun by Mine.cq_eq
name_quick tw1615719349143574890 for PySem.W.segRun by Mine.cq_eq
name_quick tw12168629308613836373 for PySem.W.segRun by Mine.cq_eq
name_quick tw12286716685032941320 for PySem.W.segRun by Mine.cq_eq
name_quick tw13241461904039861399 for PySem.W.segRun by Mine.cq_eq
name_quick tw7581816359482902497 for PySem.W.segRun by Mine.cq_eq
name_quick tw9076128300344869771 for PySem.W.segRun by Mine.cq_eq
name_quick tw3636048126100218174 for PySem.W.segRun by Mine.cq_eq
name_quick tw17283992503375333543 for PySem.W.segRun by Mine.cq_eq
name_quick tw9236379625843700516 for PySem.W.segRun by Mine.cq_eq
name_quick tw1258717718454355964 for PySem.W.segRun by Mine.cq_eq
name_quick tw10938465397075749097 for PySem.W.segRun by Mine.cq_eq
name_quick tw3204418006412231623 for PySem.W.segRun by Mine.cq_eq
name_quick tw4173924237407464957 for PySem.W.segRun by Mine.cq_eq
name_quick tw14843722373977536959 for PySem.W.segRun by Mine.cq_eq
name_quick tw3898955781451842834 for PySem.W.segRun by Mine.cq_eq
name_quick tw1503297043503765363 for PySem.W.segRun by Mine.cq_eq
name_quick tw14567578511070691153 for PySem.W.segRun by Mine.cq_eq
name_quick tw16987768009889223052 for PySem.W.segRun by Mine.cq_eq
name_quick tw6380047634161181297 for PySem.W.segRun by Mine.cq_eq
name_quick tw5857867401354281197 for PySem.W.segRun by Mine.cq_eq
name_quick tw4933834842325187142 for PySem.W.segRun by Mine.cq_eq
name_quick tw16189536214700107852 for PySem.W.segRun by Mine.cq_eq
name_quick tw18371169792594650754 for PySem.W.segRun by Mine.cq_eq
name_quick tw14763704009068828915 for PySem.W.segRun by Mine.cq_eq
name_quick tw5832503352825792928 for PySem.W.segRun by Mine.cq_eq
name_quick tw7323676302269181137 for PySem.W.segRun by Mine.cq_eq
name_quick tw15806122291839087668 for PySem.W.segRun by Mine.cq_eq
name_quick tw3764465048917985505 for PySem.W.segRun by Mine.cq_eq
name_quick tw1267870562809915468 for PySem.W.segRun by Mine.cq_eq
name_quick tw8537084889766193716 for PySem.W.segRun by Mine.cq_eq
name_quick tw15079194523842364033 for PySem.W.segRun by Mine.cq_eq
name_quick tw4011157648589011858 for PySem.W.segRun by Mine.cq_eq
name_quick tw18220123701641295943 for PySem.W.segRun by Mine.cq_eq
name_quick tw9092590503495048627 for PySem.W.segRun by Mine.cq_eq
name_quick tw4768464013462379552 for PySem.W.segRun by Mine.cq_eq
name_quick tw12436211924289087317 for PySem.W.segRun by Mine.cq_eq
name_quick tw4716499452693333712 for PySem.W.segRun by Mine.cq_eq
name_quick tw1481926694345511941 for PySem.W.segRun by Mine.cq_eq
name_quick tw16916688483869632129 for PySem.W.segRun by Mine.cq_eq
name_quick tw17888162413812561239 for PySem.W.segRun by Mine.cq_eq
name_quick tw14529259203199301258 for PySem.W.segRun by Mine.cq_eq
name_quick tw15432132100017774171 for PySem.W.segRun by Mine.cq_eq
name_quick tw2478078296215019888 for PySem.W.segRun by Mine.cq_eq
name_quick tw4527066259768149269 for PySem.W.segRun by Mine.cq_eq
name_quick tw16950312913027304927 for PySem.W.segRun by Mine.cq_eq
name_quick tw3325841961599345399 for PySem.W.segRun by Mine.cq_eq
name_quick tw13871001218405608335 for PySem.W.segRun by Mine.cq_eq
name_quick tw16280195873916505411 for PySem.W.segRun by Mine.cq_eq
name_quick tw18101931140130867144 for PySem.W.segRun by Mine.cq_eq
name_quick tw2968979199505139716 for PySem.W.segRun by Mine.cq_eq
name_quick tw17528258088376854630 for PySem.W.segRun by Mine.cq_eq
name_quick tw9190918148164325157 for PySem.W.segRun by Mine.cq_eq
name_quick tw17476080006546285661 for PySem.W.segRun by Mine.cq_eq
name_quick tw13678640442995254988 for PySem.W.segRun by Mine.cq_eq
name_quick tw13505292571300825877 for PySem.W.segRun by Mine.cq_eq
name_quick tw4733837786962973091 for PySem.W.segRun by Mine.cq_eq
name_quick tw10314498396905981064 for PySem.W.segRun by Mine.cq_eq
name_quick tw12647630874787467225 for PySem.W.segRun by Mine.cq_eq
name_quick tw7461879971939330490 for PySem.W.segRun by Mine.cq_eq
name_quick tw6624491594363574236 for PySem.W.segRun by Mine.cq_eq
name_quick tw5701610774189311196 for PySem.W.segRun by Mine.cq_eq
name_quick tw12095823642532355627 for PySem.W.segRun by Mine.cq_eq
name_quick tw5518745428033880147 for PySem.W.segRun by Mine.cq_eq
name_quick tw15900120412870309639 for PySem.W.segRun by Mine.cq_eq
name_quick tw5758256569797452207 for PySem.W.segRun by Mine.cq_eq
name_quick tw4594841794817819559 for PySem.W.segRun by Mine.cq_eq
name_quick tw4824431525194463578 for PySem.W.segRun by Mine.cq_eq
name_quick tw7393211689510517793 for PySem.W.segRun by Mine.cq_eq
name_quick tw16658944759067139292 for PySem.W.segRun by Mine.cq_eq
name_quick tw7745614565497352828 for PySem.W.segRun by Mine.cq_eq
name_quick tw724751600484774222 for PySem.W.segRun by Mine.cq_eq
name_quick tw17730448691065144110 for PySem.W.segRun by Mine.cq_eq
name_quick tw17431367730909923944 for PySem.W.segRun by Mine.cq_eq
name_quick tw5409283761738284092 for PySem.W.segRun by Mine.cq_eq
name_quick tw3797612339304411714 for PySem.W.segRun by Mine.cq_eq
name_quick tw6426273055680023932 for PySem.W.segRun by Mine.cq_eq
name_quick tw17727738676932873817 for PySem.W.segRun by Mine.cq_eq
name_quick tw14544052848187043789 for PySem.W.segRun by Mine.cq_eq
name_quick tw17394056326795013819 for PySem.W.segRun by Mine.cq_eq
name_quick tw7581352650102555174 for PySem.W.segRun by Mine.cq_eq
name_quick tw17263276799224249500 for PySem.W.segRun by Mine.cq_eq
name_quick tw8860024209350480642 for PySem.W.segRun by Mine.cq_eq
name_quick tw15250204685079549951 for PySem.W.segRun by Mine.cq_eq
name_quick tw4071324889030633612 for PySem.W.segRun by Mine.cq_eq
name_quick tw17853915177807527196 for PySem.W.segRun by Mine.cq_eq
name_quick tw10767066097796618615 for PySem.W.segRun by Mine.cq_eq
name_quick tw6144853644547557980 for PySem.W.segRun by Mine.cq_eq
name_quick tw11161088081135249708 for PySem.W.segRun by Mine.cq_eq
name_quick tw7405434945208526273 for PySem.W.segRun by Mine.cq_eq
name_quick tw18328561965235511954 for PySem.W.segRun by Mine.cq_eq
name_quick tw7503421922109321716 for PySem.W.segRun by Mine.cq_eq
name_quick tw8162909057868654942 for PySem.W.segRun by Mine.cq_eq
name_quick tw6291368078380397288 for PySem.W.segRun by Mine.cq_eq
name_quick tw8946543629884556368 for PySem.W.segRun by Mine.cq_eq
name_quick tw7561037823649445926 for PySem.W.segRun by Mine.cq_eq
name_quick tw9575731206691268911 for PySem.W.segRun by Mine.cq_eq
name_quick tw2302674139485633275 for PySem.W.segRun by Mine.cq_eq
name_quick tw5889167727604068794 for PySem.W.segRun by Mine.cq_eq
name_quick tw2569364866550412066 for PySem.W.segRun by Mine.cq_eq
name_quick tw2011108890870493169 for PySem.W.segRun by Mine.cq_eq
name_quick tw16474492168511960337 for PySem.W.segRun by Mine.cq_eq
name_quick tw11013792430000457035 for PySem.W.segRun by Mine.cq_eq
name_quick tw4936483359421988267 for PySem.W.segRun by Mine.cq_eq
name_quick tw13314330512976039754 for PySem.W.segRun by Mine.cq_eq
name_quick tw4748654258956052638 for PySem.W.segRun by Mine.cq_eq
name_quick tw11625766737575182897 for PySem.W.segRun by Mine.cq_eq
name_quick tw4681523508651956083 for PySem.W.segRun by Mine.cq_eq
name_quick tw12773889961810623364 for PySem.W.segRun by Mine.cq_eq
name_quick tw17244072584429378644 for PySem.W.segRun by Mine.cq_eq
name_quick tw10073347824450446311 for PySem.W.segRun by Mine.cq_eq
name_quick tw14096952598973939363 for PySem.W.segRun by Mine.cq_eq
name_quick tw2759451637364818457 for PySem.W.segRun by Mine.cq_eq
name_quick tw6125931036764729998 for PySem.W.segRun by Mine.cq_eq
name_quick tw5076957145309523181 for PySem.W.segRun by Mine.cq_eq
name_quick tw10887116778572429059 for PySem.W.segRun by Mine.cq_eq
name_quick tw18052830216330045932 for PySem.W.segRun by Mine.cq_eq
name_quick tw18163708392712065173 for PySem.W.segRun by Mine.cq_eq
name_quick tw5315457868209417068 for PySem.W.segRun by Mine.cq_eq
name_quick tw2736616831223182526 for PySem.W.segRun by Mine.cq_eq
name_quick tw12635813782599140982 for PySem.W.segRun by Mine.cq_eq
name_quick tw15020028541594565831 for PySem.W.segRun by Mine.cq_eq
name_quick tw3865406201487662470 for PySem.W.segRun by Mine.cq_eq
name_quick tw9285146279643344392 for PySem.W.segRun by Mine.cq_eq
name_quick tw13809362725867891129 for PySem.W.segRun by Mine.cq_eq
name_quick tw7976981314885711489 for PySem.W.segRun by Mine.cq_eq
name_quick tw7573151900890175926 for PySem.W.segRun by Mine.cq_eq
name_quick tw7458669417513538434 for PySem.W.segRun by Mine.cq_eq
name_quick tw16495559152270511615 for PySem.W.segRun by Mine.cq_eq
name_quick tw2447921434856996015 for PySem.W.segRun by Mine.cq_eq
name_quick tw6182678533730793537 for PySem.W.segRun by Mine.cq_eq
name_quick tw4299136966843209011 for PySem.W.segRun by Mine.cq_eq
name_quick tw325292655437039998 for PySem.W.segRun by Mine.cq_eq
name_quick tw9931943479562821362 for PySem.W.segRun by Mine.cq_eq
name_quick tw7229665172594901996 for PySem.W.segRun by Mine.cq_eq
name_quick tw293829605474521371 for PySem.W.segRun by Mine.cq_eq
name_quick tw6698160770425034372 for PySem.W.segRun by Mine.cq_eq
name_quick tw3695515675974049574 for PySem.W.segRun by Mine.cq_eq
name_quick tw16427306112580772713 for PySem.W.segRun by Mine.cq_eq
name_quick tw12821735335276811757 for PySem.W.segRun by Mine.cq_eq
name_quick tw17814930658547583709 for PySem.W.segRun by Mine.cq_eq
name_quick tw183835017167291270 for PySem.W.segRun by Mine.cq_eq
name_quick tw17863021456227041891 for PySem.W.segRun by Mine.cq_eq
name_quick tw9047900276149940361 for PySem.W.segRun by Mine.cq_eq
name_quick tw3327986453032591115 for PySem.W.segRun by Mine.cq_eq
name_quick tw5386766301290243201 for PySem.W.segRun by Mine.cq_eq
name_quick tw1617757218408452269 for PySem.W.segRun by Mine.cq_eq
name_quick tw7618406622816332465 for PySem.W.segRun by Mine.cq_eq
name_quick tw6148621092414575339 for PySem.W.segRun by Mine.cq_eq
name_quick tw13650077344797733491 for PySem.W.segRun by Mine.cq_eq
name_quick tw15423634916342008072 for PySem.W.segRun by Mine.cq_eq
name_quick tw17026713947507217902 for PySem.W.segRun by Mine.cq_eq
name_quick tw5345256250457102556 for PySem.W.segRun by Mine.cq_eq
name_quick tw7365555872484859036 for PySem.W.segRun by Mine.cq_eq
name_quick tw16865151637890581275 for PySem.W.segRun by Mine.cq_eq
name_quick tw13581749221687468397 for PySem.W.segRun by Mine.cq_eq
name_quick tw13121200027793486533 for PySem.W.segRun by Mine.cq_eq
name_quick tw15194748194917737719 for PySem.W.segRun by Mine.cq_eq
name_quick tw6019396324639902685 for PySem.W.segRun by Mine.cq_eq
name_quick tw15560853006256673968 for PySem.W.segRun by Mine.cq_eq
name_quick tw9305782018832362445 for PySem.W.segRun by Mine.cq_eq
name_quick tw5248340912204065574 for PySem.W.segRun by Mine.cq_eq
name_quick tw14023627001141898710 for PySem.W.segRun by Mine.cq_eq
name_quick tw13951202360752479828 for PySem.W.segRun by Mine.cq_eq
name_quick tw13160144027095335755 for PySem.W.segRun by Mine.cq_eq
name_quick tw10670733350059645105 for PySem.W.segRun by Mine.cq_eq
name_quick tw13036272033356848781 for PySem.W.segRun by Mine.cq_eq
name_quick tw7733015712792483723 for PySem.W.segRun by Mine.cq_eq
name_quick tw14386061602966655976 for PySem.W.segRun by Mine.cq_eq
name_quick tw2315820567201803617 for PySem.W.segRun by Mine.cq_eq
name_quick tw10619036274816975696 for PySem.W.segRun by Mine.cq_eq
name_quick tw7449101846280096545 for PySem.W.segRun by Mine.cq_eq
name_quick tw5111356299099525756 for PySem.W.segRun by Mine.cq_eq
name_quick tw13789449189825218787 for PySem.W.segRun by Mine.cq_eq
name_quick tw4549333791460862111 for PySem.W.segRun by Mine.cq_eq
name_quick tw15894407043143930727 for PySem.W.segRun by Mine.cq_eq
name_quick tw498941489931974913 for PySem.W.segRun by Mine.cq_eq
name_quick tw10475303700862453374 for PySem.W.segRun by Mine.cq_eq
name_quick tw14489655085307688843 for PySem.W.segRun by Mine.cq_eq
name_quick tw6012508502120743258 for PySem.W.segRun by Mine.cq_eq
name_quick tw12973657651903071711 for PySem.W.segRun by Mine.cq_eq
name_quick tw1100353791813204450 for PySem.W.segRun by Mine.cq_eq
name_quick tw15736541856241217950 for PySem.W.segRun by Mine.cq_eq
name_quick tw1423138165483278961 for PySem.W.segRun by Mine.cq_eq
name_quick tw39160002569200845 for PySem.W.segRun by Mine.cq_eq
name_quick tw4949472239710415697 for PySem.W.segRun by Mine.cq_eq
name_quick tw1102190903223815498 for PySem.W.segRun by Mine.cq_eq
name_quick tw5247225353297040015 for PySem.W.segRun by Mine.cq_eq
name_quick tw15028816761298942483 for PySem.W.segRun by Mine.cq_eq
name_quick tw16648231224745350325 for PySem.W.segRun by Mine.cq_eq
name_quick tw13156168479132978002 for PySem.W.segRun by Mine.cq_eq
name_quick tw16039550372008468697 for PySem.W.segRun by Mine.cq_eq
name_quick tw6213141578215901147 for PySem.W.segRun by Mine.cq_eq
name_quick tw11462045893675790159 for PySem.W.segRun by Mine.cq_eq
name_quick tw347637069881736656 for PySem.W.segRun by Mine.cq_eq
name_quick tw6587116730350146372 for PySem.W.segRun by Mine.cq_eq
name_quick tw5565278806992967083 for PySem.W.segRun by Mine.cq_eq
name_quick tw2334299552400917057 for PySem.W.segRun by Mine.cq_eq
name_quick tw8620020772036689432 for PySem.W.segRun by Mine.cq_eq
name_quick tw12527393111034389544 for PySem.W.segRun by Mine.cq_eq
name_quick tw3094477031063562474 for PySem.W.segRun by Mine.cq_eq
name_quick tw3856783459128436802 for PySem.W.segRun by Mine.cq_eq
name_quick tw14778209649434054790 for PySem.W.segRun by Mine.cq_eq
name_quick tw5512085447785999860 for PySem.W.segRun by Mine.cq_eq
name_quick tw7499937903120025604 for PySem.W.segRun by Mine.cq_eq
name_quick tw5068434257544371817 for PySem.W.segRun by Mine.cq_eq
name_quick tw13640514254501968386 for PySem.W.segRun by Mine.cq_eq
name_quick tw7258234576362860186 for PySem.W.segRun by Mine.cq_eq
name_quick tw11939915149646268982 for PySem.W.segRun by Mine.cq_eq
name_quick tw11892598404827812706 for PySem.W.segRun by Mine.cq_eq
name_quick tw3889259530307233657 for PySem.W.segRun by Mine.cq_eq
name_quick tw18011898689540126615 for PySem.W.segRun by Mine.cq_eq
name_quick tw618205885557783147 for PySem.W.segRun by Mine.cq_eq
name_quick tw9292931687148149277 for PySem.W.segRun by Mine.cq_eq
name_quick tw11682084944484805031 for PySem.W.segRun by Mine.cq_eq
name_quick tw15902184279288820625 for PySem.W.segRun by Mine.cq_eq
name_quick tw13912434898499826684 for PySem.W.segRun by Mine.cq_eq
name_quick tw16406328271908756883 for PySem.W.segRun by Mine.cq_eq
name_quick tw3148276903521382524 for PySem.W.segRun by Mine.cq_eq
name_quick tw13251646731365433171 for PySem.W.segRun by Mine.cq_eq
name_quick tw5357591511691535388 for PySem.W.segRun by Mine.cq_eq
name_quick tw17719373434677690450 for PySem.W.segRun by Mine.cq_eq
name_quick tw13816233472422033322 for PySem.W.segRun by Mine.cq_eq
name_quick tw5396446701170858492 for PySem.W.segRun by Mine.cq_eq
name_quick tw12290603225136948437 for PySem.W.segRun by Mine.cq_eq
name_quick tw12071057409057901078 for PySem.W.segRun by Mine.cq_eq
name_quick tw6142071019320080357 for PySem.W.segRun by Mine.cq_eq
name_quick tw7313295853046975944 for PySem.W.segRun by Mine.cq_eq
name_quick tw7198390536060210744 for PySem.W.segRun by Mine.cq_eq
name_quick tw14214133299417103183 for PySem.W.segRun by Mine.cq_eq
name_quick tw12477758415327278626 for PySem.W.segRun by Mine.cq_eq
name_quick tw14952990662201256454 for PySem.W.segRun by Mine.cq_eq
name_quick tw4989861115921178866 for PySem.W.segRun by Mine.cq_eq
name_quick tw13847470327216474714 for PySem.W.segRun by Mine.cq_eq
name_quick tw5450187663091677483 for PySem.W.segRun by Mine.cq_eq
name_quick tw447715330943862342 for PySem.W.segRun by Mine.cq_eq
name_quick tw921073385446354868 for PySem.W.segRun by Mine.cq_eq
name_quick tw15323854079317868165 for PySem.W.segRun by Mine.cq_eq
name_quick tw10057510723706494237 for PySem.W.segRun by Mine.cq_eq
name_quick tw11767421526060770920 for PySem.W.segRun by Mine.cq_eq
name_quick tw3825061337978711158 for PySem.W.segRun by Mine.cq_eq
name_quick tw3142773779024712118 for PySem.W.segRun by Mine.cq_eq
name_quick tw1667231139898017245 for PySem.W.segRun by Mine.cq_eq
name_quick tw17520869792638436183 for PySem.W.segRun by Mine.cq_eq
name_quick tw13141144453892091621 for PySem.W.segRun by Mine.cq_eq
name_quick tw16869277618539721502 for PySem.W.segRun by Mine.cq_eq
name_quick tw5820445615435017067 for PySem.W.segRun by Mine.cq_eq
name_quick tw18131936236247874842 for PySem.W.segRun by Mine.cq_eq
name_quick tw11525573260007124812 for PySem.W.segRun by Mine.cq_eq
name_quick tw5854066237105225762 for PySem.W.segRun by Mine.cq_eq
name_quick tw950723637873067451 for PySem.W.segRun by Mine.cq_eq
name_quick tw10782641618400255816 for PySem.W.segRun by Mine.cq_eq
name_quick tw14401720017095790664 for PySem.W.segRun by Mine.cq_eq
name_quick tw7543195961347049332 for PySem.W.segRun by Mine.cq_eq
name_quick tw17183712847048597117 for PySem.W.segRun by Mine.cq_eq
name_quick tw3826639566459466600 for PySem.W.segRun by Mine.cq_eq
name_quick tw7082770336023389322 for PySem.W.segRun by Mine.cq_eq
name_quick tw1631149150583789468 for PySem.W.segRun by Mine.cq_eq
name_quick tw16172117957621229858 for PySem.W.segRun by Mine.cq_eq
name_quick tw6679490504615227074 for PySem.W.segRun by Mine.cq_eq
name_quick tw1136578752053086225 for PySem.W.segRun by Mine.cq_eq
name_quick tw15917270771655136656 for PySem.W.segRun by Mine.cq_eq
name_quick tw6267220430429643429 for PySem.W.segRun by Mine.cq_eq
name_quick tw6127375697748050860 for PySem.W.segRun by Mine.cq_eq
name_quick tw7210653913260312092 for PySem.W.segRun by Mine.cq_eq
name_quick tw12177639751122801600 for PySem.W.segRun by Mine.cq_eq
name_quick tw14766643958189025262 for PySem.W.segRun by Mine.cq_eq
name_quick tw9515652053505349548 for PySem.W.segRun by Mine.cq_eq
name_quick tw2506853364499732696 for PySem.W.segRun by Mine.cq_eq
name_quick tw7574553109774388169 for PySem.W.segRun by Mine.cq_eq
name_quick tw11882390891050353253 for PySem.W.segRun by Mine.cq_eq
name_quick tw15041003319150489328 for PySem.W.segRun by Mine.cq_eq
name_quick tw3558216917135427349 for PySem.W.segRun by Mine.cq_eq
name_quick tw11629953924900746896 for PySem.W.segRun by Mine.cq_eq
name_quick tw11036193050239951465 for PySem.W.segRun by Mine.cq_eq
name_quick tw5303519439607764402 for PySem.W.segRun by Mine.cq_eq
name_quick tw18428756778242999024 for PySem.W.segRun by Mine.cq_eq
name_quick tw1574873078441994576 for PySem.W.segRun by Mine.cq_eq
name_quick tw14907048974825807369 for PySem.W.segRun by Mine.cq_eq
name_quick tw10589684114461592954 for PySem.W.segRun by Mine.cq_eq
name_quick tw3267979357774110234 for PySem.W.segRun by Mine.cq_eq
name_quick tw8654737378357257675 for PySem.W.segRun by Mine.cq_eq
name_quick tw6380782515089751550 for PySem.W.segRun by Mine.cq_eq
name_quick tw10819683100428557426 for PySem.W.segRun by Mine.cq_eq
name_quick tw6834602518627153040 for PySem.W.segRun by Mine.cq_eq
name_quick tw3475433342306392058 for PySem.W.segRun by Mine.cq_eq
name_quick tw8123005709971320403 for PySem.W.segRun by Mine.cq_eq
name_quick tw8656719876789144132 for PySem.W.segRun by Mine.cq_eq
name_quick tw15983881195869794717 for PySem.W.segRun by Mine.cq_eq
name_quick tw9821368406582625841 for PySem.W.segRun by Mine.cq_eq
name_quick tw1749818173716722547 for PySem.W.segRun by Mine.cq_eq
name_quick tw15168306246750427876 for PySem.W.segRun by Mine.cq_eq
name_quick tw8987815912523675519 for PySem.W.segRun by Mine.cq_eq
name_quick tw7721631327575515661 for PySem.W.segRun by Mine.cq_eq
name_quick tw13804622635509601256 for PySem.W.segRun by Mine.cq_eq
name_quick tw11960580518372995122 for PySem.W.segRun by Mine.cq_eq
name_quick tw6135381517318000843 for PySem.W.segRun by Mine.cq_eq
name_quick tw10030586065758793078 for PySem.W.segRun by Mine.cq_eq
name_quick tw8999186272805695465 for PySem.W.segRun by Mine.cq_eq
name_quick tw10885399304501877467 for PySem.W.segRun by Mine.cq_eq
name_quick tw4769018279307018242 for PySem.W.segRun by Mine.cq_eq
name_quick tw7344376507651311505 for PySem.W.segRun by Mine.cq_eq
name_quick tw3777755567575978352 for PySem.W.segRun by Mine.cq_eq
name_quick tw17027947056734134637 for PySem.W.segRun by Mine.cq_eq
name_quick tw17057272898397164401 for PySem.W.segRun by Mine.cq_eq
name_quick tw11886712299990487620 for PySem.W.segRun by Mine.cq_eq
name_quick tw17318589155259679147 for PySem.W.segRun by Mine.cq_eq
name_quick tw6123655918767846522 for PySem.W.segRun by Mine.cq_eq
name_quick tw12828332729040242785 for PySem.W.segRun by Mine.cq_eq
name_quick tw7009043117176579089 for PySem.W.segRun by Mine.cq_eq
name_quick tw3504847659760329788 for PySem.W.segRun by Mine.cq_eq
name_quick tw9300948228871686676 for PySem.W.segRun by Mine.cq_eq
name_quick tw13551572312386263098 for PySem.W.segRun by Mine.cq_eq
name_quick tw1375587502874563802 for PySem.W.segRun by Mine.cq_eq
name_quick tw5882768191206486792 for PySem.W.segRun by Mine.cq_eq
name_quick tw5854881644878751223 for PySem.W.segRun by Mine.cq_eq
name_quick tw11433066937589102482 for PySem.W.segRun by Mine.cq_eq
name_quick tw8376441433122354887 for PySem.W.segRun by Mine.cq_eq
name_quick tw18034167525097398909 for PySem.W.segRun by Mine.cq_eq
name_quick tw16644606511662114574 for PySem.W.segRun by Mine.cq_eq
name_quick tw14190725551584542720 for PySem.W.segRun by Mine.cq_eq
name_quick tw6517296806544964722 for PySem.W.segRun by Mine.cq_eq
name_quick tw10919533547850550483 for PySem.W.segRun by Mine.cq_eq
name_quick tw6952355047532471503 for PySem.W.segRun by Mine.cq_eq
name_quick tw3118938333895590913 for PySem.W.segRun by Mine.cq_eq
name_quick tw5349121933718820234 for PySem.W.segRun by Mine.cq_eq
name_quick tw7496433998918960881 for PySem.W.segRun by Mine.cq_eq
name_quick tw11707371222683016368 for PySem.W.segRun by Mine.cq_eq
name_quick tw830924265138556478 for PySem.W.segRun by Mine.cq_eq
name_quick tw8649964590619651473 for PySem.W.segRun by Mine.cq_eq
name_quick tw11186114360453789277 for PySem.W.segRun by Mine.cq_eq
name_quick tw17975652961387846372 for PySem.W.segRun by Mine.cq_eq
name_quick tw9577309144901391297 for PySem.W.segRun by Mine.cq_eq
name_quick tw16049961110935095269 for PySem.W.segRun by Mine.cq_eq
name_quick tw139799656371268569 for PySem.W.segRun by Mine.cq_eq
name_quick tw12981051755390344553 for PySem.W.segRun by Mine.cq_eq
name_quick tw1188131947540300063 for PySem.W.segRun by Mine.cq_eq
name_quick tw11543483234476862875 for PySem.W.segRun by Mine.cq_eq
name_quick tw13471461260053382970 for PySem.W.segRun by Mine.cq_eq
name_quick tw6792406925840432001 for PySem.W.segRun by Mine.cq_eq
name_quick tw12898947447245864913 for PySem.W.segRun by Mine.cq_eq
name_quick tw16138931208732196661 for PySem.W.segRun by Mine.cq_eq
name_quick tw17344680358763864322 for PySem.W.segRun by Mine.cq_eq
name_quick tw11964429278604863157 for PySem.W.segRun by Mine.cq_eq
name_quick tw6434265647005701932 for PySem.W.segRun by Mine.cq_eq
name_quick tw9763268239775435451 for PySem.W.segRun by Mine.cq_eq
name_quick tw10257574182948591618 for PySem.W.segRun by Mine.cq_eq
name_quick tw7729641633298002090 for PySem.W.segRun by Mine.cq_eq
name_quick tw3365010085382643294 for PySem.W.segRun by Mine.cq_eq
name_quick tw13987355940573415152 for PySem.W.segRun by Mine.cq_eq
name_quick tw8459811325457737761 for PySem.W.segRun by Mine.cq_eq
name_quick tw8032284361305108907 for PySem.W.segRun by Mine.cq_eq
name_quick tw4407734736301137906 for PySem.W.segRun by Mine.cq_eq
name_quick tw148260917463534702 for PySem.W.segRun by Mine.cq_eq
name_quick tw5135500740108067664 for PySem.W.segRun by Mine.cq_eq
name_quick tw6683783046931543321 for PySem.W.segRun by Mine.cq_eq
name_quick tw9594665118957945026 for PySem.W.segRun by Mine.cq_eq
name_quick tw14209830616999942402 for PySem.W.segRun by Mine.cq_eq
name_quick tw2948108419219029167 for PySem.W.segRun by Mine.cq_eq
name_quick tw16018607276475445134 for PySem.W.segRun by Mine.cq_eq
name_quick tw2711585505577850959 for PySem.W.segRun by Mine.cq_eq
name_quick tw4466658021391931909 for PySem.W.segRun by Mine.cq_eq
name_quick tw1139862187096482527 for PySem.W.segRun by Mine.cq_eq
name_quick tw15059462757989803610 for PySem.W.segRun by Mine.cq_eq
name_quick tw15450981722951097364 for PySem.W.segRun by Mine.cq_eq
name_quick tw1916944219915559503 for PySem.W.segRun by Mine.cq_eq
name_quick tw10500077913531017323 for PySem.W.segRun by Mine.cq_eq
name_quick tw16145008321745377990 for PySem.W.segRun by Mine.cq_eq
name_quick tw17325535178939296128 for PySem.W.segRun by Mine.cq_eq
name_quick tw15880737140895825463 for PySem.W.segRun by Mine.cq_eq
name_quick tw13251161224904053152 for PySem.W.segRun by Mine.cq_eq
name_quick tw7824674403005707151 for PySem.W.segRun by Mine.cq_eq
name_quick tw607167704815816724 for PySem.W.segRun by Mine.cq_eq
name_quick tw12114495157272644582 for PySem.W.segRun by Mine.cq_eq
name_quick tw178441218286455893 for PySem.W.segRun by Mine.cq_eq
name_quick tw14821650378409806113 for PySem.W.segRun by Mine.cq_eq
name_quick tw5152784196030571298 for PySem.W.segRun by Mine.cq_eq
name_quick tw12472836147817038354 for PySem.W.segRun by Mine.cq_eq
name_quick tw3758773823038459598 for PySem.W.segRun by Mine.cq_eq
name_quick tw14210447440969649564 for PySem.W.segRun by Mine.cq_eq
name_quick tw4172830789200971933 for PySem.W.segRun by Mine.cq_eq
name_quick tw912392155897948271 for PySem.W.segRun by Mine.cq_eq
name_quick tw18188234029961486008 for PySem.W.segRun by Mine.cq_eq
name_quick tw8058433561772132124 for PySem.W.segRun by Mine.cq_eq
name_quick tw5127043949985792152 for PySem.W.segRun by Mine.cq_eq
name_quick tw4430655021044022179 for PySem.W.segRun by Mine.cq_eq
name_quick tw1401972060568974870 for PySem.W.segRun by Mine.cq_eq
name_quick tw11861152243698038893 for PySem.W.segRun by Mine.cq_eq
name_quick tw16176465441171805009 for PySem.W.segRun by Mine.cq_eq
name_quick tw3282434896037501709 for PySem.W.segRun by Mine.cq_eq
name_quick tw6817277305950994716 for PySem.W.segRun by Mine.cq_eq
name_quick tw2951486255847992690 for PySem.W.segRun by Mine.cq_eq
name_quick tw1291980286583624508 for PySem.W.segRun by Mine.cq_eq
name_quick tw11994158751524154303 for PySem.W.segRun by Mine.cq_eq
name_quick tw7483462131439158144 for PySem.W.segRun by Mine.cq_eq
name_quick tw10939839348159177617 for PySem.W.segRun by Mine.cq_eq
name_quick tw17804436615005485693 for PySem.W.segRun by Mine.cq_eq
name_quick tw6662432510661729299 for PySem.W.segRun by Mine.cq_eq
name_quick tw7469732015759309437 for PySem.W.segRun by Mine.cq_eq
name_quick tw10029231156530900338 for PySem.W.segRun by Mine.cq_eq
name_quick tw10706342367453228570 for PySem.W.segRun by Mine.cq_eq
name_quick tw2599325451414397859 for PySem.W.segRun by Mine.cq_eq
name_quick tw8552093678088426289 for PySem.W.segRun by Mine.cq_eq
name_quick tw13776390136698705113 for PySem.W.segRun by Mine.cq_eq
name_quick tw12170303376835216750 for PySem.W.segRun by Mine.cq_eq
name_quick tw15157221202141545114 for PySem.W.segRun by Mine.cq_eq
name_quick tw1257650718994608863 for PySem.W.segRun by Mine.cq_eq
name_quick tw13512673800721320934 for PySem.W.segRun by Mine.cq_eq
name_quick tw4580202747914273547 for PySem.W.segRun by Mine.cq_eq
name_quick tw14159497744377131790 for PySem.W.segRun by Mine.cq_eq
name_quick tw16593013826814733010 for PySem.W.segRun by Mine.cq_eq
name_quick tw5340098380656576893 for PySem.W.segRun by Mine.cq_eq
name_quick tw4552823106982906706 for PySem.W.segRun by Mine.cq_eq
name_quick tw4600395469775339435 for PySem.W.segRun by Mine.cq_eq
name_quick tw2614552105083212210 for PySem.W.segRun by Mine.cq_eq
name_quick tw17238727255148662236 for PySem.W.segRun by Mine.cq_eq
name_quick tw460243522976405022 for PySem.W.segRun by Mine.cq_eq
name_quick tw15224661121926592747 for PySem.W.segRun by Mine.cq_eq
name_quick tw10422997342228622526 for PySem.W.segRun by Mine.cq_eq
name_quick tw3395616883899927064 for PySem.W.segRun by Mine.cq_eq
name_quick tw6224646082405213132 for PySem.W.segRun by Mine.cq_eq
name_quick tw17955133630450735404 for PySem.W.segRun by Mine.cq_eq
name_quick tw3560238982266916124 for PySem.W.segRun by Mine.cq_eq
name_quick tw2305325121136568689 for PySem.W.segRun by Mine.cq_eq
name_quick tw17100903815162463580 for PySem.W.segRun by Mine.cq_eq
name_quick tw1068659041996821342 for PySem.W.segRun by Mine.cq_eq
name_quick tw18056578402003937789 for PySem.W.segRun by Mine.cq_eq
name_quick tw17827458813498177553 for PySem.W.segRun by Mine.cq_eq
name_quick tw3365093317950918147 for PySem.W.segRun by Mine.cq_eq
name_quick tw12832477231654346042 for PySem.W.segRun by Mine.cq_eq
name_quick tw13925586954763233925 for PySem.W.segRun by Mine.cq_eq
name_quick tw13294325848734340343 for PySem.W.segRun by Mine.cq_eq
name_quick tw10138199336372458610 for PySem.W.segRun by Mine.cq_eq
name_quick tw1278341880987251545 for PySem.W.segRun by Mine.cq_eq
name_quick tw5736407798762289528 for PySem.W.segRun by Mine.cq_eq
name_quick tw1829445100760108279 for PySem.W.segRun by Mine.cq_eq
name_quick tw13145125596335152023 for PySem.W.segRun by Mine.cq_eq
name_quick tw16998109343291152856 for PySem.W.segRun by Mine.cq_eq
name_quick tw14553827428707814869 for PySem.W.segRun by Mine.cq_eq
name_quick tw5862295025349918931 for PySem.W.segRun by Mine.cq_eq
name_quick tw1419416864934026935 for PySem.W.segRun by Mine.cq_eq
name_quick tw11863081143760314161 for PySem.W.segRun by Mine.cq_eq
name_quick tw4775785305629353868 for PySem.W.segRun by Mine.cq_eq
name_quick tw6841013123486265825 for PySem.W.segRun by Mine.cq_eq
name_quick tw884248653220910886 for PySem.W.segRun by Mine.cq_eq
name_quick tw5268983451555188008 for PySem.W.segRun by Mine.cq_eq
name_quick tw6614585292965373069 for PySem.W.segRun by Mine.cq_eq
name_quick tw937105155873367277 for PySem.W.segRun by Mine.cq_eq
name_quick tw2354101950205528012 for PySem.W.segRun by Mine.cq_eq
name_quick tw10323968676351773119 for PySem.W.segRun by Mine.cq_eq
name_quick tw13180171748994924942 for PySem.W.segRun by Mine.cq_eq
name_quick tw2081907255765424308 for PySem.W.segRun by Mine.cq_eq
name_quick tw11786184479649081736 for PySem.W.segRun by Mine.cq_eq
name_quick tw11788150170368784547 for PySem.W.segRun by Mine.cq_eq
name_quick tw7112787868492120936 for PySem.W.segRun by Mine.cq_eq
name_quick tw10308316962582663543 for PySem.W.segRun by Mine.cq_eq
name_quick tw9413167413068371254 for PySem.W.segRun by Mine.cq_eq
name_quick tw1620339239838986703 for PySem.W.segRun by Mine.cq_eq
name_quick tw8686407601681055034 for PySem.W.segRun by Mine.cq_eq
name_quick tw10058976618658966374 for PySem.W.segRun by Mine.cq_eq
name_quick tw17626262904599113365 for PySem.W.segRun by Mine.cq_eq
name_quick tw13549102714576105579 for PySem.W.segRun by Mine.cq_eq
name_quick tw3315324234476444515 for PySem.W.segRun by Mine.cq_eq
name_quick tw16350708796919097252 for PySem.W.segRun by Mine.cq_eq
name_quick tw7155543432591195943 for PySem.W.segRun by Mine.cq_eq
name_quick tw4090926877573551719 for PySem.W.segRun by Mine.cq_eq
name_quick tw5976474108018559520 for PySem.W.segRun by Mine.cq_eq
name_quick tw16374537267813192141 for PySem.W.segRun by Mine.cq_eq
name_quick tw11853533878840232495 for PySem.W.segRun by Mine.cq_eq
name_quick tw17045043414572947948 for PySem.W.segRun by Mine.cq_eq
name_quick tw13775618736486673144 for PySem.W.segRun by Mine.cq_eq
name_quick tw14588557730865908194 for PySem.W.segRun by Mine.cq_eq
name_quick tw6004533443673955352 for PySem.W.segRun by Mine.cq_eq
name_quick tw11543585074618765 for PySem.W.segRun by Mine.cq_eq
name_quick tw11420187438672877268 for PySem.W.segRun by Mine.cq_eq
name_quick tw11543547407058413889 for PySem.W.segRun by Mine.cq_eq
name_quick tw10455430044892516648 for PySem.W.segRun by Mine.cq_eq
name_quick tw7670514497116975361 for PySem.W.segRun by Mine.cq_eq
name_quick tw13690843758732723530 for PySem.W.segRun by Mine.cq_eq
name_quick tw15742981410569661332 for PySem.W.segRun by Mine.cq_eq
name_quick tw14108194823987119177 for PySem.W.segRun by Mine.cq_eq
name_quick tw10006666124156027396 for PySem.W.segRun by Mine.cq_eq
name_quick tw13749758060653150092 for PySem.W.segRun by Mine.cq_eq
name_quick tw10320149354908582346 for PySem.W.segRun by Mine.cq_eq
name_quick tw7504490480230193789 for PySem.W.segRun by Mine.cq_eq
name_quick tw7250012664060256230 for PySem.W.segRun by Mine.cq_eq
name_quick tw1414301608579184545 for PySem.W.segRun by Mine.cq_eq
name_quick tw151948405760981731 for PySem.W.segRun by Mine.cq_eq
name_quick tw14380340866092297550 for PySem.W.segRun by Mine.cq_eq
name_quick tw14326252917377295143 for PySem.W.segRun by Mine.cq_eq
name_quick tw10010936943081839664 for PySem.W.segRun by Mine.cq_eq
name_quick tw14223099787259518943 for PySem.W.segRun by Mine.cq_eq
name_quick tw12233582284571471492 for PySem.W.segRun by Mine.cq_eq
name_quick tw4507309187265873474 for PySem.W.segRun by Mine.cq_eq
name_quick tw17060125343902188718 for PySem.W.segRun by Mine.cq_eq
name_quick tw2177526886768309524 for PySem.W.segRun by Mine.cq_eq
name_quick tw5902227825499142635 for PySem.W.segRun by Mine.cq_eq
name_quick tw14168537005229113720 for PySem.W.segRun by Mine.cq_eq
name_quick tw13713240298558999876 for PySem.W.segRun by Mine.cq_eq
name_quick tw6245536207120538393 for PySem.W.segRun by Mine.cq_eq
name_quick tw4665496328224945229 for PySem.W.segRun by Mine.cq_eq
name_quick tw13404028037160507757 for PySem.W.segRun by Mine.cq_eq
name_quick tw1269743608478119537 for PySem.W.segRun by Mine.cq_eq
name_quick tw5415697137353194442 for PySem.W.segRun by Mine.cq_eq
name_quick tw13142473509193869113 for PySem.W.segRun by Mine.cq_eq
name_quick tw14615009949319019899 for PySem.W.segRun by Mine.cq_eq
name_quick tw11790162104776037713 for PySem.W.segRun by Mine.cq_eq
name_quick tw5310036984924271277 for PySem.W.segRun by Mine.cq_eq
name_quick tw6059929106960060952 for PySem.W.segRun by Mine.cq_eq
name_quick tw1374548495586556601 for PySem.W.segRun by Mine.cq_eq
name_quick tw470574548607681690 for PySem.W.segRun by Mine.cq_eq
name_quick tw4980102563643897964 for PySem.W.segRun by Mine.cq_eq
name_quick tw4679858250743294509 for PySem.W.segRun by Mine.cq_eq
name_quick tw14311459727803291754 for PySem.W.segRun by Mine.cq_eq
name_quick tw13262538273218963204 for PySem.W.segRun by Mine.cq_eq
name_quick tw15576483152104568565 for PySem.W.segRun by Mine.cq_eq
name_quick tw7275051467321613617 for PySem.W.segRun by Mine.cq_eq
name_quick tw3545756843259802059 for PySem.W.segRun by Mine.cq_eq
name_quick tw9917628215930124269 for PySem.W.segRun by Mine.cq_eq
name_quick tw17552769576498331613 for PySem.W.segRun by Mine.cq_eq
name_quick tw16873187988247708562 for PySem.W.segRun by Mine.cq_eq
name_quick tw757081541053455785 for PySem.W.segRun by Mine.cq_eq
name_quick tw14874922208557711187 for PySem.W.segRun by Mine.cq_eq
name_quick tw489095991917526796 for PySem.W.segRun by Mine.cq_eq
name_quick tw1886563365779066154 for PySem.W.segRun by Mine.cq_eq
name_quick tw17728961539438068574 for PySem.W.segRun by Mine.cq_eq
name_quick tw6363645014702824404 for PySem.W.segRun by Mine.cq_eq
name_quick tw12989987162080215863 for PySem.W.segRun by Mine.cq_eq
name_quick tw9626621113073979434 for PySem.W.segRun by Mine.cq_eq
name_quick tw716658179208862652 for PySem.W.segRun by Mine.cq_eq
name_quick tw8017206721242287953 for PySem.W.segRun by Mine.cq_eq
name_quick tw6357409834272390260 for PySem.W.segRun by Mine.cq_eq
name_quick tw2370425770031549630 for PySem.W.segRun by Mine.cq_eq
name_quick tw17001327861769816259 for PySem.W.segRun by Mine.cq_eq
name_quick tw13002492023102617099 for PySem.W.segRun by Mine.cq_eq
name_quick tw12945968074294007009 for PySem.W.segRun by Mine.cq_eq
name_quick tw18163462532019968843 for PySem.W.segRun by Mine.cq_eq
name_quick tw9868982950595657695 for PySem.W.segRun by Mine.cq_eq
name_quick tw17497748084772794779 for PySem.W.segRun by Mine.cq_eq
name_quick tw1377046205977697930 for PySem.W.segRun by Mine.cq_eq
name_quick tw14097648870716263351 for PySem.W.segRun by Mine.cq_eq
name_quick tw3736136724727406031 for PySem.W.segRun by Mine.cq_eq
name_quick tw8693227569615203950 for PySem.W.segRun by Mine.cq_eq
name_quick tw14174611291570781762 for PySem.W.segRun by Mine.cq_eq
name_quick tw15112985482279097393 for PySem.W.segRun by Mine.cq_eq
name_quick tw12866136484021002089 for PySem.W.segRun by Mine.cq_eq
name_quick tw17138261911001417010 for PySem.W.segRun by Mine.cq_eq
name_quick tw17943406268862710625 for PySem.W.segRun by Mine.cq_eq
name_quick tw18273839248471157720 for PySem.W.segRun by Mine.cq_eq
name_quick tw5923252988546675246 for PySem.W.segRun by Mine.cq_eq
name_quick tw11452132507678324671 for PySem.W.segRun by Mine.cq_eq
name_quick tw503676674663206642 for PySem.W.segRun by Mine.cq_eq
name_quick tw505943868828395459 for PySem.W.segRun by Mine.cq_eq
name_quick tw14884601019740666482 for PySem.W.segRun by Mine.cq_eq
name_quick tw5529568453561195837 for PySem.W.segRun by Mine.cq_eq
name_quick tw17554001833073541016 for PySem.W.segRun by Mine.cq_eq
name_quick tw17964007177503468958 for PySem.W.segRun by Mine.cq_eq
name_quick tw900395245841561262 for PySem.W.segRun by Mine.cq_eq
name_quick tw3766158894648301139 for PySem.W.segRun by Mine.cq_eq
name_quick tw17230556039016184743 for PySem.W.segRun by Mine.cq_eq
name_quick tw5925582254088234700 for PySem.W.segRun by Mine.cq_eq
name_quick tw4858009861420398278 for PySem.W.segRun by Mine.cq_eq
name_quick tw282004115355043989 for PySem.W.segRun by Mine.cq_eq
name_quick tw16414604833108395602 for PySem.W.segRun by Mine.cq_eq
name_quick tw16531745337717519161 for PySem.W.segRun by Mine.cq_eq
name_quick tw6589095468515690095 for PySem.W.segRun by Mine.cq_eq
name_quick tw2165606593764840688 for PySem.W.segRun by Mine.cq_eq
name_quick tw686183698351167624 for PySem.W.segRun by Mine.cq_eq
name_quick tw9131251417149488404 for PySem.W.segRun by Mine.cq_eq
name_quick tw16494616584097029746 for PySem.W.segRun by Mine.cq_eq
name_quick tw2504501939568898240 for PySem.W.segRun by Mine.cq_eq
name_quick tw10040787053062605231 for PySem.W.segRun by Mine.cq_eq
name_quick tw17954736447514056666 for PySem.W.segRun by Mine.cq_eq
name_quick tw6990963922061375149 for PySem.W.segRun by Mine.cq_eq
name_quick tw11306939235166856333 for PySem.W.segRun by Mine.cq_eq
name_quick tw2283851925072248500 for PySem.W.segRun by Mine.cq_eq
name_quick tw1107438419126420414 for PySem.W.segRun by Mine.cq_eq
name_quick tw17532718790514356516 for PySem.W.segRun by Mine.cq_eq
name_quick tw9951705424602377420 for PySem.W.segRun by Mine.cq_eq
name_quick tw17846936440860909165 for PySem.W.segRun by Mine.cq_eq
name_quick tw17765544955259793912 for PySem.W.segRun by Mine.cq_eq
name_quick tw721709456127091705 for PySem.W.segRun by Mine.cq_eq
name_quick tw2905824091091238844 for PySem.W.segRun by Mine.cq_eq
name_quick tw11277413387252134812 for PySem.W.segRun by Mine.cq_eq
name_quick tw16127339712140622707 for PySem.W.segRun by Mine.cq_eq
name_quick tw17352973434858128600 for PySem.W.segRun by Mine.cq_eq
name_quick tw12329403913580668285 for PySem.W.segRun by Mine.cq_eq
name_quick tw13329733208086693882 for PySem.W.segRun by Mine.cq_eq
name_quick tw10460931487171540145 for PySem.W.segRun by Mine.cq_eq
name_quick tw17730428716208468724 for PySem.W.segRun by Mine.cq_eq
name_quick tw11707433790658880453 for PySem.W.segRun by Mine.cq_eq
name_quick tw2571919107429820419 for PySem.W.segRun by Mine.cq_eq
name_quick tw9794667896261083176 for PySem.W.segRun by Mine.cq_eq
name_quick tw14896874001708588922 for PySem.W.segRun by Mine.cq_eq
name_quick tw2081053591005667728 for PySem.W.segRun by Mine.cq_eq
name_quick tw14981143343336467331 for PySem.W.segRun by Mine.cq_eq
name_quick tw17679261114430710190 for PySem.W.segRun by Mine.cq_eq
name_quick tw1055568401681811165 for PySem.W.segRun by Mine.cq_eq
name_quick tw10015664371746657536 for PySem.W.segRun by Mine.cq_eq
name_quick tw1204117194425446250 for PySem.W.segRun by Mine.cq_eq
name_quick tw9673203406766833760 for PySem.W.segRun by Mine.cq_eq
name_quick tw15039117976438264115 for PySem.W.segRun by Mine.cq_eq
name_quick tw17774800907425398282 for PySem.W.segRun by Mine.cq_eq
name_quick tw9575948337506731703 for PySem.W.segRun by Mine.cq_eq
name_quick tw17020146562604978829 for PySem.W.segRun by Mine.cq_eq
name_quick tw2922074901204462755 for PySem.W.segRun by Mine.cq_eq
name_quick tw3433653886696886423 for PySem.W.segRun by Mine.cq_eq
name_quick tw3424931102881643321 for PySem.W.segRun by Mine.cq_eq
name_quick tw6888100737891179579 for PySem.W.segRun by Mine.cq_eq
name_quick tw2422670821966735624 for PySem.W.segRun by Mine.cq_eq
name_quick tw288087438632003012 for PySem.W.segRun by Mine.cq_eq
name_quick tw8732485361984058174 for PySem.W.segRun by Mine.cq_eq
name_quick tw1085346719588807367 for PySem.W.segRun by Mine.cq_eq
name_quick tw3093977132361051618 for PySem.W.segRun by Mine.cq_eq
name_quick tw15919542637913265678 for PySem.W.segRun by Mine.cq_eq
name_quick tw9396933662098498411 for PySem.W.segRun by Mine.cq_eq
name_quick tw5144633987255907666 for PySem.W.segRun by Mine.cq_eq
name_quick tw9674257727999782656 for PySem.W.segRun by Mine.cq_eq
name_quick tw17071476683966804577 for PySem.W.segRun by Mine.cq_eq
name_quick tw14305139224198610471 for PySem.W.segRun by Mine.cq_eq
name_quick tw10727534119236929211 for PySem.W.segRun by Mine.cq_eq
name_quick tw15215539614974913122 for PySem.W.segRun by Mine.cq_eq
name_quick tw16758808235637498351 for PySem.W.segRun by Mine.cq_eq
name_quick tw3460871413274159568 for PySem.W.segRun by Mine.cq_eq
name_quick tw4613930686462287906 for PySem.W.segRun by Mine.cq_eq
name_quick tw12540713548012372134 for PySem.W.segRun by Mine.cq_eq
name_quick tw4879560196417449868 for PySem.W.segRun by Mine.cq_eq
name_quick tw7950560144509940271 for PySem.W.segRun by Mine.cq_eq
name_quick tw12268644228514654432 for PySem.W.segRun by Mine.cq_eq
name_quick tw12359285113459375979 for PySem.W.segRun by Mine.cq_eq
name_quick tw13471316229770301743 for PySem.W.segRun by Mine.cq_eq
name_quick tw16792545251062261874 for PySem.W.segRun by Mine.cq_eq
name_quick tw13169248704851481478 for PySem.W.segRun by Mine.cq_eq
name_quick tw7650934615059315214 for PySem.W.segRun by Mine.cq_eq
name_quick tw14126943448341045398 for PySem.W.segRun by Mine.cq_eq
name_quick tw15247426752500302083 for PySem.W.segRun by Mine.cq_eq
name_quick tw1468114885665857710 for PySem.W.segRun by Mine.cq_eq
name_quick tw2958062672499776758 for PySem.W.segRun by Mine.cq_eq
name_quick tw14971970265804392439 for PySem.W.segRun by Mine.cq_eq
name_quick tw2088544591296533915 for PySem.W.segRun by Mine.cq_eq
name_quick tw8509908385975216990 for PySem.W.segRun by Mine.cq_eq
name_quick tw17429684086410527887 for PySem.W.segRun by Mine.cq_eq
name_quick tw16752143609539240740 for PySem.W.segRun by Mine.cq_eq
name_quick tw2660918139993853925 for PySem.W.segRun by Mine.cq_eq
name_quick tw7582166717755450365 for PySem.W.segRun by Mine.cq_eq
name_quick tw3308210559937237381 for PySem.W.segRun by Mine.cq_eq
name_quick tw12679591844961189642 for PySem.W.segRun by Mine.cq_eq
name_quick tw16835247145936305501 for PySem.W.segRun by Mine.cq_eq
name_quick tw6636956529411117187 for PySem.W.segRun by Mine.cq_eq
name_quick tw10598567329377039032 for PySem.W.segRun by Mine.cq_eq
name_quick tw7387991725200618308 for PySem.W.segRun by Mine.cq_eq
name_quick tw7782445914667556100 for PySem.W.segRun by Mine.cq_eq
name_quick tw882838713213173450 for PySem.W.segRun by Mine.cq_eq
name_quick tw13783648951372772217 for PySem.W.segRun by Mine.cq_eq
name_quick tw14844032806303022069 for PySem.W.segRun by Mine.cq_eq
name_quick tw5881240552750758400 for PySem.W.segRun by Mine.cq_eq
name_quick tw11334522289143818824 for PySem.W.segRun by Mine.cq_eq
name_quick tw7538125934224741611 for PySem.W.segRun by Mine.cq_eq
name_quick tw13451486832001684981 for PySem.W.segRun by Mine.cq_eq
name_quick tw5299483063635442899 for PySem.W.segRun by Mine.cq_eq
name_quick tw3353693220867276294 for PySem.W.segRun by Mine.cq_eq
name_quick tw7074542288925894100 for PySem.W.segRun by Mine.cq_eq
name_quick tw2708163388286742659 for PySem.W.segRun by Mine.cq_eq
name_quick tw16751196440357475278 for PySem.W.segRun by Mine.cq_eq
name_quick tw7295312623806419368 for PySem.W.segRun by Mine.cq_eq
name_quick tw610167625130883901 for PySem.W.segRun by Mine.cq_eq
name_quick tw1059901042614829057 for PySem.W.segRun by Mine.cq_eq
name_quick tw15953636156762407896 for PySem.W.segRun by Mine.cq_eq
name_quick tw1971209045111089449 for PySem.W.segRun by Mine.cq_eq
name_quick tw3398876845080916796 for PySem.W.segRun by Mine.cq_eq
name_quick tw682011567655089306 for PySem.W.segRun by Mine.cq_eq
name_quick tw4504083675297759592 for PySem.W.segRun by Mine.cq_eq
name_quick tw3891137856419664920 for PySem.W.segRun by Mine.cq_eq
name_quick tw16309933130070103497 for PySem.W.segRun by Mine.cq_eq
name_quick tw6448080314894763839 for PySem.W.segRun by Mine.cq_eq
name_quick tw4091194055036891139 for PySem.W.segRun by Mine.cq_eq
name_quick tw10508251915553800215 for PySem.W.segRun by Mine.cq_eq
name_quick tw1041845030581493396 for PySem.W.segRun by Mine.cq_eq
name_quick tw3972328310683599613 for PySem.W.segRun by Mine.cq_eq
name_quick tw43969757491396457 for PySem.W.segRun by Mine.cq_eq
name_quick tw9136488742655976645 for PySem.W.segRun by Mine.cq_eq
name_quick tw6929956602132211858 for PySem.W.segRun by Mine.cq_eq
name_quick tw4706425542698204933 for PySem.W.segRun by Mine.cq_eq
name_quick tw10205541121877940668 for PySem.W.segRun by Mine.cq_eq
name_quick tw10299114407867686024 for PySem.W.segRun by Mine.cq_eq
name_quick tw3976722010076183465 for PySem.W.segRun by Mine.cq_eq
name_quick tw4319416812082413722 for PySem.W.segRun by Mine.cq_eq
name_quick tw932993149863042379 for PySem.W.segRun by Mine.cq_eq
name_quick tw1460277438893781036 for PySem.W.segRun by Mine.cq_eq
name_quick tw6122645084068987007 for PySem.W.segRun by Mine.cq_eq
name_quick tw4558998842232669794 for PySem.W.segRun by Mine.cq_eq
name_quick tw4318056027017086478 for PySem.W.segRun by Mine.cq_eq
name_quick tw17537794083376710389 for PySem.W.segRun by Mine.cq_eq
name_quick tw18260038339965228139 for PySem.W.segRun by Mine.cq_eq
name_quick tw931183843429516998 for PySem.W.segRun by Mine.cq_eq
name_quick tw18211773271919218964 for PySem.W.segRun by Mine.cq_eq
name_quick tw15980859228951719591 for PySem.W.segRun by Mine.cq_eq
name_quick tw10353204498128435838 for PySem.W.segRun by Mine.cq_eq
name_quick tw16904869804480856166 for PySem.W.segRun by Mine.cq_eq
name_quick tw7191607858210974391 for PySem.W.segRun by Mine.cq_eq
name_quick tw16437185098154296904 for PySem.W.segRun by Mine.cq_eq
name_quick tw5082074563857973206 for PySem.W.segRun by Mine.cq_eq
name_quick tw17919728810627054236 for PySem.W.segRun by Mine.cq_eq
name_quick tw8588708647495961459 for PySem.W.segRun by Mine.cq_eq
name_quick tw3324361733244956215 for PySem.W.segRun by Mine.cq_eq
name_quick tw494703546511474797 for PySem.W.segRun by Mine.cq_eq
name_quick tw6213697211615256494 for PySem.W.segRun by Mine.cq_eq
name_quick tw12809422525583811893 for PySem.W.segRun by Mine.cq_eq
name_quick tw5720267713326709755 for PySem.W.segRun by Mine.cq_eq
name_quick tw1189118826323900759 for PySem.W.segRun by Mine.cq_eq
name_quick tw17434858337260393937 for PySem.W.segRun by Mine.cq_eq
name_quick tw10190238754879171395 for PySem.W.segRun by Mine.cq_eq
name_quick tw10719484529398299949 for PySem.W.segRun by Mine.cq_eq
name_quick tw3355348695024010778 for PySem.W.segRun by Mine.cq_eq
name_quick tw5698774287046732500 for PySem.W.segRun by Mine.cq_eq
name_quick tw7788680626742099145 for PySem.W.segRun by Mine.cq_eq
name_quick tw3264259588550801142 for PySem.W.segRun by Mine.cq_eq
name_quick tw12985358249318526461 for PySem.W.segRun by Mine.cq_eq
name_quick tw4800724452203346748 for PySem.W.segRun by Mine.cq_eq
name_quick tw13900631225919944168 for PySem.W.segRun by Mine.cq_eq
name_quick tw11740888236361828772 for PySem.W.segRun by Mine.cq_eq
name_quick tw18340240734955500558 for PySem.W.segRun by Mine.cq_eq
name_quick tw10823345740709935493 for PySem.W.segRun by Mine.cq_eq
name_quick tw9800571698397750058 for PySem.W.segRun by Mine.cq_eq
name_quick tw16241297035194851746 for PySem.W.segRun by Mine.cq_eq
name_quick tw8655608701868116991 for PySem.W.segRun by Mine.cq_eq
name_quick tw18286751721135489701 for PySem.W.segRun by Mine.cq_eq
name_quick tw8229062606249627158 for PySem.W.segRun by Mine.cq_eq
name_quick tw8251002228616720499 for PySem.W.segRun by Mine.cq_eq
name_quick tw10672234772466254251 for PySem.W.segRun by Mine.cq_eq
name_quick tw7813595514833214533 for PySem.W.segRun by Mine.cq_eq
name_quick tw4901617435021342793 for PySem.W.segRun by Mine.cq_eq
name_quick tw17695988578738506429 for PySem.W.segRun by Mine.cq_eq
name_quick tw12224272158712414510 for PySem.W.segRun by Mine.cq_eq
name_quick tw17848772402925894760 for PySem.W.segRun by Mine.cq_eq
name_quick tw15490439104401381959 for PySem.W.segRun by Mine.cq_eq
name_quick tw1258299570235058372 for PySem.W.segRun by Mine.cq_eq
name_quick tw6654550962395885724 for PySem.W.segRun by Mine.cq_eq
name_quick tw9235277983596991582 for PySem.W.segRun by Mine.cq_eq
name_quick tw6076076219008924368 for PySem.W.segRun by Mine.cq_eq
name_quick tw16180582048198870337 for PySem.W.segRun by Mine.cq_eq
name_quick tw1218959903707654005 for PySem.W.segRun by Mine.cq_eq
name_quick tw8451552260295177759 for PySem.W.segRun by Mine.cq_eq
name_quick tw14942985259670156941 for PySem.W.segRun by Mine.cq_eq
name_quick tw4966893808263662355 for PySem.W.segRun by Mine.cq_eq
name_quick tw7853834085085047284 for PySem.W.segRun by Mine.cq_eq
name_quick tw7808205228206232076 for PySem.W.segRun by Mine.cq_eq
name_quick tw8727135674562949291 for PySem.W.segRun by Mine.cq_eq
name_quick tw17279654841073493023 for PySem.W.segRun by Mine.cq_eq
name_quick tw7057405563618977329 for PySem.W.segRun by Mine.cq_eq
name_quick tw3619232141914619222 for PySem.W.segRun by Mine.cq_eq
name_quick tw11333186260410459676 for PySem.W.segRun by Mine.cq_eq
name_quick tw15598799602833418400 for PySem.W.segRun by Mine.cq_eq
name_quick tw10996506086634736982 for PySem.W.segRun by Mine.cq_eq
name_quick tw558745408833754511 for PySem.W.segRun by Mine.cq_eq
name_quick tw117213463901210413 for PySem.W.segRun by Mine.cq_eq
name_quick tw16548257151911338427 for PySem.W.segRun by Mine.cq_eq
name_quick tw8385612375773290118 for PySem.W.segRun by Mine.cq_eq
name_quick tw9041768174481992944 for PySem.W.segRun by Mine.cq_eq
name_quick tw1735007293439650466 for PySem.W.segRun by Mine.cq_eq
name_quick tw8047484207015712433 for PySem.W.segRun by Mine.cq_eq
name_quick tw8959964123841196786 for PySem.W.segRun by Mine.cq_eq
name_quick tw7299303143086499733 for PySem.W.segRun by Mine.cq_eq
name_quick tw16349804527192203551 for PySem.W.segRun by Mine.cq_eq
name_quick tw16741492637210864865 for PySem.W.segRun by Mine.cq_eq
name_quick tw1184552218554016812 for PySem.W.segRun by Mine.cq_eq
name_quick tw7140130562030077042 for PySem.W.segRun by Mine.cq_eq
name_quick tw2078703811421203504 for PySem.W.segRun by Mine.cq_eq
name_quick tw17274371674624000324 for PySem.W.segRun by Mine.cq_eq
name_quick tw4966674849315620570 for PySem.W.segRun by Mine.cq_eq
name_quick tw17000155066101142889 for PySem.W.segRun by Mine.cq_eq
name_quick tw10092856319447448734 for PySem.W.segRun by Mine.cq_eq
name_quick tw14580368152464143365 for PySem.W.segRun by Mine.cq_eq
name_quick tw136631920214876835 for PySem.W.segRun by Mine.cq_eq
name_quick tw17000458434675057986 for PySem.W.segRun by Mine.cq_eq
name_quick tw12994954067883948608 for PySem.W.segRun by Mine.cq_eq
name_quick tw9999058972086379095 for PySem.W.segRun by Mine.cq_eq
name_quick tw10755730847627044085 for PySem.W.segRun by Mine.cq_eq
name_quick tw16458521907211103643 for PySem.W.segRun by Mine.cq_eq
name_quick tw12913785700363492387 for PySem.W.segRun by Mine.cq_eq
name_quick tw11313170107247368264 for PySem.W.segRun by Mine.cq_eq
name_quick tw18036702205230433160 for PySem.W.segRun by Mine.cq_eq
name_quick tw10964334890339321822 for PySem.W.segRun by Mine.cq_eq
name_quick tw3783086151370532256 for PySem.W.segRun by Mine.cq_eq
name_quick tw9082586571710850966 for PySem.W.segRun by Mine.cq_eq
name_quick tw9501820088010722379 for PySem.W.segRun by Mine.cq_eq
name_quick tw12143486254990352099 for PySem.W.segRun by Mine.cq_eq
name_quick tw16947794391021106201 for PySem.W.segRun by Mine.cq_eq
name_quick tw13335737130258781183 for PySem.W.segRun by Mine.cq_eq
name_quick tw219737044198020058 for PySem.W.segRun by Mine.cq_eq
name_quick tw9281714027785469542 for PySem.W.segRun by Mine.cq_eq
name_quick tw8610040677353227653 for PySem.W.segRun by Mine.cq_eq
name_quick tw14460367522058181017 for PySem.W.segRun by Mine.cq_eq
name_quick tw5770868932273138760 for PySem.W.segRun by Mine.cq_eq
name_quick tw16737559591592110954 for PySem.W.segRun by Mine.cq_eq
name_quick tw1343220272319300887 for PySem.W.segRun by Mine.cq_eq
name_quick tw4287028408620065468 for PySem.W.segRun by Mine.cq_eq
name_quick tw5706481520468235054 for PySem.W.segRun by Mine.cq_eq
name_quick tw7585139358526817783 for PySem.W.segRun by Mine.cq_eq
name_quick tw6711915476519705758 for PySem.W.segRun by Mine.cq_eq
name_quick tw1763209079605825380 for PySem.W.segRun by Mine.cq_eq
name_quick tw15562837088269578035 for PySem.W.segRun by Mine.cq_eq
name_quick tw2118141222776746865 for PySem.W.segRun by Mine.cq_eq
name_quick tw16243683426749602078 for PySem.W.segRun by Mine.cq_eq
name_quick tw1962928258387122110 for PySem.W.segRun by Mine.cq_eq
name_quick tw13559156169165276386 for PySem.W.segRun by Mine.cq_eq
name_quick tw12835720964997663042 for PySem.W.segRun by Mine.cq_eq
name_quick tw1355338860687761863 for PySem.W.segRun by Mine.cq_eq
name_quick tw18287117734903463105 for PySem.W.segRun by Mine.cq_eq
name_quick tw18310272354389090212 for PySem.W.segRun by Mine.cq_eq
name_quick tw4075660801711882420 for PySem.W.segRun by Mine.cq_eq
name_quick tw12832791649633735192 for PySem.W.segRun by Mine.cq_eq
name_quick tw3735880847841164279 for PySem.W.segRun by Mine.cq_eq
name_quick tw9062771732600952553 for PySem.W.segRun by Mine.cq_eq
name_quick tw3386650904741475044 for PySem.W.segRun by Mine.cq_eq
name_quick tw11363912090873407280 for PySem.W.segRun by Mine.cq_eq
name_quick tw9537544019596298400 for PySem.W.segRun by Mine.cq_eq
name_quick tw4978915544186085027 for PySem.W.segRun by Mine.cq_eq
name_quick tw16241802466949684156 for PySem.W.segRun by Mine.cq_eq
name_quick tw4405960384096086239 for PySem.W.segRun by Mine.cq_eq
name_quick tw16712280214892120555 for PySem.W.segRun by Mine.cq_eq
name_quick tw11519604305632133818 for PySem.W.segRun by Mine.cq_eq
name_quick tw1156252341971683116 for PySem.W.segRun by Mine.cq_eq
name_quick tw12850107946570832962 for PySem.W.segRun by Mine.cq_eq
name_quick tw4319011637217762917 for PySem.W.segRun by Mine.cq_eq
name_quick tw17475289236778735526 for PySem.W.segRun by Mine.cq_eq
name_quick tw13316322371389871543 for PySem.W.segRun by Mine.cq_eq
name_quick tw18126140380344562322 for PySem.W.segRun by Mine.cq_eq
name_quick tw7892128664451923741 for PySem.W.segRun by Mine.cq_eq
name_quick tw13902233598862641821 for PySem.W.segRun by Mine.cq_eq
name_quick tw12513138341781932208 for PySem.W.segRun by Mine.cq_eq
name_quick tw3069475018656635626 for PySem.W.segRun by Mine.cq_eq
name_quick tw11641389924110848164 for PySem.W.segRun by Mine.cq_eq
name_quick tw17231944260260642093 for PySem.W.segRun by Mine.cq_eq
name_quick tw4904739604578439355 for PySem.W.segRun by Mine.cq_eq
name_quick tw4292500188555128830 for PySem.W.segRun by Mine.cq_eq
name_quick tw16979880578912567463 for PySem.W.segRun by Mine.cq_eq
name_quick tw1333364371103165705 for PySem.W.segRun by Mine.cq_eq
name_quick tw13236226663087606529 for PySem.W.segRun by Mine.cq_eq
name_quick tw4302124980754421698 for PySem.W.segRun by Mine.cq_eq
name_quick tw11518781747449614426 for PySem.W.segRun by Mine.cq_eq
name_quick tw14031254098957005024 for PySem.W.segRun by Mine.cq_eq
name_quick tw14427280190107063356 for PySem.W.segRun by Mine.cq_eq
name_quick tw8400853705098224536 for PySem.W.segRun by Mine.cq_eq
name_quick tw12526863579885937616 for PySem.W.segRun by Mine.cq_eq
name_quick tw11588390666370768167 for PySem.W.segRun by Mine.cq_eq
name_quick tw1379578315556383370 for PySem.W.segRun by Mine.cq_eq
name_quick tw15067931366933112725 for PySem.W.segRun by Mine.cq_eq
name_quick tw725871291056497461 for PySem.W.segRun by Mine.cq_eq
name_quick tw16413264400604254196 for PySem.W.segRun by Mine.cq_eq
name_quick tw4888971946704870899 for PySem.W.segRun by Mine.cq_eq
name_quick tw6179359751918216688 for PySem.W.segRun by Mine.cq_eq
name_quick tw6789855027759293466 for PySem.W.segRun by Mine.cq_eq
name_quick tw1495452243305574823 for PySem.W.segRun by Mine.cq_eq
name_quick tw10846213317406478298 for PySem.W.segRun by Mine.cq_eq
name_quick tw8283515000281207119 for PySem.W.segRun by Mine.cq_eq
name_quick tw12825359941727978080 for PySem.W.segRun by Mine.cq_eq
name_quick tw6519424955469430661 for PySem.W.segRun by Mine.cq_eq
name_quick tw9893030918988833448 for PySem.W.segRun by Mine.cq_eq
name_quick tw5994239182223829532 for PySem.W.segRun by Mine.cq_eq
name_quick tw1690735587144091376 for PySem.W.segRun by Mine.cq_eq
name_quick tw14186486079044719983 for PySem.W.segRun by Mine.cq_eq
name_quick tw12237943961548833269 for PySem.W.segRun by Mine.cq_eq
name_quick tw1702518465993881591 for PySem.W.segRun by Mine.cq_eq
name_quick tw5823794197072137003 for PySem.W.segRun by Mine.cq_eq
name_quick tw12767683915131110723 for PySem.W.segRun by Mine.cq_eq
name_quick tw11957962974430299695 for PySem.W.segRun by Mine.cq_eq
name_quick tw12182807814244774211 for PySem.W.segRun by Mine.cq_eq
name_quick tw2039238271031011813 for PySem.W.segRun by Mine.cq_eq
name_quick tw14433975572909055671 for PySem.W.segRun by Mine.cq_eq
name_quick tw667198328695590252 for PySem.W.segRun by Mine.cq_eq
name_quick tw12577023982554244617 for PySem.W.segRun by Mine.cq_eq
name_quick tw16326889199254633757 for PySem.W.segRun by Mine.cq_eq
name_quick tw7619357645376055252 for PySem.W.segRun by Mine.cq_eq
name_quick tw11882691865914478047 for PySem.W.segRun by Mine.cq_eq
name_quick tw4691851695120001716 for PySem.W.segRun by Mine.cq_eq
name_quick tw10730351240561388922 for PySem.W.segRun by Mine.cq_eq
name_quick tw7957090006295546105 for PySem.W.segRun by Mine.cq_eq
name_quick tw17503288770812694035 for PySem.W.segRun by Mine.cq_eq
name_quick tw4275521005467322725 for PySem.W.segRun by Mine.cq_eq
name_quick tw15663404670287596823 for PySem.W.segRun by Mine.cq_eq
name_quick tw1869930749605803152 for PySem.W.segRun by Mine.cq_eq
name_quick tw11495947367809530248 for PySem.W.segRun by Mine.cq_eq
name_quick tw15542503528162795033 for PySem.W.segRun by Mine.cq_eq
name_quick tw13951257522405164796 for PySem.W.segRun by Mine.cq_eq
name_quick tw8603108125212654177 for PySem.W.segRun by Mine.cq_eq
name_quick tw10216692956209284516 for PySem.W.segRun by Mine.cq_eq
name_quick tw12494133203773749484 for PySem.W.segRun by Mine.cq_eq
name_quick tw11171608375663816178 for PySem.W.segRun by Mine.cq_eq
name_quick tw6214688769961185500 for PySem.W.segRun by Mine.cq_eq
name_quick tw7783732958741208154 for PySem.W.segRun by Mine.cq_eq
name_quick tw11055029398406535253 for PySem.W.segRun by Mine.cq_eq
name_quick tw9151444980202551346 for PySem.W.segRun by Mine.cq_eq
name_quick tw1857294707202544078 for PySem.W.segRun by Mine.cq_eq
name_quick tw17768419659990539469 for PySem.W.segRun by Mine.cq_eq
name_quick tw3536357697601684980 for PySem.W.segRun by Mine.cq_eq
name_quick tw790365300219607850 for PySem.W.segRun by Mine.cq_eq
name_quick tw17803129079492736432 for PySem.W.segRun by Mine.cq_eq
name_quick tw15207642765257501584 for PySem.W.segRun by Mine.cq_eq
name_quick tw17300597898927385350 for PySem.W.segRun by Mine.cq_eq
name_quick tw313226197891681235 for PySem.W.segRun by Mine.cq_eq
name_quick tw8796240567053077481 for PySem.W.segRun by Mine.cq_eq
name_quick tw17517737089405305841 for PySem.W.segRun by Mine.cq_eq
name_quick tw13342524657329470049 for PySem.W.segRun by Mine.cq_eq
name_quick tw1157545019965518967 for PySem.W.segRun by Mine.cq_eq
name_quick tw12731603968600162155 for PySem.W.segRun by Mine.cq_eq
name_quick tw4352594626159697269 for PySem.W.segRun by Mine.cq_eq
name_quick tw11817470609975844035 for PySem.W.segRun by Mine.cq_eq
name_quick tw9736788993784561348 for PySem.W.segRun by Mine.cq_eq
name_quick tw7276740287692124622 for PySem.W.segRun by Mine.cq_eq
name_quick tw5555313912996828296 for PySem.W.segRun by Mine.cq_eq
name_quick tw8800560270773162519 for PySem.W.segRun by Mine.cq_eq
name_quick tw8450942572126056277 for PySem.W.segRun by Mine.cq_eq
name_quick tw17018449646109014956 for PySem.W.segRun by Mine.cq_eq
name_quick tw15199281503961881116 for PySem.W.segRun by Mine.cq_eq
name_quick tw1092655722715705105 for PySem.W.segRun by Mine.cq_eq
name_quick tw10650810973499830745 for PySem.W.segRun by Mine.cq_eq
name_quick tw9305466669911107070 for PySem.W.segRun by Mine.cq_eq
name_quick tw196644378293983589 for PySem.W.segRun by Mine.cq_eq
name_quick tw8704618095886561957 for PySem.W.segRun by Mine.cq_eq
name_quick tw15766043655864335149 for PySem.W.segRun by Mine.cq_eq
name_quick tw8881496252177385917 for PySem.W.segRun by Mine.cq_eq
name_quick tw16874561944515371726 for PySem.W.segRun by Mine.cq_eq
name_quick tw16439824349840649037 for PySem.W.segRun by Mine.cq_eq
name_quick tw15066959818950650227 for PySem.W.segRun by Mine.cq_eq
name_quick tw17139780236743587250 for PySem.W.segRun by Mine.cq_eq
name_quick tw16339471991904476338 for PySem.W.segRun by Mine.cq_eq
name_quick tw14224011070414065920 for PySem.W.segRun by Mine.cq_eq
name_quick tw17207840028585114417 for PySem.W.segRun by Mine.cq_eq
name_quick tw17280976486791472633 for PySem.W.segRun by Mine.cq_eq
name_quick tw14934708107589980039 for PySem.W.segRun by Mine.cq_eq
name_quick tw4187477659947935285 for PySem.W.segRun by Mine.cq_eq
name_quick tw14323765505736481980 for PySem.W.segRun by Mine.cq_eq
name_quick tw10045867985992453528 for PySem.W.segRun by Mine.cq_eq
name_quick tw6993175162768986339 for PySem.W.segRun by Mine.cq_eq
name_quick tw3152983702415266003 for PySem.W.segRun by Mine.cq_eq
name_quick tw5410153933605578482 for PySem.W.segRun by Mine.cq_eq
name_quick tw4319705520415482375 for PySem.W.segRun by Mine.cq_eq
name_quick tw6090905460779295987 for PySem.W.segRun by Mine.cq_eq
name_quick tw3633577522364906407 for PySem.W.segRun by Mine.cq_eq
name_quick tw8473563963867554017 for PySem.W.segRun by Mine.cq_eq
name_quick tw17295947923314359676 for PySem.W.segRun by Mine.cq_eq
name_quick tw11277716924127702174 for PySem.W.segRun by Mine.cq_eq
name_quick tw4525517667737911620 for PySem.W.segRun by Mine.cq_eq
name_quick tw16048576614497160029 for PySem.W.segRun by Mine.cq_eq
name_quick tw12807690338718825411 for PySem.W.segRun by Mine.cq_eq
name_quick tw16643706677886111943 for PySem.W.segRun by Mine.cq_eq
name_quick tw487364732245791922 for PySem.W.segRun by Mine.cq_eq
name_quick tw16817318245366136608 for PySem.W.segRun by Mine.cq_eq
name_quick tw14112274594779413971 for PySem.W.segRun by Mine.cq_eq
name_quick tw6944952908185719654 for PySem.W.segRun by Mine.cq_eq
name_quick tw8642067239939848140 for PySem.W.segRun by Mine.cq_eq
name_quick tw17993156020533580102 for PySem.W.segRun by Mine.cq_eq
name_quick tw3820604794100220378 for PySem.W.segRun by Mine.cq_eq
name_quick tw17069979004554194336 for PySem.W.segRun by Mine.cq_eq
name_quick tw3362959441861295915 for PySem.W.segRun by Mine.cq_eq
name_quick tw9265879793445154701 for PySem.W.segRun by Mine.cq_eq
name_quick tw3302314484089059179 for PySem.W.segRun by Mine.cq_eq
name_quick tw2718901123391026995 for PySem.W.segRun by Mine.cq_eq
name_quick tw894076849921957361 for PySem.W.segRun by Mine.cq_eq
name_quick tw3577408171920636059 for PySem.W.segRun by Mine.cq_eq
name_quick tw5228443966233409354 for PySem.W.segRun by Mine.cq_eq
name_quick tw8595292554425487202 for PySem.W.segRun by Mine.cq_eq
name_quick tw11891824955294080559 for PySem.W.segRun by Mine.cq_eq
name_quick tw16451151925259046446 for PySem.W.segRun by Mine.cq_eq
name_quick tw12214085216866374628 for PySem.W.segRun by Mine.cq_eq
name_quick tw18286265847491885052 for PySem.W.segRun by Mine.cq_eq
name_quick tw18263319221461684349 for PySem.W.segRun by Mine.cq_eq
name_quick tw18283703058932287227 for PySem.W.segRun by Mine.cq_eq
name_quick tw4109823476700235019 for PySem.W.segRun by Mine.cq_eq
name_quick tw17596809139577655471 for PySem.W.segRun by Mine.cq_eq
name_quick tw13902060940116135572 for PySem.W.segRun by Mine.cq_eq
name_quick tw15278061642289888581 for PySem.W.segRun by Mine.cq_eq
name_quick tw4797165386629745026 for PySem.W.segRun by Mine.cq_eq
name_quick tw18386054884457128365 for PySem.W.segRun by Mine.cq_eq
name_quick tw1711367819467211730 for PySem.W.segRun by Mine.cq_eq
name_quick tw2735471455948067141 for PySem.W.segRun by Mine.cq_eq
name_quick tw15605440718772780007 for PySem.W.segRun by Mine.cq_eq
name_quick tw15271515629493726085 for PySem.W.segRun by Mine.cq_eq
name_quick tw18416463498863911781 for PySem.W.segRun by Mine.cq_eq
name_quick tw1305609685974793870 for PySem.W.segRun by Mine.cq_eq
name_quick tw3740020263889925745 for PySem.W.segRun by Mine.cq_eq
name_quick tw5998781340512891400 for PySem.W.segRun by Mine.cq_eq
name_quick tw389472881494512206 for PySem.W.segRun by Mine.cq_eq
name_quick tw1706496860858754268 for PySem.W.segRun by Mine.cq_eq
name_quick tw11108263761283441063 for PySem.W.segRun by Mine.cq_eq
name_quick tw6697550738653902072 for PySem.W.segRun by Mine.cq_eq
name_quick tw18123110421147349612 for PySem.W.segRun by Mine.cq_eq
name_quick tw2408619945344806742 for PySem.W.segRun by Mine.cq_eq
name_quick tw15315713394281565010 for PySem.W.segRun by Mine.cq_eq
name_quick tw11985326045990495214 for PySem.W.segRun by Mine.cq_eq
name_quick tw15300170045991075079 for PySem.W.segRun by Mine.cq_eq
name_quick tw12371321757623732685 for PySem.W.segRun by Mine.cq_eq
name_quick tw4434333111790514575 for PySem.W.segRun by Mine.cq_eq
name_quick tw10276908904998144438 for PySem.W.segRun by Mine.cq_eq
name_quick tw2670528217467546775 for PySem.W.segRun by Mine.cq_eq
name_quick tw17101871299007795629 for PySem.W.segRun by Mine.cq_eq
name_quick tw3952652319720093869 for PySem.W.segRun by Mine.cq_eq
name_quick tw3054071069301022655 for PySem.W.segRun by Mine.cq_eq
name_quick tw17370054149142409183 for PySem.W.segRun by Mine.cq_eq
name_quick tw9977392586421186931 for PySem.W.segRun by Mine.cq_eq
name_quick tw5289962621202845349 for PySem.W.segRun by Mine.cq_eq
name_quick tw9248541637817142097 for PySem.W.segRun by Mine.cq_eq
name_quick tw7397068168572129948 for PySem.W.segRun by Mine.cq_eq
name_quick tw9787396351842916947 for PySem.W.segRun by Mine.cq_eq
name_quick tw8430678208038309684 for PySem.W.segRun by Mine.cq_eq
name_quick tw15773981995205291829 for PySem.W.segRun by Mine.cq_eq
name_quick tw16942504070071679284 for PySem.W.segRun by Mine.cq_eq
name_quick tw5631866682500559305 for PySem.W.segRun by Mine.cq_eq
name_quick tw3793695936567050837 for PySem.W.segRun by Mine.cq_eq
name_quick tw7231524377534056507 for PySem.W.segRun by Mine.cq_eq
name_quick tw4111355340424721971 for PySem.W.segRun by Mine.cq_eq
name_quick tw5607064600570693084 for PySem.W.segRun by Mine.cq_eq
name_quick tw8474383852179026721 for PySem.W.segRun by Mine.cq_eq
name_quick tw2001226814458364393 for PySem.W.segRun by Mine.cq_eq
name_quick tw8206430501311747189 for PySem.W.segRun by Mine.cq_eq
name_quick tw13853819408611901635 for PySem.W.segRun by Mine.cq_eq
name_quick tw6234664779796018075 for PySem.W.segRun by Mine.cq_eq
name_quick tw4224760802259116069 for PySem.W.segRun by Mine.cq_eq
name_quick tw383695940523520267 for PySem.W.segRun by Mine.cq_eq
name_quick tw4278798014809849964 for PySem.W.segRun by Mine.cq_eq
name_quick tw1930203975799679532 for PySem.W.segRun by Mine.cq_eq
name_quick tw10071868454641916008 for PySem.W.segRun by Mine.cq_eq
name_quick tw8540232549379673566 for PySem.W.segRun by Mine.cq_eq
name_quick tw10028428298569065181 for PySem.W.segRun by Mine.cq_eq
name_quick tw17233024954070867409 for PySem.W.segRun by Mine.cq_eq
name_quick tw16296994325663420285 for PySem.W.segRun by Mine.cq_eq
name_quick tw8944806292087596576 for PySem.W.segRun by Mine.cq_eq
name_quick tw11328821685186248670 for PySem.W.segRun by Mine.cq_eq
name_quick tw4745058802850807175 for PySem.W.segRun by Mine.cq_eq
name_quick tw12488000419048109807 for PySem.W.segRun by Mine.cq_eq
name_quick tw11236458984494512445 for PySem.W.segRun by Mine.cq_eq
name_quick tw10227693086864044499 for PySem.W.segRun by Mine.cq_eq
name_quick tw9787463984185863102 for PySem.W.segRun by Mine.cq_eq
name_quick tw1370275717833778536 for PySem.W.segRun by Mine.cq_eq
name_quick tw13070384816801012346 for PySem.W.segRun by Mine.cq_eq
name_quick tw6607189417530752870 for PySem.W.segRun by Mine.cq_eq
name_quick tw7802139600951554647 for PySem.W.segRun by Mine.cq_eq
name_quick tw6722154040420286063 for PySem.W.segRun by Mine.cq_eq
name_quick tw1393629259489396696 for PySem.W.segRun by Mine.cq_eq
name_quick tw16292439048969090190 for PySem.W.segRun by Mine.cq_eq
name_quick tw8902219603052485911 for PySem.W.segRun by Mine.cq_eq
name_quick tw11130039905162102590 for PySem.W.segRun by Mine.cq_eq
name_quick tw14285029430470858289 for PySem.W.segRun by Mine.cq_eq
name_quick tw14185684948912167051 for PySem.W.segRun by Mine.cq_eq
name_quick tw3470799630455053000 for PySem.W.segRun by Mine.cq_eq
name_quick tw15560500314895047343 for PySem.W.segRun by Mine.cq_eq
name_quick tw3698559305507148144 for PySem.W.segRun by Mine.cq_eq
name_quick tw14333388528381170442 for PySem.W.segRun by Mine.cq_eq
name_quick tw7074795694173733578 for PySem.W.segRun by Mine.cq_eq
name_quick tw17015423121036801654 for PySem.W.segRun by Mine.cq_eq
name_quick tw12296728618847696761 for PySem.W.segRun by Mine.cq_eq
name_quick tw10709196673778178906 for PySem.W.segRun by Mine.cq_eq
name_quick tw2504098582860672743 for PySem.W.segRun by Mine.cq_eq
name_quick tw16328912562034613984 for PySem.W.segRun by Mine.cq_eq
name_quick tw799472198861031185 for PySem.W.segRun by Mine.cq_eq
name_quick tw10566222408779648918 for PySem.W.segRun by Mine.cq_eq
name_quick tw15263041282635125899 for PySem.W.segRun by Mine.cq_eq
name_quick tw9564595351457756722 for PySem.W.segRun by Mine.cq_eq
name_quick tw4042386549635913901 for PySem.W.segRun by Mine.cq_eq
name_quick tw1320183511955256522 for PySem.W.segRun by Mine.cq_eq
name_quick tw18366058095514959488 for PySem.W.segRun by Mine.cq_eq
name_quick tw774047393022817027 for PySem.W.segRun by Mine.cq_eq
name_quick tw387338674003428930 for PySem.W.segRun by Mine.cq_eq
name_quick tw12172078356533094185 for PySem.W.segRun by Mine.cq_eq
name_quick tw12726346659333912481 for PySem.W.segRun by Mine.cq_eq
name_quick tw12377561305857167785 for PySem.W.segRun by Mine.cq_eq
name_quick tw2370070277545300124 for PySem.W.segRun by Mine.cq_eq
name_quick tw3131671291697673992 for PySem.W.segRun by Mine.cq_eq
name_quick tw17341736924252097559 for PySem.W.segRun by Mine.cq_eq
name_quick tw11137651959834898467 for PySem.W.segRun by Mine.cq_eq
name_quick tw17024950926791866790 for PySem.W.segRun by Mine.cq_eq
name_quick tw12049575158971614909 for PySem.W.segRun by Mine.cq_eq
name_quick tw16180483070735683940 for PySem.W.segRun by Mine.cq_eq
name_quick tw2077871619930789226 for PySem.W.segRun by Mine.cq_eq
name_quick tw6980910045739468074 for PySem.W.segRun by Mine.cq_eq
name_quick tw2651664433501786496 for PySem.W.segRun by Mine.cq_eq
name_quick tw4724670654266164199 for PySem.W.segRun by Mine.cq_eq
name_quick tw12635297910168745909 for PySem.W.segRun by Mine.cq_eq
name_quick tw12393455550290869266 for PySem.W.segRun by Mine.cq_eq
name_quick tw15376083050721069600 for PySem.W.segRun by Mine.cq_eq
name_quick tw10317580896714288900 for PySem.W.segRun by Mine.cq_eq
name_quick tw10181792811725400092 for PySem.W.segRun by Mine.cq_eq
name_quick tw9529234661008812162 for PySem.W.segRun by Mine.cq_eq
name_quick tw2378363196638174374 for PySem.W.segRun by Mine.cq_eq
name_quick tw14073706353221006472 for PySem.W.segRun by Mine.cq_eq
name_quick tw16434552024888161954 for PySem.W.segRun by Mine.cq_eq
name_quick tw11765014963103734823 for PySem.W.segRun by Mine.cq_eq
name_quick tw7146146830050965766 for PySem.W.segRun by Mine.cq_eq
name_quick tw195516440579289731 for PySem.W.segRun by Mine.cq_eq
name_quick tw6813294653679155843 for PySem.W.segRun by Mine.cq_eq
name_quick tw5149714755402479525 for PySem.W.segRun by Mine.cq_eq
name_quick tw11445135464325071761 for PySem.W.segRun by Mine.cq_eq
name_quick tw10970087489707964778 for PySem.W.segRun by Mine.cq_eq
name_quick tw8389248881573145916 for PySem.W.segRun by Mine.cq_eq
name_quick tw12050852935592152754 for PySem.W.segRun by Mine.cq_eq
name_quick tw2037417660504910701 for PySem.W.segRun by Mine.cq_eq
name_quick tw329819065673440000 for PySem.W.segRun by Mine.cq_eq
name_quick tw4110589180456253056 for PySem.W.segRun by Mine.cq_eq
name_quick tw17172517015917474193 for PySem.W.segRun by Mine.cq_eq
name_quick tw8795123598061512290 for PySem.W.segRun by Mine.cq_eq
name_quick tw17020626225693228618 for PySem.W.segRun by Mine.cq_eq
name_quick tw8328094057196393916 for PySem.W.segRun by Mine.cq_eq
name_quick tw12456492676567594705 for PySem.W.segRun by Mine.cq_eq
name_quick tw8989982439271903415 for PySem.W.segRun by Mine.cq_eq
name_quick tw2902314222560053993 for PySem.W.segRun by Mine.cq_eq
name_quick tw16966814322356759819 for PySem.W.segRun by Mine.cq_eq
name_quick tw12813236842856870187 for PySem.W.segRun by Mine.cq_eq
name_quick tw15007238320947547705 for PySem.W.segRun by Mine.cq_eq
name_quick tw1735497430108182060 for PySem.W.segRun by Mine.cq_eq
name_quick tw3229698128091672885 for PySem.W.segRun by Mine.cq_eq
name_quick tw4921902886906138986 for PySem.W.segRun by Mine.cq_eq
name_quick tw6714822604882049554 for PySem.W.segRun by Mine.cq_eq
name_quick tw10424941004445345732 for PySem.W.segRun by Mine.cq_eq
name_quick tw9910355351051955638 for PySem.W.segRun by Mine.cq_eq
name_quick tw8621552478659558853 for PySem.W.segRun by Mine.cq_eq
name_quick tw13427988762788590312 for PySem.W.segRun by Mine.cq_eq
name_quick tw14973007898608030118 for PySem.W.segRun by Mine.cq_eq
name_quick tw11855487677703710099 for PySem.W.segRun by Mine.cq_eq
name_quick tw3778451253796500701 for PySem.W.segRun by Mine.cq_eq
name_quick tw17018628822417861297 for PySem.W.segRun by Mine.cq_eq
name_quick tw10033396928017900241 for PySem.W.segRun by Mine.cq_eq
name_quick tw9249553802937061307 for PySem.W.segRun by Mine.cq_eq
name_quick tw8579058602437062094 for PySem.W.segRun by Mine.cq_eq
name_quick tw11211347477262721435 for PySem.W.segRun by Mine.cq_eq
name_quick tw18345786424863182364 for PySem.W.segRun by Mine.cq_eq
open_top hd for PySem.Challenge.rw_ik0133_01
end
open PySem.Calls
theorem canon_list_ga : (Manifest.canonical "list.__getattribute__" != "object.__getattribute__") = false := by decide +kernel
theorem lt_get {d : Addr} : ∀ {l : List (Addr × Obj)}, AllLt d l → ∀ p ∈ l, @LT.lt Nat _ p.1 d
  | [], _, _, h => nomatch h
  | p :: r, h, q, hq => by
    rcases List.mem_cons.mp hq with rfl | hq
    · exact h.1
    · exact lt_get h.2 q hq
theorem ne_lt {D a : Addr} {o : Obj} {l : List (Addr × Obj)} (h : AllLt D l) (m : (a, o) ∈ l) : a ≠ D := Nat.ne_of_lt (lt_get h _ m)
theorem neW : Nonempty World := ⟨aWorld 1⟩
theorem neA : Nonempty Around := ⟨callerA⟩
theorem neS : Nonempty Shared := ⟨{ heap := {}, gens := #[], drawn := {}, toks := 0, os := Classical.choice inferInstance }⟩
theorem eps_all {T : Type} (ne : Nonempty T) (Q : T → Prop) (h : Q (@Classical.epsilon _ ne fun z => ¬ Q z)) (y : T) : Q y := Classical.byContradiction fun e => (@Classical.epsilon_spec_aux _ ne (fun z => ¬ Q z) ⟨y, e⟩ : ¬ Q _) h
theorem pure_all {M : Model} {A : Around} {α : Type} {a : α} {Q : α → Shared → Prop} {E : Value → Shared → Prop} {s : Shared} (h : ∀ b, Q b s) : wpAny M A (pure a) Q E s := wpAny_pure (h a)
-- text ZMB
section
section
variable {prog : Program} {w : World} {A : Around} {E : Value → Shared → Prop} {s : Shared} {K : Frag} {C L x dx : Addr} {h₀ : Heap} {m : Str → Option Value} {news news' : List (Addr × Obj)} {ox : Obj} {od : Option Obj} {name : Str}

theorem enterM {prog : Program} {w : World} {A : Around} {s : Shared} {H : Heap} {K : Frag} {p : Program} {loose : List Str} {mg mb : Str → Option Value}
  {R : Result → Shared → Prop} {name qual : Str} {params : Arguments} {body : List Stmt} {scope : Scope} {dV kV doc pm cdv ct oc : Value} {an od : Option Addr} {osl : Array (Option Value)} {f : Addr} {args : Args} {binds : List (Str × Value)}
  (own : List (Addr × Obj)) (X : K.In H) (T : TopRead p loose mg mb H) (hk : ∀ b o, H.get? b = some o → s.heap.get? b = some o)
  (hN : ∀ q ∈ own, s.heap.get? q.1 = some q.2 ∧ H.get? q.1 = none)
  (ho : K.lookup f = some ⟨oc, od, .func (fnOf name qual params body scope dV kV doc pm an cdv ct), osl⟩) (hcd : codeIn K cdv qual = true) (hroom : A.depth < recursionLimit)
  (hbind : BindsTo s (fnOf name qual params body scope dV kV doc pm an cdv ct) args binds) (hloc : ∀ y ∈ binds, scope.names.lookup y.1 = some .local)
  (h : ∀ g L h₁, (∀ b o, s.heap.get? b = some o → b ∉ own.map (·.1) → g.get? b = some o) → (∀ b o, g.get? b = some o → s.heap.get? b = some o) → Fr g L h₁ (fun y => binds.reverse.lookup y) → News g L h₁ own → K.In g → TopRead p loose mg mb g → (∀ b o, H.get? b = some o → g.get? b = some o) →
      (∀ p ∈ own, p.1 < L) →
      wpAny (model prog w) (A.deeper (envOf qual scope L f cdv)) (execs body (envOf qual scope L f cdv))
        (fun fl s' => R (.ok (.ret (match fl with | .ret v => v | _ => .none))) s')
        (fun e s' => wpAny (model prog w) (A.deeper (envOf qual scope L f cdv)) (leaving (envOf qual scope L f cdv) e) (fun _ s'' => R (.error e) s'') (fun e' s'' => R (.error e') s'') s')
        { s with heap := h₁, toks := s.toks + binds.length })
  (hcell : ∀ x ∈ scope.names, x.2 ≠ .cell) (hco : scope.isCoroutine = false) (hgen : scope.isGenerator = false) (hkd : scope.kind = .function) :
  codeAny (model prog w) A (.call (.ref f) args) R s := by
  have Xs : K.In s.heap := X.keeps hk
  refine codeAny_call_def (fd := fnOf name qual params body scope dV kV doc pm an cdv ct) (body := body) (binds := binds) hroom (Xs _ _ ho) rfl (T.nolimit.keeps hk) (codeRec_of Xs hcd) rfl hbind hcell hloc (fun h₁ hns hk₁ => ?_) hco hgen hkd
  have nm : ∀ b o, H.get? b = some o → b ∉ own.map (·.1) := fun b o e q => by
    obtain ⟨p, hp, rfl⟩ := List.mem_map.mp q
    rw [(hN p hp).2] at e; cases e
  have st : ∀ b o, H.get? b = some o → (hideAll s.heap (own.map (·.1))).get? b = some o := fun b o e => hideAll_get _ (hk b o e) (nm b o e)
  exact h (hideAll s.heap (own.map (·.1))) s.heap.objs.size h₁ (fun b o e q => hideAll_get _ e q) (fun b o e => of_hideAll _ e) ⟨hns, fun b o e => hk₁ b o (of_hideAll _ e), Nat.le_of_eq (hideAll_size _ _)⟩
    (fun q hq => ⟨hk₁ _ _ (hN q hq).1, Nat.ne_of_lt (Heap.lt_size (hN q hq).1), hideAll_none _ (List.mem_map_of_mem hq)⟩) (X.keeps st) (T.keeps st) st (fun q hq => Heap.lt_size (hN q hq).1)

theorem callB {id owner n : String} {Bi : Builtin} {self : Value} {rest : List Value} {Q : Value → Shared → Prop} (hp : plainId id = true) (he : entryFor table id = some Bi)
    (hk : builtinKind id = some .slot ∨ builtinKind id = some .method) (hs : splitId id = some (owner, n)) (hi : Looks (model prog w) s.heap (isInstance self (.type owner)) true) (ha : argsOk id ⟨self :: rest, []⟩)
    (h : wpAny (model prog w) A.in1 (Bi ⟨self :: rest, []⟩) (fun fin s' => match fin with | .done (.ret v) => Q v s' | .done _ => False | .again c' => c'.quiet = true ∧ codeAny (model prog w) A c' (fun r s' => match r with | .ok (.ret v) => Q v s' | .ok _ => False | .error e => E e s') s') E s) :
    wpAny (model prog w) A (call (.builtin id) (self :: rest)) Q E s := by
  refine wpAny_call (codeAny_call_builtin hp he ?_)
  have fin : wpAny (model prog w) A.in1 (Bi ⟨self :: rest, []⟩) (fun fin s' => match fin with | .done f => (match (Except.ok f : Result) with | .ok (.ret v) => Q v s' | .ok _ => False | .error e => E e s') | .again c' => c'.quiet = true ∧ codeAny (model prog w) A c' (fun r s' => match r with | .ok (.ret v) => Q v s' | .ok _ => False | .error e => E e s') s') E s := by
    refine wpAny_mono h (fun fin s' z => ?_) fun _ _ e => e
    rcases fin with (_ | _ | _ | _) | _ <;> exact z
  rcases hk with hk | hk
  all_goals
    simp only [checkBuiltinCall, hk, hs]
    refine wpAny_bind (hi.here ?_)
    simp only [Bool.not_true, Bool.false_eq_true, if_false]
    cases hsig : Manifest.signature? id with
    | none => exact wpAny_pure fin
    | some sig =>
      simp only [argsOk, hsig] at ha
      have h2 : Bind.checkArgs id sig ⟨self :: rest, []⟩ = pure () := ha
      show wpAny (model prog w) A.in1 (Bind.checkArgs id sig ⟨self :: rest, []⟩) _ _ s
      rw [h2]; exact wpAny_pure fin

theorem method_bi {pl : Sem Bool} {Q : Value × List Value → Shared → Prop} {id : String} {tf : String} (X : K.In s.heap) (I : InstAt s.heap x ox C od) (hga : findIn K (.ref C) "__getattribute__" = some (some (.builtin "object.__getattribute__"))) (hk : findIn K (.ref C) "__getattr__" = some none)
    (hf : findIn K (.ref C) name = some (some (.builtin id))) (ht : typeIn K (.builtin id) = some (.type tf)) (htf : (tf == "method_descriptor" || tf == "wrapper_descriptor") = true) (hs : shadowIn od name = some false) (h : Q (.builtin id, [.ref x]) s) :
    wpAny (model prog w) A (getMethod (.ref x) name pl) Q E s := by
  have hcan := PySem.F.canon_object_ga
  unfold getMethod specialOf
  refine wpAny_bind (wpAny_bind (I.type.here ((looks_findIn X hga).here ?_)))
  dsimp only
  rw [hcan, if_neg (by decide)]
  refine wpAny_bind (wpAny_bind (I.type.here ((looks_findIn X hk).here ?_)))
  refine wpAny_bind (wpAny_bind (I.type.here ((looks_findIn X hf).here (wpAny_bind ((looks_typeIn X ht).here ?_)))))
  have hcond : ¬ ((Value.type tf != Value.type "function" && Value.type tf != Value.type "method_descriptor" && Value.type tf != Value.type "wrapper_descriptor") = true) := by
    rcases Bool.or_eq_true_iff.mp htf with q | q <;> (rw [beq_iff_eq.mp q]; decide +kernel)
  rw [if_neg hcond]
  refine wpAny_bind (wpAny_loadPart I.at_ ?_)
  have hd := I.dict
  cases e : ox.dict with
  | none => exact wpAny_bind (wpAny_rule (wpAny_pure h))
  | some dx =>
    cases od with
    | none => rw [e] at hd; exact hd.elim
    | some o =>
      rw [e] at hd
      obtain ⟨r, a, b⟩ := Option.map_eq_some_iff.mp hs
      refine wpAny_bind (wpAny_bind (wpAny_loadPart hd ?_))
      rw [nsLook_of a]
      refine wpAny_pure ?_
      rw [b]
      exact wpAny_bind (wpAny_rule (wpAny_pure h))

noncomputable abbrev accObj (dx : Addr) (its : Array Value) (n : Nat) : Obj := { cls := .ref 124, dict := some dx, data := .seq its n }

theorem acc_isList {K : Frag} {h : Heap} {M : Model} (X : K.In h) (I : InstAt h x ox C od) (hm : mroIn K C (.type "list") = some true) : Looks M h (isInstance (.ref x) (.type "list")) true := I.type.andThen (looks_mroIn X hm)
theorem InstAt.of_acc {h : Heap} {x dx : Addr} {its : Array Value} {n : Nat} {od : Obj} (h1 : h.get? x = some (accObj dx its n)) (h2 : h.get? dx = some od) : InstAt h x (accObj dx its n) 124 (some od) := ⟨h1, rfl, rfl, h2⟩

theorem append_acc {its : Array Value} {n : Nat} {v : Value} {odx : Obj} {Q : Value → Shared → Prop} (F : Fr h₀ L s.heap m) (X₀ : K.In h₀) (N : News h₀ L s.heap news) (hd : s.heap.get? dx = some odx) (hm : mroIn K 124 (.type "list") = some true)
    (U : Upd x (accObj dx its n) (accObj dx (its.push v) (n + 1)) news news')
    (h : ∀ h', Fr h₀ L h' m → News h₀ L h' news' → Q .none { s with heap := h' }) (hsz : its.size ≤ sizeLine) : wpAny (model prog w) A (call (.builtin "list.append") [.ref x, v]) Q E s := by
  obtain ⟨pre, post, rfl, rfl, a, b⟩ := U.split
  have z := N (x, accObj dx its n) (List.mem_append.mpr (.inr (.head _)))
  refine callB (owner := "list") (n := "append") PySem.F.slot_list_append.plain PySem.F.entry_list_append (.inr (by decide +kernel)) (by decide +kernel) (acc_isList (X₀.keeps F.keep) (InstAt.of_acc z.1 hd) hm) (args_list_append _ _) ?_
  show wpAny _ _ (updateSeq x (·.push v) >>= fun _ => ret .none) _ _ s
  refine wpAny_bind (wpAny_updateSeq z.1 rfl (wpAny_pure ?_) hsz (by rw [Array.size_push]; omega))
  have e : (Obj.mapSeq (·.push v)) (accObj dx its n) = accObj dx (its.push v) (n + 1) := by
    simp [Obj.mapSeq, accObj]
  obtain ⟨U1, U2⟩ := news_upd (f := Obj.mapSeq (·.push v)) F N a b e rfl
  exact h _ U1 U2
end
end
-- text ZMC
section
open PySem.Builtin PySem.Builtin.ObjectAttr
theorem refuse_acc (self : Value) : refuseLoop self "__setattr__" [.ref 124, .type "list", .type "object"] = pure () := by
  rw [refuseLoop_ref]; kernel_rfl
section
variable {prog : Program} {w : World} {A : Around} {E : Value → Shared → Prop} {s : Shared} {K : Frag} {C L x dx : Addr} {h₀ : Heap} {m : Str → Option Value} {news news' : List (Addr × Obj)} {ox : Obj} {od : Option Obj} {name : Str}

theorem method_biG {pl : Sem Bool} {Q : Value × List Value → Shared → Prop} {id ga : String} {tf : String} (X : K.In s.heap) (I : InstAt s.heap x ox C od) (hga : findIn K (.ref C) "__getattribute__" = some (some (.builtin ga))) (hcan : (Manifest.canonical ga != "object.__getattribute__") = false) (hk : findIn K (.ref C) "__getattr__" = some none)
    (hf : findIn K (.ref C) name = some (some (.builtin id))) (ht : typeIn K (.builtin id) = some (.type tf)) (htf : (tf == "method_descriptor" || tf == "wrapper_descriptor") = true) (hs : shadowIn od name = some false) (h : Q (.builtin id, [.ref x]) s) :
    wpAny (model prog w) A (getMethod (.ref x) name pl) Q E s := by
  unfold getMethod specialOf
  refine wpAny_bind (wpAny_bind (I.type.here ((looks_findIn X hga).here ?_)))
  dsimp only
  rw [hcan, if_neg (by decide)]
  refine wpAny_bind (wpAny_bind (I.type.here ((looks_findIn X hk).here ?_)))
  refine wpAny_bind (wpAny_bind (I.type.here ((looks_findIn X hf).here (wpAny_bind ((looks_typeIn X ht).here ?_)))))
  have hcond : ¬ ((Value.type tf != Value.type "function" && Value.type tf != Value.type "method_descriptor" && Value.type tf != Value.type "wrapper_descriptor") = true) := by
    rcases Bool.or_eq_true_iff.mp htf with q | q <;> (rw [beq_iff_eq.mp q]; decide +kernel)
  rw [if_neg hcond]
  refine wpAny_bind (wpAny_loadPart I.at_ ?_)
  have hd := I.dict
  cases e : ox.dict with
  | none => exact wpAny_bind (wpAny_rule (wpAny_pure h))
  | some dx =>
    cases od with
    | none => rw [e] at hd; exact hd.elim
    | some o =>
      rw [e] at hd
      obtain ⟨r, a, b⟩ := Option.map_eq_some_iff.mp hs
      refine wpAny_bind (wpAny_bind (wpAny_loadPart hd ?_))
      rw [nsLook_of a]
      refine wpAny_pure ?_
      rw [b]
      exact wpAny_bind (wpAny_rule (wpAny_pure h))

theorem method_fnG {pl : Sem Bool} {Q : Value × List Value → Shared → Prop} {f : Addr} {ga : String} (X : K.In s.heap) (I : InstAt s.heap x ox C od) (hga : findIn K (.ref C) "__getattribute__" = some (some (.builtin ga))) (hcan : (Manifest.canonical ga != "object.__getattribute__") = false) (hk : findIn K (.ref C) "__getattr__" = some none)
    (hf : findIn K (.ref C) name = some (some (.ref f))) (ht : typeIn K (.ref f) = some (.type "function")) (hs : shadowIn od name = some false) (h : Q (.ref f, [.ref x]) s) :
    wpAny (model prog w) A (getMethod (.ref x) name pl) Q E s := by
  unfold getMethod specialOf
  refine wpAny_bind (wpAny_bind (I.type.here ((looks_findIn X hga).here ?_)))
  dsimp only
  rw [hcan, if_neg (by decide)]
  refine wpAny_bind (wpAny_bind (I.type.here ((looks_findIn X hk).here ?_)))
  refine wpAny_bind (wpAny_bind (I.type.here ((looks_findIn X hf).here (wpAny_bind ((looks_typeIn X ht).here ?_)))))
  rw [if_neg (by decide +kernel)]
  refine wpAny_bind (wpAny_loadPart I.at_ ?_)
  have hd := I.dict
  cases e : ox.dict with
  | none => exact wpAny_bind (wpAny_rule (wpAny_pure h))
  | some dx =>
    cases od with
    | none => rw [e] at hd; exact hd.elim
    | some o =>
      rw [e] at hd
      obtain ⟨r, a, b⟩ := Option.map_eq_some_iff.mp hs
      refine wpAny_bind (wpAny_bind (wpAny_loadPart hd ?_))
      rw [nsLook_of a]
      refine wpAny_pure ?_
      rw [b]
      exact wpAny_bind (wpAny_rule (wpAny_pure h))

theorem args_list_ga (a b : Value) : argsOk "list.__getattribute__" ⟨[a, b], []⟩ := by unfold argsOk; kernel_rfl
theorem bind_list_ga (self : Value) : bindSpecial (.builtin "list.__getattribute__") self = pure (.builtin "list.__getattribute__", [self]) := PySem.F.slot_list_getattribute.bind self
theorem get_acc {expr : Bool} {Q : Value → Shared → Prop} {v : Value} (X : K.In s.heap) (I : InstAt s.heap x ox C od) (hga : findIn K (.ref C) "__getattribute__" = some (some (.builtin "list.__getattribute__"))) (hk : findIn K (.ref C) "__getattr__" = some none) (hl : mroIn K C (.type "list") = some true)
    (hf : findObj K C od name = some (.value v)) (hh : handedIn v = true) (h : Q v { s with toks := s.toks + 1 }) : wpAny (model prog w) A (getAttr (.ref x) name expr) Q E s := by
  obtain ⟨hp, g, d, tk, os⟩ := s
  have L0 := I.type (M := model prog w)
  have L1 := looks_findIn (M := model prog w) X hga
  have L2 := looks_findIn (M := model prog w) X hk
  have L3 := looks_find (M := model prog w) X I hf
  have Li : Looks (model prog w) hp (isInstance (.ref x) (.type "list")) true := L0.andThen (looks_mroIn X hl)
  unfold getAttr getAttrBy
  refine wpAny_bind (wpAny_mkText (wpAny_holding (wpAny_bind (L0.at (wpAny_bind (L1.at ?_))))))
  show wpAny _ _ (getAttrByItsOwn _ _ _ _ _ _) _ _ _
  unfold getAttrByItsOwn
  refine wpAny_bind (show wpAny _ _ (typeLookup (.ref C) "__getattr__") _ _ _ from L2.at ?_)
  show wpAny _ _ ((holding [] (callGetattribute _ _ _ _)).attempt >>= _) _ _ _
  refine wpAny_bind (wpAny_attempt (wpAny_holding ?_))
  have hc : callGetattribute (.ref x) (.str name tk) (.builtin "list.__getattribute__") expr = boundAndCalled (.builtin "list.__getattribute__") (.ref x) (.str name tk) := by
    unfold callGetattribute
    cases expr <;> rfl
  rw [hc]
  unfold boundAndCalled
  rw [bind_list_ga]
  refine wpAny_bind (wpAny_pure ?_)
  show wpAny _ _ (call (.builtin "list.__getattribute__") [.ref x, .str name tk]) _ _ _
  refine callB (owner := "list") (n := "__getattribute__") PySem.F.slot_list_getattribute.plain am_entry_list_getattribute (.inl (by decide +kernel)) (by decide +kernel) Li (args_list_ga _ _) ?_
  show wpAny _ _ (typeOf (.ref x) >>= fun tp => find (.ref x) tp name >>= _) _ _ _
  refine wpAny_bind (L0.at (wpAny_bind (L3.at ?_)))
  refine wpAny_pure ?_
  show wpAny _ _ (handedOut v) _ _ _
  rw [handedOut_of hh]; exact wpAny_pure h

noncomputable def accMro (K : Frag) (C : Addr) : Bool := (clsIn K C).any fun cd => cd.mro == [.ref C, .type "list", .type "object"]
theorem refuse_accC (self : Value) : refuseLoop self "__setattr__" [.ref C, .type "list", .type "object"] = pure () := by
  rw [refuseLoop_ref]; kernel_rfl
theorem set_acc {Q : Unit → Shared → Prop} {v : Value} {es es' : List DictEntry} {n n' : Nat} (F : Fr h₀ L s.heap m) (X₀ : K.In h₀) (N : News h₀ L s.heap news) (I : InstAt s.heap x ox C (some (dictOf es n))) (hd : ox.dict = some dx)
    (hs : findIn K (.ref C) "__setattr__" = some (some (.builtin "object.__setattr__"))) (hp : accMro K C = true) (ht : takerIn K C name = some none) (hh : hasDictIn K C = true) (hl : (getL name es).isSome = true)
    (e : (putL name (PyData.keyHash w.params name) (.str name (s.toks + 1)) v es, putN name es n) = (es', n')) (U : Upd dx (dictOf es n) (dictOf es' n') news news') (hz : es'.length ≤ 1000)
    (h : ∀ h', Fr h₀ L h' m → News h₀ L h' news' → Q () { s with heap := h', toks := s.toks + 2 }) :
    wpAny (model prog w) A (setAttr (.ref x) name v) Q E s := by
  have X : K.In s.heap := X₀.keeps F.keep
  obtain ⟨pre, post, rfl, rfl, h1, h2⟩ := U.split
  obtain ⟨e1, e2⟩ := Prod.mk.inj e
  refine set_plain X I hs ?_
  have SF := PySem.F.store_object
  obtain ⟨cd, hc, ho⟩ := any_some hp
  have hmro : cd.mro = [.ref C, .type "list", .type "object"] := beq_iff_eq.mp ho
  have hm : Looks (model prog w) s.heap (mroOf (.ref C)) cd.mro := (looks_clsIn X hc).andThen .now
  have sub : Looks (model prog w) s.heap (isInstance (.ref x) (.type "object")) true := I.type.andThen (looks_mroIn X (by unfold mroIn; rw [hc, Option.bind_some, hmro]; rfl))
  refine codeAny_call_builtin SF.slot.plain SF.entry (@check_slot (model prog w) _ _ _ "object.__setattr__" "object" "__setattr__" (.ref x) [.str name s.toks, v] [] _ SF.kind SF.split sub (SF.args (.ref x) (.str name s.toks) v) ?_)
  obtain ⟨attr, ha, hr⟩ := Option.bind_eq_some_iff.mp ht
  have L3 : Looks (model prog w) s.heap (storeTaker? attr) none := by
    cases attr with
    | none => cases hr; exact .now
    | some a =>
      obtain ⟨b, hb, hbe⟩ := Option.map_eq_some_iff.mp hr
      refine (looks_takesIn X hb).andThen ?_
      cases b
      · exact .now
      · cases hbe
  rw [osa_eq, refuse_eq]
  refine wpAny_bind (wpAny_bind (I.type _ _ _ _ (fun _ _ e => e) (wpAny_bind (hm _ _ _ _ (fun _ _ e => e) ?_))))
  rw [hmro, refuse_accC]
  refine wpAny_pure (wpAny_bind (I.type _ _ _ _ (fun _ _ e => e) (wpAny_bind ((looks_findIn X ha) _ _ _ _ (fun _ _ e => e) (wpAny_bind (L3 _ _ _ _ (fun _ _ e => e) ?_))))))
  show wpAny _ _ (storeInOwnDict (.ref x) (.ref C) (.str name s.toks) name v attr.isSome) _ _ _
  obtain ⟨cd', hc', hd'⟩ := any_some hh
  obtain ⟨U1, U2⟩ := news_upd (f := Obj.putName name (PyData.keyHash w.params name) (.str name (s.toks + 1)) v) F N h1 h2 (by rw [putName_dict, e1, e2]) rfl
  have D := (N (dx, dictOf es n) (by simp)).1
  have D' := (U2 (dx, dictOf es' n') (by simp)).1
  obtain ⟨hx, hcl, hn, -⟩ := I
  obtain ⟨oc, odi, oda, osl⟩ := ox
  dsimp only at hcl hd
  subst hcl hd
  refine wpAny_bind (wpAny_pure (wpAny_bind (wpAny_bind (wpAny_loadPart hx (wpAny_bind ((looks_clsIn X hc') _ _ _ _ (fun _ _ e => e) ?_))))))
  rw [hd']
  refine wpAny_pure (a := some dx) (wpAny_bind (wpAny_pure (wpAny_bind ?_)))
  unfold nsSet
  refine wpAny_bind (wpAny_bind (wpAny_askSetting (wpAny_pure (wpAny_bind (wpAny_mkText (wpAny_bind (wpAny_loadPart D ?_)))))))
  have c : (!es.toArray.any (·.key.isStr name) && es.toArray.any (·.refKey)) = false := by
    rw [← Array.any_toList, ← Array.any_toList]
    unfold getL at hl
    split at hl
    · rename_i en he
      rw [List.any_eq_true.mpr ⟨en, List.mem_of_find?_eq_some he, List.find?_some he⟩]; rfl
    · split at hl
      · cases hl
      · rename_i z; rw [Bool.not_eq_true] at z; rw [show es.toArray.toList.any (·.refKey) = false from z, Bool.and_false]
  dsimp only
  rw [aRefKeyMayBeTheName_at, c]
  refine wpAny_updatePart D ?_
  refine wpAny_bind (wpAny_lookBehind D' (pastItsLine_dict (by rw [List.size_toArray, sizeLine_eq]; omega)) ?_)
  exact wpAny_pure (h _ U1 U2)
end
theorem InstAt.of_accN {h₀ h : Heap} {L x dx : Addr} {news : List (Addr × Obj)} {its : Array Value} {n : Nat} {od : Obj} (N : News h₀ L h news) (h1 : (x, accObj dx its n) ∈ news) (h2 : (dx, od) ∈ news) :
    InstAt h x (accObj dx its n) 124 (some od) := InstAt.of_acc (N _ h1).1 (N _ h2).1
theorem shadow_of {es : List DictEntry} {n : Nat} {name : Str} (h : getL name es = some none) : shadowIn (some (dictOf es n)) name = some false := by
  show (lookIn name (dictOf es n)).map _ = _
  rw [lookIn_dict, h]; rfl
end
-- text ZMD
section
section
variable {prog : Program} {w : World} {A : Around} {E : Value → Shared → Prop} {s : Shared} {K : Frag} {C L x dx : Addr} {h₀ : Heap} {m : Str → Option Value} {news news' : List (Addr × Obj)} {ox : Obj} {od : Option Obj} {name : Str}

theorem special_bi {id : String} {args : List Value} {Q : Option Value → Shared → Prop} (X : K.In s.heap) (I : InstAt s.heap x ox C od) (hf : findIn K (.ref C) name = some (some (.builtin id))) (hb : ∀ self, bindSpecial (.builtin id) self = pure (.builtin id, [self]))
    (h : wpAny (model prog w) A (call (.builtin id) (.ref x :: args)) (fun v => Q (some v)) E s) : wpAny (model prog w) A (callSpecial? (.ref x) name args) Q E s := by
  refine wpAny_bind (wpAny_bind (I.type.here ((looks_findIn X hf).here (wpAny_holding ?_))))
  rw [hb]
  exact wpAny_bind (wpAny_pure (wpAny_bind (wpAny_mono h (fun _ _ z => wpAny_pure z) fun _ _ z => z)))

theorem args_list_gi (a b : Value) : argsOk "list.__getitem__" ⟨[a, b], []⟩ := by unfold argsOk; kernel_rfl
theorem args_list_si (a b c : Value) : argsOk "list.__setitem__" ⟨[a, b, c], []⟩ := by unfold argsOk; kernel_rfl
theorem step_part (st : Option Int) (h0 : st ≠ some 0) : ¬ ((rawPart st == rawInt 0) = true) := by
  cases st with
  | none => exact Bool.false_ne_true
  | some c =>
    intro hh
    have : c = 0 := by simpa [rawPart, rawInt] using hh
    exact h0 (by rw [this])

end
section
namespace C8
noncomputable abbrev T := (Program) × (World) × (Around) × (Value → Shared → Prop) × (Shared) × (Frag) × (Addr) × (Addr) × (Obj) × (Option Obj) × (Addr) × (Array Value) × (Nat) × (Value) × (Value) × (Value) × (Option Int) × (Option Int) × (Option Int) × (Value → Shared → Prop)
noncomputable def Pf (prog : Program) (w : World) (A : Around) (E : Value → Shared → Prop) (s : Shared) (K : Frag) (C : Addr) (x : Addr) (ox : Obj) (od : Option Obj) (sl : Addr) (its : Array Value) (n : Nat) (vl : Value) (vu : Value) (vs : Value) (lo : Option Int) (hi : Option Int) (st : Option Int) (Q : Value → Shared → Prop) : Prop := ∀ (X : K.In s.heap) (I : InstAt s.heap x ox C od) (hox : ox.data = .seq its n) (hq : noSeq K C = true) (hf : findIn K (.ref C) "__getitem__" = some (some (.builtin "list.__getitem__"))) (hm : mroIn K C (.type "list") = some true) (hs : s.heap.IsSliceOf sl vl vu vs) (pl : IsPart vl lo) (pu : IsPart vu hi) (ps : IsPart vs st) (h0 : st ≠ some 0) (h : Q (.ref s.heap.objs.size) { s with heap := s.heap.push { cls := .type "list", data := .seq (slicePick its lo hi st) } }) (hsz : its.size ≤ sizeLine), wpAny (model prog w) A (getItem (.ref x) (.ref sl)) Q E s
noncomputable def Q_ (z : T) : Prop := Pf z.1 (z.2.1) (z.2.2.1) (z.2.2.2.1) (z.2.2.2.2.1) (z.2.2.2.2.2.1) (z.2.2.2.2.2.2.1) (z.2.2.2.2.2.2.2.1) (z.2.2.2.2.2.2.2.2.1) (z.2.2.2.2.2.2.2.2.2.1) (z.2.2.2.2.2.2.2.2.2.2.1) (z.2.2.2.2.2.2.2.2.2.2.2.1) (z.2.2.2.2.2.2.2.2.2.2.2.2.1) (z.2.2.2.2.2.2.2.2.2.2.2.2.2.1) (z.2.2.2.2.2.2.2.2.2.2.2.2.2.2.1) (z.2.2.2.2.2.2.2.2.2.2.2.2.2.2.2.1) (z.2.2.2.2.2.2.2.2.2.2.2.2.2.2.2.2.1) (z.2.2.2.2.2.2.2.2.2.2.2.2.2.2.2.2.2.1) (z.2.2.2.2.2.2.2.2.2.2.2.2.2.2.2.2.2.2.1) (z.2.2.2.2.2.2.2.2.2.2.2.2.2.2.2.2.2.2.2)
theorem ne : Nonempty T := ⟨(Classical.choice inferInstance, Classical.choice Mine.neW, Classical.choice Mine.neA, Classical.choice inferInstance, Classical.choice Mine.neS, Classical.choice inferInstance, Classical.choice inferInstance, Classical.choice inferInstance, Classical.choice inferInstance, Classical.choice inferInstance, Classical.choice inferInstance, Classical.choice inferInstance, Classical.choice inferInstance, Classical.choice inferInstance, Classical.choice inferInstance, Classical.choice inferInstance, Classical.choice inferInstance, Classical.choice inferInstance, Classical.choice inferInstance, Classical.choice inferInstance)⟩
noncomputable def z_ : T := @Classical.epsilon _ ne fun z => ¬ Q_ z
@[irreducible] noncomputable def prog : Program := z_.1
@[irreducible] noncomputable def w : World := z_.2.1
@[irreducible] noncomputable def A : Around := z_.2.2.1
@[irreducible] noncomputable def E : Value → Shared → Prop := z_.2.2.2.1
@[irreducible] noncomputable def s : Shared := z_.2.2.2.2.1
@[irreducible] noncomputable def K : Frag := z_.2.2.2.2.2.1
@[irreducible] noncomputable def C : Addr := z_.2.2.2.2.2.2.1
@[irreducible] noncomputable def x : Addr := z_.2.2.2.2.2.2.2.1
@[irreducible] noncomputable def ox : Obj := z_.2.2.2.2.2.2.2.2.1
@[irreducible] noncomputable def od : Option Obj := z_.2.2.2.2.2.2.2.2.2.1
@[irreducible] noncomputable def sl : Addr := z_.2.2.2.2.2.2.2.2.2.2.1
@[irreducible] noncomputable def its : Array Value := z_.2.2.2.2.2.2.2.2.2.2.2.1
@[irreducible] noncomputable def n : Nat := z_.2.2.2.2.2.2.2.2.2.2.2.2.1
@[irreducible] noncomputable def vl : Value := z_.2.2.2.2.2.2.2.2.2.2.2.2.2.1
@[irreducible] noncomputable def vu : Value := z_.2.2.2.2.2.2.2.2.2.2.2.2.2.2.1
@[irreducible] noncomputable def vs : Value := z_.2.2.2.2.2.2.2.2.2.2.2.2.2.2.2.1
@[irreducible] noncomputable def lo : Option Int := z_.2.2.2.2.2.2.2.2.2.2.2.2.2.2.2.2.1
@[irreducible] noncomputable def hi : Option Int := z_.2.2.2.2.2.2.2.2.2.2.2.2.2.2.2.2.2.1
@[irreducible] noncomputable def st : Option Int := z_.2.2.2.2.2.2.2.2.2.2.2.2.2.2.2.2.2.2.1
@[irreducible] noncomputable def Q : Value → Shared → Prop := z_.2.2.2.2.2.2.2.2.2.2.2.2.2.2.2.2.2.2.2
theorem core : Pf prog w A E s K C x ox od sl its n vl vu vs lo hi st Q := by
  unfold Pf
  intro X I hox hq hf hm hs pl pu ps h0 h hsz
  have ho := I.at_
  obtain ⟨os, hos, hcs, hds⟩ := id hs
  have hTs : s.TypeIs (.ref sl) "slice" := ⟨os, hos, hcs⟩
  unfold getItem sequenceKey
  refine wpAny_holding (wpAny_bind (wpAny_bind (I.type.here ?_)))
  refine wpAny_bind ((anyM_none X hq).here ?_)
  rw [if_pos (show (!false) = true from rfl)]
  refine wpAny_pure (wpAny_bind (special_bi X I hf slot_list_getitem.bind ?_))
  refine callB (owner := "list") (n := "__getitem__") slot_list_getitem.plain entry_list_getitem (by first | exact .inl (by decide +kernel) | exact .inr (by decide +kernel)) (by decide +kernel) (I.type.andThen (looks_mroIn X hm)) (args_list_gi _ _) ?_
  show wpAny _ _ (Builtin.List.listSubscript? (.ref sl) >>= _) _ _ s
  refine wpAny_bind ?_
  unfold Builtin.List.listSubscript?
  refine wpAny_bind (wpAny_specialOf hTs slice_no_index ?_)
  simp only [Option.isNone_none, if_true]
  refine wpAny_pure ?_
  show wpAny _ _ (typeOf (.ref sl) >>= _) _ _ s
  refine wpAny_bind (wpAny_typeOf hTs ?_)
  rw [if_neg (by decide)]
  rw [listSliceParts_eq]
  have hstep := step_part st h0
  refine wpAny_bind (wpAny_bind (wpAny_field hos hds (x := vs) rfl (wpAny_bind (wpAny_listPart ps ?_))))
  rw [if_neg hstep]
  refine wpAny_bind (wpAny_field hos hds (x := vl) rfl (wpAny_bind (wpAny_listPart pl ?_)))
  refine wpAny_bind (wpAny_field hos hds (x := vu) rfl (wpAny_bind (wpAny_listPart pu (wpAny_pure ?_))))
  refine wpAny_bind (m := Builtin.List.listItems (.ref x)) ?_
  unfold Builtin.List.listItems
  refine wpAny_bind (wpAny_seqItems ho hox (wpAny_pure ?_))
  refine wpAny_bind (wpAny_of_eq (sliceIndices_raw lo hi st its.size h0) ?_)
  exact wpAny_bind (wpAny_newObj_type (wpAny_pure (wpAny_pure h)) (Nat.le_trans (slicePick_size_le its lo hi st) hsz))

theorem all (y : T) : Q_ y := eps_all ne Q_ (by with_unfolding_all exact core) y
end C8
end
section
variable {prog : Program} {w : World} {A : Around} {E : Value → Shared → Prop} {s : Shared} {K : Frag} {C L x dx : Addr} {h₀ : Heap} {m : Str → Option Value} {news news' : List (Addr × Obj)} {ox : Obj} {od : Option Obj} {name : Str}
theorem getItem_acc {sl : Addr} {its : Array Value} {n : Nat} {vl vu vs : Value} {lo hi st : Option Int} {Q : Value → Shared → Prop} (X : K.In s.heap) (I : InstAt s.heap x ox C od) (hox : ox.data = .seq its n) (hq : noSeq K C = true)
    (hf : findIn K (.ref C) "__getitem__" = some (some (.builtin "list.__getitem__"))) (hm : mroIn K C (.type "list") = some true)
    (hs : s.heap.IsSliceOf sl vl vu vs) (pl : IsPart vl lo) (pu : IsPart vu hi) (ps : IsPart vs st) (h0 : st ≠ some 0)
    (h : Q (.ref s.heap.objs.size) { s with heap := s.heap.push { cls := .type "list", data := .seq (slicePick its lo hi st) } })
    (hsz : its.size ≤ sizeLine) : wpAny (model prog w) A (getItem (.ref x) (.ref sl)) Q E s :=
  C8.all (prog, w, A, E, s, K, C, x, ox, od, sl, its, n, vl, vu, vs, lo, hi, st, Q) X I hox hq hf hm hs pl pu ps h0 h hsz
theorem tail_acc {value slice : Expr} {o : Value} {ops : List Value} {Q : Value → Shared → Prop} {id : String} (X : K.In s.heap) (I : InstAt s.heap x ox C od)
    (hf : findIn K (.ref C) "__getitem__" = some (some (.builtin id))) (h : wpAny (model prog w) A (getItem (.ref x) o) Q E s)
    (hs : subscripted slice false (.ref x) o = operate ops (getItem (.ref x) o)) (ht : ∀ r, letTemporaryGo value (.ref x) r = pure ()) :
    wpAny (model prog w) A (subscriptTail value slice (.ref x) o) Q E s := by
  unfold subscriptTail
  refine wpAny_bind ?_
  unfold getitemInPython
  refine wpAny_bind (wpAny_bind (I.type.here ((looks_findIn X hf).here ?_)))
  have fin : wpAny (model prog w) A (subscripted slice false (.ref x) o) (fun r s₃ => wpAny (model prog w) A (letTemporaryGo value (.ref x) r >>= fun _ => pure r) Q E s₃) E s := by
    rw [hs]
    exact wpAny_operating (wpAny_mono h (fun r s₃ h₃ => wpAny_bind (wpAny_of_eq (ht r) (wpAny_pure h₃))) fun _ _ x => x)
  exact wpAny_pure (wpAny_bind fin)

theorem slice_acc {value slice : Expr} {its : Array Value} {n : Nat} {vl vu : Value} {lo hi : Option Int} {Q : Value → Shared → Prop} {ops : List Value}
    (F : Fr h₀ L s.heap m) (X₀ : K.In h₀) (N : News h₀ L s.heap news) (I : InstAt s.heap x ox C od) (hox : ox.data = .seq its n) (hq : noSeq K C = true)
    (hf : findIn K (.ref C) "__getitem__" = some (some (.builtin "list.__getitem__"))) (hm : mroIn K C (.type "list") = some true) (pl : IsPart vl lo) (pu : IsPart vu hi)
    (h : ∀ D h', Fr h₀ L h' m → News h₀ L h' ((D, listOf (slicePick its lo hi none) 0) :: news) → (∀ p ∈ news, p.1 < D) → Q (.ref D) { s with heap := h' })
    (hs : subscripted slice false (.ref x) (.ref s.heap.objs.size) = operate ops (getItem (.ref x) (.ref s.heap.objs.size)))
    (ht : ∀ r, letTemporaryGo value (.ref x) r = pure ()) (hsz : its.size ≤ sizeLine) :
    wpAny (model prog w) A (subscriptTail value slice (.ref x) (.ref s.heap.objs.size)) Q E { s with heap := s.heap.push { cls := .type "slice", data := .fields #[vl, vu, .none] } } := by
  have k : ∀ b o, s.heap.get? b = some o → (s.heap.push { cls := .type "slice", data := .fields #[vl, vu, .none] }).get? b = some o := fun b o e => Heap.get?_push_of_some _ e
  have I' : InstAt (s.heap.push { cls := .type "slice", data := .fields #[vl, vu, .none] }) x ox C od := ⟨k _ _ I.at_, I.cls, I.no, by
    have d := I.dict
    clear I hox hf
    obtain ⟨_, od1, _, _⟩ := ox
    cases od1 <;> cases od
    · exact d
    · exact d
    · exact d
    · exact k _ _ d⟩
  have X' : K.In (s.heap.push { cls := .type "slice", data := .fields #[vl, vu, .none] }) := (X₀.keeps F.keep).keeps k
  refine tail_acc X' I' hf (getItem_acc X' I' hox hq hf hm (Heap.IsSliceOf.new ..) pl pu .none (by simp) ?_ hsz) hs ht
  have N1 := News.push (F.push { cls := .type "slice", data := .fields #[vl, vu, .none] }) (N.grown fun _ _ e => Heap.get?_push_of_some _ e) { cls := .type "list", data := .seq (slicePick its lo hi none) }
  rw [Heap.size_push] at N1
  show Q (.ref (s.heap.push _).objs.size) _
  rw [Heap.size_push]
  exact h _ _ ((F.push _).push _) N1 fun p hp => Nat.lt_succ_of_lt (Heap.lt_size (N p hp).1)

end
section
namespace C9
noncomputable abbrev T := (Program) × (World) × (Around) × (Value → Shared → Prop) × (Shared) × (Frag) × (Addr) × (Addr) × (Addr) × (Heap) × (Str → Option Value) × (Obj) × (Addr) × (Addr) × (Array Value) × (Array Value) × (Nat) × (Nat) × (Value) × (Value) × (Option Int) × (Option Int) × (Nat → List (Addr × Obj)) × (Unit → Shared → Prop)
noncomputable def Pf (prog : Program) (w : World) (A : Around) (E : Value → Shared → Prop) (s : Shared) (K : Frag) (L : Addr) (x : Addr) (dx : Addr) (h₀ : Heap) (m : Str → Option Value) (ox : Obj) (sl : Addr) (D : Addr) (its : Array Value) (ys : Array Value) (n : Nat) (n₂ : Nat) (vl : Value) (vu : Value) (lo : Option Int) (hi : Option Int) (nw : Nat → List (Addr × Obj)) (Q : Unit → Shared → Prop) : Prop := ∀ (news : List (Addr × Obj)) (F : Fr h₀ L s.heap m) (X₀ : K.In h₀) (N : News h₀ L s.heap news) (hd : s.heap.get? dx = some ox) (hq : noSeq K 124 = true) (hf : findIn K (.ref 124) "__setitem__" = some (some (.builtin "list.__setitem__"))) (hm : mroIn K 124 (.type "list") = some true) (hs : s.heap.IsSliceOf sl vl vu .none) (pl : IsPart vl lo) (pu : IsPart vu hi) (hD : s.heap.get? D = some (listOf ys n₂)) (hne : (x == D) = false) (a : Nat) (b : Nat) (hb : sliceBounds lo hi none its.size = ((a : Int), (b : Int), 1)) (U : ∀ n', Upd x (accObj dx its n) (accObj dx (its.extract 0 a ++ ys ++ its.extract (max a b) its.size) n') news (nw n')) (h : ∀ h' n', Fr h₀ L h' m → News h₀ L h' (nw n') → Q () { s with heap := h' }) (hsz : its.size + ys.size ≤ sizeLine), wpAny (model prog w) A (setItem (.ref x) (.ref sl) (.ref D)) Q E s
noncomputable def Q_ (z : T) : Prop := Pf z.1 (z.2.1) (z.2.2.1) (z.2.2.2.1) (z.2.2.2.2.1) (z.2.2.2.2.2.1) (z.2.2.2.2.2.2.1) (z.2.2.2.2.2.2.2.1) (z.2.2.2.2.2.2.2.2.1) (z.2.2.2.2.2.2.2.2.2.1) (z.2.2.2.2.2.2.2.2.2.2.1) (z.2.2.2.2.2.2.2.2.2.2.2.1) (z.2.2.2.2.2.2.2.2.2.2.2.2.1) (z.2.2.2.2.2.2.2.2.2.2.2.2.2.1) (z.2.2.2.2.2.2.2.2.2.2.2.2.2.2.1) (z.2.2.2.2.2.2.2.2.2.2.2.2.2.2.2.1) (z.2.2.2.2.2.2.2.2.2.2.2.2.2.2.2.2.1) (z.2.2.2.2.2.2.2.2.2.2.2.2.2.2.2.2.2.1) (z.2.2.2.2.2.2.2.2.2.2.2.2.2.2.2.2.2.2.1) (z.2.2.2.2.2.2.2.2.2.2.2.2.2.2.2.2.2.2.2.1) (z.2.2.2.2.2.2.2.2.2.2.2.2.2.2.2.2.2.2.2.2.1) (z.2.2.2.2.2.2.2.2.2.2.2.2.2.2.2.2.2.2.2.2.2.1) (z.2.2.2.2.2.2.2.2.2.2.2.2.2.2.2.2.2.2.2.2.2.2.1) (z.2.2.2.2.2.2.2.2.2.2.2.2.2.2.2.2.2.2.2.2.2.2.2)
theorem ne : Nonempty T := ⟨(Classical.choice inferInstance, Classical.choice Mine.neW, Classical.choice Mine.neA, Classical.choice inferInstance, Classical.choice Mine.neS, Classical.choice inferInstance, Classical.choice inferInstance, Classical.choice inferInstance, Classical.choice inferInstance, Classical.choice inferInstance, Classical.choice inferInstance, Classical.choice inferInstance, Classical.choice inferInstance, Classical.choice inferInstance, Classical.choice inferInstance, Classical.choice inferInstance, Classical.choice inferInstance, Classical.choice inferInstance, Classical.choice inferInstance, Classical.choice inferInstance, Classical.choice inferInstance, Classical.choice inferInstance, Classical.choice inferInstance, Classical.choice inferInstance)⟩
noncomputable def z_ : T := @Classical.epsilon _ ne fun z => ¬ Q_ z
@[irreducible] noncomputable def prog : Program := z_.1
@[irreducible] noncomputable def w : World := z_.2.1
@[irreducible] noncomputable def A : Around := z_.2.2.1
@[irreducible] noncomputable def E : Value → Shared → Prop := z_.2.2.2.1
@[irreducible] noncomputable def s : Shared := z_.2.2.2.2.1
@[irreducible] noncomputable def K : Frag := z_.2.2.2.2.2.1
@[irreducible] noncomputable def L : Addr := z_.2.2.2.2.2.2.1
@[irreducible] noncomputable def x : Addr := z_.2.2.2.2.2.2.2.1
@[irreducible] noncomputable def dx : Addr := z_.2.2.2.2.2.2.2.2.1
@[irreducible] noncomputable def h₀ : Heap := z_.2.2.2.2.2.2.2.2.2.1
@[irreducible] noncomputable def m : Str → Option Value := z_.2.2.2.2.2.2.2.2.2.2.1
@[irreducible] noncomputable def ox : Obj := z_.2.2.2.2.2.2.2.2.2.2.2.1
@[irreducible] noncomputable def sl : Addr := z_.2.2.2.2.2.2.2.2.2.2.2.2.1
@[irreducible] noncomputable def D : Addr := z_.2.2.2.2.2.2.2.2.2.2.2.2.2.1
@[irreducible] noncomputable def its : Array Value := z_.2.2.2.2.2.2.2.2.2.2.2.2.2.2.1
@[irreducible] noncomputable def ys : Array Value := z_.2.2.2.2.2.2.2.2.2.2.2.2.2.2.2.1
@[irreducible] noncomputable def n : Nat := z_.2.2.2.2.2.2.2.2.2.2.2.2.2.2.2.2.1
@[irreducible] noncomputable def n₂ : Nat := z_.2.2.2.2.2.2.2.2.2.2.2.2.2.2.2.2.2.1
@[irreducible] noncomputable def vl : Value := z_.2.2.2.2.2.2.2.2.2.2.2.2.2.2.2.2.2.2.1
@[irreducible] noncomputable def vu : Value := z_.2.2.2.2.2.2.2.2.2.2.2.2.2.2.2.2.2.2.2.1
@[irreducible] noncomputable def lo : Option Int := z_.2.2.2.2.2.2.2.2.2.2.2.2.2.2.2.2.2.2.2.2.1
@[irreducible] noncomputable def hi : Option Int := z_.2.2.2.2.2.2.2.2.2.2.2.2.2.2.2.2.2.2.2.2.2.1
@[irreducible] noncomputable def nw : Nat → List (Addr × Obj) := z_.2.2.2.2.2.2.2.2.2.2.2.2.2.2.2.2.2.2.2.2.2.2.1
@[irreducible] noncomputable def Q : Unit → Shared → Prop := z_.2.2.2.2.2.2.2.2.2.2.2.2.2.2.2.2.2.2.2.2.2.2.2
theorem core : Pf prog w A E s K L x dx h₀ m ox sl D its ys n n₂ vl vu lo hi nw Q := by
  unfold Pf
  intro news F X₀ N hd hq hf hm hs pl pu hD hne a b hb U h hsz
  obtain ⟨pre, post, e1, -, -, -⟩ := (U 0).split
  have z := N (x, accObj dx its n) (by rw [e1]; simp)
  have X : K.In s.heap := X₀.keeps F.keep
  have I := InstAt.of_acc z.1 hd
  obtain ⟨os, hos, hcs, hds⟩ := id hs
  have hTs : s.TypeIs (.ref sl) "slice" := ⟨os, hos, hcs⟩
  have hTD : s.TypeIs (.ref D) "list" := ⟨_, hD, rfl⟩
  unfold setItem sequenceKey
  refine wpAny_holding (wpAny_bind (wpAny_bind (I.type.here ?_)))
  refine wpAny_bind ((anyM_none X hq).here ?_)
  rw [if_pos (show (!false) = true from rfl)]
  refine wpAny_pure (wpAny_bind (special_bi X I hf slot_list_setitem.bind ?_))
  refine callB (owner := "list") (n := "__setitem__") slot_list_setitem.plain entry_list_setitem (by first | exact .inl (by decide +kernel) | exact .inr (by decide +kernel)) (by decide +kernel) (I.type.andThen (looks_mroIn X hm)) (args_list_si _ _ _) ?_
  show wpAny _ _ (Builtin.List.listSubscript? (.ref sl) >>= _) _ _ s
  refine wpAny_bind ?_
  unfold Builtin.List.listSubscript?
  refine wpAny_bind (wpAny_specialOf hTs slice_no_index ?_)
  simp -iota only [Option.isNone_none, if_true]
  try dsimp only
  refine wpAny_pure ?_
  show wpAny _ _ (typeOf (.ref sl) >>= _) _ _ s
  refine wpAny_bind (wpAny_typeOf hTs ?_)
  rw [if_neg (by decide)]
  rw [listSliceParts_eq]
  have hstep := step_part none (by simp)
  refine wpAny_bind (wpAny_bind (wpAny_field hos hds (x := .none) rfl (wpAny_bind (wpAny_listPart .none ?_))))
  rw [if_neg hstep]
  refine wpAny_bind (wpAny_field hos hds (x := vl) rfl (wpAny_bind (wpAny_listPart pl ?_)))
  refine wpAny_bind (wpAny_field hos hds (x := vu) rfl (wpAny_bind (wpAny_listPart pu (wpAny_pure ?_))))
  have hsame : Builtin.List.listSameRef (.ref x) (.ref D) = false := hne
  rw [if_neg (show ¬ (Builtin.List.listSameRef (.ref x) (.ref D) = true) by rw [hsame]; exact Bool.false_ne_true)]
  unfold Builtin.List.listAllItems Builtin.List.listItems
  refine wpAny_bind (wpAny_bind (wpAny_typeOf hTD ?_))
  rw [if_pos (by decide)]
  refine wpAny_bind (wpAny_seqItems hD rfl (wpAny_pure ?_))
  refine wpAny_bind (wpAny_bind (wpAny_seqItems z.1 rfl (wpAny_pure ?_)))
  refine wpAny_bind (wpAny_of_eq (sliceIndices_raw lo hi none its.size (by simp)) ?_)
  rw [hb]
  show wpAny _ _ (if ((1 : Int) == 1) = true then _ else _) _ _ s
  rw [if_pos (by decide)]
  refine wpAny_bind (wpAny_rule ?_)
  have hlong : ¬ (Builtin.List.listTooLong (its.size + ys.size) = true) := by
    unfold Builtin.List.listTooLong
    simp -iota only [decide_eq_true_eq]
    try dsimp only
    omega
  rw [if_neg hlong]
  show wpAny _ _ (updateSeq x (fun xs => xs.extract 0 ((a : Int)).toNat ++ ys ++ xs.extract (max (a : Int) (b : Int)).toNat xs.size) >>= _) _ _ s
  have hmx : (max (a : Int) (b : Int)).toNat = max a b := by omega
  have hf1 : (fun xs : Array Value => xs.extract 0 ((a : Int)).toNat ++ ys ++ xs.extract (max (a : Int) (b : Int)).toNat xs.size) = fun xs => xs.extract 0 a ++ ys ++ xs.extract (max a b) xs.size := by
    funext xs; rw [hmx]; rfl
  rw [hf1]
  refine wpAny_bind (wpAny_updateSeq z.1 rfl ?_ (by omega) (by simp only [Array.size_append, Array.size_extract]; omega))
  refine wpAny_bind (wpAny_letGo ?_)
  refine wpAny_pure (wpAny_pure ?_)
  obtain ⟨k, hk⟩ : ∃ k, (Obj.mapSeq (fun xs => xs.extract 0 a ++ ys ++ xs.extract (max a b) xs.size)) (accObj dx its n) = accObj dx (its.extract 0 a ++ ys ++ its.extract (max a b) its.size) k := ⟨_, rfl⟩
  obtain ⟨pre, post, rfl, e2, h1, h2⟩ := (U k).split
  obtain ⟨U1, U2⟩ := news_upd (f := Obj.mapSeq (fun xs => xs.extract 0 a ++ ys ++ xs.extract (max a b) xs.size)) F N h1 h2 hk rfl
  exact h _ k U1 (e2 ▸ U2)
theorem all (y : T) : Q_ y := eps_all ne Q_ (by with_unfolding_all exact core) y
end C9
end
section
variable {prog : Program} {w : World} {A : Around} {E : Value → Shared → Prop} {s : Shared} {K : Frag} {C L x dx : Addr} {h₀ : Heap} {m : Str → Option Value} {news news' : List (Addr × Obj)} {ox : Obj} {od : Option Obj} {name : Str}
theorem setItem_acc {sl D : Addr} {its ys : Array Value} {n n₂ : Nat} {vl vu : Value} {lo hi : Option Int} {nw : Nat → List (Addr × Obj)} {Q : Unit → Shared → Prop} (F : Fr h₀ L s.heap m) (X₀ : K.In h₀) (N : News h₀ L s.heap news) (hd : s.heap.get? dx = some ox) (hq : noSeq K 124 = true)
    (hf : findIn K (.ref 124) "__setitem__" = some (some (.builtin "list.__setitem__"))) (hm : mroIn K 124 (.type "list") = some true)
    (hs : s.heap.IsSliceOf sl vl vu .none) (pl : IsPart vl lo) (pu : IsPart vu hi) (hD : s.heap.get? D = some (listOf ys n₂)) (hne : (x == D) = false)
    (a b : Nat) (hb : sliceBounds lo hi none its.size = ((a : Int), (b : Int), 1))
    (U : ∀ n', Upd x (accObj dx its n) (accObj dx (its.extract 0 a ++ ys ++ its.extract (max a b) its.size) n') news (nw n'))
    (h : ∀ h' n', Fr h₀ L h' m → News h₀ L h' (nw n') → Q () { s with heap := h' }) (hsz : its.size + ys.size ≤ sizeLine) :
    wpAny (model prog w) A (setItem (.ref x) (.ref sl) (.ref D)) Q E s :=
  C9.all (prog, w, A, E, s, K, L, x, dx, h₀, m, ox, sl, D, its, ys, n, n₂, vl, vu, lo, hi, nw, Q) news F X₀ N hd hq hf hm hs pl pu hD hne a b hb U h hsz
end
end
-- text ZME
section
theorem enterS {prog : Program} {w : World} {A : Around} {s : Shared} {H : Heap} {K : Frag} {p : Program} {loose : List Str} {mg mb : Str → Option Value}
  {R : Result → Shared → Prop} {name qual : Str} {params : Arguments} {body : List Stmt} {scope : Scope} {dV kV doc pm cdv ct oc : Value} {an od : Option Addr} {osl : Array (Option Value)} {f cc : Addr} {args : Args} {binds : List (Str × Value)}
  (own : List (Addr × Obj)) (X : K.In H) (T : TopRead p loose mg mb H) (hk : ∀ b o, H.get? b = some o → s.heap.get? b = some o)
  (hN : ∀ q ∈ own, s.heap.get? q.1 = some q.2 ∧ H.get? q.1 = none)
  (ho : K.lookup f = some ⟨oc, od, .func (ksFn name qual params body scope dV kV doc pm an cdv ct cc), osl⟩) (hcd : codeIn K cdv qual = true) (hroom : A.depth < recursionLimit)
  (hbind : BindsTo s (ksFn name qual params body scope dV kV doc pm an cdv ct cc) args binds) (hloc : ∀ y ∈ binds, scope.names.lookup y.1 = some .local)
  (h : ∀ g L h₁, (∀ b o, s.heap.get? b = some o → b ∉ own.map (·.1) → g.get? b = some o) → (∀ b o, g.get? b = some o → s.heap.get? b = some o) → Fr g L h₁ (fun y => binds.reverse.lookup y) → News g L h₁ own → K.In g → TopRead p loose mg mb g → (∀ b o, H.get? b = some o → g.get? b = some o) →
      (∀ p ∈ own, p.1 < L) →
      PySem.wpAt (model prog w) (A.deeper (ksEnv qual scope L f cdv cc)) (.func body (ksEnv qual scope L f cdv cc)) (execs body (ksEnv qual scope L f cdv cc))
        (fun fl s' => R (.ok (.ret (match fl with | .ret v => v | _ => .none))) s')
        (fun e s' => wpAny (model prog w) (A.deeper (ksEnv qual scope L f cdv cc)) (leaving (ksEnv qual scope L f cdv cc) e) (fun _ s'' => R (.error e) s'') (fun e' s'' => R (.error e') s'') s')
        { s with heap := h₁, toks := s.toks + binds.length })
  (hcell : ∀ x ∈ scope.names, x.2 ≠ .cell) (hco : scope.isCoroutine = false) (hgen : scope.isGenerator = false) (hkd : scope.kind = .function) :
  codeAny (model prog w) A (.call (.ref f) args) R s := by
  have Xs : K.In s.heap := X.keeps hk
  refine ks_codeAny_call_defAt (fd := ksFn name qual params body scope dV kV doc pm an cdv ct cc) (body := body) (binds := binds) hroom (Xs _ _ ho) rfl (T.nolimit.keeps hk) (codeRec_of Xs hcd) rfl hbind hcell hloc (fun h₁ hns hk₁ => ?_) hco hgen hkd
  have nm : ∀ b o, H.get? b = some o → b ∉ own.map (·.1) := fun b o e q => by
    obtain ⟨p, hp, rfl⟩ := List.mem_map.mp q
    rw [(hN p hp).2] at e; cases e
  have st : ∀ b o, H.get? b = some o → (hideAll s.heap (own.map (·.1))).get? b = some o := fun b o e => hideAll_get _ (hk b o e) (nm b o e)
  exact h (hideAll s.heap (own.map (·.1))) s.heap.objs.size h₁ (fun b o e q => hideAll_get _ e q) (fun b o e => of_hideAll _ e) ⟨hns, fun b o e => hk₁ b o (of_hideAll _ e), Nat.le_of_eq (hideAll_size _ _)⟩
    (fun q hq => ⟨hk₁ _ _ (hN q hq).1, Nat.ne_of_lt (Heap.lt_size (hN q hq).1), hideAll_none _ (List.mem_map_of_mem hq)⟩) (X.keeps st) (T.keeps st) st (fun q hq => Heap.lt_size (hN q hq).1)

section
variable {prog : Program} {w : World} {A : Around} {E : Value → Shared → Prop} {s : Shared} {h₀ : Heap} {L : Addr} {m mg mb : Str → Option Value} {news : List (Addr × Obj)} {K : Frag} {p : Program} {loose : List Str} {x C D f cc cda so : Addr} {ox : Obj} {odx : Option Obj}
theorem node_M {body : List Stmt} {q : Str} {scope : Scope} {p0 p1 : Pos} {attr : Str} {whole : Sem Value} {fd : FuncData} {ar : Arg} {vs : Array Value} {file : Str} {tf : Tok} {oc ccl cl : Value} {od cdd cld : Option Addr} {osl ccs csl : Array (Option Value)} {cdD : ClassData} {Q : Value → Shared → Prop}
    (F : Fr h₀ L s.heap m) (X₀ : K.In h₀) (N : News h₀ L s.heap news) (T : TopRead p loose mg mb h₀)
    (hf : K.lookup f = some ⟨oc, od, .func fd, osl⟩) (hp : (fd.params.posonlyargs ++ fd.params.args).head? = some ar) (hv : m ar.arg = some (.ref x)) (I : InstAt s.heap x ox C odx)
    (hcode : K.lookup cda = some ⟨ccl, cdd, .fields vs, ccs⟩) (hvs : vs[2]? = some (.str file tf)) (hfile : ((prog.main.file : Str) == file) = true)
    (hcell : K.lookup cc = some ⟨cl, cld, .cell (some (.ref D)), csl⟩) (hD : clsIn K D = some cdD) (hsub : mroIn K C (.ref D) = some true) (hsuper : nsIn K mainGlobals "super" = some none)
    (hat : (attr == ("__class__" : Str)) = false) (hks : scope.names.lookup ("super" : Str) = some .globalImplicit) (hkc : scope.names.lookup ("__class__" : Str) = some .free) (hka : scope.names.lookup ar.arg = some .local) (hk : scope.kind = .function)
    (htop : (prog.main.scope.names.lookup ("super" : Str)).isSome = false) (hboot : bootBuiltins "super" = some (.type "super"))
    (h : ∀ so h', Fr h₀ L h' m → News h₀ L h' ((so, ks_superObj D x C) :: news) → (∀ p ∈ news, p.1 < so) → Q (.ref so) { s with heap := h' }) :
    PySem.wpAt (model prog w) A (.func body (ksEnv q scope L f (.ref cda) cc)) (attributeBase (.Call (.Name "super" p0) [] [] p1) attr (ksEnv q scope L f (.ref cda) cc) whole) Q E s := by
  have X : K.In s.heap := X₀.keeps F.keep
  obtain ⟨hh, g, d, t, os⟩ := s
  obtain ⟨oD, hD1, hD2⟩ : ∃ oD, hh.get? D = some oD ∧ oD.data = .cls cdD := by
    unfold clsIn at hD
    split at hD
    · rename_i c d cd' sl ho
      cases hD
      exact ⟨_, X _ _ ho, rfl⟩
    · cases hD
  refine ks_wpAt_super_base (env := ksEnv q scope L f (.ref cda) cc) hks hkc hat rfl (X _ _ hf) rfl hp rfl (X _ _ hcode) rfl hvs hfile htop ?_
  refine ks_loadName_global hk hks (loadGlobal_builtin (env := ksEnv q scope L f (.ref cda) cc) (T.g.keeps F.keep) (mg_none_of X₀ T.g hsuper) (T.b.keeps F.keep) ((T.builtins _ (by decide +kernel)).trans hboot) ⟨rfl, ?_⟩)
  refine wpAny_loadName_free hk hkc rfl ⟨_, X _ _ hcell, rfl⟩ ?_
  refine wpAny_loadName_local hk hka F.ns hv ?_
  refine ks_wpAny_isType_cls hD1 hD2 ⟨rfl, ?_⟩
  refine ks_wpAny_call_super hD1 hD2 I.at_ I.cls (fun c e => ?_) (looks_mroIn X hsub) (fun h' e k => ?_)
  · have := I.no
    unfold notCls at this
    rw [e] at this
    exact Bool.noConfusion this
  · obtain ⟨F', N', l'⟩ := ks_newsPush (s := ⟨hh, g, d, t, os⟩) F N rfl e k
    exact h _ _ F' N' l'
end

noncomputable abbrev boundObj (ty id : String) (x : Addr) : Obj := { cls := .type ty, dict := none, data := .fields #[.builtin id, .ref x], slots := #[] }
noncomputable def lookAt (name : Str) (owner : String) (x : Value) : Sem Unit := do
  if !(← isInstance x (.type owner)) then
    rule "descr.get.wrong-instance"
    raiseError "TypeError" s!"descriptor '{name.toString}' for '{← typeName (.type owner)}' objects doesn't apply to a '{← typeNameOf x}' object"
open PySem.Builtin in
theorem get_len (x C : Addr) : «wrapper_descriptor.__get__» ⟨[.builtin "list.__len__", .ref x, .ref C], []⟩ = (lookAt "__len__" "list" (.ref x) >>= fun _ => newFields "method-wrapper" [.builtin "list.__len__", .ref x] >>= ret) := by kernel_rfl
open PySem.Builtin in
theorem get_init (x C : Addr) : «wrapper_descriptor.__get__» ⟨[.builtin "list.__init__", .ref x, .ref C], []⟩ = (lookAt "__init__" "list" (.ref x) >>= fun _ => newFields "method-wrapper" [.builtin "list.__init__", .ref x] >>= ret) := by kernel_rfl
open PySem.Builtin in
theorem get_pop (x C : Addr) : «method_descriptor.__get__» ⟨[.builtin "list.pop", .ref x, .ref C], []⟩ = (lookAt "pop" "list" (.ref x) >>= fun _ => newFields "builtin_function_or_method" [.builtin "list.pop", .ref x] >>= ret) := by kernel_rfl
theorem entry_wget : entryFor table "wrapper_descriptor.__get__" = some Builtin.«wrapper_descriptor.__get__» := entryFor_of_tree (by kernel_rfl)
theorem entry_mget : entryFor table "method_descriptor.__get__" = some Builtin.«method_descriptor.__get__» := entryFor_of_tree (by kernel_rfl)
theorem plain_wget : plainId "wrapper_descriptor.__get__" = true := by decide +kernel
theorem plain_mget : plainId "method_descriptor.__get__" = true := by decide +kernel
theorem chk_wlen (x C : Addr) : checkBuiltinCall "wrapper_descriptor.__get__" ⟨[.builtin "list.__len__", .ref x, .ref C], []⟩ = pure () := by kernel_rfl
theorem chk_winit (x C : Addr) : checkBuiltinCall "wrapper_descriptor.__get__" ⟨[.builtin "list.__init__", .ref x, .ref C], []⟩ = pure () := by kernel_rfl
theorem chk_mpop (x C : Addr) : checkBuiltinCall "method_descriptor.__get__" ⟨[.builtin "list.pop", .ref x, .ref C], []⟩ = pure () := by kernel_rfl

section
variable {prog : Program} {w : World} {M : Model} {A : Around} {E : Value → Shared → Prop} {h : Heap} {g : Array GenState} {d : Drawn} {t : Nat} {os : OsState} {x C D so : Addr} {K : Frag}
theorem lookAt_ok {name : Str} {owner : String} {Q : Unit → Shared → Prop} {s : Shared} (hi : Looks M s.heap (isInstance (.ref x) (.type owner)) true) (q : Q () s) : wpAny M A (lookAt name owner (.ref x)) Q E s := by
  unfold lookAt
  refine wpAny_bind (hi.here ?_)
  simp only [Bool.not_true, Bool.false_eq_true, if_false]
  exact wpAny_pure q

noncomputable def Binds (prog : Program) (w : World) (h : Heap) (id ty gid : String) (x C : Addr) : Prop := ∀ (A : Around) (Q : Value → Shared → Prop) (E : Value → Shared → Prop) (g : Array GenState) (d : Drawn) (t : Nat) (os : OsState),
  Q (.ref h.objs.size) ⟨h.push (boundObj ty id x), g, d, t, os⟩ → wpAny (model prog w) A (call (.builtin gid) [.builtin id, .ref x, .ref C]) Q E ⟨h, g, d, t, os⟩
theorem binds_of {id ty gid : String} {name : Str} {Bi : Builtin} (hp : plainId gid = true) (he : entryFor table gid = some Bi) (hc : checkBuiltinCall gid ⟨[.builtin id, .ref x, .ref C], []⟩ = pure ())
    (hb : Bi ⟨[.builtin id, .ref x, .ref C], []⟩ = (lookAt name "list" (.ref x) >>= fun _ => newFields ty [.builtin id, .ref x] >>= ret)) (hi : Looks (model prog w) h (isInstance (.ref x) (.type "list")) true) : Binds prog w h id ty gid x C := by
  intro A Q E g d t os q
  refine wpAny_call (codeAny_call_builtin hp he ?_)
  rw [hc]
  refine wpAny_pure ?_
  rw [hb]
  refine wpAny_bind (lookAt_ok (s := ⟨h, g, d, t, os⟩) hi (wpAny_bind ?_))
  refine wpAny_newObj_type (wpAny_pure ?_) (by show (2 : Nat) ≤ _; rw [sizeLine_eq]; decide)
  exact q

end
section
namespace D8
noncomputable abbrev T := (Program) × (World) × (Around) × (Value → Shared → Prop) × (Heap) × (Array GenState) × (Drawn) × (Nat) × (OsState) × (Addr) × (Addr) × (Addr) × (Addr) × (Frag) × (String) × (String) × (String) × (String) × (List Value) × (List Value) × (Str) × (Tok) × (PySem.Fin → Shared → Prop)
noncomputable def Pf (prog : Program) (w : World) (A : Around) (E : Value → Shared → Prop) (h : Heap) (g : Array GenState) (d : Drawn) (t : Nat) (os : OsState) (x : Addr) (C : Addr) (D : Addr) (so : Addr) (K : Frag) (id : String) (ty : String) (gid : String) (tyd : String) (l₀ : List Value) (l : List Value) (name : Str) (tk : Tok) (Q : PySem.Fin → Shared → Prop) : Prop := ∀ (hso : h.get? so = some { cls := .type "super", dict := none, data := .fields #[.ref D, .ref x, .ref C], slots := #[] }) (hno : Looks (model prog w) h (opaqueClassAbove (.ref C)) none) (hC : Looks (model prog w) h (mroOf (.ref C)) l₀) (hl : (l₀.dropWhile (· != .ref D)).drop 1 = l) (X : K.In h) (hf : alongIn K name l = some (some (.builtin id))) (hty : typeIn K (.builtin id) = some (.type tyd)) (hg : typeLookup (.type tyd) "__get__" = pure (some (.builtin gid))) (B : Binds prog w h id ty gid x C) (hxC : x ≠ C) (hn : (name == ("__class__" : Str)) = false) (hq : Q (.done (.ret (.ref h.objs.size))) ⟨h.push (boundObj ty id x), g, d, t, os⟩), wpAny (model prog w) A (Builtin.«super.__getattribute__» ⟨[.ref so, .str name tk], []⟩) Q E ⟨h, g, d, t, os⟩
noncomputable def Q_ (z : T) : Prop := Pf z.1 (z.2.1) (z.2.2.1) (z.2.2.2.1) (z.2.2.2.2.1) (z.2.2.2.2.2.1) (z.2.2.2.2.2.2.1) (z.2.2.2.2.2.2.2.1) (z.2.2.2.2.2.2.2.2.1) (z.2.2.2.2.2.2.2.2.2.1) (z.2.2.2.2.2.2.2.2.2.2.1) (z.2.2.2.2.2.2.2.2.2.2.2.1) (z.2.2.2.2.2.2.2.2.2.2.2.2.1) (z.2.2.2.2.2.2.2.2.2.2.2.2.2.1) (z.2.2.2.2.2.2.2.2.2.2.2.2.2.2.1) (z.2.2.2.2.2.2.2.2.2.2.2.2.2.2.2.1) (z.2.2.2.2.2.2.2.2.2.2.2.2.2.2.2.2.1) (z.2.2.2.2.2.2.2.2.2.2.2.2.2.2.2.2.2.1) (z.2.2.2.2.2.2.2.2.2.2.2.2.2.2.2.2.2.2.1) (z.2.2.2.2.2.2.2.2.2.2.2.2.2.2.2.2.2.2.2.1) (z.2.2.2.2.2.2.2.2.2.2.2.2.2.2.2.2.2.2.2.2.1) (z.2.2.2.2.2.2.2.2.2.2.2.2.2.2.2.2.2.2.2.2.2.1) (z.2.2.2.2.2.2.2.2.2.2.2.2.2.2.2.2.2.2.2.2.2.2)
theorem ne : Nonempty T := ⟨(Classical.choice inferInstance, Classical.choice Mine.neW, Classical.choice Mine.neA, Classical.choice inferInstance, Classical.choice inferInstance, Classical.choice inferInstance, ({} : Drawn), Classical.choice inferInstance, Classical.choice inferInstance, Classical.choice inferInstance, Classical.choice inferInstance, Classical.choice inferInstance, Classical.choice inferInstance, Classical.choice inferInstance, Classical.choice inferInstance, Classical.choice inferInstance, Classical.choice inferInstance, Classical.choice inferInstance, Classical.choice inferInstance, Classical.choice inferInstance, Classical.choice inferInstance, Classical.choice inferInstance, Classical.choice inferInstance)⟩
noncomputable def z_ : T := @Classical.epsilon _ ne fun z => ¬ Q_ z
@[irreducible] noncomputable def prog : Program := z_.1
@[irreducible] noncomputable def w : World := z_.2.1
@[irreducible] noncomputable def A : Around := z_.2.2.1
@[irreducible] noncomputable def E : Value → Shared → Prop := z_.2.2.2.1
@[irreducible] noncomputable def h : Heap := z_.2.2.2.2.1
@[irreducible] noncomputable def g : Array GenState := z_.2.2.2.2.2.1
@[irreducible] noncomputable def d : Drawn := z_.2.2.2.2.2.2.1
@[irreducible] noncomputable def t : Nat := z_.2.2.2.2.2.2.2.1
@[irreducible] noncomputable def os : OsState := z_.2.2.2.2.2.2.2.2.1
@[irreducible] noncomputable def x : Addr := z_.2.2.2.2.2.2.2.2.2.1
@[irreducible] noncomputable def C : Addr := z_.2.2.2.2.2.2.2.2.2.2.1
@[irreducible] noncomputable def D : Addr := z_.2.2.2.2.2.2.2.2.2.2.2.1
@[irreducible] noncomputable def so : Addr := z_.2.2.2.2.2.2.2.2.2.2.2.2.1
@[irreducible] noncomputable def K : Frag := z_.2.2.2.2.2.2.2.2.2.2.2.2.2.1
@[irreducible] noncomputable def id : String := z_.2.2.2.2.2.2.2.2.2.2.2.2.2.2.1
@[irreducible] noncomputable def ty : String := z_.2.2.2.2.2.2.2.2.2.2.2.2.2.2.2.1
@[irreducible] noncomputable def gid : String := z_.2.2.2.2.2.2.2.2.2.2.2.2.2.2.2.2.1
@[irreducible] noncomputable def tyd : String := z_.2.2.2.2.2.2.2.2.2.2.2.2.2.2.2.2.2.1
@[irreducible] noncomputable def l₀ : List Value := z_.2.2.2.2.2.2.2.2.2.2.2.2.2.2.2.2.2.2.1
@[irreducible] noncomputable def l : List Value := z_.2.2.2.2.2.2.2.2.2.2.2.2.2.2.2.2.2.2.2.1
@[irreducible] noncomputable def name : Str := z_.2.2.2.2.2.2.2.2.2.2.2.2.2.2.2.2.2.2.2.2.1
@[irreducible] noncomputable def tk : Tok := z_.2.2.2.2.2.2.2.2.2.2.2.2.2.2.2.2.2.2.2.2.2.1
@[irreducible] noncomputable def Q : PySem.Fin → Shared → Prop := z_.2.2.2.2.2.2.2.2.2.2.2.2.2.2.2.2.2.2.2.2.2.2
theorem core : Pf prog w A E h g d t os x C D so K id ty gid tyd l₀ l name tk Q := by
  unfold Pf
  intro hso hno hC hl X hf hty hg B hxC hn hq
  have hne : (Value.ref x == Value.ref C) = false := by simp [hxC]
  have hdt : ({ cls := .type "super", dict := none, data := .fields #[.ref D, .ref x, .ref C], slots := #[] } : Obj).data = .fields #[.ref D, .ref x, .ref C] := rfl
  have f0 : (#[.ref D, .ref x, .ref C] : Array Value)[0]? = some (.ref D) := rfl
  have f1 : (#[.ref D, .ref x, .ref C] : Array Value)[1]? = some (.ref x) := rfl
  have f2 : (#[.ref D, .ref x, .ref C] : Array Value)[2]? = some (.ref C) := rfl
  have Lt : Looks (model prog w) h (typeOf (.builtin id)) (.type tyd) := looks_typeIn X hty
  have Lg : Looks (model prog w) h (typeLookup (.type tyd) "__get__") (some (.builtin gid)) := Looks.of_pure hg
  have B' := B
  unfold Binds at B'
  unfold Builtin.«super.__getattribute__»
  repeat (first
    | (with_reducible refine wpAny_field hso hdt f0 ?_) | (with_reducible refine wpAny_field hso hdt f1 ?_) | (with_reducible refine wpAny_field hso hdt f2 ?_)
    | (with_reducible refine ks_wpAny_notOpaque hno ?_)
    | (with_reducible refine Looks.at hC ?_; rw [hl])
    | (refine ks_forIn_along X (fun _ _ => rfl) rfl ?_ hf)
    | (with_reducible refine Looks.at Lt ?_)
    | (with_reducible refine Looks.at Lg ?_)
    | (with_reducible refine B' _ _ _ _ _ _ _ ?_)
    | (simp only [hn, hne, Bool.or_false, Bool.false_eq_true, if_false])
    | wp_step
    | dsimp only)
  all_goals exact hq

theorem all (y : T) : Q_ y := eps_all ne Q_ (by with_unfolding_all exact core) y
end D8
end
section
variable {prog : Program} {w : World} {M : Model} {A : Around} {E : Value → Shared → Prop} {h : Heap} {g : Array GenState} {d : Drawn} {t : Nat} {os : OsState} {x C D so : Addr} {K : Frag}
theorem super_ga_bi {id ty gid tyd : String} {l₀ l : List Value} {name : Str} {tk : Tok} {Q : PySem.Fin → Shared → Prop}
    (hso : h.get? so = some { cls := .type "super", dict := none, data := .fields #[.ref D, .ref x, .ref C], slots := #[] }) (hno : Looks (model prog w) h (opaqueClassAbove (.ref C)) none)
    (hC : Looks (model prog w) h (mroOf (.ref C)) l₀) (hl : (l₀.dropWhile (· != .ref D)).drop 1 = l) (X : K.In h)
    (hf : alongIn K name l = some (some (.builtin id))) (hty : typeIn K (.builtin id) = some (.type tyd)) (hg : typeLookup (.type tyd) "__get__" = pure (some (.builtin gid))) (B : Binds prog w h id ty gid x C) (hxC : x ≠ C) (hn : (name == ("__class__" : Str)) = false)
    (hq : Q (.done (.ret (.ref h.objs.size))) ⟨h.push (boundObj ty id x), g, d, t, os⟩) :
    wpAny (model prog w) A (Builtin.«super.__getattribute__» ⟨[.ref so, .str name tk], []⟩) Q E ⟨h, g, d, t, os⟩ :=
  D8.all (prog, w, A, E, h, g, d, t, os, x, C, D, so, K, id, ty, gid, tyd, l₀, l, name, tk, Q) hso hno hC hl X hf hty hg B hxC hn hq
theorem getMethod_super_bi {id ty gid tyd : String} {l₀ l : List Value} {name : Str} {pl : Sem Bool} {Q : Value × List Value → Shared → Prop}
    (hso : h.get? so = some { cls := .type "super", dict := none, data := .fields #[.ref D, .ref x, .ref C], slots := #[] }) (hno : Looks (model prog w) h (opaqueClassAbove (.ref C)) none)
    (hC : Looks (model prog w) h (mroOf (.ref C)) l₀) (hl : (l₀.dropWhile (· != .ref D)).drop 1 = l) (X : K.In h)
    (hf : alongIn K name l = some (some (.builtin id))) (hty : typeIn K (.builtin id) = some (.type tyd)) (hg : typeLookup (.type tyd) "__get__" = pure (some (.builtin gid))) (B : Binds prog w h id ty gid x C) (hxC : x ≠ C) (hn : (name == ("__class__" : Str)) = false)
    (hq : Q (.ref h.objs.size, []) ⟨h.push (boundObj ty id x), g, d, t + 1, os⟩) :
    wpAny (model prog w) A (getMethod (.ref so) name pl) Q E ⟨h, g, d, t, os⟩ := by
  have hlk := PySem.F.ks_slot_super_ga.lookup
  have hcan := PySem.F.ks_canon_super_ga
  have hT : ∀ t', (⟨h, g, d, t', os⟩ : Shared).TypeIs (.ref so) "super" := fun _ => ⟨_, hso, rfl⟩
  unfold getMethod
  refine wpAny_bind (wpAny_specialOf (hT _) hlk ?_)
  show wpAny _ _ (if (Manifest.canonical "super.__getattribute__" != "object.__getattribute__") = true then _ else _) _ _ _
  rw [if_pos hcan]
  unfold getAttr getAttrBy
  refine wpAny_bind (wpAny_bind (wpAny_mkText (wpAny_holding (wpAny_bind (wpAny_typeOf (hT _) (wpAny_bind (wpAny_of_eq hlk ?_)))))))
  show wpAny _ _ (getAttrByItsOwn (.ref so) (.str name t) (.type "super") (.builtin "super.__getattribute__") true false) _ _ _
  unfold getAttrByItsOwn hookBefore callGetattribute boundAndCalled
  refine wpAny_bind (wpAny_of_eq (show (if onTheHeap (.type "super") then typeLookup (.type "super") "__getattr__" else pure none) = pure none from rfl) ?_)
  refine wpAny_bind (wpAny_attempt (wpAny_holding ?_))
  show wpAny _ _ (bindSpecial (.builtin "super.__getattribute__") (.ref so) >>= _) _ _ _
  refine wpAny_bind (wpAny_of_eq (PySem.F.ks_slot_super_ga.bind _) ?_)
  refine wpAny_mono (Q := fun v s' => v = .ref h.objs.size ∧ s' = ⟨h.push (boundObj ty id x), g, d, t + 1, os⟩) (E := fun _ _ => False)
    (wpAny_call_entry PySem.F.ks_slot_super_ga (hT _) PySem.F.ks_entry_super_ga (super_ga_bi hso hno hC hl X hf hty hg B hxC hn ⟨_, rfl, rfl, rfl⟩) (PySem.F.ks_gaArgs_super _ _)) (fun v s' hv => ?_) fun _ _ z => z.elim
  obtain ⟨rfl, rfl⟩ := hv
  exact wpAny_pure (wpAny_pure hq)

theorem call_bound {id ty : String} {Bi : Builtin} {q : Addr} {args : List Value} {Q : Value → Shared → Prop} {s : Shared} (hq : s.heap.get? q = some (boundObj ty id x)) (hty : (Value.type ty == .type "method" || Value.type ty == .type "builtin_function_or_method" || Value.type ty == .type "method-wrapper") = true) (hnm : (Value.type ty != .type "method") = true)
    (hp : plainId id = true) (he : entryFor table id = some Bi) (hchk : ∀ (A : Around) (Q : Unit → Shared → Prop) (E : Value → Shared → Prop), Q () s → wpAny (model prog w) A (checkBoundCall id ⟨.ref x :: args, []⟩) Q E s)
    (h : wpAny (model prog w) A.in1 (Bi ⟨.ref x :: args, []⟩) (fun fin s' => match fin with | .done (.ret v) => Q v s' | .done _ => False | .again c' => c'.quiet = true ∧ codeAny (model prog w) A c' (fun r s' => match r with | .ok (.ret v) => Q v s' | .ok _ => False | .error e => E e s') s') E s) :
    wpAny (model prog w) A (call (.ref q) args) Q E s := by
  refine wpAny_call (codeAny_of_tree ?_)
  show wpAny _ A.in1 (callAny (.ref q) _) _ _ _
  unfold callAny
  refine wpAny_bind (wpAny_load hq ?_)
  dsimp only
  rw [if_pos hty]
  show wpAny _ _ (if (Value.type ty != .type "method") = true then _ else _) _ _ _
  rw [if_pos hnm]
  refine wpAny_bind (hchk _ _ _ ?_)
  refine wpAny_pure (a := PySem.Fin.again _) ⟨plainId_quiet hp _, codeAny_builtin he ?_⟩
  rw [Around.under_plainId hp _]
  refine wpAny_mono h (fun fin s' z => ?_) fun _ _ e => e
  rcases fin with (_ | _ | _ | _) | _ <;> exact z
end
end
-- text ZMF
section
theorem lk_wget : typeLookup (.type "wrapper_descriptor") "__get__" = pure (some (.builtin "wrapper_descriptor.__get__")) := by rw [typeLookup_type, builtinLookup_eq_fast]; kernel_rfl
theorem lk_mget : typeLookup (.type "method_descriptor") "__get__" = pure (some (.builtin "method_descriptor.__get__")) := by rw [typeLookup_type, builtinLookup_eq_fast]; kernel_rfl
section
variable {prog : Program} {w : World} {A : Around} {E : Value → Shared → Prop} {s : Shared} {h₀ : Heap} {L : Addr} {m : Str → Option Value} {news news' : List (Addr × Obj)} {K : Frag} {x dx C D so q : Addr} {ox : Obj} {odx : Option Obj}

theorem superM {id ty gid tyd : String} {name : Str} {pl : Sem Bool} {Q : Value × List Value → Shared → Prop} (F : Fr h₀ L s.heap m) (X₀ : K.In h₀) (N : News h₀ L s.heap news) (hso : (so, ks_superObj D x C) ∈ news) (I : InstAt s.heap x ox C odx) (ho : nsIn K cStatics "thirdparty.any" = some none)
    (hm : ks_superIn K C D name = some (some (.builtin id))) (hty : typeIn K (.builtin id) = some (.type tyd)) (hg : typeLookup (.type tyd) "__get__" = pure (some (.builtin gid))) (hli : mroIn K C (.type "list") = some true) (hB : ∀ h, Looks (model prog w) h (isInstance (.ref x) (.type "list")) true → Binds prog w h id ty gid x C) (hn : (name == ("__class__" : Str)) = false)
    (h : ∀ q h', Fr h₀ L h' m → News h₀ L h' ((q, boundObj ty id x) :: news) → (∀ p ∈ news, p.1 < q) → Q (.ref q, []) { s with heap := h', toks := s.toks + 1 }) : wpAny (model prog w) A (getMethod (.ref so) name pl) Q E s := by
  have X : K.In s.heap := X₀.keeps F.keep
  obtain ⟨hh, g, d, t, os⟩ := s
  cases hc : clsIn K C with
  | none => unfold ks_superIn at hm; rw [hc] at hm; cases hm
  | some cd =>
    unfold ks_superIn at hm
    rw [hc] at hm
    refine getMethod_super_bi (N _ hso).1 (looks_opaque X ho) (l₀ := cd.mro) ?_ rfl X hm hty hg (hB hh (I.type.andThen (looks_mroIn X hli))) (ks_ne X I hc) hn ?_
    · exact fun A Q E s k q => wpAny_bind ((looks_clsIn X hc) A _ E s k (wpAny_pure q))
    · obtain ⟨F', N', l'⟩ := ks_newsPush (s := ⟨hh, g, d, t, os⟩) (o := boundObj ty id x) F N rfl (Heap.get?_push_at rfl rfl) (fun b o e => Heap.get?_push_of_some _ e)
      exact h _ _ F' N' l'

theorem chkb_len (x : Addr) : checkBoundCall "list.__len__" ⟨[.ref x], []⟩ = pure () := by kernel_rfl
theorem chkb_init (x : Addr) : checkBoundCall "list.__init__" ⟨[.ref x], []⟩ = pure () := by kernel_rfl
theorem entry_linit : entryFor table "list.__init__" = some Builtin.«list.__init__» := entryFor_of_tree (by kernel_rfl)
theorem entry_lpop : entryFor table "list.pop" = some Builtin.«list.pop» := entryFor_of_tree (by kernel_rfl)
theorem super_len {its : Array Value} {n : Nat} {Q : Value → Shared → Prop} (hq : s.heap.get? q = some (boundObj "method-wrapper" "list.__len__" x)) (hx : s.heap.get? x = some (accObj dx its n))
    (h : Q (.int its.size s.toks) { s with toks := s.toks + 1 }) : wpAny (model prog w) A (call (.ref q) []) Q E s := by
  refine call_bound hq (by decide +kernel) (by decide +kernel) slot_list_len.plain entry_list_len (fun A Q E q => by rw [chkb_len]; exact wpAny_pure q) ?_
  show wpAny _ _ (seqSize x >>= fun n => mkInt n >>= ret) _ _ s
  unfold seqSize
  refine wpAny_bind (wpAny_bind (wpAny_loadPart hx (wpAny_pure (wpAny_bind (wpAny_mkInt ?_)))))
  exact wpAny_pure h
theorem super_init {n : Nat} {Q : Value → Shared → Prop} (F : Fr h₀ L s.heap m) (N : News h₀ L s.heap news) (hq : s.heap.get? q = some (boundObj "method-wrapper" "list.__init__" x)) (hne : q ≠ x) (U : Upd x (accObj dx #[] n) (accObj dx #[] n) news news')
    (h : ∀ h', Fr h₀ L h' m → News h₀ L h' news' → Q .none { s with heap := h' }) : wpAny (model prog w) A (call (.ref q) []) Q E s := by
  obtain ⟨pre, post, rfl, rfl, a, b⟩ := U.split
  have z := N (x, accObj dx #[] n) (by simp)
  refine call_bound hq (by decide +kernel) (by decide +kernel) (by decide +kernel) entry_linit (fun A Q E q => by rw [chkb_init]; exact wpAny_pure q) ?_
  show wpAny _ _ (Builtin.List.listItems (.ref x) >>= fun old => updateSeq x (fun _ => #[]) >>= fun _ => letGo old.toList.reverse >>= fun _ => ret .none) _ _ s
  unfold Builtin.List.listItems
  refine wpAny_bind (wpAny_bind (wpAny_seqItems z.1 rfl (wpAny_pure ?_)))
  refine wpAny_bind (wpAny_updateSeq z.1 rfl (wpAny_bind (wpAny_letGo (wpAny_pure ?_))) (by decide +kernel) (by decide +kernel))
  obtain ⟨U1, U2⟩ := news_upd (o' := accObj dx #[] n) (f := Obj.mapSeq (fun _ => #[])) F N a b rfl rfl
  exact h _ U1 U2
theorem chkb_pop {s : Shared} {cd : ClassData} (X : K.In s.heap) (I : InstAt s.heap x ox C odx) (hmod : mroIn K C (.type "module") = some false) (hcd : clsIn K C = some cd) (hqn : cd.qualname = Str.ofString "_Accumulator") (ht : typeIn K (.ref C) = some (.type "type")) (A : Around) (Q : Unit → Shared → Prop) (E : Value → Shared → Prop) (q : Q () s) : wpAny (model prog w) A (checkBoundCall "list.pop" ⟨[.ref x], []⟩) Q E s := by
  unfold checkBoundCall
  rw [show Manifest.signature? "list.pop" = some ⟨.positional, "list.pop", "pop", .self, [⟨"index", .posOnly, false⟩]⟩ by kernel_rfl]
  rw [show builtinKind "list.pop" = some .method by decide +kernel]
  dsimp only
  rw [if_neg (by decide)]
  refine wpAny_bind ((show Looks (model prog w) s.heap (isInstance (.ref x) (.type "module")) false from I.type.andThen (looks_mroIn X hmod)).here ?_)
  rw [if_neg (by decide +kernel)]
  have hty : Looks (model prog w) s.heap (isType (.ref x)) false := by
    intro A Q E s' k q
    refine ks_wpAny_isType_inst (h := s'.heap) (g := s'.gens) (d := s'.drawn) (t := s'.toks) (os := s'.os) (k _ _ I.at_) (fun c e => ?_) q
    have := I.no
    unfold notCls at this
    rw [e] at this
    exact Bool.noConfusion this
  refine wpAny_bind (hty.here ?_)
  rw [if_neg (by decide)]
  refine wpAny_bind (I.type.here ?_)
  dsimp only
  refine wpAny_bind ((looks_clsIn X hcd).here ?_)
  rw [hqn]
  refine wpAny_bind ((looks_typeIn X ht).here ?_)
  rw [if_pos (by decide)]
  rw [show Bind.checkArgs "list.pop" ({ machinery := .positional, full := s!"{(Str.ofString "_Accumulator").toString}.{Bind.lastOf "list.pop"}", short := "pop", receiver := .self, params := [⟨"index", .posOnly, false⟩] }) ⟨[.ref x], []⟩ = pure () by kernel_rfl]
  exact wpAny_pure q
theorem super_pop {ys : Array Value} {v : Value} {n : Nat} {cd : ClassData} {odx : Obj} {Q : Value → Shared → Prop} (F : Fr h₀ L s.heap m) (X₀ : K.In h₀) (N : News h₀ L s.heap news) (hq : s.heap.get? q = some (boundObj "builtin_function_or_method" "list.pop" x)) (hd : s.heap.get? dx = some odx)
    (hmod : mroIn K 124 (.type "module") = some false) (hcd : clsIn K 124 = some cd) (hqn : cd.qualname = Str.ofString "_Accumulator") (ht : typeIn K (.ref 124) = some (.type "type"))
    (U : Upd x (accObj dx (ys.push v) n) (accObj dx ys (n + 1)) news news') (hsz : ys.size < sizeLine)
    (h : ∀ h', Fr h₀ L h' m → News h₀ L h' news' → Q v { s with heap := h' }) : wpAny (model prog w) A (call (.ref q) []) Q E s := by
  obtain ⟨pre, post, rfl, rfl, a, b⟩ := U.split
  have z := N (x, accObj dx (ys.push v) n) (by simp)
  have I := InstAt.of_acc z.1 hd
  refine call_bound hq (by decide +kernel) (by decide +kernel) (by decide +kernel) entry_lpop (fun A Q E q => chkb_pop (X₀.keeps F.keep) I hmod hcd hqn ht A Q E q) ?_
  show wpAny _ _ (Builtin.List.listItems (.ref x) >>= _) _ _ s
  unfold Builtin.List.listItems
  refine wpAny_bind (wpAny_bind (wpAny_seqItems z.1 rfl (wpAny_pure ?_)))
  rw [if_neg (by simp)]
  have e : ((seqIndex? (-1) (ys.push v).size).bind fun k => (ys.push v)[k]?.map (k, ·)) = some (ys.size, v) := by
    unfold seqIndex?
    rw [if_pos (show (-1 : Int) < 0 by decide)]
    have h1 : (decide (0 ≤ -1 + ((ys.push v).size : Int)) && decide (-1 + ((ys.push v).size : Int) < ((ys.push v).size : Int))) = true := by
      simp only [Array.size_push, Bool.and_eq_true, decide_eq_true_eq]; omega
    rw [if_pos h1, Option.bind_some]
    have h2 : (-1 + ((ys.push v).size : Int)).toNat = ys.size := by simp only [Array.size_push]; omega
    rw [h2]; simp
  rw [e]
  show wpAny _ _ (updateSeq x (·.eraseIdxIfInBounds ys.size) >>= fun _ => ret v) _ _ s
  have e2 : (ys.push v).eraseIdxIfInBounds ys.size = ys := by
    apply Array.ext'
    rw [Array.toList_eraseIdxIfInBounds, Array.toList_push, List.eraseIdx_append_of_length_le (by simp)]
    simp
  refine wpAny_bind (wpAny_updateSeq z.1 rfl (wpAny_pure ?_) (by rw [Array.size_push]; omega) (by rw [e2]; omega))
  have e3 : (Obj.mapSeq (·.eraseIdxIfInBounds ys.size)) (accObj dx (ys.push v) n) = accObj dx ys (n + 1) := by
    simp [Obj.mapSeq, accObj, e2]
  obtain ⟨U1, U2⟩ := news_upd (f := Obj.mapSeq (·.eraseIdxIfInBounds ys.size)) F N a b e3 rfl
  exact h _ U1 U2
end
end
-- text ZMG
section
structure Aft (s s' : Shared) (own own' : List (Addr × Obj)) : Prop where
  keep : ∀ b o, s.heap.get? b = some o → b ∉ own.map (·.1) → s'.heap.get? b = some o
  got : ∀ p ∈ own', s'.heap.get? p.1 = some p.2 ∧ (p.1 ∈ own.map (·.1) ∨ s.heap.get? p.1 = none)
  os : s'.os = s.os
  bare : AllBare s.gens → AllBare s'.gens
theorem Aft.of {s s' : Shared} {own own' own'' : List (Addr × Obj)} {g : Heap} {L : Addr} {m : Str → Option Value} (hkg : ∀ b o, s.heap.get? b = some o → b ∉ own.map (·.1) → g.get? b = some o) (F : Fr g L s'.heap m) (N : News g L s'.heap own'')
    (hs : ∀ p ∈ own', p ∈ own'') (os : s'.os = s.os) (bare : AllBare s.gens → AllBare s'.gens) : Aft s s' own own' := by
  refine ⟨fun b o e q => F.keep b o (hkg b o e q), fun p hp => ⟨(N p (hs p hp)).1, ?_⟩, os, bare⟩
  by_cases q : p.1 ∈ own.map (·.1)
  · exact .inl q
  · right
    cases e : s.heap.get? p.1 with
    | none => rfl
    | some o => have := (N p (hs p hp)).2.2; rw [hkg _ _ e q] at this; cases this
theorem Aft.fr {s s' : Shared} {own own' : List (Addr × Obj)} {h₀ : Heap} {L : Addr} {m : Str → Option Value} (a : Aft s s' own own') (F : Fr h₀ L s.heap m) (hL : L ∉ own.map (·.1)) (hb : ∀ b ∈ own.map (·.1), h₀.get? b = none) : Fr h₀ L s'.heap m := by
  obtain ⟨oL, es, ep, hL', r⟩ := F.ns
  refine ⟨⟨oL, es, ep, a.keep _ _ hL' hL, r⟩, fun b o e => a.keep b o (F.keep b o e) fun q => ?_, F.above⟩
  rw [hb b q] at e; cases e
theorem Aft.news {s s' : Shared} {own own' rest news : List (Addr × Obj)} {h₀ : Heap} {L : Addr} {m : Str → Option Value} (a : Aft s s' own own') (F : Fr h₀ L s.heap m) (N : News h₀ L s.heap news) (hown : ∀ b ∈ own.map (·.1), b ≠ L ∧ h₀.get? b = none)
    (hr : ∀ p ∈ rest, p ∈ news ∧ p.1 ∉ own.map (·.1)) : News h₀ L s'.heap (own' ++ rest) := by
  intro p hp
  rcases List.mem_append.mp hp with hp | hp
  · obtain ⟨e, q⟩ := a.got p hp
    refine ⟨e, ?_⟩
    rcases q with q | q
    · exact hown _ q
    · obtain ⟨oL, es, ep, hL', r⟩ := F.ns
      refine ⟨fun z => (by rw [z, hL'] at q; cases q), ?_⟩
      cases e' : h₀.get? p.1 with
      | none => rfl
      | some o => rw [F.keep _ _ e'] at q; cases q
  · obtain ⟨hp, hn⟩ := hr p hp
    exact ⟨a.keep _ _ (N p hp).1 hn, (N p hp).2⟩
section
variable {M : Model} {A : Around} {E : Value → Shared → Prop} {s : Shared} {env : Env} {pos : Pos} {first : List Value} {Q : Value → Shared → Prop} {q : Addr}
theorem keeper_bound {h : Heap} {ty : String} {vs : Array Value} (hq : h.get? q = some { cls := .type ty, dict := none, data := .fields vs, slots := #[] }) (hty : (ty == "builtin_function_or_method" || ty == "method-wrapper") = true) : Looks M h (keeperOf (.ref q)) Keeper.machine := by
  refine (Looks.ld (part := none) hq).andThen ?_
  rcases Bool.or_eq_true_iff.mp hty with e | e <;> (rw [beq_iff_eq.mp e]; exact .now)
theorem callWith_B0 {ty : String} {vs : Array Value} (hq : s.heap.get? q = some { cls := .type ty, dict := none, data := .fields vs, slots := #[] }) (hty : (ty == "builtin_function_or_method" || ty == "method-wrapper") = true) (h : wpAny M A (call (.ref q) (first ++ [])) Q E s) : wpAny M A (callWith pos (.ref q) first (backTo pos (starEach [] env)) []) Q E s :=
  callWith_of (P := fun h => h.get? q = some { cls := .type ty, dict := none, data := .fields vs, slots := #[] }) rfl (fun _ e => ⟨_, .inr (.inl rfl), keeper_bound e hty⟩) (evalArgs_nil3 ⟨hq, h⟩)
theorem callWith_B {K : Frag} {ty : String} {vs : Array Value} {e : Expr} {rest : List Expr} (hq : K.lookup q = some { cls := .type ty, dict := none, data := .fields vs, slots := #[] }) (hty : (ty == "builtin_function_or_method" || ty == "method-wrapper") = true)
    (h : wpAny M A (spliced (backTo pos (starEach (e :: rest) env))) (fun vs s₁ => K.In s₁.heap ∧ wpAny M A (call (.ref q) (first ++ vs)) Q E s₁) E s)
    (he : starEach (e :: rest) env = (false, eval e env) :: starEach rest env) (hplain : (backTo pos (starEach rest env)).any (·.1) = false) :
    wpAny M A (callWith pos (.ref q) first (backTo pos (starEach (e :: rest) env)) []) Q E s := by
  rw [he] at h ⊢
  exact callWith_of (by show ((false || (backTo pos (starEach rest env)).any (·.1)) || false) = false; rw [hplain]; rfl) (fun h X => ⟨_, .inr (.inl rfl), keeper_bound (X _ _ hq) hty⟩) (evalArgs_plain h)
end
end
-- text ZMH
section
open PySem.Builtin PySem.Builtin.ObjectAttr
noncomputable def makesL (K : Frag) (C : Addr) : Bool := match K.lookup C with
  | some ⟨_, _, .cls cd, sl⟩ => !cd.abstract && !cd.hasDel && (sl.toList[4]?).join == some (.builtin "list.__new__") && !cd.mro.isEmpty && cd.mro.contains (.ref C) && cd.mro.contains (.type "list") &&
      specialIn K (.ref C) "__call__" == some (some (.builtin "type.__call__")) && instIn K (.ref C) (.type "type") == some true
  | _ => false
noncomputable abbrev accObj' (C dx : Addr) : Obj := { cls := .ref C, dict := some dx, data := .seq #[] 0 }
structure MakesL (M : Model) (h : Heap) (C : Addr) : Prop where
  obj : ∃ oc od cd sl, h.get? C = some ⟨oc, od, .cls cd, sl⟩ ∧ cd.abstract = false ∧ cd.hasDel = false ∧ cd.mro.isEmpty = false
  made : Looks M h (Bind.madeBy (.ref C)) (some "list.__new__")
  base : Looks M h (Bind.staticBase (.ref C)) (.ref C)
  self : Looks M h (isSubtype (.ref C) (.ref C)) true
  top : Looks M h (isSubtype (.ref C) (.type "list")) true
  call : Looks M h (specialOf (.ref C) "__call__") (some (.builtin "type.__call__"))
  typ : Looks M h (isInstance (.ref C) (.type "type")) true
theorem makesL_of {K : Frag} {M : Model} {h : Heap} (X : K.In h) {C : Addr} (e : makesL K C = true) : MakesL M h C := by
  unfold makesL at e
  split at e
  · rename_i oc od cd sl ho
    simp only [Bool.and_eq_true, Bool.not_eq_true', beq_iff_eq] at e
    obtain ⟨⟨⟨⟨⟨⟨⟨e1, e2⟩, e3⟩, e4⟩, e5⟩, e6⟩, e7⟩, e8⟩ := e
    have hc : clsIn K C = some cd := by unfold clsIn; rw [ho]
    have hm : Looks M h (mroOf (.ref C)) cd.mro := (looks_clsIn X hc).andThen .now
    obtain ⟨c, l, hl⟩ : ∃ c l, cd.mro = c :: l := by cases q : cd.mro with | nil => rw [q] at e4; cases e4 | cons c l => exact ⟨c, l, rfl⟩
    have made : Looks M h (Bind.madeBy (.ref C)) (some "list.__new__") := by
      intro A Q E s k q
      unfold Bind.madeBy
      refine wpAny_bind (hm A _ E s k ?_)
      rw [hl, List.forIn_cons]
      refine wpAny_bind (wpAny_bind (wpAny_bind (wpAny_bind (wpAny_loadPart (k _ _ (X _ _ ho)) (wpAny_pure ?_)))))
      dsimp only
      rw [← Array.getElem?_toList, e3]
      exact wpAny_pure (wpAny_pure (wpAny_pure q))
    refine ⟨⟨oc, od, cd, sl, X _ _ ho, e1, e2, e4⟩, made, ?_, looks_mroIn X ?_, looks_mroIn X ?_, looks_specialIn X e7, looks_instIn X e8⟩
    · intro A Q E s k q
      unfold Bind.staticBase
      refine wpAny_bind (hm A _ E s k ?_)
      rw [hl, List.forIn_cons]
      exact wpAny_bind (wpAny_bind (wpAny_bind (made A _ E s k (wpAny_pure (wpAny_pure (wpAny_pure q))))))
    · unfold mroIn; rw [hc, Option.bind_some, if_neg (by rw [e4]; decide), e5]
    · unfold mroIn; rw [hc, Option.bind_some, if_neg (by rw [e4]; decide), e6]
  · cases e
noncomputable def lnewSig : Manifest.Signature := ⟨.any, "list", "list", .cls, [⟨"args", .varPos, false⟩, ⟨"kwargs", .varKw, false⟩]⟩
theorem lnew_split : splitId "list.__new__" = some ("list", "__new__") := by decide +kernel
theorem lnew_kind : builtinKind "list.__new__" = some .builtinFn := by decide +kernel
section
variable {prog : Program} {w : World} {A : Around} {K : Frag} {C x : Addr} {R : Result → Shared → Prop} {h : Heap} {g : Array GenState} {d : Drawn} {t : Nat} {os : OsState}
end
section
namespace D4
noncomputable abbrev T := (Program) × (World) × (Around) × (Addr) × (Heap) × (Array GenState) × (Drawn) × (Nat) × (OsState) × (Value) × (Value → Shared → Prop) × (Unit → Shared → Prop)
noncomputable def Pf (prog : Program) (w : World) (A : Around) (C : Addr) (h : Heap) (g : Array GenState) (d : Drawn) (t : Nat) (os : OsState) (v : Value) (E : Value → Shared → Prop) (Q : Unit → Shared → Prop) : Prop := ∀ (Y : MakesL (model prog w) h C) (q : Q () ⟨h, g, d, t, os⟩), wpAny (model prog w) A (checkBuiltinCall "list.__new__" ⟨[.ref C, v], []⟩) Q E ⟨h, g, d, t, os⟩
noncomputable def Q_ (z : T) : Prop := Pf z.1 (z.2.1) (z.2.2.1) (z.2.2.2.1) (z.2.2.2.2.1) (z.2.2.2.2.2.1) (z.2.2.2.2.2.2.1) (z.2.2.2.2.2.2.2.1) (z.2.2.2.2.2.2.2.2.1) (z.2.2.2.2.2.2.2.2.2.1) (z.2.2.2.2.2.2.2.2.2.2.1) (z.2.2.2.2.2.2.2.2.2.2.2)
theorem ne : Nonempty T := ⟨(Classical.choice inferInstance, Classical.choice Mine.neW, Classical.choice Mine.neA, Classical.choice inferInstance, Classical.choice inferInstance, Classical.choice inferInstance, ({} : Drawn), Classical.choice inferInstance, Classical.choice inferInstance, Classical.choice inferInstance, Classical.choice inferInstance, Classical.choice inferInstance)⟩
noncomputable def z_ : T := @Classical.epsilon _ ne fun z => ¬ Q_ z
@[irreducible] noncomputable def prog : Program := z_.1
@[irreducible] noncomputable def w : World := z_.2.1
@[irreducible] noncomputable def A : Around := z_.2.2.1
@[irreducible] noncomputable def C : Addr := z_.2.2.2.1
@[irreducible] noncomputable def h : Heap := z_.2.2.2.2.1
@[irreducible] noncomputable def g : Array GenState := z_.2.2.2.2.2.1
@[irreducible] noncomputable def d : Drawn := z_.2.2.2.2.2.2.1
@[irreducible] noncomputable def t : Nat := z_.2.2.2.2.2.2.2.1
@[irreducible] noncomputable def os : OsState := z_.2.2.2.2.2.2.2.2.1
@[irreducible] noncomputable def v : Value := z_.2.2.2.2.2.2.2.2.2.1
@[irreducible] noncomputable def E : Value → Shared → Prop := z_.2.2.2.2.2.2.2.2.2.2.1
@[irreducible] noncomputable def Q : Unit → Shared → Prop := z_.2.2.2.2.2.2.2.2.2.2.2
theorem core : Pf prog w A C h g d t os v E Q := by
  unfold Pf
  intro Y q
  obtain ⟨⟨oc, od, cd, sl, hC, e1, e2, e4⟩, made, base, self, top, call, typ⟩ := Y
  have hsig : Manifest.signature? "list.__new__" = some lnewSig ∧ Bind.checkArgs "list.__new__" lnewSig ⟨[.ref C, v], []⟩ = pure () := ⟨by kernel_rfl, by kernel_rfl⟩
  simp only [checkBuiltinCall, lnew_kind, lnew_split, hsig.1]
  have ht : Looks (model prog w) h (isType (.ref C)) true := by
    intro A Q E s' k q
    exact ks_wpAny_isType_cls (h := s'.heap) (g := s'.gens) (d := s'.drawn) (t := s'.toks) (os := s'.os) (k _ _ hC) rfl q
  rw [if_pos (by decide)]
  refine wpAny_bind (ht.at ?_)
  simp only [Bool.not_true, Bool.false_eq_true, if_false]
  refine wpAny_bind (top.at ?_)
  simp only [Bool.not_true, Bool.false_eq_true, if_false]
  refine wpAny_bind (base.at (wpAny_bind (made.at ?_)))
  dsimp only
  rw [if_neg (by decide +kernel), hsig.2]
  exact wpAny_pure q
theorem all (y : T) : Q_ y := eps_all ne Q_ (by with_unfolding_all exact core) y
end D4
end
section
variable {prog : Program} {w : World} {A : Around} {K : Frag} {C x : Addr} {R : Result → Shared → Prop} {h : Heap} {g : Array GenState} {d : Drawn} {t : Nat} {os : OsState}
theorem chk_lnew {v : Value} {E : Value → Shared → Prop} {Q : Unit → Shared → Prop} (Y : MakesL (model prog w) h C) (q : Q () ⟨h, g, d, t, os⟩) : wpAny (model prog w) A (checkBuiltinCall "list.__new__" ⟨[.ref C, v], []⟩) Q E ⟨h, g, d, t, os⟩ :=
  D4.all (prog, w, A, C, h, g, d, t, os, v, E, Q) Y q
end
section
namespace D5
noncomputable abbrev T := (Program) × (World) × (Around) × (Addr) × (Result → Shared → Prop) × (Heap) × (Array GenState) × (Drawn) × (Nat) × (OsState) × (Value)
noncomputable def Pf (prog : Program) (w : World) (A : Around) (C : Addr) (R : Result → Shared → Prop) (h : Heap) (g : Array GenState) (d : Drawn) (t : Nat) (os : OsState) (v : Value) : Prop := ∀ (Y : MakesL (model prog w) h C) (hq : R (.ok (.ret (.ref (h.objs.size + 1)))) ⟨(h.push emptyDict).push (accObj' C h.objs.size), g, d, t, os⟩), codeAny (model prog w) A (.call (.builtin "list.__new__") ⟨[.ref C, v], []⟩) R ⟨h, g, d, t, os⟩
noncomputable def Q_ (z : T) : Prop := Pf z.1 (z.2.1) (z.2.2.1) (z.2.2.2.1) (z.2.2.2.2.1) (z.2.2.2.2.2.1) (z.2.2.2.2.2.2.1) (z.2.2.2.2.2.2.2.1) (z.2.2.2.2.2.2.2.2.1) (z.2.2.2.2.2.2.2.2.2.1) (z.2.2.2.2.2.2.2.2.2.2)
theorem ne : Nonempty T := ⟨(Classical.choice inferInstance, Classical.choice Mine.neW, Classical.choice Mine.neA, Classical.choice inferInstance, Classical.choice inferInstance, Classical.choice inferInstance, Classical.choice inferInstance, ({} : Drawn), Classical.choice inferInstance, Classical.choice inferInstance, Classical.choice inferInstance)⟩
noncomputable def z_ : T := @Classical.epsilon _ ne fun z => ¬ Q_ z
@[irreducible] noncomputable def prog : Program := z_.1
@[irreducible] noncomputable def w : World := z_.2.1
@[irreducible] noncomputable def A : Around := z_.2.2.1
@[irreducible] noncomputable def C : Addr := z_.2.2.2.1
@[irreducible] noncomputable def R : Result → Shared → Prop := z_.2.2.2.2.1
@[irreducible] noncomputable def h : Heap := z_.2.2.2.2.2.1
@[irreducible] noncomputable def g : Array GenState := z_.2.2.2.2.2.2.1
@[irreducible] noncomputable def d : Drawn := z_.2.2.2.2.2.2.2.1
@[irreducible] noncomputable def t : Nat := z_.2.2.2.2.2.2.2.2.1
@[irreducible] noncomputable def os : OsState := z_.2.2.2.2.2.2.2.2.2.1
@[irreducible] noncomputable def v : Value := z_.2.2.2.2.2.2.2.2.2.2
theorem core : Pf prog w A C R h g d t os v := by
  unfold Pf
  intro Y hq
  have Y' := Y
  obtain ⟨⟨oc, od, cd, sl, hC, e1, e2, e4⟩, made, base, self, top, call, typ⟩ := Y
  refine codeAny_of_tree ?_
  show wpAny _ A.in1 (do checkBuiltinCall "list.__new__" ⟨[.ref C, v], []⟩; again (.builtin "list.__new__" ⟨[.ref C, v], []⟩)) _ _ _
  refine wpAny_bind (chk_lnew Y' (wpAny_pure ⟨plainId_quiet PySem.F.plain_list_new _, codeAny_builtin_stack PySem.F.entry_list_new rfl fun p st => ?_⟩))
  rw [Around.under_plainId PySem.F.plain_list_new _]
  have hown := owner_list_new
  have ht : Looks (model prog w) h (isType (.ref C)) true := by
    intro A Q E s' k q
    exact ks_wpAny_isType_cls (h := s'.heap) (g := s'.gens) (d := s'.drawn) (t := s'.toks) (os := s'.os) (k _ _ hC) rfl q
  simp only [hown]
  refine wpAny_bind (ht.at ?_)
  simp only [Bool.not_true, Bool.false_eq_true, if_false]
  refine wpAny_bind (top.at ?_)
  simp only [Bool.not_true, Bool.false_eq_true, if_false]
  refine wpAny_bind (wpAny_pure ?_)
  rw [if_neg (show ¬ ((!typeHasDict (.ref C)) = true) from Bool.false_ne_true)]
  refine wpAny_bind (wpAny_newObj_type ?_ (by show (#[] : Array DictEntry).size ≤ _; decide +kernel))
  dsimp only
  refine wpAny_bind ?_
  unfold newObj
  dsimp only
  rw [if_neg (by decide +kernel)]
  unfold newObjAsIs classHasDel
  refine wpAny_bind (wpAny_alloc (wpAny_bind (wpAny_bind (wpAny_load (Heap.get?_push_of_some _ (Heap.get?_push_of_some _ hC)) (wpAny_pure ?_)))))
  rw [e2]
  refine wpAny_pure (wpAny_pure ?_)
  show R _ _
  rw [Heap.size_push]
  exact hq
theorem all (y : T) : Q_ y := eps_all ne Q_ (by with_unfolding_all exact core) y
end D5
end
section
variable {prog : Program} {w : World} {A : Around} {K : Frag} {C x : Addr} {R : Result → Shared → Prop} {h : Heap} {g : Array GenState} {d : Drawn} {t : Nat} {os : OsState}
theorem new_L {v : Value} (Y : MakesL (model prog w) h C)
    (hq : R (.ok (.ret (.ref (h.objs.size + 1)))) ⟨(h.push emptyDict).push (accObj' C h.objs.size), g, d, t, os⟩) :
    codeAny (model prog w) A (.call (.builtin "list.__new__") ⟨[.ref C, v], []⟩) R ⟨h, g, d, t, os⟩ :=
  D5.all (prog, w, A, C, R, h, g, d, t, os, v) Y hq
end
end
-- text ZMI
section
open PySem.Builtin PySem.Builtin.ObjectAttr
section
variable {prog : Program} {w : World} {A : Around} {K : Frag} {C x : Addr} {R : Result → Shared → Prop} {h : Heap} {g : Array GenState} {d : Drawn} {t : Nat} {os : OsState}
end
section
namespace D6
noncomputable abbrev T := (Program) × (World) × (Around) × (Addr) × (Result → Shared → Prop) × (Heap) × (Array GenState) × (Drawn) × (Nat) × (OsState) × (Value) × (Value)
noncomputable def Pf (prog : Program) (w : World) (A : Around) (C : Addr) (R : Result → Shared → Prop) (h : Heap) (g : Array GenState) (d : Drawn) (t : Nat) (os : OsState) (v : Value) (init : Value) : Prop := ∀ (Y : MakesL (model prog w) h C) (hi : Looks (model prog w) h (typeLookup (.ref C) "__init__") (some init)) (hb : ∀ self, Looks (model prog w) h (bindSpecial init self) (init, [self])) (hq : codeAny (model prog w) (A.under (.builtin "type.__call__" ⟨[.ref C, v], []⟩)) (.call init ⟨[.ref (h.objs.size + 1), v], []⟩) (InitBack (h.objs.size + 1) R) ⟨(h.push emptyDict).push (accObj' C h.objs.size), g, d, t, os⟩), codeAny (model prog w) A (.call (.ref C) ⟨[v], []⟩) R ⟨h, g, d, t, os⟩
noncomputable def Q_ (z : T) : Prop := Pf z.1 (z.2.1) (z.2.2.1) (z.2.2.2.1) (z.2.2.2.2.1) (z.2.2.2.2.2.1) (z.2.2.2.2.2.2.1) (z.2.2.2.2.2.2.2.1) (z.2.2.2.2.2.2.2.2.1) (z.2.2.2.2.2.2.2.2.2.1) (z.2.2.2.2.2.2.2.2.2.2.1) (z.2.2.2.2.2.2.2.2.2.2.2)
theorem ne : Nonempty T := ⟨(Classical.choice inferInstance, Classical.choice Mine.neW, Classical.choice Mine.neA, Classical.choice inferInstance, Classical.choice inferInstance, Classical.choice inferInstance, Classical.choice inferInstance, ({} : Drawn), Classical.choice inferInstance, Classical.choice inferInstance, Classical.choice inferInstance, Classical.choice inferInstance)⟩
noncomputable def z_ : T := @Classical.epsilon _ ne fun z => ¬ Q_ z
@[irreducible] noncomputable def prog : Program := z_.1
@[irreducible] noncomputable def w : World := z_.2.1
@[irreducible] noncomputable def A : Around := z_.2.2.1
@[irreducible] noncomputable def C : Addr := z_.2.2.2.1
@[irreducible] noncomputable def R : Result → Shared → Prop := z_.2.2.2.2.1
@[irreducible] noncomputable def h : Heap := z_.2.2.2.2.2.1
@[irreducible] noncomputable def g : Array GenState := z_.2.2.2.2.2.2.1
@[irreducible] noncomputable def d : Drawn := z_.2.2.2.2.2.2.2.1
@[irreducible] noncomputable def t : Nat := z_.2.2.2.2.2.2.2.2.1
@[irreducible] noncomputable def os : OsState := z_.2.2.2.2.2.2.2.2.2.1
@[irreducible] noncomputable def v : Value := z_.2.2.2.2.2.2.2.2.2.2.1
@[irreducible] noncomputable def init : Value := z_.2.2.2.2.2.2.2.2.2.2.2
theorem core : Pf prog w A C R h g d t os v init := by
  unfold Pf
  intro Y hi hb hq
  have Y' := Y
  obtain ⟨⟨oc, od, cd, sl, hC, e1, e2, e4⟩, made, base, self, top, call, typ⟩ := Y
  refine codeAny_of_tree ?_
  show wpAny _ _ (callAny (.ref C) _) _ _ _
  refine nd_load hC ?_
  show wpAny _ _ (callAny.viaDunder (.ref C) _) _ _ _
  unfold callAny.viaDunder
  refine wpAny_bind (call.at ?_)
  dsimp only
  rw [tc_bind]
  refine wpAny_bind (wpAny_pure (wpAny_bind (wpAny_pure ?_)))
  refine wpAny_pure (a := PySem.Fin.again (.call (.builtin "type.__call__") ⟨[.ref C, v], []⟩)) (And.intro rfl ?_)
  refine codeAny_call_builtin_at (Code.quiet_builtin _ (by decide +kernel)) entry_typeCall (check_slot tc_kind tc_split typ (tc_args _ _ _) ?_)
  unfold Builtin.«type.__call__»
  have hm : Looks (model prog w) h (mroOf (.ref C)) cd.mro := ((Looks.ld (part := none) hC).andThen .now).andThen .now
  repeat (first | simp only [e4, Bool.false_eq_true, if_false] | with_reducible refine wpAny_call ?_ | lk)
  refine new_L Y' ?_
  have k : ∀ b o, h.get? b = some o → ((h.push emptyDict).push (accObj' C h.objs.size)).get? b = some o := fun b o e => Heap.get?_push_of_some _ (Heap.get?_push_of_some _ e)
  have hx : ((h.push emptyDict).push (accObj' C h.objs.size)).get? (h.objs.size + 1) = some (accObj' C h.objs.size) := by heap_get
  have t1 : Looks (model prog w) ((h.push emptyDict).push (accObj' C h.objs.size)) (typeOf (.ref (h.objs.size + 1))) (.ref C) := (Looks.ld hx).andThen .now
  have s1 := self.keeps k
  have i1 := hi.keeps k
  have b1 := (hb (.ref (h.objs.size + 1))).keeps k
  unfold isInstance callSpecial? specialOf
  repeat (first | with_reducible refine wpAny_call ?_ | lk)
  refine codeAny_mono hq fun r s' z => ?_
  rcases r with e | (v | _ | _ | _) <;> first | exact z | exact z.elim | skip
  obtain ⟨rfl, z⟩ := z
  exact wpAny_pure (wpAny_pure z)
theorem all (y : T) : Q_ y := eps_all ne Q_ (by with_unfolding_all exact core) y
end D6
end
section
variable {prog : Program} {w : World} {A : Around} {K : Frag} {C x : Addr} {R : Result → Shared → Prop} {h : Heap} {g : Array GenState} {d : Drawn} {t : Nat} {os : OsState}
theorem make_L {v init : Value} (Y : MakesL (model prog w) h C) (hi : Looks (model prog w) h (typeLookup (.ref C) "__init__") (some init))
    (hb : ∀ self, Looks (model prog w) h (bindSpecial init self) (init, [self]))
    (hq : codeAny (model prog w) (A.under (.builtin "type.__call__" ⟨[.ref C, v], []⟩)) (.call init ⟨[.ref (h.objs.size + 1), v], []⟩) (InitBack (h.objs.size + 1) R) ⟨(h.push emptyDict).push (accObj' C h.objs.size), g, d, t, os⟩) :
    codeAny (model prog w) A (.call (.ref C) ⟨[v], []⟩) R ⟨h, g, d, t, os⟩ :=
  D6.all (prog, w, A, C, R, h, g, d, t, os, v, init) Y hi hb hq
end
section
variable {prog : Program} {w : World} {A : Around} {E : Value → Shared → Prop} {K : Frag} {C : Addr} {s : Shared} {h₀ : Heap} {L : Addr} {m : Str → Option Value} {news : List (Addr × Obj)}
theorem call_acc {v : Value} {fI : Addr} {Q : Value → Shared → Prop} (F : Fr h₀ L s.heap m) (X₀ : K.In h₀) (N : News h₀ L s.heap news) (hm : makesL K C = true)
    (hi : findIn K (.ref C) "__init__" = some (some (.ref fI))) (hf : isFn K (.ref fI) = true)
    (h : ∀ x dx h', Fr h₀ L h' m → News h₀ L h' ((x, accObj' C dx) :: (dx, dictOf [] 0) :: news) → (∀ p ∈ news, p.1 < dx) → dx < x →
      codeAny (model prog w) (A.under (.builtin "type.__call__" ⟨[.ref C, v], []⟩)) (.call (.ref fI) ⟨[.ref x, v], []⟩) (InitBack x fun r s' => match r with | .ok (.ret v) => Q v s' | .ok _ => False | .error e => E e s') { s with heap := h' }) :
    wpAny (model prog w) A (call (.ref C) [v]) Q E s := by
  refine wpAny_call ?_
  have X : K.In s.heap := X₀.keeps F.keep
  obtain ⟨hh, g, d, t, os⟩ := s
  refine make_L (makesL_of X hm) (looks_findIn X hi) (fun self => bind_fn X self (beq_iff_eq.mp hf)) (h _ hh.objs.size _ ((F.push _).push _) ?_ (fun p hp => Heap.lt_size (N p hp).1) (Nat.lt_succ_self _))
  have := (N.push F emptyDict).push (F.push _) (accObj' C hh.objs.size)
  rwa [Heap.size_push] at this
end
end
example (P : Params) (h : PySem.Challenge.rw_ik0133_01 = PySem.Challenge.rw_ik0133_01 ∧ Mine.hd.heap_39 P = Mine.hd.heap_39 P) : PySem.Challenge.rw_ik0133_01 = PySem.Challenge.rw_ik0133_01 ∧ Mine.hd.heap_39 P = Mine.hd.heap_39 P := by
  k_fill
  exact h
local macro_rules | `(tactic| walk_at $s:str) => do `(tactic| k_extra $(Lean.Syntax.mkStrLit ("~" ++ s.getString)))
local macro_rules | `(tactic| k_inst) => `(tactic| k_extra "~k_inst")
local macro_rules | `(tactic| k_in) => `(tactic| k_extra "~k_in")
local macro_rules | `(tactic| k_ne) => `(tactic| k_extra "~k_ne")
local macro_rules | `(tactic| k_all) => `(tactic| k_extra "~k_all")
example : True := by
  k_with_none
  k_with "~m:enter" => (((case k1 | k2 | k3 => assumption); (case k4 => first | assumption | (intro _ hq; cases hq)); (case k6 | k7 => k_is); (case k8 => first | assumption | omega | (simp only [depth_deeper, depth_in1, recursionLimit] at *; omega)); (case k9 => first | exact BindsTo.of_eq rfl | exact binds_K (Frag.In.keeps (by assumption) (by assumption)) rfl (by k_is) rfl rfl rfl); (case c5 => decide); (case kB => exact locs rfl); (case c2 | c3 | c4 => exact rfl)))
  k_with "~k_inst" => ((refine' InstAt.of_accN ?zqN ?zqh1 ?zqh2; (case zqN => k_asm); (case zqh1 | zqh2 => k_mem)))
  k_with "~m:shadow" => ((refine shadow_of ?_; k_get))
  k_with "~getMethod ref" => ((k_here; (first
    | (refine' method_fnG ?zqk1 ?zqk2 ?zqk3 ?zqk4 ?zqk5 ?zqk6 ?zqk7 ?zqk8 ?_; k_dflt ((case zqk1 => k_in); (case zqk2 => k_inst); (case zqk3 => k_is); (case zqk4 => first | with_reducible exact canon_list_ga | with_reducible exact PySem.F.canon_object_ga | decide +kernel); (case zqk5 | zqk6 | zqk7 => k_is); (case zqk8 => walk_at "m:shadow"); k_whole))
    | (refine' method_biG ?zqk1 ?zqk2 ?zqk3 ?zqk4 ?zqk5 ?zqk6 ?zqk7 ?zqk8 ?zqk9 ?_; k_dflt ((case zqk1 => k_in); (case zqk2 => k_inst); (case zqk3 => k_is); (case zqk4 => first | with_reducible exact canon_list_ga | with_reducible exact PySem.F.canon_object_ga | decide +kernel); (case zqk5 | zqk6 | zqk7 => k_is); (case zqk8 => decide); (case zqk9 => walk_at "m:shadow"); k_whole)))))
  k_with "~call builtin:list.append" => ((k_here; (refine' append_acc ?zqk1 ?zqk2 ?zqk3 ?zqk4 ?zqk5 ?zqk6 ?_ ?zqk7; k_dflt ((case zqk1 | zqk2 | zqk3 => k_asm); (case zqk6 => k_upd); (case zqk4 => exact (News.get (by k_asm) (by k_mem))); (case zqk5 => k_is); (case zqk7 => first | assumption | (simp only [sizeLine_eq]; omega)); k_whole)); intro _ _ _; (try k_sweep)))
  k_with "~getMethod ref" => ((k_here; ks_any; k_dflt (first
    | (refine' superM ?zqk1 ?zqk2 ?zqk3 ?zqk4 ?zqk5 ?zqk6 ?zqk7 ?zqk8 lk_wget ?zqk9 (fun h hi => binds_of plain_wget entry_wget (chk_wlen _ _) (get_len _ _) hi) ?zqk10 ?_; (case zqk1 | zqk2 | zqk3 => k_asm); (case zqk4 => k_mem); (case zqk5 => k_inst); (case zqk6 => k_is); (case zqk7 => ks_is); (case zqk8 | zqk9 => k_is); (case zqk10 => decide); k_whole; intro _ _ _ _ l1; (try (replace l1 := allLt_of l1)); revert l1; intro _; (try k_sweep))
    | (refine' superM ?zqk1 ?zqk2 ?zqk3 ?zqk4 ?zqk5 ?zqk6 ?zqk7 ?zqk8 lk_wget ?zqk9 (fun h hi => binds_of plain_wget entry_wget (chk_winit _ _) (get_init _ _) hi) ?zqk10 ?_; (case zqk1 | zqk2 | zqk3 => k_asm); (case zqk4 => k_mem); (case zqk5 => k_inst); (case zqk6 => k_is); (case zqk7 => ks_is); (case zqk8 | zqk9 => k_is); (case zqk10 => decide); k_whole; intro _ _ _ _ l1; (try (replace l1 := allLt_of l1)); revert l1; intro _; (try k_sweep))
    | (refine' superM ?zqk1 ?zqk2 ?zqk3 ?zqk4 ?zqk5 ?zqk6 ?zqk7 ?zqk8 lk_mget ?zqk9 (fun h hi => binds_of plain_mget entry_mget (chk_mpop _ _) (get_pop _ _) hi) ?zqk10 ?_; (case zqk1 | zqk2 | zqk3 => k_asm); (case zqk4 => k_mem); (case zqk5 => k_inst); (case zqk6 => k_is); (case zqk7 => ks_is); (case zqk8 | zqk9 => k_is); (case zqk10 => decide); k_whole; intro _ _ _ _ l1; (try (replace l1 := allLt_of l1)); revert l1; intro _; (try k_sweep)))))
  k_with "~wpAt" => ((ks_step "attributeBase Call"; k_here; k_dflt (refine node_M (by k_asm) (by k_asm) (by k_asm) (by k_asm) (by k_is) (by rfl) (by rfl) (by k_inst) (by k_is) (by rfl) (by first | rfl | decide +kernel) (by k_is) (by k_is) (by k_is) (by k_is) (by decide) (by rfl) (by rfl) (by rfl) (by rfl) (by decide +kernel) (by first | boot_by_name | rfl | kernel_rfl) ?_; intro _ _ _ _ l1; (try (replace l1 := allLt_of l1)); revert l1; intro _; (try k_sweep))))
  k_with "~callWith ref" => ((k_here; (first
    | (refine' callWith_B0 ?zqk1 ?zqk2 ?_; k_dflt ((case zqk1 => exact (News.get (by k_asm) (by k_mem))); (case zqk2 => decide); k_whole; try dsimp only [List.nil_append, List.cons_append]))
    | (refine' callWith_B ?zqk1 ?zqk2 ?_ ?zqk3 ?zqk4; k_dflt ((case zqk1 => k_is); (case zqk2 => decide); (case zqk3 | zqk4 => rfl); k_whole)))))
  k_with "~call ref" => ((k_here; (first
    | (refine' super_len ?zqk1 ?zqk2 ?_; k_dflt ((case zqk1 | zqk2 => exact (News.get (by k_asm) (by k_mem))); k_whole))
    | (refine' super_init ?zqk1 ?zqk2 ?zqk3 ?zqk4 ?zqk5 ?_; k_dflt ((case zqk1 | zqk2 => k_asm); (case zqk3 => exact (News.get (by k_asm) (by k_mem))); (case zqk5 => k_upd); (case zqk4 => k_ne); k_whole; intro _ _ _; (try k_sweep)))
    | (refine' super_pop ?zqk1 ?zqk2 ?zqk3 ?zqk4 ?zqk5 ?zqk6 ?zqk7 ?zqk8 ?zqk9 ?zqk10 ?zqk11 ?_; k_dflt ((case zqk1 | zqk2 | zqk3 => k_asm); (case zqk4 => exact (News.get (by k_asm) (by k_mem))); (case zqk10 => k_upd); (case zqk5 => exact (News.get (by k_asm) (by k_mem))); (case zqk6 | zqk7 => k_is); (case zqk8 => rfl); (case zqk9 => k_is); (case zqk11 => first | assumption | (simp only [sizeLine_eq]; omega)); k_whole; intro _ _ _; (try k_sweep))))))
  k_with "~m:sub" => (first | exact List.forall_mem_nil _ | (refine List.forall_mem_cons.mpr ⟨by k_mem, ?_⟩; walk_at "m:sub"))
  k_with "~setAttr ref" => ((k_here; (refine' set_acc ?zqk1 ?zqk2 ?zqk3 ?zqk4 ?zqk5 ?zqk6 ?zqk7 ?zqk8 ?zqk9 ?zqk10 ?zqk11 ?zqk12 ?zqk13 ?_; k_dflt ((case zqk1 | zqk2 | zqk3 => k_asm); (case zqk4 => k_inst); (case zqk5 => exact rfl); (case zqk6 => k_is); (case zqk7 => rfl); (case zqk8 | zqk9 => k_is); (case zqk10 => k_get); (case zqk11 => k_put); (case zqk12 => k_upd); (case zqk13 => exact Nat.le_of_ble_eq_true rfl); k_whole; intro _ _ _; (try k_sweep)))))
  k_with "~subscriptTail" => ((k_here; (with_reducible show wpAny _ _ (subscriptTail _ _ (Value.ref _) (Value.ref _)) _ _ _); (refine' slice_acc ?zqk1 ?zqk2 ?zqk3 ?zqk4 ?zqk5 ?zqk6 ?zqk7 ?zqk8 ?zqk9 ?zqk10 ?_ ?zqk11 ?zqk12 ?zqk13; k_dflt ((case zqk1 | zqk2 | zqk3 => k_asm); (case zqk4 => k_inst); (case zqk5 => exact rfl); (case zqk6 | zqk7 | zqk8 => k_is); (case zqk9 | zqk10 => first | exact IsPart.none | exact IsPart.int _ _); (case zqk11 => with_unfolding_all rfl); (case zqk12 => intro _; with_unfolding_all rfl); (case zqk13 => first | assumption | (simp only [sizeLine_eq]; omega)); k_whole; intro _ _ _ _ l1; (try (replace l1 := allLt_of l1)); revert l1; intro _; (try k_sweep)))))
  k_with "~m:steps" => (repeat' (first | (walk1; (try dsimp only)) | (dsimp only; walk1; (try dsimp only)) | fail "no step"))
  k_with "~k_in" => ((refine' Frag.In.keeps ?zqkx ?zqkh; (case zqkx => with_reducible assumption); (case zqkh => exact Fr.keep (by with_reducible assumption))))
  k_with "~k_ne" => ((refine neN ?_; (try dsimp only); (try dsimp only [AllLt] at *); omega))
  k_with "~k_ne" => (first | with_reducible assumption | (refine Ne.symm ?_; with_reducible assumption) | (refine' ne_lt ?zqkh ?zqkm; (case zqkh => with_reducible assumption); (case zqkm => k_mem)) | (refine' Ne.symm (ne_lt ?zqkh ?zqkm); (case zqkh => with_reducible assumption); (case zqkm => k_mem)) | (refine neN ?_; decide))
  trivial
-- text ZMJ
section
example : True := by
  k_with "~m:enter" => (((case k1 | k2 | k3 => assumption); (case k4 => first | assumption | (intro _ hq; cases hq)); (case k6 | k7 => k_is); (case k8 => first | assumption | (simp only [depth_deeper, depth_in1, recursionLimit] at *; omega)); (case k9 => first | exact BindsTo.of_eq rfl | exact binds_K (Frag.In.keeps (by assumption) (by assumption)) rfl (by k_is) rfl rfl rfl); (case c5 => decide); (case kB => exact locs rfl); (case c2 | c3 | c4 => exact rfl)))
  trivial
noncomputable abbrev PG : Program := PySem.Challenge.rw_ik0133_01.prog
noncomputable abbrev accDict (hsh : Int) (kt : Tok) (v : Value) (k : Nat) : Obj := dictOf [⟨hsh, .str (Str.ofString "_initial_size") kt, v⟩] k
example : True := by
  k_with "~wpAt" => ((ks_step "exec Expr"; k_dflt (refine ks_wpAt_Expr_any ?_)))
  k_with "~wpAt" => ((ks_step "eval Call"; k_dflt (refine ks_wpAt_MethodCall ?_)))
  trivial
theorem push_raw {w : World} {A : Around} {s : Shared} {H : Heap} {loose : List Str} {mg mb : Str → Option Value} {R : Result → Shared → Prop} {x dx : Addr} {its : Array Value} {n k : Nat} {hsh : Int} {kt : Tok} {va vb v₀ : Value}
  (X : (hd.heap_39 w.params).In H) (T : TopRead Mine.hd.view_39 loose mg mb H) (hk : ∀ b o, H.get? b = some o → s.heap.get? b = some o) (hd : A.depth < recursionLimit)
  (hx : ∀ q ∈ [(x, accObj dx its n), (dx, accDict hsh kt v₀ k)], s.heap.get? q.1 = some q.2 ∧ H.get? q.1 = none) (hne : @Ne Nat x dx) (hz : its.size ≤ sizeLine)
  (hR : ∀ s' t, Aft s s' [(x, accObj dx its n), (dx, accDict hsh kt v₀ k)] [(t, { cls := .type "tuple", data := .seq #[va, vb] }), (x, accObj dx (its.push (.ref t)) (n + 1)), (dx, accDict hsh kt v₀ k)] → R (.ok (.ret .none)) s') :
  codeAny (model PG w) A (.call (.ref 68) ⟨[.ref x, va, vb], []⟩) R s := by
  refine' enterM (binds := [(Str.ofString "self", .ref x), (Str.ofString "fws", va), (Str.ofString "string", vb)]) [(x, accObj dx its n), (dx, accDict hsh kt v₀ k)] ?k1 ?k2 ?k3 ?k4 ?k6 ?k7 ?k8 ?k9 ?kB ?_ ?c5 ?c2 ?c3 ?c4
  walk_at "m:enter"
  intro g L h₁ hkg hgk F N Xg Tg hHg hlt
  (replace hlt := allLt_of hlt)
  (try dsimp only)
  walk_at "m:steps"
  exact hR _ _ (Aft.of hkg (by k_asm) (by k_asm) (by walk_at "m:sub") rfl id)
theorem part_count_raw {w : World} {A : Around} {s : Shared} {H : Heap} {loose : List Str} {mg mb : Str → Option Value} {R : Result → Shared → Prop} {x dx : Addr} {its : Array Value} {n k : Nat} {hsh : Int} {kt : Tok} {v₀ : Value}
  (X : (hd.heap_39 w.params).In H) (T : TopRead Mine.hd.view_39 loose mg mb H) (hk : ∀ b o, H.get? b = some o → s.heap.get? b = some o) (hd : A.depth < recursionLimit)
  (hx : ∀ q ∈ [(x, accObj dx its n), (dx, accDict hsh kt v₀ k)], s.heap.get? q.1 = some q.2 ∧ H.get? q.1 = none) (hne : @Ne Nat x dx) (hz : its.size ≤ sizeLine)
  (hR : ∀ s' t, Aft s s' [(x, accObj dx its n), (dx, accDict hsh kt v₀ k)] [(x, accObj dx its n), (dx, accDict hsh kt v₀ k)] → R (.ok (.ret (.int its.size t))) s') :
  codeAny (model PG w) A (.call (.ref 121) ⟨[.ref x], []⟩) R s := by
  refine' enterS (binds := [(Str.ofString "self", .ref x)]) [(x, accObj dx its n), (dx, accDict hsh kt v₀ k)] ?k1 ?k2 ?k3 ?k4 ?k6 ?k7 ?k8 ?k9 ?kB ?_ ?c5 ?c2 ?c3 ?c4
  walk_at "m:enter"
  intro g L h₁ hkg hgk F N Xg Tg hHg hlt
  (replace hlt := allLt_of hlt)
  (try dsimp only)
  walk_at "m:steps"
  exact hR _ _ (Aft.of hkg (by k_asm) (by k_asm) (by walk_at "m:sub") rfl id)
end
section
namespace D9
noncomputable abbrev T := (World) × (Around) × (Shared) × (Heap) × (List Str) × (Str → Option Value) × (Str → Option Value) × (Result → Shared → Prop) × (Addr) × (Addr) × (Array Value) × (Nat) × (Nat) × (Int) × (Tok) × (Value)
noncomputable def Pf (w : World) (A : Around) (s : Shared) (H : Heap) (loose : List Str) (mg : Str → Option Value) (mb : Str → Option Value) (R : Result → Shared → Prop) (x : Addr) (dx : Addr) (its : Array Value) (n : Nat) (k : Nat) (hsh : Int) (kt : Tok) (v : Value) : Prop := ∀ (X : (hd.heap_39 w.params).In H) (T : TopRead Mine.hd.view_39 loose mg mb H) (hk : ∀ b o, H.get? b = some o → s.heap.get? b = some o) (hd : A.depth < recursionLimit) (hx : ∀ q ∈ [(x, accObj' 124 dx), (dx, dictOf [] 0)], s.heap.get? q.1 = some q.2 ∧ H.get? q.1 = none) (hne : @Ne Nat x dx) (hR : ∀ s' hsh kt, Aft s s' [(x, accObj' 124 dx), (dx, dictOf [] 0)] [(x, accObj dx #[] 0), (dx, accDict hsh kt v 1)] → R (.ok (.ret .none)) s'), codeAny (model PG w) A (.call (.ref 61) ⟨[.ref x, v], []⟩) R s
noncomputable def Q_ (z : T) : Prop := Pf z.1 (z.2.1) (z.2.2.1) (z.2.2.2.1) (z.2.2.2.2.1) (z.2.2.2.2.2.1) (z.2.2.2.2.2.2.1) (z.2.2.2.2.2.2.2.1) (z.2.2.2.2.2.2.2.2.1) (z.2.2.2.2.2.2.2.2.2.1) (z.2.2.2.2.2.2.2.2.2.2.1) (z.2.2.2.2.2.2.2.2.2.2.2.1) (z.2.2.2.2.2.2.2.2.2.2.2.2.1) (z.2.2.2.2.2.2.2.2.2.2.2.2.2.1) (z.2.2.2.2.2.2.2.2.2.2.2.2.2.2.1) (z.2.2.2.2.2.2.2.2.2.2.2.2.2.2.2)
theorem ne : Nonempty T := ⟨(Classical.choice Mine.neW, Classical.choice Mine.neA, Classical.choice Mine.neS, Classical.choice inferInstance, Classical.choice inferInstance, Classical.choice inferInstance, Classical.choice inferInstance, Classical.choice inferInstance, Classical.choice inferInstance, Classical.choice inferInstance, Classical.choice inferInstance, Classical.choice inferInstance, Classical.choice inferInstance, Classical.choice inferInstance, Classical.choice inferInstance, Classical.choice inferInstance)⟩
noncomputable def z_ : T := @Classical.epsilon _ ne fun z => ¬ Q_ z
@[irreducible] noncomputable def w : World := z_.1
@[irreducible] noncomputable def A : Around := z_.2.1
@[irreducible] noncomputable def s : Shared := z_.2.2.1
@[irreducible] noncomputable def H : Heap := z_.2.2.2.1
@[irreducible] noncomputable def loose : List Str := z_.2.2.2.2.1
@[irreducible] noncomputable def mg : Str → Option Value := z_.2.2.2.2.2.1
@[irreducible] noncomputable def mb : Str → Option Value := z_.2.2.2.2.2.2.1
@[irreducible] noncomputable def R : Result → Shared → Prop := z_.2.2.2.2.2.2.2.1
@[irreducible] noncomputable def x : Addr := z_.2.2.2.2.2.2.2.2.1
@[irreducible] noncomputable def dx : Addr := z_.2.2.2.2.2.2.2.2.2.1
@[irreducible] noncomputable def its : Array Value := z_.2.2.2.2.2.2.2.2.2.2.1
@[irreducible] noncomputable def n : Nat := z_.2.2.2.2.2.2.2.2.2.2.2.1
@[irreducible] noncomputable def k : Nat := z_.2.2.2.2.2.2.2.2.2.2.2.2.1
@[irreducible] noncomputable def hsh : Int := z_.2.2.2.2.2.2.2.2.2.2.2.2.2.1
@[irreducible] noncomputable def kt : Tok := z_.2.2.2.2.2.2.2.2.2.2.2.2.2.2.1
@[irreducible] noncomputable def v : Value := z_.2.2.2.2.2.2.2.2.2.2.2.2.2.2.2
noncomputable def pk : {P_ : (Heap) → (Addr) → (Heap) → Prop // ∀ (X : (hd.heap_39 w.params).In H) (T : TopRead Mine.hd.view_39 loose mg mb H) (hk : ∀ b o, H.get? b = some o → s.heap.get? b = some o) (hd : A.depth < recursionLimit) (hx : ∀ q ∈ [(x, accObj' 124 dx), (dx, dictOf [] 0)], s.heap.get? q.1 = some q.2 ∧ H.get? q.1 = none) (hne : @Ne Nat x dx) (hR : ∀ s' hsh kt, Aft s s' [(x, accObj' 124 dx), (dx, dictOf [] 0)] [(x, accObj dx #[] 0), (dx, accDict hsh kt v 1)] → R (.ok (.ret .none)) s'), (∀ g L h₁, P_  g L h₁) → codeAny (model PG w) A (.call (.ref 61) ⟨[.ref x, v], []⟩) R s} := ⟨_, fun  X T hk hd hx hne hR k_ => by
  have hz : (#[] : Array Value).size ≤ sizeLine := by decide +kernel
  refine' enterS (binds := [(Str.ofString "self", .ref x), (Str.ofString "initial_size", v)]) [(x, accObj' 124 dx), (dx, dictOf [] 0)] ?k1 ?k2 ?k3 ?k4 ?k6 ?k7 ?k8 ?k9 ?kB ?_ ?c5 ?c2 ?c3 ?c4
  walk_at "m:enter"
  exact k_⟩
noncomputable abbrev T2 := (Heap) × (Addr) × (Heap)
noncomputable def Pf2 (g : Heap) (L : Addr) (h₁ : Heap) : Prop := ∀ (X : (hd.heap_39 w.params).In H) (T : TopRead Mine.hd.view_39 loose mg mb H) (hk : ∀ b o, H.get? b = some o → s.heap.get? b = some o) (hd : A.depth < recursionLimit) (hx : ∀ q ∈ [(x, accObj' 124 dx), (dx, dictOf [] 0)], s.heap.get? q.1 = some q.2 ∧ H.get? q.1 = none) (hne : @Ne Nat x dx) (hR : ∀ s' hsh kt, Aft s s' [(x, accObj' 124 dx), (dx, dictOf [] 0)] [(x, accObj dx #[] 0), (dx, accDict hsh kt v 1)] → R (.ok (.ret .none)) s'), pk.1  g L h₁
noncomputable def Q2 (z : T2) : Prop := Pf2 z.1 (z.2.1) (z.2.2)
theorem ne2 : Nonempty T2 := ⟨(Classical.choice inferInstance, Classical.choice inferInstance, Classical.choice inferInstance)⟩
noncomputable def z2_ : T2 := @Classical.epsilon _ ne2 fun z => ¬ Q2 z
@[irreducible] noncomputable def g : Heap := z2_.1
@[irreducible] noncomputable def L : Addr := z2_.2.1
@[irreducible] noncomputable def h₁ : Heap := z2_.2.2
theorem core2 : Pf2 g L h₁ := by
  unfold Pf2
  intro X T hk hd hx hne hR
  dsimp only [pk]
  intro hkg hgk F N Xg Tg hHg hlt
  (replace hlt := allLt_of hlt)
  (try dsimp only)
  walk_at "m:steps"
  exact hR _ _ _ (Aft.of hkg (by k_asm) (by k_asm) (by walk_at "m:sub") rfl id)
theorem core : Pf w A s H loose mg mb R x dx its n k hsh kt v := by
  unfold Pf
  intro X T hk hd hx hne hR
  exact pk.2  X T hk hd hx hne hR fun g L h₁ => eps_all ne2 Q2 (by with_unfolding_all exact core2) (g, L, h₁)  X T hk hd hx hne hR
theorem all (y : T) : Q_ y := eps_all ne Q_ (by with_unfolding_all exact core) y
end D9
end
section
theorem init_raw {w : World} {A : Around} {s : Shared} {H : Heap} {loose : List Str} {mg mb : Str → Option Value} {R : Result → Shared → Prop} {x dx : Addr} {its : Array Value} {n k : Nat} {hsh : Int} {kt : Tok} {v : Value}
  (X : (hd.heap_39 w.params).In H) (T : TopRead Mine.hd.view_39 loose mg mb H) (hk : ∀ b o, H.get? b = some o → s.heap.get? b = some o) (hd : A.depth < recursionLimit)
  (hx : ∀ q ∈ [(x, accObj' 124 dx), (dx, dictOf [] 0)], s.heap.get? q.1 = some q.2 ∧ H.get? q.1 = none) (hne : @Ne Nat x dx)
  (hR : ∀ s' hsh kt, Aft s s' [(x, accObj' 124 dx), (dx, dictOf [] 0)] [(x, accObj dx #[] 0), (dx, accDict hsh kt v 1)] → R (.ok (.ret .none)) s') :
  codeAny (model PG w) A (.call (.ref 61) ⟨[.ref x, v], []⟩) R s :=
  D9.all (w, A, s, H, loose, mg, mb, R, x, dx, its, n, k, hsh, kt, v) X T hk hd hx hne hR
theorem Aft.step {s s' : Shared} {x dx : Addr} {o1 o1' o2 o2' : Obj} {ex news n1 n2 : List (Addr × Obj)} {h₀ : Heap} {L : Addr} {m : Str → Option Value} (a : Aft s s' [(x, o1), (dx, o2)] (ex ++ [(x, o1'), (dx, o2')])) (F : Fr h₀ L s.heap m) (N : News h₀ L s.heap news)
    (U1 : Upd x o1 o1' news n1) (U2 : Upd dx o2 o2' n1 n2) (hne : @Ne Nat x dx) : Fr h₀ L s'.heap m ∧ News h₀ L s'.heap (ex ++ n2) := by
  obtain ⟨pre, post, rfl, rfl, a1, a2⟩ := U1.split
  have hx := N (x, o1) (by simp)
  have hn1 : ∀ p ∈ n2, p ∈ [(x, o1'), (dx, o2')] ∨ (p ∈ pre ++ (x, o1) :: post ∧ p.1 ∉ [(x, o1), (dx, o2)].map (·.1)) := by
    obtain ⟨pre', post', e1, rfl, b1, b2⟩ := U2.split
    intro p hp
    have hp' : p = (dx, o2') ∨ (p ∈ pre ++ (x, o1') :: post ∧ p.1 ≠ dx) := by
      rcases List.mem_append.mp hp with hp | hp
      · exact .inr ⟨by rw [e1]; exact List.mem_append.mpr (.inl hp), b1 _ hp⟩
      · rcases List.mem_cons.mp hp with hp | hp
        · exact .inl hp
        · exact .inr ⟨by rw [e1]; exact List.mem_append.mpr (.inr (List.mem_cons_of_mem _ hp)), b2 _ hp⟩
    rcases hp' with rfl | ⟨hp', hd⟩
    · exact .inl (by simp)
    · have : p = (x, o1') ∨ ((p ∈ pre ∨ p ∈ post) ∧ p.1 ≠ x) := by
        rcases List.mem_append.mp hp' with h | h
        · exact .inr ⟨.inl h, a1 _ h⟩
        · rcases List.mem_cons.mp h with h | h
          · exact .inl h
          · exact .inr ⟨.inr h, a2 _ h⟩
      rcases this with rfl | ⟨h, hx'⟩
      · exact .inl (by simp)
      · exact .inr ⟨by rcases h with h | h <;> simp [h], by simp only [List.map_cons, List.map_nil, List.mem_cons, List.not_mem_nil, or_false, not_or]; exact ⟨hx', hd⟩⟩
  have hd : h₀.get? dx = none ∧ dx ≠ L := by
    obtain ⟨pre', post', e1, -, -, -⟩ := U2.split
    have : (dx, o2) ∈ pre ++ (x, o1') :: post := by rw [e1]; simp
    have : (dx, o2) ∈ pre ++ (x, o1) :: post := by
      rcases List.mem_append.mp this with h | h
      · exact List.mem_append.mpr (.inl h)
      · rcases List.mem_cons.mp h with h | h
        · exact absurd (congrArg Prod.fst h).symm hne
        · exact List.mem_append.mpr (.inr (List.mem_cons_of_mem _ h))
    exact ⟨(N _ this).2.2, (N _ this).2.1⟩
  have hown : ∀ b ∈ [(x, o1), (dx, o2)].map (·.1), b ≠ L ∧ h₀.get? b = none := by
    intro b hb
    simp only [List.map_cons, List.map_nil, List.mem_cons, List.not_mem_nil, or_false] at hb
    rcases hb with rfl | rfl
    · exact hx.2
    · exact ⟨hd.2, hd.1⟩
  refine ⟨a.fr F (fun q => (hown _ q).1 rfl) fun b hb => (hown b hb).2, fun p hp => ?_⟩
  rcases List.mem_append.mp hp with hp | hp
  · exact a.news F N hown (rest := []) (fun _ h => (nomatch h)) p (by simp [hp])
  · rcases hn1 p hp with h | h
    · exact a.news F N hown (rest := []) (fun _ h => (nomatch h)) p (List.mem_append.mpr (.inl (List.mem_append.mpr (.inr h))))
    · refine ⟨a.keep _ _ (N p h.1).1 h.2, (N p h.1).2⟩
theorem Aft.same {s s' : Shared} {x dx : Addr} {o1 o2 : Obj} {ex news : List (Addr × Obj)} {h₀ : Heap} {L : Addr} {m : Str → Option Value} (a : Aft s s' [(x, o1), (dx, o2)] (ex ++ [(x, o1), (dx, o2)])) (F : Fr h₀ L s.heap m) (N : News h₀ L s.heap news)
    (h1 : (x, o1) ∈ news) (h2 : (dx, o2) ∈ news) : Fr h₀ L s'.heap m ∧ News h₀ L s'.heap (ex ++ news) := by
  have hown : ∀ b ∈ [(x, o1), (dx, o2)].map (·.1), b ≠ L ∧ h₀.get? b = none := by
    intro b hb
    simp only [List.map_cons, List.map_nil, List.mem_cons, List.not_mem_nil, or_false] at hb
    rcases hb with rfl | rfl
    · exact (N _ h1).2
    · exact (N _ h2).2
  refine ⟨a.fr F (fun q => (hown _ q).1 rfl) fun b hb => (hown b hb).2, fun p hp => ?_⟩
  rcases List.mem_append.mp hp with hp | hp
  · exact a.news F N hown (rest := []) (fun _ h => (nomatch h)) p (by simp [hp])
  · by_cases q : p.1 ∈ [(x, o1), (dx, o2)].map (·.1)
    · have e : p = (x, o1) ∨ p = (dx, o2) := by
        simp only [List.map_cons, List.map_nil, List.mem_cons, List.not_mem_nil, or_false] at q
        have hp' := (N p hp).1
        rcases q with q | q
        · left; have := (N _ h1).1; rw [← q, hp'] at this; cases p; cases q; cases this; rfl
        · right; have := (N _ h2).1; rw [← q, hp'] at this; cases p; cases q; cases this; rfl
      exact a.news F N hown (rest := []) (fun _ h => (nomatch h)) p (by rcases e with e | e <;> simp [e])
    · exact ⟨a.keep _ _ (N p hp).1 q, (N p hp).2⟩
section
variable {w : World} {A : Around} {E : Value → Shared → Prop} {s : Shared} {h₀ : Heap} {L x dx : Addr} {m : Str → Option Value} {news news' : List (Addr × Obj)} {loose : List Str} {mg mb : Str → Option Value} {its : Array Value} {n k : Nat} {hsh : Int} {kt : Tok} {v₀ : Value} {Q : Value → Shared → Prop}
theorem two_own {o1 o2 : Obj} (N : News h₀ L s.heap news) (h1 : (x, o1) ∈ news) (h2 : (dx, o2) ∈ news) : ∀ q ∈ [(x, o1), (dx, o2)], s.heap.get? q.1 = some q.2 ∧ h₀.get? q.1 = none := by
  intro q hq
  simp only [List.mem_cons, List.not_mem_nil, or_false] at hq
  rcases hq with rfl | rfl
  · exact ⟨(N _ h1).1, (N _ h1).2.2⟩
  · exact ⟨(N _ h2).1, (N _ h2).2.2⟩
theorem part_count_w (F : Fr h₀ L s.heap m) (X : (hd.heap_39 w.params).In h₀) (T : TopRead Mine.hd.view_39 loose mg mb h₀) (N : News h₀ L s.heap news) (h1 : (x, accObj dx its n) ∈ news) (h2 : (dx, accDict hsh kt v₀ k) ∈ news) (hne : @Ne Nat x dx) (hz : its.size ≤ sizeLine) (hd : A.depth < recursionLimit)
    (h : ∀ s' t, Fr h₀ L s'.heap m → News h₀ L s'.heap news → s'.os = s.os → (AllBare s.gens → AllBare s'.gens) → Q (.int its.size t) s') : wpAny (model PG w) A (call (.ref 121) [.ref x]) Q E s := by
  refine wpAny_call (part_count_raw X T F.keep hd (two_own N h1 h2) hne hz fun s' t a => ?_)
  obtain ⟨F', N'⟩ := a.same (ex := []) F N h1 h2
  exact h s' t F' N' a.os a.bare
end
end
example : True := by
  k_with_none
  k_with "~m:enter" => (((case k1 | k2 | k3 => assumption); (case k4 => first | assumption | (intro _ hq; cases hq)); (case k6 | k7 => k_is); (case k8 => first | assumption | omega | (simp only [depth_deeper, depth_in1, recursionLimit] at *; omega)); (case k9 => first | exact BindsTo.of_eq rfl | exact binds_K (Frag.In.keeps (by assumption) (by assumption)) rfl (by k_is) rfl rfl rfl); (case c5 => decide); (case kB => exact locs rfl); (case c2 | c3 | c4 => exact rfl)))
  k_with "~k_inst" => ((refine' InstAt.of_accN ?zqN ?zqh1 ?zqh2; (case zqN => k_asm); (case zqh1 | zqh2 => k_mem)))
  k_with "~m:shadow" => ((refine shadow_of ?_; k_get))
  k_with "~getMethod ref" => ((k_here; (first
    | (refine' method_fnG ?zqk1 ?zqk2 ?zqk3 ?zqk4 ?zqk5 ?zqk6 ?zqk7 ?zqk8 ?_; k_dflt ((case zqk1 => k_in); (case zqk2 => k_inst); (case zqk3 => k_is); (case zqk4 => first | with_reducible exact canon_list_ga | with_reducible exact PySem.F.canon_object_ga | decide +kernel); (case zqk5 | zqk6 | zqk7 => k_is); (case zqk8 => walk_at "m:shadow"); k_whole))
    | (refine' method_biG ?zqk1 ?zqk2 ?zqk3 ?zqk4 ?zqk5 ?zqk6 ?zqk7 ?zqk8 ?zqk9 ?_; k_dflt ((case zqk1 => k_in); (case zqk2 => k_inst); (case zqk3 => k_is); (case zqk4 => first | with_reducible exact canon_list_ga | with_reducible exact PySem.F.canon_object_ga | decide +kernel); (case zqk5 | zqk6 | zqk7 => k_is); (case zqk8 => decide); (case zqk9 => walk_at "m:shadow"); k_whole)))))
  k_with "~call builtin:list.append" => ((k_here; (refine' append_acc ?zqk1 ?zqk2 ?zqk3 ?zqk4 ?zqk5 ?zqk6 ?_ ?zqk7; k_dflt ((case zqk1 | zqk2 | zqk3 => k_asm); (case zqk6 => k_upd); (case zqk4 => exact (News.get (by k_asm) (by k_mem))); (case zqk5 => k_is); (case zqk7 => first | assumption | (simp only [sizeLine_eq]; omega)); k_whole)); intro _ _ _; (try k_sweep)))
  k_with "~getMethod ref" => ((k_here; ks_any; k_dflt (first
    | (refine' superM ?zqk1 ?zqk2 ?zqk3 ?zqk4 ?zqk5 ?zqk6 ?zqk7 ?zqk8 lk_wget ?zqk9 (fun h hi => binds_of plain_wget entry_wget (chk_wlen _ _) (get_len _ _) hi) ?zqk10 ?_; (case zqk1 | zqk2 | zqk3 => k_asm); (case zqk4 => k_mem); (case zqk5 => k_inst); (case zqk6 => k_is); (case zqk7 => ks_is); (case zqk8 | zqk9 => k_is); (case zqk10 => decide); k_whole; intro _ _ _ _ l1; (try (replace l1 := allLt_of l1)); revert l1; intro _; (try k_sweep))
    | (refine' superM ?zqk1 ?zqk2 ?zqk3 ?zqk4 ?zqk5 ?zqk6 ?zqk7 ?zqk8 lk_wget ?zqk9 (fun h hi => binds_of plain_wget entry_wget (chk_winit _ _) (get_init _ _) hi) ?zqk10 ?_; (case zqk1 | zqk2 | zqk3 => k_asm); (case zqk4 => k_mem); (case zqk5 => k_inst); (case zqk6 => k_is); (case zqk7 => ks_is); (case zqk8 | zqk9 => k_is); (case zqk10 => decide); k_whole; intro _ _ _ _ l1; (try (replace l1 := allLt_of l1)); revert l1; intro _; (try k_sweep))
    | (refine' superM ?zqk1 ?zqk2 ?zqk3 ?zqk4 ?zqk5 ?zqk6 ?zqk7 ?zqk8 lk_mget ?zqk9 (fun h hi => binds_of plain_mget entry_mget (chk_mpop _ _) (get_pop _ _) hi) ?zqk10 ?_; (case zqk1 | zqk2 | zqk3 => k_asm); (case zqk4 => k_mem); (case zqk5 => k_inst); (case zqk6 => k_is); (case zqk7 => ks_is); (case zqk8 | zqk9 => k_is); (case zqk10 => decide); k_whole; intro _ _ _ _ l1; (try (replace l1 := allLt_of l1)); revert l1; intro _; (try k_sweep)))))
  k_with "~wpAt" => ((ks_step "attributeBase Call"; k_here; k_dflt (refine node_M (by k_asm) (by k_asm) (by k_asm) (by k_asm) (by k_is) (by rfl) (by rfl) (by k_inst) (by k_is) (by rfl) (by first | rfl | decide +kernel) (by k_is) (by k_is) (by k_is) (by k_is) (by decide) (by rfl) (by rfl) (by rfl) (by rfl) (by decide +kernel) (by first | boot_by_name | rfl | kernel_rfl) ?_; intro _ _ _ _ l1; (try (replace l1 := allLt_of l1)); revert l1; intro _; (try k_sweep))))
  k_with "~callWith ref" => ((k_here; (first
    | (refine' callWith_B0 ?zqk1 ?zqk2 ?_; k_dflt ((case zqk1 => exact (News.get (by k_asm) (by k_mem))); (case zqk2 => decide); k_whole; try dsimp only [List.nil_append, List.cons_append]))
    | (refine' callWith_B ?zqk1 ?zqk2 ?_ ?zqk3 ?zqk4; k_dflt ((case zqk1 => k_is); (case zqk2 => decide); (case zqk3 | zqk4 => rfl); k_whole)))))
  k_with "~call ref" => ((k_here; (first
    | (refine' super_len ?zqk1 ?zqk2 ?_; k_dflt ((case zqk1 | zqk2 => exact (News.get (by k_asm) (by k_mem))); k_whole))
    | (refine' super_init ?zqk1 ?zqk2 ?zqk3 ?zqk4 ?zqk5 ?_; k_dflt ((case zqk1 | zqk2 => k_asm); (case zqk3 => exact (News.get (by k_asm) (by k_mem))); (case zqk5 => k_upd); (case zqk4 => k_ne); k_whole; intro _ _ _; (try k_sweep)))
    | (refine' super_pop ?zqk1 ?zqk2 ?zqk3 ?zqk4 ?zqk5 ?zqk6 ?zqk7 ?zqk8 ?zqk9 ?zqk10 ?zqk11 ?_; k_dflt ((case zqk1 | zqk2 | zqk3 => k_asm); (case zqk4 => exact (News.get (by k_asm) (by k_mem))); (case zqk10 => k_upd); (case zqk5 => exact (News.get (by k_asm) (by k_mem))); (case zqk6 | zqk7 => k_is); (case zqk8 => rfl); (case zqk9 => k_is); (case zqk11 => first | assumption | (simp only [sizeLine_eq]; omega)); k_whole; intro _ _ _; (try k_sweep))))))
  k_with "~m:sub" => (first | exact List.forall_mem_nil _ | (refine List.forall_mem_cons.mpr ⟨by k_mem, ?_⟩; walk_at "m:sub"))
  k_with "~setAttr ref" => ((k_here; (refine' set_acc ?zqk1 ?zqk2 ?zqk3 ?zqk4 ?zqk5 ?zqk6 ?zqk7 ?zqk8 ?zqk9 ?zqk10 ?zqk11 ?zqk12 ?zqk13 ?_; k_dflt ((case zqk1 | zqk2 | zqk3 => k_asm); (case zqk4 => k_inst); (case zqk5 => exact rfl); (case zqk6 => k_is); (case zqk7 => rfl); (case zqk8 | zqk9 => k_is); (case zqk10 => k_get); (case zqk11 => k_put); (case zqk12 => k_upd); (case zqk13 => exact Nat.le_of_ble_eq_true rfl); k_whole; intro _ _ _; (try k_sweep)))))
  k_with "~subscriptTail" => ((k_here; (with_reducible show wpAny _ _ (subscriptTail _ _ (Value.ref _) (Value.ref _)) _ _ _); (refine' slice_acc ?zqk1 ?zqk2 ?zqk3 ?zqk4 ?zqk5 ?zqk6 ?zqk7 ?zqk8 ?zqk9 ?zqk10 ?_ ?zqk11 ?zqk12 ?zqk13; k_dflt ((case zqk1 | zqk2 | zqk3 => k_asm); (case zqk4 => k_inst); (case zqk5 => exact rfl); (case zqk6 | zqk7 | zqk8 => k_is); (case zqk9 | zqk10 => first | exact IsPart.none | exact IsPart.int _ _); (case zqk11 => with_unfolding_all rfl); (case zqk12 => intro _; with_unfolding_all rfl); (case zqk13 => first | assumption | (simp only [sizeLine_eq]; omega)); k_whole; intro _ _ _ _ l1; (try (replace l1 := allLt_of l1)); revert l1; intro _; (try k_sweep)))))
  k_with "~m:steps" => (repeat' (first | (walk1; (try dsimp only)) | (dsimp only; walk1; (try dsimp only)) | fail "no step"))
  k_with "~k_in" => ((refine' Frag.In.keeps ?zqkx ?zqkh; (case zqkx => with_reducible assumption); (case zqkh => exact Fr.keep (by with_reducible assumption))))
  k_with "~k_ne" => ((refine neN ?_; (try dsimp only); (try dsimp only [AllLt] at *); omega))
  k_with "~k_ne" => (first | with_reducible assumption | (refine Ne.symm ?_; with_reducible assumption) | (refine' ne_lt ?zqkh ?zqkm; (case zqkh => with_reducible assumption); (case zqkm => k_mem)) | (refine' Ne.symm (ne_lt ?zqkh ?zqkm); (case zqkh => with_reducible assumption); (case zqkm => k_mem)) | (refine neN ?_; decide))
  trivial
-- text ZMK
section
example : True := by
  k_with "~wpAt" => ((ks_step "exec Expr"; k_dflt (refine ks_wpAt_Expr_any ?_)))
  k_with "~wpAt" => ((ks_step "eval Call"; k_dflt (refine ks_wpAt_MethodCall ?_)))
  trivial
section
variable {prog : Program} {w : World} {A : Around} {E : Value → Shared → Prop} {h : Heap} {g : Array GenState} {d : Drawn} {t : Nat} {os : OsState} {K : Frag} {C L x dx : Addr} {h₀ : Heap} {m : Str → Option Value} {news news' : List (Addr × Obj)} {ox : Obj} {od : Option Obj}
theorem slice_accP {value slice : Expr} {its : Array Value} {n : Nat} {vl vu : Value} {lo hi : Option Int} {Q : Value → Shared → Prop} {ops : List Value}
    (F : Fr h₀ L h m) (X₀ : K.In h₀) (N : News h₀ L h news) (I : InstAt h x ox C od) (hox : ox.data = .seq its n) (hq : noSeq K C = true)
    (hf : findIn K (.ref C) "__getitem__" = some (some (.builtin "list.__getitem__"))) (hm : mroIn K C (.type "list") = some true) (pl : IsPart vl lo) (pu : IsPart vu hi)
    (hh : ∀ D h', Fr h₀ L h' m → News h₀ L h' ((D, listOf (slicePick its lo hi none) 0) :: news) → (∀ p ∈ news, p.1 < D) → Q (.ref D) ⟨h', g, d, t, os⟩)
    (hs : subscripted slice false (.ref x) (.ref h.objs.size) = operate ops (getItem (.ref x) (.ref h.objs.size)))
    (ht : ∀ r, letTemporaryGo value (.ref x) r = pure ()) (hsz : its.size ≤ sizeLine) :
    wpAny (model prog w) A (subscriptTail value slice (.ref x) (.ref h.objs.size)) Q E ⟨h.push { cls := .type "slice", data := .fields #[vl, vu, .none] }, g, d, t, os⟩ :=
  slice_acc (s := ⟨h, g, d, t, os⟩) F X₀ N I hox hq hf hm pl pu hh hs ht hsz
theorem setSlice_accP {D : Addr} {its ys : Array Value} {n n₂ : Nat} {vl vu : Value} {lo hi : Option Int} {nw : Nat → List (Addr × Obj)} {Q : Unit → Shared → Prop} (F : Fr h₀ L h m) (X₀ : K.In h₀) (N : News h₀ L h news) (h1 : (x, accObj dx its n) ∈ news) (h2 : (dx, ox) ∈ news) (h3 : (D, listOf ys n₂) ∈ news) (hq : noSeq K 124 = true)
    (hf : findIn K (.ref 124) "__setitem__" = some (some (.builtin "list.__setitem__"))) (hm : mroIn K 124 (.type "list") = some true)
    (pl : IsPart vl lo) (pu : IsPart vu hi) (hne : @Ne Nat x D)
    (a b : Nat) (hb : sliceBounds lo hi none its.size = ((a : Int), (b : Int), 1))
    (U : ∀ n', Upd x (accObj dx its n) (accObj dx (its.extract 0 a ++ ys ++ its.extract (max a b) its.size) n') news (nw n'))
    (hh : ∀ h' n', Fr h₀ L h' m → News h₀ L h' (nw n') → Q () ⟨h', g, d, t, os⟩) (hsz : its.size + ys.size ≤ sizeLine) :
    wpAny (model prog w) A (setItem (.ref x) (.ref h.objs.size) (.ref D)) Q E ⟨h.push { cls := .type "slice", data := .fields #[vl, vu, .none] }, g, d, t, os⟩ := by
  have N' : News h₀ L (h.push { cls := .type "slice", data := .fields #[vl, vu, .none] }) news := fun p hp => (N.push F { cls := .type "slice", data := .fields #[vl, vu, .none] }) p (List.mem_cons_of_mem _ hp)
  exact setItem_acc (s := ⟨h.push { cls := .type "slice", data := .fields #[vl, vu, .none] }, g, d, t, os⟩) (F.push _) X₀ N' (N' _ h2).1 hq hf hm ⟨_, Heap.get?_push_size _ rfl, rfl, rfl⟩ pl pu (N' _ h3).1 (beq_eq_false_iff_ne.mpr hne) a b hb U hh hsz
theorem bounds_from (i n : Nat) (hi : i ≤ n) : sliceBounds (some (i : Int)) none none n = ((i : Int), (n : Int), 1) := by
  simp only [sliceBounds, Option.getD_none]
  have : ¬ ((i : Int) < 0) := by omega
  simp [this]
  omega
theorem bounds_all (n : Nat) : sliceBounds none none none n = (((0 : Nat) : Int), (n : Int), 1) := by
  simp [sliceBounds]
theorem pick_from (its : Array Value) (i : Nat) (hi : i ≤ its.size) : slicePick its (some (i : Int)) none none = its.extract i its.size := by
  rw [kmk_pick_nat its (bounds_from i its.size hi)]
  apply Array.ext'
  simp
end
theorem own_put (hsh h2 : Int) (kt : Tok) (v v₀ k2 : Value) (k : Nat) : (putL (Str.ofString "_initial_size") h2 k2 v [⟨hsh, .str (Str.ofString "_initial_size") kt, v₀⟩], putN (Str.ofString "_initial_size") [⟨hsh, .str (Str.ofString "_initial_size") kt, v₀⟩] k) = ([⟨hsh, .str (Str.ofString "_initial_size") kt, v⟩], k) := by
  simp [putL, putN, Value.isStr]
theorem own_get (hsh : Int) (kt : Tok) (v₀ : Value) : (getL (Str.ofString "_initial_size") [⟨hsh, .str (Str.ofString "_initial_size") kt, v₀⟩]).isSome = true := by
  simp [getL, Value.isStr]
theorem cut_from (its : Array Value) (i : Nat) (hi : i ≤ its.size) : its.extract 0 i ++ ([] : List Value).toArray ++ its.extract (max i its.size) its.size = its.extract 0 i := by
  apply Array.ext'; simp; omega
theorem cut_all (its ys : Array Value) : its.extract 0 0 ++ ys ++ its.extract (max 0 its.size) its.size = ys := by
  apply Array.ext'; simp
example : True := by
  k_with "~call ref" => ((k_here; (refine' part_count_w ?zqk1 ?zqk2 ?zqk3 ?zqk4 ?zqk5 ?zqk6 ?zqk7 ?zqk8 ?zqk9 ?_; k_dflt ((case zqk1 | zqk2 | zqk3 | zqk4 => k_asm); (case zqk5 | zqk6 => k_mem); (case zqk7 | zqk8 => assumption); (case zqk9 => simp only [depth_deeper, depth_in1, recursionLimit] at *; omega); k_whole; intro _ _ _ _ _ _; (try k_sweep)))))
  k_with "~subscriptTail" => ((k_here; (with_reducible show wpAny _ _ (subscriptTail _ _ (Value.ref _) (Value.ref _)) _ _ _); (refine' slice_accP ?zqk1 ?zqk2 ?zqk3 ?zqk4 ?zqk5 ?zqk6 ?zqk7 ?zqk8 ?zqk9 ?zqk10 ?_ ?zqk11 ?zqk12 ?zqk13; k_dflt ((case zqk1 | zqk2 | zqk3 => k_asm); (case zqk4 => k_inst); (case zqk5 => exact rfl); (case zqk6 | zqk7 | zqk8 => k_is); (case zqk9 | zqk10 => first | exact IsPart.none | exact IsPart.int _ _); (case zqk11 => with_unfolding_all rfl); (case zqk12 => intro _; with_unfolding_all rfl); (case zqk13 => first | assumption | (simp only [sizeLine_eq]; omega)); k_whole; intro _ _ _ _ l1; (try (replace l1 := allLt_of l1)); revert l1; intro _; (try k_sweep)))))
  k_with "~setItem ref ref" => ((k_here; (refine' setSlice_accP ?zqk1 ?zqk2 ?zqk3 ?zqk4 ?zqk5 ?zqk6 ?zqk7 ?zqk8 ?zqk9 ?zqk10 ?zqk11 ?zqk12 _ _ ?zqk13 (fun n' => ?zqk14) ?_ ?zqk15; k_dflt ((case zqk1 | zqk2 | zqk3 => k_asm); (case zqk4 | zqk5 | zqk6 => k_mem); (case zqk7 | zqk8 | zqk9 => k_is); (case zqk10 | zqk11 => first | exact IsPart.none | exact IsPart.int _ _); (case zqk12 => k_ne); (case zqk13 => first | exact bounds_from _ _ (by assumption) | exact bounds_all _); (case zqk14 => k_upd); (case zqk15 => first | assumption | (simp only [List.size_toArray, List.length_nil]; omega)); k_whole; intro _ _ _ _; (try dsimp only at N'); (try k_sweep)))))
  k_with "~setAttr ref" => ((k_here; (refine' set_acc ?zqk1 ?zqk2 ?zqk3 ?zqk4 ?zqk5 ?zqk6 ?zqk7 ?zqk8 ?zqk9 ?zqk10 (own_put _ _ _ _ _ _ _) ?zqk12 ?zqk13 ?_; k_dflt ((case zqk1 | zqk2 | zqk3 => k_asm); (case zqk4 => k_inst); (case zqk5 => exact rfl); (case zqk6 => k_is); (case zqk7 => rfl); (case zqk8 | zqk9 => k_is); (case zqk10 => exact own_get _ _ _); (case zqk12 => k_upd); (case zqk13 => exact Nat.le_of_ble_eq_true rfl); k_whole; intro _ _ _; (try k_sweep)))))
  trivial
theorem pop_from_raw {w : World} {A : Around} {s : Shared} {H : Heap} {loose : List Str} {mg mb : Str → Option Value} {R : Result → Shared → Prop} {x dx : Addr} {its : Array Value} {n k : Nat} {hsh : Int} {kt : Tok} {v₀ : Value} {i : Nat} {it : Tok}
  (X : (hd.heap_39 w.params).In H) (T : TopRead Mine.hd.view_39 loose mg mb H) (hk : ∀ b o, H.get? b = some o → s.heap.get? b = some o) (hd : A.depth + 2 < recursionLimit)
  (hx : ∀ q ∈ [(x, accObj dx its n), (dx, accDict hsh kt v₀ k)], s.heap.get? q.1 = some q.2 ∧ H.get? q.1 = none) (hne : @Ne Nat x dx) (hz : its.size ≤ sizeLine) (hi : i ≤ its.size)
  (hR : ∀ s' D n', Aft s s' [(x, accObj dx its n), (dx, accDict hsh kt v₀ k)] [(D, listOf (its.extract i its.size) 0), (x, accObj dx (its.extract 0 i) n'), (dx, accDict hsh kt v₀ k)] → R (.ok (.ret (.ref D))) s') :
  codeAny (model PG w) A (.call (.ref 76) ⟨[.ref x, .int i it], []⟩) R s := by
  refine' enterM (binds := [(Str.ofString "self", .ref x), (Str.ofString "i", .int i it)]) [(x, accObj dx its n), (dx, accDict hsh kt v₀ k)] ?k1 ?k2 ?k3 ?k4 ?k6 ?k7 ?k8 ?k9 ?kB ?_ ?c5 ?c2 ?c3 ?c4
  walk_at "m:enter"
  intro g L h₁ hkg hgk F N Xg Tg hHg hlt
  (replace hlt := allLt_of hlt)
  (try dsimp only)
  walk_at "m:steps"
  rename_i N'
  rw [pick_from its i hi, cut_from its i hi] at N'
  exact hR _ _ _ (Aft.of hkg (by k_asm) N' (by walk_at "m:sub") rfl id)
theorem reset_raw {w : World} {A : Around} {s : Shared} {H : Heap} {loose : List Str} {mg mb : Str → Option Value} {R : Result → Shared → Prop} {x dx D : Addr} {its ys : Array Value} {n n₂ k : Nat} {hsh : Int} {kt : Tok} {v₀ : Value} {i : Nat} {it : Tok}
  (X : (hd.heap_39 w.params).In H) (T : TopRead Mine.hd.view_39 loose mg mb H) (hk : ∀ b o, H.get? b = some o → s.heap.get? b = some o) (hd : A.depth + 2 < recursionLimit)
  (hx : ∀ q ∈ [(x, accObj dx its n), (dx, accDict hsh kt v₀ k), (D, listOf ys n₂)], s.heap.get? q.1 = some q.2 ∧ H.get? q.1 = none) (hne : @Ne Nat x dx) (hne2 : @Ne Nat x D) (hne3 : @Ne Nat dx D) (hz : its.size + ys.size ≤ sizeLine)
  (hR : ∀ s' n' t', Aft s s' [(x, accObj dx its n), (dx, accDict hsh kt v₀ k), (D, listOf ys n₂)] [(x, accObj dx ys n'), (dx, accDict hsh kt (.int 0 t') k), (D, listOf ys n₂)] → R (.ok (.ret .none)) s') :
  codeAny (model PG w) A (.call (.ref 106) ⟨[.ref x, .ref D], []⟩) R s := by
  refine' enterM (binds := [(Str.ofString "self", .ref x), (Str.ofString "startval", .ref D)]) [(x, accObj dx its n), (dx, accDict hsh kt v₀ k), (D, listOf ys n₂)] ?k1 ?k2 ?k3 ?k4 ?k6 ?k7 ?k8 ?k9 ?kB ?_ ?c5 ?c2 ?c3 ?c4
  walk_at "m:enter"
  intro g L h₁ hkg hgk F N Xg Tg hHg hlt
  (replace hlt := allLt_of hlt)
  (try dsimp only)
  walk_at "m:steps"
  rename_i N'
  rw [cut_all its ys] at N'
  exact hR _ _ _ (Aft.of hkg (by k_asm) N' (by walk_at "m:sub") rfl id)
theorem pop0_raw {w : World} {A : Around} {s : Shared} {H : Heap} {loose : List Str} {mg mb : Str → Option Value} {R : Result → Shared → Prop} {x dx : Addr} {n k : Nat} {hsh : Int} {kt : Tok} {v₀ : Value}
  (X : (hd.heap_39 w.params).In H) (T : TopRead Mine.hd.view_39 loose mg mb H) (hk : ∀ b o, H.get? b = some o → s.heap.get? b = some o) (hd : A.depth + 2 < recursionLimit)
  (hx : ∀ q ∈ [(x, accObj dx #[] n), (dx, accDict hsh kt v₀ k)], s.heap.get? q.1 = some q.2 ∧ H.get? q.1 = none) (hne : @Ne Nat x dx)
  (hR : ∀ s' t c1 c2, Aft s s' [(x, accObj dx #[] n), (dx, accDict hsh kt v₀ k)] [(t, { cls := .type "tuple", data := .seq #[.str (Str.ofString "") c1, .str (Str.ofString "") c2] }), (x, accObj dx #[] n), (dx, accDict hsh kt v₀ k)] → R (.ok (.ret (.ref t))) s') :
  codeAny (model PG w) A (.call (.ref 84) ⟨[.ref x], []⟩) R s := by
  have hz : (#[] : Array Value).size ≤ sizeLine := by decide +kernel
  refine' enterS (binds := [(Str.ofString "self", .ref x)]) [(x, accObj dx #[] n), (dx, accDict hsh kt v₀ k)] ?k1 ?k2 ?k3 ?k4 ?k6 ?k7 ?k8 ?k9 ?kB ?_ ?c5 ?c2 ?c3 ?c4
  walk_at "m:enter"
  intro g L h₁ hkg hgk F N Xg Tg hHg hlt
  (replace hlt := allLt_of hlt)
  (try dsimp only)
  walk_at "m:steps"
  exact hR _ _ _ _ (Aft.of hkg (by k_asm) (by k_asm) (by walk_at "m:sub") (by simp only [*]) (by first | exact id | assumption))
end
-- text ZML
section

theorem pop1_raw {w : World} {A : Around} {s : Shared} {H : Heap} {loose : List Str} {mg mb : Str → Option Value} {R : Result → Shared → Prop} {x dx : Addr} {ys : Array Value} {v : Value} {n k : Nat} {hsh : Int} {kt : Tok} {v₀ : Value}
  (X : (hd.heap_39 w.params).In H) (T : TopRead Mine.hd.view_39 loose mg mb H) (hk : ∀ b o, H.get? b = some o → s.heap.get? b = some o) (hd : A.depth + 2 < recursionLimit)
  (hx : ∀ q ∈ [(x, accObj dx (ys.push v) n), (dx, accDict hsh kt v₀ k)], s.heap.get? q.1 = some q.2 ∧ H.get? q.1 = none) (hne : @Ne Nat x dx) (hy : ys.size < sizeLine)
  (hR : ∀ s', Aft s s' [(x, accObj dx (ys.push v) n), (dx, accDict hsh kt v₀ k)] [(x, accObj dx ys (n + 1)), (dx, accDict hsh kt v₀ k)] → R (.ok (.ret v)) s') :
  codeAny (model PG w) A (.call (.ref 84) ⟨[.ref x], []⟩) R s := by
  have hz : (ys.push v).size ≤ sizeLine := by rw [Array.size_push]; omega
  refine' enterS (binds := [(Str.ofString "self", .ref x)]) [(x, accObj dx (ys.push v) n), (dx, accDict hsh kt v₀ k)] ?k1 ?k2 ?k3 ?k4 ?k6 ?k7 ?k8 ?k9 ?kB ?_ ?c5 ?c2 ?c3 ?c4
  walk_at "m:enter"
  intro g L h₁ hkg hgk F N Xg Tg hHg hlt
  (replace hlt := allLt_of hlt)
  (try dsimp only)
  have hne0 : ((ys.push v).size : Int) ≠ 0 := by rw [Array.size_push]; omega
  walk_at "m:steps"
  all_goals first
    | exact absurd (by assumption) hne0
    | exact hR _ (Aft.of hkg (by k_asm) (by k_asm) (by walk_at "m:sub") (by simp only [*]) (by first | exact id | assumption))
end
-- text ZMN
section
open Builtin
noncomputable def HasSeq (h : Heap) (a : Addr) (items : Array Value) : Prop := ∃ o n, h.get? a = some o ∧ o.data = .seq items n
theorem HasSeq.at' {h h' : Heap} {a : Addr} {items : Array Value} (x : HasSeq h a items) (e : ∀ o, h.get? a = some o → h'.get? a = some o) : HasSeq h' a items := let ⟨o, n, ho, r⟩ := x; ⟨o, n, e o ho, r⟩
section
variable {prog : Program} {w : World} {A : Around} {E : Value → Shared → Prop} {s : Shared}
theorem next_seq_item {it l : Addr} {i : Nat} {items : Array Value} {x : Value} {Q : Option Value → Shared → Prop} (hit : s.heap.IsListIter it l i) (hl : HasSeq s.heap l items) (hx : items[i]? = some x)
    (hQ : ∀ h', h'.IsListIter it l (i + 1) → Heap.SameBut it s.heap h' → Q (some x) { s with heap := h' }) : wpAny (model prog w) A (pyNext (.ref it)) Q E s := by
  obtain ⟨o, ho, hc, hd⟩ := id hit
  obtain ⟨ol, nl, hol, hdl⟩ := hl
  unfold pyNext
  refine wpAny_bind (wpAny_attempt (wpAny_callSpecial?_slot (name := Str.ofString "__next__") hit.typeIs slot_listiter_next (wpAny_call_entry slot_listiter_next hit.typeIs entry_listiter_next ?_ (args_listiter_next _))))
  show wpAny _ _ (field (.ref it) 0 >>= _) _ _ s
  refine wpAny_bind (wpAny_field ho hd (x := .ref l) rfl ?_)
  show wpAny _ _ (if (Value.ref l == Value.none) = true then _ else _) _ _ s
  rw [if_neg (show ¬ ((Value.ref l == Value.none) = true) from Bool.false_ne_true)]
  show wpAny _ _ (field (.ref it) 1 >>= _) _ _ s
  refine wpAny_bind (wpAny_field ho hd (x := .int i 0) rfl ?_)
  show wpAny _ _ (seqItems? (.ref l) >>= _) _ _ s
  refine wpAny_bind (wpAny_seqItems hol hdl ?_)
  simp only [Int.toNat_natCast, hx]
  refine wpAny_bind (wpAny_setField ho hd (by simp) (wpAny_pure ⟨x, rfl, wpAny_pure (hQ _ ?_ (Heap.SameBut.update ..))⟩))
  exact ⟨_, Heap.get?_update_self _ ho (Obj.isFreed_of_fields (Obj.data_mapFields hd _)), (Obj.cls_mapFields ..).trans hc, by rw [Obj.data_mapFields hd]; simp [rawInt]⟩
theorem next_seq_end {it l : Addr} {i : Nat} {items : Array Value} {Q : Option Value → Shared → Prop} (hh : A.handled = none) (hit : s.heap.IsListIter it l i) (hl : HasSeq s.heap l items) (hx : items[i]? = none)
    (hQ : ∀ h', Heap.ExtBut it s.heap h' → Q none { s with heap := h' }) : wpAny (model prog w) A (pyNext (.ref it)) Q E s := by
  obtain ⟨o, ho, hc, hd⟩ := id hit
  obtain ⟨ol, nl, hol, hdl⟩ := hl
  unfold pyNext
  refine wpAny_bind (wpAny_attempt (wpAny_callSpecial?_slot (name := Str.ofString "__next__") hit.typeIs slot_listiter_next (wpAny_call_entry slot_listiter_next hit.typeIs entry_listiter_next ?_ (args_listiter_next _))))
  show wpAny _ _ (field (.ref it) 0 >>= _) _ _ s
  refine wpAny_bind (wpAny_field ho hd (x := .ref l) rfl ?_)
  show wpAny _ _ (if (Value.ref l == Value.none) = true then _ else _) _ _ s
  rw [if_neg (show ¬ ((Value.ref l == Value.none) = true) from Bool.false_ne_true)]
  show wpAny _ _ (field (.ref it) 1 >>= _) _ _ s
  refine wpAny_bind (wpAny_field ho hd (x := .int i 0) rfl ?_)
  show wpAny _ _ (seqItems? (.ref l) >>= _) _ _ s
  refine wpAny_bind (wpAny_seqItems hol hdl ?_)
  simp only [Int.toNat_natCast, hx]
  refine wpAny_bind (wpAny_rule (wpAny_bind (wpAny_setField ho hd (by simp) ?_)))
  show wpAny _ _ (newExc (.type "StopIteration") [] >>= _) _ _ _
  refine wpAny_bind ?_
  simp only [newExc, newTuple]
  refine wpAny_bind (wpAny_newObj_type ?_ (by size_fits))
  refine wpAny_bind (m := firstArgMember _ _) (wpAny_of_eq (a := Value.none) (by first | rfl | (simp only [firstArgMember]; rfl)) ?_)
  refine wpAny_newObj_type ?_ (by size_fits)
  simp only [raiseNew]
  refine wpAny_bind (wpAny_handled ?_)
  rw [show A.in1.handled = none from hh]
  refine wpAny_bind (wpAny_pure (wpAny_throw ?_))
  refine wpAny_bind (wpAny_isInstance (T := "StopIteration") (b := true) ⟨_, Heap.get?_push_size _ rfl, rfl⟩ isSubtype_stop ?_)
  exact wpAny_pure (hQ _ (((Heap.SameBut.update ..).extBut.push _).push _))
theorem WalksU_seqOfTuples (hh : A.handled = none) (I ax : Addr) (hne : ax ≠ I) (items : Array Value) (Ts : Nat → Addr) (vals : Nat → Array Value)
    (hit : ∀ j, j < items.size → items[j]? = some (.ref (Ts j))) (hTI : ∀ j, j < items.size → Ts j ≠ I) :
    WalksU prog w A I (I :: ax :: (List.range items.size).map Ts) [I] items.size (fun j v => v = vals j)
      (fun j h => h.IsListIter I ax j ∧ HasSeq h ax items ∧ ∀ k, k < items.size → h.IsTuple (Ts k) (vals k))
      (fun j T h => (j < items.size ∧ T = Ts j) ∧ h.IsListIter I ax (j + 1) ∧ HasSeq h ax items ∧ ∀ k, k < items.size → h.IsTuple (Ts k) (vals k)) where
  sub := fun b hb => by simp at hb; simp [hb]
  frame := fun _ _ _ st hk => ⟨st.1.at fun o e => hk I (by simp) o e, st.2.1.at' fun o e => hk ax (by simp) o e,
    fun k hk' => (st.2.2 k hk').at fun o e => hk (Ts k) (List.mem_cons_of_mem _ (List.mem_cons_of_mem _ (List.mem_map.mpr ⟨k, List.mem_range.mpr hk', rfl⟩))) o e⟩
  item := fun i s Q E hi st hQ => by
    refine next_seq_item st.1 st.2.1 (x := .ref (Ts i)) (hit i hi) fun h' hit' hs' => ?_
    have tup : ∀ k, k < items.size → h'.IsTuple (Ts k) (vals k) := fun k hk' => (st.2.2 k hk').extBut hs'.extBut (hTI k hk')
    exact hQ (Ts i) (vals i) h' s.toks rfl (tup i hi) ⟨⟨hi, rfl⟩, hit', st.2.1.at' fun o e => hs'.extBut _ o hne e, tup⟩ fun b o hb e => hs'.extBut b o (fun h => hb (by simp [h])) e
  go := fun _ _ _ _ _ s Q _ hm hQ => wpAny_letOwnedTupleGo_listiter hm.2.1 (hQ s.heap hm.2 fun _ _ _ e => e)
  apart := fun j T _ hm hmem => by
    rcases List.mem_cons.mp hmem with e | e
    · exact hTI j hm.1.1 (hm.1.2 ▸ e)
    · cases e
  done := fun s Q E st hQ => next_seq_end hh st.1 st.2.1 (by simp) fun h' he' => hQ h' s.toks fun b o hb e => he' b o (fun h => hb (by simp [h])) e
  self := fun _ _ _ _ st hQ => wpAny_pyIter_listiter st.1 hQ
variable {K : Frag} {C x : Addr} {ox : Obj} {od : Option Obj}
theorem pyIter_acc {Q : Value → Shared → Prop} (X : K.In s.heap) (I : InstAt s.heap x ox C od) (hf : findIn K (.ref C) "__iter__" = some (some (.builtin "list.__iter__"))) (hm : mroIn K C (.type "list") = some true)
    (hQ : Q (.ref s.heap.objs.size) { s with heap := s.heap.push { cls := .type "list_iterator", data := .fields #[.ref x, .int 0 0] } }) : wpAny (model prog w) A (pyIter (.ref x)) Q E s := by
  unfold pyIter
  unfold specialOf
  refine wpAny_bind (wpAny_bind (I.type.here ((looks_findIn X hf).here ?_)))
  dsimp only
  unfold callSpecialIfBoundUnlessNone?
  refine wpAny_bind (wpAny_holding (wpAny_bind ?_))
  unfold bindSpecialIfBound? specialOf
  refine wpAny_bind (wpAny_bind (I.type.here ((looks_findIn X hf).here ?_)))
  dsimp only
  rw [slot_list_iter.bind]
  refine wpAny_bind (wpAny_askSetting ?_)
  have key : wpAny (model prog w) A (call (.builtin "list.__iter__") [.ref x]) (fun v s' => v = .ref s.heap.objs.size ∧ s' = { s with heap := s.heap.push { cls := .type "list_iterator", data := .fields #[.ref x, .int 0 0] } }) E s := by
    refine callB (owner := "list") (n := "__iter__") slot_list_iter.plain entry_list_iter (by first | exact .inl (by decide +kernel) | exact .inr (by decide +kernel)) (by decide +kernel) (I.type.andThen (looks_mroIn X hm)) (args_list_iter _) ?_
    show wpAny _ _ (do ret (← newFields "list_iterator" [.ref x, rawInt 0])) _ _ s
    exact wpAny_bind (wpAny_newObj_type (wpAny_pure ⟨rfl, rfl⟩))
  have hnx : ∀ {Q' : Option Value → Shared → Prop}, Q' (some (.builtin "list_iterator.__next__")) { s with heap := s.heap.push { cls := .type "list_iterator", data := .fields #[.ref x, .int 0 0] } } → wpAny (model prog w) A (specialOf (.ref s.heap.objs.size) "__next__") Q' E { s with heap := s.heap.push { cls := .type "list_iterator", data := .fields #[.ref x, .int 0 0] } } := fun q => wpAny_specialOf ⟨_, Heap.get?_push_size _ rfl, rfl⟩ slot_listiter_next.lookup q
  split
  all_goals
    first
      | refine wpAny_pure ?_
      | refine wpAny_tryCatch (wpAny_pure (wpAny_pure ?_))
      | skip
  all_goals
    dsimp only
    rw [if_neg (show ¬ ((Value.builtin "list.__iter__" == Value.none) = true) from Bool.false_ne_true)]
    refine wpAny_bind (wpAny_mono key (fun v s' q => ?_) fun _ _ e => e)
    obtain ⟨rfl, rfl⟩ := q
    refine wpAny_pure ?_
    dsimp only
    refine wpAny_bind (hnx ?_)
    exact wpAny_pure hQ
end
end
-- text ZMO
section
noncomputable abbrev tabObj (ps : Array Value) : Obj := { cls := .none, data := .fields ps }
noncomputable def GenReady (prog : Program) (w : World) (A : Around) (a : Addr) (n : Nat) (Fv : Nat → Value → Prop) (h₀ : Heap) (L : Addr) (news : List (Addr × Obj)) (s : Shared) : Prop :=
  ∃ fp wr g St, WalksS prog w A.in4 a fp wr (GenOnlyQ g) n (fun j y => j < n ∧ Fv j y) St ∧ (∀ i s, St i s → s.TypeIs (.ref a) "generator") ∧ St 0 s ∧ (∀ b ∈ fp, b < s.heap.objs.size) ∧ a ∈ fp ∧
    ∀ b ∈ wr, b ≠ L ∧ h₀.get? b = none ∧ ∀ p ∈ news, p.1 ≠ b
section
variable {prog : Program} {w : World} {A : Around} {E : Value → Shared → Prop} {s : Shared} {K : Frag} {C L x c P : Addr} {h₀ : Heap} {m mg : Str → Option Value} {rest : List (Addr × Obj)} {ox ob : Obj} {od : Option Obj} {bm : Addr} {ps : Array Value}
theorem passing_all (n : Nat) : passing (fun _ => true) n 0 = List.range n := by unfold passing; simp
end
section
namespace C3
noncomputable abbrev T := (Program) × (World) × (Around) × (Value → Shared → Prop) × (Shared) × (Frag) × (Addr) × (Addr) × (Addr) × (Addr) × (Addr) × (Heap) × (Str → Option Value) × (Str → Option Value) × (List (Addr × Obj)) × (Obj) × (Obj) × (Option Obj) × (Addr) × (Array Value) × (Env) × (Expr) × (Expr) × (Str) × (Str) × (Pos) × (Pos) × (Pos) × (Nat) × (Scope) × (List (Str × Addr)) × (Pos) × (Array Value) × (Nat) × (Nat → Addr) × (Nat → Array Value) × (Nat → Value → Prop) × (Value → Shared → Prop)
noncomputable def Pf (prog : Program) (w : World) (A : Around) (E : Value → Shared → Prop) (s : Shared) (K : Frag) (C : Addr) (L : Addr) (x : Addr) (c : Addr) (P : Addr) (h₀ : Heap) (m : Str → Option Value) (mg : Str → Option Value) (rest : List (Addr × Obj)) (ox : Obj) (ob : Obj) (od : Option Obj) (bm : Addr) (ps : Array Value) (env : Env) (elt : Expr) (iter : Expr) (xa : Str) (xb : Str) (pa : Pos) (pb : Pos) (pt : Pos) (kt : Nat) (scope : Scope) (cl : List (Str × Addr)) (pos : Pos) (its : Array Value) (n : Nat) (Ts : Nat → Addr) (vals : Nat → Array Value) (Fv : Nat → Value → Prop) (Q : Value → Shared → Prop) : Prop := ∀ (F : Fr h₀ L s.heap m) (X₀ : K.In h₀) (hlim : h₀.NoLimit) (N : News h₀ L s.heap ((P, tabObj ps) :: rest)) (hPr : ∀ p ∈ rest, p.1 ≠ P) (M : BMod h₀ env.globals mg bm ob) (hcode : env.code = .ref c) (hc : ∀ (h : Heap) (ps : Array Value), (∀ b o, h₀.get? b = some o → h.get? b = some o) → h.get? P = some (tabObj ps) → TriplesOk ps.toList → h.IsCode c P ps ∧ h.TableAt c P ps) (htr : TriplesOk ps.toList) (hh : A.handled = none) (hco : scope.isCoroutine = false) (hclos : closureFor scope env = pure cl) (hcell : ∀ y ∈ scope.names, y.2 ≠ .cell) (h0 : scope.names.lookup (".0" : Str) = some NameKind.local) (hxa : scope.names.lookup xa = some .local) (hxb : scope.names.lookup xb = some .local) (hab : xa ≠ xb) (hkind : scope.kind = .function) (hroom : A.depth < recursionLimit) (I : InstAt s.heap x ox C od) (hox : ox.data = .seq its n) (hxP : x ≠ P) (hf : findIn K (.ref C) "__iter__" = some (some (.builtin "list.__iter__"))) (hm : mroIn K C (.type "list") = some true) (hiter : ∀ Q' : Value → Shared → Prop, Q' (.ref x) s → wpAny (model prog w) A (eval iter env) Q' E s) (hit : ∀ j, j < its.size → its[j]? = some (.ref (Ts j))) (htup : ∀ j, j < its.size → h₀.IsTuple (Ts j) (vals j)) (hval : ∀ j, j < its.size → ∃ va vb, vals j = #[va, vb]) (helt : ∀ (code : Value) (C' : Addr) (A' : Around) E' i va vb (t : Shared) m₂, A'.handled = none → A'.depth ≤ A.depth + 1 → A'.units ≤ A.units + 8 → i < its.size → vals i = #[va, vb] → Fr h₀ C' t.heap m₂ → m₂ xa = some va → m₂ xb = some vb →
      wpAny (model prog w) A' (eval elt (genEnv scope cl C' code builtinsNs env)) (fun y s₃ => Fv i y ∧ Keeps t s₃) E' t) (hQ : ∀ a s₅ ps', TriplesOk ps'.toList → Fr h₀ L s₅.heap m → News h₀ L s₅.heap ((P, tabObj ps') :: rest) → (AllBare s.gens → AllBare s₅.gens) → s₅.os = s.os → GenReady prog w A a its.size Fv h₀ L ((P, tabObj ps') :: rest) s₅ → Q (.ref a) s₅) (hs : ∀ x, genFold iter env x = pure x), wpAny (model prog w) A (eval (.GeneratorExp elt [⟨.Tuple [.Name xa pa, .Name xb pb] kt pt, iter, [], 0⟩] scope pos) env) Q E s
noncomputable def Q_ (z : T) : Prop := Pf z.1 (z.2.1) (z.2.2.1) (z.2.2.2.1) (z.2.2.2.2.1) (z.2.2.2.2.2.1) (z.2.2.2.2.2.2.1) (z.2.2.2.2.2.2.2.1) (z.2.2.2.2.2.2.2.2.1) (z.2.2.2.2.2.2.2.2.2.1) (z.2.2.2.2.2.2.2.2.2.2.1) (z.2.2.2.2.2.2.2.2.2.2.2.1) (z.2.2.2.2.2.2.2.2.2.2.2.2.1) (z.2.2.2.2.2.2.2.2.2.2.2.2.2.1) (z.2.2.2.2.2.2.2.2.2.2.2.2.2.2.1) (z.2.2.2.2.2.2.2.2.2.2.2.2.2.2.2.1) (z.2.2.2.2.2.2.2.2.2.2.2.2.2.2.2.2.1) (z.2.2.2.2.2.2.2.2.2.2.2.2.2.2.2.2.2.1) (z.2.2.2.2.2.2.2.2.2.2.2.2.2.2.2.2.2.2.1) (z.2.2.2.2.2.2.2.2.2.2.2.2.2.2.2.2.2.2.2.1) (z.2.2.2.2.2.2.2.2.2.2.2.2.2.2.2.2.2.2.2.2.1) (z.2.2.2.2.2.2.2.2.2.2.2.2.2.2.2.2.2.2.2.2.2.1) (z.2.2.2.2.2.2.2.2.2.2.2.2.2.2.2.2.2.2.2.2.2.2.1) (z.2.2.2.2.2.2.2.2.2.2.2.2.2.2.2.2.2.2.2.2.2.2.2.1) (z.2.2.2.2.2.2.2.2.2.2.2.2.2.2.2.2.2.2.2.2.2.2.2.2.1) (z.2.2.2.2.2.2.2.2.2.2.2.2.2.2.2.2.2.2.2.2.2.2.2.2.2.1) (z.2.2.2.2.2.2.2.2.2.2.2.2.2.2.2.2.2.2.2.2.2.2.2.2.2.2.1) (z.2.2.2.2.2.2.2.2.2.2.2.2.2.2.2.2.2.2.2.2.2.2.2.2.2.2.2.1) (z.2.2.2.2.2.2.2.2.2.2.2.2.2.2.2.2.2.2.2.2.2.2.2.2.2.2.2.2.1) (z.2.2.2.2.2.2.2.2.2.2.2.2.2.2.2.2.2.2.2.2.2.2.2.2.2.2.2.2.2.1) (z.2.2.2.2.2.2.2.2.2.2.2.2.2.2.2.2.2.2.2.2.2.2.2.2.2.2.2.2.2.2.1) (z.2.2.2.2.2.2.2.2.2.2.2.2.2.2.2.2.2.2.2.2.2.2.2.2.2.2.2.2.2.2.2.1) (z.2.2.2.2.2.2.2.2.2.2.2.2.2.2.2.2.2.2.2.2.2.2.2.2.2.2.2.2.2.2.2.2.1) (z.2.2.2.2.2.2.2.2.2.2.2.2.2.2.2.2.2.2.2.2.2.2.2.2.2.2.2.2.2.2.2.2.2.1) (z.2.2.2.2.2.2.2.2.2.2.2.2.2.2.2.2.2.2.2.2.2.2.2.2.2.2.2.2.2.2.2.2.2.2.1) (z.2.2.2.2.2.2.2.2.2.2.2.2.2.2.2.2.2.2.2.2.2.2.2.2.2.2.2.2.2.2.2.2.2.2.2.1) (z.2.2.2.2.2.2.2.2.2.2.2.2.2.2.2.2.2.2.2.2.2.2.2.2.2.2.2.2.2.2.2.2.2.2.2.2.1) (z.2.2.2.2.2.2.2.2.2.2.2.2.2.2.2.2.2.2.2.2.2.2.2.2.2.2.2.2.2.2.2.2.2.2.2.2.2)
theorem ne : Nonempty T := ⟨(Classical.choice inferInstance, Classical.choice Mine.neW, Classical.choice Mine.neA, Classical.choice inferInstance, Classical.choice Mine.neS, Classical.choice inferInstance, Classical.choice inferInstance, Classical.choice inferInstance, Classical.choice inferInstance, Classical.choice inferInstance, Classical.choice inferInstance, Classical.choice inferInstance, Classical.choice inferInstance, Classical.choice inferInstance, Classical.choice inferInstance, Classical.choice inferInstance, Classical.choice inferInstance, Classical.choice inferInstance, Classical.choice inferInstance, Classical.choice inferInstance, Classical.choice inferInstance, Classical.choice inferInstance, Classical.choice inferInstance, Classical.choice inferInstance, Classical.choice inferInstance, Classical.choice inferInstance, Classical.choice inferInstance, Classical.choice inferInstance, Classical.choice inferInstance, Classical.choice inferInstance, Classical.choice inferInstance, Classical.choice inferInstance, Classical.choice inferInstance, Classical.choice inferInstance, Classical.choice inferInstance, Classical.choice inferInstance, Classical.choice inferInstance, Classical.choice inferInstance)⟩
noncomputable def z_ : T := @Classical.epsilon _ ne fun z => ¬ Q_ z
@[irreducible] noncomputable def prog : Program := z_.1
@[irreducible] noncomputable def w : World := z_.2.1
@[irreducible] noncomputable def A : Around := z_.2.2.1
@[irreducible] noncomputable def E : Value → Shared → Prop := z_.2.2.2.1
@[irreducible] noncomputable def s : Shared := z_.2.2.2.2.1
@[irreducible] noncomputable def K : Frag := z_.2.2.2.2.2.1
@[irreducible] noncomputable def C : Addr := z_.2.2.2.2.2.2.1
@[irreducible] noncomputable def L : Addr := z_.2.2.2.2.2.2.2.1
@[irreducible] noncomputable def x : Addr := z_.2.2.2.2.2.2.2.2.1
@[irreducible] noncomputable def c : Addr := z_.2.2.2.2.2.2.2.2.2.1
@[irreducible] noncomputable def P : Addr := z_.2.2.2.2.2.2.2.2.2.2.1
@[irreducible] noncomputable def h₀ : Heap := z_.2.2.2.2.2.2.2.2.2.2.2.1
@[irreducible] noncomputable def m : Str → Option Value := z_.2.2.2.2.2.2.2.2.2.2.2.2.1
@[irreducible] noncomputable def mg : Str → Option Value := z_.2.2.2.2.2.2.2.2.2.2.2.2.2.1
@[irreducible] noncomputable def rest : List (Addr × Obj) := z_.2.2.2.2.2.2.2.2.2.2.2.2.2.2.1
@[irreducible] noncomputable def ox : Obj := z_.2.2.2.2.2.2.2.2.2.2.2.2.2.2.2.1
@[irreducible] noncomputable def ob : Obj := z_.2.2.2.2.2.2.2.2.2.2.2.2.2.2.2.2.1
@[irreducible] noncomputable def od : Option Obj := z_.2.2.2.2.2.2.2.2.2.2.2.2.2.2.2.2.2.1
@[irreducible] noncomputable def bm : Addr := z_.2.2.2.2.2.2.2.2.2.2.2.2.2.2.2.2.2.2.1
@[irreducible] noncomputable def ps : Array Value := z_.2.2.2.2.2.2.2.2.2.2.2.2.2.2.2.2.2.2.2.1
@[irreducible] noncomputable def env : Env := z_.2.2.2.2.2.2.2.2.2.2.2.2.2.2.2.2.2.2.2.2.1
@[irreducible] noncomputable def elt : Expr := z_.2.2.2.2.2.2.2.2.2.2.2.2.2.2.2.2.2.2.2.2.2.1
@[irreducible] noncomputable def iter : Expr := z_.2.2.2.2.2.2.2.2.2.2.2.2.2.2.2.2.2.2.2.2.2.2.1
@[irreducible] noncomputable def xa : Str := z_.2.2.2.2.2.2.2.2.2.2.2.2.2.2.2.2.2.2.2.2.2.2.2.1
@[irreducible] noncomputable def xb : Str := z_.2.2.2.2.2.2.2.2.2.2.2.2.2.2.2.2.2.2.2.2.2.2.2.2.1
@[irreducible] noncomputable def pa : Pos := z_.2.2.2.2.2.2.2.2.2.2.2.2.2.2.2.2.2.2.2.2.2.2.2.2.2.1
@[irreducible] noncomputable def pb : Pos := z_.2.2.2.2.2.2.2.2.2.2.2.2.2.2.2.2.2.2.2.2.2.2.2.2.2.2.1
@[irreducible] noncomputable def pt : Pos := z_.2.2.2.2.2.2.2.2.2.2.2.2.2.2.2.2.2.2.2.2.2.2.2.2.2.2.2.1
@[irreducible] noncomputable def kt : Nat := z_.2.2.2.2.2.2.2.2.2.2.2.2.2.2.2.2.2.2.2.2.2.2.2.2.2.2.2.2.1
@[irreducible] noncomputable def scope : Scope := z_.2.2.2.2.2.2.2.2.2.2.2.2.2.2.2.2.2.2.2.2.2.2.2.2.2.2.2.2.2.1
@[irreducible] noncomputable def cl : List (Str × Addr) := z_.2.2.2.2.2.2.2.2.2.2.2.2.2.2.2.2.2.2.2.2.2.2.2.2.2.2.2.2.2.2.1
@[irreducible] noncomputable def pos : Pos := z_.2.2.2.2.2.2.2.2.2.2.2.2.2.2.2.2.2.2.2.2.2.2.2.2.2.2.2.2.2.2.2.1
@[irreducible] noncomputable def its : Array Value := z_.2.2.2.2.2.2.2.2.2.2.2.2.2.2.2.2.2.2.2.2.2.2.2.2.2.2.2.2.2.2.2.2.1
@[irreducible] noncomputable def n : Nat := z_.2.2.2.2.2.2.2.2.2.2.2.2.2.2.2.2.2.2.2.2.2.2.2.2.2.2.2.2.2.2.2.2.2.1
@[irreducible] noncomputable def Ts : Nat → Addr := z_.2.2.2.2.2.2.2.2.2.2.2.2.2.2.2.2.2.2.2.2.2.2.2.2.2.2.2.2.2.2.2.2.2.2.1
@[irreducible] noncomputable def vals : Nat → Array Value := z_.2.2.2.2.2.2.2.2.2.2.2.2.2.2.2.2.2.2.2.2.2.2.2.2.2.2.2.2.2.2.2.2.2.2.2.1
@[irreducible] noncomputable def Fv : Nat → Value → Prop := z_.2.2.2.2.2.2.2.2.2.2.2.2.2.2.2.2.2.2.2.2.2.2.2.2.2.2.2.2.2.2.2.2.2.2.2.2.1
@[irreducible] noncomputable def Q : Value → Shared → Prop := z_.2.2.2.2.2.2.2.2.2.2.2.2.2.2.2.2.2.2.2.2.2.2.2.2.2.2.2.2.2.2.2.2.2.2.2.2.2
theorem core : Pf prog w A E s K C L x c P h₀ m mg rest ox ob od bm ps env elt iter xa xb pa pb pt kt scope cl pos its n Ts vals Fv Q := by
  unfold Pf
  intro F X₀ hlim N hPr M hcode hc htr hh hco hclos hcell h0 hxa hxb hab hkind hroom I hox hxP hf hm hiter hit htup hval helt hQ hs
  refine wpAny_GeneratorExp_walksQTD hh hco hclos hcell h0 hxa hxb hab hkind hroom (hiter _ (pyIter_acc (X₀.keeps F.keep) I hf hm ?_)) hs
  have kI : ∀ b o, s.heap.get? b = some o → (s.heap.push { cls := .type "list_iterator", data := .fields #[.ref x, .int 0 0] }).get? b = some o := fun b o e => Heap.get?_push_of_some _ e
  have F₂ := F.push (o := { cls := .type "list_iterator", data := .fields #[.ref x, .int 0 0] })
  have N₂ := N.push F { cls := .type "list_iterator", data := .fields #[.ref x, .int 0 0] }
  have hP₂ := (N₂ (P, tabObj ps) (by simp)).1
  have hPn : h₀.get? P = none := (N (P, tabObj ps) (by simp)).2.2
  have hPL : P ≠ L := (N (P, tabObj ps) (by simp)).2.1
  have ht₂ := hc _ ps F₂.keep hP₂ htr
  refine ⟨(hlim.keeps F.keep).keeps kI, ?_⟩
  have key : ∀ code s₃ ps', TriplesOk ps'.toList → (∀ b o, b ≠ P → (s.heap.push { cls := .type "list_iterator", data := .fields #[.ref x, .int 0 0] }).get? b = some o → s₃.heap.get? b = some o) → s₃.heap.get? P = some (tabObj ps') →
      s₃.gens = s.gens → s₃.os = s.os → s₃.drawn = s.drawn → (s.heap.push { cls := .type "list_iterator", data := .fields #[.ref x, .int 0 0] }).objs.size ≤ s₃.heap.objs.size → wpAny (model prog w) A (builtinsFor env.globals env.builtins) (fun bi s₄ =>
        ∃ I fp wr n₀ Pt St₀ Mid pz F, (Value.ref s.heap.objs.size) = .ref I ∧ (∀ A' : Around, A'.handled = none → WalksU prog w A' I fp wr n₀ Pt St₀ Mid) ∧ (∀ i vals, Pt i vals → ∃ va vb, vals = #[va, vb]) ∧ St₀ 0 s₄.heap ∧ (∀ b ∈ fp, b < s₄.heap.objs.size) ∧ s₄.heap.NoLimit ∧ cStatics ∉ wr ∧
          (∀ href : Heap, (∀ b o, s₄.heap.get? b = some o → href.get? b = some o) →
            QuietGenTD prog w (genEnv scope cl s₄.heap.objs.size code bi env) xa xb [] elt (List.range s₄.heap.objs.size) wr Pt pz F href (A.depth + 1) (A.units + 8)) ∧
          (∀ a h₅ tk gs, gs.bare = true → s₄.heap.objs.size < a → h₅.objs.size = a + 1 → (∀ b o, s₄.heap.get? b = some o → h₅.get? b = some o) →
            WalksS prog w A.in4 a (a :: s₄.heap.objs.size :: List.range s₄.heap.objs.size) (s₄.heap.objs.size :: wr) (GenOnlyQ s₄.gens.size) (passing pz n₀ 0).length
              (fun j y => ∃ i, (passing pz n₀ 0)[j]? = some i ∧ F i y) (GenAt prog w A.in4 a s₄.gens.size s₄.heap.objs.size (List.range s₄.heap.objs.size) wr pz n₀ F) →
            GenAt prog w A.in4 a s₄.gens.size s₄.heap.objs.size (List.range s₄.heap.objs.size) wr pz n₀ F 0 { s₄ with gens := s₄.gens.push gs, toks := tk, heap := h₅ } →
            Q (.ref a) { s₄ with gens := s₄.gens.push gs, toks := tk, heap := h₅ })) E s₃ := by
    intro code s₃ ps' htr' hk₃ hP₃ hg₃ hos₃ hdr₃ hsz₃
    have k₃ : ∀ b o, h₀.get? b = some o → s₃.heap.get? b = some o := fun b o e => hk₃ b o (fun q => by rw [q, hPn] at e; cases e) (F₂.keep b o e)
    have M₃ : BMod s₃.heap env.globals mg bm ob := M.keeps k₃
    refine wpAny_builtinsFor M₃.ns M₃.name M₃.ne M₃.obj M₃.cls M₃.dict M₃.data ?_
    have hIn : h₀.get? s.heap.objs.size = none := Heap.get?_none_of_le (Nat.le_trans F.above (Nat.le_of_lt F.ns.lt))
    have hxI : x ≠ s.heap.objs.size := Nat.ne_of_lt (Heap.lt_size I.at_)
    have hTI : ∀ j, j < its.size → Ts j ≠ s.heap.objs.size := fun j hj q => by obtain ⟨o, ho, _⟩ := htup j hj; rw [q, hIn] at ho; cases ho
    have hTlt : ∀ j, j < its.size → Ts j < s.heap.objs.size := fun j hj => by obtain ⟨o, ho, _⟩ := htup j hj; exact Heap.lt_size (F.keep _ _ ho)
    have hIP : s.heap.objs.size ≠ P := fun q => by have := Heap.lt_size (N (P, tabObj ps) (by simp)).1; rw [← q] at this; exact Nat.lt_irrefl _ this
    refine ⟨s.heap.objs.size, _, _, its.size, (fun j v => j < its.size ∧ v = vals j), _, _, (fun _ => true), Fv, rfl, fun A' hA => (WalksU_seqOfTuples hA s.heap.objs.size x hxI its Ts vals hit hTI).bound, ?_, ?_, ?_, (hlim.keeps k₃), ?_, ?_, ?_⟩
    · rintro i v ⟨hi, rfl⟩; exact hval i hi
    · refine ⟨⟨_, hk₃ _ _ hIP (Heap.get?_push_size _ rfl), rfl, rfl⟩, ⟨ox, n, hk₃ _ _ hxP (kI _ _ I.at_), hox⟩, fun k hk => ?_⟩
      obtain ⟨o, ho, r⟩ := htup k hk
      exact ⟨o, k₃ _ _ ho, r⟩
    · intro b hb
      rw [Heap.size_push] at hsz₃
      rcases List.mem_cons.mp hb with rfl | hb
      · exact hsz₃
      · rcases List.mem_cons.mp hb with rfl | hb
        · exact Nat.lt_of_lt_of_le (Nat.lt_succ_of_lt (Heap.lt_size I.at_)) hsz₃
        · obtain ⟨j, hj, rfl⟩ := List.mem_map.mp hb
          exact Nat.lt_of_lt_of_le (Nat.lt_succ_of_lt (hTlt j (List.mem_range.mp hj))) hsz₃
    · intro hb
      rw [List.mem_singleton] at hb
      obtain ⟨mc, hns, _⟩ := hlim
      obtain ⟨o, es, ep, ho, _⟩ := hns
      rw [hb, hIn] at ho; cases ho
    · intro href hhref
      refine ⟨fun A' E' i va vb t m₂ hA hD hU hPv hn hma hmb hkp => wpAny_pure ⟨rfl, t.heap, t.toks, rfl, fun _ _ e => e⟩, fun A' E' i va vb t m₂ hA hD hU hPv _ hn hma hmb hkp => ?_⟩
      refine helt code _ A' E' i va vb t m₂ hA hD hU hPv.1 hPv.2.symm ⟨hn, fun b o e => hkp b (List.mem_range.mpr (Heap.lt_size (k₃ b o e))) (fun hm => ?_) o (hhref b o (k₃ b o e)), ?_⟩ hma hmb
      · rw [List.mem_singleton] at hm; rw [hm, hIn] at e; cases e
      · rw [Heap.size_push] at hsz₃; exact Nat.le_trans F.above (Nat.le_trans (Nat.le_of_lt F.ns.lt) (Nat.le_of_succ_le hsz₃))
    · intro a h₅ tk gs hgb hag hsz₅ hk₅ W hat
      have F₃ : Fr h₀ L s₃.heap m := by
        obtain ⟨oL, es, ep, hL', r⟩ := F₂.ns
        exact ⟨⟨oL, es, ep, hk₃ _ _ hPL.symm hL', r⟩, k₃, F.above⟩
      have N₃ : News h₀ L s₃.heap ((P, tabObj ps') :: rest) := by
        intro p hp
        rcases List.mem_cons.mp hp with rfl | hp
        · exact ⟨hP₃, hPL, hPn⟩
        · have := N p (List.mem_cons_of_mem _ hp)
          exact ⟨hk₃ _ _ (hPr p hp) (kI _ _ this.1), this.2⟩
      have e : (passing (fun _ => true) its.size 0).length = its.size := by rw [passing_all, List.length_range]
      rw [e] at W
      have W2 := W.imp (P' := fun j y => j < its.size ∧ Fv j y) fun j y hy => by
        obtain ⟨i, hi, hy⟩ := hy
        rw [passing_all] at hi
        obtain ⟨hj, e⟩ := List.getElem?_eq_some_iff.mp hi
        rw [List.length_range] at hj
        rw [List.getElem_range] at e
        exact ⟨hj, e ▸ hy⟩
      refine hQ a _ ps' htr' (F₃.keeps hk₅) (fun p hp => ⟨hk₅ _ _ (N₃ p hp).1, (N₃ p hp).2⟩) (fun hb => ?_) hos₃ ⟨_, _, _, _, W2, (fun i s' st => st.1.typeIs), hat, ?_, List.mem_cons_self, ?_⟩
      · show AllBare (s₃.gens.push gs)
        rw [hg₃]; exact hb.push hgb
      · intro b hb
        show b < h₅.objs.size
        rw [hsz₅]
        rcases List.mem_cons.mp hb with rfl | hb
        · exact Nat.lt_succ_self _
        · rcases List.mem_cons.mp hb with rfl | hb
          · exact Nat.lt_succ_of_lt hag
          · exact Nat.lt_succ_of_lt (Nat.lt_trans (List.mem_range.mp hb) hag)
      · rw [Heap.size_push] at hsz₃
        have lt : ∀ p ∈ ((P, tabObj ps') :: rest), p.1 < s.heap.objs.size := fun p hp => by
          rcases List.mem_cons.mp hp with rfl | hp
          · exact Heap.lt_size (N (P, tabObj ps) (by simp)).1
          · exact Heap.lt_size (N p (List.mem_cons_of_mem _ hp)).1
        have hL := F.ns.lt
        have ha := F.above
        intro b hb
        have hb' : s.heap.objs.size ≤ b := by
          rcases List.mem_cons.mp hb with rfl | hb
          · exact Nat.le_of_succ_le hsz₃
          · rw [List.mem_singleton] at hb; rw [hb]; exact Nat.le_refl _
        refine ⟨Nat.ne_of_gt (Nat.lt_of_lt_of_le hL hb'), Heap.get?_none_of_le (Nat.le_trans ha (Nat.le_trans (Nat.le_of_lt hL) hb')), fun p hp => Nat.ne_of_lt (Nat.lt_of_lt_of_le (lt p hp) hb')⟩
  cases hnf : codeAmong pos ps.toList with
  | some cv =>
    refine wpAny_genexprCode_hit hcode ht₂.1 hnf (key _ _ ps htr (fun b o _ e => e) hP₂ rfl rfl rfl (Nat.le_refl _))
  | none =>
    refine wpAny_genexprCodeX hcode ht₂.1 ht₂.2 hnf fun c' h₃ tk₃ hx₃ hge hlt hcode₃ _ htab₃ _ => key _ _ _ ?_ (fun b o hb e => hx₃ b o hb e) htab₃.2 rfl rfl rfl (Nat.le_trans hge (Nat.le_of_lt hlt))
    obtain ⟨o, vs, file, tf, flags, tg, inF, text, tt, op, ho, hd, h11, h2, h7, h9, h10, hop, hpd, htr, hne⟩ := hcode₃
    exact htr
theorem all (y : T) : Q_ y := eps_all ne Q_ (by with_unfolding_all exact core) y
end C3
end
section
variable {prog : Program} {w : World} {A : Around} {E : Value → Shared → Prop} {s : Shared} {K : Frag} {C L x c P : Addr} {h₀ : Heap} {m mg : Str → Option Value} {rest : List (Addr × Obj)} {ox ob : Obj} {od : Option Obj} {bm : Addr} {ps : Array Value}
theorem gen_acc {env : Env} {elt iter : Expr} {xa xb : Str} {pa pb pt : Pos} {kt : Nat} {scope : Scope} {cl : List (Str × Addr)} {pos : Pos} {its : Array Value} {n : Nat} {Ts : Nat → Addr} {vals : Nat → Array Value} {Fv : Nat → Value → Prop} {Q : Value → Shared → Prop}
    (F : Fr h₀ L s.heap m) (X₀ : K.In h₀) (hlim : h₀.NoLimit) (N : News h₀ L s.heap ((P, tabObj ps) :: rest)) (hPr : ∀ p ∈ rest, p.1 ≠ P) (M : BMod h₀ env.globals mg bm ob) (hcode : env.code = .ref c)
    (hc : ∀ (h : Heap) (ps : Array Value), (∀ b o, h₀.get? b = some o → h.get? b = some o) → h.get? P = some (tabObj ps) → TriplesOk ps.toList → h.IsCode c P ps ∧ h.TableAt c P ps) (htr : TriplesOk ps.toList)
    (hh : A.handled = none) (hco : scope.isCoroutine = false) (hclos : closureFor scope env = pure cl) (hcell : ∀ y ∈ scope.names, y.2 ≠ .cell) (h0 : scope.names.lookup (".0" : Str) = some NameKind.local)
    (hxa : scope.names.lookup xa = some .local) (hxb : scope.names.lookup xb = some .local) (hab : xa ≠ xb) (hkind : scope.kind = .function) (hroom : A.depth < recursionLimit)
    (I : InstAt s.heap x ox C od) (hox : ox.data = .seq its n) (hxP : x ≠ P) (hf : findIn K (.ref C) "__iter__" = some (some (.builtin "list.__iter__"))) (hm : mroIn K C (.type "list") = some true)
    (hiter : ∀ Q' : Value → Shared → Prop, Q' (.ref x) s → wpAny (model prog w) A (eval iter env) Q' E s)
    (hit : ∀ j, j < its.size → its[j]? = some (.ref (Ts j))) (htup : ∀ j, j < its.size → h₀.IsTuple (Ts j) (vals j)) (hval : ∀ j, j < its.size → ∃ va vb, vals j = #[va, vb])
    (helt : ∀ (code : Value) (C' : Addr) (A' : Around) E' i va vb (t : Shared) m₂, A'.handled = none → A'.depth ≤ A.depth + 1 → A'.units ≤ A.units + 8 → i < its.size → vals i = #[va, vb] → Fr h₀ C' t.heap m₂ → m₂ xa = some va → m₂ xb = some vb →
      wpAny (model prog w) A' (eval elt (genEnv scope cl C' code builtinsNs env)) (fun y s₃ => Fv i y ∧ Keeps t s₃) E' t)
    (hQ : ∀ a s₅ ps', TriplesOk ps'.toList → Fr h₀ L s₅.heap m → News h₀ L s₅.heap ((P, tabObj ps') :: rest) → (AllBare s.gens → AllBare s₅.gens) → s₅.os = s.os → GenReady prog w A a its.size Fv h₀ L ((P, tabObj ps') :: rest) s₅ → Q (.ref a) s₅)
    (hs : ∀ x, genFold iter env x = pure x) :
    wpAny (model prog w) A (eval (.GeneratorExp elt [⟨.Tuple [.Name xa pa, .Name xb pb] kt pt, iter, [], 0⟩] scope pos) env) Q E s :=
  C3.all (prog, w, A, E, s, K, C, L, x, c, P, h₀, m, mg, rest, ox, ob, od, bm, ps, env, elt, iter, xa, xb, pa, pb, pt, kt, scope, cl, pos, its, n, Ts, vals, Fv, Q) F X₀ hlim N hPr M hcode hc htr hh hco hclos hcell h0 hxa hxb hab hkind hroom I hox hxP hf hm hiter hit htup hval helt hQ hs
end
end
-- text ZMQ
section
open Sem (wp)
section
variable {prog : Program} {w : World} {A : Around} {E : Value → Shared → Prop} {s : Shared} {I : Addr} {fp wr : List Addr} {G : Array GenState → Array GenState → Prop} {n : Nat} {P : Nat → Value → Prop} {St : Nat → Shared → Prop}
theorem WalksS_ahead (W : WalksS prog w A I fp wr G n P St) (P₀ : Value → Prop) :
    WalksS prog w A I fp wr G (n + 1) (fun j v => match j with | 0 => P₀ v | j + 1 => P j v) (fun j s => match j with | 0 => False | j + 1 => St j s) where
  sub := W.sub
  grefl := W.grefl
  gtrans := W.gtrans
  frame := fun i s h' tk st ht hk => by
    cases i with
    | zero => exact st.elim
    | succ i => exact W.frame i s h' tk st ht hk
  item := fun i s Q E hi st hQ => by
    cases i with
    | zero => exact st.elim
    | succ i => exact W.item i s Q E (Nat.lt_of_succ_lt_succ hi) st hQ
  done := fun s Q E st hQ => W.done s Q E st hQ
  self := fun i s Q E st hQ => by
    cases i with
    | zero => exact st.elim
    | succ i => exact W.self i s Q E st hQ
noncomputable def aheadVal (base : Int) (val : Nat → Int) : Nat → Int | 0 => base | j + 1 => val j
theorem preSum_ahead (base : Int) (val : Nat → Int) : ∀ n, preSum (aheadVal base val) (n + 1) = base + preSum val n
  | 0 => by simp [preSum, aheadVal]
  | n + 1 => by
    rw [preSum, preSum_ahead base val n]
    show base + preSum val n + val n = base + (preSum val n + val n)
    omega
theorem args_sum2 (a b : Value) : argsOk "sum" ⟨[a, b], []⟩ := by unfold argsOk; kernel_rfl
theorem sum_start {x : Value} {base : Int} {bt : Tok} {Q : Value → Shared → Prop} (hb : InLong base)
    (h : wpAny (model prog w) A.in1 (pyIter x) (fun it s₂ => ∃ I fp wr G n P St val, it = .ref I ∧ WalksS prog w A.in1 I fp wr G n P St ∧ St 0 s₂ ∧ (∀ b ∈ fp, b < s₂.heap.objs.size) ∧
      (∀ i v, P i v → ∃ t, v = .int (val i) t) ∧ (∀ j, j < n → InLong (val j) ∧ InLong (base + preSum val (j + 1))) ∧
      ∀ s' t', Moved wr G s₂ s' → Q (.int (base + preSum val n) t') s') E s) :
    wpAny (model prog w) A (call (.builtin "sum") [x, .int base bt]) Q E s := by
  refine call_function_tree F.kind_sum F.plain_sum F.entry_sum (args_sum2 _ _) ?_
  unfold Builtin.«sum»
  simp -iota only [List.length_cons, List.length_nil]
  rw [if_neg (by decide)]
  refine wpAny_bind (wpAny_of_eq (show Builtin.Builtins.bindParams "sum" ["start"] 0 ⟨[.int base bt], []⟩ = pure [some (.int base bt)] from rfl) ?_)
  refine wpAny_bind (wpAny_mono h (fun it s₂ h₂ => ?_) fun _ _ e => e)
  obtain ⟨I, fp, wr, G, n, P, St, val, rfl, W, hst, hfp, hval, hfit, hQ⟩ := h₂
  have hfl : (decide (-(2 ^ 63) ≤ base) && decide (base < 2 ^ 63)) = true := by
    obtain ⟨f1, f2⟩ := hb
    simp -iota only [Bool.and_eq_true, decide_eq_true_eq]; exact ⟨f1, f2⟩
  dsimp only
  split
  case isFalse hneg => exact absurd hfl hneg
  refine wpAny_bind (wpAny_rule (wpAny_bind (wpAny_mkInt (wpAny_bind (wpAny_pure ?_)))))
  dsimp only
  simp -iota only [List.forIn_cons, List.forIn_nil]
  refine wpAny_bind (wpAny_bind (wpAny_bind (wpAny_isInstance (T := "int") (b := false) (typeIs_int _ _ _) PySem.sub_int_str ?_)))
  simp -iota only [Bool.false_eq_true, if_false]
  refine wpAny_pure (wpAny_bind (wpAny_bind (wpAny_isInstance (T := "int") (b := false) (typeIs_int _ _ _) PySem.sub_int_bytes ?_)))
  simp -iota only [Bool.false_eq_true, if_false]
  refine wpAny_pure (wpAny_bind (wpAny_bind (wpAny_isInstance (T := "int") (b := false) (typeIs_int _ _ _) PySem.sub_int_bytearray ?_)))
  simp -iota only [Bool.false_eq_true, if_false]
  refine wpAny_pure (wpAny_pure ?_)
  refine wpAny_bind (wpAny_newObj_type ?_)
  have hSf : s₂.heap.objs.size ∉ fp := fun hm => Nat.lt_irrefl _ (hfp _ hm)
  refine wpAny_pure ⟨plainId_quiet F.plain_sum_loop _, codeAny_sum_loopS (WalksS_ahead W fun v => ∃ t, v = .int base t) (aheadVal base val) ?_ ?_ s₂.heap.objs.size hSf (n + 1 - 1) 1 _ s₂.toks 0 rfl (Nat.succ_le_succ (Nat.zero_le _))
    (W.frame 0 s₂ _ _ hst (by first | exact Nat.le_refl _ | exact Nat.le_succ _ | omega) fun b _ o e => Heap.get?_push_of_some _ e) ?_ fun s' t' hm => ?_⟩
  · intro i v hv
    cases i with
    | zero => exact hv
    | succ i => exact hval i v hv
  · intro j hj
    rw [preSum_ahead]
    cases j with
    | zero => exact ⟨hb, by simpa [preSum] using hb⟩
    | succ j => exact hfit j (Nat.lt_of_succ_lt_succ hj)
  · rw [show preSum (aheadVal base val) 1 = base by rw [preSum_ahead base val 0]; simp [preSum]]
    exact Heap.get?_push_size _ rfl
  · rw [preSum_ahead]
    exact hQ s' t' (hm.drop_new (by first | exact Nat.le_refl _ | exact Nat.le_succ _ | omega))
end
end
-- text ZMR
section
example : True := by
  k_with "~getAttr ref" => ((k_here; (refine' get_acc ?zqk1 ?zqk2 ?zqk3 ?zqk4 ?zqk5 ?zqk6 ?zqk7 ?_; k_dflt ((case zqk1 => k_in); (case zqk2 => k_inst); (case zqk3 | zqk4 | zqk5 => k_is); (case zqk6 => exact findObj_own (by k_is) (by k_is) (by k_is) rfl); (case zqk7 => rfl); k_whole))))
  trivial
noncomputable def Items (h : Heap) (its : Array Value) (pr : List (Str × Str)) : Prop :=
  its.size = pr.length ∧ ∀ (j : Nat) (p : Str × Str), pr[j]? = some p → ∃ (T : Addr) (ta tb : Tok), its[j]? = some (.ref T) ∧ h.IsTuple T #[.str p.1 ta, .str p.2 tb]
theorem Items.keeps {h h' : Heap} {its : Array Value} {pr : List (Str × Str)} (x : Items h its pr) (hk : ∀ b o, h.get? b = some o → h'.get? b = some o) : Items h' its pr :=
  ⟨x.1, fun j p e => let ⟨T, ta, tb, a, o, b, r⟩ := x.2 j p e; ⟨T, ta, tb, a, o, hk _ _ b, r⟩⟩
theorem Items.fn {h : Heap} {its : Array Value} {pr : List (Str × Str)} (x : Items h its pr) : ∃ (Ts : Nat → Addr) (vals : Nat → Array Value), (∀ j, j < its.size → its[j]? = some (.ref (Ts j))) ∧ (∀ j, j < its.size → h.IsTuple (Ts j) (vals j)) ∧
    (∀ j, j < its.size → ∃ p ta tb, pr[j]? = some p ∧ vals j = #[.str p.1 ta, .str p.2 tb]) := by
  have hx : ∀ j : Nat, ∃ (T : Addr) (vs : Array Value), j < its.size → its[j]? = some (.ref T) ∧ h.IsTuple T vs ∧ ∃ p ta tb, pr[j]? = some p ∧ vs = #[.str p.1 ta, .str p.2 tb] := by
    intro j
    by_cases hj : j < its.size
    · have hj' : j < pr.length := x.1 ▸ hj
      obtain ⟨T, ta, tb, a, b⟩ := x.2 j _ (List.getElem?_eq_getElem hj')
      exact ⟨T, _, fun _ => ⟨a, b, _, ta, tb, List.getElem?_eq_getElem hj', rfl⟩⟩
    · exact ⟨(0 : Nat), #[], fun q => absurd q hj⟩
  refine ⟨fun j => (hx j).choose, fun j => (hx j).choose_spec.choose, fun j hj => ((hx j).choose_spec.choose_spec hj).1, fun j hj => ((hx j).choose_spec.choose_spec hj).2.1, fun j hj => ((hx j).choose_spec.choose_spec hj).2.2⟩
theorem code_len {w : World} {h : Heap} (X : (hd.heap_39 w.params).In h) (ps : Array Value) (hP : h.get? 86 = some (tabObj ps)) (ht : TriplesOk ps.toList) : h.IsCode 90 86 ps ∧ h.TableAt 90 86 ps :=
  ⟨⟨_, _, _, _, _, _, _, _, _, _, X 90 _ rfl, rfl, rfl, rfl, rfl, rfl, rfl, hP, rfl, ht, by decide +kernel⟩, ⟨_, _, X 90 _ rfl, rfl, rfl, rfl⟩, hP⟩
theorem code_str {w : World} {h : Heap} (X : (hd.heap_39 w.params).In h) (ps : Array Value) (hP : h.get? 93 = some (tabObj ps)) (ht : TriplesOk ps.toList) : h.IsCode 97 93 ps ∧ h.TableAt 97 93 ps :=
  ⟨⟨_, _, _, _, _, _, _, _, _, _, X 97 _ rfl, rfl, rfl, rfl, rfl, rfl, rfl, hP, rfl, ht, by decide +kernel⟩, ⟨_, _, X 97 _ rfl, rfl, rfl, rfl⟩, hP⟩
theorem sum_le_of : ∀ (pr : List (Str × Str)) {i : Nat} {p : Str × Str}, pr[i]? = some p → p.1.length + p.2.length ≤ (pr.map fun p => p.1.length + p.2.length).sum
  | [], _, _, h => by simp at h
  | a :: r, i, p, h => by
    cases i with
    | zero => simp at h; subst h; simp
    | succ i => have := sum_le_of r (i := i) (by simpa using h); simp only [List.map_cons, List.sum_cons]; omega
theorem preSum_take (l : List Nat) : ∀ n, preSum (fun j => ((l.getD j 0 : Nat) : Int)) n = (((l.take n).sum : Nat) : Int)
  | 0 => by simp [preSum]
  | n + 1 => by
    rw [preSum, preSum_take l n]
    by_cases hx : n < l.length
    · rw [List.take_succ, List.getD_eq_getElem?_getD, List.getElem?_eq_getElem hx]; simp only [Option.getD_some, Option.toList_some, List.sum_append, List.sum_cons, List.sum_nil]; omega
    · rw [List.take_of_length_le (by omega), List.take_of_length_le (by omega), List.getD_eq_getElem?_getD, List.getElem?_eq_none (by omega)]; simp
theorem take_sum_le : ∀ (l : List Nat) (n : Nat), (l.take n).sum ≤ l.sum
  | [], n => by simp
  | a :: l, 0 => by simp
  | a :: l, n + 1 => by have := take_sum_le l n; simp only [List.take_succ_cons, List.sum_cons]; omega
theorem getD_le_sum : ∀ (l : List Nat) (n : Nat), l.getD n 0 ≤ l.sum
  | [], n => by simp
  | a :: l, 0 => by simp
  | a :: l, n + 1 => by have := getD_le_sum l n; simp only [List.getD_cons_succ, List.sum_cons]; omega
theorem blind {M : Model} {A : Around} {α : Type} {m : Sem α} {Q : α → Shared → Prop} {E : Value → Shared → Prop} {s : Shared} (h : ∀ Q', (∀ y s', Q y s' → Q' y s') → wpAny M A m Q' E s) : wpAny M A m Q E s := h Q fun _ _ x => x
theorem moved_fr {s s' : Shared} {wr : List Addr} {G : Array GenState → Array GenState → Prop} {h₀ : Heap} {L : Addr} {m : Str → Option Value} {news : List (Addr × Obj)} (x : Moved wr G s s') (F : Fr h₀ L s.heap m) (N : News h₀ L s.heap news) (hwr : ∀ b ∈ wr, b ≠ L ∧ h₀.get? b = none ∧ ∀ p ∈ news, p.1 ≠ b) :
    Fr h₀ L s'.heap m ∧ News h₀ L s'.heap news := by
  obtain ⟨oL, es, ep, hL', r⟩ := F.ns
  refine ⟨⟨⟨oL, es, ep, x.heap _ _ (fun q => (hwr _ q).1 rfl) hL', r⟩, fun b o e => x.heap _ _ (fun q => ?_) (F.keep b o e), F.above⟩, fun p hp => ⟨x.heap _ _ (fun q => (hwr _ q).2.2 p hp rfl) (N p hp).1, (N p hp).2⟩⟩
  rw [(hwr _ q).2.1] at e; cases e
section
variable {M : Model} {A : Around} {E : Value → Shared → Prop} {s : Shared} {K : Frag} {h₀ : Heap} {C : Addr} {m mg mb : Str → Option Value} {p : Program} {loose : List Str} {scope : Scope} {cl : List (Str × Addr)} {code : Value} {env : Env}
theorem nameG_B {x : Str} {pos : Pos} {v : Value} {Q : Value → Shared → Prop} (F : Fr h₀ C s.heap m) (X : K.In h₀) (T : TopRead p loose mg mb h₀) (e : nsIn K mainGlobals x = some none) (hv : bootBuiltins x = some v) (hn : x ≠ "__name__") (h : Q v s)
    (hg : env.globals = mainGlobals) (hk : scope.kind = .function) (hx : (genEnv scope cl C code builtinsNs env).kindOf x = some .globalImplicit) (hd : (x == ("__debug__" : Str)) = false) :
    wpAny M A (eval (.Name x pos) (genEnv scope cl C code builtinsNs env)) Q E s :=
  Name_function_global hk hx (loadGlobal_builtin (env := genEnv scope cl C code builtinsNs env) (show s.heap.Ns env.globals mg from hg ▸ T.g.keeps F.keep) (mg_none_of X T.g e) (T.b.keeps F.keep) ((T.builtins x hn).trans hv) h) hd
end
example : True := by
  k_with "~eval Name" => ((with_reducible show wpAny _ _ (eval (Expr.Name _ _) (genEnv _ _ _ _ _ _)) _ _ _; (first
    | (refine' ldVarG ?zqk1 ?zqk2 ?_ ?zqk3 ?zqk4 ?zqk5; k_dflt ((case zqk1 => k_asm); (case zqk2 => assumption); (case zqk3 | zqk4 => rfl); (case zqk5 => decide)))
    | (refine' nameG_B ?zqk1 ?zqk2 ?zqk3 ?zqk4 ?zqk5 ?zqk6 ?_ ?zqk7 ?zqk8 ?zqk9 ?zqk10; k_dflt ((case zqk1 | zqk2 | zqk3 => k_asm); (case zqk4 => k_is); (case zqk5 => boot_by_name); (case zqk6 => decide); (case zqk7 | zqk8 | zqk9 => rfl); (case zqk10 => decide)))
    | (refine' nameG_K ?zqk1 ?zqk2 ?zqk3 ?zqk4 ?_ ?zqk7 ?zqk8 ?zqk9 ?zqk10; k_dflt ((case zqk1 | zqk2 | zqk3 => k_asm); (case zqk4 => k_is); (case zqk7 | zqk8 | zqk9 => rfl); (case zqk10 => decide))))))
  k_with "~eval BinOp" => ((with_reducible show wpAny _ _ (eval (Expr.BinOp _ _ _ _) (genEnv _ _ _ _ _ _)) _ _ _; k_dflt (refine wpAny_BinOp ?_)))
  k_with "~eval Call" => ((with_reducible show wpAny _ _ (eval (Expr.Call (Expr.Name _ _) _ [] _) (genEnv _ _ _ _ _ _)) _ _ _; k_dflt (refine Call_ ?_)))
  k_with "~eval Call Attribute" => ((with_reducible show wpAny _ _ (eval (Expr.Call (Expr.Attribute _ _ _) _ [] _) (genEnv _ _ _ _ _ _)) _ _ _; k_dflt (refine MethodCall_ ?_)))
  trivial
end
section
namespace D3
noncomputable abbrev T := (World) × (Around) × (Shared) × (Heap) × (List Str) × (Str → Option Value) × (Str → Option Value) × (Addr) × (Obj) × (Result → Shared → Prop) × (Addr) × (Addr) × (Array Value) × (List (Str × Str)) × (Nat) × (Nat) × (Int) × (Tok) × (Tok) × (Int) × (Array Value)
noncomputable def Pf (w : World) (A : Around) (s : Shared) (H : Heap) (loose : List Str) (mg : Str → Option Value) (mb : Str → Option Value) (bm : Addr) (ob : Obj) (R : Result → Shared → Prop) (x : Addr) (dx : Addr) (its : Array Value) (pr : List (Str × Str)) (n : Nat) (k : Nat) (hsh : Int) (kt : Tok) (bt : Tok) (base : Int) (ps : Array Value) : Prop := ∀ (X : (hd.heap_39 w.params).In H) (T : TopRead Mine.hd.view_39 loose mg mb H) (M : BMod H mainGlobals mg bm ob) (hk : ∀ b o, H.get? b = some o → s.heap.get? b = some o) (hd : A.depth + 12 < recursionLimit) (hh : A.handled = none) (hx : ∀ q ∈ [(86, tabObj ps), (x, accObj dx its n), (dx, accDict hsh kt (.int base bt) k)], s.heap.get? q.1 = some q.2 ∧ H.get? q.1 = none) (hne : @Ne Nat x dx) (hne2 : @Ne Nat x 86) (hne3 : @Ne Nat dx 86) (hI : Items H its pr) (htr : TriplesOk ps.toList) (hfit : (pr.map fun p => p.1.length + p.2.length).sum ≤ 1000000) (hb0 : 0 ≤ base) (hb1 : base ≤ 1000000) (hR : ∀ s' t ps', TriplesOk ps'.toList → Aft s s' [(86, tabObj ps), (x, accObj dx its n), (dx, accDict hsh kt (.int base bt) k)] [(86, tabObj ps'), (x, accObj dx its n), (dx, accDict hsh kt (.int base bt) k)] → R (.ok (.ret (.int (base + (pr.map fun p => p.1.length + p.2.length).sum) t))) s'), codeAny (model PG w) A (.call (.ref 91) ⟨[.ref x], []⟩) R s
noncomputable def Q_ (z : T) : Prop := Pf z.1 (z.2.1) (z.2.2.1) (z.2.2.2.1) (z.2.2.2.2.1) (z.2.2.2.2.2.1) (z.2.2.2.2.2.2.1) (z.2.2.2.2.2.2.2.1) (z.2.2.2.2.2.2.2.2.1) (z.2.2.2.2.2.2.2.2.2.1) (z.2.2.2.2.2.2.2.2.2.2.1) (z.2.2.2.2.2.2.2.2.2.2.2.1) (z.2.2.2.2.2.2.2.2.2.2.2.2.1) (z.2.2.2.2.2.2.2.2.2.2.2.2.2.1) (z.2.2.2.2.2.2.2.2.2.2.2.2.2.2.1) (z.2.2.2.2.2.2.2.2.2.2.2.2.2.2.2.1) (z.2.2.2.2.2.2.2.2.2.2.2.2.2.2.2.2.1) (z.2.2.2.2.2.2.2.2.2.2.2.2.2.2.2.2.2.1) (z.2.2.2.2.2.2.2.2.2.2.2.2.2.2.2.2.2.2.1) (z.2.2.2.2.2.2.2.2.2.2.2.2.2.2.2.2.2.2.2.1) (z.2.2.2.2.2.2.2.2.2.2.2.2.2.2.2.2.2.2.2.2)
theorem ne : Nonempty T := ⟨(Classical.choice Mine.neW, Classical.choice Mine.neA, Classical.choice Mine.neS, Classical.choice inferInstance, Classical.choice inferInstance, Classical.choice inferInstance, Classical.choice inferInstance, Classical.choice inferInstance, Classical.choice inferInstance, Classical.choice inferInstance, Classical.choice inferInstance, Classical.choice inferInstance, Classical.choice inferInstance, Classical.choice inferInstance, Classical.choice inferInstance, Classical.choice inferInstance, Classical.choice inferInstance, Classical.choice inferInstance, Classical.choice inferInstance, Classical.choice inferInstance, Classical.choice inferInstance)⟩
noncomputable def z_ : T := @Classical.epsilon _ ne fun z => ¬ Q_ z
@[irreducible] noncomputable def w : World := z_.1
@[irreducible] noncomputable def A : Around := z_.2.1
@[irreducible] noncomputable def s : Shared := z_.2.2.1
@[irreducible] noncomputable def H : Heap := z_.2.2.2.1
@[irreducible] noncomputable def loose : List Str := z_.2.2.2.2.1
@[irreducible] noncomputable def mg : Str → Option Value := z_.2.2.2.2.2.1
@[irreducible] noncomputable def mb : Str → Option Value := z_.2.2.2.2.2.2.1
@[irreducible] noncomputable def bm : Addr := z_.2.2.2.2.2.2.2.1
@[irreducible] noncomputable def ob : Obj := z_.2.2.2.2.2.2.2.2.1
@[irreducible] noncomputable def R : Result → Shared → Prop := z_.2.2.2.2.2.2.2.2.2.1
@[irreducible] noncomputable def x : Addr := z_.2.2.2.2.2.2.2.2.2.2.1
@[irreducible] noncomputable def dx : Addr := z_.2.2.2.2.2.2.2.2.2.2.2.1
@[irreducible] noncomputable def its : Array Value := z_.2.2.2.2.2.2.2.2.2.2.2.2.1
@[irreducible] noncomputable def pr : List (Str × Str) := z_.2.2.2.2.2.2.2.2.2.2.2.2.2.1
@[irreducible] noncomputable def n : Nat := z_.2.2.2.2.2.2.2.2.2.2.2.2.2.2.1
@[irreducible] noncomputable def k : Nat := z_.2.2.2.2.2.2.2.2.2.2.2.2.2.2.2.1
@[irreducible] noncomputable def hsh : Int := z_.2.2.2.2.2.2.2.2.2.2.2.2.2.2.2.2.1
@[irreducible] noncomputable def kt : Tok := z_.2.2.2.2.2.2.2.2.2.2.2.2.2.2.2.2.2.1
@[irreducible] noncomputable def bt : Tok := z_.2.2.2.2.2.2.2.2.2.2.2.2.2.2.2.2.2.2.1
@[irreducible] noncomputable def base : Int := z_.2.2.2.2.2.2.2.2.2.2.2.2.2.2.2.2.2.2.2.1
@[irreducible] noncomputable def ps : Array Value := z_.2.2.2.2.2.2.2.2.2.2.2.2.2.2.2.2.2.2.2.2
noncomputable def pk : {P_ : (Heap) → (Addr) → (Heap) → Prop // ∀ (X : (hd.heap_39 w.params).In H) (T : TopRead Mine.hd.view_39 loose mg mb H) (M : BMod H mainGlobals mg bm ob) (hk : ∀ b o, H.get? b = some o → s.heap.get? b = some o) (hd : A.depth + 12 < recursionLimit) (hh : A.handled = none) (hx : ∀ q ∈ [(86, tabObj ps), (x, accObj dx its n), (dx, accDict hsh kt (.int base bt) k)], s.heap.get? q.1 = some q.2 ∧ H.get? q.1 = none) (hne : @Ne Nat x dx) (hne2 : @Ne Nat x 86) (hne3 : @Ne Nat dx 86) (hI : Items H its pr) (htr : TriplesOk ps.toList) (hfit : (pr.map fun p => p.1.length + p.2.length).sum ≤ 1000000) (hb0 : 0 ≤ base) (hb1 : base ≤ 1000000) (hR : ∀ s' t ps', TriplesOk ps'.toList → Aft s s' [(86, tabObj ps), (x, accObj dx its n), (dx, accDict hsh kt (.int base bt) k)] [(86, tabObj ps'), (x, accObj dx its n), (dx, accDict hsh kt (.int base bt) k)] → R (.ok (.ret (.int (base + (pr.map fun p => p.1.length + p.2.length).sum) t))) s'), (∀ g L h₁, P_  g L h₁) → codeAny (model PG w) A (.call (.ref 91) ⟨[.ref x], []⟩) R s} := ⟨_, fun  X T M hk hd hh hx hne hne2 hne3 hI htr hfit hb0 hb1 hR k_ => by
  refine' enterM (binds := [(Str.ofString "self", .ref x)]) [(86, tabObj ps), (x, accObj dx its n), (dx, accDict hsh kt (.int base bt) k)] ?k1 ?k2 ?k3 ?k4 ?k6 ?k7 ?k8 ?k9 ?kB ?_ ?c5 ?c2 ?c3 ?c4
  walk_at "m:enter"
  exact k_⟩
noncomputable abbrev T2 := (Heap) × (Addr) × (Heap)
noncomputable def Pf2 (g : Heap) (L : Addr) (h₁ : Heap) : Prop := ∀ (X : (hd.heap_39 w.params).In H) (T : TopRead Mine.hd.view_39 loose mg mb H) (M : BMod H mainGlobals mg bm ob) (hk : ∀ b o, H.get? b = some o → s.heap.get? b = some o) (hd : A.depth + 12 < recursionLimit) (hh : A.handled = none) (hx : ∀ q ∈ [(86, tabObj ps), (x, accObj dx its n), (dx, accDict hsh kt (.int base bt) k)], s.heap.get? q.1 = some q.2 ∧ H.get? q.1 = none) (hne : @Ne Nat x dx) (hne2 : @Ne Nat x 86) (hne3 : @Ne Nat dx 86) (hI : Items H its pr) (htr : TriplesOk ps.toList) (hfit : (pr.map fun p => p.1.length + p.2.length).sum ≤ 1000000) (hb0 : 0 ≤ base) (hb1 : base ≤ 1000000) (hR : ∀ s' t ps', TriplesOk ps'.toList → Aft s s' [(86, tabObj ps), (x, accObj dx its n), (dx, accDict hsh kt (.int base bt) k)] [(86, tabObj ps'), (x, accObj dx its n), (dx, accDict hsh kt (.int base bt) k)] → R (.ok (.ret (.int (base + (pr.map fun p => p.1.length + p.2.length).sum) t))) s'), pk.1  g L h₁
noncomputable def Q2 (z : T2) : Prop := Pf2 z.1 (z.2.1) (z.2.2)
theorem ne2 : Nonempty T2 := ⟨(Classical.choice inferInstance, Classical.choice inferInstance, Classical.choice inferInstance)⟩
noncomputable def z2_ : T2 := @Classical.epsilon _ ne2 fun z => ¬ Q2 z
@[irreducible] noncomputable def g : Heap := z2_.1
@[irreducible] noncomputable def L : Addr := z2_.2.1
@[irreducible] noncomputable def h₁ : Heap := z2_.2.2
theorem core2 : Pf2 g L h₁ := by
  unfold Pf2
  intro X T M hk hd hh hx hne hne2 hne3 hI htr hfit hb0 hb1 hR
  dsimp only [pk]
  intro hkg hgk F N Xg Tg hHg hlt
  (replace hlt := allLt_of hlt)
  (try dsimp only)
  walk_at "m:steps"
  obtain ⟨Ts, vals, hit, htup, hval⟩ := (hI.keeps hHg).fn
  have hxL : InstAt h₁ x (accObj dx its n) 124 (some (accDict hsh kt (.int base bt) k)) := InstAt.of_accN N (by k_mem) (by k_mem)
  refine gen_acc (K := Mine.hd.heap_39 w.params) (x := x) (C := 124) (c := 90) (P := 86) (ps := ps) (Ts := Ts) (vals := vals) (its := its) (n := n) (Fv := fun j v => ∃ p t, pr[j]? = some p ∧ v = .int (p.1.length + p.2.length) t) F Xg Tg.nolimit N (by k_all) (M.keeps hHg) rfl (fun h ps kk hP ht => code_len (Xg.keeps kk) ps hP ht) htr hh rfl rfl (by decide) rfl rfl rfl (by decide) rfl (by simp only [depth_deeper]; omega) hxL rfl (by k_ne) (by k_is) (by k_is) (fun Q' q => ?e1) hit htup (fun j hj => ?e2) ?e3 ?e4 (fun _ => rfl)
  case e1 => walk1; exact q
  case e2 => obtain ⟨p, ta, tb, e, r⟩ := hval j hj; exact ⟨_, _, r⟩
  case e3 =>
    intro code C' A' E' i va vb t m₂ hA hD hU hi hv F₂ hma hmb
    obtain ⟨p, ta, tb, e, r⟩ := hval i hi
    rw [r] at hv
    obtain ⟨rfl, rfl⟩ : Value.str p.1 ta = va ∧ Value.str p.2 tb = vb := by injection hv with hv; injection hv with h1 h2; injection h2 with h2 _; exact ⟨h1, h2⟩
    clear N F hxL
    have hle := sum_le_of pr e
    have hl1 : ((p.1.length : Nat) : Int) < 9223372036854775808 := by omega
    have hl2 : ((p.2.length : Nat) : Int) < 9223372036854775808 := by omega
    refine blind fun Q' hq' => ?_
    walk_at "m:steps"
    exact hq' _ _ ⟨⟨p, _, e, rfl⟩, t.heap, _, rfl, fun _ _ e => e⟩
  case e4 =>
    intro a s₅ ps' htr' F₅ N₅ hb₅ ho₅ hG
    walk_at "m:steps"
    obtain ⟨fp, wr, gi, St, W, hT, hst, hfp, ha, hwr⟩ := hG
    have W1 := W.of_in1.of_in1.of_in1
    refine sum_start ⟨by omega, by omega⟩ (W1.self 0 _ _ _ (W1.frame 0 s₅ s₅.heap (s₅.toks + 1) hst (Nat.le_succ _) fun _ _ _ e => e) ⟨a, fp, wr, _, its.size, _, St, fun j => (((pr.map fun p => p.1.length + p.2.length).getD j 0 : Nat) : Int), rfl, W1, W1.frame 0 s₅ s₅.heap (s₅.toks + 1) hst (Nat.le_succ _) fun _ _ _ e => e, hfp, ?_, ?_, ?_⟩)
    · rintro j v ⟨hj, p, t, e, rfl⟩
      refine ⟨t, ?_⟩
      dsimp only
      rw [List.getD_eq_getElem?_getD, List.getElem?_map, e]
      simp
    · intro j hj
      rw [preSum_take]
      have h1 := getD_le_sum (pr.map fun p => p.1.length + p.2.length) j
      have h2 := take_sum_le (pr.map fun p => p.1.length + p.2.length) (j + 1)
      dsimp only
      refine ⟨⟨?_, ?_⟩, ?_, ?_⟩ <;> omega
    · intro s' t' hm
      obtain ⟨F', N'⟩ := moved_fr hm F₅ N₅ hwr
      rw [preSum_take, List.take_of_length_le (by rw [List.length_map, hI.1]; exact Nat.le_refl _)]
      exact hR _ _ ps' htr' (Aft.of hkg F' N' (by walk_at "m:sub") (hm.os.trans ho₅) fun z => (hb₅ z).moved hm.gens)
theorem core : Pf w A s H loose mg mb bm ob R x dx its pr n k hsh kt bt base ps := by
  unfold Pf
  intro X T M hk hd hh hx hne hne2 hne3 hI htr hfit hb0 hb1 hR
  exact pk.2  X T M hk hd hh hx hne hne2 hne3 hI htr hfit hb0 hb1 hR fun g L h₁ => eps_all ne2 Q2 (by with_unfolding_all exact core2) (g, L, h₁)  X T M hk hd hh hx hne hne2 hne3 hI htr hfit hb0 hb1 hR
theorem all (y : T) : Q_ y := eps_all ne Q_ (by with_unfolding_all exact core) y
end D3
end
section
theorem len_raw {w : World} {A : Around} {s : Shared} {H : Heap} {loose : List Str} {mg mb : Str → Option Value} {bm : Addr} {ob : Obj} {R : Result → Shared → Prop} {x dx : Addr} {its : Array Value} {pr : List (Str × Str)} {n k : Nat} {hsh : Int} {kt bt : Tok} {base : Int} {ps : Array Value}
  (X : (hd.heap_39 w.params).In H) (T : TopRead Mine.hd.view_39 loose mg mb H) (M : BMod H mainGlobals mg bm ob) (hk : ∀ b o, H.get? b = some o → s.heap.get? b = some o) (hd : A.depth + 12 < recursionLimit) (hh : A.handled = none)
  (hx : ∀ q ∈ [(86, tabObj ps), (x, accObj dx its n), (dx, accDict hsh kt (.int base bt) k)], s.heap.get? q.1 = some q.2 ∧ H.get? q.1 = none) (hne : @Ne Nat x dx) (hne2 : @Ne Nat x 86) (hne3 : @Ne Nat dx 86) (hI : Items H its pr) (htr : TriplesOk ps.toList)
  (hfit : (pr.map fun p => p.1.length + p.2.length).sum ≤ 1000000) (hb0 : 0 ≤ base) (hb1 : base ≤ 1000000)
  (hR : ∀ s' t ps', TriplesOk ps'.toList → Aft s s' [(86, tabObj ps), (x, accObj dx its n), (dx, accDict hsh kt (.int base bt) k)] [(86, tabObj ps'), (x, accObj dx its n), (dx, accDict hsh kt (.int base bt) k)] → R (.ok (.ret (.int (base + (pr.map fun p => p.1.length + p.2.length).sum) t))) s') :
  codeAny (model PG w) A (.call (.ref 91) ⟨[.ref x], []⟩) R s :=
  D3.all (w, A, s, H, loose, mg, mb, bm, ob, R, x, dx, its, pr, n, k, hsh, kt, bt, base, ps) X T M hk hd hh hx hne hne2 hne3 hI htr hfit hb0 hb1 hR
end
-- text ZMS
section

noncomputable def cat2 (p : Str × Str) : Str := p.1 ++ p.2
noncomputable def textOf (pr : List (Str × Str)) : Str := Txt.join (Str.ofString "") (pr.map cat2)
theorem join2_eq (a b : Str) : Txt.join (Str.ofString "") [a, b] = a ++ b := by
  unfold Txt.join
  rw [StrLaws.glued_eq_join]
  show a ++ Str.empty ++ b = _
  rw [Str.append_empty]
theorem newTuple_here {M : Model} {A : Around} {E : Value → Shared → Prop} {s : Shared} {items : List Value} {Q : Value → Shared → Prop} (hz : items.toArray.size ≤ sizeLine) (h : Q (.ref s.heap.objs.size) { s with heap := s.heap.push { cls := .type "tuple", data := .seq items.toArray } }) : wpAny M A (newTuple items) Q E s := wpAny_newTuple h hz
example : True := by
  k_with "~newTuple" => ((k_dflt (refine newTuple_here (by rw [sizeLine_eq]; exact Nat.le_of_ble_eq_true rfl) ?_)))
  trivial
theorem join_here {prog : Program} {w : World} {A : Around} {E : Value → Shared → Prop} {h : Heap} {g : Array GenState} {d : Drawn} {t : Nat} {os : OsState} {a b : Str} {ta tb te : Tok} {Q : Value → Shared → Prop} (hz : a.length + b.length ≤ 1000000)
    (hq : ∀ t' k, Q (.str (a ++ b) t') ⟨h.push { cls := .type "tuple", data := .seq [.str a ta, .str b tb].toArray }, g, d, k, os⟩) :
    wpAny (model prog w) A (call (.builtin "str.join") [.str (Str.ofString "") te, .ref h.objs.size]) Q E ⟨h.push { cls := .type "tuple", data := .seq [.str a ta, .str b tb].toArray }, g, d, t, os⟩ := by
  refine join_tupleW ⟨_, Heap.get?_push_size _ rfl, rfl, _, rfl⟩ (ys := [a, b]) (.cons _ _ (.cons _ _ .nil)) (by decide) (by simp; omega) fun t' k => ?_
  rw [join2_eq]; exact hq t' k
end
section
namespace C7
noncomputable abbrev T := (World) × (Around) × (Shared) × (Heap) × (List Str) × (Str → Option Value) × (Str → Option Value) × (Addr) × (Obj) × (Result → Shared → Prop) × (Addr) × (Addr) × (Array Value) × (List (Str × Str)) × (Nat) × (Nat) × (Int) × (Tok) × (Value) × (Array Value)
noncomputable def Pf (w : World) (A : Around) (s : Shared) (H : Heap) (loose : List Str) (mg : Str → Option Value) (mb : Str → Option Value) (bm : Addr) (ob : Obj) (R : Result → Shared → Prop) (x : Addr) (dx : Addr) (its : Array Value) (pr : List (Str × Str)) (n : Nat) (k : Nat) (hsh : Int) (kt : Tok) (v₀ : Value) (ps : Array Value) : Prop := ∀ (X : (hd.heap_39 w.params).In H) (T : TopRead Mine.hd.view_39 loose mg mb H) (M : BMod H mainGlobals mg bm ob) (hk : ∀ b o, H.get? b = some o → s.heap.get? b = some o) (hd : A.depth + 12 < recursionLimit) (hh : A.handled = none) (hx : ∀ q ∈ [(93, tabObj ps), (x, accObj dx its n), (dx, accDict hsh kt v₀ k)], s.heap.get? q.1 = some q.2 ∧ H.get? q.1 = none) (hne : @Ne Nat x dx) (hne2 : @Ne Nat x 93) (hne3 : @Ne Nat dx 93) (hI : Items H its pr) (htr : TriplesOk ps.toList) (hfit : (pr.map fun p => p.1.length + p.2.length).sum ≤ 1000000) (hcount : pr.length ≤ 1000) (hR : ∀ s' t ps', TriplesOk ps'.toList → Aft s s' [(93, tabObj ps), (x, accObj dx its n), (dx, accDict hsh kt v₀ k)] [(93, tabObj ps'), (x, accObj dx its n), (dx, accDict hsh kt v₀ k)] → R (.ok (.ret (.str (textOf pr) t))) s'), codeAny (model PG w) A (.call (.ref 98) ⟨[.ref x], []⟩) R s
noncomputable def Q_ (z : T) : Prop := Pf z.1 (z.2.1) (z.2.2.1) (z.2.2.2.1) (z.2.2.2.2.1) (z.2.2.2.2.2.1) (z.2.2.2.2.2.2.1) (z.2.2.2.2.2.2.2.1) (z.2.2.2.2.2.2.2.2.1) (z.2.2.2.2.2.2.2.2.2.1) (z.2.2.2.2.2.2.2.2.2.2.1) (z.2.2.2.2.2.2.2.2.2.2.2.1) (z.2.2.2.2.2.2.2.2.2.2.2.2.1) (z.2.2.2.2.2.2.2.2.2.2.2.2.2.1) (z.2.2.2.2.2.2.2.2.2.2.2.2.2.2.1) (z.2.2.2.2.2.2.2.2.2.2.2.2.2.2.2.1) (z.2.2.2.2.2.2.2.2.2.2.2.2.2.2.2.2.1) (z.2.2.2.2.2.2.2.2.2.2.2.2.2.2.2.2.2.1) (z.2.2.2.2.2.2.2.2.2.2.2.2.2.2.2.2.2.2.1) (z.2.2.2.2.2.2.2.2.2.2.2.2.2.2.2.2.2.2.2)
theorem ne : Nonempty T := ⟨(Classical.choice Mine.neW, Classical.choice Mine.neA, Classical.choice Mine.neS, Classical.choice inferInstance, Classical.choice inferInstance, Classical.choice inferInstance, Classical.choice inferInstance, Classical.choice inferInstance, Classical.choice inferInstance, Classical.choice inferInstance, Classical.choice inferInstance, Classical.choice inferInstance, Classical.choice inferInstance, Classical.choice inferInstance, Classical.choice inferInstance, Classical.choice inferInstance, Classical.choice inferInstance, Classical.choice inferInstance, Classical.choice inferInstance, Classical.choice inferInstance)⟩
noncomputable def z_ : T := @Classical.epsilon _ ne fun z => ¬ Q_ z
@[irreducible] noncomputable def w : World := z_.1
@[irreducible] noncomputable def A : Around := z_.2.1
@[irreducible] noncomputable def s : Shared := z_.2.2.1
@[irreducible] noncomputable def H : Heap := z_.2.2.2.1
@[irreducible] noncomputable def loose : List Str := z_.2.2.2.2.1
@[irreducible] noncomputable def mg : Str → Option Value := z_.2.2.2.2.2.1
@[irreducible] noncomputable def mb : Str → Option Value := z_.2.2.2.2.2.2.1
@[irreducible] noncomputable def bm : Addr := z_.2.2.2.2.2.2.2.1
@[irreducible] noncomputable def ob : Obj := z_.2.2.2.2.2.2.2.2.1
@[irreducible] noncomputable def R : Result → Shared → Prop := z_.2.2.2.2.2.2.2.2.2.1
@[irreducible] noncomputable def x : Addr := z_.2.2.2.2.2.2.2.2.2.2.1
@[irreducible] noncomputable def dx : Addr := z_.2.2.2.2.2.2.2.2.2.2.2.1
@[irreducible] noncomputable def its : Array Value := z_.2.2.2.2.2.2.2.2.2.2.2.2.1
@[irreducible] noncomputable def pr : List (Str × Str) := z_.2.2.2.2.2.2.2.2.2.2.2.2.2.1
@[irreducible] noncomputable def n : Nat := z_.2.2.2.2.2.2.2.2.2.2.2.2.2.2.1
@[irreducible] noncomputable def k : Nat := z_.2.2.2.2.2.2.2.2.2.2.2.2.2.2.2.1
@[irreducible] noncomputable def hsh : Int := z_.2.2.2.2.2.2.2.2.2.2.2.2.2.2.2.2.1
@[irreducible] noncomputable def kt : Tok := z_.2.2.2.2.2.2.2.2.2.2.2.2.2.2.2.2.2.1
@[irreducible] noncomputable def v₀ : Value := z_.2.2.2.2.2.2.2.2.2.2.2.2.2.2.2.2.2.2.1
@[irreducible] noncomputable def ps : Array Value := z_.2.2.2.2.2.2.2.2.2.2.2.2.2.2.2.2.2.2.2
noncomputable def pk : {P_ : (Heap) → (Addr) → (Heap) → Prop // ∀ (X : (hd.heap_39 w.params).In H) (T : TopRead Mine.hd.view_39 loose mg mb H) (M : BMod H mainGlobals mg bm ob) (hk : ∀ b o, H.get? b = some o → s.heap.get? b = some o) (hd : A.depth + 12 < recursionLimit) (hh : A.handled = none) (hx : ∀ q ∈ [(93, tabObj ps), (x, accObj dx its n), (dx, accDict hsh kt v₀ k)], s.heap.get? q.1 = some q.2 ∧ H.get? q.1 = none) (hne : @Ne Nat x dx) (hne2 : @Ne Nat x 93) (hne3 : @Ne Nat dx 93) (hI : Items H its pr) (htr : TriplesOk ps.toList) (hfit : (pr.map fun p => p.1.length + p.2.length).sum ≤ 1000000) (hcount : pr.length ≤ 1000) (hR : ∀ s' t ps', TriplesOk ps'.toList → Aft s s' [(93, tabObj ps), (x, accObj dx its n), (dx, accDict hsh kt v₀ k)] [(93, tabObj ps'), (x, accObj dx its n), (dx, accDict hsh kt v₀ k)] → R (.ok (.ret (.str (textOf pr) t))) s'), (∀ g L h₁, P_  g L h₁) → codeAny (model PG w) A (.call (.ref 98) ⟨[.ref x], []⟩) R s} := ⟨_, fun  X T M hk hd hh hx hne hne2 hne3 hI htr hfit hcount hR k_ => by
  refine' enterM (binds := [(Str.ofString "self", .ref x)]) [(93, tabObj ps), (x, accObj dx its n), (dx, accDict hsh kt v₀ k)] ?k1 ?k2 ?k3 ?k4 ?k6 ?k7 ?k8 ?k9 ?kB ?_ ?c5 ?c2 ?c3 ?c4
  walk_at "m:enter"
  exact k_⟩
noncomputable abbrev T2 := (Heap) × (Addr) × (Heap)
noncomputable def Pf2 (g : Heap) (L : Addr) (h₁ : Heap) : Prop := ∀ (X : (hd.heap_39 w.params).In H) (T : TopRead Mine.hd.view_39 loose mg mb H) (M : BMod H mainGlobals mg bm ob) (hk : ∀ b o, H.get? b = some o → s.heap.get? b = some o) (hd : A.depth + 12 < recursionLimit) (hh : A.handled = none) (hx : ∀ q ∈ [(93, tabObj ps), (x, accObj dx its n), (dx, accDict hsh kt v₀ k)], s.heap.get? q.1 = some q.2 ∧ H.get? q.1 = none) (hne : @Ne Nat x dx) (hne2 : @Ne Nat x 93) (hne3 : @Ne Nat dx 93) (hI : Items H its pr) (htr : TriplesOk ps.toList) (hfit : (pr.map fun p => p.1.length + p.2.length).sum ≤ 1000000) (hcount : pr.length ≤ 1000) (hR : ∀ s' t ps', TriplesOk ps'.toList → Aft s s' [(93, tabObj ps), (x, accObj dx its n), (dx, accDict hsh kt v₀ k)] [(93, tabObj ps'), (x, accObj dx its n), (dx, accDict hsh kt v₀ k)] → R (.ok (.ret (.str (textOf pr) t))) s'), pk.1  g L h₁
noncomputable def Q2 (z : T2) : Prop := Pf2 z.1 (z.2.1) (z.2.2)
theorem ne2 : Nonempty T2 := ⟨(Classical.choice inferInstance, Classical.choice inferInstance, Classical.choice inferInstance)⟩
noncomputable def z2_ : T2 := @Classical.epsilon _ ne2 fun z => ¬ Q2 z
@[irreducible] noncomputable def g : Heap := z2_.1
@[irreducible] noncomputable def L : Addr := z2_.2.1
@[irreducible] noncomputable def h₁ : Heap := z2_.2.2
theorem core2 : Pf2 g L h₁ := by
  unfold Pf2
  intro X T M hk hd hh hx hne hne2 hne3 hI htr hfit hcount hR
  dsimp only [pk]
  intro hkg hgk F N Xg Tg hHg hlt
  (replace hlt := allLt_of hlt)
  (try dsimp only)
  walk_at "m:steps"
  obtain ⟨Ts, vals, hit, htup, hval⟩ := (hI.keeps hHg).fn
  have hxL : InstAt h₁ x (accObj dx its n) 124 (some (accDict hsh kt v₀ k)) := InstAt.of_accN N (by k_mem) (by k_mem)
  refine gen_acc (K := Mine.hd.heap_39 w.params) (x := x) (C := 124) (c := 97) (P := 93) (ps := ps) (Ts := Ts) (vals := vals) (its := its) (n := n) (Fv := fun j v => ∃ p t, pr[j]? = some p ∧ v = .str (cat2 p) t) F Xg Tg.nolimit N (by k_all) (M.keeps hHg) rfl (fun h ps kk hP ht => code_str (Xg.keeps kk) ps hP ht) htr hh rfl rfl (by decide) rfl rfl rfl (by decide) rfl (by simp only [depth_deeper]; omega) hxL rfl (by k_ne) (by k_is) (by k_is) (fun Q' q => ?e1) hit htup (fun j hj => ?e2) ?e3 ?e4 (fun _ => rfl)
  case e1 => walk1; exact q
  case e2 => obtain ⟨p, ta, tb, e, r⟩ := hval j hj; exact ⟨_, _, r⟩
  case e3 =>
    intro code C' A' E' i va vb t m₂ hA hD hU hi hv F₂ hma hmb
    obtain ⟨p, ta, tb, e, r⟩ := hval i hi
    rw [r] at hv
    obtain ⟨rfl, rfl⟩ : Value.str p.1 ta = va ∧ Value.str p.2 tb = vb := by injection hv with hv; injection hv with h1 h2; injection h2 with h2 _; exact ⟨h1, h2⟩
    clear N F hxL
    have hle := sum_le_of pr e
    refine blind fun Q' hq' => ?_
    walk_at "m:steps"
    exact join_here (by omega) fun t' k => hq' _ _ ⟨⟨p, _, e, rfl⟩, _, _, rfl, fun _ _ e => Heap.get?_push_of_some _ e⟩
  case e4 =>
    intro a s₅ ps' htr' F₅ N₅ hb₅ ho₅ hG
    walk_at "m:steps"
    obtain ⟨fp, wr, gi, St, W, hT, hst, hfp, ha, hwr⟩ := hG
    have W2 := W.of_in1.of_in1
    refine SC.joinGen W2 hT hst hfp ha ?_ ?_ (by rw [hI.1, sizeLine_eq]; omega)
    · rintro j v ⟨hj, p, t, e, rfl⟩
      exact ⟨_, _, rfl⟩
    · intro s' l hm hl
      have hmap : l.map (·.1) = pr.map cat2 := by
        have hlen : l.length = pr.length := by
          have := hl.1
          rw [List.size_toArray, strValues, List.length_map] at this
          rw [this, hI.1]
        apply List.ext_getElem?
        intro j
        by_cases hj : j < l.length
        · have hv : ((strValues l).toArray)[j]? = some (.str (l[j]).1 (l[j]).2) := by
            rw [List.getElem?_toArray, strValues, List.getElem?_map, List.getElem?_eq_getElem hj]; rfl
          obtain ⟨_, p, t, e, e2⟩ := hl.2 j _ hv
          injection e2 with e3 e4
          rw [List.getElem?_map, List.getElem?_map, List.getElem?_eq_getElem hj, e, Option.map_some, Option.map_some, e3]
        · rw [List.getElem?_eq_none (by rw [List.length_map]; omega), List.getElem?_eq_none (by rw [List.length_map]; omega)]
      rw [hmap]
      refine ⟨joinOk_of_weight ?_ (by decide), fun t' k => ?_⟩
      · have e : ((pr.map cat2).map (·.length)) = pr.map fun p => p.1.length + p.2.length := by
          rw [List.map_map]; exact List.map_congr_left fun p _ => by simp [cat2, Str.length_append]
        rw [e, List.length_map]; omega
      · obtain ⟨F', N'⟩ := moved_fr hm F₅ N₅ hwr
        exact hR _ _ ps' htr' (Aft.of (s' := { s' with toks := k }) hkg F' N' (by walk_at "m:sub") (hm.os.trans ho₅) fun z => (hb₅ z).moved hm.gens)
theorem core : Pf w A s H loose mg mb bm ob R x dx its pr n k hsh kt v₀ ps := by
  unfold Pf
  intro X T M hk hd hh hx hne hne2 hne3 hI htr hfit hcount hR
  exact pk.2  X T M hk hd hh hx hne hne2 hne3 hI htr hfit hcount hR fun g L h₁ => eps_all ne2 Q2 (by with_unfolding_all exact core2) (g, L, h₁)  X T M hk hd hh hx hne hne2 hne3 hI htr hfit hcount hR
theorem all (y : T) : Q_ y := eps_all ne Q_ (by with_unfolding_all exact core) y
end C7
end
section
theorem str_raw {w : World} {A : Around} {s : Shared} {H : Heap} {loose : List Str} {mg mb : Str → Option Value} {bm : Addr} {ob : Obj} {R : Result → Shared → Prop} {x dx : Addr} {its : Array Value} {pr : List (Str × Str)} {n k : Nat} {hsh : Int} {kt : Tok} {v₀ : Value} {ps : Array Value}
  (X : (hd.heap_39 w.params).In H) (T : TopRead Mine.hd.view_39 loose mg mb H) (M : BMod H mainGlobals mg bm ob) (hk : ∀ b o, H.get? b = some o → s.heap.get? b = some o) (hd : A.depth + 12 < recursionLimit) (hh : A.handled = none)
  (hx : ∀ q ∈ [(93, tabObj ps), (x, accObj dx its n), (dx, accDict hsh kt v₀ k)], s.heap.get? q.1 = some q.2 ∧ H.get? q.1 = none) (hne : @Ne Nat x dx) (hne2 : @Ne Nat x 93) (hne3 : @Ne Nat dx 93) (hI : Items H its pr) (htr : TriplesOk ps.toList)
  (hfit : (pr.map fun p => p.1.length + p.2.length).sum ≤ 1000000) (hcount : pr.length ≤ 1000)
  (hR : ∀ s' t ps', TriplesOk ps'.toList → Aft s s' [(93, tabObj ps), (x, accObj dx its n), (dx, accDict hsh kt v₀ k)] [(93, tabObj ps'), (x, accObj dx its n), (dx, accDict hsh kt v₀ k)] → R (.ok (.ret (.str (textOf pr) t))) s') :
  codeAny (model PG w) A (.call (.ref 98) ⟨[.ref x], []⟩) R s :=
  C7.all (w, A, s, H, loose, mg, mb, bm, ob, R, x, dx, its, pr, n, k, hsh, kt, v₀, ps) X T M hk hd hh hx hne hne2 hne3 hI htr hfit hcount hR
end
-- text ZMU
section
theorem Aft.gen {s s' : Shared} {own own' news n2 : List (Addr × Obj)} {h₀ : Heap} {L : Addr} {m : Str → Option Value} (a : Aft s s' own own') (F : Fr h₀ L s.heap m) (N : News h₀ L s.heap news) (h1 : ∀ p ∈ own, p ∈ news)
    (h2 : ∀ p ∈ n2, p ∈ own' ∨ (p ∈ news ∧ p.1 ∉ own.map (·.1))) : Fr h₀ L s'.heap m ∧ News h₀ L s'.heap n2 := by
  have hown : ∀ b ∈ own.map (·.1), b ≠ L ∧ h₀.get? b = none := fun b hb => by
    obtain ⟨p, hp, rfl⟩ := List.mem_map.mp hb; exact (N p (h1 p hp)).2
  refine ⟨a.fr F (fun q => (hown _ q).1 rfl) fun b hb => (hown b hb).2, fun p hp => ?_⟩
  rcases h2 p hp with hp | hp
  · exact a.news F N hown (rest := []) (fun _ h => (nomatch h)) p (by simpa using hp)
  · exact ⟨a.keep _ _ (N p hp.1).1 hp.2, (N p hp.1).2⟩
theorem three_rest {h₀ h : Heap} {L P x dx : Addr} {oP oP' o1 o2 : Obj} {news n2 : List (Addr × Obj)} (N : News h₀ L h news) (h1 : (x, o1) ∈ news) (h2 : (dx, o2) ∈ news) (U : Upd P oP oP' news n2) (hx : @Ne Nat x P) (hd : @Ne Nat dx P) :
    (∀ p ∈ [(P, oP), (x, o1), (dx, o2)], p ∈ news) ∧ ∀ p ∈ n2, p ∈ [(P, oP'), (x, o1), (dx, o2)] ∨ (p ∈ news ∧ p.1 ∉ [(P, oP), (x, o1), (dx, o2)].map (·.1)) := by
  obtain ⟨pre, post, rfl, rfl, a1, a2⟩ := U.split
  refine ⟨fun p hp => ?_, fun p hp => ?_⟩
  · simp only [List.mem_cons, List.not_mem_nil, or_false] at hp
    rcases hp with rfl | rfl | rfl
    · simp
    · exact h1
    · exact h2
  · have hp' : p = (P, oP') ∨ (p ∈ pre ++ (P, oP) :: post ∧ p.1 ≠ P) := by
      rcases List.mem_append.mp hp with hp | hp
      · exact .inr ⟨List.mem_append.mpr (.inl hp), a1 _ hp⟩
      · rcases List.mem_cons.mp hp with hp | hp
        · exact .inl hp
        · exact .inr ⟨List.mem_append.mpr (.inr (List.mem_cons_of_mem _ hp)), a2 _ hp⟩
    rcases hp' with rfl | ⟨hp', hP⟩
    · left; simp
    · by_cases qx : p.1 = x
      · left
        have e1 := (N p hp').1; have e2 := (N _ h1).1
        rw [qx] at e1
        have : p.2 = o1 := by rw [e2] at e1; exact (Option.some.inj e1).symm
        have : p = (x, o1) := by cases p; cases qx; cases this; rfl
        simp [this]
      · by_cases qd : p.1 = dx
        · left
          have e1 := (N p hp').1; have e2 := (N _ h2).1
          rw [qd] at e1
          have : p.2 = o2 := by rw [e2] at e1; exact (Option.some.inj e1).symm
          have : p = (dx, o2) := by cases p; cases qd; cases this; rfl
          simp [this]
        · right
          refine ⟨hp', ?_⟩
          simp only [List.map_cons, List.map_nil, List.mem_cons, List.not_mem_nil, or_false, not_or]
          exact ⟨hP, qx, qd⟩
theorem Items.hide {h : Heap} {its : Array Value} {pr : List (Str × Str)} {own : List (Addr × Obj)} (x : Items h its pr) (ho : ∀ q ∈ own, h.get? q.1 = some q.2 ∧ q.2.cls ≠ .type "tuple") : Items (hideAll h (own.map (·.1))) its pr := by
  refine ⟨x.1, fun j p e => ?_⟩
  obtain ⟨T, ta, tb, a, o, b, c, r⟩ := x.2 j p e
  refine ⟨T, ta, tb, a, o, hideAll_get _ b fun q => ?_, c, r⟩
  obtain ⟨q, hq, e⟩ := List.mem_map.mp q
  have := (ho q hq).1
  rw [e, b] at this; cases this
  exact (ho q hq).2 c
section
variable {w : World} {A : Around} {E : Value → Shared → Prop} {s : Shared} {h₀ : Heap} {L x dx : Addr} {m : Str → Option Value} {news : List (Addr × Obj)} {nw : Array Value → List (Addr × Obj)} {loose : List Str} {mg mb : Str → Option Value} {bm : Addr} {ob : Obj} {its : Array Value} {n k : Nat} {hsh : Int} {kt bt : Tok} {v₀ : Value} {base : Int} {Q : Value → Shared → Prop} {ps : Array Value} {pr : List (Str × Str)}
theorem len_w (F : Fr h₀ L s.heap m) (X : (hd.heap_39 w.params).In h₀) (T : TopRead Mine.hd.view_39 loose mg mb h₀) (M : BMod h₀ mainGlobals mg bm ob) (N : News h₀ L s.heap news) (h1 : (x, accObj dx its n) ∈ news) (h2 : (dx, accDict hsh kt (.int base bt) k) ∈ news)
    (U : ∀ ps', Upd 86 (tabObj ps) (tabObj ps') news (nw ps')) (hne : @Ne Nat x dx) (hne2 : @Ne Nat x 86) (hne3 : @Ne Nat dx 86) (hI : Items s.heap its pr) (htr : TriplesOk ps.toList) (hfit : (pr.map fun p => p.1.length + p.2.length).sum ≤ 1000000) (hb0 : 0 ≤ base) (hb1 : base ≤ 1000000)
    (hd : A.depth + 12 < recursionLimit) (hh : A.handled = none)
    (h : ∀ s' t ps', TriplesOk ps'.toList → Fr h₀ L s'.heap m → News h₀ L s'.heap (nw ps') → s'.os = s.os → (AllBare s.gens → AllBare s'.gens) → Q (.int (base + (pr.map fun p => p.1.length + p.2.length).sum) t) s') : wpAny (model PG w) A (call (.ref 91) [.ref x]) Q E s := by
  have ho := (three_rest N h1 h2 (U ps) hne2 hne3).1
  have hget : ∀ q ∈ [(86, tabObj ps), (x, accObj dx its n), (dx, accDict hsh kt (.int base bt) k)], s.heap.get? q.1 = some q.2 ∧ q.2.cls ≠ .type "tuple" := fun q hq => by
    refine ⟨(N q (ho q hq)).1, ?_⟩
    simp only [List.mem_cons, List.not_mem_nil, or_false] at hq
    rcases hq with rfl | rfl | rfl
    · exact fun z => Value.noConfusion z
    · exact fun z => Value.noConfusion z
    · exact fun z => absurd (Value.type.inj z) (by decide)
  have st : ∀ b o, h₀.get? b = some o → (hideAll s.heap ([(86, tabObj ps), (x, accObj dx its n), (dx, accDict hsh kt (.int base bt) k)].map (·.1))).get? b = some o := fun b o e => hideAll_get _ (F.keep b o e) fun hm => by
    obtain ⟨q, hq, rfl⟩ := List.mem_map.mp hm
    rw [(N q (ho q hq)).2.2] at e; cases e
  refine wpAny_call (len_raw (X.keeps st) (T.keeps st) (M.keeps st) (fun b o e => of_hideAll _ e) hd hh (fun q hq => ⟨(hget q hq).1, hideAll_none _ (List.mem_map_of_mem hq)⟩) hne hne2 hne3 (hI.hide hget) htr hfit hb0 hb1 fun s' t ps' htr' a => ?_)
  obtain ⟨F', N'⟩ := a.gen F N ho (three_rest N h1 h2 (U ps') hne2 hne3).2
  exact h s' t ps' htr' F' N' a.os a.bare
theorem str_w (F : Fr h₀ L s.heap m) (X : (hd.heap_39 w.params).In h₀) (T : TopRead Mine.hd.view_39 loose mg mb h₀) (M : BMod h₀ mainGlobals mg bm ob) (N : News h₀ L s.heap news) (h1 : (x, accObj dx its n) ∈ news) (h2 : (dx, accDict hsh kt v₀ k) ∈ news)
    (U : ∀ ps', Upd 93 (tabObj ps) (tabObj ps') news (nw ps')) (hne : @Ne Nat x dx) (hne2 : @Ne Nat x 93) (hne3 : @Ne Nat dx 93) (hI : Items s.heap its pr) (htr : TriplesOk ps.toList) (hfit : (pr.map fun p => p.1.length + p.2.length).sum ≤ 1000000) (hcount : pr.length ≤ 1000)
    (hd : A.depth + 12 < recursionLimit) (hh : A.handled = none)
    (h : ∀ s' t ps', TriplesOk ps'.toList → Fr h₀ L s'.heap m → News h₀ L s'.heap (nw ps') → s'.os = s.os → (AllBare s.gens → AllBare s'.gens) → Q (.str (textOf pr) t) s') : wpAny (model PG w) A (call (.ref 98) [.ref x]) Q E s := by
  have ho := (three_rest N h1 h2 (U ps) hne2 hne3).1
  have hget : ∀ q ∈ [(93, tabObj ps), (x, accObj dx its n), (dx, accDict hsh kt v₀ k)], s.heap.get? q.1 = some q.2 ∧ q.2.cls ≠ .type "tuple" := fun q hq => by
    refine ⟨(N q (ho q hq)).1, ?_⟩
    simp only [List.mem_cons, List.not_mem_nil, or_false] at hq
    rcases hq with rfl | rfl | rfl
    · exact fun z => Value.noConfusion z
    · exact fun z => Value.noConfusion z
    · exact fun z => absurd (Value.type.inj z) (by decide)
  have st : ∀ b o, h₀.get? b = some o → (hideAll s.heap ([(93, tabObj ps), (x, accObj dx its n), (dx, accDict hsh kt v₀ k)].map (·.1))).get? b = some o := fun b o e => hideAll_get _ (F.keep b o e) fun hm => by
    obtain ⟨q, hq, rfl⟩ := List.mem_map.mp hm
    rw [(N q (ho q hq)).2.2] at e; cases e
  refine wpAny_call (str_raw (X.keeps st) (T.keeps st) (M.keeps st) (fun b o e => of_hideAll _ e) hd hh (fun q hq => ⟨(hget q hq).1, hideAll_none _ (List.mem_map_of_mem hq)⟩) hne hne2 hne3 (hI.hide hget) htr hfit hcount fun s' t ps' htr' a => ?_)
  obtain ⟨F', N'⟩ := a.gen F N ho (three_rest N h1 h2 (U ps') hne2 hne3).2
  exact h s' t ps' htr' F' N' a.os a.bare
end
end
example : True := by
  k_with_none
  k_with "~m:enter" => (((case k1 | k2 | k3 => assumption); (case k4 => first | assumption | (intro _ hq; cases hq)); (case k6 | k7 => k_is); (case k8 => first | assumption | omega | (simp only [depth_deeper, depth_in1, recursionLimit] at *; omega)); (case k9 => first | exact BindsTo.of_eq rfl | exact binds_K (Frag.In.keeps (by assumption) (by assumption)) rfl (by k_is) rfl rfl rfl); (case c5 => decide); (case kB => exact locs rfl); (case c2 | c3 | c4 => exact rfl)))
  k_with "~k_inst" => ((refine' InstAt.of_accN ?zqN ?zqh1 ?zqh2; (case zqN => k_asm); (case zqh1 | zqh2 => k_mem)))
  k_with "~m:shadow" => ((refine shadow_of ?_; k_get))
  k_with "~getMethod ref" => ((k_here; (first
    | (refine' method_fnG ?zqk1 ?zqk2 ?zqk3 ?zqk4 ?zqk5 ?zqk6 ?zqk7 ?zqk8 ?_; k_dflt ((case zqk1 => k_in); (case zqk2 => k_inst); (case zqk3 => k_is); (case zqk4 => first | with_reducible exact canon_list_ga | with_reducible exact PySem.F.canon_object_ga | decide +kernel); (case zqk5 | zqk6 | zqk7 => k_is); (case zqk8 => walk_at "m:shadow"); k_whole))
    | (refine' method_biG ?zqk1 ?zqk2 ?zqk3 ?zqk4 ?zqk5 ?zqk6 ?zqk7 ?zqk8 ?zqk9 ?_; k_dflt ((case zqk1 => k_in); (case zqk2 => k_inst); (case zqk3 => k_is); (case zqk4 => first | with_reducible exact canon_list_ga | with_reducible exact PySem.F.canon_object_ga | decide +kernel); (case zqk5 | zqk6 | zqk7 => k_is); (case zqk8 => decide); (case zqk9 => walk_at "m:shadow"); k_whole)))))
  k_with "~call builtin:list.append" => ((k_here; (refine' append_acc ?zqk1 ?zqk2 ?zqk3 ?zqk4 ?zqk5 ?zqk6 ?_ ?zqk7; k_dflt ((case zqk1 | zqk2 | zqk3 => k_asm); (case zqk6 => k_upd); (case zqk4 => exact (News.get (by k_asm) (by k_mem))); (case zqk5 => k_is); (case zqk7 => first | assumption | (simp only [sizeLine_eq]; omega)); k_whole)); intro _ _ _; (try k_sweep)))
  k_with "~getMethod ref" => ((k_here; ks_any; k_dflt (first
    | (refine' superM ?zqk1 ?zqk2 ?zqk3 ?zqk4 ?zqk5 ?zqk6 ?zqk7 ?zqk8 lk_wget ?zqk9 (fun h hi => binds_of plain_wget entry_wget (chk_wlen _ _) (get_len _ _) hi) ?zqk10 ?_; (case zqk1 | zqk2 | zqk3 => k_asm); (case zqk4 => k_mem); (case zqk5 => k_inst); (case zqk6 => k_is); (case zqk7 => ks_is); (case zqk8 | zqk9 => k_is); (case zqk10 => decide); k_whole; intro _ _ _ _ l1; (try (replace l1 := allLt_of l1)); revert l1; intro _; (try k_sweep))
    | (refine' superM ?zqk1 ?zqk2 ?zqk3 ?zqk4 ?zqk5 ?zqk6 ?zqk7 ?zqk8 lk_wget ?zqk9 (fun h hi => binds_of plain_wget entry_wget (chk_winit _ _) (get_init _ _) hi) ?zqk10 ?_; (case zqk1 | zqk2 | zqk3 => k_asm); (case zqk4 => k_mem); (case zqk5 => k_inst); (case zqk6 => k_is); (case zqk7 => ks_is); (case zqk8 | zqk9 => k_is); (case zqk10 => decide); k_whole; intro _ _ _ _ l1; (try (replace l1 := allLt_of l1)); revert l1; intro _; (try k_sweep))
    | (refine' superM ?zqk1 ?zqk2 ?zqk3 ?zqk4 ?zqk5 ?zqk6 ?zqk7 ?zqk8 lk_mget ?zqk9 (fun h hi => binds_of plain_mget entry_mget (chk_mpop _ _) (get_pop _ _) hi) ?zqk10 ?_; (case zqk1 | zqk2 | zqk3 => k_asm); (case zqk4 => k_mem); (case zqk5 => k_inst); (case zqk6 => k_is); (case zqk7 => ks_is); (case zqk8 | zqk9 => k_is); (case zqk10 => decide); k_whole; intro _ _ _ _ l1; (try (replace l1 := allLt_of l1)); revert l1; intro _; (try k_sweep)))))
  k_with "~wpAt" => ((ks_step "attributeBase Call"; k_here; k_dflt (refine node_M (by k_asm) (by k_asm) (by k_asm) (by k_asm) (by k_is) (by rfl) (by rfl) (by k_inst) (by k_is) (by rfl) (by first | rfl | decide +kernel) (by k_is) (by k_is) (by k_is) (by k_is) (by decide) (by rfl) (by rfl) (by rfl) (by rfl) (by decide +kernel) (by first | boot_by_name | rfl | kernel_rfl) ?_; intro _ _ _ _ l1; (try (replace l1 := allLt_of l1)); revert l1; intro _; (try k_sweep))))
  k_with "~callWith ref" => ((k_here; (first
    | (refine' callWith_B0 ?zqk1 ?zqk2 ?_; k_dflt ((case zqk1 => exact (News.get (by k_asm) (by k_mem))); (case zqk2 => decide); k_whole; try dsimp only [List.nil_append, List.cons_append]))
    | (refine' callWith_B ?zqk1 ?zqk2 ?_ ?zqk3 ?zqk4; k_dflt ((case zqk1 => k_is); (case zqk2 => decide); (case zqk3 | zqk4 => rfl); k_whole)))))
  k_with "~call ref" => ((k_here; (first
    | (refine' super_len ?zqk1 ?zqk2 ?_; k_dflt ((case zqk1 | zqk2 => exact (News.get (by k_asm) (by k_mem))); k_whole))
    | (refine' super_init ?zqk1 ?zqk2 ?zqk3 ?zqk4 ?zqk5 ?_; k_dflt ((case zqk1 | zqk2 => k_asm); (case zqk3 => exact (News.get (by k_asm) (by k_mem))); (case zqk5 => k_upd); (case zqk4 => k_ne); k_whole; intro _ _ _; (try k_sweep)))
    | (refine' super_pop ?zqk1 ?zqk2 ?zqk3 ?zqk4 ?zqk5 ?zqk6 ?zqk7 ?zqk8 ?zqk9 ?zqk10 ?zqk11 ?_; k_dflt ((case zqk1 | zqk2 | zqk3 => k_asm); (case zqk4 => exact (News.get (by k_asm) (by k_mem))); (case zqk10 => k_upd); (case zqk5 => exact (News.get (by k_asm) (by k_mem))); (case zqk6 | zqk7 => k_is); (case zqk8 => rfl); (case zqk9 => k_is); (case zqk11 => first | assumption | (simp only [sizeLine_eq]; omega)); k_whole; intro _ _ _; (try k_sweep))))))
  k_with "~m:sub" => (first | exact List.forall_mem_nil _ | (refine List.forall_mem_cons.mpr ⟨by k_mem, ?_⟩; walk_at "m:sub"))
  k_with "~setAttr ref" => ((k_here; (refine' set_acc ?zqk1 ?zqk2 ?zqk3 ?zqk4 ?zqk5 ?zqk6 ?zqk7 ?zqk8 ?zqk9 ?zqk10 ?zqk11 ?zqk12 ?zqk13 ?_; k_dflt ((case zqk1 | zqk2 | zqk3 => k_asm); (case zqk4 => k_inst); (case zqk5 => exact rfl); (case zqk6 => k_is); (case zqk7 => rfl); (case zqk8 | zqk9 => k_is); (case zqk10 => k_get); (case zqk11 => k_put); (case zqk12 => k_upd); (case zqk13 => exact Nat.le_of_ble_eq_true rfl); k_whole; intro _ _ _; (try k_sweep)))))
  k_with "~subscriptTail" => ((k_here; (with_reducible show wpAny _ _ (subscriptTail _ _ (Value.ref _) (Value.ref _)) _ _ _); (refine' slice_acc ?zqk1 ?zqk2 ?zqk3 ?zqk4 ?zqk5 ?zqk6 ?zqk7 ?zqk8 ?zqk9 ?zqk10 ?_ ?zqk11 ?zqk12 ?zqk13; k_dflt ((case zqk1 | zqk2 | zqk3 => k_asm); (case zqk4 => k_inst); (case zqk5 => exact rfl); (case zqk6 | zqk7 | zqk8 => k_is); (case zqk9 | zqk10 => first | exact IsPart.none | exact IsPart.int _ _); (case zqk11 => with_unfolding_all rfl); (case zqk12 => intro _; with_unfolding_all rfl); (case zqk13 => first | assumption | (simp only [sizeLine_eq]; omega)); k_whole; intro _ _ _ _ l1; (try (replace l1 := allLt_of l1)); revert l1; intro _; (try k_sweep)))))
  k_with "~m:steps" => (repeat' (first | (walk1; (try dsimp only)) | (dsimp only; walk1; (try dsimp only)) | fail "no step"))
  k_with "~k_in" => ((refine' Frag.In.keeps ?zqkx ?zqkh; (case zqkx => with_reducible assumption); (case zqkh => exact Fr.keep (by with_reducible assumption))))
  k_with "~k_ne" => ((refine neN ?_; (try dsimp only); (try dsimp only [AllLt] at *); omega))
  k_with "~k_ne" => (first | with_reducible assumption | (refine Ne.symm ?_; with_reducible assumption) | (refine' ne_lt ?zqkh ?zqkm; (case zqkh => with_reducible assumption); (case zqkm => k_mem)) | (refine' Ne.symm (ne_lt ?zqkh ?zqkm); (case zqkh => with_reducible assumption); (case zqkm => k_mem)) | (refine neN ?_; decide))
  trivial
-- text ZMV
section
theorem Aft.fresh2 {s s' : Shared} {x dx t : Addr} {o o1 o2 o1' o2' : Obj} {own' news : List (Addr × Obj)} {h₀ : Heap} {L : Addr} (a : Aft s s' [(x, o1), (dx, o2)] own') (ht : (t, o) ∈ own') (h1 : (x, o1') ∈ own') (h2 : (dx, o2') ∈ own') (n1 : o.cls ≠ o1'.cls) (n2 : o.cls ≠ o2'.cls)
    (N : News h₀ L s.heap news) : ∀ p ∈ news, @Ne Nat p.1 t := by
  intro p hp q
  obtain ⟨g, c⟩ := a.got _ ht
  rcases c with c | c
  · simp only [List.map_cons, List.map_nil, List.mem_cons, List.not_mem_nil, or_false] at c
    rcases c with c | c
    · have := (a.got _ h1).1; rw [← c, g] at this; exact n1 (congrArg Obj.cls (Option.some.inj this))
    · have := (a.got _ h2).1; rw [← c, g] at this; exact n2 (congrArg Obj.cls (Option.some.inj this))
  · have := (N p hp).1; rw [show p.1 = t from q, c] at this; cases this
theorem tup_ref : (Value.type "tuple") ≠ .ref 124 := fun z => Value.noConfusion z
theorem tup_dict : (Value.type "tuple") ≠ .type "dict" := fun z => absurd (Value.type.inj z) (by decide)
theorem list_ref : (Value.type "list") ≠ .ref 124 := fun z => Value.noConfusion z
theorem list_dict : (Value.type "list") ≠ .type "dict" := fun z => absurd (Value.type.inj z) (by decide)
noncomputable abbrev tupObj (a b : Str) (ta tb : Tok) : Obj := { cls := .type "tuple", data := .seq #[.str a ta, .str b tb] }
section
variable {w : World} {A : Around} {E : Value → Shared → Prop} {s : Shared} {h₀ : Heap} {L x dx : Addr} {m : Str → Option Value} {news n1 : List (Addr × Obj)} {loose : List Str} {mg mb : Str → Option Value} {its ys : Array Value} {n k : Nat} {hsh : Int} {kt : Tok} {v₀ v : Value} {Q : Value → Shared → Prop}
theorem two_rest {h₀ h : Heap} {L x dx : Addr} {o1 o1' o2 : Obj} {ex own' news n2 : List (Addr × Obj)} (N : News h₀ L h news) (h2 : (dx, o2) ∈ news) (U : Upd x o1 o1' news n2) (hne : @Ne Nat x dx) (e1 : (x, o1') ∈ own') (e2 : (dx, o2) ∈ own') (ee : ∀ p ∈ ex, p ∈ own') :
    (∀ p ∈ [(x, o1), (dx, o2)], p ∈ news) ∧ ∀ p ∈ ex ++ n2, p ∈ own' ∨ (p ∈ news ∧ p.1 ∉ [(x, o1), (dx, o2)].map (·.1)) := by
  obtain ⟨pre, post, rfl, rfl, a1, a2⟩ := U.split
  refine ⟨fun p hp => ?_, fun p hp => ?_⟩
  · simp only [List.mem_cons, List.not_mem_nil, or_false] at hp
    rcases hp with rfl | rfl
    · simp
    · exact h2
  · rcases List.mem_append.mp hp with hp | hp
    · exact .inl (ee _ hp)
    · have hp' : p = (x, o1') ∨ (p ∈ pre ++ (x, o1) :: post ∧ p.1 ≠ x) := by
        rcases List.mem_append.mp hp with hp | hp
        · exact .inr ⟨List.mem_append.mpr (.inl hp), a1 _ hp⟩
        · rcases List.mem_cons.mp hp with hp | hp
          · exact .inl hp
          · exact .inr ⟨List.mem_append.mpr (.inr (List.mem_cons_of_mem _ hp)), a2 _ hp⟩
      rcases hp' with rfl | ⟨hp', hP⟩
      · exact .inl e1
      · by_cases qd : p.1 = dx
        · left
          have e3 := (N p hp').1; have e4 := (N _ h2).1
          rw [qd] at e3
          have : p.2 = o2 := by rw [e4] at e3; exact (Option.some.inj e3).symm
          have : p = (dx, o2) := by cases p; cases qd; cases this; rfl
          rw [this]; exact e2
        · right
          refine ⟨hp', ?_⟩
          simp only [List.map_cons, List.map_nil, List.mem_cons, List.not_mem_nil, or_false, not_or]
          exact ⟨hP, qd⟩
theorem push_w {va vb : Value} {nw : Addr → List (Addr × Obj)} (F : Fr h₀ L s.heap m) (X : (hd.heap_39 w.params).In h₀) (T : TopRead Mine.hd.view_39 loose mg mb h₀) (N : News h₀ L s.heap news) (h2 : (dx, accDict hsh kt v₀ k) ∈ news)
    (U : ∀ t, Upd x (accObj dx its n) (accObj dx (its.push (.ref t)) (n + 1)) news (nw t)) (hne : @Ne Nat x dx) (hz : its.size ≤ sizeLine) (hd : A.depth < recursionLimit)
    (h : ∀ s' t, Fr h₀ L s'.heap m → News h₀ L s'.heap ((t, { cls := .type "tuple", data := .seq #[va, vb] }) :: nw t) → (∀ p ∈ news, @Ne Nat p.1 t) → s'.os = s.os → (AllBare s.gens → AllBare s'.gens) → Q .none s') :
    wpAny (model PG w) A (call (.ref 68) [.ref x, va, vb]) Q E s := by
  have ho := (two_rest (ex := []) (own' := [(x, accObj dx (its.push (.ref L)) (n + 1)), (dx, accDict hsh kt v₀ k)]) N h2 (U L) hne (by simp) (by simp) (fun _ h => (nomatch h))).1
  refine wpAny_call (push_raw X T F.keep hd (fun q hq => ⟨(N q (ho q hq)).1, (N q (ho q hq)).2.2⟩) hne hz fun s' t a => ?_)
  obtain ⟨F', N'⟩ := a.gen F N ho (two_rest (ex := [(t, { cls := .type "tuple", data := .seq #[va, vb] })]) N h2 (U t) hne (by simp) (by simp) (by simp)).2
  exact h s' t F' N' (a.fresh2 (List.mem_cons_self ..) (List.mem_cons_of_mem _ (List.mem_cons_self ..)) (List.mem_cons_of_mem _ (List.mem_cons_of_mem _ (List.mem_cons_self ..))) tup_ref tup_dict N) a.os a.bare
theorem pop1_w {n2 : List (Addr × Obj)} (F : Fr h₀ L s.heap m) (X : (hd.heap_39 w.params).In h₀) (T : TopRead Mine.hd.view_39 loose mg mb h₀) (N : News h₀ L s.heap news) (h2 : (dx, accDict hsh kt v₀ k) ∈ news)
    (U : Upd x (accObj dx (ys.push v) n) (accObj dx ys (n + 1)) news n2) (hne : @Ne Nat x dx) (hz : ys.size < sizeLine) (hd : A.depth + 2 < recursionLimit)
    (h : ∀ s', Fr h₀ L s'.heap m → News h₀ L s'.heap n2 → s'.os = s.os → (AllBare s.gens → AllBare s'.gens) → Q v s') :
    wpAny (model PG w) A (call (.ref 84) [.ref x]) Q E s := by
  have hh := two_rest (ex := []) (own' := [(x, accObj dx ys (n + 1)), (dx, accDict hsh kt v₀ k)]) N h2 U hne (by simp) (by simp) (fun _ h => (nomatch h))
  refine wpAny_call (pop1_raw X T F.keep hd (fun q hq => ⟨(N q (hh.1 q hq)).1, (N q (hh.1 q hq)).2.2⟩) hne hz fun s' a => ?_)
  obtain ⟨F', N'⟩ := a.gen F N hh.1 hh.2
  exact h s' F' N' a.os a.bare
theorem pop0_w (F : Fr h₀ L s.heap m) (X : (hd.heap_39 w.params).In h₀) (T : TopRead Mine.hd.view_39 loose mg mb h₀) (N : News h₀ L s.heap news) (h1 : (x, accObj dx #[] n) ∈ news) (h2 : (dx, accDict hsh kt v₀ k) ∈ news) (hne : @Ne Nat x dx) (hd : A.depth + 2 < recursionLimit)
    (h : ∀ s' t c1 c2, Fr h₀ L s'.heap m → News h₀ L s'.heap ((t, tupObj (Str.ofString "") (Str.ofString "") c1 c2) :: news) → (∀ p ∈ news, @Ne Nat p.1 t) → s'.os = s.os → (AllBare s.gens → AllBare s'.gens) → Q (.ref t) s') :
    wpAny (model PG w) A (call (.ref 84) [.ref x]) Q E s := by
  refine wpAny_call (pop0_raw X T F.keep hd (two_own N h1 h2) hne fun s' t c1 c2 a => ?_)
  obtain ⟨F', N'⟩ := a.same (ex := [(t, tupObj (Str.ofString "") (Str.ofString "") c1 c2)]) F N h1 h2
  exact h s' t c1 c2 F' N' (a.fresh2 (List.mem_cons_self ..) (List.mem_cons_of_mem _ (List.mem_cons_self ..)) (List.mem_cons_of_mem _ (List.mem_cons_of_mem _ (List.mem_cons_self ..))) tup_ref tup_dict N) a.os a.bare
theorem pop_from_w {i : Nat} {it : Tok} {nw : Nat → List (Addr × Obj)} (F : Fr h₀ L s.heap m) (X : (hd.heap_39 w.params).In h₀) (T : TopRead Mine.hd.view_39 loose mg mb h₀) (N : News h₀ L s.heap news) (h2 : (dx, accDict hsh kt v₀ k) ∈ news)
    (U : ∀ n', Upd x (accObj dx its n) (accObj dx (its.extract 0 i) n') news (nw n')) (hne : @Ne Nat x dx) (hz : its.size ≤ sizeLine) (hi : i ≤ its.size) (hd : A.depth + 2 < recursionLimit)
    (h : ∀ s' D n', Fr h₀ L s'.heap m → News h₀ L s'.heap ((D, listOf (its.extract i its.size) 0) :: nw n') → (∀ p ∈ news, @Ne Nat p.1 D) → s'.os = s.os → (AllBare s.gens → AllBare s'.gens) → Q (.ref D) s') :
    wpAny (model PG w) A (call (.ref 76) [.ref x, .int i it]) Q E s := by
  have ho := (two_rest (ex := []) (own' := [(x, accObj dx (its.extract 0 i) 0), (dx, accDict hsh kt v₀ k)]) N h2 (U 0) hne (by simp) (by simp) (fun _ h => (nomatch h))).1
  refine wpAny_call (pop_from_raw X T F.keep hd (fun q hq => ⟨(N q (ho q hq)).1, (N q (ho q hq)).2.2⟩) hne hz hi fun s' D n' a => ?_)
  obtain ⟨F', N'⟩ := a.gen F N ho (two_rest (ex := [(D, listOf (its.extract i its.size) 0)]) N h2 (U n') hne (by simp) (by simp) (by simp)).2
  exact h s' D n' F' N' (a.fresh2 (List.mem_cons_self ..) (List.mem_cons_of_mem _ (List.mem_cons_self ..)) (List.mem_cons_of_mem _ (List.mem_cons_of_mem _ (List.mem_cons_self ..))) list_ref list_dict N) a.os a.bare
theorem new_w {base : Int} {bt : Tok} (F : Fr h₀ L s.heap m) (X : (hd.heap_39 w.params).In h₀) (T : TopRead Mine.hd.view_39 loose mg mb h₀) (N : News h₀ L s.heap news) (hd : A.depth + 1 < recursionLimit)
    (h : ∀ s' x dx hsh kt, Fr h₀ L s'.heap m → News h₀ L s'.heap ((x, accObj dx #[] 0) :: (dx, accDict hsh kt (.int base bt) 1) :: news) → (∀ p ∈ news, @LT.lt Nat _ p.1 dx) → @LT.lt Nat _ dx x → s'.os = s.os → (AllBare s.gens → AllBare s'.gens) → Q (.ref x) s') :
    wpAny (model PG w) A (call (.ref 124) [.int base bt]) Q E s := by
  refine call_acc F X N (by kernel_rfl) (fI := 61) (by k_is) (by k_is) fun x dx h' F' N' l1 l2 => ?_
  refine init_raw (hsh := 0) (kt := bt) (k := 0) (n := 0) (its := #[]) X T F'.keep ?_ (two_own (s := { s with heap := h' }) N' (List.mem_cons_self ..) (List.mem_cons_of_mem _ (List.mem_cons_self ..))) (Nat.ne_of_gt l2) fun s' hsh kt a => ?_
  · exact (show (A.under (Code.builtin "type.__call__" ⟨[.ref 124, .int base bt], []⟩)).depth = A.depth + 1 from rfl) ▸ hd
  · have hne : ∀ p ∈ (dx, dictOf [] 0) :: news, p.1 ≠ x := fun p hp => by
      rcases List.mem_cons.mp hp with rfl | hp
      · exact Nat.ne_of_lt l2
      · exact Nat.ne_of_lt (Nat.lt_trans (l1 p hp) l2)
    obtain ⟨F'', N''⟩ := a.step (ex := []) F' N' (.head hne) (.tail (Nat.ne_of_gt l2) (.head fun p hp => Nat.ne_of_lt (l1 p hp))) (Nat.ne_of_gt l2)
    exact ⟨rfl, h s' x dx hsh kt F'' N'' l1 l2 a.os a.bare⟩
end
end
-- text ZMW
section
example : True := by
  k_with "~wpAt" => ((ks_step "exec Expr"; k_dflt (refine ks_wpAt_Expr_any ?_)))
  k_with "~wpAt" => ((ks_step "eval Call"; k_dflt (refine ks_wpAt_MethodCall ?_)))
  k_with "~call ref" => ((k_here; (refine' part_count_w ?zqk1 ?zqk2 ?zqk3 ?zqk4 ?zqk5 ?zqk6 ?zqk7 ?zqk8 ?zqk9 ?_; k_dflt ((case zqk1 | zqk2 | zqk3 | zqk4 => k_asm); (case zqk5 | zqk6 => k_mem); (case zqk7 | zqk8 => assumption); (case zqk9 => simp only [depth_deeper, depth_in1, recursionLimit] at *; omega); k_whole; intro _ _ _ _ _ _; (try k_sweep)))))
  k_with "~subscriptTail" => ((k_here; (with_reducible show wpAny _ _ (subscriptTail _ _ (Value.ref _) (Value.ref _)) _ _ _); (refine' slice_accP ?zqk1 ?zqk2 ?zqk3 ?zqk4 ?zqk5 ?zqk6 ?zqk7 ?zqk8 ?zqk9 ?zqk10 ?_ ?zqk11 ?zqk12 ?zqk13; k_dflt ((case zqk1 | zqk2 | zqk3 => k_asm); (case zqk4 => k_inst); (case zqk5 => exact rfl); (case zqk6 | zqk7 | zqk8 => k_is); (case zqk9 | zqk10 => first | exact IsPart.none | exact IsPart.int _ _); (case zqk11 => with_unfolding_all rfl); (case zqk12 => intro _; with_unfolding_all rfl); (case zqk13 => first | assumption | (simp only [sizeLine_eq]; omega)); k_whole; intro _ _ _ _ l1; (try (replace l1 := allLt_of l1)); revert l1; intro _; (try k_sweep)))))
  k_with "~setItem ref ref" => ((k_here; (refine' setSlice_accP ?zqk1 ?zqk2 ?zqk3 ?zqk4 ?zqk5 ?zqk6 ?zqk7 ?zqk8 ?zqk9 ?zqk10 ?zqk11 ?zqk12 _ _ ?zqk13 (fun n' => ?zqk14) ?_ ?zqk15; k_dflt ((case zqk1 | zqk2 | zqk3 => k_asm); (case zqk4 | zqk5 | zqk6 => k_mem); (case zqk7 | zqk8 | zqk9 => k_is); (case zqk10 | zqk11 => first | exact IsPart.none | exact IsPart.int _ _); (case zqk12 => k_ne); (case zqk13 => first | exact bounds_from _ _ (by assumption) | exact bounds_all _); (case zqk14 => k_upd); (case zqk15 => first | assumption | (simp only [List.size_toArray, List.length_nil]; omega)); k_whole; intro _ _ _ _; (try dsimp only at N'); (try k_sweep)))))
  k_with "~setAttr ref" => ((k_here; (refine' set_acc ?zqk1 ?zqk2 ?zqk3 ?zqk4 ?zqk5 ?zqk6 ?zqk7 ?zqk8 ?zqk9 ?zqk10 (own_put _ _ _ _ _ _ _) ?zqk12 ?zqk13 ?_; k_dflt ((case zqk1 | zqk2 | zqk3 => k_asm); (case zqk4 => k_inst); (case zqk5 => exact rfl); (case zqk6 => k_is); (case zqk7 => rfl); (case zqk8 | zqk9 => k_is); (case zqk10 => exact own_get _ _ _); (case zqk12 => k_upd); (case zqk13 => exact Nat.le_of_ble_eq_true rfl); k_whole; intro _ _ _; (try k_sweep)))))
  k_with "~getAttr ref" => ((k_here; (refine' get_acc ?zqk1 ?zqk2 ?zqk3 ?zqk4 ?zqk5 ?zqk6 ?zqk7 ?_; k_dflt ((case zqk1 => k_in); (case zqk2 => k_inst); (case zqk3 | zqk4 | zqk5 => k_is); (case zqk6 => exact findObj_own (by k_is) (by k_is) (by k_is) rfl); (case zqk7 => rfl); k_whole))))
  trivial
section
variable {prog : Program} {w : World} {A : Around} {E : Value → Shared → Prop} {s : Shared} {K : Frag} {C x f : Addr} {ox : Obj} {od : Option Obj}
theorem truthy_len {Q : Bool → Shared → Prop} (X : K.In s.heap) (I : InstAt s.heap x ox C od) (hb : findIn K (.ref C) "__bool__" = some none) (hl : findIn K (.ref C) "__len__" = some (some (.ref f))) (hf : isFn K (.ref f) = true)
    (h : wpAny (model prog w) A.in1 (call (.ref f) [.ref x]) (W.LenBack fun v s' => ∀ n t, v = .int n t → Q (n != 0) s') E s) : wpAny (model prog w) A (truthy (.ref x)) Q E s := by
  unfold truthy
  refine wpAny_bind (m := callSpecial? (.ref x) (Str.ofString "__bool__")) (wpAny_bind (wpAny_bind (I.type.here ((looks_findIn X hb).here (wpAny_pure ?_)))))
  refine wpAny_bind (wpAny_bind (I.type.here ((looks_findIn X hl).here ?_)))
  rw [if_neg (show ¬ ((some (Value.ref f)).isNone = true) from Bool.false_ne_true)]
  refine wpAny_bind (wpAny_runValue (codeAny_builtin entry_len ?_))
  rw [Around.under_plainId plain_len _]
  unfold Builtin.«len»
  refine wpAny_bind (m := oneArg "len" _) (wpAny_pure ?_)
  refine wpAny_bind (m := callSpecial? (.ref x) (Str.ofString "__len__")) (special_fn X I hl (beq_iff_eq.mp hf) (wpAny_mono h (fun r s' hr => ?_) fun _ _ y => y))
  cases r <;> first | exact hr.elim | skip
  rename_i n u
  obtain ⟨⟨h0, h1⟩, hq⟩ := hr
  refine wpAny_bind (wpAny_holding (wpAny_pure ?_))
  refine wpAny_bind (wpAny_letGo ?_)
  show wpAny _ _ (if n < 0 then _ else _) _ _ _
  rw [if_neg (by omega)]
  show wpAny _ _ (if n ≥ 2 ^ 63 then _ else _) _ _ _
  rw [if_neg (by omega)]
  exact wpAny_bind (wpAny_mkInt (wpAny_pure (wpAny_pure (hq _ _ rfl))))
end
end
section
namespace D7
noncomputable abbrev T := (World) × (Around) × (Shared) × (Heap) × (List Str) × (Str → Option Value) × (Str → Option Value) × (Addr) × (Obj) × (Result → Shared → Prop) × (Addr) × (Addr) × (Array Value) × (List (Str × Str)) × (Nat) × (Nat) × (Int) × (Tok) × (Tok) × (Array Value) × (Array Value)
noncomputable def Pf (w : World) (A : Around) (s : Shared) (H : Heap) (loose : List Str) (mg : Str → Option Value) (mb : Str → Option Value) (bm : Addr) (ob : Obj) (R : Result → Shared → Prop) (x : Addr) (dx : Addr) (its : Array Value) (pr : List (Str × Str)) (n : Nat) (k : Nat) (hsh : Int) (kt : Tok) (bt : Tok) (ps : Array Value) (qs : Array Value) : Prop := ∀ (base : Int) (X : (hd.heap_39 w.params).In H) (T : TopRead Mine.hd.view_39 loose mg mb H) (M : BMod H mainGlobals mg bm ob) (hk : ∀ b o, H.get? b = some o → s.heap.get? b = some o) (hd : A.depth + 20 < recursionLimit) (hu : A.units + 100 < cLine) (hh : A.handled = none) (hx : ∀ q ∈ [(86, tabObj ps), (93, tabObj qs), (x, accObj dx its n), (dx, accDict hsh kt (.int base bt) k)], s.heap.get? q.1 = some q.2 ∧ H.get? q.1 = none) (hne : @Ne Nat x dx) (hx1 : @Ne Nat x 86) (hx2 : @Ne Nat x 93) (hd1 : @Ne Nat dx 86) (hd2 : @Ne Nat dx 93) (hI : Items H its pr) (htr : TriplesOk ps.toList) (htr2 : TriplesOk qs.toList) (hfit : (pr.map fun p => p.1.length + p.2.length).sum ≤ 1000000) (hcount : pr.length ≤ 1000) (hb0 : 0 ≤ base) (hb1 : base ≤ 1000000) (hR : ∀ s' ps' qs', TriplesOk ps'.toList → TriplesOk qs'.toList → Aft s s' [(86, tabObj ps), (93, tabObj qs), (x, accObj dx its n), (dx, accDict hsh kt (.int base bt) k)] [(86, tabObj ps'), (93, tabObj qs'), (x, accObj dx its n), (dx, accDict hsh kt (.int base bt) k)] →
    R (.ok (.ret (.bool (base == 0 && (((pr.map fun p => p.1.length + p.2.length).sum == 0) || Txt.isspace (textOf pr)))))) s'), codeAny (model PG w) A (.call (.ref 113) ⟨[.ref x], []⟩) R s
noncomputable def Q_ (z : T) : Prop := Pf z.1 (z.2.1) (z.2.2.1) (z.2.2.2.1) (z.2.2.2.2.1) (z.2.2.2.2.2.1) (z.2.2.2.2.2.2.1) (z.2.2.2.2.2.2.2.1) (z.2.2.2.2.2.2.2.2.1) (z.2.2.2.2.2.2.2.2.2.1) (z.2.2.2.2.2.2.2.2.2.2.1) (z.2.2.2.2.2.2.2.2.2.2.2.1) (z.2.2.2.2.2.2.2.2.2.2.2.2.1) (z.2.2.2.2.2.2.2.2.2.2.2.2.2.1) (z.2.2.2.2.2.2.2.2.2.2.2.2.2.2.1) (z.2.2.2.2.2.2.2.2.2.2.2.2.2.2.2.1) (z.2.2.2.2.2.2.2.2.2.2.2.2.2.2.2.2.1) (z.2.2.2.2.2.2.2.2.2.2.2.2.2.2.2.2.2.1) (z.2.2.2.2.2.2.2.2.2.2.2.2.2.2.2.2.2.2.1) (z.2.2.2.2.2.2.2.2.2.2.2.2.2.2.2.2.2.2.2.1) (z.2.2.2.2.2.2.2.2.2.2.2.2.2.2.2.2.2.2.2.2)
theorem ne : Nonempty T := ⟨(Classical.choice Mine.neW, Classical.choice Mine.neA, Classical.choice Mine.neS, Classical.choice inferInstance, Classical.choice inferInstance, Classical.choice inferInstance, Classical.choice inferInstance, Classical.choice inferInstance, Classical.choice inferInstance, Classical.choice inferInstance, Classical.choice inferInstance, Classical.choice inferInstance, Classical.choice inferInstance, Classical.choice inferInstance, Classical.choice inferInstance, Classical.choice inferInstance, Classical.choice inferInstance, Classical.choice inferInstance, Classical.choice inferInstance, Classical.choice inferInstance, Classical.choice inferInstance)⟩
noncomputable def z_ : T := @Classical.epsilon _ ne fun z => ¬ Q_ z
@[irreducible] noncomputable def w : World := z_.1
@[irreducible] noncomputable def A : Around := z_.2.1
@[irreducible] noncomputable def s : Shared := z_.2.2.1
@[irreducible] noncomputable def H : Heap := z_.2.2.2.1
@[irreducible] noncomputable def loose : List Str := z_.2.2.2.2.1
@[irreducible] noncomputable def mg : Str → Option Value := z_.2.2.2.2.2.1
@[irreducible] noncomputable def mb : Str → Option Value := z_.2.2.2.2.2.2.1
@[irreducible] noncomputable def bm : Addr := z_.2.2.2.2.2.2.2.1
@[irreducible] noncomputable def ob : Obj := z_.2.2.2.2.2.2.2.2.1
@[irreducible] noncomputable def R : Result → Shared → Prop := z_.2.2.2.2.2.2.2.2.2.1
@[irreducible] noncomputable def x : Addr := z_.2.2.2.2.2.2.2.2.2.2.1
@[irreducible] noncomputable def dx : Addr := z_.2.2.2.2.2.2.2.2.2.2.2.1
@[irreducible] noncomputable def its : Array Value := z_.2.2.2.2.2.2.2.2.2.2.2.2.1
@[irreducible] noncomputable def pr : List (Str × Str) := z_.2.2.2.2.2.2.2.2.2.2.2.2.2.1
@[irreducible] noncomputable def n : Nat := z_.2.2.2.2.2.2.2.2.2.2.2.2.2.2.1
@[irreducible] noncomputable def k : Nat := z_.2.2.2.2.2.2.2.2.2.2.2.2.2.2.2.1
@[irreducible] noncomputable def hsh : Int := z_.2.2.2.2.2.2.2.2.2.2.2.2.2.2.2.2.1
@[irreducible] noncomputable def kt : Tok := z_.2.2.2.2.2.2.2.2.2.2.2.2.2.2.2.2.2.1
@[irreducible] noncomputable def bt : Tok := z_.2.2.2.2.2.2.2.2.2.2.2.2.2.2.2.2.2.2.1
@[irreducible] noncomputable def ps : Array Value := z_.2.2.2.2.2.2.2.2.2.2.2.2.2.2.2.2.2.2.2.1
@[irreducible] noncomputable def qs : Array Value := z_.2.2.2.2.2.2.2.2.2.2.2.2.2.2.2.2.2.2.2.2
noncomputable def pk : {P_ : (Int) → (Heap) → (Addr) → (Heap) → Prop // ∀ (base : Int) (X : (hd.heap_39 w.params).In H) (T : TopRead Mine.hd.view_39 loose mg mb H) (M : BMod H mainGlobals mg bm ob) (hk : ∀ b o, H.get? b = some o → s.heap.get? b = some o) (hd : A.depth + 20 < recursionLimit) (hu : A.units + 100 < cLine) (hh : A.handled = none) (hx : ∀ q ∈ [(86, tabObj ps), (93, tabObj qs), (x, accObj dx its n), (dx, accDict hsh kt (.int base bt) k)], s.heap.get? q.1 = some q.2 ∧ H.get? q.1 = none) (hne : @Ne Nat x dx) (hx1 : @Ne Nat x 86) (hx2 : @Ne Nat x 93) (hd1 : @Ne Nat dx 86) (hd2 : @Ne Nat dx 93) (hI : Items H its pr) (htr : TriplesOk ps.toList) (htr2 : TriplesOk qs.toList) (hfit : (pr.map fun p => p.1.length + p.2.length).sum ≤ 1000000) (hcount : pr.length ≤ 1000) (hb0 : 0 ≤ base) (hb1 : base ≤ 1000000) (hR : ∀ s' ps' qs', TriplesOk ps'.toList → TriplesOk qs'.toList → Aft s s' [(86, tabObj ps), (93, tabObj qs), (x, accObj dx its n), (dx, accDict hsh kt (.int base bt) k)] [(86, tabObj ps'), (93, tabObj qs'), (x, accObj dx its n), (dx, accDict hsh kt (.int base bt) k)] →
    R (.ok (.ret (.bool (base == 0 && (((pr.map fun p => p.1.length + p.2.length).sum == 0) || Txt.isspace (textOf pr)))))) s'), (∀ g L h₁, P_ base g L h₁) → codeAny (model PG w) A (.call (.ref 113) ⟨[.ref x], []⟩) R s} := ⟨_, fun base X T M hk hd hu hh hx hne hx1 hx2 hd1 hd2 hI htr htr2 hfit hcount hb0 hb1 hR k_ => by
  refine' enterM (binds := [(Str.ofString "self", .ref x)]) [(86, tabObj ps), (93, tabObj qs), (x, accObj dx its n), (dx, accDict hsh kt (.int base bt) k)] ?k1 ?k2 ?k3 ?k4 ?k6 ?k7 ?k8 ?k9 ?kB ?_ ?c5 ?c2 ?c3 ?c4
  walk_at "m:enter"
  exact k_⟩
noncomputable abbrev T2 := (Heap) × (Addr) × (Heap)
noncomputable def Pf2 (g : Heap) (L : Addr) (h₁ : Heap) : Prop := ∀ (base : Int) (X : (hd.heap_39 w.params).In H) (T : TopRead Mine.hd.view_39 loose mg mb H) (M : BMod H mainGlobals mg bm ob) (hk : ∀ b o, H.get? b = some o → s.heap.get? b = some o) (hd : A.depth + 20 < recursionLimit) (hu : A.units + 100 < cLine) (hh : A.handled = none) (hx : ∀ q ∈ [(86, tabObj ps), (93, tabObj qs), (x, accObj dx its n), (dx, accDict hsh kt (.int base bt) k)], s.heap.get? q.1 = some q.2 ∧ H.get? q.1 = none) (hne : @Ne Nat x dx) (hx1 : @Ne Nat x 86) (hx2 : @Ne Nat x 93) (hd1 : @Ne Nat dx 86) (hd2 : @Ne Nat dx 93) (hI : Items H its pr) (htr : TriplesOk ps.toList) (htr2 : TriplesOk qs.toList) (hfit : (pr.map fun p => p.1.length + p.2.length).sum ≤ 1000000) (hcount : pr.length ≤ 1000) (hb0 : 0 ≤ base) (hb1 : base ≤ 1000000) (hR : ∀ s' ps' qs', TriplesOk ps'.toList → TriplesOk qs'.toList → Aft s s' [(86, tabObj ps), (93, tabObj qs), (x, accObj dx its n), (dx, accDict hsh kt (.int base bt) k)] [(86, tabObj ps'), (93, tabObj qs'), (x, accObj dx its n), (dx, accDict hsh kt (.int base bt) k)] →
    R (.ok (.ret (.bool (base == 0 && (((pr.map fun p => p.1.length + p.2.length).sum == 0) || Txt.isspace (textOf pr)))))) s'), pk.1 base g L h₁
noncomputable def Q2 (z : T2) : Prop := Pf2 z.1 (z.2.1) (z.2.2)
theorem ne2 : Nonempty T2 := ⟨(Classical.choice inferInstance, Classical.choice inferInstance, Classical.choice inferInstance)⟩
noncomputable def z2_ : T2 := @Classical.epsilon _ ne2 fun z => ¬ Q2 z
@[irreducible] noncomputable def g : Heap := z2_.1
@[irreducible] noncomputable def L : Addr := z2_.2.1
@[irreducible] noncomputable def h₁ : Heap := z2_.2.2
theorem core2 : Pf2 g L h₁ := by
  unfold Pf2
  intro base X T M hk hd hu hh hx hne hx1 hx2 hd1 hd2 hI htr htr2 hfit hcount hb0 hb1 hR
  dsimp only [pk]
  intro hkg hgk F N Xg Tg hHg hlt
  (replace hlt := allLt_of hlt)
  (try dsimp only)
  walk_at "m:steps"
  · rename_i hb
    subst hb
    refine truthy_len (Xg.keeps F.keep) (InstAt.of_accN N (by k_mem) (by k_mem)) (by k_is) (by k_is) (by k_is) ?_
    refine len_w (nw := fun ps' => [(86, tabObj ps'), (93, tabObj qs), (x, accObj dx its n), (dx, accDict hsh kt (.int 0 bt) k)]) F Xg Tg (M.keeps hHg) N (by k_mem) (by k_mem) (fun ps' => by k_upd) hne hx1 hd1 ((hI.keeps hHg).keeps F.keep) htr hfit (by omega) (by omega) ?_ hh fun s₁ t₁ ps' htr' F₁ N₁ os₁ b₁ => ?_
    · simp only [depth_deeper, depth_in1]; omega
    refine ⟨⟨by omega, by omega⟩, fun n t e => ?_⟩
    obtain ⟨rfl, rfl⟩ := Value.int.inj e
    have en : ((0 + (((pr.map fun p => p.1.length + p.2.length).sum : Nat) : Int)) != 0) = !((pr.map fun p => p.1.length + p.2.length).sum == 0) := by
      cases hs : (pr.map fun p => p.1.length + p.2.length).sum with
      | zero => rfl
      | succ m => simp; omega
    rw [en]
    cases hs : ((pr.map fun p => p.1.length + p.2.length).sum == 0)
    · walk_at "m:steps"
      refine kso_call (by simp only [Around.in1_units, Around.deeper_units]; omega) (Xg.keeps F₁.keep) (InstAt.of_accN N₁ (by k_mem) (by k_mem)) (f := 98) (by k_is) (by k_is) ?_
      refine str_w (nw := fun qs' => [(86, tabObj ps'), (93, tabObj qs'), (x, accObj dx its n), (dx, accDict hsh kt (.int 0 bt) k)]) F₁ Xg Tg (M.keeps hHg) N₁ (by k_mem) (by k_mem) (fun ps' => by k_upd) hne hx2 hd2 ((hI.keeps hHg).keeps F₁.keep) htr2 hfit hcount ?_ hh fun s₂ t₂ qs' htr2' F₂ N₂ os₂ b₂ => ?_
      · simp only [depth_deeper, depth_in1]; omega
      show wpAny _ _ _ _ _ _
      walk_at "m:steps"
      have key := hR _ ps' qs' htr' htr2' (Aft.of hkg F₂ N₂ (by walk_at "m:sub") (os₂.trans os₁) fun z => b₂ (b₁ z))
      rw [hs] at key
      exact key
    · walk_at "m:steps"
      have key := hR { heap := s₁.heap, gens := s₁.gens, drawn := s₁.drawn, toks := s₁.toks + 1, os := s₁.os } ps' qs htr' htr2 (Aft.of hkg F₁ N₁ (by walk_at "m:sub") os₁ b₁)
      rw [hs] at key
      exact key
  · rename_i hb
    have e : (base == 0) = false := beq_eq_false_iff_ne.mpr hb
    rw [show (base == 0) = (base == 0 && (((pr.map fun p => p.1.length + p.2.length).sum == 0) || Txt.isspace (textOf pr))) by rw [e]; rfl]
    exact hR _ ps qs htr htr2 (Aft.of hkg F N (by walk_at "m:sub") rfl id)
theorem core : Pf w A s H loose mg mb bm ob R x dx its pr n k hsh kt bt ps qs := by
  unfold Pf
  intro base X T M hk hd hu hh hx hne hx1 hx2 hd1 hd2 hI htr htr2 hfit hcount hb0 hb1 hR
  exact pk.2 base X T M hk hd hu hh hx hne hx1 hx2 hd1 hd2 hI htr htr2 hfit hcount hb0 hb1 hR fun g L h₁ => eps_all ne2 Q2 (by with_unfolding_all exact core2) (g, L, h₁) base X T M hk hd hu hh hx hne hx1 hx2 hd1 hd2 hI htr htr2 hfit hcount hb0 hb1 hR
theorem all (y : T) : Q_ y := eps_all ne Q_ (by with_unfolding_all exact core) y
end D7
end
section
theorem onlyws_raw {w : World} {A : Around} {s : Shared} {H : Heap} {loose : List Str} {mg mb : Str → Option Value} {bm : Addr} {ob : Obj} {R : Result → Shared → Prop} {x dx : Addr} {its : Array Value} {pr : List (Str × Str)} {n k : Nat} {hsh : Int} {kt : Tok} {base : Int} {bt : Tok} {ps qs : Array Value}
  (X : (hd.heap_39 w.params).In H) (T : TopRead Mine.hd.view_39 loose mg mb H) (M : BMod H mainGlobals mg bm ob) (hk : ∀ b o, H.get? b = some o → s.heap.get? b = some o) (hd : A.depth + 20 < recursionLimit) (hu : A.units + 100 < cLine) (hh : A.handled = none)
  (hx : ∀ q ∈ [(86, tabObj ps), (93, tabObj qs), (x, accObj dx its n), (dx, accDict hsh kt (.int base bt) k)], s.heap.get? q.1 = some q.2 ∧ H.get? q.1 = none) (hne : @Ne Nat x dx) (hx1 : @Ne Nat x 86) (hx2 : @Ne Nat x 93) (hd1 : @Ne Nat dx 86) (hd2 : @Ne Nat dx 93)
  (hI : Items H its pr) (htr : TriplesOk ps.toList) (htr2 : TriplesOk qs.toList) (hfit : (pr.map fun p => p.1.length + p.2.length).sum ≤ 1000000) (hcount : pr.length ≤ 1000) (hb0 : 0 ≤ base) (hb1 : base ≤ 1000000)
  (hR : ∀ s' ps' qs', TriplesOk ps'.toList → TriplesOk qs'.toList → Aft s s' [(86, tabObj ps), (93, tabObj qs), (x, accObj dx its n), (dx, accDict hsh kt (.int base bt) k)] [(86, tabObj ps'), (93, tabObj qs'), (x, accObj dx its n), (dx, accDict hsh kt (.int base bt) k)] →
    R (.ok (.ret (.bool (base == 0 && (((pr.map fun p => p.1.length + p.2.length).sum == 0) || Txt.isspace (textOf pr)))))) s') :
  codeAny (model PG w) A (.call (.ref 113) ⟨[.ref x], []⟩) R s :=
  D7.all (w, A, s, H, loose, mg, mb, bm, ob, R, x, dx, its, pr, n, k, hsh, kt, bt, ps, qs) base X T M hk hd hu hh hx hne hx1 hx2 hd1 hd2 hI htr htr2 hfit hcount hb0 hb1 hR
end
-- text ZMX
section
section
variable {prog : Program} {w : World} {A : Around} {E : Value → Shared → Prop} {env : Env}
end
section
namespace C1
noncomputable abbrev T := (Program) × (World) × (Around) × (Value → Shared → Prop) × (Env) × (Shared) × (Expr) × (Expr) × (Str) × (Str) × (Pos) × (Pos) × (Pos) × (Nat) × (Scope) × (List (Str × Addr)) × (Pos) × (Addr) × (Array Value) × (Nat → Addr) × (Nat → Array Value) × (Nat → Value → Prop) × (Value → Shared → Prop)
noncomputable def Pf (prog : Program) (w : World) (A : Around) (E : Value → Shared → Prop) (env : Env) (s : Shared) (elt : Expr) (iter : Expr) (xa : Str) (xb : Str) (pa : Pos) (pb : Pos) (pt : Pos) (kt : Nat) (scope : Scope) (cl : List (Str × Addr)) (pos : Pos) (l : Addr) (its : Array Value) (Ts : Nat → Addr) (vals : Nat → Array Value) (F : Nat → Value → Prop) (Q : Value → Shared → Prop) : Prop := ∀ (hh : A.handled = none) (hclos : closureFor scope env = pure cl) (hcell : ∀ y ∈ scope.names, y.2 ≠ .cell) (hkind : scope.kind = .function) (hnames : ∀ y ∈ scope.names, y.2 = .local → scope.names.lookup y.1 = some .local) (hxa : scope.names.lookup xa = some .local) (hxb : scope.names.lookup xb = some .local) (hab : xa ≠ xb) (hiter : ∀ Q' : Value → Shared → Prop, Q' (.ref l) s → wpAny (model prog w) A (eval iter env) Q' E s) (hl : s.heap.IsList l its) (hit : ∀ j, j < its.size → its[j]? = some (.ref (Ts j))) (htup : ∀ j, j < its.size → s.heap.IsTuple (Ts j) (vals j)) (hval : ∀ j, j < its.size → ∃ va vb, vals j = #[va, vb]) (hsz : its.size ≤ sizeLine) (helt : ∀ C i va vb (t : Shared) m₂ E', s.heap.objs.size ≤ C → i < its.size → vals i = #[va, vb] → t.heap.Ns C m₂ → m₂ xa = some va → m₂ xb = some vb → (∀ b o, s.heap.get? b = some o → t.heap.get? b = some o) →
      wpAny (model prog w) A (eval elt (compEnvC scope cl C env)) (fun y s₄ => F i y ∧ Keeps t s₄) E' t) (hQ : ∀ D h' tk ys, s.heap.objs.size ≤ D → h'.PlainList D ys → ys.size = its.size → (∀ j v, ys[j]? = some v → F j v) → (∀ b o, s.heap.get? b = some o → h'.get? b = some o) → Q (.ref D) { s with heap := h', toks := tk }) (hs : ∀ x, foldedSetIterable iter env x = pure x), wpAny (model prog w) A (eval (.ListComp elt [⟨.Tuple [.Name xa pa, .Name xb pb] kt pt, iter, [], 0⟩] scope pos) env) Q E s
noncomputable def Q_ (z : T) : Prop := Pf z.1 (z.2.1) (z.2.2.1) (z.2.2.2.1) (z.2.2.2.2.1) (z.2.2.2.2.2.1) (z.2.2.2.2.2.2.1) (z.2.2.2.2.2.2.2.1) (z.2.2.2.2.2.2.2.2.1) (z.2.2.2.2.2.2.2.2.2.1) (z.2.2.2.2.2.2.2.2.2.2.1) (z.2.2.2.2.2.2.2.2.2.2.2.1) (z.2.2.2.2.2.2.2.2.2.2.2.2.1) (z.2.2.2.2.2.2.2.2.2.2.2.2.2.1) (z.2.2.2.2.2.2.2.2.2.2.2.2.2.2.1) (z.2.2.2.2.2.2.2.2.2.2.2.2.2.2.2.1) (z.2.2.2.2.2.2.2.2.2.2.2.2.2.2.2.2.1) (z.2.2.2.2.2.2.2.2.2.2.2.2.2.2.2.2.2.1) (z.2.2.2.2.2.2.2.2.2.2.2.2.2.2.2.2.2.2.1) (z.2.2.2.2.2.2.2.2.2.2.2.2.2.2.2.2.2.2.2.1) (z.2.2.2.2.2.2.2.2.2.2.2.2.2.2.2.2.2.2.2.2.1) (z.2.2.2.2.2.2.2.2.2.2.2.2.2.2.2.2.2.2.2.2.2.1) (z.2.2.2.2.2.2.2.2.2.2.2.2.2.2.2.2.2.2.2.2.2.2)
theorem ne : Nonempty T := ⟨(Classical.choice inferInstance, Classical.choice Mine.neW, Classical.choice Mine.neA, Classical.choice inferInstance, Classical.choice inferInstance, Classical.choice Mine.neS, Classical.choice inferInstance, Classical.choice inferInstance, Classical.choice inferInstance, Classical.choice inferInstance, Classical.choice inferInstance, Classical.choice inferInstance, Classical.choice inferInstance, Classical.choice inferInstance, Classical.choice inferInstance, Classical.choice inferInstance, Classical.choice inferInstance, Classical.choice inferInstance, Classical.choice inferInstance, Classical.choice inferInstance, Classical.choice inferInstance, Classical.choice inferInstance, Classical.choice inferInstance)⟩
noncomputable def z_ : T := @Classical.epsilon _ ne fun z => ¬ Q_ z
@[irreducible] noncomputable def prog : Program := z_.1
@[irreducible] noncomputable def w : World := z_.2.1
@[irreducible] noncomputable def A : Around := z_.2.2.1
@[irreducible] noncomputable def E : Value → Shared → Prop := z_.2.2.2.1
@[irreducible] noncomputable def env : Env := z_.2.2.2.2.1
@[irreducible] noncomputable def s : Shared := z_.2.2.2.2.2.1
@[irreducible] noncomputable def elt : Expr := z_.2.2.2.2.2.2.1
@[irreducible] noncomputable def iter : Expr := z_.2.2.2.2.2.2.2.1
@[irreducible] noncomputable def xa : Str := z_.2.2.2.2.2.2.2.2.1
@[irreducible] noncomputable def xb : Str := z_.2.2.2.2.2.2.2.2.2.1
@[irreducible] noncomputable def pa : Pos := z_.2.2.2.2.2.2.2.2.2.2.1
@[irreducible] noncomputable def pb : Pos := z_.2.2.2.2.2.2.2.2.2.2.2.1
@[irreducible] noncomputable def pt : Pos := z_.2.2.2.2.2.2.2.2.2.2.2.2.1
@[irreducible] noncomputable def kt : Nat := z_.2.2.2.2.2.2.2.2.2.2.2.2.2.1
@[irreducible] noncomputable def scope : Scope := z_.2.2.2.2.2.2.2.2.2.2.2.2.2.2.1
@[irreducible] noncomputable def cl : List (Str × Addr) := z_.2.2.2.2.2.2.2.2.2.2.2.2.2.2.2.1
@[irreducible] noncomputable def pos : Pos := z_.2.2.2.2.2.2.2.2.2.2.2.2.2.2.2.2.1
@[irreducible] noncomputable def l : Addr := z_.2.2.2.2.2.2.2.2.2.2.2.2.2.2.2.2.2.1
@[irreducible] noncomputable def its : Array Value := z_.2.2.2.2.2.2.2.2.2.2.2.2.2.2.2.2.2.2.1
@[irreducible] noncomputable def Ts : Nat → Addr := z_.2.2.2.2.2.2.2.2.2.2.2.2.2.2.2.2.2.2.2.1
@[irreducible] noncomputable def vals : Nat → Array Value := z_.2.2.2.2.2.2.2.2.2.2.2.2.2.2.2.2.2.2.2.2.1
@[irreducible] noncomputable def F : Nat → Value → Prop := z_.2.2.2.2.2.2.2.2.2.2.2.2.2.2.2.2.2.2.2.2.2.1
@[irreducible] noncomputable def Q : Value → Shared → Prop := z_.2.2.2.2.2.2.2.2.2.2.2.2.2.2.2.2.2.2.2.2.2.2
theorem core : Pf prog w A E env s elt iter xa xb pa pb pt kt scope cl pos l its Ts vals F Q := by
  unfold Pf
  intro hh hclos hcell hkind hnames hxa hxb hab hiter hl hit htup hval hsz helt hQ hs
  rw [eval_ListComp]
  refine wpAny_comprehension_free (use := none) rfl hs hclos hkind hnames (hiter _ (wpAny_pyIter_list hl ?_))
  refine wpAny_newObj_type (hd := by size_fits) (wpAny_newFunctionEnv hcell (by intro y hy; simp at hy) (fun h₁ hns₁ hsb₁ => ?_) hkind)
  dsimp only at hns₁ hsb₁ ⊢
  obtain ⟨ol, hol, hol'⟩ := id hl
  have hlt : l < s.heap.objs.size := Heap.lt_size hol
  generalize hH1 : s.heap.push { cls := .type "list_iterator", data := .fields #[.ref l, .int 0 0] } = H1 at hns₁ hsb₁ ⊢
  have hD : H1.objs.size = s.heap.objs.size + 1 := by rw [← hH1, Heap.size_push]
  generalize hH2 : H1.push { cls := .type "list", dict := none, data := .seq ([] : List Value).toArray } = H2 at hns₁ hsb₁ ⊢
  have hC : H2.objs.size = s.heap.objs.size + 2 := by rw [← hH2, Heap.size_push, hD]
  have hDI : H1.objs.size ≠ s.heap.objs.size := by rw [hD]; exact Nat.succ_ne_self _
  have hDC : H1.objs.size ≠ H2.objs.size := by rw [hD, hC]; exact Nat.ne_of_lt (Nat.lt_succ_self _)
  have hIC : s.heap.objs.size ≠ H2.objs.size := by rw [hC]; exact Nat.ne_of_lt (Nat.lt_succ_of_lt (Nat.lt_succ_self _))
  have below : ∀ b, b < s.heap.objs.size → b ≠ H2.objs.size ∧ b ≠ s.heap.objs.size ∧ b ≠ H1.objs.size := fun b hb =>
    ⟨by rw [hC]; exact Nat.ne_of_lt (Nat.lt_succ_of_lt (Nat.lt_succ_of_lt hb)), Nat.ne_of_lt hb, by rw [hD]; exact Nat.ne_of_lt (Nat.lt_succ_of_lt hb)⟩
  have old : ∀ b o, s.heap.get? b = some o → h₁.get? b = some o := fun b o e =>
    hsb₁.extBut b o (below b (Heap.lt_size e)).1 (Heap.get?_push_of_some _ (hH2 ▸ Heap.get?_push_of_some _ (hH1 ▸ Heap.get?_push_of_some _ e)))
  have hit₁ : h₁.IsListIter s.heap.objs.size l 0 := ⟨_, hsb₁.extBut _ _ hIC (Heap.get?_push_of_some _ (hH2 ▸ Heap.get?_push_of_some _ (hH1 ▸ Heap.get?_push_size _ rfl))), rfl, rfl⟩
  have hacc : h₁.PlainList H1.objs.size #[] := ⟨_, hsb₁.extBut _ _ hDC (Heap.get?_push_of_some _ (hH2 ▸ Heap.get?_push_size _ rfl))⟩
  have loop : ∀ s₂ : Shared, s₂ = { s with heap := h₁, toks := s.toks + ([] : List (Str × Value)).length } →
      codeAny (model prog w) A (.compLoop (.ListComp elt [⟨.Tuple [.Name xa pa, .Name xb pb] kt pt, iter, [], 0⟩] scope pos) 0 (.ref s.heap.objs.size) (.ref H1.objs.size) (compEnvC scope cl H2.objs.size env))
        (compPost (model prog w) A E none Q (.ref H1.objs.size) H2.objs.size) s₂ := by
    rintro s₂ rfl
    refine codeAny_loop rfl (fun k s' => ∃ h' tk m' ys i, s' = { s with heap := h', toks := tk } ∧ k = its.size - i ∧ i ≤ its.size ∧ h'.IsListIter s.heap.objs.size l i ∧ h'.PlainList H1.objs.size ys ∧ ys.size = i ∧ (∀ j v, ys[j]? = some v → F j v) ∧ h'.Ns H2.objs.size m' ∧
      (∀ b o, s.heap.get? b = some o → h'.get? b = some o)) ?_ (its.size - 0) ⟨h₁, _, _, #[], 0, rfl, rfl, Nat.zero_le _, hit₁, hacc, rfl, by simp, hns₁, old⟩
    rintro k s' ⟨h', tk, m', ys, i, rfl, rfl, hi, hit', hacc', hys, hF, hn', hk⟩
    show wpAny _ _ ((compTurn (.ListComp elt [⟨.Tuple [.Name xa pa, .Name xb pb] kt pt, iter, [], 0⟩] scope pos) 0 (.ref s.heap.objs.size) (.ref H1.objs.size) (compEnvC scope cl H2.objs.size env)).onRaise (fun x => do noteFrame x (compEnvC scope cl H2.objs.size env); theTreesLotGoes x)) _ _ _
    refine wpAny_noted ?_
    rw [compTurn_list1]
    have hsq : HasSeq h' l its := by obtain ⟨_, n, hd⟩ := hol'; exact ⟨ol, n, hk _ _ hol, hd⟩
    by_cases hlt' : i < its.size
    · refine wpAny_bind (wpAny_standAt (wpAny_bind (next_seq_item hit' hsq (hit i hlt') fun h₂ hit₂ hs₂ => ?_)))
      have old₂ : ∀ b o, s.heap.get? b = some o → h₂.get? b = some o := fun b o e => hs₂.extBut b o (below b (Heap.lt_size e)).2.1 (hk b o e)
      dsimp only
      refine wpAny_bind (wpAny_letOwnedTupleGo_listiter hit₂ ?_)
      obtain ⟨va, vb, hv⟩ := hval i hlt'
      have hT : h₂.IsTuple (Ts i) #[va, vb] := by obtain ⟨o, e, r⟩ := htup i hlt'; rw [hv] at r; exact ⟨o, old₂ _ _ e, r⟩
      refine wpAny_bind (wpAny_assign_Tuple hh hT rfl rfl fun h₃ hx₃ => ?_)
      replace hx₃ : Heap.ExtBut h₂.objs.size h₂ h₃ := hx₃
      have old₃ : ∀ b o, h₂.get? b = some o → h₃.get? b = some o := fun b o e => hx₃ b o (Nat.ne_of_lt (Heap.lt_size e)) e
      have hn₃ : h₃.Ns H2.objs.size m' := hn'.at' fun o e => old₃ _ o (hs₂.extBut _ o hIC.symm e)
      have hloc : ∀ y, scope.names.lookup y = some .local → (compEnvC scope cl H2.objs.size env).kindOf y = some .local := fun y h => lookup_relabel_local h
      have hpp : ((compEnvC scope cl H2.objs.size env).scope.kind == .class || ((compEnvC scope cl H2.objs.size env).scope.kind == .module && (compEnvC scope cl H2.objs.size env).locals != (compEnvC scope cl H2.objs.size env).globals)) = false := by simp [compEnvC, relabel, hkind]
      show wpAny _ _ (do holding [vb] (assign (.Name xa pa) (compEnvC scope cl H2.objs.size env) va); do holding [] (assign (.Name xb pb) (compEnvC scope cl H2.objs.size env) vb); pure ()) _ _ _
      refine wpAny_bind (wpAny_holding (wpAny_assign_Name (wpAny_storeName_local (hloc _ hxa) hn₃ (fun h₄ hn₄ hs₄ => ?_) hpp)))
      replace hs₄ : Heap.SameBut H2.objs.size h₃ h₄ := hs₄
      refine wpAny_bind (wpAny_holding (wpAny_assign_Name (wpAny_storeName_local (hloc _ hxb) hn₄ (fun h₅ hn₅ hs₅ => wpAny_pure ?_) hpp)))
      replace hs₅ : Heap.SameBut H2.objs.size h₄ h₅ := hs₅
      have up : ∀ b o, b ≠ H2.objs.size → h₂.get? b = some o → h₅.get? b = some o := fun b o hb e => hs₅.extBut b o hb (hs₄.extBut b o hb (old₃ b o e))
      have old₅ : ∀ b o, s.heap.get? b = some o → h₅.get? b = some o := fun b o e => up b o (below b (Heap.lt_size e)).1 (old₂ b o e)
      refine wpAny_bind (wpAny_bind (wpAny_mono (helt _ i va vb _ _ _ (by rw [hC]; exact Nat.le_add_right _ 2) hlt' hv hn₅ (by simp [hab]) (by simp) old₅) (fun y s₆ h₆ => ?_) fun _ _ e => e))
      obtain ⟨hFy, h₆, tk₆, rfl, hk₆⟩ := h₆
      have hacc₆ : h₆.PlainList H1.objs.size ys := hacc'.at fun o e => hk₆ _ o (up _ o hDC (hs₂.extBut _ o hDI e))
      refine wpAny_bind (wpAny_list_append_plain hacc₆ (fun h₇ hacc₇ hs₇ => wpAny_pure ?_) (by rw [hys]; omega))
      replace hs₇ : Heap.SameBut H1.objs.size h₆ h₇ := hs₇
      have hit₇ : h₇.IsListIter s.heap.objs.size l (i + 1) := by
        obtain ⟨o, ho, r⟩ := hit₂
        exact ⟨o, hs₇.extBut _ _ hDI.symm (hk₆ _ _ (up _ _ hIC ho)), r⟩
      have hF₇ : ∀ j v, (ys.push y)[j]? = some v → F j v := fun j v hj => by
        rw [Array.getElem?_push] at hj
        split at hj
        · rename_i e; rw [hys] at e; cases hj; rw [e]; exact hFy
        · exact hF j v hj
      have hn₇ := (hn₅.keeps hk₆).at' fun o e => hs₇.extBut _ o hDC.symm e
      exact wpAny_pure ⟨rfl, its.size - (i + 1), by omega, h₇, tk₆, _, ys.push y, i + 1, rfl, rfl, hlt', hit₇, hacc₇, by rw [Array.size_push, hys], hF₇, hn₇, fun b o e => hs₇.extBut b o (below b (Heap.lt_size e)).2.2 (hk₆ b o (old₅ b o e))⟩
    · have hie : i = its.size := by omega
      refine wpAny_bind (wpAny_standAt (wpAny_bind (next_seq_end hh hit' hsq (by rw [hie]; simp) fun h₂ he₂ => ?_)))
      have hDI' : s.heap.objs.size ≠ H1.objs.size := hDI.symm
      refine wpAny_pure ⟨_, hn'.at' fun o e => he₂ _ o hIC.symm e, fun h₃ hs₃ => hQ _ h₃ tk ys (by rw [hD]; exact Nat.le_succ _) ?_ (by rw [hys, hie]) hF fun b o e => ?_⟩
      · exact (hacc'.at fun o e => he₂ _ o hDI e).at fun o e => hs₃.extBut _ o hDC e
      · exact hs₃.extBut b o (below b (Heap.lt_size e)).1 (he₂ b o (below b (Heap.lt_size e)).2.1 (hk b o e))
  exact codeAny_compStart_list (loop _ rfl) (wpAny_pyIter_listiter hit₁ (loop _ rfl))
theorem all (y : T) : Q_ y := eps_all ne Q_ (by with_unfolding_all exact core) y
end C1
end
section
variable {prog : Program} {w : World} {A : Around} {E : Value → Shared → Prop} {env : Env}
theorem comp_pairs {s : Shared} {elt iter : Expr} {xa xb : Str} {pa pb pt : Pos} {kt : Nat} {scope : Scope} {cl : List (Str × Addr)} {pos : Pos} {l : Addr} {its : Array Value} {Ts : Nat → Addr} {vals : Nat → Array Value} {F : Nat → Value → Prop} {Q : Value → Shared → Prop}
    (hh : A.handled = none) (hclos : closureFor scope env = pure cl) (hcell : ∀ y ∈ scope.names, y.2 ≠ .cell) (hkind : scope.kind = .function) (hnames : ∀ y ∈ scope.names, y.2 = .local → scope.names.lookup y.1 = some .local)
    (hxa : scope.names.lookup xa = some .local) (hxb : scope.names.lookup xb = some .local) (hab : xa ≠ xb)
    (hiter : ∀ Q' : Value → Shared → Prop, Q' (.ref l) s → wpAny (model prog w) A (eval iter env) Q' E s)
    (hl : s.heap.IsList l its) (hit : ∀ j, j < its.size → its[j]? = some (.ref (Ts j))) (htup : ∀ j, j < its.size → s.heap.IsTuple (Ts j) (vals j)) (hval : ∀ j, j < its.size → ∃ va vb, vals j = #[va, vb]) (hsz : its.size ≤ sizeLine)
    (helt : ∀ C i va vb (t : Shared) m₂ E', s.heap.objs.size ≤ C → i < its.size → vals i = #[va, vb] → t.heap.Ns C m₂ → m₂ xa = some va → m₂ xb = some vb → (∀ b o, s.heap.get? b = some o → t.heap.get? b = some o) →
      wpAny (model prog w) A (eval elt (compEnvC scope cl C env)) (fun y s₄ => F i y ∧ Keeps t s₄) E' t)
    (hQ : ∀ D h' tk ys, s.heap.objs.size ≤ D → h'.PlainList D ys → ys.size = its.size → (∀ j v, ys[j]? = some v → F j v) → (∀ b o, s.heap.get? b = some o → h'.get? b = some o) → Q (.ref D) { s with heap := h', toks := tk })
    (hs : ∀ x, foldedSetIterable iter env x = pure x) :
    wpAny (model prog w) A (eval (.ListComp elt [⟨.Tuple [.Name xa pa, .Name xb pb] kt pt, iter, [], 0⟩] scope pos) env) Q E s :=
  C1.all (prog, w, A, E, env, s, elt, iter, xa, xb, pa, pb, pt, kt, scope, cl, pos, l, its, Ts, vals, F, Q) hh hclos hcell hkind hnames hxa hxb hab hiter hl hit htup hval hsz helt hQ hs
end
end
-- text ZMY
section

noncomputable def Held (P : Prop) : Prop := P
theorem Held.out {P : Prop} (h : Held P) : P := h
theorem Held.put {P : Prop} (h : P) : Held P := h
example : True := by
  k_with "~eval ListComp" => ((refine Held.out ?_))
  trivial
theorem strsAre_of : ∀ (vs : List Value) (ts : List Str), vs.length = ts.length → (∀ (j : Nat) (v : Value), vs[j]? = some v → ∃ (x : Str) (t : Tok), ts[j]? = some x ∧ v = Value.str x t) → StrsAre vs ts
  | [], [], _, _ => .nil
  | [], _ :: _, h, _ => by simp at h
  | _ :: _, [], h, _ => by simp at h
  | v :: vs, y :: ts, h, hx => by
    obtain ⟨x, t, e, rfl⟩ := hx 0 v rfl
    cases e
    exact .cons _ _ (strsAre_of vs ts (by simpa using h) fun j v hj => hx (j + 1) v hj)
theorem nameC_L {M : Model} {A : Around} {E : Value → Shared → Prop} {s : Shared} {scope : Scope} {cl : List (Str × Addr)} {C : Addr} {env : Env} {x : Str} {pos : Pos} {v : Value} {m : Str → Option Value} {Q : Value → Shared → Prop} (hn : s.heap.Ns C m) (hv : m x = some v) (hk : scope.kind = .function) (hl : scope.names.lookup x = some .local) (hd : (x == ("__debug__" : Str)) = false) (h : Q v s) :
    wpAny M A (eval (.Name x pos) (compEnvC scope cl C env)) Q E s := wpAny_Name (wpAny_loadName_local (env := compEnvC scope cl C env) hk (lookup_relabel_local hl) hn hv h) hd
theorem law_text_raw {w : World} {A : Around} {s : Shared} {H : Heap} {loose : List Str} {mg mb : Str → Option Value} {R : Result → Shared → Prop} {l : Addr} {its : Array Value} {pr : List (Str × Str)}
  (X : (hd.heap_39 w.params).In H) (T : TopRead Mine.hd.view_39 loose mg mb H) (hk : ∀ b o, H.get? b = some o → s.heap.get? b = some o) (hd : A.depth + 12 < recursionLimit) (hh : A.handled = none)
  (hl : H.IsList l its) (hI : Items H its pr) (hfit : (pr.map fun p => p.1.length + p.2.length).sum ≤ 1000000) (hcount : pr.length ≤ 1000)
  (hR : ∀ s' t, Aft s s' [] [] → R (.ok (.ret (.str (textOf pr) t))) s') :
  codeAny (model PG w) A (.call (.ref 888) ⟨[.ref l], []⟩) R s := by
  refine' enterM (binds := [(Str.ofString "pieces", .ref l)]) [] ?k1 ?k2 ?k3 ?k4 ?k6 ?k7 ?k8 ?k9 ?kB ?_ ?c5 ?c2 ?c3 ?c4
  walk_at "m:enter"
  intro g L h₁ hkg hgk F N Xg Tg hHg hlt
  (try dsimp only)
  walk_at "m:steps"
  refine Held.put ?_
  obtain ⟨Ts, vals, hit, htup, hval⟩ := ((hI.keeps hHg).keeps F.keep).fn
  have hl₁ : h₁.IsList l its := by obtain ⟨o, ho, r⟩ := hl; exact ⟨o, F.keep _ _ (hHg _ _ ho), r⟩
  refine comp_pairs (l := l) (its := its) (Ts := Ts) (vals := vals) (F := fun i v => ∃ p t, pr[i]? = some p ∧ v = .str (cat2 p) t) hh rfl (by decide) rfl (by decide) rfl rfl (by decide) (fun Q' q => ?e1) hl₁ hit htup (fun j hj => ?e2) (by rw [hI.1, sizeLine_eq]; omega) ?e3 ?e4 (fun _ => rfl)
  case e1 => walk1; exact q
  case e2 => obtain ⟨p, ta, tb, e, r⟩ := hval j hj; exact ⟨_, _, r⟩
  case e3 =>
    intro C i va vb t m₂ E' hC hi hv hn hma hmb hkp
    obtain ⟨p, ta, tb, e, r⟩ := hval i hi
    rw [r] at hv
    obtain ⟨rfl, rfl⟩ : Value.str p.1 ta = va ∧ Value.str p.2 tb = vb := by injection hv with hv; injection hv with h1 h2; injection h2 with h2 _; exact ⟨h1, h2⟩
    have hle := sum_le_of pr e
    refine wpAny_BinOp (nameC_L hn hma rfl rfl (by decide) (nameC_L hn hmb rfl rfl (by decide) ?_))
    exact PyProof.Rows.add_str (fun t' tk => ⟨⟨p, _, e, rfl⟩, _, _, rfl, fun _ _ e => e⟩) (by rw [sizeLine_eq]; omega)
  case e4 =>
    intro D h₂ tk ys hD hpl hys hF hk₂
    walk_at "m:steps"
    have hS : StrsAre ys.toList (pr.map cat2) := strsAre_of _ _ (by rw [Array.length_toList, hys, hI.1, List.length_map]) fun j v hj => by
      obtain ⟨p, t, e, e2⟩ := hF j v (by rw [← Array.getElem?_toList]; exact hj)
      exact ⟨cat2 p, t, by rw [List.getElem?_map, e]; rfl, e2⟩
    refine join_listW hpl.isList hS (by decide) ?_ fun t' k => ?_
    · have e : ((pr.map cat2).map (·.length)) = pr.map fun p => p.1.length + p.2.length := by
        rw [List.map_map]; exact List.map_congr_left fun p _ => by simp [cat2, Str.length_append]
      rw [e, List.length_map]; omega
    · have F' : Fr g L h₂ (fun y => List.lookup y [(Str.ofString "pieces", Value.ref l)].reverse) := F.keeps hk₂
      exact hR { heap := h₂, gens := s.gens, drawn := s.drawn, toks := k, os := s.os } _ (Aft.of hkg F' (News.nil) (fun _ h => (nomatch h)) rfl id)
end
-- text ZMZ
section
section
variable {prog : Program} {w : World} {A : Around} {s : Shared} {env : Env} {h₀ : Heap} {target : Expr} {body orelse : List Stmt}
noncomputable def Onward (h₀ : Heap) (L : Addr) (wr : List Addr) (own keep : List (Addr × Obj)) (J : (Str → Option Value) → List (Addr × Obj) → Prop) (s s₃ : Shared) : Prop :=
  ∃ m₂ news₂, Fr h₀ L s₃.heap m₂ ∧ News h₀ L s₃.heap (own ++ news₂) ∧ (∀ p ∈ news₂, p.1 ∉ wr) ∧ (∀ p ∈ keep, p ∈ news₂) ∧ J m₂ news₂ ∧ s₃.os = s.os ∧ (AllBare s.gens → AllBare s₃.gens)
noncomputable def TurnEnds (h₀ : Heap) (L : Addr) (wr : List Addr) (own keep : List (Addr × Obj)) (J : (Str → Option Value) → List (Addr × Obj) → Prop) (R : Result → Shared → Prop) (s : Shared) (f : Flow) (s₃ : Shared) : Prop :=
  match f with
  | .next => Onward h₀ L wr own keep J s s₃
  | .cont => Onward h₀ L wr own keep J s s₃
  | .brk => R (.ok .next) s₃
  | .ret v => R (.ok (.ret v)) s₃
end
section
namespace C4
noncomputable abbrev T := (Program) × (World) × (Around) × (Shared) × (Env) × (Heap) × (Expr) × (List Stmt) × (List Stmt) × (Result → Shared → Prop) × (Addr) × (List Addr) × (List Addr) × (Nat) × (Nat → Value → Heap → Prop) × (Nat → Value → Heap → Prop) × (Nat → Heap → Prop) × (Str → Option Value) × (List (Addr × Obj)) × (List (Addr × Obj))
noncomputable def Pf (prog : Program) (w : World) (A : Around) (s : Shared) (env : Env) (h₀ : Heap) (target : Expr) (body : List Stmt) (orelse : List Stmt) (R : Result → Shared → Prop) (I : Addr) (fp : List Addr) (wr : List Addr) (n : Nat) (P : Nat → Value → Heap → Prop) (Md : Nat → Value → Heap → Prop) (St : Nat → Heap → Prop) (m : Str → Option Value) (news : List (Addr × Obj)) (keep : List (Addr × Obj)) : Prop := ∀ (W : KTurns prog w A target I fp wr n P Md St) (hobj : ∀ i h, St i h → ∀ b ∈ wr, ∃ o, h.get? b = some o) (hLf : env.locals ∉ fp) (hwr : ∀ b ∈ wr, h₀.get? b = none) (hfp : ∀ b ∈ fp, b ∈ wr ∨ (∃ o, h₀.get? b = some o) ∨ ∃ o, (b, o) ∈ keep) (hnw : ∀ p ∈ news, p.1 ∉ wr) (hst : St 0 s.heap) (F : Fr h₀ env.locals s.heap m) (N : News h₀ env.locals s.heap news) (hkp : ∀ p ∈ keep, p ∈ news) (J : Nat → (Str → Option Value) → List (Addr × Obj) → Prop) (h0 : J 0 m news) (turn : ∀ i v m₁ news₁ (s₁ : Shared) own, i < n → P i v s₁.heap → J i m₁ news₁ → (∀ p ∈ keep, p ∈ news₁) → (∀ p ∈ news₁, p.1 ∉ wr) → own.map (·.1) = wr → Fr h₀ env.locals s₁.heap m₁ → News h₀ env.locals s₁.heap (own ++ news₁) → s₁.os = s.os → (AllBare s.gens → AllBare s₁.gens) →
      wpAny (model prog w) A (assign target env v) (fun _ s₂ => wpAny (model prog w) A (execs body env) (TurnEnds h₀ env.locals wr own keep (J (i + 1)) R s) (notedBy (model prog w) A env fun e s' => R (.error e) s') s₂) (notedBy (model prog w) A env fun e s' => R (.error e) s') s₁) (fin : ∀ m₁ news₁ (s₁ : Shared), J n m₁ news₁ → (∀ p ∈ keep, p ∈ news₁) → Fr h₀ env.locals s₁.heap m₁ → News h₀ env.locals s₁.heap news₁ → s₁.os = s.os → (AllBare s.gens → AllBare s₁.gens) →
      wpAny (model prog w) A (execs orelse env) (fun f s₃ => R (.ok f) s₃) (notedBy (model prog w) A env fun e s' => R (.error e) s') s₁), codeAny (model prog w) A (.forLoop target (.ref I) body orelse env) R s
noncomputable def Q_ (z : T) : Prop := Pf z.1 (z.2.1) (z.2.2.1) (z.2.2.2.1) (z.2.2.2.2.1) (z.2.2.2.2.2.1) (z.2.2.2.2.2.2.1) (z.2.2.2.2.2.2.2.1) (z.2.2.2.2.2.2.2.2.1) (z.2.2.2.2.2.2.2.2.2.1) (z.2.2.2.2.2.2.2.2.2.2.1) (z.2.2.2.2.2.2.2.2.2.2.2.1) (z.2.2.2.2.2.2.2.2.2.2.2.2.1) (z.2.2.2.2.2.2.2.2.2.2.2.2.2.1) (z.2.2.2.2.2.2.2.2.2.2.2.2.2.2.1) (z.2.2.2.2.2.2.2.2.2.2.2.2.2.2.2.1) (z.2.2.2.2.2.2.2.2.2.2.2.2.2.2.2.2.1) (z.2.2.2.2.2.2.2.2.2.2.2.2.2.2.2.2.2.1) (z.2.2.2.2.2.2.2.2.2.2.2.2.2.2.2.2.2.2.1) (z.2.2.2.2.2.2.2.2.2.2.2.2.2.2.2.2.2.2.2)
theorem ne : Nonempty T := ⟨(Classical.choice inferInstance, Classical.choice Mine.neW, Classical.choice Mine.neA, Classical.choice Mine.neS, Classical.choice inferInstance, Classical.choice inferInstance, Classical.choice inferInstance, Classical.choice inferInstance, Classical.choice inferInstance, Classical.choice inferInstance, Classical.choice inferInstance, Classical.choice inferInstance, Classical.choice inferInstance, Classical.choice inferInstance, Classical.choice inferInstance, Classical.choice inferInstance, Classical.choice inferInstance, Classical.choice inferInstance, Classical.choice inferInstance, Classical.choice inferInstance)⟩
noncomputable def z_ : T := @Classical.epsilon _ ne fun z => ¬ Q_ z
@[irreducible] noncomputable def prog : Program := z_.1
@[irreducible] noncomputable def w : World := z_.2.1
@[irreducible] noncomputable def A : Around := z_.2.2.1
@[irreducible] noncomputable def s : Shared := z_.2.2.2.1
@[irreducible] noncomputable def env : Env := z_.2.2.2.2.1
@[irreducible] noncomputable def h₀ : Heap := z_.2.2.2.2.2.1
@[irreducible] noncomputable def target : Expr := z_.2.2.2.2.2.2.1
@[irreducible] noncomputable def body : List Stmt := z_.2.2.2.2.2.2.2.1
@[irreducible] noncomputable def orelse : List Stmt := z_.2.2.2.2.2.2.2.2.1
@[irreducible] noncomputable def R : Result → Shared → Prop := z_.2.2.2.2.2.2.2.2.2.1
@[irreducible] noncomputable def I : Addr := z_.2.2.2.2.2.2.2.2.2.2.1
@[irreducible] noncomputable def fp : List Addr := z_.2.2.2.2.2.2.2.2.2.2.2.1
@[irreducible] noncomputable def wr : List Addr := z_.2.2.2.2.2.2.2.2.2.2.2.2.1
@[irreducible] noncomputable def n : Nat := z_.2.2.2.2.2.2.2.2.2.2.2.2.2.1
@[irreducible] noncomputable def P : Nat → Value → Heap → Prop := z_.2.2.2.2.2.2.2.2.2.2.2.2.2.2.1
@[irreducible] noncomputable def Md : Nat → Value → Heap → Prop := z_.2.2.2.2.2.2.2.2.2.2.2.2.2.2.2.1
@[irreducible] noncomputable def St : Nat → Heap → Prop := z_.2.2.2.2.2.2.2.2.2.2.2.2.2.2.2.2.1
@[irreducible] noncomputable def m : Str → Option Value := z_.2.2.2.2.2.2.2.2.2.2.2.2.2.2.2.2.2.1
@[irreducible] noncomputable def news : List (Addr × Obj) := z_.2.2.2.2.2.2.2.2.2.2.2.2.2.2.2.2.2.2.1
@[irreducible] noncomputable def keep : List (Addr × Obj) := z_.2.2.2.2.2.2.2.2.2.2.2.2.2.2.2.2.2.2.2
theorem core : Pf prog w A s env h₀ target body orelse R I fp wr n P Md St m news keep := by
  unfold Pf
  intro W hobj hLf hwr hfp hnw hst F N hkp J h0 turn fin
  have hLw : env.locals ∉ wr := fun h => hLf (W.sub _ h)
  have old : ∀ b o, h₀.get? b = some o → b ∉ wr := fun b o e hb => by rw [hwr b hb] at e; cases e
  refine codeAny_forLoop_any
    (fun k s' => ∃ m' news' i, St i s'.heap ∧ Fr h₀ env.locals s'.heap m' ∧ News h₀ env.locals s'.heap news' ∧ (∀ p ∈ news', p.1 ∉ wr) ∧ (∀ p ∈ keep, p ∈ news') ∧ J i m' news' ∧ i ≤ n ∧ k = n + 1 - i ∧ s'.os = s.os ∧ (AllBare s.gens → AllBare s'.gens)) ?_ (n + 1)
    ⟨m, news, 0, hst, F, N, hnw, hkp, h0, Nat.zero_le _, rfl, rfl, id⟩
  rintro k s' ⟨m', news', i, hst', F', N', hnw', hkp', hJ, hi, rfl, hos, hbr⟩
  have next : ∀ h₁ : Heap, (∀ b o, b ∉ wr → s'.heap.get? b = some o → h₁.get? b = some o) → Fr h₀ env.locals h₁ m' ∧ News h₀ env.locals h₁ news' := fun h₁ hk₁ =>
    ⟨⟨F'.ns.at' fun o e => hk₁ _ o hLw e, fun b o e => hk₁ b o (old b o e) (F'.keep b o e), F'.above⟩, fun p hp => ⟨hk₁ _ _ (hnw' p hp) (N' p hp).1, (N' p hp).2⟩⟩
  by_cases hlt : i < n
  · refine W.item i _ _ _ hlt hst' fun v h₁ tk₁ hMd hk₁ => ?_
    refine W.go i v _ _ _ hMd fun h₂ hP hst₂ hk₂ => ?_
    obtain ⟨F₂, N₂⟩ := next h₂ fun b o hb x => hk₂ b o hb (hk₁ b o hb x)
    have hown : ∀ l : List Addr, (∀ b ∈ l, b ∈ wr) → ∃ own : List (Addr × Obj), own.map (·.1) = l ∧ ∀ p ∈ own, h₂.get? p.1 = some p.2 := by
      intro l
      induction l with
      | nil => exact fun _ => ⟨[], rfl, fun _ h => (nomatch h)⟩
      | cons b l ih =>
        intro hl
        obtain ⟨own, e, g⟩ := ih fun b hb => hl b (List.mem_cons_of_mem _ hb)
        obtain ⟨o, ho⟩ := hobj _ _ hst₂ b (hl b (List.mem_cons_self ..))
        exact ⟨(b, o) :: own, by rw [List.map_cons, e], fun p hp => by rcases List.mem_cons.mp hp with rfl | hp; exact ho; exact g p hp⟩
    obtain ⟨own, hmap, hget⟩ := hown wr fun _ h => h
    have Nown : News h₀ env.locals h₂ (own ++ news') := fun p hp => by
      rcases List.mem_append.mp hp with hp | hp
      · have hw : p.1 ∈ wr := hmap ▸ List.mem_map_of_mem hp
        exact ⟨hget p hp, fun q => hLw (q ▸ hw), hwr _ hw⟩
      · exact N₂ p hp
    have cont : ∀ s₃ : Shared, Onward h₀ env.locals wr own keep (J (i + 1)) s s₃ → ∃ m, m < n + 1 - i ∧ ∃ m' news' i, St i s₃.heap ∧ Fr h₀ env.locals s₃.heap m' ∧ News h₀ env.locals s₃.heap news' ∧ (∀ p ∈ news', p.1 ∉ wr) ∧ (∀ p ∈ keep, p ∈ news') ∧ J i m' news' ∧ i ≤ n ∧ m = n + 1 - i ∧ s₃.os = s.os ∧ (AllBare s.gens → AllBare s₃.gens) := by
      rintro s₃ ⟨m₂, news₂, F₃, N₃, ha₃, hk₃, hJ₃, ho₃, hb₃⟩
      refine ⟨n + 1 - (i + 1), by omega, m₂, news₂, i + 1, ?_, F₃, fun p hp => N₃ p (List.mem_append_right _ hp), ha₃, hk₃, hJ₃, hlt, rfl, ho₃, hb₃⟩
      refine W.frame _ _ _ hst₂ fun b hb o e => ?_
      rcases hfp b hb with h | ⟨o', h⟩ | ⟨o', h⟩
      · rw [← hmap] at h
        obtain ⟨p, hp, rfl⟩ := List.mem_map.mp h
        have := hget p hp
        rw [e] at this
        cases this
        exact (N₃ p (List.mem_append_left _ hp)).1
      · have q := F₂.keep b o' h
        rw [e] at q; cases q
        exact F₃.keep b o h
      · have q := (N₂ _ (hkp' _ h)).1
        rw [e] at q; cases q
        exact (N₃ _ (List.mem_append_right _ (hk₃ _ h))).1
    refine wpAny_mono (turn i v m' news' _ own hlt hP hJ hkp' hnw' hmap F₂ Nown hos hbr) (fun _ s₂ h₂' => wpAny_mono h₂' (fun f s₃ h₃ => ?_) fun _ _ e => e) fun _ _ e => e
    cases f with
    | ret v => exact h₃
    | brk => exact h₃
    | cont => exact cont s₃ h₃
    | next => exact cont s₃ h₃
  · have hin : i = n := by omega
    subst hin
    refine W.done _ _ _ hst' fun h₁ tk₁ hk₁ => ?_
    obtain ⟨F₁, N₁⟩ := next h₁ hk₁
    exact fin m' news' _ hJ hkp' F₁ N₁ hos hbr
theorem all (y : T) : Q_ y := eps_all ne Q_ (by with_unfolding_all exact core) y
end C4
end
section
variable {prog : Program} {w : World} {A : Around} {s : Shared} {env : Env} {h₀ : Heap} {target : Expr} {body orelse : List Stmt}
theorem for_own {R : Result → Shared → Prop} {I : Addr} {fp wr : List Addr} {n : Nat} {P Md : Nat → Value → Heap → Prop} {St : Nat → Heap → Prop} {m : Str → Option Value} {news keep : List (Addr × Obj)} (W : KTurns prog w A target I fp wr n P Md St)
    (hobj : ∀ i h, St i h → ∀ b ∈ wr, ∃ o, h.get? b = some o) (hLf : env.locals ∉ fp) (hwr : ∀ b ∈ wr, h₀.get? b = none) (hfp : ∀ b ∈ fp, b ∈ wr ∨ (∃ o, h₀.get? b = some o) ∨ ∃ o, (b, o) ∈ keep)
    (hnw : ∀ p ∈ news, p.1 ∉ wr) (hst : St 0 s.heap) (F : Fr h₀ env.locals s.heap m) (N : News h₀ env.locals s.heap news) (hkp : ∀ p ∈ keep, p ∈ news)
    (J : Nat → (Str → Option Value) → List (Addr × Obj) → Prop) (h0 : J 0 m news)
    (turn : ∀ i v m₁ news₁ (s₁ : Shared) own, i < n → P i v s₁.heap → J i m₁ news₁ → (∀ p ∈ keep, p ∈ news₁) → (∀ p ∈ news₁, p.1 ∉ wr) → own.map (·.1) = wr → Fr h₀ env.locals s₁.heap m₁ → News h₀ env.locals s₁.heap (own ++ news₁) → s₁.os = s.os → (AllBare s.gens → AllBare s₁.gens) →
      wpAny (model prog w) A (assign target env v) (fun _ s₂ => wpAny (model prog w) A (execs body env) (TurnEnds h₀ env.locals wr own keep (J (i + 1)) R s) (notedBy (model prog w) A env fun e s' => R (.error e) s') s₂) (notedBy (model prog w) A env fun e s' => R (.error e) s') s₁)
    (fin : ∀ m₁ news₁ (s₁ : Shared), J n m₁ news₁ → (∀ p ∈ keep, p ∈ news₁) → Fr h₀ env.locals s₁.heap m₁ → News h₀ env.locals s₁.heap news₁ → s₁.os = s.os → (AllBare s.gens → AllBare s₁.gens) →
      wpAny (model prog w) A (execs orelse env) (fun f s₃ => R (.ok f) s₃) (notedBy (model prog w) A env fun e s' => R (.error e) s') s₁) :
    codeAny (model prog w) A (.forLoop target (.ref I) body orelse env) R s :=
  C4.all (prog, w, A, s, env, h₀, target, body, orelse, R, I, fp, wr, n, P, Md, St, m, news, keep) W hobj hLf hwr hfp hnw hst F N hkp J h0 turn fin
end
end
-- text ZNA
section
section
variable {prog : Program} {w : World} {A : Around} {E : Value → Shared → Prop} {s : Shared}
theorem nextOf_tuple_item {it t : Addr} {i : Nat} {items : Array Value} {x : Value} {Q : Value → Shared → Prop} (hit : s.heap.IsTupleIter it t i) (ht : s.heap.IsTuple t items) (hx : items[i]? = some x)
    (hQ : ∀ h', h'.IsTupleIter it t (i + 1) → Heap.SameBut it s.heap h' → Q x { s with heap := h' }) : wpAny (model prog w) A (Builtin.SmallTypes.nextOf (.ref it)) Q E s := by
  obtain ⟨o, ho, hc, hd⟩ := id hit
  obtain ⟨ol, hol, _, nl, hdl⟩ := ht
  unfold Builtin.SmallTypes.nextOf
  refine wpAny_bind (wpAny_callSpecial?_slot (name := Str.ofString "__next__") hit.typeIs PySem.F.slot_tuple_iterator_next (wpAny_call_entry PySem.F.slot_tuple_iterator_next hit.typeIs PySem.F.entry_tuple_iterator_next ?_ (PySem.F.args_tuple_iterator_next_1 _)))
  show wpAny _ _ (field (.ref it) 0 >>= _) _ _ s
  refine wpAny_bind (wpAny_field ho hd (x := .ref t) rfl ?_)
  show wpAny _ _ (if (Value.ref t == Value.none) = true then _ else _) _ _ s
  rw [if_neg (show ¬ ((Value.ref t == Value.none) = true) from Bool.false_ne_true)]
  show wpAny _ _ (field (.ref it) 1 >>= _) _ _ s
  refine wpAny_bind (wpAny_field ho hd (x := .int i 0) rfl ?_)
  show wpAny _ _ (seqItems? (.ref t) >>= _) _ _ s
  refine wpAny_bind (wpAny_seqItems hol hdl ?_)
  simp only [Int.toNat_natCast, hx]
  refine wpAny_bind (wpAny_setField ho hd (by simp) (wpAny_pure ⟨_, rfl, wpAny_pure (hQ _ ?_ (Heap.SameBut.update ..))⟩))
  exact ⟨_, Heap.get?_update_self _ ho (Obj.isFreed_of_fields (Obj.data_mapFields hd _)), (Obj.cls_mapFields ..).trans hc, by rw [Obj.data_mapFields hd]; simp [rawInt]⟩
theorem nextOf_tuple_end {it t : Addr} {i : Nat} {items : Array Value} {Q : Value → Shared → Prop} (hh : A.handled = none) (hit : s.heap.IsTupleIter it t i) (ht : s.heap.IsTuple t items) (hx : items[i]? = none)
    (hE : ∀ h' e, Heap.ExtBut it s.heap h' → (∃ o, h'.get? e = some o ∧ o.cls = .type "StopIteration") → E (.ref e) { s with heap := h' }) : wpAny (model prog w) A (Builtin.SmallTypes.nextOf (.ref it)) Q E s := by
  obtain ⟨o, ho, hc, hd⟩ := id hit
  obtain ⟨ol, hol, _, nl, hdl⟩ := ht
  unfold Builtin.SmallTypes.nextOf
  refine wpAny_bind (wpAny_callSpecial?_slot (name := Str.ofString "__next__") hit.typeIs PySem.F.slot_tuple_iterator_next (wpAny_call_entry PySem.F.slot_tuple_iterator_next hit.typeIs PySem.F.entry_tuple_iterator_next ?_ (PySem.F.args_tuple_iterator_next_1 _)))
  show wpAny _ _ (field (.ref it) 0 >>= _) _ _ s
  refine wpAny_bind (wpAny_field ho hd (x := .ref t) rfl ?_)
  show wpAny _ _ (if (Value.ref t == Value.none) = true then _ else _) _ _ s
  rw [if_neg (show ¬ ((Value.ref t == Value.none) = true) from Bool.false_ne_true)]
  show wpAny _ _ (field (.ref it) 1 >>= _) _ _ s
  refine wpAny_bind (wpAny_field ho hd (x := .int i 0) rfl ?_)
  show wpAny _ _ (seqItems? (.ref t) >>= _) _ _ s
  refine wpAny_bind (wpAny_seqItems hol hdl ?_)
  simp only [Int.toNat_natCast, hx]
  refine wpAny_bind (wpAny_rule (wpAny_bind (wpAny_setField ho hd (by simp) ?_)))
  show wpAny _ _ (newExc (.type "StopIteration") [] >>= _) _ _ _
  refine wpAny_bind ?_
  simp only [newExc, newTuple]
  refine wpAny_bind (wpAny_newObj_type ?_ (by size_fits))
  refine wpAny_bind (m := firstArgMember _ _) (wpAny_of_eq (a := Value.none) (by first | rfl | (simp only [firstArgMember]; rfl)) ?_)
  refine wpAny_newObj_type ?_ (by size_fits)
  simp only [raiseNew]
  refine wpAny_bind (wpAny_handled ?_)
  first | rw [show A.in1.handled = none from hh] | rw [hh]
  refine wpAny_bind (wpAny_pure (wpAny_throw ?_))
  exact hE _ _ (((Heap.SameBut.update ..).extBut.push _).push _) ⟨_, Heap.get?_push_size _ rfl, rfl⟩
theorem Draws_tuple (hh : A.handled = none) (it l : Addr) (hne : l ≠ it) (items : Array Value) : Draws prog w A it [it, l] items.size (fun i v => items[i]? = some v) (fun i h => h.IsTupleIter it l i ∧ h.IsTuple l items) where
  live := fun _ _ st => let ⟨o, ho, _⟩ := st.1; ⟨o, ho⟩
  frame := fun _ _ _ st hk => ⟨st.1.at fun o e => hk it (by simp) o e, st.2.at fun o e => hk l (by simp) o e⟩
  item := fun i s Q E hi st hQ => by
    refine nextOf_tuple_item st.1 st.2 (x := items[i]) (by simp [hi]) fun h' hit' hs' => ?_
    exact hQ _ h' s.toks (by simp [hi]) ⟨hit', st.2.extBut hs'.extBut hne⟩ hs'
  done := fun s Q E st hE => nextOf_tuple_end hh st.1 st.2 (by simp) hE
open AutoSeq1 (wpAny_loadPart')
theorem meets_enumerate_newT (l : Addr) (items : Array Value) (n : Nat) (dct : Option Addr) (sl : Array (Option Value)) :
    Meets (Builtin.«enumerate.__new__» ⟨[.type "enumerate", .ref l], []⟩) (fun _ R s => s.heap.get? l = some { cls := .type "tuple", dict := dct, data := .seq items n, slots := sl } ∧
      R (.ok (.ret (.ref (s.heap.push { cls := .type "tuple_iterator", data := .fields #[.ref l, .int 0 0] }).objs.size)))
        { s with heap := (s.heap.push { cls := .type "tuple_iterator", data := .fields #[.ref l, .int 0 0] }).push { cls := .type "enumerate", data := .fields #[.none, .bool false, .ref s.heap.objs.size, rawInt 0, .none, .none] } }) :=
  .of_wp fun prog w A R s h => by
    obtain ⟨hp, g, d, tk, os⟩ := s; obtain ⟨hl, h⟩ := h
    have hsub := sub_enumerate
    have hL : Heap.IsTuple (Shared.heap ⟨hp, g, d, tk, os⟩) l items := ⟨_, hl, rfl, n, rfl⟩
    wp_walk using wpAny_loadPart' hl
    refine wpAny_stack_any fun st => pure_all fun bb => ?_
    cases bb
    · wp_walk using wpAny_loadPart' hl, wpAny_pyIter_tuple hL
      exact ⟨_, rfl, h⟩
    · wp_walk using wpAny_loadPart' hl, wpAny_pyIter_tuple hL
      exact ⟨_, rfl, h⟩
theorem call_enumerate_tuple {l : Addr} {items : Array Value} {Q : Value → Shared → Prop} (hL : s.heap.IsTuple l items)
    (h : ∀ h', IsEnum h' (s.heap.objs.size + 1) s.heap.objs.size 0 .none → h'.IsTupleIter s.heap.objs.size l 0 → h'.objs.size = s.heap.objs.size + 2 →
      (∀ b o, s.heap.get? b = some o → h'.get? b = some o) → Q (.ref (s.heap.objs.size + 1)) { s with heap := h' }) :
    wpAny (model prog w) A (call (.type "enumerate") [.ref l]) Q E s := by
  obtain ⟨⟨c, dct, dt, sl⟩, hl, hc, n, hd⟩ := hL
  replace hc : c = .type "tuple" := hc
  replace hd : dt = .seq items n := hd
  subst hc hd
  refine callType_new PySem.F.called_enumerate (by decide) (PySem.F.typeCall_enumerate_1 _) (PySem.F.newCall_enumerate_1 _) (fun obj => PySem.F.args_object_init_2 obj _) PySem.F.entry_enumerate_new
    (meets_enumerate_newT l items n dct sl) ⟨hl, ?_⟩
  have hz : (s.heap.push { cls := .type "tuple_iterator", data := .fields #[.ref l, .int 0 0] }).objs.size = s.heap.objs.size + 1 := Heap.size_push ..
  show _ ∧ _
  rw [hz]
  have he : IsEnum ((s.heap.push { cls := .type "tuple_iterator", data := .fields #[.ref l, .int 0 0] }).push
      { cls := .type "enumerate", data := .fields #[.none, .bool false, .ref s.heap.objs.size, rawInt 0, .none, .none] }) (s.heap.objs.size + 1) s.heap.objs.size 0 .none := by
    have := Heap.get?_push_size (s.heap.push { cls := .type "tuple_iterator", data := .fields #[.ref l, .int 0 0] })
      (o := { cls := .type "enumerate", data := .fields #[.none, .bool false, .ref s.heap.objs.size, rawInt 0, .none, .none] }) rfl
    rw [hz] at this; exact this
  refine ⟨⟨_, he, rfl⟩, h _ he ⟨_, Heap.get?_push_of_some _ (Heap.get?_push_size _ rfl), rfl, rfl⟩ (by rw [Heap.size_push, hz]) fun b o x => Heap.get?_push_of_some _ (Heap.get?_push_of_some _ x)⟩
end
end
example : True := by
  k_with_none
  k_with "~m:enter" => (((case k1 | k2 | k3 => assumption); (case k4 => first | assumption | (intro _ hq; cases hq)); (case k6 | k7 => k_is); (case k8 => first | assumption | omega | (simp only [depth_deeper, depth_in1, recursionLimit] at *; omega)); (case k9 => first | exact BindsTo.of_eq rfl | exact binds_K (Frag.In.keeps (by assumption) (by assumption)) rfl (by k_is) rfl rfl rfl); (case c5 => decide); (case kB => exact locs rfl); (case c2 | c3 | c4 => exact rfl)))
  k_with "~k_inst" => ((refine' InstAt.of_accN ?zqN ?zqh1 ?zqh2; (case zqN => k_asm); (case zqh1 | zqh2 => k_mem)))
  k_with "~m:shadow" => ((refine shadow_of ?_; k_get))
  k_with "~getMethod ref" => ((k_here; (first
    | (refine' method_fnG ?zqk1 ?zqk2 ?zqk3 ?zqk4 ?zqk5 ?zqk6 ?zqk7 ?zqk8 ?_; k_dflt ((case zqk1 => k_in); (case zqk2 => k_inst); (case zqk3 => k_is); (case zqk4 => first | with_reducible exact canon_list_ga | with_reducible exact PySem.F.canon_object_ga | decide +kernel); (case zqk5 | zqk6 | zqk7 => k_is); (case zqk8 => walk_at "m:shadow"); k_whole))
    | (refine' method_biG ?zqk1 ?zqk2 ?zqk3 ?zqk4 ?zqk5 ?zqk6 ?zqk7 ?zqk8 ?zqk9 ?_; k_dflt ((case zqk1 => k_in); (case zqk2 => k_inst); (case zqk3 => k_is); (case zqk4 => first | with_reducible exact canon_list_ga | with_reducible exact PySem.F.canon_object_ga | decide +kernel); (case zqk5 | zqk6 | zqk7 => k_is); (case zqk8 => decide); (case zqk9 => walk_at "m:shadow"); k_whole)))))
  k_with "~call builtin:list.append" => ((k_here; (refine' append_acc ?zqk1 ?zqk2 ?zqk3 ?zqk4 ?zqk5 ?zqk6 ?_ ?zqk7; k_dflt ((case zqk1 | zqk2 | zqk3 => k_asm); (case zqk6 => k_upd); (case zqk4 => exact (News.get (by k_asm) (by k_mem))); (case zqk5 => k_is); (case zqk7 => first | assumption | (simp only [sizeLine_eq]; omega)); k_whole)); intro _ _ _; (try k_sweep)))
  k_with "~getMethod ref" => ((k_here; ks_any; k_dflt (first
    | (refine' superM ?zqk1 ?zqk2 ?zqk3 ?zqk4 ?zqk5 ?zqk6 ?zqk7 ?zqk8 lk_wget ?zqk9 (fun h hi => binds_of plain_wget entry_wget (chk_wlen _ _) (get_len _ _) hi) ?zqk10 ?_; (case zqk1 | zqk2 | zqk3 => k_asm); (case zqk4 => k_mem); (case zqk5 => k_inst); (case zqk6 => k_is); (case zqk7 => ks_is); (case zqk8 | zqk9 => k_is); (case zqk10 => decide); k_whole; intro _ _ _ _ l1; (try (replace l1 := allLt_of l1)); revert l1; intro _; (try k_sweep))
    | (refine' superM ?zqk1 ?zqk2 ?zqk3 ?zqk4 ?zqk5 ?zqk6 ?zqk7 ?zqk8 lk_wget ?zqk9 (fun h hi => binds_of plain_wget entry_wget (chk_winit _ _) (get_init _ _) hi) ?zqk10 ?_; (case zqk1 | zqk2 | zqk3 => k_asm); (case zqk4 => k_mem); (case zqk5 => k_inst); (case zqk6 => k_is); (case zqk7 => ks_is); (case zqk8 | zqk9 => k_is); (case zqk10 => decide); k_whole; intro _ _ _ _ l1; (try (replace l1 := allLt_of l1)); revert l1; intro _; (try k_sweep))
    | (refine' superM ?zqk1 ?zqk2 ?zqk3 ?zqk4 ?zqk5 ?zqk6 ?zqk7 ?zqk8 lk_mget ?zqk9 (fun h hi => binds_of plain_mget entry_mget (chk_mpop _ _) (get_pop _ _) hi) ?zqk10 ?_; (case zqk1 | zqk2 | zqk3 => k_asm); (case zqk4 => k_mem); (case zqk5 => k_inst); (case zqk6 => k_is); (case zqk7 => ks_is); (case zqk8 | zqk9 => k_is); (case zqk10 => decide); k_whole; intro _ _ _ _ l1; (try (replace l1 := allLt_of l1)); revert l1; intro _; (try k_sweep)))))
  k_with "~wpAt" => ((ks_step "attributeBase Call"; k_here; k_dflt (refine node_M (by k_asm) (by k_asm) (by k_asm) (by k_asm) (by k_is) (by rfl) (by rfl) (by k_inst) (by k_is) (by rfl) (by first | rfl | decide +kernel) (by k_is) (by k_is) (by k_is) (by k_is) (by decide) (by rfl) (by rfl) (by rfl) (by rfl) (by decide +kernel) (by first | boot_by_name | rfl | kernel_rfl) ?_; intro _ _ _ _ l1; (try (replace l1 := allLt_of l1)); revert l1; intro _; (try k_sweep))))
  k_with "~callWith ref" => ((k_here; (first
    | (refine' callWith_B0 ?zqk1 ?zqk2 ?_; k_dflt ((case zqk1 => exact (News.get (by k_asm) (by k_mem))); (case zqk2 => decide); k_whole; try dsimp only [List.nil_append, List.cons_append]))
    | (refine' callWith_B ?zqk1 ?zqk2 ?_ ?zqk3 ?zqk4; k_dflt ((case zqk1 => k_is); (case zqk2 => decide); (case zqk3 | zqk4 => rfl); k_whole)))))
  k_with "~call ref" => ((k_here; (first
    | (refine' super_len ?zqk1 ?zqk2 ?_; k_dflt ((case zqk1 | zqk2 => exact (News.get (by k_asm) (by k_mem))); k_whole))
    | (refine' super_init ?zqk1 ?zqk2 ?zqk3 ?zqk4 ?zqk5 ?_; k_dflt ((case zqk1 | zqk2 => k_asm); (case zqk3 => exact (News.get (by k_asm) (by k_mem))); (case zqk5 => k_upd); (case zqk4 => k_ne); k_whole; intro _ _ _; (try k_sweep)))
    | (refine' super_pop ?zqk1 ?zqk2 ?zqk3 ?zqk4 ?zqk5 ?zqk6 ?zqk7 ?zqk8 ?zqk9 ?zqk10 ?zqk11 ?_; k_dflt ((case zqk1 | zqk2 | zqk3 => k_asm); (case zqk4 => exact (News.get (by k_asm) (by k_mem))); (case zqk10 => k_upd); (case zqk5 => exact (News.get (by k_asm) (by k_mem))); (case zqk6 | zqk7 => k_is); (case zqk8 => rfl); (case zqk9 => k_is); (case zqk11 => first | assumption | (simp only [sizeLine_eq]; omega)); k_whole; intro _ _ _; (try k_sweep))))))
  k_with "~m:sub" => (first | exact List.forall_mem_nil _ | (refine List.forall_mem_cons.mpr ⟨by k_mem, ?_⟩; walk_at "m:sub"))
  k_with "~setAttr ref" => ((k_here; (refine' set_acc ?zqk1 ?zqk2 ?zqk3 ?zqk4 ?zqk5 ?zqk6 ?zqk7 ?zqk8 ?zqk9 ?zqk10 ?zqk11 ?zqk12 ?zqk13 ?_; k_dflt ((case zqk1 | zqk2 | zqk3 => k_asm); (case zqk4 => k_inst); (case zqk5 => exact rfl); (case zqk6 => k_is); (case zqk7 => rfl); (case zqk8 | zqk9 => k_is); (case zqk10 => k_get); (case zqk11 => k_put); (case zqk12 => k_upd); (case zqk13 => exact Nat.le_of_ble_eq_true rfl); k_whole; intro _ _ _; (try k_sweep)))))
  k_with "~subscriptTail" => ((k_here; (with_reducible show wpAny _ _ (subscriptTail _ _ (Value.ref _) (Value.ref _)) _ _ _); (refine' slice_acc ?zqk1 ?zqk2 ?zqk3 ?zqk4 ?zqk5 ?zqk6 ?zqk7 ?zqk8 ?zqk9 ?zqk10 ?_ ?zqk11 ?zqk12 ?zqk13; k_dflt ((case zqk1 | zqk2 | zqk3 => k_asm); (case zqk4 => k_inst); (case zqk5 => exact rfl); (case zqk6 | zqk7 | zqk8 => k_is); (case zqk9 | zqk10 => first | exact IsPart.none | exact IsPart.int _ _); (case zqk11 => with_unfolding_all rfl); (case zqk12 => intro _; with_unfolding_all rfl); (case zqk13 => first | assumption | (simp only [sizeLine_eq]; omega)); k_whole; intro _ _ _ _ l1; (try (replace l1 := allLt_of l1)); revert l1; intro _; (try k_sweep)))))
  k_with "~m:steps" => (repeat' (first | (walk1; (try dsimp only)) | (dsimp only; walk1; (try dsimp only)) | fail "no step"))
  k_with "~k_in" => ((refine' Frag.In.keeps ?zqkx ?zqkh; (case zqkx => with_reducible assumption); (case zqkh => exact Fr.keep (by with_reducible assumption))))
  k_with "~k_ne" => ((refine neN ?_; (try dsimp only); (try dsimp only [AllLt] at *); omega))
  k_with "~k_ne" => (first | with_reducible assumption | (refine Ne.symm ?_; with_reducible assumption) | (refine' ne_lt ?zqkh ?zqkm; (case zqkh => with_reducible assumption); (case zqkm => k_mem)) | (refine' Ne.symm (ne_lt ?zqkh ?zqkm); (case zqkh => with_reducible assumption); (case zqkm => k_mem)) | (refine neN ?_; decide))
  trivial
-- text ZNB
section
example : True := by
  k_with "~wpAt" => ((ks_step "exec Expr"; k_dflt (refine ks_wpAt_Expr_any ?_)))
  k_with "~wpAt" => ((ks_step "eval Call"; k_dflt (refine ks_wpAt_MethodCall ?_)))
  k_with "~call ref" => ((k_here; (refine' part_count_w ?zqk1 ?zqk2 ?zqk3 ?zqk4 ?zqk5 ?zqk6 ?zqk7 ?zqk8 ?zqk9 ?_; k_dflt ((case zqk1 | zqk2 | zqk3 | zqk4 => k_asm); (case zqk5 | zqk6 => k_mem); (case zqk7 | zqk8 => assumption); (case zqk9 => simp only [depth_deeper, depth_in1, recursionLimit] at *; omega); k_whole; intro _ _ _ _ _ _; (try k_sweep)))))
  k_with "~subscriptTail" => ((k_here; (with_reducible show wpAny _ _ (subscriptTail _ _ (Value.ref _) (Value.ref _)) _ _ _); (refine' slice_accP ?zqk1 ?zqk2 ?zqk3 ?zqk4 ?zqk5 ?zqk6 ?zqk7 ?zqk8 ?zqk9 ?zqk10 ?_ ?zqk11 ?zqk12 ?zqk13; k_dflt ((case zqk1 | zqk2 | zqk3 => k_asm); (case zqk4 => k_inst); (case zqk5 => exact rfl); (case zqk6 | zqk7 | zqk8 => k_is); (case zqk9 | zqk10 => first | exact IsPart.none | exact IsPart.int _ _); (case zqk11 => with_unfolding_all rfl); (case zqk12 => intro _; with_unfolding_all rfl); (case zqk13 => first | assumption | (simp only [sizeLine_eq]; omega)); k_whole; intro _ _ _ _ l1; (try (replace l1 := allLt_of l1)); revert l1; intro _; (try k_sweep)))))
  k_with "~setItem ref ref" => ((k_here; (refine' setSlice_accP ?zqk1 ?zqk2 ?zqk3 ?zqk4 ?zqk5 ?zqk6 ?zqk7 ?zqk8 ?zqk9 ?zqk10 ?zqk11 ?zqk12 _ _ ?zqk13 (fun n' => ?zqk14) ?_ ?zqk15; k_dflt ((case zqk1 | zqk2 | zqk3 => k_asm); (case zqk4 | zqk5 | zqk6 => k_mem); (case zqk7 | zqk8 | zqk9 => k_is); (case zqk10 | zqk11 => first | exact IsPart.none | exact IsPart.int _ _); (case zqk12 => k_ne); (case zqk13 => first | exact bounds_from _ _ (by assumption) | exact bounds_all _); (case zqk14 => k_upd); (case zqk15 => first | assumption | (simp only [List.size_toArray, List.length_nil]; omega)); k_whole; intro _ _ _ _; (try dsimp only at N'); (try k_sweep)))))
  k_with "~setAttr ref" => ((k_here; (refine' set_acc ?zqk1 ?zqk2 ?zqk3 ?zqk4 ?zqk5 ?zqk6 ?zqk7 ?zqk8 ?zqk9 ?zqk10 (own_put _ _ _ _ _ _ _) ?zqk12 ?zqk13 ?_; k_dflt ((case zqk1 | zqk2 | zqk3 => k_asm); (case zqk4 => k_inst); (case zqk5 => exact rfl); (case zqk6 => k_is); (case zqk7 => rfl); (case zqk8 | zqk9 => k_is); (case zqk10 => exact own_get _ _ _); (case zqk12 => k_upd); (case zqk13 => exact Nat.le_of_ble_eq_true rfl); k_whole; intro _ _ _; (try k_sweep)))))
  k_with "~getAttr ref" => ((k_here; (refine' get_acc ?zqk1 ?zqk2 ?zqk3 ?zqk4 ?zqk5 ?zqk6 ?zqk7 ?_; k_dflt ((case zqk1 => k_in); (case zqk2 => k_inst); (case zqk3 | zqk4 | zqk5 => k_is); (case zqk6 => exact findObj_own (by k_is) (by k_is) (by k_is) rfl); (case zqk7 => rfl); k_whole))))
  trivial
theorem sifmt_raw {w : World} {A : Around} {s : Shared} {H : Heap} {loose : List Str} {mg mb : Str → Option Value} {R : Result → Shared → Prop} {mode : Int} {t : Tok}
  (X : (hd.heap_39 w.params).In H) (T : TopRead Mine.hd.view_39 loose mg mb H) (hk : ∀ b o, H.get? b = some o → s.heap.get? b = some o) (hd : A.depth + 1 < recursionLimit)
  (h0 : 0 ≤ mode) (h1 : mode < 65536)
  (hR : ∀ s' i t, Aft s s' [] [] → R (.ok (.ret (.int i t))) s') :
  codeAny (model PG w) A (.call (.ref 843) ⟨[.int mode t], []⟩) R s := by
  refine' enterM (binds := [(Str.ofString "mode", .int mode t)]) [] ?k1 ?k2 ?k3 ?k4 ?k6 ?k7 ?k8 ?k9 ?kB ?_ ?c5 ?c2 ?c3 ?c4
  walk_at "m:enter"
  intro g L h₁ hkg hgk F N Xg Tg hHg hlt
  (try dsimp only)
  walk_at "m:steps"
  exact hR _ _ _ (Aft.of hkg (by k_asm) (by k_asm) (by walk_at "m:sub") rfl id)
section
variable {w : World} {A : Around} {E : Value → Shared → Prop} {s : Shared} {h₀ : Heap} {L : Addr} {m : Str → Option Value} {news : List (Addr × Obj)} {loose : List Str} {mg mb : Str → Option Value} {Q : Value → Shared → Prop}
theorem Aft.none {s s' : Shared} {h₀ : Heap} {L : Addr} {m : Str → Option Value} {news : List (Addr × Obj)} (a : Aft s s' [] []) (F : Fr h₀ L s.heap m) (N : News h₀ L s.heap news) : Fr h₀ L s'.heap m ∧ News h₀ L s'.heap news :=
  a.gen F N (fun _ h => (nomatch h)) fun p hp => .inr ⟨hp, fun h => (nomatch h)⟩
theorem sifmt_w {mode : Int} {t : Tok} (F : Fr h₀ L s.heap m) (X : (hd.heap_39 w.params).In h₀) (T : TopRead Mine.hd.view_39 loose mg mb h₀) (N : News h₀ L s.heap news) (h0 : 0 ≤ mode) (h1 : mode < 65536) (hd : A.depth + 1 < recursionLimit)
    (h : ∀ s' i t, Fr h₀ L s'.heap m → News h₀ L s'.heap news → s'.os = s.os → (AllBare s.gens → AllBare s'.gens) → Q (.int i t) s') :
    wpAny (model PG w) A (call (.ref 843) [.int mode t]) Q E s := by
  refine wpAny_call (sifmt_raw X T F.keep hd h0 h1 fun s' i t a => ?_)
  obtain ⟨F', N'⟩ := a.none F N
  exact h s' i t F' N' a.os a.bare
end
noncomputable def fmSet : List Nat := [45, 63, 108, 115, 98, 100, 99, 112, 114, 119, 120, 83, 116, 84]
noncomputable def Ok1 (x : Str) : Prop := ∃ c, x.cps = #[c] ∧ c ∈ fmSet
noncomputable def PermOk (v : Value) : Prop := ∃ x t, v = .str x t ∧ Ok1 x
noncomputable def FmTab (g : Heap) (tb : Addr) : Prop := ∃ items, g.IsTuple tb items ∧ ∀ (j : Nat) (v : Value), items[j]? = some v → ∃ (T : Addr) (b : Int) (tk : Tok) (c : Str) (tc : Tok), v = .ref T ∧ g.IsTuple T #[.int b tk, .str c tc] ∧ 0 ≤ b ∧ b < 65536 ∧ Ok1 c
theorem items_cases {P : Value → Prop} : ∀ (l : List Value), (∀ v ∈ l, P v) → ∀ (j : Nat) v, l.toArray[j]? = some v → P v := fun l h j v e => h v (by rw [List.getElem?_toArray] at e; exact List.mem_of_getElem? e)
theorem tabs_ok {w : World} {g : Heap} (X : (hd.heap_39 w.params).In g) : g.IsTuple 876 #[.ref 851, .ref 853, .ref 855, .ref 859, .ref 861, .ref 863, .ref 867, .ref 869, .ref 871, .ref 875] ∧ ∀ t ∈ [(851 : Nat), 853, 855, 859, 861, 863, 867, 869, 871, 875], FmTab g t := by
  have one : ∀ (a : Addr) (b : Int) (tk : Tok) (c : Str) (tc : Tok), (∃ o, (hd.heap_39 w.params).lookup a = some o ∧ o.cls = .type "tuple" ∧ ∃ n, o.data = .seq #[.int b tk, .str c tc] n) → 0 ≤ b → b < 65536 → Ok1 c → ∃ (T : Addr) (b : Int) (tk : Tok) (c : Str) (tc : Tok), Value.ref a = .ref T ∧ g.IsTuple T #[.int b tk, .str c tc] ∧ 0 ≤ b ∧ b < 65536 ∧ Ok1 c :=
    fun a b tk c tc ⟨o, e, r⟩ h1 h2 h3 => ⟨a, b, tk, c, tc, rfl, ⟨o, X _ _ e, r⟩, h1, h2, h3⟩
  refine ⟨⟨_, X 876 _ rfl, rfl, _, rfl⟩, ?_⟩
  intro t ht
  simp only [List.mem_cons, List.not_mem_nil, or_false] at ht
  rcases ht with rfl | rfl | rfl | rfl | rfl | rfl | rfl | rfl | rfl | rfl
  all_goals
    refine ⟨_, ⟨_, X _ _ rfl, rfl, _, rfl⟩, items_cases _ ?_⟩
    intro v hv
    simp only [List.mem_cons, List.not_mem_nil, or_false] at hv
  case _ => 
    rcases hv with rfl | rfl | rfl | rfl | rfl | rfl | rfl <;> exact one _ _ _ _ _ ⟨_, rfl, rfl, _, rfl⟩ (by decide) (by decide) ⟨_, rfl, by decide⟩
  all_goals
    first
      | (subst hv; exact one _ _ _ _ _ ⟨_, rfl, rfl, _, rfl⟩ (by decide) (by decide) ⟨_, rfl, by decide⟩)
      | (rcases hv with rfl | rfl | rfl <;> exact one _ _ _ _ _ ⟨_, rfl, rfl, _, rfl⟩ (by decide) (by decide) ⟨_, rfl, by decide⟩)
end
-- text ZNC
section
example : True := by
  k_with "~eval ListComp" => ((refine Held.out ?_))
  k_with "~exec For" => ((refine Held.out ?_))
  k_with "~m:look" => (first | exact rfl | assumption | (dsimp only; repeat (first | rw [if_pos rfl] | rw [if_neg (by decide)])); first | rfl | assumption)
  k_with "~eval Name" => ((k_here; (refine' ld ?zqk1 ?zqk2 ?_; k_dflt ((case zqk1 => k_asm); (case zqk2 => walk_at "m:look"); k_whole))))
  k_with "~call ref" => ((k_here; (refine' sifmt_w ?zqk1 ?zqk2 ?zqk3 ?zqk4 ?zqk7 ?zqk8 ?zqk9 ?_; k_dflt ((case zqk1 | zqk2 | zqk3 | zqk4 => k_asm); (case zqk7 | zqk8 => assumption); (case zqk9 => simp only [depth_deeper, depth_in1, recursionLimit] at *; omega); k_whole; intro _ _ _ _ _ _ _; (try k_sweep)))))
  trivial
theorem own_two {a b : Addr} : ∀ {own : List (Addr × Obj)}, own.map (·.1) = [a, b] → ∃ oa ob, own = [(a, oa), (b, ob)]
  | [], h => by simp at h
  | [_], h => by simp at h
  | [p, q], h => by
    simp only [List.map_cons, List.map_nil, List.cons.injEq, and_true] at h
    exact ⟨p.2, q.2, by rw [← h.1, ← h.2]⟩
  | _ :: _ :: _ :: _, h => by simp at h
theorem own_one {a : Addr} : ∀ {own : List (Addr × Obj)}, own.map (·.1) = [a] → ∃ oa, own = [(a, oa)]
  | [], h => by simp at h
  | [p], h => by
    simp only [List.map_cons, List.map_nil, List.cons.injEq, and_true] at h
    exact ⟨p.2, by rw [← h]⟩
  | _ :: _ :: _, h => by simp at h
theorem tab_at {w : World} {g : Heap} (X : (hd.heap_39 w.params).In g) (i : Nat) (x : Value) (hx : (#[.ref 851, .ref 853, .ref 855, .ref 859, .ref 861, .ref 863, .ref 867, .ref 869, .ref 871, .ref 875] : Array Value)[i]? = some x) : ∃ tb, x = .ref tb ∧ FmTab g tb := by
  have h := (tabs_ok X).2
  refine items_cases (P := fun x => ∃ tb, x = .ref tb ∧ FmTab g tb) [.ref 851, .ref 853, .ref 855, .ref 859, .ref 861, .ref 863, .ref 867, .ref 869, .ref 871, .ref 875] ?_ i x hx
  have key : ∀ l : List Nat, (∀ t ∈ l, FmTab g t) → ∀ v ∈ l.map (fun a => Value.ref a), ∃ tb, v = .ref tb ∧ FmTab g tb := fun l hl v hv => by
    obtain ⟨t, ht, rfl⟩ := List.mem_map.mp hv
    exact ⟨t, rfl, hl t ht⟩
  exact key [851, 853, 855, 859, 861, 863, 867, 869, 871, 875] h
theorem perm_strs : ∀ (l : List Value), (∀ v ∈ l, PermOk v) → ∃ xs : List Str, StrsAre l xs ∧ l.length = xs.length ∧ ∀ x ∈ xs, Ok1 x
  | [], _ => ⟨[], .nil, rfl, fun _ h => (nomatch h)⟩
  | v :: l, h => by
    obtain ⟨x, t, rfl, hx⟩ := h v (List.mem_cons_self ..)
    obtain ⟨xs, h1, h2, h3⟩ := perm_strs l fun v hv => h v (List.mem_cons_of_mem _ hv)
    exact ⟨x :: xs, .cons _ _ h1, by simp [h2], fun y hy => by rcases List.mem_cons.mp hy with rfl | hy; exact hx; exact h3 y hy⟩
theorem ok1_len {x : Str} (h : Ok1 x) : x.length = 1 := by obtain ⟨c, e, _⟩ := h; show x.cps.size = 1; rw [e]; rfl
theorem signs_len : ∀ (xs : List Str), (∀ x ∈ xs, Ok1 x) → (xs.map (·.length)).sum = xs.length
  | [], _ => rfl
  | x :: xs, h => by
    rw [List.map_cons, List.sum_cons, ok1_len (h x (List.mem_cons_self ..)), signs_len xs fun y hy => h y (List.mem_cons_of_mem _ hy), List.length_cons]; omega
theorem permOk_push {perm : Array Value} {v : Value} (h : ∀ v ∈ perm.toList, PermOk v) (hv : PermOk v) : ∀ u ∈ (perm.push v).toList, PermOk u := by
  intro u hu
  rw [Array.toList_push] at hu
  rcases List.mem_append.mp hu with hu | hu
  · exact h u hu
  · rw [List.mem_singleton.mp hu]; exact hv
section
variable {prog : Program} {w : World} {A : Around} {E : Value → Shared → Prop} {s : Shared} {h₀ : Heap} {m : Str → Option Value} {news : List (Addr × Obj)}
theorem assign_pair {env : Env} {xa xb : Str} {pa pb pt : Pos} {kt : Nat} {T : Addr} {va vb : Value} {Q : Unit → Shared → Prop} (hh : A.handled = none) (F : Fr h₀ env.locals s.heap m) (N : News h₀ env.locals s.heap news) (hT : s.heap.IsTuple T #[va, vb])
    (hxa : env.kindOf xa = some .local) (hxb : env.kindOf xb = some .local) (hp : (env.scope.kind == .class || (env.scope.kind == .module && env.locals != env.globals)) = false)
    (h : ∀ h' tk, Fr h₀ env.locals h' (fun z => if z = xb then some vb else if z = xa then some va else m z) → News h₀ env.locals h' news → Q () { s with heap := h', toks := tk }) :
    wpAny (model prog w) A (assign (.Tuple [.Name xa pa, .Name xb pb] kt pt) env (.ref T)) Q E s := by
  refine wpAny_assign_Tuple hh hT rfl rfl fun h₁ hx => ?_
  replace hx : Heap.ExtBut s.heap.objs.size s.heap h₁ := hx
  have old : ∀ b o, s.heap.get? b = some o → h₁.get? b = some o := fun b o e => hx b o (Nat.ne_of_lt (Heap.lt_size e)) e
  have F₁ := F.keeps old
  show wpAny _ _ (do holding [vb] (assign (.Name xa pa) env va); do holding [] (assign (.Name xb pb) env vb); pure ()) _ _ _
  refine wpAny_bind (wpAny_holding (wpAny_assign_Name (wpAny_storeName_local hxa F₁.ns (fun h₂ hn₂ hs₂ => ?_) hp)))
  replace hs₂ : Heap.SameBut env.locals h₁ h₂ := hs₂
  refine wpAny_bind (wpAny_holding (wpAny_assign_Name (wpAny_storeName_local hxb hn₂ (fun h₃ hn₃ hs₃ => wpAny_pure ?_) hp)))
  replace hs₃ : Heap.SameBut env.locals h₂ h₃ := hs₃
  exact h _ _ ((F₁.set hn₂ hs₂).set hn₃ hs₃) (fun p hp => ⟨hs₃.extBut _ _ (N p hp).2.1 (hs₂.extBut _ _ (N p hp).2.1 (old _ _ (N p hp).1)), (N p hp).2⟩)
end
end
section
namespace C5
noncomputable abbrev T := (World) × (Around) × (Shared) × (Heap) × (List Str) × (Str → Option Value) × (Str → Option Value) × (Result → Shared → Prop) × (Int) × (Tok)
noncomputable def Pf (w : World) (A : Around) (s : Shared) (H : Heap) (loose : List Str) (mg : Str → Option Value) (mb : Str → Option Value) (R : Result → Shared → Prop) (mode : Int) (t : Tok) : Prop := ∀ (X : (hd.heap_39 w.params).In H) (T : TopRead Mine.hd.view_39 loose mg mb H) (hk : ∀ b o, H.get? b = some o → s.heap.get? b = some o) (hd : A.depth + 12 < recursionLimit) (hh : A.handled = none) (h0 : 0 ≤ mode) (h1 : mode < 65536) (hR : ∀ s' y t, Aft s s' [] [] → (∃ xs : List Str, y = Str.join (Str.ofString "") xs ∧ xs.length = 10 ∧ ∀ x ∈ xs, Ok1 x) → R (.ok (.ret (.str y t))) s'), codeAny (model PG w) A (.call (.ref 883) ⟨[.int mode t], []⟩) R s
noncomputable def Q_ (z : T) : Prop := Pf z.1 (z.2.1) (z.2.2.1) (z.2.2.2.1) (z.2.2.2.2.1) (z.2.2.2.2.2.1) (z.2.2.2.2.2.2.1) (z.2.2.2.2.2.2.2.1) (z.2.2.2.2.2.2.2.2.1) (z.2.2.2.2.2.2.2.2.2)
theorem ne : Nonempty T := ⟨(Classical.choice Mine.neW, Classical.choice Mine.neA, Classical.choice Mine.neS, Classical.choice inferInstance, Classical.choice inferInstance, Classical.choice inferInstance, Classical.choice inferInstance, Classical.choice inferInstance, Classical.choice inferInstance, Classical.choice inferInstance)⟩
noncomputable def z_ : T := @Classical.epsilon _ ne fun z => ¬ Q_ z
@[irreducible] noncomputable def w : World := z_.1
@[irreducible] noncomputable def A : Around := z_.2.1
@[irreducible] noncomputable def s : Shared := z_.2.2.1
@[irreducible] noncomputable def H : Heap := z_.2.2.2.1
@[irreducible] noncomputable def loose : List Str := z_.2.2.2.2.1
@[irreducible] noncomputable def mg : Str → Option Value := z_.2.2.2.2.2.1
@[irreducible] noncomputable def mb : Str → Option Value := z_.2.2.2.2.2.2.1
@[irreducible] noncomputable def R : Result → Shared → Prop := z_.2.2.2.2.2.2.2.1
@[irreducible] noncomputable def mode : Int := z_.2.2.2.2.2.2.2.2.1
@[irreducible] noncomputable def t : Tok := z_.2.2.2.2.2.2.2.2.2
noncomputable def pk : {P_ : (Heap) → (Addr) → (Heap) → Prop // ∀ (X : (hd.heap_39 w.params).In H) (T : TopRead Mine.hd.view_39 loose mg mb H) (hk : ∀ b o, H.get? b = some o → s.heap.get? b = some o) (hd : A.depth + 12 < recursionLimit) (hh : A.handled = none) (h0 : 0 ≤ mode) (h1 : mode < 65536) (hR : ∀ s' y t, Aft s s' [] [] → (∃ xs : List Str, y = Str.join (Str.ofString "") xs ∧ xs.length = 10 ∧ ∀ x ∈ xs, Ok1 x) → R (.ok (.ret (.str y t))) s'), (∀ g L h₁, P_  g L h₁) → codeAny (model PG w) A (.call (.ref 883) ⟨[.int mode t], []⟩) R s} := ⟨_, fun  X T hk hd hh h0 h1 hR k_ => by
  refine' enterM (binds := [(Str.ofString "mode", .int mode t)]) [] ?k1 ?k2 ?k3 ?k4 ?k6 ?k7 ?k8 ?k9 ?kB ?_ ?c5 ?c2 ?c3 ?c4
  walk_at "m:enter"
  exact k_⟩
noncomputable abbrev T2 := (Heap) × (Addr) × (Heap)
noncomputable def Pf2 (g : Heap) (L : Addr) (h₁ : Heap) : Prop := ∀ (X : (hd.heap_39 w.params).In H) (T : TopRead Mine.hd.view_39 loose mg mb H) (hk : ∀ b o, H.get? b = some o → s.heap.get? b = some o) (hd : A.depth + 12 < recursionLimit) (hh : A.handled = none) (h0 : 0 ≤ mode) (h1 : mode < 65536) (hR : ∀ s' y t, Aft s s' [] [] → (∃ xs : List Str, y = Str.join (Str.ofString "") xs ∧ xs.length = 10 ∧ ∀ x ∈ xs, Ok1 x) → R (.ok (.ret (.str y t))) s'), pk.1  g L h₁
noncomputable def Q2 (z : T2) : Prop := Pf2 z.1 (z.2.1) (z.2.2)
theorem ne2 : Nonempty T2 := ⟨(Classical.choice inferInstance, Classical.choice inferInstance, Classical.choice inferInstance)⟩
noncomputable def z2_ : T2 := @Classical.epsilon _ ne2 fun z => ¬ Q2 z
@[irreducible] noncomputable def g : Heap := z2_.1
@[irreducible] noncomputable def L : Addr := z2_.2.1
@[irreducible] noncomputable def h₁ : Heap := z2_.2.2
theorem core2 : Pf2 g L h₁ := by
  unfold Pf2
  intro X T hk hd hh h0 h1 hR
  dsimp only [pk]
  intro hkg hgk F N Xg Tg hHg hlt
  (try dsimp only)
  walk_at "m:steps"
  refine Held.put ?_
  refine wpAny_For ?_ (fun _ => rfl)
  walk_at "m:steps"
  rename_i k0 P hA hTr h₃ F₂ N₂
  have tabs := tabs_ok Xg
  have hT₂ : h₃.IsTuple 876 #[.ref 851, .ref 853, .ref 855, .ref 859, .ref 861, .ref 863, .ref 867, .ref 869, .ref 871, .ref 875] := by obtain ⟨o, ho, r⟩ := tabs.1; exact ⟨o, F₂.keep _ _ ho, r⟩
  refine call_enumerate_tuple hT₂ fun h' hE hI hsz hk' => wpAny_pyIter_enum hE ?_
  have hL₃ : @LT.lt Nat _ L h₃.objs.size := F₂.ns.lt
  have h876 : @LT.lt Nat _ 876 h₃.objs.size := by obtain ⟨o, ho, r⟩ := hT₂; exact Heap.lt_size ho
  have hP₃ : @LT.lt Nat _ P h₃.objs.size := Heap.lt_size (N₂ (P, listOf #[] 0) (List.mem_cons_self ..)).1
  have hab := F₂.above
  have hbase : ∀ b, h₃.objs.size ≤ b → g.get? b = none := fun b hb => Heap.get?_none_of_le (Nat.le_trans hab (Nat.le_trans (Nat.le_of_lt hL₃) hb))
  refine codeAny_mono (R := fun r s' => r = .ok .next ∧ ∃ m₁ perm c, Fr g L s'.heap m₁ ∧ News g L s'.heap [(P, listOf perm c)] ∧ m₁ (Str.ofString "perm") = some (.ref P) ∧ perm.size = 10 ∧ (∀ v ∈ perm.toList, PermOk v) ∧ s'.os = s.os ∧ (AllBare s.gens → AllBare s'.gens)) ?loop ?rest
  case rest =>
    rintro r s₁ ⟨rfl, m₁, perm, c, F₁, N₁, hm1, hsz, hok, hos, hbr⟩
    clear F₂ N₂
    walk_at "m:steps"
    obtain ⟨xs, hxs, hlen, hx1⟩ := perm_strs perm.toList hok
    rw [Array.length_toList, hsz] at hlen
    refine join_listW (D := P) (items := perm) ⟨_, (N₁ (P, listOf perm c) (List.mem_cons_self ..)).1, rfl, _, rfl⟩ hxs (by decide) ?_ fun t' k => ?_
    · rw [signs_len xs hx1, ← hlen]; decide
    · refine hR { heap := s₁.heap, gens := s₁.gens, drawn := s₁.drawn, toks := k, os := s₁.os } _ _ (Aft.of hkg F₁ (News.nil) (fun _ h => (nomatch h)) hos hbr) ⟨xs, ?_, hlen.symm ▸ rfl, hx1⟩
      unfold Txt.join
      rw [StrLaws.glued_eq_join]
  refine for_own (h₀ := g) (keep := []) (m := fun y => if y = Str.ofString "perm" then some (Value.ref P) else List.lookup y [(Str.ofString "mode", Value.int mode t)].reverse) (news := [(P, listOf #[] 0)])
    (KTurns.ofWalksU (WalksT.enumerateD (Draws_tuple (show Around.handled (Around.in1 (A.deeper _)) = none from hh) h₃.objs.size 876 (Nat.ne_of_lt h876) #[.ref 851, .ref 853, .ref 855, .ref 859, .ref 861, .ref 863, .ref 867, .ref 869, .ref 871, .ref 875]) (h₃.objs.size + 1) (Nat.succ_ne_self _) ?hef (List.mem_cons_self ..)).toU)
    ?hobj ?hLf ?hwr ?hfp ?hnw ?hst ?hF ?hN ?hkp
    (fun i m news => m (Str.ofString "perm") = some (.ref P) ∧ m (Str.ofString "mode") = some (.int mode t) ∧ ∃ perm c, news = [(P, listOf perm c)] ∧ perm.size = i ∧ ∀ v ∈ perm.toList, PermOk v) ?h0 ?turn ?fin
  case hef => simp only [List.mem_cons, List.not_mem_nil, or_false, not_or]; exact ⟨Nat.succ_ne_self _, Nat.ne_of_gt (Nat.lt_succ_of_lt h876)⟩
  case hobj =>
    rintro i h ⟨⟨old, he⟩, ⟨oi, hoi, _⟩, _⟩ b hb
    rcases List.mem_cons.mp hb with rfl | hb
    · exact ⟨_, he⟩
    · rw [List.mem_singleton.mp hb]; exact ⟨oi, hoi⟩
  case hLf =>
    show ¬ (L ∈ [h₃.objs.size + 1, h₃.objs.size, 876])
    simp only [List.mem_cons, List.not_mem_nil, or_false, not_or]
    refine ⟨Nat.ne_of_lt (Nat.lt_succ_of_lt hL₃), Nat.ne_of_lt hL₃, fun q => ?_⟩
    obtain ⟨o, ho, _⟩ := tabs.1
    have := Nat.lt_of_lt_of_le (Heap.lt_size ho) hab
    rw [q] at this; exact Nat.lt_irrefl _ this
  case hwr =>
    intro b hb
    rcases List.mem_cons.mp hb with rfl | hb
    · exact hbase _ (Nat.le_succ _)
    · rw [List.mem_singleton.mp hb]; exact hbase _ (Nat.le_refl _)
  case hfp =>
    intro b hb
    simp only [List.mem_cons, List.not_mem_nil, or_false] at hb ⊢
    rcases hb with rfl | rfl | rfl
    · exact .inl (.inl rfl)
    · exact .inl (.inr rfl)
    · obtain ⟨o, ho, _⟩ := tabs.1; exact .inr (.inl ⟨o, ho⟩)
  case hnw =>
    intro p hp
    rw [List.mem_singleton.mp hp]
    simp only [List.mem_cons, List.not_mem_nil, or_false, not_or]
    exact ⟨Nat.ne_of_lt (Nat.lt_succ_of_lt hP₃), Nat.ne_of_lt hP₃⟩
  case hst => exact ⟨⟨.none, hE⟩, hI, by obtain ⟨o, ho, r⟩ := hT₂; exact ⟨o, hk' _ _ ho, r⟩⟩
  case hF => exact F₂.keeps hk'
  case hN => exact N₂.grown hk'
  case hkp => exact fun _ h => (nomatch h)
  case h0 => exact ⟨rfl, rfl, #[], 0, rfl, rfl, fun _ h => (nomatch h)⟩
  case fin =>
    intro m₁ news₁ s₁ hJ _ F₁ N₁ hos hbr
    obtain ⟨hm1, hm2, perm, c, rfl, hsz, hok⟩ := hJ
    exact wpAny_execs_nil ⟨rfl, m₁, perm, c, F₁, N₁, hm1, hsz, hok, hos, hbr⟩
  case turn =>
    intro i v m₁ news₁ s₁ own hi hPv hJ _ hnw hmap F₁ N₁ hos hbr
    obtain ⟨T, vals, rfl, ⟨ti, x, hx, rfl⟩, hT⟩ := hPv
    obtain ⟨hm1, hm2, perm, c, rfl, hsz, hok⟩ := hJ
    obtain ⟨oe, oi, rfl⟩ := own_two hmap
    obtain ⟨tb, rfl, items, htb, hitems⟩ := tab_at Xg i x hx
    refine wpAny_noRaise ?_
    refine assign_pair hh F₁ N₁ hT rfl rfl rfl fun h₅ tk₅ F₅ N₅ => ?_
    replace F₅ : Fr g L h₅ _ := F₅
    replace N₅ : News g L h₅ [(h₃.objs.size + 1, oe), (h₃.objs.size, oi), (P, listOf perm c)] := N₅
    clear F₂ N₂ F₁ N₁
    refine wpAny_noRaise (blind fun Q' hq' => ?_)
    walk1
    walk1
    refine Held.put ?_
    refine wpAny_For ?_ (fun _ => rfl)
    walk1
    have htb₅ : h₅.IsTuple tb items := by obtain ⟨o, ho, r⟩ := htb; exact ⟨o, F₅.keep _ _ ho, r⟩
    have htl : @LT.lt Nat _ tb h₅.objs.size := by obtain ⟨o, ho, r⟩ := htb₅; exact Heap.lt_size ho
    refine wpAny_pyIter_tuple htb₅ ?_
    dsimp only
    refine codeAny_mono (R := fun r s' => r = .ok .next ∧ ∃ m₁ perm' c', Fr g L s'.heap m₁ ∧ News g L s'.heap [(h₃.objs.size + 1, oe), (h₃.objs.size, oi), (P, listOf perm' c')] ∧ m₁ (Str.ofString "perm") = some (.ref P) ∧ m₁ (Str.ofString "mode") = some (.int mode t) ∧ perm'.size = i + 1 ∧ (∀ v ∈ perm'.toList, PermOk v) ∧ s'.os = s₁.os ∧ (AllBare s₁.gens → AllBare s'.gens)) ?loop2 ?rest2
    case rest2 =>
      rintro r s₂ ⟨rfl, m₂, perm', c', F₂, N₂, hm1', hm2', hsz', hok', hos', hbr'⟩
      refine wpAny_execs_nil (hq' _ _ ?_)
      exact ⟨m₂, [(P, listOf perm' c')], F₂, N₂, fun p hp => by rw [List.mem_singleton.mp hp]; exact hnw (P, listOf perm c) (List.mem_cons_self ..), fun _ h => (nomatch h), ⟨hm1', hm2', perm', c', rfl, hsz', hok'⟩, hos'.trans hos, fun z => hbr' (hbr z)⟩
    have hbase₅ : ∀ b, h₅.objs.size ≤ b → g.get? b = none := fun b hb => Heap.get?_none_of_le (Nat.le_trans F₅.above (Nat.le_trans (Nat.le_of_lt F₅.ns.lt) hb))
    have hnew : ∀ p ∈ [(h₃.objs.size + 1, oe), (h₃.objs.size, oi), (P, listOf perm c)], @LT.lt Nat _ p.1 h₅.objs.size := fun p hp => Heap.lt_size (N₅ p hp).1
    refine for_own (h₀ := g) (keep := []) (m := fun z => if z = Str.ofString "table" then some (.ref tb) else if z = Str.ofString "index" then some (.int i ti) else m₁ z) (news := [(h₃.objs.size + 1, oe), (h₃.objs.size, oi), (P, listOf perm c)])
      (KTurns.ofWalks (Walks.tuple (show Around.handled (A.deeper _) = none from hh) h₅.objs.size tb (Nat.ne_of_lt htl) items) fun i v s Q E st q => letGo_tupleiter st.1 q)
      ?gobj ?gLf ?gwr ?gfp ?gnw ?gst ?gF ?gN ?gkp
      (fun j m news => m (Str.ofString "perm") = some (.ref P) ∧ m (Str.ofString "mode") = some (.int mode t) ∧ m (Str.ofString "index") = some (.int i ti) ∧ news = [(h₃.objs.size + 1, oe), (h₃.objs.size, oi), (P, listOf perm c)]) ?g0 ?gturn ?gfin
    case gobj => rintro j h ⟨⟨o, ho, _⟩, _⟩ b hb; rw [List.mem_singleton.mp hb]; exact ⟨o, ho⟩
    case gLf =>
      show ¬ (L ∈ [h₅.objs.size, tb])
      simp only [List.mem_cons, List.not_mem_nil, or_false, not_or]
      refine ⟨Nat.ne_of_lt F₅.ns.lt, fun q => ?_⟩
      obtain ⟨o, ho, _⟩ := htb
      have := Nat.lt_of_lt_of_le (Heap.lt_size ho) hab
      rw [q] at this; exact Nat.lt_irrefl _ this
    case gwr => intro b hb; rw [List.mem_singleton.mp hb]; exact hbase₅ _ (Nat.le_refl _)
    case gfp =>
      intro b hb
      simp only [List.mem_cons, List.not_mem_nil, or_false] at hb ⊢
      rcases hb with rfl | rfl
      · exact .inl rfl
      · obtain ⟨o, ho, _⟩ := htb; exact .inr (.inl ⟨o, ho⟩)
    case gnw => intro p hp hm; exact Nat.ne_of_lt (hnew p hp) (List.mem_singleton.mp hm)
    case gst => exact ⟨⟨_, Heap.get?_push_size _ rfl, rfl, rfl⟩, by obtain ⟨o, ho, r⟩ := htb₅; exact ⟨o, Heap.get?_push_of_some _ ho, r⟩⟩
    case gF => exact F₅.push _
    case gN => exact fun p hp => ⟨Heap.get?_push_of_some _ (N₅ p hp).1, (N₅ p hp).2⟩
    case gkp => exact fun _ h => (nomatch h)
    case g0 => exact ⟨by walk_at "m:look", by walk_at "m:look", by walk_at "m:look", rfl⟩
    case gfin =>
      intro m₂ news₂ s₂ hJ _ F₂ N₂ hos₂ hbr₂
      obtain ⟨hn1, hn2, hn3, rfl⟩ := hJ
      replace F₂ : Fr g L s₂.heap m₂ := F₂
      replace N₂ : News g L s₂.heap [(h₃.objs.size + 1, oe), (h₃.objs.size, oi), (P, listOf perm c)] := N₂
      clear F₅ N₅
      refine wpAny_noRaise (blind fun Q₂ hq₂ => ?_)
      walk_at "m:steps"
      all_goals
        (rename News _ _ _ _ => N9)
        (rename Fr _ _ _ _ => F9)
        exact hq₂ _ _ ⟨rfl, _, _, _, F9, N9, hn1, hn2, by rw [Array.size_push, hsz], permOk_push hok ⟨_, _, rfl, _, rfl, by decide⟩, hos₂, hbr₂⟩
    case gturn =>
      intro j v m₂ news₂ s₂ own hj hPv₂ hJ _ hnw₂ hmap₂ F₂ N₂ hos₂ hbr₂
      obtain ⟨hn1, hn2, hn3, rfl⟩ := hJ
      obtain ⟨o2, rfl⟩ := own_one hmap₂
      obtain ⟨T2, bt, btk, ch, ctk, rfl, hT2, hb0, hb1, hch⟩ := hitems j v hPv₂
      have hT2' : s₂.heap.IsTuple T2 #[.int bt btk, .str ch ctk] := by obtain ⟨o, ho, r⟩ := hT2; exact ⟨o, F₂.keep _ _ ho, r⟩
      refine wpAny_noRaise ?_
      refine assign_pair hh F₂ N₂ hT2' rfl rfl rfl fun h₆ tk₆ F₆ N₆ => ?_
      replace F₆ : Fr g L h₆ _ := F₆
      replace N₆ : News g L h₆ [(h₅.objs.size, o2), (h₃.objs.size + 1, oe), (h₃.objs.size, oi), (P, listOf perm c)] := N₆
      clear F₂ N₂ F₅ N₅
      refine wpAny_noRaise (blind fun Q₂ hq₂ => ?_)
      have hPI : @LT.lt Nat _ P h₅.objs.size := hnew (P, listOf perm c) (by simp)
      walk_at "m:steps"
      all_goals
        (rename News _ _ _ _ => N9)
        (rename Fr _ _ _ _ => F9)
        first
          | exact hq₂ _ _ (show TurnEnds _ _ _ _ _ _ _ _ .brk _ from ⟨rfl, _, _, _, F9, fun p hp => N9 p (List.mem_cons_of_mem _ hp), by walk_at "m:look", by walk_at "m:look", by rw [Array.size_push, hsz], permOk_push hok ⟨_, _, rfl, hch⟩, by first | assumption | (simp only [*]), fun z => by first | exact hbr₂ z | (have z2 := hbr₂ z; simp_all)⟩)
          | exact hq₂ _ _ (show TurnEnds _ _ _ _ _ _ _ _ .next _ from ⟨_, _, F9, N9, hnw₂, fun _ h => (nomatch h), ⟨by walk_at "m:look", by walk_at "m:look", by walk_at "m:look", rfl⟩, by first | assumption | (simp only [*]), fun z => by first | exact hbr₂ z | (have z2 := hbr₂ z; simp_all)⟩)
theorem core : Pf w A s H loose mg mb R mode t := by
  unfold Pf
  intro X T hk hd hh h0 h1 hR
  exact pk.2  X T hk hd hh h0 h1 hR fun g L h₁ => eps_all ne2 Q2 (by with_unfolding_all exact core2) (g, L, h₁)  X T hk hd hh h0 h1 hR
theorem all (y : T) : Q_ y := eps_all ne Q_ (by with_unfolding_all exact core) y
end C5
end
section
theorem filemode_raw {w : World} {A : Around} {s : Shared} {H : Heap} {loose : List Str} {mg mb : Str → Option Value} {R : Result → Shared → Prop} {mode : Int} {t : Tok}
  (X : (hd.heap_39 w.params).In H) (T : TopRead Mine.hd.view_39 loose mg mb H) (hk : ∀ b o, H.get? b = some o → s.heap.get? b = some o) (hd : A.depth + 12 < recursionLimit) (hh : A.handled = none)
  (h0 : 0 ≤ mode) (h1 : mode < 65536)
  (hR : ∀ s' y t, Aft s s' [] [] → (∃ xs : List Str, y = Str.join (Str.ofString "") xs ∧ xs.length = 10 ∧ ∀ x ∈ xs, Ok1 x) → R (.ok (.ret (.str y t))) s') :
  codeAny (model PG w) A (.call (.ref 883) ⟨[.int mode t], []⟩) R s :=
  C5.all (w, A, s, H, loose, mg, mb, R, mode, t) X T hk hd hh h0 h1 hR
end
-- text ZND
section
open PySem.Sre in
noncomputable def driven : Nat → Sre.M → Option Sre.M
  | 0, _ => none
  | n + 1, m => let m' := m.runFor Builtin.Re.reTurnSteps; if m'.outcome.isSome then some m' else driven n m'
noncomputable def reCode : Array Nat := #[14, 17, 4, 1, 1, 21, 9, 0, 604043296, 1, 0, 0, 0, 0, 0, 8, 4, 0, 13, 14, 21, 9, 0, 604043296, 1, 0, 0, 0, 0, 0, 8, 4, 0, 1]
noncomputable def finds (x : Array Nat) : Option Bool := (driven 60 (Sre.forSearch reCode x 0 (min 0 x.size) (min (2 ^ 63 - 1) x.size) false)).bind fun m => match m.outcome with
  | some .matched => some true
  | some .failed => some false
  | _ => none
noncomputable def letters : List Nat := [97, 32, 39, 98]
noncomputable def wordsTo : Nat → List (List Nat)
  | 0 => [[]]
  | n + 1 => [] :: (wordsTo n).flatMap fun r => letters.map fun c => c :: r
noncomputable def unsafe? (x : List Nat) : Bool := x.any fun c => c == 32 || c == 39
theorem finds_1 : ∀ x ∈ (wordsTo 4).take 86, finds x.toArray = some (unsafe? x) := by decide +kernel
theorem finds_2 : ∀ x ∈ ((wordsTo 4).drop 86).take 86, finds x.toArray = some (unsafe? x) := by decide +kernel
theorem finds_3 : ∀ x ∈ (((wordsTo 4).drop 86).drop 86).take 86, finds x.toArray = some (unsafe? x) := by decide +kernel
theorem finds_4 : ∀ x ∈ (((wordsTo 4).drop 86).drop 86).drop 86, finds x.toArray = some (unsafe? x) := by decide +kernel
theorem in_parts {α : Type} {P : α → Prop} (n : Nat) {l : List α} (a : ∀ x ∈ l.take n, P x) (b : ∀ x ∈ l.drop n, P x) : ∀ x ∈ l, P x := fun x h => by
  rw [← List.take_append_drop n l] at h
  rcases List.mem_append.mp h with h | h
  · exact a x h
  · exact b x h
theorem finds_all : ∀ x ∈ wordsTo 4, finds x.toArray = some (unsafe? x) := in_parts 86 finds_1 (in_parts 86 finds_2 (in_parts 86 finds_3 finds_4))
section
variable {M : Model} {A : Around} {E : Value → Shared → Prop} {s : Shared}
open Builtin.Re
theorem drive_wp {m' : Sre.M} {Q : Sre.M → Shared → Prop} (q : Q m' s) : ∀ (n k : Nat) (m : Sre.M), n ≤ k → driven n m = some m' → wpAny M A (reDrive k m) Q E s
  | 0, _, _, _, h => by cases h
  | n + 1, 0, _, hk, _ => by omega
  | n + 1, k + 1, m, hk, h => by
    unfold reDrive
    unfold driven at h
    dsimp only at h ⊢
    split at h
    · rename_i hs
      cases h
      rw [if_pos hs]; exact wpAny_pure q
    · rename_i hs
      rw [if_neg hs]
      exact wpAny_bind (wpAny_rule (drive_wp q n k _ (by omega) h))
theorem rules_wp {α : Type} {body : α → PUnit → Sem (ForInStep PUnit)} {Q : PUnit → Shared → Prop} (hb : ∀ a (Q' : ForInStep PUnit → Shared → Prop), Q' (.yield PUnit.unit) s → wpAny M A (body a PUnit.unit) Q' E s) (q : Q PUnit.unit s) : ∀ l : List α, wpAny M A (forIn l PUnit.unit body) Q E s
  | [] => by rw [List.forIn_nil]; exact wpAny_pure q
  | a :: l => by
    rw [List.forIn_cons]
    refine wpAny_bind (hb a _ ?_)
    exact rules_wp hb q l
theorem runToEnd_wp {m m' : Sre.M} {b : Bool} {Q : Option Sre.M → Shared → Prop} (n : Nat) (hn : n ≤ 2 ^ 64) (h : driven n m = some m') (ho : (match m'.outcome with | some .matched => some true | some .failed => some false | _ => none) = some b) (q : Q (if b then some m' else none) s) :
    wpAny M A (reRunToEnd m) Q E s := by
  unfold reRunToEnd
  refine wpAny_bind (drive_wp ?_ n _ m hn h)
  refine wpAny_bind (rules_wp (fun i Q' q' => ?_) ?_ _)
  · split
    · exact wpAny_bind (wpAny_rule (wpAny_pure q'))
    · exact wpAny_pure q'
  · split at ho
    · rename_i e
      cases ho
      rw [e]; exact wpAny_pure q
    · rename_i e
      cases ho
      rw [e]; exact wpAny_pure q
    · cases ho
end
end
-- text ZNE
section
section
variable {w : World} {A : Around} {E : Value → Shared → Prop} {s : Shared}
open Builtin.Re
theorem named_search (x : Str) (t : Tok) : reNamed "re.Pattern.search" "search" ["string", "pos", "endpos"] 1 [.str x t] [] = pure [some (.str x t), none, none] := by kernel_rfl
theorem search_body {A₂ : Around} {x : Str} {t : Tok} {Q : Value → Shared → Prop} (X : (hd.heap_39 w.params).In s.heap) (hx : x.cps.toList ∈ wordsTo 4)
    (h1 : unsafe? x.cps.toList = false → Q .none s) (h2 : unsafe? x.cps.toList = true → ∀ D h', (∀ b o, s.heap.get? b = some o → h'.get? b = some o) → s.heap.objs.size ≤ D → Q (.ref D) { s with heap := h' }) :
    wpAny (model PG w) A (Builtin.«re.Pattern.search» ⟨[.ref 133, .str x t], []⟩) (fun fin s' => match fin with | .done (.ret v) => Q v s' | .done _ => False | .again c' => c'.quiet = true ∧ codeAny (model PG w) A₂ c' (fun r s' => match r with | .ok (.ret v) => Q v s' | .ok _ => False | .error e => E e s') s') E s := by
  unfold Builtin.«re.Pattern.search»
  refine wpAny_bind ?_
  unfold reTarget
  dsimp only
  rw [named_search]
  refine wpAny_bind (wpAny_pure ?_)
  dsimp only
  refine wpAny_bind (wpAny_pure (wpAny_bind (wpAny_pure ?_)))
  refine wpAny_bind (wpAny_fieldsOf (X 133 _ rfl) rfl ?_)
  refine wpAny_bind ?_
  unfold reTextOf asStr?
  refine wpAny_bind (wpAny_pure ?_)
  dsimp only
  refine wpAny_pure ?_
  dsimp only
  rw [if_neg (by decide), if_neg (by decide)]
  refine wpAny_bind (m := reNoCollectionInside (.str x t) 0) (wpAny_pure ?_)
  refine wpAny_bind ?_
  unfold reRawItems
  refine wpAny_bind (wpAny_seqItems (X 132 _ rfl) rfl (wpAny_pure ?_))
  refine wpAny_pure ?_
  obtain ⟨m', hm, ho⟩ : ∃ m', driven 60 (Sre.forSearch reCode x.cps 0 (min 0 x.cps.size) (min (2 ^ 63 - 1) x.cps.size) false) = some m' ∧ (match m'.outcome with | some .matched => some true | some .failed => some false | _ => none) = some (unsafe? x.cps.toList) := by
    have := finds_all _ hx
    unfold finds at this
    obtain ⟨m', e, r⟩ := Option.bind_eq_some_iff.mp this
    exact ⟨m', e, r⟩
  have e1 : ∀ c g p l, c = reCode → g = 0 → p = min 0 x.cps.size → l = min (2 ^ 63 - 1) x.cps.size → driven 60 (Sre.forSearch c x.cps g p l false) = some m' := by
    rintro _ _ _ _ rfl rfl rfl rfl; exact hm
  unfold reAnswer
  dsimp only
  refine wpAny_bind (runToEnd_wp 60 (by decide) (m' := m') (e1 _ _ _ _ (by kernel_rfl) rfl rfl (by rw [show (2 ^ 63 - 1 : Int).toNat = 2 ^ 63 - 1 from by decide])) ho ?_)
  cases hu : unsafe? x.cps.toList with
  | false => rw [if_neg Bool.false_ne_true]; exact wpAny_pure (h1 hu)
  | true =>
    rw [if_pos rfl]
    dsimp only
    refine wpAny_bind ?_
    unfold reNewMatch
    dsimp only
    split
    case isTrue hbad => exact absurd hbad Bool.false_ne_true
    refine wpAny_bind (wpAny_newTuple ?_ (by rw [sizeLine_eq]; exact Nat.le_of_ble_eq_true rfl))
    refine wpAny_newObj_type ?_ (by size_fits)
    refine wpAny_pure (h2 hu _ _ (fun b o e => Heap.get?_push_of_some _ (Heap.get?_push_of_some _ e)) ?_)
    rw [Heap.size_push]; exact Nat.le_succ _
theorem sub_pat_mod : isSubtype (.type "re.Pattern") (.type "module") = pure false := by rw [isSubtype_type]; kernel_rfl
noncomputable def searchSig (full : String) : Manifest.Signature := ⟨.keywords, full, "search", .self, [⟨"string", .posOrKw, true⟩, ⟨"pos", .posOrKw, false⟩, ⟨"endpos", .posOrKw, false⟩]⟩
theorem chkb_search {x : Str} {t : Tok} {Q : Unit → Shared → Prop} (X : (hd.heap_39 w.params).In s.heap) (q : Q () s) : wpAny (model PG w) A (checkBoundCall "re.Pattern.search" ⟨[.ref 133, .str x t], []⟩) Q E s := by
  have hT : s.TypeIs (.ref 133) "re.Pattern" := ⟨_, X 133 _ rfl, rfl⟩
  unfold checkBoundCall
  rw [show Manifest.signature? "re.Pattern.search" = some (searchSig "Pattern.search") by kernel_rfl]
  rw [show builtinKind "re.Pattern.search" = some .method by decide +kernel]
  dsimp only
  rw [if_neg (by decide)]
  refine wpAny_bind (wpAny_isInstance hT sub_pat_mod ?_)
  rw [if_neg (by decide +kernel)]
  have hty : Looks (model PG w) s.heap (isType (.ref 133)) false := by
    intro A Q E s' k q
    exact ks_wpAny_isType_inst (h := s'.heap) (g := s'.gens) (d := s'.drawn) (t := s'.toks) (os := s'.os) (k _ _ (X 133 _ rfl)) (fun c e => by cases e) q
  refine wpAny_bind (hty.here ?_)
  rw [if_neg (by decide)]
  refine wpAny_bind (wpAny_typeOf hT ?_)
  dsimp only
  show wpAny _ _ (Bind.checkArgs "re.Pattern.search" (searchSig (s!"{Bind.lastOf "re.Pattern"}.{Bind.lastOf "re.Pattern.search"}")) ⟨[.ref 133, .str x t], []⟩) _ _ _
  rw [show Bind.checkArgs "re.Pattern.search" (searchSig (s!"{Bind.lastOf "re.Pattern"}.{Bind.lastOf "re.Pattern.search"}")) ⟨[.ref 133, .str x t], []⟩ = pure () by kernel_rfl]
  exact wpAny_pure q
theorem entry_search : entryFor table "re.Pattern.search" = some Builtin.«re.Pattern.search» := entryFor_of_fast (by kernel_rfl)
theorem search_w {x : Str} {t : Tok} {Q : Value → Shared → Prop} (X : (hd.heap_39 w.params).In s.heap) (hx : x.cps.toList ∈ wordsTo 4)
    (h1 : unsafe? x.cps.toList = false → Q .none s) (h2 : unsafe? x.cps.toList = true → ∀ D h', (∀ b o, s.heap.get? b = some o → h'.get? b = some o) → s.heap.objs.size ≤ D → Q (.ref D) { s with heap := h' }) :
    wpAny (model PG w) A (call (.ref 829) [.str x t]) Q E s :=
  call_bound (x := 133) (X 829 _ rfl) (by decide +kernel) (by decide +kernel) (by decide +kernel) entry_search (fun A Q E q => chkb_search X q) (search_body X hx h1 h2)
end
end
example : True := by
  k_with_none
  k_with "~m:enter" => (((case k1 | k2 | k3 => assumption); (case k4 => first | assumption | (intro _ hq; cases hq)); (case k6 | k7 => k_is); (case k8 => first | assumption | omega | (simp only [depth_deeper, depth_in1, recursionLimit] at *; omega)); (case k9 => first | exact BindsTo.of_eq rfl | exact binds_K (Frag.In.keeps (by assumption) (by assumption)) rfl (by k_is) rfl rfl rfl); (case c5 => decide); (case kB => exact locs rfl); (case c2 | c3 | c4 => exact rfl)))
  k_with "~k_inst" => ((refine' InstAt.of_accN ?zqN ?zqh1 ?zqh2; (case zqN => k_asm); (case zqh1 | zqh2 => k_mem)))
  k_with "~m:shadow" => ((refine shadow_of ?_; k_get))
  k_with "~getMethod ref" => ((k_here; (first
    | (refine' method_fnG ?zqk1 ?zqk2 ?zqk3 ?zqk4 ?zqk5 ?zqk6 ?zqk7 ?zqk8 ?_; k_dflt ((case zqk1 => k_in); (case zqk2 => k_inst); (case zqk3 => k_is); (case zqk4 => first | with_reducible exact canon_list_ga | with_reducible exact PySem.F.canon_object_ga | decide +kernel); (case zqk5 | zqk6 | zqk7 => k_is); (case zqk8 => walk_at "m:shadow"); k_whole))
    | (refine' method_biG ?zqk1 ?zqk2 ?zqk3 ?zqk4 ?zqk5 ?zqk6 ?zqk7 ?zqk8 ?zqk9 ?_; k_dflt ((case zqk1 => k_in); (case zqk2 => k_inst); (case zqk3 => k_is); (case zqk4 => first | with_reducible exact canon_list_ga | with_reducible exact PySem.F.canon_object_ga | decide +kernel); (case zqk5 | zqk6 | zqk7 => k_is); (case zqk8 => decide); (case zqk9 => walk_at "m:shadow"); k_whole)))))
  k_with "~call builtin:list.append" => ((k_here; (refine' append_acc ?zqk1 ?zqk2 ?zqk3 ?zqk4 ?zqk5 ?zqk6 ?_ ?zqk7; k_dflt ((case zqk1 | zqk2 | zqk3 => k_asm); (case zqk6 => k_upd); (case zqk4 => exact (News.get (by k_asm) (by k_mem))); (case zqk5 => k_is); (case zqk7 => first | assumption | (simp only [sizeLine_eq]; omega)); k_whole)); intro _ _ _; (try k_sweep)))
  k_with "~getMethod ref" => ((k_here; ks_any; k_dflt (first
    | (refine' superM ?zqk1 ?zqk2 ?zqk3 ?zqk4 ?zqk5 ?zqk6 ?zqk7 ?zqk8 lk_wget ?zqk9 (fun h hi => binds_of plain_wget entry_wget (chk_wlen _ _) (get_len _ _) hi) ?zqk10 ?_; (case zqk1 | zqk2 | zqk3 => k_asm); (case zqk4 => k_mem); (case zqk5 => k_inst); (case zqk6 => k_is); (case zqk7 => ks_is); (case zqk8 | zqk9 => k_is); (case zqk10 => decide); k_whole; intro _ _ _ _ l1; (try (replace l1 := allLt_of l1)); revert l1; intro _; (try k_sweep))
    | (refine' superM ?zqk1 ?zqk2 ?zqk3 ?zqk4 ?zqk5 ?zqk6 ?zqk7 ?zqk8 lk_wget ?zqk9 (fun h hi => binds_of plain_wget entry_wget (chk_winit _ _) (get_init _ _) hi) ?zqk10 ?_; (case zqk1 | zqk2 | zqk3 => k_asm); (case zqk4 => k_mem); (case zqk5 => k_inst); (case zqk6 => k_is); (case zqk7 => ks_is); (case zqk8 | zqk9 => k_is); (case zqk10 => decide); k_whole; intro _ _ _ _ l1; (try (replace l1 := allLt_of l1)); revert l1; intro _; (try k_sweep))
    | (refine' superM ?zqk1 ?zqk2 ?zqk3 ?zqk4 ?zqk5 ?zqk6 ?zqk7 ?zqk8 lk_mget ?zqk9 (fun h hi => binds_of plain_mget entry_mget (chk_mpop _ _) (get_pop _ _) hi) ?zqk10 ?_; (case zqk1 | zqk2 | zqk3 => k_asm); (case zqk4 => k_mem); (case zqk5 => k_inst); (case zqk6 => k_is); (case zqk7 => ks_is); (case zqk8 | zqk9 => k_is); (case zqk10 => decide); k_whole; intro _ _ _ _ l1; (try (replace l1 := allLt_of l1)); revert l1; intro _; (try k_sweep)))))
  k_with "~wpAt" => ((ks_step "attributeBase Call"; k_here; k_dflt (refine node_M (by k_asm) (by k_asm) (by k_asm) (by k_asm) (by k_is) (by rfl) (by rfl) (by k_inst) (by k_is) (by rfl) (by first | rfl | decide +kernel) (by k_is) (by k_is) (by k_is) (by k_is) (by decide) (by rfl) (by rfl) (by rfl) (by rfl) (by decide +kernel) (by first | boot_by_name | rfl | kernel_rfl) ?_; intro _ _ _ _ l1; (try (replace l1 := allLt_of l1)); revert l1; intro _; (try k_sweep))))
  k_with "~callWith ref" => ((k_here; (first
    | (refine' callWith_B0 ?zqk1 ?zqk2 ?_; k_dflt ((case zqk1 => exact (News.get (by k_asm) (by k_mem))); (case zqk2 => decide); k_whole; try dsimp only [List.nil_append, List.cons_append]))
    | (refine' callWith_B ?zqk1 ?zqk2 ?_ ?zqk3 ?zqk4; k_dflt ((case zqk1 => k_is); (case zqk2 => decide); (case zqk3 | zqk4 => rfl); k_whole)))))
  k_with "~call ref" => ((k_here; (first
    | (refine' super_len ?zqk1 ?zqk2 ?_; k_dflt ((case zqk1 | zqk2 => exact (News.get (by k_asm) (by k_mem))); k_whole))
    | (refine' super_init ?zqk1 ?zqk2 ?zqk3 ?zqk4 ?zqk5 ?_; k_dflt ((case zqk1 | zqk2 => k_asm); (case zqk3 => exact (News.get (by k_asm) (by k_mem))); (case zqk5 => k_upd); (case zqk4 => k_ne); k_whole; intro _ _ _; (try k_sweep)))
    | (refine' super_pop ?zqk1 ?zqk2 ?zqk3 ?zqk4 ?zqk5 ?zqk6 ?zqk7 ?zqk8 ?zqk9 ?zqk10 ?zqk11 ?_; k_dflt ((case zqk1 | zqk2 | zqk3 => k_asm); (case zqk4 => exact (News.get (by k_asm) (by k_mem))); (case zqk10 => k_upd); (case zqk5 => exact (News.get (by k_asm) (by k_mem))); (case zqk6 | zqk7 => k_is); (case zqk8 => rfl); (case zqk9 => k_is); (case zqk11 => first | assumption | (simp only [sizeLine_eq]; omega)); k_whole; intro _ _ _; (try k_sweep))))))
  k_with "~m:sub" => (first | exact List.forall_mem_nil _ | (refine List.forall_mem_cons.mpr ⟨by k_mem, ?_⟩; walk_at "m:sub"))
  k_with "~setAttr ref" => ((k_here; (refine' set_acc ?zqk1 ?zqk2 ?zqk3 ?zqk4 ?zqk5 ?zqk6 ?zqk7 ?zqk8 ?zqk9 ?zqk10 ?zqk11 ?zqk12 ?zqk13 ?_; k_dflt ((case zqk1 | zqk2 | zqk3 => k_asm); (case zqk4 => k_inst); (case zqk5 => exact rfl); (case zqk6 => k_is); (case zqk7 => rfl); (case zqk8 | zqk9 => k_is); (case zqk10 => k_get); (case zqk11 => k_put); (case zqk12 => k_upd); (case zqk13 => exact Nat.le_of_ble_eq_true rfl); k_whole; intro _ _ _; (try k_sweep)))))
  k_with "~subscriptTail" => ((k_here; (with_reducible show wpAny _ _ (subscriptTail _ _ (Value.ref _) (Value.ref _)) _ _ _); (refine' slice_acc ?zqk1 ?zqk2 ?zqk3 ?zqk4 ?zqk5 ?zqk6 ?zqk7 ?zqk8 ?zqk9 ?zqk10 ?_ ?zqk11 ?zqk12 ?zqk13; k_dflt ((case zqk1 | zqk2 | zqk3 => k_asm); (case zqk4 => k_inst); (case zqk5 => exact rfl); (case zqk6 | zqk7 | zqk8 => k_is); (case zqk9 | zqk10 => first | exact IsPart.none | exact IsPart.int _ _); (case zqk11 => with_unfolding_all rfl); (case zqk12 => intro _; with_unfolding_all rfl); (case zqk13 => first | assumption | (simp only [sizeLine_eq]; omega)); k_whole; intro _ _ _ _ l1; (try (replace l1 := allLt_of l1)); revert l1; intro _; (try k_sweep)))))
  k_with "~m:steps" => (repeat' (first | (walk1; (try dsimp only)) | (dsimp only; walk1; (try dsimp only)) | fail "no step"))
  k_with "~k_in" => ((refine' Frag.In.keeps ?zqkx ?zqkh; (case zqkx => with_reducible assumption); (case zqkh => exact Fr.keep (by with_reducible assumption))))
  k_with "~k_ne" => ((refine neN ?_; (try dsimp only); (try dsimp only [AllLt] at *); omega))
  k_with "~k_ne" => (first | with_reducible assumption | (refine Ne.symm ?_; with_reducible assumption) | (refine' ne_lt ?zqkh ?zqkm; (case zqkh => with_reducible assumption); (case zqkm => k_mem)) | (refine' Ne.symm (ne_lt ?zqkh ?zqkm); (case zqkh => with_reducible assumption); (case zqkm => k_mem)) | (refine neN ?_; decide))
  trivial
-- text ZNF
section
example : True := by
  k_with "~wpAt" => ((ks_step "exec Expr"; k_dflt (refine ks_wpAt_Expr_any ?_)))
  k_with "~wpAt" => ((ks_step "eval Call"; k_dflt (refine ks_wpAt_MethodCall ?_)))
  k_with "~call ref" => ((k_here; (refine' part_count_w ?zqk1 ?zqk2 ?zqk3 ?zqk4 ?zqk5 ?zqk6 ?zqk7 ?zqk8 ?zqk9 ?_; k_dflt ((case zqk1 | zqk2 | zqk3 | zqk4 => k_asm); (case zqk5 | zqk6 => k_mem); (case zqk7 | zqk8 => assumption); (case zqk9 => simp only [depth_deeper, depth_in1, recursionLimit] at *; omega); k_whole; intro _ _ _ _ _ _; (try k_sweep)))))
  k_with "~subscriptTail" => ((k_here; (with_reducible show wpAny _ _ (subscriptTail _ _ (Value.ref _) (Value.ref _)) _ _ _); (refine' slice_accP ?zqk1 ?zqk2 ?zqk3 ?zqk4 ?zqk5 ?zqk6 ?zqk7 ?zqk8 ?zqk9 ?zqk10 ?_ ?zqk11 ?zqk12 ?zqk13; k_dflt ((case zqk1 | zqk2 | zqk3 => k_asm); (case zqk4 => k_inst); (case zqk5 => exact rfl); (case zqk6 | zqk7 | zqk8 => k_is); (case zqk9 | zqk10 => first | exact IsPart.none | exact IsPart.int _ _); (case zqk11 => with_unfolding_all rfl); (case zqk12 => intro _; with_unfolding_all rfl); (case zqk13 => first | assumption | (simp only [sizeLine_eq]; omega)); k_whole; intro _ _ _ _ l1; (try (replace l1 := allLt_of l1)); revert l1; intro _; (try k_sweep)))))
  k_with "~setItem ref ref" => ((k_here; (refine' setSlice_accP ?zqk1 ?zqk2 ?zqk3 ?zqk4 ?zqk5 ?zqk6 ?zqk7 ?zqk8 ?zqk9 ?zqk10 ?zqk11 ?zqk12 _ _ ?zqk13 (fun n' => ?zqk14) ?_ ?zqk15; k_dflt ((case zqk1 | zqk2 | zqk3 => k_asm); (case zqk4 | zqk5 | zqk6 => k_mem); (case zqk7 | zqk8 | zqk9 => k_is); (case zqk10 | zqk11 => first | exact IsPart.none | exact IsPart.int _ _); (case zqk12 => k_ne); (case zqk13 => first | exact bounds_from _ _ (by assumption) | exact bounds_all _); (case zqk14 => k_upd); (case zqk15 => first | assumption | (simp only [List.size_toArray, List.length_nil]; omega)); k_whole; intro _ _ _ _; (try dsimp only at N'); (try k_sweep)))))
  k_with "~setAttr ref" => ((k_here; (refine' set_acc ?zqk1 ?zqk2 ?zqk3 ?zqk4 ?zqk5 ?zqk6 ?zqk7 ?zqk8 ?zqk9 ?zqk10 (own_put _ _ _ _ _ _ _) ?zqk12 ?zqk13 ?_; k_dflt ((case zqk1 | zqk2 | zqk3 => k_asm); (case zqk4 => k_inst); (case zqk5 => exact rfl); (case zqk6 => k_is); (case zqk7 => rfl); (case zqk8 | zqk9 => k_is); (case zqk10 => exact own_get _ _ _); (case zqk12 => k_upd); (case zqk13 => exact Nat.le_of_ble_eq_true rfl); k_whole; intro _ _ _; (try k_sweep)))))
  k_with "~getAttr ref" => ((k_here; (refine' get_acc ?zqk1 ?zqk2 ?zqk3 ?zqk4 ?zqk5 ?zqk6 ?zqk7 ?_; k_dflt ((case zqk1 => k_in); (case zqk2 => k_inst); (case zqk3 | zqk4 | zqk5 => k_is); (case zqk6 => exact findObj_own (by k_is) (by k_is) (by k_is) rfl); (case zqk7 => rfl); k_whole))))
  k_with "~call ref" => ((k_here; (with_reducible show wpAny _ _ (call (Value.ref 829) [Value.str _ _]) _ _ _); (refine Held.out ?_)))
  k_with "~truthy str" => ((k_dflt (refine PySem.truthy_str (by omega) ?_)))
  trivial
noncomputable def quoteOf (x : Str) : Str := if x.length = 0 then Str.ofString "''" else if unsafe? x.cps.toList then Str.ofString "'" ++ Txt.replace x (Str.ofString "'") (Str.ofString "'\"'\"'") ++ Str.ofString "'" else x
theorem words_len : ∀ l ∈ wordsTo 4, l.length ≤ 4 := by decide +kernel
theorem rep_len : ∀ l ∈ wordsTo 4, (Txt.replace ⟨l.toArray⟩ (Str.ofString "'") (Str.ofString "'\"'\"'")).length ≤ 40 := by decide +kernel
theorem quote_raw {w : World} {A : Around} {s : Shared} {H : Heap} {loose : List Str} {mg mb : Str → Option Value} {R : Result → Shared → Prop} {x : Str} {t : Tok}
  (X : (hd.heap_39 w.params).In H) (T : TopRead Mine.hd.view_39 loose mg mb H) (hk : ∀ b o, H.get? b = some o → s.heap.get? b = some o) (hd : A.depth + 12 < recursionLimit)
  (hx : x.cps.toList ∈ wordsTo 4)
  (hR : ∀ s' t, Aft s s' [] [] → R (.ok (.ret (.str (quoteOf x) t))) s') :
  codeAny (model PG w) A (.call (.ref 836) ⟨[.str x t], []⟩) R s := by
  have hlen : x.length ≤ 4 := by have := words_len _ hx; rwa [Array.length_toList] at this
  refine' enterM (binds := [(Str.ofString "s", .str x t)]) [] ?k1 ?k2 ?k3 ?k4 ?k6 ?k7 ?k8 ?k9 ?kB ?_ ?c5 ?c2 ?c3 ?c4
  walk_at "m:enter"
  intro g L h₁ hkg hgk F N Xg Tg hHg hlt
  (try dsimp only)
  walk1
  walk1
  walk1
  walk1
  walk1
  walk1
  walk1
  by_cases hz : x.length = 0
  · have hb : ((x.length : Int) != 0) = false := by rw [hz]; rfl
    rw [hb]
    walk_at "m:steps"
    have key := hR { heap := h₁, gens := s.gens, drawn := s.drawn, toks := tk + 1, os := s.os } tk (Aft.of hkg F N (by walk_at "m:sub") rfl id)
    unfold quoteOf at key
    rw [if_pos hz] at key
    exact key
  · have hb : ((x.length : Int) != 0) = true := by simp; omega
    rw [hb]
    walk_at "m:steps"
    refine callWith_B (K := Mine.hd.heap_39 w.params) (q := 829) rfl (by decide) ?_ rfl rfl
    walk_at "m:steps"
    have hrep : (Txt.replace x (Str.ofString "'") (Str.ofString "'\"'\"'")).length ≤ 40 := rep_len _ hx
    refine Held.put (search_w (Xg.keeps F.keep) hx (fun hu => ?_) (fun hu D h' hk' hD => ?_))
    · walk_at "m:steps"
      have key := hR { heap := h₁, gens := s.gens, drawn := s.drawn, toks := tk, os := s.os } t (Aft.of hkg F N (by walk_at "m:sub") rfl id)
      unfold quoteOf at key
      rw [if_neg hz, hu, if_neg Bool.false_ne_true] at key
      exact key
    · have F' := F.keeps hk'
      clear F N
      walk_at "m:steps"
      have key := fun k t' => hR { heap := h', gens := s.gens, drawn := s.drawn, toks := k, os := s.os } t' (Aft.of hkg F' (News.nil) (fun _ h => (nomatch h)) rfl id)
      unfold quoteOf at key
      rw [if_neg hz, hu, if_pos rfl] at key
      exact key _ _
section
variable {w : World} {A : Around} {E : Value → Shared → Prop} {s : Shared} {h₀ : Heap} {L x dx : Addr} {m : Str → Option Value} {news n1 : List (Addr × Obj)} {loose : List Str} {mg mb : Str → Option Value} {its ys : Array Value} {n k : Nat} {hsh : Int} {kt : Tok} {v₀ v : Value} {Q : Value → Shared → Prop} {bm : Addr} {ob : Obj} {pr : List (Str × Str)}
theorem quote_w {x : Str} {t : Tok} (F : Fr h₀ L s.heap m) (X : (hd.heap_39 w.params).In h₀) (T : TopRead Mine.hd.view_39 loose mg mb h₀) (N : News h₀ L s.heap news) (hd : A.depth + 12 < recursionLimit) (hx : x.cps.toList ∈ wordsTo 4)
    (h : ∀ s' t, Fr h₀ L s'.heap m → News h₀ L s'.heap news → s'.os = s.os → (AllBare s.gens → AllBare s'.gens) → Q (.str (quoteOf x) t) s') : wpAny (model PG w) A (call (.ref 836) [.str x t]) Q E s := by
  refine wpAny_call (quote_raw X T F.keep hd hx fun s' t a => ?_)
  obtain ⟨F', N'⟩ := a.none F N
  exact h s' t F' N' a.os a.bare
theorem filemode_w {mode : Int} {t : Tok} (F : Fr h₀ L s.heap m) (X : (hd.heap_39 w.params).In h₀) (T : TopRead Mine.hd.view_39 loose mg mb h₀) (N : News h₀ L s.heap news) (hd : A.depth + 12 < recursionLimit) (hh : A.handled = none) (h0 : 0 ≤ mode) (h1 : mode < 65536)
    (h : ∀ s' y t, Fr h₀ L s'.heap m → News h₀ L s'.heap news → s'.os = s.os → (AllBare s.gens → AllBare s'.gens) → (∃ xs : List Str, y = Str.join (Str.ofString "") xs ∧ xs.length = 10 ∧ ∀ x ∈ xs, Ok1 x) → Q (.str y t) s') : wpAny (model PG w) A (call (.ref 883) [.int mode t]) Q E s := by
  refine wpAny_call (filemode_raw X T F.keep hd hh h0 h1 fun s' y t a hy => ?_)
  obtain ⟨F', N'⟩ := a.none F N
  exact h s' y t F' N' a.os a.bare hy
theorem law_text_w {l : Addr} (F : Fr h₀ L s.heap m) (X : (hd.heap_39 w.params).In h₀) (T : TopRead Mine.hd.view_39 loose mg mb h₀) (N : News h₀ L s.heap news) (hd : A.depth + 12 < recursionLimit) (hh : A.handled = none) (hl : s.heap.IsList l its) (hI : Items s.heap its pr)
    (hfit : (pr.map fun p => p.1.length + p.2.length).sum ≤ 1000000) (hcount : pr.length ≤ 1000)
    (h : ∀ s' t, Fr h₀ L s'.heap m → News h₀ L s'.heap news → s'.os = s.os → (AllBare s.gens → AllBare s'.gens) → Q (.str (textOf pr) t) s') : wpAny (model PG w) A (call (.ref 888) [.ref l]) Q E s := by
  refine wpAny_call (law_text_raw (H := s.heap) (X.keeps F.keep) (T.keeps F.keep) (fun _ _ e => e) hd hh hl hI hfit hcount fun s' t a => ?_)
  obtain ⟨F', N'⟩ := a.none F N
  exact h s' t F' N' a.os a.bare
end
end
example : True := by
  k_with_none
  k_with "~m:enter" => (((case k1 | k2 | k3 => assumption); (case k4 => first | assumption | (intro _ hq; cases hq)); (case k6 | k7 => k_is); (case k8 => first | assumption | omega | (simp only [depth_deeper, depth_in1, recursionLimit] at *; omega)); (case k9 => first | exact BindsTo.of_eq rfl | exact binds_K (Frag.In.keeps (by assumption) (by assumption)) rfl (by k_is) rfl rfl rfl); (case c5 => decide); (case kB => exact locs rfl); (case c2 | c3 | c4 => exact rfl)))
  k_with "~k_inst" => ((refine' InstAt.of_accN ?zqN ?zqh1 ?zqh2; (case zqN => k_asm); (case zqh1 | zqh2 => k_mem)))
  k_with "~m:shadow" => ((refine shadow_of ?_; k_get))
  k_with "~getMethod ref" => ((k_here; (first
    | (refine' method_fnG ?zqk1 ?zqk2 ?zqk3 ?zqk4 ?zqk5 ?zqk6 ?zqk7 ?zqk8 ?_; k_dflt ((case zqk1 => k_in); (case zqk2 => k_inst); (case zqk3 => k_is); (case zqk4 => first | with_reducible exact canon_list_ga | with_reducible exact PySem.F.canon_object_ga | decide +kernel); (case zqk5 | zqk6 | zqk7 => k_is); (case zqk8 => walk_at "m:shadow"); k_whole))
    | (refine' method_biG ?zqk1 ?zqk2 ?zqk3 ?zqk4 ?zqk5 ?zqk6 ?zqk7 ?zqk8 ?zqk9 ?_; k_dflt ((case zqk1 => k_in); (case zqk2 => k_inst); (case zqk3 => k_is); (case zqk4 => first | with_reducible exact canon_list_ga | with_reducible exact PySem.F.canon_object_ga | decide +kernel); (case zqk5 | zqk6 | zqk7 => k_is); (case zqk8 => decide); (case zqk9 => walk_at "m:shadow"); k_whole)))))
  k_with "~call builtin:list.append" => ((k_here; (refine' append_acc ?zqk1 ?zqk2 ?zqk3 ?zqk4 ?zqk5 ?zqk6 ?_ ?zqk7; k_dflt ((case zqk1 | zqk2 | zqk3 => k_asm); (case zqk6 => k_upd); (case zqk4 => exact (News.get (by k_asm) (by k_mem))); (case zqk5 => k_is); (case zqk7 => first | assumption | (simp only [sizeLine_eq]; omega)); k_whole)); intro _ _ _; (try k_sweep)))
  k_with "~getMethod ref" => ((k_here; ks_any; k_dflt (first
    | (refine' superM ?zqk1 ?zqk2 ?zqk3 ?zqk4 ?zqk5 ?zqk6 ?zqk7 ?zqk8 lk_wget ?zqk9 (fun h hi => binds_of plain_wget entry_wget (chk_wlen _ _) (get_len _ _) hi) ?zqk10 ?_; (case zqk1 | zqk2 | zqk3 => k_asm); (case zqk4 => k_mem); (case zqk5 => k_inst); (case zqk6 => k_is); (case zqk7 => ks_is); (case zqk8 | zqk9 => k_is); (case zqk10 => decide); k_whole; intro _ _ _ _ l1; (try (replace l1 := allLt_of l1)); revert l1; intro _; (try k_sweep))
    | (refine' superM ?zqk1 ?zqk2 ?zqk3 ?zqk4 ?zqk5 ?zqk6 ?zqk7 ?zqk8 lk_wget ?zqk9 (fun h hi => binds_of plain_wget entry_wget (chk_winit _ _) (get_init _ _) hi) ?zqk10 ?_; (case zqk1 | zqk2 | zqk3 => k_asm); (case zqk4 => k_mem); (case zqk5 => k_inst); (case zqk6 => k_is); (case zqk7 => ks_is); (case zqk8 | zqk9 => k_is); (case zqk10 => decide); k_whole; intro _ _ _ _ l1; (try (replace l1 := allLt_of l1)); revert l1; intro _; (try k_sweep))
    | (refine' superM ?zqk1 ?zqk2 ?zqk3 ?zqk4 ?zqk5 ?zqk6 ?zqk7 ?zqk8 lk_mget ?zqk9 (fun h hi => binds_of plain_mget entry_mget (chk_mpop _ _) (get_pop _ _) hi) ?zqk10 ?_; (case zqk1 | zqk2 | zqk3 => k_asm); (case zqk4 => k_mem); (case zqk5 => k_inst); (case zqk6 => k_is); (case zqk7 => ks_is); (case zqk8 | zqk9 => k_is); (case zqk10 => decide); k_whole; intro _ _ _ _ l1; (try (replace l1 := allLt_of l1)); revert l1; intro _; (try k_sweep)))))
  k_with "~wpAt" => ((ks_step "attributeBase Call"; k_here; k_dflt (refine node_M (by k_asm) (by k_asm) (by k_asm) (by k_asm) (by k_is) (by rfl) (by rfl) (by k_inst) (by k_is) (by rfl) (by first | rfl | decide +kernel) (by k_is) (by k_is) (by k_is) (by k_is) (by decide) (by rfl) (by rfl) (by rfl) (by rfl) (by decide +kernel) (by first | boot_by_name | rfl | kernel_rfl) ?_; intro _ _ _ _ l1; (try (replace l1 := allLt_of l1)); revert l1; intro _; (try k_sweep))))
  k_with "~callWith ref" => ((k_here; (first
    | (refine' callWith_B0 ?zqk1 ?zqk2 ?_; k_dflt ((case zqk1 => exact (News.get (by k_asm) (by k_mem))); (case zqk2 => decide); k_whole; try dsimp only [List.nil_append, List.cons_append]))
    | (refine' callWith_B ?zqk1 ?zqk2 ?_ ?zqk3 ?zqk4; k_dflt ((case zqk1 => k_is); (case zqk2 => decide); (case zqk3 | zqk4 => rfl); k_whole)))))
  k_with "~call ref" => ((k_here; (first
    | (refine' super_len ?zqk1 ?zqk2 ?_; k_dflt ((case zqk1 | zqk2 => exact (News.get (by k_asm) (by k_mem))); k_whole))
    | (refine' super_init ?zqk1 ?zqk2 ?zqk3 ?zqk4 ?zqk5 ?_; k_dflt ((case zqk1 | zqk2 => k_asm); (case zqk3 => exact (News.get (by k_asm) (by k_mem))); (case zqk5 => k_upd); (case zqk4 => k_ne); k_whole; intro _ _ _; (try k_sweep)))
    | (refine' super_pop ?zqk1 ?zqk2 ?zqk3 ?zqk4 ?zqk5 ?zqk6 ?zqk7 ?zqk8 ?zqk9 ?zqk10 ?zqk11 ?_; k_dflt ((case zqk1 | zqk2 | zqk3 => k_asm); (case zqk4 => exact (News.get (by k_asm) (by k_mem))); (case zqk10 => k_upd); (case zqk5 => exact (News.get (by k_asm) (by k_mem))); (case zqk6 | zqk7 => k_is); (case zqk8 => rfl); (case zqk9 => k_is); (case zqk11 => first | assumption | (simp only [sizeLine_eq]; omega)); k_whole; intro _ _ _; (try k_sweep))))))
  k_with "~m:sub" => (first | exact List.forall_mem_nil _ | (refine List.forall_mem_cons.mpr ⟨by k_mem, ?_⟩; walk_at "m:sub"))
  k_with "~setAttr ref" => ((k_here; (refine' set_acc ?zqk1 ?zqk2 ?zqk3 ?zqk4 ?zqk5 ?zqk6 ?zqk7 ?zqk8 ?zqk9 ?zqk10 ?zqk11 ?zqk12 ?zqk13 ?_; k_dflt ((case zqk1 | zqk2 | zqk3 => k_asm); (case zqk4 => k_inst); (case zqk5 => exact rfl); (case zqk6 => k_is); (case zqk7 => rfl); (case zqk8 | zqk9 => k_is); (case zqk10 => k_get); (case zqk11 => k_put); (case zqk12 => k_upd); (case zqk13 => exact Nat.le_of_ble_eq_true rfl); k_whole; intro _ _ _; (try k_sweep)))))
  k_with "~subscriptTail" => ((k_here; (with_reducible show wpAny _ _ (subscriptTail _ _ (Value.ref _) (Value.ref _)) _ _ _); (refine' slice_acc ?zqk1 ?zqk2 ?zqk3 ?zqk4 ?zqk5 ?zqk6 ?zqk7 ?zqk8 ?zqk9 ?zqk10 ?_ ?zqk11 ?zqk12 ?zqk13; k_dflt ((case zqk1 | zqk2 | zqk3 => k_asm); (case zqk4 => k_inst); (case zqk5 => exact rfl); (case zqk6 | zqk7 | zqk8 => k_is); (case zqk9 | zqk10 => first | exact IsPart.none | exact IsPart.int _ _); (case zqk11 => with_unfolding_all rfl); (case zqk12 => intro _; with_unfolding_all rfl); (case zqk13 => first | assumption | (simp only [sizeLine_eq]; omega)); k_whole; intro _ _ _ _ l1; (try (replace l1 := allLt_of l1)); revert l1; intro _; (try k_sweep)))))
  k_with "~m:steps" => (repeat' (first | (walk1; (try dsimp only)) | (dsimp only; walk1; (try dsimp only)) | fail "no step"))
  k_with "~k_in" => ((refine' Frag.In.keeps ?zqkx ?zqkh; (case zqkx => with_reducible assumption); (case zqkh => exact Fr.keep (by with_reducible assumption))))
  k_with "~k_ne" => ((refine neN ?_; (try dsimp only); (try dsimp only [AllLt] at *); omega))
  k_with "~k_ne" => (first | with_reducible assumption | (refine Ne.symm ?_; with_reducible assumption) | (refine' ne_lt ?zqkh ?zqkm; (case zqkh => with_reducible assumption); (case zqkm => k_mem)) | (refine' Ne.symm (ne_lt ?zqkh ?zqkm); (case zqkh => with_reducible assumption); (case zqkm => k_mem)) | (refine neN ?_; decide))
  trivial
-- text ZNG
section
example : True := by
  k_with "~wpAt" => ((ks_step "exec Expr"; k_dflt (refine ks_wpAt_Expr_any ?_)))
  k_with "~wpAt" => ((ks_step "eval Call"; k_dflt (refine ks_wpAt_MethodCall ?_)))
  trivial
noncomputable abbrev ioObj (C dio : Addr) : Obj := ⟨.ref C, some dio, .plain, #[]⟩
noncomputable abbrev ioDict (h1 h2 h3 : Int) (k1 k2 k3 : Tok) (nl buf pos : Value) : Obj := dictOf [⟨h1, .str (Str.ofString "_StringIO__newline") k1, nl⟩, ⟨h2, .str (Str.ofString "_StringIO__buf") k2, buf⟩, ⟨h3, .str (Str.ofString "_StringIO__pos") k3, pos⟩] 3
theorem check_raw {w : World} {A : Around} {s : Shared} {H : Heap} {loose : List Str} {mg mb : Str → Option Value} {R : Result → Shared → Prop} {io dio : Addr} {h1 h2 h3 : Int} {k1 k2 k3 : Tok} {nl pos : Value} {text : Str} {tt : Tok}
  (X : (hd.heap_39 w.params).In H) (T : TopRead Mine.hd.view_39 loose mg mb H) (hk : ∀ b o, H.get? b = some o → s.heap.get? b = some o) (hd : A.depth < recursionLimit)
  (hx : ∀ q ∈ [(io, ioObj 681 dio), (dio, ioDict h1 h2 h3 k1 k2 k3 nl (.str text tt) pos)], s.heap.get? q.1 = some q.2 ∧ H.get? q.1 = none) (hne : @Ne Nat io dio)
  (hR : ∀ s', Aft s s' [(io, ioObj 681 dio), (dio, ioDict h1 h2 h3 k1 k2 k3 nl (.str text tt) pos)] [(io, ioObj 681 dio), (dio, ioDict h1 h2 h3 k1 k2 k3 nl (.str text tt) pos)] → R (.ok (.ret .none)) s') :
  codeAny (model PG w) A (.call (.ref 465) ⟨[.ref io], []⟩) R s := by
  refine' enterM (binds := [(Str.ofString "self", .ref io)]) [(io, ioObj 681 dio), (dio, ioDict h1 h2 h3 k1 k2 k3 nl (.str text tt) pos)] ?k1 ?k2 ?k3 ?k4 ?k6 ?k7 ?k8 ?k9 ?kB ?_ ?c5 ?c2 ?c3 ?c4
  walk_at "m:enter"
  intro g L h₁ hkg hgk F N Xg Tg hHg hlt
  (replace hlt := allLt_of hlt)
  (try dsimp only)
  walk_at "m:steps"
  exact hR _ (Aft.of hkg (by k_asm) (by k_asm) (by walk_at "m:sub") rfl id)
end
section
namespace F1
noncomputable abbrev T := (World) × (Around) × (Shared) × (Heap) × (List Str) × (Str → Option Value) × (Str → Option Value) × (Result → Shared → Prop) × (Tok) × (Tok) × (Str)
noncomputable def Pf (w : World) (A : Around) (s : Shared) (H : Heap) (loose : List Str) (mg : Str → Option Value) (mb : Str → Option Value) (R : Result → Shared → Prop) (t : Tok) (t2 : Tok) (y : Str) : Prop := ∀ (X : (hd.heap_39 w.params).In H) (T : TopRead Mine.hd.view_39 loose mg mb H) (hk : ∀ b o, H.get? b = some o → s.heap.get? b = some o) (hd : A.depth < recursionLimit) (hR : ∀ s' t, Aft s s' [] [] → R (.ok (.ret (.int 1 t))) s'), codeAny (model PG w) A (.call (.ref 147) ⟨[.int 1 t, .str y t2], []⟩) R s
noncomputable def Q_ (z : T) : Prop := Pf z.1 (z.2.1) (z.2.2.1) (z.2.2.2.1) (z.2.2.2.2.1) (z.2.2.2.2.2.1) (z.2.2.2.2.2.2.1) (z.2.2.2.2.2.2.2.1) (z.2.2.2.2.2.2.2.2.1) (z.2.2.2.2.2.2.2.2.2.1) (z.2.2.2.2.2.2.2.2.2.2)
theorem ne : Nonempty T := ⟨(Classical.choice Mine.neW, Classical.choice Mine.neA, Classical.choice Mine.neS, Classical.choice inferInstance, Classical.choice inferInstance, Classical.choice inferInstance, Classical.choice inferInstance, Classical.choice inferInstance, Classical.choice inferInstance, Classical.choice inferInstance, Classical.choice inferInstance)⟩
noncomputable def z_ : T := @Classical.epsilon _ ne fun z => ¬ Q_ z
@[irreducible] noncomputable def w : World := z_.1
@[irreducible] noncomputable def A : Around := z_.2.1
@[irreducible] noncomputable def s : Shared := z_.2.2.1
@[irreducible] noncomputable def H : Heap := z_.2.2.2.1
@[irreducible] noncomputable def loose : List Str := z_.2.2.2.2.1
@[irreducible] noncomputable def mg : Str → Option Value := z_.2.2.2.2.2.1
@[irreducible] noncomputable def mb : Str → Option Value := z_.2.2.2.2.2.2.1
@[irreducible] noncomputable def R : Result → Shared → Prop := z_.2.2.2.2.2.2.2.1
@[irreducible] noncomputable def t : Tok := z_.2.2.2.2.2.2.2.2.1
@[irreducible] noncomputable def t2 : Tok := z_.2.2.2.2.2.2.2.2.2.1
@[irreducible] noncomputable def y : Str := z_.2.2.2.2.2.2.2.2.2.2
noncomputable def pk : {P_ : (Heap) → (Addr) → (Heap) → Prop // ∀ (X : (hd.heap_39 w.params).In H) (T : TopRead Mine.hd.view_39 loose mg mb H) (hk : ∀ b o, H.get? b = some o → s.heap.get? b = some o) (hd : A.depth < recursionLimit) (hR : ∀ s' t, Aft s s' [] [] → R (.ok (.ret (.int 1 t))) s'), (∀ g L h₁, P_  g L h₁) → codeAny (model PG w) A (.call (.ref 147) ⟨[.int 1 t, .str y t2], []⟩) R s} := ⟨_, fun  X T hk hd hR k_ => by
  refine' enterM (binds := [(Str.ofString "n", .int 1 t), (Str.ofString "what", .str y t2)]) [] ?k1 ?k2 ?k3 ?k4 ?k6 ?k7 ?k8 ?k9 ?kB ?_ ?c5 ?c2 ?c3 ?c4
  walk_at "m:enter"
  exact k_⟩
noncomputable abbrev T2 := (Heap) × (Addr) × (Heap)
noncomputable def Pf2 (g : Heap) (L : Addr) (h₁ : Heap) : Prop := ∀ (X : (hd.heap_39 w.params).In H) (T : TopRead Mine.hd.view_39 loose mg mb H) (hk : ∀ b o, H.get? b = some o → s.heap.get? b = some o) (hd : A.depth < recursionLimit) (hR : ∀ s' t, Aft s s' [] [] → R (.ok (.ret (.int 1 t))) s'), pk.1  g L h₁
noncomputable def Q2 (z : T2) : Prop := Pf2 z.1 (z.2.1) (z.2.2)
theorem ne2 : Nonempty T2 := ⟨(Classical.choice inferInstance, Classical.choice inferInstance, Classical.choice inferInstance)⟩
noncomputable def z2_ : T2 := @Classical.epsilon _ ne2 fun z => ¬ Q2 z
@[irreducible] noncomputable def g : Heap := z2_.1
@[irreducible] noncomputable def L : Addr := z2_.2.1
@[irreducible] noncomputable def h₁ : Heap := z2_.2.2
theorem core2 : Pf2 g L h₁ := by
  unfold Pf2
  intro X T hk hd hR
  dsimp only [pk]
  intro hkg hgk F N Xg Tg hHg hlt
  (try dsimp only)
  walk_at "m:steps"
  exact hR _ _ (Aft.of hkg (by k_asm) (by k_asm) (by walk_at "m:sub") rfl id)
theorem core : Pf w A s H loose mg mb R t t2 y := by
  unfold Pf
  intro X T hk hd hR
  exact pk.2  X T hk hd hR fun g L h₁ => eps_all ne2 Q2 (by with_unfolding_all exact core2) (g, L, h₁)  X T hk hd hR
theorem all (y : T) : Q_ y := eps_all ne Q_ (by with_unfolding_all exact core) y
end F1
end
section
theorem index_raw {w : World} {A : Around} {s : Shared} {H : Heap} {loose : List Str} {mg mb : Str → Option Value} {R : Result → Shared → Prop} {t t2 : Tok} {y : Str}
  (X : (hd.heap_39 w.params).In H) (T : TopRead Mine.hd.view_39 loose mg mb H) (hk : ∀ b o, H.get? b = some o → s.heap.get? b = some o) (hd : A.depth < recursionLimit)
  (hR : ∀ s' t, Aft s s' [] [] → R (.ok (.ret (.int 1 t))) s') :
  codeAny (model PG w) A (.call (.ref 147) ⟨[.int 1 t, .str y t2], []⟩) R s :=
  F1.all (w, A, s, H, loose, mg, mb, R, t, t2, y) X T hk hd hR
theorem transl_raw {w : World} {A : Around} {s : Shared} {H : Heap} {loose : List Str} {mg mb : Str → Option Value} {R : Result → Shared → Prop} {io dio : Addr} {h1 h2 h3 : Int} {k1 k2 k3 : Tok} {buf pos : Value} {text : Str} {tn tt : Tok}
  (X : (hd.heap_39 w.params).In H) (T : TopRead Mine.hd.view_39 loose mg mb H) (hk : ∀ b o, H.get? b = some o → s.heap.get? b = some o) (hd : A.depth < recursionLimit)
  (hx : ∀ q ∈ [(io, ioObj 681 dio), (dio, ioDict h1 h2 h3 k1 k2 k3 (.str (Str.ofString "\n") tn) buf pos)], s.heap.get? q.1 = some q.2 ∧ H.get? q.1 = none) (hne : @Ne Nat io dio)
  (hR : ∀ s', Aft s s' [(io, ioObj 681 dio), (dio, ioDict h1 h2 h3 k1 k2 k3 (.str (Str.ofString "\n") tn) buf pos)] [(io, ioObj 681 dio), (dio, ioDict h1 h2 h3 k1 k2 k3 (.str (Str.ofString "\n") tn) buf pos)] → R (.ok (.ret (.str text tt))) s') :
  codeAny (model PG w) A (.call (.ref 458) ⟨[.ref io, .str text tt], []⟩) R s := by
  refine' enterM (binds := [(Str.ofString "self", .ref io), (Str.ofString "s", .str text tt)]) [(io, ioObj 681 dio), (dio, ioDict h1 h2 h3 k1 k2 k3 (.str (Str.ofString "\n") tn) buf pos)] ?k1 ?k2 ?k3 ?k4 ?k6 ?k7 ?k8 ?k9 ?kB ?_ ?c5 ?c2 ?c3 ?c4
  walk_at "m:enter"
  intro g L h₁ hkg hgk F N Xg Tg hHg hlt
  (replace hlt := allLt_of hlt)
  (try dsimp only)
  walk_at "m:steps"
  exact hR _ (Aft.of hkg (by k_asm) (by k_asm) (by walk_at "m:sub") rfl id)
section
variable {w : World} {A : Around} {E : Value → Shared → Prop} {s : Shared} {h₀ : Heap} {L : Addr} {m : Str → Option Value} {news : List (Addr × Obj)} {loose : List Str} {mg mb : Str → Option Value} {Q : Value → Shared → Prop} {io dio : Addr} {h1 h2 h3 : Int} {k1 k2 k3 : Tok} {nl pos : Value} {text : Str} {tt : Tok}
theorem check_w (F : Fr h₀ L s.heap m) (X : (hd.heap_39 w.params).In h₀) (T : TopRead Mine.hd.view_39 loose mg mb h₀) (N : News h₀ L s.heap news) (m1 : (io, ioObj 681 dio) ∈ news) (m2 : (dio, ioDict h1 h2 h3 k1 k2 k3 nl (.str text tt) pos) ∈ news) (hne : @Ne Nat io dio) (hd : A.depth < recursionLimit)
    (h : ∀ s', Fr h₀ L s'.heap m → News h₀ L s'.heap news → s'.os = s.os → (AllBare s.gens → AllBare s'.gens) → Q .none s') : wpAny (model PG w) A (call (.ref 465) [.ref io]) Q E s := by
  refine wpAny_call (check_raw X T F.keep hd (two_own N m1 m2) hne fun s' a => ?_)
  obtain ⟨F', N'⟩ := a.same (ex := []) F N m1 m2
  exact h s' F' N' a.os a.bare
theorem index_w {t t2 : Tok} {y : Str} (F : Fr h₀ L s.heap m) (X : (hd.heap_39 w.params).In h₀) (T : TopRead Mine.hd.view_39 loose mg mb h₀) (N : News h₀ L s.heap news) (hd : A.depth < recursionLimit)
    (h : ∀ s' t, Fr h₀ L s'.heap m → News h₀ L s'.heap news → s'.os = s.os → (AllBare s.gens → AllBare s'.gens) → Q (.int 1 t) s') : wpAny (model PG w) A (call (.ref 147) [.int 1 t, .str y t2]) Q E s := by
  refine wpAny_call (index_raw X T F.keep hd fun s' t a => ?_)
  obtain ⟨F', N'⟩ := a.none F N
  exact h s' t F' N' a.os a.bare
theorem transl_w {buf : Value} {tn : Tok} (F : Fr h₀ L s.heap m) (X : (hd.heap_39 w.params).In h₀) (T : TopRead Mine.hd.view_39 loose mg mb h₀) (N : News h₀ L s.heap news) (m1 : (io, ioObj 681 dio) ∈ news) (m2 : (dio, ioDict h1 h2 h3 k1 k2 k3 (.str (Str.ofString "\n") tn) buf pos) ∈ news) (hne : @Ne Nat io dio) (hd : A.depth < recursionLimit)
    (h : ∀ s', Fr h₀ L s'.heap m → News h₀ L s'.heap news → s'.os = s.os → (AllBare s.gens → AllBare s'.gens) → Q (.str text tt) s') : wpAny (model PG w) A (call (.ref 458) [.ref io, .str text tt]) Q E s := by
  refine wpAny_call (transl_raw X T F.keep hd (two_own N m1 m2) hne fun s' a => ?_)
  obtain ⟨F', N'⟩ := a.same (ex := []) F N m1 m2
  exact h s' F' N' a.os a.bare
end
theorem one_sign (text : Str) (p : Nat) (hp : p < text.length) : Txt.slice (Txt.slice text (some (p : Int)) (some ((p : Int) + 1)) ++ Str.ofString " ") none (some (-1)) = ⟨#[text.cps.getD p 0]⟩ := by
  rw [eq_of_beq (slice_one_closes (x := text) (n := (p : Int)) (by omega) (by omega))]
  have hl : ((⟨#[text.cps.getD (p : Int).toNat 0]⟩ : Str) ++ Str.ofString " ").length = 2 := by rw [Str.length_append]; rfl
  rw [eq_of_beq (slice_closes_to_neg (x := (⟨#[text.cps.getD (p : Int).toNat 0]⟩ : Str) ++ Str.ofString " ") (j := -1) (k := 1) (by omega) (by rw [hl]; omega) (by rw [hl]; omega))]
  rfl
end
-- text ZNH
section
example : True := by
  k_with "~m:room" => (first | assumption | omega | (simp only [depth_deeper, depth_in1, recursionLimit] at *; omega))
  k_with "~call ref" => ((k_here; (first
    | (refine' check_w ?zqk1 ?zqk2 ?zqk3 ?zqk4 ?zqk5 ?zqk6 ?zqk7 ?zqk8 ?_; k_dflt ((case zqk1 | zqk2 | zqk3 | zqk4 => k_asm); (case zqk5 | zqk6 => k_mem); (case zqk7 => k_ne); (case zqk8 => walk_at "m:room"); k_whole; intro _ _ _ _ _; (try k_sweep)))
    | (refine' index_w ?zqk1 ?zqk2 ?zqk3 ?zqk4 ?zqk8 ?_; k_dflt ((case zqk1 | zqk2 | zqk3 | zqk4 => k_asm); (case zqk8 => walk_at "m:room"); k_whole; intro _ _ _ _ _ _; (try k_sweep)))
    | (refine' transl_w ?zqk1 ?zqk2 ?zqk3 ?zqk4 ?zqk5 ?zqk6 ?zqk7 ?zqk8 ?_; k_dflt ((case zqk1 | zqk2 | zqk3 | zqk4 => k_asm); (case zqk5 | zqk6 => k_mem); (case zqk7 => k_ne); (case zqk8 => walk_at "m:room"); k_whole; intro _ _ _ _ _; (try k_sweep))))))
  trivial
theorem read_raw {w : World} {A : Around} {s : Shared} {H : Heap} {loose : List Str} {mg mb : Str → Option Value} {R : Result → Shared → Prop} {io dio : Addr} {h1 h2 h3 : Int} {k1 k2 k3 : Tok} {nl : Value} {text : Str} {tt tp t1 : Tok} {p : Nat}
  (X : (hd.heap_39 w.params).In H) (T : TopRead Mine.hd.view_39 loose mg mb H) (hk : ∀ b o, H.get? b = some o → s.heap.get? b = some o) (hd : A.depth + 2 < recursionLimit)
  (hx : ∀ q ∈ [(io, ioObj 681 dio), (dio, ioDict h1 h2 h3 k1 k2 k3 nl (.str text tt) (.int p tp))], s.heap.get? q.1 = some q.2 ∧ H.get? q.1 = none) (hne : @Ne Nat io dio) (hp : p < text.length) (hl : text.length ≤ 1000000)
  (hR : ∀ s' t t2, Aft s s' [(io, ioObj 681 dio), (dio, ioDict h1 h2 h3 k1 k2 k3 nl (.str text tt) (.int p tp))] [(io, ioObj 681 dio), (dio, ioDict h1 h2 h3 k1 k2 k3 nl (.str text tt) (.int (p + 1) t2))] → R (.ok (.ret (.str ⟨#[text.cps.getD p 0]⟩ t))) s') :
  codeAny (model PG w) A (.call (.ref 627) ⟨[.ref io, .int 1 t1], []⟩) R s := by
  refine' enterM (binds := [(Str.ofString "self", .ref io), (Str.ofString "size", .int 1 t1)]) [(io, ioObj 681 dio), (dio, ioDict h1 h2 h3 k1 k2 k3 nl (.str text tt) (.int p tp))] ?k1 ?k2 ?k3 ?k4 ?k6 ?k7 ?k8 ?k9 ?kB ?_ ?c5 ?c2 ?c3 ?c4
  walk_at "m:enter"
  intro g L h₁ hkg hgk F N Xg Tg hHg hlt
  (replace hlt := allLt_of hlt)
  (try dsimp only)
  have hl63 : ((text.length : Nat) : Int) < 9223372036854775808 := by omega
  have hge : ((p : Nat) : Int) < ((text.length : Nat) : Int) := by omega
  walk_at "m:steps"
  · rename News _ _ _ _ => N9
    rename Fr _ _ _ _ => F9
    rw [one_sign text p hp]
    exact hR _ _ _ (Aft.of hkg F9 N9 (by walk_at "m:sub") (by simp only [*]) (by first | exact id | (intro z; simp_all)))
  · rename News _ _ _ _ => N9
    rename Fr _ _ _ _ => F9
    have hpe : ((text.length : Nat) : Int) = (p : Int) + 1 := by omega
    rw [hpe] at N9 ⊢
    rw [one_sign text p hp]
    exact hR _ _ _ (Aft.of hkg F9 N9 (by walk_at "m:sub") (by simp only [*]) (by first | exact id | (intro z; simp_all)))
theorem read_end_raw {w : World} {A : Around} {s : Shared} {H : Heap} {loose : List Str} {mg mb : Str → Option Value} {R : Result → Shared → Prop} {io dio : Addr} {h1 h2 h3 : Int} {k1 k2 k3 : Tok} {nl : Value} {text : Str} {tt tp t1 : Tok} {p : Nat}
  (X : (hd.heap_39 w.params).In H) (T : TopRead Mine.hd.view_39 loose mg mb H) (hk : ∀ b o, H.get? b = some o → s.heap.get? b = some o) (hd : A.depth + 2 < recursionLimit)
  (hx : ∀ q ∈ [(io, ioObj 681 dio), (dio, ioDict h1 h2 h3 k1 k2 k3 nl (.str text tt) (.int p tp))], s.heap.get? q.1 = some q.2 ∧ H.get? q.1 = none) (hne : @Ne Nat io dio) (hp : text.length ≤ p) (hl : text.length ≤ 1000000)
  (hR : ∀ s' t, Aft s s' [(io, ioObj 681 dio), (dio, ioDict h1 h2 h3 k1 k2 k3 nl (.str text tt) (.int p tp))] [(io, ioObj 681 dio), (dio, ioDict h1 h2 h3 k1 k2 k3 nl (.str text tt) (.int p tp))] → R (.ok (.ret (.str (Str.ofString "") t))) s') :
  codeAny (model PG w) A (.call (.ref 627) ⟨[.ref io, .int 1 t1], []⟩) R s := by
  refine' enterM (binds := [(Str.ofString "self", .ref io), (Str.ofString "size", .int 1 t1)]) [(io, ioObj 681 dio), (dio, ioDict h1 h2 h3 k1 k2 k3 nl (.str text tt) (.int p tp))] ?k1 ?k2 ?k3 ?k4 ?k6 ?k7 ?k8 ?k9 ?kB ?_ ?c5 ?c2 ?c3 ?c4
  walk_at "m:enter"
  intro g L h₁ hkg hgk F N Xg Tg hHg hlt
  (replace hlt := allLt_of hlt)
  (try dsimp only)
  have hl63 : ((text.length : Nat) : Int) < 9223372036854775808 := by omega
  have hge : ((text.length : Nat) : Int) ≤ ((p : Nat) : Int) := by omega
  walk_at "m:steps"
  all_goals
    rename News _ _ _ _ => N9
    rename Fr _ _ _ _ => F9
    exact hR _ _ (Aft.of hkg F9 N9 (by walk_at "m:sub") (by simp only [*]) (by first | exact id | (intro z; simp_all)))
end
-- text ZNI
section

end
section
namespace C6
noncomputable abbrev T := (World) × (Around) × (Shared) × (Heap) × (List Str) × (Str → Option Value) × (Str → Option Value) × (Result → Shared → Prop) × (Addr) × (Addr) × (Str) × (Tok)
noncomputable def Pf (w : World) (A : Around) (s : Shared) (H : Heap) (loose : List Str) (mg : Str → Option Value) (mb : Str → Option Value) (R : Result → Shared → Prop) (io : Addr) (dio : Addr) (text : Str) (tt : Tok) : Prop := ∀ (X : (hd.heap_39 w.params).In H) (T : TopRead Mine.hd.view_39 loose mg mb H) (hk : ∀ b o, H.get? b = some o → s.heap.get? b = some o) (hd : A.depth + 2 < recursionLimit) (hx : ∀ q ∈ [(io, ioObj 681 dio), (dio, dictOf [] 0)], s.heap.get? q.1 = some q.2 ∧ H.get? q.1 = none) (hne : @Ne Nat io dio) (hR : ∀ s' h1 h2 h3 k1 k2 k3 tn tp, Aft s s' [(io, ioObj 681 dio), (dio, dictOf [] 0)] [(io, ioObj 681 dio), (dio, ioDict h1 h2 h3 k1 k2 k3 (.str (Str.ofString "\n") tn) (.str text tt) (.int 0 tp))] → R (.ok (.ret .none)) s'), codeAny (model PG w) A (.call (.ref 451) ⟨[.ref io, .str text tt], []⟩) R s
noncomputable def Q_ (z : T) : Prop := Pf z.1 (z.2.1) (z.2.2.1) (z.2.2.2.1) (z.2.2.2.2.1) (z.2.2.2.2.2.1) (z.2.2.2.2.2.2.1) (z.2.2.2.2.2.2.2.1) (z.2.2.2.2.2.2.2.2.1) (z.2.2.2.2.2.2.2.2.2.1) (z.2.2.2.2.2.2.2.2.2.2.1) (z.2.2.2.2.2.2.2.2.2.2.2)
theorem ne : Nonempty T := ⟨(Classical.choice Mine.neW, Classical.choice Mine.neA, Classical.choice Mine.neS, Classical.choice inferInstance, Classical.choice inferInstance, Classical.choice inferInstance, Classical.choice inferInstance, Classical.choice inferInstance, Classical.choice inferInstance, Classical.choice inferInstance, Classical.choice inferInstance, Classical.choice inferInstance)⟩
noncomputable def z_ : T := @Classical.epsilon _ ne fun z => ¬ Q_ z
@[irreducible] noncomputable def w : World := z_.1
@[irreducible] noncomputable def A : Around := z_.2.1
@[irreducible] noncomputable def s : Shared := z_.2.2.1
@[irreducible] noncomputable def H : Heap := z_.2.2.2.1
@[irreducible] noncomputable def loose : List Str := z_.2.2.2.2.1
@[irreducible] noncomputable def mg : Str → Option Value := z_.2.2.2.2.2.1
@[irreducible] noncomputable def mb : Str → Option Value := z_.2.2.2.2.2.2.1
@[irreducible] noncomputable def R : Result → Shared → Prop := z_.2.2.2.2.2.2.2.1
@[irreducible] noncomputable def io : Addr := z_.2.2.2.2.2.2.2.2.1
@[irreducible] noncomputable def dio : Addr := z_.2.2.2.2.2.2.2.2.2.1
@[irreducible] noncomputable def text : Str := z_.2.2.2.2.2.2.2.2.2.2.1
@[irreducible] noncomputable def tt : Tok := z_.2.2.2.2.2.2.2.2.2.2.2
noncomputable def pk : {P_ : (Heap) → (Addr) → (Heap) → Prop // ∀ (X : (hd.heap_39 w.params).In H) (T : TopRead Mine.hd.view_39 loose mg mb H) (hk : ∀ b o, H.get? b = some o → s.heap.get? b = some o) (hd : A.depth + 2 < recursionLimit) (hx : ∀ q ∈ [(io, ioObj 681 dio), (dio, dictOf [] 0)], s.heap.get? q.1 = some q.2 ∧ H.get? q.1 = none) (hne : @Ne Nat io dio) (hR : ∀ s' h1 h2 h3 k1 k2 k3 tn tp, Aft s s' [(io, ioObj 681 dio), (dio, dictOf [] 0)] [(io, ioObj 681 dio), (dio, ioDict h1 h2 h3 k1 k2 k3 (.str (Str.ofString "\n") tn) (.str text tt) (.int 0 tp))] → R (.ok (.ret .none)) s'), (∀ g L h₁, P_  g L h₁) → codeAny (model PG w) A (.call (.ref 451) ⟨[.ref io, .str text tt], []⟩) R s} := ⟨_, fun  X T hk hd hx hne hR k_ => by
  refine' enterM (binds := [(Str.ofString "self", .ref io), (Str.ofString "initial_value", .str text tt), (Str.ofString "newline", .str (Str.ofString "\n") 856)]) [(io, ioObj 681 dio), (dio, dictOf [] 0)] ?k1 ?k2 ?k3 ?k4 ?k6 ?k7 ?k8 ?k9 ?kB ?_ ?c5 ?c2 ?c3 ?c4
  walk_at "m:enter"
  exact k_⟩
noncomputable abbrev T2 := (Heap) × (Addr) × (Heap)
noncomputable def Pf2 (g : Heap) (L : Addr) (h₁ : Heap) : Prop := ∀ (X : (hd.heap_39 w.params).In H) (T : TopRead Mine.hd.view_39 loose mg mb H) (hk : ∀ b o, H.get? b = some o → s.heap.get? b = some o) (hd : A.depth + 2 < recursionLimit) (hx : ∀ q ∈ [(io, ioObj 681 dio), (dio, dictOf [] 0)], s.heap.get? q.1 = some q.2 ∧ H.get? q.1 = none) (hne : @Ne Nat io dio) (hR : ∀ s' h1 h2 h3 k1 k2 k3 tn tp, Aft s s' [(io, ioObj 681 dio), (dio, dictOf [] 0)] [(io, ioObj 681 dio), (dio, ioDict h1 h2 h3 k1 k2 k3 (.str (Str.ofString "\n") tn) (.str text tt) (.int 0 tp))] → R (.ok (.ret .none)) s'), pk.1  g L h₁
noncomputable def Q2 (z : T2) : Prop := Pf2 z.1 (z.2.1) (z.2.2)
theorem ne2 : Nonempty T2 := ⟨(Classical.choice inferInstance, Classical.choice inferInstance, Classical.choice inferInstance)⟩
noncomputable def z2_ : T2 := @Classical.epsilon _ ne2 fun z => ¬ Q2 z
@[irreducible] noncomputable def g : Heap := z2_.1
@[irreducible] noncomputable def L : Addr := z2_.2.1
@[irreducible] noncomputable def h₁ : Heap := z2_.2.2
theorem core2 : Pf2 g L h₁ := by
  unfold Pf2
  intro X T hk hd hx hne hR
  dsimp only [pk]
  intro hkg hgk F N Xg Tg hHg hlt
  (replace hlt := allLt_of hlt)
  (try dsimp only)
  walk_at "m:steps"
  rename News _ _ _ _ => N9
  rename Fr _ _ _ _ => F9
  exact hR _ _ _ _ _ _ _ _ _ (Aft.of hkg F9 N9 (by walk_at "m:sub") (by simp only [*]) (by first | exact id | (intro z; simp_all)))
theorem core : Pf w A s H loose mg mb R io dio text tt := by
  unfold Pf
  intro X T hk hd hx hne hR
  exact pk.2  X T hk hd hx hne hR fun g L h₁ => eps_all ne2 Q2 (by with_unfolding_all exact core2) (g, L, h₁)  X T hk hd hx hne hR
theorem all (y : T) : Q_ y := eps_all ne Q_ (by with_unfolding_all exact core) y
end C6
end
section
theorem ioinit_raw {w : World} {A : Around} {s : Shared} {H : Heap} {loose : List Str} {mg mb : Str → Option Value} {R : Result → Shared → Prop} {io dio : Addr} {text : Str} {tt : Tok}
  (X : (hd.heap_39 w.params).In H) (T : TopRead Mine.hd.view_39 loose mg mb H) (hk : ∀ b o, H.get? b = some o → s.heap.get? b = some o) (hd : A.depth + 2 < recursionLimit)
  (hx : ∀ q ∈ [(io, ioObj 681 dio), (dio, dictOf [] 0)], s.heap.get? q.1 = some q.2 ∧ H.get? q.1 = none) (hne : @Ne Nat io dio)
  (hR : ∀ s' h1 h2 h3 k1 k2 k3 tn tp, Aft s s' [(io, ioObj 681 dio), (dio, dictOf [] 0)] [(io, ioObj 681 dio), (dio, ioDict h1 h2 h3 k1 k2 k3 (.str (Str.ofString "\n") tn) (.str text tt) (.int 0 tp))] → R (.ok (.ret .none)) s') :
  codeAny (model PG w) A (.call (.ref 451) ⟨[.ref io, .str text tt], []⟩) R s :=
  C6.all (w, A, s, H, loose, mg, mb, R, io, dio, text, tt) X T hk hd hx hne hR
end
-- text ZNJ
section

theorem peek_alloc {α : Type} {K : Frag} {M : Model} {A : Around} {E : Value → Shared → Prop} {Q : α → Shared → Prop} {s : Shared} {o : Obj} (X : K.In s.heap) :
    ∀ (t : Sem α) (g : Addr → Sem α), peekA K ⟨M.prog, M.w.params⟩ t = some (o, g) → wpAny M A (g s.heap.objs.size) Q E { s with heap := s.heap.push o } → wpAny M A t Q E s := by
  intro t
  induction t with
  | rule _ k ih => intro g e q Γ p hΓ; exact ih () g e q Γ p hΓ
  | point _ k ih => intro g e q Γ p hΓ; exact ih () g e q Γ p hΓ
  | ask k ih => intro g e q Γ p hΓ; exact ih _ g e q Γ p hΓ
  | load a _ k ih =>
    intro g e q Γ p hΓ
    simp only [peekA] at e
    split at e
    · rename_i ob ho; exact ⟨ob, X _ _ ho, ih ob g e q Γ p hΓ⟩
    · cases e
  | alloc ob k _ =>
    intro g e q
    have e : some (ob, k) = some (o, g) := e
    obtain ⟨e1, e2⟩ := Prod.mk.inj (Option.some.inj e)
    subst e1
    subst e2
    show wpAny M A (alloc ob >>= k) Q E s
    exact wpAny_bind (wpAny_alloc q)
  | _ => intro g e; cases e
theorem enterV {prog : Program} {w : World} {A : Around} {s : Shared} {K : Frag} {p : Program} {loose : List Str} {mg mb : Str → Option Value}
  {R : Result → Shared → Prop} {name qual : Str} {params : Arguments} {body : List Stmt} {scope : Scope} {dV kV doc pm cdv ct oc : Value} {an od : Option Addr} {osl : Array (Option Value)} {f : Addr} {args : Args} {binds : List (Str × Value)} (hB : Heap)
  (X : K.In s.heap) (T : TopRead p loose mg mb s.heap) (hkB : ∀ b o, s.heap.get? b = some o → hB.get? b = some o)
  (ho : K.lookup f = some ⟨oc, od, .func (fnOf name qual params body scope dV kV doc pm an cdv ct), osl⟩) (hcd : codeIn K cdv qual = true) (hroom : A.depth < recursionLimit)
  (hbind : ∀ (A : Around) (E : Value → Shared → Prop) (Q : List (Str × Value) → Shared → Prop), Q binds { s with heap := hB } → wpAny (model prog w) A (bindArgs (fnOf name qual params body scope dV kV doc pm an cdv ct) args) Q E s) (hloc : ∀ y ∈ binds, scope.names.lookup y.1 = some .local)
  (hsz : s.heap.objs.size ≤ hB.objs.size)
  (h : ∀ L h₁, (∀ b o, hB.get? b = some o → h₁.get? b = some o) → Fr s.heap L h₁ (fun y => binds.reverse.lookup y) →
      wpAny (model prog w) (A.deeper (envOf qual scope L f cdv)) (execs body (envOf qual scope L f cdv))
        (fun fl s' => R (.ok (.ret (match fl with | .ret v => v | _ => .none))) s')
        (fun e s' => wpAny (model prog w) (A.deeper (envOf qual scope L f cdv)) (leaving (envOf qual scope L f cdv) e) (fun _ s'' => R (.error e) s'') (fun e' s'' => R (.error e') s'') s')
        { s with heap := h₁, toks := s.toks + binds.length })
  (hcell : ∀ x ∈ scope.names, x.2 ≠ .cell) (hco : scope.isCoroutine = false) (hgen : scope.isGenerator = false) (hkd : scope.kind = .function) :
  codeAny (model prog w) A (.call (.ref f) args) R s := by
  refine codeAny_call_function (fd := fnOf name qual params body scope dV kV doc pm an cdv ct) (body := body) hroom (X _ _ ho) rfl hco hgen rfl (codeRec_of X hcd) (hbind _ _ _ ?_)
  refine wpAny_newFunctionEnv hcell hloc (fun h₁ hns hsb => ⟨(T.nolimit.keeps hkB).fresh _ hsb, codeAny_func ?_⟩) hkd
  have kk : ∀ b o, hB.get? b = some o → h₁.get? b = some o := fun b o e => hsb.extBut b o (Nat.ne_of_lt (Heap.lt_size e)) (Heap.get?_push_of_some _ e)
  exact h hB.objs.size h₁ kk ⟨hns, fun b o e => kk b o (hkB b o e), hsz⟩
theorem isnot_cls {prog : Program} {w : World} {A : Around} {E : Value → Shared → Prop} {s : Shared} {a b : Addr} {oa ob : Obj} {Q : Value → Shared → Prop} (ha : s.heap.get? a = some oa) (hb : s.heap.get? b = some ob) (hc : (match oa.cls with | .type n => n != "tuple" | _ => true) = true) (hab : (a == b) = false) (q : Q (.bool true) s) :
    wpAny (model prog w) A (compareOp .IsNot (.ref a) (.ref b)) Q E s := by
  refine wpAny_bind ?_
  unfold isSame
  dsimp only
  rw [if_neg (by rw [hab]; exact Bool.false_ne_true)]
  refine wpAny_bind (wpAny_load ha (wpAny_bind (wpAny_load hb ?_)))
  obtain ⟨oc, od, oda, osl⟩ := oa
  cases oc with
  | type n =>
    delta PySem.emptiesJoinedAsOfOld.match_1
    show wpAny _ _ (dite (n = "tuple") _ _) _ _ _
    rw [dif_neg (show ¬ n = "tuple" from fun e => absurd (show (n != "tuple") = true from hc) (by rw [e]; decide))]
    exact wpAny_pure (wpAny_pure q)
  | _ => exact wpAny_pure (wpAny_pure q)
theorem isnot_same {prog : Program} {w : World} {A : Around} {E : Value → Shared → Prop} {s : Shared} {a : Addr} {Q : Value → Shared → Prop} (q : Q (.bool false) s) : wpAny (model prog w) A (compareOp .IsNot (.ref a) (.ref a)) Q E s := by
  refine wpAny_bind ?_
  unfold isSame
  dsimp only
  rw [if_pos (by rw [beq_self_eq_true])]
  exact wpAny_pure (wpAny_pure q)
example : True := by
  k_with "~compareOp IsNot ref ref" => ((k_here; k_dflt (first | refine isnot_same ?_ | (refine' isnot_cls ?zqk1 ?zqk2 ?zqk3 ?zqk4 ?_; (case zqk1 | zqk2 => exact Frag.In.keeps (K := Mine.hd.heap_39 _) (by assumption) (Fr.keep (by assumption)) _ _ rfl); (case zqk3 | zqk4 => rfl)))))
  k_with "~compareOp IsNot" => ((k_here; k_dflt (first | refine isnot_same ?_ | (refine' isnot_cls ?zqk1 ?zqk2 ?zqk3 ?zqk4 ?_; (case zqk1 | zqk2 => exact Frag.In.keeps (K := Mine.hd.heap_39 _) (by assumption) (Fr.keep (by assumption)) _ _ rfl); (case zqk3 | zqk4 => rfl)))))
  trivial
section
variable {w : World} {A : Around} {E : Value → Shared → Prop} {s : Shared} {h₀ : Heap} {L : Addr} {m : Str → Option Value} {news : List (Addr × Obj)} {loose : List Str} {mg mb : Str → Option Value} {Q : Value → Shared → Prop}
theorem made681 {M : Model} {h : Heap} (X : (Mine.hd.heap_39 M.w.params).In h) : Looks M h (Bind.madeBy (.ref 681)) none := Looks.of_peek X (by kernel_rfl)
theorem base681 {M : Model} {h : Heap} (X : (Mine.hd.heap_39 M.w.params).In h) : Looks M h (Bind.madeHere "object.__new__" (.ref 681)) () := Looks.of_peek X (by kernel_rfl)
theorem call681 {M : Model} {h : Heap} (X : (Mine.hd.heap_39 M.w.params).In h) : Looks M h (specialOf (.ref 681) "__call__") (some (.builtin "type.__call__")) := Looks.of_peek X (by kernel_rfl)
theorem mro681 {M : Model} {h : Heap} (X : (Mine.hd.heap_39 M.w.params).In h) : Looks M h (mroOf (.ref 681)) [.ref 681, .ref 204, .ref 177, .type "object"] := Looks.of_peek X (by kernel_rfl)
theorem getnew681 (F : Fr h₀ L s.heap m) (X : (Mine.hd.heap_39 w.params).In h₀) (T : TopRead Mine.hd.view_39 loose mg mb h₀) (N : News h₀ L s.heap news) (q : Q (.ref 174) { s with toks := s.toks + 1 }) : wpAny (model PG w) A (getAttr (.ref 681) (Str.ofString "__new__")) Q E s := by
  walk_at "m:steps"
  exact q
theorem sub681 {M : Model} {h : Heap} (X : (Mine.hd.heap_39 M.w.params).In h) : Looks M h (isSubtype (.ref 681) (.type "object")) true := Looks.of_peek X (by kernel_rfl)
theorem self681 {M : Model} {h : Heap} (X : (Mine.hd.heap_39 M.w.params).In h) : Looks M h (isSubtype (.ref 681) (.ref 681)) true := Looks.of_peek X (by kernel_rfl)
theorem typ681 {M : Model} {h : Heap} (X : (Mine.hd.heap_39 M.w.params).In h) : Looks M h (isInstance (.ref 681) (.type "type")) true := Looks.of_peek X (by kernel_rfl)
theorem chk681 {M : Model} {h : Heap} (X : (Mine.hd.heap_39 M.w.params).In h) : Looks M h (checkBuiltinCall "object.__new__" ⟨[.ref 681], []⟩) () := Looks.of_peek X (by kernel_rfl)
theorem istype681 {M : Model} {h : Heap} (X : (Mine.hd.heap_39 M.w.params).In h) : Looks M h (isType (.ref 681)) true := Looks.of_peek X (by kernel_rfl)
theorem new681 {h : Heap} {g : Array GenState} {d : Drawn} {t : Nat} {os : OsState} {R : Result → Shared → Prop} (X : (Mine.hd.heap_39 w.params).In h)
    (hq : R (.ok (.ret (.ref (h.objs.size + 1)))) ⟨(h.push emptyDict).push (instObj 681 h.objs.size), g, d, t, os⟩) :
    codeAny (model PG w) A (.call (.builtin "object.__new__") ⟨[.ref 681], []⟩) R ⟨h, g, d, t, os⟩ := by
  have hC := X 681 _ rfl
  have here := base681 (M := model PG w) X
  have ist := istype681 (M := model PG w) X
  have F := PySem.F.objNew
  refine codeAny_of_tree ?_
  show wpAny _ A.in1 (do checkBuiltinCall "object.__new__" ⟨[.ref 681], []⟩; again (.builtin "object.__new__" ⟨[.ref 681], []⟩)) _ _ _
  refine wpAny_bind ((chk681 (M := model PG w) X).at (wpAny_pure ⟨Code.quiet_builtin _ F.quiet, codeAny_builtin F.entry ?_⟩))
  unfold Builtin.«object.__new__»
  refine wpAny_bind (ist.at ?_)
  simp -iota only [Bool.not_true, Bool.false_eq_true, if_false]
  try dsimp only
  refine wpAny_bind (here.at ?_)
  rw [if_neg (by decide)]
  refine wpAny_bind ?_
  unfold classData
  refine wpAny_bind (wpAny_loadPart hC (wpAny_pure ?_))
  rw [if_neg (show ¬ ((_ : Bool) = true) from Bool.false_ne_true)]
  show wpAny _ _ ((alloc emptyDict >>= fun x => pure (some x)) >>= _) _ _ _
  refine wpAny_bind (wpAny_bind (wpAny_alloc (wpAny_pure (wpAny_bind ?_))))
  show wpAny _ _ (newObjAsIs _ _ _) _ _ _
  unfold newObjAsIs classHasDel
  refine wpAny_bind (wpAny_alloc (wpAny_bind (wpAny_bind (wpAny_load (Heap.get?_push_of_some _ (Heap.get?_push_of_some _ hC)) (wpAny_pure ?_)))))
  refine wpAny_pure (wpAny_pure ?_)
  show R _ _
  rw [Heap.size_push]
  exact hq
end
theorem newio_raw {w : World} {A : Around} {s : Shared} {loose : List Str} {mg mb : Str → Option Value} {R : Result → Shared → Prop} {text : Str} {tt : Tok}
  (X : (Mine.hd.heap_39 w.params).In s.heap) (T : TopRead Mine.hd.view_39 loose mg mb s.heap) (hd : A.depth + 2 < recursionLimit)
  (hR : ∀ s' io dio, (∀ b o, s.heap.get? b = some o → s'.heap.get? b = some o) → s'.heap.get? io = some (ioObj 681 dio) → s'.heap.get? dio = some (dictOf [] 0) → s.heap.get? dio = none → s.heap.get? io = none → @LT.lt Nat _ dio io → s'.os = s.os → (AllBare s.gens → AllBare s'.gens) → R (.ok (.ret (.ref io))) s') :
  codeAny (model PG w) A (.call (.ref 174) ⟨[.ref 681, .str text tt], []⟩) R s := by
  have X1 : (Mine.hd.heap_39 w.params).In (s.heap.push { cls := .type "tuple", data := .seq #[.str text tt] }) := X.keeps fun _ _ e => Heap.get?_push_of_some _ e
  refine' enterV (binds := [(Str.ofString "cls", Value.ref 681), (Str.ofString "args", .ref s.heap.objs.size), (Str.ofString "kwargs", .ref (s.heap.push { cls := .type "tuple", data := .seq #[.str text tt] }).objs.size)]) ((s.heap.push { cls := .type "tuple", data := .seq #[.str text tt] }).push (dictOf [] 0)) X T (fun _ _ e => Heap.get?_push_of_some _ (Heap.get?_push_of_some _ e)) ?k6 ?k7 ?k8 ?k9 ?kB ?hsz ?_ ?c5 ?c2 ?c3 ?c4
  case k6 => exact rfl
  case k7 => k_is
  case k8 => omega
  case k9 =>
    intro A E Q q
    refine peek_alloc (K := Mine.hd.heap_39 w.params) X _ _ (by with_unfolding_all rfl) ?_
    refine peek_alloc (K := Mine.hd.heap_39 w.params) X1 _ _ (by with_unfolding_all rfl) ?_
    exact wpAny_pure q
  case kB => exact locs rfl
  case hsz => rw [Heap.size_push, Heap.size_push]; exact Nat.le_add_right _ 2
  case c5 => decide
  case c2 => exact rfl
  case c3 => exact rfl
  case c4 => exact rfl
  clear X1
  intro L h₁ hkB F
  have N : News s.heap L h₁ [] := News.nil
  (try dsimp only)
  walk_at "m:steps"
  refine wpAny_call (new681 (X.keeps F.keep) ?_)
  have hsz : @LT.lt Nat _ s.heap.objs.size h₁.objs.size := Nat.lt_of_le_of_lt F.above F.ns.lt
  refine hR _ _ _ (fun b o e => Heap.get?_push_of_some _ (Heap.get?_push_of_some _ (F.keep b o e))) (by heap_get) (Heap.get?_push_of_some _ (Heap.get?_push_size _ rfl)) (Heap.get?_none_of_le (Nat.le_of_lt hsz)) (Heap.get?_none_of_le (Nat.le_succ_of_le (Nat.le_of_lt hsz))) (Nat.lt_succ_self _) rfl id
end
example : True := by
  k_with_none
  k_with "~m:enter" => (((case k1 | k2 | k3 => assumption); (case k4 => first | assumption | (intro _ hq; cases hq)); (case k6 | k7 => k_is); (case k8 => first | assumption | omega | (simp only [depth_deeper, depth_in1, recursionLimit] at *; omega)); (case k9 => first | exact BindsTo.of_eq rfl | exact binds_K (Frag.In.keeps (by assumption) (by assumption)) rfl (by k_is) rfl rfl rfl); (case c5 => decide); (case kB => exact locs rfl); (case c2 | c3 | c4 => exact rfl)))
  k_with "~k_inst" => ((refine' InstAt.of_accN ?zqN ?zqh1 ?zqh2; (case zqN => k_asm); (case zqh1 | zqh2 => k_mem)))
  k_with "~m:shadow" => ((refine shadow_of ?_; k_get))
  k_with "~getMethod ref" => ((k_here; (first
    | (refine' method_fnG ?zqk1 ?zqk2 ?zqk3 ?zqk4 ?zqk5 ?zqk6 ?zqk7 ?zqk8 ?_; k_dflt ((case zqk1 => k_in); (case zqk2 => k_inst); (case zqk3 => k_is); (case zqk4 => first | with_reducible exact canon_list_ga | with_reducible exact PySem.F.canon_object_ga | decide +kernel); (case zqk5 | zqk6 | zqk7 => k_is); (case zqk8 => walk_at "m:shadow"); k_whole))
    | (refine' method_biG ?zqk1 ?zqk2 ?zqk3 ?zqk4 ?zqk5 ?zqk6 ?zqk7 ?zqk8 ?zqk9 ?_; k_dflt ((case zqk1 => k_in); (case zqk2 => k_inst); (case zqk3 => k_is); (case zqk4 => first | with_reducible exact canon_list_ga | with_reducible exact PySem.F.canon_object_ga | decide +kernel); (case zqk5 | zqk6 | zqk7 => k_is); (case zqk8 => decide); (case zqk9 => walk_at "m:shadow"); k_whole)))))
  k_with "~call builtin:list.append" => ((k_here; (refine' append_acc ?zqk1 ?zqk2 ?zqk3 ?zqk4 ?zqk5 ?zqk6 ?_ ?zqk7; k_dflt ((case zqk1 | zqk2 | zqk3 => k_asm); (case zqk6 => k_upd); (case zqk4 => exact (News.get (by k_asm) (by k_mem))); (case zqk5 => k_is); (case zqk7 => first | assumption | (simp only [sizeLine_eq]; omega)); k_whole)); intro _ _ _; (try k_sweep)))
  k_with "~getMethod ref" => ((k_here; ks_any; k_dflt (first
    | (refine' superM ?zqk1 ?zqk2 ?zqk3 ?zqk4 ?zqk5 ?zqk6 ?zqk7 ?zqk8 lk_wget ?zqk9 (fun h hi => binds_of plain_wget entry_wget (chk_wlen _ _) (get_len _ _) hi) ?zqk10 ?_; (case zqk1 | zqk2 | zqk3 => k_asm); (case zqk4 => k_mem); (case zqk5 => k_inst); (case zqk6 => k_is); (case zqk7 => ks_is); (case zqk8 | zqk9 => k_is); (case zqk10 => decide); k_whole; intro _ _ _ _ l1; (try (replace l1 := allLt_of l1)); revert l1; intro _; (try k_sweep))
    | (refine' superM ?zqk1 ?zqk2 ?zqk3 ?zqk4 ?zqk5 ?zqk6 ?zqk7 ?zqk8 lk_wget ?zqk9 (fun h hi => binds_of plain_wget entry_wget (chk_winit _ _) (get_init _ _) hi) ?zqk10 ?_; (case zqk1 | zqk2 | zqk3 => k_asm); (case zqk4 => k_mem); (case zqk5 => k_inst); (case zqk6 => k_is); (case zqk7 => ks_is); (case zqk8 | zqk9 => k_is); (case zqk10 => decide); k_whole; intro _ _ _ _ l1; (try (replace l1 := allLt_of l1)); revert l1; intro _; (try k_sweep))
    | (refine' superM ?zqk1 ?zqk2 ?zqk3 ?zqk4 ?zqk5 ?zqk6 ?zqk7 ?zqk8 lk_mget ?zqk9 (fun h hi => binds_of plain_mget entry_mget (chk_mpop _ _) (get_pop _ _) hi) ?zqk10 ?_; (case zqk1 | zqk2 | zqk3 => k_asm); (case zqk4 => k_mem); (case zqk5 => k_inst); (case zqk6 => k_is); (case zqk7 => ks_is); (case zqk8 | zqk9 => k_is); (case zqk10 => decide); k_whole; intro _ _ _ _ l1; (try (replace l1 := allLt_of l1)); revert l1; intro _; (try k_sweep)))))
  k_with "~wpAt" => ((ks_step "attributeBase Call"; k_here; k_dflt (refine node_M (by k_asm) (by k_asm) (by k_asm) (by k_asm) (by k_is) (by rfl) (by rfl) (by k_inst) (by k_is) (by rfl) (by first | rfl | decide +kernel) (by k_is) (by k_is) (by k_is) (by k_is) (by decide) (by rfl) (by rfl) (by rfl) (by rfl) (by decide +kernel) (by first | boot_by_name | rfl | kernel_rfl) ?_; intro _ _ _ _ l1; (try (replace l1 := allLt_of l1)); revert l1; intro _; (try k_sweep))))
  k_with "~callWith ref" => ((k_here; (first
    | (refine' callWith_B0 ?zqk1 ?zqk2 ?_; k_dflt ((case zqk1 => exact (News.get (by k_asm) (by k_mem))); (case zqk2 => decide); k_whole; try dsimp only [List.nil_append, List.cons_append]))
    | (refine' callWith_B ?zqk1 ?zqk2 ?_ ?zqk3 ?zqk4; k_dflt ((case zqk1 => k_is); (case zqk2 => decide); (case zqk3 | zqk4 => rfl); k_whole)))))
  k_with "~call ref" => ((k_here; (first
    | (refine' super_len ?zqk1 ?zqk2 ?_; k_dflt ((case zqk1 | zqk2 => exact (News.get (by k_asm) (by k_mem))); k_whole))
    | (refine' super_init ?zqk1 ?zqk2 ?zqk3 ?zqk4 ?zqk5 ?_; k_dflt ((case zqk1 | zqk2 => k_asm); (case zqk3 => exact (News.get (by k_asm) (by k_mem))); (case zqk5 => k_upd); (case zqk4 => k_ne); k_whole; intro _ _ _; (try k_sweep)))
    | (refine' super_pop ?zqk1 ?zqk2 ?zqk3 ?zqk4 ?zqk5 ?zqk6 ?zqk7 ?zqk8 ?zqk9 ?zqk10 ?zqk11 ?_; k_dflt ((case zqk1 | zqk2 | zqk3 => k_asm); (case zqk4 => exact (News.get (by k_asm) (by k_mem))); (case zqk10 => k_upd); (case zqk5 => exact (News.get (by k_asm) (by k_mem))); (case zqk6 | zqk7 => k_is); (case zqk8 => rfl); (case zqk9 => k_is); (case zqk11 => first | assumption | (simp only [sizeLine_eq]; omega)); k_whole; intro _ _ _; (try k_sweep))))))
  k_with "~m:sub" => (first | exact List.forall_mem_nil _ | (refine List.forall_mem_cons.mpr ⟨by k_mem, ?_⟩; walk_at "m:sub"))
  k_with "~setAttr ref" => ((k_here; (refine' set_acc ?zqk1 ?zqk2 ?zqk3 ?zqk4 ?zqk5 ?zqk6 ?zqk7 ?zqk8 ?zqk9 ?zqk10 ?zqk11 ?zqk12 ?zqk13 ?_; k_dflt ((case zqk1 | zqk2 | zqk3 => k_asm); (case zqk4 => k_inst); (case zqk5 => exact rfl); (case zqk6 => k_is); (case zqk7 => rfl); (case zqk8 | zqk9 => k_is); (case zqk10 => k_get); (case zqk11 => k_put); (case zqk12 => k_upd); (case zqk13 => exact Nat.le_of_ble_eq_true rfl); k_whole; intro _ _ _; (try k_sweep)))))
  k_with "~subscriptTail" => ((k_here; (with_reducible show wpAny _ _ (subscriptTail _ _ (Value.ref _) (Value.ref _)) _ _ _); (refine' slice_acc ?zqk1 ?zqk2 ?zqk3 ?zqk4 ?zqk5 ?zqk6 ?zqk7 ?zqk8 ?zqk9 ?zqk10 ?_ ?zqk11 ?zqk12 ?zqk13; k_dflt ((case zqk1 | zqk2 | zqk3 => k_asm); (case zqk4 => k_inst); (case zqk5 => exact rfl); (case zqk6 | zqk7 | zqk8 => k_is); (case zqk9 | zqk10 => first | exact IsPart.none | exact IsPart.int _ _); (case zqk11 => with_unfolding_all rfl); (case zqk12 => intro _; with_unfolding_all rfl); (case zqk13 => first | assumption | (simp only [sizeLine_eq]; omega)); k_whole; intro _ _ _ _ l1; (try (replace l1 := allLt_of l1)); revert l1; intro _; (try k_sweep)))))
  k_with "~m:steps" => (repeat' (first | (walk1; (try dsimp only)) | (dsimp only; walk1; (try dsimp only)) | fail "no step"))
  k_with "~k_in" => ((refine' Frag.In.keeps ?zqkx ?zqkh; (case zqkx => with_reducible assumption); (case zqkh => exact Fr.keep (by with_reducible assumption))))
  k_with "~k_ne" => ((refine neN ?_; (try dsimp only); (try dsimp only [AllLt] at *); omega))
  k_with "~k_ne" => (first | with_reducible assumption | (refine Ne.symm ?_; with_reducible assumption) | (refine' ne_lt ?zqkh ?zqkm; (case zqkh => with_reducible assumption); (case zqkm => k_mem)) | (refine' Ne.symm (ne_lt ?zqkh ?zqkm); (case zqkh => with_reducible assumption); (case zqkm => k_mem)) | (refine neN ?_; decide))
  trivial
-- text ZNK
section
example : True := by
  k_with "~wpAt" => ((ks_step "exec Expr"; k_dflt (refine ks_wpAt_Expr_any ?_)))
  k_with "~wpAt" => ((ks_step "eval Call"; k_dflt (refine ks_wpAt_MethodCall ?_)))
  k_with "~m:room" => (first | assumption | omega | (simp only [depth_deeper, depth_in1, recursionLimit] at *; omega))
  k_with "~call ref" => ((k_here; (first
    | (refine' check_w ?zqk1 ?zqk2 ?zqk3 ?zqk4 ?zqk5 ?zqk6 ?zqk7 ?zqk8 ?_; k_dflt ((case zqk1 | zqk2 | zqk3 | zqk4 => k_asm); (case zqk5 | zqk6 => k_mem); (case zqk7 => k_ne); (case zqk8 => walk_at "m:room"); k_whole; intro _ _ _ _ _; (try k_sweep)))
    | (refine' index_w ?zqk1 ?zqk2 ?zqk3 ?zqk4 ?zqk8 ?_; k_dflt ((case zqk1 | zqk2 | zqk3 | zqk4 => k_asm); (case zqk8 => walk_at "m:room"); k_whole; intro _ _ _ _ _ _; (try k_sweep)))
    | (refine' transl_w ?zqk1 ?zqk2 ?zqk3 ?zqk4 ?zqk5 ?zqk6 ?zqk7 ?zqk8 ?_; k_dflt ((case zqk1 | zqk2 | zqk3 | zqk4 => k_asm); (case zqk5 | zqk6 => k_mem); (case zqk7 => k_ne); (case zqk8 => walk_at "m:room"); k_whole; intro _ _ _ _ _; (try k_sweep))))))
  trivial
theorem fresh_of {h₀ h : Heap} {L a : Addr} {m : Str → Option Value} (F : Fr h₀ L h m) (ha : h.get? a = none) : a ≠ L ∧ h₀.get? a = none := by
  obtain ⟨oL, es, ep, hL', r⟩ := F.ns
  refine ⟨fun z => ?_, ?_⟩
  · rw [z, hL'] at ha; cases ha
  · cases e : h₀.get? a with
    | none => rfl
    | some o => have := F.keep _ _ e; rw [ha] at this; cases this
section
variable {w : World} {A : Around} {s : Shared} {h₀ : Heap} {L : Addr} {m : Str → Option Value} {news : List (Addr × Obj)} {loose : List Str} {mg mb : Str → Option Value} {R : Result → Shared → Prop} {text : Str} {tt : Tok}
theorem makeio (F : Fr h₀ L s.heap m) (X₀ : (Mine.hd.heap_39 w.params).In h₀) (T : TopRead Mine.hd.view_39 loose mg mb h₀) (N : News h₀ L s.heap news) (hd : A.depth + 5 < recursionLimit)
    (hR : ∀ s' io dio h1 h2 h3 k1 k2 k3 tn tp, Fr h₀ L s'.heap m → News h₀ L s'.heap ((io, ioObj 681 dio) :: (dio, ioDict h1 h2 h3 k1 k2 k3 (.str (Str.ofString "\n") tn) (.str text tt) (.int 0 tp)) :: news) → (∀ p ∈ news, @Ne Nat p.1 io ∧ @Ne Nat p.1 dio) → @Ne Nat io dio → s'.os = s.os → (AllBare s.gens → AllBare s'.gens) → R (.ok (.ret (.ref io))) s') :
    codeAny (model PG w) A (.call (.ref 681) ⟨[.str text tt], []⟩) R s := by
  have X : (Mine.hd.heap_39 w.params).In s.heap := X₀.keeps F.keep
  have hC := X 681 _ rfl
  have call := call681 (M := model PG w) X
  have typ := typ681 (M := model PG w) X
  have hm := mro681 (M := model PG w) X
  have made := made681 (M := model PG w) X
  refine codeAny_of_tree ?_
  show wpAny _ _ (callAny (.ref 681) _) _ _ _
  unfold callAny
  refine wpAny_bind (wpAny_load hC ?_)
  show wpAny _ _ (callAny.viaDunder (.ref 681) _) _ _ _
  unfold callAny.viaDunder
  refine wpAny_bind (call.here ?_)
  dsimp only
  rw [tc_bind]
  refine wpAny_bind (wpAny_pure (wpAny_bind (wpAny_pure ?_)))
  refine wpAny_pure (a := Fin.again (.call (.builtin "type.__call__") ⟨[.ref 681, .str text tt], []⟩)) (And.intro rfl ?_)
  obtain ⟨hp, g, d, t, os⟩ := s
  refine codeAny_call_builtin_at (Code.quiet_builtin _ (by decide +kernel)) entry_typeCall (check_slot tc_kind tc_split typ (tc_args _ _ _) ?_)
  unfold Builtin.«type.__call__»
  dsimp only
  rw [if_neg (by decide)]
  refine wpAny_bind (hm.at ?_)
  rw [if_neg (by decide)]
  refine wpAny_bind (made.at ?_)
  dsimp only
  refine wpAny_bind (getnew681 (s := ⟨hp, g, d, t, os⟩) F X₀ T N ?_)
  refine wpAny_bind (wpAny_holding (wpAny_call (newio_raw (X₀.keeps F.keep) (T.keeps F.keep) ?hd1 fun s₁ io dio hk gio gdio fd fi hlt os₁ b₁ => ?_)))
  case hd1 => show A.depth + 1 + 2 < recursionLimit; omega
  have F₁ : Fr h₀ L s₁.heap m := F.keeps hk
  have X₁ : (Mine.hd.heap_39 w.params).In s₁.heap := X₀.keeps F₁.keep
  have hio : s₁.TypeIs (.ref io) "x" ∨ True := .inr trivial
  have tyio : Looks (model PG w) s₁.heap (typeOf (.ref io)) (.ref 681) := (Looks.ld gio).andThen .now
  have inst : Looks (model PG w) s₁.heap (isInstance (.ref io) (.ref 681)) true := tyio.andThen (self681 (M := model PG w) X₁)
  have hne : @Ne Nat io dio := Nat.ne_of_gt hlt
  have N₁ : News h₀ L s₁.heap ((io, ioObj 681 dio) :: (dio, dictOf [] 0) :: news) := by
    intro p hp'
    rcases List.mem_cons.mp hp' with rfl | hp'
    · exact ⟨gio, fresh_of F fi⟩
    · rcases List.mem_cons.mp hp' with rfl | hp'
      · exact ⟨gdio, fresh_of F fd⟩
      · exact ⟨hk _ _ (N p hp').1, (N p hp').2⟩
  have hnew : ∀ p ∈ news, @Ne Nat p.1 io ∧ @Ne Nat p.1 dio := fun p hp' => by
    have e := (N p hp').1
    refine ⟨fun z => ?_, fun z => ?_⟩
    · rw [show p.1 = io from z, fi] at e; cases e
    · rw [show p.1 = dio from z, fd] at e; cases e
  refine wpAny_bind (inst.here ?_)
  rw [if_neg (by decide)]
  have I : InstAt s₁.heap io (ioObj 681 dio) 681 (some (dictOf [] 0)) := InstAt.of_news N₁ (List.mem_cons_self ..) (List.mem_cons_of_mem _ (List.mem_cons_self ..))
  refine wpAny_bind (wpAny_holding (special_fn (f := 451) X₁ I (by k_is) (by k_is) (wpAny_call (ioinit_raw X₀ T F₁.keep ?hd2 (two_own N₁ (List.mem_cons_self ..) (List.mem_cons_of_mem _ (List.mem_cons_self ..))) hne fun s₂ h1 h2 h3 k1 k2 k3 tn tp a => ?_))))
  case hd2 => show A.depth + 1 + 2 < recursionLimit; omega
  dsimp only
  rw [if_neg (by decide)]
  have hupd : ∀ p ∈ news, p.1 ≠ dio := fun p hp' => (hnew p hp').2
  obtain ⟨F₂, N₂⟩ := a.step (ex := []) (o1' := ioObj 681 dio) F₁ N₁ (.head fun p hp' => by
    rcases List.mem_cons.mp hp' with rfl | hp'
    · exact hne.symm
    · exact (hnew p hp').1) (.tail hne (.head hupd)) hne
  exact wpAny_pure (hR s₂ io dio h1 h2 h3 k1 k2 k3 tn tp F₂ N₂ hnew hne (a.os.trans os₁) fun z => a.bare (b₁ z))
end
end
-- text ZNL
section
namespace DQ
theorem lookup_new : typeLookup (.type "collections.deque") "__new__" = pure (some (.builtin "collections.deque.__new__")) := by rw [typeLookup_type, builtinLookup_eq_fast]; kernel_rfl
theorem slot_init : Slot "collections.deque" "__init__" "collections.deque.__init__" :=
  Slot.of (T := "collections.deque") (name := "__init__") (owner := "collections.deque") (n := "__init__") (by rw [typeLookup_type, builtinLookup_eq_fast]; kernel_rfl) (by decide +kernel) (by decide +kernel) (by decide +kernel) (.inl (by decide +kernel)) (by rw [isSubtype_type]; kernel_rfl)
theorem slot_len : Slot "collections.deque" "__len__" "collections.deque.__len__" :=
  Slot.of (T := "collections.deque") (name := "__len__") (owner := "collections.deque") (n := "__len__") (by rw [typeLookup_type, builtinLookup_eq_fast]; kernel_rfl) (by decide +kernel) (by decide +kernel) (by decide +kernel) (.inl (by decide +kernel)) (by rw [isSubtype_type]; kernel_rfl)
theorem no_bool : typeLookup (.type "collections.deque") "__bool__" = pure none := by rw [typeLookup_type, builtinLookup_eq_fast]; kernel_rfl
theorem mro : ∃ c tl, mroOf (.type "collections.deque") = pure (c :: tl) := ⟨.type "collections.deque", [.type "object"], by kernel_rfl⟩
theorem made : Bind.madeBy (.type "collections.deque") = pure (some "collections.deque.__new__") := by kernel_rfl
theorem called : TypeCalled "collections.deque" "collections.deque.__new__" "collections.deque.__init__" :=
  ⟨by decide +kernel, by decide +kernel, mro, made, by decide +kernel, by rw [isSubtype_type]; kernel_rfl, slot_init⟩
theorem typeCall : checkTypeCall "collections.deque" ⟨[], []⟩ = pure () := by kernel_rfl
theorem newCall : checkBuiltinCall "collections.deque.__new__" ⟨[.type "collections.deque"], []⟩ = pure () := by kernel_rfl
theorem entry_new : entryFor table "collections.deque.__new__" = some Builtin.«collections.deque.__new__» := entryFor_of_fast (by kernel_rfl)
theorem entry_init : entryFor table "collections.deque.__init__" = some Builtin.«collections.deque.__init__» := entryFor_of_fast (by kernel_rfl)
theorem entry_len : entryFor table "collections.deque.__len__" = some Builtin.«collections.deque.__len__» := entryFor_of_fast (by kernel_rfl)
theorem args_init (o : Value) : argsOk "collections.deque.__init__" ⟨[o], []⟩ := by unfold argsOk; kernel_rfl
theorem args_len (o : Value) : argsOk "collections.deque.__len__" ⟨[o], []⟩ := by unfold argsOk; kernel_rfl
end DQ
end
-- text ZNM
section
noncomputable abbrev dqObj : Obj := { cls := .type "collections.deque", data := .fields #[.none, rawInt 0] }
section
variable {prog : Program} {w : World} {A : Around} {E : Value → Shared → Prop} {s : Shared}
theorem call_deque {Q : Value → Shared → Prop} (h : ∀ h', (∀ b o, s.heap.get? b = some o → h'.get? b = some o) → h'.get? s.heap.objs.size = some dqObj → Q (.ref s.heap.objs.size) { s with heap := h' }) :
    wpAny (model prog w) A (call (.type "collections.deque") []) Q E s := by
  have hS : (s.heap.push dqObj).get? s.heap.objs.size = some dqObj := Heap.get?_push_size _ rfl
  refine callType_codes (Q₁ := fun obj s₁ => obj = .ref s.heap.objs.size ∧ s₁ = { s with heap := s.heap.push dqObj }) DQ.called DQ.typeCall DQ.entry_init ?_ fun obj s₁ h₁ => ?_
  · refine codeAny_of_tree ?_
    show wpAny _ A.in1.in1 (do checkBuiltinCall "collections.deque.__new__" ⟨[.type "collections.deque"], []⟩; again (.builtin "collections.deque.__new__" ⟨[.type "collections.deque"], []⟩)) _ _ s
    refine wpAny_bind (wpAny_of_eq DQ.newCall (wpAny_pure ⟨plainId_quiet (by decide +kernel) _, codeAny_builtin DQ.entry_new ?_⟩))
    rw [Around.under_plainId (by decide +kernel) _]
    unfold Builtin.«collections.deque.__new__»
    refine wpAny_bind (wpAny_of_eq (show Builtin.Deque.newArgs Builtin.Deque.ty ⟨[.type "collections.deque"], []⟩ = pure (.type "collections.deque", []) by kernel_rfl) ?_)
    refine wpAny_bind (m := Builtin.Deque.new (.type "collections.deque") #[] none) ?_
    unfold Builtin.Deque.new
    rw [if_neg (by decide +kernel), if_neg (by decide +kernel)]
    refine wpAny_bind (wpAny_pure (wpAny_newObj_type (wpAny_pure ⟨rfl, rfl⟩) (by size_fits)))
  · obtain ⟨rfl, rfl⟩ := h₁
    refine ⟨⟨_, hS, rfl⟩, DQ.args_init _, ?_⟩
    rw [show Builtin.«collections.deque.__init__» ⟨[.ref s.heap.objs.size], []⟩ = (do setField (.ref s.heap.objs.size) 0 .none; Builtin.Deque.clear (.ref s.heap.objs.size); ret .none) from rfl]
    refine wpAny_bind (wpAny_setField hS rfl (by simp) ?_)
    have hg := Heap.get?_update_self (Obj.mapFields fun vs => vs.setIfInBounds 0 .none) hS (by rfl)
    have hg' : ((s.heap.push dqObj).update s.heap.objs.size (Obj.mapFields fun vs => vs.setIfInBounds 0 .none)).get? s.heap.objs.size = some dqObj := hg
    unfold Builtin.Deque.clear Builtin.Deque.items
    refine wpAny_bind (wpAny_bind (wpAny_bind (wpAny_fieldsOf hg' rfl (wpAny_pure ?_))))
    rw [if_neg (by decide)]
    refine wpAny_pure (wpAny_pure ⟨rfl, h _ (fun b o e => ?_) hg'⟩)
    exact (Heap.get?_update_other _ _ (Nat.ne_of_gt (Heap.lt_size e))).trans (Heap.get?_push_of_some _ e)
theorem truthy_deque {D : Addr} {Q : Bool → Shared → Prop} (hD : s.heap.get? D = some dqObj) (h : ∀ tk, Q false { s with toks := tk }) : wpAny (model prog w) A (truthy (.ref D)) Q E s := by
  have hT : s.TypeIs (.ref D) "collections.deque" := ⟨_, hD, rfl⟩
  unfold truthy
  refine wpAny_bind (m := callSpecial? (.ref D) (Str.ofString "__bool__")) (wpAny_bind (wpAny_specialOf hT DQ.no_bool (wpAny_pure ?_)))
  refine wpAny_bind (wpAny_specialOf hT DQ.slot_len.lookup ?_)
  rw [if_neg (by decide)]
  refine wpAny_bind (wpAny_runValue (codeAny_builtin entry_len ?_))
  rw [Around.under_plainId plain_len _]
  unfold Builtin.«len»
  refine wpAny_bind (m := oneArg "len" _) (wpAny_pure ?_)
  refine wpAny_bind (wpAny_callSpecial?_slot (name := Str.ofString "__len__") hT DQ.slot_len (wpAny_call_entry DQ.slot_len hT DQ.entry_len ?_ (DQ.args_len _)))
  rw [show Builtin.«collections.deque.__len__» ⟨[.ref D], []⟩ = (Builtin.Deque.size (.ref D) >>= fun n => retInt n) from rfl]
  refine wpAny_bind ?_
  unfold Builtin.Deque.size
  refine wpAny_bind (wpAny_fieldsOf hD rfl (wpAny_pure ?_))
  show wpAny _ _ (mkInt ((0 : Nat) : Int) >>= ret) _ _ _
  refine wpAny_bind (wpAny_mkInt (wpAny_pure ⟨_, rfl, ?_⟩))
  dsimp only
  refine wpAny_bind (wpAny_holding (wpAny_pure ?_))
  refine wpAny_bind (wpAny_letGo ?_)
  rw [if_neg (by decide), if_neg (by decide)]
  show wpAny _ _ (mkInt _ >>= ret) _ _ _
  refine wpAny_bind (wpAny_mkInt (wpAny_pure ?_))
  exact wpAny_pure (h _)
end
end
example : True := by
  k_with_none
  k_with "~m:enter" => (((case k1 | k2 | k3 => assumption); (case k4 => first | assumption | (intro _ hq; cases hq)); (case k6 | k7 => k_is); (case k8 => first | assumption | omega | (simp only [depth_deeper, depth_in1, recursionLimit] at *; omega)); (case k9 => first | exact BindsTo.of_eq rfl | exact binds_K (Frag.In.keeps (by assumption) (by assumption)) rfl (by k_is) rfl rfl rfl); (case c5 => decide); (case kB => exact locs rfl); (case c2 | c3 | c4 => exact rfl)))
  k_with "~k_inst" => ((refine' InstAt.of_accN ?zqN ?zqh1 ?zqh2; (case zqN => k_asm); (case zqh1 | zqh2 => k_mem)))
  k_with "~m:shadow" => ((refine shadow_of ?_; k_get))
  k_with "~getMethod ref" => ((k_here; (first
    | (refine' method_fnG ?zqk1 ?zqk2 ?zqk3 ?zqk4 ?zqk5 ?zqk6 ?zqk7 ?zqk8 ?_; k_dflt ((case zqk1 => k_in); (case zqk2 => k_inst); (case zqk3 => k_is); (case zqk4 => first | with_reducible exact canon_list_ga | with_reducible exact PySem.F.canon_object_ga | decide +kernel); (case zqk5 | zqk6 | zqk7 => k_is); (case zqk8 => walk_at "m:shadow"); k_whole))
    | (refine' method_biG ?zqk1 ?zqk2 ?zqk3 ?zqk4 ?zqk5 ?zqk6 ?zqk7 ?zqk8 ?zqk9 ?_; k_dflt ((case zqk1 => k_in); (case zqk2 => k_inst); (case zqk3 => k_is); (case zqk4 => first | with_reducible exact canon_list_ga | with_reducible exact PySem.F.canon_object_ga | decide +kernel); (case zqk5 | zqk6 | zqk7 => k_is); (case zqk8 => decide); (case zqk9 => walk_at "m:shadow"); k_whole)))))
  k_with "~call builtin:list.append" => ((k_here; (refine' append_acc ?zqk1 ?zqk2 ?zqk3 ?zqk4 ?zqk5 ?zqk6 ?_ ?zqk7; k_dflt ((case zqk1 | zqk2 | zqk3 => k_asm); (case zqk6 => k_upd); (case zqk4 => exact (News.get (by k_asm) (by k_mem))); (case zqk5 => k_is); (case zqk7 => first | assumption | (simp only [sizeLine_eq]; omega)); k_whole)); intro _ _ _; (try k_sweep)))
  k_with "~getMethod ref" => ((k_here; ks_any; k_dflt (first
    | (refine' superM ?zqk1 ?zqk2 ?zqk3 ?zqk4 ?zqk5 ?zqk6 ?zqk7 ?zqk8 lk_wget ?zqk9 (fun h hi => binds_of plain_wget entry_wget (chk_wlen _ _) (get_len _ _) hi) ?zqk10 ?_; (case zqk1 | zqk2 | zqk3 => k_asm); (case zqk4 => k_mem); (case zqk5 => k_inst); (case zqk6 => k_is); (case zqk7 => ks_is); (case zqk8 | zqk9 => k_is); (case zqk10 => decide); k_whole; intro _ _ _ _ l1; (try (replace l1 := allLt_of l1)); revert l1; intro _; (try k_sweep))
    | (refine' superM ?zqk1 ?zqk2 ?zqk3 ?zqk4 ?zqk5 ?zqk6 ?zqk7 ?zqk8 lk_wget ?zqk9 (fun h hi => binds_of plain_wget entry_wget (chk_winit _ _) (get_init _ _) hi) ?zqk10 ?_; (case zqk1 | zqk2 | zqk3 => k_asm); (case zqk4 => k_mem); (case zqk5 => k_inst); (case zqk6 => k_is); (case zqk7 => ks_is); (case zqk8 | zqk9 => k_is); (case zqk10 => decide); k_whole; intro _ _ _ _ l1; (try (replace l1 := allLt_of l1)); revert l1; intro _; (try k_sweep))
    | (refine' superM ?zqk1 ?zqk2 ?zqk3 ?zqk4 ?zqk5 ?zqk6 ?zqk7 ?zqk8 lk_mget ?zqk9 (fun h hi => binds_of plain_mget entry_mget (chk_mpop _ _) (get_pop _ _) hi) ?zqk10 ?_; (case zqk1 | zqk2 | zqk3 => k_asm); (case zqk4 => k_mem); (case zqk5 => k_inst); (case zqk6 => k_is); (case zqk7 => ks_is); (case zqk8 | zqk9 => k_is); (case zqk10 => decide); k_whole; intro _ _ _ _ l1; (try (replace l1 := allLt_of l1)); revert l1; intro _; (try k_sweep)))))
  k_with "~wpAt" => ((ks_step "attributeBase Call"; k_here; k_dflt (refine node_M (by k_asm) (by k_asm) (by k_asm) (by k_asm) (by k_is) (by rfl) (by rfl) (by k_inst) (by k_is) (by rfl) (by first | rfl | decide +kernel) (by k_is) (by k_is) (by k_is) (by k_is) (by decide) (by rfl) (by rfl) (by rfl) (by rfl) (by decide +kernel) (by first | boot_by_name | rfl | kernel_rfl) ?_; intro _ _ _ _ l1; (try (replace l1 := allLt_of l1)); revert l1; intro _; (try k_sweep))))
  k_with "~callWith ref" => ((k_here; (first
    | (refine' callWith_B0 ?zqk1 ?zqk2 ?_; k_dflt ((case zqk1 => exact (News.get (by k_asm) (by k_mem))); (case zqk2 => decide); k_whole; try dsimp only [List.nil_append, List.cons_append]))
    | (refine' callWith_B ?zqk1 ?zqk2 ?_ ?zqk3 ?zqk4; k_dflt ((case zqk1 => k_is); (case zqk2 => decide); (case zqk3 | zqk4 => rfl); k_whole)))))
  k_with "~call ref" => ((k_here; (first
    | (refine' super_len ?zqk1 ?zqk2 ?_; k_dflt ((case zqk1 | zqk2 => exact (News.get (by k_asm) (by k_mem))); k_whole))
    | (refine' super_init ?zqk1 ?zqk2 ?zqk3 ?zqk4 ?zqk5 ?_; k_dflt ((case zqk1 | zqk2 => k_asm); (case zqk3 => exact (News.get (by k_asm) (by k_mem))); (case zqk5 => k_upd); (case zqk4 => k_ne); k_whole; intro _ _ _; (try k_sweep)))
    | (refine' super_pop ?zqk1 ?zqk2 ?zqk3 ?zqk4 ?zqk5 ?zqk6 ?zqk7 ?zqk8 ?zqk9 ?zqk10 ?zqk11 ?_; k_dflt ((case zqk1 | zqk2 | zqk3 => k_asm); (case zqk4 => exact (News.get (by k_asm) (by k_mem))); (case zqk10 => k_upd); (case zqk5 => exact (News.get (by k_asm) (by k_mem))); (case zqk6 | zqk7 => k_is); (case zqk8 => rfl); (case zqk9 => k_is); (case zqk11 => first | assumption | (simp only [sizeLine_eq]; omega)); k_whole; intro _ _ _; (try k_sweep))))))
  k_with "~m:sub" => (first | exact List.forall_mem_nil _ | (refine List.forall_mem_cons.mpr ⟨by k_mem, ?_⟩; walk_at "m:sub"))
  k_with "~setAttr ref" => ((k_here; (refine' set_acc ?zqk1 ?zqk2 ?zqk3 ?zqk4 ?zqk5 ?zqk6 ?zqk7 ?zqk8 ?zqk9 ?zqk10 ?zqk11 ?zqk12 ?zqk13 ?_; k_dflt ((case zqk1 | zqk2 | zqk3 => k_asm); (case zqk4 => k_inst); (case zqk5 => exact rfl); (case zqk6 => k_is); (case zqk7 => rfl); (case zqk8 | zqk9 => k_is); (case zqk10 => k_get); (case zqk11 => k_put); (case zqk12 => k_upd); (case zqk13 => exact Nat.le_of_ble_eq_true rfl); k_whole; intro _ _ _; (try k_sweep)))))
  k_with "~subscriptTail" => ((k_here; (with_reducible show wpAny _ _ (subscriptTail _ _ (Value.ref _) (Value.ref _)) _ _ _); (refine' slice_acc ?zqk1 ?zqk2 ?zqk3 ?zqk4 ?zqk5 ?zqk6 ?zqk7 ?zqk8 ?zqk9 ?zqk10 ?_ ?zqk11 ?zqk12 ?zqk13; k_dflt ((case zqk1 | zqk2 | zqk3 => k_asm); (case zqk4 => k_inst); (case zqk5 => exact rfl); (case zqk6 | zqk7 | zqk8 => k_is); (case zqk9 | zqk10 => first | exact IsPart.none | exact IsPart.int _ _); (case zqk11 => with_unfolding_all rfl); (case zqk12 => intro _; with_unfolding_all rfl); (case zqk13 => first | assumption | (simp only [sizeLine_eq]; omega)); k_whole; intro _ _ _ _ l1; (try (replace l1 := allLt_of l1)); revert l1; intro _; (try k_sweep)))))
  k_with "~m:steps" => (repeat' (first | (walk1; (try dsimp only)) | (dsimp only; walk1; (try dsimp only)) | fail "no step"))
  k_with "~k_in" => ((refine' Frag.In.keeps ?zqkx ?zqkh; (case zqkx => with_reducible assumption); (case zqkh => exact Fr.keep (by with_reducible assumption))))
  k_with "~k_ne" => ((refine neN ?_; (try dsimp only); (try dsimp only [AllLt] at *); omega))
  k_with "~k_ne" => (first | with_reducible assumption | (refine Ne.symm ?_; with_reducible assumption) | (refine' ne_lt ?zqkh ?zqkm; (case zqkh => with_reducible assumption); (case zqkm => k_mem)) | (refine' Ne.symm (ne_lt ?zqkh ?zqkm); (case zqkh => with_reducible assumption); (case zqkm => k_mem)) | (refine neN ?_; decide))
  trivial
-- text ZNN
section
example : True := by
  k_with "~wpAt" => ((ks_step "exec Expr"; k_dflt (refine ks_wpAt_Expr_any ?_)))
  k_with "~wpAt" => ((ks_step "eval Call"; k_dflt (refine ks_wpAt_MethodCall ?_)))
  trivial
section
variable {w : World} {A : Around} {E : Value → Shared → Prop} {s : Shared} {h₀ : Heap} {L : Addr} {m : Str → Option Value} {news : List (Addr × Obj)} {loose : List Str} {mg mb : Str → Option Value} {Q : Value → Shared → Prop}
theorem deque_w {prog : Program} (F : Fr h₀ L s.heap m) (N : News h₀ L s.heap news) (h : ∀ D h', Fr h₀ L h' m → News h₀ L h' ((D, dqObj) :: news) → (∀ p ∈ news, p.1 < D) → Q (.ref D) { s with heap := h' }) : wpAny (model prog w) A (call (.type "collections.deque") []) Q E s := by
  refine call_deque fun h' hk hD => h _ h' (F.keeps hk) (fun p hp => ?_) fun p hp => Heap.lt_size (N p hp).1
  rcases List.mem_cons.mp hp with rfl | hp
  · exact ⟨hD, Nat.ne_of_gt F.ns.lt, Heap.get?_none_of_le (Nat.le_trans F.above (Nat.le_of_lt F.ns.lt))⟩
  · exact ⟨hk _ _ (N p hp).1, (N p hp).2⟩
end
noncomputable abbrev lexDict (P : Params) (ks ts : Nat → Tok) (io pb fs : Addr) (com wc : Str) (wsp : Bool) (st tok : Value) : Obj := dictOf [
  ⟨PyData.keyHash P (Str.ofString "instream"), .str (Str.ofString "instream") (ks 0), .ref io⟩,
  ⟨PyData.keyHash P (Str.ofString "infile"), .str (Str.ofString "infile") (ks 1), .none⟩,
  ⟨PyData.keyHash P (Str.ofString "posix"), .str (Str.ofString "posix") (ks 2), .bool true⟩,
  ⟨PyData.keyHash P (Str.ofString "eof"), .str (Str.ofString "eof") (ks 3), .none⟩,
  ⟨PyData.keyHash P (Str.ofString "commenters"), .str (Str.ofString "commenters") (ks 4), .str com (ts 4)⟩,
  ⟨PyData.keyHash P (Str.ofString "wordchars"), .str (Str.ofString "wordchars") (ks 5), .str wc (ts 5)⟩,
  ⟨PyData.keyHash P (Str.ofString "whitespace"), .str (Str.ofString "whitespace") (ks 6), .str (Str.ofString " \t\r\n") (ts 6)⟩,
  ⟨PyData.keyHash P (Str.ofString "whitespace_split"), .str (Str.ofString "whitespace_split") (ks 7), .bool wsp⟩,
  ⟨PyData.keyHash P (Str.ofString "quotes"), .str (Str.ofString "quotes") (ks 8), .str (Str.ofString "'\"") (ts 8)⟩,
  ⟨PyData.keyHash P (Str.ofString "escape"), .str (Str.ofString "escape") (ks 9), .str (Str.ofString "\\") (ts 9)⟩,
  ⟨PyData.keyHash P (Str.ofString "escapedquotes"), .str (Str.ofString "escapedquotes") (ks 10), .str (Str.ofString "\"") (ts 10)⟩,
  ⟨PyData.keyHash P (Str.ofString "state"), .str (Str.ofString "state") (ks 11), st⟩,
  ⟨PyData.keyHash P (Str.ofString "pushback"), .str (Str.ofString "pushback") (ks 12), .ref pb⟩,
  ⟨PyData.keyHash P (Str.ofString "lineno"), .str (Str.ofString "lineno") (ks 13), .int 1 (ts 13)⟩,
  ⟨PyData.keyHash P (Str.ofString "debug"), .str (Str.ofString "debug") (ks 14), .int 0 (ts 14)⟩,
  ⟨PyData.keyHash P (Str.ofString "token"), .str (Str.ofString "token") (ks 15), tok⟩,
  ⟨PyData.keyHash P (Str.ofString "filestack"), .str (Str.ofString "filestack") (ks 16), .ref fs⟩,
  ⟨PyData.keyHash P (Str.ofString "source"), .str (Str.ofString "source") (ks 17), .none⟩,
  ⟨PyData.keyHash P (Str.ofString "_punctuation_chars"), .str (Str.ofString "_punctuation_chars") (ks 18), .str (Str.ofString "") (ts 18)⟩] 19
noncomputable def tokL (l : List Tok) : Nat → Tok := fun i => l.getD i 0
example : True := by
  k_with "~call type:collections.deque" => ((k_here; (refine' deque_w ?zqk1 ?zqk2 ?_; k_dflt ((case zqk1 | zqk2 => k_asm); k_whole)); intro _ _ _ _ l1; (try (replace l1 := allLt_of l1)); revert l1; intro _; (try k_sweep)))
  k_with "~call ref" => ((k_here; (with_reducible show wpAny _ _ (call (Value.ref 681) [Value.str _ _]) _ _ _); refine Held.out ?_))
  trivial
end
section
namespace C2
noncomputable abbrev T := (World) × (Around) × (Shared) × (Heap) × (List Str) × (Str → Option Value) × (Str → Option Value) × (Result → Shared → Prop) × (Addr) × (Addr) × (Str) × (Tok)
noncomputable def Pf (w : World) (A : Around) (s : Shared) (H : Heap) (loose : List Str) (mg : Str → Option Value) (mb : Str → Option Value) (R : Result → Shared → Prop) (x : Addr) (dx : Addr) (text : Str) (tt : Tok) : Prop := ∀ (X : (hd.heap_39 w.params).In H) (T : TopRead Mine.hd.view_39 loose mg mb H) (hk : ∀ b o, H.get? b = some o → s.heap.get? b = some o) (hd : A.depth + 12 < recursionLimit) (hx : ∀ q ∈ [(x, ioObj 816 dx), (dx, dictOf [] 0)], s.heap.get? q.1 = some q.2 ∧ H.get? q.1 = none) (hne : @Ne Nat x dx) (hR : ∀ s' ks ts io dio pb fs wc h1 h2 h3 k1 k2 k3 tn tp, Aft s s' [(x, ioObj 816 dx), (dx, dictOf [] 0)] [(fs, dqObj), (pb, dqObj), (io, ioObj 681 dio), (dio, ioDict h1 h2 h3 k1 k2 k3 (.str (Str.ofString "\n") tn) (.str text tt) (.int 0 tp)), (x, ioObj 816 dx), (dx, lexDict w.params ks ts io pb fs (Str.ofString "#") wc false (.str (Str.ofString " ") (ts 11)) (.str (Str.ofString "") (ts 15)))] →
    (!(Builtin.Str.occurrences wc (Str.ofString "'") 0 wc.length 1).isEmpty) = false → (!(Builtin.Str.occurrences wc (Str.ofString "\"") 0 wc.length 1).isEmpty) = false →
    @Ne Nat io dio → @Ne Nat io x → @Ne Nat io dx → @Ne Nat dio x → @Ne Nat dio dx → @Ne Nat pb x → @Ne Nat pb dx → @Ne Nat pb io → @Ne Nat pb dio → @Ne Nat fs x → @Ne Nat fs dx → @Ne Nat fs io → @Ne Nat fs dio → @Ne Nat fs pb → R (.ok (.ret .none)) s'), codeAny (model PG w) A (.call (.ref 740) ⟨[.ref x, .str text tt], [(Str.ofString "posix", .bool true)]⟩) R s
noncomputable def Q_ (z : T) : Prop := Pf z.1 (z.2.1) (z.2.2.1) (z.2.2.2.1) (z.2.2.2.2.1) (z.2.2.2.2.2.1) (z.2.2.2.2.2.2.1) (z.2.2.2.2.2.2.2.1) (z.2.2.2.2.2.2.2.2.1) (z.2.2.2.2.2.2.2.2.2.1) (z.2.2.2.2.2.2.2.2.2.2.1) (z.2.2.2.2.2.2.2.2.2.2.2)
theorem ne : Nonempty T := ⟨(Classical.choice Mine.neW, Classical.choice Mine.neA, Classical.choice Mine.neS, Classical.choice inferInstance, Classical.choice inferInstance, Classical.choice inferInstance, Classical.choice inferInstance, Classical.choice inferInstance, Classical.choice inferInstance, Classical.choice inferInstance, Classical.choice inferInstance, Classical.choice inferInstance)⟩
noncomputable def z_ : T := @Classical.epsilon _ ne fun z => ¬ Q_ z
@[irreducible] noncomputable def w : World := z_.1
@[irreducible] noncomputable def A : Around := z_.2.1
@[irreducible] noncomputable def s : Shared := z_.2.2.1
@[irreducible] noncomputable def H : Heap := z_.2.2.2.1
@[irreducible] noncomputable def loose : List Str := z_.2.2.2.2.1
@[irreducible] noncomputable def mg : Str → Option Value := z_.2.2.2.2.2.1
@[irreducible] noncomputable def mb : Str → Option Value := z_.2.2.2.2.2.2.1
@[irreducible] noncomputable def R : Result → Shared → Prop := z_.2.2.2.2.2.2.2.1
@[irreducible] noncomputable def x : Addr := z_.2.2.2.2.2.2.2.2.1
@[irreducible] noncomputable def dx : Addr := z_.2.2.2.2.2.2.2.2.2.1
@[irreducible] noncomputable def text : Str := z_.2.2.2.2.2.2.2.2.2.2.1
@[irreducible] noncomputable def tt : Tok := z_.2.2.2.2.2.2.2.2.2.2.2
noncomputable def pk : {P_ : (Heap) → (Addr) → (Heap) → Prop // ∀ (X : (hd.heap_39 w.params).In H) (T : TopRead Mine.hd.view_39 loose mg mb H) (hk : ∀ b o, H.get? b = some o → s.heap.get? b = some o) (hd : A.depth + 12 < recursionLimit) (hx : ∀ q ∈ [(x, ioObj 816 dx), (dx, dictOf [] 0)], s.heap.get? q.1 = some q.2 ∧ H.get? q.1 = none) (hne : @Ne Nat x dx) (hR : ∀ s' ks ts io dio pb fs wc h1 h2 h3 k1 k2 k3 tn tp, Aft s s' [(x, ioObj 816 dx), (dx, dictOf [] 0)] [(fs, dqObj), (pb, dqObj), (io, ioObj 681 dio), (dio, ioDict h1 h2 h3 k1 k2 k3 (.str (Str.ofString "\n") tn) (.str text tt) (.int 0 tp)), (x, ioObj 816 dx), (dx, lexDict w.params ks ts io pb fs (Str.ofString "#") wc false (.str (Str.ofString " ") (ts 11)) (.str (Str.ofString "") (ts 15)))] →
    (!(Builtin.Str.occurrences wc (Str.ofString "'") 0 wc.length 1).isEmpty) = false → (!(Builtin.Str.occurrences wc (Str.ofString "\"") 0 wc.length 1).isEmpty) = false →
    @Ne Nat io dio → @Ne Nat io x → @Ne Nat io dx → @Ne Nat dio x → @Ne Nat dio dx → @Ne Nat pb x → @Ne Nat pb dx → @Ne Nat pb io → @Ne Nat pb dio → @Ne Nat fs x → @Ne Nat fs dx → @Ne Nat fs io → @Ne Nat fs dio → @Ne Nat fs pb → R (.ok (.ret .none)) s'), (∀ g L h₁, P_  g L h₁) → codeAny (model PG w) A (.call (.ref 740) ⟨[.ref x, .str text tt], [(Str.ofString "posix", .bool true)]⟩) R s} := ⟨_, fun  X T hk hd hx hne hR k_ => by
  refine' enterM (binds := [(Str.ofString "self", .ref x), (Str.ofString "instream", .str text tt), (Str.ofString "infile", .none), (Str.ofString "posix", .bool true), (Str.ofString "punctuation_chars", .bool false)]) [(x, ioObj 816 dx), (dx, dictOf [] 0)] ?k1 ?k2 ?k3 ?k4 ?k6 ?k7 ?k8 ?k9 ?kB ?_ ?c5 ?c2 ?c3 ?c4
  walk_at "m:enter"
  exact k_⟩
noncomputable abbrev T2 := (Heap) × (Addr) × (Heap)
noncomputable def Pf2 (g : Heap) (L : Addr) (h₁ : Heap) : Prop := ∀ (X : (hd.heap_39 w.params).In H) (T : TopRead Mine.hd.view_39 loose mg mb H) (hk : ∀ b o, H.get? b = some o → s.heap.get? b = some o) (hd : A.depth + 12 < recursionLimit) (hx : ∀ q ∈ [(x, ioObj 816 dx), (dx, dictOf [] 0)], s.heap.get? q.1 = some q.2 ∧ H.get? q.1 = none) (hne : @Ne Nat x dx) (hR : ∀ s' ks ts io dio pb fs wc h1 h2 h3 k1 k2 k3 tn tp, Aft s s' [(x, ioObj 816 dx), (dx, dictOf [] 0)] [(fs, dqObj), (pb, dqObj), (io, ioObj 681 dio), (dio, ioDict h1 h2 h3 k1 k2 k3 (.str (Str.ofString "\n") tn) (.str text tt) (.int 0 tp)), (x, ioObj 816 dx), (dx, lexDict w.params ks ts io pb fs (Str.ofString "#") wc false (.str (Str.ofString " ") (ts 11)) (.str (Str.ofString "") (ts 15)))] →
    (!(Builtin.Str.occurrences wc (Str.ofString "'") 0 wc.length 1).isEmpty) = false → (!(Builtin.Str.occurrences wc (Str.ofString "\"") 0 wc.length 1).isEmpty) = false →
    @Ne Nat io dio → @Ne Nat io x → @Ne Nat io dx → @Ne Nat dio x → @Ne Nat dio dx → @Ne Nat pb x → @Ne Nat pb dx → @Ne Nat pb io → @Ne Nat pb dio → @Ne Nat fs x → @Ne Nat fs dx → @Ne Nat fs io → @Ne Nat fs dio → @Ne Nat fs pb → R (.ok (.ret .none)) s'), pk.1  g L h₁
noncomputable def Q2 (z : T2) : Prop := Pf2 z.1 (z.2.1) (z.2.2)
theorem ne2 : Nonempty T2 := ⟨(Classical.choice inferInstance, Classical.choice inferInstance, Classical.choice inferInstance)⟩
noncomputable def z2_ : T2 := @Classical.epsilon _ ne2 fun z => ¬ Q2 z
@[irreducible] noncomputable def g : Heap := z2_.1
@[irreducible] noncomputable def L : Addr := z2_.2.1
@[irreducible] noncomputable def h₁ : Heap := z2_.2.2
theorem core2 : Pf2 g L h₁ := by
  unfold Pf2
  intro X T hk hd hx hne hR
  dsimp only [pk]
  intro hkg hgk F N Xg Tg hHg hlt
  (replace hlt := allLt_of hlt)
  (try dsimp only)
  walk_at "m:steps"
  refine Held.put (wpAny_call (makeio (by k_asm) Xg Tg (by k_asm) (by simp only [depth_deeper, depth_in1]; omega) ?_))
  intro s₂ io dio h1 h2 h3 k1 k2 k3 tn tp F₂ N₂ hnew hio os₂ b₂
  dsimp only
  have hi1 := (hnew (x, ioObj 816 dx) (by k_mem)).1
  have hi2 := (hnew (x, ioObj 816 dx) (by k_mem)).2
  have hi3 := (hnew (dx, dictOf [] 0) (by k_mem)).1
  have hi4 := (hnew (dx, dictOf [] 0) (by k_mem)).2
  clear hnew N F
  dsimp only at hi1 hi2 hi3 hi4
  walk_at "m:steps"
  rename News _ _ _ _ => N9
  rename Fr _ _ _ _ => F9
  refine hR _ (tokL [_, _, _, _, _, _, _, _, _, _, _, _, _, _, _, _, _, _, _]) (tokL [0, 0, 0, 0, _, _, _, 0, _, _, _, _, 0, _, _, _, 0, 0, _]) io dio _ _ _ h1 h2 h3 k1 k2 k3 tn tp (Aft.of hkg F9 N9 (fun _ h => h) os₂ b₂) ?_ ?_ hio hi1.symm hi3.symm hi2.symm hi4.symm ?_ ?_ ?_ ?_ ?_ ?_ ?_ ?_ ?_
  all_goals first | decide +kernel | k_ne
theorem core : Pf w A s H loose mg mb R x dx text tt := by
  unfold Pf
  intro X T hk hd hx hne hR
  exact pk.2  X T hk hd hx hne hR fun g L h₁ => eps_all ne2 Q2 (by with_unfolding_all exact core2) (g, L, h₁)  X T hk hd hx hne hR
theorem all (y : T) : Q_ y := eps_all ne Q_ (by with_unfolding_all exact core) y
end C2
end
section
theorem lexinit_raw {w : World} {A : Around} {s : Shared} {H : Heap} {loose : List Str} {mg mb : Str → Option Value} {R : Result → Shared → Prop} {x dx : Addr} {text : Str} {tt : Tok}
  (X : (hd.heap_39 w.params).In H) (T : TopRead Mine.hd.view_39 loose mg mb H) (hk : ∀ b o, H.get? b = some o → s.heap.get? b = some o) (hd : A.depth + 12 < recursionLimit)
  (hx : ∀ q ∈ [(x, ioObj 816 dx), (dx, dictOf [] 0)], s.heap.get? q.1 = some q.2 ∧ H.get? q.1 = none) (hne : @Ne Nat x dx)
  (hR : ∀ s' ks ts io dio pb fs wc h1 h2 h3 k1 k2 k3 tn tp, Aft s s' [(x, ioObj 816 dx), (dx, dictOf [] 0)] [(fs, dqObj), (pb, dqObj), (io, ioObj 681 dio), (dio, ioDict h1 h2 h3 k1 k2 k3 (.str (Str.ofString "\n") tn) (.str text tt) (.int 0 tp)), (x, ioObj 816 dx), (dx, lexDict w.params ks ts io pb fs (Str.ofString "#") wc false (.str (Str.ofString " ") (ts 11)) (.str (Str.ofString "") (ts 15)))] →
    (!(Builtin.Str.occurrences wc (Str.ofString "'") 0 wc.length 1).isEmpty) = false → (!(Builtin.Str.occurrences wc (Str.ofString "\"") 0 wc.length 1).isEmpty) = false →
    @Ne Nat io dio → @Ne Nat io x → @Ne Nat io dx → @Ne Nat dio x → @Ne Nat dio dx → @Ne Nat pb x → @Ne Nat pb dx → @Ne Nat pb io → @Ne Nat pb dio → @Ne Nat fs x → @Ne Nat fs dx → @Ne Nat fs io → @Ne Nat fs dio → @Ne Nat fs pb → R (.ok (.ret .none)) s') :
  codeAny (model PG w) A (.call (.ref 740) ⟨[.ref x, .str text tt], [(Str.ofString "posix", .bool true)]⟩) R s :=
  C2.all (w, A, s, H, loose, mg, mb, R, x, dx, text, tt) X T hk hd hx hne hR
end
-- text ZNP
section
section
variable {w : World} {A : Around} {E : Value → Shared → Prop} {s : Shared} {h₀ : Heap} {L : Addr} {m : Str → Option Value} {news : List (Addr × Obj)} {nw : Tok → List (Addr × Obj)} {loose : List Str} {mg mb : Str → Option Value} {Q : Value → Shared → Prop} {io dio : Addr} {h1 h2 h3 : Int} {k1 k2 k3 : Tok} {nl : Value} {text : Str} {tt tp t1 : Tok} {p : Nat}
theorem read_w (F : Fr h₀ L s.heap m) (X : (Mine.hd.heap_39 w.params).In h₀) (T : TopRead Mine.hd.view_39 loose mg mb h₀) (N : News h₀ L s.heap news) (m1 : (io, ioObj 681 dio) ∈ news)
    (U : ∀ t2, Upd dio (ioDict h1 h2 h3 k1 k2 k3 nl (.str text tt) (.int p tp)) (ioDict h1 h2 h3 k1 k2 k3 nl (.str text tt) (.int (p + 1) t2)) news (nw t2)) (hne : @Ne Nat io dio) (hp : p < text.length) (hl : text.length ≤ 1000000) (hd : A.depth + 2 < recursionLimit)
    (h : ∀ s' t t2, Fr h₀ L s'.heap m → News h₀ L s'.heap (nw t2) → s'.os = s.os → (AllBare s.gens → AllBare s'.gens) → Q (.str ⟨#[text.cps.getD p 0]⟩ t) s') : wpAny (model PG w) A (call (.ref 627) [.ref io, .int 1 t1]) Q E s := by
  have hU := (U 0).split
  obtain ⟨pre, post, e1, -, -, -⟩ := hU
  have m2 : (dio, ioDict h1 h2 h3 k1 k2 k3 nl (.str text tt) (.int p tp)) ∈ news := by rw [e1]; simp
  refine wpAny_call (read_raw X T F.keep hd (two_own N m1 m2) hne hp hl fun s' t t2 a => ?_)
  have tr := two_rest (x := dio) (dx := io) (ex := []) (own' := [(io, ioObj 681 dio), (dio, ioDict h1 h2 h3 k1 k2 k3 nl (.str text tt) (.int (p + 1) t2))]) N m1 (U t2) hne.symm (by simp) (by simp) (fun _ h => (nomatch h))
  obtain ⟨F', N'⟩ := a.gen F N (fun q hq => by
    simp only [List.mem_cons, List.not_mem_nil, or_false] at hq
    rcases hq with rfl | rfl
    · exact m1
    · exact m2) (n2 := nw t2) fun q hq => by
      rcases tr.2 q (by simpa using hq) with h | ⟨h, h'⟩
      · exact .inl h
      · refine .inr ⟨h, ?_⟩
        simp only [List.map_cons, List.map_nil, List.mem_cons, List.not_mem_nil, or_false, not_or] at h' ⊢
        exact ⟨h'.2, h'.1⟩
  exact h s' t t2 F' N' a.os a.bare
theorem readend_w (F : Fr h₀ L s.heap m) (X : (Mine.hd.heap_39 w.params).In h₀) (T : TopRead Mine.hd.view_39 loose mg mb h₀) (N : News h₀ L s.heap news) (m1 : (io, ioObj 681 dio) ∈ news) (m2 : (dio, ioDict h1 h2 h3 k1 k2 k3 nl (.str text tt) (.int p tp)) ∈ news) (hne : @Ne Nat io dio) (hp : text.length ≤ p) (hl : text.length ≤ 1000000) (hd : A.depth + 2 < recursionLimit)
    (h : ∀ s' t, Fr h₀ L s'.heap m → News h₀ L s'.heap news → s'.os = s.os → (AllBare s.gens → AllBare s'.gens) → Q (.str (Str.ofString "") t) s') : wpAny (model PG w) A (call (.ref 627) [.ref io, .int 1 t1]) Q E s := by
  refine wpAny_call (read_end_raw X T F.keep hd (two_own N m1 m2) hne hp hl fun s' t a => ?_)
  obtain ⟨F', N'⟩ := a.same (ex := []) F N m1 m2
  exact h s' t F' N' a.os a.bare
end
end
example : True := by
  k_with_none
  k_with "~m:enter" => (((case k1 | k2 | k3 => assumption); (case k4 => first | assumption | (intro _ hq; cases hq)); (case k6 | k7 => k_is); (case k8 => first | assumption | omega | (simp only [depth_deeper, depth_in1, recursionLimit] at *; omega)); (case k9 => first | exact BindsTo.of_eq rfl | exact binds_K (Frag.In.keeps (by assumption) (by assumption)) rfl (by k_is) rfl rfl rfl); (case c5 => decide); (case kB => exact locs rfl); (case c2 | c3 | c4 => exact rfl)))
  k_with "~k_inst" => ((refine' InstAt.of_accN ?zqN ?zqh1 ?zqh2; (case zqN => k_asm); (case zqh1 | zqh2 => k_mem)))
  k_with "~m:shadow" => ((refine shadow_of ?_; k_get))
  k_with "~getMethod ref" => ((k_here; (first
    | (refine' method_fnG ?zqk1 ?zqk2 ?zqk3 ?zqk4 ?zqk5 ?zqk6 ?zqk7 ?zqk8 ?_; k_dflt ((case zqk1 => k_in); (case zqk2 => k_inst); (case zqk3 => k_is); (case zqk4 => first | with_reducible exact canon_list_ga | with_reducible exact PySem.F.canon_object_ga | decide +kernel); (case zqk5 | zqk6 | zqk7 => k_is); (case zqk8 => walk_at "m:shadow"); k_whole))
    | (refine' method_biG ?zqk1 ?zqk2 ?zqk3 ?zqk4 ?zqk5 ?zqk6 ?zqk7 ?zqk8 ?zqk9 ?_; k_dflt ((case zqk1 => k_in); (case zqk2 => k_inst); (case zqk3 => k_is); (case zqk4 => first | with_reducible exact canon_list_ga | with_reducible exact PySem.F.canon_object_ga | decide +kernel); (case zqk5 | zqk6 | zqk7 => k_is); (case zqk8 => decide); (case zqk9 => walk_at "m:shadow"); k_whole)))))
  k_with "~call builtin:list.append" => ((k_here; (refine' append_acc ?zqk1 ?zqk2 ?zqk3 ?zqk4 ?zqk5 ?zqk6 ?_ ?zqk7; k_dflt ((case zqk1 | zqk2 | zqk3 => k_asm); (case zqk6 => k_upd); (case zqk4 => exact (News.get (by k_asm) (by k_mem))); (case zqk5 => k_is); (case zqk7 => first | assumption | (simp only [sizeLine_eq]; omega)); k_whole)); intro _ _ _; (try k_sweep)))
  k_with "~getMethod ref" => ((k_here; ks_any; k_dflt (first
    | (refine' superM ?zqk1 ?zqk2 ?zqk3 ?zqk4 ?zqk5 ?zqk6 ?zqk7 ?zqk8 lk_wget ?zqk9 (fun h hi => binds_of plain_wget entry_wget (chk_wlen _ _) (get_len _ _) hi) ?zqk10 ?_; (case zqk1 | zqk2 | zqk3 => k_asm); (case zqk4 => k_mem); (case zqk5 => k_inst); (case zqk6 => k_is); (case zqk7 => ks_is); (case zqk8 | zqk9 => k_is); (case zqk10 => decide); k_whole; intro _ _ _ _ l1; (try (replace l1 := allLt_of l1)); revert l1; intro _; (try k_sweep))
    | (refine' superM ?zqk1 ?zqk2 ?zqk3 ?zqk4 ?zqk5 ?zqk6 ?zqk7 ?zqk8 lk_wget ?zqk9 (fun h hi => binds_of plain_wget entry_wget (chk_winit _ _) (get_init _ _) hi) ?zqk10 ?_; (case zqk1 | zqk2 | zqk3 => k_asm); (case zqk4 => k_mem); (case zqk5 => k_inst); (case zqk6 => k_is); (case zqk7 => ks_is); (case zqk8 | zqk9 => k_is); (case zqk10 => decide); k_whole; intro _ _ _ _ l1; (try (replace l1 := allLt_of l1)); revert l1; intro _; (try k_sweep))
    | (refine' superM ?zqk1 ?zqk2 ?zqk3 ?zqk4 ?zqk5 ?zqk6 ?zqk7 ?zqk8 lk_mget ?zqk9 (fun h hi => binds_of plain_mget entry_mget (chk_mpop _ _) (get_pop _ _) hi) ?zqk10 ?_; (case zqk1 | zqk2 | zqk3 => k_asm); (case zqk4 => k_mem); (case zqk5 => k_inst); (case zqk6 => k_is); (case zqk7 => ks_is); (case zqk8 | zqk9 => k_is); (case zqk10 => decide); k_whole; intro _ _ _ _ l1; (try (replace l1 := allLt_of l1)); revert l1; intro _; (try k_sweep)))))
  k_with "~wpAt" => ((ks_step "attributeBase Call"; k_here; k_dflt (refine node_M (by k_asm) (by k_asm) (by k_asm) (by k_asm) (by k_is) (by rfl) (by rfl) (by k_inst) (by k_is) (by rfl) (by first | rfl | decide +kernel) (by k_is) (by k_is) (by k_is) (by k_is) (by decide) (by rfl) (by rfl) (by rfl) (by rfl) (by decide +kernel) (by first | boot_by_name | rfl | kernel_rfl) ?_; intro _ _ _ _ l1; (try (replace l1 := allLt_of l1)); revert l1; intro _; (try k_sweep))))
  k_with "~callWith ref" => ((k_here; (first
    | (refine' callWith_B0 ?zqk1 ?zqk2 ?_; k_dflt ((case zqk1 => exact (News.get (by k_asm) (by k_mem))); (case zqk2 => decide); k_whole; try dsimp only [List.nil_append, List.cons_append]))
    | (refine' callWith_B ?zqk1 ?zqk2 ?_ ?zqk3 ?zqk4; k_dflt ((case zqk1 => k_is); (case zqk2 => decide); (case zqk3 | zqk4 => rfl); k_whole)))))
  k_with "~call ref" => ((k_here; (first
    | (refine' super_len ?zqk1 ?zqk2 ?_; k_dflt ((case zqk1 | zqk2 => exact (News.get (by k_asm) (by k_mem))); k_whole))
    | (refine' super_init ?zqk1 ?zqk2 ?zqk3 ?zqk4 ?zqk5 ?_; k_dflt ((case zqk1 | zqk2 => k_asm); (case zqk3 => exact (News.get (by k_asm) (by k_mem))); (case zqk5 => k_upd); (case zqk4 => k_ne); k_whole; intro _ _ _; (try k_sweep)))
    | (refine' super_pop ?zqk1 ?zqk2 ?zqk3 ?zqk4 ?zqk5 ?zqk6 ?zqk7 ?zqk8 ?zqk9 ?zqk10 ?zqk11 ?_; k_dflt ((case zqk1 | zqk2 | zqk3 => k_asm); (case zqk4 => exact (News.get (by k_asm) (by k_mem))); (case zqk10 => k_upd); (case zqk5 => exact (News.get (by k_asm) (by k_mem))); (case zqk6 | zqk7 => k_is); (case zqk8 => rfl); (case zqk9 => k_is); (case zqk11 => first | assumption | (simp only [sizeLine_eq]; omega)); k_whole; intro _ _ _; (try k_sweep))))))
  k_with "~m:sub" => (first | exact List.forall_mem_nil _ | (refine List.forall_mem_cons.mpr ⟨by k_mem, ?_⟩; walk_at "m:sub"))
  k_with "~setAttr ref" => ((k_here; (refine' set_acc ?zqk1 ?zqk2 ?zqk3 ?zqk4 ?zqk5 ?zqk6 ?zqk7 ?zqk8 ?zqk9 ?zqk10 ?zqk11 ?zqk12 ?zqk13 ?_; k_dflt ((case zqk1 | zqk2 | zqk3 => k_asm); (case zqk4 => k_inst); (case zqk5 => exact rfl); (case zqk6 => k_is); (case zqk7 => rfl); (case zqk8 | zqk9 => k_is); (case zqk10 => k_get); (case zqk11 => k_put); (case zqk12 => k_upd); (case zqk13 => exact Nat.le_of_ble_eq_true rfl); k_whole; intro _ _ _; (try k_sweep)))))
  k_with "~subscriptTail" => ((k_here; (with_reducible show wpAny _ _ (subscriptTail _ _ (Value.ref _) (Value.ref _)) _ _ _); (refine' slice_acc ?zqk1 ?zqk2 ?zqk3 ?zqk4 ?zqk5 ?zqk6 ?zqk7 ?zqk8 ?zqk9 ?zqk10 ?_ ?zqk11 ?zqk12 ?zqk13; k_dflt ((case zqk1 | zqk2 | zqk3 => k_asm); (case zqk4 => k_inst); (case zqk5 => exact rfl); (case zqk6 | zqk7 | zqk8 => k_is); (case zqk9 | zqk10 => first | exact IsPart.none | exact IsPart.int _ _); (case zqk11 => with_unfolding_all rfl); (case zqk12 => intro _; with_unfolding_all rfl); (case zqk13 => first | assumption | (simp only [sizeLine_eq]; omega)); k_whole; intro _ _ _ _ l1; (try (replace l1 := allLt_of l1)); revert l1; intro _; (try k_sweep)))))
  k_with "~m:steps" => (repeat' (first | (walk1; (try dsimp only)) | (dsimp only; walk1; (try dsimp only)) | fail "no step"))
  k_with "~k_in" => ((refine' Frag.In.keeps ?zqkx ?zqkh; (case zqkx => with_reducible assumption); (case zqkh => exact Fr.keep (by with_reducible assumption))))
  k_with "~k_ne" => ((refine neN ?_; (try dsimp only); (try dsimp only [AllLt] at *); omega))
  k_with "~k_ne" => (first | with_reducible assumption | (refine Ne.symm ?_; with_reducible assumption) | (refine' ne_lt ?zqkh ?zqkm; (case zqkh => with_reducible assumption); (case zqkm => k_mem)) | (refine' Ne.symm (ne_lt ?zqkh ?zqkm); (case zqkh => with_reducible assumption); (case zqkm => k_mem)) | (refine neN ?_; decide))
  trivial
-- text ZNQ
section
example : True := by
  k_with "~wpAt" => ((ks_step "exec Expr"; k_dflt (refine ks_wpAt_Expr_any ?_)))
  k_with "~wpAt" => ((ks_step "eval Call"; k_dflt (refine ks_wpAt_MethodCall ?_)))
  trivial
theorem punct_raw {w : World} {A : Around} {s : Shared} {H : Heap} {loose : List Str} {mg mb : Str → Option Value} {R : Result → Shared → Prop} {x dx io pb fs : Addr} {ks ts : Nat → Tok} {com wc : Str} {wsp : Bool} {st tok : Value}
  (X : (hd.heap_39 w.params).In H) (T : TopRead Mine.hd.view_39 loose mg mb H) (hk : ∀ b o, H.get? b = some o → s.heap.get? b = some o) (hd : A.depth + 1 < recursionLimit)
  (hx : ∀ q ∈ [(x, ioObj 816 dx), (dx, lexDict w.params ks ts io pb fs com wc wsp st tok)], s.heap.get? q.1 = some q.2 ∧ H.get? q.1 = none) (hne : @Ne Nat x dx)
  (hR : ∀ s', Aft s s' [(x, ioObj 816 dx), (dx, lexDict w.params ks ts io pb fs com wc wsp st tok)] [(x, ioObj 816 dx), (dx, lexDict w.params ks ts io pb fs com wc wsp st tok)] → R (.ok (.ret (.str (Str.ofString "") (ts 18)))) s') :
  codeAny (model PG w) A (.call (.ref 747) ⟨[.ref x], []⟩) R s := by
  refine' enterM (binds := [(Str.ofString "self", .ref x)]) [(x, ioObj 816 dx), (dx, lexDict w.params ks ts io pb fs com wc wsp st tok)] ?k1 ?k2 ?k3 ?k4 ?k6 ?k7 ?k8 ?k9 ?kB ?_ ?c5 ?c2 ?c3 ?c4
  walk_at "m:enter"
  intro g L h₁ hkg hgk F N Xg Tg hHg hlt
  (replace hlt := allLt_of hlt)
  (try dsimp only)
  walk_at "m:steps"
  exact hR _ (Aft.of hkg (by k_asm) (by k_asm) (by walk_at "m:sub") rfl id)
section
variable {w : World} {A : Around} {E : Value → Shared → Prop} {s : Shared} {h₀ : Heap} {L : Addr} {m : Str → Option Value} {news : List (Addr × Obj)} {loose : List Str} {mg mb : Str → Option Value} {Q : Value → Shared → Prop} {x dx io pb fs : Addr} {ks ts : Nat → Tok} {com wc : Str} {wsp : Bool} {st tok : Value}
theorem punct_w {expr : Bool} (F : Fr h₀ L s.heap m) (X : (Mine.hd.heap_39 w.params).In h₀) (T : TopRead Mine.hd.view_39 loose mg mb h₀) (N : News h₀ L s.heap news) (m1 : (x, ioObj 816 dx) ∈ news) (m2 : (dx, lexDict w.params ks ts io pb fs com wc wsp st tok) ∈ news) (hne : @Ne Nat x dx) (hd : A.depth + 1 < recursionLimit)
    (h : ∀ s', Fr h₀ L s'.heap m → News h₀ L s'.heap news → s'.os = s.os → (AllBare s.gens → AllBare s'.gens) → Q (.str (Str.ofString "") (ts 18)) s') :
    wpAny (model PG w) A (getAttr (.ref x) (Str.ofString "punctuation_chars") expr) Q E s := by
  refine get_prop F X (InstAt.of_news N m1 m2) (p := 748) (fget := 747) (by k_is) (by k_is) (by k_is) (by k_is) (by k_is) (by k_is) ?_
  refine punct_raw (s := { s with toks := s.toks + 1 }) X T F.keep hd (two_own N m1 m2) hne fun s' a => ?_
  obtain ⟨F', N'⟩ := a.same (ex := []) (h₀ := h₀) (L := L) (m := m) (news := news) F N m1 m2
  dsimp only
  rw [handedOut_of rfl]
  exact wpAny_pure (h s' F' N' a.os a.bare)
end
end
-- text ZNR
section
inductive LS
  | sp
  | a
  | q (c : Nat)
noncomputable def LS.str : LS → Str
  | .sp => Str.ofString " "
  | .a => Str.ofString "a"
  | .q c => ⟨#[c]⟩
noncomputable def Plain (c : Nat) : Prop := c ≠ 32 ∧ c ≠ 9 ∧ c ≠ 13 ∧ c ≠ 10 ∧ c ≠ 39 ∧ c ≠ 34 ∧ c ≠ 92
noncomputable def lexRun : LS → List Nat → Bool → List Nat → Option (List Nat × Bool × Bool × List Nat)
  | .sp, tok, qd, [] => some (tok, qd, true, [])
  | .a, tok, qd, [] => some (tok, qd, true, [])
  | .q _, _, _, [] => none
  | .sp, tok, qd, c :: cs => if c = 32 then lexRun .sp tok qd cs else if c = 39 then lexRun (.q 39) tok qd cs else if c = 34 ∨ c = 9 ∨ c = 13 ∨ c = 10 ∨ c = 92 then none else lexRun .a [c] qd cs
  | .a, tok, qd, c :: cs => if c = 32 then some (tok, qd, false, cs) else if c = 39 ∨ c = 34 then lexRun (.q c) tok qd cs else if c = 9 ∨ c = 13 ∨ c = 10 ∨ c = 92 then none else lexRun .a (tok ++ [c]) qd cs
  | .q k, tok, _, c :: cs => if c = k then lexRun .a tok true cs else if c = 92 ∨ c = 10 then none else lexRun (.q k) (tok ++ [c]) true cs
theorem in_dec {prog : Program} {w : World} {A : Around} {E : Value → Shared → Prop} {s : Shared} {x y : Str} {t u : Tok} {Q : Value → Shared → Prop} (b : Bool) (e : (!(Builtin.Str.occurrences x y 0 x.length 1).isEmpty) = b) (h : Q (.bool b) s) :
    wpAny (model prog w) A (compareOp .In (.str y u) (.str x t)) Q E s := PyProof.Rows.in_str (e ▸ h)
section
variable {w : World} {A : Around} {E : Value → Shared → Prop} {s : Shared} {h₀ : Heap} {L : Addr} {m : Str → Option Value} {news : List (Addr × Obj)} {nw : Tok → List (Addr × Obj)} {loose : List Str} {mg mb : Str → Option Value} {Q : Value → Shared → Prop} {io dio : Addr} {h1 h2 h3 : Int} {k1 k2 k3 : Tok} {nl : Value} {text : Str} {tt tp t1 : Tok} {p c : Nat}
theorem read_wc (F : Fr h₀ L s.heap m) (X : (Mine.hd.heap_39 w.params).In h₀) (T : TopRead Mine.hd.view_39 loose mg mb h₀) (N : News h₀ L s.heap news) (m1 : (io, ioObj 681 dio) ∈ news)
    (U : ∀ t2, Upd dio (ioDict h1 h2 h3 k1 k2 k3 nl (.str text tt) (.int p tp)) (ioDict h1 h2 h3 k1 k2 k3 nl (.str text tt) (.int (p + 1) t2)) news (nw t2)) (hne : @Ne Nat io dio) (hp : p < text.length) (hl : text.length ≤ 1000000) (hd : A.depth + 2 < recursionLimit) (hc : text.cps.getD p 0 = c)
    (h : ∀ s' t t2, Fr h₀ L s'.heap m → News h₀ L s'.heap (nw t2) → s'.os = s.os → (AllBare s.gens → AllBare s'.gens) → Q (.str ⟨#[c]⟩ t) s') : wpAny (model PG w) A (call (.ref 627) [.ref io, .int 1 t1]) Q E s :=
  read_w F X T N m1 U hne hp hl hd fun s' t t2 => by rw [hc]; exact h s' t t2
end
theorem eq_dec {prog : Program} {w : World} {A : Around} {E : Value → Shared → Prop} {s : Shared} {x y : Str} {t u : Tok} {Q : Value → Shared → Prop} (b : Bool) (e : (x == y) = b) (h : Q (.bool b) s) :
    wpAny (model prog w) A (compareOp .Eq (.str x t) (.str y u)) Q E s := PyProof.Rows.eq_str (e ▸ h)
end
example : True := by
  k_with_none
  k_with "~m:enter" => (((case k1 | k2 | k3 => assumption); (case k4 => first | assumption | (intro _ hq; cases hq)); (case k6 | k7 => k_is); (case k8 => first | assumption | omega | (simp only [depth_deeper, depth_in1, recursionLimit] at *; omega)); (case k9 => first | exact BindsTo.of_eq rfl | exact binds_K (Frag.In.keeps (by assumption) (by assumption)) rfl (by k_is) rfl rfl rfl); (case c5 => decide); (case kB => exact locs rfl); (case c2 | c3 | c4 => exact rfl)))
  k_with "~k_inst" => ((refine' InstAt.of_accN ?zqN ?zqh1 ?zqh2; (case zqN => k_asm); (case zqh1 | zqh2 => k_mem)))
  k_with "~m:shadow" => ((refine shadow_of ?_; k_get))
  k_with "~getMethod ref" => ((k_here; (first
    | (refine' method_fnG ?zqk1 ?zqk2 ?zqk3 ?zqk4 ?zqk5 ?zqk6 ?zqk7 ?zqk8 ?_; k_dflt ((case zqk1 => k_in); (case zqk2 => k_inst); (case zqk3 => k_is); (case zqk4 => first | with_reducible exact canon_list_ga | with_reducible exact PySem.F.canon_object_ga | decide +kernel); (case zqk5 | zqk6 | zqk7 => k_is); (case zqk8 => walk_at "m:shadow"); k_whole))
    | (refine' method_biG ?zqk1 ?zqk2 ?zqk3 ?zqk4 ?zqk5 ?zqk6 ?zqk7 ?zqk8 ?zqk9 ?_; k_dflt ((case zqk1 => k_in); (case zqk2 => k_inst); (case zqk3 => k_is); (case zqk4 => first | with_reducible exact canon_list_ga | with_reducible exact PySem.F.canon_object_ga | decide +kernel); (case zqk5 | zqk6 | zqk7 => k_is); (case zqk8 => decide); (case zqk9 => walk_at "m:shadow"); k_whole)))))
  k_with "~call builtin:list.append" => ((k_here; (refine' append_acc ?zqk1 ?zqk2 ?zqk3 ?zqk4 ?zqk5 ?zqk6 ?_ ?zqk7; k_dflt ((case zqk1 | zqk2 | zqk3 => k_asm); (case zqk6 => k_upd); (case zqk4 => exact (News.get (by k_asm) (by k_mem))); (case zqk5 => k_is); (case zqk7 => first | assumption | (simp only [sizeLine_eq]; omega)); k_whole)); intro _ _ _; (try k_sweep)))
  k_with "~getMethod ref" => ((k_here; ks_any; k_dflt (first
    | (refine' superM ?zqk1 ?zqk2 ?zqk3 ?zqk4 ?zqk5 ?zqk6 ?zqk7 ?zqk8 lk_wget ?zqk9 (fun h hi => binds_of plain_wget entry_wget (chk_wlen _ _) (get_len _ _) hi) ?zqk10 ?_; (case zqk1 | zqk2 | zqk3 => k_asm); (case zqk4 => k_mem); (case zqk5 => k_inst); (case zqk6 => k_is); (case zqk7 => ks_is); (case zqk8 | zqk9 => k_is); (case zqk10 => decide); k_whole; intro _ _ _ _ l1; (try (replace l1 := allLt_of l1)); revert l1; intro _; (try k_sweep))
    | (refine' superM ?zqk1 ?zqk2 ?zqk3 ?zqk4 ?zqk5 ?zqk6 ?zqk7 ?zqk8 lk_wget ?zqk9 (fun h hi => binds_of plain_wget entry_wget (chk_winit _ _) (get_init _ _) hi) ?zqk10 ?_; (case zqk1 | zqk2 | zqk3 => k_asm); (case zqk4 => k_mem); (case zqk5 => k_inst); (case zqk6 => k_is); (case zqk7 => ks_is); (case zqk8 | zqk9 => k_is); (case zqk10 => decide); k_whole; intro _ _ _ _ l1; (try (replace l1 := allLt_of l1)); revert l1; intro _; (try k_sweep))
    | (refine' superM ?zqk1 ?zqk2 ?zqk3 ?zqk4 ?zqk5 ?zqk6 ?zqk7 ?zqk8 lk_mget ?zqk9 (fun h hi => binds_of plain_mget entry_mget (chk_mpop _ _) (get_pop _ _) hi) ?zqk10 ?_; (case zqk1 | zqk2 | zqk3 => k_asm); (case zqk4 => k_mem); (case zqk5 => k_inst); (case zqk6 => k_is); (case zqk7 => ks_is); (case zqk8 | zqk9 => k_is); (case zqk10 => decide); k_whole; intro _ _ _ _ l1; (try (replace l1 := allLt_of l1)); revert l1; intro _; (try k_sweep)))))
  k_with "~wpAt" => ((ks_step "attributeBase Call"; k_here; k_dflt (refine node_M (by k_asm) (by k_asm) (by k_asm) (by k_asm) (by k_is) (by rfl) (by rfl) (by k_inst) (by k_is) (by rfl) (by first | rfl | decide +kernel) (by k_is) (by k_is) (by k_is) (by k_is) (by decide) (by rfl) (by rfl) (by rfl) (by rfl) (by decide +kernel) (by first | boot_by_name | rfl | kernel_rfl) ?_; intro _ _ _ _ l1; (try (replace l1 := allLt_of l1)); revert l1; intro _; (try k_sweep))))
  k_with "~callWith ref" => ((k_here; (first
    | (refine' callWith_B0 ?zqk1 ?zqk2 ?_; k_dflt ((case zqk1 => exact (News.get (by k_asm) (by k_mem))); (case zqk2 => decide); k_whole; try dsimp only [List.nil_append, List.cons_append]))
    | (refine' callWith_B ?zqk1 ?zqk2 ?_ ?zqk3 ?zqk4; k_dflt ((case zqk1 => k_is); (case zqk2 => decide); (case zqk3 | zqk4 => rfl); k_whole)))))
  k_with "~call ref" => ((k_here; (first
    | (refine' super_len ?zqk1 ?zqk2 ?_; k_dflt ((case zqk1 | zqk2 => exact (News.get (by k_asm) (by k_mem))); k_whole))
    | (refine' super_init ?zqk1 ?zqk2 ?zqk3 ?zqk4 ?zqk5 ?_; k_dflt ((case zqk1 | zqk2 => k_asm); (case zqk3 => exact (News.get (by k_asm) (by k_mem))); (case zqk5 => k_upd); (case zqk4 => k_ne); k_whole; intro _ _ _; (try k_sweep)))
    | (refine' super_pop ?zqk1 ?zqk2 ?zqk3 ?zqk4 ?zqk5 ?zqk6 ?zqk7 ?zqk8 ?zqk9 ?zqk10 ?zqk11 ?_; k_dflt ((case zqk1 | zqk2 | zqk3 => k_asm); (case zqk4 => exact (News.get (by k_asm) (by k_mem))); (case zqk10 => k_upd); (case zqk5 => exact (News.get (by k_asm) (by k_mem))); (case zqk6 | zqk7 => k_is); (case zqk8 => rfl); (case zqk9 => k_is); (case zqk11 => first | assumption | (simp only [sizeLine_eq]; omega)); k_whole; intro _ _ _; (try k_sweep))))))
  k_with "~m:sub" => (first | exact List.forall_mem_nil _ | (refine List.forall_mem_cons.mpr ⟨by k_mem, ?_⟩; walk_at "m:sub"))
  k_with "~setAttr ref" => ((k_here; (refine' set_acc ?zqk1 ?zqk2 ?zqk3 ?zqk4 ?zqk5 ?zqk6 ?zqk7 ?zqk8 ?zqk9 ?zqk10 ?zqk11 ?zqk12 ?zqk13 ?_; k_dflt ((case zqk1 | zqk2 | zqk3 => k_asm); (case zqk4 => k_inst); (case zqk5 => exact rfl); (case zqk6 => k_is); (case zqk7 => rfl); (case zqk8 | zqk9 => k_is); (case zqk10 => k_get); (case zqk11 => k_put); (case zqk12 => k_upd); (case zqk13 => exact Nat.le_of_ble_eq_true rfl); k_whole; intro _ _ _; (try k_sweep)))))
  k_with "~subscriptTail" => ((k_here; (with_reducible show wpAny _ _ (subscriptTail _ _ (Value.ref _) (Value.ref _)) _ _ _); (refine' slice_acc ?zqk1 ?zqk2 ?zqk3 ?zqk4 ?zqk5 ?zqk6 ?zqk7 ?zqk8 ?zqk9 ?zqk10 ?_ ?zqk11 ?zqk12 ?zqk13; k_dflt ((case zqk1 | zqk2 | zqk3 => k_asm); (case zqk4 => k_inst); (case zqk5 => exact rfl); (case zqk6 | zqk7 | zqk8 => k_is); (case zqk9 | zqk10 => first | exact IsPart.none | exact IsPart.int _ _); (case zqk11 => with_unfolding_all rfl); (case zqk12 => intro _; with_unfolding_all rfl); (case zqk13 => first | assumption | (simp only [sizeLine_eq]; omega)); k_whole; intro _ _ _ _ l1; (try (replace l1 := allLt_of l1)); revert l1; intro _; (try k_sweep)))))
  k_with "~m:steps" => (repeat' (first | (walk1; (try dsimp only)) | (dsimp only; walk1; (try dsimp only)) | fail "no step"))
  k_with "~k_in" => ((refine' Frag.In.keeps ?zqkx ?zqkh; (case zqkx => with_reducible assumption); (case zqkh => exact Fr.keep (by with_reducible assumption))))
  k_with "~k_ne" => ((refine neN ?_; (try dsimp only); (try dsimp only [AllLt] at *); omega))
  k_with "~k_ne" => (first | with_reducible assumption | (refine Ne.symm ?_; with_reducible assumption) | (refine' ne_lt ?zqkh ?zqkm; (case zqkh => with_reducible assumption); (case zqkm => k_mem)) | (refine' Ne.symm (ne_lt ?zqkh ?zqkm); (case zqkh => with_reducible assumption); (case zqkm => k_mem)) | (refine neN ?_; decide))
  trivial
-- text ZMT
section
theorem one_in (x : Str) (c : Nat) (b : Bool) (h : decide (c ∈ x.cps.toList) = b) : (!(Builtin.Str.occurrences x ⟨#[c]⟩ 0 x.length 1).isEmpty) = b := (StrLaws.found_one x c).trans h
theorem ws_out {c : Nat} (h : c ≠ 32 ∧ c ≠ 9 ∧ c ≠ 13 ∧ c ≠ 10) : (!(Builtin.Str.occurrences (Str.ofString " \t\r\n") ⟨#[c]⟩ 0 (Str.ofString " \t\r\n").length 1).isEmpty) = false := by
  apply one_in
  have e : (Str.ofString " \t\r\n").cps.toList = [32, 9, 13, 10] := by decide +kernel
  rw [e]; simp; omega
theorem no_out {c : Nat} : (!(Builtin.Str.occurrences (Str.ofString "") ⟨#[c]⟩ 0 (Str.ofString "").length 1).isEmpty) = false := by
  apply one_in
  have e : (Str.ofString "").cps.toList = [] := by decide +kernel
  rw [e]; simp
theorem esc_out {c : Nat} (h : c ≠ 92) : (!(Builtin.Str.occurrences (Str.ofString "\\") ⟨#[c]⟩ 0 (Str.ofString "\\").length 1).isEmpty) = false := by
  apply one_in
  have e : (Str.ofString "\\").cps.toList = [92] := by decide +kernel
  rw [e]; simp; omega
theorem quo_out {c : Nat} (h : c ≠ 39 ∧ c ≠ 34) : (!(Builtin.Str.occurrences (Str.ofString "'\"") ⟨#[c]⟩ 0 (Str.ofString "'\"").length 1).isEmpty) = false := by
  apply one_in
  have e : (Str.ofString "'\"").cps.toList = [39, 34] := by decide +kernel
  rw [e]; simp; omega
theorem one_eq {a b : Nat} (h : a ≠ b) : ((⟨#[a]⟩ : Str) == ⟨#[b]⟩) = false := by
  rw [beq_eq_false_iff_ne]
  intro q
  exact h (by injection q with q; injection q with q; injection q)
theorem nl_out {c : Nat} (h : c ≠ 10) : ((⟨#[c]⟩ : Str) == Str.ofString "\n") = false := by
  have e : Str.ofString "\n" = ⟨#[10]⟩ := by decide +kernel
  rw [e]; exact one_eq h
theorem tok_snoc (tok : List Nat) (c : Nat) : (⟨tok.toArray⟩ : Str) ++ ⟨#[c]⟩ = ⟨(tok ++ [c]).toArray⟩ := by
  show Str.mk (tok.toArray ++ #[c]) = _
  simp
theorem truthy_one {prog : Program} {w : World} {A : Around} {E : Value → Shared → Prop} {s : Shared} {c : Nat} {t : Tok} {Q : Bool → Shared → Prop} (h : Q true { s with toks := s.toks + 1 + 1 }) : wpAny (model prog w) A (truthy (.str ⟨#[c]⟩ t)) Q E s :=
  PySem.P.truthy_str (x := ⟨#[c]⟩) (show ¬ (((1 : Nat) : Int) ≥ 2 ^ 63) by decide) h
theorem truthy_some {prog : Program} {w : World} {A : Around} {E : Value → Shared → Prop} {s : Shared} {c : Nat} {cs : List Nat} {t : Tok} {Q : Bool → Shared → Prop} (hl : (c :: cs).length ≤ 1000000) (h : Q true { s with toks := s.toks + 1 + 1 }) : wpAny (model prog w) A (truthy (.str ⟨(c :: cs).toArray⟩ t)) Q E s := by
  have e : (⟨(c :: cs).toArray⟩ : Str).length = cs.length + 1 := by simp [Str.length]
  rw [List.length_cons] at hl
  refine PySem.P.truthy_str (x := ⟨(c :: cs).toArray⟩) (by rw [e]; omega) ?_
  rw [e, show ((((cs.length + 1 : Nat) : Int) != 0)) = true from bne_iff_ne.mpr (by omega)]
  exact h
theorem truthy_none {prog : Program} {w : World} {A : Around} {E : Value → Shared → Prop} {s : Shared} {t : Tok} {Q : Bool → Shared → Prop} (h : Q false { s with toks := s.toks + 1 + 1 }) : wpAny (model prog w) A (truthy (.str ⟨([] : List Nat).toArray⟩ t)) Q E s :=
  PySem.P.truthy_str (x := ⟨([] : List Nat).toArray⟩) (by decide) h
theorem notin_dec {prog : Program} {w : World} {A : Around} {E : Value → Shared → Prop} {s : Shared} {x y : Str} {t u : Tok} {Q : Value → Shared → Prop} (b : Bool) (e : (!(Builtin.Str.occurrences x y 0 x.length 1).isEmpty) = b) (h : Q (.bool (!b)) s) :
    wpAny (model prog w) A (compareOp .NotIn (.str y u) (.str x t)) Q E s := PyProof.Rows.notIn_str (e ▸ h)
theorem occ_mem {x : Str} {c : Nat} (h : (Builtin.Str.occurrences x ⟨#[c]⟩ 0 x.length 1).isEmpty = false) : c ∈ x.cps.toList := by
  have e := StrLaws.found_one x c
  rw [h] at e; simpa using e.symm
theorem occ_not {x : Str} {c : Nat} (h : (Builtin.Str.occurrences x ⟨#[c]⟩ 0 x.length 1).isEmpty = true) : c ∉ x.cps.toList := by
  have e := StrLaws.found_one x c
  rw [h] at e; simpa using e.symm
theorem ws_list : (Str.ofString " \t\r\n").cps.toList = [32, 9, 13, 10] := by decide +kernel
theorem quo_list : (Str.ofString "'\"").cps.toList = [39, 34] := by decide +kernel
theorem ws_of {c : Nat} (h : (Builtin.Str.occurrences (Str.ofString " \t\r\n") ⟨#[c]⟩ 0 (Str.ofString " \t\r\n").length 1).isEmpty = false) : c = 32 ∨ c = 9 ∨ c = 13 ∨ c = 10 := by
  have := occ_mem h; rw [ws_list] at this; simpa using this
theorem ws_no {c : Nat} (h : (Builtin.Str.occurrences (Str.ofString " \t\r\n") ⟨#[c]⟩ 0 (Str.ofString " \t\r\n").length 1).isEmpty = true) : c ≠ 32 ∧ c ≠ 9 ∧ c ≠ 13 ∧ c ≠ 10 := by
  have := occ_not h; rw [ws_list] at this; simpa using this
theorem quo_of {c : Nat} (h : (Builtin.Str.occurrences (Str.ofString "'\"") ⟨#[c]⟩ 0 (Str.ofString "'\"").length 1).isEmpty = false) : c = 39 ∨ c = 34 := by
  have := occ_mem h; rw [quo_list] at this; simpa using this
theorem quo_no {c : Nat} (h : (Builtin.Str.occurrences (Str.ofString "'\"") ⟨#[c]⟩ 0 (Str.ofString "'\"").length 1).isEmpty = true) : c ≠ 39 ∧ c ≠ 34 := by
  have := occ_not h; rw [quo_list] at this; simpa using this
theorem in_yes {prog : Program} {w : World} {A : Around} {E : Value → Shared → Prop} {s : Shared} {x y : Str} {t u : Tok} {Q : Value → Shared → Prop} (e : (Builtin.Str.occurrences x y 0 x.length 1).isEmpty = false) (h : Q (.bool true) s) :
    wpAny (model prog w) A (compareOp .In (.str y u) (.str x t)) Q E s := PyProof.Rows.in_str (by rw [e]; exact h)
theorem in_no {prog : Program} {w : World} {A : Around} {E : Value → Shared → Prop} {s : Shared} {x y : Str} {t u : Tok} {Q : Value → Shared → Prop} (e : (Builtin.Str.occurrences x y 0 x.length 1).isEmpty = true) (h : Q (.bool false) s) :
    wpAny (model prog w) A (compareOp .In (.str y u) (.str x t)) Q E s := PyProof.Rows.in_str (by rw [e]; exact h)
example : True := by
  k_with "~truthy str" => ((k_here; first | ((with_reducible show wpAny _ _ (truthy (.str ⟨#[_]⟩ _)) _ _ _); refine' truthy_one ?_) | ((with_reducible show wpAny _ _ (truthy (.str ⟨List.toArray (_ :: _)⟩ _)) _ _ _); refine' truthy_some ?zqk1 ?_; (case zqk1 => first | with_reducible assumption | omega)) | ((with_reducible show wpAny _ _ (truthy (.str ⟨List.toArray []⟩ _)) _ _ _); refine' truthy_none ?_)))
  k_with "~compareOp NotIn str str" => ((first | (refine' notin_dec true ?zqk1 ?_; (case zqk1 => first | with_reducible assumption | (k_dflt decide +kernel))) | (refine' notin_dec false ?zqk1 ?_; (case zqk1 => first | with_reducible assumption | (k_dflt decide +kernel)))))
  trivial
theorem quo_in {c : Nat} (h : c = 39 ∨ c = 34) : (Builtin.Str.occurrences (Str.ofString "'\"") ⟨#[c]⟩ 0 (Str.ofString "'\"").length 1).isEmpty = false := by rcases h with rfl | rfl <;> decide +kernel
theorem wc_no {wc : Str} {c : Nat} (h1 : (!(Builtin.Str.occurrences wc ⟨#[39]⟩ 0 wc.length 1).isEmpty) = false) (h2 : (!(Builtin.Str.occurrences wc ⟨#[34]⟩ 0 wc.length 1).isEmpty) = false) (h : (Builtin.Str.occurrences wc ⟨#[c]⟩ 0 wc.length 1).isEmpty = false) : c ≠ 39 ∧ c ≠ 34 := by
  refine ⟨?_, ?_⟩ <;> (rintro rfl; simp_all)
theorem tok_clash {tok : List Nat} {q : Bool} (h : tok ≠ [] ∨ q = true) (h1 : ((⟨tok.toArray⟩ : Str).length : Int) = 0) (h2 : q = false) : False := by
  subst h2
  rcases h with h | h
  · apply h; cases tok with
    | nil => rfl
    | cons a l => exfalso; rw [show (⟨(a :: l).toArray⟩ : Str).length = l.length + 1 from by simp [Str.length]] at h1; omega
  · cases h
theorem eqs_of {c k : Nat} (h : ((⟨#[c]⟩ : Str) == ⟨#[k]⟩) = true) : c = k := by
  have := beq_iff_eq.mp h; injection this with q; injection q with q; injection q
theorem eqs_no {c k : Nat} (h : ((⟨#[c]⟩ : Str) == ⟨#[k]⟩) = false) : c ≠ k := by
  rintro rfl; simp at h
theorem tok_e {rtk : List Nat} : ((⟨rtk.toArray⟩ : Str) == Str.ofString "") = true ↔ rtk = [] := by
  have e : Str.ofString "" = ⟨([] : List Nat).toArray⟩ := by decide +kernel
  rw [e, beq_iff_eq]
  refine ⟨fun h => ?_, fun h => by rw [h]⟩
  injection h with h; injection h
theorem tok_ne {rtk : List Nat} (h : ((⟨rtk.toArray⟩ : Str) == Str.ofString "") = false) : rtk ≠ [] := fun q => by rw [tok_e.mpr q] at h; cases h
example : True := by
  k_with "~wpAt" => ((ks_step "exec Expr"; k_dflt (refine ks_wpAt_Expr_any ?_)))
  k_with "~wpAt" => ((ks_step "eval Call"; k_dflt (refine ks_wpAt_MethodCall ?_)))
  k_with "~exec While" => ((refine Held.out ?_))
  k_with "~m:look" => (first | exact rfl | assumption | (dsimp only; repeat (first | rw [if_pos rfl] | rw [if_neg (by decide)])); first | rfl | assumption)
  k_with "~eval Name" => ((k_here; (refine' ld ?zqk1 ?zqk2 ?_; k_dflt ((case zqk1 => k_asm); (case zqk2 => walk_at "m:look"); k_whole))))
  k_with "~call ref" => ((k_here; (first
    | (refine' read_wc ?zqk1 ?zqk2 ?zqk3 ?zqk4 ?zqk5 ?zqk6 ?zqk7 ?zqk8 ?zqk9 ?zqkA ?zqkC ?_; k_dflt ((case zqkC => assumption); (case zqk1 | zqk2 | zqk3 | zqk4 => k_asm); (case zqk5 => k_mem); (case zqk6 => (intro _; k_upd)); (case zqk7 => k_ne); (case zqk8 | zqk9 => assumption); (case zqkA => walk_at "m:room"); k_whole; intro _ _ _ _ _ _ _; (try k_sweep)))
    | (refine' readend_w ?zqk1 ?zqk2 ?zqk3 ?zqk4 ?zqk5 ?zqk6 ?zqk7 ?zqk8 ?zqk9 ?zqkA ?_; k_dflt ((case zqk1 | zqk2 | zqk3 | zqk4 => k_asm); (case zqk5 | zqk6 => k_mem); (case zqk7 => k_ne); (case zqk8 | zqk9 => assumption); (case zqkA => walk_at "m:room"); k_whole; intro _ _ _ _ _ _; (try k_sweep))))))
  k_with "~getAttr ref" => ((k_here; (with_reducible show wpAny _ _ (getAttr (Value.ref _) (PySem.Str.ofString "punctuation_chars") _) _ _ _); (refine' punct_w ?zqk1 ?zqk2 ?zqk3 ?zqk4 ?zqk5 ?zqk6 ?zqk7 ?zqk8 ?_; k_dflt ((case zqk1 | zqk2 | zqk3 | zqk4 => k_asm); (case zqk5 | zqk6 => k_mem); (case zqk7 => k_ne); (case zqk8 => walk_at "m:room"); k_whole; intro _ _ _ _ _; (try k_sweep)))))
  k_with "~m:room" => (first | assumption | omega | (simp only [depth_deeper, depth_in1]; omega))
  k_with "~compareOp In str str" => ((first | (refine' in_yes ?zqk1 ?_; (case zqk1 => with_reducible assumption)) | (refine' in_no ?zqk1 ?_; (case zqk1 => with_reducible assumption)) | (refine' in_dec true ?zqk1 ?_; (case zqk1 => first | with_reducible assumption | (k_dflt decide +kernel))) | (refine' in_dec false ?zqk1 ?_; (case zqk1 => first | with_reducible assumption | (k_dflt decide +kernel)))))
  k_with "~compareOp Eq str str" => ((first | (refine' eq_dec true ?zqk1 ?_; (case zqk1 => first | with_reducible assumption | (k_dflt decide +kernel))) | (refine' eq_dec false ?zqk1 ?_; (case zqk1 => first | with_reducible assumption | (k_dflt decide +kernel)))))
  k_with "~m:bare" => ((repeat (first | assumption | with_reducible apply_assumption)))
  k_with "~exec If" => (refine wpAny_If ?_)
  k_with "~ite" => (first | refine' ite_tt ?_ | refine' ite_ff ?_)
  k_with "~getAttr ref" => ((k_here; (refine' get_own ?zqk1 ?zqk2 ?zqk3 ?zqk4 ?zqk5 ?zqk6 ?zqk7 ?zqk8 ?zqk9 ?_; k_dflt ((case zqk1 | zqk2 => k_asm); (case zqk3 => k_inst); (case zqk4 | zqk5 | zqk6 | zqk7 => k_is); (case zqk8 => k_get); (case zqk9 => k_handed); k_whole))))
  trivial
theorem lexRun_signs {ls : LS} {tok : List Nat} {q : Bool} {c : Nat} {cs : List Nat} {r : List Nat × Bool × Bool × List Nat} (hq : ∀ k, ls = .q k → k = 39 ∨ k = 34) (h : lexRun ls tok q (c :: cs) = some r) : c ≠ 10 ∧ c ≠ 92 := by
  cases ls with
  | sp => constructor <;> (rintro rfl; unfold lexRun at h; simp at h)
  | a => constructor <;> (rintro rfl; unfold lexRun at h; simp at h)
  | q k => rcases hq k rfl with rfl | rfl <;> constructor <;> (rintro rfl; unfold lexRun at h; simp at h)
example : True := by
  k_with "~compareOp Eq str str" => ((k_here; (with_reducible show wpAny _ _ (compareOp .Eq (.str (LS.str _) _) (.str (Str.ofString " ") _)) _ _ _); refine Held.out ?_))
  trivial
end
section
namespace G6
noncomputable abbrev T := (World) × (Around) × (Shared) × (Heap) × (List Str) × (Str → Option Value) × (Str → Option Value) × (Result → Shared → Prop) × (Addr) × (Addr) × (Addr) × (Addr) × (Addr) × (Addr) × (Nat → Tok) × (Nat → Tok) × (Str) × (Str) × (Int) × (Int) × (Int) × (Tok) × (Tok) × (Tok) × (Tok) × (Tok) × (Tok) × (Tok) × (Value) × (Nat)
noncomputable def Pf (w : World) (A : Around) (s : Shared) (H : Heap) (loose : List Str) (mg : Str → Option Value) (mb : Str → Option Value) (R : Result → Shared → Prop) (x : Addr) (dx : Addr) (io : Addr) (dio : Addr) (pb : Addr) (fs : Addr) (ks : Nat → Tok) (ts : Nat → Tok) (wc : Str) (text : Str) (h1 : Int) (h2 : Int) (h3 : Int) (k1 : Tok) (k2 : Tok) (k3 : Tok) (tt : Tok) (tp : Tok) (t0 : Tok) (t9 : Tok) (nl : Value) (p : Nat) : Prop := ∀ (rtk : List Nat) (qd : Bool) (ended : Bool) (rest : List Nat) (X : (hd.heap_39 w.params).In H) (T : TopRead Mine.hd.view_39 loose mg mb H) (hk : ∀ b o, H.get? b = some o → s.heap.get? b = some o) (hd : A.depth + 12 < recursionLimit) (hx : ∀ q ∈ [(x, ioObj 816 dx), (dx, lexDict w.params ks ts io pb fs (Str.ofString "") wc true (.str (Str.ofString " ") t0) (.str (Str.ofString "") t9)), (io, ioObj 681 dio), (dio, ioDict h1 h2 h3 k1 k2 k3 nl (.str text tt) (.int p tp))], s.heap.get? q.1 = some q.2 ∧ H.get? q.1 = none) (n1 : @Ne Nat x dx) (n2 : @Ne Nat x io) (n3 : @Ne Nat x dio) (n4 : @Ne Nat dx io) (n5 : @Ne Nat dx dio) (n6 : @Ne Nat io dio) (hl : text.length ≤ 1000000) (hp : p ≤ text.length) (hw1 : (!(Builtin.Str.occurrences wc (Str.ofString "'") 0 wc.length 1).isEmpty) = false) (hw2 : (!(Builtin.Str.occurrences wc (Str.ofString "\"") 0 wc.length 1).isEmpty) = false) (hrun : lexRun .sp [] false (text.cps.toList.drop p) = some (rtk, qd, ended, rest)) (hR : ∀ s' t t0' t9' tp' p', Aft s s' [(x, ioObj 816 dx), (dx, lexDict w.params ks ts io pb fs (Str.ofString "") wc true (.str (Str.ofString " ") t0) (.str (Str.ofString "") t9)), (io, ioObj 681 dio), (dio, ioDict h1 h2 h3 k1 k2 k3 nl (.str text tt) (.int p tp))]
      [(x, ioObj 816 dx), (dx, lexDict w.params ks ts io pb fs (Str.ofString "") wc true (if ended then .none else .str (Str.ofString " ") t0') (.str (Str.ofString "") t9')), (io, ioObj 681 dio), (dio, ioDict h1 h2 h3 k1 k2 k3 nl (.str text tt) (.int ((p' : Nat) : Int) tp'))] →
    text.cps.toList.drop p' = rest → p' ≤ text.length → R (.ok (.ret (if qd = false ∧ rtk = [] then .none else .str ⟨rtk.toArray⟩ t))) s'), codeAny (model PG w) A (.call (.ref 784) ⟨[.ref x], []⟩) R s
noncomputable def Q_ (z : T) : Prop := Pf z.1 (z.2.1) (z.2.2.1) (z.2.2.2.1) (z.2.2.2.2.1) (z.2.2.2.2.2.1) (z.2.2.2.2.2.2.1) (z.2.2.2.2.2.2.2.1) (z.2.2.2.2.2.2.2.2.1) (z.2.2.2.2.2.2.2.2.2.1) (z.2.2.2.2.2.2.2.2.2.2.1) (z.2.2.2.2.2.2.2.2.2.2.2.1) (z.2.2.2.2.2.2.2.2.2.2.2.2.1) (z.2.2.2.2.2.2.2.2.2.2.2.2.2.1) (z.2.2.2.2.2.2.2.2.2.2.2.2.2.2.1) (z.2.2.2.2.2.2.2.2.2.2.2.2.2.2.2.1) (z.2.2.2.2.2.2.2.2.2.2.2.2.2.2.2.2.1) (z.2.2.2.2.2.2.2.2.2.2.2.2.2.2.2.2.2.1) (z.2.2.2.2.2.2.2.2.2.2.2.2.2.2.2.2.2.2.1) (z.2.2.2.2.2.2.2.2.2.2.2.2.2.2.2.2.2.2.2.1) (z.2.2.2.2.2.2.2.2.2.2.2.2.2.2.2.2.2.2.2.2.1) (z.2.2.2.2.2.2.2.2.2.2.2.2.2.2.2.2.2.2.2.2.2.1) (z.2.2.2.2.2.2.2.2.2.2.2.2.2.2.2.2.2.2.2.2.2.2.1) (z.2.2.2.2.2.2.2.2.2.2.2.2.2.2.2.2.2.2.2.2.2.2.2.1) (z.2.2.2.2.2.2.2.2.2.2.2.2.2.2.2.2.2.2.2.2.2.2.2.2.1) (z.2.2.2.2.2.2.2.2.2.2.2.2.2.2.2.2.2.2.2.2.2.2.2.2.2.1) (z.2.2.2.2.2.2.2.2.2.2.2.2.2.2.2.2.2.2.2.2.2.2.2.2.2.2.1) (z.2.2.2.2.2.2.2.2.2.2.2.2.2.2.2.2.2.2.2.2.2.2.2.2.2.2.2.1) (z.2.2.2.2.2.2.2.2.2.2.2.2.2.2.2.2.2.2.2.2.2.2.2.2.2.2.2.2.1) (z.2.2.2.2.2.2.2.2.2.2.2.2.2.2.2.2.2.2.2.2.2.2.2.2.2.2.2.2.2)
theorem ne : Nonempty T := ⟨(Classical.choice Mine.neW, Classical.choice Mine.neA, Classical.choice Mine.neS, Classical.choice inferInstance, Classical.choice inferInstance, Classical.choice inferInstance, Classical.choice inferInstance, Classical.choice inferInstance, Classical.choice inferInstance, Classical.choice inferInstance, Classical.choice inferInstance, Classical.choice inferInstance, Classical.choice inferInstance, Classical.choice inferInstance, Classical.choice inferInstance, Classical.choice inferInstance, Classical.choice inferInstance, Classical.choice inferInstance, Classical.choice inferInstance, Classical.choice inferInstance, Classical.choice inferInstance, Classical.choice inferInstance, Classical.choice inferInstance, Classical.choice inferInstance, Classical.choice inferInstance, Classical.choice inferInstance, Classical.choice inferInstance, Classical.choice inferInstance, Classical.choice inferInstance, Classical.choice inferInstance)⟩
noncomputable def z_ : T := @Classical.epsilon _ ne fun z => ¬ Q_ z
@[irreducible] noncomputable def w : World := z_.1
@[irreducible] noncomputable def A : Around := z_.2.1
@[irreducible] noncomputable def s : Shared := z_.2.2.1
@[irreducible] noncomputable def H : Heap := z_.2.2.2.1
@[irreducible] noncomputable def loose : List Str := z_.2.2.2.2.1
@[irreducible] noncomputable def mg : Str → Option Value := z_.2.2.2.2.2.1
@[irreducible] noncomputable def mb : Str → Option Value := z_.2.2.2.2.2.2.1
@[irreducible] noncomputable def R : Result → Shared → Prop := z_.2.2.2.2.2.2.2.1
@[irreducible] noncomputable def x : Addr := z_.2.2.2.2.2.2.2.2.1
@[irreducible] noncomputable def dx : Addr := z_.2.2.2.2.2.2.2.2.2.1
@[irreducible] noncomputable def io : Addr := z_.2.2.2.2.2.2.2.2.2.2.1
@[irreducible] noncomputable def dio : Addr := z_.2.2.2.2.2.2.2.2.2.2.2.1
@[irreducible] noncomputable def pb : Addr := z_.2.2.2.2.2.2.2.2.2.2.2.2.1
@[irreducible] noncomputable def fs : Addr := z_.2.2.2.2.2.2.2.2.2.2.2.2.2.1
@[irreducible] noncomputable def ks : Nat → Tok := z_.2.2.2.2.2.2.2.2.2.2.2.2.2.2.1
@[irreducible] noncomputable def ts : Nat → Tok := z_.2.2.2.2.2.2.2.2.2.2.2.2.2.2.2.1
@[irreducible] noncomputable def wc : Str := z_.2.2.2.2.2.2.2.2.2.2.2.2.2.2.2.2.1
@[irreducible] noncomputable def text : Str := z_.2.2.2.2.2.2.2.2.2.2.2.2.2.2.2.2.2.1
@[irreducible] noncomputable def h1 : Int := z_.2.2.2.2.2.2.2.2.2.2.2.2.2.2.2.2.2.2.1
@[irreducible] noncomputable def h2 : Int := z_.2.2.2.2.2.2.2.2.2.2.2.2.2.2.2.2.2.2.2.1
@[irreducible] noncomputable def h3 : Int := z_.2.2.2.2.2.2.2.2.2.2.2.2.2.2.2.2.2.2.2.2.1
@[irreducible] noncomputable def k1 : Tok := z_.2.2.2.2.2.2.2.2.2.2.2.2.2.2.2.2.2.2.2.2.2.1
@[irreducible] noncomputable def k2 : Tok := z_.2.2.2.2.2.2.2.2.2.2.2.2.2.2.2.2.2.2.2.2.2.2.1
@[irreducible] noncomputable def k3 : Tok := z_.2.2.2.2.2.2.2.2.2.2.2.2.2.2.2.2.2.2.2.2.2.2.2.1
@[irreducible] noncomputable def tt : Tok := z_.2.2.2.2.2.2.2.2.2.2.2.2.2.2.2.2.2.2.2.2.2.2.2.2.1
@[irreducible] noncomputable def tp : Tok := z_.2.2.2.2.2.2.2.2.2.2.2.2.2.2.2.2.2.2.2.2.2.2.2.2.2.1
@[irreducible] noncomputable def t0 : Tok := z_.2.2.2.2.2.2.2.2.2.2.2.2.2.2.2.2.2.2.2.2.2.2.2.2.2.2.1
@[irreducible] noncomputable def t9 : Tok := z_.2.2.2.2.2.2.2.2.2.2.2.2.2.2.2.2.2.2.2.2.2.2.2.2.2.2.2.1
@[irreducible] noncomputable def nl : Value := z_.2.2.2.2.2.2.2.2.2.2.2.2.2.2.2.2.2.2.2.2.2.2.2.2.2.2.2.2.1
@[irreducible] noncomputable def p : Nat := z_.2.2.2.2.2.2.2.2.2.2.2.2.2.2.2.2.2.2.2.2.2.2.2.2.2.2.2.2.2
noncomputable def pk : {P_ : (List Nat) → (Bool) → (Bool) → (List Nat) → (Heap) → (Addr) → (Heap) → Prop // ∀ (rtk : List Nat) (qd : Bool) (ended : Bool) (rest : List Nat) (X : (hd.heap_39 w.params).In H) (T : TopRead Mine.hd.view_39 loose mg mb H) (hk : ∀ b o, H.get? b = some o → s.heap.get? b = some o) (hd : A.depth + 12 < recursionLimit) (hx : ∀ q ∈ [(x, ioObj 816 dx), (dx, lexDict w.params ks ts io pb fs (Str.ofString "") wc true (.str (Str.ofString " ") t0) (.str (Str.ofString "") t9)), (io, ioObj 681 dio), (dio, ioDict h1 h2 h3 k1 k2 k3 nl (.str text tt) (.int p tp))], s.heap.get? q.1 = some q.2 ∧ H.get? q.1 = none) (n1 : @Ne Nat x dx) (n2 : @Ne Nat x io) (n3 : @Ne Nat x dio) (n4 : @Ne Nat dx io) (n5 : @Ne Nat dx dio) (n6 : @Ne Nat io dio) (hl : text.length ≤ 1000000) (hp : p ≤ text.length) (hw1 : (!(Builtin.Str.occurrences wc (Str.ofString "'") 0 wc.length 1).isEmpty) = false) (hw2 : (!(Builtin.Str.occurrences wc (Str.ofString "\"") 0 wc.length 1).isEmpty) = false) (hrun : lexRun .sp [] false (text.cps.toList.drop p) = some (rtk, qd, ended, rest)) (hR : ∀ s' t t0' t9' tp' p', Aft s s' [(x, ioObj 816 dx), (dx, lexDict w.params ks ts io pb fs (Str.ofString "") wc true (.str (Str.ofString " ") t0) (.str (Str.ofString "") t9)), (io, ioObj 681 dio), (dio, ioDict h1 h2 h3 k1 k2 k3 nl (.str text tt) (.int p tp))]
      [(x, ioObj 816 dx), (dx, lexDict w.params ks ts io pb fs (Str.ofString "") wc true (if ended then .none else .str (Str.ofString " ") t0') (.str (Str.ofString "") t9')), (io, ioObj 681 dio), (dio, ioDict h1 h2 h3 k1 k2 k3 nl (.str text tt) (.int ((p' : Nat) : Int) tp'))] →
    text.cps.toList.drop p' = rest → p' ≤ text.length → R (.ok (.ret (if qd = false ∧ rtk = [] then .none else .str ⟨rtk.toArray⟩ t))) s'), (∀ g L h₁, P_ rtk qd ended rest g L h₁) → codeAny (model PG w) A (.call (.ref 784) ⟨[.ref x], []⟩) R s} := ⟨_, fun rtk qd ended rest X T hk hd hx n1 n2 n3 n4 n5 n6 hl hp hw1 hw2 hrun hR k_ => by
  refine' enterM (binds := [(Str.ofString "self", .ref x)]) [(x, ioObj 816 dx), (dx, lexDict w.params ks ts io pb fs (Str.ofString "") wc true (.str (Str.ofString " ") t0) (.str (Str.ofString "") t9)), (io, ioObj 681 dio), (dio, ioDict h1 h2 h3 k1 k2 k3 nl (.str text tt) (.int p tp))] ?k1 ?k2 ?k3 ?k4 ?k6 ?k7 ?k8 ?k9 ?kB ?_ ?c5 ?c2 ?c3 ?c4
  walk_at "m:enter"
  exact k_⟩
noncomputable abbrev T2 := (Heap) × (Addr) × (Heap)
noncomputable def Pf2 (g : Heap) (L : Addr) (h₁ : Heap) : Prop := ∀ (rtk : List Nat) (qd : Bool) (ended : Bool) (rest : List Nat) (X : (hd.heap_39 w.params).In H) (T : TopRead Mine.hd.view_39 loose mg mb H) (hk : ∀ b o, H.get? b = some o → s.heap.get? b = some o) (hd : A.depth + 12 < recursionLimit) (hx : ∀ q ∈ [(x, ioObj 816 dx), (dx, lexDict w.params ks ts io pb fs (Str.ofString "") wc true (.str (Str.ofString " ") t0) (.str (Str.ofString "") t9)), (io, ioObj 681 dio), (dio, ioDict h1 h2 h3 k1 k2 k3 nl (.str text tt) (.int p tp))], s.heap.get? q.1 = some q.2 ∧ H.get? q.1 = none) (n1 : @Ne Nat x dx) (n2 : @Ne Nat x io) (n3 : @Ne Nat x dio) (n4 : @Ne Nat dx io) (n5 : @Ne Nat dx dio) (n6 : @Ne Nat io dio) (hl : text.length ≤ 1000000) (hp : p ≤ text.length) (hw1 : (!(Builtin.Str.occurrences wc (Str.ofString "'") 0 wc.length 1).isEmpty) = false) (hw2 : (!(Builtin.Str.occurrences wc (Str.ofString "\"") 0 wc.length 1).isEmpty) = false) (hrun : lexRun .sp [] false (text.cps.toList.drop p) = some (rtk, qd, ended, rest)) (hR : ∀ s' t t0' t9' tp' p', Aft s s' [(x, ioObj 816 dx), (dx, lexDict w.params ks ts io pb fs (Str.ofString "") wc true (.str (Str.ofString " ") t0) (.str (Str.ofString "") t9)), (io, ioObj 681 dio), (dio, ioDict h1 h2 h3 k1 k2 k3 nl (.str text tt) (.int p tp))]
      [(x, ioObj 816 dx), (dx, lexDict w.params ks ts io pb fs (Str.ofString "") wc true (if ended then .none else .str (Str.ofString " ") t0') (.str (Str.ofString "") t9')), (io, ioObj 681 dio), (dio, ioDict h1 h2 h3 k1 k2 k3 nl (.str text tt) (.int ((p' : Nat) : Int) tp'))] →
    text.cps.toList.drop p' = rest → p' ≤ text.length → R (.ok (.ret (if qd = false ∧ rtk = [] then .none else .str ⟨rtk.toArray⟩ t))) s'), pk.1 rtk qd ended rest g L h₁
noncomputable def Q2 (z : T2) : Prop := Pf2 z.1 (z.2.1) (z.2.2)
theorem ne2 : Nonempty T2 := ⟨(Classical.choice inferInstance, Classical.choice inferInstance, Classical.choice inferInstance)⟩
noncomputable def z2_ : T2 := @Classical.epsilon _ ne2 fun z => ¬ Q2 z
@[irreducible] noncomputable def g : Heap := z2_.1
@[irreducible] noncomputable def L : Addr := z2_.2.1
@[irreducible] noncomputable def h₁ : Heap := z2_.2.2
theorem core2 : Pf2 g L h₁ := by
  unfold Pf2
  intro rtk qd ended rest X T hk hd hx n1 n2 n3 n4 n5 n6 hl hp hw1 hw2 hrun hR
  dsimp only [pk]
  intro hkg hgk F N Xg Tg hHg hlt
  (replace hlt := allLt_of hlt)
  (try dsimp only)
  walk_at "m:steps"
  refine Held.put ?_
  refine wpAny_While ?_
  refine codeAny_mono (R := fun r s' => r = .ok .next ∧ ∃ m st p t9 tp, Fr g L s'.heap m ∧ News g L s'.heap [(x, ioObj 816 dx), (dx, lexDict w.params ks ts io pb fs (Str.ofString "") wc true (if ended then .none else .str (Str.ofString " ") st) (.str ⟨rtk.toArray⟩ t9)), (io, ioObj 681 dio), (dio, ioDict h1 h2 h3 k1 k2 k3 nl (.str text tt) (.int ((p : Nat) : Int) tp))] ∧
      m (Str.ofString "self") = some (.ref x) ∧ m (Str.ofString "quoted") = some (.bool qd) ∧ text.cps.toList.drop p = rest ∧ p ≤ text.length ∧ s'.os = s.os ∧ (AllBare s.gens → AllBare s'.gens)) ?loop ?rest
  case rest =>
    rintro r s₁ ⟨rfl, m, st, p', t9', tp', F₁, N₁, hm1, hm2, hrest, hp', hos, hbr⟩
    walk_at "m:steps"
    all_goals
      rename News _ _ _ _ => N9
      rename Fr _ _ _ _ => F9
    · have w : qd = true := by with_reducible assumption
      refine Eq.mp (congrArg (fun v => R (.ok (.ret v)) _) (if_neg (show ¬ (qd = false ∧ rtk = []) from fun q => by rw [w] at q; exact Bool.noConfusion q.1))) (hR _ t9' st ?t9 tp' p' ?fin hrest hp')
      case fin => exact Aft.of hkg F9 N9 (by walk_at "m:sub") hos hbr
    · have w := tok_e.mp (by with_reducible assumption)
      have w2 : qd = false := by with_reducible assumption
      refine Eq.mp (congrArg (fun v => R (.ok (.ret v)) _) (if_pos (show (qd = false ∧ rtk = []) from ⟨w2, w⟩))) (hR _ t9' st ?t9 tp' p' ?fin hrest hp')
      case fin => exact Aft.of hkg F9 N9 (by walk_at "m:sub") hos hbr
    · have w := tok_ne (by with_reducible assumption)
      refine Eq.mp (congrArg (fun v => R (.ok (.ret v)) _) (if_neg (show ¬ (qd = false ∧ rtk = []) from fun q => w q.2))) (hR _ t9' st ?t9 tp' p' ?fin hrest hp')
      case fin => exact Aft.of hkg F9 N9 (by walk_at "m:sub") hos hbr
  refine codeAny_whileLoop (fun n s' => ∃ m ls tok q p t0 t9 tp, Fr g L s'.heap m ∧ News g L s'.heap [(x, ioObj 816 dx), (dx, lexDict w.params ks ts io pb fs (Str.ofString "") wc true (.str ls.str t0) (.str ⟨tok.toArray⟩ t9)), (io, ioObj 681 dio), (dio, ioDict h1 h2 h3 k1 k2 k3 nl (.str text tt) (.int ((p : Nat) : Int) tp))] ∧
      m (Str.ofString "self") = some (.ref x) ∧ m (Str.ofString "quoted") = some (.bool q) ∧ (∃ te, m (Str.ofString "escapedstate") = some (.str (Str.ofString " ") te)) ∧ p ≤ text.length ∧ tok.length ≤ p ∧ lexRun ls tok q (text.cps.toList.drop p) = some (rtk, qd, ended, rest) ∧
      (ls = .sp → tok = [] ∧ q = false) ∧ (ls = .a → tok ≠ [] ∨ q = true) ∧ (∀ k, ls = .q k → k = 39 ∨ k = 34) ∧ n = text.length + 1 - p ∧ s'.os = s.os ∧ (AllBare s.gens → AllBare s'.gens)) ?turn (text.length + 1 - p) ?start
  case start => exact ⟨_, .sp, [], false, p, t0, t9, tp, by k_asm, by k_asm, rfl, rfl, ⟨_, rfl⟩, hp, Nat.zero_le _, hrun, fun _ => ⟨rfl, rfl⟩, fun h => (nomatch h), fun k h => (nomatch h), rfl, rfl, id⟩
  case turn =>
    rintro n s' ⟨m, ls, tok, q, p, t0, t9, tp, F₁, N₁, hm1, hm2, ⟨te, hm3⟩, hp, htl, hrun, hsp, ha, hq, rfl, hos, hbr⟩
    clear hx hR
    have hw1' : (!(Builtin.Str.occurrences wc ⟨#[39]⟩ 0 wc.length 1).isEmpty) = false := hw1
    have hw2' : (!(Builtin.Str.occurrences wc ⟨#[34]⟩ 0 wc.length 1).isEmpty) = false := hw2
    clear hw1 hw2
    refine wpAny_noRaise ?_
    walk1
    walk1
    walk1
    rw [if_pos rfl]
    refine wpAny_noRaise (blind fun Q' hq' => ?_)
    by_cases hpe : text.length ≤ p
    · have hpe2 : p = text.length := by omega
      have hdr : text.cps.toList.drop p = [] := List.drop_of_length_le (by rw [Array.length_toList]; exact hpe)
      cases ls with
      | sp =>
        obtain ⟨rfl, rfl⟩ := hsp rfl
        have hls : LS.sp.str = Str.ofString " " := rfl
        rw [hls] at N₁
        walk_at "m:steps"
        rw [hdr] at hrun
        obtain ⟨rfl, rfl, rfl, rfl⟩ : rtk = [] ∧ qd = false ∧ ended = true ∧ rest = [] := by
          unfold lexRun at hrun; cases hrun; exact ⟨rfl, rfl, rfl, rfl⟩
        rename News _ _ _ _ => N9
        rename Fr _ _ _ _ => F9
        exact hq' .brk _ ⟨by first | exact rfl | trivial, _, t0, p, _, _, F9, N9, by walk_at "m:look", by walk_at "m:look", hdr, hp, by simp only [*], fun z => by (have z := hbr z); walk_at "m:bare"⟩
      | a =>
        rw [hdr] at hrun
        obtain ⟨rfl, rfl, rfl, rfl⟩ : rtk = tok ∧ qd = q ∧ ended = true ∧ rest = [] := by
          unfold lexRun at hrun; cases hrun; exact ⟨rfl, rfl, rfl, rfl⟩
        have hls : LS.a.str = Str.ofString "a" := rfl
        rw [hls] at N₁
        walk_at "m:steps"
        rename News _ _ _ _ => N9
        rename Fr _ _ _ _ => F9
        exact hq' .brk _ ⟨by first | exact rfl | trivial, _, t0, p, _, _, F9, fun p hp => N9 p (List.mem_cons_of_mem _ hp), by walk_at "m:look", by walk_at "m:look", hdr, hp, by simp only [*], fun z => by (have z := hbr z); walk_at "m:bare"⟩
      | q k => rw [hdr] at hrun; cases hrun
    · have hpl : p < text.length := by omega
      have hdr : text.cps.toList.drop p = text.cps.getD p 0 :: text.cps.toList.drop (p + 1) := by
        have hpl' : p < text.cps.toList.length := by rw [Array.length_toList]; exact hpl
        rw [List.drop_eq_getElem_cons hpl']
        congr 1
        rw [Array.getD_eq_getD_getElem?, Array.getElem?_eq_getElem hpl, Option.getD_some]; rfl
      generalize hc : text.cps.getD p 0 = c at hdr
      rw [hdr] at hrun
      obtain ⟨c10, c92⟩ := lexRun_signs hq hrun
      have e10 := nl_out c10
      have e92 := esc_out c92
      have e0 := @no_out c
      walk_at "m:steps"
      refine Held.put ?_
      clear e10
      rename News _ _ _ _ => N₁
      rename Fr _ _ _ _ => F₁
      have hcs : c = c := rfl
      cases ls with
      | sp =>
        obtain ⟨rfl, rfl⟩ := hsp rfl
        have hls : LS.sp.str = Str.ofString " " := rfl
        rw [hls] at N₁ ⊢
        clear hls hsp ha hq hdr hc
        unfold lexRun at hrun
        walk_at "m:steps"
        all_goals
          rename News _ _ _ _ => N9
          rename Fr _ _ _ _ => F9
        all_goals first
          | (have w := ws_of (by with_reducible assumption)
             obtain rfl : c = 32 := by rcases w with w | w | w | w <;> subst w <;> simp at hrun ⊢
             rw [if_pos rfl] at hrun
             exact hq' .cont _ ⟨text.length + 1 - (p + 1), by omega, _, .sp, [], false, p + 1, t0, t9, _, F9, N9, by walk_at "m:look", by walk_at "m:look", ⟨te, by walk_at "m:look"⟩, hpl, Nat.zero_le _, hrun, fun _ => ⟨rfl, rfl⟩, fun h => (nomatch h), fun k h => (nomatch h), rfl, by simp only [*], fun z => by (have z := hbr z); walk_at "m:bare"⟩)
          | (have w := ws_no (by with_reducible assumption)
             have q := quo_of (by with_reducible assumption)
             obtain rfl : c = 39 := by rcases q with q | q <;> subst q <;> simp at hrun ⊢
             rw [if_neg w.1, if_pos rfl] at hrun
             exact hq' .next _ ⟨text.length + 1 - (p + 1), by omega, _, .q 39, [], false, p + 1, _, t9, _, F9, N9, by walk_at "m:look", by walk_at "m:look", ⟨te, by walk_at "m:look"⟩, hpl, Nat.zero_le _, hrun, fun h => (nomatch h), fun h => (nomatch h), fun k h => (by cases h; exact .inl rfl), rfl, by simp only [*], fun z => by (have z := hbr z); walk_at "m:bare"⟩)
          | (have w := ws_no (by with_reducible assumption)
             have q : c ≠ 39 ∧ c ≠ 34 := by first | exact quo_no (by with_reducible assumption) | exact wc_no hw1' hw2' (by with_reducible assumption)
             rw [if_neg w.1, if_neg q.1, if_neg (by omega)] at hrun
             exact hq' .next _ ⟨text.length + 1 - (p + 1), by omega, _, .a, [c], false, p + 1, _, _, _, F9, N9, by walk_at "m:look", by walk_at "m:look", ⟨te, by walk_at "m:look"⟩, hpl, by simp <;> omega, hrun, fun h => (nomatch h), fun _ => .inl (by simp), fun k h => (nomatch h), rfl, by simp only [*], fun z => by (have z := hbr z); walk_at "m:bare"⟩)
      | a =>
        have hls : LS.a.str = Str.ofString "a" := rfl
        rw [hls] at N₁ ⊢
        have hta := ha rfl
        clear hls hsp ha hq hdr hc
        unfold lexRun at hrun
        walk_at "m:steps"
        all_goals
          rename News _ _ _ _ => N9
          rename Fr _ _ _ _ => F9
        all_goals first
          | (have w := ws_of (by with_reducible assumption)
             obtain rfl : c = 32 := by rcases w with w | w | w | w <;> subst w <;> simp at hrun ⊢
             rw [if_pos rfl] at hrun
             obtain ⟨rfl, rfl, rfl, hre⟩ : tok = rtk ∧ q = qd ∧ false = ended ∧ text.cps.toList.drop (p + 1) = rest := by simpa using hrun
             first
             | exact hq' .brk _ ⟨by first | exact rfl | trivial, _, _, p + 1, _, _, F9, fun p hp => N9 p (List.mem_cons_of_mem _ hp), by walk_at "m:look", by walk_at "m:look", hre, hpl, by simp only [*], fun z => by (have z := hbr z); walk_at "m:bare"⟩
             | (exfalso; exact tok_clash hta (by assumption) (by assumption)))
          | (have w := ws_no (by with_reducible assumption)
             have q := quo_of (by with_reducible assumption)
             rw [if_neg w.1, if_pos q] at hrun
             exact hq' .next _ ⟨text.length + 1 - (p + 1), by omega, _, .q c, tok, _, p + 1, _, _, _, F9, fun p hp => N9 p (List.mem_cons_of_mem _ hp), by walk_at "m:look", by walk_at "m:look", ⟨te, by walk_at "m:look"⟩, hpl, by omega, hrun, fun h => (nomatch h), fun h => (nomatch h), fun k h => (by cases h; exact q), rfl, by simp only [*], fun z => by (have z := hbr z); walk_at "m:bare"⟩)
          | (have w := ws_no (by with_reducible assumption)
             have q := quo_no (by with_reducible assumption)
             rw [if_neg w.1, if_neg (by omega), if_neg (by omega)] at hrun
             rw [tok_snoc] at N9
             exact hq' .next _ ⟨text.length + 1 - (p + 1), by omega, _, .a, tok ++ [c], _, p + 1, _, _, _, F9, fun p hp => N9 p (List.mem_cons_of_mem _ hp), by walk_at "m:look", by walk_at "m:look", ⟨te, by walk_at "m:look"⟩, hpl, by simp <;> omega, hrun, fun h => (nomatch h), fun _ => .inl (by simp), fun k h => (nomatch h), rfl, by simp only [*], fun z => by (have z := hbr z); walk_at "m:bare"⟩)
      | q k =>
        have hls : (LS.q k).str = ⟨#[k]⟩ := rfl
        rw [hls] at N₁ ⊢
        have hk3 : k = 39 ∨ k = 34 := hq k rfl
        have hqk := quo_in hk3
        have hqs : ((⟨#[k]⟩ : Str) == Str.ofString " ") = false := by rcases hk3 with rfl | rfl <;> decide +kernel
        clear hls hsp ha hdr hc
        unfold lexRun at hrun
        walk_at "m:steps"
        all_goals
          rename News _ _ _ _ => N9
          rename Fr _ _ _ _ => F9
        all_goals first
          | (have w := eqs_of (by with_reducible assumption)
             rw [if_pos w] at hrun
             exact hq' .next _ ⟨text.length + 1 - (p + 1), by omega, _, .a, tok, true, p + 1, _, _, _, F9, N9, by walk_at "m:look", by walk_at "m:look", ⟨te, by walk_at "m:look"⟩, hpl, by omega, hrun, fun h => (nomatch h), fun _ => .inr rfl, fun k h => (nomatch h), rfl, by simp only [*], fun z => by (have z := hbr z); walk_at "m:bare"⟩)
          | (have w := eqs_no (by with_reducible assumption)
             rw [if_neg w, if_neg (by omega)] at hrun
             rw [tok_snoc] at N9
             exact hq' .next _ ⟨text.length + 1 - (p + 1), by omega, _, .q _, tok ++ [c], true, p + 1, _, _, _, F9, N9, by walk_at "m:look", by walk_at "m:look", ⟨te, by walk_at "m:look"⟩, hpl, by simp <;> omega, hrun, fun h => (nomatch h), fun h => (nomatch h), hq, rfl, by simp only [*], fun z => by (have z := hbr z); walk_at "m:bare"⟩)
theorem core : Pf w A s H loose mg mb R x dx io dio pb fs ks ts wc text h1 h2 h3 k1 k2 k3 tt tp t0 t9 nl p := by
  unfold Pf
  intro rtk qd ended rest X T hk hd hx n1 n2 n3 n4 n5 n6 hl hp hw1 hw2 hrun hR
  exact pk.2 rtk qd ended rest X T hk hd hx n1 n2 n3 n4 n5 n6 hl hp hw1 hw2 hrun hR fun g L h₁ => eps_all ne2 Q2 (by with_unfolding_all exact core2) (g, L, h₁) rtk qd ended rest X T hk hd hx n1 n2 n3 n4 n5 n6 hl hp hw1 hw2 hrun hR
theorem all (y : T) : Q_ y := eps_all ne Q_ (by with_unfolding_all exact core) y
end G6
end
section
theorem readtok_raw {w : World} {A : Around} {s : Shared} {H : Heap} {loose : List Str} {mg mb : Str → Option Value} {R : Result → Shared → Prop} {x dx io dio pb fs : Addr} {ks ts : Nat → Tok} {wc text : Str} {h1 h2 h3 : Int} {k1 k2 k3 tt tp t0 t9 : Tok} {nl : Value} {p : Nat} {rtk : List Nat} {qd ended : Bool} {rest : List Nat}
  (X : (hd.heap_39 w.params).In H) (T : TopRead Mine.hd.view_39 loose mg mb H) (hk : ∀ b o, H.get? b = some o → s.heap.get? b = some o) (hd : A.depth + 12 < recursionLimit)
  (hx : ∀ q ∈ [(x, ioObj 816 dx), (dx, lexDict w.params ks ts io pb fs (Str.ofString "") wc true (.str (Str.ofString " ") t0) (.str (Str.ofString "") t9)), (io, ioObj 681 dio), (dio, ioDict h1 h2 h3 k1 k2 k3 nl (.str text tt) (.int p tp))], s.heap.get? q.1 = some q.2 ∧ H.get? q.1 = none)
  (n1 : @Ne Nat x dx) (n2 : @Ne Nat x io) (n3 : @Ne Nat x dio) (n4 : @Ne Nat dx io) (n5 : @Ne Nat dx dio) (n6 : @Ne Nat io dio) (hl : text.length ≤ 1000000) (hp : p ≤ text.length)
  (hw1 : (!(Builtin.Str.occurrences wc (Str.ofString "'") 0 wc.length 1).isEmpty) = false) (hw2 : (!(Builtin.Str.occurrences wc (Str.ofString "\"") 0 wc.length 1).isEmpty) = false)
  (hrun : lexRun .sp [] false (text.cps.toList.drop p) = some (rtk, qd, ended, rest))
  (hR : ∀ s' t t0' t9' tp' p', Aft s s' [(x, ioObj 816 dx), (dx, lexDict w.params ks ts io pb fs (Str.ofString "") wc true (.str (Str.ofString " ") t0) (.str (Str.ofString "") t9)), (io, ioObj 681 dio), (dio, ioDict h1 h2 h3 k1 k2 k3 nl (.str text tt) (.int p tp))]
      [(x, ioObj 816 dx), (dx, lexDict w.params ks ts io pb fs (Str.ofString "") wc true (if ended then .none else .str (Str.ofString " ") t0') (.str (Str.ofString "") t9')), (io, ioObj 681 dio), (dio, ioDict h1 h2 h3 k1 k2 k3 nl (.str text tt) (.int ((p' : Nat) : Int) tp'))] →
    text.cps.toList.drop p' = rest → p' ≤ text.length → R (.ok (.ret (if qd = false ∧ rtk = [] then .none else .str ⟨rtk.toArray⟩ t))) s') :
  codeAny (model PG w) A (.call (.ref 784) ⟨[.ref x], []⟩) R s :=
  G6.all (w, A, s, H, loose, mg, mb, R, x, dx, io, dio, pb, fs, ks, ts, wc, text, h1, h2, h3, k1, k2, k3, tt, tp, t0, t9, nl, p) rtk qd ended rest X T hk hd hx n1 n2 n3 n4 n5 n6 hl hp hw1 hw2 hrun hR
end
example : True := by
  k_with_none
  k_with "~m:enter" => (((case k1 | k2 | k3 => assumption); (case k4 => first | assumption | (intro _ hq; cases hq)); (case k6 | k7 => k_is); (case k8 => first | assumption | omega | (simp only [depth_deeper, depth_in1, recursionLimit] at *; omega)); (case k9 => first | exact BindsTo.of_eq rfl | exact binds_K (Frag.In.keeps (by assumption) (by assumption)) rfl (by k_is) rfl rfl rfl); (case c5 => decide); (case kB => exact locs rfl); (case c2 | c3 | c4 => exact rfl)))
  k_with "~k_inst" => ((refine' InstAt.of_accN ?zqN ?zqh1 ?zqh2; (case zqN => k_asm); (case zqh1 | zqh2 => k_mem)))
  k_with "~m:shadow" => ((refine shadow_of ?_; k_get))
  k_with "~getMethod ref" => ((k_here; (first
    | (refine' method_fnG ?zqk1 ?zqk2 ?zqk3 ?zqk4 ?zqk5 ?zqk6 ?zqk7 ?zqk8 ?_; k_dflt ((case zqk1 => k_in); (case zqk2 => k_inst); (case zqk3 => k_is); (case zqk4 => first | with_reducible exact canon_list_ga | with_reducible exact PySem.F.canon_object_ga | decide +kernel); (case zqk5 | zqk6 | zqk7 => k_is); (case zqk8 => walk_at "m:shadow"); k_whole))
    | (refine' method_biG ?zqk1 ?zqk2 ?zqk3 ?zqk4 ?zqk5 ?zqk6 ?zqk7 ?zqk8 ?zqk9 ?_; k_dflt ((case zqk1 => k_in); (case zqk2 => k_inst); (case zqk3 => k_is); (case zqk4 => first | with_reducible exact canon_list_ga | with_reducible exact PySem.F.canon_object_ga | decide +kernel); (case zqk5 | zqk6 | zqk7 => k_is); (case zqk8 => decide); (case zqk9 => walk_at "m:shadow"); k_whole)))))
  k_with "~call builtin:list.append" => ((k_here; (refine' append_acc ?zqk1 ?zqk2 ?zqk3 ?zqk4 ?zqk5 ?zqk6 ?_ ?zqk7; k_dflt ((case zqk1 | zqk2 | zqk3 => k_asm); (case zqk6 => k_upd); (case zqk4 => exact (News.get (by k_asm) (by k_mem))); (case zqk5 => k_is); (case zqk7 => first | assumption | (simp only [sizeLine_eq]; omega)); k_whole)); intro _ _ _; (try k_sweep)))
  k_with "~getMethod ref" => ((k_here; ks_any; k_dflt (first
    | (refine' superM ?zqk1 ?zqk2 ?zqk3 ?zqk4 ?zqk5 ?zqk6 ?zqk7 ?zqk8 lk_wget ?zqk9 (fun h hi => binds_of plain_wget entry_wget (chk_wlen _ _) (get_len _ _) hi) ?zqk10 ?_; (case zqk1 | zqk2 | zqk3 => k_asm); (case zqk4 => k_mem); (case zqk5 => k_inst); (case zqk6 => k_is); (case zqk7 => ks_is); (case zqk8 | zqk9 => k_is); (case zqk10 => decide); k_whole; intro _ _ _ _ l1; (try (replace l1 := allLt_of l1)); revert l1; intro _; (try k_sweep))
    | (refine' superM ?zqk1 ?zqk2 ?zqk3 ?zqk4 ?zqk5 ?zqk6 ?zqk7 ?zqk8 lk_wget ?zqk9 (fun h hi => binds_of plain_wget entry_wget (chk_winit _ _) (get_init _ _) hi) ?zqk10 ?_; (case zqk1 | zqk2 | zqk3 => k_asm); (case zqk4 => k_mem); (case zqk5 => k_inst); (case zqk6 => k_is); (case zqk7 => ks_is); (case zqk8 | zqk9 => k_is); (case zqk10 => decide); k_whole; intro _ _ _ _ l1; (try (replace l1 := allLt_of l1)); revert l1; intro _; (try k_sweep))
    | (refine' superM ?zqk1 ?zqk2 ?zqk3 ?zqk4 ?zqk5 ?zqk6 ?zqk7 ?zqk8 lk_mget ?zqk9 (fun h hi => binds_of plain_mget entry_mget (chk_mpop _ _) (get_pop _ _) hi) ?zqk10 ?_; (case zqk1 | zqk2 | zqk3 => k_asm); (case zqk4 => k_mem); (case zqk5 => k_inst); (case zqk6 => k_is); (case zqk7 => ks_is); (case zqk8 | zqk9 => k_is); (case zqk10 => decide); k_whole; intro _ _ _ _ l1; (try (replace l1 := allLt_of l1)); revert l1; intro _; (try k_sweep)))))
  k_with "~wpAt" => ((ks_step "attributeBase Call"; k_here; k_dflt (refine node_M (by k_asm) (by k_asm) (by k_asm) (by k_asm) (by k_is) (by rfl) (by rfl) (by k_inst) (by k_is) (by rfl) (by first | rfl | decide +kernel) (by k_is) (by k_is) (by k_is) (by k_is) (by decide) (by rfl) (by rfl) (by rfl) (by rfl) (by decide +kernel) (by first | boot_by_name | rfl | kernel_rfl) ?_; intro _ _ _ _ l1; (try (replace l1 := allLt_of l1)); revert l1; intro _; (try k_sweep))))
  k_with "~callWith ref" => ((k_here; (first
    | (refine' callWith_B0 ?zqk1 ?zqk2 ?_; k_dflt ((case zqk1 => exact (News.get (by k_asm) (by k_mem))); (case zqk2 => decide); k_whole; try dsimp only [List.nil_append, List.cons_append]))
    | (refine' callWith_B ?zqk1 ?zqk2 ?_ ?zqk3 ?zqk4; k_dflt ((case zqk1 => k_is); (case zqk2 => decide); (case zqk3 | zqk4 => rfl); k_whole)))))
  k_with "~call ref" => ((k_here; (first
    | (refine' super_len ?zqk1 ?zqk2 ?_; k_dflt ((case zqk1 | zqk2 => exact (News.get (by k_asm) (by k_mem))); k_whole))
    | (refine' super_init ?zqk1 ?zqk2 ?zqk3 ?zqk4 ?zqk5 ?_; k_dflt ((case zqk1 | zqk2 => k_asm); (case zqk3 => exact (News.get (by k_asm) (by k_mem))); (case zqk5 => k_upd); (case zqk4 => k_ne); k_whole; intro _ _ _; (try k_sweep)))
    | (refine' super_pop ?zqk1 ?zqk2 ?zqk3 ?zqk4 ?zqk5 ?zqk6 ?zqk7 ?zqk8 ?zqk9 ?zqk10 ?zqk11 ?_; k_dflt ((case zqk1 | zqk2 | zqk3 => k_asm); (case zqk4 => exact (News.get (by k_asm) (by k_mem))); (case zqk10 => k_upd); (case zqk5 => exact (News.get (by k_asm) (by k_mem))); (case zqk6 | zqk7 => k_is); (case zqk8 => rfl); (case zqk9 => k_is); (case zqk11 => first | assumption | (simp only [sizeLine_eq]; omega)); k_whole; intro _ _ _; (try k_sweep))))))
  k_with "~m:sub" => (first | exact List.forall_mem_nil _ | (refine List.forall_mem_cons.mpr ⟨by k_mem, ?_⟩; walk_at "m:sub"))
  k_with "~setAttr ref" => ((k_here; (refine' set_acc ?zqk1 ?zqk2 ?zqk3 ?zqk4 ?zqk5 ?zqk6 ?zqk7 ?zqk8 ?zqk9 ?zqk10 ?zqk11 ?zqk12 ?zqk13 ?_; k_dflt ((case zqk1 | zqk2 | zqk3 => k_asm); (case zqk4 => k_inst); (case zqk5 => exact rfl); (case zqk6 => k_is); (case zqk7 => rfl); (case zqk8 | zqk9 => k_is); (case zqk10 => k_get); (case zqk11 => k_put); (case zqk12 => k_upd); (case zqk13 => exact Nat.le_of_ble_eq_true rfl); k_whole; intro _ _ _; (try k_sweep)))))
  k_with "~subscriptTail" => ((k_here; (with_reducible show wpAny _ _ (subscriptTail _ _ (Value.ref _) (Value.ref _)) _ _ _); (refine' slice_acc ?zqk1 ?zqk2 ?zqk3 ?zqk4 ?zqk5 ?zqk6 ?zqk7 ?zqk8 ?zqk9 ?zqk10 ?_ ?zqk11 ?zqk12 ?zqk13; k_dflt ((case zqk1 | zqk2 | zqk3 => k_asm); (case zqk4 => k_inst); (case zqk5 => exact rfl); (case zqk6 | zqk7 | zqk8 => k_is); (case zqk9 | zqk10 => first | exact IsPart.none | exact IsPart.int _ _); (case zqk11 => with_unfolding_all rfl); (case zqk12 => intro _; with_unfolding_all rfl); (case zqk13 => first | assumption | (simp only [sizeLine_eq]; omega)); k_whole; intro _ _ _ _ l1; (try (replace l1 := allLt_of l1)); revert l1; intro _; (try k_sweep)))))
  k_with "~m:steps" => (repeat' (first | (walk1; (try dsimp only)) | (dsimp only; walk1; (try dsimp only)) | fail "no step"))
  k_with "~k_in" => ((refine' Frag.In.keeps ?zqkx ?zqkh; (case zqkx => with_reducible assumption); (case zqkh => exact Fr.keep (by with_reducible assumption))))
  k_with "~k_ne" => ((refine neN ?_; (try dsimp only); (try dsimp only [AllLt] at *); omega))
  k_with "~k_ne" => (first | with_reducible assumption | (refine Ne.symm ?_; with_reducible assumption) | (refine' ne_lt ?zqkh ?zqkm; (case zqkh => with_reducible assumption); (case zqkm => k_mem)) | (refine' Ne.symm (ne_lt ?zqkh ?zqkm); (case zqkh => with_reducible assumption); (case zqkm => k_mem)) | (refine neN ?_; decide))
  trivial
-- text ZNU
section
example : True := by
  k_with "~wpAt" => ((ks_step "exec Expr"; k_dflt (refine ks_wpAt_Expr_any ?_)))
  k_with "~wpAt" => ((ks_step "eval Call"; k_dflt (refine ks_wpAt_MethodCall ?_)))
  k_with "~m:look" => (first | exact rfl | assumption | (dsimp only; repeat (first | rw [if_pos rfl] | rw [if_neg (by decide)])); first | rfl | assumption)
  k_with "~eval Name" => ((k_here; (refine' ld ?zqk1 ?zqk2 ?_; k_dflt ((case zqk1 => k_asm); (case zqk2 => walk_at "m:look"); k_whole))))
  k_with "~call ref" => ((k_here; (first
    | (refine' read_wc ?zqk1 ?zqk2 ?zqk3 ?zqk4 ?zqk5 ?zqk6 ?zqk7 ?zqk8 ?zqk9 ?zqkA ?zqkC ?_; k_dflt ((case zqkC => assumption); (case zqk1 | zqk2 | zqk3 | zqk4 => k_asm); (case zqk5 => k_mem); (case zqk6 => (intro _; k_upd)); (case zqk7 => k_ne); (case zqk8 | zqk9 => assumption); (case zqkA => walk_at "m:room"); k_whole; intro _ _ _ _ _ _ _; (try k_sweep)))
    | (refine' readend_w ?zqk1 ?zqk2 ?zqk3 ?zqk4 ?zqk5 ?zqk6 ?zqk7 ?zqk8 ?zqk9 ?zqkA ?_; k_dflt ((case zqk1 | zqk2 | zqk3 | zqk4 => k_asm); (case zqk5 | zqk6 => k_mem); (case zqk7 => k_ne); (case zqk8 | zqk9 => assumption); (case zqkA => walk_at "m:room"); k_whole; intro _ _ _ _ _ _; (try k_sweep))))))
  k_with "~getAttr ref" => ((k_here; (with_reducible show wpAny _ _ (getAttr (Value.ref _) (PySem.Str.ofString "punctuation_chars") _) _ _ _); (refine' punct_w ?zqk1 ?zqk2 ?zqk3 ?zqk4 ?zqk5 ?zqk6 ?zqk7 ?zqk8 ?_; k_dflt ((case zqk1 | zqk2 | zqk3 | zqk4 => k_asm); (case zqk5 | zqk6 => k_mem); (case zqk7 => k_ne); (case zqk8 => walk_at "m:room"); k_whole; intro _ _ _ _ _; (try k_sweep)))))
  k_with "~m:room" => (first | assumption | omega | (simp only [depth_deeper, depth_in1]; omega))
  k_with "~compareOp In str str" => ((first | (refine' in_yes ?zqk1 ?_; (case zqk1 => with_reducible assumption)) | (refine' in_no ?zqk1 ?_; (case zqk1 => with_reducible assumption)) | (refine' in_dec true ?zqk1 ?_; (case zqk1 => first | with_reducible assumption | (k_dflt decide +kernel))) | (refine' in_dec false ?zqk1 ?_; (case zqk1 => first | with_reducible assumption | (k_dflt decide +kernel)))))
  k_with "~compareOp Eq str str" => ((first | (refine' eq_dec true ?zqk1 ?_; (case zqk1 => first | with_reducible assumption | (k_dflt decide +kernel))) | (refine' eq_dec false ?zqk1 ?_; (case zqk1 => first | with_reducible assumption | (k_dflt decide +kernel)))))
  k_with "~m:bare" => ((repeat (first | assumption | with_reducible apply_assumption)))
  k_with "~exec If" => (refine wpAny_If ?_)
  k_with "~ite" => (first | refine' ite_tt ?_ | refine' ite_ff ?_)
  k_with "~getAttr ref" => ((k_here; (refine' get_own ?zqk1 ?zqk2 ?zqk3 ?zqk4 ?zqk5 ?zqk6 ?zqk7 ?zqk8 ?zqk9 ?_; k_dflt ((case zqk1 | zqk2 => k_asm); (case zqk3 => k_inst); (case zqk4 | zqk5 | zqk6 | zqk7 => k_is); (case zqk8 => k_get); (case zqk9 => k_handed); k_whole))))
  trivial
end
section
namespace G2
noncomputable abbrev T := (World) × (Around) × (Shared) × (Heap) × (List Str) × (Str → Option Value) × (Str → Option Value) × (Result → Shared → Prop) × (Addr) × (Addr) × (Addr) × (Addr) × (Addr) × (Addr) × (Nat → Tok) × (Nat → Tok) × (Str) × (Str) × (Int) × (Int) × (Int) × (Tok) × (Tok) × (Tok) × (Tok) × (Tok) × (Tok) × (Value) × (Nat)
noncomputable def Pf (w : World) (A : Around) (s : Shared) (H : Heap) (loose : List Str) (mg : Str → Option Value) (mb : Str → Option Value) (R : Result → Shared → Prop) (x : Addr) (dx : Addr) (io : Addr) (dio : Addr) (pb : Addr) (fs : Addr) (ks : Nat → Tok) (ts : Nat → Tok) (wc : Str) (text : Str) (h1 : Int) (h2 : Int) (h3 : Int) (k1 : Tok) (k2 : Tok) (k3 : Tok) (tt : Tok) (tp : Tok) (t9 : Tok) (nl : Value) (p : Nat) : Prop := ∀ (X : (hd.heap_39 w.params).In H) (T : TopRead Mine.hd.view_39 loose mg mb H) (hk : ∀ b o, H.get? b = some o → s.heap.get? b = some o) (hd : A.depth + 12 < recursionLimit) (hx : ∀ q ∈ [(x, ioObj 816 dx), (dx, lexDict w.params ks ts io pb fs (Str.ofString "") wc true .none (.str (Str.ofString "") t9)), (io, ioObj 681 dio), (dio, ioDict h1 h2 h3 k1 k2 k3 nl (.str text tt) (.int p tp))], s.heap.get? q.1 = some q.2 ∧ H.get? q.1 = none) (n1 : @Ne Nat x dx) (n2 : @Ne Nat x io) (n3 : @Ne Nat x dio) (n4 : @Ne Nat dx io) (n5 : @Ne Nat dx dio) (n6 : @Ne Nat io dio) (hl : text.length ≤ 1000000) (hp : text.length ≤ p) (hR : ∀ s' t9' , Aft s s' [(x, ioObj 816 dx), (dx, lexDict w.params ks ts io pb fs (Str.ofString "") wc true .none (.str (Str.ofString "") t9)), (io, ioObj 681 dio), (dio, ioDict h1 h2 h3 k1 k2 k3 nl (.str text tt) (.int p tp))]
      [(x, ioObj 816 dx), (dx, lexDict w.params ks ts io pb fs (Str.ofString "") wc true .none (.str (Str.ofString "") t9')), (io, ioObj 681 dio), (dio, ioDict h1 h2 h3 k1 k2 k3 nl (.str text tt) (.int p tp))] → R (.ok (.ret .none)) s'), codeAny (model PG w) A (.call (.ref 784) ⟨[.ref x], []⟩) R s
noncomputable def Q_ (z : T) : Prop := Pf z.1 (z.2.1) (z.2.2.1) (z.2.2.2.1) (z.2.2.2.2.1) (z.2.2.2.2.2.1) (z.2.2.2.2.2.2.1) (z.2.2.2.2.2.2.2.1) (z.2.2.2.2.2.2.2.2.1) (z.2.2.2.2.2.2.2.2.2.1) (z.2.2.2.2.2.2.2.2.2.2.1) (z.2.2.2.2.2.2.2.2.2.2.2.1) (z.2.2.2.2.2.2.2.2.2.2.2.2.1) (z.2.2.2.2.2.2.2.2.2.2.2.2.2.1) (z.2.2.2.2.2.2.2.2.2.2.2.2.2.2.1) (z.2.2.2.2.2.2.2.2.2.2.2.2.2.2.2.1) (z.2.2.2.2.2.2.2.2.2.2.2.2.2.2.2.2.1) (z.2.2.2.2.2.2.2.2.2.2.2.2.2.2.2.2.2.1) (z.2.2.2.2.2.2.2.2.2.2.2.2.2.2.2.2.2.2.1) (z.2.2.2.2.2.2.2.2.2.2.2.2.2.2.2.2.2.2.2.1) (z.2.2.2.2.2.2.2.2.2.2.2.2.2.2.2.2.2.2.2.2.1) (z.2.2.2.2.2.2.2.2.2.2.2.2.2.2.2.2.2.2.2.2.2.1) (z.2.2.2.2.2.2.2.2.2.2.2.2.2.2.2.2.2.2.2.2.2.2.1) (z.2.2.2.2.2.2.2.2.2.2.2.2.2.2.2.2.2.2.2.2.2.2.2.1) (z.2.2.2.2.2.2.2.2.2.2.2.2.2.2.2.2.2.2.2.2.2.2.2.2.1) (z.2.2.2.2.2.2.2.2.2.2.2.2.2.2.2.2.2.2.2.2.2.2.2.2.2.1) (z.2.2.2.2.2.2.2.2.2.2.2.2.2.2.2.2.2.2.2.2.2.2.2.2.2.2.1) (z.2.2.2.2.2.2.2.2.2.2.2.2.2.2.2.2.2.2.2.2.2.2.2.2.2.2.2.1) (z.2.2.2.2.2.2.2.2.2.2.2.2.2.2.2.2.2.2.2.2.2.2.2.2.2.2.2.2)
theorem ne : Nonempty T := ⟨(Classical.choice Mine.neW, Classical.choice Mine.neA, Classical.choice Mine.neS, Classical.choice inferInstance, Classical.choice inferInstance, Classical.choice inferInstance, Classical.choice inferInstance, Classical.choice inferInstance, Classical.choice inferInstance, Classical.choice inferInstance, Classical.choice inferInstance, Classical.choice inferInstance, Classical.choice inferInstance, Classical.choice inferInstance, Classical.choice inferInstance, Classical.choice inferInstance, Classical.choice inferInstance, Classical.choice inferInstance, Classical.choice inferInstance, Classical.choice inferInstance, Classical.choice inferInstance, Classical.choice inferInstance, Classical.choice inferInstance, Classical.choice inferInstance, Classical.choice inferInstance, Classical.choice inferInstance, Classical.choice inferInstance, Classical.choice inferInstance, Classical.choice inferInstance)⟩
noncomputable def z_ : T := @Classical.epsilon _ ne fun z => ¬ Q_ z
@[irreducible] noncomputable def w : World := z_.1
@[irreducible] noncomputable def A : Around := z_.2.1
@[irreducible] noncomputable def s : Shared := z_.2.2.1
@[irreducible] noncomputable def H : Heap := z_.2.2.2.1
@[irreducible] noncomputable def loose : List Str := z_.2.2.2.2.1
@[irreducible] noncomputable def mg : Str → Option Value := z_.2.2.2.2.2.1
@[irreducible] noncomputable def mb : Str → Option Value := z_.2.2.2.2.2.2.1
@[irreducible] noncomputable def R : Result → Shared → Prop := z_.2.2.2.2.2.2.2.1
@[irreducible] noncomputable def x : Addr := z_.2.2.2.2.2.2.2.2.1
@[irreducible] noncomputable def dx : Addr := z_.2.2.2.2.2.2.2.2.2.1
@[irreducible] noncomputable def io : Addr := z_.2.2.2.2.2.2.2.2.2.2.1
@[irreducible] noncomputable def dio : Addr := z_.2.2.2.2.2.2.2.2.2.2.2.1
@[irreducible] noncomputable def pb : Addr := z_.2.2.2.2.2.2.2.2.2.2.2.2.1
@[irreducible] noncomputable def fs : Addr := z_.2.2.2.2.2.2.2.2.2.2.2.2.2.1
@[irreducible] noncomputable def ks : Nat → Tok := z_.2.2.2.2.2.2.2.2.2.2.2.2.2.2.1
@[irreducible] noncomputable def ts : Nat → Tok := z_.2.2.2.2.2.2.2.2.2.2.2.2.2.2.2.1
@[irreducible] noncomputable def wc : Str := z_.2.2.2.2.2.2.2.2.2.2.2.2.2.2.2.2.1
@[irreducible] noncomputable def text : Str := z_.2.2.2.2.2.2.2.2.2.2.2.2.2.2.2.2.2.1
@[irreducible] noncomputable def h1 : Int := z_.2.2.2.2.2.2.2.2.2.2.2.2.2.2.2.2.2.2.1
@[irreducible] noncomputable def h2 : Int := z_.2.2.2.2.2.2.2.2.2.2.2.2.2.2.2.2.2.2.2.1
@[irreducible] noncomputable def h3 : Int := z_.2.2.2.2.2.2.2.2.2.2.2.2.2.2.2.2.2.2.2.2.1
@[irreducible] noncomputable def k1 : Tok := z_.2.2.2.2.2.2.2.2.2.2.2.2.2.2.2.2.2.2.2.2.2.1
@[irreducible] noncomputable def k2 : Tok := z_.2.2.2.2.2.2.2.2.2.2.2.2.2.2.2.2.2.2.2.2.2.2.1
@[irreducible] noncomputable def k3 : Tok := z_.2.2.2.2.2.2.2.2.2.2.2.2.2.2.2.2.2.2.2.2.2.2.2.1
@[irreducible] noncomputable def tt : Tok := z_.2.2.2.2.2.2.2.2.2.2.2.2.2.2.2.2.2.2.2.2.2.2.2.2.1
@[irreducible] noncomputable def tp : Tok := z_.2.2.2.2.2.2.2.2.2.2.2.2.2.2.2.2.2.2.2.2.2.2.2.2.2.1
@[irreducible] noncomputable def t9 : Tok := z_.2.2.2.2.2.2.2.2.2.2.2.2.2.2.2.2.2.2.2.2.2.2.2.2.2.2.1
@[irreducible] noncomputable def nl : Value := z_.2.2.2.2.2.2.2.2.2.2.2.2.2.2.2.2.2.2.2.2.2.2.2.2.2.2.2.1
@[irreducible] noncomputable def p : Nat := z_.2.2.2.2.2.2.2.2.2.2.2.2.2.2.2.2.2.2.2.2.2.2.2.2.2.2.2.2
noncomputable def pk : {P_ : (Heap) → (Addr) → (Heap) → Prop // ∀ (X : (hd.heap_39 w.params).In H) (T : TopRead Mine.hd.view_39 loose mg mb H) (hk : ∀ b o, H.get? b = some o → s.heap.get? b = some o) (hd : A.depth + 12 < recursionLimit) (hx : ∀ q ∈ [(x, ioObj 816 dx), (dx, lexDict w.params ks ts io pb fs (Str.ofString "") wc true .none (.str (Str.ofString "") t9)), (io, ioObj 681 dio), (dio, ioDict h1 h2 h3 k1 k2 k3 nl (.str text tt) (.int p tp))], s.heap.get? q.1 = some q.2 ∧ H.get? q.1 = none) (n1 : @Ne Nat x dx) (n2 : @Ne Nat x io) (n3 : @Ne Nat x dio) (n4 : @Ne Nat dx io) (n5 : @Ne Nat dx dio) (n6 : @Ne Nat io dio) (hl : text.length ≤ 1000000) (hp : text.length ≤ p) (hR : ∀ s' t9' , Aft s s' [(x, ioObj 816 dx), (dx, lexDict w.params ks ts io pb fs (Str.ofString "") wc true .none (.str (Str.ofString "") t9)), (io, ioObj 681 dio), (dio, ioDict h1 h2 h3 k1 k2 k3 nl (.str text tt) (.int p tp))]
      [(x, ioObj 816 dx), (dx, lexDict w.params ks ts io pb fs (Str.ofString "") wc true .none (.str (Str.ofString "") t9')), (io, ioObj 681 dio), (dio, ioDict h1 h2 h3 k1 k2 k3 nl (.str text tt) (.int p tp))] → R (.ok (.ret .none)) s'), (∀ g L h₁, P_  g L h₁) → codeAny (model PG w) A (.call (.ref 784) ⟨[.ref x], []⟩) R s} := ⟨_, fun  X T hk hd hx n1 n2 n3 n4 n5 n6 hl hp hR k_ => by
  refine' enterM (binds := [(Str.ofString "self", .ref x)]) [(x, ioObj 816 dx), (dx, lexDict w.params ks ts io pb fs (Str.ofString "") wc true .none (.str (Str.ofString "") t9)), (io, ioObj 681 dio), (dio, ioDict h1 h2 h3 k1 k2 k3 nl (.str text tt) (.int p tp))] ?k1 ?k2 ?k3 ?k4 ?k6 ?k7 ?k8 ?k9 ?kB ?_ ?c5 ?c2 ?c3 ?c4
  walk_at "m:enter"
  exact k_⟩
noncomputable abbrev T2 := (Heap) × (Addr) × (Heap)
noncomputable def Pf2 (g : Heap) (L : Addr) (h₁ : Heap) : Prop := ∀ (X : (hd.heap_39 w.params).In H) (T : TopRead Mine.hd.view_39 loose mg mb H) (hk : ∀ b o, H.get? b = some o → s.heap.get? b = some o) (hd : A.depth + 12 < recursionLimit) (hx : ∀ q ∈ [(x, ioObj 816 dx), (dx, lexDict w.params ks ts io pb fs (Str.ofString "") wc true .none (.str (Str.ofString "") t9)), (io, ioObj 681 dio), (dio, ioDict h1 h2 h3 k1 k2 k3 nl (.str text tt) (.int p tp))], s.heap.get? q.1 = some q.2 ∧ H.get? q.1 = none) (n1 : @Ne Nat x dx) (n2 : @Ne Nat x io) (n3 : @Ne Nat x dio) (n4 : @Ne Nat dx io) (n5 : @Ne Nat dx dio) (n6 : @Ne Nat io dio) (hl : text.length ≤ 1000000) (hp : text.length ≤ p) (hR : ∀ s' t9' , Aft s s' [(x, ioObj 816 dx), (dx, lexDict w.params ks ts io pb fs (Str.ofString "") wc true .none (.str (Str.ofString "") t9)), (io, ioObj 681 dio), (dio, ioDict h1 h2 h3 k1 k2 k3 nl (.str text tt) (.int p tp))]
      [(x, ioObj 816 dx), (dx, lexDict w.params ks ts io pb fs (Str.ofString "") wc true .none (.str (Str.ofString "") t9')), (io, ioObj 681 dio), (dio, ioDict h1 h2 h3 k1 k2 k3 nl (.str text tt) (.int p tp))] → R (.ok (.ret .none)) s'), pk.1  g L h₁
noncomputable def Q2 (z : T2) : Prop := Pf2 z.1 (z.2.1) (z.2.2)
theorem ne2 : Nonempty T2 := ⟨(Classical.choice inferInstance, Classical.choice inferInstance, Classical.choice inferInstance)⟩
noncomputable def z2_ : T2 := @Classical.epsilon _ ne2 fun z => ¬ Q2 z
@[irreducible] noncomputable def g : Heap := z2_.1
@[irreducible] noncomputable def L : Addr := z2_.2.1
@[irreducible] noncomputable def h₁ : Heap := z2_.2.2
theorem core2 : Pf2 g L h₁ := by
  unfold Pf2
  intro X T hk hd hx n1 n2 n3 n4 n5 n6 hl hp hR
  dsimp only [pk]
  intro hkg hgk F N Xg Tg hHg hlt
  (replace hlt := allLt_of hlt)
  (try dsimp only)
  walk_at "m:steps"
  rename News _ _ _ _ => N9
  rename Fr _ _ _ _ => F9
  refine hR _ ?t9 ?fin
  case fin => exact Aft.of hkg F9 N9 (by walk_at "m:sub") (by simp only [*]) (fun z => by walk_at "m:bare")
theorem core : Pf w A s H loose mg mb R x dx io dio pb fs ks ts wc text h1 h2 h3 k1 k2 k3 tt tp t9 nl p := by
  unfold Pf
  intro X T hk hd hx n1 n2 n3 n4 n5 n6 hl hp hR
  exact pk.2  X T hk hd hx n1 n2 n3 n4 n5 n6 hl hp hR fun g L h₁ => eps_all ne2 Q2 (by with_unfolding_all exact core2) (g, L, h₁)  X T hk hd hx n1 n2 n3 n4 n5 n6 hl hp hR
theorem all (y : T) : Q_ y := eps_all ne Q_ (by with_unfolding_all exact core) y
end G2
end
section
theorem readtok_none_raw {w : World} {A : Around} {s : Shared} {H : Heap} {loose : List Str} {mg mb : Str → Option Value} {R : Result → Shared → Prop} {x dx io dio pb fs : Addr} {ks ts : Nat → Tok} {wc text : Str} {h1 h2 h3 : Int} {k1 k2 k3 tt tp t9 : Tok} {nl : Value} {p : Nat} 
  (X : (hd.heap_39 w.params).In H) (T : TopRead Mine.hd.view_39 loose mg mb H) (hk : ∀ b o, H.get? b = some o → s.heap.get? b = some o) (hd : A.depth + 12 < recursionLimit)
  (hx : ∀ q ∈ [(x, ioObj 816 dx), (dx, lexDict w.params ks ts io pb fs (Str.ofString "") wc true .none (.str (Str.ofString "") t9)), (io, ioObj 681 dio), (dio, ioDict h1 h2 h3 k1 k2 k3 nl (.str text tt) (.int p tp))], s.heap.get? q.1 = some q.2 ∧ H.get? q.1 = none)
  (n1 : @Ne Nat x dx) (n2 : @Ne Nat x io) (n3 : @Ne Nat x dio) (n4 : @Ne Nat dx io) (n5 : @Ne Nat dx dio) (n6 : @Ne Nat io dio) (hl : text.length ≤ 1000000) (hp : text.length ≤ p)
  (hR : ∀ s' t9' , Aft s s' [(x, ioObj 816 dx), (dx, lexDict w.params ks ts io pb fs (Str.ofString "") wc true .none (.str (Str.ofString "") t9)), (io, ioObj 681 dio), (dio, ioDict h1 h2 h3 k1 k2 k3 nl (.str text tt) (.int p tp))]
      [(x, ioObj 816 dx), (dx, lexDict w.params ks ts io pb fs (Str.ofString "") wc true .none (.str (Str.ofString "") t9')), (io, ioObj 681 dio), (dio, ioDict h1 h2 h3 k1 k2 k3 nl (.str text tt) (.int p tp))] → R (.ok (.ret .none)) s') :
  codeAny (model PG w) A (.call (.ref 784) ⟨[.ref x], []⟩) R s :=
  G2.all (w, A, s, H, loose, mg, mb, R, x, dx, io, dio, pb, fs, ks, ts, wc, text, h1, h2, h3, k1, k2, k3, tt, tp, t9, nl, p) X T hk hd hx n1 n2 n3 n4 n5 n6 hl hp hR
end
example : True := by
  k_with_none
  k_with "~m:enter" => (((case k1 | k2 | k3 => assumption); (case k4 => first | assumption | (intro _ hq; cases hq)); (case k6 | k7 => k_is); (case k8 => first | assumption | omega | (simp only [depth_deeper, depth_in1, recursionLimit] at *; omega)); (case k9 => first | exact BindsTo.of_eq rfl | exact binds_K (Frag.In.keeps (by assumption) (by assumption)) rfl (by k_is) rfl rfl rfl); (case c5 => decide); (case kB => exact locs rfl); (case c2 | c3 | c4 => exact rfl)))
  k_with "~k_inst" => ((refine' InstAt.of_accN ?zqN ?zqh1 ?zqh2; (case zqN => k_asm); (case zqh1 | zqh2 => k_mem)))
  k_with "~m:shadow" => ((refine shadow_of ?_; k_get))
  k_with "~getMethod ref" => ((k_here; (first
    | (refine' method_fnG ?zqk1 ?zqk2 ?zqk3 ?zqk4 ?zqk5 ?zqk6 ?zqk7 ?zqk8 ?_; k_dflt ((case zqk1 => k_in); (case zqk2 => k_inst); (case zqk3 => k_is); (case zqk4 => first | with_reducible exact canon_list_ga | with_reducible exact PySem.F.canon_object_ga | decide +kernel); (case zqk5 | zqk6 | zqk7 => k_is); (case zqk8 => walk_at "m:shadow"); k_whole))
    | (refine' method_biG ?zqk1 ?zqk2 ?zqk3 ?zqk4 ?zqk5 ?zqk6 ?zqk7 ?zqk8 ?zqk9 ?_; k_dflt ((case zqk1 => k_in); (case zqk2 => k_inst); (case zqk3 => k_is); (case zqk4 => first | with_reducible exact canon_list_ga | with_reducible exact PySem.F.canon_object_ga | decide +kernel); (case zqk5 | zqk6 | zqk7 => k_is); (case zqk8 => decide); (case zqk9 => walk_at "m:shadow"); k_whole)))))
  k_with "~call builtin:list.append" => ((k_here; (refine' append_acc ?zqk1 ?zqk2 ?zqk3 ?zqk4 ?zqk5 ?zqk6 ?_ ?zqk7; k_dflt ((case zqk1 | zqk2 | zqk3 => k_asm); (case zqk6 => k_upd); (case zqk4 => exact (News.get (by k_asm) (by k_mem))); (case zqk5 => k_is); (case zqk7 => first | assumption | (simp only [sizeLine_eq]; omega)); k_whole)); intro _ _ _; (try k_sweep)))
  k_with "~getMethod ref" => ((k_here; ks_any; k_dflt (first
    | (refine' superM ?zqk1 ?zqk2 ?zqk3 ?zqk4 ?zqk5 ?zqk6 ?zqk7 ?zqk8 lk_wget ?zqk9 (fun h hi => binds_of plain_wget entry_wget (chk_wlen _ _) (get_len _ _) hi) ?zqk10 ?_; (case zqk1 | zqk2 | zqk3 => k_asm); (case zqk4 => k_mem); (case zqk5 => k_inst); (case zqk6 => k_is); (case zqk7 => ks_is); (case zqk8 | zqk9 => k_is); (case zqk10 => decide); k_whole; intro _ _ _ _ l1; (try (replace l1 := allLt_of l1)); revert l1; intro _; (try k_sweep))
    | (refine' superM ?zqk1 ?zqk2 ?zqk3 ?zqk4 ?zqk5 ?zqk6 ?zqk7 ?zqk8 lk_wget ?zqk9 (fun h hi => binds_of plain_wget entry_wget (chk_winit _ _) (get_init _ _) hi) ?zqk10 ?_; (case zqk1 | zqk2 | zqk3 => k_asm); (case zqk4 => k_mem); (case zqk5 => k_inst); (case zqk6 => k_is); (case zqk7 => ks_is); (case zqk8 | zqk9 => k_is); (case zqk10 => decide); k_whole; intro _ _ _ _ l1; (try (replace l1 := allLt_of l1)); revert l1; intro _; (try k_sweep))
    | (refine' superM ?zqk1 ?zqk2 ?zqk3 ?zqk4 ?zqk5 ?zqk6 ?zqk7 ?zqk8 lk_mget ?zqk9 (fun h hi => binds_of plain_mget entry_mget (chk_mpop _ _) (get_pop _ _) hi) ?zqk10 ?_; (case zqk1 | zqk2 | zqk3 => k_asm); (case zqk4 => k_mem); (case zqk5 => k_inst); (case zqk6 => k_is); (case zqk7 => ks_is); (case zqk8 | zqk9 => k_is); (case zqk10 => decide); k_whole; intro _ _ _ _ l1; (try (replace l1 := allLt_of l1)); revert l1; intro _; (try k_sweep)))))
  k_with "~wpAt" => ((ks_step "attributeBase Call"; k_here; k_dflt (refine node_M (by k_asm) (by k_asm) (by k_asm) (by k_asm) (by k_is) (by rfl) (by rfl) (by k_inst) (by k_is) (by rfl) (by first | rfl | decide +kernel) (by k_is) (by k_is) (by k_is) (by k_is) (by decide) (by rfl) (by rfl) (by rfl) (by rfl) (by decide +kernel) (by first | boot_by_name | rfl | kernel_rfl) ?_; intro _ _ _ _ l1; (try (replace l1 := allLt_of l1)); revert l1; intro _; (try k_sweep))))
  k_with "~callWith ref" => ((k_here; (first
    | (refine' callWith_B0 ?zqk1 ?zqk2 ?_; k_dflt ((case zqk1 => exact (News.get (by k_asm) (by k_mem))); (case zqk2 => decide); k_whole; try dsimp only [List.nil_append, List.cons_append]))
    | (refine' callWith_B ?zqk1 ?zqk2 ?_ ?zqk3 ?zqk4; k_dflt ((case zqk1 => k_is); (case zqk2 => decide); (case zqk3 | zqk4 => rfl); k_whole)))))
  k_with "~call ref" => ((k_here; (first
    | (refine' super_len ?zqk1 ?zqk2 ?_; k_dflt ((case zqk1 | zqk2 => exact (News.get (by k_asm) (by k_mem))); k_whole))
    | (refine' super_init ?zqk1 ?zqk2 ?zqk3 ?zqk4 ?zqk5 ?_; k_dflt ((case zqk1 | zqk2 => k_asm); (case zqk3 => exact (News.get (by k_asm) (by k_mem))); (case zqk5 => k_upd); (case zqk4 => k_ne); k_whole; intro _ _ _; (try k_sweep)))
    | (refine' super_pop ?zqk1 ?zqk2 ?zqk3 ?zqk4 ?zqk5 ?zqk6 ?zqk7 ?zqk8 ?zqk9 ?zqk10 ?zqk11 ?_; k_dflt ((case zqk1 | zqk2 | zqk3 => k_asm); (case zqk4 => exact (News.get (by k_asm) (by k_mem))); (case zqk10 => k_upd); (case zqk5 => exact (News.get (by k_asm) (by k_mem))); (case zqk6 | zqk7 => k_is); (case zqk8 => rfl); (case zqk9 => k_is); (case zqk11 => first | assumption | (simp only [sizeLine_eq]; omega)); k_whole; intro _ _ _; (try k_sweep))))))
  k_with "~m:sub" => (first | exact List.forall_mem_nil _ | (refine List.forall_mem_cons.mpr ⟨by k_mem, ?_⟩; walk_at "m:sub"))
  k_with "~setAttr ref" => ((k_here; (refine' set_acc ?zqk1 ?zqk2 ?zqk3 ?zqk4 ?zqk5 ?zqk6 ?zqk7 ?zqk8 ?zqk9 ?zqk10 ?zqk11 ?zqk12 ?zqk13 ?_; k_dflt ((case zqk1 | zqk2 | zqk3 => k_asm); (case zqk4 => k_inst); (case zqk5 => exact rfl); (case zqk6 => k_is); (case zqk7 => rfl); (case zqk8 | zqk9 => k_is); (case zqk10 => k_get); (case zqk11 => k_put); (case zqk12 => k_upd); (case zqk13 => exact Nat.le_of_ble_eq_true rfl); k_whole; intro _ _ _; (try k_sweep)))))
  k_with "~subscriptTail" => ((k_here; (with_reducible show wpAny _ _ (subscriptTail _ _ (Value.ref _) (Value.ref _)) _ _ _); (refine' slice_acc ?zqk1 ?zqk2 ?zqk3 ?zqk4 ?zqk5 ?zqk6 ?zqk7 ?zqk8 ?zqk9 ?zqk10 ?_ ?zqk11 ?zqk12 ?zqk13; k_dflt ((case zqk1 | zqk2 | zqk3 => k_asm); (case zqk4 => k_inst); (case zqk5 => exact rfl); (case zqk6 | zqk7 | zqk8 => k_is); (case zqk9 | zqk10 => first | exact IsPart.none | exact IsPart.int _ _); (case zqk11 => with_unfolding_all rfl); (case zqk12 => intro _; with_unfolding_all rfl); (case zqk13 => first | assumption | (simp only [sizeLine_eq]; omega)); k_whole; intro _ _ _ _ l1; (try (replace l1 := allLt_of l1)); revert l1; intro _; (try k_sweep)))))
  k_with "~m:steps" => (repeat' (first | (walk1; (try dsimp only)) | (dsimp only; walk1; (try dsimp only)) | fail "no step"))
  k_with "~k_in" => ((refine' Frag.In.keeps ?zqkx ?zqkh; (case zqkx => with_reducible assumption); (case zqkh => exact Fr.keep (by with_reducible assumption))))
  k_with "~k_ne" => ((refine neN ?_; (try dsimp only); (try dsimp only [AllLt] at *); omega))
  k_with "~k_ne" => (first | with_reducible assumption | (refine Ne.symm ?_; with_reducible assumption) | (refine' ne_lt ?zqkh ?zqkm; (case zqkh => with_reducible assumption); (case zqkm => k_mem)) | (refine' Ne.symm (ne_lt ?zqkh ?zqkm); (case zqkh => with_reducible assumption); (case zqkm => k_mem)) | (refine neN ?_; decide))
  trivial
-- text ZNS
section
example : True := by
  k_with "~m:look" => (first | exact rfl | assumption | (dsimp only; repeat (first | rw [if_pos rfl] | rw [if_neg (by decide)])); first | rfl | assumption)
  k_with "~m:room" => (first | assumption | omega | (simp only [depth_deeper, depth_in1]; omega))
  k_with "~m:bare" => ((repeat (first | assumption | with_reducible apply_assumption)))
  k_with "~exec If" => (refine wpAny_If ?_)
  k_with "~ite" => (first | refine' ite_tt ?_ | refine' ite_ff ?_)
  k_with "~getAttr ref" => ((k_here; (refine' get_own ?zqk1 ?zqk2 ?zqk3 ?zqk4 ?zqk5 ?zqk6 ?zqk7 ?zqk8 ?zqk9 ?_; k_dflt ((case zqk1 | zqk2 => k_asm); (case zqk3 => k_inst); (case zqk4 | zqk5 | zqk6 | zqk7 => k_is); (case zqk8 => k_get); (case zqk9 => k_handed); k_whole))))
  trivial
noncomputable def RunFrom (st : Value) (cs : List Nat) (rtk : List Nat) (qd ended : Bool) (rest : List Nat) : Prop :=
  (∃ t0, st = .str (Str.ofString " ") t0 ∧ lexRun .sp [] false cs = some (rtk, qd, ended, rest)) ∨ (st = .none ∧ cs = [] ∧ rtk = [] ∧ qd = false ∧ ended = true ∧ rest = [])
section
variable {w : World} {A : Around} {E : Value → Shared → Prop} {s : Shared} {h₀ : Heap} {L : Addr} {m : Str → Option Value} {loose : List Str} {mg mb : Str → Option Value} {Q : Value → Shared → Prop} {x dx io dio pb fs : Addr} {ks ts : Nat → Tok} {wc text : Str} {h1 h2 h3 : Int} {k1 k2 k3 tt tp t9 : Tok} {nl st : Value} {p : Nat} {rtk : List Nat} {qd ended : Bool} {rest : List Nat} {prog : Program}
theorem tdq_w {D : Addr} {news : List (Addr × Obj)} {Q : Bool → Shared → Prop} (N : News h₀ L s.heap news) (hD : (D, dqObj) ∈ news) (h : ∀ tk, Q false { s with toks := tk }) : wpAny (model prog w) A (truthy (.ref D)) Q E s := truthy_deque (N _ hD).1 h
theorem readtok_w (F : Fr h₀ L s.heap m) (X : (hd.heap_39 w.params).In h₀) (T : TopRead Mine.hd.view_39 loose mg mb h₀) (hd : A.depth + 12 < recursionLimit)
  (N : News h₀ L s.heap [(pb, dqObj), (fs, dqObj), (x, ioObj 816 dx), (dx, lexDict w.params ks ts io pb fs (Str.ofString "") wc true st (.str (Str.ofString "") t9)), (io, ioObj 681 dio), (dio, ioDict h1 h2 h3 k1 k2 k3 nl (.str text tt) (.int p tp))])
  (n1 : @Ne Nat x dx) (n2 : @Ne Nat x io) (n3 : @Ne Nat x dio) (n4 : @Ne Nat dx io) (n5 : @Ne Nat dx dio) (n6 : @Ne Nat io dio)
  (b1 : @Ne Nat pb x) (b2 : @Ne Nat pb dx) (b3 : @Ne Nat pb io) (b4 : @Ne Nat pb dio) (c1 : @Ne Nat fs x) (c2 : @Ne Nat fs dx) (c3 : @Ne Nat fs io) (c4 : @Ne Nat fs dio) (hl : text.length ≤ 1000000) (hp : p ≤ text.length)
  (hw1 : (!(Builtin.Str.occurrences wc (Str.ofString "'") 0 wc.length 1).isEmpty) = false) (hw2 : (!(Builtin.Str.occurrences wc (Str.ofString "\"") 0 wc.length 1).isEmpty) = false)
  (hrun : RunFrom st (text.cps.toList.drop p) rtk qd ended rest)
  (h : ∀ s' t t0' t9' tp' p', Fr h₀ L s'.heap m → News h₀ L s'.heap [(pb, dqObj), (fs, dqObj), (x, ioObj 816 dx), (dx, lexDict w.params ks ts io pb fs (Str.ofString "") wc true (if ended then .none else .str (Str.ofString " ") t0') (.str (Str.ofString "") t9')), (io, ioObj 681 dio), (dio, ioDict h1 h2 h3 k1 k2 k3 nl (.str text tt) (.int ((p' : Nat) : Int) tp'))] →
    s'.os = s.os → (AllBare s.gens → AllBare s'.gens) → text.cps.toList.drop p' = rest → p' ≤ text.length → Q (if qd = false ∧ rtk = [] then .none else .str ⟨rtk.toArray⟩ t) s') :
  wpAny (model PG w) A (call (.ref 784) [.ref x]) Q E s := by
  have hz : ∀ q ∈ [(x, ioObj 816 dx), (dx, lexDict w.params ks ts io pb fs (Str.ofString "") wc true st (.str (Str.ofString "") t9)), (io, ioObj 681 dio), (dio, ioDict h1 h2 h3 k1 k2 k3 nl (.str text tt) (.int p tp))], s.heap.get? q.1 = some q.2 ∧ h₀.get? q.1 = none := fun q hq => by
    have z := N q (List.mem_cons_of_mem _ (List.mem_cons_of_mem _ hq))
    exact ⟨z.1, z.2.2⟩
  have side : ∀ (own' : List (Addr × Obj)) q, q ∈ (pb, dqObj) :: (fs, dqObj) :: own' → q ∈ own' ∨ (q ∈ [(pb, dqObj), (fs, dqObj), (x, ioObj 816 dx), (dx, lexDict w.params ks ts io pb fs (Str.ofString "") wc true st (.str (Str.ofString "") t9)), (io, ioObj 681 dio), (dio, ioDict h1 h2 h3 k1 k2 k3 nl (.str text tt) (.int p tp))] ∧ q.1 ∉ [(x, ioObj 816 dx), (dx, lexDict w.params ks ts io pb fs (Str.ofString "") wc true st (.str (Str.ofString "") t9)), (io, ioObj 681 dio), (dio, ioDict h1 h2 h3 k1 k2 k3 nl (.str text tt) (.int p tp))].map (·.1)) := fun own' q hq => by
    rcases List.mem_cons.mp hq with rfl | hq
    · exact .inr ⟨List.mem_cons_self .., by simp only [List.map_cons, List.map_nil, List.mem_cons, List.not_mem_nil, or_false, not_or]; exact ⟨b1, b2, b3, b4⟩⟩
    · rcases List.mem_cons.mp hq with rfl | hq
      · exact .inr ⟨List.mem_cons_of_mem _ (List.mem_cons_self ..), by simp only [List.map_cons, List.map_nil, List.mem_cons, List.not_mem_nil, or_false, not_or]; exact ⟨c1, c2, c3, c4⟩⟩
      · exact .inl hq
  rcases hrun with ⟨t0, rfl, hrun⟩ | ⟨rfl, hdr, rfl, rfl, rfl, rfl⟩
  · refine wpAny_call (readtok_raw X T F.keep hd hz n1 n2 n3 n4 n5 n6 hl hp hw1 hw2 hrun fun s' t t0' t9' tp' p' a hrest hp' => ?_)
    obtain ⟨F', N'⟩ := a.gen F N (n2 := [(pb, dqObj), (fs, dqObj), (x, ioObj 816 dx), (dx, lexDict w.params ks ts io pb fs (Str.ofString "") wc true (if ended then .none else .str (Str.ofString " ") t0') (.str (Str.ofString "") t9')), (io, ioObj 681 dio), (dio, ioDict h1 h2 h3 k1 k2 k3 nl (.str text tt) (.int ((p' : Nat) : Int) tp'))])
      (fun q hq => List.mem_cons_of_mem _ (List.mem_cons_of_mem _ hq)) (fun q hq => side _ q hq)
    exact h s' t t0' t9' tp' p' F' N' a.os a.bare hrest hp'
  · have hpe : text.length ≤ p := by
      have := congrArg List.length hdr
      rw [List.length_drop, Array.length_toList, List.length_nil] at this
      exact Nat.le_of_sub_eq_zero this
    refine wpAny_call (readtok_none_raw X T F.keep hd hz n1 n2 n3 n4 n5 n6 hl hpe fun s' t9' a => ?_)
    obtain ⟨F', N'⟩ := a.gen F N (n2 := [(pb, dqObj), (fs, dqObj), (x, ioObj 816 dx), (dx, lexDict w.params ks ts io pb fs (Str.ofString "") wc true .none (.str (Str.ofString "") t9')), (io, ioObj 681 dio), (dio, ioDict h1 h2 h3 k1 k2 k3 nl (.str text tt) (.int p tp))])
      (fun q hq => List.mem_cons_of_mem _ (List.mem_cons_of_mem _ hq)) (fun q hq => side _ q hq)
    exact h s' 0 0 t9' tp p F' N' a.os a.bare hdr hp
end
example : True := by
  k_with "~truthy ref" => ((k_here; (refine' tdq_w ?zqk1 ?zqk2 ?_; (case zqk1 => k_asm); (case zqk2 => k_dflt k_mem)); intro _))
  k_with "~call ref" => ((k_here; (with_reducible show wpAny _ _ (call (Value.ref 784) [Value.ref _]) _ _ _); refine Held.out ?_))
  trivial
end
section
namespace G3
noncomputable abbrev T := (World) × (Around) × (Shared) × (Heap) × (List Str) × (Str → Option Value) × (Str → Option Value) × (Result → Shared → Prop) × (Addr) × (Addr) × (Addr) × (Addr) × (Addr) × (Addr) × (Nat → Tok) × (Nat → Tok) × (Str) × (Str) × (Int) × (Int) × (Int) × (Tok) × (Tok) × (Tok) × (Tok) × (Tok) × (Tok) × (Value) × (Value) × (Nat) × (List Nat) × (Bool) × (Bool) × (List Nat)
noncomputable def Pf (w : World) (A : Around) (s : Shared) (H : Heap) (loose : List Str) (mg : Str → Option Value) (mb : Str → Option Value) (R : Result → Shared → Prop) (x : Addr) (dx : Addr) (io : Addr) (dio : Addr) (pb : Addr) (fs : Addr) (ks : Nat → Tok) (ts : Nat → Tok) (wc : Str) (text : Str) (h1 : Int) (h2 : Int) (h3 : Int) (k1 : Tok) (k2 : Tok) (k3 : Tok) (tt : Tok) (tp : Tok) (t9 : Tok) (nl : Value) (st : Value) (p : Nat) (rtk : List Nat) (qd : Bool) (ended : Bool) (rest : List Nat) : Prop := ∀ (X : (hd.heap_39 w.params).In H) (T : TopRead Mine.hd.view_39 loose mg mb H) (hk : ∀ b o, H.get? b = some o → s.heap.get? b = some o) (hd : A.depth + 13 < recursionLimit) (hx : ∀ q ∈ [(pb, dqObj), (fs, dqObj), (x, ioObj 816 dx), (dx, lexDict w.params ks ts io pb fs (Str.ofString "") wc true st (.str (Str.ofString "") t9)), (io, ioObj 681 dio), (dio, ioDict h1 h2 h3 k1 k2 k3 nl (.str text tt) (.int p tp))], s.heap.get? q.1 = some q.2 ∧ H.get? q.1 = none) (n1 : @Ne Nat x dx) (n2 : @Ne Nat x io) (n3 : @Ne Nat x dio) (n4 : @Ne Nat dx io) (n5 : @Ne Nat dx dio) (n6 : @Ne Nat io dio) (b1 : @Ne Nat pb x) (b2 : @Ne Nat pb dx) (b3 : @Ne Nat pb io) (b4 : @Ne Nat pb dio) (c1 : @Ne Nat fs x) (c2 : @Ne Nat fs dx) (c3 : @Ne Nat fs io) (c4 : @Ne Nat fs dio) (hl : text.length ≤ 1000000) (hp : p ≤ text.length) (hw1 : (!(Builtin.Str.occurrences wc (Str.ofString "'") 0 wc.length 1).isEmpty) = false) (hw2 : (!(Builtin.Str.occurrences wc (Str.ofString "\"") 0 wc.length 1).isEmpty) = false) (hrun : RunFrom st (text.cps.toList.drop p) rtk qd ended rest) (hR : ∀ s' t t0' t9' tp' p', Aft s s' [(pb, dqObj), (fs, dqObj), (x, ioObj 816 dx), (dx, lexDict w.params ks ts io pb fs (Str.ofString "") wc true st (.str (Str.ofString "") t9)), (io, ioObj 681 dio), (dio, ioDict h1 h2 h3 k1 k2 k3 nl (.str text tt) (.int p tp))]
      [(pb, dqObj), (fs, dqObj), (x, ioObj 816 dx), (dx, lexDict w.params ks ts io pb fs (Str.ofString "") wc true (if ended then .none else .str (Str.ofString " ") t0') (.str (Str.ofString "") t9')), (io, ioObj 681 dio), (dio, ioDict h1 h2 h3 k1 k2 k3 nl (.str text tt) (.int ((p' : Nat) : Int) tp'))] →
    text.cps.toList.drop p' = rest → p' ≤ text.length → R (.ok (.ret (if qd = false ∧ rtk = [] then .none else .str ⟨rtk.toArray⟩ t))) s'), codeAny (model PG w) A (.call (.ref 777) ⟨[.ref x], []⟩) R s
noncomputable def Q_ (z : T) : Prop := Pf z.1 (z.2.1) (z.2.2.1) (z.2.2.2.1) (z.2.2.2.2.1) (z.2.2.2.2.2.1) (z.2.2.2.2.2.2.1) (z.2.2.2.2.2.2.2.1) (z.2.2.2.2.2.2.2.2.1) (z.2.2.2.2.2.2.2.2.2.1) (z.2.2.2.2.2.2.2.2.2.2.1) (z.2.2.2.2.2.2.2.2.2.2.2.1) (z.2.2.2.2.2.2.2.2.2.2.2.2.1) (z.2.2.2.2.2.2.2.2.2.2.2.2.2.1) (z.2.2.2.2.2.2.2.2.2.2.2.2.2.2.1) (z.2.2.2.2.2.2.2.2.2.2.2.2.2.2.2.1) (z.2.2.2.2.2.2.2.2.2.2.2.2.2.2.2.2.1) (z.2.2.2.2.2.2.2.2.2.2.2.2.2.2.2.2.2.1) (z.2.2.2.2.2.2.2.2.2.2.2.2.2.2.2.2.2.2.1) (z.2.2.2.2.2.2.2.2.2.2.2.2.2.2.2.2.2.2.2.1) (z.2.2.2.2.2.2.2.2.2.2.2.2.2.2.2.2.2.2.2.2.1) (z.2.2.2.2.2.2.2.2.2.2.2.2.2.2.2.2.2.2.2.2.2.1) (z.2.2.2.2.2.2.2.2.2.2.2.2.2.2.2.2.2.2.2.2.2.2.1) (z.2.2.2.2.2.2.2.2.2.2.2.2.2.2.2.2.2.2.2.2.2.2.2.1) (z.2.2.2.2.2.2.2.2.2.2.2.2.2.2.2.2.2.2.2.2.2.2.2.2.1) (z.2.2.2.2.2.2.2.2.2.2.2.2.2.2.2.2.2.2.2.2.2.2.2.2.2.1) (z.2.2.2.2.2.2.2.2.2.2.2.2.2.2.2.2.2.2.2.2.2.2.2.2.2.2.1) (z.2.2.2.2.2.2.2.2.2.2.2.2.2.2.2.2.2.2.2.2.2.2.2.2.2.2.2.1) (z.2.2.2.2.2.2.2.2.2.2.2.2.2.2.2.2.2.2.2.2.2.2.2.2.2.2.2.2.1) (z.2.2.2.2.2.2.2.2.2.2.2.2.2.2.2.2.2.2.2.2.2.2.2.2.2.2.2.2.2.1) (z.2.2.2.2.2.2.2.2.2.2.2.2.2.2.2.2.2.2.2.2.2.2.2.2.2.2.2.2.2.2.1) (z.2.2.2.2.2.2.2.2.2.2.2.2.2.2.2.2.2.2.2.2.2.2.2.2.2.2.2.2.2.2.2.1) (z.2.2.2.2.2.2.2.2.2.2.2.2.2.2.2.2.2.2.2.2.2.2.2.2.2.2.2.2.2.2.2.2.1) (z.2.2.2.2.2.2.2.2.2.2.2.2.2.2.2.2.2.2.2.2.2.2.2.2.2.2.2.2.2.2.2.2.2)
theorem ne : Nonempty T := ⟨(Classical.choice Mine.neW, Classical.choice Mine.neA, Classical.choice Mine.neS, Classical.choice inferInstance, Classical.choice inferInstance, Classical.choice inferInstance, Classical.choice inferInstance, Classical.choice inferInstance, Classical.choice inferInstance, Classical.choice inferInstance, Classical.choice inferInstance, Classical.choice inferInstance, Classical.choice inferInstance, Classical.choice inferInstance, Classical.choice inferInstance, Classical.choice inferInstance, Classical.choice inferInstance, Classical.choice inferInstance, Classical.choice inferInstance, Classical.choice inferInstance, Classical.choice inferInstance, Classical.choice inferInstance, Classical.choice inferInstance, Classical.choice inferInstance, Classical.choice inferInstance, Classical.choice inferInstance, Classical.choice inferInstance, Classical.choice inferInstance, Classical.choice inferInstance, Classical.choice inferInstance, Classical.choice inferInstance, Classical.choice inferInstance, Classical.choice inferInstance, Classical.choice inferInstance)⟩
noncomputable def z_ : T := @Classical.epsilon _ ne fun z => ¬ Q_ z
@[irreducible] noncomputable def w : World := z_.1
@[irreducible] noncomputable def A : Around := z_.2.1
@[irreducible] noncomputable def s : Shared := z_.2.2.1
@[irreducible] noncomputable def H : Heap := z_.2.2.2.1
@[irreducible] noncomputable def loose : List Str := z_.2.2.2.2.1
@[irreducible] noncomputable def mg : Str → Option Value := z_.2.2.2.2.2.1
@[irreducible] noncomputable def mb : Str → Option Value := z_.2.2.2.2.2.2.1
@[irreducible] noncomputable def R : Result → Shared → Prop := z_.2.2.2.2.2.2.2.1
@[irreducible] noncomputable def x : Addr := z_.2.2.2.2.2.2.2.2.1
@[irreducible] noncomputable def dx : Addr := z_.2.2.2.2.2.2.2.2.2.1
@[irreducible] noncomputable def io : Addr := z_.2.2.2.2.2.2.2.2.2.2.1
@[irreducible] noncomputable def dio : Addr := z_.2.2.2.2.2.2.2.2.2.2.2.1
@[irreducible] noncomputable def pb : Addr := z_.2.2.2.2.2.2.2.2.2.2.2.2.1
@[irreducible] noncomputable def fs : Addr := z_.2.2.2.2.2.2.2.2.2.2.2.2.2.1
@[irreducible] noncomputable def ks : Nat → Tok := z_.2.2.2.2.2.2.2.2.2.2.2.2.2.2.1
@[irreducible] noncomputable def ts : Nat → Tok := z_.2.2.2.2.2.2.2.2.2.2.2.2.2.2.2.1
@[irreducible] noncomputable def wc : Str := z_.2.2.2.2.2.2.2.2.2.2.2.2.2.2.2.2.1
@[irreducible] noncomputable def text : Str := z_.2.2.2.2.2.2.2.2.2.2.2.2.2.2.2.2.2.1
@[irreducible] noncomputable def h1 : Int := z_.2.2.2.2.2.2.2.2.2.2.2.2.2.2.2.2.2.2.1
@[irreducible] noncomputable def h2 : Int := z_.2.2.2.2.2.2.2.2.2.2.2.2.2.2.2.2.2.2.2.1
@[irreducible] noncomputable def h3 : Int := z_.2.2.2.2.2.2.2.2.2.2.2.2.2.2.2.2.2.2.2.2.1
@[irreducible] noncomputable def k1 : Tok := z_.2.2.2.2.2.2.2.2.2.2.2.2.2.2.2.2.2.2.2.2.2.1
@[irreducible] noncomputable def k2 : Tok := z_.2.2.2.2.2.2.2.2.2.2.2.2.2.2.2.2.2.2.2.2.2.2.1
@[irreducible] noncomputable def k3 : Tok := z_.2.2.2.2.2.2.2.2.2.2.2.2.2.2.2.2.2.2.2.2.2.2.2.1
@[irreducible] noncomputable def tt : Tok := z_.2.2.2.2.2.2.2.2.2.2.2.2.2.2.2.2.2.2.2.2.2.2.2.2.1
@[irreducible] noncomputable def tp : Tok := z_.2.2.2.2.2.2.2.2.2.2.2.2.2.2.2.2.2.2.2.2.2.2.2.2.2.1
@[irreducible] noncomputable def t9 : Tok := z_.2.2.2.2.2.2.2.2.2.2.2.2.2.2.2.2.2.2.2.2.2.2.2.2.2.2.1
@[irreducible] noncomputable def nl : Value := z_.2.2.2.2.2.2.2.2.2.2.2.2.2.2.2.2.2.2.2.2.2.2.2.2.2.2.2.1
@[irreducible] noncomputable def st : Value := z_.2.2.2.2.2.2.2.2.2.2.2.2.2.2.2.2.2.2.2.2.2.2.2.2.2.2.2.2.1
@[irreducible] noncomputable def p : Nat := z_.2.2.2.2.2.2.2.2.2.2.2.2.2.2.2.2.2.2.2.2.2.2.2.2.2.2.2.2.2.1
@[irreducible] noncomputable def rtk : List Nat := z_.2.2.2.2.2.2.2.2.2.2.2.2.2.2.2.2.2.2.2.2.2.2.2.2.2.2.2.2.2.2.1
@[irreducible] noncomputable def qd : Bool := z_.2.2.2.2.2.2.2.2.2.2.2.2.2.2.2.2.2.2.2.2.2.2.2.2.2.2.2.2.2.2.2.1
@[irreducible] noncomputable def ended : Bool := z_.2.2.2.2.2.2.2.2.2.2.2.2.2.2.2.2.2.2.2.2.2.2.2.2.2.2.2.2.2.2.2.2.1
@[irreducible] noncomputable def rest : List Nat := z_.2.2.2.2.2.2.2.2.2.2.2.2.2.2.2.2.2.2.2.2.2.2.2.2.2.2.2.2.2.2.2.2.2
noncomputable def pk : {P_ : (Heap) → (Addr) → (Heap) → Prop // ∀ (X : (hd.heap_39 w.params).In H) (T : TopRead Mine.hd.view_39 loose mg mb H) (hk : ∀ b o, H.get? b = some o → s.heap.get? b = some o) (hd : A.depth + 13 < recursionLimit) (hx : ∀ q ∈ [(pb, dqObj), (fs, dqObj), (x, ioObj 816 dx), (dx, lexDict w.params ks ts io pb fs (Str.ofString "") wc true st (.str (Str.ofString "") t9)), (io, ioObj 681 dio), (dio, ioDict h1 h2 h3 k1 k2 k3 nl (.str text tt) (.int p tp))], s.heap.get? q.1 = some q.2 ∧ H.get? q.1 = none) (n1 : @Ne Nat x dx) (n2 : @Ne Nat x io) (n3 : @Ne Nat x dio) (n4 : @Ne Nat dx io) (n5 : @Ne Nat dx dio) (n6 : @Ne Nat io dio) (b1 : @Ne Nat pb x) (b2 : @Ne Nat pb dx) (b3 : @Ne Nat pb io) (b4 : @Ne Nat pb dio) (c1 : @Ne Nat fs x) (c2 : @Ne Nat fs dx) (c3 : @Ne Nat fs io) (c4 : @Ne Nat fs dio) (hl : text.length ≤ 1000000) (hp : p ≤ text.length) (hw1 : (!(Builtin.Str.occurrences wc (Str.ofString "'") 0 wc.length 1).isEmpty) = false) (hw2 : (!(Builtin.Str.occurrences wc (Str.ofString "\"") 0 wc.length 1).isEmpty) = false) (hrun : RunFrom st (text.cps.toList.drop p) rtk qd ended rest) (hR : ∀ s' t t0' t9' tp' p', Aft s s' [(pb, dqObj), (fs, dqObj), (x, ioObj 816 dx), (dx, lexDict w.params ks ts io pb fs (Str.ofString "") wc true st (.str (Str.ofString "") t9)), (io, ioObj 681 dio), (dio, ioDict h1 h2 h3 k1 k2 k3 nl (.str text tt) (.int p tp))]
      [(pb, dqObj), (fs, dqObj), (x, ioObj 816 dx), (dx, lexDict w.params ks ts io pb fs (Str.ofString "") wc true (if ended then .none else .str (Str.ofString " ") t0') (.str (Str.ofString "") t9')), (io, ioObj 681 dio), (dio, ioDict h1 h2 h3 k1 k2 k3 nl (.str text tt) (.int ((p' : Nat) : Int) tp'))] →
    text.cps.toList.drop p' = rest → p' ≤ text.length → R (.ok (.ret (if qd = false ∧ rtk = [] then .none else .str ⟨rtk.toArray⟩ t))) s'), (∀ g L h₁, P_  g L h₁) → codeAny (model PG w) A (.call (.ref 777) ⟨[.ref x], []⟩) R s} := ⟨_, fun  X T hk hd hx n1 n2 n3 n4 n5 n6 b1 b2 b3 b4 c1 c2 c3 c4 hl hp hw1 hw2 hrun hR k_ => by
  refine' enterM (binds := [(Str.ofString "self", .ref x)]) [(pb, dqObj), (fs, dqObj), (x, ioObj 816 dx), (dx, lexDict w.params ks ts io pb fs (Str.ofString "") wc true st (.str (Str.ofString "") t9)), (io, ioObj 681 dio), (dio, ioDict h1 h2 h3 k1 k2 k3 nl (.str text tt) (.int p tp))] ?k1 ?k2 ?k3 ?k4 ?k6 ?k7 ?k8 ?k9 ?kB ?_ ?c5 ?c2 ?c3 ?c4
  walk_at "m:enter"
  exact k_⟩
noncomputable abbrev T2 := (Heap) × (Addr) × (Heap)
noncomputable def Pf2 (g : Heap) (L : Addr) (h₁ : Heap) : Prop := ∀ (X : (hd.heap_39 w.params).In H) (T : TopRead Mine.hd.view_39 loose mg mb H) (hk : ∀ b o, H.get? b = some o → s.heap.get? b = some o) (hd : A.depth + 13 < recursionLimit) (hx : ∀ q ∈ [(pb, dqObj), (fs, dqObj), (x, ioObj 816 dx), (dx, lexDict w.params ks ts io pb fs (Str.ofString "") wc true st (.str (Str.ofString "") t9)), (io, ioObj 681 dio), (dio, ioDict h1 h2 h3 k1 k2 k3 nl (.str text tt) (.int p tp))], s.heap.get? q.1 = some q.2 ∧ H.get? q.1 = none) (n1 : @Ne Nat x dx) (n2 : @Ne Nat x io) (n3 : @Ne Nat x dio) (n4 : @Ne Nat dx io) (n5 : @Ne Nat dx dio) (n6 : @Ne Nat io dio) (b1 : @Ne Nat pb x) (b2 : @Ne Nat pb dx) (b3 : @Ne Nat pb io) (b4 : @Ne Nat pb dio) (c1 : @Ne Nat fs x) (c2 : @Ne Nat fs dx) (c3 : @Ne Nat fs io) (c4 : @Ne Nat fs dio) (hl : text.length ≤ 1000000) (hp : p ≤ text.length) (hw1 : (!(Builtin.Str.occurrences wc (Str.ofString "'") 0 wc.length 1).isEmpty) = false) (hw2 : (!(Builtin.Str.occurrences wc (Str.ofString "\"") 0 wc.length 1).isEmpty) = false) (hrun : RunFrom st (text.cps.toList.drop p) rtk qd ended rest) (hR : ∀ s' t t0' t9' tp' p', Aft s s' [(pb, dqObj), (fs, dqObj), (x, ioObj 816 dx), (dx, lexDict w.params ks ts io pb fs (Str.ofString "") wc true st (.str (Str.ofString "") t9)), (io, ioObj 681 dio), (dio, ioDict h1 h2 h3 k1 k2 k3 nl (.str text tt) (.int p tp))]
      [(pb, dqObj), (fs, dqObj), (x, ioObj 816 dx), (dx, lexDict w.params ks ts io pb fs (Str.ofString "") wc true (if ended then .none else .str (Str.ofString " ") t0') (.str (Str.ofString "") t9')), (io, ioObj 681 dio), (dio, ioDict h1 h2 h3 k1 k2 k3 nl (.str text tt) (.int ((p' : Nat) : Int) tp'))] →
    text.cps.toList.drop p' = rest → p' ≤ text.length → R (.ok (.ret (if qd = false ∧ rtk = [] then .none else .str ⟨rtk.toArray⟩ t))) s'), pk.1  g L h₁
noncomputable def Q2 (z : T2) : Prop := Pf2 z.1 (z.2.1) (z.2.2)
theorem ne2 : Nonempty T2 := ⟨(Classical.choice inferInstance, Classical.choice inferInstance, Classical.choice inferInstance)⟩
noncomputable def z2_ : T2 := @Classical.epsilon _ ne2 fun z => ¬ Q2 z
@[irreducible] noncomputable def g : Heap := z2_.1
@[irreducible] noncomputable def L : Addr := z2_.2.1
@[irreducible] noncomputable def h₁ : Heap := z2_.2.2
theorem core2 : Pf2 g L h₁ := by
  unfold Pf2
  intro X T hk hd hx n1 n2 n3 n4 n5 n6 b1 b2 b3 b4 c1 c2 c3 c4 hl hp hw1 hw2 hrun hR
  dsimp only [pk]
  intro hkg hgk F N Xg Tg hHg hlt
  (replace hlt := allLt_of hlt)
  (try dsimp only)
  walk_at "m:steps"
  refine Held.put ?_
  refine readtok_w (by k_asm) Xg Tg (by simp only [depth_deeper, depth_in1]; omega) (by k_asm) n1 n2 n3 n4 n5 n6 b1 b2 b3 b4 c1 c2 c3 c4 hl hp hw1 hw2 hrun ?_
  intro s' t t0' t9' tp' p' F' N' os' bare' hrest hp'
  clear F N hrun hp
  by_cases hq : qd = false ∧ rtk = []
  · rw [if_pos hq]
    walk_at "m:steps"
    rename News _ _ _ _ => N9
    rename Fr _ _ _ _ => F9
    refine Eq.mp (congrArg (fun v => R (.ok (.ret v)) _) (if_pos hq)) (hR _ t t0' t9' tp' p' ?fin hrest hp')
    case fin => exact Aft.of hkg F9 N9 (by walk_at "m:sub") os' bare'
  · rw [if_neg hq]
    walk_at "m:steps"
    rename News _ _ _ _ => N9
    rename Fr _ _ _ _ => F9
    refine Eq.mp (congrArg (fun v => R (.ok (.ret v)) _) (if_neg hq)) (hR _ t t0' t9' tp' p' ?fin hrest hp')
    case fin => exact Aft.of hkg F9 N9 (by walk_at "m:sub") os' bare'
theorem core : Pf w A s H loose mg mb R x dx io dio pb fs ks ts wc text h1 h2 h3 k1 k2 k3 tt tp t9 nl st p rtk qd ended rest := by
  unfold Pf
  intro X T hk hd hx n1 n2 n3 n4 n5 n6 b1 b2 b3 b4 c1 c2 c3 c4 hl hp hw1 hw2 hrun hR
  exact pk.2  X T hk hd hx n1 n2 n3 n4 n5 n6 b1 b2 b3 b4 c1 c2 c3 c4 hl hp hw1 hw2 hrun hR fun g L h₁ => eps_all ne2 Q2 (by with_unfolding_all exact core2) (g, L, h₁)  X T hk hd hx n1 n2 n3 n4 n5 n6 b1 b2 b3 b4 c1 c2 c3 c4 hl hp hw1 hw2 hrun hR
theorem all (y : T) : Q_ y := eps_all ne Q_ (by with_unfolding_all exact core) y
end G3
end
section
theorem gettok_raw {w : World} {A : Around} {s : Shared} {H : Heap} {loose : List Str} {mg mb : Str → Option Value} {R : Result → Shared → Prop} {x dx io dio pb fs : Addr} {ks ts : Nat → Tok} {wc text : Str} {h1 h2 h3 : Int} {k1 k2 k3 tt tp t9 : Tok} {nl st : Value} {p : Nat} {rtk : List Nat} {qd ended : Bool} {rest : List Nat}
  (X : (hd.heap_39 w.params).In H) (T : TopRead Mine.hd.view_39 loose mg mb H) (hk : ∀ b o, H.get? b = some o → s.heap.get? b = some o) (hd : A.depth + 13 < recursionLimit)
  (hx : ∀ q ∈ [(pb, dqObj), (fs, dqObj), (x, ioObj 816 dx), (dx, lexDict w.params ks ts io pb fs (Str.ofString "") wc true st (.str (Str.ofString "") t9)), (io, ioObj 681 dio), (dio, ioDict h1 h2 h3 k1 k2 k3 nl (.str text tt) (.int p tp))], s.heap.get? q.1 = some q.2 ∧ H.get? q.1 = none)
  (n1 : @Ne Nat x dx) (n2 : @Ne Nat x io) (n3 : @Ne Nat x dio) (n4 : @Ne Nat dx io) (n5 : @Ne Nat dx dio) (n6 : @Ne Nat io dio)
  (b1 : @Ne Nat pb x) (b2 : @Ne Nat pb dx) (b3 : @Ne Nat pb io) (b4 : @Ne Nat pb dio) (c1 : @Ne Nat fs x) (c2 : @Ne Nat fs dx) (c3 : @Ne Nat fs io) (c4 : @Ne Nat fs dio) (hl : text.length ≤ 1000000) (hp : p ≤ text.length)
  (hw1 : (!(Builtin.Str.occurrences wc (Str.ofString "'") 0 wc.length 1).isEmpty) = false) (hw2 : (!(Builtin.Str.occurrences wc (Str.ofString "\"") 0 wc.length 1).isEmpty) = false)
  (hrun : RunFrom st (text.cps.toList.drop p) rtk qd ended rest)
  (hR : ∀ s' t t0' t9' tp' p', Aft s s' [(pb, dqObj), (fs, dqObj), (x, ioObj 816 dx), (dx, lexDict w.params ks ts io pb fs (Str.ofString "") wc true st (.str (Str.ofString "") t9)), (io, ioObj 681 dio), (dio, ioDict h1 h2 h3 k1 k2 k3 nl (.str text tt) (.int p tp))]
      [(pb, dqObj), (fs, dqObj), (x, ioObj 816 dx), (dx, lexDict w.params ks ts io pb fs (Str.ofString "") wc true (if ended then .none else .str (Str.ofString " ") t0') (.str (Str.ofString "") t9')), (io, ioObj 681 dio), (dio, ioDict h1 h2 h3 k1 k2 k3 nl (.str text tt) (.int ((p' : Nat) : Int) tp'))] →
    text.cps.toList.drop p' = rest → p' ≤ text.length → R (.ok (.ret (if qd = false ∧ rtk = [] then .none else .str ⟨rtk.toArray⟩ t))) s') :
  codeAny (model PG w) A (.call (.ref 777) ⟨[.ref x], []⟩) R s :=
  G3.all (w, A, s, H, loose, mg, mb, R, x, dx, io, dio, pb, fs, ks, ts, wc, text, h1, h2, h3, k1, k2, k3, tt, tp, t9, nl, st, p, rtk, qd, ended, rest) X T hk hd hx n1 n2 n3 n4 n5 n6 b1 b2 b3 b4 c1 c2 c3 c4 hl hp hw1 hw2 hrun hR
end
example : True := by
  k_with_none
  k_with "~m:enter" => (((case k1 | k2 | k3 => assumption); (case k4 => first | assumption | (intro _ hq; cases hq)); (case k6 | k7 => k_is); (case k8 => first | assumption | omega | (simp only [depth_deeper, depth_in1, recursionLimit] at *; omega)); (case k9 => first | exact BindsTo.of_eq rfl | exact binds_K (Frag.In.keeps (by assumption) (by assumption)) rfl (by k_is) rfl rfl rfl); (case c5 => decide); (case kB => exact locs rfl); (case c2 | c3 | c4 => exact rfl)))
  k_with "~k_inst" => ((refine' InstAt.of_accN ?zqN ?zqh1 ?zqh2; (case zqN => k_asm); (case zqh1 | zqh2 => k_mem)))
  k_with "~m:shadow" => ((refine shadow_of ?_; k_get))
  k_with "~getMethod ref" => ((k_here; (first
    | (refine' method_fnG ?zqk1 ?zqk2 ?zqk3 ?zqk4 ?zqk5 ?zqk6 ?zqk7 ?zqk8 ?_; k_dflt ((case zqk1 => k_in); (case zqk2 => k_inst); (case zqk3 => k_is); (case zqk4 => first | with_reducible exact canon_list_ga | with_reducible exact PySem.F.canon_object_ga | decide +kernel); (case zqk5 | zqk6 | zqk7 => k_is); (case zqk8 => walk_at "m:shadow"); k_whole))
    | (refine' method_biG ?zqk1 ?zqk2 ?zqk3 ?zqk4 ?zqk5 ?zqk6 ?zqk7 ?zqk8 ?zqk9 ?_; k_dflt ((case zqk1 => k_in); (case zqk2 => k_inst); (case zqk3 => k_is); (case zqk4 => first | with_reducible exact canon_list_ga | with_reducible exact PySem.F.canon_object_ga | decide +kernel); (case zqk5 | zqk6 | zqk7 => k_is); (case zqk8 => decide); (case zqk9 => walk_at "m:shadow"); k_whole)))))
  k_with "~call builtin:list.append" => ((k_here; (refine' append_acc ?zqk1 ?zqk2 ?zqk3 ?zqk4 ?zqk5 ?zqk6 ?_ ?zqk7; k_dflt ((case zqk1 | zqk2 | zqk3 => k_asm); (case zqk6 => k_upd); (case zqk4 => exact (News.get (by k_asm) (by k_mem))); (case zqk5 => k_is); (case zqk7 => first | assumption | (simp only [sizeLine_eq]; omega)); k_whole)); intro _ _ _; (try k_sweep)))
  k_with "~getMethod ref" => ((k_here; ks_any; k_dflt (first
    | (refine' superM ?zqk1 ?zqk2 ?zqk3 ?zqk4 ?zqk5 ?zqk6 ?zqk7 ?zqk8 lk_wget ?zqk9 (fun h hi => binds_of plain_wget entry_wget (chk_wlen _ _) (get_len _ _) hi) ?zqk10 ?_; (case zqk1 | zqk2 | zqk3 => k_asm); (case zqk4 => k_mem); (case zqk5 => k_inst); (case zqk6 => k_is); (case zqk7 => ks_is); (case zqk8 | zqk9 => k_is); (case zqk10 => decide); k_whole; intro _ _ _ _ l1; (try (replace l1 := allLt_of l1)); revert l1; intro _; (try k_sweep))
    | (refine' superM ?zqk1 ?zqk2 ?zqk3 ?zqk4 ?zqk5 ?zqk6 ?zqk7 ?zqk8 lk_wget ?zqk9 (fun h hi => binds_of plain_wget entry_wget (chk_winit _ _) (get_init _ _) hi) ?zqk10 ?_; (case zqk1 | zqk2 | zqk3 => k_asm); (case zqk4 => k_mem); (case zqk5 => k_inst); (case zqk6 => k_is); (case zqk7 => ks_is); (case zqk8 | zqk9 => k_is); (case zqk10 => decide); k_whole; intro _ _ _ _ l1; (try (replace l1 := allLt_of l1)); revert l1; intro _; (try k_sweep))
    | (refine' superM ?zqk1 ?zqk2 ?zqk3 ?zqk4 ?zqk5 ?zqk6 ?zqk7 ?zqk8 lk_mget ?zqk9 (fun h hi => binds_of plain_mget entry_mget (chk_mpop _ _) (get_pop _ _) hi) ?zqk10 ?_; (case zqk1 | zqk2 | zqk3 => k_asm); (case zqk4 => k_mem); (case zqk5 => k_inst); (case zqk6 => k_is); (case zqk7 => ks_is); (case zqk8 | zqk9 => k_is); (case zqk10 => decide); k_whole; intro _ _ _ _ l1; (try (replace l1 := allLt_of l1)); revert l1; intro _; (try k_sweep)))))
  k_with "~wpAt" => ((ks_step "attributeBase Call"; k_here; k_dflt (refine node_M (by k_asm) (by k_asm) (by k_asm) (by k_asm) (by k_is) (by rfl) (by rfl) (by k_inst) (by k_is) (by rfl) (by first | rfl | decide +kernel) (by k_is) (by k_is) (by k_is) (by k_is) (by decide) (by rfl) (by rfl) (by rfl) (by rfl) (by decide +kernel) (by first | boot_by_name | rfl | kernel_rfl) ?_; intro _ _ _ _ l1; (try (replace l1 := allLt_of l1)); revert l1; intro _; (try k_sweep))))
  k_with "~callWith ref" => ((k_here; (first
    | (refine' callWith_B0 ?zqk1 ?zqk2 ?_; k_dflt ((case zqk1 => exact (News.get (by k_asm) (by k_mem))); (case zqk2 => decide); k_whole; try dsimp only [List.nil_append, List.cons_append]))
    | (refine' callWith_B ?zqk1 ?zqk2 ?_ ?zqk3 ?zqk4; k_dflt ((case zqk1 => k_is); (case zqk2 => decide); (case zqk3 | zqk4 => rfl); k_whole)))))
  k_with "~call ref" => ((k_here; (first
    | (refine' super_len ?zqk1 ?zqk2 ?_; k_dflt ((case zqk1 | zqk2 => exact (News.get (by k_asm) (by k_mem))); k_whole))
    | (refine' super_init ?zqk1 ?zqk2 ?zqk3 ?zqk4 ?zqk5 ?_; k_dflt ((case zqk1 | zqk2 => k_asm); (case zqk3 => exact (News.get (by k_asm) (by k_mem))); (case zqk5 => k_upd); (case zqk4 => k_ne); k_whole; intro _ _ _; (try k_sweep)))
    | (refine' super_pop ?zqk1 ?zqk2 ?zqk3 ?zqk4 ?zqk5 ?zqk6 ?zqk7 ?zqk8 ?zqk9 ?zqk10 ?zqk11 ?_; k_dflt ((case zqk1 | zqk2 | zqk3 => k_asm); (case zqk4 => exact (News.get (by k_asm) (by k_mem))); (case zqk10 => k_upd); (case zqk5 => exact (News.get (by k_asm) (by k_mem))); (case zqk6 | zqk7 => k_is); (case zqk8 => rfl); (case zqk9 => k_is); (case zqk11 => first | assumption | (simp only [sizeLine_eq]; omega)); k_whole; intro _ _ _; (try k_sweep))))))
  k_with "~m:sub" => (first | exact List.forall_mem_nil _ | (refine List.forall_mem_cons.mpr ⟨by k_mem, ?_⟩; walk_at "m:sub"))
  k_with "~setAttr ref" => ((k_here; (refine' set_acc ?zqk1 ?zqk2 ?zqk3 ?zqk4 ?zqk5 ?zqk6 ?zqk7 ?zqk8 ?zqk9 ?zqk10 ?zqk11 ?zqk12 ?zqk13 ?_; k_dflt ((case zqk1 | zqk2 | zqk3 => k_asm); (case zqk4 => k_inst); (case zqk5 => exact rfl); (case zqk6 => k_is); (case zqk7 => rfl); (case zqk8 | zqk9 => k_is); (case zqk10 => k_get); (case zqk11 => k_put); (case zqk12 => k_upd); (case zqk13 => exact Nat.le_of_ble_eq_true rfl); k_whole; intro _ _ _; (try k_sweep)))))
  k_with "~subscriptTail" => ((k_here; (with_reducible show wpAny _ _ (subscriptTail _ _ (Value.ref _) (Value.ref _)) _ _ _); (refine' slice_acc ?zqk1 ?zqk2 ?zqk3 ?zqk4 ?zqk5 ?zqk6 ?zqk7 ?zqk8 ?zqk9 ?zqk10 ?_ ?zqk11 ?zqk12 ?zqk13; k_dflt ((case zqk1 | zqk2 | zqk3 => k_asm); (case zqk4 => k_inst); (case zqk5 => exact rfl); (case zqk6 | zqk7 | zqk8 => k_is); (case zqk9 | zqk10 => first | exact IsPart.none | exact IsPart.int _ _); (case zqk11 => with_unfolding_all rfl); (case zqk12 => intro _; with_unfolding_all rfl); (case zqk13 => first | assumption | (simp only [sizeLine_eq]; omega)); k_whole; intro _ _ _ _ l1; (try (replace l1 := allLt_of l1)); revert l1; intro _; (try k_sweep)))))
  k_with "~m:steps" => (repeat' (first | (walk1; (try dsimp only)) | (dsimp only; walk1; (try dsimp only)) | fail "no step"))
  k_with "~k_in" => ((refine' Frag.In.keeps ?zqkx ?zqkh; (case zqkx => with_reducible assumption); (case zqkh => exact Fr.keep (by with_reducible assumption))))
  k_with "~k_ne" => ((refine neN ?_; (try dsimp only); (try dsimp only [AllLt] at *); omega))
  k_with "~k_ne" => (first | with_reducible assumption | (refine Ne.symm ?_; with_reducible assumption) | (refine' ne_lt ?zqkh ?zqkm; (case zqkh => with_reducible assumption); (case zqkm => k_mem)) | (refine' Ne.symm (ne_lt ?zqkh ?zqkm); (case zqkh => with_reducible assumption); (case zqkm => k_mem)) | (refine neN ?_; decide))
  trivial
-- text ZNT
section
example : True := by
  k_with "~m:look" => (first | exact rfl | assumption | (dsimp only; repeat (first | rw [if_pos rfl] | rw [if_neg (by decide)])); first | rfl | assumption)
  k_with "~m:room" => (first | assumption | omega | (simp only [depth_deeper, depth_in1]; omega))
  k_with "~m:bare" => ((repeat (first | assumption | with_reducible apply_assumption)))
  k_with "~exec If" => (refine wpAny_If ?_)
  k_with "~ite" => (first | refine' ite_tt ?_ | refine' ite_ff ?_)
  k_with "~getAttr ref" => ((k_here; (refine' get_own ?zqk1 ?zqk2 ?zqk3 ?zqk4 ?zqk5 ?zqk6 ?zqk7 ?zqk8 ?zqk9 ?_; k_dflt ((case zqk1 | zqk2 => k_asm); (case zqk3 => k_inst); (case zqk4 | zqk5 | zqk6 | zqk7 => k_is); (case zqk8 => k_get); (case zqk9 => k_handed); k_whole))))
  trivial
section
variable {w : World} {A : Around} {E : Value → Shared → Prop} {s : Shared} {h₀ : Heap} {L : Addr} {m : Str → Option Value} {loose : List Str} {mg mb : Str → Option Value} {Q : Value → Shared → Prop} {x dx io dio pb fs : Addr} {ks ts : Nat → Tok} {wc text : Str} {h1 h2 h3 : Int} {k1 k2 k3 tt tp t9 : Tok} {nl st : Value} {p : Nat} {rtk : List Nat} {qd ended : Bool} {rest : List Nat} {prog : Program}
theorem gettok_w (F : Fr h₀ L s.heap m) (X : (hd.heap_39 w.params).In h₀) (T : TopRead Mine.hd.view_39 loose mg mb h₀) (hd : A.depth + 13 < recursionLimit)
  (N : News h₀ L s.heap [(pb, dqObj), (fs, dqObj), (x, ioObj 816 dx), (dx, lexDict w.params ks ts io pb fs (Str.ofString "") wc true st (.str (Str.ofString "") t9)), (io, ioObj 681 dio), (dio, ioDict h1 h2 h3 k1 k2 k3 nl (.str text tt) (.int p tp))])
  (n1 : @Ne Nat x dx) (n2 : @Ne Nat x io) (n3 : @Ne Nat x dio) (n4 : @Ne Nat dx io) (n5 : @Ne Nat dx dio) (n6 : @Ne Nat io dio)
  (b1 : @Ne Nat pb x) (b2 : @Ne Nat pb dx) (b3 : @Ne Nat pb io) (b4 : @Ne Nat pb dio) (c1 : @Ne Nat fs x) (c2 : @Ne Nat fs dx) (c3 : @Ne Nat fs io) (c4 : @Ne Nat fs dio) (hl : text.length ≤ 1000000) (hp : p ≤ text.length)
  (hw1 : (!(Builtin.Str.occurrences wc (Str.ofString "'") 0 wc.length 1).isEmpty) = false) (hw2 : (!(Builtin.Str.occurrences wc (Str.ofString "\"") 0 wc.length 1).isEmpty) = false)
  (hrun : RunFrom st (text.cps.toList.drop p) rtk qd ended rest)
  (h : ∀ s' t t0' t9' tp' p', Fr h₀ L s'.heap m → News h₀ L s'.heap [(pb, dqObj), (fs, dqObj), (x, ioObj 816 dx), (dx, lexDict w.params ks ts io pb fs (Str.ofString "") wc true (if ended then .none else .str (Str.ofString " ") t0') (.str (Str.ofString "") t9')), (io, ioObj 681 dio), (dio, ioDict h1 h2 h3 k1 k2 k3 nl (.str text tt) (.int ((p' : Nat) : Int) tp'))] →
    s'.os = s.os → (AllBare s.gens → AllBare s'.gens) → text.cps.toList.drop p' = rest → p' ≤ text.length → Q (if qd = false ∧ rtk = [] then .none else .str ⟨rtk.toArray⟩ t) s') :
  wpAny (model PG w) A (call (.ref 777) [.ref x]) Q E s := by
  refine wpAny_call (gettok_raw X T F.keep hd (fun q hq => ⟨(N q hq).1, (N q hq).2.2⟩) n1 n2 n3 n4 n5 n6 b1 b2 b3 b4 c1 c2 c3 c4 hl hp hw1 hw2 hrun fun s' t t0' t9' tp' p' a hrest hp' => ?_)
  obtain ⟨F', N'⟩ := a.gen F N (n2 := [(pb, dqObj), (fs, dqObj), (x, ioObj 816 dx), (dx, lexDict w.params ks ts io pb fs (Str.ofString "") wc true (if ended then .none else .str (Str.ofString " ") t0') (.str (Str.ofString "") t9')), (io, ioObj 681 dio), (dio, ioDict h1 h2 h3 k1 k2 k3 nl (.str text tt) (.int ((p' : Nat) : Int) tp'))])
      (fun q hq => hq) (fun q hq => .inl hq)
  exact h s' t t0' t9' tp' p' F' N' a.os a.bare hrest hp'
end
example : True := by
  k_with "~call ref" => ((k_here; (with_reducible show wpAny _ _ (call (Value.ref 777) [Value.ref _]) _ _ _); refine Held.out ?_))
  k_with "~exec Raise some none" => ((k_here; (with_reducible rename Fr _ _ _ _ => kF); (refine' owsi_raiseC ?zqhh ?zqhx ?_; k_dflt ((case zqhh => assumption); (case zqhx => (refine' name_B kF ?zqk1 ?zqk2 ?zqk3 ?zqk4 ?zqk5 ?_; (case zqk1 | zqk2 => k_asm); (case zqk3 => k_is); (case zqk4 => boot_by_name); (case zqk5 => decide); exact ⟨rfl, rfl⟩))))))
  trivial
end
section
namespace G4
noncomputable abbrev T := (World) × (Around) × (Shared) × (Heap) × (List Str) × (Str → Option Value) × (Str → Option Value) × (Result → Shared → Prop) × (Addr) × (Addr) × (Addr) × (Addr) × (Addr) × (Addr) × (Nat → Tok) × (Nat → Tok) × (Str) × (Str) × (Int) × (Int) × (Int) × (Tok) × (Tok) × (Tok) × (Tok) × (Tok) × (Tok) × (Value) × (Value) × (Nat) × (List Nat) × (Bool) × (Bool) × (List Nat) × (Heap) × (List Env)
noncomputable def Pf (w : World) (A : Around) (s : Shared) (H : Heap) (loose : List Str) (mg : Str → Option Value) (mb : Str → Option Value) (R : Result → Shared → Prop) (x : Addr) (dx : Addr) (io : Addr) (dio : Addr) (pb : Addr) (fs : Addr) (ks : Nat → Tok) (ts : Nat → Tok) (wc : Str) (text : Str) (h1 : Int) (h2 : Int) (h3 : Int) (k1 : Tok) (k2 : Tok) (k3 : Tok) (tt : Tok) (tp : Tok) (t9 : Tok) (nl : Value) (st : Value) (p : Nat) (rtk : List Nat) (qd : Bool) (ended : Bool) (rest : List Nat) (base : Heap) (outer : List Env) : Prop := ∀ (X : (hd.heap_39 w.params).In H) (T : TopRead Mine.hd.view_39 loose mg mb H) (hk : ∀ b o, H.get? b = some o → s.heap.get? b = some o) (hd : A.depth + 14 < recursionLimit) (hh : A.handled = none) (K : Below A base outer H) (hx : ∀ q ∈ [(pb, dqObj), (fs, dqObj), (x, ioObj 816 dx), (dx, lexDict w.params ks ts io pb fs (Str.ofString "") wc true st (.str (Str.ofString "") t9)), (io, ioObj 681 dio), (dio, ioDict h1 h2 h3 k1 k2 k3 nl (.str text tt) (.int p tp))], s.heap.get? q.1 = some q.2 ∧ H.get? q.1 = none) (n1 : @Ne Nat x dx) (n2 : @Ne Nat x io) (n3 : @Ne Nat x dio) (n4 : @Ne Nat dx io) (n5 : @Ne Nat dx dio) (n6 : @Ne Nat io dio) (b1 : @Ne Nat pb x) (b2 : @Ne Nat pb dx) (b3 : @Ne Nat pb io) (b4 : @Ne Nat pb dio) (c1 : @Ne Nat fs x) (c2 : @Ne Nat fs dx) (c3 : @Ne Nat fs io) (c4 : @Ne Nat fs dio) (hl : text.length ≤ 1000000) (hp : p ≤ text.length) (hw1 : (!(Builtin.Str.occurrences wc (Str.ofString "'") 0 wc.length 1).isEmpty) = false) (hw2 : (!(Builtin.Str.occurrences wc (Str.ofString "\"") 0 wc.length 1).isEmpty) = false) (hrun : RunFrom st (text.cps.toList.drop p) rtk qd ended rest) (hR : ¬ (qd = false ∧ rtk = []) → ∀ s' t t0' t9' tp' p', Aft s s' [(pb, dqObj), (fs, dqObj), (x, ioObj 816 dx), (dx, lexDict w.params ks ts io pb fs (Str.ofString "") wc true st (.str (Str.ofString "") t9)), (io, ioObj 681 dio), (dio, ioDict h1 h2 h3 k1 k2 k3 nl (.str text tt) (.int p tp))]
      [(pb, dqObj), (fs, dqObj), (x, ioObj 816 dx), (dx, lexDict w.params ks ts io pb fs (Str.ofString "") wc true (if ended then .none else .str (Str.ofString " ") t0') (.str (Str.ofString "") t9')), (io, ioObj 681 dio), (dio, ioDict h1 h2 h3 k1 k2 k3 nl (.str text tt) (.int ((p' : Nat) : Int) tp'))] →
    text.cps.toList.drop p' = rest → p' ≤ text.length → R (.ok (.ret (.str ⟨rtk.toArray⟩ t))) s') (hE : (qd = false ∧ rtk = []) → ∀ s' e, base.StaysIn s'.heap → H.UpToSlots s'.heap → s'.TypeIs (.ref e) "StopIteration" → s'.os = s.os → (AllBare s.gens → AllBare s'.gens) → R (.error (.ref e)) s'), codeAny (model PG w) A (.call (.ref 813) ⟨[.ref x], []⟩) R s
noncomputable def Q_ (z : T) : Prop := Pf z.1 (z.2.1) (z.2.2.1) (z.2.2.2.1) (z.2.2.2.2.1) (z.2.2.2.2.2.1) (z.2.2.2.2.2.2.1) (z.2.2.2.2.2.2.2.1) (z.2.2.2.2.2.2.2.2.1) (z.2.2.2.2.2.2.2.2.2.1) (z.2.2.2.2.2.2.2.2.2.2.1) (z.2.2.2.2.2.2.2.2.2.2.2.1) (z.2.2.2.2.2.2.2.2.2.2.2.2.1) (z.2.2.2.2.2.2.2.2.2.2.2.2.2.1) (z.2.2.2.2.2.2.2.2.2.2.2.2.2.2.1) (z.2.2.2.2.2.2.2.2.2.2.2.2.2.2.2.1) (z.2.2.2.2.2.2.2.2.2.2.2.2.2.2.2.2.1) (z.2.2.2.2.2.2.2.2.2.2.2.2.2.2.2.2.2.1) (z.2.2.2.2.2.2.2.2.2.2.2.2.2.2.2.2.2.2.1) (z.2.2.2.2.2.2.2.2.2.2.2.2.2.2.2.2.2.2.2.1) (z.2.2.2.2.2.2.2.2.2.2.2.2.2.2.2.2.2.2.2.2.1) (z.2.2.2.2.2.2.2.2.2.2.2.2.2.2.2.2.2.2.2.2.2.1) (z.2.2.2.2.2.2.2.2.2.2.2.2.2.2.2.2.2.2.2.2.2.2.1) (z.2.2.2.2.2.2.2.2.2.2.2.2.2.2.2.2.2.2.2.2.2.2.2.1) (z.2.2.2.2.2.2.2.2.2.2.2.2.2.2.2.2.2.2.2.2.2.2.2.2.1) (z.2.2.2.2.2.2.2.2.2.2.2.2.2.2.2.2.2.2.2.2.2.2.2.2.2.1) (z.2.2.2.2.2.2.2.2.2.2.2.2.2.2.2.2.2.2.2.2.2.2.2.2.2.2.1) (z.2.2.2.2.2.2.2.2.2.2.2.2.2.2.2.2.2.2.2.2.2.2.2.2.2.2.2.1) (z.2.2.2.2.2.2.2.2.2.2.2.2.2.2.2.2.2.2.2.2.2.2.2.2.2.2.2.2.1) (z.2.2.2.2.2.2.2.2.2.2.2.2.2.2.2.2.2.2.2.2.2.2.2.2.2.2.2.2.2.1) (z.2.2.2.2.2.2.2.2.2.2.2.2.2.2.2.2.2.2.2.2.2.2.2.2.2.2.2.2.2.2.1) (z.2.2.2.2.2.2.2.2.2.2.2.2.2.2.2.2.2.2.2.2.2.2.2.2.2.2.2.2.2.2.2.1) (z.2.2.2.2.2.2.2.2.2.2.2.2.2.2.2.2.2.2.2.2.2.2.2.2.2.2.2.2.2.2.2.2.1) (z.2.2.2.2.2.2.2.2.2.2.2.2.2.2.2.2.2.2.2.2.2.2.2.2.2.2.2.2.2.2.2.2.2.1) (z.2.2.2.2.2.2.2.2.2.2.2.2.2.2.2.2.2.2.2.2.2.2.2.2.2.2.2.2.2.2.2.2.2.2.1) (z.2.2.2.2.2.2.2.2.2.2.2.2.2.2.2.2.2.2.2.2.2.2.2.2.2.2.2.2.2.2.2.2.2.2.2)
theorem ne : Nonempty T := ⟨(Classical.choice Mine.neW, Classical.choice Mine.neA, Classical.choice Mine.neS, Classical.choice inferInstance, Classical.choice inferInstance, Classical.choice inferInstance, Classical.choice inferInstance, Classical.choice inferInstance, Classical.choice inferInstance, Classical.choice inferInstance, Classical.choice inferInstance, Classical.choice inferInstance, Classical.choice inferInstance, Classical.choice inferInstance, Classical.choice inferInstance, Classical.choice inferInstance, Classical.choice inferInstance, Classical.choice inferInstance, Classical.choice inferInstance, Classical.choice inferInstance, Classical.choice inferInstance, Classical.choice inferInstance, Classical.choice inferInstance, Classical.choice inferInstance, Classical.choice inferInstance, Classical.choice inferInstance, Classical.choice inferInstance, Classical.choice inferInstance, Classical.choice inferInstance, Classical.choice inferInstance, Classical.choice inferInstance, Classical.choice inferInstance, Classical.choice inferInstance, Classical.choice inferInstance, Classical.choice inferInstance, Classical.choice inferInstance)⟩
noncomputable def z_ : T := @Classical.epsilon _ ne fun z => ¬ Q_ z
@[irreducible] noncomputable def w : World := z_.1
@[irreducible] noncomputable def A : Around := z_.2.1
@[irreducible] noncomputable def s : Shared := z_.2.2.1
@[irreducible] noncomputable def H : Heap := z_.2.2.2.1
@[irreducible] noncomputable def loose : List Str := z_.2.2.2.2.1
@[irreducible] noncomputable def mg : Str → Option Value := z_.2.2.2.2.2.1
@[irreducible] noncomputable def mb : Str → Option Value := z_.2.2.2.2.2.2.1
@[irreducible] noncomputable def R : Result → Shared → Prop := z_.2.2.2.2.2.2.2.1
@[irreducible] noncomputable def x : Addr := z_.2.2.2.2.2.2.2.2.1
@[irreducible] noncomputable def dx : Addr := z_.2.2.2.2.2.2.2.2.2.1
@[irreducible] noncomputable def io : Addr := z_.2.2.2.2.2.2.2.2.2.2.1
@[irreducible] noncomputable def dio : Addr := z_.2.2.2.2.2.2.2.2.2.2.2.1
@[irreducible] noncomputable def pb : Addr := z_.2.2.2.2.2.2.2.2.2.2.2.2.1
@[irreducible] noncomputable def fs : Addr := z_.2.2.2.2.2.2.2.2.2.2.2.2.2.1
@[irreducible] noncomputable def ks : Nat → Tok := z_.2.2.2.2.2.2.2.2.2.2.2.2.2.2.1
@[irreducible] noncomputable def ts : Nat → Tok := z_.2.2.2.2.2.2.2.2.2.2.2.2.2.2.2.1
@[irreducible] noncomputable def wc : Str := z_.2.2.2.2.2.2.2.2.2.2.2.2.2.2.2.2.1
@[irreducible] noncomputable def text : Str := z_.2.2.2.2.2.2.2.2.2.2.2.2.2.2.2.2.2.1
@[irreducible] noncomputable def h1 : Int := z_.2.2.2.2.2.2.2.2.2.2.2.2.2.2.2.2.2.2.1
@[irreducible] noncomputable def h2 : Int := z_.2.2.2.2.2.2.2.2.2.2.2.2.2.2.2.2.2.2.2.1
@[irreducible] noncomputable def h3 : Int := z_.2.2.2.2.2.2.2.2.2.2.2.2.2.2.2.2.2.2.2.2.1
@[irreducible] noncomputable def k1 : Tok := z_.2.2.2.2.2.2.2.2.2.2.2.2.2.2.2.2.2.2.2.2.2.1
@[irreducible] noncomputable def k2 : Tok := z_.2.2.2.2.2.2.2.2.2.2.2.2.2.2.2.2.2.2.2.2.2.2.1
@[irreducible] noncomputable def k3 : Tok := z_.2.2.2.2.2.2.2.2.2.2.2.2.2.2.2.2.2.2.2.2.2.2.2.1
@[irreducible] noncomputable def tt : Tok := z_.2.2.2.2.2.2.2.2.2.2.2.2.2.2.2.2.2.2.2.2.2.2.2.2.1
@[irreducible] noncomputable def tp : Tok := z_.2.2.2.2.2.2.2.2.2.2.2.2.2.2.2.2.2.2.2.2.2.2.2.2.2.1
@[irreducible] noncomputable def t9 : Tok := z_.2.2.2.2.2.2.2.2.2.2.2.2.2.2.2.2.2.2.2.2.2.2.2.2.2.2.1
@[irreducible] noncomputable def nl : Value := z_.2.2.2.2.2.2.2.2.2.2.2.2.2.2.2.2.2.2.2.2.2.2.2.2.2.2.2.1
@[irreducible] noncomputable def st : Value := z_.2.2.2.2.2.2.2.2.2.2.2.2.2.2.2.2.2.2.2.2.2.2.2.2.2.2.2.2.1
@[irreducible] noncomputable def p : Nat := z_.2.2.2.2.2.2.2.2.2.2.2.2.2.2.2.2.2.2.2.2.2.2.2.2.2.2.2.2.2.1
@[irreducible] noncomputable def rtk : List Nat := z_.2.2.2.2.2.2.2.2.2.2.2.2.2.2.2.2.2.2.2.2.2.2.2.2.2.2.2.2.2.2.1
@[irreducible] noncomputable def qd : Bool := z_.2.2.2.2.2.2.2.2.2.2.2.2.2.2.2.2.2.2.2.2.2.2.2.2.2.2.2.2.2.2.2.1
@[irreducible] noncomputable def ended : Bool := z_.2.2.2.2.2.2.2.2.2.2.2.2.2.2.2.2.2.2.2.2.2.2.2.2.2.2.2.2.2.2.2.2.1
@[irreducible] noncomputable def rest : List Nat := z_.2.2.2.2.2.2.2.2.2.2.2.2.2.2.2.2.2.2.2.2.2.2.2.2.2.2.2.2.2.2.2.2.2.1
@[irreducible] noncomputable def base : Heap := z_.2.2.2.2.2.2.2.2.2.2.2.2.2.2.2.2.2.2.2.2.2.2.2.2.2.2.2.2.2.2.2.2.2.2.1
@[irreducible] noncomputable def outer : List Env := z_.2.2.2.2.2.2.2.2.2.2.2.2.2.2.2.2.2.2.2.2.2.2.2.2.2.2.2.2.2.2.2.2.2.2.2
noncomputable def pk : {P_ : (Heap) → (Addr) → (Heap) → Prop // ∀ (X : (hd.heap_39 w.params).In H) (T : TopRead Mine.hd.view_39 loose mg mb H) (hk : ∀ b o, H.get? b = some o → s.heap.get? b = some o) (hd : A.depth + 14 < recursionLimit) (hh : A.handled = none) (K : Below A base outer H) (hx : ∀ q ∈ [(pb, dqObj), (fs, dqObj), (x, ioObj 816 dx), (dx, lexDict w.params ks ts io pb fs (Str.ofString "") wc true st (.str (Str.ofString "") t9)), (io, ioObj 681 dio), (dio, ioDict h1 h2 h3 k1 k2 k3 nl (.str text tt) (.int p tp))], s.heap.get? q.1 = some q.2 ∧ H.get? q.1 = none) (n1 : @Ne Nat x dx) (n2 : @Ne Nat x io) (n3 : @Ne Nat x dio) (n4 : @Ne Nat dx io) (n5 : @Ne Nat dx dio) (n6 : @Ne Nat io dio) (b1 : @Ne Nat pb x) (b2 : @Ne Nat pb dx) (b3 : @Ne Nat pb io) (b4 : @Ne Nat pb dio) (c1 : @Ne Nat fs x) (c2 : @Ne Nat fs dx) (c3 : @Ne Nat fs io) (c4 : @Ne Nat fs dio) (hl : text.length ≤ 1000000) (hp : p ≤ text.length) (hw1 : (!(Builtin.Str.occurrences wc (Str.ofString "'") 0 wc.length 1).isEmpty) = false) (hw2 : (!(Builtin.Str.occurrences wc (Str.ofString "\"") 0 wc.length 1).isEmpty) = false) (hrun : RunFrom st (text.cps.toList.drop p) rtk qd ended rest) (hR : ¬ (qd = false ∧ rtk = []) → ∀ s' t t0' t9' tp' p', Aft s s' [(pb, dqObj), (fs, dqObj), (x, ioObj 816 dx), (dx, lexDict w.params ks ts io pb fs (Str.ofString "") wc true st (.str (Str.ofString "") t9)), (io, ioObj 681 dio), (dio, ioDict h1 h2 h3 k1 k2 k3 nl (.str text tt) (.int p tp))]
      [(pb, dqObj), (fs, dqObj), (x, ioObj 816 dx), (dx, lexDict w.params ks ts io pb fs (Str.ofString "") wc true (if ended then .none else .str (Str.ofString " ") t0') (.str (Str.ofString "") t9')), (io, ioObj 681 dio), (dio, ioDict h1 h2 h3 k1 k2 k3 nl (.str text tt) (.int ((p' : Nat) : Int) tp'))] →
    text.cps.toList.drop p' = rest → p' ≤ text.length → R (.ok (.ret (.str ⟨rtk.toArray⟩ t))) s') (hE : (qd = false ∧ rtk = []) → ∀ s' e, base.StaysIn s'.heap → H.UpToSlots s'.heap → s'.TypeIs (.ref e) "StopIteration" → s'.os = s.os → (AllBare s.gens → AllBare s'.gens) → R (.error (.ref e)) s'), (∀ g L h₁, P_  g L h₁) → codeAny (model PG w) A (.call (.ref 813) ⟨[.ref x], []⟩) R s} := ⟨_, fun  X T hk hd hh K hx n1 n2 n3 n4 n5 n6 b1 b2 b3 b4 c1 c2 c3 c4 hl hp hw1 hw2 hrun hR hE k_ => by
  refine' enterM (binds := [(Str.ofString "self", .ref x)]) [(pb, dqObj), (fs, dqObj), (x, ioObj 816 dx), (dx, lexDict w.params ks ts io pb fs (Str.ofString "") wc true st (.str (Str.ofString "") t9)), (io, ioObj 681 dio), (dio, ioDict h1 h2 h3 k1 k2 k3 nl (.str text tt) (.int p tp))] ?k1 ?k2 ?k3 ?k4 ?k6 ?k7 ?k8 ?k9 ?kB ?_ ?c5 ?c2 ?c3 ?c4
  walk_at "m:enter"
  exact k_⟩
noncomputable abbrev T2 := (Heap) × (Addr) × (Heap)
noncomputable def Pf2 (g : Heap) (L : Addr) (h₁ : Heap) : Prop := ∀ (X : (hd.heap_39 w.params).In H) (T : TopRead Mine.hd.view_39 loose mg mb H) (hk : ∀ b o, H.get? b = some o → s.heap.get? b = some o) (hd : A.depth + 14 < recursionLimit) (hh : A.handled = none) (K : Below A base outer H) (hx : ∀ q ∈ [(pb, dqObj), (fs, dqObj), (x, ioObj 816 dx), (dx, lexDict w.params ks ts io pb fs (Str.ofString "") wc true st (.str (Str.ofString "") t9)), (io, ioObj 681 dio), (dio, ioDict h1 h2 h3 k1 k2 k3 nl (.str text tt) (.int p tp))], s.heap.get? q.1 = some q.2 ∧ H.get? q.1 = none) (n1 : @Ne Nat x dx) (n2 : @Ne Nat x io) (n3 : @Ne Nat x dio) (n4 : @Ne Nat dx io) (n5 : @Ne Nat dx dio) (n6 : @Ne Nat io dio) (b1 : @Ne Nat pb x) (b2 : @Ne Nat pb dx) (b3 : @Ne Nat pb io) (b4 : @Ne Nat pb dio) (c1 : @Ne Nat fs x) (c2 : @Ne Nat fs dx) (c3 : @Ne Nat fs io) (c4 : @Ne Nat fs dio) (hl : text.length ≤ 1000000) (hp : p ≤ text.length) (hw1 : (!(Builtin.Str.occurrences wc (Str.ofString "'") 0 wc.length 1).isEmpty) = false) (hw2 : (!(Builtin.Str.occurrences wc (Str.ofString "\"") 0 wc.length 1).isEmpty) = false) (hrun : RunFrom st (text.cps.toList.drop p) rtk qd ended rest) (hR : ¬ (qd = false ∧ rtk = []) → ∀ s' t t0' t9' tp' p', Aft s s' [(pb, dqObj), (fs, dqObj), (x, ioObj 816 dx), (dx, lexDict w.params ks ts io pb fs (Str.ofString "") wc true st (.str (Str.ofString "") t9)), (io, ioObj 681 dio), (dio, ioDict h1 h2 h3 k1 k2 k3 nl (.str text tt) (.int p tp))]
      [(pb, dqObj), (fs, dqObj), (x, ioObj 816 dx), (dx, lexDict w.params ks ts io pb fs (Str.ofString "") wc true (if ended then .none else .str (Str.ofString " ") t0') (.str (Str.ofString "") t9')), (io, ioObj 681 dio), (dio, ioDict h1 h2 h3 k1 k2 k3 nl (.str text tt) (.int ((p' : Nat) : Int) tp'))] →
    text.cps.toList.drop p' = rest → p' ≤ text.length → R (.ok (.ret (.str ⟨rtk.toArray⟩ t))) s') (hE : (qd = false ∧ rtk = []) → ∀ s' e, base.StaysIn s'.heap → H.UpToSlots s'.heap → s'.TypeIs (.ref e) "StopIteration" → s'.os = s.os → (AllBare s.gens → AllBare s'.gens) → R (.error (.ref e)) s'), pk.1  g L h₁
noncomputable def Q2 (z : T2) : Prop := Pf2 z.1 (z.2.1) (z.2.2)
theorem ne2 : Nonempty T2 := ⟨(Classical.choice inferInstance, Classical.choice inferInstance, Classical.choice inferInstance)⟩
noncomputable def z2_ : T2 := @Classical.epsilon _ ne2 fun z => ¬ Q2 z
@[irreducible] noncomputable def g : Heap := z2_.1
@[irreducible] noncomputable def L : Addr := z2_.2.1
@[irreducible] noncomputable def h₁ : Heap := z2_.2.2
theorem core2 : Pf2 g L h₁ := by
  unfold Pf2
  intro X T hk hd hh K hx n1 n2 n3 n4 n5 n6 b1 b2 b3 b4 c1 c2 c3 c4 hl hp hw1 hw2 hrun hR hE
  dsimp only [pk]
  intro hkg hgk F N Xg Tg hHg hlt
  (replace hlt := allLt_of hlt)
  (try dsimp only)
  walk_at "m:steps"
  refine Held.put ?_
  refine gettok_w (by k_asm) Xg Tg (by simp only [depth_deeper, depth_in1]; omega) (by k_asm) n1 n2 n3 n4 n5 n6 b1 b2 b3 b4 c1 c2 c3 c4 hl hp hw1 hw2 hrun ?_
  intro s' t t0' t9' tp' p' F' N' os' bare' hrest hp'
  clear F N hrun hp
  by_cases hq : qd = false ∧ rtk = []
  · rw [if_pos hq]
    walk_at "m:steps"
    rename Heap.MadeExc _ _ _ _ _ => hm₅
    rename News _ _ _ _ => N9
    rename Fr _ _ _ _ => F9
    have Kg : Below A base outer g := ⟨K.stack, fun b o z => hHg _ _ (K.stays b o z), K.frames.of_keeps fun b o z _ => ⟨o, hHg _ _ z, rfl⟩⟩
    refine leave_madeW Kg ⟨hm₅.keeps, hm₅.new, hm₅.there⟩ F9 fun h₆ t₆ fl₆ tup₆ _ up₆ => ?_
    obtain ⟨ob, hob, hc⟩ := fl₆.there
    exact hE hq _ _ fl₆.1 (fun b o z nf => up₆ b o (hHg _ _ z) nf) ⟨ob, hob, hc⟩ os' bare'
  · rw [if_neg hq]
    walk_at "m:steps"
    rename News _ _ _ _ => N9
    rename Fr _ _ _ _ => F9
    exact hR hq _ t t0' t9' tp' p' (Aft.of hkg F9 N9 (by walk_at "m:sub") os' bare') hrest hp'
theorem core : Pf w A s H loose mg mb R x dx io dio pb fs ks ts wc text h1 h2 h3 k1 k2 k3 tt tp t9 nl st p rtk qd ended rest base outer := by
  unfold Pf
  intro X T hk hd hh K hx n1 n2 n3 n4 n5 n6 b1 b2 b3 b4 c1 c2 c3 c4 hl hp hw1 hw2 hrun hR hE
  exact pk.2  X T hk hd hh K hx n1 n2 n3 n4 n5 n6 b1 b2 b3 b4 c1 c2 c3 c4 hl hp hw1 hw2 hrun hR hE fun g L h₁ => eps_all ne2 Q2 (by with_unfolding_all exact core2) (g, L, h₁)  X T hk hd hh K hx n1 n2 n3 n4 n5 n6 b1 b2 b3 b4 c1 c2 c3 c4 hl hp hw1 hw2 hrun hR hE
theorem all (y : T) : Q_ y := eps_all ne Q_ (by with_unfolding_all exact core) y
end G4
end
section
theorem next_raw {w : World} {A : Around} {s : Shared} {H : Heap} {loose : List Str} {mg mb : Str → Option Value} {R : Result → Shared → Prop} {x dx io dio pb fs : Addr} {ks ts : Nat → Tok} {wc text : Str} {h1 h2 h3 : Int} {k1 k2 k3 tt tp t9 : Tok} {nl st : Value} {p : Nat} {rtk : List Nat} {qd ended : Bool} {rest : List Nat} {base : Heap} {outer : List Env}
  (X : (hd.heap_39 w.params).In H) (T : TopRead Mine.hd.view_39 loose mg mb H) (hk : ∀ b o, H.get? b = some o → s.heap.get? b = some o) (hd : A.depth + 14 < recursionLimit) (hh : A.handled = none) (K : Below A base outer H)
  (hx : ∀ q ∈ [(pb, dqObj), (fs, dqObj), (x, ioObj 816 dx), (dx, lexDict w.params ks ts io pb fs (Str.ofString "") wc true st (.str (Str.ofString "") t9)), (io, ioObj 681 dio), (dio, ioDict h1 h2 h3 k1 k2 k3 nl (.str text tt) (.int p tp))], s.heap.get? q.1 = some q.2 ∧ H.get? q.1 = none)
  (n1 : @Ne Nat x dx) (n2 : @Ne Nat x io) (n3 : @Ne Nat x dio) (n4 : @Ne Nat dx io) (n5 : @Ne Nat dx dio) (n6 : @Ne Nat io dio)
  (b1 : @Ne Nat pb x) (b2 : @Ne Nat pb dx) (b3 : @Ne Nat pb io) (b4 : @Ne Nat pb dio) (c1 : @Ne Nat fs x) (c2 : @Ne Nat fs dx) (c3 : @Ne Nat fs io) (c4 : @Ne Nat fs dio) (hl : text.length ≤ 1000000) (hp : p ≤ text.length)
  (hw1 : (!(Builtin.Str.occurrences wc (Str.ofString "'") 0 wc.length 1).isEmpty) = false) (hw2 : (!(Builtin.Str.occurrences wc (Str.ofString "\"") 0 wc.length 1).isEmpty) = false)
  (hrun : RunFrom st (text.cps.toList.drop p) rtk qd ended rest)
  (hR : ¬ (qd = false ∧ rtk = []) → ∀ s' t t0' t9' tp' p', Aft s s' [(pb, dqObj), (fs, dqObj), (x, ioObj 816 dx), (dx, lexDict w.params ks ts io pb fs (Str.ofString "") wc true st (.str (Str.ofString "") t9)), (io, ioObj 681 dio), (dio, ioDict h1 h2 h3 k1 k2 k3 nl (.str text tt) (.int p tp))]
      [(pb, dqObj), (fs, dqObj), (x, ioObj 816 dx), (dx, lexDict w.params ks ts io pb fs (Str.ofString "") wc true (if ended then .none else .str (Str.ofString " ") t0') (.str (Str.ofString "") t9')), (io, ioObj 681 dio), (dio, ioDict h1 h2 h3 k1 k2 k3 nl (.str text tt) (.int ((p' : Nat) : Int) tp'))] →
    text.cps.toList.drop p' = rest → p' ≤ text.length → R (.ok (.ret (.str ⟨rtk.toArray⟩ t))) s')
  (hE : (qd = false ∧ rtk = []) → ∀ s' e, base.StaysIn s'.heap → H.UpToSlots s'.heap → s'.TypeIs (.ref e) "StopIteration" → s'.os = s.os → (AllBare s.gens → AllBare s'.gens) → R (.error (.ref e)) s') :
  codeAny (model PG w) A (.call (.ref 813) ⟨[.ref x], []⟩) R s :=
  G4.all (w, A, s, H, loose, mg, mb, R, x, dx, io, dio, pb, fs, ks, ts, wc, text, h1, h2, h3, k1, k2, k3, tt, tp, t9, nl, st, p, rtk, qd, ended, rest, base, outer) X T hk hd hh K hx n1 n2 n3 n4 n5 n6 b1 b2 b3 b4 c1 c2 c3 c4 hl hp hw1 hw2 hrun hR hE
end
example : True := by
  k_with_none
  k_with "~m:enter" => (((case k1 | k2 | k3 => assumption); (case k4 => first | assumption | (intro _ hq; cases hq)); (case k6 | k7 => k_is); (case k8 => first | assumption | omega | (simp only [depth_deeper, depth_in1, recursionLimit] at *; omega)); (case k9 => first | exact BindsTo.of_eq rfl | exact binds_K (Frag.In.keeps (by assumption) (by assumption)) rfl (by k_is) rfl rfl rfl); (case c5 => decide); (case kB => exact locs rfl); (case c2 | c3 | c4 => exact rfl)))
  k_with "~k_inst" => ((refine' InstAt.of_accN ?zqN ?zqh1 ?zqh2; (case zqN => k_asm); (case zqh1 | zqh2 => k_mem)))
  k_with "~m:shadow" => ((refine shadow_of ?_; k_get))
  k_with "~getMethod ref" => ((k_here; (first
    | (refine' method_fnG ?zqk1 ?zqk2 ?zqk3 ?zqk4 ?zqk5 ?zqk6 ?zqk7 ?zqk8 ?_; k_dflt ((case zqk1 => k_in); (case zqk2 => k_inst); (case zqk3 => k_is); (case zqk4 => first | with_reducible exact canon_list_ga | with_reducible exact PySem.F.canon_object_ga | decide +kernel); (case zqk5 | zqk6 | zqk7 => k_is); (case zqk8 => walk_at "m:shadow"); k_whole))
    | (refine' method_biG ?zqk1 ?zqk2 ?zqk3 ?zqk4 ?zqk5 ?zqk6 ?zqk7 ?zqk8 ?zqk9 ?_; k_dflt ((case zqk1 => k_in); (case zqk2 => k_inst); (case zqk3 => k_is); (case zqk4 => first | with_reducible exact canon_list_ga | with_reducible exact PySem.F.canon_object_ga | decide +kernel); (case zqk5 | zqk6 | zqk7 => k_is); (case zqk8 => decide); (case zqk9 => walk_at "m:shadow"); k_whole)))))
  k_with "~call builtin:list.append" => ((k_here; (refine' append_acc ?zqk1 ?zqk2 ?zqk3 ?zqk4 ?zqk5 ?zqk6 ?_ ?zqk7; k_dflt ((case zqk1 | zqk2 | zqk3 => k_asm); (case zqk6 => k_upd); (case zqk4 => exact (News.get (by k_asm) (by k_mem))); (case zqk5 => k_is); (case zqk7 => first | assumption | (simp only [sizeLine_eq]; omega)); k_whole)); intro _ _ _; (try k_sweep)))
  k_with "~getMethod ref" => ((k_here; ks_any; k_dflt (first
    | (refine' superM ?zqk1 ?zqk2 ?zqk3 ?zqk4 ?zqk5 ?zqk6 ?zqk7 ?zqk8 lk_wget ?zqk9 (fun h hi => binds_of plain_wget entry_wget (chk_wlen _ _) (get_len _ _) hi) ?zqk10 ?_; (case zqk1 | zqk2 | zqk3 => k_asm); (case zqk4 => k_mem); (case zqk5 => k_inst); (case zqk6 => k_is); (case zqk7 => ks_is); (case zqk8 | zqk9 => k_is); (case zqk10 => decide); k_whole; intro _ _ _ _ l1; (try (replace l1 := allLt_of l1)); revert l1; intro _; (try k_sweep))
    | (refine' superM ?zqk1 ?zqk2 ?zqk3 ?zqk4 ?zqk5 ?zqk6 ?zqk7 ?zqk8 lk_wget ?zqk9 (fun h hi => binds_of plain_wget entry_wget (chk_winit _ _) (get_init _ _) hi) ?zqk10 ?_; (case zqk1 | zqk2 | zqk3 => k_asm); (case zqk4 => k_mem); (case zqk5 => k_inst); (case zqk6 => k_is); (case zqk7 => ks_is); (case zqk8 | zqk9 => k_is); (case zqk10 => decide); k_whole; intro _ _ _ _ l1; (try (replace l1 := allLt_of l1)); revert l1; intro _; (try k_sweep))
    | (refine' superM ?zqk1 ?zqk2 ?zqk3 ?zqk4 ?zqk5 ?zqk6 ?zqk7 ?zqk8 lk_mget ?zqk9 (fun h hi => binds_of plain_mget entry_mget (chk_mpop _ _) (get_pop _ _) hi) ?zqk10 ?_; (case zqk1 | zqk2 | zqk3 => k_asm); (case zqk4 => k_mem); (case zqk5 => k_inst); (case zqk6 => k_is); (case zqk7 => ks_is); (case zqk8 | zqk9 => k_is); (case zqk10 => decide); k_whole; intro _ _ _ _ l1; (try (replace l1 := allLt_of l1)); revert l1; intro _; (try k_sweep)))))
  k_with "~wpAt" => ((ks_step "attributeBase Call"; k_here; k_dflt (refine node_M (by k_asm) (by k_asm) (by k_asm) (by k_asm) (by k_is) (by rfl) (by rfl) (by k_inst) (by k_is) (by rfl) (by first | rfl | decide +kernel) (by k_is) (by k_is) (by k_is) (by k_is) (by decide) (by rfl) (by rfl) (by rfl) (by rfl) (by decide +kernel) (by first | boot_by_name | rfl | kernel_rfl) ?_; intro _ _ _ _ l1; (try (replace l1 := allLt_of l1)); revert l1; intro _; (try k_sweep))))
  k_with "~callWith ref" => ((k_here; (first
    | (refine' callWith_B0 ?zqk1 ?zqk2 ?_; k_dflt ((case zqk1 => exact (News.get (by k_asm) (by k_mem))); (case zqk2 => decide); k_whole; try dsimp only [List.nil_append, List.cons_append]))
    | (refine' callWith_B ?zqk1 ?zqk2 ?_ ?zqk3 ?zqk4; k_dflt ((case zqk1 => k_is); (case zqk2 => decide); (case zqk3 | zqk4 => rfl); k_whole)))))
  k_with "~call ref" => ((k_here; (first
    | (refine' super_len ?zqk1 ?zqk2 ?_; k_dflt ((case zqk1 | zqk2 => exact (News.get (by k_asm) (by k_mem))); k_whole))
    | (refine' super_init ?zqk1 ?zqk2 ?zqk3 ?zqk4 ?zqk5 ?_; k_dflt ((case zqk1 | zqk2 => k_asm); (case zqk3 => exact (News.get (by k_asm) (by k_mem))); (case zqk5 => k_upd); (case zqk4 => k_ne); k_whole; intro _ _ _; (try k_sweep)))
    | (refine' super_pop ?zqk1 ?zqk2 ?zqk3 ?zqk4 ?zqk5 ?zqk6 ?zqk7 ?zqk8 ?zqk9 ?zqk10 ?zqk11 ?_; k_dflt ((case zqk1 | zqk2 | zqk3 => k_asm); (case zqk4 => exact (News.get (by k_asm) (by k_mem))); (case zqk10 => k_upd); (case zqk5 => exact (News.get (by k_asm) (by k_mem))); (case zqk6 | zqk7 => k_is); (case zqk8 => rfl); (case zqk9 => k_is); (case zqk11 => first | assumption | (simp only [sizeLine_eq]; omega)); k_whole; intro _ _ _; (try k_sweep))))))
  k_with "~m:sub" => (first | exact List.forall_mem_nil _ | (refine List.forall_mem_cons.mpr ⟨by k_mem, ?_⟩; walk_at "m:sub"))
  k_with "~setAttr ref" => ((k_here; (refine' set_acc ?zqk1 ?zqk2 ?zqk3 ?zqk4 ?zqk5 ?zqk6 ?zqk7 ?zqk8 ?zqk9 ?zqk10 ?zqk11 ?zqk12 ?zqk13 ?_; k_dflt ((case zqk1 | zqk2 | zqk3 => k_asm); (case zqk4 => k_inst); (case zqk5 => exact rfl); (case zqk6 => k_is); (case zqk7 => rfl); (case zqk8 | zqk9 => k_is); (case zqk10 => k_get); (case zqk11 => k_put); (case zqk12 => k_upd); (case zqk13 => exact Nat.le_of_ble_eq_true rfl); k_whole; intro _ _ _; (try k_sweep)))))
  k_with "~subscriptTail" => ((k_here; (with_reducible show wpAny _ _ (subscriptTail _ _ (Value.ref _) (Value.ref _)) _ _ _); (refine' slice_acc ?zqk1 ?zqk2 ?zqk3 ?zqk4 ?zqk5 ?zqk6 ?zqk7 ?zqk8 ?zqk9 ?zqk10 ?_ ?zqk11 ?zqk12 ?zqk13; k_dflt ((case zqk1 | zqk2 | zqk3 => k_asm); (case zqk4 => k_inst); (case zqk5 => exact rfl); (case zqk6 | zqk7 | zqk8 => k_is); (case zqk9 | zqk10 => first | exact IsPart.none | exact IsPart.int _ _); (case zqk11 => with_unfolding_all rfl); (case zqk12 => intro _; with_unfolding_all rfl); (case zqk13 => first | assumption | (simp only [sizeLine_eq]; omega)); k_whole; intro _ _ _ _ l1; (try (replace l1 := allLt_of l1)); revert l1; intro _; (try k_sweep)))))
  k_with "~m:steps" => (repeat' (first | (walk1; (try dsimp only)) | (dsimp only; walk1; (try dsimp only)) | fail "no step"))
  k_with "~k_in" => ((refine' Frag.In.keeps ?zqkx ?zqkh; (case zqkx => with_reducible assumption); (case zqkh => exact Fr.keep (by with_reducible assumption))))
  k_with "~k_ne" => ((refine neN ?_; (try dsimp only); (try dsimp only [AllLt] at *); omega))
  k_with "~k_ne" => (first | with_reducible assumption | (refine Ne.symm ?_; with_reducible assumption) | (refine' ne_lt ?zqkh ?zqkm; (case zqkh => with_reducible assumption); (case zqkm => k_mem)) | (refine' Ne.symm (ne_lt ?zqkh ?zqkm); (case zqkh => with_reducible assumption); (case zqkm => k_mem)) | (refine neN ?_; decide))
  trivial
-- text ZOA
section
example : True := by
  k_with "~m:look" => (first | exact rfl | assumption | (dsimp only; repeat (first | rw [if_pos rfl] | rw [if_neg (by decide)])); first | rfl | assumption)
  k_with "~m:room" => (first | assumption | omega | (simp only [depth_deeper, depth_in1]; omega))
  k_with "~m:bare" => ((repeat (first | assumption | with_reducible apply_assumption)))
  k_with "~exec If" => (refine wpAny_If ?_)
  k_with "~ite" => (first | refine' ite_tt ?_ | refine' ite_ff ?_)
  k_with "~getAttr ref" => ((k_here; (refine' get_own ?zqk1 ?zqk2 ?zqk3 ?zqk4 ?zqk5 ?zqk6 ?zqk7 ?zqk8 ?zqk9 ?_; k_dflt ((case zqk1 | zqk2 => k_asm); (case zqk3 => k_inst); (case zqk4 | zqk5 | zqk6 | zqk7 => k_is); (case zqk8 => k_get); (case zqk9 => k_handed); k_whole))))
  trivial
theorem iter_raw {w : World} {A : Around} {s : Shared} {H : Heap} {loose : List Str} {mg mb : Str → Option Value} {R : Result → Shared → Prop} {x : Addr}
  (X : (hd.heap_39 w.params).In H) (T : TopRead Mine.hd.view_39 loose mg mb H) (hk : ∀ b o, H.get? b = some o → s.heap.get? b = some o) (hd : A.depth < recursionLimit)
  (hR : ∀ s', Aft s s' [] [] → R (.ok (.ret (.ref x))) s') :
  codeAny (model PG w) A (.call (.ref 806) ⟨[.ref x], []⟩) R s := by
  refine' enterM (binds := [(Str.ofString "self", .ref x)]) [] ?k1 ?k2 ?k3 ?k4 ?k6 ?k7 ?k8 ?k9 ?kB ?_ ?c5 ?c2 ?c3 ?c4
  walk_at "m:enter"
  intro g L h₁ hkg hgk F N Xg Tg hHg hlt
  (try dsimp only)
  walk_at "m:steps"
  exact hR _ (Aft.of hkg (by k_asm) (by k_asm) (by walk_at "m:sub") rfl id)
structure AftS (s s' : Shared) (own fr : List Addr) : Prop where
  keep : ∀ b o, s.heap.get? b = some o → b ∉ own → b ∉ fr → s'.heap.get? b = some o
  up : ∀ b o, s.heap.get? b = some o → b ∉ own → (∀ vs, o.data ≠ .fields vs) → ∃ sl, s'.heap.get? b = some { o with slots := sl }
  os : s'.os = s.os
  bare : AllBare s.gens → AllBare s'.gens
theorem Aft.thenS {s s₁ s₂ : Shared} {own own' : List (Addr × Obj)} {fr own2 : List Addr} (a : Aft s s₁ own own') (b : AftS s₁ s₂ own2 fr) (h : ∀ z ∈ own.map (·.1), z ∈ own2) : AftS s s₂ own2 fr :=
  ⟨fun c o e h1 h2 => b.keep c o (a.keep c o e fun q => h1 (h _ q)) h1 h2, fun c o e h1 nf => b.up c o (a.keep c o e fun q => h1 (h _ q)) h1 nf, b.os.trans a.os, fun z => b.bare (a.bare z)⟩
noncomputable def FrOk (h : Heap) (outer : List Env) (own : List Addr) : Prop := ∀ env ∈ outer, env.scope.kind ≠ .module ∧ ∃ L o, env.frame = some L ∧ h.get? L = some o ∧ (∀ vs, o.data ≠ .fields vs) ∧ L ∉ own
theorem FrOk.step {s s' : Shared} {outer : List Env} {own own' : List (Addr × Obj)} {own2 : List Addr} (x : FrOk s.heap outer own2) (a : Aft s s' own own') (h : ∀ z ∈ own.map (·.1), z ∈ own2) : FrOk s'.heap outer own2 := fun env he =>
  let ⟨k, L, o, e, g, nf, n⟩ := x env he; ⟨k, L, o, e, a.keep _ _ g fun q => n (h _ q), nf, n⟩
theorem funFrames_of {h base : Heap} : ∀ {outer : List Env}, (∀ env ∈ outer, env.scope.kind ≠ .module ∧ ∃ L o, env.frame = some L ∧ h.get? L = some o ∧ (∀ vs, o.data ≠ .fields vs) ∧ base.get? L = none) → h.FunFrames base outer
  | [], _ => trivial
  | env :: outer, x => by
    obtain ⟨k, L, o, e, g, nf, n⟩ := x env (List.mem_cons_self ..)
    exact ⟨k, ⟨L, o, e, n, g, nf⟩, funFrames_of fun env' he => x env' (List.mem_cons_of_mem _ he)⟩
noncomputable def LexTo : Value → List Nat → List (List Nat) → Prop
  | st, cs, [] => ∃ rtk qd ended rest, RunFrom st cs rtk qd ended rest ∧ (qd = false ∧ rtk = [])
  | st, cs, tk :: toks => ∃ qd ended rest, RunFrom st cs tk qd ended rest ∧ ¬ (qd = false ∧ tk = []) ∧ ∀ t0, LexTo (if ended then .none else .str (Str.ofString " ") t0) rest toks
section
variable {w : World} {A : Around} {E : Value → Shared → Prop} {s : Shared} {g : Heap} {L S : Addr} {m : Str → Option Value} {loose : List Str} {mg mb : Str → Option Value} {x dx io dio pb fs : Addr} {ks ts : Nat → Tok} {wc text : Str} {h1 h2 h3 : Int} {k1 k2 k3 tt tp t9 : Tok} {nl st : Value} {p : Nat} {rtk : List Nat} {qd ended : Bool} {rest : List Nat} {outer : List Env} {acc : Array Value} {c : Nat}
theorem next_w {Q : Option Value → Shared → Prop} (F : Fr g L s.heap m) (X : (hd.heap_39 w.params).In g) (T : TopRead Mine.hd.view_39 loose mg mb g) (hd : A.depth + 14 < recursionLimit) (hh : A.handled = none) (hA : A.frames = some outer)
  (hfr : FrOk s.heap outer [pb, fs, x, dx, io, dio])
  (N : News g L s.heap [(S, listOf acc c), (pb, dqObj), (fs, dqObj), (x, ioObj 816 dx), (dx, lexDict w.params ks ts io pb fs (Str.ofString "") wc true st (.str (Str.ofString "") t9)), (io, ioObj 681 dio), (dio, ioDict h1 h2 h3 k1 k2 k3 nl (.str text tt) (.int p tp))])
  (n1 : @Ne Nat x dx) (n2 : @Ne Nat x io) (n3 : @Ne Nat x dio) (n4 : @Ne Nat dx io) (n5 : @Ne Nat dx dio) (n6 : @Ne Nat io dio)
  (b1 : @Ne Nat pb x) (b2 : @Ne Nat pb dx) (b3 : @Ne Nat pb io) (b4 : @Ne Nat pb dio) (c1 : @Ne Nat fs x) (c2 : @Ne Nat fs dx) (c3 : @Ne Nat fs io) (c4 : @Ne Nat fs dio) (hS : S ∉ [pb, fs, x, dx, io, dio]) (hl : text.length ≤ 1000000) (hp : p ≤ text.length)
  (hw1 : (!(Builtin.Str.occurrences wc (Str.ofString "'") 0 wc.length 1).isEmpty) = false) (hw2 : (!(Builtin.Str.occurrences wc (Str.ofString "\"") 0 wc.length 1).isEmpty) = false)
  (hrun : RunFrom st (text.cps.toList.drop p) rtk qd ended rest)
  (hq1 : ¬ (qd = false ∧ rtk = []) → ∀ s' t t0' t9' tp' p', Aft s s' [(pb, dqObj), (fs, dqObj), (x, ioObj 816 dx), (dx, lexDict w.params ks ts io pb fs (Str.ofString "") wc true st (.str (Str.ofString "") t9)), (io, ioObj 681 dio), (dio, ioDict h1 h2 h3 k1 k2 k3 nl (.str text tt) (.int p tp))]
      [(pb, dqObj), (fs, dqObj), (x, ioObj 816 dx), (dx, lexDict w.params ks ts io pb fs (Str.ofString "") wc true (if ended then .none else .str (Str.ofString " ") t0') (.str (Str.ofString "") t9')), (io, ioObj 681 dio), (dio, ioDict h1 h2 h3 k1 k2 k3 nl (.str text tt) (.int ((p' : Nat) : Int) tp'))] →
      Fr g L s'.heap m → News g L s'.heap [(S, listOf acc c), (pb, dqObj), (fs, dqObj), (x, ioObj 816 dx), (dx, lexDict w.params ks ts io pb fs (Str.ofString "") wc true (if ended then .none else .str (Str.ofString " ") t0') (.str (Str.ofString "") t9')), (io, ioObj 681 dio), (dio, ioDict h1 h2 h3 k1 k2 k3 nl (.str text tt) (.int ((p' : Nat) : Int) tp'))] →
      text.cps.toList.drop p' = rest → p' ≤ text.length → Q (some (.str ⟨rtk.toArray⟩ t)) s')
  (hq2 : (qd = false ∧ rtk = []) → ∀ s', AftS s s' [pb, fs, x, dx, io, dio] (outer.filterMap (·.frame)) → Q none s') : wpAny (model PG w) A (pyNext (.ref x)) Q E s := by
  have hz : ∀ q ∈ [(pb, dqObj), (fs, dqObj), (x, ioObj 816 dx), (dx, lexDict w.params ks ts io pb fs (Str.ofString "") wc true st (.str (Str.ofString "") t9)), (io, ioObj 681 dio), (dio, ioDict h1 h2 h3 k1 k2 k3 nl (.str text tt) (.int p tp))], s.heap.get? q.1 = some q.2 ∧ g.get? q.1 = none :=
    fun q hq => ⟨(N q (List.mem_cons_of_mem _ hq)).1, (N q (List.mem_cons_of_mem _ hq)).2.2⟩
  have st' : ∀ b o, g.get? b = some o → (hideAll s.heap [pb, fs, x, dx, io, dio]).get? b = some o := fun b o e => hideAll_get _ (F.keep b o e) fun hm => by
    have : b ∈ [(pb, dqObj), (fs, dqObj), (x, ioObj 816 dx), (dx, lexDict w.params ks ts io pb fs (Str.ofString "") wc true st (.str (Str.ofString "") t9)), (io, ioObj 681 dio), (dio, ioDict h1 h2 h3 k1 k2 k3 nl (.str text tt) (.int p tp))].map (·.1) := hm
    obtain ⟨q, hq, rfl⟩ := List.mem_map.mp this
    rw [(hz q hq).2] at e; cases e
  have fro : ∀ L ∈ outer.filterMap (·.frame), L ∈ [pb, fs, x, dx, io, dio] ++ outer.filterMap (·.frame) := fun L h => List.mem_append_right _ h
  refine owit_next F X (InstAt.of_news N (by k_mem) (by k_mem)) (f := 813) (by k_is) (by k_is) ?_
  refine wpAny_call (next_raw (H := hideAll s.heap [pb, fs, x, dx, io, dio]) (base := hideAll s.heap ([pb, fs, x, dx, io, dio] ++ outer.filterMap (·.frame))) (outer := outer) (X.keeps st') (T.keeps st') (fun b o e => of_hideAll _ e) hd hh ⟨hA, fun b o e => ?b1, funFrames_of fun env he => ?b2⟩
    (fun q hq => ⟨(hz q hq).1, hideAll_none _ (show q.1 ∈ [pb, fs, x, dx, io, dio] from List.mem_map_of_mem (f := (·.1)) hq)⟩) n1 n2 n3 n4 n5 n6 b1 b2 b3 b4 c1 c2 c3 c4 hl hp hw1 hw2 hrun (fun hn s' t t0' t9' tp' p' a hrest hp' => ?r1) (fun hn s' e k1 k2 hT os br => ?r2))
  case b1 =>
    refine hideAll_get _ (of_hideAll _ e) fun hm => ?_
    rw [hideAll_none _ (List.mem_append_left _ hm)] at e; cases e
  case b2 =>
    obtain ⟨k, L', o, e, gg, nf, n⟩ := hfr env he
    exact ⟨k, L', o, e, hideAll_get _ gg n, nf, hideAll_none _ (List.mem_append_right _ (List.mem_filterMap.mpr ⟨env, he, e⟩))⟩
  case r1 =>
    obtain ⟨F', N'⟩ := a.gen F N (n2 := [(S, listOf acc c), (pb, dqObj), (fs, dqObj), (x, ioObj 816 dx), (dx, lexDict w.params ks ts io pb fs (Str.ofString "") wc true (if ended then .none else .str (Str.ofString " ") t0') (.str (Str.ofString "") t9')), (io, ioObj 681 dio), (dio, ioDict h1 h2 h3 k1 k2 k3 nl (.str text tt) (.int ((p' : Nat) : Int) tp'))])
      (fun q hq => List.mem_cons_of_mem _ hq) (fun q hq => by
        rcases List.mem_cons.mp hq with rfl | hq
        · exact .inr ⟨List.mem_cons_self .., hS⟩
        · exact .inl hq)
    exact hq1 hn s' t t0' t9' tp' p' a F' N' hrest hp'
  case r2 =>
    show OwitStop _ _ _ _ _ _
    unfold OwitStop
    refine wpAny_isInstance hT owsi_facts.sub ?_
    show (if true = true then Q none s' else E (.ref e) s')
    rw [if_pos rfl]
    exact hq2 hn s' ⟨fun b o e h1 h2 => k1 b o (hideAll_get _ e fun hm => (List.mem_append.mp hm).elim h1 h2), fun b o e h1 nf => k2 b o (hideAll_get _ e h1) nf, os, br⟩
end
end
-- text ZOB
section
section
variable {w : World} {A : Around} {g : Heap} {L S : Addr} {m : Str → Option Value} {loose : List Str} {mg mb : Str → Option Value} {x dx io dio pb fs : Addr} {ks ts : Nat → Tok} {wc text : Str} {h1 h2 h3 : Int} {k1 k2 k3 tt : Tok} {nl res : Value} {outer : List Env} {R : Result → Shared → Prop}
theorem lex_loop (X : (hd.heap_39 w.params).In g) (T : TopRead Mine.hd.view_39 loose mg mb g) (hd : A.depth + 14 < recursionLimit) (hh : A.handled = none) (hA : A.frames = some outer)
  (n1 : @Ne Nat x dx) (n2 : @Ne Nat x io) (n3 : @Ne Nat x dio) (n4 : @Ne Nat dx io) (n5 : @Ne Nat dx dio) (n6 : @Ne Nat io dio)
  (b1 : @Ne Nat pb x) (b2 : @Ne Nat pb dx) (b3 : @Ne Nat pb io) (b4 : @Ne Nat pb dio) (c1 : @Ne Nat fs x) (c2 : @Ne Nat fs dx) (c3 : @Ne Nat fs io) (c4 : @Ne Nat fs dio) (hS : S ∉ [pb, fs, x, dx, io, dio]) (hl : text.length ≤ 1000000)
  (hw1 : (!(Builtin.Str.occurrences wc (Str.ofString "'") 0 wc.length 1).isEmpty) = false) (hw2 : (!(Builtin.Str.occurrences wc (Str.ofString "\"") 0 wc.length 1).isEmpty) = false) :
  ∀ (toks : List (List Nat)) (s : Shared) (st : Value) (t9 tp : Tok) (p : Nat) (acc : Array Value) (c : Nat), LexTo st (text.cps.toList.drop p) toks → p ≤ text.length → acc.size + toks.length ≤ 1000000 → Fr g L s.heap m →
    News g L s.heap [(S, listOf acc c), (pb, dqObj), (fs, dqObj), (x, ioObj 816 dx), (dx, lexDict w.params ks ts io pb fs (Str.ofString "") wc true st (.str (Str.ofString "") t9)), (io, ioObj 681 dio), (dio, ioDict h1 h2 h3 k1 k2 k3 nl (.str text tt) (.int p tp))] →
    FrOk s.heap outer [S, pb, fs, x, dx, io, dio] →
    (∀ s' ys c', AftS s s' [S, pb, fs, x, dx, io, dio] (outer.filterMap (·.frame)) → s'.heap.get? S = some (listOf (acc ++ ys) c') → StrsAre ys.toList (toks.map fun l => ⟨l.toArray⟩) → R (.ok (.ret res)) s') →
    codeAny (model PG w) A (.builtin "list.extend.loop" ⟨[.ref S, .ref x, res], []⟩) R s
  | [], s, st, t9, tp, p, acc, c, ⟨rtk, qd, ended, rest, hrun, hq⟩, hp, hz, F, N, hfr, hR => by
    refine codeAny_builtin PySem.F.entry_extend_loop ?_
    rw [Around.under_plainId PySem.F.plain_extend_loop _]
    show wpAny _ A.in1 (pyNext (.ref x) >>= _) _ _ s
    refine wpAny_bind (next_w F X T hd hh hA (fun env he => ?f) N n1 n2 n3 n4 n5 n6 b1 b2 b3 b4 c1 c2 c3 c4 hS hl hp hw1 hw2 hrun (fun hn => absurd hq hn) fun _ s' a => ?_)
    case f => obtain ⟨k, L', o, e, gg, nf, n⟩ := hfr env he; exact ⟨k, L', o, e, gg, nf, fun z => n (List.mem_cons_of_mem _ z)⟩
    have hSf : S ∉ outer.filterMap (·.frame) := fun z => by
      obtain ⟨env, he, e⟩ := List.mem_filterMap.mp z
      obtain ⟨k, L', o, e', gg, nf, n⟩ := hfr env he
      rw [e] at e'; cases e'
      exact n (List.mem_cons_self ..)
    refine wpAny_pure (hR s' #[] c ⟨fun b o e q1 q2 => a.keep b o e (fun z => q1 (List.mem_cons_of_mem _ z)) q2, fun b o e q1 nf => a.up b o e (fun z => q1 (List.mem_cons_of_mem _ z)) nf, a.os, a.bare⟩ ?_ .nil)
    rw [Array.append_empty]
    exact a.keep S _ (N _ (List.mem_cons_self ..)).1 hS hSf
  | tk :: toks, s, st, t9, tp, p, acc, c, ⟨qd, ended, rest, hrun, hq, hto⟩, hp, hz, F, N, hfr, hR => by
    refine codeAny_builtin PySem.F.entry_extend_loop ?_
    rw [Around.under_plainId PySem.F.plain_extend_loop _]
    show wpAny _ A.in1 (pyNext (.ref x) >>= _) _ _ s
    have hfr' : FrOk s.heap outer [pb, fs, x, dx, io, dio] := fun env he => by
      obtain ⟨k, L', o, e, gg, nf, n⟩ := hfr env he; exact ⟨k, L', o, e, gg, nf, fun z => n (List.mem_cons_of_mem _ z)⟩
    refine wpAny_bind (next_w F X T hd hh hA hfr' N n1 n2 n3 n4 n5 n6 b1 b2 b3 b4 c1 c2 c3 c4 hS hl hp hw1 hw2 hrun (fun hn s' t t0' t9' tp' p' a F' N' hrest hp' => ?_) fun hn => absurd hn hq)
    have hsz : acc.size ≤ sizeLine := by rw [sizeLine_eq]; simp only [List.length_cons] at hz; omega
    have hS' := (N' _ (List.mem_cons_self ..)).1
    have hpost : ∀ q ∈ [(pb, dqObj), (fs, dqObj), (x, ioObj 816 dx), (dx, lexDict w.params ks ts io pb fs (Str.ofString "") wc true (if ended then .none else .str (Str.ofString " ") t0') (.str (Str.ofString "") t9')), (io, ioObj 681 dio), (dio, ioDict h1 h2 h3 k1 k2 k3 nl (.str text tt) (.int ((p' : Nat) : Int) tp'))], q.1 ≠ S := fun q hq z => hS (z ▸ List.mem_map_of_mem (f := (·.1)) hq)
    show wpAny _ A.in1 (updateSeq S (·.push (.str ⟨tk.toArray⟩ t)) >>= _) _ _ _
    obtain ⟨U1, U2⟩ := news_upd (f := Obj.mapSeq (·.push (.str ⟨tk.toArray⟩ t))) (pre := []) (o' := listOf (acc.push (.str ⟨tk.toArray⟩ t)) (c + 1)) F' N' (fun _ h => (nomatch h)) hpost (by simp [Obj.mapSeq]) rfl
    have hfr2 : FrOk s'.heap outer [S, pb, fs, x, dx, io, dio] := hfr.step a (fun z hz => List.mem_cons_of_mem _ hz)
    have oth : ∀ b o, s'.heap.get? b = some o → b ≠ S → (s'.heap.update S (Obj.mapSeq (·.push (.str ⟨tk.toArray⟩ t)))).get? b = some o := fun b o e n => (Heap.get?_update_other _ _ (Ne.symm n)).trans e
    refine wpAny_bind (wpAny_updateSeq hS' rfl (wpAny_pure ⟨plainId_quiet PySem.F.plain_extend_loop _, lex_loop X T hd hh hA n1 n2 n3 n4 n5 n6 b1 b2 b3 b4 c1 c2 c3 c4 hS hl hw1 hw2 toks _ _ t9' tp' p' (acc.push (.str ⟨tk.toArray⟩ t)) (c + 1) (hrest ▸ hto t0') hp' (by rw [Array.size_push]; simp only [List.length_cons] at hz; omega) U1 U2 (fun env he => ?f2) fun s'' ys c' a2 hS2 hys => ?_⟩) hsz (by rw [Array.size_push]; omega))
    case f2 =>
      obtain ⟨k, L', o, e, gg, nf, n⟩ := hfr2 env he
      exact ⟨k, L', o, e, oth _ _ gg (fun z => n (z ▸ List.mem_cons_self ..)), nf, n⟩
    refine hR s'' (#[.str ⟨tk.toArray⟩ t] ++ ys) c' ⟨fun b o e q1 q2 => a2.keep b o (oth _ _ (a.keep b o e fun z => q1 (List.mem_cons_of_mem _ z)) fun z => q1 (z ▸ List.mem_cons_self ..)) q1 q2, fun b o e q1 nf => a2.up b o (oth _ _ (a.keep b o e fun z => q1 (List.mem_cons_of_mem _ z)) fun z => q1 (z ▸ List.mem_cons_self ..)) q1 nf, a2.os.trans a.os, fun z => a2.bare (a.bare z)⟩ ?_ ?_
    · rw [hS2]; simp
    · simp only [Array.toList_append, List.map_cons]; exact .cons _ _ hys
end
end
example : True := by
  k_with_none
  k_with "~m:enter" => (((case k1 | k2 | k3 => assumption); (case k4 => first | assumption | (intro _ hq; cases hq)); (case k6 | k7 => k_is); (case k8 => first | assumption | omega | (simp only [depth_deeper, depth_in1, recursionLimit] at *; omega)); (case k9 => first | exact BindsTo.of_eq rfl | exact binds_K (Frag.In.keeps (by assumption) (by assumption)) rfl (by k_is) rfl rfl rfl); (case c5 => decide); (case kB => exact locs rfl); (case c2 | c3 | c4 => exact rfl)))
  k_with "~k_inst" => ((refine' InstAt.of_accN ?zqN ?zqh1 ?zqh2; (case zqN => k_asm); (case zqh1 | zqh2 => k_mem)))
  k_with "~m:shadow" => ((refine shadow_of ?_; k_get))
  k_with "~getMethod ref" => ((k_here; (first
    | (refine' method_fnG ?zqk1 ?zqk2 ?zqk3 ?zqk4 ?zqk5 ?zqk6 ?zqk7 ?zqk8 ?_; k_dflt ((case zqk1 => k_in); (case zqk2 => k_inst); (case zqk3 => k_is); (case zqk4 => first | with_reducible exact canon_list_ga | with_reducible exact PySem.F.canon_object_ga | decide +kernel); (case zqk5 | zqk6 | zqk7 => k_is); (case zqk8 => walk_at "m:shadow"); k_whole))
    | (refine' method_biG ?zqk1 ?zqk2 ?zqk3 ?zqk4 ?zqk5 ?zqk6 ?zqk7 ?zqk8 ?zqk9 ?_; k_dflt ((case zqk1 => k_in); (case zqk2 => k_inst); (case zqk3 => k_is); (case zqk4 => first | with_reducible exact canon_list_ga | with_reducible exact PySem.F.canon_object_ga | decide +kernel); (case zqk5 | zqk6 | zqk7 => k_is); (case zqk8 => decide); (case zqk9 => walk_at "m:shadow"); k_whole)))))
  k_with "~call builtin:list.append" => ((k_here; (refine' append_acc ?zqk1 ?zqk2 ?zqk3 ?zqk4 ?zqk5 ?zqk6 ?_ ?zqk7; k_dflt ((case zqk1 | zqk2 | zqk3 => k_asm); (case zqk6 => k_upd); (case zqk4 => exact (News.get (by k_asm) (by k_mem))); (case zqk5 => k_is); (case zqk7 => first | assumption | (simp only [sizeLine_eq]; omega)); k_whole)); intro _ _ _; (try k_sweep)))
  k_with "~getMethod ref" => ((k_here; ks_any; k_dflt (first
    | (refine' superM ?zqk1 ?zqk2 ?zqk3 ?zqk4 ?zqk5 ?zqk6 ?zqk7 ?zqk8 lk_wget ?zqk9 (fun h hi => binds_of plain_wget entry_wget (chk_wlen _ _) (get_len _ _) hi) ?zqk10 ?_; (case zqk1 | zqk2 | zqk3 => k_asm); (case zqk4 => k_mem); (case zqk5 => k_inst); (case zqk6 => k_is); (case zqk7 => ks_is); (case zqk8 | zqk9 => k_is); (case zqk10 => decide); k_whole; intro _ _ _ _ l1; (try (replace l1 := allLt_of l1)); revert l1; intro _; (try k_sweep))
    | (refine' superM ?zqk1 ?zqk2 ?zqk3 ?zqk4 ?zqk5 ?zqk6 ?zqk7 ?zqk8 lk_wget ?zqk9 (fun h hi => binds_of plain_wget entry_wget (chk_winit _ _) (get_init _ _) hi) ?zqk10 ?_; (case zqk1 | zqk2 | zqk3 => k_asm); (case zqk4 => k_mem); (case zqk5 => k_inst); (case zqk6 => k_is); (case zqk7 => ks_is); (case zqk8 | zqk9 => k_is); (case zqk10 => decide); k_whole; intro _ _ _ _ l1; (try (replace l1 := allLt_of l1)); revert l1; intro _; (try k_sweep))
    | (refine' superM ?zqk1 ?zqk2 ?zqk3 ?zqk4 ?zqk5 ?zqk6 ?zqk7 ?zqk8 lk_mget ?zqk9 (fun h hi => binds_of plain_mget entry_mget (chk_mpop _ _) (get_pop _ _) hi) ?zqk10 ?_; (case zqk1 | zqk2 | zqk3 => k_asm); (case zqk4 => k_mem); (case zqk5 => k_inst); (case zqk6 => k_is); (case zqk7 => ks_is); (case zqk8 | zqk9 => k_is); (case zqk10 => decide); k_whole; intro _ _ _ _ l1; (try (replace l1 := allLt_of l1)); revert l1; intro _; (try k_sweep)))))
  k_with "~wpAt" => ((ks_step "attributeBase Call"; k_here; k_dflt (refine node_M (by k_asm) (by k_asm) (by k_asm) (by k_asm) (by k_is) (by rfl) (by rfl) (by k_inst) (by k_is) (by rfl) (by first | rfl | decide +kernel) (by k_is) (by k_is) (by k_is) (by k_is) (by decide) (by rfl) (by rfl) (by rfl) (by rfl) (by decide +kernel) (by first | boot_by_name | rfl | kernel_rfl) ?_; intro _ _ _ _ l1; (try (replace l1 := allLt_of l1)); revert l1; intro _; (try k_sweep))))
  k_with "~callWith ref" => ((k_here; (first
    | (refine' callWith_B0 ?zqk1 ?zqk2 ?_; k_dflt ((case zqk1 => exact (News.get (by k_asm) (by k_mem))); (case zqk2 => decide); k_whole; try dsimp only [List.nil_append, List.cons_append]))
    | (refine' callWith_B ?zqk1 ?zqk2 ?_ ?zqk3 ?zqk4; k_dflt ((case zqk1 => k_is); (case zqk2 => decide); (case zqk3 | zqk4 => rfl); k_whole)))))
  k_with "~call ref" => ((k_here; (first
    | (refine' super_len ?zqk1 ?zqk2 ?_; k_dflt ((case zqk1 | zqk2 => exact (News.get (by k_asm) (by k_mem))); k_whole))
    | (refine' super_init ?zqk1 ?zqk2 ?zqk3 ?zqk4 ?zqk5 ?_; k_dflt ((case zqk1 | zqk2 => k_asm); (case zqk3 => exact (News.get (by k_asm) (by k_mem))); (case zqk5 => k_upd); (case zqk4 => k_ne); k_whole; intro _ _ _; (try k_sweep)))
    | (refine' super_pop ?zqk1 ?zqk2 ?zqk3 ?zqk4 ?zqk5 ?zqk6 ?zqk7 ?zqk8 ?zqk9 ?zqk10 ?zqk11 ?_; k_dflt ((case zqk1 | zqk2 | zqk3 => k_asm); (case zqk4 => exact (News.get (by k_asm) (by k_mem))); (case zqk10 => k_upd); (case zqk5 => exact (News.get (by k_asm) (by k_mem))); (case zqk6 | zqk7 => k_is); (case zqk8 => rfl); (case zqk9 => k_is); (case zqk11 => first | assumption | (simp only [sizeLine_eq]; omega)); k_whole; intro _ _ _; (try k_sweep))))))
  k_with "~m:sub" => (first | exact List.forall_mem_nil _ | (refine List.forall_mem_cons.mpr ⟨by k_mem, ?_⟩; walk_at "m:sub"))
  k_with "~setAttr ref" => ((k_here; (refine' set_acc ?zqk1 ?zqk2 ?zqk3 ?zqk4 ?zqk5 ?zqk6 ?zqk7 ?zqk8 ?zqk9 ?zqk10 ?zqk11 ?zqk12 ?zqk13 ?_; k_dflt ((case zqk1 | zqk2 | zqk3 => k_asm); (case zqk4 => k_inst); (case zqk5 => exact rfl); (case zqk6 => k_is); (case zqk7 => rfl); (case zqk8 | zqk9 => k_is); (case zqk10 => k_get); (case zqk11 => k_put); (case zqk12 => k_upd); (case zqk13 => exact Nat.le_of_ble_eq_true rfl); k_whole; intro _ _ _; (try k_sweep)))))
  k_with "~subscriptTail" => ((k_here; (with_reducible show wpAny _ _ (subscriptTail _ _ (Value.ref _) (Value.ref _)) _ _ _); (refine' slice_acc ?zqk1 ?zqk2 ?zqk3 ?zqk4 ?zqk5 ?zqk6 ?zqk7 ?zqk8 ?zqk9 ?zqk10 ?_ ?zqk11 ?zqk12 ?zqk13; k_dflt ((case zqk1 | zqk2 | zqk3 => k_asm); (case zqk4 => k_inst); (case zqk5 => exact rfl); (case zqk6 | zqk7 | zqk8 => k_is); (case zqk9 | zqk10 => first | exact IsPart.none | exact IsPart.int _ _); (case zqk11 => with_unfolding_all rfl); (case zqk12 => intro _; with_unfolding_all rfl); (case zqk13 => first | assumption | (simp only [sizeLine_eq]; omega)); k_whole; intro _ _ _ _ l1; (try (replace l1 := allLt_of l1)); revert l1; intro _; (try k_sweep)))))
  k_with "~m:steps" => (repeat' (first | (walk1; (try dsimp only)) | (dsimp only; walk1; (try dsimp only)) | fail "no step"))
  k_with "~k_in" => ((refine' Frag.In.keeps ?zqkx ?zqkh; (case zqkx => with_reducible assumption); (case zqkh => exact Fr.keep (by with_reducible assumption))))
  k_with "~k_ne" => ((refine neN ?_; (try dsimp only); (try dsimp only [AllLt] at *); omega))
  k_with "~k_ne" => (first | with_reducible assumption | (refine Ne.symm ?_; with_reducible assumption) | (refine' ne_lt ?zqkh ?zqkm; (case zqkh => with_reducible assumption); (case zqkm => k_mem)) | (refine' Ne.symm (ne_lt ?zqkh ?zqkm); (case zqkh => with_reducible assumption); (case zqkm => k_mem)) | (refine neN ?_; decide))
  trivial
-- text ZOC
section
example : True := by
  k_with "~m:look" => (first | exact rfl | assumption | (dsimp only; repeat (first | rw [if_pos rfl] | rw [if_neg (by decide)])); first | rfl | assumption)
  k_with "~m:room" => (first | assumption | omega | (simp only [depth_deeper, depth_in1]; omega))
  k_with "~m:bare" => ((repeat (first | assumption | with_reducible apply_assumption)))
  trivial
section
variable {w : World} {A : Around} {E : Value → Shared → Prop} {s : Shared} {g : Heap} {L : Addr} {m : Str → Option Value} {loose : List Str} {mg mb : Str → Option Value} {x dx io dio pb fs : Addr} {ks ts : Nat → Tok} {wc text : Str} {h1 h2 h3 : Int} {k1 k2 k3 tt t9 tp : Tok} {nl st : Value} {outer : List Env} {p : Nat}
end
section
namespace G1
noncomputable abbrev T := (World) × (Around) × (Value → Shared → Prop) × (Shared) × (Heap) × (Addr) × (Str → Option Value) × (List Str) × (Str → Option Value) × (Str → Option Value) × (Addr) × (Addr) × (Addr) × (Addr) × (Addr) × (Addr) × (Nat → Tok) × (Nat → Tok) × (Str) × (Str) × (Int) × (Int) × (Int) × (Tok) × (Tok) × (Tok) × (Tok) × (Tok) × (Tok) × (Value) × (Value) × (List Env) × (Nat) × (Value → Shared → Prop) × (List (List Nat))
noncomputable def Pf (w : World) (A : Around) (E : Value → Shared → Prop) (s : Shared) (g : Heap) (L : Addr) (m : Str → Option Value) (loose : List Str) (mg : Str → Option Value) (mb : Str → Option Value) (x : Addr) (dx : Addr) (io : Addr) (dio : Addr) (pb : Addr) (fs : Addr) (ks : Nat → Tok) (ts : Nat → Tok) (wc : Str) (text : Str) (h1 : Int) (h2 : Int) (h3 : Int) (k1 : Tok) (k2 : Tok) (k3 : Tok) (tt : Tok) (t9 : Tok) (tp : Tok) (nl : Value) (st : Value) (outer : List Env) (p : Nat) (Q : Value → Shared → Prop) (toks : List (List Nat)) : Prop := ∀ (F : Fr g L s.heap m) (X : (hd.heap_39 w.params).In g) (T : TopRead Mine.hd.view_39 loose mg mb g) (hd : A.depth + 20 < recursionLimit) (hh : A.handled = none) (hA : A.frames = some outer) (hfr : FrOk s.heap outer [pb, fs, x, dx, io, dio]) (N : News g L s.heap [(pb, dqObj), (fs, dqObj), (x, ioObj 816 dx), (dx, lexDict w.params ks ts io pb fs (Str.ofString "") wc true st (.str (Str.ofString "") t9)), (io, ioObj 681 dio), (dio, ioDict h1 h2 h3 k1 k2 k3 nl (.str text tt) (.int p tp))]) (n1 : @Ne Nat x dx) (n2 : @Ne Nat x io) (n3 : @Ne Nat x dio) (n4 : @Ne Nat dx io) (n5 : @Ne Nat dx dio) (n6 : @Ne Nat io dio) (b1 : @Ne Nat pb x) (b2 : @Ne Nat pb dx) (b3 : @Ne Nat pb io) (b4 : @Ne Nat pb dio) (c1 : @Ne Nat fs x) (c2 : @Ne Nat fs dx) (c3 : @Ne Nat fs io) (c4 : @Ne Nat fs dio) (hl : text.length ≤ 1000000) (hp : p ≤ text.length) (hw1 : (!(Builtin.Str.occurrences wc (Str.ofString "'") 0 wc.length 1).isEmpty) = false) (hw2 : (!(Builtin.Str.occurrences wc (Str.ofString "\"") 0 wc.length 1).isEmpty) = false) (hlex : LexTo st (text.cps.toList.drop p) toks) (hn : toks.length ≤ 1000000) (hQ : ∀ s' ys c', AftS s s' [pb, fs, x, dx, io, dio] (outer.filterMap (·.frame)) → s.heap.get? s.heap.objs.size = none → s'.heap.get? s.heap.objs.size = some (listOf ys c') → StrsAre ys.toList (toks.map fun l => ⟨l.toArray⟩) → Q (.ref s.heap.objs.size) s'), wpAny (model PG w) A (call (.type "list") [.ref x]) Q E s
noncomputable def Q_ (z : T) : Prop := Pf z.1 (z.2.1) (z.2.2.1) (z.2.2.2.1) (z.2.2.2.2.1) (z.2.2.2.2.2.1) (z.2.2.2.2.2.2.1) (z.2.2.2.2.2.2.2.1) (z.2.2.2.2.2.2.2.2.1) (z.2.2.2.2.2.2.2.2.2.1) (z.2.2.2.2.2.2.2.2.2.2.1) (z.2.2.2.2.2.2.2.2.2.2.2.1) (z.2.2.2.2.2.2.2.2.2.2.2.2.1) (z.2.2.2.2.2.2.2.2.2.2.2.2.2.1) (z.2.2.2.2.2.2.2.2.2.2.2.2.2.2.1) (z.2.2.2.2.2.2.2.2.2.2.2.2.2.2.2.1) (z.2.2.2.2.2.2.2.2.2.2.2.2.2.2.2.2.1) (z.2.2.2.2.2.2.2.2.2.2.2.2.2.2.2.2.2.1) (z.2.2.2.2.2.2.2.2.2.2.2.2.2.2.2.2.2.2.1) (z.2.2.2.2.2.2.2.2.2.2.2.2.2.2.2.2.2.2.2.1) (z.2.2.2.2.2.2.2.2.2.2.2.2.2.2.2.2.2.2.2.2.1) (z.2.2.2.2.2.2.2.2.2.2.2.2.2.2.2.2.2.2.2.2.2.1) (z.2.2.2.2.2.2.2.2.2.2.2.2.2.2.2.2.2.2.2.2.2.2.1) (z.2.2.2.2.2.2.2.2.2.2.2.2.2.2.2.2.2.2.2.2.2.2.2.1) (z.2.2.2.2.2.2.2.2.2.2.2.2.2.2.2.2.2.2.2.2.2.2.2.2.1) (z.2.2.2.2.2.2.2.2.2.2.2.2.2.2.2.2.2.2.2.2.2.2.2.2.2.1) (z.2.2.2.2.2.2.2.2.2.2.2.2.2.2.2.2.2.2.2.2.2.2.2.2.2.2.1) (z.2.2.2.2.2.2.2.2.2.2.2.2.2.2.2.2.2.2.2.2.2.2.2.2.2.2.2.1) (z.2.2.2.2.2.2.2.2.2.2.2.2.2.2.2.2.2.2.2.2.2.2.2.2.2.2.2.2.1) (z.2.2.2.2.2.2.2.2.2.2.2.2.2.2.2.2.2.2.2.2.2.2.2.2.2.2.2.2.2.1) (z.2.2.2.2.2.2.2.2.2.2.2.2.2.2.2.2.2.2.2.2.2.2.2.2.2.2.2.2.2.2.1) (z.2.2.2.2.2.2.2.2.2.2.2.2.2.2.2.2.2.2.2.2.2.2.2.2.2.2.2.2.2.2.2.1) (z.2.2.2.2.2.2.2.2.2.2.2.2.2.2.2.2.2.2.2.2.2.2.2.2.2.2.2.2.2.2.2.2.1) (z.2.2.2.2.2.2.2.2.2.2.2.2.2.2.2.2.2.2.2.2.2.2.2.2.2.2.2.2.2.2.2.2.2.1) (z.2.2.2.2.2.2.2.2.2.2.2.2.2.2.2.2.2.2.2.2.2.2.2.2.2.2.2.2.2.2.2.2.2.2)
theorem ne : Nonempty T := ⟨(Classical.choice Mine.neW, Classical.choice Mine.neA, Classical.choice inferInstance, Classical.choice Mine.neS, Classical.choice inferInstance, Classical.choice inferInstance, Classical.choice inferInstance, Classical.choice inferInstance, Classical.choice inferInstance, Classical.choice inferInstance, Classical.choice inferInstance, Classical.choice inferInstance, Classical.choice inferInstance, Classical.choice inferInstance, Classical.choice inferInstance, Classical.choice inferInstance, Classical.choice inferInstance, Classical.choice inferInstance, Classical.choice inferInstance, Classical.choice inferInstance, Classical.choice inferInstance, Classical.choice inferInstance, Classical.choice inferInstance, Classical.choice inferInstance, Classical.choice inferInstance, Classical.choice inferInstance, Classical.choice inferInstance, Classical.choice inferInstance, Classical.choice inferInstance, Classical.choice inferInstance, Classical.choice inferInstance, Classical.choice inferInstance, Classical.choice inferInstance, Classical.choice inferInstance, Classical.choice inferInstance)⟩
noncomputable def z_ : T := @Classical.epsilon _ ne fun z => ¬ Q_ z
@[irreducible] noncomputable def w : World := z_.1
@[irreducible] noncomputable def A : Around := z_.2.1
@[irreducible] noncomputable def E : Value → Shared → Prop := z_.2.2.1
@[irreducible] noncomputable def s : Shared := z_.2.2.2.1
@[irreducible] noncomputable def g : Heap := z_.2.2.2.2.1
@[irreducible] noncomputable def L : Addr := z_.2.2.2.2.2.1
@[irreducible] noncomputable def m : Str → Option Value := z_.2.2.2.2.2.2.1
@[irreducible] noncomputable def loose : List Str := z_.2.2.2.2.2.2.2.1
@[irreducible] noncomputable def mg : Str → Option Value := z_.2.2.2.2.2.2.2.2.1
@[irreducible] noncomputable def mb : Str → Option Value := z_.2.2.2.2.2.2.2.2.2.1
@[irreducible] noncomputable def x : Addr := z_.2.2.2.2.2.2.2.2.2.2.1
@[irreducible] noncomputable def dx : Addr := z_.2.2.2.2.2.2.2.2.2.2.2.1
@[irreducible] noncomputable def io : Addr := z_.2.2.2.2.2.2.2.2.2.2.2.2.1
@[irreducible] noncomputable def dio : Addr := z_.2.2.2.2.2.2.2.2.2.2.2.2.2.1
@[irreducible] noncomputable def pb : Addr := z_.2.2.2.2.2.2.2.2.2.2.2.2.2.2.1
@[irreducible] noncomputable def fs : Addr := z_.2.2.2.2.2.2.2.2.2.2.2.2.2.2.2.1
@[irreducible] noncomputable def ks : Nat → Tok := z_.2.2.2.2.2.2.2.2.2.2.2.2.2.2.2.2.1
@[irreducible] noncomputable def ts : Nat → Tok := z_.2.2.2.2.2.2.2.2.2.2.2.2.2.2.2.2.2.1
@[irreducible] noncomputable def wc : Str := z_.2.2.2.2.2.2.2.2.2.2.2.2.2.2.2.2.2.2.1
@[irreducible] noncomputable def text : Str := z_.2.2.2.2.2.2.2.2.2.2.2.2.2.2.2.2.2.2.2.1
@[irreducible] noncomputable def h1 : Int := z_.2.2.2.2.2.2.2.2.2.2.2.2.2.2.2.2.2.2.2.2.1
@[irreducible] noncomputable def h2 : Int := z_.2.2.2.2.2.2.2.2.2.2.2.2.2.2.2.2.2.2.2.2.2.1
@[irreducible] noncomputable def h3 : Int := z_.2.2.2.2.2.2.2.2.2.2.2.2.2.2.2.2.2.2.2.2.2.2.1
@[irreducible] noncomputable def k1 : Tok := z_.2.2.2.2.2.2.2.2.2.2.2.2.2.2.2.2.2.2.2.2.2.2.2.1
@[irreducible] noncomputable def k2 : Tok := z_.2.2.2.2.2.2.2.2.2.2.2.2.2.2.2.2.2.2.2.2.2.2.2.2.1
@[irreducible] noncomputable def k3 : Tok := z_.2.2.2.2.2.2.2.2.2.2.2.2.2.2.2.2.2.2.2.2.2.2.2.2.2.1
@[irreducible] noncomputable def tt : Tok := z_.2.2.2.2.2.2.2.2.2.2.2.2.2.2.2.2.2.2.2.2.2.2.2.2.2.2.1
@[irreducible] noncomputable def t9 : Tok := z_.2.2.2.2.2.2.2.2.2.2.2.2.2.2.2.2.2.2.2.2.2.2.2.2.2.2.2.1
@[irreducible] noncomputable def tp : Tok := z_.2.2.2.2.2.2.2.2.2.2.2.2.2.2.2.2.2.2.2.2.2.2.2.2.2.2.2.2.1
@[irreducible] noncomputable def nl : Value := z_.2.2.2.2.2.2.2.2.2.2.2.2.2.2.2.2.2.2.2.2.2.2.2.2.2.2.2.2.2.1
@[irreducible] noncomputable def st : Value := z_.2.2.2.2.2.2.2.2.2.2.2.2.2.2.2.2.2.2.2.2.2.2.2.2.2.2.2.2.2.2.1
@[irreducible] noncomputable def outer : List Env := z_.2.2.2.2.2.2.2.2.2.2.2.2.2.2.2.2.2.2.2.2.2.2.2.2.2.2.2.2.2.2.2.1
@[irreducible] noncomputable def p : Nat := z_.2.2.2.2.2.2.2.2.2.2.2.2.2.2.2.2.2.2.2.2.2.2.2.2.2.2.2.2.2.2.2.2.1
@[irreducible] noncomputable def Q : Value → Shared → Prop := z_.2.2.2.2.2.2.2.2.2.2.2.2.2.2.2.2.2.2.2.2.2.2.2.2.2.2.2.2.2.2.2.2.2.1
@[irreducible] noncomputable def toks : List (List Nat) := z_.2.2.2.2.2.2.2.2.2.2.2.2.2.2.2.2.2.2.2.2.2.2.2.2.2.2.2.2.2.2.2.2.2.2
theorem core : Pf w A E s g L m loose mg mb x dx io dio pb fs ks ts wc text h1 h2 h3 k1 k2 k3 tt t9 tp nl st outer p Q toks := by
  unfold Pf
  intro F X T hd hh hA hfr N n1 n2 n3 n4 n5 n6 b1 b2 b3 b4 c1 c2 c3 c4 hl hp hw1 hw2 hlex hn hQ
  have hlt : ∀ q ∈ [(pb, dqObj), (fs, dqObj), (x, ioObj 816 dx), (dx, lexDict w.params ks ts io pb fs (Str.ofString "") wc true st (.str (Str.ofString "") t9)), (io, ioObj 681 dio), (dio, ioDict h1 h2 h3 k1 k2 k3 nl (.str text tt) (.int p tp))], @LT.lt Nat _ q.1 s.heap.objs.size := fun q hq => Heap.lt_size (N q hq).1
  have hSn : s.heap.objs.size ∉ [pb, fs, x, dx, io, dio] := fun z => by
    have : s.heap.objs.size ∈ [(pb, dqObj), (fs, dqObj), (x, ioObj 816 dx), (dx, lexDict w.params ks ts io pb fs (Str.ofString "") wc true st (.str (Str.ofString "") t9)), (io, ioObj 681 dio), (dio, ioDict h1 h2 h3 k1 k2 k3 nl (.str text tt) (.int p tp))].map (·.1) := z
    obtain ⟨q, hq, e⟩ := List.mem_map.mp this
    exact Nat.lt_irrefl _ (e ▸ hlt q hq)
  have hpost : ∀ q ∈ [(pb, dqObj), (fs, dqObj), (x, ioObj 816 dx), (dx, lexDict w.params ks ts io pb fs (Str.ofString "") wc true st (.str (Str.ofString "") t9)), (io, ioObj 681 dio), (dio, ioDict h1 h2 h3 k1 k2 k3 nl (.str text tt) (.int p tp))], q.1 ≠ s.heap.objs.size := fun q hq => Nat.ne_of_lt (hlt q hq)
  have hSf : ∀ env ∈ outer, ∃ L' o, env.frame = some L' ∧ s.heap.get? L' = some o ∧ L' ≠ s.heap.objs.size := fun env he => by
    obtain ⟨_, L', o, e, gg, _, _⟩ := hfr env he
    exact ⟨L', o, e, gg, Nat.ne_of_lt (Heap.lt_size gg)⟩
  refine callType_codes (Q₁ := fun obj s₁ => obj = .ref s.heap.objs.size ∧ s₁ = { s with heap := s.heap.push { cls := .type "list", data := .seq #[] } }) PySem.F.called_list (PySem.F.typeCall_list_1 _) PySem.F.entry_list_init
    (code_list_new _ ⟨rfl, rfl⟩) fun obj s₁ h₁ => ?_
  obtain ⟨rfl, rfl⟩ := h₁
  have hS0 : (s.heap.push { cls := .type "list", data := .seq #[] }).get? s.heap.objs.size = some (listOf #[] 0) := Heap.get?_push_size _ rfl
  refine ⟨⟨_, hS0, rfl⟩, PySem.F.args_list_init_2 _ _, ?_⟩
  have F0 : Fr g L (s.heap.push { cls := .type "list", data := .seq #[] }) m := F.push _
  have N0 : News g L (s.heap.push { cls := .type "list", data := .seq #[] }) ((s.heap.objs.size, listOf #[] 0) :: [(pb, dqObj), (fs, dqObj), (x, ioObj 816 dx), (dx, lexDict w.params ks ts io pb fs (Str.ofString "") wc true st (.str (Str.ofString "") t9)), (io, ioObj 681 dio), (dio, ioDict h1 h2 h3 k1 k2 k3 nl (.str text tt) (.int p tp))]) := News.push F N _
  generalize hH : s.heap.objs.size = S at *
  generalize hG : s.heap.push { cls := .type "list", data := .seq #[] } = hp0 at *
  have old0 : ∀ b o, s.heap.get? b = some o → hp0.get? b = some o := fun b o e => hG ▸ Heap.get?_push_of_some _ e
  show wpAny _ _ (do let old ← Builtin.List.listItems (.ref S); Builtin.List.listUpdate (.ref S) (fun _ => #[]); letGo old.toList.reverse; Builtin.List.listExtendWith (.ref S) (.ref x) .none) _ _ _
  refine wpAny_bind ?_
  unfold Builtin.List.listItems
  refine wpAny_bind (wpAny_seqItems hS0 rfl (wpAny_pure ?_))
  show wpAny _ _ (updateSeq S (fun _ => #[]) >>= fun _ => letGo (#[] : Array Value).toList.reverse >>= fun _ => Builtin.List.listExtendWith (.ref S) (.ref x) .none) _ _ _
  refine wpAny_bind (wpAny_updateSeq hS0 rfl ?_)
  obtain ⟨F1, N1⟩ := news_upd (f := Obj.mapSeq (fun _ => (#[] : Array Value))) (pre := []) (o' := listOf #[] 0) F0 N0 (fun _ h => (nomatch h)) hpost (by simp [Obj.mapSeq]) rfl
  have old1 : ∀ b o, hp0.get? b = some o → b ≠ S → (hp0.update S (Obj.mapSeq (fun _ => (#[] : Array Value)))).get? b = some o := fun b o e n => (Heap.get?_update_other _ _ (Ne.symm n)).trans e
  generalize hp0.update S (Obj.mapSeq (fun _ => (#[] : Array Value))) = hp1 at *
  refine wpAny_bind (wpAny_letGo ?_)
  unfold Builtin.List.listExtendWith
  have I1 : InstAt hp1 x (ioObj 816 dx) 816 (some _) := InstAt.of_news N1 (by k_mem) (by k_mem)
  refine wpAny_bind (I1.type.here ?_)
  have hSx : S ≠ x := fun e => hSn (by rw [e]; simp)
  have q1 : Builtin.List.listSameRef (.ref S) (.ref x) = false := by simp [Builtin.List.listSameRef, hSx]
  have q2 : (Value.ref 816 == Value.type "list") = false := by decide
  have q3 : (Value.ref 816 == Value.type "tuple") = false := by decide
  simp only [q1, q2, q3, Bool.or_false, Bool.false_eq_true, if_false]
  refine wpAny_bind (owit_iter (s := { s with heap := hp1 }) F1 X I1 (f := 806) (by k_is) (by k_is) (wpAny_call (iter_raw X T F1.keep (show A.depth < recursionLimit by omega) fun s₂ a₂ => ?_)))
  obtain ⟨F2, N2⟩ := a₂.none F1 N1
  have I2 : InstAt s₂.heap x (ioObj 816 dx) 816 (some _) := InstAt.of_news N2 (by k_mem) (by k_mem)
  refine owit_it F2 X I2 (g := .ref 813) (by k_is) ?_
  refine wpAny_bind (wpAny_holding ?_)
  unfold Builtin.List.listLengthHint
  have X2 : (Mine.hd.heap_39 w.params).In s₂.heap := X.keeps F2.keep
  have hl1 : findIn (Mine.hd.heap_39 w.params) (.ref 816) "__len__" = some none := by k_is
  have hl2 : findIn (Mine.hd.heap_39 w.params) (.ref 816) "__length_hint__" = some none := by k_is
  refine wpAny_bind (show wpAny _ _ (specialOf (.ref x) (Str.ofString "__len__")) _ _ _ from wpAny_bind (I2.type.here ((looks_findIn X2 hl1).here ?_)))
  show wpAny _ _ (specialOf (Value.ref x) (Str.ofString "__length_hint__") >>= _) _ _ _
  refine wpAny_bind (wpAny_bind (I2.type.here ((looks_findIn X2 hl2).here ?_)))
  refine wpAny_pure ?_
  show wpAny _ _ (rule "list.extend.makes-room" >>= fun _ => Builtin.List.listTouch (.ref S) >>= fun _ => again (.builtin "list.extend.loop" ⟨[.ref S, .ref x, .none], []⟩)) _ _ _
  refine wpAny_bind (wpAny_rule ?_)
  refine wpAny_bind ?_
  show wpAny _ _ (updateSeq S (·.push .none) >>= fun _ => updateSeq S (·.pop)) _ _ _
  refine wpAny_bind (wpAny_updateSeq (N2 _ (List.mem_cons_self ..)).1 rfl ?_)
  obtain ⟨F3, N3⟩ := news_upd (f := Obj.mapSeq (·.push Value.none)) (pre := []) (o' := listOf #[.none] 1) F2 N2 (fun _ h => (nomatch h)) hpost (by simp [Obj.mapSeq]) rfl
  have old3 : ∀ b o, s₂.heap.get? b = some o → b ≠ S → (s₂.heap.update S (Obj.mapSeq (·.push Value.none))).get? b = some o := fun b o e n => (Heap.get?_update_other _ _ (Ne.symm n)).trans e
  generalize s₂.heap.update S (Obj.mapSeq (·.push Value.none)) = hp3 at *
  refine wpAny_updateSeq (N3 _ (List.mem_cons_self ..)).1 rfl ?_
  obtain ⟨F4, N4⟩ := news_upd (f := Obj.mapSeq (·.pop)) (pre := []) (o' := listOf #[] 2) F3 N3 (fun _ h => (nomatch h)) hpost (by simp [Obj.mapSeq]) rfl
  have old4 : ∀ b o, hp3.get? b = some o → b ≠ S → (hp3.update S (Obj.mapSeq (·.pop))).get? b = some o := fun b o e n => (Heap.get?_update_other _ _ (Ne.symm n)).trans e
  generalize hp3.update S (Obj.mapSeq (·.pop)) = hp4 at *
  have oldAll : ∀ b o, s.heap.get? b = some o → hp4.get? b = some o := fun b o e => by
    have hb : b ≠ S := hH ▸ Nat.ne_of_lt (Heap.lt_size e)
    exact old4 _ _ (old3 _ _ (a₂.keep _ _ (old1 _ _ (old0 _ _ e) hb) (fun z => (nomatch z))) hb) hb
  refine wpAny_pure ⟨plainId_quiet PySem.F.plain_extend_loop _, lex_loop (A := A.in1) X T (show A.depth + 14 < recursionLimit by omega) hh hA n1 n2 n3 n4 n5 n6 b1 b2 b3 b4 c1 c2 c3 c4 hSn hl hw1 hw2 toks _ st t9 tp p #[] 2 hlex hp (by simpa using hn) F4 N4 (fun env he => ?f2) fun s' ys c' a hS' hys => ?_⟩
  case f2 =>
    obtain ⟨k, L', o, e, gg, nf, n⟩ := hfr env he
    refine ⟨k, L', o, e, oldAll _ _ gg, nf, fun z => ?_⟩
    rcases List.mem_cons.mp z with z | z
    · exact (hH ▸ Nat.ne_of_lt (Heap.lt_size gg) : L' ≠ S) z
    · exact n z
  have nS : ∀ b o, s.heap.get? b = some o → b ∉ [pb, fs, x, dx, io, dio] → b ∉ [S, pb, fs, x, dx, io, dio] := fun b o e n z => by
    rcases List.mem_cons.mp z with z | z
    · exact (hH ▸ Nat.ne_of_lt (Heap.lt_size e) : b ≠ S) z
    · exact n z
  refine ⟨rfl, hQ s' ys c' ⟨fun b o e q1 q2 => a.keep b o (oldAll _ _ e) (nS b o e q1) q2, fun b o e q1 nf => a.up b o (oldAll _ _ e) (nS b o e q1) nf, a.os.trans a₂.os, fun z => a.bare (a₂.bare z)⟩ (by rw [← hH]; exact Heap.get?_none_of_le (Nat.le_refl _)) ?_ hys⟩
  simpa using hS'
theorem all (y : T) : Q_ y := eps_all ne Q_ (by with_unfolding_all exact core) y
end G1
end
section
variable {w : World} {A : Around} {E : Value → Shared → Prop} {s : Shared} {g : Heap} {L : Addr} {m : Str → Option Value} {loose : List Str} {mg mb : Str → Option Value} {x dx io dio pb fs : Addr} {ks ts : Nat → Tok} {wc text : Str} {h1 h2 h3 : Int} {k1 k2 k3 tt t9 tp : Tok} {nl st : Value} {outer : List Env} {p : Nat}
theorem list_lex {Q : Value → Shared → Prop} {toks : List (List Nat)} (F : Fr g L s.heap m) (X : (hd.heap_39 w.params).In g) (T : TopRead Mine.hd.view_39 loose mg mb g) (hd : A.depth + 20 < recursionLimit) (hh : A.handled = none) (hA : A.frames = some outer)
  (hfr : FrOk s.heap outer [pb, fs, x, dx, io, dio])
  (N : News g L s.heap [(pb, dqObj), (fs, dqObj), (x, ioObj 816 dx), (dx, lexDict w.params ks ts io pb fs (Str.ofString "") wc true st (.str (Str.ofString "") t9)), (io, ioObj 681 dio), (dio, ioDict h1 h2 h3 k1 k2 k3 nl (.str text tt) (.int p tp))])
  (n1 : @Ne Nat x dx) (n2 : @Ne Nat x io) (n3 : @Ne Nat x dio) (n4 : @Ne Nat dx io) (n5 : @Ne Nat dx dio) (n6 : @Ne Nat io dio)
  (b1 : @Ne Nat pb x) (b2 : @Ne Nat pb dx) (b3 : @Ne Nat pb io) (b4 : @Ne Nat pb dio) (c1 : @Ne Nat fs x) (c2 : @Ne Nat fs dx) (c3 : @Ne Nat fs io) (c4 : @Ne Nat fs dio) (hl : text.length ≤ 1000000) (hp : p ≤ text.length)
  (hw1 : (!(Builtin.Str.occurrences wc (Str.ofString "'") 0 wc.length 1).isEmpty) = false) (hw2 : (!(Builtin.Str.occurrences wc (Str.ofString "\"") 0 wc.length 1).isEmpty) = false)
  (hlex : LexTo st (text.cps.toList.drop p) toks) (hn : toks.length ≤ 1000000)
  (hQ : ∀ s' ys c', AftS s s' [pb, fs, x, dx, io, dio] (outer.filterMap (·.frame)) → s.heap.get? s.heap.objs.size = none → s'.heap.get? s.heap.objs.size = some (listOf ys c') → StrsAre ys.toList (toks.map fun l => ⟨l.toArray⟩) → Q (.ref s.heap.objs.size) s') :
  wpAny (model PG w) A (call (.type "list") [.ref x]) Q E s :=
  G1.all (w, A, E, s, g, L, m, loose, mg, mb, x, dx, io, dio, pb, fs, ks, ts, wc, text, h1, h2, h3, k1, k2, k3, tt, t9, tp, nl, st, outer, p, Q, toks) F X T hd hh hA hfr N n1 n2 n3 n4 n5 n6 b1 b2 b3 b4 c1 c2 c3 c4 hl hp hw1 hw2 hlex hn hQ
end
end
-- text ZOD
section
example : True := by
  k_with "~exec If" => (refine wpAny_If ?_)
  k_with "~ite" => (first | refine' ite_tt ?_ | refine' ite_ff ?_)
  k_with "~getAttr ref" => ((k_here; (refine' get_own ?zqk1 ?zqk2 ?zqk3 ?zqk4 ?zqk5 ?zqk6 ?zqk7 ?zqk8 ?zqk9 ?_; k_dflt ((case zqk1 | zqk2 => k_asm); (case zqk3 => k_inst); (case zqk4 | zqk5 | zqk6 | zqk7 => k_is); (case zqk8 => k_get); (case zqk9 => k_handed); k_whole))))
  k_with "~call type:list" => ((k_here; refine Held.out ?_))
  trivial
theorem perm6 {g hp : Heap} {L pb fs x dx io dio : Addr} {news : List (Addr × Obj)} {o1 o2 o3 o4 o5 o6 : Obj} (N : News g L hp news) (h1 : (pb, o1) ∈ news) (h2 : (fs, o2) ∈ news) (h3 : (x, o3) ∈ news) (h4 : (dx, o4) ∈ news) (h5 : (io, o5) ∈ news) (h6 : (dio, o6) ∈ news) :
    News g L hp [(pb, o1), (fs, o2), (x, o3), (dx, o4), (io, o5), (dio, o6)] := fun q hq => by
  simp only [List.mem_cons, List.not_mem_nil, or_false] at hq
  rcases hq with rfl | rfl | rfl | rfl | rfl | rfl
  · exact N _ h1
  · exact N _ h2
  · exact N _ h3
  · exact N _ h4
  · exact N _ h5
  · exact N _ h6
theorem news6_none {g hp : Heap} {L pb fs x dx io dio b : Addr} {o1 o2 o3 o4 o5 o6 : Obj} (N : News g L hp [(pb, o1), (fs, o2), (x, o3), (dx, o4), (io, o5), (dio, o6)]) (hb : b ∈ [pb, fs, x, dx, io, dio]) : g.get? b = none ∧ b ≠ L := by
  have hb' : b ∈ [(pb, o1), (fs, o2), (x, o3), (dx, o4), (io, o5), (dio, o6)].map (·.1) := hb
  obtain ⟨q, hq, rfl⟩ := List.mem_map.mp hb'
  exact ⟨(N q hq).2.2, (N q hq).2.1⟩
end
section
namespace G5
noncomputable abbrev T := (World) × (Around) × (Shared) × (Heap) × (List Str) × (Str → Option Value) × (Str → Option Value) × (Result → Shared → Prop) × (Str) × (Tok) × (List (List Nat)) × (List Env)
noncomputable def Pf (w : World) (A : Around) (s : Shared) (H : Heap) (loose : List Str) (mg : Str → Option Value) (mb : Str → Option Value) (R : Result → Shared → Prop) (text : Str) (tt : Tok) (toks : List (List Nat)) (outer : List Env) : Prop := ∀ (X : (hd.heap_39 w.params).In H) (T : TopRead Mine.hd.view_39 loose mg mb H) (hk : ∀ b o, H.get? b = some o → s.heap.get? b = some o) (hd : A.depth + 40 < recursionLimit) (hh : A.handled = none) (hA : A.frames = some outer) (hfr : FrOk s.heap outer []) (hl : text.length ≤ 1000000) (hlex : ∀ t0, LexTo (.str (Str.ofString " ") t0) text.cps.toList toks) (hn : toks.length ≤ 1000000) (hR : ∀ s' S ys c, AftS s s' [] (outer.filterMap (·.frame)) → s.heap.get? S = none → s'.heap.get? S = some (listOf ys c) → StrsAre ys.toList (toks.map fun l => ⟨l.toArray⟩) → R (.ok (.ret (.ref S))) s'), codeAny (model PG w) A (.call (.ref 828) ⟨[.str text tt], []⟩) R s
noncomputable def Q_ (z : T) : Prop := Pf z.1 (z.2.1) (z.2.2.1) (z.2.2.2.1) (z.2.2.2.2.1) (z.2.2.2.2.2.1) (z.2.2.2.2.2.2.1) (z.2.2.2.2.2.2.2.1) (z.2.2.2.2.2.2.2.2.1) (z.2.2.2.2.2.2.2.2.2.1) (z.2.2.2.2.2.2.2.2.2.2.1) (z.2.2.2.2.2.2.2.2.2.2.2)
theorem ne : Nonempty T := ⟨(Classical.choice Mine.neW, Classical.choice Mine.neA, Classical.choice Mine.neS, Classical.choice inferInstance, Classical.choice inferInstance, Classical.choice inferInstance, Classical.choice inferInstance, Classical.choice inferInstance, Classical.choice inferInstance, Classical.choice inferInstance, Classical.choice inferInstance, Classical.choice inferInstance)⟩
noncomputable def z_ : T := @Classical.epsilon _ ne fun z => ¬ Q_ z
@[irreducible] noncomputable def w : World := z_.1
@[irreducible] noncomputable def A : Around := z_.2.1
@[irreducible] noncomputable def s : Shared := z_.2.2.1
@[irreducible] noncomputable def H : Heap := z_.2.2.2.1
@[irreducible] noncomputable def loose : List Str := z_.2.2.2.2.1
@[irreducible] noncomputable def mg : Str → Option Value := z_.2.2.2.2.2.1
@[irreducible] noncomputable def mb : Str → Option Value := z_.2.2.2.2.2.2.1
@[irreducible] noncomputable def R : Result → Shared → Prop := z_.2.2.2.2.2.2.2.1
@[irreducible] noncomputable def text : Str := z_.2.2.2.2.2.2.2.2.1
@[irreducible] noncomputable def tt : Tok := z_.2.2.2.2.2.2.2.2.2.1
@[irreducible] noncomputable def toks : List (List Nat) := z_.2.2.2.2.2.2.2.2.2.2.1
@[irreducible] noncomputable def outer : List Env := z_.2.2.2.2.2.2.2.2.2.2.2
noncomputable def pk : {P_ : (Heap) → (Addr) → (Heap) → Prop // ∀ (X : (hd.heap_39 w.params).In H) (T : TopRead Mine.hd.view_39 loose mg mb H) (hk : ∀ b o, H.get? b = some o → s.heap.get? b = some o) (hd : A.depth + 40 < recursionLimit) (hh : A.handled = none) (hA : A.frames = some outer) (hfr : FrOk s.heap outer []) (hl : text.length ≤ 1000000) (hlex : ∀ t0, LexTo (.str (Str.ofString " ") t0) text.cps.toList toks) (hn : toks.length ≤ 1000000) (hR : ∀ s' S ys c, AftS s s' [] (outer.filterMap (·.frame)) → s.heap.get? S = none → s'.heap.get? S = some (listOf ys c) → StrsAre ys.toList (toks.map fun l => ⟨l.toArray⟩) → R (.ok (.ret (.ref S))) s'), (∀ g L h₁, P_  g L h₁) → codeAny (model PG w) A (.call (.ref 828) ⟨[.str text tt], []⟩) R s} := ⟨_, fun  X T hk hd hh hA hfr hl hlex hn hR k_ => by
  refine' enterM (binds := [(Str.ofString "s", .str text tt), (Str.ofString "comments", .bool false), (Str.ofString "posix", .bool true)]) [] ?k1 ?k2 ?k3 ?k4 ?k6 ?k7 ?k8 ?k9 ?kB ?_ ?c5 ?c2 ?c3 ?c4
  walk_at "m:enter"
  exact k_⟩
noncomputable abbrev T2 := (Heap) × (Addr) × (Heap)
noncomputable def Pf2 (g : Heap) (L : Addr) (h₁ : Heap) : Prop := ∀ (X : (hd.heap_39 w.params).In H) (T : TopRead Mine.hd.view_39 loose mg mb H) (hk : ∀ b o, H.get? b = some o → s.heap.get? b = some o) (hd : A.depth + 40 < recursionLimit) (hh : A.handled = none) (hA : A.frames = some outer) (hfr : FrOk s.heap outer []) (hl : text.length ≤ 1000000) (hlex : ∀ t0, LexTo (.str (Str.ofString " ") t0) text.cps.toList toks) (hn : toks.length ≤ 1000000) (hR : ∀ s' S ys c, AftS s s' [] (outer.filterMap (·.frame)) → s.heap.get? S = none → s'.heap.get? S = some (listOf ys c) → StrsAre ys.toList (toks.map fun l => ⟨l.toArray⟩) → R (.ok (.ret (.ref S))) s'), pk.1  g L h₁
noncomputable def Q2 (z : T2) : Prop := Pf2 z.1 (z.2.1) (z.2.2)
theorem ne2 : Nonempty T2 := ⟨(Classical.choice inferInstance, Classical.choice inferInstance, Classical.choice inferInstance)⟩
noncomputable def z2_ : T2 := @Classical.epsilon _ ne2 fun z => ¬ Q2 z
@[irreducible] noncomputable def g : Heap := z2_.1
@[irreducible] noncomputable def L : Addr := z2_.2.1
@[irreducible] noncomputable def h₁ : Heap := z2_.2.2
theorem core2 : Pf2 g L h₁ := by
  unfold Pf2
  intro X T hk hd hh hA hfr hl hlex hn hR
  dsimp only [pk]
  intro hkg hgk F N Xg Tg hHg hlt
  (try dsimp only)
  walk_at "m:steps"
  refine call_cls (C := 816) (fI := 740) (kw := [(Str.ofString "posix", .bool true)]) F Xg N (by k_is) (by k_is) (by k_is) fun x dx h' F' N' _ lx => ?_
  refine lexinit_raw Xg Tg F'.keep ?_ (two_own (s := { s with heap := h' }) N' (List.mem_cons_self ..) (List.mem_cons_of_mem _ (List.mem_cons_self ..))) (Nat.ne_of_gt lx) fun s₁ ks ts io dio pb fs wc h1 h2 h3 k1 k2 k3 tn tp a hw1 hw2 m1 m2 m3 m4 m5 m6 m7 m8 m9 m10 m11 m12 m13 m14 => ?_
  · show A.depth + 1 + 1 + 12 < recursionLimit
    omega
  obtain ⟨F₁, N₁⟩ := a.gen F' N' (n2 := [(fs, dqObj), (pb, dqObj), (io, ioObj 681 dio), (dio, ioDict h1 h2 h3 k1 k2 k3 (.str (Str.ofString "\n") tn) (.str text tt) (.int 0 tp)), (x, ioObj 816 dx), (dx, lexDict w.params ks ts io pb fs (Str.ofString "#") wc false (.str (Str.ofString " ") (ts 11)) (.str (Str.ofString "") (ts 15)))]) (fun q hq => hq) (fun q hq => .inl hq)
  refine ⟨rfl, ?_⟩
  have os₁ := a.os
  have br₁ := a.bare
  have n1 : @Ne Nat x dx := Nat.ne_of_gt lx
  clear F N F' N' a
  dsimp only
  walk_at "m:steps"
  refine Held.put ?_
  rename News _ _ _ _ => N9
  rename Fr _ _ _ _ => F9
  have N10 := perm6 (pb := pb) (fs := fs) (x := x) (dx := dx) (io := io) (dio := dio) (o4 := lexDict w.params ks (fun i => if i = 4 then _ else ts i) io pb fs (Str.ofString "") wc true (.str (Str.ofString " ") (ts 11)) (.str (Str.ofString "") (ts 15))) N9 (by k_mem) (by k_mem) (by k_mem) (List.mem_cons_of_mem _ (List.mem_cons_of_mem _ (List.mem_cons_of_mem _ (List.mem_cons_of_mem _ (List.mem_cons_of_mem _ (List.mem_cons_self ..)))))) (by k_mem) (by k_mem)
  have none9 : ∀ b ∈ [pb, fs, x, dx, io, dio], g.get? b = none ∧ b ≠ L := fun b hb => news6_none N10 hb
  have sg : ∀ b o, s.heap.get? b = some o → g.get? b = some o := fun b o e => hkg b o e (fun z => (nomatch z))
  have gL : g.get? L = none := Heap.get?_none_of_le F9.above
  have ns := F9.ns
  refine list_lex (p := 0) F9 Xg Tg ?d hh (Around.frames_deeper hA) ?fr N10 n1 m2.symm m4.symm m3.symm m5.symm m1 m6 m7 m8 m9 m10 m11 m12 m13 hl (Nat.zero_le _) hw1 hw2 (toks := toks) (hlex _) hn ?q
  case d => show A.depth + 1 + 20 < recursionLimit; omega
  case fr =>
    intro env he
    rcases List.mem_cons.mp he with rfl | he
    · obtain ⟨oL, es, ep, hL, hdat, -⟩ := ns
      exact ⟨fun z => (nomatch z), L, oL, rfl, hL, fun vs z => (by rw [hdat] at z; cases z), fun z => (none9 L z).2 rfl⟩
    · obtain ⟨k, L', o, e, gg, nf, -⟩ := hfr env he
      exact ⟨k, L', o, e, F9.keep _ _ (sg _ _ gg), nf, fun z => by have := (none9 L' z).1; rw [sg _ _ gg] at this; cases this⟩
  case q =>
    intro s' ys c' aS hnone hS hys
    have n6' : ∀ b o, s.heap.get? b = some o → b ∉ [pb, fs, x, dx, io, dio] := fun b o e z => by have := (none9 b z).1; rw [sg _ _ e] at this; cases this
    have nL : ∀ b o, s.heap.get? b = some o → b ≠ L := fun b o e z => by rw [z] at e; rw [sg _ _ e] at gL; cases gL
    refine hR s' _ ys c' ⟨fun b o e q1 q2 => aS.keep b o (F9.keep _ _ (sg _ _ e)) (n6' b o e) (fun z => ?_), fun b o e q1 nf => aS.up b o (F9.keep _ _ (sg _ _ e)) (n6' b o e) nf, aS.os.trans os₁, fun z => aS.bare (br₁ z)⟩ ?_ hS hys
    · rw [List.filterMap_cons] at z
      rcases List.mem_cons.mp z with z | z
      · exact nL b o e z
      · exact q2 z
    · cases e : s.heap.get? _ with
      | none => rfl
      | some o => have := F9.keep _ _ (sg _ _ e); rw [this] at hnone; cases hnone
theorem core : Pf w A s H loose mg mb R text tt toks outer := by
  unfold Pf
  intro X T hk hd hh hA hfr hl hlex hn hR
  exact pk.2  X T hk hd hh hA hfr hl hlex hn hR fun g L h₁ => eps_all ne2 Q2 (by with_unfolding_all exact core2) (g, L, h₁)  X T hk hd hh hA hfr hl hlex hn hR
theorem all (y : T) : Q_ y := eps_all ne Q_ (by with_unfolding_all exact core) y
end G5
end
section
theorem split_raw {w : World} {A : Around} {s : Shared} {H : Heap} {loose : List Str} {mg mb : Str → Option Value} {R : Result → Shared → Prop} {text : Str} {tt : Tok} {toks : List (List Nat)} {outer : List Env}
  (X : (hd.heap_39 w.params).In H) (T : TopRead Mine.hd.view_39 loose mg mb H) (hk : ∀ b o, H.get? b = some o → s.heap.get? b = some o) (hd : A.depth + 40 < recursionLimit) (hh : A.handled = none) (hA : A.frames = some outer) (hfr : FrOk s.heap outer [])
  (hl : text.length ≤ 1000000) (hlex : ∀ t0, LexTo (.str (Str.ofString " ") t0) text.cps.toList toks) (hn : toks.length ≤ 1000000)
  (hR : ∀ s' S ys c, AftS s s' [] (outer.filterMap (·.frame)) → s.heap.get? S = none → s'.heap.get? S = some (listOf ys c) → StrsAre ys.toList (toks.map fun l => ⟨l.toArray⟩) → R (.ok (.ret (.ref S))) s') :
  codeAny (model PG w) A (.call (.ref 828) ⟨[.str text tt], []⟩) R s :=
  G5.all (w, A, s, H, loose, mg, mb, R, text, tt, toks, outer) X T hk hd hh hA hfr hl hlex hn hR
end
-- text ZPL
section
noncomputable def lstep : LS × List Nat × Bool → Nat → Option (LS × List Nat × Bool)
  | (.sp, tok, qd), c => if c = 32 then none else if c = 39 then some (.q 39, tok, qd) else if c = 34 ∨ c = 9 ∨ c = 13 ∨ c = 10 ∨ c = 92 then none else some (.a, [c], qd)
  | (.a, tok, qd), c => if c = 32 then none else if c = 39 ∨ c = 34 then some (.q c, tok, qd) else if c = 9 ∨ c = 13 ∨ c = 10 ∨ c = 92 then none else some (.a, tok ++ [c], qd)
  | (.q k, tok, _), c => if c = k then some (.a, tok, true) else if c = 92 ∨ c = 10 then none else some (.q k, tok ++ [c], true)
noncomputable def lsteps : LS × List Nat × Bool → List Nat → Option (LS × List Nat × Bool)
  | st, [] => some st
  | st, c :: cs => match lstep st c with | none => none | some st' => lsteps st' cs
theorem lexRun_step {ls : LS} {tok : List Nat} {qd : Bool} {c : Nat} {ls' : LS} {tok' : List Nat} {qd' : Bool} (h : lstep (ls, tok, qd) c = some (ls', tok', qd')) (cs : List Nat) : lexRun ls tok qd (c :: cs) = lexRun ls' tok' qd' cs := by
  cases ls with
  | sp =>
    simp only [lstep] at h
    split at h
    · cases h
    · rename_i h32
      split at h
      · rename_i h39; cases h; conv => lhs; unfold lexRun
        rw [if_neg h32, if_pos h39]
      · rename_i h39
        split at h
        · cases h
        · rename_i hb; cases h; conv => lhs; unfold lexRun
          rw [if_neg h32, if_neg h39, if_neg hb]
  | a =>
    simp only [lstep] at h
    split at h
    · cases h
    · rename_i h32
      split at h
      · rename_i h39; cases h; conv => lhs; unfold lexRun
        rw [if_neg h32, if_pos h39]
      · rename_i h39
        split at h
        · cases h
        · rename_i hb; cases h; conv => lhs; unfold lexRun
          rw [if_neg h32, if_neg h39, if_neg hb]
  | q k =>
    simp only [lstep] at h
    split at h
    · rename_i hk; cases h; conv => lhs; unfold lexRun
      rw [if_pos hk]
    · rename_i hk
      split at h
      · cases h
      · rename_i hb; cases h; conv => lhs; unfold lexRun
        rw [if_neg hk, if_neg hb]
theorem lexRun_steps : ∀ (l : List Nat) {ls : LS} {tok : List Nat} {qd : Bool} {ls' : LS} {tok' : List Nat} {qd' : Bool}, lsteps (ls, tok, qd) l = some (ls', tok', qd') → ∀ cs, lexRun ls tok qd (l ++ cs) = lexRun ls' tok' qd' cs
  | [], _, _, _, _, _, _, h, cs => by unfold lsteps at h; cases h; rfl
  | c :: l, ls, tok, qd, ls', tok', qd', h, cs => by
    unfold lsteps at h
    split at h
    · cases h
    · rename_i st' hs
      obtain ⟨l1, t1, q1⟩ := st'
      rw [List.cons_append, lexRun_step hs]
      exact lexRun_steps l h cs
noncomputable def Good (sign word : Str) : Prop := (∃ qd, lsteps (.sp, [], false) sign.cps.toList = some (.a, word.cps.toList, qd) ∧ (qd = true ∨ word.cps.toList ≠ [])) ∧ (∃ c ∈ sign.cps.toList, Unicode.isSpace c = false) ∧ sign.length ≤ 40 ∧ (∀ c ∈ sign.cps.toList, c < 0x110000) ∧ ∀ c ∈ word.cps.toList, c < 0x110000
noncomputable def goodB (sign : List Nat) (word : List Nat) : Bool := (match lsteps (.sp, [], false) sign with | some (.a, w, qd) => w == word && (qd || !w.isEmpty) | _ => false) && (sign.any fun c => !Unicode.isSpace c) && decide (sign.length ≤ 40) && (sign.all fun c => decide (c < 0x110000)) && word.all fun c => decide (c < 0x110000)
theorem good_of {sign word : Str} (h : goodB sign.cps.toList word.cps.toList = true) : Good sign word := by
  unfold goodB at h
  simp only [Bool.and_eq_true, decide_eq_true_eq] at h
  obtain ⟨⟨⟨⟨h1, h2⟩, h3⟩, h4⟩, h5⟩ := h
  refine ⟨?_, ?_, ?_, fun c hc => by simpa using List.all_eq_true.mp h4 c hc, fun c hc => by simpa using List.all_eq_true.mp h5 c hc⟩
  · split at h1
    · rename_i w qd e
      simp only [Bool.and_eq_true, Bool.or_eq_true, beq_iff_eq] at h1
      obtain ⟨rfl, h1⟩ := h1
      refine ⟨qd, e, ?_⟩
      rcases h1 with h1 | h1
      · exact .inl h1
      · right; intro q; rw [q] at h1; cases h1
    · cases h1
  · obtain ⟨c, hc, h⟩ := List.any_eq_true.mp h2
    exact ⟨c, hc, by simpa using h⟩
  · rw [Array.length_toList] at h3; exact h3
theorem quote_good_all : ∀ w ∈ wordsTo 4, goodB (quoteOf ⟨w.toArray⟩).cps.toList w = true := by decide +kernel
theorem quote_good {x : Str} (hx : x.cps.toList ∈ wordsTo 4) : Good (quoteOf x) x := by
  have := quote_good_all _ hx
  rw [show (⟨x.cps.toList.toArray⟩ : Str) = x from by cases x; simp] at this
  exact good_of this
theorem fm_plain : ∀ c ∈ fmSet, c ≠ 32 ∧ c ≠ 9 ∧ c ≠ 13 ∧ c ≠ 10 ∧ c ≠ 39 ∧ c ≠ 34 ∧ c ≠ 92 ∧ Unicode.isSpace c = false ∧ c < 0x110000 := by decide +kernel
theorem lsteps_plain : ∀ (l : List Nat) (tok : List Nat) (qd : Bool), (∀ c ∈ l, c ∈ fmSet) → lsteps (.a, tok, qd) l = some (.a, tok ++ l, qd)
  | [], tok, qd, _ => by simp [lsteps]
  | c :: l, tok, qd, h => by
    have p := fm_plain c (h c (List.mem_cons_self ..))
    have e : lstep (.a, tok, qd) c = some (.a, tok ++ [c], qd) := by
      simp only [lstep]
      rw [if_neg p.1, if_neg (by omega), if_neg (by omega)]
    unfold lsteps
    rw [e]
    show lsteps (.a, tok ++ [c], qd) l = _
    rw [lsteps_plain l _ _ fun c hc => h c (List.mem_cons_of_mem _ hc)]
    simp
theorem join_signs : ∀ (xs : List Str), (∀ x ∈ xs, Ok1 x) → ∃ l : List Nat, (Str.join (Str.ofString "") xs).cps.toList = l ∧ l.length = xs.length ∧ ∀ c ∈ l, c ∈ fmSet
  | [], _ => ⟨[], rfl, rfl, fun _ h => (nomatch h)⟩
  | [x], h => by
    obtain ⟨c, hc, hm⟩ := h x (List.mem_cons_self ..)
    refine ⟨[c], ?_, rfl, fun d hd => ?_⟩
    · show x.cps.toList = [c]
      rw [hc]
    · rw [List.mem_singleton.mp hd]; exact hm
  | x :: y :: r, h => by
    obtain ⟨c, hc, hm⟩ := h x (List.mem_cons_self ..)
    obtain ⟨l, e, n, hl⟩ := join_signs (y :: r) fun z hz => h z (List.mem_cons_of_mem _ hz)
    refine ⟨c :: l, ?_, by simp [n], fun d hd => ?_⟩
    · show ((x ++ Str.ofString "") ++ Str.join (Str.ofString "") (y :: r)).cps.toList = c :: l
      rw [Str.cps_append, Str.cps_append, Array.toList_append, Array.toList_append, e, hc]
      rfl
    · rcases List.mem_cons.mp hd with rfl | hd
      · exact hm
      · exact hl d hd
theorem fm_good {y : Str} (h : ∃ xs : List Str, y = Str.join (Str.ofString "") xs ∧ xs.length = 10 ∧ ∀ x ∈ xs, Ok1 x) : Good y y := by
  obtain ⟨xs, rfl, h10, hx⟩ := h
  obtain ⟨l, e, n, hl⟩ := join_signs xs hx
  rw [h10] at n
  unfold Good
  rw [e]
  match l, n, hl with
  | c :: l, n, hl =>
    have p := fm_plain c (hl c (List.mem_cons_self ..))
    refine ⟨⟨false, ?_, .inr (by simp)⟩, ⟨c, List.mem_cons_self .., p.2.2.2.2.2.2.2.1⟩, ?_, fun d hd => (fm_plain d (hl d hd)).2.2.2.2.2.2.2.2, fun d hd => (fm_plain d (hl d hd)).2.2.2.2.2.2.2.2⟩
    · have e1 : lstep (.sp, [], false) c = some (.a, [c], false) := by
        simp only [lstep]
        rw [if_neg p.1, if_neg (by omega), if_neg (by omega)]
      unfold lsteps
      rw [e1]
      show lsteps (.a, [c], false) l = _
      rw [lsteps_plain l _ _ fun c hc => hl c (List.mem_cons_of_mem _ hc)]
      rfl
    · show (Str.join (Str.ofString "") xs).cps.size ≤ 40
      rw [← Array.length_toList, e, n]; decide
end
-- text ZPL2
section
theorem lex_blank (t0 : Tok) (cs : List Nat) {toks : List (List Nat)} (h : LexTo (.str (Str.ofString " ") t0) cs toks) : LexTo (.str (Str.ofString " ") t0) (32 :: cs) toks := by
  have e : ∀ rtk qd ended rest, RunFrom (.str (Str.ofString " ") t0) cs rtk qd ended rest → RunFrom (.str (Str.ofString " ") t0) (32 :: cs) rtk qd ended rest := by
    rintro rtk qd ended rest (⟨t1, h1, h2⟩ | ⟨h1, _⟩)
    · refine .inl ⟨t1, h1, ?_⟩
      rw [← h2]
      conv => lhs; unfold lexRun
      rw [if_pos rfl]
    · cases h1
  cases toks with
  | nil =>
    obtain ⟨rtk, qd, ended, rest, h1, h2⟩ := h
    exact ⟨rtk, qd, ended, rest, e _ _ _ _ h1, h2⟩
  | cons tk toks =>
    obtain ⟨qd, ended, rest, h1, h2⟩ := h
    exact ⟨qd, ended, rest, e _ _ _ _ h1, h2⟩
theorem lex_blanks (t0 : Tok) : ∀ (n : Nat) (cs : List Nat) {toks : List (List Nat)}, LexTo (.str (Str.ofString " ") t0) cs toks → LexTo (.str (Str.ofString " ") t0) (List.replicate n 32 ++ cs) toks
  | 0, _, _, h => h
  | n + 1, cs, _, h => lex_blank t0 _ (lex_blanks t0 n cs h)
noncomputable def flat (pr : List (Str × Str)) : List Nat := pr.flatMap fun p => p.1.cps.toList ++ p.2.cps.toList
theorem textOf_flat : ∀ pr : List (Str × Str), (textOf pr).cps.toList = flat pr := by
  intro pr
  unfold textOf Txt.join
  rw [StrLaws.glued_eq_join]
  induction pr with
  | nil => rfl
  | cons p pr ih =>
    cases pr with
    | nil =>
      show (p.1 ++ p.2).cps.toList = _
      rw [Str.cps_append, Array.toList_append]; simp [flat]
    | cons q r =>
      show ((cat2 p ++ Str.ofString "") ++ Str.join (Str.ofString "") ((q :: r).map cat2)).cps.toList = _
      rw [Str.cps_append, Str.cps_append, Array.toList_append, Array.toList_append, ih]
      show ((p.1 ++ p.2).cps.toList ++ [] ++ flat (q :: r)) = _
      rw [Str.cps_append, Array.toList_append]; simp [flat]
noncomputable def PairOk (p : Str × Str) : Prop := (∃ n : Nat, p.1.cps.toList = List.replicate (n + 1) 32 ∧ n ≤ 1) ∧ ∃ word, Good p.2 word
theorem flat_lex (t0 : Tok) : ∀ (pr : List (Str × Str)) (ws : List Str), (∀ p ∈ pr, ∃ n : Nat, p.1.cps.toList = List.replicate (n + 1) 32) → pr.length = ws.length → (∀ (i : Nat) p w, pr[i]? = some p → ws[i]? = some w → Good p.2 w) → LexTo (.str (Str.ofString " ") t0) (flat pr) (ws.map fun x => x.cps.toList)
  | [], [], _, _, _ => ⟨[], false, true, [], .inl ⟨t0, rfl, by unfold lexRun; rfl⟩, rfl, rfl⟩
  | p :: pr, w :: ws, hb, hl, hg => by
    obtain ⟨n, hn⟩ := hb p (List.mem_cons_self ..)
    obtain ⟨⟨qd, hs, hq⟩, _⟩ := hg 0 p w rfl rfl
    have ih := fun t1 => flat_lex t1 pr ws (fun q hq => hb q (List.mem_cons_of_mem _ hq)) (by simpa using hl) fun i q v e1 e2 => hg (i + 1) q v (by simpa using e1) (by simpa using e2)
    have e : flat (p :: pr) = List.replicate (n + 1) 32 ++ (p.2.cps.toList ++ flat pr) := by simp [flat, hn]
    rw [e]
    apply lex_blanks
    have hne : ¬ (qd = false ∧ w.cps.toList = []) := fun z => by rcases hq with h | h; (rw [z.1] at h; cases h); exact h z.2
    cases pr with
    | nil =>
      have hws : ws = [] := by cases ws with | nil => rfl | cons _ _ => simp at hl
      subst hws
      refine ⟨qd, true, [], .inl ⟨t0, rfl, ?_⟩, hne, fun t1 => ⟨[], false, true, [], .inr ⟨rfl, rfl, rfl, rfl, rfl, rfl⟩, rfl, rfl⟩⟩
      rw [lexRun_steps _ hs]
      show lexRun .a w.cps.toList qd [] = _
      unfold lexRun; rfl
    | cons q r =>
      obtain ⟨k, hk⟩ := hb q (List.mem_cons_of_mem _ (List.mem_cons_self ..))
      have e2 : flat (q :: r) = 32 :: (List.replicate k 32 ++ (q.2.cps.toList ++ flat r)) := by simp [flat, hk, List.replicate_succ]
      refine ⟨qd, false, List.replicate k 32 ++ (q.2.cps.toList ++ flat r), .inl ⟨t0, rfl, ?_⟩, hne, fun t1 => ?_⟩
      · rw [lexRun_steps _ hs, e2]
        conv => lhs; unfold lexRun
        rw [if_pos rfl]
      · have h1 := ih t1
        rw [e2] at h1
        show LexTo (.str (Str.ofString " ") t1) _ _
        exact unblank t1 h1
where
  unblank {cs : List Nat} {toks : List (List Nat)} (t1 : Tok) (h : LexTo (.str (Str.ofString " ") t1) (32 :: cs) toks) : LexTo (.str (Str.ofString " ") t1) cs toks := by
    have e : ∀ rtk qd ended rest, RunFrom (.str (Str.ofString " ") t1) (32 :: cs) rtk qd ended rest → RunFrom (.str (Str.ofString " ") t1) cs rtk qd ended rest := by
      rintro rtk qd ended rest (⟨t2, h1, h2⟩ | ⟨h1, _⟩)
      · refine .inl ⟨t2, h1, ?_⟩
        rw [← h2]
        conv => rhs; unfold lexRun
        rw [if_pos rfl]
      · cases h1
    cases toks with
    | nil =>
      obtain ⟨rtk, qd, ended, rest, h1, h2⟩ := h
      exact ⟨rtk, qd, ended, rest, e _ _ _ _ h1, h2⟩
    | cons tk toks =>
      obtain ⟨qd, ended, rest, h1, h2⟩ := h
      exact ⟨qd, ended, rest, e _ _ _ _ h1, h2⟩
theorem flat_space {pr : List (Str × Str)} (hg : ∀ p ∈ pr, PairOk p) (hne : pr ≠ []) : Txt.isspace (textOf pr) = false := by
  match pr, hne with
  | p :: pr, _ =>
    obtain ⟨_, w, _, ⟨c, hc, hs⟩, _⟩ := hg p (List.mem_cons_self ..)
    unfold Txt.isspace
    rw [Bool.and_eq_false_iff]
    right
    rw [← Array.all_toList, textOf_flat]
    rw [List.all_eq_false]
    exact ⟨c, by simp [flat, hc], by simp [hs]⟩
theorem pair_len {p : Str × Str} (h : PairOk p) : p.1.length + p.2.length ≤ 42 ∧ 1 ≤ p.1.length + p.2.length := by
  obtain ⟨⟨n, hn, h1⟩, w, _, _, h40, _⟩ := h
  have : p.1.length = n + 1 := by
    show p.1.cps.size = _
    rw [← Array.length_toList, hn, List.length_replicate]
  omega
theorem pairs_sum : ∀ {pr : List (Str × Str)}, (∀ p ∈ pr, PairOk p) → (pr.map fun p => p.1.length + p.2.length).sum ≤ 42 * pr.length ∧ pr.length ≤ (pr.map fun p => p.1.length + p.2.length).sum
  | [], _ => by simp
  | p :: pr, h => by
    have h1 := pair_len (h p (List.mem_cons_self ..))
    have h2 := pairs_sum (pr := pr) fun q hq => h q (List.mem_cons_of_mem _ hq)
    simp only [List.map_cons, List.sum_cons, List.length_cons]
    omega
theorem textOf_len (pr : List (Str × Str)) : (textOf pr).length = (pr.map fun p => p.1.length + p.2.length).sum := by
  show (textOf pr).cps.size = _
  rw [← Array.length_toList, textOf_flat]
  induction pr with
  | nil => rfl
  | cons p pr ih =>
    simp only [flat, List.flatMap_cons, List.length_append, List.map_cons, List.sum_cons]
    simp only [flat] at ih
    rw [ih]
    rfl
end
-- text ZLB
section
noncomputable def ItemsN (tl : List (Addr × Obj)) (its : Array Value) (pr : List (Str × Str)) : Prop :=
  its.size = pr.length ∧ ∀ (j : Nat) (p : Str × Str), pr[j]? = some p → ∃ (T : Addr) (ta tb : Tok), its[j]? = some (.ref T) ∧ (T, tupObj p.1 p.2 ta tb) ∈ tl
section
variable {tl tl' : List (Addr × Obj)} {its jts : Array Value} {pr qr : List (Str × Str)} {h : Heap}
theorem ItemsN.items (x : ItemsN tl its pr) (N : ∀ p ∈ tl, h.get? p.1 = some p.2) : Items h its pr :=
  ⟨x.1, fun j p e => let ⟨T, ta, tb, a, b⟩ := x.2 j p e; ⟨T, ta, tb, a, _, N _ b, rfl, _, rfl⟩⟩
theorem ItemsN.mono (x : ItemsN tl its pr) (k : ∀ p ∈ tl, p ∈ tl') : ItemsN tl' its pr :=
  ⟨x.1, fun j p e => let ⟨T, ta, tb, a, b⟩ := x.2 j p e; ⟨T, ta, tb, a, k _ b⟩⟩
theorem ItemsN.nil : ItemsN tl #[] [] := ⟨rfl, fun j p e => by simp at e⟩
theorem ItemsN.push {T : Addr} {a b : Str} {ta tb : Tok} (x : ItemsN tl its pr) (k : (T, tupObj a b ta tb) ∈ tl) : ItemsN tl (its.push (.ref T)) (pr ++ [(a, b)]) := by
  refine ⟨by rw [Array.size_push, x.1, List.length_append]; rfl, fun j p e => ?_⟩
  by_cases hj : j < pr.length
  · rw [List.getElem?_append_left hj] at e
    obtain ⟨T', ta', tb', h1, h2⟩ := x.2 j p e
    exact ⟨T', ta', tb', by rw [Array.getElem?_push_lt (by rw [x.1]; exact hj)]; rw [← h1, Array.getElem?_eq_getElem (by rw [x.1]; exact hj)], h2⟩
  · rw [List.getElem?_append_right (by omega)] at e
    have hj2 : j - pr.length = 0 := by
      cases hq : j - pr.length with
      | zero => rfl
      | succ n => rw [hq] at e; simp at e
    rw [hj2] at e
    cases e
    have : j = its.size := by rw [x.1]; omega
    subst this
    exact ⟨T, ta, tb, by simp, k⟩
theorem ItemsN.list (x : ItemsN tl its pr) : its.toList.length = pr.length ∧ ∀ (j : Nat) (p : Str × Str), pr[j]? = some p → ∃ (T : Addr) (ta tb : Tok), its.toList[j]? = some (.ref T) ∧ (T, tupObj p.1 p.2 ta tb) ∈ tl :=
  ⟨by rw [Array.length_toList]; exact x.1, fun j p e => let ⟨T, ta, tb, a, b⟩ := x.2 j p e; ⟨T, ta, tb, by rw [Array.getElem?_toList]; exact a, b⟩⟩
theorem ItemsN.ofList {l : List Value} (h1 : l.length = pr.length) (h2 : ∀ (j : Nat) (p : Str × Str), pr[j]? = some p → ∃ (T : Addr) (ta tb : Tok), l[j]? = some (.ref T) ∧ (T, tupObj p.1 p.2 ta tb) ∈ tl) : ItemsN tl l.toArray pr :=
  ⟨by rw [List.size_toArray]; exact h1, fun j p e => let ⟨T, ta, tb, a, b⟩ := h2 j p e; ⟨T, ta, tb, by rw [List.getElem?_toArray]; exact a, b⟩⟩
theorem ItemsN.take (x : ItemsN tl its pr) (n : Nat) : ItemsN tl (its.toList.take n).toArray (pr.take n) := by
  obtain ⟨h1, h2⟩ := x.list
  refine .ofList (by rw [List.length_take, List.length_take, h1]) fun j p e => ?_
  by_cases hj : j < n
  · rw [List.getElem?_take_of_lt hj] at e ⊢
    exact h2 j p e
  · rw [List.getElem?_take_eq_none (by omega)] at e; cases e
theorem ItemsN.drop (x : ItemsN tl its pr) (n : Nat) : ItemsN tl (its.toList.drop n).toArray (pr.drop n) := by
  obtain ⟨h1, h2⟩ := x.list
  refine .ofList (by rw [List.length_drop, List.length_drop, h1]) fun j p e => ?_
  rw [List.getElem?_drop] at e ⊢
  exact h2 _ p e
theorem ItemsN.rev (x : ItemsN tl its pr) : ItemsN tl its.toList.reverse.toArray pr.reverse := by
  obtain ⟨h1, h2⟩ := x.list
  refine .ofList (by rw [List.length_reverse, List.length_reverse, h1]) fun j p e => ?_
  have hj : j < pr.length := by
    have := (List.getElem?_eq_some_iff.mp e).1
    rw [List.length_reverse] at this; exact this
  rw [List.getElem?_reverse hj] at e
  rw [List.getElem?_reverse (by rw [h1]; exact hj), h1]
  exact h2 _ p e
theorem ItemsN.app (x : ItemsN tl its pr) (y : ItemsN tl jts qr) : ItemsN tl (its ++ jts) (pr ++ qr) := by
  refine ⟨by rw [Array.size_append, List.length_append, x.1, y.1], fun j p e => ?_⟩
  by_cases hj : j < pr.length
  · rw [List.getElem?_append_left hj] at e
    obtain ⟨T', ta', tb', h1, h2⟩ := x.2 j p e
    exact ⟨T', ta', tb', by rw [Array.getElem?_append_left (by rw [x.1]; exact hj)]; exact h1, h2⟩
  · rw [List.getElem?_append_right (by omega)] at e
    obtain ⟨T', ta', tb', h1, h2⟩ := y.2 _ p e
    exact ⟨T', ta', tb', by rw [Array.getElem?_append_right (by rw [x.1]; omega), x.1]; exact h1, h2⟩
theorem ItemsN.last {p : Str × Str} (x : ItemsN tl its (pr ++ [p])) : ∃ ys T ta tb, its = ys.push (.ref T) ∧ ItemsN tl ys pr ∧ (T, tupObj p.1 p.2 ta tb) ∈ tl := by
  have hsz : its.size = pr.length + 1 := by rw [x.1]; simp
  obtain ⟨T, ta, tb, h1, h2⟩ := x.2 pr.length p (by simp)
  have hb : its.back? = some (.ref T) := by rw [Array.back?_eq_getElem?, hsz]; exact h1
  refine ⟨its.pop, T, ta, tb, ?_, ⟨by rw [Array.size_pop, hsz]; rfl, fun j q e => ?_⟩, h2⟩
  · apply Array.ext
    · rw [Array.size_push, Array.size_pop]; omega
    · intro i h3 h4
      by_cases hi : i < its.pop.size
      · rw [Array.getElem_push_lt hi, Array.getElem_pop]
      · have hi2 : i = its.pop.size := by rw [Array.size_push] at h4; omega
        subst hi2
        rw [Array.getElem_push_eq]
        have e2 : its.pop.size = pr.length := by rw [Array.size_pop]; omega
        have h5 : its[its.pop.size]? = some (.ref T) := by rw [e2]; exact h1
        rw [Array.getElem?_eq_getElem h3] at h5
        exact Option.some.inj h5
  · have hj : j < pr.length := (List.getElem?_eq_some_iff.mp e).1
    obtain ⟨T', ta', tb', h3, h4⟩ := x.2 j q (by rw [List.getElem?_append_left hj]; exact e)
    refine ⟨T', ta', tb', ?_, h4⟩
    rw [Array.getElem?_pop, if_pos (by omega)]
    exact h3
end
noncomputable def pd (p : Str × Str) : PyData := .tuple [.str p.1, .str p.2]
theorem reads_pairs {h : Heap} : ∀ (vs : List Value) (pr : List (Str × Str)), vs.length = pr.length → (∀ (j : Nat) (p : Str × Str), pr[j]? = some p → ∃ (T : Addr) (ta tb : Tok), vs[j]? = some (.ref T) ∧ h.IsTuple T #[.str p.1 ta, .str p.2 tb]) → ∃ as, ReadsAll h vs (pr.map pd) as
  | [], [], _, _ => ⟨[], .nil⟩
  | v :: vs, p :: pr, hl, hx => by
    obtain ⟨as, ih⟩ := reads_pairs vs pr (by simpa using hl) fun j q e => by
      have := hx (j + 1) q (by simpa using e)
      simpa using this
    obtain ⟨T, ta, tb, e, o, ho, hc, n, hd⟩ := hx 0 p rfl
    cases e
    exact ⟨_, .cons (reads_tuple_at ho hc hd (.cons (Reads.str _ _) (.cons (Reads.str _ _) .nil))) ih⟩
theorem Items.reads {h : Heap} {its : Array Value} {pr : List (Str × Str)} (x : Items h its pr) : ∃ as, ReadsAll h its.toList (pr.map pd) as :=
  reads_pairs _ _ (by rw [Array.length_toList]; exact x.1) fun j p e => let ⟨T, ta, tb, a, b⟩ := x.2 j p e; ⟨T, ta, tb, by rw [Array.getElem?_toList]; exact a, b⟩
noncomputable def CpOk (x : Str) : Prop := ∀ c ∈ x.cps.toList, c < 0x110000
theorem CpOk.ok {x : Str} (h : CpOk x) : x.cps.all (· < 0x110000) = true := by
  rw [← Array.all_toList, List.all_eq_true]
  exact fun c hc => decide_eq_true (h c hc)
theorem pairs_lay : ∀ (pr : List (Str × Str)), (∀ p ∈ pr, CpOk p.1 ∧ CpOk p.2) → PyData.canLayAll0 (pr.map pd) = true ∧ PyData.depthAll (pr.map pd) ≤ 1
  | [], _ => by simp [PyData.canLayAll0, PyData.depthAll]
  | p :: pr, h => by
    obtain ⟨h1, h2⟩ := pairs_lay pr fun q hq => h q (List.mem_cons_of_mem _ hq)
    obtain ⟨k1, k2⟩ := h p (List.mem_cons_self ..)
    have e1 : PyData.strOk p.1 = true := k1.ok
    have e2 : PyData.strOk p.2 = true := k2.ok
    refine ⟨?_, ?_⟩
    · simp only [List.map_cons, PyData.canLayAll0, pd, PyData.canLay0, e1, e2, h1, Bool.and_self]
    · simp only [List.map_cons, PyData.depthAll, pd, PyData.depth]
      omega
theorem pairs_shaped {pr : List (Str × Str)} (h : ∀ p ∈ pr, CpOk p.1 ∧ CpOk p.2) : SeqAt.shaped (.list (pr.map pd)) = true := by
  obtain ⟨h1, h2⟩ := pairs_lay pr h
  unfold SeqAt.shaped
  simp only [PyData.canLay0, PyData.depth, h1, Bool.true_and]
  exact decide_eq_true (by omega)
theorem pair_shaped {p : Str × Str} (h : CpOk p.1 ∧ CpOk p.2) : SeqAt.shaped (pd p) = true := by
  have e1 : PyData.strOk p.1 = true := h.1.ok
  have e2 : PyData.strOk p.2 = true := h.2.ok
  unfold SeqAt.shaped pd
  simp only [PyData.canLay0, PyData.canLayAll0, PyData.depth, PyData.depthAll, e1, e2, Bool.and_self, Bool.true_and]
  exact decide_eq_true (by omega)
theorem pd_eqv (p : Str × Str) : PyData.eqv (pd p) (pd p) = true := by
  simp [pd, PyData.eqv, PyData.eqvAll]
theorem pairs_eqv : ∀ pr : List (Str × Str), PyData.eqvAll (pr.map pd) (pr.map pd) = true
  | [] => by simp [PyData.eqvAll]
  | p :: pr => by simp only [List.map_cons, PyData.eqvAll, pd_eqv, pairs_eqv pr, Bool.and_self]
theorem strs_lay : ∀ (ws : List Str), (∀ p ∈ ws, CpOk p) → PyData.canLayAll0 (ws.map PyData.str) = true ∧ PyData.depthAll (ws.map PyData.str) ≤ 1
  | [], _ => by simp [PyData.canLayAll0, PyData.depthAll]
  | p :: ws, h => by
    obtain ⟨h1, h2⟩ := strs_lay ws fun q hq => h q (List.mem_cons_of_mem _ hq)
    have e1 : PyData.strOk p = true := (h p (List.mem_cons_self ..)).ok
    refine ⟨?_, ?_⟩
    · simp only [List.map_cons, PyData.canLayAll0, PyData.canLay0, e1, h1, Bool.and_self]
    · simp only [List.map_cons, PyData.depthAll, PyData.depth]
      omega
theorem strs_shaped {ws : List Str} (h : ∀ p ∈ ws, CpOk p) : SeqAt.shaped (.list (ws.map PyData.str)) = true := by
  obtain ⟨h1, h2⟩ := strs_lay ws h
  unfold SeqAt.shaped
  simp only [PyData.canLay0, PyData.depth, h1, Bool.true_and]
  exact decide_eq_true (by omega)
theorem strs_eqv : ∀ ws : List Str, PyData.eqvAll (ws.map PyData.str) (ws.map PyData.str) = true
  | [] => by simp [PyData.eqvAll]
  | p :: ws => by simp only [List.map_cons, PyData.eqvAll, PyData.eqv, beq_self_eq_true, strs_eqv ws, Bool.and_self]
theorem reads_strs {h : Heap} : ∀ {vs : List Value} {ws : List Str}, StrsAre vs ws → ∃ as, ReadsAll h vs (ws.map PyData.str) as
  | _, _, .nil => ⟨[], .nil⟩
  | _, _, .cons _ _ r => let ⟨_, ih⟩ := reads_strs r; ⟨_, .cons (Reads.str _ _) ih⟩
noncomputable def PairD (D : List (PyData × PyData)) (p : Str × Str) : Prop := (∃ n : Nat, p.1.cps.toList = List.replicate (n + 1) 32 ∧ n ≤ 1) ∧ ∃ word, Spec.lookup (.str p.2) D = some (.str word) ∧ Good p.2 word
theorem PairD.ok {D : List (PyData × PyData)} {p : Str × Str} (x : PairD D p) : PairOk p := ⟨x.1, let ⟨w, _, g⟩ := x.2; ⟨w, g⟩⟩
theorem PairD.cp {D : List (PyData × PyData)} {p : Str × Str} (x : PairD D p) : CpOk p.1 ∧ CpOk p.2 := by
  obtain ⟨⟨n, e, _⟩, w, _, g⟩ := x
  refine ⟨fun c hc => ?_, g.2.2.2.1⟩
  rw [e] at hc
  rw [List.eq_of_mem_replicate hc]; decide
theorem PairD.put {D : List (PyData × PyData)} {p : Str × Str} {sign word : Str} (x : PairD D p) (g : Good sign word) : PairD (PyProof.V.putD (.str sign) (.str word) D) p := by
  refine ⟨x.1, ?_⟩
  obtain ⟨w, e, gw⟩ := x.2
  by_cases hs : p.2 = sign
  · exact ⟨word, by rw [lookup_putD_str, if_pos hs], hs ▸ g⟩
  · exact ⟨w, by rw [lookup_putD_str, if_neg hs]; exact e, gw⟩
theorem PairD.new {D : List (PyData × PyData)} {n : Nat} {blank sign word : Str} (hb : blank.cps.toList = List.replicate (n + 1) 32) (hn : n ≤ 1) (g : Good sign word) : PairD (PyProof.V.putD (.str sign) (.str word) D) (blank, sign) :=
  ⟨⟨n, hb, hn⟩, word, by rw [lookup_putD_str, if_pos rfl], g⟩
noncomputable def wordOf (D : List (PyData × PyData)) (p : Str × Str) : Str := match Spec.lookup (.str p.2) D with | some (.str w) => w | _ => Str.empty
theorem PairD.word {D : List (PyData × PyData)} {p : Str × Str} (x : PairD D p) : Spec.lookup (.str p.2) D = some (.str (wordOf D p)) ∧ Good p.2 (wordOf D p) := by
  obtain ⟨_, w, e, g⟩ := x
  have : wordOf D p = w := by unfold wordOf; rw [e]
  rw [this]; exact ⟨e, g⟩
theorem text_lex {D : List (PyData × PyData)} {pr : List (Str × Str)} (h : ∀ p ∈ pr, PairD D p) (t0 : Tok) : LexTo (.str (Str.ofString " ") t0) (textOf pr).cps.toList ((pr.map (wordOf D)).map fun x => x.cps.toList) := by
  rw [textOf_flat]
  refine flat_lex t0 pr _ (fun p hp => let ⟨n, e, _⟩ := (h p hp).1; ⟨n, e⟩) (by rw [List.length_map]) fun i p w e1 e2 => ?_
  rw [List.getElem?_map, e1] at e2
  cases e2
  exact (h p (List.mem_of_getElem? e1)).word.2
end
example : True := by
  k_with_none
  k_with "~m:enter" => (((case k1 | k2 | k3 => assumption); (case k4 => first | assumption | (intro _ hq; cases hq)); (case k6 | k7 => k_is); (case k8 => first | assumption | omega | (simp only [depth_deeper, depth_in1, recursionLimit] at *; omega)); (case k9 => first | exact BindsTo.of_eq rfl | exact binds_K (Frag.In.keeps (by assumption) (by assumption)) rfl (by k_is) rfl rfl rfl); (case c5 => decide); (case kB => exact locs rfl); (case c2 | c3 | c4 => exact rfl)))
  k_with "~k_inst" => ((refine' InstAt.of_accN ?zqN ?zqh1 ?zqh2; (case zqN => k_asm); (case zqh1 | zqh2 => k_mem)))
  k_with "~m:shadow" => ((refine shadow_of ?_; k_get))
  k_with "~getMethod ref" => ((k_here; (first
    | (refine' method_fnG ?zqk1 ?zqk2 ?zqk3 ?zqk4 ?zqk5 ?zqk6 ?zqk7 ?zqk8 ?_; k_dflt ((case zqk1 => k_in); (case zqk2 => k_inst); (case zqk3 => k_is); (case zqk4 => first | with_reducible exact canon_list_ga | with_reducible exact PySem.F.canon_object_ga | decide +kernel); (case zqk5 | zqk6 | zqk7 => k_is); (case zqk8 => walk_at "m:shadow"); k_whole))
    | (refine' method_biG ?zqk1 ?zqk2 ?zqk3 ?zqk4 ?zqk5 ?zqk6 ?zqk7 ?zqk8 ?zqk9 ?_; k_dflt ((case zqk1 => k_in); (case zqk2 => k_inst); (case zqk3 => k_is); (case zqk4 => first | with_reducible exact canon_list_ga | with_reducible exact PySem.F.canon_object_ga | decide +kernel); (case zqk5 | zqk6 | zqk7 => k_is); (case zqk8 => decide); (case zqk9 => walk_at "m:shadow"); k_whole)))))
  k_with "~call builtin:list.append" => ((k_here; (refine' append_acc ?zqk1 ?zqk2 ?zqk3 ?zqk4 ?zqk5 ?zqk6 ?_ ?zqk7; k_dflt ((case zqk1 | zqk2 | zqk3 => k_asm); (case zqk6 => k_upd); (case zqk4 => exact (News.get (by k_asm) (by k_mem))); (case zqk5 => k_is); (case zqk7 => first | assumption | (simp only [sizeLine_eq]; omega)); k_whole)); intro _ _ _; (try k_sweep)))
  k_with "~getMethod ref" => ((k_here; ks_any; k_dflt (first
    | (refine' superM ?zqk1 ?zqk2 ?zqk3 ?zqk4 ?zqk5 ?zqk6 ?zqk7 ?zqk8 lk_wget ?zqk9 (fun h hi => binds_of plain_wget entry_wget (chk_wlen _ _) (get_len _ _) hi) ?zqk10 ?_; (case zqk1 | zqk2 | zqk3 => k_asm); (case zqk4 => k_mem); (case zqk5 => k_inst); (case zqk6 => k_is); (case zqk7 => ks_is); (case zqk8 | zqk9 => k_is); (case zqk10 => decide); k_whole; intro _ _ _ _ l1; (try (replace l1 := allLt_of l1)); revert l1; intro _; (try k_sweep))
    | (refine' superM ?zqk1 ?zqk2 ?zqk3 ?zqk4 ?zqk5 ?zqk6 ?zqk7 ?zqk8 lk_wget ?zqk9 (fun h hi => binds_of plain_wget entry_wget (chk_winit _ _) (get_init _ _) hi) ?zqk10 ?_; (case zqk1 | zqk2 | zqk3 => k_asm); (case zqk4 => k_mem); (case zqk5 => k_inst); (case zqk6 => k_is); (case zqk7 => ks_is); (case zqk8 | zqk9 => k_is); (case zqk10 => decide); k_whole; intro _ _ _ _ l1; (try (replace l1 := allLt_of l1)); revert l1; intro _; (try k_sweep))
    | (refine' superM ?zqk1 ?zqk2 ?zqk3 ?zqk4 ?zqk5 ?zqk6 ?zqk7 ?zqk8 lk_mget ?zqk9 (fun h hi => binds_of plain_mget entry_mget (chk_mpop _ _) (get_pop _ _) hi) ?zqk10 ?_; (case zqk1 | zqk2 | zqk3 => k_asm); (case zqk4 => k_mem); (case zqk5 => k_inst); (case zqk6 => k_is); (case zqk7 => ks_is); (case zqk8 | zqk9 => k_is); (case zqk10 => decide); k_whole; intro _ _ _ _ l1; (try (replace l1 := allLt_of l1)); revert l1; intro _; (try k_sweep)))))
  k_with "~wpAt" => ((ks_step "attributeBase Call"; k_here; k_dflt (refine node_M (by k_asm) (by k_asm) (by k_asm) (by k_asm) (by k_is) (by rfl) (by rfl) (by k_inst) (by k_is) (by rfl) (by first | rfl | decide +kernel) (by k_is) (by k_is) (by k_is) (by k_is) (by decide) (by rfl) (by rfl) (by rfl) (by rfl) (by decide +kernel) (by first | boot_by_name | rfl | kernel_rfl) ?_; intro _ _ _ _ l1; (try (replace l1 := allLt_of l1)); revert l1; intro _; (try k_sweep))))
  k_with "~callWith ref" => ((k_here; (first
    | (refine' callWith_B0 ?zqk1 ?zqk2 ?_; k_dflt ((case zqk1 => exact (News.get (by k_asm) (by k_mem))); (case zqk2 => decide); k_whole; try dsimp only [List.nil_append, List.cons_append]))
    | (refine' callWith_B ?zqk1 ?zqk2 ?_ ?zqk3 ?zqk4; k_dflt ((case zqk1 => k_is); (case zqk2 => decide); (case zqk3 | zqk4 => rfl); k_whole)))))
  k_with "~call ref" => ((k_here; (first
    | (refine' super_len ?zqk1 ?zqk2 ?_; k_dflt ((case zqk1 | zqk2 => exact (News.get (by k_asm) (by k_mem))); k_whole))
    | (refine' super_init ?zqk1 ?zqk2 ?zqk3 ?zqk4 ?zqk5 ?_; k_dflt ((case zqk1 | zqk2 => k_asm); (case zqk3 => exact (News.get (by k_asm) (by k_mem))); (case zqk5 => k_upd); (case zqk4 => k_ne); k_whole; intro _ _ _; (try k_sweep)))
    | (refine' super_pop ?zqk1 ?zqk2 ?zqk3 ?zqk4 ?zqk5 ?zqk6 ?zqk7 ?zqk8 ?zqk9 ?zqk10 ?zqk11 ?_; k_dflt ((case zqk1 | zqk2 | zqk3 => k_asm); (case zqk4 => exact (News.get (by k_asm) (by k_mem))); (case zqk10 => k_upd); (case zqk5 => exact (News.get (by k_asm) (by k_mem))); (case zqk6 | zqk7 => k_is); (case zqk8 => rfl); (case zqk9 => k_is); (case zqk11 => first | assumption | (simp only [sizeLine_eq]; omega)); k_whole; intro _ _ _; (try k_sweep))))))
  k_with "~m:sub" => (first | exact List.forall_mem_nil _ | (refine List.forall_mem_cons.mpr ⟨by k_mem, ?_⟩; walk_at "m:sub"))
  k_with "~setAttr ref" => ((k_here; (refine' set_acc ?zqk1 ?zqk2 ?zqk3 ?zqk4 ?zqk5 ?zqk6 ?zqk7 ?zqk8 ?zqk9 ?zqk10 ?zqk11 ?zqk12 ?zqk13 ?_; k_dflt ((case zqk1 | zqk2 | zqk3 => k_asm); (case zqk4 => k_inst); (case zqk5 => exact rfl); (case zqk6 => k_is); (case zqk7 => rfl); (case zqk8 | zqk9 => k_is); (case zqk10 => k_get); (case zqk11 => k_put); (case zqk12 => k_upd); (case zqk13 => exact Nat.le_of_ble_eq_true rfl); k_whole; intro _ _ _; (try k_sweep)))))
  k_with "~subscriptTail" => ((k_here; (with_reducible show wpAny _ _ (subscriptTail _ _ (Value.ref _) (Value.ref _)) _ _ _); (refine' slice_acc ?zqk1 ?zqk2 ?zqk3 ?zqk4 ?zqk5 ?zqk6 ?zqk7 ?zqk8 ?zqk9 ?zqk10 ?_ ?zqk11 ?zqk12 ?zqk13; k_dflt ((case zqk1 | zqk2 | zqk3 => k_asm); (case zqk4 => k_inst); (case zqk5 => exact rfl); (case zqk6 | zqk7 | zqk8 => k_is); (case zqk9 | zqk10 => first | exact IsPart.none | exact IsPart.int _ _); (case zqk11 => with_unfolding_all rfl); (case zqk12 => intro _; with_unfolding_all rfl); (case zqk13 => first | assumption | (simp only [sizeLine_eq]; omega)); k_whole; intro _ _ _ _ l1; (try (replace l1 := allLt_of l1)); revert l1; intro _; (try k_sweep)))))
  k_with "~m:steps" => (repeat' (first | (walk1; (try dsimp only)) | (dsimp only; walk1; (try dsimp only)) | fail "no step"))
  k_with "~k_in" => ((refine' Frag.In.keeps ?zqkx ?zqkh; (case zqkx => with_reducible assumption); (case zqkh => exact Fr.keep (by with_reducible assumption))))
  k_with "~k_ne" => ((refine neN ?_; (try dsimp only); (try dsimp only [AllLt] at *); omega))
  k_with "~k_ne" => (first | with_reducible assumption | (refine Ne.symm ?_; with_reducible assumption) | (refine' ne_lt ?zqkh ?zqkm; (case zqkh => with_reducible assumption); (case zqkm => k_mem)) | (refine' Ne.symm (ne_lt ?zqkh ?zqkm); (case zqkh => with_reducible assumption); (case zqkm => k_mem)) | (refine neN ?_; decide))
  trivial
-- text LC
section
section
variable {prog : Program} {w : World} {A : Around} {E : Value → Shared → Prop} {s : Shared} {h₀ : Heap} {L l : Addr} {m : Str → Option Value} {news : List (Addr × Obj)} {its its2 : Array Value} {Q : Value → Shared → Prop}
theorem add_lists_w {b : Addr} (F : Fr h₀ L s.heap m) (N : News h₀ L s.heap news) (hl : s.heap.IsList l its) (hb : s.heap.IsList b its2) (hsz : its.size + its2.size ≤ 1000000)
    (h : ∀ D h', Fr h₀ L h' m → News h₀ L h' ((D, listOf (its ++ its2) 0) :: news) → (∀ p ∈ news, p.1 < D) → Q (.ref D) { s with heap := h' }) : wpAny (model prog w) A (binaryOp .Add (.ref l) (.ref b)) Q E s := by
  refine add_arrays (hsz := by rw [sizeLine_eq]; omega) F N hl hb fun h' F' N' => h _ h' F' ?_ fun p hp => Heap.lt_size (N p hp).1
  have e : (its.toList ++ its2.toList).toArray = its ++ its2 := by apply Array.ext'; simp
  rw [e] at N'
  exact N'
end
section
variable {prog : Program} {w : World} {A : Around} {E : Value → Shared → Prop} {h : Heap} {g : Array GenState} {d : Drawn} {t : Nat} {os : OsState} {h₀ : Heap} {L l : Addr} {m : Str → Option Value} {news : List (Addr × Obj)} {its : Array Value} {Q : Value → Shared → Prop} {value slice : Expr} {vl vu vk : Value} {lo hi : Option Int}
theorem kmk_sliceP (F : Fr h₀ L h m) (N : News h₀ L h news) (hl : h.IsList l its) (pl : IsPart vl lo) (pu : IsPart vu hi)
    (hh : ∀ D h', Fr h₀ L h' m → News h₀ L h' ((D, listOf (slicePick its lo hi none) 0) :: news) → (∀ p ∈ news, p.1 < D) → Q (.ref D) ⟨h', g, d, t, os⟩)
    (hs : subscripted slice false (.ref l) (.ref h.objs.size) = operate [.ref h.objs.size, .ref l] (getItem (.ref l) (.ref h.objs.size))) (ht : ∀ r, letTemporaryGo value (.ref l) r = pure ()) (hz : its.size ≤ sizeLine) :
    wpAny (model prog w) A (subscriptTail value slice (.ref l) (.ref h.objs.size)) Q E ⟨h.push { cls := .type "slice", data := .fields #[vl, vu, .none] }, g, d, t, os⟩ :=
  kmk_slice (s := ⟨h, g, d, t, os⟩) F N hl pl pu hh hs ht hz
theorem krv_litP {ops : List Value} (F : Fr h₀ L h m) (N : News h₀ L h news) (hl : h.IsList l its) (pk : IsPart vk (some (-1)))
    (hh : ∀ D h', Fr h₀ L h' m → News h₀ L h' ((D, listOf its.toList.reverse.toArray 0) :: news) → (∀ p ∈ news, p.1 < D) → Q (.ref D) ⟨h', g, d, t, os⟩)
    (hs : subscripted slice false (.ref l) (.ref h.objs.size) = operate ops (getItem (.ref l) (.ref h.objs.size))) (ht : ∀ r, letTemporaryGo value (.ref l) r = pure ()) (hz : its.size ≤ sizeLine) :
    wpAny (model prog w) A (subscriptTail value slice (.ref l) (.ref h.objs.size)) Q E ⟨h.push { cls := .type "slice", data := .fields #[.none, .none, vk] }, g, d, t, os⟩ :=
  krv_lit (s := ⟨h, g, d, t, os⟩) F N hl pk rfl hh hs ht hz
end
noncomputable def AllNe (d : Addr) : List (Addr × Obj) → Prop
  | [] => True
  | p :: r => @Ne Nat p.1 d ∧ AllNe d r
theorem allNe_of {d : Addr} {l : List (Addr × Obj)} (h : ∀ p ∈ l, @Ne Nat p.1 d) : AllNe d l := by
  induction l with
  | nil => trivial
  | cons p r ih => exact ⟨h p (List.mem_cons_self ..), ih fun q hq => h q (List.mem_cons_of_mem _ hq)⟩
theorem allNe_get {d : Addr} {l : List (Addr × Obj)} (h : AllNe d l) : ∀ p ∈ l, @Ne Nat p.1 d := by
  induction l with
  | nil => exact fun _ h => (nomatch h)
  | cons p r ih =>
    intro q hq
    rcases List.mem_cons.mp hq with rfl | hq
    · exact h.1
    · exact ih h.2 q hq
theorem allLt_get {d : Addr} {l : List (Addr × Obj)} (h : AllLt d l) : ∀ p ∈ l, @LT.lt Nat _ p.1 d := by
  induction l with
  | nil => exact fun _ h => (nomatch h)
  | cons p r ih =>
    intro q hq
    rcases List.mem_cons.mp hq with rfl | hq
    · exact h.1
    · exact ih h.2 q hq
theorem upd_sub {a : Addr} {o o' : Obj} {news n1 : List (Addr × Obj)} (U : Upd a o o' news n1) : ∀ p ∈ n1, p = (a, o') ∨ (p ∈ news ∧ p.1 ≠ a) := by
  obtain ⟨pre, post, rfl, rfl, a1, a2⟩ := U.split
  intro p hp
  rcases List.mem_append.mp hp with hp | hp
  · exact .inr ⟨List.mem_append.mpr (.inl hp), a1 _ hp⟩
  · rcases List.mem_cons.mp hp with hp | hp
    · exact .inl hp
    · exact .inr ⟨List.mem_append.mpr (.inr (List.mem_cons_of_mem _ hp)), a2 _ hp⟩
theorem upd_mem {a : Addr} {o o' : Obj} {news n1 : List (Addr × Obj)} (U : Upd a o o' news n1) : (a, o) ∈ news := by
  obtain ⟨pre, post, rfl, rfl, a1, a2⟩ := U.split; simp
theorem upd_keeps {a b : Addr} {o o' ob : Obj} {news n1 : List (Addr × Obj)} (U : Upd a o o' news n1) (h : (b, ob) ∈ news) (hne : b ≠ a) : (b, ob) ∈ n1 := by
  obtain ⟨pre, post, rfl, rfl, a1, a2⟩ := U.split
  rcases List.mem_append.mp h with h | h
  · exact List.mem_append.mpr (.inl h)
  · rcases List.mem_cons.mp h with h | h
    · exact absurd (congrArg Prod.fst h) hne
    · exact List.mem_append.mpr (.inr (List.mem_cons_of_mem _ h))
theorem news_one {h₀ h : Heap} {L : Addr} {news : List (Addr × Obj)} (N : News h₀ L h news) {p : Addr × Obj} {o : Obj} (hp : p ∈ news) (h1 : (p.1, o) ∈ news) : p.2 = o := by
  have e1 := (N p hp).1
  rw [(N _ h1).1] at e1
  exact (Option.some.inj e1).symm
section
variable {w : World} {A : Around} {E : Value → Shared → Prop} {s : Shared} {h₀ : Heap} {L x dx : Addr} {m : Str → Option Value} {news n1 : List (Addr × Obj)} {loose : List Str} {mg mb : Str → Option Value} {its ys : Array Value} {n k : Nat} {hsh : Int} {kt bt : Tok} {v₀ v : Value} {Q : Value → Shared → Prop} {bm : Addr} {ob : Obj} {pr : List (Str × Str)} {ps qs : Array Value} {base : Int}
theorem strk_w {nw : Array Value → List (Addr × Obj)} (F : Fr h₀ L s.heap m) (X : (hd.heap_39 w.params).In h₀) (T : TopRead Mine.hd.view_39 loose mg mb h₀) (M : BMod h₀ mainGlobals mg bm ob) (N : News h₀ L s.heap news) (h1 : (x, accObj dx its n) ∈ news) (h2 : (dx, accDict hsh kt v₀ k) ∈ news)
    (U : ∀ ps', Upd 93 (tabObj ps) (tabObj ps') news (nw ps')) (hne : @Ne Nat x dx) (hne2 : @Ne Nat x 93) (hne3 : @Ne Nat dx 93) (hI : Items s.heap its pr) (htr : TriplesOk ps.toList) (hfit : (pr.map fun p => p.1.length + p.2.length).sum ≤ 1000000) (hcount : pr.length ≤ 1000)
    (hd : A.depth + 12 < recursionLimit) (hh : A.handled = none) (hu : A.in1.in1.units < cLine)
    (h : ∀ s' t ps', TriplesOk ps'.toList → Fr h₀ L s'.heap m → News h₀ L s'.heap (nw ps') → s'.os = s.os → (AllBare s.gens → AllBare s'.gens) → Q (.str (textOf pr) t) s') : wpAny (model PG w) A (call (.type "str") [.ref x]) Q E s :=
  kso_call hu (X.keeps F.keep) (InstAt.of_accN N h1 h2) (f := 98) (by k_is) (by k_is)
    (str_w (A := A.in1.in1) F X T M N h1 h2 U hne hne2 hne3 hI htr hfit hcount hd hh fun s' t ps' a b c d e => h s' t ps' a b c d e)
theorem lenk_w {nw : Array Value → List (Addr × Obj)} (F : Fr h₀ L s.heap m) (X : (hd.heap_39 w.params).In h₀) (T : TopRead Mine.hd.view_39 loose mg mb h₀) (M : BMod h₀ mainGlobals mg bm ob) (N : News h₀ L s.heap news) (h1 : (x, accObj dx its n) ∈ news) (h2 : (dx, accDict hsh kt (.int base bt) k) ∈ news)
    (U : ∀ ps', Upd 86 (tabObj ps) (tabObj ps') news (nw ps')) (hne : @Ne Nat x dx) (hne2 : @Ne Nat x 86) (hne3 : @Ne Nat dx 86) (hI : Items s.heap its pr) (htr : TriplesOk ps.toList) (hfit : (pr.map fun p => p.1.length + p.2.length).sum ≤ 1000000) (hb0 : 0 ≤ base) (hb1 : base ≤ 1000000)
    (hd : A.depth + 12 < recursionLimit) (hh : A.handled = none)
    (h : ∀ s' t ps', TriplesOk ps'.toList → Fr h₀ L s'.heap m → News h₀ L s'.heap (nw ps') → s'.os = s.os → (AllBare s.gens → AllBare s'.gens) → Q (.int (base + (pr.map fun p => p.1.length + p.2.length).sum) t) s') : wpAny (model PG w) A (call (.builtin "len") [.ref x]) Q E s :=
  len_K F X (InstAt.of_accN N h1 h2) (f := 91) (by k_is) (by k_is)
    (len_w (A := A.in1) F X T M N h1 h2 U hne hne2 hne3 hI htr hfit hb0 hb1 hd hh fun s' t ps' a b c d e => ⟨⟨by omega, by omega⟩, h { s' with toks := s'.toks + 1 } s'.toks ps' a b c d e⟩)
theorem onlyws_w {m1 : Array Value → List (Addr × Obj)} {m2 : Array Value → Array Value → List (Addr × Obj)} (F : Fr h₀ L s.heap m) (X : (hd.heap_39 w.params).In h₀) (T : TopRead Mine.hd.view_39 loose mg mb h₀) (M : BMod h₀ mainGlobals mg bm ob) (N : News h₀ L s.heap news) (h1 : (x, accObj dx its n) ∈ news) (h2 : (dx, accDict hsh kt (.int base bt) k) ∈ news)
    (U1 : ∀ ps', Upd 86 (tabObj ps) (tabObj ps') news (m1 ps')) (U2 : ∀ ps' qs', Upd 93 (tabObj qs) (tabObj qs') (m1 ps') (m2 ps' qs')) (hne : @Ne Nat x dx) (hx1 : @Ne Nat x 86) (hx2 : @Ne Nat x 93) (hd1 : @Ne Nat dx 86) (hd2 : @Ne Nat dx 93) (hI : Items s.heap its pr) (htr : TriplesOk ps.toList) (htr2 : TriplesOk qs.toList)
    (hfit : (pr.map fun p => p.1.length + p.2.length).sum ≤ 1000000) (hcount : pr.length ≤ 1000) (hb0 : 0 ≤ base) (hb1 : base ≤ 1000000)
    (hd : A.depth + 20 < recursionLimit) (hu : A.units + 100 < cLine) (hh : A.handled = none)
    (h : ∀ s' ps' qs', TriplesOk ps'.toList → TriplesOk qs'.toList → Fr h₀ L s'.heap m → News h₀ L s'.heap (m2 ps' qs') → s'.os = s.os → (AllBare s.gens → AllBare s'.gens) → Q (.bool (base == 0 && (((pr.map fun p => p.1.length + p.2.length).sum == 0) || Txt.isspace (textOf pr)))) s') : wpAny (model PG w) A (call (.ref 113) [.ref x]) Q E s := by
  have ho : ∀ q ∈ [(86, tabObj ps), (93, tabObj qs), (x, accObj dx its n), (dx, accDict hsh kt (.int base bt) k)], q ∈ news := fun q hq => by
    simp only [List.mem_cons, List.not_mem_nil, or_false] at hq
    rcases hq with rfl | rfl | rfl | rfl
    · exact upd_mem (U1 ps)
    · rcases upd_sub (U1 ps) _ (upd_mem (U2 ps qs)) with e | ⟨e, _⟩
      · exact absurd (congrArg Prod.fst e) (show ¬ ((93 : Nat) = 86) by decide)
      · exact e
    · exact h1
    · exact h2
  have hget : ∀ q ∈ [(86, tabObj ps), (93, tabObj qs), (x, accObj dx its n), (dx, accDict hsh kt (.int base bt) k)], s.heap.get? q.1 = some q.2 ∧ q.2.cls ≠ .type "tuple" := fun q hq => by
    refine ⟨(N q (ho q hq)).1, ?_⟩
    simp only [List.mem_cons, List.not_mem_nil, or_false] at hq
    rcases hq with rfl | rfl | rfl | rfl
    · exact fun z => Value.noConfusion z
    · exact fun z => Value.noConfusion z
    · exact fun z => Value.noConfusion z
    · exact fun z => absurd (Value.type.inj z) (by decide)
  have st : ∀ b o, h₀.get? b = some o → (hideAll s.heap ([(86, tabObj ps), (93, tabObj qs), (x, accObj dx its n), (dx, accDict hsh kt (.int base bt) k)].map (·.1))).get? b = some o := fun b o e => hideAll_get _ (F.keep b o e) fun hm => by
    obtain ⟨q, hq, rfl⟩ := List.mem_map.mp hm
    rw [(N q (ho q hq)).2.2] at e; cases e
  refine wpAny_call (onlyws_raw (X.keeps st) (T.keeps st) (M.keeps st) (fun b o e => of_hideAll _ e) hd hu hh (fun q hq => ⟨(hget q hq).1, hideAll_none _ (List.mem_map_of_mem hq)⟩) hne hx1 hx2 hd1 hd2 (hI.hide hget) htr htr2 hfit hcount hb0 hb1 fun s' ps' qs' t1 t2 a => ?_)
  obtain ⟨F', N'⟩ := a.gen F N ho (n2 := m2 ps' qs') fun p hp => by
    rcases upd_sub (U2 ps' qs') p hp with rfl | ⟨hp, n93⟩
    · exact .inl (by simp)
    · rcases upd_sub (U1 ps') p hp with rfl | ⟨hp, n86⟩
      · exact .inl (by simp)
      · by_cases qx : p.1 = x
        · left
          have e := news_one N hp (o := accObj dx its n) (by rw [qx]; exact h1)
          have : p = (x, accObj dx its n) := by cases p; cases qx; cases e; rfl
          rw [this]; simp
        · by_cases qd : p.1 = dx
          · left
            have e := news_one N hp (o := accDict hsh kt (.int base bt) k) (by rw [qd]; exact h2)
            have : p = (dx, accDict hsh kt (.int base bt) k) := by cases p; cases qd; cases e; rfl
            rw [this]; simp
          · refine .inr ⟨hp, ?_⟩
            simp only [List.map_cons, List.map_nil, List.mem_cons, List.not_mem_nil, or_false, not_or]
            exact ⟨n86, n93, qx, qd⟩
  exact h s' ps' qs' t1 t2 F' N' a.os a.bare
theorem reset_w {D : Addr} {n₂ : Nat} {m1 : Nat → List (Addr × Obj)} {m2 : Nat → Tok → List (Addr × Obj)} (F : Fr h₀ L s.heap m) (X : (hd.heap_39 w.params).In h₀) (T : TopRead Mine.hd.view_39 loose mg mb h₀) (N : News h₀ L s.heap news) (h3 : (D, listOf ys n₂) ∈ news)
    (U1 : ∀ n', Upd x (accObj dx its n) (accObj dx ys n') news (m1 n')) (U2 : ∀ n' t', Upd dx (accDict hsh kt v₀ k) (accDict hsh kt (.int 0 t') k) (m1 n') (m2 n' t')) (hne : @Ne Nat x dx) (hne2 : @Ne Nat x D) (hne3 : @Ne Nat dx D) (hz : its.size + ys.size ≤ sizeLine)
    (hd : A.depth + 2 < recursionLimit)
    (h : ∀ s' n' t', Fr h₀ L s'.heap m → News h₀ L s'.heap (m2 n' t') → s'.os = s.os → (AllBare s.gens → AllBare s'.gens) → Q .none s') : wpAny (model PG w) A (call (.ref 106) [.ref x, .ref D]) Q E s := by
  have h1 := upd_mem (U1 0)
  have h2 : (dx, accDict hsh kt v₀ k) ∈ news := by
    rcases upd_sub (U1 0) _ (upd_mem (U2 0 0)) with e | ⟨e, _⟩
    · exact absurd (congrArg Prod.fst e).symm hne
    · exact e
  have ho : ∀ q ∈ [(x, accObj dx its n), (dx, accDict hsh kt v₀ k), (D, listOf ys n₂)], q ∈ news := fun q hq => by
    simp only [List.mem_cons, List.not_mem_nil, or_false] at hq
    rcases hq with rfl | rfl | rfl
    · exact h1
    · exact h2
    · exact h3
  refine wpAny_call (reset_raw (i := 0) (it := 0) X T F.keep hd (fun q hq => ⟨(N q (ho q hq)).1, (N q (ho q hq)).2.2⟩) hne hne2 hne3 hz fun s' n' t' a => ?_)
  obtain ⟨F', N'⟩ := a.gen F N ho (n2 := m2 n' t') fun p hp => by
    rcases upd_sub (U2 n' t') p hp with rfl | ⟨hp, nd⟩
    · exact .inl (by simp)
    · rcases upd_sub (U1 n') p hp with rfl | ⟨hp, nx⟩
      · exact .inl (by simp)
      · by_cases qD : p.1 = D
        · left
          have e := news_one N hp (o := listOf ys n₂) (by rw [qD]; exact h3)
          have : p = (D, listOf ys n₂) := by cases p; cases qD; cases e; rfl
          rw [this]; simp
        · refine .inr ⟨hp, ?_⟩
          simp only [List.map_cons, List.map_nil, List.mem_cons, List.not_mem_nil, or_false, not_or]
          exact ⟨nx, nd, qD⟩
  exact h s' n' t' F' N' a.os a.bare
theorem AftS.led {s' : Shared} (a : AftS s s' [] [L]) (F : Fr h₀ L s.heap m) (N : News h₀ L s.heap news) : Fr h₀ L s'.heap m ∧ News h₀ L s'.heap news := by
  have hL : h₀.get? L = none := Heap.get?_none_of_le F.above
  refine ⟨⟨?_, fun b o e => a.keep b o (F.keep b o e) (fun z => (nomatch z)) (fun z => ?_), F.above⟩, fun p hp => ⟨a.keep _ _ (N p hp).1 (fun z => (nomatch z)) (fun z => (N p hp).2.1 (List.mem_singleton.mp z)), (N p hp).2⟩⟩
  · obtain ⟨oL, es, ep, hL', hdat, r⟩ := F.ns
    obtain ⟨sl, hs⟩ := a.up L oL hL' (fun z => (nomatch z)) (fun vs z => by rw [hdat] at z; cases z)
    exact ⟨_, es, ep, hs, hdat, r⟩
  · rw [List.mem_singleton.mp z, hL] at e; cases e
theorem split_w {env : Env} {text : Str} {tt : Tok} {toks : List (List Nat)} (F : Fr h₀ L s.heap m) (X : (hd.heap_39 w.params).In h₀) (T : TopRead Mine.hd.view_39 loose mg mb h₀) (N : News h₀ L s.heap news) (hA : A.frames = some [env]) (hf : env.frame = some L) (hkd : env.scope.kind ≠ .module)
    (hd : A.depth + 40 < recursionLimit) (hh : A.handled = none) (hl : text.length ≤ 1000000) (hlex : ∀ t0, LexTo (.str (Str.ofString " ") t0) text.cps.toList toks) (hn : toks.length ≤ 1000000)
    (h : ∀ s' S ys c, Fr h₀ L s'.heap m → News h₀ L s'.heap ((S, listOf ys c) :: news) → (∀ p ∈ news, @Ne Nat p.1 S) → StrsAre ys.toList (toks.map fun l => ⟨l.toArray⟩) → s'.os = s.os → (AllBare s.gens → AllBare s'.gens) → Q (.ref S) s') :
    wpAny (model PG w) A (call (.ref 828) [.str text tt]) Q E s := by
  have hfr : FrOk s.heap [env] [] := fun e he => by
    rw [List.mem_singleton.mp he]
    obtain ⟨oL, es, ep, hL', hdat, r⟩ := F.ns
    exact ⟨hkd, L, oL, hf, hL', fun vs z => (by rw [hdat] at z; cases z), fun z => (nomatch z)⟩
  refine wpAny_call (split_raw X T F.keep hd hh hA hfr hl hlex hn fun s' S ys c a hS hget hys => ?_)
  have e : [env].filterMap (·.frame) = [L] := by simp [hf]
  rw [e] at a
  obtain ⟨F', N'⟩ := a.led F N
  have hSL : S ≠ L := fun z => by
    obtain ⟨oL, es, ep, hL', r⟩ := F.ns
    rw [z, hL'] at hS; cases hS
  have hS0 : h₀.get? S = none := by
    cases q : h₀.get? S with
    | none => rfl
    | some o => rw [F.keep _ _ q] at hS; cases hS
  refine h s' S ys c F' (fun p hp => ?_) (fun p hp z => ?_) hys a.os a.bare
  · rcases List.mem_cons.mp hp with rfl | hp
    · exact ⟨hget, hSL, hS0⟩
    · exact N' p hp
  · have := (N p hp).1
    rw [show p.1 = S from z, hS] at this; cases this
theorem dict_set_w {d : Addr} {o : Obj} {kvs : List (Str × Value)} {D : List (PyData × PyData)} {y : Str} {t : Tok} {dv : PyData} {nw : Obj → List (Addr × Obj)} {Q : Unit → Shared → Prop} (hv : PyProof.V.Flat v dv) (F : Fr h₀ L s.heap m) (N : News h₀ L s.heap news)
    (U : ∀ o', Upd d o o' news (nw o')) (hd : o.IsDictOf (PySem.strKind PG w) kvs) (hf : PyProof.V.FlatPairs PyData.str kvs D) (hsz : D.length ≤ 1000000)
    (h : ∀ h' o', Fr h₀ L h' m → News h₀ L h' (nw o') → o'.IsDictOf (PySem.strKind PG w) (stored kvs y v) → PyProof.V.FlatPairs PyData.str (stored kvs y v) (PyProof.V.putD (.str y) dv D) → Q () { s with heap := h', toks := s.toks + 1 }) :
    wpAny (model PG w) A (setItem (.ref d) (.str y t) v) Q E s := by
  have hm' := N _ (upd_mem (U o))
  refine wpAny_setItem_pairs (hsz := by rw [← hf.length, sizeLine_eq]; omega) (strKind_is PG w y t) (Heap.dictOf_iff.mpr ⟨o, hm'.1, hd⟩) fun h' hmm hs => ?_
  obtain ⟨o', ho', hd'⟩ := Heap.dictOf_iff.mp hmm
  obtain ⟨pre, post, e1, e2, a1, a2⟩ := (U o').split
  refine h h' o' (F.change hs hm'.2.1 hm'.2.2) ?_ hd' (hf.stored PyProof.V.same_str y hv)
  rw [e2]
  rw [e1] at N
  exact N.setIn a1 a2 hs ho'
end
end
-- text LK
section
section
variable {w : World} {A : Around} {E : Value → Shared → Prop} {s : Shared} {h₀ : Heap} {L : Addr} {m : Str → Option Value} {news nw : List (Addr × Obj)} {Q : Value → Shared → Prop}
theorem popL_w {D : Addr} {ys : Array Value} {v : Value} {n : Nat} (F : Fr h₀ L s.heap m) (N : News h₀ L s.heap news) (U : Upd D (listOf (ys.push v) n) (listOf ys (n + 1)) news nw) (hz : ys.size < 1000000) (h : ∀ h', Fr h₀ L h' m → News h₀ L h' nw → Q v { s with heap := h' }) :
    wpAny (model PG w) A (call (.builtin "list.pop") [.ref D]) Q E s := by
  refine kl_pop (p := ys.toList) (y := v) F N ?_ (by simpa using U) (by rw [Array.length_toList, Array.size_push, sizeLine_eq]; omega) h
  rw [Array.toList_push]
  exact kpa_last v _
theorem meth_pop_w {D : Addr} {its : Array Value} {n : Nat} {pl : Sem Bool} {Q : Value × List Value → Shared → Prop} (N : News h₀ L s.heap news) (hm : (D, listOf its n) ∈ news) (h : Q (.builtin "list.pop", [.ref D]) s) : wpAny (model PG w) A (getMethod (.ref D) (Str.ofString "pop") pl) Q E s :=
  kl_method N hm PySem.F.slot_list_pop PySem.F.type_list_pop h
theorem tup_reads {a : Addr} {p : Str × Str} {t1 t2 : Tok} (N : News h₀ L s.heap news) (ha : (a, tupObj p.1 p.2 t1 t2) ∈ news) : Reads s.heap (.ref a) (pd p) [] :=
  reads_tuple_at (N _ ha).1 rfl rfl (.cons (Reads.str _ _) (.cons (Reads.str _ _) .nil))
theorem ne_pair_w {a b : Addr} {p : Str × Str} {t1 t2 t3 t4 : Tok} (N : News h₀ L s.heap news) (ha : (a, tupObj p.1 p.2 t1 t2) ∈ news) (hb : (b, tupObj p.1 p.2 t3 t4) ∈ news) (hc : CpOk p.1 ∧ CpOk p.2) (hu : A.units + 64 < cLine) (h : Q (.bool false) s) : wpAny (model PG w) A (compareOp .NotEq (.ref a) (.ref b)) Q E s := by
  refine ne_dataH (tup_reads N ha) (tup_reads N hb) (pair_shaped hc) (pair_shaped hc) hu ?_
  rw [pd_eqv]; exact h
theorem list_reads {a : Addr} {its : Array Value} {pr : List (Str × Str)} (hl : s.heap.IsList a its) (x : Items s.heap its pr) : ∃ as, Reads s.heap (.ref a) (.list (pr.map pd)) as := by
  obtain ⟨as, r⟩ := x.reads
  obtain ⟨o, ho, hc, n, hd⟩ := hl
  exact ⟨_, reads_list_at ho hc hd r⟩
theorem ne_lists_w {a b : Addr} {its jts : Array Value} {pr : List (Str × Str)} (ha : s.heap.IsList a its) (hb : s.heap.IsList b jts) (x : Items s.heap its pr) (y : Items s.heap jts pr) (hc : ∀ p ∈ pr, CpOk p.1 ∧ CpOk p.2) (hu : A.units + 64 < cLine) (h : Q (.bool false) s) : wpAny (model PG w) A (compareOp .NotEq (.ref a) (.ref b)) Q E s := by
  obtain ⟨as, r1⟩ := list_reads ha x
  obtain ⟨bs, r2⟩ := list_reads hb y
  refine ne_dataH r1 r2 (pairs_shaped hc) (pairs_shaped hc) hu ?_
  rw [show PyData.eqv (.list (pr.map pd)) (.list (pr.map pd)) = true from by simp only [PyData.eqv, pairs_eqv]]
  exact h
theorem nil_eqv (pr : List (Str × Str)) : PyData.eqv (.list (pr.map pd)) (.list []) = pr.isEmpty := by
  cases pr with
  | nil => simp [PyData.eqv, PyData.eqvAll]
  | cons p pr => simp [PyData.eqv, PyData.eqvAll]
theorem ne_nil_w {a b : Addr} {its : Array Value} {pr : List (Str × Str)} (ha : s.heap.IsList a its) (hb : s.heap.IsList b #[]) (x : Items s.heap its pr) (hc : ∀ p ∈ pr, CpOk p.1 ∧ CpOk p.2) (hu : A.units + 64 < cLine) (h : Q (.bool (!pr.isEmpty)) s) : wpAny (model PG w) A (compareOp .NotEq (.ref a) (.ref b)) Q E s := by
  obtain ⟨as, r1⟩ := list_reads ha x
  obtain ⟨bs, r2⟩ := list_reads (pr := []) hb ⟨rfl, fun j p e => by simp at e⟩
  refine ne_dataH r1 r2 (pairs_shaped hc) (pairs_shaped (pr := []) fun _ h => (nomatch h)) hu ?_
  rw [show (([] : List (Str × Str)).map pd) = [] from rfl, nil_eqv]
  exact h
theorem eq_nil_w {a b : Addr} {its : Array Value} {pr : List (Str × Str)} (ha : s.heap.IsList a its) (hb : s.heap.IsList b #[]) (x : Items s.heap its pr) (hc : ∀ p ∈ pr, CpOk p.1 ∧ CpOk p.2) (hu : A.units + 64 < cLine) (h : Q (.bool pr.isEmpty) s) : wpAny (model PG w) A (compareOp .Eq (.ref a) (.ref b)) Q E s := by
  obtain ⟨as, r1⟩ := list_reads ha x
  obtain ⟨bs, r2⟩ := list_reads (pr := []) hb ⟨rfl, fun j p e => by simp at e⟩
  refine eq_dataH r1 r2 (pairs_shaped hc) (pairs_shaped (pr := []) fun _ h => (nomatch h)) hu ?_
  rw [show (([] : List (Str × Str)).map pd) = [] from rfl, nil_eqv]
  exact h
end
theorem ItemsN.empty {tl : List (Addr × Obj)} {its : Array Value} (x : ItemsN tl its []) : its = #[] := Array.eq_empty_of_size_eq_zero x.1
theorem ItemsN.at {tl : List (Addr × Obj)} {its : Array Value} {pr : List (Str × Str)} {h₀ h : Heap} {L : Addr} {news : List (Addr × Obj)} (x : ItemsN tl its pr) (N : News h₀ L h news) (k : ∀ p ∈ tl, p ∈ news) : Items h its pr := x.items fun p hp => (N p (k p hp)).1
theorem perm9 {g hp : Heap} {L a0 a1 a2 a3 a4 a5 a6 a7 a8 : Addr} {news tl : List (Addr × Obj)} {o0 o1 o2 o3 o4 o5 o6 o7 o8 : Obj} (N : News g L hp news) (h0 : (a0, o0) ∈ news) (h1 : (a1, o1) ∈ news) (h2 : (a2, o2) ∈ news) (h3 : (a3, o3) ∈ news) (h4 : (a4, o4) ∈ news) (h5 : (a5, o5) ∈ news) (h6 : (a6, o6) ∈ news) (h7 : (a7, o7) ∈ news) (h8 : (a8, o8) ∈ news) (ht : ∀ p ∈ tl, p ∈ news) :
    News g L hp ((a0, o0) :: (a1, o1) :: (a2, o2) :: (a3, o3) :: (a4, o4) :: (a5, o5) :: (a6, o6) :: (a7, o7) :: (a8, o8) :: tl) := fun q hq => by
  simp only [List.mem_cons] at hq
  rcases hq with rfl | rfl | rfl | rfl | rfl | rfl | rfl | rfl | rfl | hq
  · exact N _ h0
  · exact N _ h1
  · exact N _ h2
  · exact N _ h3
  · exact N _ h4
  · exact N _ h5
  · exact N _ h6
  · exact N _ h7
  · exact N _ h8
  · exact N _ (ht _ hq)
theorem units_of (e : Env) : (callerA.deeper e).units + 100 < cLine := by rw [Around.deeper_units]; decide +kernel
theorem nil_or_snoc {α : Type} (l : List α) : l = [] ∨ ∃ l' a, l = l' ++ [a] := by
  rcases List.eq_nil_or_concat l with h | ⟨l', a, h⟩
  · exact .inl h
  · exact .inr ⟨l', a, by simpa using h⟩
theorem cp_empty : CpOk (Str.ofString "") := by
  have e : (Str.ofString "").cps.toList = [] := by decide +kernel
  unfold CpOk; rw [e]; exact fun _ h => (nomatch h)
theorem units64 (e : Env) : (callerA.deeper e).units + 64 < cLine := Nat.lt_of_le_of_lt (Nat.add_le_add_left (by decide) _) (units_of e)
end
-- text LK2
section
section
variable {w : World} {A : Around} {E : Value → Shared → Prop} {s : Shared} {h₀ : Heap} {L : Addr} {m : Str → Option Value} {news : List (Addr × Obj)} {Q : Value → Shared → Prop}
theorem nameC_C {M : Model} {A : Around} {E : Value → Shared → Prop} {s : Shared} {scope : Scope} {cl : List (Str × Addr)} {C c : Addr} {env : Env} {x : Str} {pos : Pos} {v : Value} {Q : Value → Shared → Prop} (hc : s.heap.IsCell c (some v)) (hl : cl.lookup x = some c) (hk : scope.kind = .function) (hx : ∀ C, (compEnvC scope cl C env).kindOf x = some .cell) (hd : (x == ("__debug__" : Str)) = false) (h : Q v s) :
    wpAny M A (eval (.Name x pos) (compEnvC scope cl C env)) Q E s := wpAny_Name (wpAny_loadName_cell (env := compEnvC scope cl C env) hk (hx C) hl hc h) hd
theorem dict_get_w {d : Addr} {o : Obj} {kvs : List (Str × Value)} {D : List (PyData × PyData)} {y word : Str} {t : Tok} (ho : s.heap.get? d = some o) (hd : o.IsDictOf (PySem.strKind PG w) kvs) (hf : PyProof.V.FlatPairs PyData.str kvs D) (hl : Spec.lookup (.str y) D = some (.str word))
    (h : ∀ tk, Q (.str word tk) { s with toks := s.toks + 1 }) : s.TypeIs (.ref d) "dict" ∧ wpAny (model PG w) A (getItem (.ref d) (.str y t)) Q E s := by
  obtain ⟨v, hv, fv⟩ := hf.of_lookup PyProof.V.same_str hl
  obtain ⟨tk, rfl⟩ := fv.str_inv
  have hD : s.heap.DictOf (PySem.strKind PG w) d kvs := Heap.dictOf_iff.mpr ⟨o, ho, hd⟩
  exact ⟨hD.typeIs, wpAny_getItem_of (strKind_is PG w y t) hD.mapOf hv (h _)⟩
end
theorem words_back (D : List (PyData × PyData)) (pr : List (Str × Str)) : (((pr.map (wordOf D)).map fun x => x.cps.toList).map fun l => (⟨l.toArray⟩ : Str)) = pr.map (wordOf D) := by
  rw [List.map_map]
  refine Eq.trans (List.map_congr_left fun x _ => ?_) (List.map_id _)
  simp
section
variable {w : World} {A : Around} {E : Value → Shared → Prop} {s : Shared} {Q : Value → Shared → Prop}
theorem ne_strs_w {a b : Addr} {vs us : Array Value} {ws : List Str} (ha : s.heap.IsList a vs) (hb : s.heap.IsList b us) (x : StrsAre vs.toList ws) (y : StrsAre us.toList ws) (hc : ∀ p ∈ ws, CpOk p) (hu : A.units + 64 < cLine) (h : Q (.bool false) s) : wpAny (model PG w) A (compareOp .NotEq (.ref a) (.ref b)) Q E s := by
  obtain ⟨as, r1⟩ := reads_strs (h := s.heap) x
  obtain ⟨bs, r2⟩ := reads_strs (h := s.heap) y
  obtain ⟨o, ho, hcl, n, hd⟩ := ha
  obtain ⟨o', ho', hcl', n', hd'⟩ := hb
  refine ne_dataH (reads_list_at ho hcl hd r1) (reads_list_at ho' hcl' hd' r2) (strs_shaped hc) (strs_shaped hc) hu ?_
  rw [show PyData.eqv (.list (ws.map PyData.str)) (.list (ws.map PyData.str)) = true from by simp only [PyData.eqv, strs_eqv]]
  exact h
end
section
variable {w : World} {A : Around} {E : Value → Shared → Prop} {s : Shared} {h₀ : Heap} {L : Addr} {m : Str → Option Value} {news : List (Addr × Obj)} {Q : Value → Shared → Prop}
theorem comp_words {iter : Expr} {scope : Scope} {env : Env} {cl : List (Str × Addr)} {pos pw psn psub pa pb pt : Pos} {kt : Nat} {l c wd : Addr} {wo : Obj} {its : Array Value} {pr : List (Str × Str)} {kvs : List (Str × Value)} {D : List (PyData × PyData)}
    (hh : A.handled = none) (hclos : closureFor scope env = pure cl) (hcell : ∀ y ∈ scope.names, y.2 ≠ .cell) (hkind : scope.kind = .function) (hnames : ∀ y ∈ scope.names, y.2 = .local → scope.names.lookup y.1 = some .local)
    (hxa : scope.names.lookup (Str.ofString "blank") = some .local) (hxb : scope.names.lookup (Str.ofString "sign") = some .local) (hcl : cl.lookup (Str.ofString "words") = some c) (hxw : ∀ C, (compEnvC scope cl C env).kindOf (Str.ofString "words") = some .cell)
    (hs : ∀ x, foldedSetIterable iter env x = pure x)
    (hiter : ∀ Q' : Value → Shared → Prop, Q' (.ref l) s → wpAny (model PG w) A (eval iter env) Q' E s)
    (F : Fr h₀ L s.heap m) (N : News h₀ L s.heap news) (hl : s.heap.IsList l its) (hI : Items s.heap its pr) (hcount : pr.length ≤ 1000)
    (hc : s.heap.IsCell c (some (.ref wd))) (hw : s.heap.get? wd = some wo) (hD : wo.IsDictOf (PySem.strKind PG w) kvs) (hf : PyProof.V.FlatPairs PyData.str kvs D) (hp : ∀ p ∈ pr, PairD D p)
    (hQ : ∀ S h' tk ys, Fr h₀ L h' m → News h₀ L h' news → h'.IsList S ys → (∀ b o, s.heap.get? b = some o → h'.get? b = some o) → StrsAre ys.toList (pr.map (wordOf D)) → Q (.ref S) { s with heap := h', toks := tk }) :
    wpAny (model PG w) A (eval (.ListComp (.Subscript (.Name (Str.ofString "words") pw) (.Name (Str.ofString "sign") psn) psub) [⟨.Tuple [.Name (Str.ofString "blank") pa, .Name (Str.ofString "sign") pb] kt pt, iter, [], 0⟩] scope pos) env) Q E s := by
  obtain ⟨Ts, vals, hit, htup, hval⟩ := hI.fn
  refine comp_pairs (l := l) (its := its) (Ts := Ts) (vals := vals) (F := fun i v => ∃ p t, pr[i]? = some p ∧ v = .str (wordOf D p) t) hh hclos hcell hkind hnames hxa hxb (by decide) hiter hl hit htup (fun j hj => ?e2) (by rw [hI.1, sizeLine_eq]; omega) ?e3 ?e4 hs
  case e2 => obtain ⟨p, ta, tb, e, r⟩ := hval j hj; exact ⟨_, _, r⟩
  case e3 =>
    intro C i va vb t m₂ E' hC hi hv hn hma hmb hkp
    obtain ⟨p, ta, tb, e, r⟩ := hval i hi
    rw [r] at hv
    obtain ⟨rfl, rfl⟩ : Value.str p.1 ta = va ∧ Value.str p.2 tb = vb := by injection hv with hv; injection hv with h1 h2; injection h2 with h2 _; exact ⟨h1, h2⟩
    have hpd := (hp p (List.mem_of_getElem? e)).word
    have hc' : t.heap.IsCell c (some (.ref wd)) := by obtain ⟨o, ho, r⟩ := hc; exact ⟨o, hkp _ _ ho, r⟩
    have hg := dict_get_w (w := w) (A := A) (E := E') (s := t) (Q := fun y s₄ => (∃ p t, pr[i]? = some p ∧ y = .str (wordOf D p) t) ∧ Keeps t s₄) (t := tb) (hkp _ _ hw) hD hf hpd.1 fun tk => ⟨⟨p, _, e, rfl⟩, _, _, rfl, fun _ _ e => e⟩
    refine wpAny_Subscript_Name_late (nameC_C hc' hcl hkind hxw (by decide) (nameC_L hn hmb hkind hxb (by decide) ⟨"dict", _, slot_dict_getitem.lookup, hg.1, hg.2⟩))
  case e4 =>
    intro S h₂ tk ys hD' hpl hys hF hk₂
    have hS : StrsAre ys.toList (pr.map (wordOf D)) := strsAre_of _ _ (by rw [Array.length_toList, hys, hI.1, List.length_map]) fun j v hj => by
      obtain ⟨p, t, e, e2⟩ := hF j v (by rw [← Array.getElem?_toList]; exact hj)
      exact ⟨wordOf D p, t, by rw [List.getElem?_map, e]; rfl, e2⟩
    exact hQ S h₂ tk ys (F.keeps hk₂) (fun p hp => ⟨hk₂ _ _ (N p hp).1, (N p hp).2⟩) hpl.isList hk₂ hS
end
theorem le1000_13 {a : Nat} (h : a ≤ 13) : a ≤ 1000 := Nat.le_trans h (by decide)
theorem sum_13 {a s : Nat} (h : a ≤ 13) (hs : s ≤ 42 * a) : s ≤ 1000000 := by omega
theorem line_13 {a : Nat} (h : a ≤ 13) : a ≤ sizeLine := by rw [sizeLine_eq]; omega
theorem i63_13 {a : Nat} (h : a ≤ 13) : (a : Int) < 2 ^ 63 := by omega
theorem units_in2 (e : Env) : (callerA.deeper e).in1.in1.units < cLine := Nat.lt_of_le_of_lt (Nat.add_le_add_left (show 2 ≤ 100 by decide) _) (units_of e)
theorem News.tail {g hp : Heap} {L : Addr} {a : Addr × Obj} {l : List (Addr × Obj)} (N : News g L hp (a :: l)) : News g L hp l := fun q hq => N q (List.mem_cons_of_mem _ hq)
end
example : True := by
  k_with_none
  k_with "~m:enter" => (((case k1 | k2 | k3 => assumption); (case k4 => first | assumption | (intro _ hq; cases hq)); (case k6 | k7 => k_is); (case k8 => first | assumption | omega | (simp only [depth_deeper, depth_in1, recursionLimit] at *; omega)); (case k9 => first | exact BindsTo.of_eq rfl | exact binds_K (Frag.In.keeps (by assumption) (by assumption)) rfl (by k_is) rfl rfl rfl); (case c5 => decide); (case kB => exact locs rfl); (case c2 | c3 | c4 => exact rfl)))
  k_with "~k_inst" => ((refine' InstAt.of_accN ?zqN ?zqh1 ?zqh2; (case zqN => k_asm); (case zqh1 | zqh2 => k_mem)))
  k_with "~m:shadow" => ((refine shadow_of ?_; k_get))
  k_with "~getMethod ref" => ((k_here; (first
    | (refine' method_fnG ?zqk1 ?zqk2 ?zqk3 ?zqk4 ?zqk5 ?zqk6 ?zqk7 ?zqk8 ?_; k_dflt ((case zqk1 => k_in); (case zqk2 => k_inst); (case zqk3 => k_is); (case zqk4 => first | with_reducible exact canon_list_ga | with_reducible exact PySem.F.canon_object_ga | decide +kernel); (case zqk5 | zqk6 | zqk7 => k_is); (case zqk8 => walk_at "m:shadow"); k_whole))
    | (refine' method_biG ?zqk1 ?zqk2 ?zqk3 ?zqk4 ?zqk5 ?zqk6 ?zqk7 ?zqk8 ?zqk9 ?_; k_dflt ((case zqk1 => k_in); (case zqk2 => k_inst); (case zqk3 => k_is); (case zqk4 => first | with_reducible exact canon_list_ga | with_reducible exact PySem.F.canon_object_ga | decide +kernel); (case zqk5 | zqk6 | zqk7 => k_is); (case zqk8 => decide); (case zqk9 => walk_at "m:shadow"); k_whole)))))
  k_with "~call builtin:list.append" => ((k_here; (refine' append_acc ?zqk1 ?zqk2 ?zqk3 ?zqk4 ?zqk5 ?zqk6 ?_ ?zqk7; k_dflt ((case zqk1 | zqk2 | zqk3 => k_asm); (case zqk6 => k_upd); (case zqk4 => exact (News.get (by k_asm) (by k_mem))); (case zqk5 => k_is); (case zqk7 => first | assumption | (simp only [sizeLine_eq]; omega)); k_whole)); intro _ _ _; (try k_sweep)))
  k_with "~getMethod ref" => ((k_here; ks_any; k_dflt (first
    | (refine' superM ?zqk1 ?zqk2 ?zqk3 ?zqk4 ?zqk5 ?zqk6 ?zqk7 ?zqk8 lk_wget ?zqk9 (fun h hi => binds_of plain_wget entry_wget (chk_wlen _ _) (get_len _ _) hi) ?zqk10 ?_; (case zqk1 | zqk2 | zqk3 => k_asm); (case zqk4 => k_mem); (case zqk5 => k_inst); (case zqk6 => k_is); (case zqk7 => ks_is); (case zqk8 | zqk9 => k_is); (case zqk10 => decide); k_whole; intro _ _ _ _ l1; (try (replace l1 := allLt_of l1; dsimp only [AllLt] at l1)); revert l1; intro _; (try k_sweep))
    | (refine' superM ?zqk1 ?zqk2 ?zqk3 ?zqk4 ?zqk5 ?zqk6 ?zqk7 ?zqk8 lk_wget ?zqk9 (fun h hi => binds_of plain_wget entry_wget (chk_winit _ _) (get_init _ _) hi) ?zqk10 ?_; (case zqk1 | zqk2 | zqk3 => k_asm); (case zqk4 => k_mem); (case zqk5 => k_inst); (case zqk6 => k_is); (case zqk7 => ks_is); (case zqk8 | zqk9 => k_is); (case zqk10 => decide); k_whole; intro _ _ _ _ l1; (try (replace l1 := allLt_of l1; dsimp only [AllLt] at l1)); revert l1; intro _; (try k_sweep))
    | (refine' superM ?zqk1 ?zqk2 ?zqk3 ?zqk4 ?zqk5 ?zqk6 ?zqk7 ?zqk8 lk_mget ?zqk9 (fun h hi => binds_of plain_mget entry_mget (chk_mpop _ _) (get_pop _ _) hi) ?zqk10 ?_; (case zqk1 | zqk2 | zqk3 => k_asm); (case zqk4 => k_mem); (case zqk5 => k_inst); (case zqk6 => k_is); (case zqk7 => ks_is); (case zqk8 | zqk9 => k_is); (case zqk10 => decide); k_whole; intro _ _ _ _ l1; (try (replace l1 := allLt_of l1; dsimp only [AllLt] at l1)); revert l1; intro _; (try k_sweep)))))
  k_with "~wpAt" => ((ks_step "attributeBase Call"; k_here; k_dflt (refine node_M (by k_asm) (by k_asm) (by k_asm) (by k_asm) (by k_is) (by rfl) (by rfl) (by k_inst) (by k_is) (by rfl) (by first | rfl | decide +kernel) (by k_is) (by k_is) (by k_is) (by k_is) (by decide) (by rfl) (by rfl) (by rfl) (by rfl) (by decide +kernel) (by first | boot_by_name | rfl | kernel_rfl) ?_; intro _ _ _ _ l1; (try (replace l1 := allLt_of l1; dsimp only [AllLt] at l1)); revert l1; intro _; (try k_sweep))))
  k_with "~callWith ref" => ((k_here; (first
    | (refine' callWith_B0 ?zqk1 ?zqk2 ?_; k_dflt ((case zqk1 => exact (News.get (by k_asm) (by k_mem))); (case zqk2 => decide); k_whole; try dsimp only [List.nil_append, List.cons_append]))
    | (refine' callWith_B ?zqk1 ?zqk2 ?_ ?zqk3 ?zqk4; k_dflt ((case zqk1 => k_is); (case zqk2 => decide); (case zqk3 | zqk4 => rfl); k_whole)))))
  k_with "~call ref" => ((k_here; (first
    | (refine' super_len ?zqk1 ?zqk2 ?_; k_dflt ((case zqk1 | zqk2 => exact (News.get (by k_asm) (by k_mem))); k_whole))
    | (refine' super_init ?zqk1 ?zqk2 ?zqk3 ?zqk4 ?zqk5 ?_; k_dflt ((case zqk1 | zqk2 => k_asm); (case zqk3 => exact (News.get (by k_asm) (by k_mem))); (case zqk5 => k_upd); (case zqk4 => k_ne); k_whole; intro _ _ _; (try k_sweep)))
    | (refine' super_pop ?zqk1 ?zqk2 ?zqk3 ?zqk4 ?zqk5 ?zqk6 ?zqk7 ?zqk8 ?zqk9 ?zqk10 ?zqk11 ?_; k_dflt ((case zqk1 | zqk2 | zqk3 => k_asm); (case zqk4 => exact (News.get (by k_asm) (by k_mem))); (case zqk10 => k_upd); (case zqk5 => exact (News.get (by k_asm) (by k_mem))); (case zqk6 | zqk7 => k_is); (case zqk8 => rfl); (case zqk9 => k_is); (case zqk11 => first | assumption | (simp only [sizeLine_eq]; omega)); k_whole; intro _ _ _; (try k_sweep))))))
  k_with "~m:sub" => (first | exact List.forall_mem_nil _ | (refine List.forall_mem_cons.mpr ⟨by k_mem, ?_⟩; walk_at "m:sub"))
  k_with "~setAttr ref" => ((k_here; (refine' set_acc ?zqk1 ?zqk2 ?zqk3 ?zqk4 ?zqk5 ?zqk6 ?zqk7 ?zqk8 ?zqk9 ?zqk10 ?zqk11 ?zqk12 ?zqk13 ?_; k_dflt ((case zqk1 | zqk2 | zqk3 => k_asm); (case zqk4 => k_inst); (case zqk5 => exact rfl); (case zqk6 => k_is); (case zqk7 => rfl); (case zqk8 | zqk9 => k_is); (case zqk10 => k_get); (case zqk11 => k_put); (case zqk12 => k_upd); (case zqk13 => exact Nat.le_of_ble_eq_true rfl); k_whole; intro _ _ _; (try k_sweep)))))
  k_with "~subscriptTail" => ((k_here; (with_reducible show wpAny _ _ (subscriptTail _ _ (Value.ref _) (Value.ref _)) _ _ _); (refine' slice_acc ?zqk1 ?zqk2 ?zqk3 ?zqk4 ?zqk5 ?zqk6 ?zqk7 ?zqk8 ?zqk9 ?zqk10 ?_ ?zqk11 ?zqk12 ?zqk13; k_dflt ((case zqk1 | zqk2 | zqk3 => k_asm); (case zqk4 => k_inst); (case zqk5 => exact rfl); (case zqk6 | zqk7 | zqk8 => k_is); (case zqk9 | zqk10 => first | exact IsPart.none | exact IsPart.int _ _); (case zqk11 => with_unfolding_all rfl); (case zqk12 => intro _; with_unfolding_all rfl); (case zqk13 => first | assumption | (simp only [sizeLine_eq]; omega)); k_whole; intro _ _ _ _ l1; (try (replace l1 := allLt_of l1; dsimp only [AllLt] at l1)); revert l1; intro _; (try k_sweep)))))
  k_with "~m:steps" => (repeat' (first | (walk1; (try dsimp only)) | (dsimp only; walk1; (try dsimp only)) | fail "no step"))
  k_with "~k_in" => ((refine' Frag.In.keeps ?zqkx ?zqkh; (case zqkx => with_reducible assumption); (case zqkh => exact Fr.keep (by with_reducible assumption))))
  k_with "~k_ne" => ((refine neN ?_; (try dsimp only); (try dsimp only [AllLt] at *); omega))
  k_with "~k_ne" => (first | with_reducible assumption | (refine Ne.symm ?_; with_reducible assumption) | (refine' ne_lt ?zqkh ?zqkm; (case zqkh => with_reducible assumption); (case zqkm => k_mem)) | (refine' Ne.symm (ne_lt ?zqkh ?zqkm); (case zqkh => with_reducible assumption); (case zqkm => k_mem)) | (refine neN ?_; decide))
  trivial
-- text LF
section
inductive LawJ (w : World) (x dx wd c l0 : Addr) (hsh : Int) (kt bt : Tok) (cO lo : Obj) (i : Nat) (m : Str → Option Value) (news : List (Addr × Obj)) : Prop
  | mk (its : Array Value) (n : Nat) (l : Addr) (pits : Array Value) (pn : Nat) (wo : Obj) (kvs : List (Str × Value)) (D : List (PyData × PyData)) (ps qs : Array Value) (pr : List (Str × Str)) (tl : List (Addr × Obj))
    (h1 : news = (x, accObj dx its n) :: (dx, accDict hsh kt (.int 3 bt) 1) :: (l, listOf pits pn) :: (wd, wo) :: (c, cO) :: (86, tabObj ps) :: (93, tabObj qs) :: (l0, lo) :: tl)
    (h2 : m (Str.ofString "kept") = some (.ref x)) (h3 : m (Str.ofString "plain") = some (.ref l)) (h4 : Obj.IsDictOf (PySem.strKind PG w) wo kvs) (h5 : PyProof.V.FlatPairs PyData.str kvs D) (h6 : TriplesOk ps.toList) (h7 : TriplesOk qs.toList)
    (h8 : ItemsN tl its pr) (h9 : ItemsN tl pits pr) (h10 : pr.length ≤ i) (h11 : D.length ≤ i) (h12 : ∀ p ∈ pr, PairD D p) (h13 : ∀ a ∈ ([x, dx, wd, c, 86, 93, l0] : List Addr), @Ne Nat l a) (h14 : ∀ p ∈ tl, p.1 ∉ ([x, dx, l, wd, c, 86, 93, l0] : List Addr)) : LawJ w x dx wd c l0 hsh kt bt cO lo i m news
theorem perm8 {g hp : Heap} {L a1 a2 a3 a4 a5 a6 a7 a8 : Addr} {news : List (Addr × Obj)} {o1 o2 o3 o4 o5 o6 o7 o8 : Obj} (N : News g L hp news) (h1 : (a1, o1) ∈ news) (h2 : (a2, o2) ∈ news) (h3 : (a3, o3) ∈ news) (h4 : (a4, o4) ∈ news) (h5 : (a5, o5) ∈ news) (h6 : (a6, o6) ∈ news) (h7 : (a7, o7) ∈ news) (h8 : (a8, o8) ∈ news) :
    News g L hp [(a1, o1), (a2, o2), (a3, o3), (a4, o4), (a5, o5), (a6, o6), (a7, o7), (a8, o8)] := fun q hq => by
  simp only [List.mem_cons, List.not_mem_nil, or_false] at hq
  rcases hq with rfl | rfl | rfl | rfl | rfl | rfl | rfl | rfl
  · exact N _ h1
  · exact N _ h2
  · exact N _ h3
  · exact N _ h4
  · exact N _ h5
  · exact N _ h6
  · exact N _ h7
  · exact N _ h8
theorem own_1 {own : List (Addr × Obj)} {a : Addr} (h : own.map (·.1) = [a]) : ∃ o, own = [(a, o)] := own_one h
theorem triples_nil : TriplesOk (#[] : Array Value).toList := by first | trivial | exact fun _ h => (nomatch h) | (simp [TriplesOk])
theorem mod_known {prog : Program} {w : World} {A : Around} {E : Value → Shared → Prop} {s : Shared} {a b k : Int} {t u : Tok} {Q : Value → Shared → Prop} (h : a.fmod b = k) (hb : b ≠ 0) (hq : Q (.int k s.toks) { s with toks := s.toks + 1 }) : wpAny (model prog w) A (binaryOp .Mod (.int a t) (.int b u)) Q E s :=
  PyProof.Rows.mod_int hb (by rw [h]; exact hq)
theorem ldC {M : Model} {A : Around} {E : Value → Shared → Prop} {s : Shared} {h₀ : Heap} {L a : Addr} {m : Str → Option Value} {q : Str} {scope : Scope} {cd : Value} {y : Str} {pos : Pos} {v : Value} {Q : Value → Shared → Prop} (F : Fr h₀ L s.heap m) (hv : m y = some v) (hk : scope.kind = .function) (hx : (envOfC q scope L a cd).kindOf y = some .local) (hd : (y == ("__debug__" : Str)) = false) (h : Q v s) :
    wpAny M A (eval (.Name y pos) (envOfC q scope L a cd)) Q E s := wpAny_Name (wpAny_loadName_local hk hx F.ns hv h) hd
inductive Mid (w : World) (x dx wd c l0 : Addr) (hsh : Int) (kt bt : Tok) (cO lo : Obj) (g : Heap) (L I : Addr) (oI : Obj) (s : Shared) (i : Nat) (s' : Shared) : Prop
  | mk (m₂ : Str → Option Value) (news₂ : List (Addr × Obj)) (h1 : LawJ w x dx wd c l0 hsh kt bt cO lo i m₂ news₂) (h2 : Fr g L s'.heap m₂) (h3 : News g L s'.heap ((I, oI) :: news₂)) (h4 : s'.os = s.os) (h5 : AllBare s.gens → AllBare s'.gens) (h6 : ∀ p ∈ news₂, @Ne Nat p.1 I) : Mid w x dx wd c l0 hsh kt bt cO lo g L I oI s i s'
inductive WordR (x l' : Addr) (g : Heap) (L : Addr) (news : List (Addr × Obj)) (q : Int) (s s' : Shared) : Prop
  | mk (m : Str → Option Value) (wv : Str) (t2 t3 : Tok) (F : Fr g L s'.heap m) (N : News g L s'.heap news) (k1 : m (Str.ofString "kept") = some (.ref x)) (k2 : m (Str.ofString "plain") = some (.ref l')) (k3 : m (Str.ofString "more") = some (.int q t3)) (k4 : m (Str.ofString "word") = some (.str wv t2)) (k5 : ∀ c ∈ wv.cps.toList, c ∈ letters) (k6 : wv.length ≤ 4) (os : s'.os = s.os) (br : AllBare s.gens → AllBare s'.gens) : WordR x l' g L news q s s'
inductive WordJ (x l' : Addr) (g : Heap) (L : Addr) (news : List (Addr × Obj)) (q : Int) (s : Shared) (n0 : Nat) (s' : Shared) : Prop
  | mk (m : Str → Option Value) (wv : Str) (r : Int) (t1 t2 t3 : Tok) (F : Fr g L s'.heap m) (N : News g L s'.heap news) (k1 : m (Str.ofString "kept") = some (.ref x)) (k2 : m (Str.ofString "plain") = some (.ref l')) (k3 : m (Str.ofString "more") = some (.int q t3)) (k4 : m (Str.ofString "word") = some (.str wv t2)) (k5 : m (Str.ofString "rest") = some (.int r t1)) (k6 : 0 ≤ r) (k7 : ∀ c ∈ wv.cps.toList, c ∈ letters) (k8 : wv.length ≤ 4) (e : n0 = 4 - wv.length) (os : s'.os = s.os) (br : AllBare s.gens → AllBare s'.gens) : WordJ x l' g L news q s n0 s'
theorem mul_blank {k : Int} (h : k = 0 ∨ k = 1) : ∃ n : Nat, (Txt.mul (Str.ofString " ") (1 + k)).cps.toList = List.replicate (n + 1) 32 ∧ n ≤ 1 := by
  rcases h with rfl | rfl
  · exact ⟨0, by decide +kernel, by decide⟩
  · exact ⟨1, by decide +kernel, by decide⟩
theorem lawJ_push {w : World} {x dx wd c l0 : Addr} {hsh : Int} {kt bt : Tok} {cO lo : Obj} {i : Nat} {m₂ : Str → Option Value} {its pits : Array Value} {n pn : Nat} {l t D' : Addr} {wo' : Obj} {kvs' : List (Str × Value)} {D : List (PyData × PyData)} {ps qs : Array Value} {pr : List (Str × Str)} {tl : List (Addr × Obj)} {blank sign word : Str} {t1 t2 t3 t4 : Tok}
    (hk : m₂ (Str.ofString "kept") = some (.ref x)) (hp : m₂ (Str.ofString "plain") = some (.ref l)) (hD : Obj.IsDictOf (PySem.strKind PG w) wo' kvs') (hf : PyProof.V.FlatPairs PyData.str kvs' (PyProof.V.putD (.str sign) (.str word) D)) (ht1 : TriplesOk ps.toList) (ht2 : TriplesOk qs.toList)
    (hI : ItemsN tl its pr) (hP : ItemsN tl pits pr) (hpl : pr.length ≤ i) (hDl : D.length ≤ i) (hpr : ∀ p ∈ pr, PairD D p) (hla : ∀ a ∈ ([x, dx, wd, c, 86, 93, l0] : List Addr), @Ne Nat l a) (htl : ∀ p ∈ tl, p.1 ∉ ([x, dx, l, wd, c, 86, 93, l0] : List Addr))
    (hb : ∃ n : Nat, blank.cps.toList = List.replicate (n + 1) 32 ∧ n ≤ 1) (hg : Good sign word) (k1 : t ∉ ([x, dx, l, wd, c, 86, 93, l0] : List Addr)) (k2 : D' ∉ ([x, dx, l, wd, c, 86, 93, l0] : List Addr)) :
    LawJ w x dx wd c l0 hsh kt bt cO lo (i + 1) m₂ ((x, accObj dx (its.push (.ref t)) (n + 1)) :: (dx, accDict hsh kt (.int 3 bt) 1) :: (l, listOf (pits.push (.ref D')) (pn + 1)) :: (wd, wo') :: (c, cO) :: (86, tabObj ps) :: (93, tabObj qs) :: (l0, lo) :: (t, tupObj blank sign t1 t2) :: (D', tupObj blank sign t3 t4) :: tl) := by
  obtain ⟨nb, hb1, hb2⟩ := hb
  refine ⟨its.push (.ref t), n + 1, l, pits.push (.ref D'), pn + 1, wo', kvs', _, ps, qs, pr ++ [(blank, sign)], (t, tupObj blank sign t1 t2) :: (D', tupObj blank sign t3 t4) :: tl, rfl, hk, hp, hD, hf, ht1, ht2,
    (hI.mono fun p hp => List.mem_cons_of_mem _ (List.mem_cons_of_mem _ hp)).push (List.mem_cons_self ..), (hP.mono fun p hp => List.mem_cons_of_mem _ (List.mem_cons_of_mem _ hp)).push (List.mem_cons_of_mem _ (List.mem_cons_self ..)), ?_, ?_, ?_, hla, ?_⟩
  · rw [List.length_append]; simp only [List.length_cons, List.length_nil]; omega
  · exact Nat.le_trans (PyProof.V.putD_length_le _ _ _) (Nat.succ_le_succ hDl)
  · intro p hp
    rcases List.mem_append.mp hp with hp | hp
    · exact (hpr p hp).put hg
    · rw [List.mem_singleton.mp hp]; exact .new hb1 hb2 hg
  · intro p hp
    rcases List.mem_cons.mp hp with rfl | hp
    · exact k1
    · rcases List.mem_cons.mp hp with rfl | hp
      · exact k2
      · exact htl p hp
theorem perm10 {g hp : Heap} {L a0 a1 a2 a3 a4 a5 a6 a7 a8 a9 a10 : Addr} {news tl : List (Addr × Obj)} {o0 o1 o2 o3 o4 o5 o6 o7 o8 o9 o10 : Obj} (N : News g L hp news) (h0 : (a0, o0) ∈ news) (h1 : (a1, o1) ∈ news) (h2 : (a2, o2) ∈ news) (h3 : (a3, o3) ∈ news) (h4 : (a4, o4) ∈ news) (h5 : (a5, o5) ∈ news) (h6 : (a6, o6) ∈ news) (h7 : (a7, o7) ∈ news) (h8 : (a8, o8) ∈ news) (h9 : (a9, o9) ∈ news) (h10 : (a10, o10) ∈ news) (ht : ∀ p ∈ tl, p ∈ news) :
    News g L hp ((a0, o0) :: (a1, o1) :: (a2, o2) :: (a3, o3) :: (a4, o4) :: (a5, o5) :: (a6, o6) :: (a7, o7) :: (a8, o8) :: (a9, o9) :: (a10, o10) :: tl) := fun q hq => by
  simp only [List.mem_cons] at hq
  rcases hq with rfl | rfl | rfl | rfl | rfl | rfl | rfl | rfl | rfl | rfl | rfl | hq
  · exact N _ h0
  · exact N _ h1
  · exact N _ h2
  · exact N _ h3
  · exact N _ h4
  · exact N _ h5
  · exact N _ h6
  · exact N _ h7
  · exact N _ h8
  · exact N _ h9
  · exact N _ h10
  · exact N _ (ht _ hq)
theorem words_in : ∀ (n : Nat) (l : List Nat), (∀ c ∈ l, c ∈ letters) → l.length ≤ n → l ∈ wordsTo n
  | 0, [], _, _ => by simp [wordsTo]
  | 0, _ :: _, _, h => by simp at h
  | n + 1, [], _, _ => by simp [wordsTo]
  | n + 1, c :: l, h, hl => by
    have ih := words_in n l (fun d hd => h d (List.mem_cons_of_mem _ hd)) (by simpa using hl)
    unfold wordsTo
    refine List.mem_cons_of_mem _ (List.mem_flatMap.mpr ⟨l, ih, List.mem_map.mpr ⟨c, h c (List.mem_cons_self ..), rfl⟩⟩)
theorem empty_letters : ∀ c ∈ (Str.ofString "").cps.toList, c ∈ letters := by
  have e : (Str.ofString "").cps.toList = [] := by decide +kernel
  rw [e]; exact fun _ h => (nomatch h)
theorem ldNC {M : Model} {A : Around} {E : Value → Shared → Prop} {s : Shared} {h₀ : Heap} {L a : Addr} {m : Str → Option Value} {q : Str} {scope : Scope} {cd : Value} {y : Str} {v : Value} {Q : Value → Shared → Prop} (F : Fr h₀ L s.heap m) (hv : m y = some v) (hk : scope.kind = .function) (hx : (envOfC q scope L a cd).kindOf y = some .local) (h : Q v s) :
    wpAny M A (loadName (envOfC q scope L a cd) y) Q E s := wpAny_loadName_local hk hx F.ns hv h
theorem item_letter {k : Int} (h0 : 0 ≤ k) (h1 : k < 4) : ∃ c, (Txt.item (Str.ofString "a 'b") k).cps.toList = [c] ∧ c ∈ letters := by
  have hk : k = 0 ∨ k = 1 ∨ k = 2 ∨ k = 3 := by omega
  rcases hk with rfl | rfl | rfl | rfl
  · exact ⟨97, by decide +kernel, by decide⟩
  · exact ⟨32, by decide +kernel, by decide⟩
  · exact ⟨39, by decide +kernel, by decide⟩
  · exact ⟨98, by decide +kernel, by decide⟩
theorem letter_add {wv : Str} {k : Int} (h0 : 0 ≤ k) (h1 : k < 4) (hw : ∀ c ∈ wv.cps.toList, c ∈ letters) : (∀ c ∈ (wv ++ Txt.item (Str.ofString "a 'b") k).cps.toList, c ∈ letters) ∧ (wv ++ Txt.item (Str.ofString "a 'b") k).length = wv.length + 1 := by
  obtain ⟨c, hc, hm⟩ := item_letter h0 h1
  have e : (wv ++ Txt.item (Str.ofString "a 'b") k).cps.toList = wv.cps.toList ++ [c] := by rw [Str.cps_append, Array.toList_append, hc]
  refine ⟨fun d hd => ?_, ?_⟩
  · rw [e] at hd
    rcases List.mem_append.mp hd with hd | hd
    · exact hw d hd
    · rw [List.mem_singleton.mp hd]; exact hm
  · show (wv ++ Txt.item (Str.ofString "a 'b") k).cps.size = wv.cps.size + 1
    rw [← Array.length_toList, e, List.length_append, Array.length_toList]; rfl
inductive RevJ (I x dx wd c l0 l2 DR : Addr) (oI : Obj) (hsh : Int) (kt bt : Tok) (wo cO lo : Obj) (ps qs nits rits : Array Value) (tl : List (Addr × Obj)) (hd tlr : List (Str × Str)) (j : Nat) (m : Str → Option Value) (news : List (Addr × Obj)) : Prop
  | mk (its' : Array Value) (n' : Nat) (tl' : List (Addr × Obj)) (h1 : news = (I, oI) :: (x, accObj dx its' n') :: (dx, accDict hsh kt (.int 3 bt) 1) :: (l2, listOf nits 0) :: (wd, wo) :: (c, cO) :: (86, tabObj ps) :: (93, tabObj qs) :: (l0, lo) :: (DR, listOf rits 0) :: tl')
    (h2 : m (Str.ofString "kept") = some (.ref x)) (h3 : m (Str.ofString "plain") = some (.ref l2)) (h4 : ItemsN tl' its' (hd ++ tlr.take j)) (h5 : ∀ p ∈ tl, p ∈ tl') (h6 : ∀ p ∈ tl', p.1 ∉ ([I, x, dx, l2, wd, c, 86, 93, l0, DR] : List Addr)) : RevJ I x dx wd c l0 l2 DR oI hsh kt bt wo cO lo ps qs nits rits tl hd tlr j m news
theorem revlen {α : Type} (l : List α) (k j : Nat) : (l.take k ++ (l.drop k).reverse.take j).length ≤ l.length := by
  rw [List.length_append, List.length_take, List.length_take, List.length_reverse, List.length_drop]; omega
theorem news_move {g hp : Heap} {L : Addr} {a : Addr × Obj} {l1 l2 : List (Addr × Obj)} (N : News g L hp (a :: (l1 ++ l2))) : News g L hp (l1 ++ a :: l2) := fun q hq => N q (by
  rcases List.mem_append.mp hq with h | h
  · exact List.mem_cons_of_mem _ (List.mem_append.mpr (.inl h))
  · rcases List.mem_cons.mp h with h | h
    · rw [h]; exact List.mem_cons_self ..
    · exact List.mem_cons_of_mem _ (List.mem_append.mpr (.inr h)))
theorem permA {g hp : Heap} {L a0 a1 a2 a3 a4 a5 a6 a7 a8 a9 : Addr} {news tl : List (Addr × Obj)} {o0 o1 o2 o3 o4 o5 o6 o7 o8 o9 : Obj} (N : News g L hp news) (h0 : (a0, o0) ∈ news) (h1 : (a1, o1) ∈ news) (h2 : (a2, o2) ∈ news) (h3 : (a3, o3) ∈ news) (h4 : (a4, o4) ∈ news) (h5 : (a5, o5) ∈ news) (h6 : (a6, o6) ∈ news) (h7 : (a7, o7) ∈ news) (h8 : (a8, o8) ∈ news) (h9 : (a9, o9) ∈ news) (ht : ∀ p ∈ tl, p ∈ news) :
    News g L hp ((a0, o0) :: (a1, o1) :: (a2, o2) :: (a3, o3) :: (a4, o4) :: (a5, o5) :: (a6, o6) :: (a7, o7) :: (a8, o8) :: (a9, o9) :: tl) := fun q hq => by
  simp only [List.mem_cons] at hq
  rcases hq with rfl | rfl | rfl | rfl | rfl | rfl | rfl | rfl | rfl | rfl | hq
  · exact N _ h0
  · exact N _ h1
  · exact N _ h2
  · exact N _ h3
  · exact N _ h4
  · exact N _ h5
  · exact N _ h6
  · exact N _ h7
  · exact N _ h8
  · exact N _ h9
  · exact N _ (ht _ hq)
theorem extract0 (its : Array Value) (k : Nat) : its.extract 0 k = (its.toList.take k).toArray := by
  apply Array.ext'; rw [Array.toList_extract, List.extract_eq_drop_take]; simp
theorem rev_next {tl : List (Addr × Obj)} {its : Array Value} {hd r : List (Str × Str)} {j : Nat} {p : Str × Str} {t : Addr} {ta tb : Tok} (x : ItemsN tl its (hd ++ r.take j)) (hp : r[j]? = some p) : ItemsN ((t, tupObj p.1 p.2 ta tb) :: tl) (its.push (.ref t)) (hd ++ r.take (j + 1)) := by
  rw [List.take_add_one, hp, ← List.append_assoc]
  exact (x.mono fun q hq => List.mem_cons_of_mem _ hq).push (List.mem_cons_self ..)
theorem apart_one {p : Addr × Obj} {news : List (Addr × Obj)} {I : Addr} (h : ∀ p ∈ news, p.1 ∉ ([I] : List Addr)) (hp : p ∈ news) : @Ne Nat p.1 I := fun e => h p hp (List.mem_singleton.mpr e)
theorem apart_snoc {a : Addr × Obj} {l1 l2 : List (Addr × Obj)} {I : Addr} (h : ∀ p ∈ l1 ++ l2, p.1 ∉ ([I] : List Addr)) (ha : @Ne Nat I a.1) : ∀ p ∈ l1 ++ a :: l2, p.1 ∉ ([I] : List Addr) := fun q hq => by
  rcases List.mem_append.mp hq with hq | hq
  · exact h q (List.mem_append.mpr (.inl hq))
  · rcases List.mem_cons.mp hq with rfl | hq
    · exact fun z => ha (List.mem_singleton.mp z).symm
    · exact h q (List.mem_append.mpr (.inr hq))
theorem revlen' {α : Type} (l : List α) (k : Nat) : (l.take k ++ (l.drop k).reverse).length ≤ l.length := by
  rw [List.length_append, List.length_take, List.length_reverse, List.length_drop]; omega
theorem mem_skip {α : Type} {a q : α} {l1 l2 : List α} (h : q ∈ l1 ++ l2) : q ∈ l1 ++ a :: l2 := by
  rcases List.mem_append.mp h with h | h
  · exact List.mem_append.mpr (.inl h)
  · exact List.mem_append.mpr (.inr (List.mem_cons_of_mem _ h))
theorem apartN {I x dx l wd c l0 t : Addr} {tl : List (Addr × Obj)} (h : @Ne Nat I t ∧ @Ne Nat x t ∧ @Ne Nat dx t ∧ @Ne Nat l t ∧ @Ne Nat wd t ∧ @Ne Nat c t ∧ @Ne Nat 86 t ∧ @Ne Nat 93 t ∧ @Ne Nat l0 t ∧ AllNe t tl) : t ∉ ([x, dx, l, wd, c, 86, 93, l0] : List Addr) := by
  obtain ⟨_, h1, h2, h3, h4, h5, h6, h7, h8, _⟩ := h
  simp only [List.mem_cons, List.not_mem_nil, or_false, not_or]
  exact ⟨Ne.symm h1, Ne.symm h2, Ne.symm h3, Ne.symm h4, Ne.symm h5, Ne.symm h6, Ne.symm h7, Ne.symm h8⟩
theorem apartL {T I x dx l wd c l0 t : Addr} {tl : List (Addr × Obj)} (h : @LT.lt Nat _ T t ∧ @LT.lt Nat _ I t ∧ @LT.lt Nat _ x t ∧ @LT.lt Nat _ dx t ∧ @LT.lt Nat _ l t ∧ @LT.lt Nat _ wd t ∧ @LT.lt Nat _ c t ∧ @LT.lt Nat _ 86 t ∧ @LT.lt Nat _ 93 t ∧ @LT.lt Nat _ l0 t ∧ AllLt t tl) : t ∉ ([x, dx, l, wd, c, 86, 93, l0] : List Addr) := by
  obtain ⟨_, _, h1, h2, h3, h4, h5, h6, h7, h8, _⟩ := h
  simp only [List.mem_cons, List.not_mem_nil, or_false, not_or]
  exact ⟨Nat.ne_of_gt h1, Nat.ne_of_gt h2, Nat.ne_of_gt h3, Nat.ne_of_gt h4, Nat.ne_of_gt h5, Nat.ne_of_gt h6, Nat.ne_of_gt h7, Nat.ne_of_gt h8⟩
theorem firstN {I t : Addr} {P : Prop} (h : @Ne Nat I t ∧ P) : @Ne Nat t I := Ne.symm h.1
theorem secondL {T I t : Addr} {P : Prop} (h : @LT.lt Nat _ T t ∧ @LT.lt Nat _ I t ∧ P) : @Ne Nat t I := Nat.ne_of_gt h.2.1
example : True := by
  k_with "~m:look" => (first | exact rfl | assumption | (dsimp only; repeat (first | rw [if_pos rfl] | rw [if_neg (by decide)])); first | rfl | assumption)
  k_with "~m:room" => (first | assumption | omega | (simp only [depth_deeper, depth_in1]; first | omega | decide) | decide)
  k_with "~exec For" => ((refine Held.out ?_))
  k_with "~call ref" => ((k_here; (with_reducible show wpAny _ _ (call (Value.ref 124) [Value.int _ _]) _ _ _); (refine' new_w ?zqk1 ?zqk2 ?zqk3 ?zqk4 ?zqk5 ?_; k_dflt ((case zqk1 | zqk2 | zqk3 | zqk4 => k_asm); (case zqk5 => walk_at "m:room"); k_whole)); intro _ _ _ _ _ _ _ l1 l2 _ _; (try (replace l1 := allLt_of l1; dsimp only [AllLt] at l1)); (try k_lt2 l2); revert l1 l2; intro _ _; (try k_sweep)))
  k_with "~pyIter ref" => ((refine Held.out ?_))
  k_with "~m:list" => (first | exact News.isList (by k_asm) (by k_mem) | exact Fr.lst (by k_asm) (by assumption))
  k_with "~m:size" => (first | assumption | (simp only [sizeLine_eq]; omega) | omega | (simp only [List.size_toArray, List.length_cons, List.length_nil, Array.size_append]; omega) | (rw [sizeLine_eq]; exact Nat.le_of_ble_eq_true rfl))
  k_with "~subscriptTail Name Slice ref ref" => ((k_here; first
    | ((with_reducible show wpAny _ _ (subscriptTail _ (PySem.Expr.Slice none none (some _) _) (Value.ref _) (Value.ref _)) _ _ _); refine' krv_litP ?zqF ?zqN ?zql ?zqk ?_ ?zqs ?zqt ?zqz; k_dflt ((case zqF | zqN => k_asm); (case zql => walk_at "m:list"); (case zqk => exact IsPart.int _ _); (case zqs => with_unfolding_all rfl); (case zqt => intro _; with_unfolding_all rfl); (case zqz => walk_at "m:size"); k_whole); intro _ _ _ _ l1; (try (replace l1 := allLt_of l1; dsimp only [AllLt] at l1)); revert l1; intro _; (try k_sweep))
    | ((with_reducible show wpAny _ _ (subscriptTail _ (PySem.Expr.Slice _ _ none _) (Value.ref _) (Value.ref _)) _ _ _); refine' kmk_sliceP ?zqF ?zqN ?zql ?zqp ?zqq ?_ ?zqs ?zqt ?zqz; k_dflt ((case zqF | zqN => k_asm); (case zql => walk_at "m:list"); (case zqp | zqq => first | exact IsPart.none | exact IsPart.int _ _); (case zqs => with_unfolding_all rfl); (case zqt => intro _; with_unfolding_all rfl); (case zqz => walk_at "m:size"); k_whole); intro _ _ _ _ l1; (try (replace l1 := allLt_of l1; dsimp only [AllLt] at l1)); revert l1; intro _; (try k_sweep))))
  k_with "~subscriptTail" => ((k_here; first
    | ((with_reducible show wpAny _ _ (subscriptTail _ (PySem.Expr.Slice none none (some _) _) (Value.ref _) (Value.ref _)) _ _ _); refine' krv_litP ?zqF ?zqN ?zql ?zqk ?_ ?zqs ?zqt ?zqz; k_dflt ((case zqF | zqN => k_asm); (case zql => walk_at "m:list"); (case zqk => exact IsPart.int _ _); (case zqs => with_unfolding_all rfl); (case zqt => intro _; with_unfolding_all rfl); (case zqz => walk_at "m:size"); k_whole); intro _ _ _ _ l1; (try (replace l1 := allLt_of l1; dsimp only [AllLt] at l1)); revert l1; intro _; (try k_sweep))
    | ((with_reducible show wpAny _ _ (subscriptTail _ (PySem.Expr.Slice _ _ none _) (Value.ref _) (Value.ref _)) _ _ _); refine' kmk_sliceP ?zqF ?zqN ?zql ?zqp ?zqq ?_ ?zqs ?zqt ?zqz; k_dflt ((case zqF | zqN => k_asm); (case zql => walk_at "m:list"); (case zqp | zqq => first | exact IsPart.none | exact IsPart.int _ _); (case zqs => with_unfolding_all rfl); (case zqt => intro _; with_unfolding_all rfl); (case zqz => walk_at "m:size"); k_whole); intro _ _ _ _ l1; (try (replace l1 := allLt_of l1; dsimp only [AllLt] at l1)); revert l1; intro _; (try k_sweep))))
  k_with "~binaryOp Add ref ref" => ((k_here; k_dflt (refine' add_lists_w ?zqF ?zqN ?zqa ?zqb ?zqz ?_; (case zqF | zqN => k_asm); (case zqa | zqb => walk_at "m:list"); (case zqz => walk_at "m:size"); k_whole); intro _ _ _ _ l1; (try (replace l1 := allLt_of l1; dsimp only [AllLt] at l1)); revert l1; intro _; (try k_sweep)))
  k_with "~k_all" => (with_reducible assumption)
  k_with "~k_ne" => (first | with_reducible assumption | (refine Ne.symm ?_; with_reducible assumption))
  k_with "~call ref" => ((k_here; (with_reducible show wpAny _ _ (call (Value.ref 68) [Value.ref _, _, _]) _ _ _); (refine' push_w ?zqk1 ?zqk2 ?zqk3 ?zqk4 ?zqk5 ?zqk6 ?zqk7 ?zqk8 ?zqk9 ?_; k_dflt ((case zqk1 | zqk2 | zqk3 | zqk4 => k_asm); (case zqk5 => k_mem); (case zqk6 => (intro _; k_upd)); (case zqk7 => k_ne); (case zqk8 => walk_at "m:size"); (case zqk9 => walk_at "m:room"); k_whole)); intro _ _ _ _ l1 _ _; (replace l1 := allNe_of l1); (dsimp only [AllNe] at l1); revert l1; intro _; (try k_sweep)))
  k_with "~call ref" => ((k_here; (with_reducible show wpAny _ _ (call (Value.ref 883) [Value.int _ _]) _ _ _); (refine' filemode_w ?zqk1 ?zqk2 ?zqk3 ?zqk4 ?zqk5 ?zqk6 ?zqk7 ?zqk8 ?_; k_dflt ((case zqk1 | zqk2 | zqk3 | zqk4 => k_asm); (case zqk5 => walk_at "m:room"); (case zqk6 => exact rfl); (case zqk7 | zqk8 => omega); k_whole)); intro _ _ _ _ _ _ _ _; (try k_sweep)))
  k_with "~call ref" => ((k_here; (with_reducible show wpAny _ _ (call (Value.ref 836) [Value.str _ _]) _ _ _); (refine' quote_w ?zqk1 ?zqk2 ?zqk3 ?zqk4 ?zqk5 ?zqk6 ?_; k_dflt ((case zqk1 | zqk2 | zqk3 | zqk4 => k_asm); (case zqk5 => walk_at "m:room"); (case zqk6 => assumption); k_whole)); intro _ _ _ _ _ _; (try k_sweep)))
  k_with "~setItem ref str" => ((k_here; (refine' dict_set_w ?zqk1 ?zqk2 ?zqk3 ?zqk4 ?zqk5 ?zqk6 ?zqk7 ?_; k_dflt ((case zqk1 => exact PyProof.V.Flat.str _ _); (case zqk2 | zqk3 => k_asm); (case zqk4 => (intro _; k_upd)); (case zqk5 | zqk6 => k_asm); (case zqk7 => walk_at "m:size"); k_whole)); intro _ _ _ _ _ _; (try k_sweep)))
  k_with "~binaryOp Mod int int" => ((refine' mod_known ?zqk1 ?zqk2 ?_; (case zqk1 => with_reducible assumption); (case zqk2 => decide)))
  k_with "~exec If" => (refine wpAny_If ?_)
  k_with "~exec If" => (((with_reducible show wpAny _ _ (exec (Stmt.If (Expr.Compare (Expr.Name (PySem.Str.ofString "deed") _) [CmpOp.Lt] _ _) _ _ _) _) _ _ _); refine Held.out ?_))
  k_with "~exec While" => ((refine Held.out ?_))
  k_with "~eval Name" => ((k_here; (refine' ldC ?zqk1 ?zqk2 ?zqk3 ?zqk4 ?zqk5 ?_; k_dflt ((case zqk1 => k_asm); (case zqk2 => walk_at "m:look"); (case zqk3 | zqk4 => rfl); (case zqk5 => decide); k_whole))))
  k_with "~k_in" => ((refine' Frag.In.keeps ?zqkx ?zqkh; (case zqkx => with_reducible assumption); (case zqkh => exact Fr.keep (by with_reducible assumption))))
  k_with "~getMethod ref" => ((k_here; (refine' method_fnG ?zqk1 ?zqk2 ?zqk3 ?zqk4 ?zqk5 ?zqk6 ?zqk7 ?zqk8 ?_; k_dflt ((case zqk1 => k_in); (case zqk2 => k_inst); (case zqk3 => k_is); (case zqk4 => first | with_reducible exact canon_list_ga | with_reducible exact PySem.F.canon_object_ga | decide +kernel); (case zqk5 | zqk6 | zqk7 => k_is); (case zqk8 => walk_at "m:shadow"); k_whole))))
  k_with "~m:bare" => ((repeat (first | with_reducible assumption | (dsimp only; with_reducible assumption) | with_reducible apply_assumption | (dsimp only; with_reducible apply_assumption))))
  k_with "~m:apart" => ((simp only [List.mem_cons, List.not_mem_nil, or_false, not_or]; (repeat' apply And.intro) <;> (refine neN ?_; omega)))
  k_with "~loadName" => ((k_here; (refine' ldNC ?zqk1 ?zqk2 ?zqk3 ?zqk4 ?_; k_dflt ((case zqk1 => k_asm); (case zqk2 => walk_at "m:look"); (case zqk3 | zqk4 => rfl); k_whole))))
  k_with "~m:tail" => ((intro _ hp; repeat (first | exact hp | refine List.mem_cons_of_mem _ ?_)))
  k_with "~compareOp NotEq ref ref" => ((refine Held.out ?_))
  k_with "~getMethod ref" => ((k_here; (with_reducible show wpAny _ _ (getMethod (Value.ref _) (PySem.Str.ofString "pop") _) _ _ _); (refine' meth_pop_w ?zqk1 ?zqk2 ?_; k_dflt ((case zqk1 => k_asm); (case zqk2 => k_mem); k_whole))))
  k_with "~call builtin:list.pop" => ((k_here; (refine' popL_w ?zqk1 ?zqk2 ?zqk3 ?zqk4 ?_; k_dflt ((case zqk1 | zqk2 => k_asm); (case zqk3 => k_upd); (case zqk4 => assumption); k_whole)); intro _ _ _; (try k_sweep)))
  k_with "~call ref" => ((k_here; (try dsimp only [List.cons_append, List.nil_append, List.append_nil]); (with_reducible show wpAny _ _ (call (Value.ref 84) [Value.ref _]) _ _ _); first
    | (refine' pop1_w ?zqk1 ?zqk2 ?zqk3 ?zqk4 ?zqk5 ?zqk6 ?zqk7 ?zqk8 ?zqk9 ?_; k_dflt ((case zqk1 | zqk2 | zqk3 | zqk4 => k_asm); (case zqk5 => k_mem); (case zqk6 => k_upd); (case zqk7 => k_ne); (case zqk8 => assumption); (case zqk9 => walk_at "m:room"); k_whole); intro _ _ _ _ _; (try k_sweep))
    | (refine' pop0_w ?zqk1 ?zqk2 ?zqk3 ?zqk4 ?zqk5 ?zqk6 ?zqk7 ?zqk8 ?_; k_dflt ((case zqk1 | zqk2 | zqk3 | zqk4 => k_asm); (case zqk5 | zqk6 => k_mem); (case zqk7 => k_ne); (case zqk8 => walk_at "m:room"); k_whole); intro _ _ _ _ _ _ l1 _ _; (replace l1 := allNe_of l1); (dsimp only [AllNe] at l1); revert l1; intro _; (try k_sweep))))
  k_with "~binaryOp Mod int int" => ((refine' mod_known ?zqk1 ?zqk2 ?_; (case zqk1 => with_reducible assumption); (case zqk2 => first | decide | omega)))
  k_with "~call ref" => ((k_here; (with_reducible show wpAny _ _ (call (Value.ref 76) [Value.ref _, _]) _ _ _); (refine' pop_from_w ?zqk1 ?zqk2 ?zqk3 ?zqk4 ?zqk5 ?zqk6 ?zqk7 ?zqk8 ?zqk9 ?zqk10 ?_; k_dflt ((case zqk1 | zqk2 | zqk3 | zqk4 => k_asm); (case zqk6 => (intro _; k_upd)); (case zqk5 => k_mem); (case zqk7 => k_ne); (case zqk8 | zqk9 => assumption); (case zqk10 => walk_at "m:room"); k_whole)); intro _ _ _ _ _ l1 _ _; (replace l1 := allNe_of l1); (dsimp only [AllNe] at l1); revert l1; intro _; (try k_sweep)))
  k_with "~call builtin:len" => ((k_here; (with_reducible show wpAny _ _ (call (Value.builtin "len") [Value.ref _]) _ _ _); (refine' PyProof.Rows.len_list ?zqk1 ?zqk2 ?_; (case zqk1 => walk_at "m:list"); (case zqk2 => assumption))))
  k_with "~subscriptTail" => (((with_reducible show wpAny _ _ (subscriptTail (PySem.Expr.Subscript _ _ _) _ (Value.ref _) (Value.ref _)) _ _ _); (with_reducible refine PySem.W.kba_turn (value' := PySem.Expr.Name (PySem.Str.ofString "_") ⟨0, 0, 0, 0⟩) (fun _ => rfl) ?_)))
  k_with "~m:items" => ((refine' ItemsN.at ?zqxx ?zqxN ?zqxk; (case zqxx => with_reducible assumption); (case zqxN => k_asm); (case zqxk => walk_at "m:tail")))
  k_with "~m:units" => (first | exact units_in2 _ | exact units_of _ | exact units64 _)
  k_with "~call ref" => ((k_here; (with_reducible show wpAny _ _ (call (Value.ref 888) [Value.ref _]) _ _ _); (refine' law_text_w ?zqk1 ?zqk2 ?zqk3 ?zqk4 ?zqk5 ?zqk6 ?zqk7 ?zqk8 ?zqk9 ?zqk10 ?_; k_dflt ((case zqk1 | zqk2 | zqk3 | zqk4 => k_asm); (case zqk5 => walk_at "m:room"); (case zqk6 => exact rfl); (case zqk7 => walk_at "m:list"); (case zqk8 => walk_at "m:items"); (case zqk9 | zqk10 => assumption); k_whole)); intro _ _ _ _ _ _; (try k_sweep)))
  k_with "~call type:str" => ((k_here; (with_reducible show wpAny _ _ (call (Value.type "str") [Value.ref _]) _ _ _); (refine' strk_w ?zqk1 ?zqk2 ?zqk3 ?zqk4 ?zqk5 ?zqk6 ?zqk7 ?zqk8 ?zqk9 ?zqk10 ?zqk11 ?zqk12 ?zqk13 ?zqk14 ?zqk15 ?zqk16 ?zqk17 ?zqk18 ?_; k_dflt ((case zqk1 | zqk2 | zqk3 | zqk4 | zqk5 => k_asm); (case zqk6 | zqk7 => k_mem); (case zqk8 => (intro _; k_upd)); (case zqk9 | zqk10 | zqk11 => k_ne); (case zqk12 => walk_at "m:items"); (case zqk13 | zqk14 | zqk15 => assumption); (case zqk16 => walk_at "m:room"); (case zqk17 => exact rfl); (case zqk18 => walk_at "m:units"); k_whole)); intro _ _ _ _ _ _ _ _; (try k_sweep)))
  k_with "~call builtin:len" => ((k_here; (with_reducible show wpAny _ _ (call (Value.builtin "len") [Value.ref _]) _ _ _); (refine' lenk_w ?zqk1 ?zqk2 ?zqk3 ?zqk4 ?zqk5 ?zqk6 ?zqk7 ?zqk8 ?zqk9 ?zqk10 ?zqk11 ?zqk12 ?zqk13 ?zqk14 ?zqk15 ?zqk16 ?zqk17 ?zqk18 ?_; k_dflt ((case zqk1 | zqk2 | zqk3 | zqk4 | zqk5 => k_asm); (case zqk6 | zqk7 => k_mem); (case zqk8 => (intro _; k_upd)); (case zqk9 | zqk10 | zqk11 => k_ne); (case zqk12 => walk_at "m:items"); (case zqk13 | zqk14 => assumption); (case zqk15 | zqk16 => decide); (case zqk17 => walk_at "m:room"); (case zqk18 => exact rfl); k_whole)); intro _ _ _ _ _ _ _ _; (try k_sweep)))
  k_with "~call ref" => ((k_here; (try dsimp only [List.cons_append, List.nil_append, List.append_nil]); (with_reducible show wpAny _ _ (call (Value.ref 121) [Value.ref _]) _ _ _); (refine' part_count_w ?zqk1 ?zqk2 ?zqk3 ?zqk4 ?zqk5 ?zqk6 ?zqk7 ?zqk8 ?zqk9 ?_; k_dflt ((case zqk1 | zqk2 | zqk3 | zqk4 => k_asm); (case zqk5 | zqk6 => k_mem); (case zqk7 => k_ne); (case zqk8 => assumption); (case zqk9 => walk_at "m:room"); k_whole)); intro _ _ _ _ _ _; (try k_sweep)))
  k_with "~call ref" => ((k_here; (try dsimp only [List.cons_append, List.nil_append, List.append_nil]); (with_reducible show wpAny _ _ (call (Value.ref 113) [Value.ref _]) _ _ _); (refine' onlyws_w ?zqk1 ?zqk2 ?zqk3 ?zqk4 ?zqk5 ?zqk6 ?zqk7 ?zqk8 ?zqk9 ?zqk10 ?zqk11 ?zqk12 ?zqk13 ?zqk14 ?zqk15 ?zqk16 ?zqk17 ?zqk18 ?zqk19 ?zqk20 ?zqk21 ?zqk22 ?zqk23 ?zqk24 ?_; k_dflt ((case zqk1 | zqk2 | zqk3 | zqk4 | zqk5 => k_asm); (case zqk6 | zqk7 => k_mem); (case zqk8 => (intro _; k_upd)); (case zqk9 => (intro _ _; k_upd)); (case zqk10 | zqk11 | zqk12 | zqk13 | zqk14 => k_ne); (case zqk15 => walk_at "m:items"); (case zqk16 | zqk17 | zqk18 | zqk19 => assumption); (case zqk20 | zqk21 => decide); (case zqk22 => walk_at "m:room"); (case zqk23 => walk_at "m:units"); (case zqk24 => exact rfl); k_whole)); intro _ _ _ _ _ _ _ _ _; (try k_sweep)))
  k_with "~call ref" => ((k_here; (with_reducible show wpAny _ _ (call (Value.ref 106) [Value.ref _, Value.ref _]) _ _ _); (refine' reset_w ?zqk1 ?zqk2 ?zqk3 ?zqk4 ?zqk5 ?zqk6 ?zqk7 ?zqk8 ?zqk9 ?zqk10 ?zqk11 ?zqk12 ?_; k_dflt ((case zqk1 | zqk2 | zqk3 | zqk4 => k_asm); (case zqk5 => k_mem); (case zqk6 => (intro _; k_upd)); (case zqk7 => (intro _ _; k_upd)); (case zqk8 | zqk9 | zqk10 => k_ne); (case zqk11 => assumption); (case zqk12 => walk_at "m:room"); k_whole)); intro _ _ _ _ _ _ _; (try k_sweep)))
  k_with "~call ref" => (((with_reducible show wpAny _ _ (call (Value.ref 828) [Value.str _ _]) _ _ _); refine Held.out ?_))
  k_with "~eval ListComp" => ((refine Held.out ?_))
  trivial
theorem fdiv2_known {prog : Program} {w : World} {A : Around} {E : Value → Shared → Prop} {s : Shared} {a k : Int} {t u : Tok} {Q : Value → Shared → Prop} (h : a.fdiv 2 = k) (hq : Q (.int k s.toks) { s with toks := s.toks + 1 }) : wpAny (model prog w) A (binaryOp .FloorDiv (.int a t) (.int 2 u)) Q E s :=
  floordiv_int (by decide) (by rw [h]; exact hq) (Or.inl (PyProof.noPylong_of_log2 (by decide +kernel)))
example : True := by
  k_with "~binaryOp FloorDiv int int" => ((refine' fdiv2_known ?zqk1 ?_; (case zqk1 => with_reducible assumption)))
  trivial
theorem half_of {n : Nat} : ∃ k : Nat, ((n : Int)).fdiv 2 = (k : Int) ∧ k ≤ n := ⟨n / 2, by rw [Int.fdiv_eq_ediv_of_nonneg _ (by decide)]; rfl, Nat.div_le_self _ _⟩
theorem ws_eq {pr : List (Str × Str)} (h : ∀ p ∈ pr, PairOk p) : ((0 : Int) == 0 && (((pr.map fun p => p.1.length + p.2.length).sum == 0) || Txt.isspace (textOf pr))) = pr.isEmpty := by
  cases pr with
  | nil => simp
  | cons p r =>
    have h1 := flat_space h (by simp)
    have h2 := (pairs_sum h).2
    rw [h1]
    have h3 : (((p :: r).map fun p => p.1.length + p.2.length).sum == 0) = false := by
      rw [beq_eq_false_iff_ne]; intro z; rw [z] at h2; simp at h2
    rw [h3]; rfl
example : True := by
  k_with "~m:os" => (first | assumption | exact rfl | (refine' Eq.trans ?zqzqo ?_; (case zqzqo => assumption); (try dsimp only); walk_at "m:os"))
  trivial
theorem script_size {vs : List Value} {ns : List Int} (h : IntsAre vs ns) (hn : ¬ ((63 : Nat) : Int) < (ns.length : Int)) : vs.toArray.size ≤ sizeLine := by
  rw [List.size_toArray, h.length, sizeLine_eq]; omega
theorem ints_at : ∀ {vs : List Value} {ns : List Int}, IntsAre vs ns → ∀ (j : Nat) (v : Value), vs[j]? = some v → ∃ i t, v = .int i t
  | _, _, .nil, j, v, h => by simp at h
  | _, _, .cons i t r, j, v, h => by
    cases j with
    | zero => simp at h; exact ⟨i, t, h.symm⟩
    | succ j => exact ints_at r j v (by simpa using h)
theorem pick8 {vs : List Value} {ns : List Int} (h : IntsAre vs ns) : (slicePick vs.toArray none (some 8) none).size ≤ 8 ∧ ∀ (j : Nat) (v : Value), (slicePick vs.toArray none (some 8) none)[j]? = some v → ∃ i t, v = .int i t := by
  have e : slicePick vs.toArray none (some 8) none = (vs.take 8).toArray := slicePick_upto' vs.toArray 8
  rw [e]
  refine ⟨by rw [List.size_toArray, List.length_take]; omega, fun j v hj => ?_⟩
  rw [List.getElem?_toArray] at hj
  by_cases hj8 : j < 8
  · rw [List.getElem?_take_of_lt hj8] at hj
    exact ints_at h j v hj
  · rw [List.getElem?_take_eq_none (by omega)] at hj; cases hj
theorem eight_four {P : Array Value} (h1 : P.size ≤ 8) (h2 : ∀ (j : Nat) (v : Value), P[j]? = some v → ∃ i t, v = .int i t) : ∀ (i1 i2 i3 i4 : Int) (a b c d : Tok), (P ++ #[Value.int i1 a, Value.int i2 b, Value.int i3 c, Value.int i4 d]).size ≤ 12 ∧ ∀ (j : Nat) (v : Value), (P ++ #[Value.int i1 a, Value.int i2 b, Value.int i3 c, Value.int i4 d])[j]? = some v → ∃ i t, v = .int i t := by
  intro i1 i2 i3 i4 a b c d
  refine ⟨by rw [Array.size_append]; simp only [List.size_toArray, List.length_cons, List.length_nil]; omega, fun j v hj => ?_⟩
  have hv : v ∈ (P ++ #[Value.int i1 a, Value.int i2 b, Value.int i3 c, Value.int i4 d]) := Array.mem_of_getElem? hj
  rcases Array.mem_append.mp hv with hv | hv
  · obtain ⟨k, hk⟩ := Array.getElem?_of_mem hv
    exact h2 k v hk
  · simp at hv
    rcases hv with rfl | rfl | rfl | rfl <;> exact ⟨_, _, rfl⟩
theorem room_of {n : Nat} (h : Nat.ble (n + 1) recursionLimit = true) : n < recursionLimit := Nat.le_of_ble_eq_true h
theorem to_PG {α : Type} {w : World} {A : Around} {m : Sem α} {Q : α → Shared → Prop} {E : Value → Shared → Prop} {s : Shared} (h : wpAny (model PG w) A m Q E s) : wpAny (model PySem.Challenge.rw_ik0133_01.row.prog w) A m Q E s := h
theorem topRead_ghost {p : Program} {loose : List Str} {mg mb : Str → Option Value} {h₁ : Heap} {tabs : List (Addr × Addr)} (hT : TabsAt tabs h₁) (T : TopRead p loose mg mb h₁) : TopRead p loose mg mb (ghostOf h₁ tabs) :=
  ⟨ghost_ns hT T.g, ghost_ns hT T.b, let ⟨mc, a, r⟩ := T.nolimit; ⟨mc, ghost_ns hT a, r⟩, T.builtins, T.free⟩
theorem bmod_ghost {h₁ : Heap} {tabs : List (Addr × Addr)} {mg : Str → Option Value} {bm : Addr} {ob : Obj} (hT : TabsAt tabs h₁) (M : BMod h₁ mainGlobals mg bm ob) : BMod (ghostOf h₁ tabs) mainGlobals mg bm ob :=
  ⟨ghost_ns hT M.ns, M.name, M.ne, ghost_get hT M.obj (fun q => by have := M.cls; rw [q] at this; cases this), M.cls, M.dict, M.data⟩
theorem law_walk : PySem.Challenge.rw_ik0133_01.Holds := Mine.hd (by
  k_fill
  intro w s₀ s₁ mg mb G Y fa o pm cd doc dV kV ho hd hcd hD hmg hg args vals as hpre hlay hrd hwl hlo
  have KX := km_in_of Y
  have hT8 := km_tabs_of Y
  have X := (Ground.X G).1
  have V := (Ground.X G).2
  refine Ground.open G ?_
  intro T B D TE TW
  try (refine guard_noD D (by decide +kernel) ?_; clear D)
  obtain ⟨bm, obm, M⟩ := bmod_of_top T
  have hT9 : TabsAt [(90, 86), (97, 93)] s₁.heap := List.forall_mem_cons.mpr ⟨⟨codeHd_of_K (c := 90) (P := 86) KX (by kernel_rfl), hT8 86 (by k_mem)⟩, List.forall_mem_cons.mpr ⟨⟨codeHd_of_K (c := 97) (P := 93) KX (by kernel_rfl), hT8 93 (by k_mem)⟩, fun _ h => nomatch h⟩⟩
  clear hmg
  wrow_args hpre hlay hrd hwl hlo
  refine enter_call ?_
  w_top on
  refine codeAny_mono (R := fun r s' => r = .ok (.ret (.bool true)) ∧ (∀ b o, b ≠ 86 → b ≠ 93 → s₁.heap.get? b = some o → s'.heap.get? b = some o) ∧ (∃ ps qs, s'.heap.get? 86 = some (tabObj ps) ∧ s'.heap.get? 93 = some (tabObj qs)) ∧ s'.os = s₁.os ∧ AllBare s'.gens) ?walk ?fin
  case fin =>
    rintro r s' ⟨rfl, hk, ⟨ps, qs, hP, hQ⟩, hos, hb⟩
    have old : ∀ b o, s₁.heap.get? b = some o → asItWas s₁.heap s'.heap b o := fun b o e => by
      by_cases h1 : b = 86
      · subst h1
        have t := hT9 (90, 86) (by k_mem)
        rw [t.2] at e; cases e
        exact .inr (.inl ⟨(t.1.tab t.2).isCodeTable, rfl, #[], ps, rfl, by rw [Array.empty_append]; exact hP⟩)
      · by_cases h2 : b = 93
        · subst h2
          have t := hT9 (97, 93) (by k_mem)
          rw [t.2] at e; cases e
          exact .inr (.inl ⟨(t.1.tab t.2).isCodeTable, rfl, #[], qs, rfl, by rw [Array.empty_append]; exact hQ⟩)
        · exact .inl (hk b o h1 h2 e)
    have there : ∀ b o, s₁.heap.get? b = some o → ∃ o', s'.heap.get? b = some o' := fun b o e => by
      by_cases h1 : b = 86
      · exact ⟨_, h1 ▸ hP⟩
      · by_cases h2 : b = 93
        · exact ⟨_, h2 ▸ hQ⟩
        · exact ⟨o, hk b o h1 h2 e⟩
    refine ⟨.inl ⟨.bool true, .bool true, [], rfl, ?h1, ?h2, ?h3, ?h4⟩, ⟨old, there⟩, hos, hb⟩
    case h1 => exact raisesW_false (by wrow_none_raised)
    case h2 => exact readsW_of_reads (Reads.bool _)
    case h3 => exact postW_of (by wrow_shape) (by wtm_val) (by str_meet; first | done | w_fin)
    case h4 => exact unshared_nil
  case walk =>
    w_call any ho hd hcd hD T F
    clear hd
    rename Nat => tk1
    have X' := ghost_K hT9 KX (by kernel_rfl)
    have T' := topRead_ghost hT9 (topRead_of T)
    have M' := bmod_ghost hT9 M
    have l0 := ghost_lt hT9 F
    rename News _ _ _ _ => N0
    have N' := ghost_news hT9 F N0
    have F' := ghost_fr hT9 F
    have hL' := ghost_list hT9 (by assumption : s₁.heap.IsList _ _)
    have hI' := (by assumption : IntsAre _ _)
    have hgen : AllBare s₁.gens := .of_eq (by assumption)
    simp only [tabNews, List.map_cons, List.map_nil, List.nil_append, List.cons_append] at N'
    simp only [tabNews, List.map_cons, List.map_nil] at l0
    (replace l0 := allLt_of l0; dsimp only [AllLt] at l0)
    have keepOf : ∀ h' : Heap, (∀ b o, (ghostOf s₁.heap [(90, 86), (97, 93)]).get? b = some o → h'.get? b = some o) → ∀ b o, b ≠ 86 → b ≠ 93 → s₁.heap.get? b = some o → h'.get? b = some o := fun h' k b o h1 h2 e => k b o (ghost_ne e (by simp; exact ⟨h1, h2⟩))
    generalize ghostOf s₁.heap [(90, 86), (97, 93)] = g at *
    generalize s₁.heap.objs.size = L at *
    clear N0 F hT9 hT8 T M KX X V TE TW B G Y
    dsimp only
    refine to_PG ?_
    walk_at "m:steps"
    rename_i s2 x dx hsh kt os2 bare2 l1a l2a hA tkA l hB l1b hC wd hD2 wo lo hsD fsD hiD fiD l1c hE cO F9 N9 hcO
    have hsz8 := script_size hI' (by assumption)
    obtain ⟨hpk, hpi⟩ := pick8 hI'
    refine Held.put ?_
    refine wpAny_For ?_ (fun _ => rfl)
    walk_at "m:steps"
    rename_i Da hF l1d Lb hG l1e l0 hH F1 N1 l1f
    clear hcd hD ho hI' hL'
    refine Held.put ?_
    have hl0 : hH.IsList l0 _ := News.isList N1 (List.mem_cons_self ..)
    refine wpAny_pyIter_list hl0 ?_
    dsimp only
    have hq := eight_four hpk hpi
    generalize hit : slicePick _ none (some 8) none ++ #[Value.int 1680 _, Value.int 69 _, Value.int 4 _, Value.int 35 _] = items at N1
    obtain ⟨hisz, hints⟩ := (show items.size ≤ 12 ∧ ∀ (j : Nat) (v : Value), items[j]? = some v → ∃ i t, v = .int i t from hit ▸ hq _ _ _ _ _ _ _ _)
    rw [hit] at hl0
    clear hit hpi hpk hq
    have hIn := fun p hp => Heap.lt_size (N1 p hp).1
    obtain ⟨m0, F1, hmk, hmp⟩ : ∃ m0, Fr g L hH m0 ∧ m0 (Str.ofString "kept") = some (.ref x) ∧ m0 (Str.ofString "plain") = some (.ref l) := ⟨_, F1, by walk_at "m:look", by walk_at "m:look"⟩
    have h0lt := hIn _ (List.mem_cons_self ..)
    have hab := F1.above
    have hLs : @LT.lt Nat _ L hH.objs.size := F1.ns.lt
    have x1 : @Ne Nat x dx := by first | exact Nat.ne_of_gt l2a | omega
    have x2 : @Ne Nat x wd := by first | exact Nat.ne_of_lt l1c.2.1 | omega
    have x3 : @Ne Nat x (L + 1) := by omega
    have x4 : @Ne Nat x 86 := by omega
    have x5 : @Ne Nat x 93 := by omega
    have x6 : @Ne Nat x l0 := by first | exact Nat.ne_of_lt l1f.2.2.2.2.1 | omega
    have d1 : @Ne Nat dx wd := by first | exact Nat.ne_of_lt l1c.2.2.1 | omega
    have d2 : @Ne Nat dx (L + 1) := by omega
    have d3 : @Ne Nat dx 86 := by omega
    have d4 : @Ne Nat dx 93 := by omega
    have d5 : @Ne Nat dx l0 := by first | exact Nat.ne_of_lt l1f.2.2.2.2.2.1 | omega
    have w1 : @Ne Nat wd (L + 1) := by first | exact Nat.ne_of_gt l1c.2.2.2.1 | omega
    have w2 : @Ne Nat wd 86 := by first | exact Nat.ne_of_gt l1c.2.2.2.2.1 | omega
    have w3 : @Ne Nat wd 93 := by first | exact Nat.ne_of_gt l1c.2.2.2.2.2.1 | omega
    have w4 : @Ne Nat wd l0 := by first | exact Nat.ne_of_lt l1f.2.2.1 | omega
    have e1 : @Ne Nat 86 (L + 1) := by omega
    have e2 : @Ne Nat 93 (L + 1) := by omega
    have e3 : @Ne Nat 86 93 := by decide
    have e4 : @Ne Nat 86 l0 := by first | exact Nat.ne_of_lt l1f.2.2.2.2.2.2.2.1 | omega
    have e5 : @Ne Nat 93 l0 := by first | exact Nat.ne_of_lt l1f.2.2.2.2.2.2.2.2.1 | omega
    refine codeAny_mono (R := fun r s' => r = .ok .next ∧ ∃ m₁ news₁, LawJ w x dx wd (L + 1) l0 hsh kt tk1 cO (listOf items 0) items.size m₁ news₁ ∧ Fr g L s'.heap m₁ ∧ News g L s'.heap news₁ ∧ s'.os = s₁.os ∧ AllBare s'.gens) ?loop ?rest
    case rest =>
      rintro r s' ⟨rfl, m₁, news₁, hJ, F₂, N₂, os', bare'⟩
      obtain ⟨its, n, l', pits, pn, wo', kvs, D, ps, qs, pr, tl, rfl, hk, hp, hD, hf, ht1, ht2, hI, hP, hpl, hDl, hpr, hla, htl⟩ := hJ
      dsimp only
      have tls : ∀ a ∈ ([x, dx, l', wd, L + 1, 86, 93, l0] : List Addr), ∀ p ∈ tl, p.1 ≠ a := fun a ha p hp e => htl p hp (e ▸ ha)
      have tx := tls x (by simp)
      have tdx := tls dx (by simp)
      have tl' := tls l' (by simp)
      have twd := tls wd (by simp)
      have t86 := tls 86 (by simp)
      have t93 := tls 93 (by simp)
      have q1 : @Ne Nat l' x := hla x (by simp)
      have q2 : @Ne Nat l' dx := hla dx (by simp)
      have q3 : @Ne Nat l' wd := hla wd (by simp)
      have q4 : @Ne Nat l' (L + 1) := hla (L + 1) (by simp)
      have q5 : @Ne Nat l' 86 := hla 86 (by simp)
      have q6 : @Ne Nat l' 93 := hla 93 (by simp)
      have q7 : @Ne Nat l' l0 := hla l0 (by simp)
      have hsum := pairs_sum fun p hp => (hpr p hp).ok
      have h13 : pr.length ≤ 13 := Nat.le_trans hpl (Nat.le_succ_of_le hisz)
      have hcount : pr.length ≤ 1000 := le1000_13 h13
      have hfit : (pr.map fun p => p.1.length + p.2.length).sum ≤ 1000000 := sum_13 h13 hsum.1
      have hiz : its.size ≤ sizeLine := hI.1 ▸ line_13 h13
      have hpz : pits.size ≤ sizeLine := hP.1 ▸ line_13 h13
      have hp63 : (pits.size : Int) < 2 ^ 63 := hP.1 ▸ i63_13 h13
      have hlen := textOf_len pr
      have htl6 : (textOf pr).length ≤ 1000000 := by rw [hlen]; exact hfit
      have hcp := fun p hp => (hpr p hp).cp
      clear F1 N1 hmk hmp hl0 hIn tls hsz8 os2 bare2
      walk_at "m:steps"
      rename Fr _ _ _ _ => F₃
      rename News _ _ _ _ => N₃
      refine Held.put ?_
      refine split_w F₃ X' T' N₃ rfl rfl (show ScopeKind.function ≠ ScopeKind.module by decide) (by first | exact room_of rfl | walk_at "m:room") rfl htl6 (fun t0 => text_lex hpr t0) (by rw [List.length_map, List.length_map]; exact Nat.le_trans hcount (by decide)) fun s₂ S ys cS F₄ N₄ lS hys os₄ br₄ => ?_
      rw [words_back] at hys
      clear F₃ N₃
      walk_at "m:steps"
      rename Fr _ _ _ _ => F₅
      rename News _ _ _ _ => N₅
      refine Held.put ?_
      refine comp_words rfl rfl (by decide) rfl (by decide) rfl rfl rfl (fun C => rfl) (fun _ => rfl) (fun Q₃ q => ?iter) F₅ N₅ (News.isList N₅ (by k_mem)) (hP.at N₅ (by walk_at "m:tail")) hcount ⟨cO, News.get N₅ (by k_mem), hcO⟩ (N₅ (wd, wo') (by k_mem)).1 hD hf hpr fun S2 h2 tk2 zs F₆ N₆ hS2 hk6 hzs => ?_
      case iter => walk_at "m:steps"; exact q
      clear F₅ N₅ hk6
      walk_at "m:steps"
      refine Held.put (ne_strs_w (News.isList (by k_asm) (List.mem_cons_self ..)) hS2 hys hzs ?cpw (units64 _) ?_)
      case cpw => intro y hy; obtain ⟨p, hp, rfl⟩ := List.mem_map.mp hy; exact (hpr p hp).word.2.2.2.2.2
      clear hS2 hys hzs
      obtain ⟨k, hfd, hkp⟩ := half_of (n := pits.size)
      have hkl : k ≤ pr.length := hP.1 ▸ hkp
      have hki : k ≤ its.size := hI.1 ▸ hkl
      have hI0 : ItemsN tl (its.extract 0 k) (pr.take k) := by rw [extract0]; exact hI.take k
      have ee1 : its.extract k its.size = (its.toList.drop k).toArray := by apply Array.ext'; rw [Array.toList_extract, List.extract_eq_drop_take]; exact List.take_of_length_le (by rw [List.length_drop, Array.length_toList]; exact Nat.le_refl _)
      have hI1 : ItemsN tl (its.extract k its.size) (pr.drop k) := by rw [ee1]; exact hI.drop k
      have hP0 : ItemsN tl (slicePick pits none (some (k : Int)) none) (pr.take k) := by rw [slicePick_upto']; exact hP.take k
      have hP1 : ItemsN tl (slicePick pits (some (k : Int)) none none) (pr.drop k) := by rw [slicePick_from']; exact hP.drop k
      have hr0 : ∀ p ∈ pr.take k, PairOk p := fun p hp => (hpr p (List.mem_of_mem_take hp)).ok
      have hr1 : ∀ p ∈ pr.drop k, PairOk p := fun p hp => (hpr p (List.mem_of_mem_drop hp)).ok
      have h0l : (pr.take k).length ≤ 13 := Nat.le_trans (List.length_take_le' k pr) h13
      have h1l : (pr.drop k).length ≤ 13 := by rw [List.length_drop]; exact Nat.le_trans (Nat.sub_le _ _) h13
      have hc0 := le1000_13 h0l
      have hc1 := le1000_13 h1l
      have hf0 := sum_13 h0l (pairs_sum hr0).1
      have hf1 := sum_13 h1l (pairs_sum hr1).1
      have hrz : (#[] : Array Value).size + (its.extract k its.size).size ≤ sizeLine := by rw [hI1.1, sizeLine_eq, show (#[] : Array Value).size = 0 from rfl]; exact Nat.le_trans (by rw [Nat.zero_add]; exact h1l) (by decide)
      have hi0 : (its.extract 0 k).size ≤ sizeLine := hI0.1 ▸ line_13 h0l
      have hl1 := textOf_len (pr.drop k)
      have hws := ws_eq hr1
      walk_at "m:steps"
      rename_i sB x2 dx2 hsh2 kt2 osB brB lB l2B hB F7 N7
      have lx := lB.2.1
      have ldx := lB.2.2.1
      have ll := lB.2.2.2.1
      have lwd := lB.2.2.2.2.1
      have lc := lB.2.2.2.2.2.1
      have l86 := lB.2.2.2.2.2.2.1
      have l93 := lB.2.2.2.2.2.2.2.1
      have ll0 := lB.2.2.2.2.2.2.2.2.1
      have lltl := lB.2.2.2.2.2.2.2.2.2
      clear lB
      have N8 : News g L hB ((x2, accObj dx2 #[] 0) :: (dx2, accDict hsh2 kt2 (.int 5 _) 1) :: (x, accObj dx its n) :: (dx, accDict hsh kt (.int 3 tk1) 1) :: (l', listOf pits pn) :: (wd, wo') :: (L + 1, cO) :: (86, tabObj ps) :: (93, tabObj _) :: (l0, listOf items 0) :: tl) := fun q hq => N7 q (mem_skip (l1 := [_, _]) hq)
      clear N7 lS
      have g1 : @Ne Nat x x2 := Nat.ne_of_lt (Nat.lt_trans lx l2B)
      have g2 : @Ne Nat dx x2 := Nat.ne_of_lt (Nat.lt_trans ldx l2B)
      have g3 : @Ne Nat l' x2 := Nat.ne_of_lt (Nat.lt_trans ll l2B)
      have g4 : @Ne Nat wd x2 := Nat.ne_of_lt (Nat.lt_trans lwd l2B)
      have g5 : @Ne Nat (L + 1) x2 := Nat.ne_of_lt (Nat.lt_trans lc l2B)
      have g6 : @Ne Nat 86 x2 := Nat.ne_of_lt (Nat.lt_trans l86 l2B)
      have g7 : @Ne Nat 93 x2 := Nat.ne_of_lt (Nat.lt_trans l93 l2B)
      have g8 : @Ne Nat l0 x2 := Nat.ne_of_lt (Nat.lt_trans ll0 l2B)
      have g9 : ∀ p ∈ tl, @Ne Nat p.1 x2 := fun p hp => Nat.ne_of_lt (Nat.lt_trans (allLt_get lltl p hp) l2B)
      have k1 : @Ne Nat x dx2 := Nat.ne_of_lt lx
      have k2 : @Ne Nat dx dx2 := Nat.ne_of_lt ldx
      have k3 : @Ne Nat l' dx2 := Nat.ne_of_lt ll
      have k4 : @Ne Nat wd dx2 := Nat.ne_of_lt lwd
      have k5 : @Ne Nat (L + 1) dx2 := Nat.ne_of_lt lc
      have k6 : @Ne Nat 86 dx2 := Nat.ne_of_lt l86
      have k7 : @Ne Nat 93 dx2 := Nat.ne_of_lt l93
      have k8 : @Ne Nat l0 dx2 := Nat.ne_of_lt ll0
      have k9 : ∀ p ∈ tl, @Ne Nat p.1 dx2 := fun p hp => Nat.ne_of_lt (allLt_get lltl p hp)
      have k10 : @Ne Nat dx2 x2 := Nat.ne_of_lt l2B
      clear lx ldx ll lwd lc l86 l93 ll0 lltl l2B
      repeat ((fail_if_success (with_reducible show wpAny _ _ (call (Value.ref 106) _) _ _ _)); first | walk1 | (dsimp only; walk1))
      rename_i sC DC nC F8 N9 osC brC lC
      have j1 := lC.1
      have j2 := lC.2.1
      have j3 := lC.2.2.1
      have j4 := lC.2.2.2.1
      have j5 := lC.2.2.2.2.1
      have j6 := lC.2.2.2.2.2.1
      have j7 := lC.2.2.2.2.2.2.1
      have j8 := lC.2.2.2.2.2.2.2.1
      have j9 := lC.2.2.2.2.2.2.2.2.1
      have j10 := lC.2.2.2.2.2.2.2.2.2.1
      have j11 := lC.2.2.2.2.2.2.2.2.2.2
      clear lC
      have j12 : ∀ p ∈ tl, @Ne Nat p.1 DC := allNe_get j11
      repeat ((fail_if_success (with_reducible show wpAny _ _ (call (Value.ref 888) _) _ _ _)); first | walk1 | (dsimp only; walk1))
      rename_i D5 h5 F9 N9 l5
      have p6 := l5.2.2.2.2.2.2.2.2.1
      have p7 := l5.2.2.2.2.2.2.2.2.2.1
      clear l5
      have m6 : @Ne Nat 86 D5 := Nat.ne_of_lt p6
      have m7 : @Ne Nat 93 D5 := Nat.ne_of_lt p7
      clear p6 p7
      repeat ((fail_if_success (with_reducible show (@ite _ _ _ _ _))); first | walk1 | (dsimp only; walk1))
      rw [if_neg (by rw [bne_self_eq_false]; exact Bool.false_ne_true)]
      repeat ((fail_if_success (with_reducible show (@ite _ _ _ _ _))); first | walk1 | (dsimp only; walk1))
      rw [if_neg (by rw [hl1, Int.zero_add, bne_self_eq_false]; exact Bool.false_ne_true)]
      repeat ((fail_if_success (with_reducible show wpAny _ _ (compareOp .Eq (Value.ref _) (Value.ref _)) _ _ _)); first | walk1 | (dsimp only; walk1))
      rename_i D6 h6 l6 D7 h7 F10 N10 l7
      refine eq_nil_w (News.isList N10 (List.mem_cons_of_mem _ (List.mem_cons_self ..))) (News.isList N10 (List.mem_cons_self ..)) (hP1.at N10 (by walk_at "m:tail")) (fun p hp => hcp p (List.mem_of_mem_drop hp)) (units64 _) ?_
      rw [hws]
      replace N10 := News.tail (News.tail N10)
      clear l6 l7
      generalize (pr.drop k).isEmpty = bb
      repeat ((fail_if_success (with_reducible show (@ite _ _ _ _ _))); first | walk1 | (dsimp only; walk1))
      rw [if_neg (by rw [bne_self_eq_false]; exact Bool.false_ne_true)]
      repeat ((fail_if_success (with_reducible show (@ite _ _ _ _ _))); first | walk1 | (dsimp only; walk1))
      rw [if_neg Bool.false_ne_true]
      repeat ((fail_if_success (with_reducible show (@ite _ _ _ _ _))); first | walk1 | (dsimp only; walk1))
      rw [if_pos (by rw [beq_self_eq_true])]
      refine wpAny_noRaise (blind fun Q₉ hq₉ => ?_)
      walk_at "m:steps"
      have hsz0 : (its.extract 0 k).size = k := by rw [hI0.1, List.length_take]; exact Nat.min_eq_left hkl
      rw [hsz0, beq_self_eq_true]
      rename Fr _ _ _ _ => F9
      rename News _ _ _ _ => N9
      refine hq₉ _ _ ⟨rfl, keepOf _ F9.keep, ⟨_, _, (N9 (86, tabObj _) (by k_mem)).1, (N9 (93, tabObj _) (by k_mem)).1⟩, ?os9, by walk_at "m:bare"⟩
      simp only [*]
    have N2 := perm8 (a1 := x) (a2 := dx) (a3 := l) (a4 := wd) (a5 := L + 1) (a6 := 86) (a7 := 93) (a8 := l0) N1 (by k_mem) (by k_mem) (by k_mem) (by k_mem) (by k_mem) (by k_mem) (by k_mem) (by k_mem)
    have hlt2 := fun p hp => Heap.lt_size (N2 p hp).1
    refine for_own (h₀ := g) (keep := [(l0, listOf items 0)]) (m := m0) (news := [(x, accObj dx #[] 0), (dx, accDict hsh kt (.int 3 tk1) 1), (l, listOf #[] 0), (wd, wo), (L + 1, cO), (86, tabObj #[]), (93, tabObj #[]), (l0, listOf items 0)]) (KTurns.ofWalks (Walks.list (show Around.handled (callerA.deeper _) = none from rfl) hH.objs.size l0 (Nat.ne_of_lt h0lt) items) fun i v s Q E st q => letGo_listiter st.1 q)
      ?gobj ?gLf ?gwr ?gfp ?gnw ?gst ?gF ?gN ?gkp (LawJ w x dx wd (L + 1) l0 hsh kt tk1 cO (listOf items 0)) ?g0 ?gturn ?gfin
    case gobj => rintro j h ⟨⟨o, ho, _⟩, _⟩ b hb; rw [List.mem_singleton.mp hb]; exact ⟨o, ho⟩
    case gLf =>
      show ¬ (L ∈ [hH.objs.size, l0])
      simp only [List.mem_cons, List.not_mem_nil, or_false, not_or]
      exact ⟨Nat.ne_of_lt hLs, fun q => (N2 (l0, listOf items 0) (by k_mem)).2.1 q.symm⟩
    case gwr => intro b hb; rw [List.mem_singleton.mp hb]; exact Heap.get?_none_of_le (Nat.le_trans hab (Nat.le_of_lt hLs))
    case gfp =>
      intro b hb
      simp only [List.mem_cons, List.not_mem_nil, or_false] at hb ⊢
      rcases hb with rfl | rfl
      · exact .inl rfl
      · exact .inr (.inr ⟨_, rfl⟩)
    case gnw => intro p hp hm; exact Nat.ne_of_lt (hlt2 p hp) (List.mem_singleton.mp hm)
    case gst => exact ⟨⟨_, Heap.get?_push_size _ rfl, rfl, rfl⟩, by obtain ⟨o, ho, r⟩ := hl0; exact ⟨o, Heap.get?_push_of_some _ ho, r⟩⟩
    case gF => exact F1.push _
    case gN => exact fun p hp => ⟨Heap.get?_push_of_some _ (N2 p hp).1, (N2 p hp).2⟩
    case gkp => exact fun p hp => by rw [List.mem_singleton.mp hp]; k_mem
    case g0 =>
      refine ⟨#[], 0, l, #[], 0, wo, [], [], #[], #[], [], [], rfl, hmk, hmp, hsD, fsD, triples_nil, triples_nil, .nil, .nil, Nat.le_refl _, Nat.le_refl _, fun _ h => (nomatch h), ?_, fun _ h => (nomatch h)⟩
      intro a ha
      simp only [List.mem_cons, List.not_mem_nil, or_false] at ha
      rcases ha with rfl | rfl | rfl | rfl | rfl | rfl | rfl <;> omega
    case gfin =>
      intro m₁ news₁ s₂ hJ _ F₂ N₂ hos hbr
      exact wpAny_execs_nil ⟨rfl, m₁, news₁, hJ, F₂, N₂, hos.trans os2, hbr (bare2 hgen)⟩
    case gturn =>
      intro i v m₁ news₁ s₃ own hi hv hJ _ hnw hmap F₂ N₂ hos hbr
      obtain ⟨its, n, l', pits, pn, wo', kvs, D, ps, qs, pr, tl, rfl, hk, hp, hD, hf, ht1, ht2, hI, hP, hpl, hDl, hpr, hla, htl⟩ := hJ
      obtain ⟨oI, rfl⟩ := own_one hmap
      obtain ⟨nn, nt, rfl⟩ := hints i v hv
      replace F₂ : Fr g L s₃.heap m₁ := F₂
      replace N₂ : News g L s₃.heap ((hH.objs.size, oI) :: (x, accObj dx its n) :: (dx, accDict hsh kt (.int 3 tk1) 1) :: (l', listOf pits pn) :: (wd, wo') :: (L + 1, cO) :: (86, tabObj ps) :: (93, tabObj qs) :: (l0, listOf items 0) :: tl) := N₂
      have htI : ∀ p ∈ tl, @Ne Nat p.1 hH.objs.size := fun p hp e => hnw p (by simp [hp]) (List.mem_singleton.mpr e)
      have hlI : @Ne Nat l' hH.objs.size := fun e => hnw (l', listOf pits pn) (by k_mem) (List.mem_singleton.mpr e)
      have hxI : @Ne Nat x hH.objs.size := fun e => hnw (x, accObj dx its n) (by k_mem) (List.mem_singleton.mpr e)
      have hdxI : @Ne Nat dx hH.objs.size := fun e => hnw (dx, accDict hsh kt (.int 3 tk1) 1) (by k_mem) (List.mem_singleton.mpr e)
      have hwdI : @Ne Nat wd hH.objs.size := fun e => hnw (wd, wo') (by k_mem) (List.mem_singleton.mpr e)
      have h86I : @Ne Nat 86 hH.objs.size := fun e => hnw (86, tabObj ps) (by k_mem) (List.mem_singleton.mpr e)
      have h93I : @Ne Nat 93 hH.objs.size := fun e => hnw (93, tabObj qs) (by k_mem) (List.mem_singleton.mpr e)
      have hl0I : @Ne Nat l0 hH.objs.size := Nat.ne_of_lt h0lt
      have hcI : @Ne Nat (L + 1) hH.objs.size := by have := Nat.lt_trans (show @LT.lt Nat _ (L + 1) l0 by omega) h0lt; exact Nat.ne_of_lt this
      have tls : ∀ a ∈ ([x, dx, l', wd, L + 1, 86, 93, l0] : List Addr), ∀ p ∈ tl, p.1 ≠ a := fun a ha p hp e => htl p hp (e ▸ ha)
      have tx := tls x (by simp)
      have tdx := tls dx (by simp)
      have tl' := tls l' (by simp)
      have twd := tls wd (by simp)
      have t86 := tls 86 (by simp)
      have t93 := tls 93 (by simp)
      have q1 : @Ne Nat l' x := hla x (by simp)
      have q2 : @Ne Nat l' dx := hla dx (by simp)
      have q3 : @Ne Nat l' wd := hla wd (by simp)
      have q4 : @Ne Nat l' (L + 1) := hla (L + 1) (by simp)
      have q5 : @Ne Nat l' 86 := hla 86 (by simp)
      have q6 : @Ne Nat l' 93 := hla 93 (by simp)
      have q7 : @Ne Nat l' l0 := hla l0 (by simp)
      have hz : its.size ≤ sizeLine := by rw [hI.1, sizeLine_eq]; omega
      have hpz : pits.size ≤ sizeLine := by rw [hP.1, sizeLine_eq]; omega
      have hDz : D.length ≤ 1000000 := by omega
      have hsum := pairs_sum fun p hp => (hpr p hp).ok
      clear F1 N1 N2 hmk hmp hIn hlt2 hl0 tls hnw hmap hsz8 os2 bare2
      refine wpAny_noRaise ?_
      walk1
      walk1
      refine wpAny_noRaise (blind fun Q' hq' => ?_)
      have hm512 : 0 ≤ (nn.fdiv 4).fmod 512 ∧ (nn.fdiv 4).fmod 512 < 512 := ⟨Int.fmod_nonneg_of_pos _ (by decide), Int.fmod_lt_of_pos _ (by decide)⟩
      have hm2 : (nn.fdiv 4).fmod 2 = 0 ∨ (nn.fdiv 4).fmod 2 = 1 := by
        have h1 := Int.fmod_nonneg_of_pos (nn.fdiv 4) (b := 2) (by decide)
        have h2 := Int.fmod_lt_of_pos (nn.fdiv 4) (b := 2) (by decide)
        omega
      have hblank := mul_blank hm2
      have hdeed : nn.fmod 4 = 0 ∨ nn.fmod 4 = 1 ∨ nn.fmod 4 = 2 ∨ nn.fmod 4 = 3 := by
        have h1 := Int.fmod_nonneg_of_pos nn (b := 4) (by decide)
        have h2 := Int.fmod_lt_of_pos nn (b := 4) (by decide)
        omega
      have walkd : ∀ k : Int, nn.fmod 4 = k → True := fun _ _ => trivial
      clear walkd
      generalize hdq : nn.fmod 4 = dq at hdeed
      walk_at "m:steps"
      refine Held.put ?_
      refine wpAny_mono (Q := fun f s' => f = .next ∧ Mid w x dx wd (L + 1) l0 hsh kt tk1 cO (listOf items 0) g L hH.objs.size oI s₃ (i + 1) s') (wpAny_noRaise (blind fun Q₂ hq₂ => ?deed)) (fun f s' hm => ?tailc) fun _ _ e => e
      case tailc =>
        obtain ⟨rfl, m₂, news₂, hJ₂, F₅, N₅, os₅, br₅, hap₅⟩ := hm
        obtain ⟨its₂, n₂, l₂, pits₂, pn₂, wo₂, kvs₂, D₂, ps₂, qs₂, pr₂, tl₂, rfl, hk₂, hp₂, hD₂, hf₂, ht1₂, ht2₂, hI₂, hP₂, hpl₂, hDl₂, hpr₂, hla₂, htl₂⟩ := hJ₂
        dsimp only
        have tls₂ : ∀ a ∈ ([x, dx, l₂, wd, L + 1, 86, 93, l0] : List Addr), ∀ p ∈ tl₂, p.1 ≠ a := fun a ha p hp e => htl₂ p hp (e ▸ ha)
        have tx₂ := tls₂ x (by simp)
        have tdx₂ := tls₂ dx (by simp)
        have tl₂' := tls₂ l₂ (by simp)
        have twd₂ := tls₂ wd (by simp)
        have t86₂ := tls₂ 86 (by simp)
        have t93₂ := tls₂ 93 (by simp)
        have u1 : @Ne Nat l₂ x := hla₂ x (by simp)
        have u2 : @Ne Nat l₂ dx := hla₂ dx (by simp)
        have u3 : @Ne Nat l₂ wd := hla₂ wd (by simp)
        have u4 : @Ne Nat l₂ (L + 1) := hla₂ (L + 1) (by simp)
        have u5 : @Ne Nat l₂ 86 := hla₂ 86 (by simp)
        have u6 : @Ne Nat l₂ 93 := hla₂ 93 (by simp)
        have u7 : @Ne Nat l₂ l0 := hla₂ l0 (by simp)
        have htI₂ : ∀ p ∈ tl₂, @Ne Nat p.1 hH.objs.size := fun p hp => hap₅ p (by simp [hp])
        have hlI₂ : @Ne Nat l₂ hH.objs.size := hap₅ (l₂, listOf pits₂ pn₂) (by k_mem)
        have hsum₂ := pairs_sum fun p hp => (hpr₂ p hp).ok
        have hi12 : i < 12 := Nat.lt_of_lt_of_le hi hisz
        clear q1 q2 q3 q4 q5 q6 q7 tx tdx tl' twd t86 t93 htI hlI hz hpz hDz hsum hla htl hI hP hD hf hpr hpl hDl ht1 ht2 hk hp tls₂ hdeed hblank hm2 hm512
        have h13 : pr₂.length ≤ 13 := Nat.le_trans hpl₂ (Nat.succ_le_succ (Nat.le_of_lt hi12))
        have hcount : pr₂.length ≤ 1000 := le1000_13 h13
        have hfit : (pr₂.map fun p => p.1.length + p.2.length).sum ≤ 1000000 := sum_13 h13 hsum₂.1
        have hiz : its₂.size ≤ sizeLine := hI₂.1 ▸ line_13 h13
        have hp63 : (pits₂.size : Int) < 2 ^ 63 := hP₂.1 ▸ i63_13 h13
        have hpsz : its₂.size = pits₂.size := by rw [hI₂.1, hP₂.1]
        have hlen := textOf_len pr₂
        walk_at "m:steps"
        all_goals first
          | exact absurd (show (textOf pr₂ != textOf pr₂) = true by assumption) (by rw [bne_self_eq_false]; exact Bool.false_ne_true)
          | exact absurd (congrArg (fun n : Nat => (3 : Int) + (n : Int)) hlen.symm) (by assumption)
          | exact absurd (congrArg (fun n : Nat => (n : Int)) hpsz) (by assumption)
          | (rename_i h
             exact absurd h (by rw [show ((3 : Int) == 0) = false from rfl, Bool.false_and]; exact Bool.false_ne_true))
          | skip
        · rename Fr _ _ _ _ => F9
          rename News _ _ _ _ => N9
          refine hq' .next _ ⟨_, _, F9, N9, ?wr9, fun p hp => by rw [List.mem_singleton.mp hp]; k_mem, ⟨its₂, n₂, l₂, pits₂, pn₂, wo₂, kvs₂, D₂, _, _, pr₂, tl₂, rfl, by walk_at "m:look", by walk_at "m:look", hD₂, hf₂, by assumption, by assumption, hI₂, hP₂, hpl₂, hDl₂, hpr₂, hla₂, htl₂⟩, by first | walk_at "m:os" | (trace "OSX"; simp only [*]), fun z => by (have z := br₅ (hbr z)); walk_at "m:bare"⟩
          case wr9 =>
            intro p hp hm
            have hm := List.mem_singleton.mp hm
            simp only [List.mem_cons] at hp
            rcases hp with rfl | rfl | rfl | rfl | rfl | rfl | rfl | rfl | hp
            · exact hxI hm
            · exact hdxI hm
            · exact hlI₂ hm
            · exact hwdI hm
            · exact hcI hm
            · exact h86I hm
            · exact h93I hm
            · exact hl0I hm
            · exact htI₂ p hp hm
      rename Fr _ _ _ _ => F₃
      rename News _ _ _ _ => N₃
      clear hq'
      rcases hdeed with rfl | rfl | rfl | rfl
      · refine wpAny_If ?_
        walk_at "m:steps"
        rename Fr _ _ _ _ => F9
        rename News _ _ _ _ => N9
        have N10 := perm10 (tl := tl) (a0 := hH.objs.size) (a1 := x) (a2 := dx) (a3 := l') (a4 := wd) (a5 := L + 1) (a6 := 86) (a7 := 93) (a8 := l0) (a9 := _) (a10 := _) N9 (by k_mem) (by k_mem) (by k_mem) (by k_mem) (by k_mem) (by k_mem) (by k_mem) (by k_mem) (by k_mem) (List.mem_cons_of_mem _ (List.mem_cons_self ..)) (List.mem_cons_self ..) (fun p hp => by simp [hp])
        refine hq₂ .next _ ⟨rfl, _, _, lawJ_push (by walk_at "m:look") (by walk_at "m:look") (by assumption) (by assumption) ht1 ht2 hI hP hpl hDl hpr hla htl hblank (fm_good (by assumption)) (by first | exact apartN (by assumption) | exact apartL (by assumption) | (trace "APART"; walk_at "m:apart")) (by first | exact apartN (by assumption) | exact apartL (by assumption) | (trace "APART"; walk_at "m:apart")), F9, N10, by first | walk_at "m:os" | (trace "OSX"; simp only [*]), fun z => by walk_at "m:bare", fun p hp => ?apart⟩
        case apart =>
          simp only [List.mem_cons] at hp
          rcases hp with rfl | rfl | rfl | rfl | rfl | rfl | rfl | rfl | rfl | rfl | hp
          all_goals first | exact htI p hp | exact hxI | exact hdxI | exact hlI | exact hwdI | exact hcI | exact h86I | exact h93I | exact hl0I | exact firstN (by assumption) | exact secondL (by assumption) | (trace "AP2"; dsimp only; omega)
      · refine wpAny_If ?_
        walk_at "m:steps"
        refine Held.put ?_
        rename Fr _ _ _ _ => F4
        rename News _ _ _ _ => N4
        refine wpAny_While ?_
        refine codeAny_mono (R := fun r s' => r = .ok .next ∧ WordR x l' g L ((hH.objs.size, oI) :: (x, accObj dx its n) :: (dx, accDict hsh kt (.int 3 tk1) 1) :: (l', listOf pits pn) :: (wd, wo') :: (L + 1, cO) :: (86, tabObj ps) :: (93, tabObj qs) :: (l0, listOf items 0) :: tl) (nn.fdiv 4) s₃ s') ?wloop ?wrest
        case wrest =>
          rintro r s₄ ⟨rfl, m₄, wv, t2, t3, F₄, N₄, k1, k2, k3, k4, k5, k6, os₄, br₄⟩
          have hwv := words_in 4 wv.cps.toList k5 (by rw [Array.length_toList]; exact k6)
          clear F4 N4
          walk_at "m:steps"
          rename Fr _ _ _ _ => F9
          rename News _ _ _ _ => N9
          have N10 := perm10 (tl := tl) (a0 := hH.objs.size) (a1 := x) (a2 := dx) (a3 := l') (a4 := wd) (a5 := L + 1) (a6 := 86) (a7 := 93) (a8 := l0) (a9 := _) (a10 := _) N9 (by k_mem) (by k_mem) (by k_mem) (by k_mem) (by k_mem) (by k_mem) (by k_mem) (by k_mem) (by k_mem) (List.mem_cons_of_mem _ (List.mem_cons_self ..)) (List.mem_cons_self ..) (fun p hp => by simp [hp])
          refine hq₂ .next _ ⟨rfl, _, _, lawJ_push (by walk_at "m:look") (by walk_at "m:look") (by assumption) (by assumption) ht1 ht2 hI hP hpl hDl hpr hla htl hblank (quote_good hwv) (by first | exact apartN (by assumption) | exact apartL (by assumption) | (trace "APART"; walk_at "m:apart")) (by first | exact apartN (by assumption) | exact apartL (by assumption) | (trace "APART"; walk_at "m:apart")), F9, N10, by first | walk_at "m:os" | (trace "OSX"; simp only [*]), fun z => by (have z := br₄ z); walk_at "m:bare", fun p hp => ?apart1⟩
          case apart1 =>
            simp only [List.mem_cons] at hp
            rcases hp with rfl | rfl | rfl | rfl | rfl | rfl | rfl | rfl | rfl | rfl | hp
            all_goals first | exact htI p hp | exact hxI | exact hdxI | exact hlI | exact hwdI | exact hcI | exact h86I | exact h93I | exact hl0I | exact firstN (by assumption) | exact secondL (by assumption) | (trace "AP2"; dsimp only; omega)
        refine codeAny_whileLoop (WordJ x l' g L ((hH.objs.size, oI) :: (x, accObj dx its n) :: (dx, accDict hsh kt (.int 3 tk1) 1) :: (l', listOf pits pn) :: (wd, wo') :: (L + 1, cO) :: (86, tabObj ps) :: (93, tabObj qs) :: (l0, listOf items 0) :: tl) (nn.fdiv 4) s₃) ?wturn 4 ?wstart
        case wstart =>
          refine ⟨_, Str.ofString "", _, _, _, _, F4, N4, by walk_at "m:look", by walk_at "m:look", by walk_at "m:look", by walk_at "m:look", by walk_at "m:look", ?_, empty_letters, by decide, rfl, by first | walk_at "m:os" | (trace "OSX"; simp only [*]), fun z => by walk_at "m:bare"⟩
          split <;> omega
        case wturn =>
          rintro n0 s₄ ⟨m₄, wv, r, t1, t2, t3, F₄, N₄, k1, k2, k3, k4, k5, k6, k7, k8, rfl, os₄, br₄⟩
          clear F4 N4 hq₂
          refine wpAny_noRaise (blind fun Q₃ hq₃ => ?_)
          walk_at "m:steps"
          all_goals refine hq₃ _ _ ?_
          · rw [if_pos rfl]
            have hr4 : 0 ≤ r.fmod 4 ∧ r.fmod 4 < 4 := ⟨Int.fmod_nonneg_of_pos _ (by decide), Int.fmod_lt_of_pos _ (by decide)⟩
            clear hq₃
            refine wpAny_noRaise (blind fun Q₄ hq₄ => ?_)
            walk_at "m:steps"
            obtain ⟨q1, q2⟩ := letter_add hr4.1 hr4.2 k7
            rename Fr _ _ _ _ => F9
            rename News _ _ _ _ => N9
            exact hq₄ .next _ ⟨_, by rw [q2]; omega, _, _, _, _, _, _, F9, N9, by walk_at "m:look", by walk_at "m:look", by walk_at "m:look", by walk_at "m:look", by walk_at "m:look", by rw [Int.fdiv_eq_ediv_of_nonneg _ (by decide)]; omega, q1, by rw [q2]; omega, rfl, os₄, br₄⟩
          all_goals
            rw [if_neg Bool.false_ne_true]
            exact wpAny_execs_nil ⟨rfl, m₄, wv, t2, t3, F₄, N₄, k1, k2, k3, k4, k7, k8, os₄, br₄⟩
      · have hcp := fun p hp => (hpr p hp).cp
        rcases nil_or_snoc pr with rfl | ⟨pr', p, rfl⟩
        · obtain rfl := hI.empty
          obtain rfl := hP.empty
          refine wpAny_If ?_
          walk_at "m:steps"
          rename Fr _ _ _ _ => F5
          rename News _ _ _ _ => N5
          refine Held.put (ne_nil_w (News.isList N5 (by k_mem)) (News.isList N5 (by k_mem)) (hP.at N5 (by walk_at "m:tail")) hcp (units64 _) ?_)
          rw [show (!([] : List (Str × Str)).isEmpty) = false from rfl]
          walk_at "m:steps"
          rename News _ _ _ _ => N6
          refine Held.put (ne_pair_w (p := (Str.ofString "", Str.ofString "")) N6 (by k_mem) (by k_mem) ⟨cp_empty, cp_empty⟩ (units64 _) ?_)
          walk_at "m:steps"
          rename Fr _ _ _ _ => F9
          rename News _ _ _ _ => N9
          have N10 := perm9 (tl := tl) (a0 := hH.objs.size) (a1 := x) (a2 := dx) (a3 := l') (a4 := wd) (a5 := L + 1) (a6 := 86) (a7 := 93) (a8 := l0) N9 (by k_mem) (by k_mem) (by k_mem) (by k_mem) (by k_mem) (by k_mem) (by k_mem) (by k_mem) (by k_mem) (by walk_at "m:tail")
          refine hq₂ .next _ ⟨rfl, _, _, ⟨#[], n, l', #[], pn, wo', kvs, D, ps, qs, [], tl, rfl, by walk_at "m:look", by walk_at "m:look", hD, hf, ht1, ht2, .nil, .nil, Nat.zero_le _, Nat.le_succ_of_le hDl, fun _ h => (nomatch h), hla, htl⟩, F9, N10, by first | walk_at "m:os" | (trace "OSX"; simp only [*]), fun z => by walk_at "m:bare", fun p hp => ?apart2⟩
          case apart2 =>
            simp only [List.mem_cons] at hp
            rcases hp with rfl | rfl | rfl | rfl | rfl | rfl | rfl | rfl | hp
            all_goals first | exact htI p hp | exact hxI | exact hdxI | exact hlI | exact hwdI | exact hcI | exact h86I | exact h93I | exact hl0I | exact firstN (by assumption) | exact secondL (by assumption) | (trace "AP2"; dsimp only; omega)
        · obtain ⟨ys, T1, ta, tb, rfl, hI', hT1⟩ := hI.last
          obtain ⟨zs, T2, tc, td, rfl, hP', hT2⟩ := hP.last
          have hys : ys.size < 1000000 := by rw [hI'.1]; simp only [List.length_append, List.length_cons, List.length_nil] at hpl; omega
          have hzs : zs.size < 1000000 := by rw [hP'.1]; simp only [List.length_append, List.length_cons, List.length_nil] at hpl; omega
          have hyz : ys.size < sizeLine := by rw [sizeLine_eq]; omega
          refine wpAny_If ?_
          walk_at "m:steps"
          rename Fr _ _ _ _ => F5
          rename News _ _ _ _ => N5
          refine Held.put (ne_nil_w (News.isList N5 (by k_mem)) (News.isList N5 (by k_mem)) (hP.at N5 (by walk_at "m:tail")) hcp (units64 _) ?_)
          rw [show (!(pr' ++ [p]).isEmpty) = true by simp]
          walk_at "m:steps"
          rename News _ _ _ _ => N6
          refine Held.put (ne_pair_w (p := p) N6 (by repeat (first | exact hT1 | refine List.mem_cons_of_mem _ ?_)) (by repeat (first | exact hT2 | refine List.mem_cons_of_mem _ ?_)) (hcp p (by simp)) (units64 _) ?_)
          walk_at "m:steps"
          rename Fr _ _ _ _ => F9
          rename News _ _ _ _ => N9
          have N10 := perm9 (tl := tl) (a0 := hH.objs.size) (a1 := x) (a2 := dx) (a3 := l') (a4 := wd) (a5 := L + 1) (a6 := 86) (a7 := 93) (a8 := l0) N9 (by k_mem) (by k_mem) (by k_mem) (by k_mem) (by k_mem) (by k_mem) (by k_mem) (by k_mem) (by k_mem) (by walk_at "m:tail")
          refine hq₂ .next _ ⟨rfl, _, _, ⟨ys, n + 1, l', zs, pn + 1, wo', kvs, D, ps, qs, pr', tl, rfl, by walk_at "m:look", by walk_at "m:look", hD, hf, ht1, ht2, hI', hP', by simp only [List.length_append, List.length_cons, List.length_nil] at hpl; omega, Nat.le_succ_of_le hDl, fun q hq => hpr q (by simp [hq]), hla, htl⟩, F9, N10, by first | walk_at "m:os" | (trace "OSX"; simp only [*]), fun z => by walk_at "m:bare", fun p hp => ?apart3⟩
          case apart3 =>
            simp only [List.mem_cons] at hp
            rcases hp with rfl | rfl | rfl | rfl | rfl | rfl | rfl | rfl | hp
            all_goals first | exact htI p hp | exact hxI | exact hdxI | exact hlI | exact hwdI | exact hcI | exact h86I | exact h93I | exact hl0I | exact firstN (by assumption) | exact secondL (by assumption) | (trace "AP2"; dsimp only; omega)
      · obtain ⟨k, hkm, hkl⟩ : ∃ k : Nat, (nn.fdiv 4).fmod ((pits.size : Int) + 1) = (k : Int) ∧ k ≤ pr.length := by
          have h1 := Int.fmod_nonneg_of_pos (nn.fdiv 4) (b := (pits.size : Int) + 1) (by omega)
          have h2 := Int.fmod_lt_of_pos (nn.fdiv 4) (b := (pits.size : Int) + 1) (by omega)
          have := hP.1
          exact ⟨((nn.fdiv 4).fmod ((pits.size : Int) + 1)).toNat, by omega, by omega⟩
        have hki : k ≤ its.size := by rw [hI.1]; exact hkl
        have hp63 : (pits.size : Int) < 2 ^ 63 := by have := hP.1; omega
        refine wpAny_If ?_
        walk_at "m:steps"
        rename Fr _ _ _ _ => F5
        rename News _ _ _ _ => N5
        have hcp := fun p hp => (hpr p hp).cp
        have ee1 : its.extract k its.size = (its.toList.drop k).toArray := by apply Array.ext'; rw [Array.toList_extract, List.extract_eq_drop_take]; exact List.take_of_length_le (by rw [List.length_drop, Array.length_toList]; exact Nat.le_refl _)
        have ee2 : slicePick pits (some (k : Int)) none none = (pits.toList.drop k).toArray := slicePick_from' pits k
        have ee3 : slicePick pits none (some (k : Int)) none = (pits.toList.take k).toArray := slicePick_upto' pits k
        have hpn := hP.1
        have hz1 : (slicePick pits (some (k : Int)) none none).size ≤ sizeLine := by rw [ee2, sizeLine_eq, List.size_toArray, List.length_drop, Array.length_toList]; omega
        have hz2 : (slicePick pits none (some (k : Int)) none).size + (slicePick pits (some (k : Int)) none none).toList.reverse.toArray.size ≤ 1000000 := by
          rw [ee2, ee3]; simp only [List.size_toArray, List.length_reverse, List.length_drop, List.length_take, Array.length_toList]; omega
        have hz3 : (its.extract k its.size).size ≤ sizeLine := by rw [ee1, sizeLine_eq, List.size_toArray, List.length_drop, Array.length_toList, hI.1]; omega
        refine Held.put (ne_lists_w (pr := pr.drop k) (News.isList N5 (List.mem_cons_of_mem _ (List.mem_cons_self ..))) (News.isList N5 (List.mem_cons_self ..)) (ee1 ▸ (hI.drop k).at N5 (by walk_at "m:tail")) (ee2 ▸ (hP.drop k).at N5 (by walk_at "m:tail")) (fun p hp => hcp p (List.mem_of_mem_drop hp)) (units64 _) ?_)
        walk_at "m:steps"
        refine Held.put ?_
        refine wpAny_For ?_ (fun _ => rfl)
        walk_at "m:steps"
        rename_i D1 hX1 lD1 hX2 DR hR F6 N6 lR
        refine Held.put ?_
        have y1 := lD1.2.2.2.2.2.1
        have y2 := lD1.2.2.2.2.2.2.1
        have y3 := lD1.2.2.2.2.2.2.2.1
        have y5 := lD1.2.2.2.2.2.2.2.2.2.1
        have y6 := lD1.2.2.2.2.2.2.2.2.2.2.1
        have y7 := lD1.2.2.2.2.2.2.2.2.2.2.2.1
        have y8 := lD1.2.2.2.2.2.2.2.2.2.2.2.2.1
        have y9 := lD1.2.2.2.2.2.2.2.2.2.2.2.2.2.1
        have y10 := lD1.2.2.2.2.2.2.2.2.2.2.2.2.2.2
        clear lD1
        have z0 := lR.1
        have z1 := lR.2.2.2.2.2.2.1
        have z2 := lR.2.2.2.2.2.2.2.1
        have z3 := lR.2.2.2.2.2.2.2.2.1
        have z5 := lR.2.2.2.2.2.2.2.2.2.2.1
        have z6 := lR.2.2.2.2.2.2.2.2.2.2.2.1
        have z7 := lR.2.2.2.2.2.2.2.2.2.2.2.2.1
        have z8 := lR.2.2.2.2.2.2.2.2.2.2.2.2.2.1
        have z9 := lR.2.2.2.2.2.2.2.2.2.2.2.2.2.2.1
        have z10 := lR.2.2.2.2.2.2.2.2.2.2.2.2.2.2.2
        clear lR
        have hlR : hR.IsList DR _ := News.isList N6 (List.mem_cons_self ..)
        refine wpAny_pyIter_list hlR ?_
        dsimp only
        have hIr : ItemsN tl ((its.extract k its.size).toList.reverse.toArray) (pr.drop k).reverse := by rw [ee1]; exact (hI.drop k).rev
        have hPn : ItemsN tl (slicePick pits none (some (k : Int)) none ++ (slicePick pits (some (k : Int)) none none).toList.reverse.toArray) (pr.take k ++ (pr.drop k).reverse) := by rw [ee2, ee3]; exact (hP.take k).app (hP.drop k).rev
        have hI0 : ItemsN tl (its.extract 0 k) (pr.take k) := by rw [extract0]; exact hI.take k
        have h13 : pr.length ≤ 13 := Nat.le_trans hpl (Nat.le_succ_of_le (Nat.le_of_lt (Nat.lt_of_lt_of_le hi hisz)))
        generalize (its.extract k its.size).toList.reverse.toArray = rits at N6 hIr hlR ⊢
        generalize slicePick pits none (some (k : Int)) none ++ (slicePick pits (some (k : Int)) none none).toList.reverse.toArray = nits at N6 hPn
        generalize its.extract 0 k = its0 at N6 hI0
        obtain ⟨m6, F7, hmk6, hmp6⟩ : ∃ m6, Fr g L hR m6 ∧ m6 (Str.ofString "kept") = some (.ref x) ∧ m6 (Str.ofString "plain") = some (.ref D1) := ⟨_, F6, by walk_at "m:look", by walk_at "m:look"⟩
        have hRlt := Heap.lt_size (N6 (DR, listOf rits 0) (List.mem_cons_self ..)).1
        have hRL : @LT.lt Nat _ L hR.objs.size := F7.ns.lt
        have hRab := F7.above
        obtain ⟨n9, N7⟩ : ∃ n9, News g L hR ((hH.objs.size, oI) :: (x, accObj dx its0 n9) :: (dx, accDict hsh kt (.int 3 tk1) 1) :: (D1, listOf nits 0) :: (wd, wo') :: (L + 1, cO) :: (86, tabObj ps) :: (93, tabObj qs) :: (l0, listOf items 0) :: (DR, listOf rits 0) :: tl) := ⟨_, permA (tl := tl) (a0 := hH.objs.size) (a1 := x) (a2 := dx) (a3 := D1) (a4 := wd) (a5 := L + 1) (a6 := 86) (a7 := 93) (a8 := l0) (a9 := DR) N6 (by k_mem) (by k_mem) (by k_mem) (by k_mem) (by k_mem) (by k_mem) (by k_mem) (by k_mem) (by k_mem) (by k_mem) (by walk_at "m:tail")⟩
        have hlt7 := fun p hp => Heap.lt_size (N7 p hp).1
        refine codeAny_mono (R := fun r s' => r = .ok .next ∧ ∃ m₄ news₄, RevJ hH.objs.size x dx wd (L + 1) l0 D1 DR oI hsh kt tk1 wo' cO (listOf items 0) ps qs nits rits tl (pr.take k) (pr.drop k).reverse rits.size m₄ news₄ ∧ Fr g L s'.heap m₄ ∧ News g L s'.heap news₄ ∧ s'.os = s₃.os ∧ (AllBare s₃.gens → AllBare s'.gens)) ?rloop ?rrest
        case rrest =>
          rintro r s₅ ⟨rfl, m₅, news₅, hJ5, F₅, N₅, os₅, br₅⟩
          obtain ⟨its5, n5, tl5, rfl, hk5, hp5, hI5, hsub5, hap5⟩ := hJ5
          have hI5' : ItemsN tl5 its5 (pr.take k ++ (pr.drop k).reverse) := by rw [List.take_of_length_le (l := (pr.drop k).reverse) (by rw [hIr.1]; exact Nat.le_refl _)] at hI5; exact hI5
          have g5 : ∀ a ∈ ([hH.objs.size, x, dx, D1, wd, L + 1, 86, 93, l0, DR] : List Addr), ∀ p ∈ tl5, p.1 ≠ a := fun a ha p hp e => hap5 p hp (e ▸ ha)
          dsimp only
          refine wpAny_execs_nil (wpAny_execs_nil (hq₂ .next _ ⟨rfl, m₅, _, ⟨its5, n5, D1, nits, 0, wo', kvs, D, ps, qs, pr.take k ++ (pr.drop k).reverse, tl5, rfl, hk5, hp5, hD, hf, ht1, ht2, hI5', hPn.mono hsub5, ?len5, Nat.le_succ_of_le hDl, ?pd5, ?la5, ?tl5⟩, F₅, fun q hq => N₅ q ?n5, os₅, br₅, ?ap5⟩))
          case len5 => exact Nat.le_succ_of_le (Nat.le_trans (revlen' pr k) hpl)
          case pd5 =>
            intro p hp
            rcases List.mem_append.mp hp with hp | hp
            · exact hpr p (List.mem_of_mem_take hp)
            · exact hpr p (List.mem_of_mem_drop (List.mem_reverse.mp hp))
          case la5 =>
            intro a ha
            simp only [List.mem_cons, List.not_mem_nil, or_false] at ha
            rcases ha with rfl | rfl | rfl | rfl | rfl | rfl | rfl
            · exact Nat.ne_of_gt y2
            · exact Nat.ne_of_gt y3
            · exact Nat.ne_of_gt y5
            · exact Nat.ne_of_gt y6
            · exact Nat.ne_of_gt y7
            · exact Nat.ne_of_gt y8
            · exact Nat.ne_of_gt y9
          case tl5 => exact fun p hp hm => hap5 p hp (List.mem_cons_of_mem _ (show p.1 ∈ [x, dx, D1, wd, L + 1, 86, 93, l0] ++ [DR] from List.mem_append.mpr (.inl hm)))
          case n5 => exact mem_skip (l1 := [_, _, _, _, _, _, _, _, _]) hq
          case ap5 =>
            intro p hp
            simp only [List.mem_cons] at hp
            rcases hp with rfl | rfl | rfl | rfl | rfl | rfl | rfl | rfl | hp
            · exact hxI
            · exact hdxI
            · exact Nat.ne_of_gt y1
            · exact hwdI
            · exact hcI
            · exact h86I
            · exact h93I
            · exact hl0I
            · exact g5 _ (by simp) p hp
        refine for_own (h₀ := g) (keep := [(DR, listOf rits 0)]) (m := m6) (news := (hH.objs.size, oI) :: (x, accObj dx its0 n9) :: (dx, accDict hsh kt (.int 3 tk1) 1) :: (D1, listOf nits 0) :: (wd, wo') :: (L + 1, cO) :: (86, tabObj ps) :: (93, tabObj qs) :: (l0, listOf items 0) :: (DR, listOf rits 0) :: tl) (KTurns.ofWalks (Walks.list (show Around.handled (callerA.deeper _) = none from rfl) hR.objs.size DR (Nat.ne_of_lt hRlt) rits) fun i v s Q E st q => letGo_listiter st.1 q)
          ?robj ?rLf ?rwr ?rfp ?rnw ?rst ?rF ?rN ?rkp (RevJ hH.objs.size x dx wd (L + 1) l0 D1 DR oI hsh kt tk1 wo' cO (listOf items 0) ps qs nits rits tl (pr.take k) (pr.drop k).reverse) ?r0 ?rturn ?rfin
        case robj => rintro j h ⟨⟨o, ho, _⟩, _⟩ b hb; rw [List.mem_singleton.mp hb]; exact ⟨o, ho⟩
        case rLf =>
          show ¬ (L ∈ [hR.objs.size, DR])
          simp only [List.mem_cons, List.not_mem_nil, or_false, not_or]
          exact ⟨Nat.ne_of_lt hRL, fun q => (N6 (DR, listOf rits 0) (List.mem_cons_self ..)).2.1 q.symm⟩
        case rwr => intro b hb; rw [List.mem_singleton.mp hb]; exact Heap.get?_none_of_le (Nat.le_trans hRab (Nat.le_of_lt hRL))
        case rfp =>
          intro b hb
          simp only [List.mem_cons, List.not_mem_nil, or_false] at hb ⊢
          rcases hb with rfl | rfl
          · exact .inl rfl
          · exact .inr (.inr ⟨_, rfl⟩)
        case rnw => intro p hp hm; exact Nat.ne_of_lt (hlt7 p hp) (List.mem_singleton.mp hm)
        case rst => exact ⟨⟨_, Heap.get?_push_size _ rfl, rfl, rfl⟩, by obtain ⟨o, ho, r⟩ := hlR; exact ⟨o, Heap.get?_push_of_some _ ho, r⟩⟩
        case rF => exact F7.push _
        case rN => exact fun p hp => ⟨Heap.get?_push_of_some _ (N7 p hp).1, (N7 p hp).2⟩
        case rkp => exact fun p hp => by rw [List.mem_singleton.mp hp]; k_mem
        case r0 =>
          refine ⟨its0, n9, tl, rfl, hmk6, hmp6, by rw [List.take_zero, List.append_nil]; exact hI0, fun p hp => hp, fun p hp => ?_⟩
          simp only [List.mem_cons, List.not_mem_nil, or_false, not_or]
          exact ⟨htI p hp, tx p hp, tdx p hp, Nat.ne_of_lt (allLt_get y10 p hp), twd p hp, fun e => htl p hp (by rw [e]; simp), t86 p hp, t93 p hp, fun e => htl p hp (by rw [e]; simp), Nat.ne_of_lt (allLt_get z10 p hp)⟩
        case rfin =>
          intro m₄ news₄ s₄ hJ4 _ F₄ N₄ hos4 hbr4
          refine wpAny_execs_nil ⟨rfl, m₄, news₄, hJ4, F₄, N₄, hos4.trans (by first | walk_at "m:os" | (trace "OSX"; simp only [*])), fun z => hbr4 (by walk_at "m:bare")⟩
        case rturn =>
          intro j v m₄ news₄ s₄ own₄ hj hv hJ4 _ hnw4 hmap4 F₄ N₄ hos4 hbr4
          obtain ⟨its4, n4, tl4, rfl, hk4, hp4, hI4, hsub4, hap4⟩ := hJ4
          obtain ⟨oR, rfl⟩ := own_one hmap4
          replace F₄ : Fr g L s₄.heap m₄ := F₄
          replace N₄ : News g L s₄.heap ((hR.objs.size, oR) :: (hH.objs.size, oI) :: (x, accObj dx its4 n4) :: (dx, accDict hsh kt (.int 3 tk1) 1) :: (D1, listOf nits 0) :: (wd, wo') :: (L + 1, cO) :: (86, tabObj ps) :: (93, tabObj qs) :: (l0, listOf items 0) :: (DR, listOf rits 0) :: tl4) := N₄
          have hjr : j < (pr.drop k).reverse.length := hIr.1 ▸ hj
          have hp := List.getElem?_eq_getElem hjr
          generalize (pr.drop k).reverse[j] = p at hp
          obtain ⟨T, ta, tb, hT1, hT2⟩ := hIr.2 j p hp
          obtain rfl : v = .ref T := Option.some.inj (hv.symm.trans hT1)
          have hTt : s₄.heap.IsTuple T #[.str p.1 ta, .str p.2 tb] := ⟨_, (N₄ _ (List.mem_append.mpr (.inr (hsub4 _ hT2)) : _ ∈ [_, _, _, _, _, _, _, _, _, _, _] ++ tl4)).1, rfl, _, rfl⟩
          have g4 : ∀ a ∈ ([hH.objs.size, x, dx, D1, wd, L + 1, 86, 93, l0, DR] : List Addr), ∀ p ∈ tl4, p.1 ≠ a := fun a ha p hp e => hap4 p hp (e ▸ ha)
          have t4x := g4 x (by simp)
          have b1 : @Ne Nat x hR.objs.size := apart_one (p := (x, accObj dx its4 n4)) hnw4 (by k_mem)
          have b2 : @Ne Nat x D1 := Nat.ne_of_lt y2
          have b3 : @Ne Nat x DR := Nat.ne_of_lt z2
          have hz4 : its4.size ≤ sizeLine := hI4.1 ▸ line_13 (Nat.le_trans (revlen pr k j) h13)
          refine wpAny_noRaise (assign_pair rfl F₄ N₄ hTt rfl rfl rfl fun h5 tk5 (F5' : Fr g L h5 _) (N5' : News g L h5 _) => ?_)
          refine wpAny_noRaise (blind fun Q₅ hq₅ => ?_)
          clear F₄ N₄ hTt F6 N6 F7 N7 hmk6 hmp6 hlt7 hlR hq₂ hdq hm512 hm2 hblank
          walk_at "m:steps"
          rename_i sN tN F9 N9 osN brN lN
          have f0 := lN.1
          have f1 := lN.2.1
          have f2 := lN.2.2.1
          have f3 := lN.2.2.2.1
          have f4 := lN.2.2.2.2.1
          have f5 := lN.2.2.2.2.2.1
          have f6 := lN.2.2.2.2.2.2.1
          have f7 := lN.2.2.2.2.2.2.2.1
          have f8 := lN.2.2.2.2.2.2.2.2.1
          have f9 := lN.2.2.2.2.2.2.2.2.2.1
          have f10 := lN.2.2.2.2.2.2.2.2.2.2.1
          have f11 := lN.2.2.2.2.2.2.2.2.2.2.2
          clear lN
          refine hq₅ .next _ ⟨_, (hH.objs.size, oI) :: (x, accObj dx (its4.push (.ref tN)) (n4 + 1)) :: (dx, accDict hsh kt (.int 3 tk1) 1) :: (D1, listOf nits 0) :: (wd, wo') :: (L + 1, cO) :: (86, tabObj ps) :: (93, tabObj qs) :: (l0, listOf items 0) :: (DR, listOf rits 0) :: (tN, tupObj p.1 p.2 ta tb) :: tl4, F9, news_move (l1 := [_, _, _, _, _, _, _, _, _, _, _]) N9, ?wr5, fun p hp => by rw [List.mem_singleton.mp hp]; k_mem, ⟨its4.push (.ref tN), n4 + 1, (tN, tupObj p.1 p.2 ta tb) :: tl4, rfl, by walk_at "m:look", by walk_at "m:look", rev_next hI4 hp, fun q hq => List.mem_cons_of_mem _ (hsub4 q hq), ?ap6⟩, osN.trans hos4, fun z => brN (hbr4 z)⟩
          case wr5 =>
            intro q hq hm
            have hm := List.mem_singleton.mp hm
            simp only [List.mem_cons] at hq
            rcases hq with rfl | rfl | rfl | rfl | rfl | rfl | rfl | rfl | rfl | rfl | rfl | hq
            · exact apart_one (p := (hH.objs.size, oI)) hnw4 (by k_mem) hm
            · exact b1 hm
            · exact apart_one (p := (dx, accDict hsh kt (.int 3 tk1) 1)) hnw4 (by k_mem) hm
            · exact apart_one (p := (D1, listOf nits 0)) hnw4 (by k_mem) hm
            · exact apart_one (p := (wd, wo')) hnw4 (by k_mem) hm
            · exact apart_one (p := (L + 1, cO)) hnw4 (by k_mem) hm
            · exact apart_one (p := (86, tabObj ps)) hnw4 (by k_mem) hm
            · exact apart_one (p := (93, tabObj qs)) hnw4 (by k_mem) hm
            · exact apart_one (p := (l0, listOf items 0)) hnw4 (by k_mem) hm
            · exact apart_one (p := (DR, listOf rits 0)) hnw4 (by k_mem) hm
            · exact f0 hm.symm
            · exact apart_one hnw4 (List.mem_append.mpr (.inr hq) : q ∈ [_, _, _, _, _, _, _, _, _, _] ++ tl4) hm
          case ap6 =>
            intro q hq
            rcases List.mem_cons.mp hq with rfl | hq
            · simp only [List.mem_cons, List.not_mem_nil, or_false, not_or]
              exact ⟨Ne.symm f1, Ne.symm f2, Ne.symm f3, Ne.symm f4, Ne.symm f5, Ne.symm f6, Ne.symm f7, Ne.symm f8, Ne.symm f9, Ne.symm f10⟩
            · exact hap4 q hq)
end
end Mine
theorem PySem.Challenge.cw_ik0133_01_holds : PySem.Challenge.rw_ik0133_01.Holds :=
  Mine.law_walk
