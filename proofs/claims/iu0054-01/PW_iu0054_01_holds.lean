import PyProof.Rows.All
import Wide.All
import OpenK.AllK
import Wide.FinOn
import PySem.Challenge.RW_iu0054_01
open PySem PySem.W PyProof.Rows
set_option Elab.async false
set_option maxRecDepth 100000
set_option maxHeartbeats 8000000
namespace Mine
theorem e0:@PySem.Manifest.plain?=@PySem.Manifest.plain?:=rfl
section
open PySem.Manifest
name_quick tw13244421828093643197 for plain? by e0
name_quick tw8075568018651887793 for plain? by e0
name_quick tw827998738665421370 for plain? by e0
name_quick tw16984122934176923128 for plain? by e0
name_quick tw14202129121418310206 for plain? by e0
name_quick tw1594192036040709277 for plain? by e0
name_quick tw5718504769338547837 for plain? by e0
name_quick tw5557055217656661889 for plain? by e0
name_quick tw9445461356028520223 for plain? by e0
name_quick tw8376752744543775738 for plain? by e0
name_quick tw14979626087600564940 for plain? by e0
name_quick tw9968501335862950138 for plain? by e0
name_quick tw16573998221262416630 for plain? by e0
name_quick tw9413167413068371254 for plain? by e0
name_quick tw13833065179229638619 for plain? by e0
name_quick tw10228245587670581128 for plain? by e0
name_quick tw16590896929057906003 for plain? by e0
name_quick tw7244113946720332995 for plain? by e0
name_quick tw11636919720809706868 for plain? by e0
name_quick tw17101871299007795629 for plain? by e0
name_quick tw12635813782599140982 for plain? by e0
name_quick tw189603312586018693 for plain? by e0
name_quick tw13906726366976518917 for plain? by e0
name_quick tw9787396351842916947 for plain? by e0
name_quick tw16942194440817826258 for plain? by e0
name_quick tw10323183001455561277 for plain? by e0
name_quick tw5976474108018559520 for plain? by e0
name_quick tw14420389602138693270 for plain? by e0
name_quick tw7401281599722004195 for plain? by e0
name_quick tw17280976486791472633 for plain? by e0
name_quick tw7581352650102555174 for plain? by e0
name_quick tw4558998842232669794 for plain? by e0
name_quick tw14323765505736481980 for plain? by e0
name_quick tw11625766737575182897 for plain? by e0
name_quick tw3442601649717412197 for plain? by e0
name_quick tw10073347824450446311 for plain? by e0
name_quick tw5862295025349918931 for plain? by e0
name_quick tw9458956999447867950 for plain? by e0
name_quick tw5565278806992967083 for plain? by e0
name_quick tw11817470609975844035 for plain? by e0
name_quick tw6909570525239066004 for plain? by e0
name_quick tw10942035263794033107 for plain? by e0
name_quick tw13915792640404377917 for plain? by e0
name_quick tw8400853705098224536 for plain? by e0
name_quick tw3577408171920636059 for plain? by e0
name_quick tw14973007898608030118 for plain? by e0
name_quick tw383695940523520267 for plain? by e0
name_quick tw16350708796919097252 for plain? by e0
name_quick tw4407734736301137906 for plain? by e0
name_quick tw2401699919119007470 for plain? by e0
name_quick tw5076957145309523181 for plain? by e0
name_quick tw9136488742655976645 for plain? by e0
name_quick tw12095823642532355627 for plain? by e0
name_quick tw3891137856419664920 for plain? by e0
name_quick tw3327986453032591115 for plain? by e0
name_quick tw470574548607681690 for plain? by e0
name_quick tw17827458813498177553 for plain? by e0
name_quick tw4071324889030633612 for plain? by e0
name_quick tw7275051467321613617 for plain? by e0
name_quick tw16494616584097029746 for plain? by e0
name_quick tw6550987210724342151 for plain? by e0
name_quick tw11306939235166856333 for plain? by e0
name_quick tw1735497430108182060 for plain? by e0
name_quick tw10029231156530900338 for plain? by e0
name_quick tw10379131730601215995 for plain? by e0
name_quick tw2902314222560053993 for plain? by e0
name_quick tw900395245841561262 for plain? by e0
name_quick tw16655555454665732581 for plain? by e0
name_quick tw6929956602132211858 for plain? by e0
name_quick tw4978915544186085027 for plain? by e0
name_quick tw12237943961548833269 for plain? by e0
name_quick tw10470071008263537045 for plain? by e0
name_quick tw973662469405803806 for plain? by e0
name_quick tw12268644228514654432 for plain? by e0
name_quick tw4748654258956052638 for plain? by e0
name_quick tw10706342367453228570 for plain? by e0
name_quick tw12393455550290869266 for plain? by e0
name_quick tw5770868932273138760 for plain? by e0
name_quick tw2354101950205528012 for plain? by e0
name_quick tw8253183596043897158 for plain? by e0
name_quick tw14433975572909055671 for plain? by e0
name_quick tw2460228577881660442 for plain? by e0
name_quick tw3424931102881643321 for plain? by e0
name_quick tw11707433790658880453 for plain? by e0
name_quick tw18126140380344562322 for plain? by e0
name_quick tw1258717718454355964 for plain? by e0
name_quick tw2627984346626558326 for plain? by e0
name_quick tw387338674003428930 for plain? by e0
name_quick tw3093977132361051618 for plain? by e0
name_quick tw16018607276475445134 for plain? by e0
name_quick tw9376109419431680627 for plain? by e0
name_quick tw12821735335276811757 for plain? by e0
name_quick tw17730448691065144110 for plain? by e0
name_quick tw9219426015542480343 for plain? by e0
name_quick tw18340240734955500558 for plain? by e0
name_quick tw14023627001141898710 for plain? by e0
name_quick tw1419416864934026935 for plain? by e0
name_quick tw18260038339965228139 for plain? by e0
name_quick tw3264259588550801142 for plain? by e0
name_quick tw17537794083376710389 for plain? by e0
name_quick tw1291980286583624508 for plain? by e0
name_quick tw9800571698397750058 for plain? by e0
name_quick tw4658958612460137192 for plain? by e0
name_quick tw18345786424863182364 for plain? by e0
name_quick tw8719427161674164953 for plain? by e0
name_quick tw17863021456227041891 for plain? by e0
name_quick tw17434858337260393937 for plain? by e0
name_quick tw12488000419048109807 for plain? by e0
name_quick tw15376083050721069600 for plain? by e0
name_quick tw17394056326795013819 for plain? by e0
name_quick tw3282434896037501709 for plain? by e0
name_quick tw7140130562030077042 for plain? by e0
name_quick tw5701610774189311196 for plain? by e0
name_quick tw3766158894648301139 for plain? by e0
name_quick tw5758256569797452207 for plain? by e0
name_quick tw11452132507678324671 for plain? by e0
name_quick tw8708707556590381134 for plain? by e0
name_quick tw7619357645376055252 for plain? by e0
name_quick tw12177639751122801600 for plain? by e0
name_quick tw17164873540382356111 for plain? by e0
name_quick tw4904739604578439355 for plain? by e0
name_quick tw13640514254501968386 for plain? by e0
name_quick tw4011157648589011858 for plain? by e0
name_quick tw347637069881736656 for plain? by e0
name_quick tw7504490480230193789 for plain? by e0
name_quick tw15112985482279097393 for plain? by e0
name_quick tw13678640442995254988 for plain? by e0
name_quick tw2315820567201803617 for plain? by e0
name_quick tw6245536207120538393 for plain? by e0
name_quick tw13036272033356848781 for plain? by e0
name_quick tw17888162413812561239 for plain? by e0
name_quick tw12647630874787467225 for plain? by e0
name_quick tw3094477031063562474 for plain? by e0
name_quick tw325292655437039998 for plain? by e0
name_quick tw9236875199018929784 for plain? by e0
name_quick tw17532440430192770315 for plain? by e0
name_quick tw5200128776193632040 for plain? by e0
name_quick tw17279654841073493023 for plain? by e0
name_quick tw16349216596472256690 for plain? by e0
name_quick tw12224578244612797663 for plain? by e0
name_quick tw18350638575300117064 for plain? by e0
name_quick tw3820604794100220378 for plain? by e0
name_quick tw7745614565497352828 for plain? by e0
name_quick tw2719445374943340272 for plain? by e0
name_quick tw7009043117176579089 for plain? by e0
name_quick tw11588390666370768167 for plain? by e0
name_quick tw16874561944515371726 for plain? by e0
name_quick tw17532718790514356516 for plain? by e0
name_quick tw3856783459128436802 for plain? by e0
name_quick tw2334299552400917057 for plain? by e0
name_quick tw5518745428033880147 for plain? by e0
name_quick tw16414604833108395602 for plain? by e0
name_quick tw6148621092414575339 for plain? by e0
name_quick tw662354867322794072 for plain? by e0
name_quick tw14305139224198610471 for plain? by e0
name_quick tw11892598404827812706 for plain? by e0
name_quick tw9673203406766833760 for plain? by e0
name_quick tw6004533443673955352 for plain? by e0
name_quick tw15263041282635125899 for plain? by e0
name_quick tw15423634916342008072 for plain? by e0
name_quick tw11108263761283441063 for plain? by e0
name_quick tw18263319221461684349 for plain? by e0
name_quick tw16145008321745377990 for plain? by e0
name_quick tw11863081143760314161 for plain? by e0
name_quick tw4921902886906138986 for plain? by e0
name_quick tw15560853006256673968 for plain? by e0
name_quick tw2736616831223182526 for plain? by e0
name_quick tw1620339239838986703 for plain? by e0
name_quick tw10919533547850550483 for plain? by e0
name_quick tw2664551874359636763 for plain? by e0
name_quick tw2568138657480231631 for plain? by e0
name_quick tw10833955939284561965 for plain? by e0
name_quick tw117213463901210413 for plain? by e0
name_quick tw15894407043143930727 for plain? by e0
name_quick tw2968979199505139716 for plain? by e0
name_quick tw9315938663221665524 for plain? by e0
name_quick tw15980859228951719591 for plain? by e0
name_quick tw12392613427281201732 for plain? by e0
name_quick tw7650934615059315214 for plain? by e0
name_quick tw1503297043503765363 for plain? by e0
name_quick tw16869277618539721502 for plain? by e0
name_quick tw12813236842856870187 for plain? by e0
name_quick tw4319705520415482375 for plain? by e0
name_quick tw16741492637210864865 for plain? by e0
name_quick tw10528696920762540405 for plain? by e0
name_quick tw11853533878840232495 for plain? by e0
name_quick tw607167704815816724 for plain? by e0
name_quick tw3315324234476444515 for plain? by e0
name_quick tw5732905514179830355 for plain? by e0
name_quick tw16916688483869632129 for plain? by e0
name_quick tw9979284746773624096 for plain? by e0
name_quick tw11270796479367742343 for plain? by e0
name_quick tw6654550962395885724 for plain? by e0
name_quick tw1377046205977697930 for plain? by e0
name_quick tw9151444980202551346 for plain? by e0
name_quick tw17111948838632640456 for plain? by e0
name_quick tw2711585505577850959 for plain? by e0
name_quick tw13890744642731562755 for plain? by e0
name_quick tw1333364371103165705 for plain? by e0
name_quick tw8450942572126056277 for plain? by e0
name_quick tw2951486255847992690 for plain? by e0
name_quick tw10500077913531017323 for plain? by e0
name_quick tw7098571738820278039 for plain? by e0
name_quick tw11519604305632133818 for plain? by e0
name_quick tw6714822604882049554 for plain? by e0
name_quick tw8032284361305108907 for plain? by e0
name_quick tw3152983702415266003 for plain? by e0
name_quick tw8376441433122354887 for plain? by e0
name_quick tw14386061602966655976 for plain? by e0
name_quick tw460243522976405022 for plain? by e0
name_quick tw15278061642289888581 for plain? by e0
name_quick tw12233582284571471492 for plain? by e0
name_quick tw8603108125212654177 for plain? by e0
name_quick tw3362959441861295915 for plain? by e0
name_quick tw721709456127091705 for plain? by e0
name_quick tw8620020772036689432 for plain? by e0
name_quick tw3355348695024010778 for plain? by e0
name_quick tw219737044198020058 for plain? by e0
name_quick tw1702518465993881591 for plain? by e0
name_quick tw1414301608579184545 for plain? by e0
name_quick tw1886563365779066154 for plain? by e0
name_quick tw13912434898499826684 for plain? by e0
name_quick tw1772237422875290029 for plain? by e0
name_quick tw14311459727803291754 for plain? by e0
name_quick tw17352973434858128600 for plain? by e0
name_quick tw6711915476519705758 for plain? by e0
name_quick tw5823794197072137003 for plain? by e0
name_quick tw2922074901204462755 for plain? by e0
name_quick tw9759809726879904816 for plain? by e0
name_quick tw12832477231654346042 for plain? by e0
name_quick tw17274371674624000324 for plain? by e0
name_quick tw1370275717833778536 for plain? by e0
name_quick tw16296994325663420285 for plain? by e0
name_quick tw2670528217467546775 for plain? by e0
name_quick tw389472881494512206 for plain? by e0
name_quick tw8753696776887207221 for plain? by e0
name_quick tw16413264400604254196 for plain? by e0
name_quick tw14223099787259518943 for plain? by e0
name_quick tw1204117194425446250 for plain? by e0
name_quick tw14073706353221006472 for plain? by e0
name_quick tw13317431791736044220 for plain? by e0
name_quick tw16406328271908756883 for plain? by e0
name_quick tw1574873078441994576 for plain? by e0
name_quick tw14971970265804392439 for plain? by e0
name_quick tw17804436615005485693 for plain? by e0
name_quick tw3619232141914619222 for plain? by e0
name_quick tw12182807814244774211 for plain? by e0
name_quick tw7250012664060256230 for plain? by e0
name_quick tw4275521005467322725 for plain? by e0
name_quick tw17765544955259793912 for plain? by e0
name_quick tw13642483538084851733 for plain? by e0
name_quick tw11495947367809530248 for plain? by e0
name_quick tw2958062672499776758 for plain? by e0
name_quick tw8579058602437062094 for plain? by e0
name_quick tw7286323032743288035 for plain? by e0
name_quick tw667198328695590252 for plain? by e0
name_quick tw2862820112641550484 for plain? by e0
name_quick tw17988542015724977305 for plain? by e0
name_quick tw17913803186225011329 for plain? by e0
name_quick tw18416463498863911781 for plain? by e0
name_quick tw17774800907425398282 for plain? by e0
name_quick tw16817318245366136608 for plain? by e0
name_quick tw12825359941727978080 for plain? by e0
name_quick tw11445135464325071761 for plain? by e0
name_quick tw16846860572762119324 for plain? by e0
name_quick tw6587116730350146372 for plain? by e0
name_quick tw10010936943081839664 for plain? by e0
name_quick tw16439824349840649037 for plain? by e0
name_quick tw10887116778572429059 for plain? by e0
name_quick tw558745408833754511 for plain? by e0
name_quick tw1749818173716722547 for plain? by e0
name_quick tw16241802466949684156 for plain? by e0
name_quick tw704327219915372674 for plain? by e0
name_quick tw17828083071136270317 for plain? by e0
name_quick tw1402947280878808549 for plain? by e0
name_quick tw17975652961387846372 for plain? by e0
name_quick tw15900120412870309639 for plain? by e0
name_quick tw11543547407058413889 for plain? by e0
name_quick tw3764465048917985505 for plain? by e0
name_quick tw1962928258387122110 for plain? by e0
name_quick tw13900631225919944168 for plain? by e0
name_quick tw1139862187096482527 for plain? by e0
name_quick tw9011979029575296479 for plain? by e0
name_quick tw5978237884098788730 for plain? by e0
name_quick tw8693227569615203950 for plain? by e0
end
open_top hd for PySem.Challenge.rw_iu0054_01
end Mine
set_option tactic.hygienic false
set_option genInjectivity false
set_option genSizeOf false
set_option compiler.extract_closed false
namespace Mine
noncomputable section
open PySem PySem.W PySem.Calls PyProof.Rows
section
variable {α β γ δ ε ζ η θ:Sort _}
theorem inA {P1 P2:Prop} (h1:P1) (h2:P2):P1∧P2:=⟨h1,h2⟩
theorem inAA {P1 P2 P3:Prop} (h1:P1) (h2:P2) (h3:P3):P1∧P2∧P3:=⟨h1,h2,h3⟩
theorem inAAA {P1 P2 P3 P4:Prop} (h1:P1) (h2:P2) (h3:P3) (h4:P4):P1∧P2∧P3∧P4:=⟨h1,h2,h3,h4⟩
theorem inAAAA {P1 P2 P3 P4 P5:Prop} (h1:P1) (h2:P2) (h3:P3) (h4:P4) (h5:P5):P1∧P2∧P3∧P4∧P5:=⟨h1,h2,h3,h4,h5⟩
theorem inAE {P1:Prop} {P2:α→Prop} (h1:P1) (a) (h2:P2 a):P1∧∃ a,P2 a:=⟨h1,a,h2⟩
theorem inAEA {P1:Prop} {P2 P3:α→Prop} (h1:P1) (a) (h2:P2 a) (h3:P3 a):P1∧∃ a,P2 a∧P3 a:=⟨h1,a,h2,h3⟩
theorem inAEEA {P1:Prop} {P2 P3:α→β→Prop} (h1:P1) (a) (b) (h2:P2 a b) (h3:P3 a b):P1∧∃ a,∃ b,P2 a b∧P3 a b:=⟨h1,a,b,h2,h3⟩
theorem inAEEAA {P1:Prop} {P2 P3 P4:α→β→Prop} (h1:P1) (a) (b) (h2:P2 a b) (h3:P3 a b) (h4:P4 a b):P1∧∃ a,∃ b,P2 a b∧P3 a b∧P4 a b:=⟨h1,a,b,h2,h3,h4⟩
theorem inAEEE {P1:Prop} {P2:α→β→γ→Prop} (h1:P1) (a) (b) (c) (h2:P2 a b c):P1∧∃ a,∃ b,∃ c,P2 a b c:=⟨h1,a,b,c,h2⟩
theorem inAEEEEA {P1:Prop} {P2 P3:α→β→γ→δ→Prop} (h1:P1) (a) (b) (c) (d) (h2:P2 a b c d) (h3:P3 a b c d):P1∧∃ a,∃ b,∃ c,∃ d,P2 a b c d∧P3 a b c d:=⟨h1,a,b,c,d,h2,h3⟩
theorem inAEEEEAAAAAA {P1:Prop} {P2 P3 P4 P5 P6 P7 P8:α→β→γ→δ→Prop} (h1:P1) (a) (b) (c) (d) (h2:P2 a b c d) (h3:P3 a b c d) (h4:P4 a b c d) (h5:P5 a b c d) (h6:P6 a b c d) (h7:P7 a b c d) (h8:P8 a b c d):P1∧∃ a,∃ b,∃ c,∃ d,P2 a b c d∧P3 a b c d∧P4 a b c d∧P5 a b c d∧P6 a b c d∧P7 a b c d∧P8 a b c d:=⟨h1,a,b,c,d,h2,h3,h4,h5,h6,h7,h8⟩
theorem inAEEEEAAAAAAAAA {P1:Prop} {P2 P3 P4 P5 P6 P7 P8 P9 P10 P11:α→β→γ→δ→Prop} (h1:P1) (a) (b) (c) (d) (h2:P2 a b c d) (h3:P3 a b c d) (h4:P4 a b c d) (h5:P5 a b c d) (h6:P6 a b c d) (h7:P7 a b c d) (h8:P8 a b c d) (h9:P9 a b c d) (h10:P10 a b c d) (h11:P11 a b c d):P1∧∃ a,∃ b,∃ c,∃ d,P2 a b c d∧P3 a b c d∧P4 a b c d∧P5 a b c d∧P6 a b c d∧P7 a b c d∧P8 a b c d∧P9 a b c d∧P10 a b c d∧P11 a b c d:=⟨h1,a,b,c,d,h2,h3,h4,h5,h6,h7,h8,h9,h10,h11⟩
theorem inE {P1:α→Prop} (a) (h1:P1 a):∃ a,P1 a:=⟨a,h1⟩
theorem inEA {P1 P2:α→Prop} (a) (h1:P1 a) (h2:P2 a):∃ a,P1 a∧P2 a:=⟨a,h1,h2⟩
theorem inEAA {P1 P2 P3:α→Prop} (a) (h1:P1 a) (h2:P2 a) (h3:P3 a):∃ a,P1 a∧P2 a∧P3 a:=⟨a,h1,h2,h3⟩
theorem inEAAA {P1 P2 P3 P4:α→Prop} (a) (h1:P1 a) (h2:P2 a) (h3:P3 a) (h4:P4 a):∃ a,P1 a∧P2 a∧P3 a∧P4 a:=⟨a,h1,h2,h3,h4⟩
theorem inEAAAEEA {P1 P2 P3:α→Prop} {P4 P5:α→β→γ→Prop} (a) (h1:P1 a) (h2:P2 a) (h3:P3 a) (b) (c) (h4:P4 a b c) (h5:P5 a b c):∃ a,P1 a∧P2 a∧P3 a∧∃ b,∃ c,P4 a b c∧P5 a b c:=⟨a,h1,h2,h3,b,c,h4,h5⟩
theorem inEAAE {P1 P2:α→Prop} {P3:α→β→Prop} (a) (h1:P1 a) (h2:P2 a) (b) (h3:P3 a b):∃ a,P1 a∧P2 a∧∃ b,P3 a b:=⟨a,h1,h2,b,h3⟩
theorem inEAEA {P1:α→Prop} {P2 P3:α→β→Prop} (a) (h1:P1 a) (b) (h2:P2 a b) (h3:P3 a b):∃ a,P1 a∧∃ b,P2 a b∧P3 a b:=⟨a,h1,b,h2,h3⟩
theorem inEAEAA {P1:α→Prop} {P2 P3 P4:α→β→Prop} (a) (h1:P1 a) (b) (h2:P2 a b) (h3:P3 a b) (h4:P4 a b):∃ a,P1 a∧∃ b,P2 a b∧P3 a b∧P4 a b:=⟨a,h1,b,h2,h3,h4⟩
theorem inEE {P1:α→β→Prop} (a) (b) (h1:P1 a b):∃ a,∃ b,P1 a b:=⟨a,b,h1⟩
theorem inEEA {P1 P2:α→β→Prop} (a) (b) (h1:P1 a b) (h2:P2 a b):∃ a,∃ b,P1 a b∧P2 a b:=⟨a,b,h1,h2⟩
theorem inEEAA {P1 P2 P3:α→β→Prop} (a) (b) (h1:P1 a b) (h2:P2 a b) (h3:P3 a b):∃ a,∃ b,P1 a b∧P2 a b∧P3 a b:=⟨a,b,h1,h2,h3⟩
theorem inEEAAA {P1 P2 P3 P4:α→β→Prop} (a) (b) (h1:P1 a b) (h2:P2 a b) (h3:P3 a b) (h4:P4 a b):∃ a,∃ b,P1 a b∧P2 a b∧P3 a b∧P4 a b:=⟨a,b,h1,h2,h3,h4⟩
theorem inEEAAAAA {P1 P2 P3 P4 P5 P6:α→β→Prop} (a) (b) (h1:P1 a b) (h2:P2 a b) (h3:P3 a b) (h4:P4 a b) (h5:P5 a b) (h6:P6 a b):∃ a,∃ b,P1 a b∧P2 a b∧P3 a b∧P4 a b∧P5 a b∧P6 a b:=⟨a,b,h1,h2,h3,h4,h5,h6⟩
theorem inEEAAAAAA {P1 P2 P3 P4 P5 P6 P7:α→β→Prop} (a) (b) (h1:P1 a b) (h2:P2 a b) (h3:P3 a b) (h4:P4 a b) (h5:P5 a b) (h6:P6 a b) (h7:P7 a b):∃ a,∃ b,P1 a b∧P2 a b∧P3 a b∧P4 a b∧P5 a b∧P6 a b∧P7 a b:=⟨a,b,h1,h2,h3,h4,h5,h6,h7⟩
theorem inEEAAAAAAA {P1 P2 P3 P4 P5 P6 P7 P8:α→β→Prop} (a) (b) (h1:P1 a b) (h2:P2 a b) (h3:P3 a b) (h4:P4 a b) (h5:P5 a b) (h6:P6 a b) (h7:P7 a b) (h8:P8 a b):∃ a,∃ b,P1 a b∧P2 a b∧P3 a b∧P4 a b∧P5 a b∧P6 a b∧P7 a b∧P8 a b:=⟨a,b,h1,h2,h3,h4,h5,h6,h7,h8⟩
theorem inEEAAAAAAAA {P1 P2 P3 P4 P5 P6 P7 P8 P9:α→β→Prop} (a) (b) (h1:P1 a b) (h2:P2 a b) (h3:P3 a b) (h4:P4 a b) (h5:P5 a b) (h6:P6 a b) (h7:P7 a b) (h8:P8 a b) (h9:P9 a b):∃ a,∃ b,P1 a b∧P2 a b∧P3 a b∧P4 a b∧P5 a b∧P6 a b∧P7 a b∧P8 a b∧P9 a b:=⟨a,b,h1,h2,h3,h4,h5,h6,h7,h8,h9⟩
theorem inEEAAEEAAAA {P1 P2:α→β→Prop} {P3 P4 P5 P6 P7:α→β→γ→δ→Prop} (a) (b) (h1:P1 a b) (h2:P2 a b) (c) (d) (h3:P3 a b c d) (h4:P4 a b c d) (h5:P5 a b c d) (h6:P6 a b c d) (h7:P7 a b c d):∃ a,∃ b,P1 a b∧P2 a b∧∃ c,∃ d,P3 a b c d∧P4 a b c d∧P5 a b c d∧P6 a b c d∧P7 a b c d:=⟨a,b,h1,h2,c,d,h3,h4,h5,h6,h7⟩
theorem inEEE {P1:α→β→γ→Prop} (a) (b) (c) (h1:P1 a b c):∃ a,∃ b,∃ c,P1 a b c:=⟨a,b,c,h1⟩
theorem inEEEA {P1 P2:α→β→γ→Prop} (a) (b) (c) (h1:P1 a b c) (h2:P2 a b c):∃ a,∃ b,∃ c,P1 a b c∧P2 a b c:=⟨a,b,c,h1,h2⟩
theorem inEEEAA {P1 P2 P3:α→β→γ→Prop} (a) (b) (c) (h1:P1 a b c) (h2:P2 a b c) (h3:P3 a b c):∃ a,∃ b,∃ c,P1 a b c∧P2 a b c∧P3 a b c:=⟨a,b,c,h1,h2,h3⟩
theorem inEEEAAA {P1 P2 P3 P4:α→β→γ→Prop} (a) (b) (c) (h1:P1 a b c) (h2:P2 a b c) (h3:P3 a b c) (h4:P4 a b c):∃ a,∃ b,∃ c,P1 a b c∧P2 a b c∧P3 a b c∧P4 a b c:=⟨a,b,c,h1,h2,h3,h4⟩
theorem inEEEAAAA {P1 P2 P3 P4 P5:α→β→γ→Prop} (a) (b) (c) (h1:P1 a b c) (h2:P2 a b c) (h3:P3 a b c) (h4:P4 a b c) (h5:P5 a b c):∃ a,∃ b,∃ c,P1 a b c∧P2 a b c∧P3 a b c∧P4 a b c∧P5 a b c:=⟨a,b,c,h1,h2,h3,h4,h5⟩
theorem inEEEE {P1:α→β→γ→δ→Prop} (a) (b) (c) (d) (h1:P1 a b c d):∃ a,∃ b,∃ c,∃ d,P1 a b c d:=⟨a,b,c,d,h1⟩
theorem inEEEEAAA {P1 P2 P3 P4:α→β→γ→δ→Prop} (a) (b) (c) (d) (h1:P1 a b c d) (h2:P2 a b c d) (h3:P3 a b c d) (h4:P4 a b c d):∃ a,∃ b,∃ c,∃ d,P1 a b c d∧P2 a b c d∧P3 a b c d∧P4 a b c d:=⟨a,b,c,d,h1,h2,h3,h4⟩
theorem inEEEEAAAA {P1 P2 P3 P4 P5:α→β→γ→δ→Prop} (a) (b) (c) (d) (h1:P1 a b c d) (h2:P2 a b c d) (h3:P3 a b c d) (h4:P4 a b c d) (h5:P5 a b c d):∃ a,∃ b,∃ c,∃ d,P1 a b c d∧P2 a b c d∧P3 a b c d∧P4 a b c d∧P5 a b c d:=⟨a,b,c,d,h1,h2,h3,h4,h5⟩
theorem inEEEEE {P1:α→β→γ→δ→ε→Prop} (a) (b) (c) (d) (e) (h1:P1 a b c d e):∃ a,∃ b,∃ c,∃ d,∃ e,P1 a b c d e:=⟨a,b,c,d,e,h1⟩
theorem inEEEEEEEAAAA {P1 P2 P3 P4 P5:α→β→γ→δ→ε→ζ→η→Prop} (a) (b) (c) (d) (e) (f) (g) (h1:P1 a b c d e f g) (h2:P2 a b c d e f g) (h3:P3 a b c d e f g) (h4:P4 a b c d e f g) (h5:P5 a b c d e f g):∃ a,∃ b,∃ c,∃ d,∃ e,∃ f,∃ g,P1 a b c d e f g∧P2 a b c d e f g∧P3 a b c d e f g∧P4 a b c d e f g∧P5 a b c d e f g:=⟨a,b,c,d,e,f,g,h1,h2,h3,h4,h5⟩
theorem inEEEEEEEEAA {P1 P2 P3:α→β→γ→δ→ε→ζ→η→θ→Prop} (a) (b) (c) (d) (e) (f) (g) (i) (h1:P1 a b c d e f g i) (h2:P2 a b c d e f g i) (h3:P3 a b c d e f g i):∃ a,∃ b,∃ c,∃ d,∃ e,∃ f,∃ g,∃ i,P1 a b c d e f g i∧P2 a b c d e f g i∧P3 a b c d e f g i:=⟨a,b,c,d,e,f,g,i,h1,h2,h3⟩
theorem unA {P1 P2:Prop} {G:Prop} (h:P1∧P2) (k:P1→P2→G):G:=k h.1 h.2
theorem unAA {P1 P2 P3:Prop} {G:Prop} (h:P1∧P2∧P3) (k:P1→P2→P3→G):G:=k h.1 h.2.1 h.2.2
theorem unAAA {P1 P2 P3 P4:Prop} {G:Prop} (h:P1∧P2∧P3∧P4) (k:P1→P2→P3→P4→G):G:=k h.1 h.2.1 h.2.2.1 h.2.2.2
theorem unAAAA {P1 P2 P3 P4 P5:Prop} {G:Prop} (h:P1∧P2∧P3∧P4∧P5) (k:P1→P2→P3→P4→P5→G):G:=k h.1 h.2.1 h.2.2.1 h.2.2.2.1 h.2.2.2.2
theorem unAAEEAA {P1 P2:Prop} {P3 P4 P5:α→β→Prop} {G:Prop} (h:P1∧P2∧∃ a,∃ b,P3 a b∧P4 a b∧P5 a b) (k:P1→P2→∀ a,∀ b,P3 a b→P4 a b→P5 a b→G):G:=h.2.2.elim fun a z1=>z1.elim fun b z2=>k h.1 h.2.1 a b z2.1 z2.2.1 z2.2.2
theorem unAE {P1:Prop} {P2:α→Prop} {G:Prop} (h:P1∧∃ a,P2 a) (k:P1→∀ a,P2 a→G):G:=h.2.elim fun a z1=>k h.1 a z1
theorem unAEA {P1:Prop} {P2 P3:α→Prop} {G:Prop} (h:P1∧∃ a,P2 a∧P3 a) (k:P1→∀ a,P2 a→P3 a→G):G:=h.2.elim fun a z1=>k h.1 a z1.1 z1.2
theorem unAEAA {P1:Prop} {P2 P3 P4:α→Prop} {G:Prop} (h:P1∧∃ a,P2 a∧P3 a∧P4 a) (k:P1→∀ a,P2 a→P3 a→P4 a→G):G:=h.2.elim fun a z1=>k h.1 a z1.1 z1.2.1 z1.2.2
theorem unAEEAA {P1:Prop} {P2 P3 P4:α→β→Prop} {G:Prop} (h:P1∧∃ a,∃ b,P2 a b∧P3 a b∧P4 a b) (k:P1→∀ a,∀ b,P2 a b→P3 a b→P4 a b→G):G:=h.2.elim fun a z1=>z1.elim fun b z2=>k h.1 a b z2.1 z2.2.1 z2.2.2
theorem unAEEE {P1:Prop} {P2:α→β→γ→Prop} {G:Prop} (h:P1∧∃ a,∃ b,∃ c,P2 a b c) (k:P1→∀ a,∀ b,∀ c,P2 a b c→G):G:=h.2.elim fun a z1=>z1.elim fun b z2=>z2.elim fun c z3=>k h.1 a b c z3
theorem unAEEEEA {P1:Prop} {P2 P3:α→β→γ→δ→Prop} {G:Prop} (h:P1∧∃ a,∃ b,∃ c,∃ d,P2 a b c d∧P3 a b c d) (k:P1→∀ a,∀ b,∀ c,∀ d,P2 a b c d→P3 a b c d→G):G:=h.2.elim fun a z1=>z1.elim fun b z2=>z2.elim fun c z3=>z3.elim fun d z4=>k h.1 a b c d z4.1 z4.2
theorem unAEEEEAAAAAA {P1:Prop} {P2 P3 P4 P5 P6 P7 P8:α→β→γ→δ→Prop} {G:Prop} (h:P1∧∃ a,∃ b,∃ c,∃ d,P2 a b c d∧P3 a b c d∧P4 a b c d∧P5 a b c d∧P6 a b c d∧P7 a b c d∧P8 a b c d) (k:P1→∀ a,∀ b,∀ c,∀ d,P2 a b c d→P3 a b c d→P4 a b c d→P5 a b c d→P6 a b c d→P7 a b c d→P8 a b c d→G):G:=h.2.elim fun a z1=>z1.elim fun b z2=>z2.elim fun c z3=>z3.elim fun d z4=>k h.1 a b c d z4.1 z4.2.1 z4.2.2.1 z4.2.2.2.1 z4.2.2.2.2.1 z4.2.2.2.2.2.1 z4.2.2.2.2.2.2
theorem unE {P1:α→Prop} {G:Prop} (h:∃ a,P1 a) (k:∀ a,P1 a→G):G:=h.elim fun a z1=>k a z1
theorem unEA {P1 P2:α→Prop} {G:Prop} (h:∃ a,P1 a∧P2 a) (k:∀ a,P1 a→P2 a→G):G:=h.elim fun a z1=>k a z1.1 z1.2
theorem unEAA {P1 P2 P3:α→Prop} {G:Prop} (h:∃ a,P1 a∧P2 a∧P3 a) (k:∀ a,P1 a→P2 a→P3 a→G):G:=h.elim fun a z1=>k a z1.1 z1.2.1 z1.2.2
theorem unEAAA {P1 P2 P3 P4:α→Prop} {G:Prop} (h:∃ a,P1 a∧P2 a∧P3 a∧P4 a) (k:∀ a,P1 a→P2 a→P3 a→P4 a→G):G:=h.elim fun a z1=>k a z1.1 z1.2.1 z1.2.2.1 z1.2.2.2
theorem unEAAAEEA {P1 P2 P3:α→Prop} {P4 P5:α→β→γ→Prop} {G:Prop} (h:∃ a,P1 a∧P2 a∧P3 a∧∃ b,∃ c,P4 a b c∧P5 a b c) (k:∀ a,P1 a→P2 a→P3 a→∀ b,∀ c,P4 a b c→P5 a b c→G):G:=h.elim fun a z1=>z1.2.2.2.elim fun b z2=>z2.elim fun c z3=>k a z1.1 z1.2.1 z1.2.2.1 b c z3.1 z3.2
theorem unEAEA {P1:α→Prop} {P2 P3:α→β→Prop} {G:Prop} (h:∃ a,P1 a∧∃ b,P2 a b∧P3 a b) (k:∀ a,P1 a→∀ b,P2 a b→P3 a b→G):G:=h.elim fun a z1=>z1.2.elim fun b z2=>k a z1.1 b z2.1 z2.2
theorem unEAEAA {P1:α→Prop} {P2 P3 P4:α→β→Prop} {G:Prop} (h:∃ a,P1 a∧∃ b,P2 a b∧P3 a b∧P4 a b) (k:∀ a,P1 a→∀ b,P2 a b→P3 a b→P4 a b→G):G:=h.elim fun a z1=>z1.2.elim fun b z2=>k a z1.1 b z2.1 z2.2.1 z2.2.2
theorem unEAEEA {P1:α→Prop} {P2 P3:α→β→γ→Prop} {G:Prop} (h:∃ a,P1 a∧∃ b,∃ c,P2 a b c∧P3 a b c) (k:∀ a,P1 a→∀ b,∀ c,P2 a b c→P3 a b c→G):G:=h.elim fun a z1=>z1.2.elim fun b z2=>z2.elim fun c z3=>k a z1.1 b c z3.1 z3.2
theorem unEE {P1:α→β→Prop} {G:Prop} (h:∃ a,∃ b,P1 a b) (k:∀ a,∀ b,P1 a b→G):G:=h.elim fun a z1=>z1.elim fun b z2=>k a b z2
theorem unEEA {P1 P2:α→β→Prop} {G:Prop} (h:∃ a,∃ b,P1 a b∧P2 a b) (k:∀ a,∀ b,P1 a b→P2 a b→G):G:=h.elim fun a z1=>z1.elim fun b z2=>k a b z2.1 z2.2
theorem unEEAA {P1 P2 P3:α→β→Prop} {G:Prop} (h:∃ a,∃ b,P1 a b∧P2 a b∧P3 a b) (k:∀ a,∀ b,P1 a b→P2 a b→P3 a b→G):G:=h.elim fun a z1=>z1.elim fun b z2=>k a b z2.1 z2.2.1 z2.2.2
theorem unEEAAA {P1 P2 P3 P4:α→β→Prop} {G:Prop} (h:∃ a,∃ b,P1 a b∧P2 a b∧P3 a b∧P4 a b) (k:∀ a,∀ b,P1 a b→P2 a b→P3 a b→P4 a b→G):G:=h.elim fun a z1=>z1.elim fun b z2=>k a b z2.1 z2.2.1 z2.2.2.1 z2.2.2.2
theorem unEEAAAA {P1 P2 P3 P4 P5:α→β→Prop} {G:Prop} (h:∃ a,∃ b,P1 a b∧P2 a b∧P3 a b∧P4 a b∧P5 a b) (k:∀ a,∀ b,P1 a b→P2 a b→P3 a b→P4 a b→P5 a b→G):G:=h.elim fun a z1=>z1.elim fun b z2=>k a b z2.1 z2.2.1 z2.2.2.1 z2.2.2.2.1 z2.2.2.2.2
theorem unEEAAAAA {P1 P2 P3 P4 P5 P6:α→β→Prop} {G:Prop} (h:∃ a,∃ b,P1 a b∧P2 a b∧P3 a b∧P4 a b∧P5 a b∧P6 a b) (k:∀ a,∀ b,P1 a b→P2 a b→P3 a b→P4 a b→P5 a b→P6 a b→G):G:=h.elim fun a z1=>z1.elim fun b z2=>k a b z2.1 z2.2.1 z2.2.2.1 z2.2.2.2.1 z2.2.2.2.2.1 z2.2.2.2.2.2
theorem unEEAAAAAA {P1 P2 P3 P4 P5 P6 P7:α→β→Prop} {G:Prop} (h:∃ a,∃ b,P1 a b∧P2 a b∧P3 a b∧P4 a b∧P5 a b∧P6 a b∧P7 a b) (k:∀ a,∀ b,P1 a b→P2 a b→P3 a b→P4 a b→P5 a b→P6 a b→P7 a b→G):G:=h.elim fun a z1=>z1.elim fun b z2=>k a b z2.1 z2.2.1 z2.2.2.1 z2.2.2.2.1 z2.2.2.2.2.1 z2.2.2.2.2.2.1 z2.2.2.2.2.2.2
theorem unEEAAAAAAA {P1 P2 P3 P4 P5 P6 P7 P8:α→β→Prop} {G:Prop} (h:∃ a,∃ b,P1 a b∧P2 a b∧P3 a b∧P4 a b∧P5 a b∧P6 a b∧P7 a b∧P8 a b) (k:∀ a,∀ b,P1 a b→P2 a b→P3 a b→P4 a b→P5 a b→P6 a b→P7 a b→P8 a b→G):G:=h.elim fun a z1=>z1.elim fun b z2=>k a b z2.1 z2.2.1 z2.2.2.1 z2.2.2.2.1 z2.2.2.2.2.1 z2.2.2.2.2.2.1 z2.2.2.2.2.2.2.1 z2.2.2.2.2.2.2.2
theorem unEEAAAAAAAA {P1 P2 P3 P4 P5 P6 P7 P8 P9:α→β→Prop} {G:Prop} (h:∃ a,∃ b,P1 a b∧P2 a b∧P3 a b∧P4 a b∧P5 a b∧P6 a b∧P7 a b∧P8 a b∧P9 a b) (k:∀ a,∀ b,P1 a b→P2 a b→P3 a b→P4 a b→P5 a b→P6 a b→P7 a b→P8 a b→P9 a b→G):G:=h.elim fun a z1=>z1.elim fun b z2=>k a b z2.1 z2.2.1 z2.2.2.1 z2.2.2.2.1 z2.2.2.2.2.1 z2.2.2.2.2.2.1 z2.2.2.2.2.2.2.1 z2.2.2.2.2.2.2.2.1 z2.2.2.2.2.2.2.2.2
theorem unEEAAAAAAAAAAAA {P1 P2 P3 P4 P5 P6 P7 P8 P9 P10 P11 P12 P13:α→β→Prop} {G:Prop} (h:∃ a,∃ b,P1 a b∧P2 a b∧P3 a b∧P4 a b∧P5 a b∧P6 a b∧P7 a b∧P8 a b∧P9 a b∧P10 a b∧P11 a b∧P12 a b∧P13 a b) (k:∀ a,∀ b,P1 a b→P2 a b→P3 a b→P4 a b→P5 a b→P6 a b→P7 a b→P8 a b→P9 a b→P10 a b→P11 a b→P12 a b→P13 a b→G):G:=h.elim fun a z1=>z1.elim fun b z2=>k a b z2.1 z2.2.1 z2.2.2.1 z2.2.2.2.1 z2.2.2.2.2.1 z2.2.2.2.2.2.1 z2.2.2.2.2.2.2.1 z2.2.2.2.2.2.2.2.1 z2.2.2.2.2.2.2.2.2.1 z2.2.2.2.2.2.2.2.2.2.1 z2.2.2.2.2.2.2.2.2.2.2.1 z2.2.2.2.2.2.2.2.2.2.2.2.1 z2.2.2.2.2.2.2.2.2.2.2.2.2
theorem unEEE {P1:α→β→γ→Prop} {G:Prop} (h:∃ a,∃ b,∃ c,P1 a b c) (k:∀ a,∀ b,∀ c,P1 a b c→G):G:=h.elim fun a z1=>z1.elim fun b z2=>z2.elim fun c z3=>k a b c z3
theorem unEEEA {P1 P2:α→β→γ→Prop} {G:Prop} (h:∃ a,∃ b,∃ c,P1 a b c∧P2 a b c) (k:∀ a,∀ b,∀ c,P1 a b c→P2 a b c→G):G:=h.elim fun a z1=>z1.elim fun b z2=>z2.elim fun c z3=>k a b c z3.1 z3.2
theorem unEEEAA {P1 P2 P3:α→β→γ→Prop} {G:Prop} (h:∃ a,∃ b,∃ c,P1 a b c∧P2 a b c∧P3 a b c) (k:∀ a,∀ b,∀ c,P1 a b c→P2 a b c→P3 a b c→G):G:=h.elim fun a z1=>z1.elim fun b z2=>z2.elim fun c z3=>k a b c z3.1 z3.2.1 z3.2.2
theorem unEEEAAA {P1 P2 P3 P4:α→β→γ→Prop} {G:Prop} (h:∃ a,∃ b,∃ c,P1 a b c∧P2 a b c∧P3 a b c∧P4 a b c) (k:∀ a,∀ b,∀ c,P1 a b c→P2 a b c→P3 a b c→P4 a b c→G):G:=h.elim fun a z1=>z1.elim fun b z2=>z2.elim fun c z3=>k a b c z3.1 z3.2.1 z3.2.2.1 z3.2.2.2
theorem unEEEAAAA {P1 P2 P3 P4 P5:α→β→γ→Prop} {G:Prop} (h:∃ a,∃ b,∃ c,P1 a b c∧P2 a b c∧P3 a b c∧P4 a b c∧P5 a b c) (k:∀ a,∀ b,∀ c,P1 a b c→P2 a b c→P3 a b c→P4 a b c→P5 a b c→G):G:=h.elim fun a z1=>z1.elim fun b z2=>z2.elim fun c z3=>k a b c z3.1 z3.2.1 z3.2.2.1 z3.2.2.2.1 z3.2.2.2.2
theorem unEEEE {P1:α→β→γ→δ→Prop} {G:Prop} (h:∃ a,∃ b,∃ c,∃ d,P1 a b c d) (k:∀ a,∀ b,∀ c,∀ d,P1 a b c d→G):G:=h.elim fun a z1=>z1.elim fun b z2=>z2.elim fun c z3=>z3.elim fun d z4=>k a b c d z4
theorem unEEEEAAA {P1 P2 P3 P4:α→β→γ→δ→Prop} {G:Prop} (h:∃ a,∃ b,∃ c,∃ d,P1 a b c d∧P2 a b c d∧P3 a b c d∧P4 a b c d) (k:∀ a,∀ b,∀ c,∀ d,P1 a b c d→P2 a b c d→P3 a b c d→P4 a b c d→G):G:=h.elim fun a z1=>z1.elim fun b z2=>z2.elim fun c z3=>z3.elim fun d z4=>k a b c d z4.1 z4.2.1 z4.2.2.1 z4.2.2.2
theorem unEEEEAAAA {P1 P2 P3 P4 P5:α→β→γ→δ→Prop} {G:Prop} (h:∃ a,∃ b,∃ c,∃ d,P1 a b c d∧P2 a b c d∧P3 a b c d∧P4 a b c d∧P5 a b c d) (k:∀ a,∀ b,∀ c,∀ d,P1 a b c d→P2 a b c d→P3 a b c d→P4 a b c d→P5 a b c d→G):G:=h.elim fun a z1=>z1.elim fun b z2=>z2.elim fun c z3=>z3.elim fun d z4=>k a b c d z4.1 z4.2.1 z4.2.2.1 z4.2.2.2.1 z4.2.2.2.2
theorem unEEEEE {P1:α→β→γ→δ→ε→Prop} {G:Prop} (h:∃ a,∃ b,∃ c,∃ d,∃ e,P1 a b c d e) (k:∀ a,∀ b,∀ c,∀ d,∀ e,P1 a b c d e→G):G:=h.elim fun a z1=>z1.elim fun b z2=>z2.elim fun c z3=>z3.elim fun d z4=>z4.elim fun e z5=>k a b c d e z5
theorem unEEEEEEEEA {P1 P2:α→β→γ→δ→ε→ζ→η→θ→Prop} {G:Prop} (h:∃ a,∃ b,∃ c,∃ d,∃ e,∃ f,∃ g,∃ i,P1 a b c d e f g i∧P2 a b c d e f g i) (k:∀ a,∀ b,∀ c,∀ d,∀ e,∀ f,∀ g,∀ i,P1 a b c d e f g i→P2 a b c d e f g i→G):G:=h.elim fun a z1=>z1.elim fun b z2=>z2.elim fun c z3=>z3.elim fun d z4=>z4.elim fun e z5=>z5.elim fun f z6=>z6.elim fun g z7=>z7.elim fun i z8=>k a b c d e f g i z8.1 z8.2
theorem unEEEEEEEEAA {P1 P2 P3:α→β→γ→δ→ε→ζ→η→θ→Prop} {G:Prop} (h:∃ a,∃ b,∃ c,∃ d,∃ e,∃ f,∃ g,∃ i,P1 a b c d e f g i∧P2 a b c d e f g i∧P3 a b c d e f g i) (k:∀ a,∀ b,∀ c,∀ d,∀ e,∀ f,∀ g,∀ i,P1 a b c d e f g i→P2 a b c d e f g i→P3 a b c d e f g i→G):G:=h.elim fun a z1=>z1.elim fun b z2=>z2.elim fun c z3=>z3.elim fun d z4=>z4.elim fun e z5=>z5.elim fun f z6=>z6.elim fun g z7=>z7.elim fun i z8=>k a b c d e f g i z8.1 z8.2.1 z8.2.2
end
theorem fill0:PySem.Challenge.rw_iu0054_01.prog=PySem.Challenge.rw_iu0054_01.prog∧hd.heap_39=hd.heap_39:=by
  k_fill
  exact ⟨rfl,rfl⟩
inductive Ax | v (i:Nat) | n (k:Nat) | a (x y:Ax) | s (x y:Ax) | m (k:Nat) (x:Ax) | r (x:Ax) (k:Nat) | c (x:Ax) | z (x:Ax)
noncomputable def nth {α:Type} (d:α):List α→Nat→α
  | [],_=>d | x::_,0=>x | _::l,i+1=>nth d l i
abbrev Ar:Type:=Nat
abbrev Ac:Type:=Bool×Ar×Nat×Ax×Ax
abbrev Av:Type:=Nat×List Nat×List Nat
section
variable (N:Nat→Nat) (I:Nat→Int)
noncomputable def Ax.dn:Ax→Nat
  | .v i=>N i | .n k=>k | .a x y=>x.dn+y.dn | .s _ _=>0 | .m k x=>k*x.dn | .r x k=>x.dn*k | .c _=>0 | .z _=>0
noncomputable def Ax.di:Ax→Int
  | .v i=>I i | .n k=>Int.ofNat k | .a x y=>x.di+y.di | .s x y=>x.di - y.di | .m k x=>Int.ofNat k*x.di | .r x k=>x.di*Int.ofNat k | .c x=>((x.dn N:Nat):Int) | .z x=>x.di*(-1)
noncomputable def rln (r:Ar) (a b:Nat):Prop:=nth True [a≤b,a<b,a=b,a=b,¬ a≤b,¬ a<b,False,¬ a=b] r
noncomputable def rli (r:Ar) (a b:Int):Prop:=nth True [a≤b,a<b,a=b,a=b,¬ a≤b,¬ a<b,False,¬ a=b] r
noncomputable def flp (r:Ar):Ar:=nth 8 [4,5,7,7,0,1] r
noncomputable def Ac.den (c:Ac):Prop:=Bool.casesOn c.1 (rln c.2.1 (c.2.2.2.1.dn N) (c.2.2.2.2.dn N)) (rli c.2.1 (c.2.2.2.1.di N I) (c.2.2.2.2.di N I))
noncomputable def dot (f:Nat→Int):Nat→List Nat→Int
  | _,[]=>0
  | i,k::l=>Int.ofNat k*f i+dot f (i+1) l
noncomputable def Av.ev (a:Av):Int:=Int.ofNat a.1+(dot (fun i=>((N i:Nat):Int)) 0 a.2.1+dot I 0 a.2.2)
end
noncomputable def ladd:List Nat→List Nat→List Nat
  | [],b=>b | x::a,[]=>x::a | x::a,y::b=>(x+y)::ladd a b
noncomputable def lunit:Nat→List Nat | 0=>[1] | i+1=>0::lunit i
noncomputable def Av.add (a b:Av):Av:=(a.1+b.1,ladd a.2.1 b.2.1,ladd a.2.2 b.2.2)
noncomputable def Av.mul (k:Nat) (a:Av):Av:=(k*a.1,a.2.1.map (k*·),a.2.2.map (k*·))
noncomputable def Av.zero:Av:=(0,[],[])
noncomputable def Ax.fn:Ax→Av
  | .v i=>(0,lunit i,[]) | .n k=>(k,[],[]) | .a x y=>x.fn.add y.fn | .s _ _=>.zero | .m k x=>x.fn.mul k | .r x k=>x.fn.mul k | .c _=>.zero | .z _=>.zero
noncomputable def Ax.fi:Ax→Av×Av
  | .v i=>((0,[],lunit i),.zero) | .n k=>((k,[],[]),.zero) | .a x y=>(x.fi.1.add y.fi.1,x.fi.2.add y.fi.2) | .s x y=>(x.fi.1.add y.fi.2,x.fi.2.add y.fi.1)
  | .m k x=>(x.fi.1.mul k,x.fi.2.mul k) | .r x k=>(x.fi.1.mul k,x.fi.2.mul k) | .c x=>(x.fn,.zero) | .z x=>(x.fi.2,x.fi.1)
noncomputable def side (w:Bool) (p:Ax×Ax):Av×Av:=Bool.casesOn w (p.1.fn,p.2.fn) (Av.add p.1.fi.1 p.2.fi.2,Av.add p.2.fi.1 p.1.fi.2)
noncomputable def got (r:Ar) (x y:Ax):Ax×Ax:=nth (.n 0,.n 0) [(x,y),(x.a (.n 1),y),(x,y),(y,x),(y.a (.n 1),x),(y,x)] r
noncomputable def imp (N:Nat→Nat) (I:Nat→Int):Ac→List Ac→Prop
  | g,[]=>g.den N I
  | c,g::l=>c.den N I→imp N I g l
noncomputable def one (r:Ar) (c:Ac):Av×Av:=let p:=side c.1 (got r c.2.2.2.1 c.2.2.2.2); (p.1.mul c.2.2.1,p.2.mul c.2.2.1)
noncomputable def summ:Ac→List Ac→Av×Av
  | g,[]=>one (flp g.2.1) g
  | c,g::l=>let p:=one c.2.1 c; let q:=summ g l; (p.1.add q.1,p.2.add q.2)
noncomputable def lz:List Nat→Bool | []=>true | x::l=>Nat.beq x 0&&lz l
noncomputable def lge:List Nat→List Nat→Bool
  | [],b=>lz b | _::_,[]=>true | x::a,y::b=>Nat.ble y x&&lge a b
noncomputable def leq:List Nat→List Nat→Bool
  | [],b=>lz b | x::a,[]=>lz (x::a) | x::a,y::b=>Nat.beq x y&&leq a b
noncomputable def chk (c:Ac) (l:List Ac):Bool:=let p:=summ c l; Nat.ble (p.2.1+1) p.1.1&&(lge p.1.2.1 p.2.2.1&&leq p.1.2.2 p.2.2.2)
section
variable {N:Nat→Nat} {I:Nat→Int}
theorem add4 (a b c d:Int):a+b+(c+d)=a+c+(b+d):=by rw [Int.add_assoc,Int.add_left_comm b,← Int.add_assoc]
theorem dot_add (f:Nat→Int):∀ (a b:List Nat) (i:Nat),dot f i (ladd a b)=dot f i a+dot f i b
  | [],_,_=>(Int.zero_add _).symm
  | _::_,[],_=>(Int.add_zero _).symm
  | x::a,y::b,i=>by
    show (Int.ofNat x+Int.ofNat y)*f i+dot f (i+1) (ladd a b)=_
    rw [dot_add f a b (i+1),Int.add_mul]
    exact add4 ..
theorem dot_mul (f:Nat→Int) (k:Nat):∀ (a:List Nat) (i:Nat),dot f i (a.map (k*·))=Int.ofNat k*dot f i a
  | [],_=>(Int.mul_zero _).symm
  | x::a,i=>by
    show Int.ofNat k*Int.ofNat x*f i+dot f (i+1) (a.map (k*·))=_
    rw [dot_mul f k a (i+1),Int.mul_assoc,← Int.mul_add]; rfl
theorem dot_unit (f:Nat→Int):∀ (j i:Nat),dot f i (lunit j)=f (i+j)
  | 0,_=>(Int.add_zero _).trans (Int.one_mul _)
  | j+1,i=>by
    show 0*f i+dot f (i+1) (lunit j)=_
    rw [Int.zero_mul,Int.zero_add,dot_unit f j (i+1),Nat.add_right_comm]; rfl
theorem Av.ev_add (a b:Av):(a.add b).ev N I=a.ev N I+b.ev N I:=by
  show Int.ofNat a.1+Int.ofNat b.1+(dot _ 0 (ladd a.2.1 b.2.1)+dot I 0 (ladd a.2.2 b.2.2))=_
  rw [dot_add,dot_add,add4 (dot _ 0 _),add4 (Int.ofNat _)]; rfl
theorem Av.ev_mul (k:Nat) (a:Av):(a.mul k).ev N I=Int.ofNat k*a.ev N I:=by
  show Int.ofNat k*Int.ofNat a.1+(dot _ 0 (a.2.1.map (k*·))+dot I 0 (a.2.2.map (k*·)))=_
  rw [dot_mul,dot_mul,← Int.mul_add,← Int.mul_add]; rfl
theorem Ax.ev_fn:∀ e:Ax,e.fn.ev N I=((e.dn N:Nat):Int)
  | .v i=>(Int.zero_add _).trans ((Int.add_zero _).trans ((dot_unit _ _ _).trans (congrArg (fun j=>((N j:Nat):Int)) (Nat.zero_add i))))
  | .n _=>Int.add_zero _
  | .a x y=>(Av.ev_add _ _).trans (by rw [ev_fn x,ev_fn y]; rfl)
  | .s _ _=>rfl
  | .m k x=>(Av.ev_mul _ _).trans (by rw [ev_fn x]; rfl)
  | .r x k=>(Av.ev_mul _ _).trans (by rw [ev_fn x,Int.mul_comm]; rfl)
  | .c _=>rfl
  | .z _=>rfl
theorem Ax.ev_fi:∀ e:Ax,e.fi.1.ev N I=e.di N I+e.fi.2.ev N I
  | .v i=>((Int.zero_add _).trans ((Int.zero_add _).trans ((dot_unit _ _ _).trans (congrArg I (Nat.zero_add i))))).trans (Int.add_zero _).symm
  | .n _=>rfl
  | .a x y=>by show (x.fi.1.add y.fi.1).ev N I=x.di N I+y.di N I+(x.fi.2.add y.fi.2).ev N I; rw [Av.ev_add,Av.ev_add,ev_fi x,ev_fi y,add4]
  | .s x y=>by
    show (x.fi.1.add y.fi.2).ev N I=x.di N I - y.di N I+(x.fi.2.add y.fi.1).ev N I
    rw [Av.ev_add,Av.ev_add,ev_fi x,ev_fi y,Int.sub_eq_add_neg,add4 (x.di N I),← Int.add_assoc (-_),Int.add_left_neg,Int.zero_add,Int.add_assoc]
  | .m k x=>by show (x.fi.1.mul k).ev N I=Int.ofNat k*x.di N I+(x.fi.2.mul k).ev N I; rw [Av.ev_mul,Av.ev_mul,ev_fi x,Int.mul_add]
  | .r x k=>by show (x.fi.1.mul k).ev N I=x.di N I*Int.ofNat k+(x.fi.2.mul k).ev N I; rw [Av.ev_mul,Av.ev_mul,ev_fi x,Int.mul_add,Int.mul_comm (x.di N I)]
  | .c x=>(ev_fn x).trans (Int.add_zero _).symm
  | .z x=>by
    show x.fi.2.ev N I=x.di N I*(-1)+x.fi.1.ev N I
    rw [ev_fi x,Int.mul_neg_one,Int.neg_add_cancel_left]
theorem side_n {p:Ax×Ax} (h:p.1.dn N≤p.2.dn N):(side false p).1.ev N I≤(side false p).2.ev N I:=by
  show p.1.fn.ev N I≤p.2.fn.ev N I; rw [Ax.ev_fn,Ax.ev_fn]; exact Int.ofNat_le.mpr h
theorem side_i {p:Ax×Ax} (h:p.1.di N I≤p.2.di N I):(side true p).1.ev N I≤(side true p).2.ev N I:=by
  show (p.1.fi.1.add p.2.fi.2).ev N I≤(p.2.fi.1.add p.1.fi.2).ev N I
  rw [Av.ev_add,Av.ev_add,Ax.ev_fi p.1,Ax.ev_fi p.2,Int.add_assoc,Int.add_assoc,Int.add_comm (p.1.fi.2.ev N I)]
  exact Int.add_le_add_right h _
theorem rel_ok:∀ r:Ar,(∀ {x y:Ax},rln r (x.dn N) (y.dn N)→(got r x y).1.dn N≤(got r x y).2.dn N)∧(∀ {x y:Ax},rli r (x.di N I) (y.di N I)→(got r x y).1.di N I≤(got r x y).2.di N I)∧(∀ {a b:Nat},¬ rln r a b→rln (flp r) a b)∧∀ {a b:Int},¬ rli r a b→rli (flp r) a b
  | 0=>⟨id,id,id,id⟩ | 1=>⟨id,id,id,id⟩ | 2=>⟨Nat.le_of_eq,Int.le_of_eq,id,id⟩ | 3=>⟨fun h=>Nat.le_of_eq (Eq.symm h),fun h=>Int.le_of_eq (Eq.symm h),id,id⟩
  | 4=>⟨Nat.lt_of_not_le,Int.not_le.mp,Classical.not_not.mp,Classical.not_not.mp⟩ | 5=>⟨Nat.le_of_not_lt,Int.not_lt.mp,Classical.not_not.mp,Classical.not_not.mp⟩
  | 6=>⟨False.elim,False.elim,fun _=>trivial,fun _=>trivial⟩ | 7=>⟨fun _=>Nat.le_refl _,fun _=>Int.le_refl _,fun _=>trivial,fun _=>trivial⟩ | _+8=>⟨fun _=>Nat.le_refl _,fun _=>Int.le_refl _,fun _=>trivial,fun _=>trivial⟩
theorem mul_ok {a b:Av} (k:Nat) (h:a.ev N I≤b.ev N I):(a.mul k).ev N I≤(b.mul k).ev N I:=by
  rw [Av.ev_mul,Av.ev_mul]; exact Int.mul_le_mul_of_nonneg_left h (Int.natCast_nonneg k)
theorem side_ok (r:Ar):∀ (w:Bool) (m:Nat) (x y:Ax),(Bool.casesOn w (rln r (x.dn N) (y.dn N)) (rli r (x.di N I) (y.di N I)):Prop)→(one r (w,r,m,x,y)).1.ev N I≤(one r (w,r,m,x,y)).2.ev N I
  | false,m,_,_,h=>mul_ok m (side_n ((rel_ok (I:=I) r).1 h))
  | true,m,_,_,h=>mul_ok m (side_i ((rel_ok (N:=N) r).2.1 h))
theorem flp_ok (c:Ac) (h:¬ c.den N I):Ac.den N I (c.1,flp c.2.1,c.2.2):=by
  revert h
  show ¬ (Bool.casesOn c.1 (rln c.2.1 _ _) (rli c.2.1 _ _):Prop)→(Bool.casesOn c.1 (rln (flp c.2.1) _ _) (rli (flp c.2.1) _ _):Prop)
  cases c.1 with
  | false=>exact (rel_ok (N:=N) (I:=I) _).2.2.1
  | true=>exact (rel_ok (N:=N) (I:=I) _).2.2.2
theorem imp_ok:∀ (l:List Ac) (c:Ac),(¬ (summ c l).1.ev N I≤(summ c l).2.ev N I)→imp N I c l
  | [],_,h=>Classical.byContradiction fun z=>h (side_ok _ _ _ _ _ (flp_ok _ z))
  | g::l,c,h=>fun z=>imp_ok l g fun q=>h (by
    show (Av.add _ _).ev N I≤(Av.add _ _).ev N I
    rw [Av.ev_add,Av.ev_add]; exact Int.add_le_add (side_ok _ _ _ _ _ z) q)
theorem dot_z (f:Nat→Int):∀ {a:List Nat} {i:Nat},lz a=true→dot f i a=0
  | [],_,_=>rfl
  | x::a,i,h=>by
    have e:=(Bool.and_eq_true_iff.mp h)
    rw [show x=0 from Nat.eq_of_beq_eq_true e.1]
    show 0*_+dot _ (i+1) a=0
    rw [Int.zero_mul,Int.zero_add]; exact dot_z f e.2
theorem dot_nn (f:Nat→Nat):∀ (a:List Nat) (i:Nat),0≤dot (fun j=>((f j:Nat):Int)) i a
  | [],_=>Int.le_refl _
  | _::a,i=>Int.add_nonneg (Int.mul_nonneg (Int.natCast_nonneg _) (Int.natCast_nonneg _)) (dot_nn f a (i+1))
theorem dot_ge (f:Nat→Nat):∀ {a b:List Nat} {i:Nat},lge a b=true→dot (fun j=>((f j:Nat):Int)) i b≤dot (fun j=>((f j:Nat):Int)) i a
  | [],_,_,h=>Int.le_of_eq (dot_z _ h)
  | _::_,[],_,_=>dot_nn f _ _
  | _::_,_::_,_,h =>
    have e:=(Bool.and_eq_true_iff.mp h)
    Int.add_le_add (Int.mul_le_mul_of_nonneg_right (Int.ofNat_le.mpr (Nat.le_of_ble_eq_true e.1)) (Int.natCast_nonneg _)) (dot_ge f e.2)
theorem dot_eq (f:Nat→Int):∀ {a b:List Nat} {i:Nat},leq a b=true→dot f i a=dot f i b
  | [],_,_,h=>(dot_z f h).symm
  | _::_,[],_,h=>dot_z f h
  | x::a,y::b,i,h=>by
    have e:=(Bool.and_eq_true_iff.mp h)
    rw [show x=y from Nat.eq_of_beq_eq_true e.1]
    show Int.ofNat y*_+dot f (i+1) a=Int.ofNat y*_+dot f (i+1) b
    rw [dot_eq f e.2]
theorem chk_ok {c:Ac} {l:List Ac} (h:chk c l=true):imp N I c l:=by
  have e:=Bool.and_eq_true_iff.mp h
  have e2:=Bool.and_eq_true_iff.mp e.2
  exact imp_ok l c (Int.not_le.mpr (Int.add_lt_add_of_lt_of_le (Int.ofNat_lt.mpr (Nat.le_of_ble_eq_true e.1)) (Int.add_le_add (dot_ge N e2.1) (Int.le_of_eq (dot_eq I e2.2).symm))))
end
noncomputable def axk (x:Ax):Nat:=Ax.casesOn x (fun _=>0) (fun k=>k) (fun _ _=>0) (fun _ _=>0) (fun _ _=>0) (fun _ _=>0) (fun _=>0) (fun _=>0)
noncomputable def app2 (l:List Ax) (f:Ax→Ax→List Ax→List Ac):List Ac:=match l with | y::x::st=>f x y st | _=>[]
noncomputable def rd:Nat→Nat→List Ax→List Ac→List Ac
  | 0,_,_,cs=>cs
  | f+1,n,st,cs =>
    let t:=n % 32
    bif t.beq 0 then cs
    else bif t.ble 5 then bif t.beq 5 then rd f (n / 32) (match st with | x::st=>.c x::st | []=>[]) cs
      else app2 st fun x y st=>rd f (n / 32) (nth x [x,.a x y,.s x y,.m (axk x) y,.r x (axk y)] t::st) cs
    else bif t.ble 7 then rd f (n / 32) (.n (t - 6)::st) cs
    else bif t.beq 8 then rd f (n / 33554432) (.n (n / 32 % 1048576)::st) cs
    else bif t.beq 21 then rd f (n / 32) st ((true,6,1,.n 0,.n 0)::cs)
    else bif t.ble 21 then app2 st fun x y st=>rd f (n / 32768) st ((Nat.ble 15 t,(t - 9) % 6,n / 32 % 1024,x,y)::cs)
    else bif t.beq 31 then rd f (n / 32) (match st with | x::st=>.z x::st | []=>[]) cs
    else rd f (n / 32) (.v (t - 22)::st) cs
noncomputable def lin (N:Nat→Nat) (I:Nat→Int) (n:Nat):Prop:=match rd 200 n [] [] with
  | c::l=>cond (chk c l) (imp N I c l) True
  | []=>True
theorem lin1 (N:Nat→Nat) (I:Nat→Int) (c:Ac) (l:List Ac):∀ b,chk c l=b→cond b (imp N I c l) True
  | true,h=>chk_ok h
  | false,_=>trivial
theorem lin_ok (N:Nat→Nat) (I:Nat→Int) (n:Nat):lin N I n:=by
  show (match rd 200 n [] [] with
    | c::l=>cond (chk c l) (imp N I c l) True
    | []=>True)
  cases rd 200 n [] [] with
  | nil=>trivial
  | cons c l=>exact lin1 N I c l _ rfl
theorem a00 (n:Nat):lin (nth 0 []) (nth 0 []) n:=lin_ok _ _ n
theorem a01 {p:Int} (n:Nat):lin (nth 0 []) (nth 0 [p]) n:=lin_ok _ _ n
theorem a02 {p q:Int} (n:Nat):lin (nth 0 []) (nth 0 [p,q]) n:=lin_ok _ _ n
theorem a03 {p q r:Int} (n:Nat):lin (nth 0 []) (nth 0 [p,q,r]) n:=lin_ok _ _ n
theorem a04 {p q r s:Int} (n:Nat):lin (nth 0 []) (nth 0 [p,q,r,s]) n:=lin_ok _ _ n
theorem a10 {a:Nat} (n:Nat):lin (nth 0 [a]) (nth 0 []) n:=lin_ok _ _ n
theorem a11 {a:Nat} {p:Int} (n:Nat):lin (nth 0 [a]) (nth 0 [p]) n:=lin_ok _ _ n
theorem a12 {a:Nat} {p q:Int} (n:Nat):lin (nth 0 [a]) (nth 0 [p,q]) n:=lin_ok _ _ n
theorem a20 {a b:Nat} (n:Nat):lin (nth 0 [a,b]) (nth 0 []) n:=lin_ok _ _ n
theorem a21 {a b:Nat} {p:Int} (n:Nat):lin (nth 0 [a,b]) (nth 0 [p]) n:=lin_ok _ _ n
theorem a22 {a b:Nat} {p q:Int} (n:Nat):lin (nth 0 [a,b]) (nth 0 [p,q]) n:=lin_ok _ _ n
theorem a30 {a b c:Nat} (n:Nat):lin (nth 0 [a,b,c]) (nth 0 []) n:=lin_ok _ _ n
theorem a31 {a b c:Nat} {p:Int} (n:Nat):lin (nth 0 [a,b,c]) (nth 0 [p]) n:=lin_ok _ _ n
theorem a40 {a b c d:Nat} (n:Nat):lin (nth 0 [a,b,c,d]) (nth 0 []) n:=lin_ok _ _ n
theorem a41 {a b c d:Nat} {p:Int} (n:Nat):lin (nth 0 [a,b,c,d]) (nth 0 [p]) n:=lin_ok _ _ n
theorem a51 {a b c d e:Nat} {p:Int} (n:Nat):lin (nth 0 [a,b,c,d,e]) (nth 0 [p]) n:=lin_ok _ _ n
theorem a50 {a b c d e:Nat} (n:Nat):lin (nth 0 [a,b,c,d,e]) (nth 0 []) n:=lin_ok _ _ n
theorem a60 {a b c d e f:Nat} (n:Nat):lin (nth 0 [a,b,c,d,e,f]) (nth 0 []) n:=lin_ok _ _ n
theorem a70 {a b c d e f g:Nat} (n:Nat):lin (nth 0 [a,b,c,d,e,f,g]) (nth 0 []) n:=lin_ok _ _ n
theorem sg {a b:Nat}:a≤a - b+b:=Nat.le_add_of_sub_le (Nat.le_refl _)
theorem mid1 {a b:Nat} (h:a≤b):a≤(a+b) / 2:=(Nat.le_div_iff_mul_le (by decide)).mpr (Nat.mul_two a▸Nat.add_le_add_left h a)
theorem mid2 {a b:Nat} (h:a<b):(a+b) / 2<b:=(Nat.div_lt_iff_lt_mul (by decide)).mpr (Nat.mul_two b▸Nat.add_lt_add_right h b)
theorem or5:∀ {n:Nat},n≤5→n=0∨n=1∨n=2∨n=3∨n=4∨n=5
  | 0,_=>.inl rfl | 1,_=>.inr (.inl rfl) | 2,_=>.inr (.inr (.inl rfl)) | 3,_=>.inr (.inr (.inr (.inl rfl))) | 4,_=>.inr (.inr (.inr (.inr (.inl rfl)))) | 5,_=>.inr (.inr (.inr (.inr (.inr rfl))))
  | n+6,h=>absurd h (Nat.not_le_of_lt (Nat.le_add_left 6 n))
theorem par2 {a b:Nat} (h:¬ a % 2=b % 2):(a+1) % 2=b % 2:=by
  rcases Nat.mod_two_eq_zero_or_one a with x | x
  · rw [x] at h; rw [Nat.add_mod,x]; exact (Nat.mod_two_ne_zero.mp fun e=>h e.symm).symm
  · rw [x] at h; rw [Nat.add_mod,x]; exact (Nat.mod_two_ne_one.mp fun e=>h e.symm).symm
theorem min6 (n:Nat):min (min 7 n - min 1 n) (n - min 1 n)≤6:=Nat.le_trans (Nat.min_le_left _ _) (by
  cases n with
  | zero=>exact Nat.zero_le _
  | succ n=>rw [Nat.min_eq_left (Nat.succ_le_succ (Nat.zero_le n))]; exact Nat.sub_le_sub_right (Nat.min_le_left 7 (n+1)) 1)
section
set_option tactic.hygienic true
structure Cx where
 prog:Program
 w:World
 base:Heap
 os:OsState
 gens:Array GenState
 p:Program
 loose:List Str
 mg:Str→Option Value
 mb:Str→Option Value
noncomputable abbrev View:=Addr→Option Obj
noncomputable def upd (G:View) (a:Addr) (o:Obj):View:=fun b=>if b=a then some o else G b
theorem upd_self (G:View) (a:Addr) (o:Obj):upd G a o a=some o:=if_pos rfl
theorem upd_ne {G:View} {a b:Addr} {o:Obj} (h:b≠a):upd G a o b=G b:=if_neg h
noncomputable def setL (m:Str→Option Value) (x:Str) (v:Value):Str→Option Value:=fun y=>if y=x then some v else m y
theorem setL_ne {m:Str→Option Value} {x y:Str} {v:Value} (h:y≠x):setL m x v y=m y:=if_neg h
section
variable {G:View} {a b:Addr} {o oJ1 oJ2 oJ3:Obj} {α:Type _} {x:α} {P:Prop}
theorem updN (h:upd G a o b=none):b≠a:=fun e=>by rw [e,upd_self] at h; cases h
theorem updK (h:upd G a o b=none):G b=none:=(upd_ne (updN h)).symm.trans h
theorem nsn (h:G b=none) (k:G a=some o):b≠a:=fun e=>by rw [e,k] at h; cases h
theorem nns (h:G b=some o) (k:G a=none):b≠a:=fun e=>by rw [e,k] at h; cases h
theorem updX (h:a≠b):upd (upd (upd G b oJ1) a oJ2) b oJ3=upd (upd G a oJ2) b oJ3:=by
 funext y; unfold upd; split <;> simp_all
theorem nnS (h:none=some x):P:=by cases h
theorem snN (h:some x=none):P:=by cases h
theorem ftP (h:false=true):P:=by cases h
theorem tfP (h:true=false):P:=by cases h
theorem niP (h:x∈([]:List α)):P:=by cases h
end
structure Fx (c:Cx) (O:List (Addr×Obj)) (L:Addr) (G:View) (m:Str→Option Value) (s:Shared):Prop where
 X:(hd.heap_39 c.w.params).In c.base
 T:TopRead c.p c.loose c.mg c.mb c.base
 ns:s.heap.Ns L m
 see:∀ b o,G b=some o→(c.base.get? b=none∧b≠sysModules)∧s.heap.get? b=some o∧b≠L∧∀ p∈O,p.1≠b
 out:∀ p∈O,s.heap.get? p.1=some p.2∧p.1≠L∧c.base.get? p.1=none
 nd:(O.map (·.1)).Nodup
 keep:∀ b o,c.base.get? b=some o→s.heap.get? b=some o
 above:c.base.objs.size≤L
 gens:s.gens=c.gens
 os:s.os=c.os
section
variable {c:Cx} {O:List (Addr×Obj)} {L a b:Addr} {G:View} {m:Str→Option Value} {s s':Shared} {o o':Obj}
theorem Fx.Fr (F:Fx c O L G m s):Fr c.base L s.heap m:=⟨F.ns,F.keep,F.above⟩
theorem Fx.get (F:Fx c O L G m s) (h:G a=some o):s.heap.get? a=some o:=(F.see _ _ h).2.1
theorem Fx.new (F:Fx c O L G m s) (h:G a=some o):c.base.get? a=none∧a≠sysModules:=(F.see _ _ h).1
theorem Fx.mods (F:Fx c O L G m s) (h:G a=some o):(a == sysModules)=false:=beq_eq_false_iff_ne.mpr (F.new h).2
theorem Fx.lt (F:Fx c O L G m s) (h:G a=some o):a<s.heap.objs.size:=Heap.lt_size (F.get h)
theorem Fx.fresh (F:Fx c O L G m s):G s.heap.objs.size=none:=by
 cases h:G s.heap.objs.size with
 | none=>rfl
 | some o=>exact absurd (F.lt h) (Nat.lt_irrefl _)
theorem Fx.sizeAbove (F:Fx c O L G m s):c.base.objs.size≤s.heap.objs.size:=Nat.le_trans F.above (Nat.le_of_lt F.ns.lt)
theorem Fx.K (F:Fx c O L G m s):(hd.heap_39 c.w.params).In s.heap:=F.X.keeps F.keep
theorem Fx.eta (F:Fx c O L G m s) {t:Nat} {d:Drawn}:Fx c O L G m { s with toks:=t,drawn:=d } :=
 ⟨F.X,F.T,F.ns,F.see,F.out,F.nd,F.keep,F.above,F.gens,F.os⟩
theorem Fx.less (F:Fx c O L G m s) {G':View} (h:∀ b o,G' b=some o→G b=some o):Fx c O L G' m s :=
 ⟨F.X,F.T,F.ns,fun b o e=>F.see b o (h b o e),F.out,F.nd,F.keep,F.above,F.gens,F.os⟩
theorem Fx.baseL (F:Fx c O L G m s):c.base.get? L=none:=by
 cases q:c.base.get? L with
 | none=>rfl
 | some x=>exact absurd (Heap.lt_size q) (Nat.not_lt.mpr F.above)
theorem Fx.at (F:Fx c O L G m s) (hge:c.base.get? a=none∧a≠sysModules) (hL:a≠L) (hO:∀ p∈O,p.1≠a)
  (h1:∀ b o,b≠a→s.heap.get? b=some o→s'.heap.get? b=some o) (h2:s'.heap.get? a=some o') (hg:s'.gens=s.gens) (ho:s'.os=s.os) :
  Fx c O L (upd G a o') m s':=by
 have hb:c.base.get? a=none:=hge.1
 refine ⟨F.X,F.T,?_,fun b x q=>?_,fun p hp=>?_,F.nd,fun b x q=>?_,F.above,hg.trans F.gens,ho.trans F.os⟩
 ·refine unEEEA F.ns fun ol es ep hol r=>?_; exact (inEEEA ol es ep (h1 L _ hL.symm hol) r)
 ·by_cases e:b=a
  ·clear h1 hb; subst e; rw [upd_self] at q; cases q; exact (inAAA hge h2 hL hO)
  ·rw [upd_ne e] at q; refine unAAA (F.see b x q) fun q1 q2 q3 q4=>?_; exact (inAAA q1 (h1 b _ e q2) q3 q4)
 ·obtain ⟨q1,q2⟩:=F.out p hp
  exact ⟨h1 p.1 _ (hO p hp) q1,q2⟩
 ·exact h1 b _ (fun e=>by rw [e,hb] at q; cases q) (F.keep b x q)
theorem Fx.newAt (F:Fx c O L G m s):c.base.get? s.heap.objs.size=none∧s.heap.objs.size≠sysModules:=by
 constructor
 ·cases q:c.base.get? s.heap.objs.size with
  | none=>rfl
  | some x=>exact absurd (Heap.lt_size q) (Nat.not_lt.mpr F.sizeAbove)
 ·exact Nat.ne_of_gt (Nat.lt_of_lt_of_le (modules_low F.T.nolimit) F.sizeAbove)
theorem Fx.push (F:Fx c O L G m s) (o:Obj) (hf:o.isFreed=false:=by rfl) {t:Nat} {d:Drawn} :
  Fx c O L (Mine.upd G s.heap.objs.size o) m { s with heap:=s.heap.push o,toks:=t,drawn:=d } :=
 F.at F.newAt (Nat.ne_of_gt F.ns.lt) (fun p hp=>Nat.ne_of_lt (Heap.lt_size (F.out p hp).1)) (fun _ _ _ e=>Heap.get?_push_of_some _ e) (Heap.get?_push_size _ hf) rfl rfl
theorem Fx.same (F:Fx c O L G m s) (hG:G a=some o) {h':Heap} (hs:Heap.SameBut a s.heap h') (h2:h'.get? a=some o') {t:Nat} {d:Drawn} :
  Fx c O L (Mine.upd G a o') m { s with heap:=h',toks:=t,drawn:=d } :=
 F.at (F.new hG) (F.see _ _ hG).2.2.1 (F.see _ _ hG).2.2.2 (fun b _ hb e=>(hs.2 b hb).trans e) h2 rfl rfl
theorem Fx.upd (F:Fx c O L G m s) (hG:G a=some o) (f:Obj→Obj) (hf:(f o).isFreed=false) {t:Nat} {d:Drawn} :
  Fx c O L (Mine.upd G a (f o)) m { s with heap:=s.heap.update a f,toks:=t,drawn:=d } :=
 F.same hG (Heap.SameBut.update _ _ _) (Heap.get?_update_self _ (F.get hG) hf)
theorem Fx.set (F:Fx c O L G m s) {h':Heap} {m':Str→Option Value} (hn:h'.Ns L m') (hs:Heap.SameBut L s.heap h') {t:Nat} {d:Drawn} :
  Fx c O L G m' { s with heap:=h',toks:=t,drawn:=d }:=by
 have hLb:c.base.get? L=none:=by
  cases q:c.base.get? L with
  | none=>rfl
  | some x=>exact absurd (Heap.lt_size q) (Nat.not_lt.mpr F.above)
 refine ⟨F.X,F.T,hn,fun b x q=>?_,fun p hp=>?_,F.nd,fun b x q=>?_,F.above,F.gens,F.os⟩
 ·refine unAAA (F.see b x q) fun q1 q2 q3 q4=>?_; exact (inAAA q1 ((hs.2 b q3).trans q2) q3 q4)
 ·obtain ⟨q1,q2⟩:=F.out p hp
  exact ⟨(hs.2 p.1 q2.1).trans q1,q2⟩
 ·exact (hs.2 b fun e=>by rw [e,hLb] at q; cases q).trans (F.keep b x q)
end
section
variable {c:Cx} {O:List (Addr×Obj)} {L a:Addr} {G:View} {m:Str→Option Value} {A:Around} {E:Value→Shared→Prop} {s:Shared} {env:Env} {x:Str} {v:Value}
theorem x_local {M:Model} {pos:Pos} {Q:Value→Shared→Prop} (F:Fx c O env.locals G m s) (hv:m x=some v) (hk:env.scope.kind=.function) (hl:env.kindOf x=some .local)
  (hd:(x == ("__debug__" : Str))=false) (h:Q v s):wpAny M A (eval (.Name x pos) env) Q E s :=
 wpAny_Name (wpAny_loadName_local hk hl F.ns hv h) hd
theorem xa1 {M:Model} {pos p1:Pos} {x1:Str} {v1:Value} {Q:List Value→Shared→Prop} (F:Fx c O env.locals G m s) (h1:m x1=some v1) (hk:env.scope.kind=.function) (l1:env.kindOf x1=some .local) (d1:(x1 == ("__debug__" : Str))=false)
  (h:Q [v1] s):wpAny M A (spliced (backTo pos (starEach [.Name x1 p1] env))) Q E s:=args_cons (x_local F h1 hk l1 d1 (args_nil h)) rfl
theorem xa2 {M:Model} {pos p1 p2:Pos} {x1 x2:Str} {v1 v2:Value} {Q:List Value→Shared→Prop} (F:Fx c O env.locals G m s) (h1:m x1=some v1) (h2:m x2=some v2) (hk:env.scope.kind=.function) (l1:env.kindOf x1=some .local) (d1:(x1 == ("__debug__" : Str))=false) (l2:env.kindOf x2=some .local) (d2:(x2 == ("__debug__" : Str))=false)
  (h:Q [v1,v2] s):wpAny M A (spliced (backTo pos (starEach [.Name x1 p1,.Name x2 p2] env))) Q E s:=args_cons (x_local F h1 hk l1 d1 (args_cons (x_local F h2 hk l2 d2 (args_nil h)) rfl)) rfl
theorem x_global {M:Model} {pos:Pos} {Q:Value→Shared→Prop} (F:Fx c O L G m s) (e:nsIn (hd.heap_39 c.w.params) mainGlobals x=some (some v)) (hg:env.globals=mainGlobals) (hk:env.scope.kind=.function)
  (hl:env.kindOf x=some .globalImplicit) (hd:(x == ("__debug__" : Str))=false) (h:Q v s):wpAny M A (eval (.Name x pos) env) Q E s :=
 Name_function_global hk hl (loadGlobal_global (hg▸F.T.g.keeps F.keep) (mg_of F.X F.T.g e) h) hd
theorem x_builtin {M:Model} {pos:Pos} {Q:Value→Shared→Prop} (F:Fx c O L G m s) (e:nsIn (hd.heap_39 c.w.params) mainGlobals x=some none) (hv:bootBuiltins x=some v) (hn:x ≠ "__name__")
  (hg:env.globals=mainGlobals) (hb:env.builtins=builtinsNs) (hk:env.scope.kind=.function)
  (hl:env.kindOf x=some .globalImplicit) (hd:(x == ("__debug__" : Str))=false) (h:Q v s):wpAny M A (eval (.Name x pos) env) Q E s :=
 Name_function_global hk hl (loadGlobal_builtin (hg▸F.T.g.keeps F.keep) (mg_none_of F.X F.T.g e) (hb▸F.T.b.keeps F.keep) ((F.T.builtins x hn).trans hv) h) hd
theorem x_store {M:Model} {Q:Unit→Shared→Prop} (F:Fx c O env.locals G m s) (hk:env.scope.kind=.function) (hl:env.kindOf x=some .local)
  (h:∀ s',Fx c O env.locals G (setL m x v) s'→Q () s'):wpAny M A (storeName env x v) Q E s :=
 wpAny_storeName_local hl F.ns (fun _ hn hs=>h _ (F.set (t:=s.toks+1) (d:=s.drawn) hn hs)) (by rw [hk]; rfl)
end
section
variable {c:Cx} {O:List (Addr×Obj)} {G:View} {m:Str→Option Value} {A:Around} {E:Value→Shared→Prop} {s:Shared} {env:Env} {x:Str} {v:Value} {px pos apos:Pos}
theorem xm1 {M:Model} {name:Str} {args:List Expr} {pl:Sem Bool} {Q:Value→Shared→Prop} (F:Fx c O env.locals G m s) (a:m x=some v) (k:env.scope.kind=.function) (l:env.kindOf x=some .local) (d:(x == ("__debug__" : Str))=false)
  (h:wpAny M A (getMethod v name pl) (fun fx sJ2=>wpAny M A (callWith pos fx.1 fx.2 (backTo pos (starEach args env)) []) Q E sJ2) E s)
  (e:eval (.Call (.Attribute (.Name x px) name apos) args [] pos) env=(do
   let ov ← eval (.Name x px) env
   standAt apos.atName
   let (f,first) ← holding [ov] (getMethod ov name pl)
   callWith pos f first (backTo pos (starEach args env)) [])) :
  wpAny M A (eval (.Call (.Attribute (.Name x px) name apos) args [] pos) env) Q E s:=MethodCall_ (x_local F a k l d h) e
theorem xat1 {prog:Program} {w:World} {attr:Str} {Q:Value→Shared→Prop} (F:Fx c O env.locals G m s) (a:m x=some v) (k:env.scope.kind=.function) (l:env.kindOf x=some .local) (d:(x == ("__debug__" : Str))=false)
  (h:wpAny (model prog w) A (getAttr v attr true) Q E s)
  (e:eval (.Attribute (.Name x px) attr pos) env=(do
   let o ← eval (.Name x px) env
   standAt pos.atName
   let r ← holding [o] (getAttr o attr true)
   letTemporaryGo (.Name x px) o r
   pure r)) :
  wpAny (model prog w) A (eval (.Attribute (.Name x px) attr pos) env) Q E s:=Attribute_any_ (x_local F a k l d h) e
theorem xr1 {M:Model} {Q:Flow→Shared→Prop} (F:Fx c O env.locals G m s) (a:m x=some v) (k:env.scope.kind=.function) (l:env.kindOf x=some .local) (d:(x == ("__debug__" : Str))=false)
  (h:Q (.ret v) s):wpAny M A (exec (.Return (some (.Name x px)) pos) env) Q E s:=wpAny_Return_some (x_local F a k l d h)
theorem xs1 {M:Model} {slice:Expr} {Q:Value→Shared→Prop} (F:Fx c O env.locals G m s) (a:m x=some v) (k:env.scope.kind=.function) (l:env.kindOf x=some .local) (d:(x == ("__debug__" : Str))=false)
  (h:wpAny M A (eval slice env) (fun i sJ2=>wpAny M A (subscriptTail (.Name x px) slice v i) Q E sJ2) E s):wpAny M A (eval (.Subscript (.Name x px) slice pos) env) Q E s:=Subscript_ (x_local F a k l d h)
end
section
variable {c:Cx} {O:List (Addr×Obj)} {L:Addr} {G:View} {m:Str→Option Value} {A:Around} {E:Value→Shared→Prop} {s:Shared}
noncomputable abbrev cenv (fd:FuncData) (L f:Addr):Env:=newEnv fd.scope L fd.globals [] (fd.qualname ++ ".<locals>.") (some f) fd.code none fd.builtins
noncomputable def retOf (fl:Flow):Value:=match fl with | .ret v=>v | _=>.none
theorem enterC {f:Addr} {fd:FuncData} {body:List Stmt} {oc:Value} {od:Option Addr} {osl:Array (Option Value)} {pos:List Value} {kw:List (Str×Value)} {binds:List (Str×Value)} {R:Result→Shared→Prop}
  (F:Fx c O L G m s) (ho:(hd.heap_39 c.w.params).lookup f=some ⟨oc,od,.func fd,osl⟩) (hbody:fd.body=.stmts body) (hcd:codeIn (hd.heap_39 c.w.params) fd.code fd.qualname=true)
  (hroom:A.depth<recursionLimit) (hbind:BindsTo s fd ⟨pos,kw⟩ binds) (hclo:fd.closure=[])
  (hcell:∀ x∈fd.scope.names,x.2≠.cell) (hloc:∀ x∈binds,fd.scope.names.lookup x.1=some .local)
  (hco:fd.scope.isCoroutine=false) (hgen:fd.scope.isGenerator=false) (hk:fd.scope.kind=.function)
  (h:∀ sJ1 L' O',Fx c O' L' G (fun x=>binds.reverse.lookup x) sJ1→(∀ G' m' sJ2,Fx c O' L' G' m' sJ2→Fx c O L G' m sJ2) →
   wpAny (model c.prog c.w) (A.deeper (cenv fd L' f)) (execs body (cenv fd L' f)) (fun fl sJ2=>R (.ok (.ret (retOf fl))) sJ2) (fun _ _=>False) sJ1) :
  codeAny (model c.prog c.w) A (.call (.ref f) ⟨pos,kw⟩) R s:=by
 refine codeAny_call_function hroom (F.K _ _ ho) rfl hco hgen hbody (codeRec_of F.K hcd) ?_
 rw [hclo]
 refine unEEEA F.ns fun oL es ep hoL hL2=>?_
 refine hbind _ _ _ _ (wpAny_newFunctionEnv hcell hloc (fun hJ0 hns hsb=>⟨(F.T.nolimit.keeps F.keep).fresh _ hsb,codeAny_func (wpAny_mono (h _ s.heap.objs.size ((L,oL)::O) ?_ ?_) (fun fl sJ2 hq=>hq) fun _ _ hf=>False.elim hf)⟩) hk)
 ·have up:∀ b o,s.heap.get? b=some o→hJ0.get? b=some o:=fun b o e=>hsb.extBut b o (Nat.ne_of_lt (Heap.lt_size e)) (Heap.get?_push_of_some _ e)
  refine ⟨F.X,F.T,hns,fun b o e=>?_,fun p hp=>?_,?_,fun b o e=>up b o (F.keep b o e),F.sizeAbove,F.gens,F.os⟩
  ·refine unAAA (F.see b o e) fun q1 q2 q3 q4=>?_
   refine (inAAA q1 (up b o q2) (Nat.ne_of_lt (Heap.lt_size q2)) (fun p hp=>?_))
   rcases List.mem_cons.mp hp with rfl | hp
   ·exact q3.symm
   ·exact q4 p hp
  ·rcases List.mem_cons.mp hp with rfl | hp
   ·exact (inAA (up _ _ hoL) (Nat.ne_of_lt (Heap.lt_size hoL)) F.baseL)
   ·exact (inAA (up _ _ (F.out p hp).1) (Nat.ne_of_lt (Heap.lt_size (F.out p hp).1)) ((F.out p hp).2.2))
  ·refine List.nodup_cons.mpr ⟨fun hm=>?_,F.nd⟩
   refine unEA (List.mem_map.mp hm) fun p hp e=>?_
   exact (F.out p hp).2.1 e
 ·intro G' m' sJ2 FJ2
  refine ⟨F.X,F.T,(inEEEA oL es ep ((FJ2.out _ (.head _)).1) hL2),fun b o e=>?_,fun p hp=>⟨(FJ2.out p (.tail _ hp)).1,(F.out p hp).2⟩,F.nd,FJ2.keep,F.above,FJ2.gens,FJ2.os⟩
  refine unAAA (FJ2.see b o e) fun q1 q2 _ q4=>?_
  exact (inAAA q1 q2 ((q4 _ (.head _)).symm) (fun p hp=>q4 p (.tail _ hp)))
theorem enter {f:Addr} {fd:FuncData} {body:List Stmt} {oc:Value} {od:Option Addr} {osl:Array (Option Value)} {pos:List Value} {kw:List (Str×Value)} {binds:List (Str×Value)} {Q:Value→Shared→Prop}
  (F:Fx c O L G m s) (ho:(hd.heap_39 c.w.params).lookup f=some ⟨oc,od,.func fd,osl⟩) (hbody:fd.body=.stmts body) (hcd:codeIn (hd.heap_39 c.w.params) fd.code fd.qualname=true)
  (hroom:A.depth<recursionLimit) (hbind:BindsTo s fd ⟨pos,kw⟩ binds) (hclo:fd.closure=[])
  (hcell:∀ x∈fd.scope.names,x.2≠.cell) (hloc:∀ x∈binds,fd.scope.names.lookup x.1=some .local)
  (hco:fd.scope.isCoroutine=false) (hgen:fd.scope.isGenerator=false) (hk:fd.scope.kind=.function)
  (h:∀ sJ1 L' O',Fx c O' L' G (fun x=>binds.reverse.lookup x) sJ1→(∀ G' m' sJ2,Fx c O' L' G' m' sJ2→Fx c O L G' m sJ2) →
   wpAny (model c.prog c.w) (A.deeper (cenv fd L' f)) (execs body (cenv fd L' f)) (fun fl sJ2=>Q (retOf fl) sJ2) (fun _ _=>False) sJ1) :
  wpAny (model c.prog c.w) A (call (.ref f) pos kw) Q E s :=
 wpAny_call (enterC F ho hbody hcd hroom hbind hclo hcell hloc hco hgen hk h)
end
section
variable {c:Cx} {O:List (Addr×Obj)} {L x C dx:Addr} {G:View} {m:Str→Option Value} {A:Around} {E:Value→Shared→Prop} {s:Shared} {env:Env} {name:Str} {v:Value} {es:List DictEntry} {n:Nat}
theorem Fx.inst (F:Fx c O L G m s) (h1:G x=some (instObj C dx)) (h2:G dx=some (dictOf es n)):InstAt s.heap x (instObj C dx) C (some (dictOf es n)) :=
 ⟨F.get h1,rfl,rfl,F.get h2⟩
theorem x_attr {expr:Bool} {attr:Option Value} {Q:Value→Shared→Prop} (F:Fx c O L G m s) (h1:G x=some (instObj C dx)) (h2:G dx=some (dictOf es n))
  (hg:plainGet (hd.heap_39 c.w.params) C name=true) (hh:hasDictIn (hd.heap_39 c.w.params) C=true) (ha:findIn (hd.heap_39 c.w.params) (.ref C) name=some attr) (hn:noGet (hd.heap_39 c.w.params) attr=true)
  (hl:getL name es=some (some v)) (hv:handedIn v=true) (h:∀ s',Fx c O L G m s'→Q v s') :
  wpAny (model c.prog c.w) A (getAttr (.ref x) name expr) Q E s :=
 get_own F.Fr F.X (F.inst h1 h2) hg hh ha hn hl hv (h _ (F.eta (t:=s.toks+1) (d:=s.drawn)))
theorem x_method {pl:Sem Bool} {f:Addr} {Q:Value×List Value→Shared→Prop} (F:Fx c O L G m s) (h1:G x=some (instObj C dx)) (h2:G dx=some (dictOf es n))
  (hg:plainGet (hd.heap_39 c.w.params) C name=true) (hf:findIn (hd.heap_39 c.w.params) (.ref C) name=some (some (.ref f))) (ht:isFn (hd.heap_39 c.w.params) (.ref f)=true) (hl:getL name es=some none)
  (h:Q (.ref f,[.ref x]) s):wpAny (model c.prog c.w) A (getMethod (.ref x) name pl) Q E s :=
 method_inst F.Fr F.X (F.inst h1 h2) hg hf ht hl h
theorem x_setattr {Q:Unit→Shared→Prop} (F:Fx c O L G m s) (h1:G x=some (instObj C dx)) (h2:G dx=some (dictOf es n))
  (hs:findIn (hd.heap_39 c.w.params) (.ref C) "__setattr__" = some (some (.builtin "object.__setattr__"))) (hp:plainOver (hd.heap_39 c.w.params) C=true) (ht:takerIn (hd.heap_39 c.w.params) C name=some none)
  (hh:hasDictIn (hd.heap_39 c.w.params) C=true) (hl:(getL name es).isSome=true) (hz:es.length≤900)
  (h:∀ s' t,Fx c O L (upd G dx (dictOf (putL name (PyData.keyHash c.w.params name) (.str name t) v es) (putN name es n))) m s'→Q () s') :
  wpAny (model c.prog c.w) A (setAttr (.ref x) name v) Q E s:=by
 have I:=F.inst h1 h2
 refine set_plain F.K I hs ?_
 have F1:=F.eta (t:=s.toks+1) (d:=s.drawn)
 refine osa_open (s:={ s with toks:=s.toks+1 }) F1.K (F1.inst h1 h2) hp ht fun b=>?_
 refine unEA (any_some hh) fun cd hc hd'=>?_
 have D:=F.get h2
 refine wpAny_bind (wpAny_pure (wpAny_bind (wpAny_bind (wpAny_loadPart (F.get h1) (wpAny_bind ((looks_clsIn F1.K hc).here ?_))))))
 rw [hd']
 refine wpAny_pure (a:=some dx) (wpAny_bind (wpAny_pure (wpAny_bind ?_)))
 refine wpAny_bind (wpAny_bind (wpAny_askSetting (wpAny_pure (wpAny_bind (wpAny_mkText (wpAny_bind (wpAny_loadPart D ?_)))))))
 dsimp only
 have hany:(!es.toArray.any (·.key.isStr name)&&es.toArray.any (·.refKey))=false:=by
  rw [← Array.any_toList,← Array.any_toList]
  unfold getL at hl
  split at hl
  ·rename_i en he
   rw [show es.toArray.toList=es from rfl,List.any_eq_true.mpr (inEA en (List.mem_of_find?_eq_some he) (List.find?_some he))]; rfl
  ·split at hl
   ·cases hl
   ·rename_i z; rw [Bool.not_eq_true] at z; rw [show es.toArray.toList=es from rfl,z,Bool.and_false]
 rw [aRefKeyMayBeTheName_at,hany]
 refine wpAny_updatePart (o:=dictOf es n) D ?_
 have e1:Obj.putName name (PyData.keyHash c.w.params name) (.str name (s.toks+1)) v (dictOf es n)=dictOf (putL name (PyData.keyHash c.w.params name) (.str name (s.toks+1)) v es) (putN name es n):=putName_dict ..
 have F2:=F.upd h2 (Obj.putName name (PyData.keyHash c.w.params name) (.str name (s.toks+1)) v) (by rw [e1]; rfl) (t:=s.toks+1+1) (d:=s.drawn)
 rw [e1] at F2
 have hlen:∀ (l:List DictEntry) (k:Value) (u:Int),(putL name u k v l).length≤l.length+1:=by
  intro l k u
  induction l with
  | nil=>simp [putL]
  | cons e r ih=>unfold putL; split <;> simp <;> omega
 have hl2:=hlen es (.str name (s.toks+1)) (PyData.keyHash c.w.params name)
 refine wpAny_bind (wpAny_lookBehind (F2.get (upd_self _ _ _)) (pastItsLine_dict (by rw [List.size_toArray,sizeLine_eq]; exact Nat.le_trans hl2 (Nat.le_trans (Nat.succ_le_succ hz) (by decide)))) ?_)
 exact wpAny_pure (h _ _ F2)
theorem x_args {f:Value} {first:List Value} {e:Expr} {rest:List Expr} {pos:Pos} {Q:Value→Shared→Prop} (F:Fx c O L G m s) (hk:keepIn (hd.heap_39 c.w.params) f=true)
  (h:wpAny (model c.prog c.w) A (spliced (backTo pos (starEach (e::rest) env))) (fun vs sJ1=>(hd.heap_39 c.w.params).In sJ1.heap∧wpAny (model c.prog c.w) A (call f (first++vs)) Q E sJ1) E s)
  (he:starEach (e::rest) env=(false,eval e env)::starEach rest env:=by rfl) (hplain:(backTo pos (starEach rest env)).any (·.1)=false:=by rfl) :
  wpAny (model c.prog c.w) A (callWith pos f first (backTo pos (starEach (e::rest) env)) []) Q E s:=callWith_K F.X hk h he hplain
theorem x_args0 {f:Value} {first:List Value} {pos:Pos} {Q:Value→Shared→Prop} (F:Fx c O L G m s) (hk:keepIn (hd.heap_39 c.w.params) f=true)
  (h:wpAny (model c.prog c.w) A (call f (first++[])) Q E s):wpAny (model c.prog c.w) A (callWith pos f first (backTo pos (starEach [] env)) []) Q E s:=callWith_K0 F.K hk h
end
section
variable {M:Model} {A:Around} {E:Value→Shared→Prop} {s:Shared} {st:Stmt} {rest:List Stmt} {env:Env} {Q:Flow→Shared→Prop}
noncomputable def Abs (Q:Flow→Shared→Prop) (f:Flow) (s:Shared):Prop:=Q f s
noncomputable def SeqP (M:Model) (A:Around) (E:Value→Shared→Prop) (rest:List Stmt) (env:Env) (Q:Flow→Shared→Prop) (f:Flow) (s:Shared):Prop:=match f with | .next=>wpAny M A (execs rest env) (Abs Q) E s | f=>Abs Q f s
theorem seqN (h:wpAny M A (execs rest env) (Abs Q) E s):SeqP M A E rest env Q .next s:=h
theorem seqR {v:Value} (h:Abs Q (.ret v) s):SeqP M A E rest env Q (.ret v) s:=h
theorem seqK (h:Abs Q .brk s):SeqP M A E rest env Q .brk s:=h
theorem seqC (h:Abs Q .cont s):SeqP M A E rest env Q .cont s:=h
theorem seqB (h:∀ Qb:Flow→Shared→Prop,(∀ f s,SeqP M A E rest env Q f s→Qb f s)→wpAny M A (exec st env) (Abs Qb) E s):wpAny M A (execs (st::rest) env) (Abs Q) E s :=
 wpAny_execs_cons (wpAny_mono (h (SeqP M A E rest env Q) fun _ _ x=>x) (fun f s q=>by cases f <;> exact q) fun _ _ e=>e)
theorem absQ (h:∀ Qb:Flow→Shared→Prop,(∀ f s,Q f s→Qb f s)→wpAny M A (execs (st::rest) env) (Abs Qb) E s):wpAny M A (execs (st::rest) env) Q E s:=h _ fun _ _ x=>x
theorem absEnd {P:Flow→Shared→Prop} {f:Flow} (h:∀ f s,P f s→Q f s) (k:P f s):Abs Q f s:=h f s k
end
end
local macro_rules | `(tactic| walk_at "w")=>`(tactic| first
  | (with_reducible first | refine seqB fun _ _=>?_ | refine absQ fun _ _=>?_)
  | ((with_reducible refine' absEnd ?hq ?k); (case hq=>assumption))
  | ((with_reducible first | refine' xm1 ?F ?a ?k ?l ?d ?h ?e | refine' xat1 ?F ?a ?k ?l ?d ?h ?e); (case F=>assumption); (case a=>first | rfl | assumption); (case k=>rfl); (case l=>rfl); (case d=>rfl); (case e=>with_unfolding_all rfl))
  | ((with_reducible first | refine' xr1 ?F ?a ?k ?l ?d ?h | refine' xs1 ?F ?a ?k ?l ?d ?h | refine' xa1 ?F ?a ?k ?l ?d ?h | refine' x_local ?F ?a ?k ?l ?d ?h); (case F=>assumption); (case a=>first | rfl | assumption); (case k=>rfl); (case l=>rfl); (case d=>rfl))
  | (with_reducible first | refine seqN ?_ | refine seqR ?_ | refine seqK ?_ | refine seqC ?_ | refine wpAny_execs_nil ?_ | refine wpAny_AugAssign_AttributeAny ?_ | refine wpAny_Return_some ?_ | refine ite_tt ?_ | refine ite_ff ?_ | refine wpAny_If ?_ | refine isTrue_and ?_ | refine isTrue_and_nil ?_ | refine isTrue_not ?_ | refine wpAny_truthy_bool ?_ | refine Subscript_ ?_ | refine wpAny_Constant_int ?_ | refine wpAny_Break ?_ | refine wpAny_Continue ?_ | refine wpAny_Constant_none ?_ | refine wpAny_Constant_bool ?_ | refine wpAny_iadd_int ?_ | refine callWith_method0 ?_ | refine wpAny_List_spliced ?_ | refine wpAny_Tuple_spliced ?_ | refine args_nil ?_)
  | ((with_reducible refine' xa2 ?F ?a ?b ?k ?c ?d ?e ?f ?h); (case F=>assumption); (case a=>first | rfl | assumption); (case b=>first | rfl | assumption); (case k=>rfl); (case c=>rfl); (case d=>rfl); (case e=>rfl); (case f=>rfl))
  | ((with_reducible first | refine' wpAny_Assign_Name ?k ?c | refine' plainObj_wpAny_Assign_Attribute ?k ?c | refine' wpAny_Assign_Subscript ?k ?c | refine' args_cons ?k ?c); (case c=>rfl))
  | ((with_reducible first | refine' wpAny_isTrue_Compare1 ?k ?c | refine' wpAny_Compare1 ?k ?c | refine' MethodCall_ ?k ?c | refine' Call_ ?k ?c | refine' Attribute_any_ ?k ?c); (case c=>with_unfolding_all rfl))
  | ((with_reducible refine' wpAny_For ?h ?hs); (case hs=>exact fun _=>rfl))
  | ((with_reducible first | refine' wpAny_Expr ?k ?hi ?hs | refine' callWith_method1 ?k ?hi ?hs | refine' callWith_builtin1 ?k ?hi ?hs | refine' PyProof.Rows.callWith_type1 ?k ?hi ?hs); (case hi=>rfl); (case hs=>rfl))
  | ((with_reducible refine' isTrue_plain ?h ?he); (case he=>rfl))
  )
local macro_rules | `(tactic| walk_at "q")=>`(tactic| first | ((with_reducible refine' absEnd ?hq ?k); (case hq=>assumption)) | (with_reducible first | refine seqR ?_ | refine seqK ?_ | refine seqC ?_ | refine seqN (wpAny_execs_nil ?_)))
local macro_rules | `(tactic| walk_at "p")=>`(tactic| repeat walk_at "q")
local macro_rules | `(tactic| walk_at "r")=>`(tactic| repeat walk_at "w")
local macro_rules | `(tactic| walk_at "d")=>`(tactic| ((try dsimp only); repeat walk_at "w"))
section
noncomputable abbrev FdAt (a:Addr) (fd:FuncData):Prop:=∀ P:Params,∃ oc od osl,(hd.heap_39 P).lookup a=some ⟨oc,od,.func fd,osl⟩
noncomputable def fx358:{ fd:FuncData // FdAt 358 fd }:=⟨_,fun P=>(inEEE _ _ _ (by k_is))⟩
noncomputable def fd358:FuncData:=fx358.1
noncomputable def ent (c:Cx) (n:Str) (t:Tok) (v:Value):DictEntry:=⟨PyData.keyHash c.w.params n,.str n t,v⟩
noncomputable def BuilderAt (c:Cx) (G:View) (b d:Addr) (n:Int):Prop:=G b=some (instObj 424 d)∧∃ t tk k,G d=some (dictOf [ent c "statenum" t (.int n tk)] k)
theorem ne_of {G:View} {a b:Addr} {o o':Obj} (h1:G a=some o) (h2:G b=some o') (h:o≠o'):a≠b:=fun e=>by rw [e,h2] at h1; clear h2; cases h1; exact h rfl
section
variable {c:Cx} {O:List (Addr×Obj)} {L:Addr} {G:View} {m:Str→Option Value} {A:Around} {E:Value→Shared→Prop} {s:Shared}
theorem new_state_spec {b d:Addr} {n:Int} {Q:Value→Shared→Prop} (F:Fx c O L G m s) (hB:BuilderAt c G b d n) (hA:A.depth+1<recursionLimit)
  (h:∀ s' o tk,Fx c O L (upd G d o) m s'→BuilderAt c (upd G d o) b d (n+1)→Q (.int (n+1) tk) s') :
  wpAny (model c.prog c.w) A (call (.ref 358) [.ref b] []) Q E s:=by
 refine unAEEE hB fun hb t tk k hd=>?_; clear hB
 have hbd:b≠d:=ne_of hb hd (by intro e; cases e)
 refine unEEE (fx358.2 c.w.params) fun oc od osl ho=>?_
 refine enter F (fd:=fd358) (binds:=[("self",.ref b)]) ho rfl (by kernel_rfl) (by exact Nat.le_of_lt ‹_›) (BindsTo.of_eq rfl) rfl (by decide) (locs rfl) rfl rfl rfl fun sJ1 L' O' FJ1 back=>?_
 clear F
 walk_at "r"
 refine x_attr (v:=.int n tk) FJ1 hb hd (by k_is) (by k_is) (by k_is) (by k_is) rfl rfl fun sJ2 FJ2=>?_
 have FJ3:=FJ2.eta (t:=sJ2.toks+1+1) (d:=sJ2.drawn)
 walk_at "r"
 refine x_setattr FJ3 hb hd (by k_is) (by k_is) (by k_is) (by k_is) rfl (Nat.le_of_ble_eq_true rfl) fun sJ3 tJ3 FJ3=>?_
 clear FJ1 FJ2
 walk_at "r"
 refine x_attr (v:=.int (n+1) _) FJ3 ((upd_ne hbd).trans hb) (upd_self _ _ _) (by k_is) (by k_is) (by k_is) (by k_is) rfl rfl fun sJ4 FJ4=>?_
 walk_at "p"; exact h _ _ _ (back _ _ _ FJ4) (inAEEE ((upd_ne hbd).trans hb) _ _ _ (upd_self _ _ _))
end
end
section
inductive Zip2 {α β:Type} (R:α→β→Prop):List α→List β→Prop
 | nil:Zip2 R [] []
 | cons {a b as bs}:R a b→Zip2 R as bs→Zip2 R (a::as) (b::bs)
section
variable {α β:Type} {R:α→β→Prop}
theorem Zip2.length {as:List α} {bs:List β} (h:Zip2 R as bs):as.length=bs.length:=by
 induction h with
 | nil=>rfl
 | cons _ _ ih=>simp [ih]
theorem Zip2.append {as as':List α} {bs bs':List β} (h:Zip2 R as bs) (h':Zip2 R as' bs'):Zip2 R (as++as') (bs++bs'):=by
 induction h with
 | nil=>exact h'
 | cons r _ ih=>exact .cons r ih
theorem Zip2.left {as:List α} {bs:List β} (h:Zip2 R as bs) {a:α} (ha:a∈as):∃ b∈bs,R a b:=by
 induction h with
 | nil=>cases ha
 | cons r _ ih =>
  rcases List.mem_cons.mp ha with rfl | ha
  ·exact (inEA _ (.head _) r)
  ·refine unEA (ih ha) fun b hb rb=>?_; exact (inEA b (.tail _ hb) rb)
theorem Zip2.right {as:List α} {bs:List β} (h:Zip2 R as bs) {b:β} (hb:b∈bs):∃ a∈as,R a b:=by
 induction h with
 | nil=>cases hb
 | cons r _ ih =>
  rcases List.mem_cons.mp hb with rfl | hb
  ·exact (inEA _ (.head _) r)
  ·refine unEA (ih hb) fun b hb rb=>?_; exact (inEA b (.tail _ hb) rb)
theorem Zip2.perm {as as':List α} (p:as.Perm as'):∀ {bs:List β},Zip2 R as bs→∃ bs',Zip2 R as' bs'∧bs'.Perm bs:=by
 induction p with
 | nil=>intro bs h; exact (inEA bs h (.refl _))
 | cons x _ ih =>
  intro bs h
  cases h with
  | cons r t=>refine unEA (ih t) fun bs' h' p'=>?_; exact (inEA _ (.cons r h') (p'.cons _))
 | swap x y l =>
  intro bs h
  cases h with
  | cons r t=>cases t with
   | cons r' t'=>exact (inEA _ (.cons r' (.cons r t')) (.swap _ _ _))
 | trans _ _ ih1 ih2 =>
  intro bs h
  refine unEA (ih1 h) fun b1 h1 p1=>?_
  refine unEA (ih2 h1) fun b2 h2 p2=>?_
  exact (inEA b2 h2 (p2.trans p1))
theorem Zip2.get {as:List α} {bs:List β} (h:Zip2 R as bs):∀ {i:Nat} {a:α} {b:β},as[i]?=some a→bs[i]?=some b→R a b:=by
 induction h with
 | nil=>intro i a b e; simp at e
 | cons r _ ih =>
  intro i a b e1 e2
  cases i with
  | zero=>simp at e1 e2; subst e1; subst e2; exact r
  | succ i=>simp at e1 e2; exact ih e1 e2
end
noncomputable def ins {K:Type} [DecidableEq K] (k:K) (l:List K):List K:=if k∈l then l else k::l
theorem mem_ins {K:Type} [DecidableEq K] {k x:K} {l:List K}:x∈ins k l↔x=k∨x∈l:=by
 unfold ins
 split
 ·exact ⟨.inr,fun h=>h.elim (fun e=>e▸‹_›) id⟩
 ·exact List.mem_cons
theorem nodup_ins {K:Type} [DecidableEq K] {k:K} {l:List K} (h:l.Nodup):(ins k l).Nodup:=by
 unfold ins
 split
 ·exact h
 ·exact List.nodup_cons.mpr ⟨‹_›,h⟩
theorem length_ins {K:Type} [DecidableEq K] {k:K} {l:List K}:(ins k l).length≤l.length+1:=by
 unfold ins; split <;> simp
end
section
open PySem PySem.SetTable
/-! the set's table: probing meets every slot -/
noncomputable def it {α:Type} (f:α→α):Nat→α→α
 | 0,x=>x
 | n+1,x=>it f n (f x)
theorem it_add {α:Type} (f:α→α):∀ (n m:Nat) (x:α),it f (n+m) x=it f m (it f n x)
 | 0,m,x=>by rw [Nat.zero_add]; rfl
 | n+1,m,x=>by rw [show n+1+m=(n+m)+1 by exact Nat.le_antisymm (a20 46204836929832182) (a20 46222411935483638)]; exact it_add f n m (f x)
noncomputable def lcg (x:Nat):Nat:=x*5+1
theorem it_pow (k:Nat):∃ u v:Nat,∀ y,it lcg (2 ^ k) y=(1+4*2 ^ k*u)*y+2 ^ k*(2*v+1):=by
 induction k with
 | zero=>exact (inEE 1 0 (fun y=>by show y*5+1=_; lia))
 | succ k ih =>
  refine unEE ih fun u v h=>?_; clear ih
  refine (inEE (u+2*2 ^ k*u*u) (v+(2*v+1)*2 ^ k*u) (fun y=>?_))
  rw [show 2 ^ (k+1)=2 ^ k+2 ^ k by lia,it_add,h,h]
  generalize 2 ^ k=p
  grind
theorem it_cycle:∀ (k i j:Nat),∃ n,n<2 ^ k∧it lcg n i % 2 ^ k=j % 2 ^ k
 | 0,i,j=>(inEA 0 (by decide) (by lia))
 | k+1,i,j=>by
  refine unEA (it_cycle k i j) fun n hn e=>?_
  refine unEE (it_pow k) fun u v h=>?_
  have hp:0<2 ^ k:=Nat.two_pow_pos k
  have e2:2 ^ (k+1)=2*2 ^ k:=by lia
  by_cases c:it lcg n i % 2 ^ (k+1)=j % 2 ^ (k+1)
  ·exact (inEA n (by omega) c)
  ·refine (inEA (n+2 ^ k) (by omega) ?_)
   rw [it_add,h]
   generalize it lcg n i=y at e c
   have e3:((1+4*2 ^ k*u)*y+2 ^ k*(2*v+1))=y+2 ^ k+2 ^ (k+1)*(2*u*y+v):=by
    rw [e2]; generalize 2 ^ k=p; grind
   rw [e3,Nat.add_mul_mod_self_left,e2]
   rw [e2] at c
   clear hn h e2 e3; generalize 2 ^ k=p at *
   have h1:=Nat.div_add_mod y p
   have h2:=Nat.div_add_mod j p
   have m1:y % p<p:=Nat.mod_lt _ hp
   have hy:=Nat.mod_mul_left_div_self y 2 p
   have hj:=Nat.mod_mul_left_div_self j 2 p
   have a1:y % (2*p)=y % p+p*(y / p % 2):=by rw [Nat.mul_comm 2 p]; exact Nat.mod_mul
   have a2:j % (2*p)=j % p+p*(j / p % 2):=by rw [Nat.mul_comm 2 p]; exact Nat.mod_mul
   have a3:(y+p) % (2*p)=(y+p) % p+p*((y+p) / p % 2):=by rw [Nat.mul_comm 2 p]; exact Nat.mod_mul
   rw [a3,a2,Nat.add_mod_right,Nat.add_div_right _ hp,e]
   rw [a1,a2,e] at c
   have c2:y / p % 2≠j / p % 2:=fun q=>c (by rw [q])
   congr 1
   congr 1
   exact par2 c2
theorem it_mod (m:Nat):∀ (n x:Nat),it (fun x=>(x*5+1) % m) n x % m=it lcg n x % m
 | 0,x=>rfl
 | n+1,x=>by
  show it (fun x=>(x*5+1) % m) n ((x*5+1) % m) % m=it lcg n (lcg x) % m
  rw [it_mod m n]
  have:∀ (n a b:Nat),a % m=b % m→it lcg n a % m=it lcg n b % m:=by
   intro n
   induction n with
   | zero=>intro a b e; exact e
   | succ n ih =>
    intro a b e
    refine ih _ _ ?_
    show (a*5+1) % m=(b*5+1) % m
    rw [Nat.add_mod,Nat.mul_mod,e,← Nat.mul_mod,← Nat.add_mod]
  exact this n _ _ (by rw [Nat.mod_mod]; rfl)
theorem cycle {k i j:Nat} (hj:j<2 ^ k) (hi:i<2 ^ k):∃ n,n<2 ^ k∧it (fun x=>(x*5+1) % 2 ^ k) n i=j:=by
 refine unEA (it_cycle k i j) fun n hn e=>?_
 refine (inEA n hn ?_)
 have h1:=it_mod (2 ^ k) n i
 have hlt:∀ n x,x<2 ^ k→it (fun x=>(x*5+1) % 2 ^ k) n x<2 ^ k:=by
  intro n
  induction n with
  | zero=>intro x h; exact h
  | succ n ih=>intro x _; exact ih _ (Nat.mod_lt _ (Nat.two_pow_pos k))
 rw [Nat.mod_eq_of_lt (hlt n i hi),e,Nat.mod_eq_of_lt hj] at h1
 exact h1
noncomputable def wk (mask:Nat):Nat→Nat→Nat→List Nat
 | 0,_,_=>[]
 | fuel+1,i,p=>(List.range (runEnd mask i+1 - i)).map (i+·)++wk mask fuel (leap mask i p).1 (leap mask i p).2
theorem wk_head {mask n i p:Nat}:i∈wk mask (n+1) i p:=by
 refine List.mem_append_left _ (List.mem_map.mpr (inEA 0 (List.mem_range.mpr ?_) rfl))
 unfold runEnd; split <;> (first | exact a20 1588177936262237459658615526 sg | exact a20 1479105965251930854 sg)
theorem wk_iter {mask:Nat}:∀ {n fuel i:Nat},n<fuel→it (fun x=>(x*5+1) % (mask+1)) n i∈wk mask fuel i 0
 | 0,0,_,h=>absurd h (Nat.lt_irrefl _)
 | 0,fuel+1,i,_=>wk_head
 | n+1,fuel+1,i,h=>by
  refine List.mem_append_right _ ?_
  have e:leap mask i 0=((i*5+1) % (mask+1),0):=by simp [leap]
  rw [e]
  exact wk_iter (n:=n) (by exact Nat.le_of_lt_succ ‹_›)
 | n+1,0,i,h=>absurd h (Nat.not_lt_zero _)
theorem leap_lt (mask i p:Nat):(leap mask i p).1<mask+1:=Nat.mod_lt _ (Nat.succ_pos _)
theorem wk_all {k mask j:Nat} (hm:mask+1=2 ^ k) (hj:j≤mask):∀ (q fuel i p:Nat),p<32 ^ q→q+mask+1≤fuel→i≤mask→j∈wk mask fuel i p
 | 0,fuel,i,p,hp,hf,hi=>by
  have:p=0:=by lia
  clear hp; subst this
  refine unEA (cycle (k:=k) (i:=i) (j:=j) (by exact a30 51615419812554192497400 hm hj) (by exact a30 51615419812554192497400 hm hi)) fun n hn e=>?_
  rw [← hm] at e hn
  exact e▸wk_iter (by exact a30 51646786391446981769112365816 hf hn)
 | q+1,0,i,p,hp,hf,hi=>by exact False.elim (a20 1449198259052245 hf)
 | q+1,fuel+1,i,p,hp,hf,hi=>by
  refine List.mem_append_right _ (wk_all hm hj q fuel _ _ ?_ (by exact a30 1625715131291497303907677472502 hf) (Nat.le_of_lt_succ (leap_lt _ _ _)))
  rw [Nat.pow_succ] at hp
  exact Nat.div_lt_of_lt_mul (by exact a20 1668743211058082253148172353814 hp)
theorem bits_lt (h:Int):bits h<32 ^ 13:=by
 unfold bits
 have:=Int.emod_lt_of_pos h (show (0:Int)<2 ^ 64 by decide)
 have h2:=Int.emod_nonneg h (show (2:Int) ^ 64≠0 by decide)
 lia
theorem wk_hash {k mask j:Nat} (hm:mask+1=2 ^ k) (hj:j≤mask) (h:Int):j∈wk mask (turns mask) (bits h % (mask+1)) (bits h) :=
 wk_all hm hj 13 _ _ _ (bits_lt h) (by unfold turns; exact a10 49603738086277305891553704) (Nat.le_of_lt_succ (Nat.mod_lt (bits h) (Nat.succ_pos mask)))
theorem wk_le {mask:Nat}:∀ {fuel i p:Nat},i≤mask→∀ j∈wk mask fuel i p,j≤mask
 | 0,_,_,_,j,h=>by cases h
 | fuel+1,i,p,hi,j,h=>by
  rcases List.mem_append.mp h with h | h
  ·refine unEA (List.mem_map.mp h) fun q hq y1=>?_; clear h; subst y1
   have:=List.mem_range.mp hq
   unfold runEnd at this
   split at this <;> (first | exact a40 1997977966762754192409804403202721680694060384761120534 ‹_› this (Nat.sub_add_cancel (a10 46204811494073046)) | exact a40 1733821555548197507719076268031575830 hi this (Nat.sub_add_cancel (a10 43032278)))
  ·exact wk_le (Nat.le_of_lt_succ (leap_lt _ _ _)) j h
end
section
open PySem PySem.SetTable
/-! places in rising order; the binary search -/
noncomputable abbrev asc (xs:Array Nat):Prop:=xs.toList.Pairwise (·<·)
theorem asc_get {xs:Array Nat} (h:asc xs) {i j:Nat} (hij:i<j) (hj:j<xs.size):xs.getD i 0<xs.getD j 0:=by
 have:=List.pairwise_iff_getElem.mp h i j (by simp; exact a30 49276136792524892950 hij hj) (by simpa using hj) hij
 simp only [Array.getElem_toList] at this
 rw [Array.getD_eq_getD_getElem?,Array.getD_eq_getD_getElem?,Array.getElem?_eq_getElem (by exact a30 49276136792524892950 hij hj),Array.getElem?_eq_getElem hj]
 exact this
theorem asc_le {xs:Array Nat} (h:asc xs) {i j:Nat} (hij:i≤j) (hj:j<xs.size):xs.getD i 0≤xs.getD j 0:=by
 rcases Nat.lt_or_eq_of_le hij with q | q
 ·exact Nat.le_of_lt (asc_get h q hj)
 ·rw [q]; exact Nat.le_refl _
theorem below_go {xs:Array Nat} (h:asc xs) (j:Nat):∀ (fuel lo hi:Nat),hi - lo≤fuel→lo≤hi→hi≤xs.size→(∀ i,i<lo→xs.getD i 0<j)→(∀ i,hi≤i→i<xs.size→j≤xs.getD i 0) →
  (∀ i,i<below.go xs j fuel lo hi→xs.getD i 0<j)∧(∀ i,below.go xs j fuel lo hi≤i→i<xs.size→j≤xs.getD i 0)∧below.go xs j fuel lo hi≤xs.size
 | 0,lo,hi,hf,hl,hs,h1,h2=>by
  have:lo=hi:=by exact Nat.le_antisymm (a20 1434183575286 hl) (a30 48650983095907523798807 hf sg)
  clear hf hl; subst this
  unfold below.go; exact (inAA h1 h2 hs)
 | fuel+1,lo,hi,hf,hl,hs,h1,h2=>by
  unfold below.go
  split
  ·dsimp only
   have e:xs.getD ((lo+hi) / 2) j=xs.getD ((lo+hi) / 2) 0:=by
    rw [Array.getD_eq_getD_getElem?,Array.getD_eq_getD_getElem?,Array.getElem?_eq_getElem (Nat.lt_of_lt_of_le (mid2 ‹lo<hi›) hs)]; rfl
   rw [e]
   split
   ·rename_i c
    refine below_go h j fuel _ hi (a60 58572545205238776638822010032799915134750336763 hf (mid1 (Nat.le_of_lt ‹lo<hi›)) (Nat.sub_add_cancel (a30 48123215287918044950 (mid1 (Nat.le_of_lt ‹lo<hi›)) (mid2 ‹lo<hi›))) (Nat.sub_add_cancel (a20 1503788353160438 (mid2 ‹lo<hi›)))) (mid2 ‹lo<hi›) hs (fun i (hi':i<(lo+hi) / 2+1)=>?_) h2
    exact Nat.lt_of_le_of_lt (asc_le h (j:=(lo+hi) / 2) (by exact Nat.le_of_lt_succ ‹_›) (Nat.lt_of_lt_of_le (mid2 ‹lo<hi›) hs)) c
   ·rename_i c
    refine below_go h j fuel lo _ (a60 57199751177031557630519217368615227767170811 hf (mid2 ‹lo<hi›) (Nat.sub_add_cancel (a30 48123215287918044950 (mid1 (Nat.le_of_lt ‹lo<hi›)) (mid2 ‹lo<hi›))) (Nat.sub_add_cancel (a20 1434183575286 (mid1 (Nat.le_of_lt ‹lo<hi›))))) (mid1 (Nat.le_of_lt ‹lo<hi›)) (Nat.le_trans (Nat.le_of_lt (mid2 ‹lo<hi›)) hs) h1 fun i hi' hi2=>?_
    exact Nat.le_trans (Nat.not_lt.mp c) (asc_le h hi' hi2)
  ·have:lo=hi:=by exact Nat.le_antisymm (a20 1434183575286 hl) (a20 1605982267095 ‹_›)
   clear hf hl; subst this
   exact (inAA h1 h2 hs)
theorem below_spec {xs:Array Nat} (h:asc xs) (j:Nat):(∀ i,i<below xs j→xs.getD i 0<j)∧(∀ i,below xs j≤i→i<xs.size→j≤xs.getD i 0)∧below xs j≤xs.size :=
 below_go h j _ _ _ (by exact Nat.le_refl _) (Nat.zero_le _) (Nat.le_refl _) (fun _ hi=>absurd hi (Nat.not_lt_zero _)) (fun _ h1 h2=>absurd h2 (by exact a20 48123215285770533591 h1 h2))
theorem getD_some {xs:Array Nat} {i j:Nat} (h:xs[i]?=some j):xs.getD i 0=j∧i<xs.size:=by
 refine unE (Array.getElem?_eq_some_iff.mp h) fun h1 h2=>?_
 exact ⟨by rw [Array.getD_eq_getD_getElem?,h]; rfl,h1⟩
theorem below_at {xs:Array Nat} (h:asc xs) {i j:Nat} (e:xs[i]?=some j):below xs j=i:=by
 refine unAA (below_spec h j) fun b1 b2 b3=>?_
 obtain ⟨g1,g2⟩:=getD_some e
 rcases Nat.lt_trichotomy (below xs j) i with q | q | q
 ·have h1:=b2 (below xs j) (Nat.le_refl _) (by exact a30 49276136790410963704 g2 q)
  have h2:=asc_get h q g2
  exact Nat.le_antisymm (a50 1692118406302221255701440345 g1 h1 h2) (a50 1692118406302221255701440345 g1 h1 h2)
 ·exact q
 ·have:=b1 i q; exact Nat.le_antisymm (a40 51581979800631256888 g1 this) (a40 51581979800631256888 g1 this)
theorem slot_live {t:SetTable} (h:asc t.place) {i j:Nat} (e:t.place[i]?=some j):t.slot j=.live i:=by
 unfold slot
 dsimp only
 rw [below_at h e,e]
 simp
theorem slot_empty {t:SetTable} (hd:t.dummies=#[]) {j:Nat} (e:j∉t.place.toList):t.slot j=.empty:=by
 unfold slot
 rw [if_neg]
 ·rw [hd]; rfl
 ·intro q
  have q':t.place[below t.place j]?=some j:=by simpa using q
  exact e (List.mem_of_getElem? (by rw [Array.getElem?_toList]; exact q'))
theorem slot_eq {t:SetTable} (h:asc t.place) (hd:t.dummies=#[]) (j:Nat):(j∉t.place.toList∧t.slot j=.empty)∨∃ i,t.place[i]?=some j∧t.slot j=.live i:=by
 by_cases q:j∈t.place.toList
 ·obtain ⟨i,hi,e⟩:=List.getElem_of_mem q
  have:t.place[i]?=some j:=by rw [← Array.getElem?_toList,List.getElem?_eq_getElem hi,e]
  exact .inr (inEA i this (slot_live h this))
 ·exact .inl ⟨q,slot_empty hd q⟩
noncomputable abbrev walkOf (mask:Nat) (h:Int):List Nat:=wk mask (turns mask) (bits h % (mask+1)) (bits h)
noncomputable def Reach (mask:Nat) (full:List Nat) (h:Int) (j:Nat):Prop:=∃ pre post,walkOf mask h=pre++j::post∧∀ q∈pre,q∈full
theorem Reach.mono {mask:Nat} {full full':List Nat} {h:Int} {j:Nat} (r:Reach mask full h j) (hs:∀ q∈full,q∈full'):Reach mask full' h j :=
 let ⟨pre,post,e,x⟩:=r; (inEEA pre post e (fun q hq=>hs q (x q hq)))
theorem find_first {α:Type} {p:α→Bool}:∀ {l:List α} {a:α},l.find? p=some a→∃ pre post,l=pre++a::post∧p a=true∧∀ q∈pre,p q=false
 | [],_,h=>by cases h
 | x::l,a,h=>by
  rw [List.find?_cons] at h
  cases hx:p x with
  | true=>rw [hx] at h; cases h; exact (inEEAA ([]) l rfl hx (fun q hq=>niP hq))
  | false =>
   rw [hx] at h
   refine unEEAA (find_first h) fun pre post e h1 h2=>?_
   refine (inEEAA (x::pre) post (by rw [e]; rfl) h1 (fun q hq=>?_))
   rcases List.mem_cons.mp hq with rfl | hq
   ·exact hx
   ·exact h2 q hq
theorem free_eq {mask:Nat} (owner:Array (Option Nat)):∀ (fuel i p:Nat),layClean.free mask owner fuel i p=(wk mask fuel i p).find? fun j=>(owner.getD j (some 0)).isNone
 | 0,i,p=>rfl
 | fuel+1,i,p=>by
  unfold layClean.free wk
  rw [List.find?_append,List.find?_map]
  have e:((fun j=>(owner.getD j (some 0)).isNone)∘fun x=>i+x)=fun k=>(owner.getD (i+k) (some 0)).isNone:=rfl
  rw [e]
  cases List.find? (fun k=>(owner.getD (i+k) (some 0)).isNone) (List.range (runEnd mask i+1 - i)) with
  | some k=>rfl
  | none=>simp only [Option.map_none,Option.none_or]; exact free_eq owner fuel _ _
structure Owned (mask:Nat) (hs:List Int) (pos:List Nat) (owner:Array (Option Nat)):Prop where
 size:owner.size=mask+1
 len:pos.length=hs.length
 nod:pos.Nodup
 le:∀ j∈pos,j≤mask
 at_:∀ (i j:Nat),pos[i]?=some j→owner[j]?=some (some i)
 none:∀ (j:Nat),j≤mask→j∉pos→owner[j]?=some none
 reach:∀ (i j:Nat) (h:Int),pos[i]?=some j→hs[i]?=some h→Reach mask pos h j
theorem nodup_len {α:Type} [DecidableEq α]:∀ {l l':List α},l.Nodup→(∀ x∈l,x∈l')→l.length≤l'.length
 | [],_,_,_=>Nat.zero_le _
 | x::l,l',hn,hs=>by
  obtain ⟨h1,h2⟩:=List.nodup_cons.mp hn
  have hx:=hs x (.head _)
  have:=nodup_len (l':=l'.erase x) h2 fun y hy=>(List.mem_erase_of_ne (fun (e:y=x)=>h1 (e▸hy))).mpr (hs y (.tail _ hy))
  rw [List.length_erase_of_mem hx] at this
  have:=List.length_pos_of_mem hx
  rw [List.length_cons]; exact a30 50460848629007134781867254 ‹_› (Nat.sub_add_cancel (a10 1466932700871 this))
theorem exists_free {mask:Nat} {pos:List Nat} (hlen:pos.length≤mask):∃ j,j≤mask∧j∉pos:=by
 apply Classical.byContradiction
 intro h
 have all:∀ j,j∈List.range (mask+1)→j∈pos:=fun j hj=>by
  apply Classical.byContradiction
  intro q
  exact h (inEA j (Nat.le_of_lt_succ (List.mem_range.mp hj)) q)
 have:=nodup_len List.nodup_range all
 rw [List.length_range] at this
 exact a20 46995327393242869 hlen this
theorem owned_nil (mask:Nat):Owned mask [] [] (Array.replicate (mask+1) none) where
 size:=Array.size_replicate
 len:=rfl
 nod:=List.nodup_nil
 le:=fun _ h=>niP h
 at_:=fun i j h=>by simp at h
 none:=fun j hj _=>by rw [Array.getElem?_replicate,if_pos (by exact Nat.lt_succ_of_le ‹_›)]
 reach:=fun i j h e=>by simp at e
theorem owned_step {k mask:Nat} (hm:mask+1=2 ^ k) {hs:List Int} {pos:List Nat} {owner:Array (Option Nat)} (O:Owned mask hs pos owner) (hlen:hs.length≤mask) (h:Int) :
  ∃ j,layClean.free mask owner (turns mask) (bits h % (mask+1)) (bits h)=some j∧Owned mask (hs++[h]) (pos++[j]) (owner.setIfInBounds j (some pos.length)):=by
 have gd:∀ j,j≤mask→((owner.getD j (some 0)).isNone=true↔j∉pos):=by
  intro j hj
  rw [Array.getD_eq_getD_getElem?]
  by_cases q:j∈pos
  ·obtain ⟨i,hi,e⟩:=List.getElem_of_mem q
   rw [O.at_ i j (by rw [List.getElem?_eq_getElem hi,e])]
   simp [q]
  ·rw [O.none j hj q]; simp [q]
 refine unEA (exists_free (mask:=mask) (pos:=pos) (by rw [O.len]; exact hlen)) fun j0 hj0 hj0'=>?_
 rw [free_eq]
 cases hf:(wk mask (turns mask) (bits h % (mask+1)) (bits h)).find? fun j=>(owner.getD j (some 0)).isNone with
 | none =>
  have:=List.find?_eq_none.mp hf j0 (wk_hash hm hj0 h)
  rw [(gd j0 hj0).mpr hj0'] at this
  exact absurd rfl this
 | some j =>
  refine unEEAA (find_first hf) fun pre post e p1 p2=>?_
  have wle:∀ q∈wk mask (turns mask) (bits h % (mask+1)) (bits h),q≤mask:=wk_le (Nat.le_of_lt_succ (Nat.mod_lt _ (Nat.succ_pos _)))
  have hj:j≤mask:=wle j (by rw [e]; simp)
  have hjn:j∉pos:=(gd j hj).mp p1
  refine (inEA j rfl ?_)
  refine ⟨by rw [Array.size_setIfInBounds,O.size],by rw [List.length_append,List.length_append,O.len]; rfl,?_,?_,?_,?_,?_⟩
  ·rw [List.nodup_append]
   refine (inAA O.nod (by simp) (fun a ha b hb=>?_))
   rw [List.mem_singleton] at hb; (replace hb:=hb.symm; subst hb)
   exact fun e=>hjn (e▸ha)
  ·intro q hq
   rcases List.mem_append.mp hq with hq | hq
   ·exact O.le q hq
   ·rw [List.mem_singleton] at hq; rw [hq]; exact hj
  ·intro i q hq
   rw [Array.getElem?_setIfInBounds,O.size]
   rw [List.getElem?_append] at hq
   split at hq
   ·have:j≠q:=fun e=>hjn (e▸List.mem_of_getElem? hq)
    rw [if_neg this]; exact O.at_ i q hq
   ·rename_i hi
    have hi2:i=pos.length:=by
     rcases Nat.lt_or_ge (i - pos.length) 1 with z | z
     ·exact Nat.le_antisymm (a30 49868468204772354205463 z sg) (a20 1605982267095 hi)
     ·rw [List.getElem?_eq_none (by simpa using z)] at hq; exact nnS hq
    clear hi; subst hi2
    simp at hq
    subst hq
    rw [if_pos rfl,if_pos (by exact Nat.lt_succ_of_le ‹_›)]
  ·intro q hq hn
   have h1:q∉pos:=fun z=>hn (List.mem_append_left _ z)
   have h2:j≠q:=fun z=>hn (List.mem_append_right _ (by rw [z]; simp))
   rw [Array.getElem?_setIfInBounds,if_neg h2]; exact O.none q hq h1
  ·intro i q h' hq hh
   rw [List.getElem?_append] at hq hh
   rw [← O.len] at hh
   split at hq
   ·rename_i hi
    rw [if_pos hi] at hh
    exact (O.reach i q h' hq hh).mono fun z hz=>List.mem_append_left _ hz
   ·rename_i hi
    rw [if_neg hi] at hh
    have hi2:i=pos.length:=by
     rcases Nat.lt_or_ge (i - pos.length) 1 with z | z
     ·exact Nat.le_antisymm (a30 49868468204772354205463 z sg) (a20 1605982267095 hi)
     ·rw [List.getElem?_eq_none (by simpa using z)] at hq; exact nnS hq
    clear hi; subst hi2
    simp at hq hh
    subst hq; subst hh
    refine (inEEA pre post e (fun z hz=>List.mem_append_left _ ?_))
    have hz1:z≤mask:=wle z (by rw [e]; exact List.mem_append_left _ hz)
    have hz2:=p2 z hz
    apply Classical.byContradiction
    intro n
    rw [(gd z hz1).mpr n] at hz2
    exact tfP hz2
theorem owned_fold {k mask:Nat} (hm:mask+1=2 ^ k):∀ (rest hs:List Int) (pos:List Nat) (owner:Array (Option Nat)),Owned mask hs pos owner→hs.length+rest.length≤mask+1 →
  ∃ pos' owner',rest.foldl (fun acc h=>do
   let (owner,k) ← acc
   let j ← layClean.free mask owner (turns mask) (bits h % (mask+1)) (bits h)
   pure (owner.setIfInBounds j (some k),k+1)) (some (owner,pos.length))=some (owner',(hs++rest).length)∧Owned mask (hs++rest) pos' owner'
 | [],hs,pos,owner,O,_=>(inEEA pos owner (by rw [List.append_nil,O.len]; rfl) (by rw [List.append_nil]; exact O))
 | h::rest,hs,pos,owner,O,hl=>by
  rw [List.length_cons] at hl
  refine unEA (owned_step hm O (by exact a30 1514065195275523237654 hl) h) fun j e O'=>?_
  refine unEEA (owned_fold hm rest (hs++[h]) (pos++[j]) _ O' (by rw [List.length_append]; simp; exact a30 1625715124430056502947418440950 hl)) fun pos' owner' e2 O2=>?_
  refine (inEEA pos' owner' ?_ (by rw [List.append_assoc] at O2; exact O2))
  rw [List.foldl_cons]
  rw [List.append_assoc] at e2
  show List.foldl _ (layClean.free mask owner (turns mask) (bits h % (mask+1)) (bits h) >>= _) rest=_
  rw [e]
  rw [List.length_append] at e2
  exact e2
theorem layClean_ok {k mask:Nat} (hm:mask+1=2 ^ k) (hs:Array Int) (hl:hs.size≤mask+1):∃ pos owner,layClean mask hs=some owner∧Owned mask hs.toList pos owner:=by
 refine unEEA (owned_fold hm hs.toList [] [] _ (owned_nil mask) (by simpa using hl)) fun pos owner e O=>?_
 refine (inEEA pos owner ?_ O)
 unfold layClean
 rw [← Array.foldl_toList]
 have e':=e
 rw [List.length_nil] at e'
 rw [e']
 rfl
end
section
open PySem PySem.SetTable
structure TOk (t:SetTable) (hs:List Int):Prop where
 pow:∃ k,t.mask+1=2 ^ k
 len:t.place.size=hs.length
 asc:asc t.place
 le:∀ j∈t.place.toList,j≤t.mask
 nod:t.dummies=#[]
 room:t.place.size*5<t.mask*3
 reach:∀ (i j:Nat) (h:Int),t.place[i]?=some j→hs[i]?=some h→Reach t.mask t.place.toList h j
theorem TOk.fits {t:SetTable} {hs:List Int} (T:TOk t hs):t.fits hs.length=true:=by
 unfold SetTable.fits SetTable.fill
 have:=T.room
 rw [T.nod]
 simp [T.len]
 have:=T.len
 exact a30 55993729452079950344344858027597342456 ‹_› this
theorem TOk.fresh (finger moves:Nat) (led:Bool):TOk (SetTable.fresh finger moves led) [] where
 pow:=⟨3,rfl⟩
 len:=rfl
 asc:=.nil
 le:=fun _ h=>niP h
 nod:=rfl
 room:=(by decide:0*5<7*3)
 reach:=fun i j h e=>by simp [SetTable.fresh] at e
theorem TOk.turn {t t':SetTable} {hs:List Int} (T:TOk t hs) (h1:t'.mask=t.mask) (h2:t'.place=t.place) (h3:t'.dummies=t.dummies):TOk t' hs :=
 ⟨h1▸T.pow,h2▸T.len,h2▸T.asc,h1▸h2▸T.le,h3▸T.nod,h1▸h2▸T.room,h1▸h2▸T.reach⟩
theorem laid_ok {k mask:Nat} (finger moves:Nat) (led plain:Bool) (hm:mask+1=2 ^ k) (hs:Array Int) (hl:hs.size*5<mask*3) :
  ∃ t order,laid mask finger moves led plain hs=some (t,order)∧order.toList.Perm (List.range hs.size)∧TOk t (order.toList.map fun i=>hs.getD i 0)∧t.led=led∧t.plain=plain∧t.mask=mask∧t.moves=moves∧t.finger=finger:=by
 refine unEEA (layClean_ok hm hs (by exact a20 1708793013063963328379664919994102 hl)) fun pos owner e O=>?_
 have ol:pos.length=hs.size:=by rw [O.len,Array.length_toList]
 obtain ⟨live,hlive⟩:∃ live,live=(List.range (mask+1)).filterMap fun j=>(owner.getD j none).map (j,·):=⟨_,rfl⟩
 have key:laid mask finger moves led plain hs=some ({ mask,place:=(live.map (·.1)).toArray,dummies:=#[],finger,led,moves,plain },(live.map (·.2)).toArray):=by
  unfold laid; rw [e,hlive]; rfl
 have memL:∀ j i,(j,i)∈live↔pos[i]?=some j:=by
  intro j i
  simp only [hlive,List.mem_filterMap,List.mem_range,Option.map_eq_some_iff,Prod.mk.injEq]
  constructor
  ·intro z1; refine unEAEA z1 fun q hq i' hi' w46=>unA w46 fun y1 y2=>?_; clear w46; clear z1; subst y1; subst y2
   rw [Array.getD_eq_getD_getElem?] at hi'
   by_cases c:q∈pos
   ·obtain ⟨i2,hi2,e2⟩:=List.getElem_of_mem c
    have e3:pos[i2]?=some q:=by rw [List.getElem?_eq_getElem hi2,e2]
    rw [O.at_ i2 q e3] at hi'
    clear hi2 e2; cases hi'
    exact e3
   ·rw [O.none q (by exact Nat.le_of_lt_succ ‹_›) c] at hi'; exact nnS hi'
  ·intro h
   have hj:j≤mask:=O.le j (List.mem_of_getElem? h)
   exact (inEAEAA j (by exact Nat.lt_succ_of_le ‹_›) i (by rw [Array.getD_eq_getD_getElem?,O.at_ i j h]; rfl) rfl rfl)
 have pw:live.Pairwise fun a b=>a.1<b.1:=by
  rw [hlive]
  refine List.Pairwise.filterMap (R:=fun a b=>a<b) (S:=fun (a b:Nat×Nat)=>a.1<b.1) _ ?_ List.pairwise_lt_range
  intro a b hab x hx y hy
  refine unEA (Option.map_eq_some_iff.mp hx) fun i _ y3=>?_; clear hx; subst y3
  refine unEA (Option.map_eq_some_iff.mp hy) fun j _ y4=>?_; clear hy; subst y4
  exact hab
 have ordN:(live.map (·.2)).Nodup:=by
  refine List.pairwise_map.mpr (pw.imp_of_mem fun {a b} ha hb hlt hne=>?_)
  obtain ⟨a1,a2⟩:=a
  obtain ⟨b1,b2⟩:=b
  have h1:=(memL a1 a2).mp ha
  have h2:=(memL b1 b2).mp hb
  have e0:a2=b2:=hne
  rw [e0,h2] at h1
  clear hb hne h2; cases h1
  exact Nat.lt_irrefl _ hlt
 have ordP:(live.map (·.2)).Perm (List.range hs.size):=by
  refine (List.perm_ext_iff_of_nodup ordN List.nodup_range).mpr fun i=>?_
  rw [List.mem_map,List.mem_range,← ol]
  constructor
  ·intro z2; obtain ⟨⟨j,i'⟩,h,rfl⟩:=z2
   have:=(memL j i').mp h
   exact (List.getElem?_eq_some_iff.mp this).1
  ·intro h
   exact (inEA (pos[i],i) ((memL _ _).mpr (List.getElem?_eq_getElem h)) rfl)
 have hlen:live.length=hs.size:=by have:=ordP.length_eq; simpa using this
 have full:∀ q∈pos,q∈live.map (·.1):=fun q hq=>by
  obtain ⟨i,hi,e⟩:=List.getElem_of_mem hq
  exact List.mem_map.mpr ⟨(q,i),(memL _ _).mpr (by rw [List.getElem?_eq_getElem hi,e]),rfl⟩
 refine ⟨_,_,key,by simpa using ordP,?_,rfl,rfl,rfl,rfl,rfl⟩
 refine ⟨⟨k,hm⟩,?_,?_,?_,rfl,?_,?_⟩
 ·simp
 ·show (live.map (·.1)).toArray.toList.Pairwise _
  exact List.pairwise_map.mpr pw
 ·intro j hj
  have hj':j∈live.map (·.1):=by simpa using hj
  obtain ⟨⟨j',i⟩,h,rfl⟩:=List.mem_map.mp hj'
  exact O.le _ (List.mem_of_getElem? ((memL _ _).mp h))
 ·show (live.map (·.1)).toArray.size*5<mask*3
  rw [List.size_toArray,List.length_map,hlen]; exact hl
 ·intro i j h h1 h2
  have h1':(live.map (·.1))[i]?=some j:=by simpa using h1
  have h2':(live.map fun x=>hs.getD x.2 0)[i]?=some h:=by
   have:(live.map (·.2)).toArray.toList.map (fun i=>hs.getD i 0)=live.map fun x=>hs.getD x.2 0:=by simp [Function.comp_def]
   rw [← this]; exact h2
  rw [List.getElem?_map] at h1' h2'
  obtain ⟨⟨j',i'⟩,hx,e1⟩:=Option.map_eq_some_iff.mp h1'
  rw [hx] at h2'
  have e1:j'=j:=e1
  clear h1 h1' e1; subst e1
  have hp:=(memL j' i').mp (List.mem_of_getElem? hx)
  have hi':i'<hs.size:=by rw [← ol]; exact (List.getElem?_eq_some_iff.mp hp).1
  have h2'':hs.getD i' 0=h:=by simpa using h2'
  have hh:hs.toList[i']?=some h:=by
   rw [Array.getElem?_toList,Array.getElem?_eq_getElem hi',← h2'',Array.getD_eq_getD_getElem?,Array.getElem?_eq_getElem hi']; rfl
  exact (O.reach i' j' h hp hh).mono fun q hq=>by simpa using full q hq
theorem sizeAbove_go (n:Nat):∀ (fuel size:Nat),∃ m,sizeAbove.go n fuel size=size*2 ^ m∧(n<sizeAbove.go n fuel size∨size*2 ^ fuel≤n)
 | 0,size=>(inEA 0 (by simp [sizeAbove.go]) (by simp [sizeAbove.go]; omega))
 | fuel+1,size=>by
  unfold sizeAbove.go
  split
  ·refine unEA (sizeAbove_go n fuel (size*2)) fun m e h=>?_
   exact (inEA (m+1) (by rw [e,Nat.pow_succ,Nat.mul_assoc,Nat.mul_comm 2]) (h.imp id fun h=>by rw [Nat.pow_succ,Nat.mul_comm (2 ^ fuel) 2,← Nat.mul_assoc]; exact h))
  ·exact (inEA 0 (by simp) (.inl (by exact a20 1571622529751 ‹_›)))
theorem sizeAbove_ok {n:Nat} (hn:n<2 ^ 60):∃ k,sizeAbove n - 1+1=2 ^ k∧n≤sizeAbove n - 1∧7≤sizeAbove n - 1:=by
 refine unEA (sizeAbove_go n 64 8) fun m e h=>?_
 have e2:sizeAbove n=8*2 ^ m:=e
 have hp:0<2 ^ m:=Nat.two_pow_pos m
 have h1:n<sizeAbove n:=by
  rcases h with h | h
  ·exact h
  ·exact absurd h (by lia)
 exact (inEAA (m+3) (by rw [Nat.pow_succ,Nat.pow_succ,Nat.pow_succ]; exact Nat.le_antisymm (a30 69285079692143256417802949094532558888819722995590708782138616 e2 (Nat.sub_add_cancel (a20 54613223910627254342896363207 e2 hp))) (a30 70892017736402246575156593307722095071871840012853647654258967 e2 sg)) (by exact a30 50458764014549091788566 h1 sg) (by exact a30 1967648758827218920005551549126263740209037544 e2 hp sg))
theorem relaid_ok (t:SetTable) (hs:Array Int) {wanted:Nat} (hw:hs.size*2≤wanted) (hw2:wanted<2 ^ 60) :
  ∃ t' order,t.relaid hs wanted=some (t',order)∧order.toList.Perm (List.range hs.size)∧TOk t' (order.toList.map fun i=>hs.getD i 0)∧t'.led=t.led∧t'.plain=t.plain∧wanted≤t'.mask:=by
 refine unEAA (sizeAbove_ok hw2) fun k h1 h2 h3=>?_
 refine unEEAAAAAA (laid_ok t.finger (t.movedTo (sizeAbove wanted - 1)) t.led t.plain h1 hs (by exact a30 8522931040756729777763679266291330613970906740275979214656790 hw h2 h3)) fun t' order e p T l1 l2 l3 _=>?_
 exact (inEEAAAAA t' order e p T l1 l2 (by exact a30 48123215355597334294 h2 l3))
theorem filterMap_order {α:Type} (es:Array α) {order:Array Nat} (p:order.toList.Perm (List.range es.size)) :
  (order.filterMap (es[·]?)).toList.Perm es.toList∧(order.filterMap (es[·]?)).size=es.size∧∀ {β:Type} (f:α→β) (d:β),(order.filterMap (es[·]?)).toList.map f=order.toList.map fun i=>((es.map f).getD i d):=by
 have hp:(order.filterMap (es[·]?)).toList.Perm es.toList:=by
  rw [Array.toList_filterMap]
  refine (p.filterMap _).trans ?_
  rw [filterMap_getElem?_range]
 refine (inAA hp ?_ ?_)
 ·rw [← Array.length_toList,hp.length_eq,Array.length_toList]
 ·intro β f d
  rw [Array.toList_filterMap]
  have hlt:∀ i∈order.toList,i<es.size:=fun i hi=>List.mem_range.mp (p.mem_iff.mp hi)
  generalize order.toList=l at hlt
  induction l with
  | nil=>rfl
  | cons i l ih =>
   have hi:=hlt i (.head _)
   have hr:=ih fun j hj=>hlt j (.tail _ hj)
   rw [List.filterMap_cons,Array.getElem?_eq_getElem hi]
   simp only [List.map_cons]
   rw [hr,Array.getD_eq_getD_getElem?,Array.getElem?_map,Array.getElem?_eq_getElem hi]
   rfl
end
section
open PySem PySem.SetTable
noncomputable def pw (mask n:Nat) (p:Probe):List Nat:=(List.range (p.more+1)).map (p.j+·)++wk mask n (leap mask p.i p.perturb).1 (leap mask p.i p.perturb).2
theorem wk_len (mask:Nat):∀ (n i p:Nat),(wk mask n i p).length≤10*n
 | 0,_,_=>Nat.le_refl _
 | n+1,i,p=>by
  unfold wk
  rw [List.length_append,List.length_map,List.length_range]
  have:=wk_len mask n (leap mask i p).1 (leap mask i p).2
  have h:runEnd mask i+1 - i≤10:=by unfold runEnd; split <;> (first | exact a20 1745833413034058148807649714514198 (Nat.sub_add_cancel (a10 46204811494073046)) | exact a20 1625959496038108341741846 (Nat.sub_add_cancel (a10 43032278)))
  exact a30 60091409619979850595020744256781888725726462740184 this h
theorem pw_start (t:SetTable) (h:Int):pw t.mask (turns t.mask - 1) (t.probeStart h)=walkOf t.mask h:=by
 have e:turns t.mask=(turns t.mask - 1)+1:=by unfold turns; exact Nat.le_antisymm (a20 1704684593126971739273328810948312342 sg) (a20 1787448212457052158850953327890105590 (Nat.sub_add_cancel (a10 45114336977607)))
 show pw _ _ _=wk t.mask (turns t.mask) _ _
 rw [e]
 unfold pw wk probeStart
 dsimp only
 congr 3
 unfold runEnd
 split <;> (first | exact Nat.le_antisymm (a30 62890242735270363608117963147908379662751457084662 (Nat.sub_add_cancel (a10 45114336781014)) sg) (a30 62900277667129164107695267361300894988271866650390 (Nat.sub_add_cancel (a10 46204811494073046)) sg) | exact Nat.le_antisymm (a30 55422253986053099079022581384438 (Nat.sub_add_cancel (a10 42710)) sg) (a30 1587851070349715218198 (Nat.sub_add_cancel (a10 43032278))))
theorem pw_cons (mask n:Nat) (p:Probe):∃ rest,pw mask n p=p.j::rest:=by
 unfold pw
 rw [List.range_succ_eq_map]
 exact ⟨_,rfl⟩
theorem pw_next (t:SetTable) (n:Nat) (p:Probe) {rest:List Nat} (e:pw t.mask n p=p.j::rest):rest=[]∨∃ n',n'≤n∧pw t.mask n' (t.advance p)=rest:=by
 unfold advance
 split
 ·rename_i hm
  right
  refine (inEA n (Nat.le_refl _) ?_)
  unfold pw at e ⊢
  dsimp only
  rw [List.range_succ_eq_map,List.map_cons,List.cons_append] at e
  have e2:=(List.cons.inj e).2
  rw [← e2,List.map_map]
  clear e e2; obtain ⟨j,more,i,pt,d⟩:=p
  dsimp only at hm ⊢
  rw [show more - 1+1=more by exact Nat.le_antisymm (a20 1575177606584304886 (Nat.sub_add_cancel (a10 1466932700871 hm))) (a20 1478578913013702390 sg)]
  congr 1
  refine List.map_congr_left fun a _=>?_
  exact Nat.le_antisymm (a20 46198446018495734) (a20 46222411935293174)
 ·rename_i hm
  have hm0:p.more=0:=by exact Nat.le_antisymm (a10 1604371653846 hm) (a10 42694)
  cases n with
  | zero =>
   left
   unfold pw at e
   rw [hm0] at e
   simpa [wk] using (List.cons.inj e).2.symm
  | succ n =>
   right
   refine (inEA n (by exact Nat.le_succ _) ?_)
   unfold pw at e
   rw [hm0] at e
   have e2:=(List.cons.inj (by simpa using e:p.j::wk t.mask (n+1) (leap t.mask p.i p.perturb).1 (leap t.mask p.i p.perturb).2=p.j::rest)).2
   rw [← e2]
   unfold pw
   conv=>rhs; unfold wk
   dsimp only
   congr 3
   unfold runEnd
   split <;> (first | exact Nat.le_antisymm (a30 62890242735270363608117963147908379662751457084662 (Nat.sub_add_cancel (a10 45114336781014)) sg) (a30 62900277667129164107695267361300894988271866650390 (Nat.sub_add_cancel (a10 46204811494073046)) sg) | exact Nat.le_antisymm (a30 55422253986053099079022581384438 (Nat.sub_add_cancel (a10 42710)) sg) (a30 1587851070349715218198 (Nat.sub_add_cancel (a10 43032278))))
theorem probe_go {t:SetTable} (ha:asc t.place) (hd:t.dummies=#[]) (hashAt:Nat→Int) (h:Int):∀ (l:List Nat) (n fuel:Nat) (p:Probe),pw t.mask n p=l→l.length≤fuel→p.dummy=none→(∃ q∈l,q∉t.place.toList) →
  ∃ pre q post,l=pre++q::post∧(∀ z∈pre,∃ i,t.place[i]?=some z∧hashAt i≠h) ∧
   ((q∉t.place.toList∧probe.go t hashAt h fuel p=some (.empty q none)) ∨
    ∃ i next n',n'≤n∧t.place[i]?=some q∧hashAt i=h∧probe.go t hashAt h fuel p=some (.candidate q i next)∧next.dummy=none∧pw t.mask n' next=post)
 | [],n,fuel,p,e,_,_,⟨q,hq,_⟩=>niP hq
 | q::rest,n,0,p,_,hf,_,_=>absurd hf (by simp)
 | q::rest,n,fuel+1,p,e,hf,hdm,hx=>by
  refine unE (pw_cons t.mask n p) fun r' e'=>?_
  have ej:p.j=q∧r'=rest:=by rw [e'] at e; exact List.cons.inj e
  obtain ⟨rfl,rfl⟩:=ej
  have adm:(t.advance p).dummy=none:=by unfold advance; split <;> exact hdm
  unfold probe.go
  rcases slot_eq ha hd p.j with ⟨h1,h2⟩ | ⟨i,h1,h2⟩
  ·rw [h2]
   exact (inEEEAA ([]) p.j r' rfl (fun z hz=>(niP hz)) (.inl ⟨h1,by rw [hdm]⟩))
  ·rw [h2]
   dsimp only
   have hin:p.j∈t.place.toList:=List.mem_of_getElem? (by rw [Array.getElem?_toList]; exact h1)
   have hx':∃ q∈r',q∉t.place.toList:=by
    refine unEA hx fun q hq hn=>?_; clear hx
    rcases List.mem_cons.mp hq with rfl | hq
    ·exact absurd hin hn
    ·exact (inEA q hq hn)
   rcases pw_next t n p e with h0 | ⟨n',hn',e2⟩
   ·clear e' e hf hx; subst h0; refine unEA hx' fun q hq _=>?_; clear hx'; exact niP hq
   ·by_cases c:hashAt i=h
    ·rw [if_pos (by simpa using c)]
     exact (inEEEAA ([]) p.j r' rfl (fun z hz=>(niP hz)) (.inr (inEEEAAAA i _ n' hn' h1 c rfl (inA adm e2))))
    ·rw [if_neg (by simpa using c)]
     refine unEEEAA (probe_go ha hd hashAt h r' n' fuel (t.advance p) e2 (by simpa using hf) adm hx') fun pre q post a1 a2 a3=>?_
     refine (inEEEAA (p.j::pre) q post (by rw [a1]; rfl) (fun z hz=>?_) (a3.imp id fun v1=>unEEEA v1 fun i2 nx n2 b1 b2=>(inEEEA i2 nx n2 (Nat.le_trans b1 hn') b2)))
     rcases List.mem_cons.mp hz with rfl | hz
     ·exact (inEA i h1 c)
     ·exact a2 z hz
theorem TOk.hole {t:SetTable} {hs:List Int} (T:TOk t hs) (h:Int):∃ q∈walkOf t.mask h,q∉t.place.toList:=by
 refine unE T.pow fun k hk=>?_
 refine unEA (exists_free (mask:=t.mask) (pos:=t.place.toList) (by have:=T.room; simp; exact a20 1668743176820276687870766524150 this)) fun j hj hn=>?_
 exact (inEA j (wk_hash hk hj h) hn)
theorem walk_len (mask:Nat) (h:Int):(walkOf mask h).length≤10*turns mask:=wk_len _ _ _ _
theorem TOk.freeSlot {t:SetTable} {hs:List Int} (T:TOk t hs) (h:Int):∃ j,t.freeSlot h=some (j,false)∧j∉t.place.toList∧j≤t.mask∧Reach t.mask t.place.toList h j:=by
 refine unEEEAA (probe_go T.asc T.nod (fun _=>h+1) h _ _ (10*turns t.mask) _ (pw_start t h) (walk_len _ _) rfl (T.hole h)) fun pre q post e a1 a2=>?_
 rcases a2 with ⟨b1,b2⟩ | ⟨i,_,_,_,_,b2,_⟩
 ·refine (inEAAAEEA q ?_ b1 ?_ pre post e (fun z hz=>?_))
  ·unfold SetTable.freeSlot SetTable.probe
   rw [b2]; rfl
  ·have hq:q∈walkOf t.mask h:=by rw [e]; simp
   exact wk_le (Nat.le_of_lt_succ (Nat.mod_lt _ (Nat.succ_pos _))) q hq
  ·refine unEA (a1 z hz) fun i hi _=>?_
   exact List.mem_of_getElem? (by rw [Array.getElem?_toList]; exact hi)
 ·exact absurd b2 (by exact fun z0=>a01 1667276501 b2)
theorem insertAt_get {α:Type} (xs:Array α) {p:Nat} (hp:p≤xs.size) (x:α) (i:Nat):(insertAt xs p x)[i]?=if i<p then xs[i]? else if i=p then some x else xs[i - 1]?:=by
 rw [← Array.getElem?_toList,SetTable.toList_insertAt,List.getElem?_append]
 have hl:(xs.toList.take p).length=p:=by simp; lia
 rw [hl]
 by_cases c:i<p
 ·rw [if_pos c,if_pos c,List.getElem?_take,if_pos c,Array.getElem?_toList]
 ·rw [if_neg c,if_neg c]
  by_cases c2:i=p
  ·(replace c2:=c2.symm; clear c; subst c2); rw [if_pos rfl,Nat.sub_self]; rfl
  ·rw [if_neg c2,List.getElem?_cons,if_neg (by exact fun z0=>(Nat.lt_or_gt_of_ne c2).elim (fun z1=>a20 51391432580821 c z1) (fun z1=>a30 1632389324728216804121365 z0 z1 sg)),List.getElem?_drop,Array.getElem?_toList]
   congr 1; exact Nat.le_antisymm ((Nat.lt_or_gt_of_ne c2).elim (fun z0=>a40 55181130557281229637399 c z0) (fun z0=>a50 1859641483477691286555536142927040153304 (Nat.sub_add_cancel (a30 50458764015064487864071 z0 sg)) (Nat.sub_add_cancel (a20 1468543313654 z0)) sg)) ((Nat.lt_or_gt_of_ne c2).elim (fun z0=>a40 50458764038196452976376 z0 (Nat.sub_le ..)) (fun z0=>a50 1859641483474294243961943184856014972758 (Nat.sub_add_cancel (a20 1468543313639 z0)) sg sg))
theorem TOk.put {t:SetTable} {hs:List Int} (T:TOk t hs) {h:Int} {j:Nat} (hj:j∉t.place.toList) (hjm:j≤t.mask) (hr:Reach t.mask t.place.toList h j) :
  ∃ t' p,t.put j=(t',p)∧p≤t.place.size∧t'.mask=t.mask∧t'.place=insertAt t.place p j∧t'.dummies=#[]∧t'.led=t.led∧t'.plain=t.plain∧t'.moves=t.moves ∧
   (∀ (hs':List Int),hs'.length=hs.length+1→(∀ i:Nat,hs'[i]?=if i<p then hs[i]? else if i=p then some h else hs[i - 1]?)→(t.place.size+1)*5<t.mask*3→TOk t' hs'):=by
 refine unAA (below_spec T.asc j) fun b1 b2 b3=>?_
 refine (inEEAAAAAAAA _ _ rfl b3 rfl rfl ?_ rfl rfl rfl ?_)
 ·show (if has t.dummies j then _ else t.dummies)=#[]
  rw [T.nod]; rfl
 intro hs' hl hg hroom
 have hsz:(insertAt t.place (below t.place j) j).size=t.place.size+1:=by
  rw [← Array.length_toList,SetTable.toList_insertAt]; simp; lia
 have hmem:∀ q,q∈(insertAt t.place (below t.place j) j).toList↔q=j∨q∈t.place.toList:=by
  intro q
  have:=(SetTable.insertAt_perm t.place (below t.place j) j).mem_iff (a:=q)
  rw [this,Array.toList_push,List.mem_append,List.mem_singleton]
  exact ⟨fun h=>h.elim .inr .inl,fun h=>h.elim .inr .inl⟩
 refine ⟨T.pow,?_,?_,?_,?_,?_,?_⟩
 ·show (insertAt t.place (below t.place j) j).size=_
  rw [hsz,hl,T.len]
 ·show (insertAt t.place (below t.place j) j).toList.Pairwise _
  rw [SetTable.toList_insertAt]
  have hA:=T.asc
  have gt:∀ {i a:Nat},t.place.toList[i]?=some a→t.place.getD i 0=a:=fun {i a} e=>by
   rw [Array.getD_eq_getD_getElem?,← Array.getElem?_toList,e]; rfl
  rw [List.pairwise_append]
  refine (inAA (hA.sublist (List.take_sublist _ _)) (List.pairwise_cons.mpr ⟨fun a ha=>?_,hA.sublist (List.drop_sublist _ _)⟩) (fun a ha b hb=>?_))
  ·obtain ⟨i,hi,e⟩:=List.getElem_of_mem ha
   have e2:t.place.toList[below t.place j+i]?=some a:=by rw [← List.getElem?_drop,List.getElem?_eq_getElem hi,e]
   have h2:=b2 (below t.place j+i) (by exact Nat.le_add_right _ _) (by have:=(List.getElem?_eq_some_iff.mp e2).1; simpa using this)
   rw [gt e2] at h2
   have hne:j≠a:=fun z=>hj (z▸List.mem_of_getElem? e2)
   exact (Nat.lt_or_gt_of_ne hne).elim (fun z0=>a20 1468543314678 z0) (fun z0=>a20 48123215285770529526 h2 z0)
  ·obtain ⟨i,hi,e⟩:=List.getElem_of_mem ha
   have hi2:i<below t.place j:=by simp at hi; lia
   have e2:t.place.toList[i]?=some a:=by
    have:(t.place.toList.take (below t.place j))[i]?=some a:=by rw [List.getElem?_eq_getElem hi,e]
    rw [List.getElem?_take,if_pos hi2] at this
    exact this
   have h1:=b1 i hi2
   rw [gt e2] at h1
   rcases List.mem_cons.mp hb with rfl | hb
   ·exact h1
   ·obtain ⟨i',hi',e'⟩:=List.getElem_of_mem hb
    have e3:t.place.toList[below t.place j+i']?=some b:=by rw [← List.getElem?_drop,List.getElem?_eq_getElem hi',e']
    have h2:=b2 (below t.place j+i') (by exact Nat.le_add_right _ _) (by have:=(List.getElem?_eq_some_iff.mp e3).1; simpa using this)
    rw [gt e3] at h2
    exact a30 49276136758165154582 h1 h2
 ·intro q hq
  rcases (hmem q).mp hq with rfl | hq
  ·exact hjm
  ·exact T.le q hq
 ·show (if has t.dummies j then _ else t.dummies)=#[]
  rw [T.nod]; rfl
 ·show (insertAt t.place (below t.place j) j).size*5<t.mask*3
  rw [hsz]; exact hroom
 ·intro i q hh h1 h2
  have h1':(insertAt t.place (below t.place j) j)[i]?=some q:=h1
  rw [insertAt_get _ b3] at h1'
  rw [hg] at h2
  have mono:∀ z∈t.place.toList,z∈(insertAt t.place (below t.place j) j).toList:=fun z hz=>(hmem z).mpr (.inr hz)
  by_cases c:i<below t.place j
  ·rw [if_pos c] at h1' h2; exact (T.reach i q hh h1' h2).mono mono
  ·rw [if_neg c] at h1' h2
   by_cases c2:i=below t.place j
   ·rw [if_pos c2] at h1' h2
    clear h1; cases h1'; cases h2
    exact hr.mono mono
   ·rw [if_neg c2] at h1' h2; exact (T.reach _ q hh h1' h2).mono mono
end
section
structure Room (A:Around) (n:Nat):Prop where
 handled:A.handled=none
 depth:A.depth+n<recursionLimit
 units:A.units+40*n+40<cLine
theorem Room.deeper {A:Around} {n:Nat} {env:Env} (h:Room A (n+1)):Room (A.deeper env) n :=
 ⟨h.handled,by have:=h.depth; show A.depth+1+n<_; exact a30 1615087662422449769383158 this,by have:=h.units; show A.units+3+40*n+40<_; exact a30 2251101658406732848259781885458936461104192493827560740315251870998 this⟩
theorem Room.less {A:Around} {n k:Nat} (h:Room A n) (hk:k≤n):Room A k:=⟨h.handled,by have:=h.depth; exact a40 50460848594121864216610520 hk this,by have:=h.units; exact a40 2072532651877555850328139455644706446943292944795898420677091608 hk this⟩
theorem Room.in1 {A:Around} {n:Nat} (h:Room A n):A.in1.units<cLine:=by have:=h.units; show A.units+1<_; exact a30 1775806091995256977220289443088041206 this
theorem Room.here {A:Around} {n:Nat} (h:Room A n):A.units<cLine:=by have:=h.units; exact a30 1734185636714118141816688909265686 this
theorem Room.dl {A:Around} {n:Nat} (h:Room A n):A.depth<recursionLimit:=Nat.lt_of_le_of_lt (Nat.le_add_right _ _) h.depth
section
variable {k:Int} {a b i n m:Nat}
theorem kp1 (h:0≤k∧k<90):0≤k+1∧k+1<100:=by exact ⟨a01 1678060951740102 h.1,a01 1856913389358062028003214582 h.2⟩
theorem kp2 (h:0≤k∧k<90):0≤k+1+1∧k+1+1<100:=by exact ⟨a01 1718334414581178054 h.1,a01 1901479310702655516675291710710 h.2⟩
theorem kp3 (h:0≤k∧k<90):0≤k+1+1+1∧k+1+1+1<100:=by exact ⟨a01 1759574440531125640902 h.1,a01 1947114814159519249075498711745782 h.2⟩
theorem kp4 (h:0≤k∧k<90):0≤k+1+1+1+1∧k+1+1+1+1<100:=by exact ⟨a01 1801804227103872655597254 h.1,a01 1993845569699347711053310680827659510 h.2⟩
theorem kp5 (h:0≤k∧k<90):0≤k+1+1+1+1+1∧k+1+1+1+1+1<100:=by exact ⟨a01 1845047528554365599330901702 h.1,a01 2041697863372132056118590137167523316982 h.2⟩
theorem kp6 (h:0≤k∧k<90):0≤k+1+1+1+1+1+1∧k+1+1+1+1+1+1<100:=by exact ⟨a01 1889328669239670373714842656454 h.1,a01 2090698612093063225465436300459543876568310 h.2⟩
theorem kq (h:0≤k∧k<80):0≤k∧k<90:=⟨h.1,Int.lt_trans h.2 (by decide)⟩
theorem kr (h:0≤k∧k<80):k<90:=Int.lt_trans h.2 (by decide)
theorem kt (h:0≤k∧k<80):0≤k+1+1+1+1∧k+1+1+1+1<90:=by exact ⟨a01 1801804227103872655597254 h.1,a01 1993845173558535139720363714039481590 h.2⟩
theorem ku (h:0≤k∧k<80):0≤k+1+1∧k+1+1<90:=by exact ⟨a01 1718334414581178054 h.1,a01 1901478932913336887092937196790 h.2⟩
theorem subS (h:a - i=n+1):a - (i+1)=n:=by exact Nat.le_antisymm ((Nat.le_total _ _).elim (fun z0=>a50 1830668467008304887247128572973381887738 h (Nat.sub_add_cancel z0) (Nat.sub_add_cancel (a40 54517404725547654529238729976 h (Nat.sub_add_cancel z0)))) (fun z0=>a30 51991848683859800499960 h (Nat.sub_eq_zero_of_le z0))) ((Nat.le_total _ _).elim (fun z0=>a50 1873203762872184255140665946618950887255 h (Nat.sub_add_cancel z0) sg) (fun z0=>a30 51991848683859800532759 h (Nat.sub_eq_zero_of_le z0)))
theorem subL (h:i<a):a - (i+1)<a - i:=by exact a40 54161132561544154603732380470 (Nat.sub_add_cancel (a20 1503788353160438 h)) sg
end
noncomputable def Tups (G G':View):Prop:=∀ b o,G b=some o→o.cls=.type "tuple" → G' b=some o
theorem Tups.refl (G:View):Tups G G:=fun _ _ h _=>h
theorem Tups.trans {G G' G'':View} (h:Tups G G') (h':Tups G' G''):Tups G G'':=fun b o e t=>h' b o (h b o e t) t
theorem Tups.upd {G:View} {a:Addr} {o o':Obj} (h:G a=some o) (hn:o.cls≠.type "tuple"):Tups G (upd G a o'):=fun b p e t=>by
 by_cases c:b=a
 ·subst c; rw [h] at e; cases e; exact absurd t hn
 ·rw [upd_ne c]; exact e
theorem Tups.push {G:View} {a:Addr} {o':Obj} (h:G a=none):Tups G (Mine.upd G a o'):=fun b p e _=>by
 by_cases c:b=a
 ·subst c; rw [h] at e; cases e
 ·rw [upd_ne c]; exact e
structure Kd (c:Cx) (K:Type) [DecidableEq K] where
 is:View→K→Value→Prop
 hash:K→Int
 draws:K→Nat
 up:∀ {G G':View} {k:K} {v:Value},is G k v→Tups G G'→is G' k v
 inj:∀ {G:View} {k k':K} {v:Value},is G k v→is G k' v→k=k'
 pyHash:∀ {O:List (Addr×Obj)} {L:Addr} {G:View} {m:Str→Option Value} {s:Shared} {A:Around} {E:Value→Shared→Prop} {k:K} {v:Value} {Q:Int→Shared→Prop},Fx c O L G m s→A.units<cLine→is G k v →
  Q (hash k) { s with toks:=s.toks+draws k }→wpAny (model c.prog c.w) A (PySem.pyHash v) Q E s
 find:∀ {O:List (Addr×Obj)} {L:Addr} {G:View} {m:Str→Option Value} {s:Shared} {A:Around} {E:Value→Shared→Prop} {k:K} {v:Value} {d:Addr} {o:Obj} {es:Array DictEntry} {ep:Nat} {kvs:List (K×Value)} {Q:Option Nat→Shared→Prop},
  Fx c O L G m s→A.units<cLine→is G k v→s.heap.get? d=some o→o.data=.dict es ep→Zip2 (fun e kv=>is G kv.1 e.key∧e.hash=hash kv.1∧e.val=kv.2) es.toList kvs→(kvs.map (·.1)).Nodup →
  Q (kvs.findIdx? fun kv=>decide (kv.1=k)) s→wpAny (model c.prog c.w) A (dictFind d v (hash k)) Q E s
section
variable {c:Cx} {K:Type} [DecidableEq K]
noncomputable def kdOf (knd:KeyKind c.prog c.w K):Kd c K where
 is:=fun _ k v=>knd.is k v=true
 hash:=knd.hash
 draws:=fun _=>1
 up:=fun h _=>h
 inj:=fun h h'=>knd.inj _ _ _ h h'
 pyHash:=fun _ _ hk h=>knd.pyHash hk h
 find:=fun {O L G m s A E k v d o es ep kvs Q} F hu hk hg hd hz hn h=>by
  have hK:KeysOf knd es:=fun e he=>by
   refine unEAAA (hz.left (Array.mem_toList_iff.mpr he)) fun kv _ h1 h2 _=>?_
   exact (inEA kv.1 h1 h2)
  have hP:Pairs knd es.toList kvs:=by
   generalize es.toList=l at hz
   clear hK h hn
   induction hz with
   | nil=>exact .nil
   | cons r _ ih=>exact .cons r.1 r.2.2 ih
  refine wpAny_dictFind_of hk hg hd hK ?_
  have hidx:(es.findIdx? fun e=>knd.is k e.key)=kvs.findIdx? fun kv=>decide (kv.1=k):=by
   rw [← hP.findIdx k]; clear hd hz hK hP; obtain ⟨l⟩:=es; simp
  rw [hidx]; exact h
noncomputable def kdTup (knd:KeyKind c.prog c.w K):Kd c (List K) where
 is:=fun G ks v=>∃ a o items n,v=.ref a∧G a=some o∧o.cls=.type "tuple" ∧ o.data=.seq items n∧ItemsAre knd ks items.toList
 hash:=tupleKeyHash knd
 draws:=fun ks=>ks.length+1
 up:=fun ⟨a,o,items,n,h1,h2,h3,h4,h5⟩ ht=>(inEEEEAAAA a o items n h1 (ht _ _ h2 h3) h3 h4 h5)
 inj:=fun ⟨a,o,items,n,h1,h2,h3,h4,h5⟩ ⟨a',o',items',n',h1',h2',h3',h4',h5'⟩=>by
  subst h1
  cases h1'
  rw [h2] at h2'
  clear h3'; cases h2'
  rw [h4] at h4'
  cases h4'
  exact h5.inj h5'
 pyHash:=fun {O L G m s A E k v Q} F hu ⟨a,o,items,n,h1,h2,h3,h4,h5⟩ h=>by
  subst h1
  exact (tupleKind knd).pyHash hu (show IsTupleKey knd s.heap k a from (inEEEAAA o items n (F.get h2) h3 h4 h5)) h
 find:=fun {O L G m s A E k v d o es ep kvs Q} F hu ⟨a,oa,items,n,h1,h2,h3,h4,h5⟩ hg hd hz hn h=>by
  subst h1
  have hx:∃ xs:List (List K×Addr×Value),es.toList=xs.map (entryOfKey (tupleKind knd))∧(∀ x∈xs,IsTupleKey knd s.heap x.1 x.2.1)∧xs.map (·.1)=kvs.map (·.1):=by
   generalize es.toList=l at hz
   clear hn h
   induction hz with
   | nil=>exact (inEAA ([]) rfl (fun _ h=>(niP h)) rfl)
   | @cons e kv es kvs r _ ih =>
    refine unEAA ih fun xs e1 e2 e3=>?_; clear ih
    refine unAA r fun y1 r2 r3=>?_; clear r; refine unEEEEAAAA y1 fun b ob its nb q1 q2 q3 q4 q5=>?_; clear y1
    refine (inEAA ((kv.1,b,kv.2)::xs) ?_ ?_ ?_)
    ·rw [List.map_cons,← e1]
     congr 1
     obtain ⟨eh,ek,ev⟩:=e
     subst q1 r2 r3
     rfl
    ·intro x hx
     rcases List.mem_cons.mp hx with rfl | hx
     ·exact (inEEEAAA ob its nb (F.get q2) q3 q4 q5)
     ·exact e2 x hx
    ·simp [e3]
  refine unEAA hx fun xs e1 e2 e3=>?_; clear hx
  have idx:∀ (j:Nat) (p:Addr×Value),xs[j]?=some (k,p)→(kvs.map (·.1))[j]?=some k:=fun j p hj=>by rw [← e3,List.getElem?_map,hj]; rfl
  refine wpAny_dictFind_heap (knd:=tupleKind knd) (xs:=xs) hu (show IsTupleKey knd s.heap k a from (inEEEAAA oa items n (F.get h2) h3 h4 h5)) hg hd e1 e2 (e3▸hn) ?_ ?_
  ·intro hno
   have:(kvs.findIdx? fun kv=>decide (kv.1=k))=none:=by
    rw [List.findIdx?_eq_none_iff]
    intro kv hkv
    rw [decide_eq_false_iff_not]
    rintro rfl
    have:kv.1∈xs.map (·.1):=e3▸List.mem_map.mpr (inEA kv hkv rfl)
    refine unEA (List.mem_map.mp this) fun x hx e=>?_
    refine unE (List.mem_iff_getElem?.mp hx) fun j hj=>?_
    exact hno j x.2 (by rw [hj,← e])
   rw [this] at h; exact h
  ·intro j p hj
   have hkj:=idx j p hj
   have:(kvs.findIdx? fun kv=>decide (kv.1=k))=some j:=by
    rw [List.getElem?_map] at hkj
    refine unEA (Option.map_eq_some_iff.mp hkj) fun kv hkv e=>?_
    refine unE (List.getElem?_eq_some_iff.mp hkv) fun hlt hge=>?_
    rw [List.findIdx?_eq_some_iff_getElem]
    refine (inEA hlt (by rw [hge]; exact decide_eq_true e) (fun i hi hc=>?_))
    have hil:i<kvs.length:=by exact a30 49276136790410963704 hlt hi
    have e4:kvs[i].1=k:=of_decide_eq_true hc
    have hi2:(kvs.map (·.1))[i]?=some k:=by rw [List.getElem?_map,List.getElem?_eq_getElem hil]; simp [e4]
    have hj2:(kvs.map (·.1))[j]?=some k:=by rw [List.getElem?_map,hkv]; simp [e]
    have:=(List.getElem?_inj (by simpa using hil) hn).mp (hi2.trans hj2.symm)
    exact a20 46993386135253 hi this
   rw [this] at h; exact h
noncomputable abbrev Kd.Ent (kd:Kd c K) (G:View) (e:DictEntry) (kv:K×Value):Prop:=kd.is G kv.1 e.key∧e.hash=kd.hash kv.1∧e.val=kv.2
noncomputable def DictIs (kd:Kd c K) (G:View) (o:Obj) (kvs:List (K×Value)):Prop :=
 o.ExactDict∧∃ es ep,o.data=.dict es ep∧Zip2 (kd.Ent G) es.toList kvs∧(kvs.map (·.1)).Nodup
theorem Zip2.imp {α β:Type} {R R':α→β→Prop} (f:∀ a b,R a b→R' a b) {as:List α} {bs:List β} (h:Zip2 R as bs):Zip2 R' as bs:=by
 induction h with
 | nil=>exact .nil
 | cons r _ ih=>exact .cons (f _ _ r) ih
variable {kd:Kd c K} {G G':View} {o:Obj} {kvs:List (K×Value)}
theorem DictIs.up (h:DictIs kd G o kvs) (t:Tups G G'):DictIs kd G' o kvs:=by
 refine unAEEAA h fun h1 es ep h2 h3 h4=>?_; clear h
 exact (inAEEAA h1 es ep h2 (h3.imp fun e kv r=>⟨kd.up r.1 t,r.2⟩) h4)
theorem DictIs.new:DictIs kd G { cls:=.type "dict",data:=.dict #[] } []:=(inAEEAA (inAA rfl rfl rfl) (#[]) 0 rfl (.nil) List.nodup_nil)
theorem DictIs.nodup (h:DictIs kd G o kvs):(kvs.map (·.1)).Nodup:=by refine unAEEAA h fun h1 es ep h2 h3 h4=>?_; clear h; exact h4
theorem DictIs.notTup (h:DictIs kd G o kvs):o.cls≠.type "tuple" := by rw [h.1.1]; decide
theorem DictIs.typeIs {s:Shared} {d:Addr} (h:DictIs kd G o kvs) (hg:s.heap.get? d=some o):s.TypeIs (.ref d) "dict" := (inEA o hg h.1.1)
theorem valueAt_of_idx {kvs:List (K×Value)} {k:K}:valueAt kvs k=(kvs.findIdx? fun kv=>decide (kv.1=k)).bind fun i=>(kvs[i]?).map (·.2):=by
 unfold valueAt
 induction kvs with
 | nil=>rfl
 | cons kv kvs ih =>
  rw [List.find?_cons,List.findIdx?_cons]
  by_cases e:kv.1=k
  ·simp [e]
  ·simp only [decide_eq_false e]
   rw [ih]
   cases kvs.findIdx? fun kv=>decide (kv.1=k) with
   | none=>rfl
   | some i=>simp
theorem idx_some_of {kvs:List (K×Value)} {k:K} {i:Nat} (h:(kvs.findIdx? fun kv=>decide (kv.1=k))=some i):∃ kv,kvs[i]?=some kv∧kv.1=k:=by
 refine unEA (List.findIdx?_eq_some_iff_getElem.mp h) fun hlt hp _=>?_
 exact (inEA (kvs[i]) (List.getElem?_eq_getElem hlt) (of_decide_eq_true hp))
theorem Zip2.at {α β:Type} {R:α→β→Prop} {as:List α} {bs:List β} (h:Zip2 R as bs) {i:Nat} {b:β} (hb:bs[i]?=some b):∃ a,as[i]?=some a∧R a b:=by
 have hl:=h.length
 have hi:i<as.length:=by rw [hl]; exact (List.getElem?_eq_some_iff.mp hb).1
 exact (inEA (as[i]) (List.getElem?_eq_getElem hi) (h.get (List.getElem?_eq_getElem hi) hb))
theorem Zip2.modify {α β:Type} {R:α→β→Prop} {f:α→α} {g:β→β} {as:List α} {bs:List β} (h:Zip2 R as bs) (p:β→Prop) [DecidablePred p] {i:Nat}
  (hi:(bs.findIdx? fun b=>decide (p b))=some i) (hu:∀ j b,bs[j]?=some b→p b→j=i) (hf:∀ a b,R a b→p b→R (f a) (g b)):Zip2 R (as.modify i f) (bs.map fun b=>if p b then g b else b):=by
 induction h generalizing i with
 | nil=>simp at hi
 | @cons a b as bs r t ih =>
  rw [List.findIdx?_cons] at hi
  by_cases e:p b
  ·simp only [decide_eq_true e,if_true,Option.some.injEq] at hi
   subst hi
   rw [List.map_cons,if_pos e]
   refine .cons (hf _ _ r e) ?_
   have:(bs.map fun b=>if p b then g b else b)=bs:=by
    conv=>rhs; rw [← List.map_id bs]
    refine List.map_congr_left fun x hx=>?_
    refine unE (List.mem_iff_getElem?.mp hx) fun j hj=>?_
    rw [if_neg]
    ·rfl
    ·intro hp
     have:=hu (j+1) x (by simpa using hj) hp
     exact a10 1449172693 this
   rw [this]; exact t
  ·simp only [decide_eq_false e,Bool.false_eq_true,if_false,Option.map_eq_some_iff] at hi
   refine unEA hi fun j hj y2=>?_; clear hi; subst y2
   rw [List.map_cons,if_neg e]
   exact .cons r (ih hj fun j' b' hb hp=>by have:=hu (j'+1) b' (by simpa using hb) hp; exact Nat.le_antisymm (a20 1550635793708525302 this) (a20 1586664590727489239 this))
end
end
section
section
variable {c:Cx} {K:Type} [DecidableEq K] {kd:Kd c K} {O:List (Addr×Obj)} {L d:Addr} {G:View} {m:Str→Option Value} {A:Around} {E:Value→Shared→Prop} {s:Shared} {o:Obj} {kvs:List (K×Value)} {k:K} {key:Value}
theorem x_dictGet {Q:Option Value→Shared→Prop} (F:Fx c O L G m s) (hu:A.units<cLine) (hk:kd.is G k key) (hg:G d=some o) (hD:DictIs kd G o kvs)
  (h:∀ s',Fx c O L G m s'→Q (valueAt kvs k) s'):wpAny (model c.prog c.w) A (dictGet d key) Q E s:=by
 refine unAEEAA hD fun hx es ep hd hz hn=>?_; clear hD
 unfold dictGet
 try with_reducible refine wpAny_holding ?_
 have F1:=F.eta (t:=s.toks+kd.draws k) (d:=s.drawn)
 refine wpAny_bind (kd.pyHash F hu hk (wpAny_bind (kd.find F1 hu hk (F.get hg) hd hz hn ?_)))
 have hv:=valueAt_of_idx (kvs:=kvs) (k:=k)
 cases hi:kvs.findIdx? fun kv=>decide (kv.1=k) with
 | none =>
  rw [hi] at hv
  have:=h _ F1
  rw [hv] at this
  exact wpAny_pure this
 | some i =>
  rw [hi] at hv
  refine unEA (idx_some_of hi) fun kv hkv _=>?_
  refine unEAAA (hz.at hkv) fun e he _ _ r=>?_
  rw [Option.bind_some,hkv] at hv
  refine wpAny_bind (wpAny_dictEntries (s:={ s with toks:=s.toks+kd.draws k }) (F.get hg) hd (wpAny_pure ?_))
  rw [← Array.getElem?_toList,he]
  have:=h _ F1
  rw [hv] at this
  show Q (some e.val) _
  rw [r]; exact this
theorem stored_new {k:K} {v:Value} (h:valueAt kvs k=none):stored kvs k v=kvs++[(k,v)]:=by
 unfold stored
 rw [if_neg]
 rw [List.any_eq_true]
 intro z1; refine unEA z1 fun kv hkv e=>?_; clear z1
 unfold valueAt at h
 rw [Option.map_eq_none_iff,List.find?_eq_none] at h
 exact h kv hkv e
theorem valueAt_none_of_idx (h:(kvs.findIdx? fun kv=>decide (kv.1=k))=none):valueAt kvs k=none:=by rw [valueAt_of_idx,h]; rfl
theorem notMem_of_valueAt (h:valueAt kvs k=none):k∉kvs.map (·.1):=by
 unfold valueAt at h
 rw [Option.map_eq_none_iff,List.find?_eq_none] at h
 intro hm
 refine unEA (List.mem_map.mp hm) fun kv hkv e=>?_
 exact h kv hkv (by simpa using e)
theorem DictIs.push {v:Value} (hD:DictIs kd G o kvs) (hk:kd.is G k key) (hn:valueAt kvs k=none):DictIs kd G (o.mapDictKeys (·.push ⟨kd.hash k,key,v⟩)) (kvs++[(k,v)]):=by
 refine unAEEAA hD fun hx es ep hd hz hnd=>?_; clear hD
 refine (inAEEAA (hx.mapDictKeys _) _ _ (Obj.data_mapDictKeys hd _) ?_ ?_)
 ·rw [Array.toList_push]
  exact hz.append (.cons (inAA hk rfl rfl) .nil)
 ·rw [List.map_append,List.nodup_append]
  refine (inAA hnd (by simp) (fun x hx y hy=>?_))
  rw [List.map_cons,List.map_nil,List.mem_singleton] at hy
  subst hy
  intro e
  clear hk; subst e
  exact notMem_of_valueAt hn hx
theorem x_dictSet {v:Value} {Q:Unit→Shared→Prop} (F:Fx c O L G m s) (hu:A.units<cLine) (hk:kd.is G k key) (hg:G d=some o) (hD:DictIs kd G o kvs) (hz:kvs.length≤sizeLine)
  (h:∀ s' o',Fx c O L (upd G d o') m s'→DictIs kd (upd G d o') o' (stored kvs k v)→Q () s'):wpAny (model c.prog c.w) A (dictSet d key v) Q E s:=by
 have hD':=hD
 refine unAEEAA hD fun hx es ep hd hzip hn=>?_; clear hD
 have hlen:es.size=kvs.length:=by rw [← Array.length_toList,hzip.length]
 unfold dictSet
 try with_reducible refine wpAny_holding ?_
 have F1:=F.eta (t:=s.toks+kd.draws k) (d:=s.drawn)
 refine wpAny_bind (kd.pyHash F hu hk ?_)
 unfold dictSetHashed
 try with_reducible refine wpAny_holding ?_
 refine wpAny_bind (kd.find F1 hu hk (F.get hg) hd hzip hn ?_)
 cases hi:kvs.findIdx? fun kv=>decide (kv.1=k) with
 | none =>
  have hv:=valueAt_none_of_idx hi
  refine wpAny_bind (wpAny_rule (wpAny_updateDictKeys (hz:=Nat.le_trans (Nat.le_of_eq hlen) hz) (s:={ s with toks:=s.toks+kd.draws k }) (F.get hg) hd ?_))
  have F2:=F.upd hg (·.mapDictKeys (·.push ⟨kd.hash k,key,v⟩)) (Obj.isFreed_of_dict (Obj.data_mapDictKeys hd _)) (t:=s.toks+kd.draws k) (d:=s.drawn)
  refine h _ _ F2 ?_
  rw [stored_new hv]
  exact (hD'.push hk hv).up (.upd hg hD'.notTup)
 | some i =>
  refine unEA (idx_some_of hi) fun kv hkv hkk=>?_
  refine wpAny_bind (wpAny_rule (wpAny_bind (wpAny_updateDict (s:={ s with toks:=s.toks+kd.draws k }) (F.get hg) hd (wpAny_point ?_))))
  have F2:=F.upd hg (·.mapDict (·.modify i fun e=>{ e with val:=v })) (Obj.isFreed_of_dict (Obj.data_mapDict hd _)) (t:=s.toks+kd.draws k) (d:=s.drawn)
  refine h _ _ F2 (DictIs.up (G:=G) ?_ (.upd hg hD'.notTup))
  have hst:stored kvs k v=kvs.map fun kv=>if kv.1=k then (kv.1,v) else kv:=by
   unfold stored
   rw [if_pos (List.any_eq_true.mpr (inEA kv (List.mem_of_getElem? hkv) (by simpa using hkk)))]
  refine (inAEEAA (hx.mapDict _) _ _ (Obj.data_mapDict hd _) ?_ ?_)
  ·have:=Zip2.modify (f:=fun e:DictEntry=>{ e with val:=v }) (g:=fun kv:K×Value=>(kv.1,v)) hzip (fun kv=>kv.1=k) hi ?_ ?_
   ·rw [hst]
    clear hd hzip hlen; obtain ⟨l⟩:=es
    simpa using this
   ·intro j b hj hb
    have h1:(kvs.map (·.1))[j]?=some k:=by rw [List.getElem?_map,hj]; simp [hb]
    have h2:(kvs.map (·.1))[i]?=some k:=by rw [List.getElem?_map,hkv]; simp [hkk]
    exact (List.getElem?_inj (List.getElem?_eq_some_iff.mp h1).1 hn).mp (h1.trans h2.symm)
   ·intro e b z2 _; refine unAA z2 fun r1 r2 r3=>?_; clear z2
    exact (inAA r1 r2 rfl)
  ·rw [hst,keys_map_store]; exact hn
theorem x_dictSetDefault {dflt:Value} {Q:Value→Shared→Prop} (F:Fx c O L G m s) (hu:A.units<cLine) (hk:kd.is G k key) (hg:G d=some o) (hD:DictIs kd G o kvs) (hz:kvs.length≤sizeLine)
  (h1:∀ v s',valueAt kvs k=some v→Fx c O L G m s'→Q v s')
  (h2:∀ s' o',valueAt kvs k=none→Fx c O L (upd G d o') m s'→DictIs kd (upd G d o') o' (kvs++[(k,dflt)])→Q dflt s'):wpAny (model c.prog c.w) A (dictSetDefault d key dflt) Q E s:=by
 have hD':=hD
 refine unAEEAA hD fun hx es ep hd hzip hn=>?_; clear hD
 have hlen:es.size=kvs.length:=by rw [← Array.length_toList,hzip.length]
 unfold dictSetDefault
 try with_reducible refine wpAny_holding ?_
 have F1:=F.eta (t:=s.toks+kd.draws k) (d:=s.drawn)
 refine wpAny_bind (kd.pyHash F hu hk ?_)
 refine wpAny_bind (kd.find F1 hu hk (F.get hg) hd hzip hn ?_)
 cases hi:kvs.findIdx? fun kv=>decide (kv.1=k) with
 | none =>
  have hv:=valueAt_none_of_idx hi
  refine wpAny_bind (wpAny_rule (wpAny_bind (wpAny_updateDictKeys (hz:=Nat.le_trans (Nat.le_of_eq hlen) hz) (s:={ s with toks:=s.toks+kd.draws k }) (F.get hg) hd (wpAny_pure ?_))))
  have F2:=F.upd hg (·.mapDictKeys (·.push ⟨kd.hash k,key,dflt⟩)) (Obj.isFreed_of_dict (Obj.data_mapDictKeys hd _)) (t:=s.toks+kd.draws k) (d:=s.drawn)
  exact h2 _ _ hv F2 ((hD'.push hk hv).up (.upd hg hD'.notTup))
 | some i =>
  refine unEA (idx_some_of hi) fun kv hkv hkk=>?_
  refine unEAAA (hzip.at hkv) fun e he _ _ r=>?_
  refine wpAny_bind (wpAny_dictEntries (s:={ s with toks:=s.toks+kd.draws k }) (F.get hg) hd ?_)
  rw [← Array.getElem?_toList,he]
  refine wpAny_bind (wpAny_rule (wpAny_pure (h1 _ _ ?_ F1)))
  rw [valueAt_of_idx,hi,Option.bind_some,hkv,Option.map_some,r]
theorem x_in_dict {Q:Value→Shared→Prop} (F:Fx c O L G m s) (hu:A.in1.units<cLine) (hk:kd.is G k key) (hg:G d=some o) (hD:DictIs kd G o kvs)
  (h:∀ s',Fx c O L G m s'→Q (.bool (valueAt kvs k).isSome) s'):wpAny (model c.prog c.w) A (compareOp .In key (.ref d)) Q E s:=by
 have hT:=hD.typeIs (F.get hg)
 refine wpAny_bind ?_
 unfold contains
 try with_reducible refine wpAny_holding ?_
 refine wpAny_bind (wpAny_specialOf hT slot_dict_contains.lookup ?_)
 rw [if_neg (by rw [beq_builtin_none]; exact Bool.false_ne_true)]
 refine wpAny_bind (wpAny_callSpecialUnlessNone?_slot (name:=Str.ofString "__contains__") hT slot_dict_contains
  (wpAny_call_entry slot_dict_contains hT entry_dict_contains ?_ (args_dict_contains _ _)))
 show wpAny _ _ (dictGet d key >>= _) _ _ s
 refine wpAny_bind (x_dictGet F hu hk hg hD fun s' F'=>?_)
 have h':=h s' F'
 cases hf:valueAt kvs k with
 | some p =>
  rw [hf] at h'
  exact wpAny_pure (inEA _ rfl (wpAny_truthy_bool (wpAny_pure h')))
 | none =>
  rw [hf] at h'
  exact wpAny_bind (wpAny_pendingKey_other (F.mods hg) (wpAny_pure (inEA _ rfl (wpAny_truthy_bool (wpAny_pure h')))))
theorem x_getItem_dict {v:Value} {Q:Value→Shared→Prop} (F:Fx c O L G m s) (hu:A.in1.units<cLine) (hk:kd.is G k key) (hg:G d=some o) (hD:DictIs kd G o kvs) (hv:valueAt kvs k=some v)
  (h:∀ s',Fx c O L G m s'→Q v s'):wpAny (model c.prog c.w) A (getItem (.ref d) key) Q E s:=by
 have hT:=hD.typeIs (F.get hg)
 unfold getItem
 try with_reducible refine wpAny_holding ?_
 refine wpAny_bind (wpAny_sequenceKey hT (by decide) ?_)
 refine wpAny_bind (wpAny_callSpecial?_slot (name:=Str.ofString "__getitem__") hT slot_dict_getitem
  (wpAny_call_entry slot_dict_getitem hT entry_dict_getitem ?_ (args_dict_getitem _ _)))
 show wpAny _ _ (dictGet d key >>= _) _ _ s
 refine wpAny_bind (x_dictGet F hu hk hg hD fun s' F'=>?_)
 rw [hv]
 exact wpAny_pure (inEA v rfl (wpAny_pure (h s' F')))
theorem x_getItemTail_dict {value slice:Expr} {v:Value} {Q:Value→Shared→Prop} (F:Fx c O L G m s) (hu:A.in1.units<cLine) (hk:kd.is G k key) (hg:G d=some o) (hD:DictIs kd G o kvs) (hv:valueAt kvs k=some v)
  (h:∀ s',Fx c O L G m s'→Q v s') (hs:subscripted slice false (.ref d) key=operate [.ref d,key] (getItem (.ref d) key):=by with_unfolding_all rfl):wpAny (model c.prog c.w) A (subscriptTail value slice (.ref d) key) Q E s :=
 tail_any (hD.typeIs (F.get hg)) slot_dict_getitem.lookup (x_getItem_dict F hu hk hg hD hv h) hs
theorem x_setItem_dict {v:Value} {Q:Unit→Shared→Prop} (F:Fx c O L G m s) (hu:A.in1.units<cLine) (hk:kd.is G k key) (hg:G d=some o) (hD:DictIs kd G o kvs) (hz:kvs.length≤sizeLine)
  (h:∀ s' o',Fx c O L (upd G d o') m s'→DictIs kd (upd G d o') o' (stored kvs k v)→Q () s'):wpAny (model c.prog c.w) A (setItem (.ref d) key v) Q E s:=by
 have hT:=hD.typeIs (F.get hg)
 unfold setItem
 try with_reducible refine wpAny_holding ?_
 refine wpAny_bind (wpAny_sequenceKey hT (by decide) ?_)
 refine wpAny_bind (wpAny_callSpecial?_slot (name:=Str.ofString "__setitem__") hT slot_dict_setitem
  (wpAny_call_entry slot_dict_setitem hT entry_dict_setitem ?_ (args_dict_setitem _ _ _)))
 refine wpAny_bind (wpAny_notOrdered_dict hT ?_)
 show wpAny _ _ (dictSet d key v >>= _) _ _ s
 exact wpAny_bind (x_dictSet F hu hk hg hD hz fun s' o' F' D'=>wpAny_pure (inEA (.none) rfl (wpAny_pure (h s' o' F' D'))))
theorem x_setdefault {dflt:Value} {Q:Value→Shared→Prop} (F:Fx c O L G m s) (hu:A.in1.units<cLine) (hk:kd.is G k key) (hg:G d=some o) (hD:DictIs kd G o kvs) (hz:kvs.length≤sizeLine)
  (h1:∀ v s',valueAt kvs k=some v→Fx c O L G m s'→Q v s')
  (h2:∀ s' o',valueAt kvs k=none→Fx c O L (upd G d o') m s'→DictIs kd (upd G d o') o' (kvs++[(k,dflt)])→Q dflt s') :
  wpAny (model c.prog c.w) A (call (.builtin "dict.setdefault") [.ref d,key,dflt] []) Q E s:=by
 have hT:=hD.typeIs (F.get hg)
 refine wpAny_call_entry PySem.F.slot_dict_setdefault hT PySem.F.entry_dict_setdefault ?_ (PySem.F.args_dict_setdefault_3 _ _ _)
 refine wpAny_bind ?_
 refine wpAny_bind (wpAny_notOrdered_dict hT ?_)
 refine wpAny_pure ?_
 show wpAny _ _ (if (d == sysModules)=true then _ else (dictSetDefault d key dflt >>= _)) _ _ s
 rw [if_neg (by rw [F.mods hg]; exact Bool.false_ne_true)]
 exact wpAny_bind (x_dictSetDefault F hu hk hg hD hz (fun v s' hv F'=>wpAny_pure (inEA v rfl (h1 v s' hv F'))) fun s' o' hn F' D'=>wpAny_pure (inEA dflt rfl (h2 s' o' hn F' D')))
theorem x_get2 {dflt:Value} {Q:Value→Shared→Prop} (F:Fx c O L G m s) (hu:A.in1.units<cLine) (hk:kd.is G k key) (hg:G d=some o) (hD:DictIs kd G o kvs)
  (h:∀ s',Fx c O L G m s'→Q ((valueAt kvs k).getD dflt) s') :
  wpAny (model c.prog c.w) A (call (.builtin "dict.get") [.ref d,key,dflt] []) Q E s:=by
 have hT:=hD.typeIs (F.get hg)
 refine wpAny_call_entry PySem.F.slot_dict_get hT PySem.F.entry_dict_get ?_ (PySem.F.args_dict_get_3 _ _ _)
 show wpAny _ _ (dictGet d key >>= _) _ _ s
 refine wpAny_bind (x_dictGet F hu hk hg hD fun s' F'=>?_)
 have h':=h s' F'
 cases hf:valueAt kvs k with
 | some v =>
  rw [hf] at h'
  exact wpAny_pure (inEA v rfl h')
 | none =>
  rw [hf] at h'
  exact wpAny_bind (wpAny_missed_other (F.mods hg) (wpAny_pure (inEA dflt rfl h')))
theorem x_bmethod {T:String} {name:Str} {id:String} {pl:Sem Bool} {Q:Value×List Value→Shared→Prop} (F:Fx c O L G m s) (hg:G d=some o) (hc:o.cls=.type T) (ho:o.dict=none) (pa:PlainAttrs T)
  (slot:Slot T name id) (hty:typeOf (.builtin id)=pure (.type "method_descriptor")) (h:Q (.builtin id,[.ref d]) s):wpAny (model c.prog c.w) A (getMethod (.ref d) name pl) Q E s :=
 getMethod_builtin (inEA o (F.get hg) hc) pa slot hty (fun a e=>by cases e; exact (inEA o (F.get hg) ho)) h
end
end
section
open PySem PySem.W PySem.Calls PyProof.Rows PySem.SetTable
theorem sizeAbove_go_le (n:Nat):∀ (fuel size:Nat),sizeAbove.go n fuel size≤max size (2*n)
 | 0,size=>by unfold sizeAbove.go; omega
 | fuel+1,size=>by
  unfold sizeAbove.go
  split
  ·have:=sizeAbove_go_le n fuel (size*2); lia
  ·lia
theorem sizeAbove_le (n:Nat):sizeAbove n≤max 8 (2*n):=sizeAbove_go_le n 64 8
section
variable {t:SetTable} {es:Array (Int×Value)} {h:Int} {x:Value} {j:Nat}
theorem TOk.even (T:TOk t hs):t.gaveWay=false:=by
 refine unE T.pow fun k hk=>?_
 have hr:=T.room
 unfold SetTable.gaveWay
 cases k with
 | zero=>have:t.mask=0:=(by lia); rw [this] at hr; exact False.elim (a10 1590256916772262231843541 hr)
 | succ k=>rw [Nat.pow_succ] at hk; simp; lia
theorem TOk.fill (T:TOk t hs):t.fill=t.place.size:=by unfold SetTable.fill; rw [T.nod]; rfl
theorem TOk.fits' {es:Array (Int×Value)} (T:TOk t (es.toList.map (·.1))):t.fits es.size=true:=by
 have:=T.fits
 rwa [List.length_map,Array.length_toList] at this
theorem put_ok (T:TOk t (es.toList.map (·.1))) (hj:j∉t.place.toList) (hjm:j≤t.mask) (hr:Reach t.mask t.place.toList h j) :
  ∃ t1 p,t.put j=(t1,p)∧(insertAt es p (h,x)).toList.Perm ((h,x)::es.toList)∧t1.led=t.led∧t1.plain=t.plain∧t1.mask=t.mask∧t1.fits (es.size+1)=true∧(insertAt es p (h,x)).size=es.size+1 ∧
   (t1.tooFull=false→TOk t1 ((insertAt es p (h,x)).toList.map (·.1))):=by
 refine unEEAAAAAAAA (T.put hj hjm hr) fun t1 p e1 e2 e3 e4 e5 e6 e7 e8 e9=>?_
 have hl:t.place.size=es.size:=by have:=T.len; simpa using this
 have hperm:(insertAt es p (h,x)).toList.Perm ((h,x)::es.toList):=by
  refine (SetTable.insertAt_perm es p (h,x)).trans ?_
  rw [Array.toList_push]
  exact List.perm_append_comm
 have hsz:(insertAt es p (h,x)).size=es.size+1:=by
  rw [← Array.length_toList,hperm.length_eq]; simp
 have hps:(insertAt t.place p j).size=t.place.size+1:=by
  rw [← Array.length_toList,(SetTable.insertAt_perm t.place p j).length_eq]; simp
 have hroom:=T.room
 have hf1:t1.fill=t.place.size+1:=by unfold SetTable.fill; rw [e4,e5,hps]; rfl
 refine (inEEAAAAAAA t1 p e1 hperm e6 e7 e3 ?_ hsz (fun hfull=>?_))
 ·unfold SetTable.fits
  rw [hf1,e4,hps,e3,hl]
  simp
  exact a30 148009539039443395512982836162598633473271 hl hroom
 ·refine e9 _ ?_ ?_ ?_
  ·simp [hsz]
  ·intro i
   rw [List.getElem?_map,Array.getElem?_toList,insertAt_get _ (by exact a30 48123215322277783318 e2 hl)]
   by_cases c1:i<p
   ·rw [if_pos c1,if_pos c1,List.getElem?_map,Array.getElem?_toList]
   ·rw [if_neg c1,if_neg c1]
    by_cases c2:i=p
    ·rw [if_pos c2,if_pos c2]; rfl
    ·rw [if_neg c2,if_neg c2,List.getElem?_map,Array.getElem?_toList]
  ·unfold SetTable.tooFull at hfull
   rw [hf1,e3] at hfull
   simpa using hfull
theorem layNew_ok (T:TOk t (es.toList.map (·.1))) (h:Int) (x:Value) :
  ∃ es1 t1,layNew t es h x=(es1,t1,false,false)∧es1.toList.Perm ((h,x)::es.toList)∧t1.led=t.led∧t1.mask=t.mask∧t1.fits es1.size=true∧es1.size=es.size+1 ∧
   (t1.tooFull=false→TOk t1 (es1.toList.map (·.1))):=by
 refine unEAAA (T.freeSlot h) fun j e hj hjm hr=>?_
 refine unEEAAAAAAA (put_ok (x:=x) T hj hjm hr) fun t1 p e1 e2 e3 e4 e5 e6 e7 e8=>?_
 refine (inEEAAAAAA (insertAt es p (h,x)) t1 ?_ e2 e3 e5 (by rw [e7]; exact e6) e7 e8)
 unfold layNew
 rw [e]
 dsimp only
 rw [e1]
 dsimp only
 unfold SetTable.orStandIn
 rw [e7,e6]
 rfl
theorem relay_ok (t:SetTable) {wanted:Nat} (hw:es.size*2≤wanted) (hw2:wanted≤4400) :
  ∃ t' order,t.relaid (es.map (·.1)) wanted=some (t',order)∧order.toList.Perm (List.range es.size)∧(order.filterMap (es[·]?)).toList.Perm es.toList∧(order.filterMap (es[·]?)).size=es.size ∧
   TOk t' ((order.filterMap (es[·]?)).toList.map (·.1))∧t'.led=t.led∧t'.plain=t.plain∧wanted≤t'.mask∧t'.mask<9000:=by
 refine unEEAAAAA (relaid_ok t (es.map (·.1)) (wanted:=wanted) (by simpa using hw) (by exact Nat.lt_of_le_of_lt ‹_› (by decide))) fun t' order e1 e2 e3 e4 e5 e6=>?_
 rw [Array.size_map] at e2
 refine unAA (filterMap_order es e2) fun f1 f2 f3=>?_
 refine (inEEAAAAAAAA t' order e1 e2 f1 f2 ?_ e4 e5 e6 ?_)
 ·rw [f3 (·.1) 0]; exact e3
 ·have hm:t'.mask=sizeAbove wanted - 1:=by
   unfold relaid laid at e1
   cases hq:layClean (sizeAbove wanted - 1) (es.map (·.1)) with
   | none=>rw [hq] at e1; cases e1
   | some owner=>rw [hq] at e1; clear e4 e5 e6 e2 f1 f2 f3 e3; cases e1; rfl
  have:=sizeAbove_le wanted
  omega
theorem relayAll_ok (t:SetTable) {wanted:Nat} (hw:es.size*2≤wanted) (hw2:wanted≤4400) :
  ∃ es2 t',relayAll t es wanted=(es2,t',false)∧es2.toList.Perm es.toList∧es2.size=es.size∧TOk t' (es2.toList.map (·.1))∧t'.led=t.led∧t'.mask<9000:=by
 refine unEEAAAAAAAA (relay_ok t hw hw2) fun t' order e1 e0 e2 e3 e4 e5 e6 e7 e8=>?_
 refine (inEEAAAAA _ t' ?_ e2 e3 e4 e5 e8)
 unfold relayAll
 rw [e1]
 dsimp only
 rw [if_pos]
 rw [Bool.and_eq_true]
 exact ⟨by unfold coversAll; exact List.isPerm_iff.mpr e0,e3▸e4.fits'⟩
end
section
variable {c:Cx} {K:Type} [DecidableEq K]
noncomputable abbrev Kd.Elt (kd:Kd c K) (G:View) (e:Int×Value) (k:K):Prop:=kd.is G k e.2∧e.1=kd.hash k
noncomputable def SetIs (kd:Kd c K) (G:View) (o:Obj) (l:List K):Prop :=
 o.ExactSet∧∃ es ep t ks,o.data=.set es ep t∧Zip2 (kd.Elt G) es.toList ks∧ks.Perm l∧l.Nodup∧TOk t (es.toList.map (·.1))∧t.mask<9000∧(c.w.params.followText "set-order" = false→t.led=true)
variable {kd:Kd c K} {G G':View} {o:Obj} {l l':List K}
theorem SetIs.up (h:SetIs kd G o l) (t:Tups G G'):SetIs kd G' o l:=by
 refine unAEEEEA h fun h1 es ep tb ks h2 w30=>unA w30 fun h3 r=>?_; clear w30; clear h
 exact (inAEEEEA h1 es ep tb ks h2 (inA (h3.imp fun e k q=>⟨kd.up q.1 t,q.2⟩) r))
theorem SetIs.perm (h:SetIs kd G o l) (p:l.Perm l'):SetIs kd G o l':=by
 refine unAEEEEA h fun h1 es ep tb ks h2 w31=>unAAA w31 fun h3 h4 h5 r=>?_; clear w31; clear h
 exact (inAEEEEA h1 es ep tb ks h2 (inAAA h3 (h4.trans p) (p.nodup_iff.mp h5) r))
theorem SetIs.nodup (h:SetIs kd G o l):l.Nodup:=by refine unAEEEEA h fun h1 es ep tb ks h2 w32=>unAAA w32 fun h3 h4 h5 r=>?_; clear w32; clear h; exact h5
theorem SetIs.notTup (h:SetIs kd G o l):o.cls≠.type "tuple" := by rw [h.1.1]; decide
theorem SetIs.typeIs {s:Shared} {d:Addr} (h:SetIs kd G o l) (hg:s.heap.get? d=some o):s.TypeIs (.ref d) "set" := (inEA o hg h.1.1)
theorem SetIs.fresh (led:Bool) (hl:c.w.params.followText "set-order" = false→led=true):SetIs kd G { cls:=.type "set",dict:=none,data:=.set #[] 0 (.fresh 0 0 led) } [] :=
 (inAEEEEAAAAAA (inAA rfl rfl rfl) (#[]) 0 _ ([]) rfl (.nil) (.refl _) List.nodup_nil (TOk.fresh _ _ _) (by decide:7<9000) hl)
structure KdS (kd:Kd c K):Prop where
 find:∀ {O:List (Addr×Obj)} {L:Addr} {G:View} {m:Str→Option Value} {s:Shared} {A:Around} {E:Value→Shared→Prop} {k:K} {x:Value} {a:Addr} {o:Obj} {l:List K} {Q:Option Nat→Shared→Prop},
  Fx c O L G m s→A.units<cLine→kd.is G k x→G a=some o→SetIs kd G o l→l.length<1000→(∀ r:Option Nat,(r.isSome=true↔k∈l)→Q r s)→wpAny (model c.prog c.w) A (setFind a x (kd.hash k)) Q E s
 add:∀ {O:List (Addr×Obj)} {L:Addr} {G:View} {m:Str→Option Value} {s:Shared} {A:Around} {E:Value→Shared→Prop} {k:K} {x:Value} {a:Addr} {o:Obj} {l:List K} {Q:Bool→Shared→Prop},
  Fx c O L G m s→A.units<cLine→kd.is G k x→G a=some o→SetIs kd G o l→l.length<1000→(∀ s' o' b,Fx c O L (upd G a o') m s'→SetIs kd (upd G a o') o' (ins k l)→(b=true↔k∉l)→Q b s') →
  wpAny (model c.prog c.w) A (setAddHashed a x (kd.hash k)) Q E s
theorem elems_mem {es:List (Int×Value)} {ks:List K} (hz:Zip2 (kd.Elt G) es ks) (hp:ks.Perm l) (k:K):k∈l↔∃ e∈es,kd.is G k e.2:=by
 rw [← hp.mem_iff]
 constructor
 ·intro h; refine unEA (hz.right h) fun e he r=>?_; exact (inEA e he r.1)
 ·intro z1; refine unEA z1 fun e he hk=>?_; clear z1
  refine unEA (hz.left he) fun k' hk' r=>?_
  exact kd.inj hk r.1▸hk'
theorem SetIs.added {k:K} {es:Array (Int×Value)} {ks:List K} {x:Value} {es1:Array (Int×Value)} {t1:SetTable} {ep:Nat} (hO:o.ExactSet) (hz:Zip2 (kd.Elt G) es.toList ks) (hp:ks.Perm l) (hn:l.Nodup) (hk:k∉l) (hx:kd.is G k x)
  (p1:es1.toList.Perm ((kd.hash k,x)::es.toList)) (T1:TOk t1 (es1.toList.map (·.1))) (hm:t1.mask<9000) (hl:c.w.params.followText "set-order" = false→t1.led=true):SetIs kd G { o with data:=.set es1 ep t1 } (ins k l):=by
 refine unEA (Zip2.perm p1.symm (.cons ⟨hx,rfl⟩ hz)) fun ks1 z1 q1=>?_
 refine (inAEEEEAAAAAA hO es1 ep t1 ks1 rfl z1 ?_ ?_ T1 hm hl)
 ·unfold ins; rw [if_neg hk]; exact q1.trans (hp.cons k)
 ·unfold ins; rw [if_neg hk]; exact List.nodup_cons.mpr ⟨hk,hn⟩
end
section
variable {c:Cx} {K:Type} [DecidableEq K] (knd:KeyKind c.prog c.w K)
theorem setData {o:Obj} {es:Array (Int×Value)} {ep:Nat} {t:SetTable} (h:o.data=.set es ep t):{ o with data:=.set es ep t }=o:=by
 obtain ⟨cls,dict,data,slots⟩:=o
 cases h; rfl
theorem setIs_setOf {G:View} {o:Obj} {l:List K} {h:Heap} {a:Addr} (hsc:∀ k v,knd.is k v=true→v.scannable=true) (hS:SetIs (kdOf knd) G o l) (hg:h.get? a=some o) (hb:l.length<1000) :
  h.SetOf knd a (fun k=>decide (k∈l)) l.length:=by
 refine unAEEEEAAAAAA hS fun h1 es ep t ks h2 h3 h4 h5 h6 h7 h8=>?_; clear hS
 have hsz:es.size=l.length:=by rw [← Array.length_toList,h3.length,h4.length_eq]
 refine (inEEEEAAAA o es ep t hg h1 h2 (fun e he=>?_) (inAAA (fun k=>by rw [decide_eq_true_eq]; exact elems_mem h3 h4 k) (by unfold scanBound; exact a20 53242534463611294868832008536343 hb hsz) h6.fits' hsz))
 refine unEAA (h3.left he) fun k _ r1 r2=>?_
 exact ⟨(inEA k r1 r2),hsc k _ r1⟩
theorem kdsOf (hsc:∀ k v,knd.is k v=true→v.scannable=true):KdS (kdOf knd:Kd c K) where
 find:=fun {O L G m s A E k x a o l Q} F hu hk hg hS hl h=>by
  refine wpAny_setFind_of hk (hsc _ _ hk) (setIs_setOf knd hsc hS (F.get hg) hl) fun r hr=>?_
  exact h r (by rw [hr]; exact decide_eq_true_iff)
 add:=fun {O L G m s A E k x a o l Q} F hu hk hg hS hl h=>by
  have hSo:=hS
  refine unAEEEEAAAAAA hS fun h1 es ep t ks h2 h4 h5 h6 h7 h8 h9=>?_; clear hS
  have hsz:es.size=l.length:=by rw [← Array.length_toList,h4.length,h5.length_eq]
  have h3:ElemsOf knd es.toList:=fun e he=>by
   refine unEAA (h4.left he) fun k _ r1 r2=>?_
   exact ⟨(inEA k r1 r2),hsc k _ r1⟩
  have hgo:=F.get hg
  have hmem:=fun q=>elems_mem h4 h5 q
  refine wpAny_holding (wpAny_bind (wpAny_setState_of hgo h2 h7.fits' ?_))
  dsimp only
  rw [byScan_of (hsc _ _ hk) (by unfold scanBound; exact a20 53242534463611294868832008536343 hl hsz) h3]
  refine wpAny_bind (wpAny_bind (wpAny_rule (wpAny_bind (wpAny_setScan_of hk hgo h2 h7.fits' h3 ?_))))
  cases hr:List.findIdx? (fun e=>knd.is k e.2) es.toList with
  | some j =>
   refine unEA (List.findIdx?_eq_some_iff_getElem.mp hr) fun hj hpj _=>?_
   have hkl:k∈l:=(hmem k).mpr (inEA (es.toList[j]) (List.getElem_mem hj) hpj)
   refine wpAny_pure (wpAny_pure ?_)
   have F1:=F.at (s':=s) (F.new hg) (F.see _ _ hg).2.2.1 (F.see _ _ hg).2.2.2 (fun _ _ _ e=>e) hgo rfl rfl
   exact h s o false F1 (by unfold ins; rw [if_pos hkl]; exact hSo.up (.upd hg hSo.notTup)) ⟨fun q=>(ftP q),fun q=>absurd hkl q⟩
  | none =>
   have hkl:k∉l:=fun q=>by
    refine unEA ((hmem k).mp q) fun e he hp=>?_
    have:=List.findIdx?_eq_none_iff.mp hr e he
    have hp:knd.is k e.2=true:=hp
    rw [hp] at this; exact Bool.noConfusion this
   have h:=fun s' o' f g=>h s' o' true f g ⟨fun _=>hkl,fun _=>rfl⟩
   refine unEEAAAAAA (layNew_ok h7 (knd.hash k) x) fun es1 t1 e1 p1 l1 m1 f1 sz1 T1=>?_
   have e1:layNew t es ((kdOf knd).hash k) x=(es1,t1,false,false):=e1
   rw [e1]
   dsimp only
   refine wpAny_bind (wpAny_pure ?_)
   have fin:∀ (t2:SetTable),t2.fits es1.size=true→t2.led=t1.led→t2.mask=t1.mask→t2.place=t1.place→t2.dummies=t1.dummies →
     wpAny (model c.prog c.w) A (do
      storeSet a es1 t2
      if (!false&&t2.tooFull)=true then do
        (match (relayAll t2 es1 (SetTable.grown es1.size)).2.2 with | true=>rule "set.scan.the-table-gave-way" | false=>pure ())
        storeSet a (relayAll t2 es1 (SetTable.grown es1.size)).1 (relayAll t2 es1 (SetTable.grown es1.size)).2.1
        pure (some true)
       else pure (some true)) (fun r s'=>wpAny (model c.prog c.w) A (match r with | some added=>pure added | none=>setAddHashedIn a x (knd.hash k) 99999) Q E s') E s:=by
    intro t2 f2 ld2 m2 pl2 dm2
    have F1:=F.upd hg (Obj.putSet es1 t2) (by rw [putSet_of es1 t2 h2]; rfl) (t:=s.toks) (d:=s.drawn)
    rw [putSet_of es1 t2 h2] at F1
    have hfull:t2.tooFull=t1.tooFull:=by unfold SetTable.tooFull SetTable.fill; rw [pl2,dm2,m2]
    have up1:Tups G (upd G a { o with data:=.set es1 (ep+1) t2 }):=.upd hg hSo.notTup
    refine wpAny_bind (wpAny_storeSet_of hgo h2 ?_ (fits_of_scanBound (by unfold scanBound; exact a30 1829399554218907308142806872279312704209176 hl hsz sz1)))
    split
    ·rename_i hc
     (refine unEEAAAAA (relayAll_ok (es:=es1) t2 (wanted:=SetTable.grown es1.size) (by unfold SetTable.grown; split <;> (first | exact a10 48551830481928586266902 | exact a10 48551830552297330444566)) (by unfold SetTable.grown; split <;> (first | exact a30 69112761108960305031220045019236419603056442246549454802542135576 hl hsz sz1 ‹_› | exact a30 6454035844052457798945305613349827997961960363659544 hl hsz sz1))) fun es2 t3 e2 p2 sz2 T2 l2 m3=>?_)
     rw [e2]
     dsimp only
     have g1:=F1.get (upd_self _ _ _)
     refine wpAny_bind (wpAny_pure ?_)
     have F2:=F1.upd (upd_self _ _ _) (Obj.putSet es2 t3) rfl (t:=s.toks) (d:=s.drawn)
     refine wpAny_bind (wpAny_storeSet_of g1 rfl ?_ (fits_of_scanBound (by unfold scanBound; exact a40 61384462942868638385380859485028946929425213030681 hl hsz sz1 sz2)))
     refine wpAny_pure (wpAny_pure ?_)
     have hS2:SetIs (kdOf knd) G { o with data:=.set es2 (ep+1+1) t3 } (ins k l) :=
      SetIs.added h1 h4 h5 h6 hkl hk (p2.trans p1) T2 m3 fun q=>l2.trans (ld2.trans (l1.trans (h9 q)))
     have e4:upd (upd G a { o with data:=.set es1 (ep+1) t2 }) a { o with data:=.set es2 (ep+1+1) t3 }=upd G a { o with data:=.set es2 (ep+1+1) t3 }:=by
      funext b; unfold upd; split <;> rfl
     have F2:Fx c O L (upd (upd G a { o with data:=.set es1 (ep+1) t2 }) a { o with data:=.set es2 (ep+1+1) t3 }) m _:=F2
     rw [e4] at F2
     exact h _ _ F2 (hS2.up (.upd hg hSo.notTup))
    ·rename_i hc
     have hnf:t1.tooFull=false:=by rw [← hfull]; simpa using hc
     have hS2:SetIs (kdOf knd) G { o with data:=.set es1 (ep+1) t2 } (ins k l) :=
      SetIs.added h1 h4 h5 h6 hkl hk p1 ((T1 hnf).turn m2 pl2 dm2) (by exact a30 1786847520720560094835018334094779785496 h8 m1 m2) fun q=>ld2.trans (l1.trans (h9 q))
     refine wpAny_pure (wpAny_pure ?_)
     exact h _ _ F1 (hS2.up up1)
   split
   ·refine wpAny_bind ?_
    rw [hashByValue_scannable 8 (hsc _ _ hk)]
    refine wpAny_pure ?_
    have hc:∀ (b:Bool),(if b=true then t1 else { t1 with plain:=false })=t1∨(if b=true then t1 else { t1 with plain:=false })={ t1 with plain:=false }:=fun b=>by cases b; exact .inr rfl; exact .inl rfl
    rcases hc (plainKind x) with e | e
    ·rw [e]; exact fin _ f1 rfl rfl rfl rfl
    ·rw [e]; exact fin _ f1 rfl rfl rfl rfl
   ·refine wpAny_bind (wpAny_pure ?_)
    exact fin _ f1 rfl rfl rfl rfl
end
end
section
open PySem PySem.W PySem.Calls PyProof.Rows PySem.SetTable
section
variable {M:Model} {prog:Program} {w:World} {A:Around} {E:Value→Shared→Prop} {s:Shared} {a:Addr} {o:Obj} {es:Array (Int×Value)} {ep:Nat} {t:SetTable} {x:Value} {h:Int} {adding:Bool}
theorem isSame_self {y:Value} {Q:Bool→Shared→Prop} (hy:∃ b,y=.ref b) (hq:Q true s):wpAny (model prog w) A (isSame y y) Q E s:=by
 refine unE hy fun b y1=>?_; clear hy; subst y1
 unfold isSame
 dsimp only
 rw [if_pos (beq_self_eq_true b)]
 exact wpAny_pure hq
theorem search_go {tst:Nat→Bool} (hg:s.heap.get? a=some o) (hd:o.data=.set es ep t) (T:TOk t (es.toList.map (·.1)))
  (hrefs:∀ e∈es.toList,∃ b,e.2=.ref b)
  (hcs:∀ (l:List Value) (Q:Bool→Shared→Prop),(∀ v∈l,∃ e∈es.toList,e.2=v)→Q false s→wpAny (model prog w) A (searchCouldBeSeen x l) Q E s)
  (heq:∀ (i:Nat) (y:Value) (Q:Bool→Shared→Prop),es[i]?=some (h,y)→Q (tst i) s→wpAny (model prog w) A (eqBool y x) Q E s) :
  ∀ (l:List Nat) (n:Nat) (p:Probe) (pre:List Nat) (fuel:Nat) (stand:Option Probe) (Q:SetFound→Shared→Prop),pw t.mask n p=l→stand.getD (t.probeStart h)=p→walkOf t.mask h=pre++l →
   (∀ z∈pre,∃ i,t.place[i]?=some z∧((es.toList.map (·.1))[i]?=some h→tst i=false))→p.dummy=none→l.length<fuel →
   (∀ i,(es.toList.map (·.1))[i]?=some h→tst i=true→Q (.there (if adding then none else some i)) s) →
   (∀ j,(∀ i,(es.toList.map (·.1))[i]?=some h→tst i=false)→j∉t.place.toList→j≤t.mask→Reach t.mask t.place.toList h j→Q (.free j false) s) →
   wpAny (model prog w) A (setSearchFrom a x h adding fuel stand) Q E s:=by
 intro l
 induction hlen:l.length using Nat.strongRecOn generalizing l with
 | ind len ih =>
 intro n p pre fuel stand Q hp hst hw hpre hdm hf hthere hfree
 subst hlen
 cases fuel with
 | zero=>exact False.elim (a10 1383125 hf)
 | succ fuel =>
 refine wpAny_bind (wpAny_setState_of hg hd T.fits' ?_)
 dsimp only
 rw [T.even,hst]
 simp only [Bool.false_eq_true,↓reduceIte]
 have hole:∃ q∈l,q∉t.place.toList:=by
  refine unEA (T.hole h) fun q hq hn=>?_
  rw [hw] at hq
  rcases List.mem_append.mp hq with hq | hq
  ·refine unEA (hpre q hq) fun i hi _=>?_
   exact absurd (List.mem_of_getElem? (by rw [Array.getElem?_toList]; exact hi)) hn
  ·exact (inEA q hq hn)
 have hlen:l.length≤10*turns t.mask:=by
  have:=walk_len t.mask h
  rw [hw,List.length_append] at this
  exact a30 1667911277637591089976094769555735 this
 refine unEEEAA (probe_go T.asc T.nod (fun i=>(es[i]?.map (·.1)).getD 0) h l n (10*turns t.mask) p hp hlen hdm hole) fun pre2 q post e1 e2 e3=>?_
 have hpre2:∀ z∈pre2,∃ i,t.place[i]?=some z∧((es.toList.map (·.1))[i]?=some h→tst i=false):=fun z hz=>by
  refine unEA (e2 z hz) fun i h1 h2=>?_
  refine (inEA i h1 (fun hh=>?_))
  rw [List.getElem?_map,Array.getElem?_toList] at hh
  exact absurd (by rw [hh]; rfl) h2
 rcases e3 with ⟨hq,hpr⟩ | ⟨i,next,n',hn',hpl,hh,hpr,hnd,hnx⟩
 ·have hpr:t.probe (fun i=>(es[i]?.map (·.1)).getD 0) h p=some (.empty q none):=hpr
  generalize hm:SetTable.probe t _ h p=met
  obtain rfl:met=some (.empty q none):=hm.symm.trans hpr
  refine wpAny_pure (hfree q ?_ hq ?_ ?_)
  ·intro i hi
   have hil:i<t.place.size:=by rw [T.len]; exact (List.getElem?_eq_some_iff.mp hi).1
   have hpi:t.place[i]?=some t.place[i]:=Array.getElem?_eq_getElem hil
   refine unEEA (T.reach i _ h hpi hi) fun p0 q0 w0 full=>?_
   have hmem:t.place[i]∈t.place.toList:=List.mem_of_getElem? (by rw [Array.getElem?_toList]; exact hpi)
   have hin:t.place[i]∈pre++pre2:=by
    have w1:(pre++pre2)++q::post=p0++t.place[i]::q0:=by rw [← w0,hw,e1,List.append_assoc]
    have hlt:p0.length<(pre++pre2).length:=by
     rcases Nat.lt_or_ge p0.length (pre++pre2).length with h | h
     ·exact h
     ·exfalso
      have g1:((pre++pre2)++q::post)[(pre++pre2).length]?=some q:=by simp
      rw [w1,List.getElem?_append] at g1
      by_cases c:(pre++pre2).length<p0.length
      ·rw [if_pos c] at g1; exact hq (full q (List.mem_of_getElem? g1))
      ·have:(pre++pre2).length - p0.length=0:=by exact Nat.le_antisymm (a30 49278172487082970227928 h (Nat.sub_add_cancel (a20 1605982267095 c))) (a10 42694)
       rw [if_neg c,this] at g1
       simp at g1
       exact hq (g1▸hmem)
    have g2:(p0++t.place[i]::q0)[p0.length]?=some t.place[i]:=by simp
    rw [← w1,List.getElem?_append,if_pos hlt] at g2
    exact List.mem_of_getElem? g2
   have hvis:∀ z∈pre++pre2,∃ i,t.place[i]?=some z∧((es.toList.map (·.1))[i]?=some h→tst i=false):=fun z hz=>by
    rcases List.mem_append.mp hz with hz | hz
    ·exact hpre z hz
    ·exact hpre2 z hz
   refine unEA (hvis _ hin) fun i' h1 h2=>?_
   have:i'=i:=by
    have:=below_at T.asc h1
    have:=below_at T.asc hpi
    exact Nat.le_antisymm (a30 51581979836064769815 ‹_› this) (a30 50429058365817661176 ‹_› this)
   (replace this:=this.symm; clear h1; subst this)
   exact h2 hi
  ·have hq':q∈walkOf t.mask h:=by rw [hw,e1]; simp
   exact wk_le (Nat.le_of_lt_succ (Nat.mod_lt _ (Nat.succ_pos _))) q hq'
  ·refine (inEEA (pre++pre2) post (by rw [hw,e1,List.append_assoc]) (fun z hz=>?_))
   rcases List.mem_append.mp hz with hz | hz
   ·refine unEA (hpre z hz) fun i hi _=>?_; exact List.mem_of_getElem? (by rw [Array.getElem?_toList]; exact hi)
   ·refine unEA (hpre2 z hz) fun i hi _=>?_; exact List.mem_of_getElem? (by rw [Array.getElem?_toList]; exact hi)
 ·have hpr:t.probe (fun i=>(es[i]?.map (·.1)).getD 0) h p=some (.candidate q i next):=hpr
  generalize hm:SetTable.probe t _ h p=met
  obtain rfl:met=some (.candidate q i next):=hm.symm.trans hpr
  dsimp only
  have hil:i<es.size:=by
   have:=T.len
   have:=(Array.getElem?_eq_some_iff.mp hpl).1
   simp at *
   exact a30 49276136826884631318 ‹_› this
  obtain ⟨h',y,hey⟩:∃ h' y,es[i]?=some (h',y):=(inEE (es[i].1) (es[i].2) (Array.getElem?_eq_getElem hil))
  have hh':h'=h:=by rw [hey] at hh; exact hh
  clear hst e2 hh hpr hm; subst hh'
  have hhs:(es.toList.map (·.1))[i]?=some h':=by rw [List.getElem?_map,Array.getElem?_toList,hey]; rfl
  have hyr:∃ b,y=.ref b:=hrefs (h',y) (List.mem_of_getElem? (by rw [Array.getElem?_toList]; exact hey))
  have cont:wpAny (model prog w) A (do
    let some (_,y):=es[i]? | unsupported "internal:set-entry"
    let equal ← holding [y] (eqBool y x)
    let (es',_,t') ← setState a
    if adding&&equal then return SetFound.there none
    let some same:=t'.sameMemory t.moves t.mask | unsupported "set.changed-during-lookup:is-the-new-block-at-the-old-address"
    let still ← match (if same then t'.slot q else .empty) with
     | .live i'=>match es'[i']? with
      | some (_,y')=>do pure (if ← isSame y' y then some i' else none)
      | none=>pure none
     | _=>pure none
    match still with
    | none=>rule "set.search.anew"; setSearchFrom a x h' adding fuel none
    | some i'=>if equal then return .there (some i') else setSearchFrom a x h' adding fuel (some next)) Q E s:=by
   rw [hey]
   dsimp only
   refine wpAny_bind (wpAny_holding (heq i y _ hey ?_))
   refine wpAny_bind (wpAny_setState_of hg hd T.fits' ?_)
   dsimp only
   by_cases hae:(adding&&tst i)=true
   ·rw [if_pos hae]
    rw [Bool.and_eq_true] at hae
    have:=hthere i hhs hae.2
    rw [if_pos hae.1] at this
    exact wpAny_pure this
   ·rw [if_neg hae]
    have hsm:t.sameMemory t.moves t.mask=some true:=by unfold SetTable.sameMemory; simp
    rw [hsm]
    simp only [↓reduceIte]
    rw [slot_live T.asc hpl]
    dsimp only
    rw [hey]
    refine wpAny_bind (isSame_self hyr (wpAny_bind (wpAny_pure ?_)))
    cases ht:tst i with
    | true =>
     have hnot:adding=false:=by
      cases adding with
      | false=>rfl
      | true=>rw [ht] at hae; exact absurd rfl hae
     have:=hthere i hhs ht
     rw [hnot] at this
     exact wpAny_pure this
    | false =>
     refine ih post.length ?_ post rfl n' next (pre++pre2++[q]) fuel (some next) Q hnx rfl ?_ ?_ hnd ?_ hthere hfree
     ·rw [e1]; simp; exact Nat.le_add_left _ _
     ·rw [hw,e1]; simp
     ·intro z hz
      rcases List.mem_append.mp hz with hz | hz
      ·rcases List.mem_append.mp hz with hz | hz
       ·exact hpre z hz
       ·exact hpre2 z hz
      ·rw [List.mem_singleton] at hz
       (replace hz:=hz.symm; subst hz)
       exact (inEA i hpl (fun _=>ht))
     ·rw [e1] at hf; simp at hf; exact a30 1550958683422942341911 hf
  by_cases hled:(!t.led)=true
  ·rw [if_pos hled]
   refine wpAny_bind (hcs _ _ ?_ ?_)
   ·intro v hv
    refine unEA (List.mem_map.mp hv) fun e he y2=>?_; clear hv; subst y2
    exact (inEA e (by have:=(Array.mem_filter.mp (Array.mem_toList_iff.mp he)).1; exact Array.mem_toList_iff.mpr this) rfl)
   ·simp only [Bool.false_eq_true,↓reduceIte]
    exact cont
  ·rw [if_neg hled]
   exact cont
end
end
section
open PySem PySem.W PySem.Calls PyProof.Rows PySem.SetTable
noncomputable abbrev kInt (c:Cx):Kd c Int:=kdOf (intKind c.prog c.w)
noncomputable abbrev kStr (c:Cx):Kd c Str:=kdOf (PySem.strKind c.prog c.w)
theorem isKI {c:Cx} {G:View} {i:Int} {t:Tok}:(kInt c).is G i (.int i t):=by simp [kdOf,intKind,Value.isInt]
theorem isKS {c:Cx} {G:View} {x:Str} {t:Tok}:(kStr c).is G x (.str x t):=by simp [kdOf,PySem.strKind,Value.isStrOf]
noncomputable abbrev kTup (c:Cx):Kd c (List Int):=kdTup (intKind c.prog c.w)
section
variable {prog:Program} {w:World} {A:Around} {E:Value→Shared→Prop} {s:Shared}
noncomputable def IsInt (v:Value):Prop:=∃ n t,v=.int n t
theorem itemsAre_ints {ks:List Int} {vs:List Value} (h:ItemsAre (intKind prog w) ks vs):∀ v∈vs,IsInt v:=by
 induction h with
 | nil=>intro v hv; cases hv
 | @cons k v ks vs h1 _ ih =>
  intro u hu
  rcases List.mem_cons.mp hu with rfl | hu
  ·refine unE (Value.isInt_shape h1) fun t e=>?_; exact (inEE k t e)
  ·exact ih u hu
theorem ofAClass_tuple {a:Addr} {ks:List Int} {Q:Bool→Shared→Prop} (hk:IsTupleKey (intKind prog w) s.heap ks a) (h:Q false s):wpAny (model prog w) A (ofAClassStatement 8 (.ref a)) Q E s:=by
 have hT:=hk.typeIs
 refine unEEEAAA hk fun o items n ho _ hd hi=>?_; clear hk
 unfold ofAClassStatement
 refine wpAny_bind (wpAny_typeOf hT ?_)
 refine wpAny_bind (wpAny_pure ?_)
 refine wpAny_bind (wpAny_seqItems ho hd ?_)
 refine wpAny_bind ?_
 rw [← Array.forIn_toList]
 refine wpAny_forIn_list _ (fun rest r s'=>r=(none,())∧s'=s∧∀ v∈rest,IsInt v) _ ?_ ?_ _ _ (inAA rfl rfl (itemsAre_ints hi))
 ·intro v rest r s' z1; refine unAA z1 fun y1 y2 hall=>?_; clear z1; subst y1; (replace y2:=y2.symm; subst y2)
  refine unEE (hall v List.mem_cons_self) fun k t y3=>?_; subst y3
  refine wpAny_bind (wpAny_pure ?_)
  exact wpAny_pure (inAA rfl rfl (fun u hu'=>hall u (List.mem_cons_of_mem _ hu')))
 ·intro r s' z2; refine unAA z2 fun y4 y5 _=>?_; clear z2; subst y4; (replace y5:=y5.symm; subst y5)
  exact wpAny_pure h
theorem hashByValue_tuple {a:Addr} {ks:List Int} {Q:Bool→Shared→Prop} (hk:IsTupleKey (intKind prog w) s.heap ks a) (h:Q true s):wpAny (model prog w) A (hashByValue 8 (.ref a)) Q E s:=by
 have hT:=hk.typeIs
 refine unEEEAAA hk fun o items n ho _ hd hi=>?_; clear hk
 refine wpAny_bind (wpAny_specialOf hT F.slot_tuple_hash.lookup ?_)
 show wpAny _ _ (do
   let its ← seqItems? (.ref a)
   for x in (its.getD #[.ellipsis]) do
    if !(← hashByValue 7 x) then return false
   return true) _ _ _
 refine wpAny_bind (wpAny_seqItems ho hd ?_)
 dsimp only [Option.getD_some]
 refine wpAny_bind ?_
 rw [← Array.forIn_toList]
 refine wpAny_forIn_list _ (fun rest r s'=>r=(none,())∧s'=s∧∀ v∈rest,IsInt v) _ ?_ ?_ _ _ (inAA rfl rfl (itemsAre_ints hi))
 ·intro v rest r s' z3; refine unAA z3 fun y6 y7 hall=>?_; clear z3; subst y6; (replace y7:=y7.symm; subst y7)
  refine unEE (hall v List.mem_cons_self) fun k t y8=>?_; subst y8
  refine wpAny_bind (wpAny_pure ?_)
  exact wpAny_pure (inAA rfl rfl (fun u hu'=>hall u (List.mem_cons_of_mem _ hu')))
 ·intro r s' z4; refine unAA z4 fun y9 y10 _=>?_; clear z4; subst y9; (replace y10:=y10.symm; subst y10)
  exact wpAny_pure h
noncomputable def Quiet (prog:Program) (w:World) (s:Shared) (x:Value):Prop :=
 ∀ (A:Around) (E:Value→Shared→Prop) (Q:Bool→Shared→Prop),(Q true s→wpAny (model prog w) A (eqIsQuiet 8 x) Q E s)∧(Q false s→wpAny (model prog w) A (ofAClassStatement 8 x) Q E s)
theorem quiet_tuple {a:Addr} {ks:List Int} (hk:IsTupleKey (intKind prog w) s.heap ks a):Quiet prog w s (.ref a):=fun _ _ _=>⟨fun h=>wpAny_eqIsQuiet_tuple hk h,fun h=>ofAClass_tuple hk h⟩
theorem quiet_none:Quiet prog w s .none:=fun _ _ _=>⟨fun h=>wpAny_pure h,fun h=>wpAny_pure h⟩
theorem couldBeSeen_false {x:Value} {l:List Value} {Q:Bool→Shared→Prop} (hx:Quiet prog w s x) (hl:∀ y∈l,Quiet prog w s y) (h:Q false s):wpAny (model prog w) A (searchCouldBeSeen x l) Q E s:=by
 refine wpAny_bind ?_
 refine wpAny_forIn_list _ (fun rest r s'=>r=(none,())∧s'=s∧∀ v∈rest,Quiet prog w s v) _ ?_ ?_ _ _ (inAA rfl rfl hl)
 ·intro v rest r s' z5; refine unAA z5 fun y11 y12 hall=>?_; clear z5; subst y11; clear hl h; subst y12
  have next:∀ u∈rest,Quiet prog w s' u:=fun u hu'=>hall u (List.mem_cons_of_mem _ hu')
  dsimp only
  split <;> (
   split
   ·exact wpAny_pure (inAA rfl rfl next)
   ·refine wpAny_bind ((hx _ _ _).1 ?_)
    refine wpAny_bind ((hall _ List.mem_cons_self _ _ _).1 ?_)
    refine wpAny_bind ((hx _ _ _).2 ?_)
    refine wpAny_bind ((hall _ List.mem_cons_self _ _ _).2 ?_)
    exact wpAny_pure (inAA rfl rfl next))
 ·intro r s' z6; refine unAA z6 fun y13 y14 _=>?_; clear z6; subst y13; (replace y14:=y14.symm; subst y14)
  exact wpAny_pure h
theorem byScan_ref {a:Addr} {es:Array (Int×Value)}:byScan (.ref a) es=false:=rfl
theorem setLine {n:Nat} (h:n<4000):n≤sizeLine:=by rw [sizeLine_eq]; exact Nat.le_trans (Nat.le_of_lt h) (by decide)
theorem setRelay_ok {a:Addr} {o:Obj} {es:Array (Int×Value)} {ep:Nat} {t:SetTable} {wanted:Nat} {Q:Unit→Shared→Prop} (hg:s.heap.get? a=some o) (hd:o.data=.set es ep t) (hf:t.fits es.size=true) (hn:es.size<2000)
  (hw:es.size*2≤wanted) (hw2:wanted≤4400)
  (h:∀ es' t',es'.toList.Perm es.toList→es'.size=es.size→TOk t' (es'.toList.map (·.1))→t'.led=t.led→t'.mask<9000→wanted≤t'.mask→Q () { s with heap:=s.heap.update a (Obj.putSet es' t') }) :
  wpAny (model prog w) A (setRelay a wanted) Q E s:=by
 refine wpAny_bind (wpAny_setState_of hg hd hf ?_)
 dsimp only
 have hs:=SetTable.sizeAbove wanted
 rw [if_neg (by have:=sizeAbove_le wanted; rw [sizeLine_eq]; lia)]
 refine unEEAAAAAAAA (relay_ok (es:=es) t hw hw2) fun t' order e1 e0 e2 e3 e4 e5 e6 e7 e8=>?_
 rw [e1]
 change wpAny _ _ (do
  let (es,t) ← (do
   let some (t,order):=some (t',order) | unsupported "internal:set-table-without-room"
   let es':=order.filterMap (es[·]?)
   if es'.size != es.size then unsupported "internal:set-table-lost-an-element"
   pure (es',t))
  storeSet a es t) _ _ _
 dsimp only
 refine wpAny_bind ?_
 rw [if_neg (by rw [e3]; simp)]
 refine wpAny_pure ?_
 exact wpAny_storeSet_of hg hd (h _ _ e2 e3 e4 e5 e8 e7) (setLine (by exact a20 53243743389430909498006714614039 hn e3))
end
section
variable {c:Cx}
theorem kTup_key {O:List (Addr×Obj)} {L:Addr} {G:View} {m:Str→Option Value} {s:Shared} {k:List Int} {v:Value} (F:Fx c O L G m s) (h:(kTup c).is G k v):∃ a,v=.ref a∧IsTupleKey (intKind c.prog c.w) s.heap k a:=by
 refine unEEEEAAAA h fun a o items n h1 h2 h3 h4 h5=>?_; clear h
 exact (inEA a h1 (inEEEAAA o items n (F.get h2) h3 h4 h5))
section
variable {O:List (Addr×Obj)} {L:Addr} {G:View} {m:Str→Option Value} {s:Shared} {A:Around} {E:Value→Shared→Prop} {k:List Int} {x:Value} {a:Addr} {o:Obj} {l:List (List Int)} {es:Array (Int×Value)} {ep:Nat} {t:SetTable} {ks:List (List Int)}
theorem tup_search {adding:Bool} {Q:SetFound→Shared→Prop} (F:Fx c O L G m s) (hu:A.units<cLine) (hk:(kTup c).is G k x) (hg:G a=some o) (hd:o.data=.set es ep t) (T:TOk t (es.toList.map (·.1))) (hmask:t.mask<9000)
  (hz:Zip2 ((kTup c).Elt G) es.toList ks)
  (h1:∀ i:Nat,k∈ks→Q (.there (if adding then none else some i)) s)
  (h2:∀ j,k∉ks→j∉t.place.toList→j≤t.mask→Reach t.mask t.place.toList ((kTup c).hash k) j→Q (.free j false) s) :
  wpAny (model c.prog c.w) A (setSearch a x ((kTup c).hash k) adding) Q E s:=by
 refine unEA (kTup_key F hk) fun ax y15 hkx=>?_; clear hk; subst y15
 have hq:∀ e∈es.toList,Quiet c.prog c.w s e.2:=fun e he=>by
  refine unEAA (hz.left he) fun k' _ r _=>?_
  refine unEA (kTup_key F r) fun b e2 hb=>?_
  rw [e2]; exact quiet_tuple hb
 have back:∀ i,(decide (ks[i]?=some k))=true→k∈ks:=fun i hi=>List.mem_of_getElem? (of_decide_eq_true hi)
 refine search_go (tst:=fun i=>decide (ks[i]?=some k)) (F.get hg) hd T ?_ ?_ ?_ _ _ _ [] 100000 none Q (pw_start t _) rfl rfl (fun z hz=>(niP hz)) rfl ?_ ?_ ?_
 ·intro e he
  refine unEAA (hz.left he) fun k' _ r _=>?_
  refine unEA (kTup_key F r) fun b e2 _=>?_
  exact ⟨b,e2⟩
 ·intro l' Q' hl' hq'
  refine couldBeSeen_false (quiet_tuple hkx) (fun y hy=>?_) hq'
  refine unEA (hl' y hy) fun e he e2=>?_
  exact e2▸hq e he
 ·intro i y Q' hey hq'
  have hl:es.toList[i]?=some ((kTup c).hash k,y):=by rw [Array.getElem?_toList]; exact hey
  have hil:i<ks.length:=by rw [← hz.length]; exact (List.getElem?_eq_some_iff.mp hl).1
  have hr:=hz.get hl (List.getElem?_eq_getElem hil)
  refine unEA (kTup_key F hr.1) fun b e2 hb=>?_
  dsimp only at e2
  clear hey hl hr; subst e2
  refine wpAny_eqBool_tuple hu hb hkx ?_
  have:decide (ks[i]=k)=decide (ks[i]?=some k):=by rw [List.getElem?_eq_getElem hil]; simp
  rw [this]; exact hq'
 ·have:=walk_len t.mask ((kTup c).hash k)
  unfold SetTable.turns at this
  exact a20 482308084866767835506974333327997387931043854188823 hmask this
 ·intro i _ hi
  exact h1 i (back i hi)
 ·intro j hall hj hjm hr
  refine h2 j (fun hin=>?_) hj hjm hr
  refine unE (List.mem_iff_getElem?.mp hin) fun i hi=>?_
  refine unEAA (hz.at hi) fun e he r1 r2=>?_
  have:=hall i (by rw [List.getElem?_map,he,← r2]; rfl)
  rw [decide_eq_true hi] at this
  exact Bool.noConfusion this
theorem kdsTup:KdS (kTup c) where
 find:=fun {O L G m s A E k x a o l Q} F hu hk hg hS hl h=>by
  refine unAEEEEAAAAAA hS fun h1 es ep t ks h2 h4 h5 h6 h7 h8 h9=>?_; clear hS
  refine unEA (kTup_key F hk) fun ax y16 _=>?_; subst y16
  refine wpAny_bind (wpAny_setState_of (F.get hg) h2 h7.fits' ?_)
  dsimp only
  rw [byScan_ref]
  refine wpAny_bind (tup_search F hu hk hg h2 h7 h8 h4 ?_ ?_)
  ·intro i hin
   refine wpAny_pure (h _ ?_)
   exact ⟨fun _=>h5.mem_iff.mp hin,fun _=>rfl⟩
  ·intro j hno _ _ _
   refine wpAny_pure (h _ ?_)
   exact ⟨fun q=>(ftP q),fun q=>absurd (h5.mem_iff.mpr q) hno⟩
 add:=fun {O L G m s A E k x a o l Q} F hu hk hg hS hl h=>by
  have hSo:=hS
  refine unAEEEEAAAAAA hS fun h1 es ep t ks h2 h4 h5 h6 h7 h8 h9=>?_; clear hS
  refine unEA (kTup_key F hk) fun ax y17 hkx=>?_; subst y17
  have hsz:es.size=l.length:=by rw [← Array.length_toList,h4.length,h5.length_eq]
  have hgo:=F.get hg
  refine wpAny_holding (wpAny_bind (wpAny_setState_of hgo h2 h7.fits' ?_))
  dsimp only
  rw [byScan_ref]
  refine wpAny_bind (tup_search F hu hk hg h2 h7 h8 h4 ?_ ?_)
  ·intro i hin
   refine wpAny_pure ?_
   have hkl:=h5.mem_iff.mp hin
   have F1:=F.at (s':=s) (F.new hg) (F.see _ _ hg).2.2.1 (F.see _ _ hg).2.2.2 (fun _ _ _ e=>e) hgo rfl rfl
   exact h s o false F1 (by unfold ins; rw [if_pos hkl]; exact hSo.up (.upd hg hSo.notTup)) ⟨fun q=>(ftP q),fun q=>absurd hkl q⟩
  ·intro j hno hj hjm hr
   have hkl:k∉l:=fun q=>hno (h5.mem_iff.mpr q)
   have h:=fun s' o' f g=>h s' o' true f g ⟨fun _=>hkl,fun _=>rfl⟩
   refine wpAny_bind (wpAny_setState_of hgo h2 h7.fits' ?_)
   refine unEEAAAAAAA (put_ok (x:=.ref ax) h7 hj hjm hr) fun t1 p e1 p1 l1 pl1 m1 f1 sz1 T1=>?_
   rw [e1]
   have hin:(insertAt es p ((kTup c).hash k,Value.ref ax)).size<2000:=by rw [sz1]; exact a20 54520355290737965945683974543377655 hl hsz
   have fin:∀ (t2:SetTable),t2.fits (es.size+1)=true→t2.led=t1.led→t2.mask=t1.mask→t2.place=t1.place→t2.dummies=t1.dummies →
     wpAny (model c.prog c.w) A (do
      storeSet a (insertAt es p ((kTup c).hash k,Value.ref ax)) t2
      if (!false&&t2.tooFull)=true then do
        setRelay a (SetTable.grown (es.size+1))
        pure true
       else pure true) Q E s:=by
    intro t2 f2 ld2 m2 pl2 dm2
    have F1:=F.upd hg (Obj.putSet (insertAt es p ((kTup c).hash k,Value.ref ax)) t2) (by rw [putSet_of _ t2 h2]; rfl) (t:=s.toks) (d:=s.drawn)
    rw [putSet_of _ t2 h2] at F1
    have hfull:t2.tooFull=t1.tooFull:=by unfold SetTable.tooFull SetTable.fill; rw [pl2,dm2,m2]
    have up1:Tups G (upd G a { o with data:=.set (insertAt es p ((kTup c).hash k,Value.ref ax)) (ep+1) t2 }):=.upd hg hSo.notTup
    refine wpAny_bind (wpAny_storeSet_of hgo h2 ?_ (setLine (by exact Nat.lt_of_lt_of_le ‹_› (by decide))))
    split
    ·rename_i hc
     have g1:=F1.get (upd_self _ _ _)
     refine wpAny_bind (setRelay_ok g1 rfl (by rw [sz1]; exact f2) (by omega) (by rw [sz1]; unfold SetTable.grown; split <;> (first | exact a10 50910284198666300687521154294 | exact a10 50910284272453276982359360758)) (by unfold SetTable.grown; split <;> (first | exact a20 2109154086577157746314045751732988172476889395723620285940983 hl hsz ‹_› | exact a20 192345256926192575661582412188412641882146039 hl hsz)) ?_)
     intro es2 t3 p2 sz2 T2 l2 m3 _
     have F2:=F1.upd (upd_self _ _ _) (Obj.putSet es2 t3) rfl (t:=s.toks) (d:=s.drawn)
     refine wpAny_pure ?_
     have hS2:SetIs (kTup c) G { o with data:=.set es2 (ep+1+1) t3 } (ins k l) :=
      SetIs.added h1 h4 h5 h6 hkl hk (p2.trans p1) T2 m3 fun q=>l2.trans (ld2.trans (l1.trans (h9 q)))
     have e4:upd (upd G a { o with data:=.set (insertAt es p ((kTup c).hash k,Value.ref ax)) (ep+1) t2 }) a { o with data:=.set es2 (ep+1+1) t3 }=upd G a { o with data:=.set es2 (ep+1+1) t3 }:=by
      funext b; unfold upd; split <;> rfl
     have F2:Fx c O L (upd (upd G a { o with data:=.set (insertAt es p ((kTup c).hash k,Value.ref ax)) (ep+1) t2 }) a { o with data:=.set es2 (ep+1+1) t3 }) m _:=F2
     rw [e4] at F2
     exact h _ _ F2 (hS2.up (.upd hg hSo.notTup))
    ·rename_i hc
     have hnf:t1.tooFull=false:=by rw [← hfull]; simpa using hc
     have hS2:SetIs (kTup c) G { o with data:=.set (insertAt es p ((kTup c).hash k,Value.ref ax)) (ep+1) t2 } (ins k l) :=
      SetIs.added h1 h4 h5 h6 hkl hk p1 ((T1 hnf).turn m2 pl2 dm2) (by exact a30 1786847520720560094835018334094779785496 h8 m1 m2) fun q=>ld2.trans (l1.trans (h9 q))
     refine wpAny_pure ?_
     exact h _ _ F1 (hS2.up up1)
   split
   ·refine wpAny_bind (hashByValue_tuple hkx ?_)
    simp only [↓reduceIte]
    exact fin _ f1 rfl rfl rfl rfl
   ·refine wpAny_bind (wpAny_pure ?_)
    simp only [↓reduceIte]
    exact fin _ f1 rfl rfl rfl rfl
end
theorem kdsInt:KdS (kInt c):=kdsOf _ fun k v h=>by refine unE (Value.isInt_shape h) fun t y18=>?_; clear h; subst y18; rfl
theorem kdsStr:KdS (kStr c):=kdsOf _ fun k v h=>by refine unE (Value.isStrOf_shape h) fun t y19=>?_; clear h; subst y19; rfl
end
end
section
open PySem PySem.W PySem.Calls PyProof.Rows PySem.SetTable
noncomputable abbrev set0 (w:World):Obj:={ cls:=.type "set",dict:=none,data:=.set #[] 0 (.fresh 0 0 (!w.params.followText "set-order")) }
section
variable {prog:Program} {w:World} {A:Around} {E:Value→Shared→Prop} {s:Shared}
theorem newSet_ok {Q:Value→Shared→Prop} (h:Q (.ref s.heap.objs.size) { s with heap:=s.heap.push (set0 w) }):wpAny (model prog w) A (newSet (.type "set")) Q E s:=by
 refine wpAny_bind (wpAny_bind (wpAny_askSetting (wpAny_pure ?_)))
 exact wpAny_bind (wpAny_alloc (wpAny_pure h))
theorem setNew_ok {rest:List Value} {Q₁:Value→Shared→Prop} (hc:checkBuiltinCall "set.__new__" ⟨.type "set" :: rest,[]⟩=pure ())
  (h:Q₁ (.ref s.heap.objs.size) { s with heap:=s.heap.push (set0 w) }) :
  codeAny (model prog w) A (.call (.builtin "set.__new__") ⟨.type "set" :: rest,[]⟩) (wants Q₁ E) s:=by
 refine codeAny_of_tree ?_
 show wpAny _ A.in1 (do checkBuiltinCall "set.__new__" ⟨.type "set" :: rest,[]⟩; again (.builtin "set.__new__" ⟨.type "set" :: rest,[]⟩)) _ _ s
 refine wpAny_bind (wpAny_of_eq hc (wpAny_pure ⟨plainId_quiet PySem.F.plain_set_new _,codeAny_builtin PySem.F.entry_set_new ?_⟩))
 rw [Around.under_plainId PySem.F.plain_set_new _]
 have hsub:=sub_set_self
 obtain ⟨hp,g,d,tk,os⟩:=s
 wp_walk
 refine wpAny_askSetting (wpAny_pure ?_)
 refine wpAny_bind (wpAny_alloc (wpAny_pure ?_))
 exact wpAny_pure h
theorem call_set_any {rest:List Value} {Q:Value→Shared→Prop} (hct:checkTypeCall "set" ⟨rest,[]⟩=pure ()) (hnc:checkBuiltinCall "set.__new__" ⟨.type "set" :: rest,[]⟩=pure ())
  (hic:∀ {A:Around} {s:Shared} {self:Value} {Q':Unit→Shared→Prop},s.TypeIs self "set" → Q' () s→wpAny (model prog w) A (checkBuiltinCall "set.__init__" ⟨self::rest,[]⟩) Q' E s)
  (hb:wpAny (model prog w) A.in1.in1 (Builtin.«set.__init__» ⟨.ref s.heap.objs.size::rest,[]⟩) (fun fin s'=>fin=.done (.ret .none)∧Q (.ref s.heap.objs.size) s') E { s with heap:=s.heap.push (set0 w) }) :
  wpAny (model prog w) A (call (.type "set") rest) Q E s:=by
 refine unEE PySem.F.called_set.mro fun c tl hmro=>?_
 have hmade:=PySem.F.called_set.made
 have hsub:=PySem.F.called_set.sub
 refine wpAny_call (codeAny_of_tree ?_)
 refine wpAny_pure ⟨Code.quiet_builtin _ (by decide +kernel),codeAny_builtin PySem.F.entry_type_call ?_⟩
 rw [Around.under_plain (weight_type_call_type "set" rest []) rfl]
 have h1:=PySem.F.called_set.notType
 have h2:=PySem.F.called_set.canCreate
 repeat (any_goals (first | assumption | wp_step))
 refine codeAny_mono (setNew_ok (E:=E) (Q₁:=fun obj sJ1=>obj=.ref s.heap.objs.size∧sJ1={ s with heap:=s.heap.push (set0 w) }) hnc ⟨rfl,rfl⟩) fun r sJ1 hr=>?_
 cases r with
 | error e=>exact hr
 | ok fl =>
  cases fl with
  | ret obj =>
   obtain ⟨rfl,rfl⟩:=hr
   have hS:(s.heap.push (set0 w)).get? s.heap.objs.size=some (set0 w):=Heap.get?_push_size _ rfl
   have hT:Shared.TypeIs { s with heap:=s.heap.push (set0 w) } (.ref s.heap.objs.size) "set" := (inEA _ hS rfl)
   have hli:=PySem.F.called_set.init.lookup
   have hbi:=PySem.F.called_set.init.bind (.ref s.heap.objs.size)
   repeat (any_goals (first | assumption | wp_step))
   refine codeAny_mono (codeAny_call_builtin (R:=wants (fun r sJ2=>r=.none∧Q (.ref s.heap.objs.size) sJ2) E) PySem.F.called_set.init.plain PySem.F.entry_set_init (hic hT ?_)) fun rJ2 sJ2 hrJ2=>?_
   ·refine wpAny_mono hb (fun fin s' hq=>?_) fun _ _ x=>x
    obtain ⟨rfl,hq⟩:=hq
    exact ⟨rfl,hq⟩
   ·cases rJ2 with
    | error e=>exact hrJ2
    | ok flJ2 =>
     cases flJ2 with
     | ret r =>
      obtain ⟨rfl,hq⟩:=hrJ2
      repeat (any_goals (first | assumption | wp_step))
     | _=>exact hrJ2.elim
  | _=>exact hr.elim
end
end
section
section
variable {c:Cx} {O:List (Addr×Obj)} {L I a:Addr} {G:View} {m:Str→Option Value} {s s':Shared} {o o' oI oI':Obj}
theorem Fx.drop (F:Fx c ((I,oI)::O) L G m s):Fx c O L G m s :=
 ⟨F.X,F.T,F.ns,fun b o e=>(inAAA ((F.see b o e).1) ((F.see b o e).2.1) ((F.see b o e).2.2.1) (fun p hp=>(F.see b o e).2.2.2 p (.tail _ hp))),fun p hp=>F.out p (.tail _ hp),(List.nodup_cons.mp F.nd).2,F.keep,F.above,F.gens,F.os⟩
theorem Fx.hide (F:Fx c O L G m s) (o:Obj) (hf:o.isFreed=false:=by rfl) {t:Nat} {d:Drawn}:Fx c ((s.heap.objs.size,o)::O) L G m { s with heap:=s.heap.push o,toks:=t,drawn:=d }:=by
 have up:∀ b x,s.heap.get? b=some x→(s.heap.push o).get? b=some x:=fun b x e=>Heap.get?_push_of_some _ e
 refine ⟨F.X,F.T,?_,fun b x e=>?_,fun p hp=>?_,?_,fun b x e=>up b x (F.keep b x e),F.above,F.gens,F.os⟩
 ·refine unEEEA F.ns fun ol es ep hol r=>?_; exact (inEEEA ol es ep (up _ _ hol) r)
 ·refine unAAA (F.see b x e) fun q1 q2 q3 q4=>?_
  refine (inAAA q1 (up b x q2) q3 (fun p hp=>?_))
  rcases List.mem_cons.mp hp with rfl | hp
  ·exact Nat.ne_of_gt (Heap.lt_size q2)
  ·exact q4 p hp
 ·rcases List.mem_cons.mp hp with rfl | hp
  ·exact (inAA (Heap.get?_push_size _ hf) (Nat.ne_of_gt F.ns.lt) F.newAt.1)
  ·exact ⟨up _ _ (F.out p hp).1,(F.out p hp).2⟩
 ·refine List.nodup_cons.mpr ⟨fun hm=>?_,F.nd⟩
  refine unEA (List.mem_map.mp hm) fun p hp e=>?_
  exact absurd (Heap.lt_size (F.out p hp).1) (by rw [e]; exact Nat.lt_irrefl _)
theorem Fx.turn (F:Fx c ((I,oI)::O) L G m s) (h1:∀ b x,b≠I→s.heap.get? b=some x→s'.heap.get? b=some x) (h2:s'.heap.get? I=some oI') (hg:s'.gens=s.gens) (ho:s'.os=s.os):Fx c ((I,oI')::O) L G m s':=by
 refine unAA (F.out _ (.head _)) fun _ iL ib=>?_
 refine ⟨F.X,F.T,?_,fun b x e=>?_,fun p hp=>?_,F.nd,fun b x e=>?_,F.above,hg.trans F.gens,ho.trans F.os⟩
 ·refine unEEEA F.ns fun ol es ep hol r=>?_; exact (inEEEA ol es ep (h1 _ _ (Ne.symm iL) hol) r)
 ·refine unAAA (F.see b x e) fun q1 q2 q3 q4=>?_
  refine (inAAA q1 (h1 b x (Ne.symm (q4 _ (.head _))) q2) q3 (fun p hp=>?_))
  rcases List.mem_cons.mp hp with rfl | hp
  ·exact q4 (I,oI) (.head _)
  ·exact q4 p (.tail _ hp)
 ·rcases List.mem_cons.mp hp with rfl | hp
  ·exact (inAA h2 iL ib)
  ·refine ⟨h1 _ _ (fun e=>?_) (F.out p (.tail _ hp)).1,(F.out p (.tail _ hp)).2⟩
   exact (List.nodup_cons.mp F.nd).1 (List.mem_map.mpr (inEA p hp e))
 ·refine h1 b x (fun e'=>?_) (F.keep b x e)
  (replace e':=e'.symm; subst e')
  rw [ib] at e; exact nnS e
theorem Fx.ended (F:Fx c ((I,oI)::O) L G m s) (h1:∀ b x,b≠I→s.heap.get? b=some x→s'.heap.get? b=some x) (hg:s'.gens=s.gens) (ho:s'.os=s.os):Fx c O L G m s':=by
 refine unAA (F.out _ (.head _)) fun _ iL ib=>?_
 refine ⟨F.X,F.T,?_,fun b x e=>?_,fun p hp=>?_,(List.nodup_cons.mp F.nd).2,fun b x e=>?_,F.above,hg.trans F.gens,ho.trans F.os⟩
 ·refine unEEEA F.ns fun ol es ep hol r=>?_; exact (inEEEA ol es ep (h1 _ _ (Ne.symm iL) hol) r)
 ·refine unAAA (F.see b x e) fun q1 q2 q3 q4=>?_
  exact (inAAA q1 (h1 b x (Ne.symm (q4 _ (.head _))) q2) q3 (fun p hp=>q4 p (.tail _ hp)))
 ·refine ⟨h1 _ _ (fun e=>?_) (F.out p (.tail _ hp)).1,(F.out p (.tail _ hp)).2⟩
  exact (List.nodup_cons.mp F.nd).1 (List.mem_map.mpr (inEA p hp e))
 ·refine h1 b x (fun e'=>?_) (F.keep b x e)
  (replace e':=e'.symm; subst e')
  rw [ib] at e; exact nnS e
theorem Fx.hid (F:Fx c ((I,oI)::O) L G m s):s.heap.get? I=some oI:=(F.out _ (.head _)).1
theorem Fx.grow (F:Fx c O L G m s) (h1:∀ b x,s.heap.get? b=some x→s'.heap.get? b=some x) (hg:s'.gens=s.gens) (ho:s'.os=s.os):Fx c O L G m s':=by
 refine ⟨F.X,F.T,?_,fun b x e=>?_,fun p hp=>?_,F.nd,fun b x e=>?_,F.above,hg.trans F.gens,ho.trans F.os⟩
 ·refine unEEEA F.ns fun ol es ep hol r=>?_; exact (inEEEA ol es ep (h1 _ _ hol) r)
 ·refine unAAA (F.see b x e) fun q1 q2 q3 q4=>?_
  exact (inAAA q1 (h1 b x q2) q3 q4)
 ·exact ⟨h1 _ _ (F.out p hp).1,(F.out p hp).2⟩
 ·exact h1 b x (F.keep b x e)
end
theorem Fx.drops {c:Cx} {O:List (Addr×Obj)} {L:Addr} {G:View} {m:Str→Option Value} {s:Shared}:∀ {X:List (Addr×Obj)},Fx c (X++O) L G m s→Fx c O L G m s
 | [],F=>F
 | _::_,F=>Fx.drops F.drop
structure It (c:Cx) (X:List (Addr×Obj)) (n:Nat) (P:Nat→Value→Prop) (ok:Nat→Obj→Prop) (dep:View→Prop):Prop where
 next:∀ {O:List (Addr×Obj)} {L I:Addr} {G:View} {m:Str→Option Value} {s:Shared} {A:Around} {E:Value→Shared→Prop} {o:Obj} {i:Nat} {Q:Option Value→Shared→Prop},
  Fx c ((I,o)::(X++O)) L G m s→dep G→ok i o→i<n→(∀ v s' o',P i v→ok (i+1) o'→Fx c ((I,o')::(X++O)) L G m s'→Q (some v) s')→wpAny (model c.prog c.w) A (pyNext (.ref I)) Q E s
 done:∀ {O:List (Addr×Obj)} {L I:Addr} {G:View} {m:Str→Option Value} {s:Shared} {A:Around} {E:Value→Shared→Prop} {o:Obj} {Q:Option Value→Shared→Prop},
  A.handled=none→Fx c ((I,o)::(X++O)) L G m s→dep G→ok n o→(∀ s',Fx c O L G m s'→Q none s')→wpAny (model c.prog c.w) A (pyNext (.ref I)) Q E s
noncomputable def ListIs (o:Obj) (vs:List Value):Prop:=o.cls=.type "list" ∧ o.dict=none∧o.slots=#[]∧∃ n,o.data=.seq vs.toArray n
noncomputable def TupIs (o:Obj) (vs:List Value):Prop:=o.cls=.type "tuple" ∧ ∃ n,o.data=.seq vs.toArray n
theorem ListIs.isList {o:Obj} {vs:List Value} {h:Heap} {a:Addr} (x:ListIs o vs) (hg:h.get? a=some o):h.IsList a vs.toArray:=(inEAA o hg x.1 x.2.2.2)
theorem TupIs.isTuple {o:Obj} {vs:List Value} {h:Heap} {a:Addr} (x:TupIs o vs) (hg:h.get? a=some o):h.IsTuple a vs.toArray:=(inEAA o hg x.1 x.2)
theorem ListIs.notTup {o:Obj} {vs:List Value} (h:ListIs o vs):o.cls≠.type "tuple" := by rw [h.1]; decide
section
variable {c:Cx}
noncomputable def itL (l:Addr) (i:Nat) (o:Obj):Prop:=o.cls=.type "list_iterator" ∧ o.data=.fields #[.ref l,.int i 0]
theorem It.list (l:Addr) (vs:List Value):It c [] vs.length (fun i v=>vs[i]?=some v) (itL l) (fun G=>∃ o,G l=some o∧ListIs o vs) where
 next:=fun {O L I G m s A E o i Q} F v1 hok hi h=>unEA v1 fun ol hl hL=>by
  have hit:s.heap.IsListIter I l i:=(inEAA o F.hid hok.1 hok.2)
  refine wpAny_pyNext_list_item hit (hL.isList (F.get hl)) (x:=vs[i]) (by simp [hi]) fun h' hit' hs=>?_
  refine unEAA hit' fun o' ho' hc' hd'=>?_; clear hit'
  exact h _ _ o' (by simp [hi]) ⟨hc',hd'⟩ (F.turn (s':={ s with heap:=h' }) (fun b x hb e=>(hs.2 b hb).trans e) ho' rfl rfl)
 done:=fun {O L I G m s A E o Q} hh F v2 hok h=>unEA v2 fun ol hl hL=>by
  have hit:s.heap.IsListIter I l vs.length:=(inEAA o F.hid hok.1 hok.2)
  refine wpAny_pyNext_list_end hh hit (hL.isList (F.get hl)) (by simp) fun h' hs=>?_
  exact h _ (F.ended (s':={ s with heap:=h' }) (fun b x hb e=>hs b x hb e) rfl rfl)
noncomputable def itT (l:Addr) (i:Nat) (o:Obj):Prop:=o.cls=.type "tuple_iterator" ∧ o.data=.fields #[.ref l,.int i 0]
theorem It.tup (l:Addr) (vs:List Value):It c [] vs.length (fun i v=>vs[i]?=some v) (itT l) (fun G=>∃ o,G l=some o∧TupIs o vs) where
 next:=fun {O L I G m s A E o i Q} F v3 hok hi h=>unEA v3 fun ol hl hL=>by
  have hit:s.heap.IsTupleIter I l i:=(inEAA o F.hid hok.1 hok.2)
  refine wpAny_pyNext_tuple_item hit (hL.isTuple (F.get hl)) (x:=vs[i]) (by simp [hi]) fun h' hit' hs=>?_
  refine unEAA hit' fun o' ho' hc' hd'=>?_; clear hit'
  exact h _ _ o' (by simp [hi]) ⟨hc',hd'⟩ (F.turn (s':={ s with heap:=h' }) (fun b x hb e=>(hs.2 b hb).trans e) ho' rfl rfl)
 done:=fun {O L I G m s A E o Q} hh F v4 hok h=>unEA v4 fun ol hl hL=>by
  have hit:s.heap.IsTupleIter I l vs.length:=(inEAA o F.hid hok.1 hok.2)
  refine wpAny_pyNext_tuple_end hh hit (hL.isTuple (F.get hl)) (by simp) fun h' hs=>?_
  exact h _ (F.ended (s':={ s with heap:=h' }) (fun b x hb e=>hs b x hb e) rfl rfl)
noncomputable def itS (x:Str) (t:Tok) (i:Nat) (o:Obj):Prop:=o.cls=.type "str_ascii_iterator" ∧ o.data=.fields #[.str x t,.int i 0]
theorem It.str (x:Str) (t:Tok):It c [] x.cps.size (fun i v=>∃ cp tk,x.cps[i]?=some cp∧v=.str ⟨#[cp]⟩ tk) (itS x t) (fun _=>True) where
 next:=fun {O L I G m s A E o i Q} F _ hok hi h=>by
  have hit:s.heap.IsStrIter I "str_ascii_iterator" x t i:=(inEAA o F.hid hok.1 hok.2)
  refine wpAny_pyNext_ascii_item hit (c:=x.cps[i]) (by simp [hi]) fun h' hit' hs=>?_
  refine unEAA hit' fun o' ho' hc' hd'=>?_; clear hit'
  exact h _ _ o' (inEEA _ _ (by simp [hi]) rfl) ⟨hc',hd'⟩ (F.turn (s':={ s with heap:=h',toks:=s.toks+1 }) (fun b x hb e=>(hs.2 b hb).trans e) ho' rfl rfl)
 done:=fun {O L I G m s A E o Q} hh F _ hok h=>by
  have hit:s.heap.IsStrIter I "str_ascii_iterator" x t x.cps.size:=(inEAA o F.hid hok.1 hok.2)
  refine wpAny_pyNext_ascii_end hh hit (by simp) fun h' hs=>?_
  exact h _ (F.ended (s':={ s with heap:=h' }) (fun b x hb e=>hs b x hb e) rfl rfl)
noncomputable def itR (a n st:Int) (i:Nat) (o:Obj):Prop:=o={ cls:=.type "range_iterator",dict:=none,data:=.fields #[rawInt (a+i*st),rawInt (n - i),rawInt st],slots:=#[] }
theorem It.range (a st:Int) (n:Nat):It c [] n (fun i v=>∃ tk,v=.int (a+i*st) tk) (itR a n st) (fun _=>True) where
 next:=fun {O L I G m s A E o i Q} F _ hok hi h=>by
  have hit:IsRangeIter s.heap I (a+i*st) ((n:Int) - i) st:=by have q:=F.hid; rw [show o=_ from hok] at q; exact q
  refine wpAny_pyNext_range_item hit (by exact a20 1539879280452507366 hi) fun h' hit' hs=>?_
  refine h _ _ _ ⟨_,rfl⟩ ?_ (F.turn (s':={ s with heap:=h',toks:=s.toks+1 }) (fun b x hb e=>(hs.2 b hb).trans e) hit' rfl rfl)
  show _=_
  have e1:a+↑i*st+st=a+↑(i+1)*st:=by rw [Int.natCast_add,Int.add_mul]; lia
  have e2:(n:Int) - ↑i - 1=(n:Int) - ↑(i+1):=by exact Int.le_antisymm (a20 55567402483128985640118) (a20 55569742103135336520886)
  rw [e1,e2]
 done:=fun {O L I G m s A E o Q} hh F _ hok h=>by
  have hit:IsRangeIter s.heap I (a+n*st) ((n:Int) - n) st:=by have q:=F.hid; rw [show o=_ from hok] at q; exact q
  refine wpAny_pyNext_range_end hh hit (by exact a10 50669476022) fun h' hs=>?_
  exact h _ (F.ended (s':={ s with heap:=h' }) (fun b x hb e=>hs b x hb e) rfl rfl)
end
section
variable {c:Cx} {O:List (Addr×Obj)} {L l:Addr} {G:View} {m:Str→Option Value} {A:Around} {E:Value→Shared→Prop} {s:Shared} {o:Obj} {vs:List Value}
theorem x_iter_list {Q:Value→Shared→Prop} (F:Fx c O L G m s) (hg:G l=some o) (hL:ListIs o vs) (h:∀ I s' o',itL l 0 o'→Fx c ((I,o')::O) L G m s'→Q (.ref I) s'):wpAny (model c.prog c.w) A (pyIter (.ref l)) Q E s :=
 wpAny_pyIter_list (hL.isList (F.get hg)) (h _ _ _ ⟨rfl,rfl⟩ (F.hide _))
theorem x_iter_tup {Q:Value→Shared→Prop} (F:Fx c O L G m s) (hg:G l=some o) (hL:TupIs o vs) (h:∀ I s' o',itT l 0 o'→Fx c ((I,o')::O) L G m s'→Q (.ref I) s'):wpAny (model c.prog c.w) A (pyIter (.ref l)) Q E s :=
 wpAny_pyIter_tuple (hL.isTuple (F.get hg)) (h _ _ _ ⟨rfl,rfl⟩ (F.hide _))
theorem x_iter_str {x:Str} {t:Tok} {Q:Value→Shared→Prop} (F:Fx c O L G m s) (ha:x.cps.all (·<128)=true) (h:∀ I s' o',itS x t 0 o'→Fx c ((I,o')::O) L G m s'→Q (.ref I) s'):wpAny (model c.prog c.w) A (pyIter (.str x t)) Q E s :=
 wpAny_pyIter_ascii ha (h _ _ _ ⟨rfl,rfl⟩ (F.hide _))
variable {env:Env} {x:Str} {pos px:Pos} {body:List Stmt} {it:Value} {n:Nat} {P:Nat→Value→Prop} {ok:Nat→Obj→Prop} {dep:View→Prop} {I:Addr} {X:List (Addr×Obj)}
theorem x_forLoop {R:Result→Shared→Prop} (W:It c X n P ok dep) (hh:A.handled=none) (F:Fx c ((I,o)::(X++O)) env.locals G m s) (hok:ok 0 o) (hk:env.scope.kind=.function) (hl:env.kindOf x=some .local)
  (J:Nat→View→(Str→Option Value)→Prop) (h0:J 0 G m) (hdep:∀ i G m,J i G m→dep G)
  (body_ok:∀ i v O' G' m' s',i<n→P i v→J i G' m'→Fx c O' env.locals G' (setL m' x v) s' →
   ∀ Qt:Flow→Shared→Prop,(∀ f sJ2,(∃ GJ2 mJ2,Fx c O' env.locals GJ2 mJ2 sJ2∧match f with
    | .next | .cont=>J (i+1) GJ2 mJ2
    | .brk=>∀ sJ3,Fx c O env.locals GJ2 mJ2 sJ3→R (.ok .next) sJ3
    | .ret v=>∀ sJ3,Fx c O env.locals GJ2 mJ2 sJ3→R (.ok (.ret v)) sJ3)→Qt f sJ2)→wpAny (model c.prog c.w) A (execs body env) (Abs Qt) (fun _ _=>False) s')
  (fin:∀ G' m' s',J n G' m'→Fx c O env.locals G' m' s'→R (.ok .next) s') :
  codeAny (model c.prog c.w) A (.forLoop (.Name x px) (.ref I) body [] env) R s:=by
 refine codeAny_forLoop (fun k s'=>∃ i G' m' o',k=n - i∧i≤n∧Fx c ((I,o')::(X++O)) env.locals G' m' s'∧ok i o'∧J i G' m') ?_ n (inEEEEAAAA 0 G m o rfl (Nat.zero_le _) F hok h0)
 intro k s' z1; refine unEEEEAAAA z1 fun i G' m' o' y1 hi F' hok' hJ=>?_; clear z1; subst y1
 rcases Nat.lt_or_ge i n with hlt | hge
 ·refine W.next F' (hdep _ _ _ hJ) hok' hlt fun v sJ1 oJ1 hP hokJ1 FJ1=>?_
  refine wpAny_assign_Name (x_store FJ1 hk hl fun sJ2 FJ2=>?_)
  refine wpAny_mono (body_ok i v _ _ _ _ hlt hP hJ FJ2 _ fun _ _ z=>z) (fun f sJ3 hf=>?_) fun _ _ hf=>hf.elim
  obtain ⟨GJ2,mJ2,FJ3,hf⟩:=hf
  cases f with
  | next=>exact ⟨n - (i+1),by exact subL ‹_›,i+1,GJ2,mJ2,oJ1,rfl,hlt,FJ3,hokJ1,hf⟩
  | cont=>exact ⟨n - (i+1),by exact subL ‹_›,i+1,GJ2,mJ2,oJ1,rfl,hlt,FJ3,hokJ1,hf⟩
  | brk=>exact hf _ FJ3.drop.drops
  | ret v=>exact hf _ FJ3.drop.drops
 ·have:i=n:=by exact Nat.le_antisymm (a20 1434183575286 hi) (a20 1434183575286 hge)
  clear body_ok hi hge; subst this
  refine W.done hh F' (hdep _ _ _ hJ) hok' fun sJ1 FJ1=>?_
  exact wpAny_execs_nil (fin _ _ _ hJ FJ1)
end
end
section
section
variable {prog:Program} {w:World} {A:Around} {E:Value→Shared→Prop} {s:Shared}
theorem items_view {d:Addr} {Q:Value→Shared→Prop} (hd:(d == sysModules)=false) (hT:s.TypeIs (.ref d) "dict")
  (h:Q (.ref s.heap.objs.size) { s with heap:=s.heap.push { cls:=.type "dict_items",data:=.fields #[.ref d] } }):wpAny (model prog w) A (call (.builtin "dict.items") [.ref d] []) Q E s:=by
 refine wpAny_call_entry PySem.F.slot_dict_items hT PySem.F.entry_dict_items ?_ (PySem.F.args_dict_items_1 _)
 refine wpAny_bind ?_
 refine wpAny_bind (wpAny_notOrdered_dict hT ?_)
 refine wpAny_pure ?_
 show wpAny _ _ (Builtin.Dict.showsAll d >>= _) _ _ s
 unfold Builtin.Dict.showsAll
 rw [if_neg (by rw [hd]; exact Bool.false_ne_true)]
 refine wpAny_bind (wpAny_pure ?_)
 exact wpAny_bind (wpAny_newObj_type (wpAny_pure (inEA _ rfl h)))
noncomputable abbrev itemIt (d:Addr) (i n ep:Nat) (ok ov:Value):Obj:={ cls:=.type "dict_itemiterator",dict:=none,data:=.fields #[.none,.bool false,.ref d,.int i 0,.int n 0,.int ep 0,ok,ov],slots:=#[] }
theorem items_iter {v d:Addr} {od:Obj} {es:Array DictEntry} {ep:Nat} {Q:Value→Shared→Prop} (hv:s.heap.IsItemsView v d) (hod:s.heap.get? d=some od) (hdd:od.data=.dict es ep)
  (hQ:Q (.ref s.heap.objs.size) { s with heap:=s.heap.push (itemIt d 0 es.size ep .none .none) }):wpAny (model prog w) A (pyIter (.ref v)) Q E s:=by
 refine unEAA (id hv) fun ov hov hcv hdv=>?_
 refine wpAny_pyIter_slot hv.typeIs PySem.F.slot_dict_items_iter (wpAny_call_entry PySem.F.slot_dict_items_iter hv.typeIs PySem.F.entry_dict_items_iter ?_ (PySem.F.args_dict_items_iter_1 _))
 refine wpAny_bind (wpAny_pure (wpAny_bind ?_))
 refine wpAny_bind (wpAny_field hov hdv (x:=.ref d) rfl (wpAny_pure (wpAny_bind ?_)))
 refine wpAny_bind (wpAny_dictEntries hod hdd (wpAny_bind (wpAny_dictEpoch hod hdd ?_)))
 have hown:Builtin.Dict_items.ownsTuple "dict_itemiterator" = true:=by decide
 refine wpAny_newObj_type (wpAny_pure (inEA _ rfl (inEEAA ("dict_itemiterator") _ (inEA _ (Heap.get?_push_size _ rfl) rfl) PySem.F.slot_dict_itemiterator_next.lookup ?_)))
  (by simp only [sizeOk,Builtin.Dict_items.ownedTupleFields,List.size_toArray,List.length_append,List.length_cons,List.length_nil,sizeLine_eq]; exact Nat.le_add_left _ _)
 exact hQ
theorem items_next {it d:Addr} {i ep:Nat} {od:Obj} {es:Array DictEntry} {ok ov:Value} {e:DictEntry} {Q:Option Value→Shared→Prop} (hit:IsItemIter s.heap it d i es.size ep ok ov)
  (hod:s.heap.get? d=some od) (hdd:od.data=.dict es ep) (he:es[i]?=some e)
  (hQ:∀ h',IsItemIterOut h' it d (i+1) es.size ep e.key e.val s.heap.objs.size→h'.get? s.heap.objs.size=some { cls:=.type "tuple",data:=.seq #[e.key,e.val] }→h'.objs.size=s.heap.objs.size+1 →
   (∀ b o,b≠it→s.heap.get? b=some o→h'.get? b=some o)→Q (some (.ref s.heap.objs.size)) { s with heap:=h' }) :
  wpAny (model prog w) A (pyNext (.ref it)) Q E s:=by
 obtain ⟨hp,g,dr,tk,os⟩:=s
 have hT:Shared.TypeIs ⟨hp,g,dr,tk,os⟩ (.ref it) "dict_itemiterator" := (inEA _ hit rfl)
 refine wpAny_bind (wpAny_attempt (wpAny_callSpecial?_slot (name:=Str.ofString "__next__") hT PySem.F.slot_dict_itemiterator_next
  (wpAny_call_entry PySem.F.slot_dict_itemiterator_next hT PySem.F.entry_dict_itemiterator_next ?_ (PySem.F.args_dict_itemiterator_next_1 _))))
 refine wpAny_bind (wpAny_pure (wpAny_bind (wpAny_bind ?_)))
 first | refine wpAny_bind (wpAny_typeNameOfWhole_itemiter hT (wpAny_pure ?_)) | refine wpAny_bind (wpAny_typeNameOf_itemiter hT (wpAny_pure ?_))
 refine wpAny_bind (wpAny_fieldsOf hit rfl ?_)
 have hown:Builtin.Dict_items.ownsTuple "dict_itemiterator" = true:=by decide
 refine wpAny_bind (wpAny_pure (wpAny_bind (wpAny_dictEntries hod hdd ?_)))
 rw [if_neg (by simp)]
 refine wpAny_bind (wpAny_pure (wpAny_bind (wpAny_dictEpoch hod hdd ?_)))
 rw [if_neg (by simp)]
 refine wpAny_pure ?_
 simp only [show ¬ ((i:Int)<0) from by exact a10 1710262,if_false,Int.toNat_natCast,he]
 refine wpAny_bind ?_
 first | refine wpAny_bind (wpAny_typeNameOfWhole_itemiter hT (wpAny_pure ?_)) | refine wpAny_bind (wpAny_typeNameOf_itemiter hT (wpAny_pure ?_))
 refine wpAny_bind (wpAny_isOneOf_itemiter hT ?_)
 show wpAny _ _ (setField (.ref it) 3 (rawInt ((i:Int)+1)) >>= _) _ _ ⟨hp,g,dr,tk,os⟩
 refine wpAny_bind (wpAny_setField_rec hit (by simp) fun hJ1 heJ1 hsJ1=>?_)
 replace hsJ1:Heap.SameBut it hp hJ1:=hsJ1
 replace heJ1:IsItemIter hJ1 it d (i+1) es.size ep ok ov:=by
  have e:((i+1:Nat):Int)=(i:Int)+1:=by exact Int.le_antisymm (a10 51719113442550) (a10 51850176928950)
  unfold IsItemIter; rw [e]; simpa [rawInt] using heJ1
 have hTJ1:Shared.TypeIs ⟨hJ1,g,dr,tk,os⟩ (.ref it) "dict_itemiterator" := (inEA _ heJ1 rfl)
 refine wpAny_bind (wpAny_holding (wpAny_bind (wpAny_isOneOf_itemiter hTJ1 (wpAny_bind (wpAny_isOneOf_itemiter hTJ1 ?_)))))
 show wpAny _ _ (Builtin.Dict_items.pairFromOwner (.ref it) 6 e.key e.val) _ _ ⟨hJ1,g,dr,tk,os⟩
 refine wpAny_bind (wpAny_newTuple ?_)
 have heJ2:IsItemIter (hJ1.push { cls:=.type "tuple",data:=.seq #[e.key,e.val] }) it d (i+1) es.size ep ok ov:=Heap.get?_push_of_some _ heJ1
 have hzJ1:hJ1.objs.size=hp.objs.size:=hsJ1.1
 have hil:it<hp.objs.size:=Heap.lt_size hit
 have htJ2:(hJ1.push { cls:=.type "tuple",data:=.seq #[e.key,e.val] }).get? hp.objs.size=some { cls:=.type "tuple",data:=.seq #[e.key,e.val] }:=by rw [← hzJ1]; exact Heap.get?_push_size _ rfl
 have hzJ2:(hJ1.push { cls:=.type "tuple",data:=.seq #[e.key,e.val] }).objs.size=hp.objs.size+1:=by rw [Heap.size_push,hzJ1]
 have hkJ2:∀ b o,b≠it→hp.get? b=some o→(hJ1.push { cls:=.type "tuple",data:=.seq #[e.key,e.val] }).get? b=some o:=fun b o hb q=>Heap.get?_push_of_some _ (hsJ1.extBut b o hb q)
 generalize hJ1.push { cls:=.type "tuple",data:=.seq #[e.key,e.val] }=hJ2 at heJ2 htJ2 hzJ2 hkJ2 ⊢
 show wpAny _ _ (Builtin.Dict_items.ownedTupleIsFree (.ref it) >>= _) _ _ ⟨hJ2,g,dr,tk,os⟩
 rw [hzJ1]
 clear heJ1 hsJ1 hTJ1 hzJ1
 refine wpAny_bind ?_
 refine wpAny_bind (wpAny_field heJ2 rfl (x:=.none) rfl (wpAny_pure ?_))
 refine wpAny_bind (wpAny_field heJ2 rfl (x:=ok) rfl (wpAny_bind (wpAny_field heJ2 rfl (x:=ov) rfl ?_)))
 refine wpAny_bind (wpAny_setField_rec heJ2 (by simp) fun hJ3 heJ3 hsJ3=>?_)
 replace hsJ3:Heap.SameBut it hJ2 hJ3:=hsJ3
 replace heJ3:IsItemIter hJ3 it d (i+1) es.size ep e.key ov:=heJ3
 refine wpAny_bind (wpAny_setField_rec heJ3 (by simp) fun hJ4 heJ4 hsJ4=>?_)
 replace hsJ4:Heap.SameBut it hJ3 hJ4:=hsJ4
 replace heJ4:IsItemIter hJ4 it d (i+1) es.size ep e.key e.val:=heJ4
 refine wpAny_bind (wpAny_setField_rec heJ4 (by simp) fun hJ5 heJ5 hsJ5=>?_)
 replace hsJ5:Heap.SameBut it hJ4 hJ5:=hsJ5
 replace heJ5:IsItemIterOut hJ5 it d (i+1) es.size ep e.key e.val hp.objs.size:=heJ5
 refine wpAny_bind (wpAny_setField_rec heJ5 (by simp) fun hJ6 heJ6 hsJ6=>?_)
 replace hsJ6:Heap.SameBut it hJ5 hJ6:=hsJ6
 replace heJ6:IsItemIterOut hJ6 it d (i+1) es.size ep e.key e.val hp.objs.size:=heJ6
 have up:∀ b o,b≠it→hJ2.get? b=some o→hJ6.get? b=some o:=fun b o hb q=>hsJ6.extBut _ _ hb (hsJ5.extBut _ _ hb (hsJ4.extBut _ _ hb (hsJ3.extBut _ _ hb q)))
 refine wpAny_bind (wpAny_letGo (wpAny_pure (wpAny_pure (inEA _ rfl (wpAny_pure (hQ hJ6 heJ6 (up _ _ (Nat.ne_of_gt hil) htJ2) ?_ fun b o hb q=>up b o hb (hkJ2 b o hb q)))))))
 show hJ6.objs.size=hp.objs.size+1
 rw [hsJ6.1,hsJ5.1,hsJ4.1,hsJ3.1,hzJ2]
theorem items_done {it d:Addr} {ep:Nat} {od:Obj} {es:Array DictEntry} {ok ov:Value} {Q:Option Value→Shared→Prop} (hh:A.handled=none) (hit:IsItemIter s.heap it d es.size es.size ep ok ov)
  (hod:s.heap.get? d=some od) (hdd:od.data=.dict es ep) (hQ:∀ h',Heap.ExtBut it s.heap h'→Q none { s with heap:=h' }):wpAny (model prog w) A (pyNext (.ref it)) Q E s:=by
 have hT:s.TypeIs (.ref it) "dict_itemiterator" := (inEA _ hit rfl)
 refine wpAny_bind (wpAny_attempt (wpAny_callSpecial?_slot (name:=Str.ofString "__next__") hT PySem.F.slot_dict_itemiterator_next
  (wpAny_call_entry PySem.F.slot_dict_itemiterator_next hT PySem.F.entry_dict_itemiterator_next ?_ (PySem.F.args_dict_itemiterator_next_1 _))))
 refine wpAny_bind (wpAny_pure (wpAny_bind (wpAny_bind ?_)))
 first | refine wpAny_bind (wpAny_typeNameOfWhole_itemiter hT (wpAny_pure ?_)) | refine wpAny_bind (wpAny_typeNameOf_itemiter hT (wpAny_pure ?_))
 refine wpAny_bind (wpAny_fieldsOf hit rfl ?_)
 have hown:Builtin.Dict_items.ownsTuple "dict_itemiterator" = true:=by decide
 refine wpAny_bind (wpAny_pure (wpAny_bind (wpAny_dictEntries hod hdd ?_)))
 rw [if_neg (by simp)]
 refine wpAny_bind (wpAny_pure (wpAny_bind (wpAny_dictEpoch hod hdd ?_)))
 rw [if_neg (by simp)]
 refine wpAny_pure ?_
 simp only [show ¬ ((es.size:Int)<0) from by exact a10 1710262,if_false,Int.toNat_natCast,Array.getElem?_eq_none (Nat.le_refl _)]
 refine wpAny_bind ?_
 first | refine wpAny_bind (wpAny_typeNameOfWhole_itemiter hT (wpAny_pure ?_)) | refine wpAny_bind (wpAny_typeNameOf_itemiter hT (wpAny_pure ?_))
 show wpAny _ _ (setField (.ref it) 2 .none >>= _) _ _ s
 refine wpAny_bind (wpAny_setField hit rfl (by simp) ?_)
 show wpAny _ _ (newExc (.type "StopIteration") [] >>= _) _ _ _
 refine wpAny_bind ?_
 refine wpAny_bind (wpAny_newObj_type ?_ (by size_fits))
 refine wpAny_bind (m:=firstArgMember _ _) (wpAny_of_eq (a:=Value.none) (by first | rfl | (simp only [firstArgMember]; rfl)) ?_)
 refine wpAny_newObj_type ?_ (by size_fits)
 refine wpAny_bind (wpAny_handled ?_)
 rw [show A.in1.handled=none from hh]
 refine wpAny_bind (wpAny_pure (wpAny_throw ?_))
 refine wpAny_bind (wpAny_isInstance (T := "StopIteration") (b:=true) (inEA _ (Heap.get?_push_size _ rfl) rfl) isSubtype_stop ?_)
 exact wpAny_pure (hQ _ (((Heap.SameBut.update ..).extBut.push _).push _))
end
section
variable {c:Cx} {K:Type} [DecidableEq K] {kd:Kd c K} {O:List (Addr×Obj)} {L d v I:Addr} {G:View} {m:Str→Option Value} {A:Around} {E:Value→Shared→Prop} {s:Shared} {o od:Obj} {kvs:List (K×Value)} {env:Env}
theorem x_items {Q:Value→Shared→Prop} (F:Fx c O L G m s) (hg:G d=some od) (hD:DictIs kd G od kvs)
  (h:∀ v s',Fx c O L (upd G v { cls:=.type "dict_items",data:=.fields #[.ref d] }) m s'→G v=none→Q (.ref v) s'):wpAny (model c.prog c.w) A (call (.builtin "dict.items") [.ref d] []) Q E s :=
 items_view (F.mods hg) (hD.typeIs (F.get hg)) (h _ _ (F.push _ rfl (t:=s.toks) (d:=s.drawn)) F.fresh)
noncomputable def itI (d:Addr) (od:Obj) (i:Nat) (o:Obj):Prop:=∃ es ep ok ov,od.data=.dict es ep∧o=itemIt d i es.size ep ok ov
theorem x_iter_items {Q:Value→Shared→Prop} (F:Fx c O L G m s) (hv:G v=some { cls:=.type "dict_items",data:=.fields #[.ref d] }) (hg:G d=some od) (hD:DictIs kd G od kvs)
  (h:∀ I s' o',itI d od 0 o'→Fx c ((I,o')::O) L G m s'→Q (.ref I) s'):wpAny (model c.prog c.w) A (pyIter (.ref v)) Q E s:=by
 refine unAE hD fun _ es w1=>unEA w1 fun ep hd _=>?_; clear w1; clear hD
 exact items_iter (inEAA _ (F.get hv) rfl rfl) (F.get hg) hd (h _ _ _ (inEEEE es ep (.none) (.none) (inA hd rfl)) (F.hide _))
theorem x_forItems {R:Result→Shared→Prop} {xk xv:Str} {pk pv pt:Pos} {x1:Nat} {body:List Stmt} (hh:A.handled=none) (F:Fx c ((I,o)::O) env.locals G m s) (hok:itI d od 0 o) (hD:DictIs kd G od kvs)
  (hk:env.scope.kind=.function) (hlk:env.kindOf xk=some .local) (hlv:env.kindOf xv=some .local)
  (J:Nat→View→(Str→Option Value)→Prop) (h0:J 0 G m) (hdep:∀ i G' m',J i G' m'→G' d=some od)
  (body_ok:∀ i k key val O' G' m' s',kvs[i]?=some (k,val)→kd.is G k key→J i G' m'→Fx c O' env.locals G' (setL (setL m' xk key) xv val) s' →
   ∀ Qt:Flow→Shared→Prop,(∀ f sJ2,(f=.next∧∃ GJ2 mJ2,Fx c O' env.locals GJ2 mJ2 sJ2∧J (i+1) GJ2 mJ2)→Qt f sJ2)→wpAny (model c.prog c.w) A (execs body env) (Abs Qt) (fun _ _=>False) s')
  (fin:∀ G' m' s',J kvs.length G' m'→Fx c O env.locals G' m' s'→R (.ok .next) s') :
  codeAny (model c.prog c.w) A (.forLoop (.Tuple [.Name xk pk,.Name xv pv] x1 pt) (.ref I) body [] env) R s:=by
 refine unAEEAA hD fun _ es ep hd hz hn=>?_; clear hD
 have hlen:es.size=kvs.length:=by rw [← Array.length_toList,hz.length]
 refine codeAny_forLoop_any (fun k s'=>∃ i G' m' o',k=kvs.length - i∧i≤kvs.length∧Fx c ((I,o')::O) env.locals G' m' s'∧itI d od i o'∧J i G' m') ?_ kvs.length (inEEEEAAAA 0 G m o rfl (Nat.zero_le _) F hok h0)
 intro k s' z1; refine unEEEEAAAA z1 fun i G' m' o' y1 hi F' y2 hJ=>?_; clear z1; subst y1; refine unEEEE y2 fun es' ep' ok ov w2=>unA w2 fun hd' y3=>?_; clear w2; clear y2; subst y3
 rw [hd] at hd'
 cases hd'
 have hG:=hdep _ _ _ hJ
 rcases Nat.lt_or_ge i kvs.length with hlt | hge
 ·obtain ⟨⟨k,val⟩,hkv⟩:∃ kv,kvs[i]?=some kv:=⟨kvs[i],List.getElem?_eq_getElem hlt⟩
  refine unEAAA (hz.at hkv) fun e he r1 r2 r3=>?_
  refine items_next F'.hid (F'.get hG) hd (by rw [← Array.getElem?_toList]; exact he) fun hJ1 hout ht hzJ1 hkJ1=>?_
  have r3:e.val=val:=r3
  clear r2 r3; subst r3
  have FJ1:=F'.turn (s':={ s' with heap:=hJ1 }) hkJ1 hout rfl rfl
  refine wpAny_letOwnedTupleGo_items hout fun hJ2 heJ2 hsJ2=>?_
  have hsJ2:Heap.SameBut I hJ1 hJ2:=hsJ2
  have FJ2:=FJ1.turn (s':={ s' with heap:=hJ2 }) (fun b x hb q=>(hsJ2.2 b hb).trans q) heJ2 rfl rfl
  have hI:I<s'.heap.objs.size:=Heap.lt_size F'.hid
  have htJ2:hJ2.IsTuple s'.heap.objs.size #[e.key,e.val]:=(inEAAE _ ((hsJ2.2 _ (Nat.ne_of_gt hI)).trans ht) rfl _ rfl)
  have hzJ2:hJ2.objs.size=s'.heap.objs.size+1:=hsJ2.1.trans hzJ1
  refine wpAny_assign_Tuple hh htJ2 rfl rfl fun hJ3 hxJ3=>?_
  have hxJ3:Heap.ExtBut hJ2.objs.size hJ2 hJ3:=hxJ3
  have FJ3:Fx c ((I,itemIt d (i+1) es.size ep e.key e.val)::O) env.locals G' m' { s' with heap:=hJ3 }:=FJ2.grow (fun b x q=>hxJ3 b x (Nat.ne_of_lt (Heap.lt_size q)) q) rfl rfl
  show wpAny _ _ (do holding [e.val] (assign (.Name xk pk) env e.key); do holding [] (assign (.Name xv pv) env e.val); pure ()) _ _ _
  refine wpAny_bind (wpAny_holding (wpAny_assign_Name (x_store FJ3 hk hlk fun sJ4 FJ4=>?_)))
  refine wpAny_bind (wpAny_holding (wpAny_assign_Name (x_store FJ4 hk hlv fun sJ5 FJ5=>wpAny_pure ?_)))
  refine wpAny_mono (body_ok i k e.key e.val _ _ _ _ hkv r1 hJ FJ5 _ fun _ _ z=>z) (fun f sJ3 hf=>?_) fun _ _ hf=>hf.elim
  obtain ⟨rfl,GJ2,mJ2,FJ6,hf⟩:=hf
  exact ⟨kvs.length - (i+1),by exact subL ‹_›,i+1,GJ2,mJ2,_,rfl,hlt,FJ6,⟨es,ep,_,_,hd,rfl⟩,hf⟩
 ·have:i=kvs.length:=by exact Nat.le_antisymm (a20 1434183575286 hi) (a20 1434183575286 hge)
  clear hi hge; subst this
  have hid:=F'.hid
  rw [← hlen] at hid
  refine items_done hh hid (F'.get hG) hd fun h' hs=>?_
  exact wpAny_execs_nil (fin _ _ _ hJ (F'.ended (s':={ s' with heap:=h' }) (fun b x hb q=>hs b x hb q) rfl rfl))
end
end
section
theorem eraseIdx_perm' {α:Type}:∀ {l:List α} {i:Nat} {x:α},l[i]?=some x→(x::l.eraseIdx i).Perm l
 | [],i,x,h=>by simp at h
 | a::l,0,x,h=>by simp at h; subst h; exact .refl _
 | a::l,i+1,x,h=>by
  rw [List.eraseIdx_cons_succ]
  exact (List.Perm.swap _ _ _).trans ((eraseIdx_perm' (by simpa using h)).cons a)
section
variable {M:Model} {prog:Program} {w:World} {A:Around} {E:Value→Shared→Prop} {s:Shared} {α:Type}
theorem choose_any {src:Source} {n:Nat} {Q:Nat→Shared→Prop} (hn:n≠0) (h:∀ i,i<n→Q i { s with drawn:=s.drawn.bump src }):wpAny M A (choose src n) Q E s:=by
 intro Γ p hΓ
 show Sem.wp M Γ (.choose src n .pure) _ _ p s
 rw [Sem.wp_choose]
 exact ⟨hn,h _ (Nat.mod_lt _ (Nat.pos_of_ne_zero hn))⟩
theorem drawOrder_ok:∀ (n:Nat) (xs:List α) (s:Shared) (Q:List α→Shared→Prop),xs.length≤n→(∀ l d,l.Perm xs→Q l { s with drawn:=d })→wpAny M A (drawOrder n xs) Q E s
 | 0,xs,s,Q,hn,h=>by
  have:xs=[]:=List.eq_nil_of_length_eq_zero (by exact Nat.le_antisymm (a10 1415929963734 hn) (a10 42694))
  clear hn; subst this
  exact wpAny_pure (h [] s.drawn (.refl _))
 | n+1,[],s,Q,_,h=>by unfold drawOrder; exact wpAny_pure (h [] s.drawn (.refl _))
 | n+1,x::xs,s,Q,hn,h=>by
  refine wpAny_bind (choose_any (by simp) fun i hi=>?_)
  obtain ⟨y,hy⟩:∃ y,(x::xs)[i]?=some y:=⟨(x::xs)[i],List.getElem?_eq_getElem hi⟩
  rw [hy]
  have hp:=eraseIdx_perm' hy
  refine wpAny_bind (drawOrder_ok n ((x::xs).eraseIdx i) _ _ (by have:=hp.length_eq; simp at this hn ⊢; exact a30 50429058262772000534 this hn) fun l d hl=>?_)
  exact wpAny_pure (h (y::l) d ((hl.cons y).trans hp))
theorem pickOrder_go (next:Nat→Nat):∀ (fuel k:Nat) (left:List α) (out:Array α),left.length≤fuel→(pickOrder.go next fuel k left out).toList.Perm (out.toList++left)
 | 0,k,left,out,h=>by
  have:left=[]:=List.eq_nil_of_length_eq_zero (by exact Nat.le_antisymm (a10 1415929963734 h) (a10 42694))
  clear h; subst this
  unfold pickOrder.go; simp
 | fuel+1,k,left,out,h=>by
  unfold pickOrder.go
  cases left with
  | nil=>simp
  | cons a left =>
   have hlt:next k % (a::left).length<(a::left).length:=Nat.mod_lt _ (by simp)
   rw [List.getElem?_eq_getElem hlt]
   have hp:=eraseIdx_perm' (List.getElem?_eq_getElem hlt)
   refine (pickOrder_go next fuel (k+1) _ _ (by have:=hp.length_eq; simp at this h ⊢; exact a30 50429058262772000534 this h)).trans ?_
   rw [Array.toList_push,List.append_assoc]
   exact List.Perm.append_left _ hp
theorem pickOrder_ok (next:Nat→Nat) (xs:Array α):(pickOrder next xs).toList.Perm xs.toList:=by
 have:=pickOrder_go next xs.size 0 xs.toList #[] (by simp)
 simpa [pickOrder] using this
end
section
variable {c:Cx} {K:Type} [DecidableEq K] {kd:Kd c K} {O:List (Addr×Obj)} {L a:Addr} {G:View} {m:Str→Option Value} {A:Around} {E:Value→Shared→Prop} {s:Shared} {o:Obj} {l:List K} {k:K} {x:Value}
theorem x_setWalk {Q:Array (Int×Value)→Shared→Prop} (F:Fx c O L G m s) (hg:G a=some o) (hS:SetIs kd G o l)
  (h:∀ es s',Fx c O L G m s'→(∃ ks,Zip2 (kd.Elt G) es.toList ks∧ks.Perm l)→Q es s'):wpAny (model c.prog c.w) A (setWalk a) Q E s:=by
 refine unAEEEEAAAAAA hS fun h1 es ep t ks h2 h3 h4 h5 h6 h7 h8=>?_; clear hS
 have go:∀ (es':Array (Int×Value)) (s':Shared),es'.toList.Perm es.toList→Fx c O L G m s'→Q es' s':=fun es' s' hp F'=>by
  refine unEA (Zip2.perm hp.symm h3) fun ks' z q=>?_
  exact h es' s' F' (inEA ks' z (q.trans h4))
 refine wpAny_bind (wpAny_setState_of (F.get hg) h2 h6.fits' ?_)
 refine wpAny_bind (wpAny_bind (wpAny_askSetting (wpAny_pure ?_)))
 by_cases hb:(model c.prog c.w).w.params.followText "set-order" = true
 ·rw [if_pos hb]
  refine wpAny_bind (wpAny_askSetting (wpAny_pure ?_))
  exact go _ _ (pickOrder_ok _ _) F
 ·rw [if_neg hb]
  have hled:t.led=true:=h8 ((Bool.not_eq_true _).mp hb)
  by_cases hd:(!t.plain&&decide (es.size > 1))=true
  ·have hd':∀ {β:Type} (x y:β),(if (!t.plain&&decide (es.size > 1))=true then x else y)=x:=fun x y=>if_pos hd
   change wpAny _ _ (if (!t.plain&&decide (es.size > 1))=true then _ else _) _ _ _
   rw [if_pos hd]
   refine wpAny_bind (drawOrder_ok _ _ _ _ (by simp) fun l' d hp=>wpAny_pure ?_)
   exact go l'.toArray { s with drawn:=d } (by simpa using hp) (F.eta (t:=s.toks))
  ·change wpAny _ _ (if (!t.plain&&decide (es.size > 1))=true then _ else _) _ _ _
   rw [if_neg hd]
   change wpAny _ _ (do
    (if (!t.led&&decide (es.size > 1))=true then unsupported "set:maker-not-led" else pure ())
    pure es) _ _ _
   rw [hled]
   exact wpAny_bind (wpAny_pure (wpAny_pure (go es s (.refl _) F)))
theorem x_set0 {Q:Value→Shared→Prop} (F:Fx c O L G m s) (h:∀ a s' o,G a=none→Fx c O L (upd G a o) m s'→(∀ {K:Type} [DecidableEq K] (kd:Kd c K),SetIs kd (upd G a o) o [])→Q (.ref a) s') :
  wpAny (model c.prog c.w) A (call (.type "set") [] []) Q E s:=by
 refine call_set_any PySem.F.typeCall_set_0 PySem.F.newCall_set_0 (fun hT hQ=>check_set_init hT hQ) ?_
 have F1:=F.push (set0 c.w) rfl (t:=s.toks) (d:=s.drawn)
 have hS:(s.heap.push (set0 c.w)).get? s.heap.objs.size=some (set0 c.w):=F1.get (upd_self _ _ _)
 wp_walk
 exact ⟨rfl,h _ _ _ F.fresh F1 fun {K} _ kd=>SetIs.fresh _ fun q=>by rw [q]; rfl⟩
theorem x_contains_set {Q:Value→Shared→Prop} (hS:KdS kd) (F:Fx c O L G m s) (hu:A.in1.units<cLine) (hk:kd.is G k x) (hg:G a=some o) (hI:SetIs kd G o l) (hl:l.length<1000)
  (h:∀ s' b,Fx c O L G m s'→(b=true↔k∈l)→Q (.bool b) s'):wpAny (model c.prog c.w) A (do return .bool (← contains (.ref a) x)) Q E s:=by
 have hT:=hI.typeIs (F.get hg)
 refine wpAny_bind ?_
 unfold contains
 try with_reducible refine wpAny_holding ?_
 refine wpAny_bind (wpAny_specialOf hT PySem.F.slot_set_contains.lookup ?_)
 rw [if_neg (by rw [beq_builtin_none]; exact Bool.false_ne_true)]
 refine wpAny_bind (wpAny_callSpecialUnlessNone?_slot (name:=Str.ofString "__contains__") hT PySem.F.slot_set_contains
  (wpAny_call_entry PySem.F.slot_set_contains hT entry_set_contains ?_ (PySem.F.args_set_contains_2 _ _)))
 unfold Builtin.«frozenset.__contains__» Builtin.Frozenset.oneOther
 simp only [List.isEmpty_nil,bind_assoc]
 refine wpAny_bind (wpAny_pure ?_)
 refine wpAny_bind (wpAny_pure ?_)
 refine wpAny_bind (wpAny_tryCatch ?_)
 refine wpAny_holding ?_
 refine wpAny_bind (kd.pyHash F hu hk ?_)
 have F1:=F.eta (t:=s.toks+kd.draws k) (d:=s.drawn)
 refine wpAny_bind (hS.find F1 hu hk hg hI hl fun r hr=>?_)
 refine wpAny_pure ?_
 show wpAny _ _ (ret (Value.bool r.isSome)) _ _ _
 exact wpAny_pure (inEA _ rfl (wpAny_truthy_bool (wpAny_pure (h _ _ F1 hr))))
theorem x_in_set {Q:Value→Shared→Prop} (hS:KdS kd) (F:Fx c O L G m s) (hu:A.in1.units<cLine) (hk:kd.is G k x) (hg:G a=some o) (hI:SetIs kd G o l) (hl:l.length<1000)
  (h:∀ s' b,Fx c O L G m s'→(b=true↔k∈l)→Q (.bool b) s'):wpAny (model c.prog c.w) A (compareOp .In x (.ref a)) Q E s:=x_contains_set hS F hu hk hg hI hl h
theorem x_notin_set {Q:Value→Shared→Prop} (hS:KdS kd) (F:Fx c O L G m s) (hu:A.in1.units<cLine) (hk:kd.is G k x) (hg:G a=some o) (hI:SetIs kd G o l) (hl:l.length<1000)
  (h:∀ s' b,Fx c O L G m s'→(b=true↔k∈l)→Q (.bool (!b)) s'):wpAny (model c.prog c.w) A (compareOp .NotIn x (.ref a)) Q E s:=by
 have h2:=x_contains_set (A:=A) (E:=E) hS F hu hk hg hI hl (Q:=fun v s'=>Q (.bool (match v with | .bool b=>!b | _=>false)) s') h
 show wpAny _ _ (do return .bool (!(← contains (.ref a) x))) Q E s
 have h3:wpAny (model c.prog c.w) A ((do return Value.bool (← contains (.ref a) x)) >>= fun v=>pure (.bool (match v with | .bool b=>!b | _=>false))) Q E s :=
  wpAny_bind (wpAny_mono h2 (fun v s' hv=>wpAny_pure hv) fun _ _ e=>e)
 simpa using h3
theorem x_add {Q:Value→Shared→Prop} (hS:KdS kd) (F:Fx c O L G m s) (hu:A.in1.units<cLine) (hk:kd.is G k x) (hg:G a=some o) (hI:SetIs kd G o l) (hl:l.length<1000)
  (h:∀ s' o',Fx c O L (upd G a o') m s'→SetIs kd (upd G a o') o' (ins k l)→Q .none s'):wpAny (model c.prog c.w) A (call (.builtin "set.add") [.ref a,x] []) Q E s:=by
 have hT:=hI.typeIs (F.get hg)
 refine wpAny_call_entry PySem.F.slot_set_add hT PySem.F.entry_set_add ?_ (PySem.F.args_set_add_2 _ _)
 unfold Builtin.«set.add» Builtin.Frozenset.oneOther
 simp only [List.isEmpty_nil,bind_assoc]
 refine wpAny_bind (wpAny_pure ?_)
 try dsimp only
 refine wpAny_bind (wpAny_pure ?_)
 refine wpAny_bind ?_
 refine wpAny_holding ?_
 refine wpAny_bind (kd.pyHash F hu hk ?_)
 have F1:=F.eta (t:=s.toks+kd.draws k) (d:=s.drawn)
 refine hS.add F1 hu hk hg hI hl fun s' o' b F2 hI2 _=>?_
 show wpAny _ _ (ret Value.none) _ _ _
 exact wpAny_pure (inEA _ rfl (h s' o' F2 hI2))
end
end
section
theorem upd_same {G:View} {a:Addr} {o:Obj} (h:G a=some o):upd G a o=G:=by
 funext b; unfold upd; split
 ·rename_i e; rw [e,h]
 ·rfl
theorem upd_upd (G:View) (a:Addr) (o o':Obj):upd (upd G a o) a o'=upd G a o':=by
 funext b; unfold upd; split <;> rfl
section
variable {c:Cx} {K:Type} [DecidableEq K] {kd:Kd c K} {O:List (Addr×Obj)} {L a b f:Addr} {G:View} {m:Str→Option Value} {A:Around} {E:Value→Shared→Prop} {s:Shared} {o ob of:Obj} {l lb lf:List K} {k:K} {x:Value}
theorem x_storeSet {es es':Array (Int×Value)} {ep:Nat} {t t':SetTable} {Q:Unit→Shared→Prop} (F:Fx c O L G m s) (hg:G a=some o) (hd:o.data=.set es ep t) (hz:es'.size<4000)
  (h:∀ s',Fx c O L (upd G a { o with data:=.set es' (ep+1) t' }) m s'→Q () s'):wpAny (model c.prog c.w) A (storeSet a es' t') Q E s:=by
 have F1:=F.upd hg (Obj.putSet es' t') (by rw [putSet_of _ t' hd]; rfl) (t:=s.toks) (d:=s.drawn)
 rw [putSet_of _ t' hd] at F1
 exact wpAny_storeSet_of (F.get hg) hd (h _ F1) (setLine hz)
theorem x_roomFor {more:Nat} {Q:Unit→Shared→Prop} (F:Fx c O L G m s) (hg:G a=some o) (hI:SetIs kd G o l) (hl:l.length<1000) (hm:more<1000)
  (h:∀ s' o',Fx c O L (upd G a o') m s'→SetIs kd (upd G a o') o' l→(∀ es ep t,o'.data=.set es ep t→0<more→more*5<t.mask*3)→Q () s'):wpAny (model c.prog c.w) A (setRoomFor a more) Q E s:=by
 have hI':=hI
 refine unAEEEEAAAAAA hI fun h1 es ep t ks h2 h3 h4 h5 h6 h7 h8=>?_; clear hI
 have hsz:es.size=l.length:=by rw [← Array.length_toList,h3.length,h4.length_eq]
 have hps:t.place.size=es.size:=by have:=h6.len; simpa using this
 refine wpAny_bind (wpAny_setState_of (F.get hg) h2 h6.fits' ?_)
 cases hr:t.roomFor more with
 | none =>
  have F1:Fx c O L (upd G a o) m s:=by rw [upd_same hg]; exact F
  have I1:SetIs kd (upd G a o) o l:=by rw [upd_same hg]; exact hI'
  refine wpAny_pure (h s o F1 I1 fun es' ep' t' e _=>?_)
  rw [h2] at e; cases e
  unfold SetTable.roomFor at hr
  split at hr
  ·exact snN hr
  ·rename_i hlt; have:=h6.fill; exact a30 2110408371625668547119960309080119871771560443385112 hlt
 | some wanted =>
  have hw:wanted=(es.size+more)*2:=by
   unfold SetTable.roomFor at hr
   split at hr
   ·cases hr; rw [hps]
   ·exact nnS hr
  refine setRelay_ok (F.get hg) h2 h6.fits' (by exact a20 53242534463611294868832006390039 hl hsz) (by exact a30 1789922650244436354256496599501079 hw) (by exact a40 121768906943240315030866623319916345416754231397566864345104957721 hl hm hsz hw) fun es' t' p' z' T' l' m' w'=>?_
  have F1:=F.upd hg (Obj.putSet es' t') (by rw [putSet_of _ t' h2]; rfl) (t:=s.toks) (d:=s.drawn)
  rw [putSet_of _ t' h2] at F1
  refine unEA (Zip2.perm p'.symm h3) fun ks' zz q=>?_
  have I1:SetIs kd G { o with data:=.set es' (ep+1) t' } l:=(inAEEEEAAAAAA h1 es' (ep+1) t' ks' rfl zz (q.trans h4) h5 T' m' (fun q=>l'.trans (h8 q)))
  refine h _ _ F1 (I1.up (.upd hg hI'.notTup)) fun es2 ep2 t2 e h0=>?_
  cases e
  exact a40 5302434574686884833073651805079270930801673354470815175960 hw w' h0
theorem SetIs.flags {es:Array (Int×Value)} {ep ep':Nat} {t t':SetTable} (hI:SetIs kd G o l) (hd:o.data=.set es ep t) (h1:t'.mask=t.mask) (h2:t'.place=t.place) (h3:t'.dummies=t.dummies)
  (hl:c.w.params.followText "set-order" = false→t'.led=true):SetIs kd G { o with data:=.set es ep' t' } l:=by
 refine unAEEEEAAAAAA hI fun q1 es' ep'' t'' ks q2 q3 q4 q5 q6 q7 q8=>?_; clear hI
 rw [hd] at q2; clear q8; cases q2
 exact (inAEEEEAAAAAA q1 es ep' t' ks rfl q3 q4 q5 (q6.turn h1 h2 h3) (by exact a20 55447335946631589746588160663830 h1 q7) hl)
theorem setsQuiet_ok {sets:List Addr} {Q:Bool→Shared→Prop} (hs:∀ a∈sets,∃ o es ep t,s.heap.get? a=some o∧o.data=.set es ep t∧t.fits es.size=true∧∀ e∈es.toList,carriedByValue e.2=true) (h:Q true s) :
  wpAny (model c.prog c.w) A (setsQuiet sets) Q E s:=by
 refine wpAny_bind ?_
 refine wpAny_forIn_list _ (fun rest r s'=>r=(none,())∧s'=s∧∀ a∈rest,a∈sets) _ ?_ ?_ _ _ (inAA rfl rfl (fun _ h=>h))
 ·intro a rest r s' z1; refine unAA z1 fun y1 y2 hall=>?_; clear z1; subst y1; clear h; subst y2
  refine unEEEEAAA (hs a (hall a List.mem_cons_self)) fun o es ep t g1 g2 g3 g4=>?_
  refine wpAny_bind (wpAny_setEntries_of g1 g2 g3 (wpAny_bind ?_))
  rw [← Array.forIn_toList]
  refine wpAny_forIn_list _ (fun rest' r s''=>r=(none,())∧s''=s'∧∀ e∈rest',e∈es.toList) _ ?_ ?_ _ _ (inAA rfl rfl (fun _ h=>h))
  ·intro z2 rest' r s'' z3; obtain ⟨hh,y⟩:=z2; refine unAA z3 fun y3 y4 hall'=>?_; clear z3; subst y3; (replace y4:=y4.symm; subst y4)
   have hy:=g4 _ (hall' _ List.mem_cons_self)
   dsimp only at hy ⊢
   cases y <;> first | exact absurd hy Bool.false_ne_true | exact wpAny_pure (inAA rfl rfl (fun e he=>hall' e (List.mem_cons_of_mem _ he)))
  ·intro r s'' z4; refine unAA z4 fun y5 y6 _=>?_; clear z4; subst y5; (replace y6:=y6.symm; subst y6)
   exact wpAny_pure (inAA rfl rfl (fun a ha=>hall a (List.mem_cons_of_mem _ ha)))
 ·intro r s' z5; refine unAA z5 fun y7 y8 _=>?_; clear z5; subst y7; (replace y8:=y8.symm; subst y8)
  exact wpAny_pure h
theorem SetIs.quiet {s:Shared} (hv:∀ {G k v},kd.is G k v→carriedByValue v=true) (F:Fx c O L G m s) (hg:G a=some o) (hI:SetIs kd G o l) :
  ∃ o es ep t,s.heap.get? a=some o∧o.data=.set es ep t∧t.fits es.size=true∧∀ e∈es.toList,carriedByValue e.2=true:=by
 refine unAEEEEAAAAAA hI fun h1 es ep t ks h2 h3 h4 h5 h6 h7 h8=>?_; clear hI
 refine (inEEEEAAA o es ep t (F.get hg) h2 h6.fits' (fun e he=>?_))
 refine unEAA (h3.left he) fun k _ r _=>?_
 exact hv r
theorem x_walkUnseen {others:List Addr} {Q:Array (Int×Value)→Shared→Prop} (hv:∀ {G k v},kd.is G k v→carriedByValue v=true) (F:Fx c O L G m s) (hg:G a=some o) (hI:SetIs kd G o l) (hgf:G f=some of) (hIf:SetIs kd G of lf) (hlf:lf.length<1000)
  (ho:∀ b∈others,∃ o l,G b=some o∧SetIs kd G o l)
  (h:∀ es s' of',Fx c O L (upd G f of') m s'→SetIs kd (upd G f of') of' lf→(∃ ks,Zip2 (kd.Elt G) es.toList ks∧ks.Perm l)→Q es s'):wpAny (model c.prog c.w) A (setWalkUnseen a others (some f)) Q E s:=by
 have F1:Fx c O L (upd G f of) m s:=by rw [upd_same hgf]; exact F
 have I1:SetIs kd (upd G f of) of lf:=by rw [upd_same hgf]; exact hIf
 have hI':=hI
 refine unAEEEEAAAAAA hI fun h1 es ep t ks h2 h3 h4 h5 h6 h7 h8=>?_; clear hI
 refine wpAny_bind (wpAny_setState_of (F.get hg) h2 h6.fits' ?_)
 refine wpAny_bind (wpAny_bind (wpAny_askSetting (wpAny_pure ?_)))
 have walk:wpAny (model c.prog c.w) A (setWalk a) Q E s:=x_setWalk F hg hI' fun es' s' F' hz=>by
  have F2:Fx c O L (upd G f of) m s':=by rw [upd_same hgf]; exact F'
  exact h es' s' of F2 I1 hz
 split
 ·first | exact walk | exact wpAny_bind (wpAny_mono walk (fun _ _ q=>wpAny_pure q) fun _ _ e=>e)
 ·rename_i hb
  have hled:t.led=true:=h8 (by
   have hb:¬ (((model c.prog c.w).w.params.followText "set-order" || (t.led&&t.plain)) || decide (es.size≤1))=true:=hb
   rw [Bool.or_eq_true,Bool.or_eq_true,not_or,not_or] at hb
   exact (Bool.not_eq_true _).mp hb.1.1)
  refine wpAny_bind (setsQuiet_ok ?_ ?_)
  ·intro b hb
   rcases List.mem_cons.mp hb with rfl | hb
   ·exact hI'.quiet hv F hg
   ·refine unEEA (ho b hb) fun ob lb g1 g2=>?_
    exact g2.quiet hv F g1
  refine wpAny_bind (wpAny_rule ?_)
  try dsimp only
  have hIf':=hIf
  refine unAEEEEAAAAAA hIf fun f1 ef epf tf kf f2 f3 f4 f5 f6 f7 f8=>?_; clear hIf
  refine wpAny_bind (wpAny_setState_of (F.get hgf) f2 f6.fits' ?_)
  dsimp only
  split
  ·have hsz:ef.size=lf.length:=by rw [← Array.length_toList,f3.length,f4.length_eq]
   refine wpAny_bind (x_storeSet F hgf f2 (by exact a20 53242534463611294868832008438039 hlf hsz) fun s' F'=>?_)
   refine wpAny_pure (h es s' _ F' ?_ (inEA ks h3 h4))
   exact (hIf'.flags (t':={ tf with led:=tf.led&&t.led,plain:=tf.plain&&t.plain }) f2 rfl rfl rfl fun q=>by rw [f8 q,hled]; rfl).up (.upd hgf hIf'.notTup)
  ·exact wpAny_pure (h es s of F1 I1 (inEA ks h3 h4))
end
end
section
section
variable {c:Cx} {K:Type} [DecidableEq K] {kd:Kd c K} {O:List (Addr×Obj)} {L a b f:Addr} {G:View} {m:Str→Option Value} {A:Around} {E:Value→Shared→Prop} {s:Shared} {o ob of:Obj} {l lb lf:List K} {k:K} {x:Value}
noncomputable def Both (l lb l':List K):Prop:=∀ k,k∈l'↔k∈l∨k∈lb
noncomputable def Adding (c:Cx) (kd:Kd c K) (O:List (Addr×Obj)) (L a:Addr) (G:View) (m:Str→Option Value) (l lb:List K) (rest:List (Int×Value)) (s':Shared):Prop :=
 ∃ o' l' ks',Fx c O L (upd G a o') m s'∧SetIs kd (upd G a o') o' l'∧Zip2 (kd.Elt G) rest ks'∧(∀ k,k∈l'∨k∈ks'↔k∈l∨k∈lb)∧l'.length+rest.length≤l.length+lb.length
theorem Adding.step {h:Int} {rest:List (Int×Value)} {Q:Bool→Shared→Prop} (hS:KdS kd) (hu:A.units<cLine) (hg:G a=some o) (hn:o.cls≠.type "tuple") (hl:l.length+lb.length<1000) (hA:Adding c kd O L a G m l lb ((h,x)::rest) s)
  (hq:∀ s' b,Adding c kd O L a G m l lb rest s'→Q b s'):wpAny (model c.prog c.w) A (setAddHashed a x h) Q E s:=by
 refine unEEEAAAA hA fun o' l' ks' F I z hm hlen=>?_; clear hA
 cases z with
 | @cons _ k _ ks' r z =>
  obtain ⟨r1,r2⟩:=r
  dsimp only at r1 r2
  subst r2
  have r1':=kd.up r1 (Tups.upd (o':=o') hg hn)
  refine hS.add F hu r1' (upd_self _ _ _) I (by simp at hlen; exact a40 58540785708704624566454365222296222495121688 hl hlen) fun s' o'' b F' I' _=>hq s' b ?_
  rw [upd_upd] at F' I'
  refine (inEEEAAAA o'' _ ks' F' I' z (fun q=>?_) ?_)
  ·rw [← hm q,mem_ins,List.mem_cons]
   constructor
   ·rintro ((h | h) | h)
    ·exact .inr (.inl h)
    ·exact .inl h
    ·exact .inr (.inr h)
   ·rintro (h | h | h)
    ·exact .inl (.inr h)
    ·exact .inl (.inl h)
    ·exact .inr h
  ·have:=length_ins (k:=k) (l:=l'); simp at hlen; exact a50 54573312929923276408633941408075220730 hlen this
theorem Adding.fin (hA:Adding c kd O L a G m l lb [] s):∃ o' l',Fx c O L (upd G a o') m s∧SetIs kd (upd G a o') o' l'∧Both l lb l':=by
 refine unEEEAAAA hA fun o' l' ks' F I z hm _=>?_; clear hA
 cases z
 exact (inEEAA o' l' F I (fun k=>by rw [← hm k]; simp))
omit [DecidableEq K] in
theorem Both.nil (l:List K):Both l [] l:=fun k=>by simp
theorem x_merge {each:Sem Unit} {Q:Unit→Shared→Prop} (hS:KdS kd) (hv:∀ {G k v},kd.is G k v→carriedByValue v=true) (F:Fx c O L G m s) (hu:A.units<cLine) (hg:G a=some o) (hI:SetIs kd G o l) (hgb:G b=some ob) (hIb:SetIs kd G ob lb) (hab:a≠b)
  (hl:l.length+lb.length<1000) (heach:∀ s' o' (Q':Unit→Shared→Prop),Fx c O L (upd G a o') m s'→Q' () s'→wpAny (model c.prog c.w) A each Q' E s')
  (h:∀ s' o' l',Fx c O L (upd G a o') m s'→SetIs kd (upd G a o') o' l'→Both l lb l'→Q () s'):wpAny (model c.prog c.w) A (setMerge a b each) Q E s:=by
 have hIb':=hIb
 refine unAEEEEAAAAAA hIb fun b1 eb epb tb kb b2 b3 b4 b5 b6 b7 b8=>?_; clear hIb
 have hszb:eb.size=lb.length:=by rw [← Array.length_toList,b3.length,b4.length_eq]
 have hne:=hI.notTup
 unfold setMerge
 rw [if_neg (by simpa using hab)]
 refine wpAny_bind (wpAny_setState_of (F.get hgb) b2 b6.fits' ?_)
 dsimp only
 by_cases he:eb.isEmpty=true
 ·rw [if_pos he]
  have:lb=[]:=by
   have:eb.size=0:=by simpa [Array.isEmpty] using he
   exact List.eq_nil_of_length_eq_zero (by exact Nat.le_antisymm (a20 51581979816737416407 hszb this) (a10 42694))
  clear hl hIb' b4 b5 hszb; subst this
  refine wpAny_pure (h s o l (by rw [upd_same hg]; exact F) (by rw [upd_same hg]; exact hI) (Both.nil l))
 ·rw [if_neg he]
  have hpos:0<eb.size:=by
   rcases Nat.eq_zero_or_pos eb.size with h0 | h0
   ·exact absurd (by simp [Array.isEmpty,h0]) he
   ·exact h0
  refine wpAny_bind (x_roomFor F hg hI (by exact a30 1829399553397019520951056330997170978136342 hl hszb hpos) (by exact a30 54520355266243801145287045949661464 hl hszb) fun sJ1 oJ1 FJ1 IJ1 room=>?_)
  have up1:Tups G (upd G a oJ1):=.upd hg hne
  have IJ1':=IJ1
  refine unAEEEEAAAAAA IJ1 fun q1 eJ1 epJ1 tJ1 kJ1 q2 q3 q4 q5 q6 q7 q8=>?_; clear IJ1
  have room:=room _ _ _ q2 hpos
  have hszJ1:eJ1.size=l.length:=by rw [← Array.length_toList,q3.length,q4.length_eq]
  have hps:tJ1.place.size=eJ1.size:=by have:=q6.len; simpa using this
  refine wpAny_bind (wpAny_setState_of (FJ1.get (upd_self _ _ _)) q2 q6.fits' ?_)
  have hgbJ1:upd G a oJ1 b=some ob:=(upd_ne hab.symm).trans hgb
  have filled:∀ (es:Array (Int×Value)) (ep:Nat) (t:SetTable),l=[]→(∃ ks,Zip2 (kd.Elt G) es.toList ks∧ks.Perm lb)→TOk t (es.toList.map (·.1))→t.mask<9000→(c.w.params.followText "set-order" = false→t.led=true) →
    SetIs kd G { oJ1 with data:=.set es ep t } lb:=fun es ep t _ v1 T hm hled=>unEA v1 fun ks z p=>(inAEEEEAAAAAA q1 es ep t ks rfl z p b5 T hm hled)
  have empty:tJ1.fill=0→l=[]:=fun hf=>List.eq_nil_of_length_eq_zero (by have:=q6.fill; exact Nat.le_antisymm (a40 58076146328526768033747168678421719 hszJ1 hps hf this) (a10 42694))
  have done:∀ (es:Array (Int×Value)) (t:SetTable),tJ1.fill=0→es.size<4000→(∃ ks,Zip2 (kd.Elt G) es.toList ks∧ks.Perm lb)→TOk t (es.toList.map (·.1))→t.mask<9000→(c.w.params.followText "set-order" = false→t.led=true) →
    wpAny (model c.prog c.w) A (storeSet a es t) Q E sJ1:=fun es t hf hz hk T hm hled=>by
   refine x_storeSet FJ1 (upd_self _ _ _) q2 hz fun sJ2 FJ2=>?_
   rw [upd_upd] at FJ2
   refine h sJ2 _ lb FJ2 ((filled es _ t (empty hf) hk T hm hled).up (.upd hg hne)) fun k=>?_
   rw [empty hf]; simp
  cases hroad:tJ1.road tb with
  | slotForSlot =>
   have hf:tJ1.fill=0:=by
    unfold SetTable.road at hroad
    split at hroad
    ·cases hroad
    ·rename_i hc; simpa using hc
   exact done eb _ hf (by exact a30 54520355266243801145287045952733464 hl hszb) (inEA kb b3 b4) (b6.turn (t':={ tb with finger:=tJ1.finger,led:=tJ1.led&&tb.led,moves:=tJ1.moves,plain:=tJ1.plain&&tb.plain }) rfl rfl rfl) b7 fun q=>by rw [q8 q,b8 q]; rfl
  | clean =>
   have hf:tJ1.fill=0:=by
    unfold SetTable.road at hroad
    split at hroad
    ·cases hroad
    ·rename_i hc; simpa using hc
   dsimp only
   refine unE q6.pow fun kk hkk=>?_
   refine unEEAAAAAAA (laid_ok tJ1.finger tJ1.moves (tJ1.led&&tb.led) (tJ1.plain&&tb.plain) hkk (eb.map (·.1)) (by simpa using room)) fun t' order e1 e2 e3 e4 e5 e6 e7 e8=>?_
   rw [Array.size_map] at e2
   refine unAA (filterMap_order eb e2) fun f1 f2 f3=>?_
   rw [e1]
   change wpAny _ _ (do
    let (es,t) ← (do
     let some (t,order):=some (t',order) | unsupported "internal:set-table-without-room"
     let es':=order.filterMap (eb[·]?)
     if es'.size != eb.size then unsupported "internal:set-table-lost-an-element"
     pure (es',t))
    storeSet a es t) _ _ _
   dsimp only
   refine wpAny_bind ?_
   rw [if_neg (by rw [f2]; simp)]
   refine wpAny_pure ?_
   refine unEA (Zip2.perm f1.symm b3) fun ks' zz q=>?_
   refine done _ t' hf (by rw [f2]; exact a30 54520355266243801145287045952733464 hl hszb) (inEA ks' zz (q.trans b4)) ?_ (by exact a20 53252205870168211902229662966039 q7 e6) fun q=>by rw [e4,q8 q,b8 q]; rfl
   rw [f3 (·.1) 0]; exact e3
  | oneByOne =>
   have hIbJ1:=hIb'.up up1
   refine wpAny_bind (x_walkUnseen hv FJ1 hgbJ1 hIbJ1 (upd_self _ _ _) IJ1' (by exact a30 1829399553397019520951056330997170978136342 hl hszb hpos) (fun b' hb'=>?_) fun es sJ2 oJ2 FJ2 IJ2 hz=>?_)
   ·rw [List.mem_singleton] at hb'
    (replace hb':=hb'.symm; subst hb')
    exact (inEEA oJ1 l (upd_self _ _ _) IJ1')
   rw [upd_upd] at FJ2 IJ2
   refine unEA hz fun ks z p=>?_; clear hz
   have z':Zip2 (kd.Elt G) es.toList ks:=by
    refine z.imp fun e k r=>⟨kd.up r.1 fun c' oc hc ht=>?_,r.2⟩
    by_cases hca:c'=a
    ·(replace hca:=hca.symm; subst hca); rw [upd_self] at hc; cases hc; rw [q1.1] at ht; exact absurd ht (by decide)
    ·rw [upd_ne hca] at hc; exact hc
   refine wpAny_mono (?_:wpAny (model c.prog c.w) A _ (fun _ s'=>Adding c kd O L a G m l lb [] s') E sJ2) (fun _ s' hA=>?_) fun _ _ e=>e
   ·refine wpAny_bind ?_
    rw [← Array.forIn_toList]
    refine wpAny_forIn_list _ (fun rest r s'=>Adding c kd O L a G m l lb rest s') _ ?turn ?fin _ _ (inEEEAAAA oJ2 l ks FJ2 IJ2 z' (fun k=>by rw [p.mem_iff]) (by rw [z'.length,p.length_eq]; exact Nat.le_refl _))
    case fin=>exact fun _ _ h=>wpAny_pure h
    intro z1 rest r s' hA; obtain ⟨hh,y⟩:=z1
    refine wpAny_bind (wpAny_holding (hA.step hS hu hg hne hl fun s'' b' hA'=>?_))
    refine unEEEA (id hA') fun o' l' ks' F' r'=>?_
    refine wpAny_bind (heach s'' o' _ F' ?_)
    have hgb':upd G a o' b=some ob:=(upd_ne hab.symm).trans hgb
    refine wpAny_bind (wpAny_setState_of (F'.get hgb') b2 b6.fits' ?_)
    rw [if_neg (by simp)]
    exact wpAny_pure hA'
   ·refine unEEAA hA.fin fun o' l' F' I' hB=>?_
    exact h s' o' l' F' I' hB
end
end
section
theorem entry_set_difference:entryFor table "set.difference" = some Builtin.«frozenset.difference» :=
 entryFor_alias (id' := "frozenset.difference") (by kernel_rfl) rfl (by decide +kernel) (by kernel_rfl)
theorem entry_set_intersection:entryFor table "set.intersection" = some Builtin.«frozenset.intersection» :=
 entryFor_alias (id' := "frozenset.intersection") (by kernel_rfl) rfl (by decide +kernel) (by kernel_rfl)
theorem entry_inter_loop:entryFor table "frozenset.intersection.loop" = some Builtin.«frozenset.intersection.loop»:=entryFor_of_tree (by kernel_rfl)
theorem plain_inter_loop:plainId "frozenset.intersection.loop" = true:=by decide +kernel
theorem sub_dict_set:isSubtype (.type "dict") (.type "set")=pure false:=by rw [isSubtype_type]; kernel_rfl
theorem sub_dict_frozenset:isSubtype (.type "dict") (.type "frozenset")=pure false:=by rw [isSubtype_type]; kernel_rfl
theorem sub_tuple_set:isSubtype (.type "tuple") (.type "set")=pure false:=by rw [isSubtype_type]; kernel_rfl
theorem sub_tuple_frozenset:isSubtype (.type "tuple") (.type "frozenset")=pure false:=by rw [isSubtype_type]; kernel_rfl
section
variable {prog:Program} {w:World} {A:Around} {E:Value→Shared→Prop} {s:Shared} {v:Value}
theorem isAnySet_true {Q:Bool→Shared→Prop} (hT:s.TypeIs v "set") (h:Q true s):wpAny (model prog w) A (Builtin.Frozenset.isAnySet v) Q E s:=by
 refine wpAny_bind (wpAny_isInstance hT sub_set_self ?_)
 exact wpAny_pure h
theorem isAnySet_false {T:String} {Q:Bool→Shared→Prop} (hT:s.TypeIs v T) (h1:isSubtype (.type T) (.type "set")=pure false) (h2:isSubtype (.type T) (.type "frozenset")=pure false) (h:Q false s):wpAny (model prog w) A (Builtin.Frozenset.isAnySet v) Q E s:=by
 refine wpAny_bind (wpAny_isInstance hT h1 ?_)
 exact wpAny_isInstance hT h2 h
theorem baseOf_set {a:Addr} {Q:Value→Shared→Prop} (hT:s.TypeIs (.ref a) "set") (h:Q (.type "set") s):wpAny (model prog w) A (Builtin.Frozenset.baseOf a) Q E s:=by
 refine wpAny_bind (wpAny_isInstance hT sub_set_self ?_)
 exact wpAny_pure h
end
section
variable {c:Cx} {K:Type} [DecidableEq K] {kd:Kd c K} {O:List (Addr×Obj)} {L a b f:Addr} {G:View} {m:Str→Option Value} {A:Around} {E:Value→Shared→Prop} {s:Shared} {o ob of:Obj} {l lb lf:List K} {k:K} {x:Value}
theorem x_setEpoch {kd:Kd c K} {Q:Nat→Shared→Prop} {es:Array (Int×Value)} {ep:Nat} {t:SetTable} (F:Fx c O L G m s) (hg:G a=some o) (hI:SetIs kd G o l) (hd:o.data=.set es ep t) (h:Q ep s):wpAny (model c.prog c.w) A (setEpoch a) Q E s:=by
 refine unAEEEEAAAAAA hI fun h1 es' ep' t' ks h2 h3 h4 h5 h6 h7 h8=>?_; clear hI
 rw [hd] at h2; clear h3 h7 h8; cases h2
 exact wpAny_setEpoch_of (F.get hg) hd h6.fits' h
theorem x_sizeOf {kd:Kd c K} {Q:Nat→Shared→Prop} (F:Fx c O L G m s) (hg:G a=some o) (hI:SetIs kd G o l) (h:Q l.length s):wpAny (model c.prog c.w) A (Builtin.Frozenset.sizeOf a) Q E s:=by
 refine unAEEEEAAAAAA hI fun h1 es ep t ks h2 h3 h4 h5 h6 h7 h8=>?_; clear hI
 have hsz:es.size=l.length:=by rw [← Array.length_toList,h3.length,h4.length_eq]
 refine wpAny_bind (wpAny_setEntries_of (F.get hg) h2 h6.fits' (wpAny_pure ?_))
 rw [hsz]; exact h
theorem updateFrom_set {id:String} {Q:Unit→Shared→Prop} (hS:KdS kd) (hv:∀ {G k v},kd.is G k v→carriedByValue v=true) (F:Fx c O L G m s) (hu:A.units<cLine) (hg:G a=some o) (hI:SetIs kd G o l) (hgb:G b=some ob) (hIb:SetIs kd G ob lb) (hab:a≠b)
  (hl:l.length+lb.length<1000) (h:∀ s' o' l',Fx c O L (upd G a o') m s'→SetIs kd (upd G a o') o' l'→Both l lb l'→Q () s'):wpAny (model c.prog c.w) A (Builtin.Frozenset.updateFrom id a (.ref b)) Q E s:=by
 refine wpAny_bind (isAnySet_true (hIb.typeIs (F.get hgb)) ?_)
 refine wpAny_bind (wpAny_pure ?_)
 obtain ⟨eb,epb,tb,hdb⟩:∃ es ep t,ob.data=.set es ep t:=by refine unAEEEEA hIb fun _ es ep t _ h2 _=>?_; clear hIb; exact (inEEE es ep t h2)
 refine wpAny_bind (x_setEpoch F hgb hIb hdb ?_)
 refine x_merge hS hv F hu hg hI hgb hIb hab hl (fun s' o' Q' F' hq=>?_) h
 refine wpAny_bind (x_setEpoch F' ((upd_ne hab.symm).trans hgb) (hIb.up (.upd hg hI.notTup)) hdb ?_)
 rw [if_neg (by simp)]
 exact wpAny_pure hq
theorem updateFrom_dict {id:String} {kvs:List (K×Value)} {Q:Unit→Shared→Prop} (hS:KdS kd) (F:Fx c O L G m s) (hu:A.units<cLine) (hg:G a=some o) (hI:SetIs kd G o l) (hgb:G b=some ob) (hD:DictIs kd G ob kvs) (hab:a≠b)
  (hl:l.length+kvs.length<1000) (h:∀ s' o' l',Fx c O L (upd G a o') m s'→SetIs kd (upd G a o') o' l'→Both l (kvs.map (·.1)) l'→Q () s'):wpAny (model c.prog c.w) A (Builtin.Frozenset.updateFrom id a (.ref b)) Q E s:=by
 have hT:=hD.typeIs (F.get hgb)
 refine unAEEAA hD fun hx es ep hd hz hn=>?_; clear hD
 have hsz:es.size=kvs.length:=by rw [← Array.length_toList,hz.length]
 have hne:=hI.notTup
 refine wpAny_bind (isAnySet_false hT sub_dict_set sub_dict_frozenset ?_)
 refine wpAny_bind (wpAny_typeOf hT ?_)
 refine wpAny_bind (wpAny_rule ?_)
 refine wpAny_bind (wpAny_pure ?_)
 rw [if_neg (by rw [F.mods hgb]; exact Bool.false_ne_true)]
 refine wpAny_bind (wpAny_dictEpoch (F.get hgb) hd (wpAny_bind (wpAny_dictEntries (F.get hgb) hd ?_)))
 refine wpAny_bind (x_roomFor F hg hI (by exact a20 1624833204336279662923587862 hl) (by exact a30 54520355266243801145287045949661464 hl hsz) fun sJ1 oJ1 FJ1 IJ1 _=>?_)
 have hgb':∀ o',upd G a o' b=some ob:=fun o'=>(upd_ne hab.symm).trans hgb
 refine wpAny_bind (wpAny_dictEntries (FJ1.get (hgb' _)) hd (wpAny_bind ?_))
 rw [Std.Legacy.Range.forIn_eq_forIn_range']
 have zmap:Zip2 (kd.Elt G) (es.toList.map fun e:DictEntry=>(e.hash,e.key)) (kvs.map (·.1)):=by
  clear h hsz hn IJ1 FJ1 hl
  generalize es.toList=le at hz
  induction hz with
  | nil=>exact .nil
  | cons r _ ih=>exact .cons ⟨r.1,r.2.1⟩ ih
 refine wpAny_forIn_list _ (fun rest _ s'=>∃ i,i≤es.size∧rest=List.range' i (es.size - i) 1∧Adding c kd O L a G m l (kvs.map (·.1)) ((es.toList.map fun e:DictEntry=>(e.hash,e.key)).drop i) s') _ ?turn ?fin _ _
  (inEAA 0 (Nat.zero_le _) (by simp [Std.Legacy.Range.size]) (inEEEAAAA oJ1 l _ FJ1 IJ1 zmap (fun k=>Iff.rfl) (by simp; exact Nat.le_of_eq ‹_›)))
 case fin =>
  intro r s' z1; refine unEAA z1 fun i hi hr hA=>?_; clear z1
  have hi':es.size - i=0:=by
   rcases Nat.eq_zero_or_pos (es.size - i) with h0 | h0
   ·exact h0
   ·obtain ⟨n,hn⟩:∃ n,es.size - i=n+1:=⟨es.size - i - 1,by exact Nat.le_antisymm (a20 1478578913013702390 sg) (a20 1575177606584304886 (Nat.sub_add_cancel (a10 1466932700871 h0)))⟩
    rw [hn,List.range'_succ] at hr; cases hr
  rw [List.drop_eq_nil_of_le (by simp; exact a30 51012166337342346405655 hi' sg)] at hA
  refine unEEAA hA.fin fun o' l' F' I' hB=>?_
  exact wpAny_pure (h s' o' l' F' I' hB)
 case turn =>
  intro x rest r s' z2; refine unEAA z2 fun i hi hr hA=>?_; clear z2
  have hlt:i<es.size:=by
   rcases Nat.lt_or_ge i es.size with h0 | h0
   ·exact h0
   ·have:es.size - i=0:=by exact Nat.le_antisymm (a30 49278172487082970227928 h0 (Nat.sub_add_cancel (a20 1434183575286 hi))) (a10 42694)
    rw [this] at hr; cases hr
  obtain ⟨n,hn'⟩:∃ n,es.size - i=n+1:=⟨es.size - i - 1,by exact Nat.le_antisymm (a20 1478578913013702390 sg) (a20 1575177606584304886 (Nat.sub_add_cancel (a30 50458764015064487864071 hlt sg)))⟩
  rw [hn',List.range'_succ] at hr
  obtain ⟨rfl,rfl⟩:=List.cons.inj hr
  refine unEEEA (_root_.id hA) fun o' l' ks' F' r'=>?_
  refine wpAny_bind (wpAny_dictEntries (F'.get (hgb' _)) hd ?_)
  rw [Array.getElem?_eq_getElem hlt]
  have hdrop:(es.toList.map fun e:DictEntry=>(e.hash,e.key)).drop x=(es[x].hash,es[x].key)::(es.toList.map fun e:DictEntry=>(e.hash,e.key)).drop (x+1):=by
   rw [List.drop_eq_getElem_cons (by simpa using hlt)]
   simp
  rw [hdrop] at hA
  refine wpAny_bind (wpAny_holding (hA.step hS hu hg hne (by simpa using hl) fun s'' b' hA'=>?_))
  refine unEEEA (_root_.id hA') fun o'' l'' ks'' F'' r''=>?_
  refine wpAny_bind (wpAny_dictEpoch (F''.get (hgb' _)) hd ?_)
  rw [if_neg (by simp)]
  exact wpAny_pure (inEAA (x+1) (by assumption) (by congr 1; exact Nat.le_antisymm (a50 1873203762872184255140665946618950887255 hn' (Nat.sub_add_cancel (a20 1468543313654 hlt)) sg) (a50 1830668467008304887247128572973381887738 hn' (Nat.sub_add_cancel (a20 1468543313654 hlt)) (Nat.sub_add_cancel (a20 1503788353160438 hlt)))) hA')
theorem update_call {other:Value} {Q:Value→Shared→Prop} (hT:s.TypeIs (.ref a) "set") (h:wpAny (model c.prog c.w) A.in1 (Builtin.Frozenset.updateFrom "set.update" a other) (fun _ s'=>Q .none s') E s) :
  wpAny (model c.prog c.w) A (call (.builtin "set.update") [.ref a,other] []) Q E s:=by
 refine wpAny_call_entry PySem.F.slot_set_update hT PySem.F.entry_set_update ?_ (PySem.F.args_set_update_2 _ _)
 refine wpAny_bind (m:=Builtin.Frozenset.manyOthers _ _) (wpAny_pure ?_)
 dsimp only
 rw [List.forIn_cons]
 refine wpAny_bind (wpAny_bind (wpAny_bind (wpAny_mono h (fun _ s' hq=>wpAny_pure ?_) fun _ _ e=>e)))
 dsimp only
 rw [List.forIn_nil]
 exact wpAny_pure (wpAny_pure (inEA _ rfl hq))
theorem x_update {Q:Value→Shared→Prop} (hS:KdS kd) (hv:∀ {G k v},kd.is G k v→carriedByValue v=true) (F:Fx c O L G m s) (hu:A.in1.units<cLine) (hg:G a=some o) (hI:SetIs kd G o l) (hgb:G b=some ob) (hIb:SetIs kd G ob lb) (hab:a≠b)
  (hl:l.length+lb.length<1000) (h:∀ s' o' l',Fx c O L (upd G a o') m s'→SetIs kd (upd G a o') o' l'→Both l lb l'→Q .none s'):wpAny (model c.prog c.w) A (call (.builtin "set.update") [.ref a,.ref b] []) Q E s :=
 update_call (hI.typeIs (F.get hg)) (updateFrom_set hS hv F hu hg hI hgb hIb hab hl h)
theorem x_updateDict {kvs:List (K×Value)} {Q:Value→Shared→Prop} (hS:KdS kd) (F:Fx c O L G m s) (hu:A.in1.units<cLine) (hg:G a=some o) (hI:SetIs kd G o l) (hgb:G b=some ob) (hD:DictIs kd G ob kvs) (hab:a≠b)
  (hl:l.length+kvs.length<1000) (h:∀ s' o' l',Fx c O L (upd G a o') m s'→SetIs kd (upd G a o') o' l'→Both l (kvs.map (·.1)) l'→Q .none s'):wpAny (model c.prog c.w) A (call (.builtin "set.update") [.ref a,.ref b] []) Q E s :=
 update_call (hI.typeIs (F.get hg)) (updateFrom_dict hS F hu hg hI hgb hD hab hl h)
end
end
section
section
variable {prog:Program} {w:World} {A:Around} {E:Value→Shared→Prop} {s:Shared}
theorem truthy_set {a:Addr} {o:Obj} {es:Array (Int×Value)} {ep:Nat} {t:SetTable} {Q:Bool→Shared→Prop} (hg:s.heap.get? a=some o) (hex:o.ExactSet) (hd:o.data=.set es ep t) (hf:t.fits es.size=true) (hfit:(es.size:Int)<2 ^ 63)
  (h:Q ((es.size:Int) != 0) { s with toks:=s.toks+1+1 }):wpAny (model prog w) A (truthy (.ref a)) Q E s:=by
 have hT:s.TypeIs (.ref a) "set" := (inEA o hg hex.1)
 have key:wpAny (model prog w) A (runValue (.builtin "len" ⟨[.ref a],[]⟩)) (fun r s'=>r=.int es.size (s.toks+1)∧Q ((es.size:Int) != 0) s') E s:=by
  refine wpAny_runValue (codeAny_builtin entry_len ?_)
  rw [Around.under_plainId plain_len _]
  exact wpAny_mono (wpAny_len_body_set (Q:=fun r s'=>r=.int es.size (s.toks+1)∧Q ((es.size:Int) != 0) s') hg hex hd hf hfit ⟨rfl,h⟩)
   (fun fin s' h'=>by refine unEA h' fun r y1 hq=>?_; clear h'; subst y1; exact hq) fun _ _ e=>e
 refine wpAny_bind (wpAny_callSpecial?_none (name:=Str.ofString "__bool__") hT noBool_set ?_)
 refine wpAny_bind (wpAny_specialOf (name:=Str.ofString "__len__") hT PySem.F.slot_set_len.lookup ?_)
 exact wpAny_bind (wpAny_mono key (fun r s' h'=>by obtain ⟨rfl,hq⟩:=h'; exact wpAny_pure hq) fun _ _ e=>e)
theorem meets_bool_new_set (a:Addr) :
  Meets (Builtin.«bool.__new__» ⟨[.type "bool",.ref a],[]⟩) (fun _ R s=>∃ o es ep t,s.heap.get? a=some o∧o.ExactSet∧o.data=.set es ep t∧t.fits es.size=true∧(es.size:Int)<2 ^ 63∧R (.ok (.ret (.bool ((es.size:Int) != 0)))) { s with toks:=s.toks+1+1 }) :=
 Meets.of_wp fun prog w A R s hs=>by
  refine unEEEEAAAA hs fun o es ep t q1 q2 q3 q4 w47=>unA w47 fun q5 q6=>?_; clear w47; clear hs
  obtain ⟨hp,g,d,tk,os⟩:=s
  have f1:=PySem.F.conv_sub_bool
  repeat (any_goals (first | assumption | (with_reducible refine truthy_set q1 q2 q3 q4 q5 ?_) | wp_step))
  all_goals first | exact (inEA _ rfl q6) | exact q6 | skip
end
section
variable {c:Cx} {K:Type} [DecidableEq K] {kd:Kd c K} {O:List (Addr×Obj)} {L a b f:Addr} {G:View} {m:Str→Option Value} {A:Around} {E:Value→Shared→Prop} {s:Shared} {o ob of:Obj} {l lb lf:List K} {k:K} {x:Value}
theorem x_boolSet {kd:Kd c K} {Q:Value→Shared→Prop} (F:Fx c O L G m s) (hg:G a=some o) (hI:SetIs kd G o l) (hl:l.length<1000) (h:∀ s',Fx c O L G m s'→Q (.bool (decide (l≠[]))) s'):wpAny (model c.prog c.w) A (call (.type "bool") [.ref a] []) Q E s:=by
 refine unAEEEEAAAAAA hI fun h1 es ep t ks h2 h3 h4 h5 h6 h7 h8=>?_; clear hI
 have hsz:es.size=l.length:=by rw [← Array.length_toList,h3.length,h4.length_eq]
 have hb:((es.size:Int) != 0)=decide (l≠[]):=by
  cases l with
  | nil=>simp at hsz; simp [hsz]
  | cons a l=>simp [hsz]; exact fun z0=>a10 52815959765 z0
 refine call_bool_1 (meets_bool_new_set a) (inEEEEAAAA o es ep t (F.get hg) h1 h2 h6.fits' (inA (by omega) ?_))
 rw [hb]
 exact ⟨rfl,h _ (F.eta (t:=s.toks+1+1) (d:=s.drawn))⟩
theorem x_truthyList {vs:List Value} {Q:Bool→Shared→Prop} (F:Fx c O L G m s) (hg:G a=some o) (hL:ListIs o vs) (hl:vs.length<100000) (h:∀ s',Fx c O L G m s'→Q (!vs.isEmpty) s'):wpAny (model c.prog c.w) A (truthy (.ref a)) Q E s :=
 wpAny_truthy_list (hL.isList (F.get hg)) (by simp; omega) (by simpa using h _ (F.eta (t:=s.toks+1+1) (d:=s.drawn)))
theorem x_truthyTup {vs:List Value} {Q:Bool→Shared→Prop} (F:Fx c O L G m s) (hg:G a=some o) (hL:TupIs o vs) (hl:vs.length<100000) (h:∀ s',Fx c O L G m s'→Q (!vs.isEmpty) s'):wpAny (model c.prog c.w) A (truthy (.ref a)) Q E s :=
 truthy_tuple (hL.isTuple (F.get hg)) (by simp; omega) (by simpa using h _ (F.eta (t:=s.toks+1+1) (d:=s.drawn)))
theorem x_unchanged {id:String} {kd:Kd c K} {Q:Unit→Shared→Prop} {es:Array (Int×Value)} {ep:Nat} {t:SetTable} (F:Fx c O L G m s) (hg:G a=some o) (hI:SetIs kd G o l) (hd:o.data=.set es ep t) (h:Q () s):wpAny (model c.prog c.w) A (Builtin.Frozenset.unchanged id a ep) Q E s:=by
 refine wpAny_bind (x_setEpoch F hg hI hd ?_)
 rw [if_neg (by simp)]
 exact wpAny_pure h
theorem x_difference {Q:Value→Shared→Prop} (hS:KdS kd) (hv:∀ {G k v},kd.is G k v→carriedByValue v=true) (F:Fx c O L G m s) (hu:A.in1.units<cLine) (hg:G a=some o) (hI:SetIs kd G o l) (hgb:G b=some ob) (hIb:SetIs kd G ob lb)
  (hl:l.length<1000) (hlb:lb.length<1000) (hsm:l.length / 4≤lb.length) (h:∀ r s' o' l',G r=none→Fx c O L (upd G r o') m s'→SetIs kd (upd G r o') o' l'→(∀ k,k∈l'↔k∈l∧k∉lb)→Q (.ref r) s') :
  wpAny (model c.prog c.w) A (call (.builtin "set.difference") [.ref a,.ref b] []) Q E s:=by
 have hT:=hI.typeIs (F.get hg)
 refine wpAny_call_entry PySem.F.slot_set_difference hT entry_set_difference ?_ (PySem.F.args_set_difference_2 _ _)
 refine wpAny_bind (m:=Builtin.Frozenset.manyOthers _ _) (wpAny_pure ?_)
 refine wpAny_bind (wpAny_mono (?diff:wpAny (model c.prog c.w) A.in1 (Builtin.Frozenset.difference "frozenset.difference" a (.ref b)) Q E s) (fun r s' hq=>?rest) fun _ _ e=>e)
 case rest =>
  refine wpAny_bind (wpAny_holding ?_)
  rw [List.forIn_nil]
  exact wpAny_pure (wpAny_pure (inEA _ rfl hq))
 refine wpAny_bind (isAnySet_true (hIb.typeIs (F.get hgb)) ?_)
 refine wpAny_bind (wpAny_pure ?_)
 refine wpAny_bind (x_sizeOf F hgb hIb (wpAny_bind (x_sizeOf F hg hI ?_)))
 rw [if_neg (by exact a20 1434183580375 hsm)]
 refine wpAny_bind (baseOf_set hT (wpAny_bind (newSet_ok ?_)))
 have F1:=F.push (set0 c.w) rfl (t:=s.toks) (d:=s.drawn)
 have hr:G s.heap.objs.size=none:=F.fresh
 generalize s.heap.objs.size=r at F1 hr ⊢
 have up1:∀ o',Tups G (upd G r o'):=fun o'=>.push hr
 have other:∀ {q:Addr} {oq:Obj} (o':Obj),G q=some oq→upd G r o' q=some oq:=fun {q oq} o' e=>by rw [upd_ne (nns e hr)]; exact e
 refine wpAny_bind (wpAny_pure ?_)
 obtain ⟨ea,epa,ta,hda⟩:∃ es ep t,o.data=.set es ep t:=by refine unAEEEEA hI fun _ es ep t _ h2 _=>?_; clear hI; exact (inEEE es ep t h2)
 refine wpAny_bind (x_setEpoch F1 (other _ hg) (hI.up (up1 _)) hda ?_)
 have I0:SetIs kd (upd G r (set0 c.w)) (set0 c.w) []:=SetIs.fresh _ fun q=>by rw [q]; rfl
 refine wpAny_bind (wpAny_holding (wpAny_bind ?_))
 refine x_walkUnseen hv F1 (other _ hg) (hI.up (up1 _)) (upd_self _ _ _) I0 (by simp) (fun q hq=>?_) fun es sJ2 oJ2 FJ2 IJ2 hz=>?_
 ·rcases List.mem_cons.mp hq with rfl | hq
  ·exact (inEEA ob lb (other _ hgb) (hIb.up (up1 _)))
  ·rw [List.mem_singleton] at hq; (replace hq:=hq.symm; subst hq); exact (inEEA _ ([]) (upd_self _ _ _) I0)
 rw [upd_upd] at FJ2 IJ2
 refine unEA hz fun ks z p=>?_; clear hz
 have z':Zip2 (kd.Elt G) es.toList ks:=by
  refine z.imp fun e k r'=>⟨kd.up r'.1 fun c' oc hc ht=>?_,r'.2⟩
  by_cases hca:c'=r
  ·(replace hca:=hca.symm; subst hca); rw [upd_self] at hc; cases hc; exact absurd (show Value.type "set" = Value.type "tuple" from ht) (by decide)
  ·rw [upd_ne hca] at hc; exact hc
 refine wpAny_bind ?_
 rw [← Array.forIn_toList]
 refine wpAny_forIn_list _ (fun rest _ s'=>∃ o' l' ks',Fx c O L (upd G r o') m s'∧SetIs kd (upd G r o') o' l'∧Zip2 (kd.Elt G) rest ks'∧(∀ k,(k∈l'∨(k∈ks'∧k∉lb))↔k∈l∧k∉lb)∧l'.length+rest.length≤l.length)
  _ ?turn ?fin _ _ (inEEEAAAA oJ2 ([]) ks FJ2 IJ2 z' (fun k=>by simp [p.mem_iff]) (by rw [z'.length,p.length_eq]; simp))
 case fin =>
  intro x s' z1; refine unEEEAAAA z1 fun o' l' ks' F' I' z hm _=>?_; clear z1
  cases z
  exact wpAny_pure (wpAny_pure (h r s' o' l' hr F' I' fun k=>by rw [← hm k]; simp))
 case turn =>
  intro z2 rest x s' z3; obtain ⟨hh,y⟩:=z2; refine unEEEAAAA z3 fun o' l' ks' F' I' z hm hlen=>?_; clear z3
  cases z with
  | @cons _ k _ ks' r' z =>
   obtain ⟨r1,r2⟩:=r'
   dsimp only at r1 r2
   subst r2
   have r1':=kd.up r1 (up1 o')
   refine wpAny_bind (wpAny_holding (wpAny_bind (hS.find F' hu r1' (other _ hgb) (hIb.up (up1 _)) hlb fun rf hrf=>wpAny_bind (wpAny_pure ?_))))
   by_cases hin:k∈lb
   ·have:rf.isSome=true:=hrf.mpr hin
    rw [this]
    refine wpAny_pure (wpAny_bind (x_unchanged F' (other _ hg) (hI.up (up1 _)) hda (wpAny_pure (inEEEAAAA o' l' ks' F' I' z (fun q=>?_) (by simp at hlen; exact a30 1540340557187003451126 hlen)))))
    rw [← hm q,List.mem_cons]
    constructor
    ·rintro (q | ⟨q1,q2⟩)
     ·exact .inl q
     ·exact .inr ⟨.inr q1,q2⟩
    ·rintro (q | ⟨q1 | q1,q2⟩)
     ·exact .inl q
     ·(replace q1:=q1.symm; subst q1); exact absurd hin q2
     ·exact .inr ⟨q1,q2⟩
   ·have:rf.isSome=false:=by
     cases e:rf.isSome with
     | false=>rfl
     | true=>exact absurd (hrf.mp e) hin
    rw [this]
    refine wpAny_bind (hS.add F' hu r1' (upd_self _ _ _) I' (by simp at hlen; exact a30 55828843817715600760245588798194295063 hl hlen) fun s'' o'' b F'' I'' _=>wpAny_pure ?_)
    rw [upd_upd] at F'' I''
    refine wpAny_bind (x_unchanged F'' (other _ hg) (hI.up (up1 _)) hda (wpAny_pure (inEEEAAAA o'' _ ks' F'' I'' z (fun q=>?_) (by have:=length_ins (k:=k) (l:=l'); simp at hlen; exact a40 52925698542564754945014421522169 hlen this))))
    rw [← hm q,mem_ins,List.mem_cons]
    constructor
    ·rintro ((q | q) | ⟨q1,q2⟩)
     ·(replace q:=q.symm; subst q); exact .inr ⟨.inl rfl,hin⟩
     ·exact .inl q
     ·exact .inr ⟨.inr q1,q2⟩
    ·rintro (q | ⟨q1 | q1,q2⟩)
     ·exact .inl (.inr q)
     ·exact .inl (.inl q1)
     ·exact .inr ⟨q1,q2⟩
end
end
section
section
variable {c:Cx} {K:Type} [DecidableEq K] {kd:Kd c K} {O:List (Addr×Obj)} {L a b f t I:Addr} {G:View} {m:Str→Option Value} {A:Around} {E:Value→Shared→Prop} {s:Shared} {o ob of ot oI:Obj} {l lb lf:List K} {k:K} {x:Value} {vs:List Value} {ks:List K}
theorem Room.in1' {A:Around} {n:Nat} (h:Room A n):A.in1.in1.units<cLine:=by have:=h.units; show A.units+1+1<_; exact a30 1818425438203143144673576389722154173686 this
noncomputable abbrev KeysAre (kd:Kd c K) (G:View) (vs:List Value) (ks:List K):Prop:=Zip2 (fun v k=>kd.is G k v) vs ks
theorem KeysAre.up {G G':View} (h:KeysAre kd G vs ks) (ht:Tups G G'):KeysAre kd G' vs ks:=Zip2.imp (fun _ _ r=>kd.up r ht) h
theorem inter_loop {R:Result→Shared→Prop} {r:Addr} (hS:KdS kd) (hh:A.handled=none) (hu:A.in1.units<cLine) (hr:G r=none) (hg:G a=some o) (hI:SetIs kd G o l) (hl:l.length<1000) (hgt:G t=some ot) (hT:TupIs ot vs) (hz:KeysAre kd G vs ks)
  (fin:∀ s' o' l',Fx c O L (upd G r o') m s'→SetIs kd (upd G r o') o' l'→l'.length≤l.length→(l'≠[]↔∃ k,k∈l∧k∈ks)→R (.ok (.ret .none)) s') :
  ∀ (n i:Nat) (s:Shared) (o' oI:Obj) (l':List K),vs.length - i=n→i≤vs.length→itT t i oI→Fx c ((I,oI)::O) L (upd G r o') m s→SetIs kd (upd G r o') o' l'→l'.length≤l.length→(∀ k∈l',k∈l∧k∈ks)→(l'=[]→∀ k∈ks.take i,k∉l) →
   codeAny (model c.prog c.w) A (.builtin "frozenset.intersection.loop" ⟨[.ref a,.ref I,.ref r],[]⟩) R s:=by
 have up1:∀ o',Tups G (upd G r o'):=fun o'=>.push hr
 have other:∀ {q:Addr} {oq:Obj} (o':Obj),G q=some oq→upd G r o' q=some oq:=fun {q oq} o' e=>by rw [upd_ne (nns e hr)]; exact e
 have hlen:=hz.length
 intro n
 induction n with
 | zero =>
  intro i s o' oI l' hn hi hok F I' hle hin hno
  have:i=vs.length:=by exact Nat.le_antisymm (a20 1434183575286 hi) (a30 51012166337342346405655 hn sg)
  clear hn hi; subst this
  refine codeAny_builtin entry_inter_loop ?_
  rw [Around.under_plainId plain_inter_loop _]
  refine wpAny_bind ((It.tup t vs).done (by exact hh) F ⟨ot,other _ hgt,hT⟩ hok fun s' F'=>?_)
  refine wpAny_pure (fin s' o' l' F' I' hle ⟨fun hne=>?_,fun v1 hnil=>unEA v1 fun k h1 h2=>?_⟩)
  ·cases l' with
   | nil=>exact absurd rfl hne
   | cons k l'=>exact ⟨k,hin k (.head _)⟩
  ·exact hno hnil k (by rw [List.take_of_length_le (by exact a20 1537262790359 hlen)]; exact h2) h1
 | succ n ih =>
  intro i s o' oI l' hn hi hok F I' hle hin hno
  have hlt:i<vs.length:=by exact a40 53239653052292631376210744 hn (Nat.sub_add_cancel (a20 1434183575286 hi))
  refine codeAny_builtin entry_inter_loop ?_
  rw [Around.under_plainId plain_inter_loop _]
  refine wpAny_bind ((It.tup t vs).next F (inEA ot (other _ hgt) hT) hok hlt fun v sJ1 oIJ1 hv hokJ1 FJ1=>?_)
  obtain ⟨k,hk⟩:∃ k,ks[i]?=some k:=⟨ks[i]'(by exact a30 50429058295017810680 hlen hlt),List.getElem?_eq_getElem (by exact a30 50429058295017810680 hlen hlt)⟩
  have hkv:kd.is G k v:=hz.get hv hk
  have hkv':=kd.up hkv (up1 o')
  have hkm:k∈ks:=List.mem_of_getElem? hk
  have htake:ks.take (i+1)=ks.take i++[k]:=by rw [List.take_add_one,hk]; rfl
  refine wpAny_bind (wpAny_holding (kd.pyHash FJ1 hu hkv' ?_))
  have FJ2:=FJ1.eta (t:=sJ1.toks+kd.draws k) (d:=sJ1.drawn)
  refine wpAny_bind (wpAny_holding (hS.find FJ2 hu hkv' (other _ hg) (hI.up (up1 _)) hl fun rf hrf=>?_))
  by_cases hin':k∈l
  ·rw [if_pos (hrf.mpr hin')]
   by_cases hroom:l'.length<1000
   ·refine wpAny_bind (wpAny_holding (hS.add FJ2 hu hkv' (upd_self _ _ _) I' hroom fun sJ3 oJ3 bJ3 FJ3 IJ3 _=>?_))
    rw [upd_upd] at FJ3 IJ3
    refine wpAny_bind (x_sizeOf FJ3 (upd_self _ _ _) IJ3 (wpAny_bind (x_sizeOf FJ3 (other _ hg) (hI.up (up1 _)) ?_)))
    have hne:ins k l'≠[]:=fun e=>by have:k∈ins k l':=mem_ins.mpr (.inl rfl); rw [e] at this; exact niP this
    have hinJ3:∀ q∈ins k l',q∈l∧q∈ks:=fun q hq=>by
     rcases mem_ins.mp hq with rfl | hq
     ·exact ⟨hin',hkm⟩
     ·exact hin q hq
    have hleJ3:(ins k l').length≤l.length:=nodup_len IJ3.nodup fun q hq=>(hinJ3 q hq).1
    split
    ·exact wpAny_bind (wpAny_rule (wpAny_pure (fin sJ3 oJ3 _ FJ3.drop IJ3 hleJ3 ⟨fun _=>(inEA k hin' hkm),fun _=>hne⟩)))
    ·rename_i hlt'
     exact wpAny_pure ⟨plainId_quiet plain_inter_loop _,ih (i+1) sJ3 oJ3 oIJ1 _ (by exact subS ‹_›) hlt hokJ1 FJ3 IJ3 hleJ3 hinJ3 fun e=>absurd e hne⟩
   ·exact False.elim (a20 1703761102835559129959752396972789 hl hle hroom)
  ·rw [if_neg (fun q=>hin' (hrf.mp q))]
   refine wpAny_pure ⟨plainId_quiet plain_inter_loop _,ih (i+1) _ o' oIJ1 l' (by exact subS ‹_›) hlt hokJ1 FJ2 I' hle hin fun e q hq=>?_⟩
   rw [htake] at hq
   rcases List.mem_append.mp hq with hq | hq
   ·exact hno e q hq
   ·rw [List.mem_singleton] at hq; (replace hq:=hq.symm; subst hq); exact hin'
theorem x_intersection {n:Nat} {Q:Value→Shared→Prop} (hS:KdS kd) (F:Fx c O L G m s) (R:Room A n) (hg:G a=some o) (hI:SetIs kd G o l) (hl:l.length<1000) (hgt:G t=some ot) (hT:TupIs ot vs) (hz:KeysAre kd G vs ks)
  (h:∀ r s' o' l',G r=none→Fx c O L (upd G r o') m s'→SetIs kd (upd G r o') o' l'→l'.length<1000→(l'≠[]↔∃ k,k∈l∧k∈ks)→Q (.ref r) s') :
  wpAny (model c.prog c.w) A (call (.builtin "set.intersection") [.ref a,.ref t] []) Q E s:=by
 have hTy:=hI.typeIs (F.get hg)
 have hta:t≠a:=fun e=>by clear hTy; subst e; rw [hg] at hgt; cases hgt; exact hI.notTup hT.1
 refine wpAny_call_entry PySem.F.slot_set_intersection hTy entry_set_intersection ?_ (PySem.F.args_set_intersection_2 _ _)
 refine wpAny_bind (m:=Builtin.Frozenset.manyOthers _ _) (wpAny_pure ?_)
 dsimp only
 rw [List.forIn_cons]
 refine wpAny_bind (wpAny_bind (wpAny_bind (wpAny_holding ?_)))
 refine wpAny_bind (wpAny_pure ?_)
 refine wpAny_mono (?inter:wpAny (model c.prog c.w) A.in1 (Builtin.Frozenset.intersection "frozenset.intersection" a (.ref t)) Q E s) (fun r s' hq=>?rest) fun _ _ e=>e
 case rest =>
  refine wpAny_pure ?_
  dsimp only
  rw [List.forIn_nil]
  exact wpAny_pure (wpAny_pure (inEA _ rfl hq))
 unfold Builtin.Frozenset.intersection
 rw [if_neg (show ¬ ((Value.ref t == Value.ref a)=true) from fun e=>hta (by have:=eq_of_beq e; injection this))]
 refine wpAny_bind (baseOf_set hTy (wpAny_bind (newSet_ok ?_)))
 have F1:=F.push (set0 c.w) rfl (t:=s.toks) (d:=s.drawn)
 have hr:G s.heap.objs.size=none:=F.fresh
 generalize s.heap.objs.size=r at F1 hr ⊢
 have other:∀ {q:Addr} {oq:Obj} (o':Obj),G q=some oq→upd G r o' q=some oq:=fun {q oq} o' e=>by rw [upd_ne (nns e hr)]; exact e
 refine wpAny_bind (wpAny_pure ?_)
 refine wpAny_bind (wpAny_holding ?_)
 refine wpAny_bind (isAnySet_false (T := "tuple") (inEA ot (F1.get (other _ hgt)) hT.1) sub_tuple_set sub_tuple_frozenset ?_)
 have I0:SetIs kd (upd G r (set0 c.w)) (set0 c.w) []:=SetIs.fresh _ fun q=>by rw [q]; rfl
 refine wpAny_bind (x_iter_tup F1 (other _ hgt) hT fun I sJ2 oI hok FJ2=>?_)
 refine wpAny_bind (wpAny_runValue ?_)
 refine inter_loop hS (by exact R.handled) R.in1' hr hg hI hl hgt hT hz (fun s' o' l' F' I' hle hB=>?_) (vs.length - 0) 0 sJ2 _ oI [] rfl (Nat.zero_le _) hok FJ2 I0 (Nat.zero_le _) (fun _ h=>niP h) (fun _ _ h=>by simp at h)
 refine wpAny_pure (wpAny_pure (h r s' o' l' hr F' I' (by exact a20 53242534463611222811237967438103 hl hle) hB))
end
end
section
open PySem PySem.W PySem.Calls PyProof.Rows PySem.SetTable
theorem owner_set_iterator:Manifest.owners.lookup (String.ofList ['r', 'o', 't', 'a', 'r', 'e', 't', 'i', '_', 't', 'e', 's'].reverse)=some Manifest.sig_set_iterator:=by kernel_rfl
theorem slot_set_iterator_next:Slot "set_iterator" "__next__" "set_iterator.__next__" :=
 .of (owner := "set_iterator") (n := "__next__") (by rw [typeLookup_type,builtinLookup_eq_fast]; kernel_rfl) (by decide +kernel) (by decide +kernel) (by decide +kernel)
  (by first | exact .inl (by decide +kernel) | exact .inr (by decide +kernel)) (by rw [isSubtype_type]; kernel_rfl)
theorem entry_set_iterator_next:entryFor table "set_iterator.__next__" = some Builtin.«set_iterator.__next__»:=entryFor_of_tree (by kernel_rfl)
theorem args_set_iterator_next (a:Value):argsOk "set_iterator.__next__" ⟨[a],[]⟩:=by
 unfold argsOk; rw [signature?_of (id := "set_iterator.__next__") (n:=['_', '_', 't', 'x', 'e', 'n', '_', '_']) (o:=['r', 'o', 't', 'a', 'r', 'e', 't', 'i', '_', 't', 'e', 's']) (by kernel_rfl) owner_set_iterator]; kernel_rfl
theorem entry_set_iter:entryFor table "set.__iter__" = some Builtin.«frozenset.__iter__» :=
 entryFor_alias (id' := "frozenset.__iter__") (by kernel_rfl) rfl (by decide +kernel) (by kernel_rfl)
theorem below_next {xs:Array Nat} (h:asc xs) {i:Nat} (hi:i<xs.size):below xs (xs[i]+1)=i+1:=by
 refine unAA (below_spec h (xs[i]+1)) fun b1 b2 b3=>?_
 have gt:∀ k (hk:k<xs.size),xs.getD k 0=xs[k]:=fun k hk=>by rw [Array.getD_eq_getD_getElem?,Array.getElem?_eq_getElem hk]; rfl
 rcases Nat.lt_trichotomy (below xs (xs[i]+1)) (i+1) with hlt | he | hgt
 ·have:=b2 i (by exact Nat.le_of_lt_succ ‹_›) hi
  rw [gt i hi] at this; exact Nat.le_antisymm (a30 1501994112605265687 this) (a30 1501994112606012663 this)
 ·exact he
 ·have hk:i+1<xs.size:=by exact a30 50460848590726572309972216 b3 hgt
  have h1:=b1 (i+1) hgt
  have h2:=asc_get h (Nat.lt_succ_self i) hk
  rw [gt _ hk] at h1
  rw [gt i hi,gt _ hk] at h2
  exact Nat.le_antisymm (a40 50821801413025619535503160 h1 h2) (a40 50821801413025619536282872 h1 h2)
theorem below_zero {xs:Array Nat} (h:asc xs):below xs 0=0:=by
 refine unAA (below_spec h 0) fun b1 b2 b3=>?_
 rcases Nat.eq_zero_or_pos (below xs 0) with h0 | h0
 ·exact h0
 ·have:=b1 0 h0; exact Nat.le_antisymm (a20 1450289669335 this) (a20 1450289669862 this)
noncomputable abbrev setItObj (first:Value) (a:Addr) (i n ep:Nat):Obj:={ cls:=.type "set_iterator",dict:=none,data:=.fields #[first,rawInt i,.ref a,rawInt n,rawInt ep],slots:=#[] }
noncomputable def slotOf (t:SetTable):Nat→Nat
 | 0=>0
 | i+1=>t.place.getD i 0+1
inductive SetMode (c:Cx) (a:Addr) (es:Array (Int×Value)) (ep:Nat) (t:SetTable):List (Addr×Obj)→List Value→(Nat→Value→Prop)→Prop
 | text (k:Nat):c.w.params.followText "set-order" = true→SetMode c a es ep t [] ((pickOrder (c.w.params.setOrder a ep) es).toList.map (·.2)) (fun _ first=>first=rawInt k)
 | drawn (q n:Nat) (ot:Obj) (places:List Nat):c.w.params.followText "set-order" = false→(!t.plain&&decide (es.size > 1))=true→ot.data=.seq (places.map fun i:Nat=>rawInt i).toArray n→places.Perm (List.range es.size) →
   SetMode c a es ep t [(q,ot)] (places.filterMap fun i=>(es[i]?).map (·.2)) (fun _ first=>first=.ref q)
 | plain:c.w.params.followText "set-order" = false→(!t.plain&&decide (es.size > 1))=false→t.led=true→SetMode c a es ep t [] (es.toList.map (·.2))
   (fun i first=>first=rawInt (slotOf t i))
noncomputable def itSet (a:Addr) (n ep:Nat) (fm:Nat→Value→Prop) (i:Nat) (o:Obj):Prop:=∃ first,fm i first∧o=setItObj first a i n ep
section
variable {c:Cx} {K:Type} [DecidableEq K] {kd:Kd c K}
theorem SetMode.length {a:Addr} {es:Array (Int×Value)} {ep:Nat} {t:SetTable} {X:List (Addr×Obj)} {vs:List Value} {fm:Nat→Value→Prop} (M:SetMode c a es ep t X vs fm):vs.Perm (es.toList.map (·.2)):=by
 cases M with
 | text k hb=>exact (pickOrder_ok _ es).map _
 | drawn q n ot places h1 h2 h3 h4 =>
  refine (h4.filterMap _).trans ?_
  have:(List.range es.size).filterMap (fun i=>(es[i]?).map (·.2))=es.toList.map (·.2):=by
   have h:=filterMap_getElem?_range es
   rw [← h,List.map_filterMap]
  rw [this]
 | plain h1 h2 h3=>exact .refl _
theorem setNext_text {O:List (Addr×Obj)} {L a:Addr} {G:View} {m:Str→Option Value} {s:Shared} {A:Around} {E:Value→Shared→Prop} {o:Obj} {es:Array (Int×Value)} {ep:Nat} {t:SetTable} {slot i:Nat} {Q:Option (Value×Nat)→Shared→Prop}
  (F:Fx c O L G m s) (hg:G a=some o) (hd:o.data=.set es ep t) (T:TOk t (es.toList.map (·.1))) (hb:c.w.params.followText "set-order" = true)
  (h:Q (((pickOrder (c.w.params.setOrder a ep) es)[i]?).map fun e=>(e.2,slot)) s):wpAny (model c.prog c.w) A (setNext a slot i ep) Q E s:=by
 have hb':(model c.prog c.w).w.params.followText "set-order" = true:=hb
 refine wpAny_bind (wpAny_setState_of (F.get hg) hd T.fits' ?_)
 refine wpAny_bind (wpAny_bind (wpAny_askSetting (wpAny_pure ?_)))
 rw [if_pos hb',if_neg (by simp)]
 refine wpAny_bind ?_
 refine wpAny_bind (wpAny_setState_of (F.get hg) hd T.fits' ?_)
 refine wpAny_bind (wpAny_bind (wpAny_askSetting (wpAny_pure ?_)))
 rw [if_pos hb']
 refine wpAny_bind (wpAny_askSetting (wpAny_pure (wpAny_pure h)))
theorem setNext_plain {O:List (Addr×Obj)} {L a:Addr} {G:View} {m:Str→Option Value} {s:Shared} {A:Around} {E:Value→Shared→Prop} {o:Obj} {es:Array (Int×Value)} {ep:Nat} {t:SetTable} {slot i g:Nat} {Q:Option (Value×Nat)→Shared→Prop}
  (F:Fx c O L G m s) (hg:G a=some o) (hd:o.data=.set es ep t) (T:TOk t (es.toList.map (·.1))) (hb:c.w.params.followText "set-order" = false) (hn:(!t.plain&&decide (es.size > 1))=false) (hled:t.led=true) (hs:below t.place slot=i)
  (h:Q (match es[i]?,t.place[i]? with | some (_,x),some j=>some (x,j+1) | _,_=>none) s):wpAny (model c.prog c.w) A (setNext a slot g ep) Q E s:=by
 have hb':(model c.prog c.w).w.params.followText "set-order" = false:=hb
 refine wpAny_bind (wpAny_setState_of (F.get hg) hd T.fits' ?_)
 refine wpAny_bind (wpAny_bind (wpAny_askSetting (wpAny_pure ?_)))
 rw [hb']
 change wpAny _ _ (if (!t.plain&&decide (es.size > 1))=true then _ else _) _ _ _
 rw [if_neg (by rw [hn]; exact Bool.false_ne_true)]
 change wpAny _ _ (do
  (if (!t.led&&!es.isEmpty)=true then unsupported "set:maker-not-led" else pure ())
  _) _ _ _
 rw [hled]
 refine wpAny_bind (wpAny_pure ?_)
 rw [hs]
 exact wpAny_pure h
theorem setIt_next {O:List (Addr×Obj)} {L I a:Addr} {G:View} {m:Str→Option Value} {s:Shared} {A:Around} {E:Value→Shared→Prop} {o oI:Obj} {es:Array (Int×Value)} {ep:Nat} {t:SetTable} {X:List (Addr×Obj)} {vs:List Value} {fm:Nat→Value→Prop} {i:Nat} {v:Value} {Q:Option Value→Shared→Prop}
  (F:Fx c ((I,oI)::(X++O)) L G m s) (hg:G a=some o) (hd:o.data=.set es ep t) (T:TOk t (es.toList.map (·.1))) (M:SetMode c a es ep t X vs fm) (hok:itSet a es.size ep fm i oI) (hv:vs[i]?=some v)
  (h:∀ s' o',itSet a es.size ep fm (i+1) o'→Fx c ((I,o')::(X++O)) L G m s'→Q (some v) s'):wpAny (model c.prog c.w) A (pyNext (.ref I)) Q E s:=by
 refine unEA hok fun first hfm y1=>?_; clear hok; subst y1
 have hid:=F.hid
 have hT:s.TypeIs (.ref I) "set_iterator" := (inEA _ hid rfl)
 have hps:t.place.size=es.size:=by have:=T.len; simpa using this
 have hil:i<es.size:=by
  have h1:=(List.getElem?_eq_some_iff.mp hv).1
  have h2:=M.length.length_eq
  simp at h2; exact a30 49276136826884631318 h1 h2
 refine wpAny_bind (wpAny_attempt (wpAny_callSpecial?_slot (name:=Str.ofString "__next__") hT slot_set_iterator_next
  (wpAny_call_entry slot_set_iterator_next hT entry_set_iterator_next ?_ (args_set_iterator_next _))))
 refine wpAny_bind (m:=slotArgs _ _ _) (wpAny_pure ?_)
 dsimp only
 refine wpAny_bind (wpAny_fieldsOf hid rfl ?_)
 refine wpAny_bind (wpAny_setEntries_of (F.get hg) hd T.fits' ?_)
 rw [if_neg (by simp)]
 have out:∀ (hJ1:Heap) (o':Obj),Heap.SameBut I s.heap hJ1→hJ1.get? I=some o'→Fx c ((I,o')::(X++O)) L G m { s with heap:=hJ1 }:=fun hJ1 o' hs ho' =>
  F.turn (fun b x hb e=>(hs.2 b hb).trans e) ho' rfl rfl
 cases M with
 | text k hb =>
  subst hfm
  refine wpAny_bind (setNext_text F hg hd T hb ?_)
  rw [List.getElem?_map,Array.getElem?_toList] at hv
  refine unEA (Option.map_eq_some_iff.mp hv) fun e he y2=>?_; clear hv; subst y2
  simp only [Int.toNat_natCast,he,Option.map_some]
  refine wpAny_bind (wpAny_setField_rec hid (by simp) fun hJ1 heJ1 hsJ1=>?_)
  refine wpAny_bind (wpAny_setField_rec heJ1 (by simp) fun hJ2 heJ2 hsJ2=>?_)
  have hsJ2:Heap.SameBut I s.heap hJ2:=Heap.SameBut.trans hsJ1 hsJ2
  exact wpAny_pure (inEA _ rfl (wpAny_pure (h { s with heap:=hJ2 } _ (inEA (rawInt k) rfl rfl) (out hJ2 _ hsJ2 (by simpa [rawInt,setItObj] using heJ2)))))
 | drawn q n ot places h1 h2 h3 h4 =>
  subst hfm
  have hq:s.heap.get? q=some ot:=(F.out (q,ot) (by simp)).1
  refine wpAny_bind (wpAny_seqItems hq h3 ?_)
  dsimp only
  have hmap:places.filterMap (fun i=>(es[i]?).map (·.2))=places.map fun i=>((es[i]?).map (·.2)).getD .none:=by
   have:∀ p∈places,p<es.size:=fun p hp=>List.mem_range.mp (h4.mem_iff.mp hp)
   clear hv hid F out h h4 h3 hT
   induction places with
   | nil=>rfl
   | cons p ps ih =>
    rw [List.filterMap_cons,Array.getElem?_eq_getElem (this p (.head _)),List.map_cons,Array.getElem?_eq_getElem (this p (.head _))]
    simp only [Option.map_some,Option.getD_some]
    rw [ih fun q hq=>this q (.tail _ hq)]
  rw [hmap,List.getElem?_map] at hv
  refine unEA (Option.map_eq_some_iff.mp hv) fun p hp hpv=>?_
  have hlt:p<es.size:=List.mem_range.mp (h4.mem_iff.mp (List.mem_of_getElem? hp))
  rw [Array.getElem?_eq_getElem hlt] at hpv
  have hpl:(places.map fun i:Nat=>rawInt i).toArray[((i:Nat):Int).toNat]?=some (rawInt p):=by
   rw [List.getElem?_toArray,Int.toNat_natCast,List.getElem?_map,hp]; rfl
  rw [hpl]
  refine wpAny_bind ?_
  refine wpAny_bind (wpAny_setState_of (F.get hg) hd T.fits' ?_)
  dsimp only
  rw [if_neg (by simp),Int.toNat_natCast,Array.getElem?_eq_getElem hlt]
  refine wpAny_pure ?_
  refine wpAny_bind (wpAny_setField_rec hid (by simp) fun hJ1 heJ1 hsJ1=>?_)
  have hpv:(es.toList.get ⟨p,hlt⟩).2=v:=hpv
  rw [hpv]
  exact wpAny_pure (inEA _ rfl (wpAny_pure (h { s with heap:=hJ1 } _ (inEA (.ref q) rfl rfl) (out hJ1 _ hsJ1 (by simpa [rawInt,setItObj] using heJ1)))))
 | plain h1 h2 h3 =>
  subst hfm
  have hbel:below t.place (slotOf t i)=i:=by
   cases i with
   | zero=>exact below_zero T.asc
   | succ i =>
    have hi:i<t.place.size:=by exact a30 52819947315133163809496 hps hil
    have:=below_next T.asc hi
    rw [show slotOf t (i+1)=t.place[i]+1 from by show t.place.getD i 0+1=_; rw [Array.getD_eq_getD_getElem?,Array.getElem?_eq_getElem hi]; rfl]
    exact this
  refine wpAny_bind (setNext_plain F hg hd T h1 h2 h3 (i:=i) (by rw [Int.toNat_natCast]; exact hbel) ?_)
  rw [List.getElem?_map,Array.getElem?_toList] at hv
  refine unEA (Option.map_eq_some_iff.mp hv) fun e he y3=>?_; clear hv; subst y3
  have hpl:t.place[i]?=some t.place[i]:=Array.getElem?_eq_getElem (by exact a30 51581979800698399448 hps hil)
  rw [he,hpl]
  refine wpAny_bind (wpAny_setField_rec hid (by simp) fun hJ1 heJ1 hsJ1=>?_)
  refine wpAny_bind (wpAny_setField_rec heJ1 (by simp) fun hJ2 heJ2 hsJ2=>?_)
  have hsJ2:Heap.SameBut I s.heap hJ2:=Heap.SameBut.trans hsJ1 hsJ2
  refine wpAny_pure (inEA _ rfl (wpAny_pure (h { s with heap:=hJ2 } _ (inEA (rawInt (t.place[i]+1:Nat)) ?_ rfl) (out hJ2 _ hsJ2 (by simpa [rawInt,setItObj] using heJ2)))))
  show rawInt ↑(t.place[i]+1)=rawInt ↑(slotOf t (i+1))
  rw [show slotOf t (i+1)=t.place[i]+1 from by show t.place.getD i 0+1=_; rw [Array.getD_eq_getD_getElem?,hpl]; rfl]
theorem stop_raise {prog:Program} {w:World} {A:Around} {E:Value→Shared→Prop} {s:Shared} {α:Type} {Q:α→Shared→Prop} (hh:A.handled=none)
  (h:∀ (h':Heap) (e:Addr),(∀ b o,s.heap.get? b=some o→h'.get? b=some o)→Shared.TypeIs { s with heap:=h' } (.ref e) "StopIteration" → E (.ref e) { s with heap:=h' }) :
  wpAny (model prog w) A (do raiseNew (α:=α) (← newExc (.type "StopIteration") [])) Q E s:=by
 refine wpAny_bind ?_
 refine wpAny_bind (wpAny_newObj_type ?_ (by size_fits))
 refine wpAny_bind (m:=firstArgMember _ _) (wpAny_of_eq (a:=Value.none) (by first | rfl | (simp only [firstArgMember]; rfl)) ?_)
 refine wpAny_newObj_type ?_ (by size_fits)
 refine wpAny_bind (wpAny_handled ?_)
 rw [hh]
 refine wpAny_bind (wpAny_pure (wpAny_throw ?_))
 exact h _ _ (fun b o e=>Heap.get?_push_of_some _ (Heap.get?_push_of_some _ e)) (inEA _ (Heap.get?_push_size _ rfl) rfl)
theorem setIt_done {O:List (Addr×Obj)} {L I a:Addr} {G:View} {m:Str→Option Value} {s:Shared} {A:Around} {E:Value→Shared→Prop} {o oI:Obj} {es:Array (Int×Value)} {ep:Nat} {t:SetTable} {X:List (Addr×Obj)} {vs:List Value} {fm:Nat→Value→Prop} {Q:Option Value→Shared→Prop}
  (hh:A.handled=none) (F:Fx c ((I,oI)::(X++O)) L G m s) (hg:G a=some o) (hd:o.data=.set es ep t) (T:TOk t (es.toList.map (·.1))) (M:SetMode c a es ep t X vs fm) (hok:itSet a es.size ep fm vs.length oI)
  (h:∀ s',Fx c O L G m s'→Q none s'):wpAny (model c.prog c.w) A (pyNext (.ref I)) Q E s:=by
 have hps:t.place.size=es.size:=by have:=T.len; simpa using this
 have hvl:vs.length=es.size:=by have h2:=M.length.length_eq; simpa using h2
 rw [hvl] at hok
 refine unEA hok fun first hfm y4=>?_; clear hok; subst y4
 have hid:=F.hid
 have hT:s.TypeIs (.ref I) "set_iterator" := (inEA _ hid rfl)
 refine wpAny_bind (wpAny_attempt (wpAny_callSpecial?_slot (name:=Str.ofString "__next__") hT slot_set_iterator_next
  (wpAny_call_entry slot_set_iterator_next hT entry_set_iterator_next ?_ (args_set_iterator_next _))))
 refine wpAny_bind (m:=slotArgs _ _ _) (wpAny_pure ?_)
 dsimp only
 refine wpAny_bind (wpAny_fieldsOf hid rfl ?_)
 refine wpAny_bind (wpAny_setEntries_of (F.get hg) hd T.fits' ?_)
 rw [if_neg (by simp)]
 have out:∀ (hJ1:Heap),Heap.ExtBut I s.heap hJ1→Fx c O L G m { s with heap:=hJ1 }:=fun hJ1 hs=>(F.ended (s':={ s with heap:=hJ1 }) (fun b x hb e=>hs b x hb e) rfl rfl).drops
 have stop:∀ {Q₁:Fin→Shared→Prop} (hJ1:Heap),Heap.SameBut I s.heap hJ1→wpAny (model c.prog c.w) A.in1 (do raiseNew (α:=Fin) (← newExc (.type "StopIteration") [])) Q₁ (fun e s'=>wpAny (model c.prog c.w) A (do
   if ← isInstance e (.type "StopIteration") then pure none else throw e) Q E s') { s with heap:=hJ1 }:=fun {Q₁} hJ1 hs=>by
  refine stop_raise (by exact hh) fun h' e he hTe=>?_
  refine wpAny_bind (wpAny_isInstance (T := "StopIteration") (b:=true) hTe isSubtype_stop ?_)
  exact wpAny_pure (h _ (out h' fun b x hb q=>he b x ((hs.2 b hb).trans q)))
 cases M with
 | text k hb =>
  subst hfm
  refine wpAny_bind (setNext_text F hg hd T hb ?_)
  have hn:(pickOrder (c.w.params.setOrder a ep) es)[((es.size:Nat):Int).toNat]?=none:=by
   rw [List.length_map] at hvl
   rw [Int.toNat_natCast,← Array.getElem?_toList]
   exact List.getElem?_eq_none (by exact Nat.le_of_eq ‹_›)
  simp only [Int.toNat_natCast] at hn ⊢
  rw [hn]
  exact wpAny_bind (wpAny_setField_rec hid (by simp) fun hJ1 heJ1 hsJ1=>stop hJ1 hsJ1)
 | drawn q n ot places h1 h2 h3 h4 =>
  subst hfm
  have hq:s.heap.get? q=some ot:=(F.out (q,ot) (by simp)).1
  refine wpAny_bind (wpAny_seqItems hq h3 ?_)
  dsimp only
  have hn:(places.map fun i:Nat=>rawInt i).toArray[((es.size:Nat):Int).toNat]?=none:=by
   have:=h4.length_eq
   rw [List.length_range] at this
   rw [List.getElem?_toArray,Int.toNat_natCast]
   exact List.getElem?_eq_none (by simp; exact Nat.le_of_eq ‹_›)
  rw [hn]
  exact wpAny_bind (wpAny_setField_rec hid (by simp) fun hJ1 heJ1 hsJ1=>wpAny_bind (wpAny_setField_rec heJ1 (by simp) fun hJ2 heJ2 hsJ2=>stop hJ2 (Heap.SameBut.trans hsJ1 hsJ2)))
 | plain h1 h2 h3 =>
  subst hfm
  have hbel:below t.place (slotOf t es.size)=es.size:=by
   generalize hz:es.size=z
   cases z with
   | zero=>exact below_zero T.asc
   | succ i =>
    have hi:i<t.place.size:=by exact a30 52819947361537030662872 hps hz
    have:=below_next T.asc hi
    rw [show slotOf t (i+1)=t.place[i]+1 from by show t.place.getD i 0+1=_; rw [Array.getD_eq_getD_getElem?,Array.getElem?_eq_getElem hi]; rfl]
    exact this
  refine wpAny_bind (setNext_plain F hg hd T h1 h2 h3 (i:=es.size) (by rw [Int.toNat_natCast]; exact hbel) ?_)
  rw [Array.getElem?_eq_none (Nat.le_refl _)]
  exact wpAny_bind (wpAny_setField_rec hid (by simp) fun hJ1 heJ1 hsJ1=>stop hJ1 hsJ1)
theorem It.set {a:Addr} {o:Obj} {es:Array (Int×Value)} {ep:Nat} {t:SetTable} {X:List (Addr×Obj)} {vs:List Value} {fm:Nat→Value→Prop} (hd:o.data=.set es ep t) (T:TOk t (es.toList.map (·.1))) (M:SetMode c a es ep t X vs fm) :
  It c X vs.length (fun i v=>vs[i]?=some v) (itSet a es.size ep fm) (fun G=>G a=some o) where
 next:=fun {O L I G m s A E oI i Q} F hg hok hi h=>by
  have hv:vs[i]?=some vs[i]:=List.getElem?_eq_getElem hi
  exact setIt_next F hg hd T M hok hv fun s' o' hok' F'=>h _ s' o' hv hok' F'
 done:=fun {O L I G m s A E oI Q} hh F hg hok h=>setIt_done hh F hg hd T M hok h
section
variable {O:List (Addr×Obj)} {L a:Addr} {G:View} {m:Str→Option Value} {s:Shared} {A:Around} {E:Value→Shared→Prop} {o:Obj} {l:List K}
theorem x_iter_set {Q:Value→Shared→Prop} (F:Fx c O L G m s) (hg:G a=some o) (hI:SetIs kd G o l)
  (h:∀ I s' oI X vs ks ok,It c X vs.length (fun i v=>vs[i]?=some v) ok (fun G=>G a=some o)→ok 0 oI→KeysAre kd G vs ks→ks.Perm l→Fx c ((I,oI)::(X++O)) L G m s'→Q (.ref I) s'):wpAny (model c.prog c.w) A (pyIter (.ref a)) Q E s:=by
 have hT:=hI.typeIs (F.get hg)
 refine unAEEEEAAAAAA hI fun h1 es ep t ks h2 h3 h4 h5 h6 h7 h8=>?_; clear hI
 have zv:∀ {vs:List Value},vs.Perm (es.toList.map (·.2))→∃ ks',KeysAre kd G vs ks'∧ks'.Perm l:=fun {vs} p=>by
  have z0:KeysAre kd G (es.toList.map (·.2)) ks:=by
   clear h2 h4 h5 h6 h7 h8 p
   generalize es.toList=le at h3
   induction h3 with
   | nil=>exact .nil
   | cons r _ ih=>exact .cons r.1 ih
  refine unEA (Zip2.perm p.symm z0) fun ks' z q=>?_
  exact (inEA ks' z (q.trans h4))
 refine wpAny_pyIter_slot hT PySem.F.slot_set_iter (wpAny_call_entry PySem.F.slot_set_iter hT entry_set_iter ?_ (PySem.F.args_set_iter_1 _))
 refine wpAny_bind (wpAny_bind (m:=slotArgs _ _ _) (wpAny_pure ?_))
 refine wpAny_pure ?_
 refine wpAny_bind ?_
 refine wpAny_bind (wpAny_setEntries_of (F.get hg) h2 h6.fits' (wpAny_pure ?_))
 refine wpAny_bind (wpAny_bind (wpAny_setState_of (F.get hg) h2 h6.fits' ?_))
 refine wpAny_bind (wpAny_bind (wpAny_askSetting (wpAny_pure (wpAny_pure ?_))))
 have fields:∀ {sJ1:Shared} {first:Value} {X:List (Addr×Obj)} {vs:List Value} {fm:Nat→Value→Prop},Fx c (X++O) L G m sJ1→SetMode c a es ep t X vs fm→fm 0 first →
   wpAny (model c.prog c.w) A.in1 (do ret (← newFields "set_iterator" [first,rawInt 0,.ref a,rawInt es.size,rawInt (← setEpoch a)])) (fun fin s'=>∃ v,fin=.done (.ret v)∧∃ T' r,s'.TypeIs v T'∧typeLookup (.type T') "__next__" = pure (some r)∧Q v s') E sJ1:=by
  intro sJ1 first X vs fm FJ1 M hfm
  refine wpAny_bind (wpAny_setEpoch_of (FJ1.get hg) h2 h6.fits' ?_)
  refine wpAny_bind (wpAny_newObj_type ?_ (by size_fits))
  refine unEA (zv M.length) fun ks' z q=>?_
  refine wpAny_pure (inEA _ rfl (inEEAA ("set_iterator") _ (inEA _ (Heap.get?_push_size _ rfl) rfl) slot_set_iterator_next.lookup ?_))
  exact h _ _ (setItObj first a 0 es.size ep) X vs ks' _ (It.set h2 h6 M) (inEA first hfm rfl) z q (FJ1.hide (setItObj first a 0 es.size ep) rfl (t:=sJ1.toks) (d:=sJ1.drawn))
 by_cases hb:c.w.params.followText "set-order" = true
 ·have hb':(model c.prog c.w).w.params.followText "set-order" = true:=hb
  rw [hb']
  refine wpAny_bind (wpAny_pure ?_)
  exact fields (X:=[]) F (.text 0 hb) rfl
 ·have hb':(model c.prog c.w).w.params.followText "set-order" = false:=(Bool.not_eq_true _).mp hb
  rw [hb']
  change wpAny _ _ (do
   let first ← if (!false&&(!t.plain&&decide (es.size > 1)))=true then newTuple ((← drawOrder es.size (List.range es.size)).map fun (i:Nat)=>rawInt i) else pure (rawInt 0)
   ret (← newFields "set_iterator" [first,rawInt 0,.ref a,rawInt es.size,rawInt (← setEpoch a)])) _ _ _
  by_cases hd:(!t.plain&&decide (es.size > 1))=true
  ·rw [hd]
   have hsz:es.size<9000:=by have e1:=h6.len; have e2:=h6.room; rw [List.length_map,Array.length_toList] at e1; exact a30 5198645799785682591570217825313629221178262825715192602904 h7 e1 e2
   refine wpAny_bind (drawOrder_ok es.size (List.range es.size) _ _ (Nat.le_of_eq List.length_range) fun places d hp=>?_)
   refine wpAny_bind ?_
   refine wpAny_newTuple ?_ (by have:=hp.length_eq; simp at this; rw [List.length_map,this,sizeLine_eq]; exact Nat.le_trans (Nat.le_of_lt hsz) (by decide))
   have FJ1:=F.hide { cls:=.type "tuple",data:=.seq (places.map fun i:Nat=>rawInt i).toArray } rfl (t:=s.toks) (d:=d)
   exact fields (X:=[(_,_)]) FJ1 (.drawn _ _ _ places (by simpa using hb) hd rfl hp) rfl
  ·rw [(Bool.not_eq_true _).mp hd]
   refine wpAny_bind (wpAny_pure ?_)
   exact fields (X:=[]) F (.plain (by simpa using hb) ((Bool.not_eq_true _).mp hd) (h8 (by simpa using hb))) rfl
end
end
end
section
theorem split_set_len:splitId "set.__len__" = some ("set", "__len__"):=by kernel_rfl
noncomputable abbrev lst (vs:List Value) (k:Nat):Obj:=seqObj "list" vs.toArray k
theorem lst_is (vs:List Value) (k:Nat):ListIs (lst vs k) vs:=(inAAA rfl rfl rfl (inE k rfl))
theorem ListIs.eq {o:Obj} {vs:List Value} (h:ListIs o vs):∃ k,o=lst vs k:=by
 obtain ⟨cls,dict,data,slots⟩:=o
 refine unAAA h fun h1 h2 h3 w16=>unE w16 fun k h4=>?_; clear w16; clear h
 dsimp only at h1 h2 h3 h4
 subst h1 h2 h3 h4
 exact ⟨k,rfl⟩
theorem mapSeq_lst (f:Array Value→Array Value) (vs:List Value) (k:Nat):∃ k',Obj.mapSeq f (lst vs k)=lst (f vs.toArray).toList k':=by
 exact ⟨_,rfl⟩
section
variable {c:Cx} {K:Type} [DecidableEq K] {kd:Kd c K} {O:List (Addr×Obj)} {L a S I:Addr} {G:View} {m:Str→Option Value} {A:Around} {E:Value→Shared→Prop} {s:Shared} {o:Obj} {l:List K} {vs us:List Value} {n k:Nat}
theorem x_updList {f:Array Value→Array Value} {Q:Unit→Shared→Prop} (F:Fx c O L G m s) (hg:G S=some (lst vs k)) (hz:vs.length≤100000) (hz2:(f vs.toArray).size≤200000)
  (h:∀ s' k',Fx c O L (upd G S (lst (f vs.toArray).toList k')) m s'→Q () s'):wpAny (model c.prog c.w) A (updateSeq S f) Q E s:=by
 have F1:=F.upd hg (Obj.mapSeq f) rfl (t:=s.toks) (d:=s.drawn)
 refine unE (mapSeq_lst f vs k) fun k' e=>?_
 rw [e] at F1
 exact wpAny_updateSeq (F.get hg) rfl (h _ k' F1) (by simp; rw [sizeLine_eq]; exact Nat.le_trans ‹_› (by decide)) (by rw [sizeLine_eq]; exact Nat.le_trans ‹_› (by decide))
theorem extend_loop {R:Result→Shared→Prop} {X:List (Addr×Obj)} {ok:Nat→Obj→Prop} {dep:View→Prop} {res:Value} (W:It c X vs.length (fun i v=>vs[i]?=some v) ok dep) (hh:A.handled=none) (hdep:∀ o',dep (upd G S o')) (hlen:vs.length≤10000)
  (fin:∀ s' k',Fx c O L (upd G S (lst vs k')) m s'→R (.ok (.ret res)) s') :
  ∀ (n i:Nat) (s:Shared) (oI:Obj) (k:Nat),vs.length - i=n→i≤vs.length→ok i oI→Fx c ((I,oI)::(X++O)) L (upd G S (lst (vs.take i) k)) m s →
   codeAny (model c.prog c.w) A (.builtin "list.extend.loop" ⟨[.ref S,.ref I,res],[]⟩) R s:=by
 intro n
 induction n with
 | zero =>
  intro i s oI k hn hi hok F
  have:i=vs.length:=by exact Nat.le_antisymm (a20 1434183575286 hi) (a30 51012166337342346405655 hn sg)
  clear hn hi; subst this
  refine codeAny_builtin PySem.F.entry_extend_loop ?_
  rw [Around.under_plainId PySem.F.plain_extend_loop _]
  refine wpAny_bind (W.done (by exact hh) F (hdep _) hok fun s' F'=>?_)
  rw [List.take_length] at F'
  exact wpAny_pure (fin s' k F')
 | succ n ih =>
  intro i s oI k hn hi hok F
  have hlt:i<vs.length:=by exact a40 53239653052292631376210744 hn (Nat.sub_add_cancel (a20 1434183575286 hi))
  refine codeAny_builtin PySem.F.entry_extend_loop ?_
  rw [Around.under_plainId PySem.F.plain_extend_loop _]
  refine wpAny_bind (W.next F (hdep _) hok hlt fun v sJ1 oIJ1 hv hokJ1 FJ1=>?_)
  refine wpAny_bind (x_updList FJ1 (upd_self _ _ _) (by rw [List.length_take]; lia) (by simp; lia) fun sJ2 kJ2 FJ2=>?_)
  rw [upd_upd] at FJ2
  have e:((vs.take i).toArray.push v).toList=vs.take (i+1):=by
   rw [List.take_add_one,hv]; simp
  rw [e] at FJ2
  exact wpAny_pure ⟨plainId_quiet PySem.F.plain_extend_loop _,ih (i+1) sJ2 oIJ1 kJ2 (by exact subS ‹_›) hlt hokJ1 FJ2⟩
theorem extend_set {res:Value} {P:PySem.Fin→Shared→Prop} {R:Result→Shared→Prop} (hh:A.handled=none) (F:Fx c O L (upd G S (lst [] k)) m s) (hS:G S=none) (hg:G a=some o) (hI:SetIs kd G o l) (hl:l.length<1000)
  (hP:∀ c' s',c'.quiet=true→codeAny (model c.prog c.w) A c' R s'→P (.again c') s')
  (fin:∀ s' k' vs ks,Fx c O L (upd G S (lst vs k')) m s'→KeysAre kd G vs ks→ks.Perm l→R (.ok (.ret res)) s') :
  wpAny (model c.prog c.w) A.in1 (Builtin.List.listExtendWith (.ref S) (.ref a) res) P E s:=by
 have hne:a≠S:=nns hg hS
 have hga:upd G S (lst [] k) a=some o:=(upd_ne hne).trans hg
 have hI':SetIs kd (upd G S (lst [] k)) o l:=hI.up (.push hS)
 have hT:=hI.typeIs (F.get hga)
 refine wpAny_bind (wpAny_typeOf hT ?_)
 have h1:Builtin.List.listSameRef (.ref S) (.ref a)=false:=by simp [Builtin.List.listSameRef,Ne.symm hne]
 have h2:(Value.type "set" == Value.type "list")=false:=by decide
 have h3:(Value.type "set" == Value.type "tuple")=false:=by decide
 simp only [h1,h2,h3,Bool.or_false,Bool.false_eq_true,if_false]
 refine wpAny_bind (x_iter_set F hga hI' fun I sJ1 oI X vs ks ok W hok z p FJ1=>?_)
 refine wpAny_bind (wpAny_holding ?_)
 have hTJ1:sJ1.TypeIs (.ref a) "set" := hI.typeIs (FJ1.get hga)
 refine wpAny_bind (wpAny_specialOf hTJ1 PySem.F.slot_set_len.lookup ?_)
 dsimp only
 rw [split_set_len]
 refine wpAny_bind (wpAny_isInstance hTJ1 sub_set_self ?_)
 refine wpAny_bind (wpAny_typeOf hTJ1 ?_)
 refine wpAny_pure ?_
 refine wpAny_bind (wpAny_rule (wpAny_bind ?_))
 refine wpAny_bind (x_updList FJ1 (upd_self _ _ _) (by simp) (by simp) fun sJ2 kJ2 FJ2=>?_)
 rw [upd_upd] at FJ2
 refine x_updList FJ2 (upd_self _ _ _) (by simp) (by simp) fun sJ3 kJ3 FJ3=>?_
 rw [upd_upd] at FJ3
 have e0:((([]:List Value).toArray.push Value.none).toList.toArray.pop).toList=[]:=rfl
 rw [e0] at FJ3
 refine wpAny_pure (hP _ _ (plainId_quiet PySem.F.plain_extend_loop _) ?_)
 have hlen:vs.length=l.length:=by rw [z.length,p.length_eq]
 have zG:KeysAre kd G vs ks:=by
  refine z.imp fun v q r=>kd.up r fun c' oc hc ht=>?_
  by_cases hca:c'=S
  ·(replace hca:=hca.symm; subst hca); rw [upd_self] at hc; cases hc; exact absurd (show Value.type "list" = Value.type "tuple" from ht) (by decide)
  ·rw [upd_ne hca] at hc; exact hc
 exact extend_loop W hh (fun o'=>(upd_ne hne).trans hg) (by exact a20 53242534463611294868830940840215 hl hlen) (fun s' k' F'=>fin s' k' vs ks F' zG p) (vs.length - 0) 0 sJ3 oI kJ3 rfl (Nat.zero_le _) hok FJ3
end
end
section
section
variable {c:Cx} {K:Type} [DecidableEq K] {kd:Kd c K} {O:List (Addr×Obj)} {L a S I:Addr} {G:View} {m:Str→Option Value} {A:Around} {E:Value→Shared→Prop} {s:Shared} {o:Obj} {l:List K} {vs us:List Value} {ks:List K} {n k:Nat}
theorem Fx.forget (F:Fx c O L (Mine.upd G a o) m s) (h:G a=none):Fx c O L G m s:=F.less fun b x e=>by
 rw [upd_ne (nns e h)]; exact e
theorem x_collectSet {Q:List Value→Shared→Prop} (hh:A.handled=none) (F:Fx c O L G m s) (hg:G a=some o) (hI:SetIs kd G o l) (hl:l.length<1000)
  (h:∀ s' vs ks,Fx c O L G m s'→KeysAre kd G vs ks→ks.Perm l→Q vs s'):wpAny (model c.prog c.w) A (collect (.ref a)) Q E s:=by
 refine wpAny_bind (wpAny_runValue (codeAny_builtin PySem.F.entry_proto_collect ?_))
 rw [Around.under_plainId PySem.F.plain_proto_collect _]
 show wpAny _ A.in1 (newList [] >>= fun l=>again (.builtin "list.__iadd__" ⟨[l,.ref a],[]⟩)) _ _ s
 refine wpAny_bind (wpAny_newObj_type ?_)
 have F1:=F.push (lst [] 0) rfl (t:=s.toks) (d:=s.drawn)
 have hS:G s.heap.objs.size=none:=F.fresh
 refine wpAny_pure ⟨plainId_quiet PySem.F.plain_list_iadd _,codeAny_builtin PySem.F.entry_list_iadd ?_⟩
 rw [Around.under_plainId PySem.F.plain_list_iadd _]
 generalize s.heap.objs.size=S at F1 hS ⊢
 refine extend_set hh F1 hS hg hI hl (fun c' s' q hc=>⟨q,hc⟩) fun s' k' vs ks F' z p=>?_
 refine wpAny_bind (wpAny_load (F'.get (upd_self _ _ _)) (wpAny_pure ?_))
 exact h s' vs ks (F'.forget hS) z p
theorem x_listOfSet {Q:Value→Shared→Prop} (hh:A.handled=none) (F:Fx c O L G m s) (hg:G a=some o) (hI:SetIs kd G o l) (hl:l.length<1000)
  (h:∀ S s' vs ks k,G S=none→Fx c O L (upd G S (lst vs k)) m s'→KeysAre kd G vs ks→ks.Perm l→Q (.ref S) s'):wpAny (model c.prog c.w) A (call (.type "list") [.ref a] []) Q E s:=by
 have hS:G s.heap.objs.size=none:=F.fresh
 have F1:=F.push (lst [] 0) rfl (t:=s.toks) (d:=s.drawn)
 refine callType_codes (Q₁:=fun obj sJ1=>obj=.ref s.heap.objs.size∧sJ1={ s with heap:=s.heap.push (lst [] 0) }) PySem.F.called_list (PySem.F.typeCall_list_1 _) PySem.F.entry_list_init
  (code_list_new _ ⟨rfl,rfl⟩) fun obj sJ1 hJ1=>?_
 obtain ⟨rfl,rfl⟩:=hJ1
 refine (inAA (inEA _ (F1.get (upd_self _ _ _)) rfl) (PySem.F.args_list_init_2 _ _) ?_)
 show wpAny _ A.in1.in1 (do let old ← Builtin.List.listItems (.ref s.heap.objs.size); Builtin.List.listUpdate (.ref s.heap.objs.size) (fun _=>#[]); letGo old.toList.reverse; Builtin.List.listExtendWith (.ref s.heap.objs.size) (.ref a) .none) _ _ _
 refine wpAny_bind (listItems_at (F1.get (upd_self _ _ _)) rfl ?_)
 refine wpAny_bind (?_:wpAny _ _ (updateSeq s.heap.objs.size (fun _=>#[])) _ _ _)
 generalize s.heap.objs.size=S at F1 hS ⊢
 refine x_updList F1 (upd_self _ _ _) (by simp) (by simp) fun sJ2 kJ2 FJ2=>?_
 rw [upd_upd] at FJ2
 refine wpAny_bind (wpAny_letGo ?_)
 refine extend_set (by exact hh) FJ2 hS hg hI hl (fun c' s' q hc=>⟨q,hc⟩) fun s' k' vs ks F' z p=>?_
 exact ⟨rfl,h S s' vs ks k' hS F' z p⟩
theorem keysAre_ints {vs:List Value} {ns:List Int}:KeysAre (kInt c) G vs ns↔IntsAre vs ns:=by
 constructor
 ·intro h
  induction h with
  | nil=>exact .nil
  | cons r _ ih=>refine unE (Value.isInt_shape r) fun t y1=>?_; clear r; subst y1; exact .cons _ _ ih
 ·intro h
  induction h with
  | nil=>exact .nil
  | cons n t _ ih=>exact .cons (by simp [Value.isInt,kdOf,intKind]) ih
theorem keysAre_strs {vs:List Value} {ns:List Str}:KeysAre (kStr c) G vs ns↔StrsAre vs ns:=by
 constructor
 ·intro h
  induction h with
  | nil=>exact .nil
  | cons r _ ih=>refine unE (Value.isStrOf_shape r) fun t y2=>?_; clear r; subst y2; exact .cons _ _ ih
 ·intro h
  induction h with
  | nil=>exact .nil
  | cons n t _ ih=>exact .cons (by simp [Value.isStrOf,kdOf,PySem.strKind]) ih
theorem Fx.sortedTo {out:Array Value} (F:Fx c O L (Mine.upd G a (lst vs n)) m s):∃ e,Fx c O L (Mine.upd G a (lst out.toList e)) m { s with heap:=sortedHeap s.heap a vs out }:=by
 have hg:=F.get (upd_self _ _ _)
 refine unE (sortedHeap_at (out:=out) hg) fun e he=>?_
 refine ⟨e,?_⟩
 have:=F.at (s':={ s with heap:=sortedHeap s.heap a vs out }) (o':=lst out.toList e) (F.new (upd_self _ _ _)) (F.see _ _ (upd_self _ _ _)).2.2.1 (F.see _ _ (upd_self _ _ _)).2.2.2 (fun b x hb q=>(sortedHeap_old hb (Heap.lt_size q)).trans q) (by rw [he]) rfl rfl
 rwa [upd_upd] at this
theorem sorted_core {x:Value} {Q:Value→Shared→Prop} {Z:List Value→Prop} {P:Array Value→Prop}
  (hcol:∀ (Q':List Value→Shared→Prop),(∀ s' vs,Fx c O L G m s'→Z vs→Q' vs s')→wpAny (model c.prog c.w) A.in1 (collect x) Q' E s)
  (hsort:∀ (S:Addr) (s':Shared) (vs:List Value) (P':PySem.Fin→Shared→Prop),Z vs→G S=none→Fx c O L (upd G S (lst vs 0)) m s'→(∀ out:Array Value,P out→P' (.done (.ret .none)) { s' with heap:=sortedHeap s'.heap S vs out }) →
   wpAny (model c.prog c.w) A.in1.in1 (Builtin.«list.sort» ⟨[.ref S],[]⟩) P' E s')
  (h:∀ S s' out k,G S=none→Fx c O L (upd G S (lst out k)) m s'→P out.toArray→Q (.ref S) s') (hlen:∀ vs,Z vs→vs.length≤10000):wpAny (model c.prog c.w) A (call (.builtin "sorted") [x] []) Q E s:=by
 refine Calls.call_function_entry kind_sorted plain_sorted entry_sorted (args_sorted1 _) ?_
 refine wpAny_bind (m:=checkCount "sorted" 1 1 _) (wpAny_pure ?_)
 refine wpAny_bind (hcol _ fun sJ1 vs FJ1 z=>?_)
 refine wpAny_bind (wpAny_newList ?_ (by have:=hlen vs z; rw [sizeLine_eq]; exact Nat.le_trans ‹_› (by decide)))
 have FJ2:=FJ1.push (lst vs 0) rfl (t:=sJ1.toks) (d:=sJ1.drawn)
 have hS:G sJ1.heap.objs.size=none:=FJ1.fresh
 generalize sJ1.heap.objs.size=S at FJ2 hS ⊢
 refine wpAny_bind (wpAny_holding (wpAny_call_entry slot_list_sort (inEA _ (FJ2.get (upd_self _ _ _)) rfl) entry_list_sort (hsort S _ vs _ z hS FJ2 fun out hP=>(inEA _ rfl ?_)) (args_list_sort _)))
 refine unE (FJ2.sortedTo (out:=out)) fun e FJ3=>?_
 exact wpAny_pure (inEA _ rfl (h S _ out.toList e hS FJ3 (by simpa using hP)))
theorem x_collectList {Q:List Value→Shared→Prop} (F:Fx c O L G m s) (hg:G a=some o) (hL:ListIs o vs) (hl:vs.length≤10000) (h:∀ s',Fx c O L G m s'→Q vs s'):wpAny (model c.prog c.w) A (collect (.ref a)) Q E s:=by
 refine unAAA hL fun h1 _ _ w17=>unE w17 fun n h2=>?_; clear w17; clear hL
 refine wpAny_collect_seq a (.inl rfl) (F.get hg) h1 h2 (fun h' hk=>?_) (by rw [List.size_toArray,sizeLine_eq]; exact Nat.le_trans ‹_› (by decide))
 exact h _ (F.grow (s':={ s with heap:=h' }) hk rfl rfl)
theorem sort_ints {Q:Value→Shared→Prop} {ks:List Int} {x:Value} (hl:ks.length<64)
  (hcol:∀ (Q':List Value→Shared→Prop),(∀ s' vs,Fx c O L G m s'→(∃ ns,IntsAre vs ns∧ns.Perm ks)→Q' vs s')→wpAny (model c.prog c.w) A.in1 (collect x) Q' E s)
  (h:∀ S s' vs ns k,G S=none→Fx c O L (upd G S (lst vs k)) m s'→KeysAre (kInt c) G vs ns→ns.Perm ks→ns.Pairwise (·≤·)→Q (.ref S) s'):wpAny (model c.prog c.w) A (call (.builtin "sorted") [x] []) Q E s:=by
 refine sorted_core (Z:=fun vs=>∃ ns,IntsAre vs ns∧ns.Perm ks) (P:=fun out=>∃ ns',IntsAre out.toList ns'∧ns'.Perm ks∧ns'.Pairwise (·≤·)) hcol ?_ ?_ ?_
 ·intro S s' vs P' z1 hS F hP; refine unEA z1 fun ns hI hp=>?_; clear z1
  refine list_sort_tree (F.get (upd_self _ _ _)) hI (by rw [IntsAre.length hI,hp.length_eq]; exact hl) fun out ns' a1 a2 a3=>?_
  exact hP out (inEAA ns' a1 (a2.trans hp) a3)
 ·intro S s' out k hS F z2; refine unEAA z2 fun ns' a1 a2 a3=>?_; clear z2
  exact h S s' out ns' k hS F (keysAre_ints.mpr (by simpa using a1)) a2 a3
 ·intro vs z3; refine unEA z3 fun ns hI hp=>?_; clear z3
  rw [IntsAre.length hI,hp.length_eq]; exact a10 1586717453868509479846166 hl
theorem x_sortedSet {ks:List Int} {Q:Value→Shared→Prop} (hh:A.handled=none) (F:Fx c O L G m s) (hg:G a=some o) (hI:SetIs (kInt c) G o ks) (hl:ks.length<64)
  (h:∀ S s' vs ns k,G S=none→Fx c O L (upd G S (lst vs k)) m s'→KeysAre (kInt c) G vs ns→ns.Perm ks→ns.Pairwise (·≤·)→Q (.ref S) s'):wpAny (model c.prog c.w) A (call (.builtin "sorted") [.ref a] []) Q E s :=
 sort_ints hl (fun Q' h'=>x_collectSet (by exact hh) F hg hI (by exact Nat.lt_of_lt_of_le ‹_› (by decide)) fun s' vs ns F' z p=>h' s' vs F' (inEA ns (keysAre_ints.mp z) p)) h
theorem x_sortedSetStr {ks:List Str} {Q:Value→Shared→Prop} (hh:A.handled=none) (F:Fx c O L G m s) (hg:G a=some o) (hI:SetIs (kStr c) G o ks) (hl:ks.length<64)
  (h:∀ S s' vs ns k,G S=none→Fx c O L (upd G S (lst vs k)) m s'→KeysAre (kStr c) G vs ns→ns.Perm ks→Q (.ref S) s'):wpAny (model c.prog c.w) A (call (.builtin "sorted") [.ref a] []) Q E s:=by
 refine sorted_core (Z:=fun vs=>∃ ns,StrsAre vs ns∧ns.Perm ks) (P:=fun out=>∃ ns',StrsAre out.toList ns'∧ns'.Perm ks)
  (fun Q' h'=>x_collectSet (by exact hh) F hg hI (by exact Nat.lt_of_lt_of_le ‹_› (by decide)) fun s' vs ns F' z p=>h' s' vs F' (inEA ns (keysAre_strs.mp z) p)) ?_ ?_ ?_
 ·intro S s' vs P' z4 hS F hP; refine unEA z4 fun ns hI hp=>?_; clear z4
  have hlen:vs.length=ns.length:=(keysAre_strs (c:=c) (G:=G)).mpr hI |>.length
  refine list_sort_treeK strKind_oneLt (F.get (upd_self _ _ _)) hI.keysOf (fun vJ1 vJ2 rest e=>keyKind_strs (by rw [← e]; exact hI)) (by rw [hlen,hp.length_eq]; exact hl) fun st' a1 a2=>?_
  refine unEAA (sorted_out_str hI a1 a2) fun ss' h1 h2 h3=>?_
  exact hP _ (inEA ss' h1 (h2.trans hp))
 ·intro S s' out k hS F z5; refine unEA z5 fun ns' a1 a2=>?_; clear z5
  exact h S s' out ns' k hS F (keysAre_strs.mpr (by simpa using a1)) a2
 ·intro vs z6; refine unEA z6 fun ns hI hp=>?_; clear z6
  rw [(keysAre_strs (c:=c) (G:=G)).mpr hI |>.length,hp.length_eq]; exact a10 1586717453868509479846166 hl
theorem x_tupleOfList {Q:Value→Shared→Prop} (F:Fx c O L G m s) (hg:G a=some o) (hL:ListIs o vs) (hl:vs.length≤10000)
  (h:∀ T s',G T=none→Fx c O L (upd G T { cls:=.type "tuple",data:=.seq vs.toArray }) m s'→Q (.ref T) s'):wpAny (model c.prog c.w) A (call (.type "tuple") [.ref a] []) Q E s:=by
 refine call_tuple_list (hL.isList (F.get hg)) (fun h' hk=>?_) (by rw [List.size_toArray,sizeLine_eq]; exact Nat.le_trans ‹_› (by decide))
 have F1:=F.grow (s':={ s with heap:=h' }) hk rfl rfl
 exact h _ _ F1.fresh (F1.push _ rfl (t:=s.toks) (d:=s.drawn))
end
end
section
section
variable {c:Cx} {K:Type} [DecidableEq K] {kd:Kd c K} {O:List (Addr×Obj)} {L a b S I:Addr} {G:View} {m:Str→Option Value} {A:Around} {E:Value→Shared→Prop} {s:Shared} {o:Obj} {vs us:List Value} {n k k2:Nat} {x:Value}
theorem x_append {Q:Value→Shared→Prop} (F:Fx c O L G m s) (hg:G S=some (lst vs k)) (hz:vs.length≤10000) (h:∀ s' k',Fx c O L (upd G S (lst (vs++[x]) k')) m s'→Q .none s') :
  wpAny (model c.prog c.w) A (call (.builtin "list.append") [.ref S,x] []) Q E s:=by
 refine wpAny_call_entry slot_list_append (inEA _ (F.get hg) rfl) entry_list_append ?_ (args_list_append _ _)
 show wpAny _ _ (updateSeq S (·.push x) >>= fun _=>ret .none) _ _ s
 refine wpAny_bind (x_updList F hg (by exact Nat.le_trans ‹_› (by decide)) (by simp; exact Nat.le_trans ‹_› (by decide)) fun s' k' F'=>wpAny_pure (inEA (.none) rfl ?_))
 have e:(vs.toArray.push x).toList=vs++[x]:=by simp
 rw [e] at F'
 exact h s' k' F'
theorem Fx.updList {f:Array Value→Array Value} (F:Fx c O L G m s) (hg:G S=some (lst vs k)):∃ k',Fx c O L (Mine.upd G S (lst (f vs.toArray).toList k')) m { s with heap:=s.heap.update S (Obj.mapSeq f) }:=by
 have F1:=F.upd hg (Obj.mapSeq f) rfl (t:=s.toks) (d:=s.drawn)
 refine unE (mapSeq_lst f vs k) fun k' e=>?_
 rw [e] at F1
 exact ⟨k',F1⟩
theorem x_pop {Q:Value→Shared→Prop} (F:Fx c O L G m s) (hg:G S=some (lst (vs++[x]) k)) (hz:vs.length≤10000) (h:∀ s' k',Fx c O L (upd G S (lst vs k')) m s'→Q x s') :
  wpAny (model c.prog c.w) A (call (.builtin "list.pop") [.ref S] []) Q E s:=by
 refine unE (F.updList (f:=fun xs=>xs.eraseIdxIfInBounds ((vs++[x]).toArray.size - 1)) hg) fun k' F'=>?_
 have e:((vs++[x]).toArray.eraseIdxIfInBounds ((vs++[x]).toArray.size - 1)).toList=vs:=by
  have:(vs++[x]).eraseIdx vs.length=vs:=by rw [List.eraseIdx_append_of_length_le (Nat.le_refl _)]; simp
  simpa using this
 rw [e] at F'
 exact call_meets PySem.F.slot_list_pop (inEA _ (F.get hg) rfl) PySem.F.entry_list_pop (PySem.F.args_list_pop_1 _) (MeetsSeq.list_pop_last S (vs++[x]).toArray k x (by simp) (by simp; rw [sizeLine_eq]; exact Nat.lt_of_le_of_lt ‹_› (by decide))) ⟨F.get hg,h _ k' F'⟩
theorem x_extend {Q:Value→Shared→Prop} (F:Fx c O L G m s) (hg:G S=some (lst vs k)) (hg2:G b=some (lst us k2)) (hz:vs.length≤10000) (hz2:us.length≤10000) (h:∀ s' k',Fx c O L (upd G S (lst (vs++us) k')) m s'→Q .none s') :
  wpAny (model c.prog c.w) A (call (.builtin "list.extend") [.ref S,.ref b] []) Q E s:=by
 refine unE (F.updList (f:=fun x=>x++us.toArray) hg) fun k' F'=>?_
 have e:(vs.toArray++us.toArray).toList=vs++us:=by simp
 rw [e] at F'
 refine call_meets PySem.F.slot_list_extend (inEA _ (F.get hg) rfl) PySem.F.entry_list_extend (PySem.F.args_list_extend_2 _ _) (AutoSeq1.list_extend_list_list_0 S vs.toArray k b us.toArray k2 ?_ (by simp; rw [sizeLine_eq]; exact Nat.le_trans ‹_› (by decide)) (by simp; rw [sizeLine_eq]; exact Nat.le_trans (Nat.add_le_add hz hz2) (by decide))) (inAA (F.get hg) (F.get hg2) (h _ k' F'))
 intro hc
 rw [Bool.and_eq_true] at hc
 have h2:=hc.2
 unfold Builtin.List.listTooLong at h2
 have h3:=of_decide_eq_true h2
 rw [sizeLine_eq] at h3
 simp at h3
 exact absurd (Nat.lt_of_lt_of_le h3 (Nat.add_le_add hz hz2)) (by decide)
end
end
section
theorem ite_tt {p q:Prop} (h:p):(if true=true then p else q):=by rw [if_pos rfl]; exact h
theorem ite_ff {p q:Prop} (h:q):(if false=true then p else q):=by rw [if_neg Bool.false_ne_true]; exact h
section
variable {c:Cx} {O:List (Addr×Obj)} {L:Addr} {G:View} {m:Str→Option Value} {A:Around} {E:Value→Shared→Prop} {s:Shared} {n:Nat}
theorem Room.made {C:Addr} {rest:List Value} {kw:List (Str×Value)} (h:Room A (n+1)):Room (A.under (.builtin "type.__call__" ⟨.ref C::rest,kw⟩)) n:=by
 have hw:Code.weight (.builtin "type.__call__" ⟨.ref C::rest,kw⟩)=1:=by kernel_rfl
 have hu:Code.cUnits (.builtin "type.__call__" ⟨.ref C::rest,kw⟩)=1:=by kernel_rfl
 refine ⟨h.handled,?_,?_⟩
 ·show A.depth+Code.weight _+n<_
  rw [hw]; have:=h.depth; exact a30 1615087662422449769383158 this
 ·show A.units+Code.cUnits _+40*n+40<_
  rw [hu]; have:=h.units; exact a30 2146817835242016647586614499529777966598694318606911411586294 this
theorem x_make {C f:Addr} {rest:List Value} {Q:Value→Shared→Prop} (F:Fx c O L G m s) (hm:makesIn (hd.heap_39 c.w.params) C=true) (hi:findIn (hd.heap_39 c.w.params) (.ref C) "__init__" = some (some (.ref f))) (hf:typeIn (hd.heap_39 c.w.params) (.ref f)=some (.type "function"))
  (h:∀ x dx s',G x=none→G dx=none→x≠dx→Fx c O L (upd (upd G dx (dictOf [] 0)) x (instObj C dx)) m s' →
   codeAny (model c.prog c.w) (A.under (.builtin "type.__call__" ⟨.ref C::rest,[]⟩)) (.call (.ref f) ⟨.ref x::rest,[]⟩) (InitBack x (fun r s'=>match r with | .ok (.ret v)=>Q v s' | .ok _=>False | .error e=>E e s')) s') :
  wpAny (model c.prog c.w) A (call (.ref C) rest []) Q E s:=by
 refine wpAny_call ?_
 have F1:=F.push (dictOf [] 0) rfl (t:=s.toks) (d:=s.drawn)
 have F2:=F1.push (instObj C s.heap.objs.size) rfl (t:=s.toks) (d:=s.drawn)
 have h0:G s.heap.objs.size=none:=F.fresh
 have h1:upd G s.heap.objs.size (dictOf [] 0) (s.heap.push (dictOf [] 0)).objs.size=none:=F1.fresh
 have e:(s.heap.push (dictOf [] 0)).objs.size=s.heap.objs.size+1:=Heap.size_push ..
 rw [e] at F2 h1
 have hne:s.heap.objs.size+1≠s.heap.objs.size:=Nat.succ_ne_self _
 rw [upd_ne hne] at h1
 have hq:=h _ _ _ h1 h0 hne F2
 clear F1 F2 h0 h1 e hne; obtain ⟨hp,g,d,t,os⟩:=s
 walk_at "p"; exact make_core (makes_of F.K hm) (looks_findIn F.K hi) (fun self=>bind_fn F.K self hf) (.inl rfl) hq
theorem x_dict0 {M:Model} {env:Env} {pos:Pos} {Q:Value→Shared→Prop} (F:Fx c O L G m s) (h:∀ d s',G d=none→Fx c O L (upd G d (dictOf [] 0)) m s'→Q (.ref d) s'):wpAny M A (eval (.Dict [] [] pos) env) Q E s :=
 wpAny_Dict_empty (h _ _ F.fresh (F.push (dictOf [] 0) rfl (t:=s.toks) (d:=s.drawn)))
theorem dict0_is {K:Type} [DecidableEq K] {kd:Kd c K}:DictIs kd G (dictOf [] 0) []:=DictIs.new
end
end
section
structure Rep where
 dx:Addr
 T:Addr
 Fs:Addr
 ini:Int
 fin:List Int
 D:Int→Option Addr
 S:Int→Str→Option Addr
 ds:Int→Str→List Int
noncomputable def Rep.has (r:Rep) (a b:Addr):Prop:=b=a∨b=r.dx∨b=r.T∨b=r.Fs∨(∃ s,r.D s=some b)∨∃ s l,r.S s l=some b
noncomputable def Rep.E (r:Rep) (s:Int) (l:Str) (d:Int):Prop:=∃ b,r.S s l=some b∧d∈r.ds s l
noncomputable def Lab:List Str:=["<EPSILON>", "<ANY>", "a", "b", "c"]
structure NfaAt (c:Cx) (G:View) (a:Addr) (r:Rep):Prop where
 inst:G a=some (instObj 229 r.dx)
 attrs:∃ t1 t2 t3 tk k,G r.dx=some (dictOf [ent c "transitions" t1 (.ref r.T),ent c "final_states" t2 (.ref r.Fs),ent c "initial" t3 (.int r.ini tk)] k)
 tr:∃ o tk,G r.T=some o∧DictIs (kInt c) G o tk∧∀ s,valueAt tk s=(r.D s).map .ref
 fs:∃ o,G r.Fs=some o∧SetIs (kInt c) G o r.fin
 inner:∀ s b,r.D s=some b→∃ o lk,G b=some o∧DictIs (kStr c) G o lk∧∀ l,valueAt lk l=(r.S s l).map .ref
 sets:∀ s l b,r.S s l=some b→∃ o,G b=some o∧SetIs (kInt c) G o (r.ds s l)
 sub:∀ s l b,r.S s l=some b→∃ d,r.D s=some d
 dxT:r.dx≠r.T
 dxD:∀ s,r.D s≠some r.dx
 TD:∀ s,r.D s≠some r.T
 DD:∀ s s' b,r.D s=some b→r.D s'=some b→s=s'
 SS:∀ s l s' l' b,r.S s l=some b→r.S s' l'=some b→s=s'∧l=l'
 FS:∀ s l,r.S s l≠some r.Fs
 bD:∀ s b,r.D s=some b→0≤s∧s<100
 bS:∀ s l b,r.S s l=some b→l∈Lab∧∀ d∈r.ds s l,0≤d∧d<100
 bF:r.fin.length≤100
structure Step (G G':View) (R R':Addr→Prop):Prop where
 keep:∀ b o,G b=some o→¬ R b→G' b=some o
 new:∀ b,R' b→R b∨G b=none
theorem Step.refl (G:View) (R:Addr→Prop):Step G G R R:=⟨fun _ _ h _=>h,fun _ h=>.inl h⟩
theorem Step.trans {G G' G'':View} {R R' R'':Addr→Prop} (h:Step G G' R R') (h':Step G' G'' R' R''):Step G G'' R R'':=by
 refine ⟨fun b o e hn=>h'.keep b o (h.keep b o e hn) fun hr=>?_,fun b hb=>?_⟩
 ·rcases h.new b hr with h1 | h1
  ·walk_at "p"; exact hn h1
  ·rw [e] at h1; exact snN h1
 ·rcases h'.new b hb with h1 | h1
  ·walk_at "p"; exact h.new b h1
  ·cases e:G b with
   | none=>exact .inr rfl
   | some o =>
    by_cases hr:R b
    ·walk_at "p"; exact .inl hr
    ·rw [h.keep b o e hr] at h1; exact snN h1
theorem len_range:∀ {l:List Int} {n:Nat},l.Nodup→(∀ x∈l,0≤x∧x<n)→l.length≤n:=by
 intro l n hn hb
 have h1:(l.map Int.toNat).Nodup:=by
  rw [List.nodup_iff_pairwise_ne] at hn ⊢
  rw [List.pairwise_map]
  refine List.Pairwise.imp_of_mem ?_ hn
  intro a b ha hb' hab e
  have h1:=hb a ha
  have h2:=hb b hb'
  exact (Int.lt_or_gt_of_ne hab).elim (fun z0=>a22 56714986837170922353454764023509 e (Int.toNat_of_nonneg (a01 1638731398854 h1.1)) (Int.toNat_of_nonneg (a01 1638731398854 h2.1)) z0) (fun z0=>a22 55447336274721624779730850437877 e (Int.toNat_of_nonneg (a01 1638731398854 h1.1)) (Int.toNat_of_nonneg (a01 1638731398854 h2.1)) z0)
 have:=nodup_len h1 (l':=List.range n) fun x hx=>by
  refine unEA (List.mem_map.mp hx) fun y hy y1=>?_; clear hx; subst y1
  have:=hb y hy
  rw [List.mem_range]; exact a21 56879022196446730431191 this.2 (Int.toNat_of_nonneg (a01 1638731398854 this.1))
 simpa using this
theorem mem_keys {K:Type} [DecidableEq K] {kvs:List (K×Value)} {k:K} (h:k∈kvs.map (·.1)):∃ v,valueAt kvs k=some v:=by
 cases e:valueAt kvs k with
 | some v=>exact ⟨v,rfl⟩
 | none=>exact absurd h (notMem_of_valueAt e)
section
variable {c:Cx} {G:View} {a:Addr} {r:Rep}
theorem NfaAt.trLen (h:NfaAt c G a r) {o:Obj} {tk:List (Int×Value)} (hD:DictIs (kInt c) G o tk) (hv:∀ s,valueAt tk s=(r.D s).map .ref):tk.length≤100:=by
 have:=len_range (n:=100) hD.nodup fun s hs=>by
  refine unE (mem_keys hs) fun v hv'=>?_
  rw [hv] at hv'
  refine unEA (Option.map_eq_some_iff.mp hv') fun b hb _=>?_
  exact_mod_cast h.bD s b hb
 simpa using this
theorem NfaAt.inLen (h:NfaAt c G a r) {s:Int} {o:Obj} {lk:List (Str×Value)} (hD:DictIs (kStr c) G o lk) (hv:∀ l,valueAt lk l=(r.S s l).map .ref):lk.length≤5:=by
 have:=nodup_len hD.nodup (l':=Lab) fun l hl=>by
  refine unE (mem_keys hl) fun v hv'=>?_
  rw [hv] at hv'
  refine unEA (Option.map_eq_some_iff.mp hv') fun b hb _=>?_
  walk_at "p"; exact (h.bS s l b hb).1
 simpa [Lab] using this
theorem NfaAt.setLen (h:NfaAt c G a r) {s:Int} {l:Str} {b:Addr} {o:Obj} (hb:r.S s l=some b) (hS:SetIs (kInt c) G o (r.ds s l)):(r.ds s l).length≤100 :=
 len_range (n:=100) hS.nodup fun d hd=>by exact_mod_cast (h.bS s l b hb).2 d hd
end
end
section
theorem valueAt_push {K:Type} [DecidableEq K] {kvs:List (K×Value)} {k:K} {v:Value} (h:valueAt kvs k=none) (k':K):valueAt (kvs++[(k,v)]) k'=if k'=k then some v else valueAt kvs k':=by
 unfold valueAt at *
 rw [List.find?_append]
 by_cases e:k'=k
 ·subst e
  rw [Option.map_eq_none_iff] at h
  rw [h]; simp
 ·rw [if_neg e]
  cases hq:kvs.find? fun kv=>decide (kv.1=k') with
  | some x=>simp
  | none =>
   have:¬ k=k':=fun z=>e z.symm
   simp [this]
section
variable {c:Cx} {G:View} {a b:Addr} {r:Rep} {o o':Obj} {src:Int} {lab:Str}
theorem Rep.ne {x:Addr} (h:r.has a x) (hb:¬ r.has a b):x≠b:=fun e=>hb (e▸h)
theorem NfaAt.known {x:Addr} (h:NfaAt c G a r) (hx:r.has a x):∃ o,G x=some o:=by
 rcases hx with rfl | rfl | rfl | rfl | ⟨s,e⟩ | ⟨s,l,e⟩
 ·walk_at "p"; exact ⟨_,h.inst⟩
 ·refine unEEEEE h.attrs fun _ _ _ _ _ e=>?_; exact ⟨_,e⟩
 ·refine unEEA h.tr fun o _ e _=>?_; exact ⟨o,e⟩
 ·refine unEA h.fs fun o e _=>?_; exact ⟨o,e⟩
 ·refine unEEA (h.inner s x e) fun o _ e _=>?_; exact ⟨o,e⟩
 ·refine unEA (h.sets s l x e) fun o e _=>?_; exact ⟨o,e⟩
noncomputable def Rep.addState (r:Rep) (src:Int) (b:Addr):Rep:={ r with D:=fun s=>if s=src then some b else r.D s }
theorem NfaAt.addState {tk:List (Int×Value)} {oB:Obj} (h:NfaAt c G a r) (hD:r.D src=none) (hb0:0≤src∧src<100) (hb:¬ r.has a b) (hB:G b=some oB) (hBd:DictIs (kStr c) G oB []) (hv:∀ s,valueAt tk s=(r.D s).map .ref)
  (hg:G r.T=some o) (hn:o.cls≠.type "tuple") (hT':DictIs (kInt c) (upd G r.T o') o' (tk++[(src,.ref b)])):NfaAt c (upd G r.T o') a (r.addState src b):=by
 have hup:Tups G (upd G r.T o'):=.upd hg hn
 have at_:∀ {x:Addr} {y:Obj},x≠r.T→G x=some y→upd G r.T o' x=some y:=fun hx e=>(upd_ne hx).trans e
 have hbT:b≠r.T:=fun e=>hb (.inr (.inr (.inl e)))
 have Dcase:∀ {s x},(r.addState src b).D s=some x→(s=src∧x=b)∨r.D s=some x:=fun {s x} e=>by
  unfold Rep.addState at e
  dsimp only at e
  split at e
  ·rename_i hs; cases e; exact .inl ⟨hs,rfl⟩
  ·walk_at "p"; exact .inr e
 have aT:a≠r.T:=by
  refine unEEAA h.tr fun o2 tk2 g2 d2 _=>?_
  walk_at "p"; exact fun e=>by have:=h.inst; rw [e,g2] at this; clear g2; cases this; exact absurd d2.1.1 (by intro q; cases q)
 refine ⟨at_ aT h.inst,?_,(inEEAA o' (tk++[(src,.ref b)]) (upd_self _ _ _) hT' (fun s=>?_)),?_,fun s x e=>?_,fun s l x e=>?_,fun s l x e=>?_,h.dxT,fun s e=>?_,fun s e=>?_,fun s s' x e e'=>?_,h.SS,h.FS,fun s x e=>?_,h.bS,h.bF⟩
 ·refine unEEEEE h.attrs fun t1 t2 t3 tk k e=>?_
  walk_at "p"; exact (inEEEEE t1 t2 t3 tk k (at_ h.dxT e))
 ·rw [valueAt_push (by rw [hv,hD]; rfl)]
  unfold Rep.addState
  try dsimp only
  split
  ·rfl
  ·walk_at "p"; exact hv s
 ·refine unEA h.fs fun o2 g2 s2=>?_
  refine (inEA o2 (at_ (fun e=>?_) g2) (s2.up hup))
  have e:r.Fs=r.T:=e
  rw [e] at g2
  refine unEEAA h.tr fun o3 tk3 g3 d3 _=>?_
  rw [g3] at g2; clear g3; cases g2
  walk_at "p"; exact absurd (d3.1.1.symm.trans s2.1.1) (by decide)
 ·rcases Dcase e with ⟨rfl,rfl⟩ | e
  ·refine (inEEAA oB ([]) (at_ hbT hB) (hBd.up hup) (fun l=>?_))
   cases hs:r.S s l with
   | none=>show none=Option.map _ (r.S s l); rw [hs]; rfl
   | some q=>refine unE (h.sub s l q hs) fun d hd=>?_; rw [hD] at hd; exact nnS hd
  ·refine unEEAA (h.inner s x e) fun o2 lk g2 d2 v2=>?_
   walk_at "p"; exact (inEEAA o2 lk (at_ (fun q=>h.TD s (q▸e)) g2) (d2.up hup) v2)
 ·refine unEA (h.sets s l x e) fun o2 g2 s2=>?_
  refine (inEA o2 (at_ (fun q=>?_) g2) (s2.up hup))
  rw [q] at g2
  refine unEEAA h.tr fun o3 tk3 g3 d3 _=>?_
  rw [g3] at g2; clear g3; cases g2
  walk_at "p"; exact absurd (d3.1.1.symm.trans s2.1.1) (by decide)
 ·refine unE (h.sub s l x e) fun d hd=>?_
  by_cases hs:s=src
  ·(replace hs:=hs.symm; clear e; subst hs); rw [hD] at hd; exact nnS hd
  ·walk_at "p"; exact ⟨d,by show (if s=src then _ else _)=_; rw [if_neg hs]; exact hd⟩
 ·rcases Dcase e with ⟨_,q⟩ | e
  ·walk_at "p"; exact hb (.inr (.inl q.symm))
  ·walk_at "p"; exact h.dxD s e
 ·rcases Dcase e with ⟨_,q⟩ | e
  ·walk_at "p"; exact hbT q.symm
  ·walk_at "p"; exact h.TD s e
 ·rcases Dcase e with ⟨q1,q2⟩ | e <;> rcases Dcase e' with ⟨q1',q2'⟩ | e'
  ·rw [q1,q1']
  ·walk_at "p"; exact absurd (show r.has a b from .inr (.inr (.inr (.inr (.inl ⟨s',by rw [e',q2]⟩))))) hb
  ·walk_at "p"; exact absurd (show r.has a b from .inr (.inr (.inr (.inr (.inl ⟨s,by rw [e,q2']⟩))))) hb
  ·walk_at "p"; exact h.DD s s' x e e'
 ·rcases Dcase e with ⟨rfl,_⟩ | e
  ·walk_at "p"; exact hb0
  ·walk_at "p"; exact h.bD s x e
noncomputable def Rep.addLabel (r:Rep) (src:Int) (lab:Str) (b:Addr):Rep:={ r with S:=fun s l=>if s=src∧l=lab then some b else r.S s l,ds:=fun s l=>if s=src∧l=lab then [] else r.ds s l }
theorem NfaAt.addLabel {d:Addr} {lk:List (Str×Value)} {oB:Obj} (h:NfaAt c G a r) (hD:r.D src=some d) (hS:r.S src lab=none) (hlab:lab∈Lab) (hb:¬ r.has a b) (hB:G b=some oB) (hBs:SetIs (kInt c) G oB []) (hv:∀ l,valueAt lk l=(r.S src l).map .ref)
  (hg:G d=some o) (hn:o.cls≠.type "tuple") (hD':DictIs (kStr c) (upd G d o') o' (lk++[(lab,.ref b)])):NfaAt c (upd G d o') a (r.addLabel src lab b):=by
 have hup:Tups G (upd G d o'):=.upd hg hn
 have at_:∀ {x:Addr} {y:Obj},x≠d→G x=some y→upd G d o' x=some y:=fun hx e=>(upd_ne hx).trans e
 have hbd:b≠d:=fun e=>hb (.inr (.inr (.inr (.inr (.inl ⟨src,by rw [hD,e]⟩)))))
 have hdd:o.cls=.type "dict" := by
  refine unEEAA (h.inner src d hD) fun o2 lk2 g2 d2 _=>?_
  rw [hg] at g2; cases g2; exact d2.1.1
 have Scase:∀ {s l x},(r.addLabel src lab b).S s l=some x→(s=src∧l=lab∧x=b)∨(¬ (s=src∧l=lab)∧r.S s l=some x):=fun {s l x} e=>by
  unfold Rep.addLabel at e
  dsimp only at e
  split at e
  ·rename_i hs; cases e; exact .inl (inAA hs.1 hs.2 rfl)
  ·rename_i hs; exact .inr ⟨hs,e⟩
 have aD:a≠d:=fun e=>by have:=h.inst; rw [e,hg] at this; clear hg hn; cases this; cases hdd
 have setNe:∀ {x:Addr} {ox:Obj} {l:List Int},G x=some ox→SetIs (kInt c) G ox l→x≠d:=fun {x ox l} g s e=>by
  rw [e,hg] at g; cases g
  walk_at "p"; exact absurd (hdd.symm.trans s.1.1) (by decide)
 refine ⟨at_ aD h.inst,?_,?_,?_,fun s x e=>?_,fun s l x e=>?_,fun s l x e=>?_,h.dxT,h.dxD,h.TD,h.DD,fun s l s' l' x e e'=>?_,fun s l e=>?_,h.bD,fun s l x e=>?_,h.bF⟩
 ·refine unEEEEE h.attrs fun t1 t2 t3 tk k e=>?_
  walk_at "p"; exact (inEEEEE t1 t2 t3 tk k (at_ (fun q=>h.dxD src (by rw [hD]; exact congrArg some q.symm)) e))
 ·refine unEEAA h.tr fun o2 tk g2 d2 v2=>?_
  walk_at "p"; exact (inEEAA o2 tk (at_ (fun q=>h.TD src (by rw [hD]; exact congrArg some q.symm)) g2) (d2.up hup) v2)
 ·refine unEA h.fs fun o2 g2 s2=>?_
  walk_at "p"; exact (inEA o2 (at_ (setNe g2 s2) g2) (s2.up hup))
 ·by_cases hs:s=src
  ·clear Scase; subst hs
   have hxd:x=d:=by have e:r.D s=some x:=e; rw [hD] at e; cases e; rfl
   (replace hxd:=hxd.symm; clear e; subst hxd)
   refine (inEEAA o' (lk++[(lab,.ref b)]) (upd_self _ _ _) hD' (fun l=>?_))
   rw [valueAt_push (by rw [hv,hS]; rfl)]
   unfold Rep.addLabel
   try dsimp only
   by_cases hl:l=lab
   ·rw [if_pos hl,if_pos ⟨rfl,hl⟩]; rfl
   ·rw [if_neg hl,if_neg (fun q=>hl q.2)]; exact hv l
  ·refine unEEAA (h.inner s x e) fun o2 lk2 g2 d2 v2=>?_
   refine (inEEAA o2 lk2 (at_ (fun q=>hs (h.DD s src x e (by rw [hD,q]))) g2) (d2.up hup) (fun l=>?_))
   rw [v2 l]
   unfold Rep.addLabel
   try dsimp only
   rw [if_neg (fun q=>hs q.1)]
 ·rcases Scase e with ⟨rfl,rfl,rfl⟩ | ⟨hn',e⟩
  ·refine (inEA oB (at_ hbd hB) ?_)
   show SetIs _ _ _ (if s=s∧l=l then [] else _)
   rw [if_pos ⟨rfl,rfl⟩]
   walk_at "p"; exact hBs.up hup
  ·refine unEA (h.sets s l x e) fun o2 g2 s2=>?_
   refine (inEA o2 (at_ (setNe g2 s2) g2) ?_)
   show SetIs _ _ _ (if s=src∧l=lab then [] else _)
   rw [if_neg hn']
   walk_at "p"; exact s2.up hup
 ·rcases Scase e with ⟨rfl,rfl,rfl⟩ | ⟨_,e⟩
  ·walk_at "p"; exact ⟨d,hD⟩
  ·walk_at "p"; exact h.sub s l x e
 ·have old:∀ {s l},r.S s l≠some b:=fun {s l} q=>hb (.inr (.inr (.inr (.inr (.inr (inEE s l q))))))
  rcases Scase e with ⟨q1,q2,q3⟩ | ⟨_,e⟩ <;> rcases Scase e' with ⟨q1',q2',q3'⟩ | ⟨_,e'⟩
  ·walk_at "p"; exact ⟨q1.trans q1'.symm,q2.trans q2'.symm⟩
  ·walk_at "p"; exact absurd (q3▸e') old
  ·walk_at "p"; exact absurd (q3'▸e) old
  ·walk_at "p"; exact h.SS s l s' l' x e e'
 ·rcases Scase e with ⟨_,_,q⟩ | ⟨_,e⟩
  ·walk_at "p"; exact hb (.inr (.inr (.inr (.inl q.symm))))
  ·walk_at "p"; exact h.FS s l e
 ·rcases Scase e with ⟨rfl,rfl,rfl⟩ | ⟨hn',e⟩
  ·refine ⟨hlab,fun q hq=>?_⟩
   have hq:q∈(if s=s∧l=l then ([]:List Int) else r.ds s l):=hq
   rw [if_pos ⟨rfl,rfl⟩] at hq; exact niP hq
  ·refine ⟨(h.bS s l x e).1,fun q hq=>?_⟩
   have hq:q∈(if s=src∧l=lab then ([]:List Int) else r.ds s l):=hq
   rw [if_neg hn'] at hq
   walk_at "p"; exact (h.bS s l x e).2 q hq
noncomputable def Rep.setDs (r:Rep) (src:Int) (lab:Str) (l':List Int):Rep:={ r with ds:=fun s l=>if s=src∧l=lab then l' else r.ds s l }
theorem NfaAt.setDs {l':List Int} (h:NfaAt c G a r) (hS:r.S src lab=some b) (hl:∀ d∈l',0≤d∧d<100)
  (hg:G b=some o) (hn:o.cls≠.type "tuple") (hS':SetIs (kInt c) (upd G b o') o' l'):NfaAt c (upd G b o') a (r.setDs src lab l'):=by
 have hup:Tups G (upd G b o'):=.upd hg hn
 have at_:∀ {x:Addr} {y:Obj},x≠b→G x=some y→upd G b o' x=some y:=fun hx e=>(upd_ne hx).trans e
 have hss:o.cls=.type "set" := by
  refine unEA (h.sets src lab b hS) fun o2 g2 s2=>?_
  rw [hg] at g2; cases g2; exact s2.1.1
 have dictNe:∀ {x:Addr} {ox:Obj} {K:Type} [DecidableEq K] {kd:Kd c K} {l:List (K×Value)},G x=some ox→DictIs kd G ox l→x≠b:=fun {x ox K _ kd l} g s e=>by
  rw [e,hg] at g; cases g
  walk_at "p"; exact absurd (hss.symm.trans s.1.1) (by decide)
 refine ⟨at_ (fun e=>?_) h.inst,?_,?_,?_,fun s x e=>?_,fun s l x e=>?_,h.sub,h.dxT,h.dxD,h.TD,h.DD,h.SS,h.FS,h.bD,fun s l x e=>⟨(h.bS s l x e).1,fun q hq=>?_⟩,h.bF⟩
 ·have:=h.inst; rw [e,hg] at this; clear hg hn; cases this; cases hss
 ·refine unEEEEE h.attrs fun t1 t2 t3 tk k e=>?_
  refine (inEEEEE t1 t2 t3 tk k (at_ (fun q=>?_) e))
  have q:r.dx=b:=q
  rw [q,hg] at e; clear hg hn; cases e; exact absurd (show Value.type "dict" = Value.type "set" from hss) (by decide)
 ·refine unEEAA h.tr fun o2 tk g2 d2 v2=>?_
  walk_at "p"; exact (inEEAA o2 tk (at_ (dictNe g2 d2) g2) (d2.up hup) v2)
 ·refine unEA h.fs fun o2 g2 s2=>?_
  walk_at "p"; exact (inEA o2 (at_ (fun q=>h.FS src lab (by rw [hS]; exact congrArg some q.symm)) g2) (s2.up hup))
 ·refine unEEAA (h.inner s x e) fun o2 lk g2 d2 v2=>?_
  walk_at "p"; exact (inEEAA o2 lk (at_ (dictNe g2 d2) g2) (d2.up hup) v2)
 ·by_cases hc:s=src∧l=lab
  ·obtain ⟨rfl,rfl⟩:=hc
   have:x=b:=by have e:r.S s l=some x:=e; rw [hS] at e; cases e; rfl
   (replace this:=this.symm; clear e; subst this)
   refine (inEA o' (upd_self _ _ _) ?_)
   show SetIs _ _ _ (if s=s∧l=l then l' else _)
   rw [if_pos ⟨rfl,rfl⟩]; exact hS'
  ·refine unEA (h.sets s l x e) fun o2 g2 s2=>?_
   refine (inEA o2 (at_ (fun q=>hc ?_) g2) ?_)
   ·have:=h.SS s l src lab x e (by rw [hS,q]); exact this
   ·show SetIs _ _ _ (if s=src∧l=lab then l' else _)
    rw [if_neg hc]; exact s2.up hup
 ·have hq:q∈(if s=src∧l=lab then l' else r.ds s l):=hq
  split at hq
  ·walk_at "p"; exact hl q hq
  ·walk_at "p"; exact (h.bS s l x e).2 q hq
end
end
section
theorem Step.mono {G G':View} {R R':Addr→Prop} (h:Step G G' R R') (b:Addr) (o:Obj) (hb:¬ R b) (e:G b=some o):G' b=some o:=h.keep b o e hb
section
variable {c:Cx} {O:List (Addr×Obj)} {L:Addr} {G G':View} {m:Str→Option Value} {A:Around} {E:Value→Shared→Prop} {s:Shared} {n:Nat} {a d b:Addr} {r:Rep} {src:Int} {lab:Str} {t1 t2:Tok}
theorem NfaAt.mono (h:NfaAt c G a r) (hk:∀ b o,r.has a b→G b=some o→G' b=some o) (ht:Tups G G'):NfaAt c G' a r:=by
 refine ⟨hk _ _ (.inl rfl) h.inst,?_,?_,?_,fun s x e=>?_,fun s l x e=>?_,h.sub,h.dxT,h.dxD,h.TD,h.DD,h.SS,h.FS,h.bD,h.bS,h.bF⟩
 ·refine unEEEEE h.attrs fun t1 t2 t3 tk k e=>?_; exact (inEEEEE t1 t2 t3 tk k (hk _ _ (.inr (.inl rfl)) e))
 ·refine unEEAA h.tr fun o tk e dd v=>?_; exact (inEEAA o tk (hk _ _ (.inr (.inr (.inl rfl))) e) (dd.up ht) v)
 ·refine unEA h.fs fun o e ss=>?_; exact (inEA o (hk _ _ (.inr (.inr (.inr (.inl rfl)))) e) (ss.up ht))
 ·refine unEEAA (h.inner s x e) fun o lk e' dd v=>?_; exact (inEEAA o lk (hk _ _ (.inr (.inr (.inr (.inr (.inl ⟨s,e⟩))))) e') (dd.up ht) v)
 ·refine unEA (h.sets s l x e) fun o e' ss=>?_; exact (inEA o (hk _ _ (.inr (.inr (.inr (.inr (.inr (inEE s l e)))))) e') (ss.up ht))
theorem NfaAt.notHas (h:NfaAt c G a r) (hb:G b=none):¬ r.has a b:=fun hr=>by refine unE (h.known hr) fun o e=>?_; rw [hb] at e; exact nnS e
theorem NfaAt.notTup (h:NfaAt c G a r) {x:Addr} {o:Obj} (hx:r.has a x) (e:G x=some o):o.cls≠.type "tuple" := by
 rcases hx with rfl | rfl | rfl | rfl | ⟨s,q⟩ | ⟨s,l,q⟩
 ·rw [h.inst] at e; cases e; intro q; cases q
 ·refine unEEEEE h.attrs fun _ _ _ _ _ e'=>?_; rw [e'] at e; cases e; intro q; exact absurd (show Value.type "dict" = Value.type "tuple" from q) (by decide)
 ·refine unEEAA h.tr fun o' _ e' dd _=>?_; rw [e'] at e; clear e'; cases e; exact dd.notTup
 ·refine unEA h.fs fun o' e' dd=>?_; rw [e'] at e; clear e'; cases e; exact dd.notTup
 ·refine unEEAA (h.inner s x q) fun o' _ e' dd _=>?_; rw [e'] at e; clear e'; cases e; exact dd.notTup
 ·refine unEA (h.sets s l x q) fun o' e' dd=>?_; rw [e'] at e; clear e'; cases e; exact dd.notTup
theorem NfaAt.tups {R':Addr→Prop} (h:NfaAt c G a r) (st:Step G G' (r.has a) R'):Tups G G':=fun x o e t=>st.keep x o e fun hx=>h.notTup hx e t
theorem NfaAt.alloc {o:Obj} (h:NfaAt c G a r) (hb:G b=none):NfaAt c (upd G b o) a r :=
 h.mono (fun x y hx e=>(upd_ne (fun q:x=b=>h.notHas hb (by rw [← q]; exact hx))).trans e) (.push hb)
theorem Step.alloc {o:Obj} {R:Addr→Prop} (hb:G b=none):Step G (upd G b o) R R:=⟨fun x y e _=>by rw [upd_ne (nns e hb)]; exact e,fun x h=>.inl h⟩
theorem x_state {Q:Value→Shared→Prop} (hu:A.in1.units<cLine) (hd:G d=none) (F:Fx c O L (upd G d (dictOf [] 0)) m s) (hN:NfaAt c G a r) (hsrc:0≤src∧src<100)
  (h:∀ s' G' r' D,Fx c O L G' m s'→NfaAt c G' a r'→Step G G' (r.has a) (r'.has a)→r'.D src=some D→r'.ini=r.ini→r'.fin=r.fin→r'.S=r.S→r'.ds=r.ds→Q (.ref D) s') :
  wpAny (model c.prog c.w) A (call (.builtin "dict.setdefault") [.ref r.T,.int src t1,.ref d] []) Q E s:=by
 refine unEEAA hN.tr fun oT tkv gT dT vT=>?_
 have hTd:r.T≠d:=nns gT hd
 have gT':upd G d (dictOf [] 0) r.T=some oT:=(upd_ne hTd).trans gT
 have dT':=dT.up (G':=upd G d (dictOf [] 0)) (.push hd)
 refine x_setdefault (kd:=kInt c) (k:=src) F hu isKI gT' dT' (setLine (Nat.lt_of_le_of_lt (hN.trLen dT vT) (by decide))) (fun v s' hv F'=>?_) fun s' o' hv F' D'=>?_
 ·rw [vT] at hv
  refine unEA (Option.map_eq_some_iff.mp hv) fun D hD y1=>?_; clear hv; subst y1
  exact h s' G r D (F'.forget hd) hN (Step.refl _ _) hD rfl rfl rfl rfl
 ·rw [vT] at hv
  have hD:r.D src=none:=by cases e:r.D src with | none=>rfl | some x=>rw [e] at hv; exact snN hv
  have N1:=hN.alloc (o:=dictOf [] 0) hd
  have N2:=N1.addState (o':=o') (b:=d) hD hsrc (hN.notHas hd) (upd_self _ _ _) DictIs.new vT gT' dT.notTup D'
  refine h s' _ _ d F' N2 ?_ (by show (if src=src then _ else _)=_; rw [if_pos rfl]) rfl rfl rfl rfl
  refine ⟨fun x y e hx=>?_,fun x hx=>?_⟩
  ·rw [upd_ne (fun q:x=r.T=>hx (by rw [q]; exact .inr (.inr (.inl rfl)))),upd_ne (nns e hd)]; exact e
  ·rcases hx with q | q | q | q | ⟨s,q⟩ | ⟨s,l,q⟩
   ·exact .inl (.inl q)
   ·exact .inl (.inr (.inl q))
   ·exact .inl (.inr (.inr (.inl q)))
   ·exact .inl (.inr (.inr (.inr (.inl q))))
   ·have q:(if s=src then some d else r.D s)=some x:=q
    split at q
    ·cases q; exact .inr hd
    ·exact .inl (.inr (.inr (.inr (.inr (.inl ⟨s,q⟩)))))
   ·exact .inl (.inr (.inr (.inr (.inr (.inr (inEE s l q))))))
theorem x_label {D:Addr} {oB:Obj} {Q:Value→Shared→Prop} (hu:A.in1.units<cLine) (hb:G b=none) (F:Fx c O L (upd G b oB) m s) (hB:SetIs (kInt c) (upd G b oB) oB []) (hN:NfaAt c G a r) (hD:r.D src=some D) (hlab:lab∈Lab)
  (h:∀ s' G' r' S,Fx c O L G' m s'→NfaAt c G' a r'→Step G G' (r.has a) (r'.has a)→r'.S src lab=some S→r'.ini=r.ini→r'.fin=r.fin→r'.D=r.D→(∀ s l,¬ (s=src∧l=lab)→r'.S s l=r.S s l∧r'.ds s l=r.ds s l)→(∀ d,d∈r'.ds src lab↔r.E src lab d)→Q (.ref S) s') :
  wpAny (model c.prog c.w) A (call (.builtin "dict.setdefault") [.ref D,.str lab t2,.ref b] []) Q E s:=by
 refine unEEAA (hN.inner src D hD) fun oD lk gD dD vD=>?_
 have hDb:D≠b:=nns gD hb
 have gD':upd G b oB D=some oD:=(upd_ne hDb).trans gD
 have dD':=dD.up (G':=upd G b oB) (.push hb)
 refine x_setdefault (kd:=kStr c) (k:=lab) F hu isKS gD' dD' (setLine (Nat.lt_of_le_of_lt (hN.inLen dD vD) (by decide))) (fun v s' hv F'=>?_) fun s' o' hv F' D'=>?_
 ·rw [vD] at hv
  refine unEA (Option.map_eq_some_iff.mp hv) fun S hS y2=>?_; clear hv; subst y2
  exact h s' G r S (F'.forget hb) hN (Step.refl _ _) hS rfl rfl rfl (fun _ _ _=>⟨rfl,rfl⟩) (fun d=>⟨fun q=>(inEA S hS q),fun v1=>unEA v1 fun _ _ q=>q⟩)
 ·rw [vD] at hv
  have hS:r.S src lab=none:=by cases e:r.S src lab with | none=>rfl | some x=>rw [e] at hv; exact snN hv
  have N1:=hN.alloc (o:=oB) hb
  have N2:=N1.addLabel (o':=o') (b:=b) hD hS hlab (hN.notHas hb) (upd_self _ _ _) hB vD gD' dD.notTup D'
  refine h s' _ _ b F' N2 ?_ (by show (if src=src∧lab=lab then _ else _)=_; rw [if_pos ⟨rfl,rfl⟩]) rfl rfl rfl (fun s l hn=>?_) (fun q=>?_)
  ·refine ⟨fun x y e hx=>?_,fun x hx=>?_⟩
   ·rw [upd_ne (fun q:x=D=>hx (by rw [q]; exact .inr (.inr (.inr (.inr (.inl ⟨src,hD⟩)))))),upd_ne (nns e hb)]; exact e
   ·rcases hx with q | q | q | q | ⟨s,q⟩ | ⟨s,l,q⟩
    ·exact .inl (.inl q)
    ·exact .inl (.inr (.inl q))
    ·exact .inl (.inr (.inr (.inl q)))
    ·exact .inl (.inr (.inr (.inr (.inl q))))
    ·exact .inl (.inr (.inr (.inr (.inr (.inl ⟨s,q⟩)))))
    ·have q:(if s=src∧l=lab then some b else r.S s l)=some x:=q
     split at q
     ·cases q; exact .inr hb
     ·exact .inl (.inr (.inr (.inr (.inr (.inr (inEE s l q))))))
  ·constructor
   ·show (if s=src∧l=lab then _ else _)=_; rw [if_neg hn]
   ·show (if s=src∧l=lab then _ else _)=_; rw [if_neg hn]
  ·constructor
   ·intro hq
    have hq:q∈(if src=src∧lab=lab then ([]:List Int) else r.ds src lab):=hq
    rw [if_pos ⟨rfl,rfl⟩] at hq; exact niP hq
   ·intro z1; refine unEA z1 fun x hx _=>?_; clear z1; rw [hS] at hx; exact nnS hx
theorem NfaAt.stepSet {l':List Int} {o':Obj} (hS:r.S src lab=some b):Step G (upd G b o') (r.has a) ((r.setDs src lab l').has a) :=
 ⟨fun x y e hx=>(upd_ne (fun q:x=b=>hx (by rw [q]; exact .inr (.inr (.inr (.inr (.inr (inEE src lab hS)))))))).trans e,fun x hx=>.inl hx⟩
end
end
section
noncomputable def fx170:{ fd:FuncData // FdAt 170 fd }:=⟨_,fun P=>(inEEE _ _ _ (by k_is))⟩
noncomputable def fd170:FuncData:=fx170.1
section
variable {c:Cx} {O:List (Addr×Obj)} {L:Addr} {G:View} {m:Str→Option Value} {A:Around} {E:Value→Shared→Prop} {s:Shared} {n:Nat} {a:Addr} {r:Rep}
theorem NfaAt.trAttr (h:NfaAt c G a r):∃ es k,G r.dx=some (dictOf es k)∧getL "transitions" es=some (some (.ref r.T))∧getL "final_states" es=some (some (.ref r.Fs))∧(∃ tk,getL "initial" es=some (some (.int r.ini tk)))∧es.length≤900:=by
 refine unEEEEE h.attrs fun u1 u2 u3 tk k e=>?_
 walk_at "p"; exact (inEEAAA _ k e rfl rfl (inA ⟨tk,rfl⟩ (by simp)))
noncomputable def Rep.full (r:Rep):Prop:=∀ s l b,r.S s l=some b→r.ds s l≠[]
theorem E_after {r rJ4 rJ6:Rep} {src:Int} {lab:Str} {S:Addr} {l':List Int} {P:Int→Prop} (S4:rJ4.S=r.S) (ds4:rJ4.ds=r.ds) (hS:rJ6.S src lab=some S) (k6:∀ s l,¬ (s=src∧l=lab)→rJ6.S s l=rJ4.S s l∧rJ6.ds s l=rJ4.ds s l)
  (E6:∀ d,d∈rJ6.ds src lab↔rJ4.E src lab d) (hl:∀ d,d∈l'↔d∈rJ6.ds src lab∨P d) (s:Int) (l:Str) (d:Int):(rJ6.setDs src lab l').E s l d↔r.E s l d∨(s=src∧l=lab∧P d):=by
 have e4:∀ s l d,rJ4.E s l d↔r.E s l d:=fun s l d=>by unfold Rep.E; rw [S4,ds4]
 unfold Rep.setDs Rep.E
 try dsimp only
 by_cases hc:s=src∧l=lab
 ·clear k6; obtain ⟨rfl,rfl⟩:=hc
  rw [if_pos ⟨rfl,rfl⟩,hl,E6,e4]
  constructor
  ·intro z1; refine unEA z1 fun b _ y1=>?_; clear z1; rcases y1 with q | q
   ·walk_at "p"; exact .inl q
   ·walk_at "p"; exact .inr (inAA rfl rfl q)
  ·rintro (q | ⟨_,_,q⟩)
   ·walk_at "p"; exact (inEA S hS (.inl q))
   ·walk_at "p"; exact (inEA S hS (.inr q))
 ·rw [if_neg hc,(k6 s l hc).1,(k6 s l hc).2,S4,ds4]
  walk_at "p"; exact ⟨fun q=>.inl q,fun q=>q.elim id fun q=>absurd ⟨q.1,q.2.1⟩ hc⟩
theorem full_after {r rJ4 rJ6:Rep} {src:Int} {lab:Str} {S:Addr} {l':List Int} (S4:rJ4.S=r.S) (ds4:rJ4.ds=r.ds) (hS:rJ6.S src lab=some S) (k6:∀ s l,¬ (s=src∧l=lab)→rJ6.S s l=rJ4.S s l∧rJ6.ds s l=rJ4.ds s l)
  (hl:l'≠[]) (hf:r.full):(rJ6.setDs src lab l').full:=by
 intro s l b hb
 unfold Rep.setDs at hb ⊢
 dsimp only at hb ⊢
 by_cases hc:s=src∧l=lab
 ·rw [if_pos hc]; exact hl
 ·rw [if_neg hc,(k6 s l hc).2,ds4]
  rw [(k6 s l hc).1,S4] at hb
  walk_at "p"; exact hf s l b hb
theorem nfa_add_transition {src dest:Int} {lab:Str} {t1 t2 t3:Tok} {Q:Value→Shared→Prop} (F:Fx c O L G m s) (R:Room A (n+1)) (hN:NfaAt c G a r) (h1:0≤src∧src<100) (h2:0≤dest∧dest<100) (hlab:lab∈Lab)
  (h:∀ s' G' r',Fx c O L G' m s'→NfaAt c G' a r'→Step G G' (r.has a) (r'.has a)→r'.ini=r.ini→r'.fin=r.fin→(r.full→r'.full)→(∀ s l d,r'.E s l d↔r.E s l d∨(s=src∧l=lab∧d=dest))→Q .none s') :
  wpAny (model c.prog c.w) A (call (.ref 170) [.ref a,.int src t1,.str lab t2,.int dest t3] []) Q E s:=by
 refine unEEE (fx170.2 c.w.params) fun oc od osl ho=>?_
 refine enter F (fd:=fd170) (binds:=[("self",.ref a),("src",.int src t1),("label",.str lab t2),("dest",.int dest t3)]) ho rfl (by kernel_rfl) R.dl (BindsTo.of_eq rfl) rfl (by decide) (locs rfl) rfl rfl rfl fun sJ1 L' O' FJ1 back=>?_
 have R':=R.deeper (env:=cenv fd170 L' 170)
 generalize A.deeper (cenv fd170 L' 170)=A' at R' ⊢
 clear F
 walk_at "r"
 refine unEEAAAA hN.trAttr fun es k hdx e1 e2 e3 e4=>?_
 refine x_attr (v:=.ref r.T) FJ1 hN.inst hdx (by k_is) (by k_is) (by k_is) (by k_is) e1 rfl fun sJ2 FJ2=>?_
 clear FJ1
 refine unEEAA hN.tr fun oT tkv gT dT vT=>?_
 refine x_bmethod FJ2 gT dT.1.1 dT.1.2.1 PySem.F.plainAttrs_dict PySem.F.slot_dict_setdefault PySem.F.type_dict_setdefault ?_
 walk_at "r"
 refine x_dict0 FJ2 fun d sJ3 hd FJ3=>?_
 clear FJ2
 walk_at "r"
 refine x_state R'.in1 hd FJ3 hN h1 fun sJ4 GJ4 rJ4 D FJ4 NJ4 stJ4 hD i4 f4 S4 ds4=>?_
 clear FJ3
 refine unEEAA (NJ4.inner src D hD) fun oD lk gD dD vD=>?_
 refine x_bmethod FJ4 gD dD.1.1 dD.1.2.1 PySem.F.plainAttrs_dict PySem.F.slot_dict_setdefault PySem.F.type_dict_setdefault ?_
 walk_at "r"
 refine x_builtin FJ4 (by k_is) (v:=.type "set") rfl (by decide) rfl rfl rfl rfl rfl ?_
 refine callWith_type0 ?_
 refine x_set0 FJ4 fun b sJ5 oB hb FJ5 hB=>?_
 clear FJ4
 walk_at "r"
 refine x_label R'.in1 hb FJ5 (hB (kInt c)) NJ4 hD hlab fun sJ6 GJ6 rJ6 S FJ6 NJ6 stJ6 hS i6 f6 D6 k6 E6=>?_
 clear FJ5
 refine unEA (NJ6.sets src lab S hS) fun oS gS sS=>?_
 refine x_bmethod FJ6 gS sS.1.1 sS.1.2.1 PySem.F.plainAttrs_set PySem.F.slot_set_add PySem.F.type_set_add ?_
 walk_at "r"
 refine x_add kdsInt FJ6 R'.in1 (k:=dest) isKI gS sS (Nat.lt_of_le_of_lt (NJ6.setLen hS sS) (by decide)) fun sJ7 oS' FJ7 sS'=>?_
 walk_at "r"
 have NJ7:=NJ6.setDs hS (fun q hq=>by rcases mem_ins.mp hq with rfl | hq; exact h2; exact (NJ6.bS _ _ _ hS).2 q hq) gS sS.notTup sS'
 walk_at "p"; refine h _ _ _ (back _ _ _ FJ7) NJ7 (stJ4.trans (stJ6.trans (NfaAt.stepSet hS))) (i6.trans i4) (f6.trans f4) ?_ ?_
 ·walk_at "p"; exact full_after S4 ds4 hS k6 fun e=>by have:dest∈ins dest (rJ6.ds src lab):=mem_ins.mpr (.inl rfl); rw [e] at this; exact niP this
 ·walk_at "p"; exact E_after S4 ds4 hS k6 E6 fun q=>mem_ins.trans ⟨Or.symm,Or.symm⟩
end
end
section
noncomputable def fx156:{ fd:FuncData // FdAt 156 fd }:=⟨_,fun P=>(inEEE _ _ _ (by k_is))⟩
noncomputable def fd156:FuncData:=fx156.1
noncomputable def fx177:{ fd:FuncData // FdAt 177 fd }:=⟨_,fun P=>(inEEE _ _ _ (by k_is))⟩
noncomputable def fd177:FuncData:=fx177.1
section
variable {c:Cx} {O:List (Addr×Obj)} {L:Addr} {G:View} {m:Str→Option Value} {A:Around} {E:Value→Shared→Prop} {s:Shared} {n:Nat} {a:Addr} {r:Rep}
noncomputable def Le (G G':View):Prop:=∀ b o,G b=some o→G' b=some o
theorem Le.refl (G:View):Le G G:=fun _ _ h=>h
theorem Le.trans {G G' G'':View} (h:Le G G') (h':Le G' G''):Le G G'':=fun b o e=>h' b o (h b o e)
theorem Le.alloc {G:View} {b:Addr} {o:Obj} (h:G b=none):Le G (upd G b o):=fun x y e=>by rw [upd_ne (nns e h)]; exact e
theorem Le.set {G G':View} {b:Addr} {o:Obj} (h:Le G G') (hb:G b=none):Le G (upd G' b o):=fun x y e=>by rw [upd_ne (nns e hb)]; exact h x y e
theorem Le.tups {G G':View} (h:Le G G'):Tups G G':=fun b o e _=>h b o e
theorem nfa_new {ini:Int} {t1:Tok} {Q:Value→Shared→Prop} (F:Fx c O L G m s) (R:Room A (n+2))
  (h:∀ s' G' a r,Fx c O L G' m s'→NfaAt c G' a r→Le G G'→(∀ b,r.has a b→G b=none)→r.ini=ini→r.fin=[]→r.full→(∀ s l d,¬ r.E s l d)→Q (.ref a) s') :
  wpAny (model c.prog c.w) A (call (.ref 229) [.int ini t1] []) Q E s:=by
 refine x_make (f:=156) F (by k_is) (by k_is) (by k_is) fun x dx sJ0 hx hdx hne FJ0=>?_
 clear F
 have RJ1:=R.made (C:=229) (rest:=[.int ini t1]) (kw:=[])
 generalize A.under (.builtin "type.__call__" ⟨[Value.ref 229,.int ini t1],[]⟩)=AJ1 at RJ1 ⊢
 refine unEEE (fx156.2 c.w.params) fun oc od osl ho=>?_
 refine enterC FJ0 (fd:=fd156) (binds:=[("self",.ref x),("initial",.int ini t1)]) ho rfl (by kernel_rfl) RJ1.dl (BindsTo.of_eq rfl) rfl (by decide) (locs rfl) rfl rfl rfl fun sJ1 L' O' FJ1 back=>?_
 have R':=RJ1.deeper (env:=cenv fd156 L' 156)
 generalize AJ1.deeper (cenv fd156 L' 156)=A' at R' ⊢
 clear FJ0
 have gx:upd (upd G dx (dictOf [] 0)) x (instObj 229 dx) x=some (instObj 229 dx):=upd_self _ _ _
 have gd:upd (upd G dx (dictOf [] 0)) x (instObj 229 dx) dx=some (dictOf [] 0):=(upd_ne (Ne.symm hne)).trans (upd_self _ _ _)
 have le0:Le G (upd (upd G dx (dictOf [] 0)) x (instObj 229 dx)):=(Le.alloc hdx).trans (Le.alloc ((upd_ne hne).trans hx))
 have new0:∀ b,G b=none→b≠x→b≠dx→upd (upd G dx (dictOf [] 0)) x (instObj 229 dx) b=none:=fun b h1 h2 h3=>(upd_ne h2).trans ((upd_ne h3).trans h1)
 have only0:∀ b,upd (upd G dx (dictOf [] 0)) x (instObj 229 dx) b=none→G b=none∧b≠x∧b≠dx:=fun b hb=>by
  refine (inAA ?_ (fun e=>(by rw [e,gx] at hb; exact snN hb)) (fun e=>(by rw [e,gd] at hb; exact snN hb)))
  cases e:G b with
  | none=>rfl
  | some o=>rw [le0 b o e] at hb; exact snN hb
 clear new0; generalize upd (upd G dx (dictOf [] 0)) x (instObj 229 dx)=GJ0 at *
 walk_at "r"
 refine x_dict0 FJ1 fun T sJ2 hT FJ2=>?_
 clear FJ1
 walk_at "r"
 refine unAA (only0 T hT) fun hTG hTx hTd=>?_
 refine x_setattr FJ2 ((upd_ne hTx.symm).trans gx) ((upd_ne hTd.symm).trans gd) (by k_is) (by k_is) (by k_is) (by k_is) rfl (Nat.le_of_ble_eq_true rfl) fun sJ3 uJ1 FJ3=>?_
 clear FJ2
 have gxJ1:upd (upd GJ0 T (dictOf [] 0)) dx (dictOf [ent c "transitions" uJ1 (.ref T)] (putN "transitions" [] 0)) x=some (instObj 229 dx):=(upd_ne hne).trans ((upd_ne hTx.symm).trans gx)
 have gTJ1:upd (upd GJ0 T (dictOf [] 0)) dx (dictOf [ent c "transitions" uJ1 (.ref T)] (putN "transitions" [] 0)) T=some (dictOf [] 0):=(upd_ne hTd).trans (upd_self _ _ _)
 have gdJ1:upd (upd GJ0 T (dictOf [] 0)) dx (dictOf [ent c "transitions" uJ1 (.ref T)] (putN "transitions" [] 0)) dx=_:=upd_self _ _ _
 have leJ1:Le G (upd (upd GJ0 T (dictOf [] 0)) dx (dictOf [ent c "transitions" uJ1 (.ref T)] (putN "transitions" [] 0))):=(le0.set hTG).set hdx
 change Fx c O' L' (upd (upd GJ0 T (dictOf [] 0)) dx (dictOf [ent c "transitions" uJ1 (.ref T)] (putN "transitions" [] 0))) _ sJ3 at FJ3
 generalize upd (upd GJ0 T (dictOf [] 0)) dx (dictOf [ent c "transitions" uJ1 (.ref T)] (putN "transitions" [] 0))=GJ1 at *
 generalize putN "transitions" [] 0=nJ1 at *
 walk_at "r"
 refine x_builtin FJ3 (by k_is) (v:=.type "set") rfl (by decide) rfl rfl rfl rfl rfl ?_
 refine callWith_type0 ?_
 refine x_set0 FJ3 fun b sJ4 oB hb FJ4 hB=>?_
 clear FJ3
 have nb:∀ {y o},GJ1 y=some o→b≠y:=fun {y o} e q=>by rw [← q,hb] at e; exact nnS e
 have hbG:G b=none:=by
  cases e:G b with
  | none=>rfl
  | some o=>exact absurd rfl (nb (leJ1 b o e))
 walk_at "r"
 refine x_setattr FJ4 ((upd_ne (nb gxJ1).symm).trans gxJ1) ((upd_ne (nb gdJ1).symm).trans gdJ1) (by k_is) (by k_is) (by k_is) (by k_is) rfl (Nat.le_of_ble_eq_true rfl) fun sJ5 uJ2 FJ5=>?_
 clear FJ4
 walk_at "r"
 refine x_setattr FJ5 ((upd_ne hne).trans ((upd_ne (nb gxJ1).symm).trans gxJ1)) (upd_self _ _ _) (by k_is) (by k_is) (by k_is) (by k_is) rfl (Nat.le_of_ble_eq_true rfl) fun sJ6 uJ3 FJ6=>?_
 clear FJ5
 rw [upd_upd] at FJ6
 generalize hnJ2:putN "final_states" [ent c "transitions" uJ1 (.ref T)] nJ1=nJ2 at FJ6
 walk_at "r"
 refine ⟨rfl,?_⟩
 refine h sJ6 _ x ⟨dx,T,b,ini,[],fun _=>none,fun _ _=>none,fun _ _=>[]⟩ (back _ _ _ FJ6) ?_ ((leJ1.set hbG).set hdx) ?_ rfl rfl (fun s l b hb=>nnS hb) (fun s l d hd=>by refine unEA hd fun b hb _=>?_; clear hd; exact nnS hb)
 ·have bT:T≠b:=(nb gTJ1).symm
  have bx:x≠b:=(nb gxJ1).symm
  have bd:b≠dx:=nb gdJ1
  have hup:Tups (upd GJ1 b oB) (upd (upd GJ1 b oB) dx (dictOf [ent c "transitions" uJ1 (.ref T),ent c "final_states" uJ2 (.ref b),ent c "initial" uJ3 (.int ini t1)] (putN "initial" [ent c "transitions" uJ1 (.ref T),ent c "final_states" uJ2 (.ref b)] nJ2))) :=
   .upd (o:=_) ((upd_ne bd.symm).trans gdJ1) (by intro q; exact absurd (show Value.type "dict" = Value.type "tuple" from q) (by decide))
  refine ⟨(upd_ne hne).trans ((upd_ne bx).trans gxJ1),(inEEEEE uJ1 uJ2 uJ3 t1 _ (upd_self _ _ _)),(inEEAA _ ([]) ((upd_ne hTd).trans ((upd_ne bT).trans gTJ1)) DictIs.new (fun s=>rfl)),(inEA oB ((upd_ne bd).trans (upd_self _ _ _)) ((hB (kInt c)).up hup)),
   fun s y e=>(nnS e),fun s l y e=>(nnS e),fun s l y e=>(nnS e),hTd.symm,fun s e=>(nnS e),fun s e=>(nnS e),fun s s' y e=>(nnS e),fun s l s' l' y e=>(nnS e),fun s l e=>(nnS e),fun s y e=>(nnS e),fun s l y e=>(nnS e),Nat.zero_le _⟩
 ·rintro y (q | q | q | q | ⟨s,q⟩ | ⟨s,l,q⟩)
  ·rw [q]; exact hx
  ·rw [q]; exact hdx
  ·rw [q]; exact hTG
  ·rw [q]; exact hbG
  ·exact nnS q
  ·cases q
theorem nfa_add_final {st:Int} {t1:Tok} {Q:Value→Shared→Prop} (F:Fx c O L G m s) (R:Room A (n+1)) (hN:NfaAt c G a r) (hl:r.fin.length<99)
  (h:∀ s' G' r',Fx c O L G' m s'→NfaAt c G' a r'→Step G G' (r.has a) (r'.has a)→r'.ini=r.ini→r'.fin=ins st r.fin→(r.full→r'.full)→(∀ s l d,r'.E s l d↔r.E s l d)→Q .none s') :
  wpAny (model c.prog c.w) A (call (.ref 177) [.ref a,.int st t1] []) Q E s:=by
 refine unEEE (fx177.2 c.w.params) fun oc od osl ho=>?_
 refine enter F (fd:=fd177) (binds:=[("self",.ref a),("state",.int st t1)]) ho rfl (by kernel_rfl) R.dl (BindsTo.of_eq rfl) rfl (by decide) (locs rfl) rfl rfl rfl fun sJ1 L' O' FJ1 back=>?_
 have R':=R.deeper (env:=cenv fd177 L' 177)
 generalize A.deeper (cenv fd177 L' 177)=A' at R' ⊢
 clear F
 walk_at "r"
 refine unEEAAAA hN.trAttr fun es k hdx e1 e2 e3 e4=>?_
 refine x_attr (v:=.ref r.Fs) FJ1 hN.inst hdx (by k_is) (by k_is) (by k_is) (by k_is) e2 rfl fun sJ2 FJ2=>?_
 clear FJ1
 refine unEA hN.fs fun oF gF sF=>?_
 refine x_bmethod FJ2 gF sF.1.1 sF.1.2.1 PySem.F.plainAttrs_set PySem.F.slot_set_add PySem.F.type_set_add ?_
 walk_at "r"
 refine x_add kdsInt FJ2 R'.in1 (k:=st) isKI gF sF (by exact Nat.lt_of_lt_of_le ‹_› (by decide)) fun sJ3 oF' FJ3 sF'=>?_
 walk_at "r"
 have hup:Tups G (upd G r.Fs oF'):=.upd gF sF.notTup
 have dictNe:∀ {x:Addr} {ox:Obj} {K:Type} [DecidableEq K] {kd:Kd c K} {l:List (K×Value)},G x=some ox→DictIs kd G ox l→x≠r.Fs:=fun {x ox K _ kd l} g s e=>by
  rw [e,gF] at g; cases g
  walk_at "p"; exact absurd (sF.1.1.symm.trans s.1.1) (by decide)
 refine h sJ3 _ { r with fin:=ins st r.fin } (back _ _ _ FJ3) ?_ ⟨fun x y e hx=>(upd_ne (fun q:x=r.Fs=>hx (by rw [q]; exact .inr (.inr (.inr (.inl rfl)))))).trans e,fun x hx=>.inl hx⟩ rfl rfl id fun _ _ _=>Iff.rfl
 have at_:∀ {x:Addr} {y:Obj},x≠r.Fs→G x=some y→upd G r.Fs oF' x=some y:=fun hx e=>(upd_ne hx).trans e
 refine ⟨at_ (fun e=>?_) hN.inst,?_,?_,(inEA oF' (upd_self _ _ _) sF'),fun s x e=>?_,fun s l x e=>?_,hN.sub,hN.dxT,hN.dxD,hN.TD,hN.DD,hN.SS,hN.FS,hN.bD,hN.bS,?_⟩
 ·have:=hN.inst; rw [e,gF] at this; clear gF; cases this; cases sF.1.1
 ·refine unEEEEE hN.attrs fun t1 t2 t3 tk k e=>?_
  refine (inEEEEE t1 t2 t3 tk k (at_ (fun q:r.dx=r.Fs=>?_) e))
  rw [q,gF] at e; clear gF; cases e; exact absurd (show Value.type "dict" = Value.type "set" from sF.1.1) (by decide)
 ·refine unEEAA hN.tr fun o2 tk g2 d2 v2=>?_
  walk_at "p"; exact (inEEAA o2 tk (at_ (dictNe g2 d2) g2) (d2.up hup) v2)
 ·refine unEEAA (hN.inner s x e) fun o2 lk g2 d2 v2=>?_
  walk_at "p"; exact (inEEAA o2 lk (at_ (dictNe g2 d2) g2) (d2.up hup) v2)
 ·refine unEA (hN.sets s l x e) fun o2 g2 s2=>?_
  walk_at "p"; exact (inEA o2 (at_ (fun q=>hN.FS s l (by rw [e,q])) g2) (s2.up hup))
 ·have:(ins st r.fin).length≤r.fin.length+1:=length_ins
  exact a20 54519239906762471268800547493351703 hl this
end
end
section
noncomputable def fx184:{ fd:FuncData // FdAt 184 fd }:=⟨_,fun P=>(inEEE _ _ _ (by k_is))⟩
noncomputable def fd184:FuncData:=fx184.1
section
variable {c:Cx} {O:List (Addr×Obj)} {L:Addr} {G:View} {m:Str→Option Value} {A:Around} {E:Value→Shared→Prop} {s:Shared} {n:Nat} {a:Addr} {r:Rep}
theorem kTup_is {ks:List Int} {v:Value} (h:(kTup c).is G ks v):∃ t o vs,v=.ref t∧G t=some o∧TupIs o vs∧KeysAre (kInt c) G vs ks:=by
 refine unEEEEAAAA h fun t o items n h1 h2 h3 h4 h5=>?_; clear h
 refine (inEEEAAA t o items.toList h1 h2 (inAE h3 n (by simpa using h4)) ?_)
 generalize items.toList=l at h5
 induction h5 with
 | nil=>exact .nil
 | cons r _ ih=>exact .cons r ih
theorem kTup_of {ks:List Int} {t:Addr} {o:Obj} {vs:List Value} (h2:G t=some o) (h3:TupIs o vs) (z:KeysAre (kInt c) G vs ks):(kTup c).is G ks (.ref t):=by
 obtain ⟨h3,n,h4⟩:=h3
 refine ⟨t,o,vs.toArray,n,rfl,h2,h3,h4,?_⟩
 clear h4
 show ItemsAre _ ks vs
 induction z with
 | nil=>exact .nil
 | cons r _ ih=>exact .cons r ih
theorem nfa_is_final {ks:List Int} {v:Value} {Q:Value→Shared→Prop} (F:Fx c O L G m s) (R:Room A (n+1)) (hN:NfaAt c G a r) (hv:(kTup c).is G ks v)
  (h:∀ s' b,Fx c O L G m s'→(b=true↔∃ k,k∈r.fin∧k∈ks)→Q (.bool b) s') :
  wpAny (model c.prog c.w) A (call (.ref 184) [.ref a,v] []) Q E s:=by
 refine unEEE (fx184.2 c.w.params) fun oc od osl ho=>?_
 refine enter F (fd:=fd184) (binds:=[("self",.ref a),("states",v)]) ho rfl (by kernel_rfl) R.dl (BindsTo.of_eq rfl) rfl (by decide) (locs rfl) rfl rfl rfl fun sJ1 L' O' FJ1 back=>?_
 have R':=R.deeper (env:=cenv fd184 L' 184)
 generalize A.deeper (cenv fd184 L' 184)=A' at R' ⊢
 clear F
 walk_at "r"
 refine x_builtin FJ1 (by k_is) (v:=.type "bool") rfl (by decide) rfl rfl rfl rfl rfl ?_
 walk_at "r"
 refine unEEAAAA hN.trAttr fun es k hdx e1 e2 e3 e4=>?_
 refine x_attr (v:=.ref r.Fs) FJ1 hN.inst hdx (by k_is) (by k_is) (by k_is) (by k_is) e2 rfl fun sJ2 FJ2=>?_
 clear FJ1
 refine unEA hN.fs fun oF gF sF=>?_
 refine x_bmethod FJ2 gF sF.1.1 sF.1.2.1 PySem.F.plainAttrs_set PySem.F.slot_set_intersection PySem.F.type_set_intersection ?_
 walk_at "r"
 refine unEEEAAA (kTup_is hv) fun t ot vs y1 gt ht zt=>?_; clear hv; subst y1
 refine x_intersection kdsInt FJ2 R' gF sF (Nat.lt_of_le_of_lt (hN.bF) (by decide)) gt ht zt fun x sJ3 oJ3 lJ3 hx FJ3 SJ3 hlJ3 hB=>?_
 clear FJ2
 walk_at "r"
 refine x_boolSet FJ3 (upd_self _ _ _) SJ3 hlJ3 fun sJ4 FJ4=>?_
 walk_at "p"; exact h _ _ (back _ _ _ (FJ4.forget hx)) (by rw [decide_eq_true_eq]; exact hB)
end
end
section
noncomputable def fx191:{ fd:FuncData // FdAt 191 fd }:=⟨_,fun P=>(inEEE _ _ _ (by k_is))⟩
noncomputable def fd191:FuncData:=fx191.1
noncomputable def EPS:Str := "<EPSILON>"
noncomputable def ANY:Str := "<ANY>"
inductive Eps (E:Int→Str→Int→Prop):Int→Int→Prop
 | refl (s:Int):Eps E s s
 | step {s t u:Int}:Eps E s t→E t EPS u→Eps E s u
theorem Zip2.snoc' {α β:Type} {R:α→β→Prop} {a:α} {l:List α} {bs:List β} (h:Zip2 R l bs):∀ {as:List α},as++[a]=l→∃ bs' b,bs=bs'++[b]∧Zip2 R as bs'∧R a b:=by
 induction h with
 | nil=>exact fun {as} e=>absurd e (List.append_ne_nil_of_right_ne_nil as (List.cons_ne_nil _ _))
 | cons r t ih =>
  intro as e
  cases as with
  | nil=>exact (inEEAA [] _ (congrArg _ (List.eq_nil_of_length_eq_zero (t.length.symm.trans (congrArg List.length (List.tail_eq_of_cons_eq e)).symm))) .nil (List.head_eq_of_cons_eq e▸r))
  | cons x as=>exact unEEAA (ih (List.tail_eq_of_cons_eq e)) fun bs' b e' z q=>inEEAA (_::bs') b (congrArg _ e') (.cons (List.head_eq_of_cons_eq e▸r) z) q
theorem Zip2.snoc {α β:Type} {R:α→β→Prop} {as:List α} {a:α} {bs:List β} (h:Zip2 R (as++[a]) bs):∃ bs' b,bs=bs'++[b]∧Zip2 R as bs'∧R a b:=h.snoc' rfl
theorem Zip2.flip {α β:Type} {R:α→β→Prop} {as:List α} {bs:List β} (h:Zip2 R as bs):Zip2 (fun b a=>R a b) bs as:=by
 induction h with
 | nil=>exact .nil
 | cons r _ ih=>exact .cons r ih
structure Closing (E:Int→Str→Int→Prop) (l l' fr:List Int):Prop where
 from_:∀ k∈l,k∈l'
 sound:∀ k∈l',∃ s∈l,Eps E s k
 front:∀ k∈fr,k∈l'
 closed:∀ k∈l',k∉fr→∀ u,E k EPS u→u∈l'
theorem Closing.done {E:Int→Str→Int→Prop} {l l':List Int} (h:Closing E l l' []) (k:Int):k∈l'↔∃ s∈l,Eps E s k:=by
 refine ⟨h.sound k,?_⟩
 intro z1; refine unEA z1 fun s hs e=>?_; clear z1
 induction e with
 | refl=>exact h.from_ _ hs
 | step _ e ih=>exact h.closed _ ih (fun q=>niP q) _ e
theorem x_while {prog:Program} {w:World} {A:Around} {E:Value→Shared→Prop} {s:Shared} {env:Env} {test:Expr} {body orelse:List Stmt} {pos:Pos} {Q:Flow→Shared→Prop} (I:Nat→Shared→Prop)
  (turn:∀ n s,I n s→∀ Qt:Flow→Shared→Prop,(∀ f sJ3,(match f with | .next | .cont=>∃ m,m<n∧I m sJ3 | .brk=>Q .next sJ3 | .ret v=>Q (.ret v) sJ3)→Qt f sJ3) →
   wpAny (model prog w) A (isTrue test env (eval test env)) (fun b sJ2 =>
   if b then wpAny (model prog w) A (execs body env) (Abs Qt) (fun _ _=>False) sJ2 else wpAny (model prog w) A (execs orelse env) Q (fun _ _=>False) sJ2) (fun _ _=>False) s)
  (n:Nat) (h:I n s):wpAny (model prog w) A (exec (.While test body orelse pos) env) Q E s:=by
 refine wpAny_While (codeAny_whileLoop I (fun n s hI=>wpAny_mono (turn n s hI _ fun _ _ z=>z) (fun b sJ2 hJ2=>?_) fun _ _ h=>h.elim) n h)
 cases b with
 | true=>exact wpAny_mono hJ2 (fun f sJ3 hJ3=>by cases f <;> exact hJ3) fun _ _ h=>h.elim
 | false=>exact wpAny_mono hJ2 (fun f sJ3 hJ3=>hJ3) fun _ _ h=>h.elim
section
variable {c:Cx} {O:List (Addr×Obj)} {L:Addr} {G:View} {m:Str→Option Value} {A:Around} {E:Value→Shared→Prop} {s:Shared} {n:Nat} {a S:Addr} {r:Rep}
noncomputable def Rep.thin (r:Rep):Prop:=∀ s b,r.S s EPS=some b→(r.ds s EPS).length≤7
theorem nfa_expand {oS:Obj} {l:List Int} {Q:Value→Shared→Prop} (F:Fx c O L G m s) (R:Room A (n+1)) (hN:NfaAt c G a r) (hthin:r.thin) (hS:G S=some oS) (sS:SetIs (kInt c) G oS l) (hl:∀ k∈l,0≤k∧k<100) (hne:¬ r.has a S)
  (h:∀ s' oS' l',Fx c O L (upd G S oS') m s'→SetIs (kInt c) (upd G S oS') oS' l'→(∀ k∈l',0≤k∧k<100)→(∀ k,k∈l'↔∃ s∈l,Eps r.E s k)→Q (.ref S) s') :
  wpAny (model c.prog c.w) A (call (.ref 191) [.ref a,.ref S] []) Q E s:=by
 refine unEEE (fx191.2 c.w.params) fun oc od osl ho=>?_
 refine enter F (fd:=fd191) (binds:=[("self",.ref a),("states",.ref S)]) ho rfl (by kernel_rfl) R.dl (BindsTo.of_eq rfl) rfl (by decide) (locs rfl) rfl rfl rfl fun sJ1 L' O' FJ1 back=>?_
 have R':=R.deeper (env:=cenv fd191 L' 191)
 generalize A.deeper (cenv fd191 L' 191)=A' at R' ⊢
 clear F
 walk_at "r"
 refine unEEAAAA hN.trAttr fun es k hdx e1 e2 e3 e4=>?_
 refine x_attr (v:=.ref r.T) FJ1 hN.inst hdx (by k_is) (by k_is) (by k_is) (by k_is) e1 rfl fun sJ2 FJ2=>?_
 clear FJ1
 refine x_store FJ2 rfl rfl (let MJ3:=setL _ _ _; fun sJ3 (FJ3:Fx _ _ _ _ MJ3 sJ3)=>?_)
 clear FJ2
 walk_at "r"
 refine x_builtin FJ3 (by k_is) (v:=.type "list") rfl (by decide) rfl rfl rfl rfl rfl ?_
 walk_at "r"
 refine x_listOfSet R'.handled FJ3 hS sS (Nat.lt_of_le_of_lt (len_range (n:=100) sS.nodup hl) (by decide)) fun Fr sJ4 fvs fks kf hFr FJ4 zf pf=>?_
 clear FJ3
 refine x_store FJ4 rfl rfl (let MJ5:=setL _ _ _; fun sJ5 (FJ5:Fx _ _ _ _ MJ5 sJ5)=>?_)
 clear FJ4
 walk_at "d"
 have hSF:S≠Fr:=nns hS hFr
 have nS:∀ {b},r.has a b→b≠S:=fun hb e=>hne (e▸hb)
 have nF:∀ {b},r.has a b→b≠Fr:=fun hb e=>by refine unE (hN.known hb) fun o q=>?_; rw [e,hFr] at q; exact nnS q
 have inV:∀ (oJ1 oJ2:Obj) {b:Addr} {o:Obj},r.has a b→G b=some o→upd (upd G S oJ1) Fr oJ2 b=some o:=fun oJ1 oJ2 {b o} hb e=>(upd_ne (nF hb)).trans ((upd_ne (nS hb)).trans e)
 have tV:∀ (oJ1 oJ2:Obj),Tups G (upd (upd G S oJ1) Fr oJ2):=fun oJ1 oJ2=>(Tups.upd hS sS.notTup).trans (.push ((upd_ne hSF.symm).trans hFr))
 refine unEEAA hN.tr fun oT tkv gT dT vT=>?_
 refine x_while (fun μ s'=>∃ mJ1 oS' l' fvs fks kf,Fx c O' L' (upd (upd G S oS') Fr (lst fvs kf)) mJ1 s'∧SetIs (kInt c) (upd G S oS') oS' l'∧(∀ k∈l',0≤k∧k<100)∧KeysAre (kInt c) G fvs fks∧Closing r.E l l' fks ∧
   fks.length+2*(100 - l'.length)≤300 ∧
   μ=fks.length+2*(100 - l'.length)∧mJ1 "states" = some (.ref S)∧mJ1 "transitions" = some (.ref r.T)∧mJ1 "frontier" = some (.ref Fr)) ?turn _ (inEEEE _ oS l fvs (inEEAAAAAAAA fks kf (by rw [upd_same hS]; exact FJ5) (by rw [upd_same hS]; exact sS) hl zf ⟨fun _ h=>h,fun k hk=>(inEA k hk (.refl k)),fun k hk=>pf.mem_iff.mp hk,fun k hk hn=>absurd (pf.mem_iff.mpr hk) hn⟩ ?_ rfl rfl (inA rfl rfl)))
 case turn =>
  intro μ s' z2; refine unEEEE z2 fun mJ1 oS' l' fvs w4=>unEEAAAAAAAA w4 fun fks kf FJ6 sS' hl' zf' C hb y1 hm1 w5=>unA w5 fun hm2 hm3=>?_; clear w4 w5; clear z2; subst y1; intro Qt hQt
  have lenv:fvs.length=fks.length:=zf'.length
  walk_at "r"
  refine x_truthyList FJ6 (upd_self _ _ _) (lst_is _ _) (by exact a30 57146058673389380859983041332283245883719960 hb lenv) fun sJ7 FJ7=>?_
  clear FJ6
  rcases List.eq_nil_or_concat fvs with rfl | ⟨fv,v,rfl⟩
  ·clear hb hQt lenv; cases zf'
   simp only [List.isEmpty_nil,Bool.not_true,Bool.false_eq_true,if_false]
   walk_at "r"
   walk_at "d"
   walk_at "p"; exact h _ _ _ (back _ _ _ (FJ7.forget ((upd_ne hSF.symm).trans hFr))) sS' hl' C.done
  ·rw [List.concat_eq_append] at *
   refine unEEAA zf'.snoc fun fk kJ1 y2 zfJ1 hkJ1=>?_; subst y2
   have hne':(fv++[v]).isEmpty=false:=by simp
   rw [hne']
   simp only [Bool.not_false,if_true]
   walk_at "r"
   refine x_bmethod FJ7 (upd_self _ _ _) rfl rfl PySem.F.plainAttrs_list PySem.F.slot_list_pop PySem.F.type_list_pop ?_
   walk_at "r"
   refine x_pop FJ7 (upd_self _ _ _) (by rw [List.length_append,List.length_append] at lenv; rw [List.length_append] at hb; exact a50 61360113274377495196270879169633551442865631851725081 hb lenv) fun sJ8 kJ8 FJ8=>?_
   clear FJ7
   rw [upd_upd] at FJ8
   refine x_store FJ8 rfl rfl (let MJ9:=setL _ _ _; fun sJ9 (FJ9:Fx _ _ _ _ MJ9 sJ9)=>?_)
   clear FJ8
   refine unE (Value.isInt_shape hkJ1) fun tv y3=>?_; clear zf' lenv hne'; subst y3
   walk_at "r"
   have lenk:fv.length=fk.length:=zfJ1.length
   have hb':fk.length+1+2*(100 - l'.length)≤300:=by simpa using hb
   have dead:(∀ u,¬ r.E kJ1 EPS u)→∀ mJ1 s,Fx c O' (cenv fd191 L' 191).locals (upd (upd G S oS') Fr (lst fv kJ8)) mJ1 s→mJ1 "states" = some (.ref S)→mJ1 "transitions" = some (.ref r.T)→mJ1 "frontier" = some (.ref Fr) →
     ∃ μ,μ<(fk++[kJ1]).length+2*(100 - l'.length)∧∃ mJ1 oS' l' fvs fks kf,Fx c O' L' (upd (upd G S oS') Fr (lst fvs kf)) mJ1 s∧SetIs (kInt c) (upd G S oS') oS' l'∧(∀ k∈l',0≤k∧k<100)∧KeysAre (kInt c) G fvs fks∧Closing r.E l l' fks ∧
      fks.length+2*(100 - l'.length)≤300∧μ=fks.length+2*(100 - l'.length)∧mJ1 "states" = some (.ref S)∧mJ1 "transitions" = some (.ref r.T)∧mJ1 "frontier" = some (.ref Fr):=by
    intro hdead mJ1 s Fd q1 q2 q3
    refine (inEA (fk.length+2*(100 - l'.length)) (by simp) (inEEEE mJ1 oS' l' fv (inEEAAAAAAAA fk kJ8 Fd sS' hl' zfJ1 ⟨C.from_,C.sound,fun q hq=>C.front q (List.mem_append_left _ hq),fun q hq hn u hu=>?_⟩ (by exact a20 1917503539824254189587580049700061944105992590461206 hb') rfl q1 (inA q2 q3))))
    by_cases hqk:q=kJ1
    ·(replace hqk:=hqk.symm; clear hq hn; subst hqk); exact absurd hu (hdead u)
    ·walk_at "p"; exact C.closed q hq (fun hm=>by rcases List.mem_append.mp hm with hm | hm; exact hn hm; exact hqk (List.mem_singleton.mp hm)) u hu
   refine x_in_dict (kd:=kInt c) FJ9 R'.in1 hkJ1 (inV _ _ (.inr (.inr (.inl rfl))) gT) (dT.up (tV _ _)) fun sJ10 FJ10=>?_
   clear FJ9
   walk_at "r"
   cases hDk:r.D kJ1 with
   | none =>
    have hv:(valueAt tkv kJ1).isSome=false:=by rw [vT,hDk]; rfl
    rw [hv]
    walk_at "r"
    walk_at "p"; exact dead (fun u hu=>by refine unEA hu fun b hb _=>?_; clear hu; refine unE (hN.sub _ _ _ hb) fun d hd=>?_; rw [hDk] at hd; exact nnS hd) _ _ FJ10 hm1 hm2 hm3
   | some D =>
    have hv:(valueAt tkv kJ1).isSome=true:=by rw [vT,hDk]; rfl
    have hvD:valueAt tkv kJ1=some (.ref D):=by rw [vT,hDk]; rfl
    refine unEEAA (hN.inner kJ1 D hDk) fun oD lk gD dD vD=>?_
    have gDV:∀ oJ1 oJ2,upd (upd G S oJ1) Fr oJ2 D=some oD:=fun oJ1 oJ2=>inV _ _ (.inr (.inr (.inr (.inr (.inl ⟨kJ1,hDk⟩))))) gD
    rw [hv]
    walk_at "r"
    refine x_global FJ10 (by k_is) rfl rfl rfl rfl ?_
    walk_at "r"
    refine x_getItemTail_dict (kd:=kInt c) FJ10 R'.in1 hkJ1 (inV _ _ (.inr (.inr (.inl rfl))) gT) (dT.up (tV _ _)) hvD fun sJ11 FJ11=>?_
    clear FJ10
    have hkE:∀ {G:View} {t:Tok},(kStr c).is G EPS (.str "<EPSILON>" t):=isKS
    refine x_in_dict (kd:=kStr c) FJ11 R'.in1 hkE (gDV _ _) (dD.up (tV _ _)) fun sJ12 FJ12=>?_
    clear FJ11
    walk_at "r"
    cases hSk:r.S kJ1 EPS with
    | none =>
     have hv2:(valueAt lk EPS).isSome=false:=by rw [vD,hSk]; rfl
     rw [hv2]
     walk_at "r"
     walk_at "p"; exact dead (fun u hu=>by refine unEA hu fun b hb _=>?_; clear hu; rw [hSk] at hb; exact nnS hb) _ _ FJ12 hm1 hm2 hm3
    | some B =>
     have hv2:(valueAt lk EPS).isSome=true:=by rw [vD,hSk]; rfl
     have hvB:valueAt lk EPS=some (.ref B):=by rw [vD,hSk]; rfl
     refine unEA (hN.sets kJ1 EPS B hSk) fun oB gB sB=>?_
     have hBh:r.has a B:=.inr (.inr (.inr (.inr (.inr (inEE kJ1 EPS hSk)))))
     have hBlen:=hthin kJ1 B hSk
     rw [hv2]
     walk_at "r"
     refine x_getItemTail_dict (kd:=kInt c) FJ12 R'.in1 hkJ1 (inV _ _ (.inr (.inr (.inl rfl))) gT) (dT.up (tV _ _)) hvD fun sJ13 FJ13=>?_
     clear FJ12
     walk_at "r"
     refine x_global FJ13 (by k_is) rfl rfl rfl rfl ?_
     walk_at "r"
     refine x_getItemTail_dict (kd:=kStr c) FJ13 R'.in1 hkE (gDV _ _) (dD.up (tV _ _)) hvB fun sJ14 FJ14=>?_
     clear FJ13
     refine x_bmethod FJ14 (inV _ _ hBh gB) sB.1.1 sB.1.2.1 PySem.F.plainAttrs_set PySem.F.slot_set_difference PySem.F.type_set_difference ?_
     walk_at "r"
     have gSV:upd (upd G S oS') Fr (lst fv kJ8) S=some oS':=(upd_ne hSF).trans (upd_self _ _ _)
     have upF:Tups (upd G S oS') (upd (upd G S oS') Fr (lst fv kJ8)):=.push ((upd_ne hSF.symm).trans hFr)
     have hl'len:l'.length≤100:=len_range (n:=100) sS'.nodup hl'
     have hl'pos:1≤l'.length:=List.length_pos_of_mem (C.front kJ1 (List.mem_append_right _ (List.mem_singleton.mpr rfl)))
     have hB100:=hN.setLen hSk sB
     refine x_difference kdsInt (fun {G k v} h=>by refine unE (Value.isInt_shape h) fun t y4=>?_; clear h; subst y4; rfl) FJ14 R'.in1 (inV _ _ hBh gB) (sB.up (tV _ _)) gSV (sS'.up upF) (by exact Nat.lt_of_le_of_lt ‹_› (by decide)) (by exact Nat.lt_of_le_of_lt ‹_› (by decide)) (by lia) fun Nw sJ15 oN lN hNw FJ15 sN hmN=>?_
     clear FJ14
     refine x_store FJ15 rfl rfl (let MJ16:=setL _ _ _; fun sJ16 (FJ16:Fx _ _ _ _ MJ16 sJ16)=>?_)
     clear FJ15
     try dsimp only
     have hNF:Nw≠Fr:=updN hNw
     have hNS:Nw≠S:=nsn hNw gSV
     have hNG:G Nw=none:=updK (updK hNw)
     have hlN:∀ q∈lN,0≤q∧q<100:=fun q hq=>(hN.bS _ _ _ hSk).2 q ((hmN q).mp hq).1
     have hNlen:lN.length≤100:=len_range (n:=100) sN.nodup hlN
     have gF:upd (upd (upd G S oS') Fr (lst fv kJ8)) Nw oN Fr=some (lst fv kJ8):=(upd_ne hNF.symm).trans (upd_self _ _ _)
     walk_at "r"
     refine x_bmethod FJ16 gF rfl rfl PySem.F.plainAttrs_list PySem.F.slot_list_extend PySem.F.type_list_extend ?_
     walk_at "r"
     refine x_builtin FJ16 (by k_is) (v:=.type "list") rfl (by decide) rfl rfl rfl rfl rfl ?_
     walk_at "r"
     refine x_listOfSet R'.handled FJ16 (upd_self _ _ _) sN (by exact Nat.lt_of_le_of_lt ‹_› (by decide)) fun Ls sJ17 nvs nks kl hLs FJ17 zn pn=>?_
     clear FJ16
     walk_at "r"
     have hLF:Ls≠Fr:=nsn hLs gF
     have hLN:Ls≠Nw:=updN hLs
     have hLS:Ls≠S:=nsn (updK hLs) gSV
     have hLG:G Ls=none:=updK (updK (updK hLs))
     have lenN:nvs.length=lN.length:=by rw [zn.length,pn.length_eq]
     refine x_extend FJ17 ((upd_ne hLF.symm).trans gF) (upd_self _ _ _) (by exact a30 62428150334095973257869525904886862943308497174 lenk hb') (by exact a20 51973795830145412301077002076439 hNlen lenN) fun sJ18 kJ18 FJ18=>?_
     clear FJ17
     walk_at "r"
     refine x_bmethod FJ18 (d:=S) (o:=oS') ((upd_ne hSF).trans ((upd_ne hLS.symm).trans ((upd_ne hNS.symm).trans gSV))) sS'.1.1 sS'.1.2.1 PySem.F.plainAttrs_set PySem.F.slot_set_update PySem.F.type_set_update ?_
     walk_at "r"
     have hNV:∀ oJ1 oJ2 oJ3,upd (upd (upd (upd (upd G S oS') Fr oJ1) Nw oN) Ls oJ2) Fr oJ3 Nw=some oN:=fun oJ1 oJ2 oJ3=>(upd_ne hNF).trans ((upd_ne hLN.symm).trans (upd_self _ _ _))
     refine x_update kdsInt (fun {G k v} h=>by refine unE (Value.isInt_shape h) fun t y5=>?_; clear h; subst y5; rfl) FJ18 R'.in1 ((upd_ne hSF).trans ((upd_ne hLS.symm).trans ((upd_ne hNS.symm).trans gSV))) sS' (hNV _ _ _) sN hNS.symm (by exact a20 55806438334863824356506657786069661255414 hl'len hNlen) fun sJ19 oS'' l'' FJ19 sS'' hB''=>?_
     clear FJ18
     walk_at "r"
     have hl'':∀ q∈l'',0≤q∧q<100:=fun q hq=>((hB'' q).mp hq).elim (hl' q) (hlN q)
     have hl''len:l''.length≤100:=len_range (n:=100) sS''.nodup hl''
     have hsum:l'.length+lN.length≤l''.length:=by
      have hnd:(l'++lN).Nodup:=List.nodup_append.mpr (inAA sS'.nodup sN.nodup (fun x hx y hy e=>((hmN y).mp hy).2 (e▸hx)))
      have:=nodup_len hnd (l':=l'') fun x hx=>(hB'' x).mpr (List.mem_append.mp hx)
      simpa using this
     have FJ20:Fx c O' L' (upd (upd G S oS'') Fr (lst (fv++nvs) kJ18)) _ sJ19:=FJ19.less fun b o e=>by
      by_cases hbS:b=S
      ·(replace hbS:=hbS.symm; subst hbS); rw [upd_ne hSF,upd_self] at e; cases e; exact upd_self _ _ _
      ·rw [upd_ne hbS]
       by_cases hbF:b=Fr
       ·(replace hbF:=hbF.symm; clear hbS; subst hbF); rw [upd_self] at e; cases e; exact upd_self _ _ _
       ·rw [upd_ne hbF,upd_ne hbS] at e
        rw [upd_ne hbF,upd_ne (nns e hLG),upd_ne (nns e hNG),upd_ne hbF,upd_ne hbS]
        walk_at "p"; exact e
     have hnk:∀ q,q∈nks↔q∈lN:=fun q=>pn.mem_iff
     have lenK:nks.length=lN.length:=pn.length_eq
     refine (inEA ((fk++nks).length+2*(100 - l''.length)) (by simp; exact a70 143275132268169052858943461374597248540361602111372427724106513513033995525322501785404 hsum lenK (Nat.sub_add_cancel (a10 1548939819042244990701846 hl''len)) sg) (inEEEE _ oS'' l'' (fv++nvs) (inEEAAAAAAAA (fk++nks) kJ18 FJ20 sS'' hl'' (zfJ1.append zn) ⟨fun q hq=>(hB'' q).mpr (.inl (C.from_ q hq)),fun q hq=>?_,fun q hq=>?_,fun q hq hn u hu=>?_⟩ (by simp; exact a70 2938565624375226880365793539587613162194019249670350996571648217979213775777594550833418692928595176982390 hb' hsum lenK (Nat.sub_add_cancel (a10 1548939819042244990701846 hl'len)) (Nat.sub_add_cancel (a10 1548939819042244990701846 hl''len))) rfl hm1 (inA hm2 hm3))))
     ·rcases (hB'' q).mp hq with hq | hq
      ·walk_at "p"; exact C.sound q hq
      ·refine unEA (C.sound kJ1 (C.front kJ1 (List.mem_append_right _ (List.mem_singleton.mpr rfl)))) fun s hs e=>?_
       walk_at "p"; exact (inEA s hs (.step e (inEA B hSk (((hmN q).mp hq).1))))
     ·rcases List.mem_append.mp hq with hq | hq
      ·walk_at "p"; exact (hB'' q).mpr (.inl (C.front q (List.mem_append_left _ hq)))
      ·walk_at "p"; exact (hB'' q).mpr (.inr ((hnk q).mp hq))
     ·rw [List.mem_append,not_or] at hn
      rcases (hB'' q).mp hq with hq | hq
      ·by_cases hqk:q=kJ1
       ·(replace hqk:=hqk.symm; clear hq hn; subst hqk)
        refine unEA hu fun b hb hu=>?_
        by_cases hul:u∈l'
        ·walk_at "p"; exact (hB'' u).mpr (.inl hul)
        ·walk_at "p"; exact (hB'' u).mpr (.inr ((hmN u).mpr ⟨hu,hul⟩))
       ·refine (hB'' u).mpr (.inl (C.closed q hq (fun hm=>?_) u hu))
        rcases List.mem_append.mp hm with hm | hm
        ·walk_at "p"; exact hn.1 hm
        ·walk_at "p"; exact hqk (List.mem_singleton.mp hm)
      ·walk_at "p"; exact absurd ((hnk q).mpr hq) hn.2
 ·have:=len_range (n:=100) sS.nodup hl
  rw [pf.length_eq]; exact a20 59921706888621534784166869914049763923172316416278 this (Nat.sub_le ..)
end
end
section
section
variable {c:Cx} {K:Type} [DecidableEq K] {kd:Kd c K} {O:List (Addr×Obj)} {L a b S I:Addr} {G:View} {m:Str→Option Value} {A:Around} {E:Value→Shared→Prop} {s:Shared} {o:Obj} {vs us:List Value} {ks:List K} {n k k2:Nat} {x:Value}
theorem update_loop {X:List (Addr×Obj)} {ok:Nat→Obj→Prop} {dep:View→Prop} {R:Result→Shared→Prop} (hS:KdS kd) (W:It c X vs.length (fun i v=>vs[i]?=some v) ok dep) (hh:A.handled=none) (hu:A.in1.units<cLine) (hr:G S=none) (hdep:∀ o',dep (upd G S o')) (hz:KeysAre kd G vs ks) (hlen:vs.length<900)
  (fin:∀ s' o' l',Fx c O L (upd G S o') m s'→SetIs kd (upd G S o') o' l'→(∀ k,k∈l'↔k∈ks)→R (.ok (.ret .none)) s') :
  ∀ (n i:Nat) (s:Shared) (o' oI:Obj) (l':List K),vs.length - i=n→i≤vs.length→ok i oI→Fx c ((I,oI)::(X++O)) L (upd G S o') m s→SetIs kd (upd G S o') o' l'→(∀ k,k∈l'↔k∈ks.take i)→l'.length≤i →
   codeAny (model c.prog c.w) A (.builtin "set.update.loop" ⟨[.ref S,.ref I],[]⟩) R s:=by
 have up1:∀ o',Tups G (upd G S o'):=fun o'=>.push hr
 have hl:=hz.length
 intro n
 induction n with
 | zero =>
  intro i s o' oI l' hn hi hok F I' hm hle
  have:i=vs.length:=by exact Nat.le_antisymm (a20 1434183575286 hi) (a30 51012166337342346405655 hn sg)
  clear hn hi hle; subst this
  refine codeAny_builtin PyProof.Rows.F.entry_set_update_loop ?_
  rw [Around.under_plainId PyProof.Rows.F.plain_set_update_loop _]
  refine wpAny_bind (W.done (by exact hh) F (hdep _) hok fun s' F'=>?_)
  exact wpAny_pure (fin s' o' l' F' I' fun k=>by rw [hm k,List.take_of_length_le (by exact a20 1537262790359 hl)])
 | succ n ih =>
  intro i s o' oI l' hn hi hok F I' hm hle
  have hlt:i<vs.length:=by exact a40 53239653052292631376210744 hn (Nat.sub_add_cancel (a20 1434183575286 hi))
  refine codeAny_builtin PyProof.Rows.F.entry_set_update_loop ?_
  rw [Around.under_plainId PyProof.Rows.F.plain_set_update_loop _]
  refine wpAny_bind (W.next F (hdep _) hok hlt fun v sJ1 oIJ1 hv hokJ1 FJ1=>?_)
  obtain ⟨k,hk⟩:∃ k,ks[i]?=some k:=⟨ks[i]'(by exact a30 50429058295017810680 hl hlt),List.getElem?_eq_getElem (by exact a30 50429058295017810680 hl hlt)⟩
  have hkv:kd.is G k v:=hz.get hv hk
  have hkv':=kd.up hkv (up1 o')
  refine wpAny_bind (wpAny_holding ?_)
  refine wpAny_holding (wpAny_bind (kd.pyHash FJ1 hu hkv' ?_))
  have FJ2:=FJ1.eta (t:=sJ1.toks+kd.draws k) (d:=sJ1.drawn)
  refine hS.add FJ2 hu hkv' (upd_self _ _ _) I' (by exact a30 1786518945684978595480337730582986334487 hlen hle hlt) fun sJ3 oJ3 bJ3 FJ3 IJ3 _=>?_
  rw [upd_upd] at FJ3 IJ3
  have htake:ks.take (i+1)=ks.take i++[k]:=by rw [List.take_add_one,hk]; rfl
  refine wpAny_pure ⟨plainId_quiet PyProof.Rows.F.plain_set_update_loop _,ih (i+1) sJ3 oJ3 oIJ1 _ (by exact subS ‹_›) hlt hokJ1 FJ3 IJ3 (fun q=>?_) (by have:=length_ins (k:=k) (l:=l'); exact a30 50460848531281476152499960 hle this)⟩
  rw [mem_ins,hm q,htake,List.mem_append,List.mem_singleton]
  exact ⟨Or.symm,Or.symm⟩
theorem x_setOfList {Q:Value→Shared→Prop} (hS:KdS kd) (R:Room A n) (F:Fx c O L G m s) (hg:G a=some o) (hL:ListIs o vs) (hz:KeysAre kd G vs ks) (hlen:vs.length<900)
  (h:∀ S s' oS l,G S=none→Fx c O L (upd G S oS) m s'→SetIs kd (upd G S oS) oS l→(∀ k,k∈l↔k∈ks)→Q (.ref S) s'):wpAny (model c.prog c.w) A (call (.type "set") [.ref a] []) Q E s:=by
 refine call_set_any (PySem.F.typeCall_set_1 _) (PySem.F.newCall_set_1 _) (fun hT hQ=>check_set_init_1 hT hQ) ?_
 have F1:=F.push (set0 c.w) rfl (t:=s.toks) (d:=s.drawn)
 have hr:G s.heap.objs.size=none:=F.fresh
 have hG1:=F1.get (upd_self G s.heap.objs.size (set0 c.w))
 have hga:=F.get hg
 have hne:a≠s.heap.objs.size:=nns hg hr
 have hga1:upd G s.heap.objs.size (set0 c.w) a=some o:=(upd_ne hne).trans hg
 have hsls:=PySem.F.sub_list_set
 have hslf:=PySem.F.sub_list_frozenset
 have hneq:(Value.type "list" == Value.type "dict")=false:=by decide
 have I0:SetIs kd (upd G s.heap.objs.size (set0 c.w)) (set0 c.w) []:=SetIs.fresh _ fun q=>by rw [q]; rfl
 have hTl:Shared.TypeIs { s with heap:=s.heap.push (set0 c.w) } (.ref a) "list" := (inEA o (F1.get hga1) hL.1)
 generalize s.heap.objs.size=S at F1 hr hG1 hne hga1 I0 ⊢
 unfold Builtin.«set.__init__» noKeywords
 generalize hU:Builtin.Frozenset.updateFrom=U
 wp_walk
 subst hU
 refine wpAny_bind (isAnySet_false hTl hsls hslf ?_)
 refine wpAny_bind (wpAny_typeOf hTl ?_)
 rw [if_neg (by rw [hneq]; exact Bool.false_ne_true)]
 refine wpAny_bind (x_iter_list F1 hga1 hL fun I sJ2 oI hok FJ2=>?_)
 refine wpAny_bind (wpAny_runValue ?_)
 refine update_loop (X:=[]) hS (It.list a vs) (by exact R.handled) (by have:=R.units; show A.units+1+1+1<_; exact a30 1862067648720018580145742223075485873833206 this) hr (fun o'=>(inEA o ((upd_ne hne).trans hg) hL)) hz hlen (fun s' o' l' F' I' hm=>?_) (vs.length - 0) 0 sJ2 _ oI [] rfl (Nat.zero_le _) hok FJ2 I0 (fun k=>by simp) (Nat.zero_le _)
 refine wpAny_pure (wpAny_pure ⟨rfl,h S s' o' l' hr F' I' hm⟩)
end
end
section
noncomputable def fx163:{ fd:FuncData // FdAt 163 fd }:=⟨_,fun P=>(inEEE _ _ _ (by k_is))⟩
noncomputable def fd163:FuncData:=fx163.1
section
variable {c:Cx} {O:List (Addr×Obj)} {L:Addr} {G:View} {m:Str→Option Value} {A:Around} {E:Value→Shared→Prop} {s:Shared} {n:Nat} {a:Addr} {r:Rep}
theorem listLine {vs:List Value} (h:vs.length≤10000):vs.length≤sizeLine:=by rw [sizeLine_eq]; exact Nat.le_trans ‹_› (by decide)
noncomputable def Sorted (l:List Int) (ks:List Int):Prop:=ks.Pairwise (·<·)∧∀ k,k∈ks↔k∈l
theorem sorted_of {ns l:List Int} (hn:l.Nodup) (p:ns.Perm l) (h:ns.Pairwise (·≤·)):Sorted l ns:=by
 refine ⟨?_,fun k=>p.mem_iff⟩
 have hd:ns.Nodup:=p.nodup_iff.mpr hn
 rw [List.nodup_iff_pairwise_ne] at hd
 walk_at "p"; exact (h.and hd).imp fun {a b} v1=>unA v1 fun h1 h2=>by exact (Int.lt_or_gt_of_ne v1.2).elim (fun z0=>a02 1674701751030 z0) (fun z0=>a02 55040744519570047734 v1.1 z0)
noncomputable def Rep.small (r:Rep):Prop:=(0≤r.ini∧r.ini<60)∧∀ s l d,r.E s l d→0≤d∧d<60
theorem Rep.small.eps {s k:Int} (h:r.small) (hs:0≤s∧s<60) (e:Eps r.E s k):0≤k∧k<60:=by
 cases e with
 | refl=>exact hs
 | step _ e=>exact h.2 _ _ _ e
theorem nfa_start {Q:Value→Shared→Prop} (F:Fx c O L G m s) (R:Room A (n+2)) (hN:NfaAt c G a r) (hthin:r.thin) (hsm:r.small)
  (h:∀ s' T oT ks,G T=none→Fx c O L (upd G T oT) m s'→(kTup c).is (upd G T oT) ks (.ref T)→ks.Pairwise (·<·)→(∀ k,k∈ks↔Eps r.E r.ini k)→Q (.ref T) s') :
  wpAny (model c.prog c.w) A (call (.ref 163) [.ref a] []) Q E s:=by
 refine unEEE (fx163.2 c.w.params) fun oc od osl ho=>?_
 refine enter F (fd:=fd163) (binds:=[("self",.ref a)]) ho rfl (by kernel_rfl) R.dl (BindsTo.of_eq rfl) rfl (by decide) (locs rfl) rfl rfl rfl fun sJ1 L' O' FJ1 back=>?_
 have R':=R.deeper (env:=cenv fd163 L' 163)
 generalize A.deeper (cenv fd163 L' 163)=A' at R' ⊢
 clear F
 walk_at "r"
 refine x_builtin FJ1 (by k_is) (v:=.type "tuple") rfl (by decide) rfl rfl rfl rfl rfl ?_
 walk_at "r"
 refine x_builtin FJ1 (by k_is) (v:=.builtin "sorted") rfl (by decide) rfl rfl rfl rfl rfl ?_
 walk_at "r"
 refine x_method FJ1 (C:=229) (f:=191) hN.inst hN.attrs.choose_spec.choose_spec.choose_spec.choose_spec.choose_spec (by k_is) (by k_is) (by k_is) rfl ?_
 refine x_args FJ1 (by k_is) ?_
 walk_at "r"
 refine x_builtin FJ1 (by k_is) (v:=.type "set") rfl (by decide) rfl rfl rfl rfl rfl ?_
 walk_at "r"
 refine unEEAAAA hN.trAttr fun es k hdx e1 e2 y1 e4=>?_; refine unE y1 fun tk e3=>?_; clear y1
 refine x_attr (v:=.int r.ini tk) FJ1 hN.inst hdx (by k_is) (by k_is) (by k_is) (by k_is) e3 rfl fun sJ2 FJ2=>?_
 clear FJ1
 walk_at "r"
 refine ⟨listLine (by simp),?_⟩
 have FJ3:=FJ2.push (lst [Value.int r.ini tk] 0) rfl (t:=sJ2.toks) (d:=sJ2.drawn)
 have hl:=FJ2.fresh
 clear FJ2
 generalize sJ2.heap.objs.size=l at FJ3 hl ⊢
 walk_at "r"
 have z1:KeysAre (kInt c) (upd G l (lst [Value.int r.ini tk] 0)) [Value.int r.ini tk] [r.ini]:=.cons isKI .nil
 refine x_setOfList kdsInt R' FJ3 (upd_self _ _ _) (lst_is _ _) z1 (by simp) fun S sJ4 oS lS hS FJ4 sS hmS=>?_
 clear FJ3
 have hSl:S≠l:=updN hS
 have hSG:G S=none:=updK hS
 have NJ4:NfaAt c (upd (upd G l (lst [Value.int r.ini tk] 0)) S oS) a r:=(hN.alloc hl).alloc hS
 walk_at "r"
 refine ⟨FJ4.K,?_⟩
 have hlS:∀ k∈lS,0≤k∧k<100:=fun k hk=>by
  rw [hmS,List.mem_singleton] at hk; subst hk; have:=hsm.1; exact ⟨a01 1638731398854 this.1,a01 1813390900931071880302870 this.2⟩
 refine nfa_expand FJ4 R' NJ4 hthin (upd_self _ _ _) sS hlS (hN.alloc (o:=lst [Value.int r.ini tk] 0) hl |>.notHas hS) fun sJ5 oS' l' FJ5 sS' hb' hm'=>?_
 clear FJ4
 rw [upd_upd] at FJ5 sS'
 walk_at "r"
 have hm2:∀ k,k∈l'↔Eps r.E r.ini k:=fun k=>by
  rw [hm']
  constructor
  ·intro z1; refine unEA z1 fun s hs e=>?_; clear z1; rw [hmS,List.mem_singleton] at hs; subst hs; exact e
  ·intro e; exact (inEA r.ini ((hmS _).mpr (List.mem_singleton.mpr rfl)) e)
 have hlen':l'.length≤60:=len_range (n:=60) sS'.nodup fun k hk=>by exact_mod_cast hsm.eps hsm.1 ((hm2 k).mp hk)
 refine x_sortedSet R'.handled FJ5 (upd_self _ _ _) sS' (by exact Nat.lt_of_le_of_lt ‹_› (by decide)) fun SJ2 sJ6 vs ns kJ2 hSJ2 FJ6 zJ2 pJ2 hJ2=>?_
 clear FJ5
 have hvl:vs.length=l'.length:=by rw [zJ2.length,pJ2.length_eq]
 walk_at "r"
 refine x_tupleOfList FJ6 (upd_self _ _ _) (lst_is _ _) (by exact a20 51973747473112627715910013829399 hlen' hvl) fun T sJ7 hT FJ7=>?_
 clear FJ6
 have hTSJ2:T≠SJ2:=updN hT
 have hTS:T≠S:=updN (updK hT)
 have hTl:T≠l:=updN (updK (updK hT))
 have hTG:G T=none:=updK (updK (updK hT))
 have hSJ2G:∀ {b o},G b=some o→b≠SJ2:=fun {b o} e q=>by
  rw [q] at e
  by_cases c1:SJ2=S
  ·rw [c1,hSG] at e; exact nnS e
  ·rw [upd_ne c1] at hSJ2
   by_cases c2:SJ2=l
   ·rw [c2,hl] at e; exact nnS e
   ·rw [upd_ne c2,e] at hSJ2; exact snN hSJ2
 have FJ8:Fx c O' L' (upd G T { cls:=.type "tuple",data:=.seq vs.toArray }) _ sJ7:=FJ7.less fun b o e=>by
  by_cases c1:b=T
  ·(replace c1:=c1.symm; subst c1); rw [upd_self] at e; cases e; exact upd_self _ _ _
  ·rw [upd_ne c1] at e
   rw [upd_ne c1,upd_ne (hSJ2G e),upd_ne (nns e hSG),upd_ne (nns e hl)]
   walk_at "p"; exact e
 have hso:=sorted_of sS'.nodup pJ2 hJ2
 walk_at "p"; exact h _ _ _ ns hTG (back _ _ _ FJ8) (kTup_of (upd_self _ _ _) (inAE rfl 0 rfl) (KeysAre.up (G:=G) (keysAre_ints.mpr (keysAre_ints.mp zJ2)) (.push hTG))) hso.1 fun k=>by rw [hso.2,hm2]
end
end
section
noncomputable def fx198:{ fd:FuncData // FdAt 198 fd }:=⟨_,fun P=>(inEEE _ _ _ (by k_is))⟩
noncomputable def fd198:FuncData:=fx198.1
section
variable {c:Cx} {O:List (Addr×Obj)} {L:Addr} {G:View} {m:Str→Option Value} {A:Around} {E:Value→Shared→Prop} {s:Shared} {n:Nat} {a:Addr} {r:Rep}
noncomputable def Rep.out (r:Rep) (s:Int) (lab:Str) (d:Int):Prop:=r.E s lab d∨r.E s ANY d
theorem nfa_next_state {lab:Str} {tl:Tok} {ks:List Int} {v:Value} {Q:Value→Shared→Prop} (F:Fx c O L G m s) (R:Room A (n+2)) (hN:NfaAt c G a r) (hthin:r.thin) (hsm:r.small) (hv:(kTup c).is G ks v)
  (h:∀ s' T oT ks',G T=none→Fx c O L (upd G T oT) m s'→(kTup c).is (upd G T oT) ks' (.ref T)→ks'.Pairwise (·<·)→(∀ k,k∈ks'↔∃ s∈ks,∃ d,r.out s lab d∧Eps r.E d k)→Q (.ref T) s') :
  wpAny (model c.prog c.w) A (call (.ref 198) [.ref a,v,.str lab tl] []) Q E s:=by
 refine unEEE (fx198.2 c.w.params) fun oc od osl ho=>?_
 refine enter F (fd:=fd198) (binds:=[("self",.ref a),("states",v),("label",.str lab tl)]) ho rfl (by kernel_rfl) R.dl (BindsTo.of_eq rfl) rfl (by decide) (locs rfl) rfl rfl rfl fun sJ1 L' O' FJ1 back=>?_
 have R':=R.deeper (env:=cenv fd198 L' 198)
 generalize A.deeper (cenv fd198 L' 198)=A' at R' ⊢
 clear F
 walk_at "r"
 refine unEEAAAA hN.trAttr fun es k hdx e1 e2 y1 e4=>?_; refine unE y1 fun tk e3=>?_; clear y1
 refine x_attr (v:=.ref r.T) FJ1 hN.inst hdx (by k_is) (by k_is) (by k_is) (by k_is) e1 rfl fun sJ2 FJ2=>?_
 clear FJ1
 refine x_store FJ2 rfl rfl (let MJ3:=setL _ _ _; fun sJ3 (FJ3:Fx _ _ _ _ MJ3 sJ3)=>?_)
 clear FJ2
 walk_at "r"
 refine x_builtin FJ3 (by k_is) (v:=.type "set") rfl (by decide) rfl rfl rfl rfl rfl ?_
 refine callWith_type0 ?_
 refine x_set0 FJ3 fun S sJ4 oS hS FJ4 sS=>?_
 clear FJ3
 refine x_store FJ4 rfl rfl (let MJ5:=setL _ _ _; fun sJ5 (FJ5:Fx _ _ _ _ MJ5 sJ5)=>?_)
 clear FJ4
 walk_at "r"
 refine unEEEAAA (kTup_is hv) fun tv otv vs y2 gtv htv ztv=>?_; clear hv; subst y2
 have hSt:S≠tv:=nsn hS gtv
 refine x_iter_tup FJ5 ((upd_ne hSt.symm).trans gtv) htv fun I sJ6 oI hI FJ6=>?_
 clear FJ5
 have lenv:vs.length=ks.length:=ztv.length
 refine unEEAA hN.tr fun oT tkv gT dT vT=>?_
 have inS:∀ (o':Obj) {b:Addr} {o:Obj},G b=some o→upd G S o' b=some o:=fun o' {b o} e=>by rw [upd_ne (nns e hS)]; exact e
 have sS0:SetIs (kInt c) G oS []:=sS (kInt c)
 refine x_forLoop (It.tup tv vs) R'.handled FJ6 hI rfl rfl (fun i G' m'=>∃ o' l,G'=upd G S o'∧SetIs (kInt c) G o' l∧(∀ k∈l,0≤k∧k<60)∧(∀ d,d∈l↔∃ s∈ks.take i,r.out s lab d)∧m' "self" = some (.ref a)∧m' "label" = some (.str lab tl)∧m' "transitions" = some (.ref r.T)∧m' "dest_states" = some (.ref S))
  (inEEAAAAAAA oS ([]) rfl sS0 (fun _ h=>(niP h)) (fun d=>by simp) rfl rfl rfl rfl) (fun i G' m' v1=>unEEA v1 fun o' l e _=>(inEA otv (by rw [e]; exact inS _ gtv) htv)) ?body ?fin
 case body =>
  intro i w OJ2 G' m' sJ7 hi hw z1 FJ7 Qt hQt; refine unEEAAAAAAA z1 fun o' l y3 sl bl ml q1 q2 q3 q4=>?_; clear z1; subst y3
  obtain ⟨kJ1,hkJ1⟩:∃ k,ks[i]?=some k:=⟨ks[i]'(by exact a30 50429058295017810680 lenv hi),List.getElem?_eq_getElem (by exact a30 50429058295017810680 lenv hi)⟩
  have hwk:=ztv.get hw hkJ1
  refine unE (Value.isInt_shape hwk) fun tw y4=>?_; clear hw hwk; subst y4
  have htake:ks.take (i+1)=ks.take i++[kJ1]:=by rw [List.take_add_one,hkJ1]; rfl
  have dkT:(kInt c).is G kJ1 (.int kJ1 tw):=isKI
  have next:∀ (oJ1:Obj) (lJ1:List Int) (mJ1:Str→Option Value) (sJ1:Shared),Fx c OJ2 (cenv fd198 L' 198).locals (upd G S oJ1) mJ1 sJ1→SetIs (kInt c) G oJ1 lJ1→(∀ d,d∈lJ1↔d∈l∨r.out kJ1 lab d)→mJ1 "self" = some (.ref a)→mJ1 "label" = some (.str lab tl)→mJ1 "transitions" = some (.ref r.T)→mJ1 "dest_states" = some (.ref S) →
    ∃ GJ2 mJ2,Fx c OJ2 (cenv fd198 L' 198).locals GJ2 mJ2 sJ1∧∃ o' l,GJ2=upd G S o'∧SetIs (kInt c) G o' l∧(∀ k∈l,0≤k∧k<60)∧(∀ d,d∈l↔∃ s∈ks.take (i+1),r.out s lab d)∧mJ2 "self" = some (.ref a)∧mJ2 "label" = some (.str lab tl)∧mJ2 "transitions" = some (.ref r.T)∧mJ2 "dest_states" = some (.ref S):=by
   intro oJ1 lJ1 mJ1 sJ1 F SJ1 hJ1 p1 p2 p3 p4
   have hm:∀ d,d∈lJ1↔∃ s∈ks.take (i+1),r.out s lab d:=fun d=>by
    rw [hJ1 d,ml d,htake]
    constructor
    ·rintro (⟨s,hs,ho⟩ | ho)
     ·walk_at "p"; exact (inEA s (List.mem_append_left _ hs) ho)
     ·walk_at "p"; exact (inEA kJ1 (List.mem_append_right _ (List.mem_singleton.mpr rfl)) ho)
    ·intro z2; refine unEA z2 fun s hs ho=>?_; clear z2
     rcases List.mem_append.mp hs with hs | hs
     ·walk_at "p"; exact .inl (inEA s hs ho)
     ·rw [List.mem_singleton] at hs; (replace hs:=hs.symm; subst hs); exact .inr ho
   refine (inEEA _ mJ1 F (inEEAAAAAAA oJ1 lJ1 rfl SJ1 (fun k hk=>?_) hm p1 p2 p3 p4))
   refine unEA ((hm k).mp hk) fun s _ ho=>?_
   walk_at "p"; exact ho.elim (hsm.2 _ _ _) (hsm.2 _ _ _)
  walk_at "r"
  refine x_in_dict (kd:=kInt c) FJ7 R'.in1 dkT (inS _ gT) (dT.up (.push hS)) fun sJ8 FJ8=>?_
  clear FJ7
  walk_at "r"
  cases hDk:r.D kJ1 with
  | none =>
   have hv:(valueAt tkv kJ1).isSome=false:=by rw [vT,hDk]; rfl
   rw [hv]
   walk_at "r"
   have noE:∀ l d,¬ r.E kJ1 l d:=fun l d v2=>unEA v2 fun b hb _=>by refine unE (hN.sub _ _ _ hb) fun x hx=>?_; rw [hDk] at hx; exact nnS hx
   walk_at "p"; exact next _ _ _ _ FJ8 sl (fun d=>⟨.inl,fun q=>q.elim id fun q=>absurd q (by rintro (q | q) <;> exact noE _ _ q)⟩) q1 q2 q3 q4
  | some D =>
   have hv:(valueAt tkv kJ1).isSome=true:=by rw [vT,hDk]; rfl
   have hvD:valueAt tkv kJ1=some (.ref D):=by rw [vT,hDk]; rfl
   refine unEEAA (hN.inner kJ1 D hDk) fun oD lk gD dD vD=>?_
   rw [hv]
   walk_at "r"
   refine x_getItemTail_dict (kd:=kInt c) FJ8 R'.in1 dkT (inS _ gT) (dT.up (.push hS)) hvD fun sJ9 FJ9=>?_
   clear FJ8
   refine x_store FJ9 rfl rfl (let MJ10:=setL _ _ _; fun sJ10 (FJ10:Fx _ _ _ _ MJ10 sJ10)=>?_)
   clear FJ9
   try dsimp only
   (first | refine wpAny_execs_cons ?_ | (refine absEnd (by assumption) (seqN ?_); refine wpAny_execs_cons ?_))
   refine wpAny_mono (Q:=fun f s'=>f=.next∧∃ oJ1 lJ1,Fx c OJ2 (cenv fd198 L' 198).locals (upd G S oJ1) (setL (setL m' "state" (Value.int kJ1 tw)) "xs" (Value.ref D)) s'∧SetIs (kInt c) G oJ1 lJ1∧(∀ k∈lJ1,0≤k∧k<60)∧∀ d,d∈lJ1↔d∈l∨r.E kJ1 lab d) ?one ?two fun _ _ e=>e
   case one =>
    walk_at "r"
    refine x_in_dict (kd:=kStr c) (k:=lab) FJ10 R'.in1 isKS (inS _ gD) (dD.up (.push hS)) fun sJ11 FJ11=>?_
    clear FJ10
    walk_at "r"
    cases hSk:r.S kJ1 lab with
    | none =>
     have hv2:(valueAt lk lab).isSome=false:=by rw [vD,hSk]; rfl
     rw [hv2]
     walk_at "r"
     refine (inAEEAA rfl _ l FJ11 sl (inA bl (fun d=>⟨.inl,fun q=>q.elim id fun v3=>unEA v3 fun b hb _=>by rw [hSk] at hb; exact nnS hb⟩)))
    | some B =>
     have hv2:(valueAt lk lab).isSome=true:=by rw [vD,hSk]; rfl
     have hvB:valueAt lk lab=some (.ref B):=by rw [vD,hSk]; rfl
     refine unEA (hN.sets kJ1 lab B hSk) fun oB gB sB=>?_
     rw [hv2]
     walk_at "r"
     refine x_bmethod FJ11 (upd_self _ _ _) sl.1.1 sl.1.2.1 PySem.F.plainAttrs_set PySem.F.slot_set_update PySem.F.type_set_update ?_
     walk_at "r"
     refine x_getItemTail_dict (kd:=kStr c) (k:=lab) FJ11 R'.in1 isKS (inS _ gD) (dD.up (.push hS)) hvB fun sJ12 FJ12=>?_
     clear FJ11
     walk_at "r"
     have hSB:S≠B:=(nns gB hS).symm
     have hll:l.length≤60:=len_range (n:=60) sl.nodup fun k hk=>by exact_mod_cast bl k hk
     have hBl:=hN.setLen hSk sB
     refine x_update kdsInt (fun {G k v} h=>by refine unE (Value.isInt_shape h) fun t y5=>?_; clear h; subst y5; rfl) FJ12 R'.in1 (upd_self _ _ _) sl (inS _ gB) sB hSB (by exact a20 55806386411895239008230372481106369054454 hll hBl) fun sJ13 oJ1 lJ1 FJ13 SJ1 hB=>?_
     rw [upd_upd] at FJ13
     walk_at "d"
     refine (inAEEAA rfl oJ1 lJ1 FJ13 SJ1 (inA (fun k hk=>((hB k).mp hk).elim (bl k) fun q=>hsm.2 kJ1 lab k (inEA B hSk q)) (fun d=>?_)))
     rw [hB d]
     walk_at "p"; exact ⟨fun q=>q.imp id fun q=>(inEA B hSk q),fun q=>q.imp id fun v4=>unEA v4 fun b hb q=>q⟩
   case two =>
    intro f sJ14 z3; refine unAEEAA z3 fun y6 oJ1 lJ1 FJ14 SJ1 w6=>unA w6 fun bJ1 hJ1=>?_; clear w6; clear z3; subst y6
    walk_at "r"
    refine x_global FJ14 (by k_is) rfl rfl rfl rfl ?_
    walk_at "r"
    refine x_in_dict (kd:=kStr c) (k:=ANY) FJ14 R'.in1 isKS (inS _ gD) (dD.up (.push hS)) fun sJ11 FJ11=>?_
    clear FJ14
    walk_at "r"
    cases hSk:r.S kJ1 ANY with
    | none =>
     have hv2:(valueAt lk ANY).isSome=false:=by rw [vD,hSk]; rfl
     rw [hv2]
     walk_at "r"
     refine next _ _ _ _ FJ11 SJ1 (fun d=>?_) q1 q2 q3 q4
     rw [hJ1 d]
     walk_at "p"; exact ⟨fun q=>q.imp id .inl,fun q=>q.imp id fun q=>q.elim id fun v5=>unEA v5 fun b hb _=>by rw [hSk] at hb; exact nnS hb⟩
    | some B =>
     have hv2:(valueAt lk ANY).isSome=true:=by rw [vD,hSk]; rfl
     have hvB:valueAt lk ANY=some (.ref B):=by rw [vD,hSk]; rfl
     refine unEA (hN.sets kJ1 ANY B hSk) fun oB gB sB=>?_
     rw [hv2]
     walk_at "r"
     refine x_bmethod FJ11 (upd_self _ _ _) SJ1.1.1 SJ1.1.2.1 PySem.F.plainAttrs_set PySem.F.slot_set_update PySem.F.type_set_update ?_
     walk_at "r"
     refine x_global FJ11 (by k_is) rfl rfl rfl rfl ?_
     walk_at "r"
     refine x_getItemTail_dict (kd:=kStr c) (k:=ANY) FJ11 R'.in1 isKS (inS _ gD) (dD.up (.push hS)) hvB fun sJ12 FJ12=>?_
     clear FJ11
     walk_at "r"
     have hSB:S≠B:=(nns gB hS).symm
     have hll:lJ1.length≤60:=len_range (n:=60) SJ1.nodup fun k hk=>by exact_mod_cast bJ1 k hk
     have hBl:=hN.setLen hSk sB
     refine x_update kdsInt (fun {G k v} h=>by refine unE (Value.isInt_shape h) fun t y7=>?_; clear h; subst y7; rfl) FJ12 R'.in1 (upd_self _ _ _) SJ1 (inS _ gB) sB hSB (by exact a20 55806386411895239008230372481106369054454 hll hBl) fun sJ13 oJ2 lJ2 FJ13 SJ2 hB=>?_
     rw [upd_upd] at FJ13
     walk_at "d"
     refine next _ _ _ _ FJ13 SJ2 (fun d=>?_) q1 q2 q3 q4
     rw [hB d,hJ1 d,or_assoc]
     walk_at "p"; exact ⟨fun q=>q.imp id fun q=>q.imp id fun q=>(inEA B hSk q),fun q=>q.imp id fun q=>q.imp id fun v6=>unEA v6 fun b hb q=>by rw [hSk] at hb; cases hb; exact q⟩
 case fin =>
  intro G' m' sJ7 z4 FJ7; refine unEEAAAAAAA z4 fun o' l y8 sl bl ml q1 q2 q3 q4=>?_; clear z4; subst y8
  walk_at "r"
  refine x_builtin FJ7 (by k_is) (v:=.type "tuple") rfl (by decide) rfl rfl rfl rfl rfl ?_
  walk_at "r"
  refine x_builtin FJ7 (by k_is) (v:=.builtin "sorted") rfl (by decide) rfl rfl rfl rfl rfl ?_
  walk_at "r"
  refine unEEEEE hN.attrs fun u1 u2 u3 tk0 k0 hdx0=>?_
  refine x_method FJ7 (C:=229) (f:=191) (inS _ hN.inst) (inS _ hdx0) (by k_is) (by k_is) (by k_is) rfl ?_
  refine x_args FJ7 (by k_is) ?_
  walk_at "r"
  refine ⟨FJ7.K,?_⟩
  refine nfa_expand FJ7 R' (hN.alloc hS) hthin (upd_self _ _ _) sl (fun k hk=>by have:=bl k hk; exact ⟨a01 1638731398854 this.1,a01 1813390900931071880302870 this.2⟩) (hN.notHas hS) fun sJ8 oS' l' FJ8 sS' hb' hm'=>?_
  clear FJ7
  rw [upd_upd] at FJ8
  walk_at "r"
  have hlen':l'.length≤60:=len_range (n:=60) sS'.nodup fun k hk=>by
   refine unEA ((hm' k).mp hk) fun s hs e=>?_
   exact_mod_cast hsm.eps (bl s hs) e
  refine x_sortedSet R'.handled FJ8 (upd_self _ _ _) sS' (by exact Nat.lt_of_le_of_lt ‹_› (by decide)) fun SJ2 sJ9 ws ns kJ2 hSJ2 FJ9 zJ2 pJ2 hJ2=>?_
  clear FJ8
  have hvl:ws.length=l'.length:=by rw [zJ2.length,pJ2.length_eq]
  walk_at "r"
  refine x_tupleOfList FJ9 (upd_self _ _ _) (lst_is _ _) (by exact a20 51973747473112627715910013829399 hlen' hvl) fun T sJ10 hT FJ10=>?_
  clear FJ9
  have hTSJ2:T≠SJ2:=updN hT
  have hTS:T≠S:=updN (updK hT)
  have hTG:G T=none:=updK (updK hT)
  have hSJ2G:∀ {b o},G b=some o→b≠SJ2:=fun {b o} e q=>by
   rw [q] at e
   by_cases c1:SJ2=S
   ·rw [c1,hS] at e; exact nnS e
   ·rw [upd_ne c1,e] at hSJ2; exact snN hSJ2
  have FJ11:Fx c O' L' (upd G T { cls:=.type "tuple",data:=.seq ws.toArray }) _ sJ10:=FJ10.less fun b o e=>by
   by_cases c1:b=T
   ·(replace c1:=c1.symm; subst c1); rw [upd_self] at e; cases e; exact upd_self _ _ _
   ·rw [upd_ne c1] at e
    rw [upd_ne c1,upd_ne (hSJ2G e),upd_ne (nns e hS)]
    walk_at "p"; exact e
  have hso:=sorted_of sS'.nodup pJ2 hJ2
  walk_at "p"; refine h _ _ _ ns hTG (back _ _ _ FJ11) (kTup_of (upd_self _ _ _) (inAE rfl 0 rfl) (KeysAre.up (G:=G) (keysAre_ints.mpr (keysAre_ints.mp zJ2)) (.push hTG))) hso.1 fun k=>?_
  rw [hso.2,hm']
  constructor
  ·intro z5; refine unEA z5 fun d hd e=>?_; clear z5
   refine unEA ((ml d).mp hd) fun s hs ho=>?_
   walk_at "p"; exact (inEAEA s (List.mem_of_mem_take hs) d ho e)
  ·intro z6; refine unEAEA z6 fun s hs d ho e=>?_; clear z6
   walk_at "p"; exact (inEA d ((ml d).mpr (inEA s (by rw [List.take_of_length_le (by exact a20 1537262790359 lenv)]; exact hs) ho)) e)
end
end
section
noncomputable def fx205:{ fd:FuncData // FdAt 205 fd }:=⟨_,fun P=>(inEEE _ _ _ (by k_is))⟩
noncomputable def fd205:FuncData:=fx205.1
section
variable {c:Cx} {O:List (Addr×Obj)} {L:Addr} {G:View} {m:Str→Option Value} {A:Around} {E:Value→Shared→Prop} {s:Shared} {n:Nat} {a:Addr} {r:Rep}
theorem nfa_get_labels {ks:List Int} {v:Value} {Q:Value→Shared→Prop} (F:Fx c O L G m s) (R:Room A (n+1)) (hN:NfaAt c G a r) (hv:(kTup c).is G ks v)
  (h:∀ s' S oS ls,G S=none→Fx c O L (upd G S oS) m s'→SetIs (kStr c) G oS ls→(∀ l∈ls,l∈Lab)→(∀ l,l∈ls↔∃ s∈ks,∃ b,r.S s l=some b)→Q (.ref S) s') :
  wpAny (model c.prog c.w) A (call (.ref 205) [.ref a,v] []) Q E s:=by
 refine unEEE (fx205.2 c.w.params) fun oc od osl ho=>?_
 refine enter F (fd:=fd205) (binds:=[("self",.ref a),("states",v)]) ho rfl (by kernel_rfl) R.dl (BindsTo.of_eq rfl) rfl (by decide) (locs rfl) rfl rfl rfl fun sJ1 L' O' FJ1 back=>?_
 have R':=R.deeper (env:=cenv fd205 L' 205)
 generalize A.deeper (cenv fd205 L' 205)=A' at R' ⊢
 clear F
 walk_at "r"
 refine unEEAAAA hN.trAttr fun es k hdx e1 e2 y1 e4=>?_; refine unE y1 fun tk e3=>?_; clear y1
 refine x_attr (v:=.ref r.T) FJ1 hN.inst hdx (by k_is) (by k_is) (by k_is) (by k_is) e1 rfl fun sJ2 FJ2=>?_
 clear FJ1
 refine x_store FJ2 rfl rfl (let MJ3:=setL _ _ _; fun sJ3 (FJ3:Fx _ _ _ _ MJ3 sJ3)=>?_)
 clear FJ2
 walk_at "r"
 refine x_builtin FJ3 (by k_is) (v:=.type "set") rfl (by decide) rfl rfl rfl rfl rfl ?_
 refine callWith_type0 ?_
 refine x_set0 FJ3 fun S sJ4 oS hS FJ4 sS=>?_
 clear FJ3
 refine x_store FJ4 rfl rfl (let MJ5:=setL _ _ _; fun sJ5 (FJ5:Fx _ _ _ _ MJ5 sJ5)=>?_)
 clear FJ4
 walk_at "r"
 refine unEEEAAA (kTup_is hv) fun tv otv vs y2 gtv htv ztv=>?_; clear hv; subst y2
 have hSt:S≠tv:=nsn hS gtv
 refine x_iter_tup FJ5 ((upd_ne hSt.symm).trans gtv) htv fun I sJ6 oI hI FJ6=>?_
 clear FJ5
 have lenv:vs.length=ks.length:=ztv.length
 refine unEEAA hN.tr fun oT tkv gT dT vT=>?_
 have inS:∀ (o':Obj) {b:Addr} {o:Obj},G b=some o→upd G S o' b=some o:=fun o' {b o} e=>by rw [upd_ne (nns e hS)]; exact e
 have sS0:SetIs (kStr c) G oS []:=sS (kStr c)
 refine x_forLoop (It.tup tv vs) R'.handled FJ6 hI rfl rfl (fun i G' m'=>∃ o' l,G'=upd G S o'∧SetIs (kStr c) G o' l∧(∀ k∈l,k∈Lab)∧(∀ d,d∈l↔∃ s∈ks.take i,∃ b,r.S s d=some b)∧m' "transitions" = some (.ref r.T)∧m' "labels" = some (.ref S))
  (inEEAAAAA oS ([]) rfl sS0 (fun _ h=>(niP h)) (fun d=>by simp) rfl rfl) (fun i G' m' v1=>unEEA v1 fun o' l e _=>(inEA otv (by rw [e]; exact inS _ gtv) htv)) ?body ?fin
 case body =>
  intro i w OJ2 G' m' sJ7 hi hw z1 FJ7 Qt hQt; refine unEEAAAAA z1 fun o' l y3 sl bl ml q3 q4=>?_; clear z1; subst y3
  obtain ⟨kJ1,hkJ1⟩:∃ k,ks[i]?=some k:=⟨ks[i]'(by exact a30 50429058295017810680 lenv hi),List.getElem?_eq_getElem (by exact a30 50429058295017810680 lenv hi)⟩
  have hwk:=ztv.get hw hkJ1
  refine unE (Value.isInt_shape hwk) fun tw y4=>?_; clear hw hwk; subst y4
  have htake:ks.take (i+1)=ks.take i++[kJ1]:=by rw [List.take_add_one,hkJ1]; rfl
  have dkT:(kInt c).is G kJ1 (.int kJ1 tw):=isKI
  have next:∀ (oJ1:Obj) (lJ1:List Str) (mJ1:Str→Option Value) (sJ1:Shared),Fx c OJ2 (cenv fd205 L' 205).locals (upd G S oJ1) mJ1 sJ1→SetIs (kStr c) G oJ1 lJ1→(∀ d,d∈lJ1↔d∈l∨∃ b,r.S kJ1 d=some b)→mJ1 "transitions" = some (.ref r.T)→mJ1 "labels" = some (.ref S) →
    ∃ GJ2 mJ2,Fx c OJ2 (cenv fd205 L' 205).locals GJ2 mJ2 sJ1∧∃ o' l,GJ2=upd G S o'∧SetIs (kStr c) G o' l∧(∀ k∈l,k∈Lab)∧(∀ d,d∈l↔∃ s∈ks.take (i+1),∃ b,r.S s d=some b)∧mJ2 "transitions" = some (.ref r.T)∧mJ2 "labels" = some (.ref S):=by
   intro oJ1 lJ1 mJ1 sJ1 F SJ1 hJ1 p3 p4
   have hm:∀ d,d∈lJ1↔∃ s∈ks.take (i+1),∃ b,r.S s d=some b:=fun d=>by
    rw [hJ1 d,ml d,htake]
    constructor
    ·rintro (⟨s,hs,ho⟩ | ho)
     ·walk_at "p"; exact (inEA s (List.mem_append_left _ hs) ho)
     ·walk_at "p"; exact (inEA kJ1 (List.mem_append_right _ (List.mem_singleton.mpr rfl)) ho)
    ·intro z2; refine unEA z2 fun s hs ho=>?_; clear z2
     rcases List.mem_append.mp hs with hs | hs
     ·walk_at "p"; exact .inl (inEA s hs ho)
     ·rw [List.mem_singleton] at hs; (replace hs:=hs.symm; subst hs); exact .inr ho
   refine (inEEA _ mJ1 F (inEEAAAAA oJ1 lJ1 rfl SJ1 (fun k hk=>?_) hm p3 p4))
   refine unEA ((hm k).mp hk) fun s _ w7=>unE w7 fun b hb=>?_; clear w7
   walk_at "p"; exact (hN.bS _ _ _ hb).1
  walk_at "r"
  refine x_in_dict (kd:=kInt c) FJ7 R'.in1 dkT (inS _ gT) (dT.up (.push hS)) fun sJ8 FJ8=>?_
  clear FJ7
  walk_at "r"
  cases hDk:r.D kJ1 with
  | none =>
   have hv:(valueAt tkv kJ1).isSome=false:=by rw [vT,hDk]; rfl
   rw [hv]
   walk_at "r"
   walk_at "p"; exact next _ _ _ _ FJ8 sl (fun d=>⟨.inl,fun q=>q.elim id fun v2=>unE v2 fun b hb=>by refine unE (hN.sub _ _ _ hb) fun x hx=>?_; rw [hDk] at hx; exact nnS hx⟩) q3 q4
  | some D =>
   have hv:(valueAt tkv kJ1).isSome=true:=by rw [vT,hDk]; rfl
   have hvD:valueAt tkv kJ1=some (.ref D):=by rw [vT,hDk]; rfl
   refine unEEAA (hN.inner kJ1 D hDk) fun oD lk gD dD vD=>?_
   rw [hv]
   walk_at "r"
   refine x_bmethod FJ8 (upd_self _ _ _) sl.1.1 sl.1.2.1 PySem.F.plainAttrs_set PySem.F.slot_set_update PySem.F.type_set_update ?_
   walk_at "r"
   refine x_getItemTail_dict (kd:=kInt c) FJ8 R'.in1 dkT (inS _ gT) (dT.up (.push hS)) hvD fun sJ9 FJ9=>?_
   clear FJ8
   walk_at "r"
   have hSD:S≠D:=(nns gD hS).symm
   have hll:l.length≤5:=by have:=nodup_len sl.nodup (l':=Lab) bl; simpa [Lab] using this
   have hlk:=hN.inLen dD vD
   refine x_updateDict kdsStr FJ9 R'.in1 (upd_self _ _ _) sl (inS _ gD) dD hSD (by exact a20 55806315017813434150845598812777027471094 hll hlk) fun sJ10 oJ1 lJ1 FJ10 SJ1 hB=>?_
   clear FJ9
   rw [upd_upd] at FJ10
   walk_at "r"
   refine next _ _ _ _ FJ10 SJ1 (fun d=>?_) q3 q4
   rw [hB d]
   refine ⟨fun q=>q.imp id fun q=>?_,fun q=>q.imp id fun v3=>unE v3 fun b hb=>?_⟩
   ·refine unE (mem_keys q) fun v hv=>?_
    rw [vD] at hv
    refine unEA (Option.map_eq_some_iff.mp hv) fun b hb _=>?_
    walk_at "p"; exact ⟨b,hb⟩
   ·have hv:valueAt lk d=some (.ref b):=by rw [vD,hb]; rfl
    unfold valueAt at hv
    refine unEA (Option.map_eq_some_iff.mp hv) fun kv hkv _=>?_
    have h1:=List.find?_some hkv
    walk_at "p"; exact List.mem_map.mpr (inEA kv (List.mem_of_find?_eq_some hkv) (of_decide_eq_true h1))
 case fin =>
  intro G' m' sJ7 z3 FJ7; refine unEEAAAAA z3 fun o' l y5 sl bl ml q3 q4=>?_; clear z3; subst y5
  walk_at "r"
  walk_at "p"; refine h _ _ _ l hS (back _ _ _ FJ7) sl bl fun d=>?_
  rw [ml d,List.take_of_length_le (by exact a20 1537262790359 lenv)]
end
end
section
noncomputable def fx212:{ fd:FuncData // FdAt 212 fd }:=⟨_,fun P=>(inEEE _ _ _ (by k_is))⟩
noncomputable def fd212:FuncData:=fx212.1
section
variable {c:Cx} {O:List (Addr×Obj)} {L:Addr} {G:View} {m:Str→Option Value} {A:Around} {E:Value→Shared→Prop} {s:Shared} {n:Nat} {a b:Addr} {r q:Rep}
theorem key_mem {K:Type} [DecidableEq K] {kvs:List (K×Value)} {k:K} {v:Value} (h:valueAt kvs k=some v):k∈kvs.map (·.1):=by
 cases hm:decide (k∈kvs.map (·.1)) with
 | true=>exact of_decide_eq_true hm
 | false =>
  exfalso
  have hm:=of_decide_eq_false hm
  unfold valueAt at h
  refine unEA (Option.map_eq_some_iff.mp h) fun kv hkv _=>?_
  have h1:=List.find?_some hkv
  walk_at "p"; exact hm (List.mem_map.mpr (inEA kv (List.mem_of_find?_eq_some hkv) (of_decide_eq_true h1)))
theorem keys_take {K:Type} [DecidableEq K] {kvs:List (K×Value)} {i:Nat} {k:K} {v:Value} (h:kvs[i]?=some (k,v)):(kvs.take (i+1)).map (·.1)=(kvs.take i).map (·.1)++[k]:=by
 rw [List.take_add_one,h]; simp
theorem nfa_embed {Q:Value→Shared→Prop} (F:Fx c O L G m s) (R:Room A (n+1)) (hN:NfaAt c G a r) (hq:NfaAt c G b q) (hdis:∀ x,q.has b x→¬ r.has a x)
  (h:∀ s' G' r',Fx c O L G' m s'→NfaAt c G' a r'→Step G G' (r.has a) (r'.has a)→r'.ini=r.ini→r'.fin=r.fin→(r.full→q.full→r'.full)→(∀ s l d,r'.E s l d↔r.E s l d∨q.E s l d)→Q .none s') :
  wpAny (model c.prog c.w) A (call (.ref 212) [.ref a,.ref b] []) Q E s:=by
 refine unEEE (fx212.2 c.w.params) fun oc od osl ho=>?_
 refine enter F (fd:=fd212) (binds:=[("self",.ref a),("other",.ref b)]) ho rfl (by kernel_rfl) R.dl (BindsTo.of_eq rfl) rfl (by decide) (locs rfl) rfl rfl rfl fun sJ1 L' O' FJ1 back=>?_
 have R':=R.deeper (env:=cenv fd212 L' 212)
 generalize A.deeper (cenv fd212 L' 212)=A' at R' ⊢
 clear F
 refine unEEAA hq.tr fun oT tkv gT dT vT=>?_
 refine unEEAAAA hq.trAttr fun es k hdx e1 e2 y1 e4=>?_; refine unE y1 fun tk e3=>?_; clear y1
 walk_at "r"
 refine x_attr (v:=.ref q.T) FJ1 hq.inst hdx (by k_is) (by k_is) (by k_is) (by k_is) e1 rfl fun sJ2 FJ2=>?_
 clear FJ1
 refine x_bmethod FJ2 gT dT.1.1 dT.1.2.1 PySem.F.plainAttrs_dict PySem.F.slot_dict_items PySem.F.type_dict_items ?_
 walk_at "r"
 refine x_items FJ2 gT dT fun v sJ3 FJ3 hv=>?_
 clear FJ2
 have hvT:q.T≠v:=nns gT hv
 refine x_iter_items (kd:=kInt c) (d:=q.T) FJ3 (upd_self _ _ _) ((upd_ne hvT).trans gT) dT fun I sJ4 oI hI FJ4=>?_
 clear FJ3
 have FJ5:Fx c ((I,oI)::O') L' G _ sJ4:=FJ4.forget hv
 clear FJ4
 have keepQ:∀ {G':View} {R':Addr→Prop},Step G G' (r.has a) R'→NfaAt c G' b q:=fun {G' R'} st=>hq.mono (fun x o hx e=>st.keep x o e (hdis x hx)) (hN.tups st)
 refine x_forItems (kd:=kInt c) R'.handled FJ5 hI dT rfl rfl rfl (fun i G' m'=>∃ r',NfaAt c G' a r'∧Step G G' (r.has a) (r'.has a)∧r'.ini=r.ini∧r'.fin=r.fin∧(r.full→q.full→r'.full) ∧
   (∀ s l d,r'.E s l d↔r.E s l d∨(s∈(tkv.take i).map (·.1)∧q.E s l d))∧m' "self" = some (.ref a))
  (inEAAA r hN (Step.refl _ _) rfl (inAAA rfl (fun h _=>h) (fun s l d=>by simp) rfl)) (fun i G' m' v1=>unEAA v1 fun r' _ st _=>st.keep _ _ gT (hdis _ (.inr (.inr (.inl rfl))))) ?body ?fin
 case fin =>
  intro G' m' sJ5 z1 FJ6; refine unEAAA z1 fun r' N' st i' w8=>unAAA w8 fun f' fu hE _=>?_; clear w8; clear z1
  walk_at "r"
  walk_at "p"; refine h _ _ r' (back _ _ _ FJ6) N' st i' f' fu fun s l d=>?_
  rw [hE,List.take_of_length_le (Nat.le_refl _)]
  constructor
  ·walk_at "p"; exact fun p=>p.imp id And.right
  ·refine fun p=>p.imp id fun p=>⟨?_,p⟩
   refine unEA p fun x hx _=>?_; clear p
   refine unE (hq.sub _ _ _ hx) fun y hy=>?_
   have hv:valueAt tkv s=some (.ref y):=by rw [vT,hy]; rfl
   walk_at "p"; exact key_mem hv
 case body =>
  intro i sJ1' key val OJ2 G' m' sJ5 hkv hkey z2 FJ6 Qt hQt; refine unEAAA z2 fun r' N' st i' w9=>unAAA w9 fun f' fu hE hm1=>?_; clear w9; clear z2
  refine unE (Value.isInt_shape hkey) fun tkey y2=>?_; clear hkey; subst y2
  have hDq:∃ Dq,q.D sJ1'=some Dq∧val=.ref Dq:=by
   have:=valueAt_of_get dT.nodup hkv
   rw [vT] at this
   refine unEA (Option.map_eq_some_iff.mp this) fun D hD e=>?_
   walk_at "p"; exact ⟨D,hD,e.symm⟩
  obtain ⟨Dq,hDq,rfl⟩:=hDq
  obtain ⟨oDq,lkq,gDq,dDq,vDq⟩:=hq.inner sJ1' Dq hDq
  obtain ⟨es',k',hdx',e1',_⟩:=N'.trAttr
  walk_at "r"
  refine x_attr (v:=.ref r'.T) FJ6 N'.inst hdx' (by k_is) (by k_is) (by k_is) (by k_is) e1' rfl fun sJ6 FJ7=>?_
  clear FJ6
  obtain ⟨oT',tk',gT',dT',vT'⟩:=N'.tr
  refine x_bmethod FJ7 gT' dT'.1.1 dT'.1.2.1 PySem.F.plainAttrs_dict PySem.F.slot_dict_setdefault PySem.F.type_dict_setdefault ?_
  walk_at "r"
  refine x_dict0 FJ7 fun d sJ7 hd FJ8=>?_
  clear FJ7
  walk_at "r"
  refine x_state R'.in1 hd FJ8 N' (hq.bD _ _ hDq) fun sJ8 GJ8 rJ8 D FJ9 NJ8 stJ8 hD i8 f8 S8 ds8=>?_
  clear FJ8
  refine x_store FJ9 rfl rfl (let MJ9:=setL _ _ _; fun sJ9 (FJ10:Fx _ _ _ _ MJ9 sJ9)=>?_)
  clear FJ9
  walk_at "d"
  have st8:=st.trans stJ8
  have gDq8:=st8.keep _ _ gDq (hdis _ (.inr (.inr (.inr (.inr (.inl ⟨sJ1',hDq⟩))))))
  refine x_bmethod FJ10 gDq8 dDq.1.1 dDq.1.2.1 PySem.F.plainAttrs_dict PySem.F.slot_dict_items PySem.F.type_dict_items ?_
  walk_at "r"
  have dDq8:DictIs (kStr c) GJ8 oDq lkq:=dDq
  refine x_items FJ10 gDq8 dDq8 fun w sJ10 FJ11 hw=>?_
  clear FJ10
  have hvD:Dq≠w:=nns gDq8 hw
  refine x_iter_items (kd:=kStr c) (d:=Dq) FJ11 (upd_self _ _ _) ((upd_ne hvD).trans gDq8) dDq fun IJ2 sJ11 oIJ2 hIJ2 FJ12=>?_
  clear FJ11
  have FJ13:Fx c ((IJ2,oIJ2)::OJ2) L' GJ8 _ sJ11:=FJ12.forget hw
  clear FJ12
  have e8:∀ s l d,rJ8.E s l d↔r'.E s l d:=fun s l d=>by unfold Rep.E; rw [S8,ds8]
  refine x_forItems (kd:=kStr c) R'.handled FJ13 hIJ2 dDq8 rfl rfl rfl (fun j G'' m''=>∃ r'',NfaAt c G'' a r''∧Step G G'' (r.has a) (r''.has a)∧r''.ini=r.ini∧r''.fin=r.fin∧(r.full→q.full→r''.full) ∧
    (∀ s l d,r''.E s l d↔r'.E s l d∨(s=sJ1'∧l∈(lkq.take j).map (·.1)∧q.E s l d))∧r''.D sJ1'=some D∧m'' "self" = some (.ref a)∧m'' "trans" = some (.ref D))
   (inEAAA rJ8 NJ8 st8 (i8.trans i') (inAAAA (f8.trans f') (fun h1 h2=>(by intro s l x hx; rw [ds8]; rw [S8] at hx; exact fu h1 h2 s l x hx)) (fun s l d=>(by rw [e8]; simp)) hD (inA hm1 rfl)))
   (fun j G'' m'' v2=>unEAA v2 fun r'' _ st'' _=>st''.keep _ _ gDq (hdis _ (.inr (.inr (.inr (.inr (.inl ⟨sJ1',hDq⟩))))))) ?body2 ?fin2
  case fin2 =>
   intro G'' m'' sJ12 z3 FJ14; refine unEAAA z3 fun r'' N'' st'' i'' w10=>unAAAA w10 fun f'' fu'' hE'' hD'' w11=>unA w11 fun p1 p2=>?_; clear w10 w11; clear z3
   walk_at "r"
   refine (inAEEA rfl _ _ FJ14 (inEAAA r'' N'' st'' i'' (inAAA f'' fu'' (fun s l d=>?_) p1)))
   rw [hE'',hE,keys_take hkv,List.take_of_length_le (Nat.le_refl _),or_assoc]
   refine or_congr_right ?_
   rw [List.mem_append,List.mem_singleton]
   constructor
   ·rintro (⟨h1,h2⟩ | ⟨h1,h2,h3⟩)
    ·walk_at "p"; exact ⟨.inl h1,h2⟩
    ·walk_at "p"; exact ⟨.inr h1,h3⟩
   ·intro z4; obtain ⟨h1 | h1,h2⟩:=z4
    ·walk_at "p"; exact .inl ⟨h1,h2⟩
    ·refine .inr (inAA h1 ?_ h2)
     refine unEA h2 fun x hx _=>?_; clear h2
     (replace h1:=h1.symm; subst h1)
     walk_at "p"; exact key_mem (v:=.ref x) (by rw [vDq,hx]; rfl)
  case body2 =>
   intro j lJ1 keyJ2 valJ2 OJ3 G'' m'' sJ12 hkvJ2 hkeyJ2 z5 FJ14 Qt hQt; refine unEAAA z5 fun r'' N'' st'' i'' w12=>unAAAA w12 fun f'' fu'' hE'' hD'' w13=>unA w13 fun p1 p2=>?_; clear w12 w13; clear z5
   refine unE (Value.isStrOf_shape hkeyJ2) fun tkeyJ2 y3=>?_; clear hkeyJ2; subst y3
   have hSq:∃ Sq,q.S sJ1' lJ1=some Sq∧valJ2=.ref Sq:=by
    have:=valueAt_of_get dDq.nodup hkvJ2
    rw [vDq] at this
    refine unEA (Option.map_eq_some_iff.mp this) fun S hS e=>?_
    walk_at "p"; exact (inEA S hS e.symm)
   obtain ⟨Sq,hSq,rfl⟩:=hSq
   obtain ⟨oSq,gSq,sSq⟩:=hq.sets sJ1' lJ1 Sq hSq
   obtain ⟨oD,lk,gD,dD,vD⟩:=N''.inner sJ1' D hD''
   walk_at "r"
   refine x_bmethod FJ14 gD dD.1.1 dD.1.2.1 PySem.F.plainAttrs_dict PySem.F.slot_dict_setdefault PySem.F.type_dict_setdefault ?_
   walk_at "r"
   refine x_builtin FJ14 (by k_is) (v:=.type "set") rfl (by decide) rfl rfl rfl rfl rfl ?_
   refine callWith_type0 ?_
   refine x_set0 FJ14 fun B sJ13 oB hB FJ15 sB=>?_
   clear FJ14
   walk_at "r"
   refine x_label R'.in1 hB FJ15 (sB (kInt c)) N'' hD'' (hq.bS _ _ _ hSq).1 fun sJ14 GJ14 rJ14 S FJ16 NJ14 stJ14 hS i14 f14 D14 k14 E14=>?_
   clear FJ15
   refine x_store FJ16 rfl rfl (let MJ15:=setL _ _ _; fun sJ15 (FJ17:Fx _ _ _ _ MJ15 sJ15)=>?_)
   clear FJ16
   try dsimp only
   refine unEA (NJ14.sets sJ1' lJ1 S hS) fun oS gS sS=>?_
   have st14:=st''.trans stJ14
   have gSq14:=st14.keep _ _ gSq (hdis _ (.inr (.inr (.inr (.inr (.inr (inEE sJ1' lJ1 hSq)))))))
   walk_at "r"
   refine x_bmethod FJ17 gS sS.1.1 sS.1.2.1 PySem.F.plainAttrs_set PySem.F.slot_set_update PySem.F.type_set_update ?_
   walk_at "r"
   have hSSq:S≠Sq:=fun e=>by
    have h1:rJ14.has a S:=.inr (.inr (.inr (.inr (.inr (inEE sJ1' lJ1 hS)))))
    have h2:q.has b Sq:=.inr (.inr (.inr (.inr (.inr (inEE sJ1' lJ1 hSq)))))
    rcases st14.new S h1 with h3 | h3
    ·walk_at "p"; exact hdis Sq h2 (e▸h3)
    ·rw [e,gSq] at h3; exact snN h3
   have hl1:=NJ14.setLen hS sS
   have hl2:=hq.setLen hSq sSq
   refine x_update kdsInt (fun {G k v} h=>by refine unE (Value.isInt_shape h) fun t y4=>?_; clear h; subst y4; rfl) FJ17 R'.in1 gS sS gSq14 sSq hSSq (by exact a20 55806438334863824356506657786069661255414 hl1 hl2) fun sJ16 oS' l' FJ18 sS' hBo=>?_
   clear FJ17
   walk_at "r"
   have NJ16:=NJ14.setDs hS (fun y hy=>((hBo y).mp hy).elim ((NJ14.bS _ _ _ hS).2 y) ((hq.bS _ _ _ hSq).2 y)) gS sS.notTup sS'
   refine (inAEEA rfl _ _ FJ18 (inEAAA _ NJ16 (st14.trans (NfaAt.stepSet hS)) (i14.trans i'') (inAAAA (f14.trans f'') (fun h1 h2=>?_) (fun s l d=>?_) ?_ (inA p1 p2))))
   ·refine full_after (r:=r'') rfl rfl hS k14 ?_ (fu'' h1 h2)
    intro e
    have:=h2 _ _ _ hSq
    cases hds:q.ds sJ1' lJ1 with
    | nil=>exact this hds
    | cons y ys =>
     have:y∈l':=(hBo y).mpr (.inr (by rw [hds]; exact .head _))
     rw [e] at this; exact niP this
   ·rw [E_after (r:=r'') (P:=fun d=>d∈q.ds sJ1' lJ1) rfl rfl hS k14 E14 hBo,hE'',keys_take hkvJ2,or_assoc]
    refine or_congr_right ?_
    rw [List.mem_append,List.mem_singleton]
    constructor
    ·rintro (⟨h1,h2,h3⟩ | ⟨h1,h2,h3⟩)
     ·walk_at "p"; exact (inAA h1 (.inl h2) h3)
     ·walk_at "p"; exact (inAA h1 (.inr h2) (by rw [h1,h2]; exact (inEA Sq hSq h3)))
    ·intro z6; refine unAA z6 fun h1 y5 h3=>?_; clear z6; rcases y5 with h2 | h2
     ·walk_at "p"; exact .inl (inAA h1 h2 h3)
     ·refine .inr (inAA h1 h2 ?_)
      rw [h1,h2] at h3
      refine unEA h3 fun _ _ h3=>?_
      walk_at "p"; exact h3
   ·show rJ14.D sJ1'=some D
    rw [D14]; exact hD''
end
end
section
noncomputable def fx219:{ fd:FuncData // FdAt 219 fd }:=⟨_,fun P=>(inEEE _ _ _ (by k_is))⟩
noncomputable def fd219:FuncData:=fx219.1
section
variable {c:Cx} {O:List (Addr×Obj)} {L:Addr} {G:View} {m:Str→Option Value} {A:Around} {E:Value→Shared→Prop} {s:Shared} {n:Nat} {a b:Addr} {r q:Rep}
theorem nfa_insert {src dest:Int} {t1 t2:Tok} {Q:Value→Shared→Prop} (F:Fx c O L G m s) (R:Room A (n+2)) (hN:NfaAt c G a r) (hq:NfaAt c G b q) (hdis:∀ x,q.has b x→¬ r.has a x) (h1:0≤src∧src<100) (h2:0≤dest∧dest<100) (hini:0≤q.ini∧q.ini<100) (hfin:∀ f∈q.fin,0≤f∧f<100)
  (h:∀ s' G' r',Fx c O L G' m s'→NfaAt c G' a r'→Step G G' (r.has a) (r'.has a)→r'.ini=r.ini→r'.fin=r.fin→(r.full→q.full→r'.full) →
   (∀ s l d,r'.E s l d↔r.E s l d∨q.E s l d∨(s=src∧l=EPS∧d=q.ini)∨(s∈q.fin∧l=EPS∧d=dest))→Q .none s') :
  wpAny (model c.prog c.w) A (call (.ref 219) [.ref a,.int src t1,.ref b,.int dest t2] []) Q E s:=by
 refine unEEE (fx219.2 c.w.params) fun oc od osl ho=>?_
 refine enter F (fd:=fd219) (binds:=[("self",.ref a),("src",.int src t1),("other",.ref b),("dest",.int dest t2)]) ho rfl (by kernel_rfl) R.dl (BindsTo.of_eq rfl) rfl (by decide) (locs rfl) rfl rfl rfl fun sJ1 L' O' FJ1 back=>?_
 have R':=R.deeper (env:=cenv fd219 L' 219)
 generalize A.deeper (cenv fd219 L' 219)=A' at R' ⊢
 clear F
 have keepQ:∀ {G':View} {R':Addr→Prop},Step G G' (r.has a) R'→NfaAt c G' b q:=fun {G' R'} st=>hq.mono (fun x o hx e=>st.keep x o e (hdis x hx)) (hN.tups st)
 have meth:∀ {G':View} {r':Rep},NfaAt c G' a r'→∃ es k,G' r'.dx=some (dictOf es k)∧getL "embed" es=some none∧getL "add_transition" es=some none:=fun {G' r'} N=>by
  refine unEEEEE N.attrs fun u1 u2 u3 tk k e=>?_; exact (inEEAA _ k e rfl rfl)
 walk_at "r"
 refine unEEAA (meth hN) fun es k hdx m1 m2=>?_
 refine x_method FJ1 (C:=229) (f:=212) hN.inst hdx (by k_is) (by k_is) (by k_is) m1 ?_
 refine x_args FJ1 (by k_is) ?_
 walk_at "r"
 refine ⟨FJ1.K,?_⟩
 refine nfa_embed FJ1 R' hN hq hdis fun sJ2 GJ2 rJ2 FJ2 NJ2 stJ2 i2 f2 fu2 E2=>?_
 clear FJ1
 walk_at "d"
 refine unEEAA (meth NJ2) fun esJ2 kJ2 hdxJ2 m1J2 m2J2=>?_
 refine x_method FJ2 (C:=229) (f:=170) NJ2.inst hdxJ2 (by k_is) (by k_is) (by k_is) m2J2 ?_
 refine x_args FJ2 (by k_is) ?_
 walk_at "r"
 refine x_global FJ2 (by k_is) rfl rfl rfl rfl ?_
 walk_at "r"
 have QJ2:=keepQ stJ2
 refine unEEAAAA QJ2.trAttr fun eq kq hdq e1 e2 y1 e4=>?_; refine unE y1 fun tkq e3=>?_; clear y1
 refine x_attr (v:=.int q.ini tkq) FJ2 QJ2.inst hdq (by k_is) (by k_is) (by k_is) (by k_is) e3 rfl fun sJ3 FJ3=>?_
 clear FJ2
 walk_at "r"
 refine ⟨FJ3.K,?_⟩
 refine nfa_add_transition FJ3 R' NJ2 h1 hini (by decide) fun sJ4 GJ4 rJ4 FJ4 NJ4 stJ4 i4 f4 fu4 E4=>?_
 clear FJ3
 walk_at "r"
 have st4:=stJ2.trans stJ4
 have QJ4:=keepQ st4
 refine unEEAAAA QJ4.trAttr fun eq4 kq4 hdq4 e14 e24 _ _=>?_
 refine x_attr (v:=.ref q.Fs) FJ4 QJ4.inst hdq4 (by k_is) (by k_is) (by k_is) (by k_is) e24 rfl fun sJ5 FJ5=>?_
 clear FJ4
 refine unEA hq.fs fun oF gF0 sF=>?_
 have gFs:∀ {G':View} {R':Addr→Prop},Step G G' (r.has a) R'→G' q.Fs=some oF:=fun {G' R'} st=>st.keep _ _ gF0 (hdis _ (.inr (.inr (.inr (.inl rfl)))))
 refine x_iter_set (kd:=kInt c) FJ5 (gFs st4) sF fun I sJ6 oI X vs ks ok W hok z p FJ6=>?_
 clear FJ5
 have zi:IntsAre vs ks:=keysAre_ints.mp z
 have lenv:vs.length=ks.length:=z.length
 refine x_forLoop W R'.handled FJ6 hok rfl rfl (fun i G' m'=>∃ r',NfaAt c G' a r'∧Step G G' (r.has a) (r'.has a)∧r'.ini=r.ini∧r'.fin=r.fin∧(r.full→q.full→r'.full) ∧
   (∀ s l d,r'.E s l d↔r.E s l d∨q.E s l d∨(s=src∧l=EPS∧d=q.ini)∨(s∈ks.take i∧l=EPS∧d=dest))∧m' "self" = some (.ref a)∧m' "dest" = some (.int dest t2))
  (inEAAA rJ4 NJ4 st4 (i4.trans i2) (inAAAA (f4.trans f2) (fun x y=>fu4 (fu2 x y)) (fun s l d=>by rw [E4,E2,or_assoc]; simp [EPS]) rfl rfl)) (fun i G' m' v1=>unEAA v1 fun r' _ st _=>gFs st) ?body ?fin
 case body =>
  intro i w OJ2 G' m' sJ7 hi hw z1 FJ7 Qt hQt; refine unEAAA z1 fun r' N' st' i' w14=>unAAAA w14 fun f' fu' hE q1 q2=>?_; clear w14; clear z1
  obtain ⟨kJ1,hkJ1⟩:∃ k,ks[i]?=some k:=⟨ks[i]'(by exact a30 50429058295017810680 lenv hi),List.getElem?_eq_getElem (by exact a30 50429058295017810680 lenv hi)⟩
  have hwk:=z.get hw hkJ1
  refine unE (Value.isInt_shape hwk) fun tw y2=>?_; clear hw hwk; subst y2
  have htake:ks.take (i+1)=ks.take i++[kJ1]:=by rw [List.take_add_one,hkJ1]; rfl
  walk_at "r"
  refine unEEAA (meth N') fun esJ7 kJ7 hdxJ7 m1J7 m2J7=>?_
  refine x_method FJ7 (C:=229) (f:=170) N'.inst hdxJ7 (by k_is) (by k_is) (by k_is) m2J7 ?_
  refine x_args FJ7 (by k_is) ?_
  walk_at "r"
  refine x_global FJ7 (by k_is) rfl rfl rfl rfl ?_
  walk_at "r"
  refine ⟨FJ7.K,?_⟩
  refine nfa_add_transition FJ7 R' N' (hfin kJ1 (p.mem_iff.mp (List.mem_of_getElem? hkJ1))) h2 (by decide) fun sJ8 GJ8 rJ8 FJ8 NJ8 stJ8 i8 f8 fu8 E8=>?_
  clear FJ7
  walk_at "d"
  refine (inEEA _ _ FJ8 (inEAAA rJ8 NJ8 (st'.trans stJ8) (i8.trans i') (inAAAA (f8.trans f') (fun x y=>fu8 (fu' x y)) (fun s l d=>?_) q1 q2)))
  rw [E8,hE,htake,or_assoc,or_assoc,or_assoc]
  refine or_congr_right (or_congr_right (or_congr_right ?_))
  rw [List.mem_append,List.mem_singleton]
  constructor
  ·rintro (⟨x1,x2⟩ | ⟨x1,x2,x3⟩)
   ·walk_at "p"; exact ⟨.inl x1,x2⟩
   ·walk_at "p"; exact (inAA (.inr x1) x2 x3)
  ·intro z2; refine unAA z2 fun y3 x2 x3=>?_; clear z2; rcases y3 with x1 | x1
   ·walk_at "p"; exact .inl (inAA x1 x2 x3)
   ·walk_at "p"; exact .inr (inAA x1 x2 x3)
 case fin =>
  intro G' m' sJ7 z3 FJ7; refine unEAAA z3 fun r' N' st' i' w15=>unAAAA w15 fun f' fu' hE q1 q2=>?_; clear w15; clear z3
  walk_at "r"
  walk_at "p"; refine h _ _ r' (back _ _ _ FJ7) N' st' i' f' fu' fun s l d=>?_
  rw [hE,List.take_of_length_le (by exact a20 1537262790359 lenv),p.mem_iff]
end
end
section
noncomputable def fx372:{ fd:FuncData // FdAt 372 fd }:=⟨_,fun P=>(inEEE _ _ _ (by k_is))⟩
noncomputable def fd372:FuncData:=fx372.1
theorem NfaAt.meths {c:Cx} {G:View} {a:Addr} {r:Rep} (N:NfaAt c G a r):∃ es k,G r.dx=some (dictOf es k)∧getL "add_transition" es=some none∧getL "insert" es=some none∧getL "add_final_state" es=some none∧getL "start" es=some none∧getL "next_state" es=some none∧getL "is_final" es=some none∧getL "get_labels" es=some none∧getL "to_dfa" es=some none∧getL "accept" es=some none:=by
 refine unEEEEE N.attrs fun u1 u2 u3 tk k e=>?_; exact (inEEAAAAAAAA _ k e rfl rfl rfl rfl rfl rfl rfl (inA rfl rfl))
structure Made (c:Cx) (G G':View) (a:Addr) (r:Rep):Prop where
 le:Le G G'
 at_:NfaAt c G' a r
 new:∀ x,r.has a x→G x=none
theorem Made.step {c:Cx} {G G' G'':View} {a:Addr} {r r':Rep} (h:Made c G G' a r) (st:Step G' G'' (r.has a) (r'.has a)) (N:NfaAt c G'' a r'):Made c G G'' a r':=by
 refine ⟨fun x o e=>st.keep x o (h.le x o e) fun hx=>?_,N,fun x hx=>?_⟩
 ·rw [h.new x hx] at e; exact nnS e
 ·rcases st.new x hx with q | q
  ·walk_at "p"; exact h.new x q
  ·cases e:G x with
   | none=>rfl
   | some o=>rw [h.le x o e] at q; exact snN q
theorem Made.dis {c:Cx} {G G':View} {a b:Addr} {r q:Rep} (h:Made c G G' a r) (hq:NfaAt c G b q) (x:Addr) (hx:q.has b x):¬ r.has a x:=fun hr=>by
 refine unE (hq.known hx) fun o e=>?_
 rw [h.new x hr] at e; exact nnS e
theorem NfaAt.le {c:Cx} {G G':View} {a:Addr} {r:Rep} (h:NfaAt c G a r) (hl:Le G G'):NfaAt c G' a r:=h.mono (fun b o _ e=>hl b o e) hl.tups
theorem BuilderAt.le {c:Cx} {G G':View} {b d:Addr} {n:Int} (h:BuilderAt c G b d n) (hl:Le G G'):BuilderAt c G' b d n:=by
 refine unAEEE h fun h1 t tk k h2=>?_; clear h
 walk_at "p"; exact (inAEEE (hl _ _ h1) t tk k (hl _ _ h2))
theorem NfaAt.upd {c:Cx} {G:View} {a d:Addr} {r:Rep} {o:Obj} (h:NfaAt c G a r) (hd:¬ r.has a d) {o':Obj} (hg:G d=some o) (hn:o.cls≠.type "tuple"):NfaAt c (Mine.upd G d o') a r :=
 h.mono (fun x y hx e=>(upd_ne (fun q=>hd (by rw [← q]; exact hx))).trans e) (.upd hg hn)
section
variable {c:Cx} {O:List (Addr×Obj)} {L:Addr} {G:View} {m:Str→Option Value} {A:Around} {E:Value→Shared→Prop} {s:Shared} {n:Nat} {b d:Addr}
theorem BuilderAt.meth {k:Int} (h:BuilderAt c G b d k):∃ es n,G d=some (dictOf es n)∧getL "new_state" es=some none∧getL "epsilon" es=some none∧getL "star" es=some none∧getL "concat" es=some none∧getL "choice" es=some none:=by
 refine unAEEE h fun _ t tk k h2=>?_; clear h; exact (inEEAAAAA _ k h2 rfl rfl rfl rfl rfl)
theorem w_new_state {env:Env} {x:Str} {pos:Pos} {pl:Sem Bool} {k:Int} {Q:Unit→Shared→Prop} (F:Fx c O env.locals G m s) (R:Room A (n+1)) (hB:BuilderAt c G b d k) (hk:env.scope.kind=.function) (hl:env.kindOf x=some .local)
  (h:∀ s' o t,Fx c O env.locals (upd G d o) (setL m x (.int (k+1) t)) s'→BuilderAt c (upd G d o) b d (k+1)→Q () s') :
  wpAny (model c.prog c.w) A (getMethod (.ref b) "new_state" pl) (fun fx sJ2=>wpAny (model c.prog c.w) A (callWith pos fx.1 fx.2 (backTo pos (starEach [] env)) []) (fun v s'=>wpAny (model c.prog c.w) A (storeName env x v) Q E s') E sJ2) E s:=by
 refine unEEAA hB.meth fun es nJ1 hd m1 _=>?_
 refine x_method F (C:=424) (f:=358) hB.1 hd (by k_is) (by k_is) (by k_is) m1 ?_
 refine x_args0 F (by k_is) ?_
 refine new_state_spec F hB (by have:=R.depth; exact a30 1577234045334423602422 this) fun sJ2 oJ2 tkJ2 FJ2 BJ2=>?_
 walk_at "p"; exact x_store FJ2 hk hl fun sJ3 FJ3=>h sJ3 oJ2 tkJ2 FJ3 BJ2
theorem b_char {k:Int} {lab:Str} {tl:Tok} {Q:Value→Shared→Prop} (F:Fx c O L G m s) (R:Room A (n+3)) (hB:BuilderAt c G b d k) (hk:0≤k∧k<90) (hlab:lab∈Lab)
  (h:∀ s' GJ0 G' a r,Fx c O L G' m s'→(∃ o,GJ0=upd G d o)→Made c GJ0 G' a r→BuilderAt c G' b d (k+2)→r.ini=k+1→r.fin=[k+2]→r.full→(∀ s l t,r.E s l t↔s=k+1∧l=lab∧t=k+2)→Q (.ref a) s') :
  wpAny (model c.prog c.w) A (call (.ref 372) [.ref b,.str lab tl] []) Q E s:=by
 refine unEEE (fx372.2 c.w.params) fun oc od osl ho=>?_
 refine enter F (fd:=fd372) (binds:=[("self",.ref b),("label",.str lab tl)]) ho rfl (by kernel_rfl) R.dl (BindsTo.of_eq rfl) rfl (by decide) (locs rfl) rfl rfl rfl fun sJ1 L' O' FJ1 back=>?_
 have R':=R.deeper (env:=cenv fd372 L' 372)
 generalize A.deeper (cenv fd372 L' 372)=A' at R' ⊢
 clear F
 walk_at "r"
 refine w_new_state FJ1 R' hB rfl rfl fun sJ2 oJ2 tJ2=>let MJ2:=setL _ _ _; fun (FJ2:Fx _ _ _ _ MJ2 sJ2) BJ2=>?_
 clear FJ1
 walk_at "r"
 refine w_new_state FJ2 R' BJ2 rfl rfl fun sJ3 oJ3 tJ3=>let MJ3:=setL _ _ _; fun (FJ3:Fx _ _ _ _ MJ3 sJ3) BJ3=>?_
 clear FJ2
 rw [upd_upd] at FJ3 BJ3
 walk_at "r"
 refine x_global FJ3 (by k_is) rfl rfl rfl rfl ?_
 refine x_args FJ3 (by k_is) ?_
 walk_at "r"
 refine ⟨FJ3.K,?_⟩
 refine nfa_new FJ3 R' fun sJ4 GJ4 a rJ4 FJ4 NJ4 leJ4 newJ4 iniJ4 finJ4 fullJ4 EJ4=>?_
 clear FJ3
 have MJ4:Made c _ GJ4 a rJ4:=⟨leJ4,NJ4,newJ4⟩
 refine x_store FJ4 rfl rfl (let MJ5:=setL _ _ _; fun sJ5 (FJ5:Fx _ _ _ _ MJ5 sJ5)=>?_)
 clear FJ4
 walk_at "r"
 refine unEEAAAA NJ4.meths fun esJ5 kJ5 hdxJ5 ma mi mf _=>?_
 refine x_method FJ5 (C:=229) (f:=170) NJ4.inst hdxJ5 (by k_is) (by k_is) (by k_is) ma ?_
 refine x_args FJ5 (by k_is) ?_
 walk_at "r"
 refine ⟨FJ5.K,?_⟩
 refine nfa_add_transition FJ5 R' NJ4 (by exact kp1 ‹_›) (by exact kp2 ‹_›) hlab fun sJ6 GJ6 rJ6 FJ6 NJ6 stJ6 i6 f6 fu6 E6=>?_
 clear FJ5
 have MJ6:=MJ4.step stJ6 NJ6
 walk_at "d"
 refine unEEAAAA NJ6.meths fun esJ6 kJ6 hdxJ6 ma mi mf _=>?_
 refine x_method FJ6 (C:=229) (f:=177) NJ6.inst hdxJ6 (by k_is) (by k_is) (by k_is) mf ?_
 refine x_args FJ6 (by k_is) ?_
 walk_at "r"
 refine ⟨FJ6.K,?_⟩
 refine nfa_add_final FJ6 R' NJ6 (by rw [f6,finJ4]; decide) fun sJ7 GJ7 rJ7 FJ7 NJ7 stJ7 i7 f7 fu7 E7=>?_
 clear FJ6
 have MJ7:=MJ6.step stJ7 NJ7
 walk_at "d"
 walk_at "p"; refine h _ _ _ a rJ7 (back _ _ _ FJ7) ⟨_,rfl⟩ MJ7 ?_ ?_ ?_ (fu7 (fu6 fullJ4)) fun s l t=>?_
 ·have:=BJ3.le MJ7.le
  rwa [Int.add_assoc] at this
 ·rw [i7,i6,iniJ4]
 ·rw [f7,f6,finJ4,Int.add_assoc]; rfl
 ·rw [E7,E6]
  have:=EJ4 s l t
  constructor
  ·rintro (q | q)
   ·walk_at "p"; exact absurd q this
   ·rw [Int.add_assoc] at q; exact q
  ·intro q; right; rw [Int.add_assoc]; exact q
end
end
section
noncomputable def fx365:{ fd:FuncData // FdAt 365 fd }:=⟨_,fun P=>(inEEE _ _ _ (by k_is))⟩
noncomputable def fd365:FuncData:=fx365.1
section
variable {c:Cx} {O:List (Addr×Obj)} {L:Addr} {G:View} {m:Str→Option Value} {A:Around} {E:Value→Shared→Prop} {s:Shared} {n:Nat} {b d:Addr}
theorem b_epsilon {k:Int} {Q:Value→Shared→Prop} (F:Fx c O L G m s) (R:Room A (n+3)) (hB:BuilderAt c G b d k) (hk:0≤k∧k<90)
  (h:∀ s' GJ0 G' a r,Fx c O L G' m s'→(∃ o,GJ0=upd G d o)→Made c GJ0 G' a r→BuilderAt c G' b d (k+1+1)→r.ini=(k+1)→r.fin=[(k+1+1)]→(r.full)→(∀ x l y,r.E x l y↔(x=(k+1)∧l=EPS∧y=(k+1+1)))→Q (.ref a) s') :
  wpAny (model c.prog c.w) A (call (.ref 365) [.ref b] []) Q E s:=by
 refine unEEE (fx365.2 c.w.params) fun oc od osl ho=>?_
 refine enter F (fd:=fd365) (binds:=[("self",.ref b)]) ho rfl (by kernel_rfl) R.dl (BindsTo.of_eq rfl) rfl (by decide) (locs rfl) rfl rfl rfl fun sJ1 L' O' FJ1 back=>?_
 have R':=R.deeper (env:=cenv fd365 L' 365)
 generalize A.deeper (cenv fd365 L' 365)=A' at R' ⊢
 clear F
 refine unAEEE (id hB) fun hBb tB tkB kB gB=>?_
 walk_at "r"
 refine w_new_state FJ1 R' hB rfl rfl fun sJ2 oJ2 tJ2=>let MJ2:=setL _ _ _; fun (FJ2:Fx _ _ _ _ MJ2 sJ2) BJ2=>?_
 clear FJ1
 walk_at "r"
 refine w_new_state FJ2 R' BJ2 rfl rfl fun sJ3 oJ3 tJ3=>let MJ3:=setL _ _ _; fun (FJ3:Fx _ _ _ _ MJ3 sJ3) BJ3=>?_
 clear FJ2
 rw [upd_upd] at FJ3 BJ3
 walk_at "r"
 refine x_global FJ3 (by k_is) rfl rfl rfl rfl ?_
 refine x_args FJ3 (by k_is) ?_
 walk_at "r"
 refine ⟨FJ3.K,?_⟩
 refine nfa_new FJ3 R' fun sJ4 GJ4 a rJ4 FJ4 NJ4 leJ4 newJ4 iJ4 fJ4 fuJ4 EJ4=>?_
 clear FJ3
 have MJ4:Made c _ GJ4 a rJ4:=⟨leJ4,NJ4,newJ4⟩
 refine x_store FJ4 rfl rfl (let MJ5:=setL _ _ _; fun sJ5 (FJ5:Fx _ _ _ _ MJ5 sJ5)=>?_)
 clear FJ4
 walk_at "d"
 refine unEEAAAA NJ4.meths fun esJ6 kJ6 hdxJ6 ma mi mf _=>?_
 refine x_method FJ5 (C:=229) (f:=170) NJ4.inst hdxJ6 (by k_is) (by k_is) (by k_is) ma ?_
 refine x_args FJ5 (by k_is) ?_
 walk_at "r"
 refine x_global FJ5 (by k_is) rfl rfl rfl rfl ?_
 walk_at "r"
 refine ⟨FJ5.K,?_⟩
 refine nfa_add_transition FJ5 R' NJ4 (by exact kp1 ‹_›) (by exact kp2 ‹_›) (by decide) fun sJ6 GJ6 rJ6 FJ6 NJ6 stJ6 iJ6 fJ6 fuJ6 EJ6=>?_
 clear FJ5
 have MJ6:=MJ4.step stJ6 NJ6
 walk_at "d"
 refine unEEAAAA NJ6.meths fun esJ7 kJ7 hdxJ7 ma mi mf _=>?_
 refine x_method FJ6 (C:=229) (f:=177) NJ6.inst hdxJ7 (by k_is) (by k_is) (by k_is) mf ?_
 refine x_args FJ6 (by k_is) ?_
 walk_at "r"
 refine ⟨FJ6.K,?_⟩
 refine nfa_add_final FJ6 R' NJ6 (by rw [fJ6,fJ4]; decide) fun sJ7 GJ7 rJ7 FJ7 NJ7 stJ7 iJ7 fJ7 fuJ7 EJ7=>?_
 clear FJ6
 have MJ7:=MJ6.step stJ7 NJ7
 walk_at "d"
 walk_at "p"; refine h _ _ _ a rJ7 (back _ _ _ FJ7) ⟨_,rfl⟩ MJ7 (BJ3.le MJ7.le) (by rw [iJ7,iJ6,iJ4]) (by rw [fJ7,fJ6,fJ4]; rfl) ((fuJ7 (fuJ6 fuJ4))) fun x l y=>?_
 have hno:=EJ4 x l y
 rw [EJ7,EJ6]
 simp only [hno,false_or,or_assoc,EPS,ANY]
end
noncomputable def fx386:{ fd:FuncData // FdAt 386 fd }:=⟨_,fun P=>(inEEE _ _ _ (by k_is))⟩
noncomputable def fd386:FuncData:=fx386.1
section
variable {c:Cx} {O:List (Addr×Obj)} {L:Addr} {G:View} {m:Str→Option Value} {A:Around} {E:Value→Shared→Prop} {s:Shared} {n:Nat} {b d:Addr}
theorem b_dot {k:Int} {Q:Value→Shared→Prop} (F:Fx c O L G m s) (R:Room A (n+3)) (hB:BuilderAt c G b d k) (hk:0≤k∧k<90)
  (h:∀ s' GJ0 G' a r,Fx c O L G' m s'→(∃ o,GJ0=upd G d o)→Made c GJ0 G' a r→BuilderAt c G' b d (k+1+1)→r.ini=(k+1)→r.fin=[(k+1+1)]→(r.full)→(∀ x l y,r.E x l y↔(x=(k+1)∧l=ANY∧y=(k+1+1)))→Q (.ref a) s') :
  wpAny (model c.prog c.w) A (call (.ref 386) [.ref b] []) Q E s:=by
 refine unEEE (fx386.2 c.w.params) fun oc od osl ho=>?_
 refine enter F (fd:=fd386) (binds:=[("self",.ref b)]) ho rfl (by kernel_rfl) R.dl (BindsTo.of_eq rfl) rfl (by decide) (locs rfl) rfl rfl rfl fun sJ1 L' O' FJ1 back=>?_
 have R':=R.deeper (env:=cenv fd386 L' 386)
 generalize A.deeper (cenv fd386 L' 386)=A' at R' ⊢
 clear F
 refine unAEEE (id hB) fun hBb tB tkB kB gB=>?_
 walk_at "r"
 refine w_new_state FJ1 R' hB rfl rfl fun sJ2 oJ2 tJ2=>let MJ2:=setL _ _ _; fun (FJ2:Fx _ _ _ _ MJ2 sJ2) BJ2=>?_
 clear FJ1
 walk_at "r"
 refine w_new_state FJ2 R' BJ2 rfl rfl fun sJ3 oJ3 tJ3=>let MJ3:=setL _ _ _; fun (FJ3:Fx _ _ _ _ MJ3 sJ3) BJ3=>?_
 clear FJ2
 rw [upd_upd] at FJ3 BJ3
 walk_at "r"
 refine x_global FJ3 (by k_is) rfl rfl rfl rfl ?_
 refine x_args FJ3 (by k_is) ?_
 walk_at "r"
 refine ⟨FJ3.K,?_⟩
 refine nfa_new FJ3 R' fun sJ4 GJ4 a rJ4 FJ4 NJ4 leJ4 newJ4 iJ4 fJ4 fuJ4 EJ4=>?_
 clear FJ3
 have MJ4:Made c _ GJ4 a rJ4:=⟨leJ4,NJ4,newJ4⟩
 refine x_store FJ4 rfl rfl (let MJ5:=setL _ _ _; fun sJ5 (FJ5:Fx _ _ _ _ MJ5 sJ5)=>?_)
 clear FJ4
 walk_at "d"
 refine unEEAAAA NJ4.meths fun esJ6 kJ6 hdxJ6 ma mi mf _=>?_
 refine x_method FJ5 (C:=229) (f:=170) NJ4.inst hdxJ6 (by k_is) (by k_is) (by k_is) ma ?_
 refine x_args FJ5 (by k_is) ?_
 walk_at "r"
 refine x_global FJ5 (by k_is) rfl rfl rfl rfl ?_
 walk_at "r"
 refine ⟨FJ5.K,?_⟩
 refine nfa_add_transition FJ5 R' NJ4 (by exact kp1 ‹_›) (by exact kp2 ‹_›) (by decide) fun sJ6 GJ6 rJ6 FJ6 NJ6 stJ6 iJ6 fJ6 fuJ6 EJ6=>?_
 clear FJ5
 have MJ6:=MJ4.step stJ6 NJ6
 walk_at "d"
 refine unEEAAAA NJ6.meths fun esJ7 kJ7 hdxJ7 ma mi mf _=>?_
 refine x_method FJ6 (C:=229) (f:=177) NJ6.inst hdxJ7 (by k_is) (by k_is) (by k_is) mf ?_
 refine x_args FJ6 (by k_is) ?_
 walk_at "r"
 refine ⟨FJ6.K,?_⟩
 refine nfa_add_final FJ6 R' NJ6 (by rw [fJ6,fJ4]; decide) fun sJ7 GJ7 rJ7 FJ7 NJ7 stJ7 iJ7 fJ7 fuJ7 EJ7=>?_
 clear FJ6
 have MJ7:=MJ6.step stJ7 NJ7
 walk_at "d"
 walk_at "p"; refine h _ _ _ a rJ7 (back _ _ _ FJ7) ⟨_,rfl⟩ MJ7 (BJ3.le MJ7.le) (by rw [iJ7,iJ6,iJ4]) (by rw [fJ7,fJ6,fJ4]; rfl) ((fuJ7 (fuJ6 fuJ4))) fun x l y=>?_
 have hno:=EJ4 x l y
 rw [EJ7,EJ6]
 simp only [hno,false_or,or_assoc,EPS,ANY]
end
noncomputable def fx393:{ fd:FuncData // FdAt 393 fd }:=⟨_,fun P=>(inEEE _ _ _ (by k_is))⟩
noncomputable def fd393:FuncData:=fx393.1
section
variable {c:Cx} {O:List (Addr×Obj)} {L:Addr} {G:View} {m:Str→Option Value} {A:Around} {E:Value→Shared→Prop} {s:Shared} {n:Nat} {b d:Addr}
theorem b_choice {a1:Addr} {q1:Rep} {a2:Addr} {q2:Rep} {k:Int} {Q:Value→Shared→Prop} (F:Fx c O L G m s) (R:Room A (n+3)) (hB:BuilderAt c G b d k) (hk:0≤k∧k<90) (hq1:NfaAt c G a1 q1) (hnd1:¬ q1.has a1 d) (hi1:0≤q1.ini∧q1.ini<100) (hf1:∀ f∈q1.fin,0≤f∧f<100) (hq2:NfaAt c G a2 q2) (hnd2:¬ q2.has a2 d) (hi2:0≤q2.ini∧q2.ini<100) (hf2:∀ f∈q2.fin,0≤f∧f<100)
  (h:∀ s' GJ0 G' a r,Fx c O L G' m s'→(∃ o,GJ0=upd G d o)→Made c GJ0 G' a r→BuilderAt c G' b d (k+1+1+1+1+1+1)→r.ini=(k+1)→r.fin=[(k+1+1+1+1+1+1)]→(q1.full→q2.full→r.full)→(∀ x l y,r.E x l y↔(x=(k+1)∧l=EPS∧y=(k+1+1))∨(x=(k+1)∧l=EPS∧y=(k+1+1+1))∨q1.E x l y∨(x=(k+1+1)∧l=EPS∧y=q1.ini)∨(x∈q1.fin∧l=EPS∧y=(k+1+1+1+1))∨q2.E x l y∨(x=(k+1+1+1)∧l=EPS∧y=q2.ini)∨(x∈q2.fin∧l=EPS∧y=(k+1+1+1+1+1))∨(x=(k+1+1+1+1)∧l=EPS∧y=(k+1+1+1+1+1+1))∨(x=(k+1+1+1+1+1)∧l=EPS∧y=(k+1+1+1+1+1+1)))→Q (.ref a) s') :
  wpAny (model c.prog c.w) A (call (.ref 393) [.ref b,.ref a1,.ref a2] []) Q E s:=by
 refine unEEE (fx393.2 c.w.params) fun oc od osl ho=>?_
 refine enter F (fd:=fd393) (binds:=[("self",.ref b),("n1",.ref a1),("n2",.ref a2)]) ho rfl (by kernel_rfl) R.dl (BindsTo.of_eq rfl) rfl (by decide) (locs rfl) rfl rfl rfl fun sJ1 L' O' FJ1 back=>?_
 have R':=R.deeper (env:=cenv fd393 L' 393)
 generalize A.deeper (cenv fd393 L' 393)=A' at R' ⊢
 clear F
 refine unAEEE (id hB) fun hBb tB tkB kB gB=>?_
 walk_at "r"
 refine w_new_state FJ1 R' hB rfl rfl fun sJ2 oJ2 tJ2=>let MJ2:=setL _ _ _; fun (FJ2:Fx _ _ _ _ MJ2 sJ2) BJ2=>?_
 clear FJ1
 walk_at "r"
 refine w_new_state FJ2 R' BJ2 rfl rfl fun sJ3 oJ3 tJ3=>let MJ3:=setL _ _ _; fun (FJ3:Fx _ _ _ _ MJ3 sJ3) BJ3=>?_
 clear FJ2
 rw [upd_upd] at FJ3 BJ3
 walk_at "r"
 refine w_new_state FJ3 R' BJ3 rfl rfl fun sJ4 oJ4 tJ4=>let MJ4:=setL _ _ _; fun (FJ4:Fx _ _ _ _ MJ4 sJ4) BJ4=>?_
 clear FJ3
 rw [upd_upd] at FJ4 BJ4
 walk_at "r"
 refine w_new_state FJ4 R' BJ4 rfl rfl fun sJ5 oJ5 tJ5=>let MJ5:=setL _ _ _; fun (FJ5:Fx _ _ _ _ MJ5 sJ5) BJ5=>?_
 clear FJ4
 rw [upd_upd] at FJ5 BJ5
 walk_at "r"
 refine w_new_state FJ5 R' BJ5 rfl rfl fun sJ6 oJ6 tJ6=>let MJ6:=setL _ _ _; fun (FJ6:Fx _ _ _ _ MJ6 sJ6) BJ6=>?_
 clear FJ5
 rw [upd_upd] at FJ6 BJ6
 walk_at "r"
 refine w_new_state FJ6 R' BJ6 rfl rfl fun sJ7 oJ7 tJ7=>let MJ7:=setL _ _ _; fun (FJ7:Fx _ _ _ _ MJ7 sJ7) BJ7=>?_
 clear FJ6
 rw [upd_upd] at FJ7 BJ7
 have hu1:=hq1.upd (o':=oJ7) hnd1 gB (by intro q; exact absurd (show Value.type "dict" = Value.type "tuple" from q) (by decide))
 have hu2:=hq2.upd (o':=oJ7) hnd2 gB (by intro q; exact absurd (show Value.type "dict" = Value.type "tuple" from q) (by decide))
 walk_at "r"
 refine x_global FJ7 (by k_is) rfl rfl rfl rfl ?_
 refine x_args FJ7 (by k_is) ?_
 walk_at "r"
 refine ⟨FJ7.K,?_⟩
 refine nfa_new FJ7 R' fun sJ8 GJ8 a rJ8 FJ8 NJ8 leJ8 newJ8 iJ8 fJ8 fuJ8 EJ8=>?_
 clear FJ7
 have MJ8:Made c _ GJ8 a rJ8:=⟨leJ8,NJ8,newJ8⟩
 refine x_store FJ8 rfl rfl (let MJ9:=setL _ _ _; fun sJ9 (FJ9:Fx _ _ _ _ MJ9 sJ9)=>?_)
 clear FJ8
 walk_at "d"
 refine unEEAAAA NJ8.meths fun esJ10 kJ10 hdxJ10 ma mi mf _=>?_
 refine x_method FJ9 (C:=229) (f:=170) NJ8.inst hdxJ10 (by k_is) (by k_is) (by k_is) ma ?_
 refine x_args FJ9 (by k_is) ?_
 walk_at "r"
 refine x_global FJ9 (by k_is) rfl rfl rfl rfl ?_
 walk_at "r"
 refine ⟨FJ9.K,?_⟩
 refine nfa_add_transition FJ9 R' NJ8 (by exact kp1 ‹_›) (by exact kp2 ‹_›) (by decide) fun sJ10 GJ10 rJ10 FJ10 NJ10 stJ10 iJ10 fJ10 fuJ10 EJ10=>?_
 clear FJ9
 have MJ10:=MJ8.step stJ10 NJ10
 walk_at "d"
 refine unEEAAAA NJ10.meths fun esJ11 kJ11 hdxJ11 ma mi mf _=>?_
 refine x_method FJ10 (C:=229) (f:=170) NJ10.inst hdxJ11 (by k_is) (by k_is) (by k_is) ma ?_
 refine x_args FJ10 (by k_is) ?_
 walk_at "r"
 refine x_global FJ10 (by k_is) rfl rfl rfl rfl ?_
 walk_at "r"
 refine ⟨FJ10.K,?_⟩
 refine nfa_add_transition FJ10 R' NJ10 (by exact kp1 ‹_›) (by exact kp3 ‹_›) (by decide) fun sJ11 GJ11 rJ11 FJ11 NJ11 stJ11 iJ11 fJ11 fuJ11 EJ11=>?_
 clear FJ10
 have MJ11:=MJ10.step stJ11 NJ11
 walk_at "d"
 refine unEEAAAA NJ11.meths fun esJ12 kJ12 hdxJ12 ma mi mf _=>?_
 have QJ12:=hu1.le MJ11.le
 refine x_method FJ11 (C:=229) (f:=219) NJ11.inst hdxJ12 (by k_is) (by k_is) (by k_is) mi ?_
 refine x_args FJ11 (by k_is) ?_
 walk_at "r"
 refine ⟨FJ11.K,?_⟩
 refine nfa_insert FJ11 R' NJ11 QJ12 (fun x hx=>MJ11.dis hu1 x hx) (by exact kp2 ‹_›) (by exact kp4 ‹_›) hi1 hf1 fun sJ12 GJ12 rJ12 FJ12 NJ12 stJ12 iJ12 fJ12 fuJ12 EJ12=>?_
 clear FJ11
 have MJ12:=MJ11.step stJ12 NJ12
 walk_at "d"
 refine unEEAAAA NJ12.meths fun esJ13 kJ13 hdxJ13 ma mi mf _=>?_
 have QJ13:=hu2.le MJ12.le
 refine x_method FJ12 (C:=229) (f:=219) NJ12.inst hdxJ13 (by k_is) (by k_is) (by k_is) mi ?_
 refine x_args FJ12 (by k_is) ?_
 walk_at "r"
 refine ⟨FJ12.K,?_⟩
 refine nfa_insert FJ12 R' NJ12 QJ13 (fun x hx=>MJ12.dis hu2 x hx) (by exact kp3 ‹_›) (by exact kp5 ‹_›) hi2 hf2 fun sJ13 GJ13 rJ13 FJ13 NJ13 stJ13 iJ13 fJ13 fuJ13 EJ13=>?_
 clear FJ12
 have MJ13:=MJ12.step stJ13 NJ13
 walk_at "d"
 refine unEEAAAA NJ13.meths fun esJ14 kJ14 hdxJ14 ma mi mf _=>?_
 refine x_method FJ13 (C:=229) (f:=170) NJ13.inst hdxJ14 (by k_is) (by k_is) (by k_is) ma ?_
 refine x_args FJ13 (by k_is) ?_
 walk_at "r"
 refine x_global FJ13 (by k_is) rfl rfl rfl rfl ?_
 walk_at "r"
 refine ⟨FJ13.K,?_⟩
 refine nfa_add_transition FJ13 R' NJ13 (by exact kp4 ‹_›) (by exact kp6 ‹_›) (by decide) fun sJ14 GJ14 rJ14 FJ14 NJ14 stJ14 iJ14 fJ14 fuJ14 EJ14=>?_
 clear FJ13
 have MJ14:=MJ13.step stJ14 NJ14
 walk_at "d"
 refine unEEAAAA NJ14.meths fun esJ15 kJ15 hdxJ15 ma mi mf _=>?_
 refine x_method FJ14 (C:=229) (f:=170) NJ14.inst hdxJ15 (by k_is) (by k_is) (by k_is) ma ?_
 refine x_args FJ14 (by k_is) ?_
 walk_at "r"
 refine x_global FJ14 (by k_is) rfl rfl rfl rfl ?_
 walk_at "r"
 refine ⟨FJ14.K,?_⟩
 refine nfa_add_transition FJ14 R' NJ14 (by exact kp5 ‹_›) (by exact kp6 ‹_›) (by decide) fun sJ15 GJ15 rJ15 FJ15 NJ15 stJ15 iJ15 fJ15 fuJ15 EJ15=>?_
 clear FJ14
 have MJ15:=MJ14.step stJ15 NJ15
 walk_at "d"
 refine unEEAAAA NJ15.meths fun esJ16 kJ16 hdxJ16 ma mi mf _=>?_
 refine x_method FJ15 (C:=229) (f:=177) NJ15.inst hdxJ16 (by k_is) (by k_is) (by k_is) mf ?_
 refine x_args FJ15 (by k_is) ?_
 walk_at "r"
 refine ⟨FJ15.K,?_⟩
 refine nfa_add_final FJ15 R' NJ15 (by rw [fJ15,fJ14,fJ13,fJ12,fJ11,fJ10,fJ8]; decide) fun sJ16 GJ16 rJ16 FJ16 NJ16 stJ16 iJ16 fJ16 fuJ16 EJ16=>?_
 clear FJ15
 have MJ16:=MJ15.step stJ16 NJ16
 walk_at "d"
 walk_at "p"; refine h _ _ _ a rJ16 (back _ _ _ FJ16) ⟨_,rfl⟩ MJ16 (BJ7.le MJ16.le) (by rw [iJ16,iJ15,iJ14,iJ13,iJ12,iJ11,iJ10,iJ8]) (by rw [fJ16,fJ15,fJ14,fJ13,fJ12,fJ11,fJ10,fJ8]; rfl) (fun g1 g2=>(fuJ16 (fuJ15 (fuJ14 (fuJ13 (fuJ12 (fuJ11 (fuJ10 fuJ8)) g1) g2))))) fun x l y=>?_
 have hno:=EJ8 x l y
 rw [EJ16,EJ15,EJ14,EJ13,EJ12,EJ11,EJ10]
 simp only [hno,false_or,or_assoc,EPS,ANY]
end
noncomputable def fx400:{ fd:FuncData // FdAt 400 fd }:=⟨_,fun P=>(inEEE _ _ _ (by k_is))⟩
noncomputable def fd400:FuncData:=fx400.1
section
variable {c:Cx} {O:List (Addr×Obj)} {L:Addr} {G:View} {m:Str→Option Value} {A:Around} {E:Value→Shared→Prop} {s:Shared} {n:Nat} {b d:Addr}
theorem b_concat {a1:Addr} {q1:Rep} {a2:Addr} {q2:Rep} {k:Int} {Q:Value→Shared→Prop} (F:Fx c O L G m s) (R:Room A (n+3)) (hB:BuilderAt c G b d k) (hk:0≤k∧k<90) (hq1:NfaAt c G a1 q1) (hnd1:¬ q1.has a1 d) (hi1:0≤q1.ini∧q1.ini<100) (hf1:∀ f∈q1.fin,0≤f∧f<100) (hq2:NfaAt c G a2 q2) (hnd2:¬ q2.has a2 d) (hi2:0≤q2.ini∧q2.ini<100) (hf2:∀ f∈q2.fin,0≤f∧f<100)
  (h:∀ s' GJ0 G' a r,Fx c O L G' m s'→(∃ o,GJ0=upd G d o)→Made c GJ0 G' a r→BuilderAt c G' b d (k+1+1+1)→r.ini=(k+1)→r.fin=[(k+1+1+1)]→(q1.full→q2.full→r.full)→(∀ x l y,r.E x l y↔q1.E x l y∨(x=(k+1)∧l=EPS∧y=q1.ini)∨(x∈q1.fin∧l=EPS∧y=(k+1+1))∨q2.E x l y∨(x=(k+1+1)∧l=EPS∧y=q2.ini)∨(x∈q2.fin∧l=EPS∧y=(k+1+1+1)))→Q (.ref a) s') :
  wpAny (model c.prog c.w) A (call (.ref 400) [.ref b,.ref a1,.ref a2] []) Q E s:=by
 refine unEEE (fx400.2 c.w.params) fun oc od osl ho=>?_
 refine enter F (fd:=fd400) (binds:=[("self",.ref b),("n1",.ref a1),("n2",.ref a2)]) ho rfl (by kernel_rfl) R.dl (BindsTo.of_eq rfl) rfl (by decide) (locs rfl) rfl rfl rfl fun sJ1 L' O' FJ1 back=>?_
 have R':=R.deeper (env:=cenv fd400 L' 400)
 generalize A.deeper (cenv fd400 L' 400)=A' at R' ⊢
 clear F
 refine unAEEE (id hB) fun hBb tB tkB kB gB=>?_
 walk_at "r"
 refine w_new_state FJ1 R' hB rfl rfl fun sJ2 oJ2 tJ2=>let MJ2:=setL _ _ _; fun (FJ2:Fx _ _ _ _ MJ2 sJ2) BJ2=>?_
 clear FJ1
 walk_at "r"
 refine w_new_state FJ2 R' BJ2 rfl rfl fun sJ3 oJ3 tJ3=>let MJ3:=setL _ _ _; fun (FJ3:Fx _ _ _ _ MJ3 sJ3) BJ3=>?_
 clear FJ2
 rw [upd_upd] at FJ3 BJ3
 walk_at "r"
 refine w_new_state FJ3 R' BJ3 rfl rfl fun sJ4 oJ4 tJ4=>let MJ4:=setL _ _ _; fun (FJ4:Fx _ _ _ _ MJ4 sJ4) BJ4=>?_
 clear FJ3
 rw [upd_upd] at FJ4 BJ4
 have hu1:=hq1.upd (o':=oJ4) hnd1 gB (by intro q; exact absurd (show Value.type "dict" = Value.type "tuple" from q) (by decide))
 have hu2:=hq2.upd (o':=oJ4) hnd2 gB (by intro q; exact absurd (show Value.type "dict" = Value.type "tuple" from q) (by decide))
 walk_at "r"
 refine x_global FJ4 (by k_is) rfl rfl rfl rfl ?_
 refine x_args FJ4 (by k_is) ?_
 walk_at "r"
 refine ⟨FJ4.K,?_⟩
 refine nfa_new FJ4 R' fun sJ5 GJ5 a rJ5 FJ5 NJ5 leJ5 newJ5 iJ5 fJ5 fuJ5 EJ5=>?_
 clear FJ4
 have MJ5:Made c _ GJ5 a rJ5:=⟨leJ5,NJ5,newJ5⟩
 refine x_store FJ5 rfl rfl (let MJ6:=setL _ _ _; fun sJ6 (FJ6:Fx _ _ _ _ MJ6 sJ6)=>?_)
 clear FJ5
 walk_at "d"
 refine unEEAAAA NJ5.meths fun esJ7 kJ7 hdxJ7 ma mi mf _=>?_
 have QJ7:=hu1.le MJ5.le
 refine x_method FJ6 (C:=229) (f:=219) NJ5.inst hdxJ7 (by k_is) (by k_is) (by k_is) mi ?_
 refine x_args FJ6 (by k_is) ?_
 walk_at "r"
 refine ⟨FJ6.K,?_⟩
 refine nfa_insert FJ6 R' NJ5 QJ7 (fun x hx=>MJ5.dis hu1 x hx) (by exact kp1 ‹_›) (by exact kp2 ‹_›) hi1 hf1 fun sJ7 GJ7 rJ7 FJ7 NJ7 stJ7 iJ7 fJ7 fuJ7 EJ7=>?_
 clear FJ6
 have MJ7:=MJ5.step stJ7 NJ7
 walk_at "d"
 refine unEEAAAA NJ7.meths fun esJ8 kJ8 hdxJ8 ma mi mf _=>?_
 have QJ8:=hu2.le MJ7.le
 refine x_method FJ7 (C:=229) (f:=219) NJ7.inst hdxJ8 (by k_is) (by k_is) (by k_is) mi ?_
 refine x_args FJ7 (by k_is) ?_
 walk_at "r"
 refine ⟨FJ7.K,?_⟩
 refine nfa_insert FJ7 R' NJ7 QJ8 (fun x hx=>MJ7.dis hu2 x hx) (by exact kp2 ‹_›) (by exact kp3 ‹_›) hi2 hf2 fun sJ8 GJ8 rJ8 FJ8 NJ8 stJ8 iJ8 fJ8 fuJ8 EJ8=>?_
 clear FJ7
 have MJ8:=MJ7.step stJ8 NJ8
 walk_at "d"
 refine unEEAAAA NJ8.meths fun esJ9 kJ9 hdxJ9 ma mi mf _=>?_
 refine x_method FJ8 (C:=229) (f:=177) NJ8.inst hdxJ9 (by k_is) (by k_is) (by k_is) mf ?_
 refine x_args FJ8 (by k_is) ?_
 walk_at "r"
 refine ⟨FJ8.K,?_⟩
 refine nfa_add_final FJ8 R' NJ8 (by rw [fJ8,fJ7,fJ5]; decide) fun sJ9 GJ9 rJ9 FJ9 NJ9 stJ9 iJ9 fJ9 fuJ9 EJ9=>?_
 clear FJ8
 have MJ9:=MJ8.step stJ9 NJ9
 walk_at "d"
 walk_at "p"; refine h _ _ _ a rJ9 (back _ _ _ FJ9) ⟨_,rfl⟩ MJ9 (BJ4.le MJ9.le) (by rw [iJ9,iJ8,iJ7,iJ5]) (by rw [fJ9,fJ8,fJ7,fJ5]; rfl) (fun g1 g2=>(fuJ9 (fuJ8 (fuJ7 fuJ5 g1) g2))) fun x l y=>?_
 have hno:=EJ5 x l y
 rw [EJ9,EJ8,EJ7]
 simp only [hno,false_or,or_assoc,EPS,ANY]
end
noncomputable def fx407:{ fd:FuncData // FdAt 407 fd }:=⟨_,fun P=>(inEEE _ _ _ (by k_is))⟩
noncomputable def fd407:FuncData:=fx407.1
section
variable {c:Cx} {O:List (Addr×Obj)} {L:Addr} {G:View} {m:Str→Option Value} {A:Around} {E:Value→Shared→Prop} {s:Shared} {n:Nat} {b d:Addr}
theorem b_star {a1:Addr} {q1:Rep} {k:Int} {Q:Value→Shared→Prop} (F:Fx c O L G m s) (R:Room A (n+3)) (hB:BuilderAt c G b d k) (hk:0≤k∧k<90) (hq1:NfaAt c G a1 q1) (hnd1:¬ q1.has a1 d) (hi1:0≤q1.ini∧q1.ini<100) (hf1:∀ f∈q1.fin,0≤f∧f<100)
  (h:∀ s' GJ0 G' a r,Fx c O L G' m s'→(∃ o,GJ0=upd G d o)→Made c GJ0 G' a r→BuilderAt c G' b d (k+1+1+1+1)→r.ini=(k+1)→r.fin=[(k+1+1+1+1)]→(q1.full→r.full)→(∀ x l y,r.E x l y↔(x=(k+1)∧l=EPS∧y=(k+1+1))∨(x=(k+1)∧l=EPS∧y=(k+1+1+1+1))∨q1.E x l y∨(x=(k+1+1)∧l=EPS∧y=q1.ini)∨(x∈q1.fin∧l=EPS∧y=(k+1+1+1))∨(x=(k+1+1+1)∧l=EPS∧y=(k+1+1))∨(x=(k+1+1+1)∧l=EPS∧y=(k+1+1+1+1)))→Q (.ref a) s') :
  wpAny (model c.prog c.w) A (call (.ref 407) [.ref b,.ref a1] []) Q E s:=by
 refine unEEE (fx407.2 c.w.params) fun oc od osl ho=>?_
 refine enter F (fd:=fd407) (binds:=[("self",.ref b),("n",.ref a1)]) ho rfl (by kernel_rfl) R.dl (BindsTo.of_eq rfl) rfl (by decide) (locs rfl) rfl rfl rfl fun sJ1 L' O' FJ1 back=>?_
 have R':=R.deeper (env:=cenv fd407 L' 407)
 generalize A.deeper (cenv fd407 L' 407)=A' at R' ⊢
 clear F
 refine unAEEE (id hB) fun hBb tB tkB kB gB=>?_
 walk_at "r"
 refine w_new_state FJ1 R' hB rfl rfl fun sJ2 oJ2 tJ2=>let MJ2:=setL _ _ _; fun (FJ2:Fx _ _ _ _ MJ2 sJ2) BJ2=>?_
 clear FJ1
 walk_at "r"
 refine w_new_state FJ2 R' BJ2 rfl rfl fun sJ3 oJ3 tJ3=>let MJ3:=setL _ _ _; fun (FJ3:Fx _ _ _ _ MJ3 sJ3) BJ3=>?_
 clear FJ2
 rw [upd_upd] at FJ3 BJ3
 walk_at "r"
 refine w_new_state FJ3 R' BJ3 rfl rfl fun sJ4 oJ4 tJ4=>let MJ4:=setL _ _ _; fun (FJ4:Fx _ _ _ _ MJ4 sJ4) BJ4=>?_
 clear FJ3
 rw [upd_upd] at FJ4 BJ4
 walk_at "r"
 refine w_new_state FJ4 R' BJ4 rfl rfl fun sJ5 oJ5 tJ5=>let MJ5:=setL _ _ _; fun (FJ5:Fx _ _ _ _ MJ5 sJ5) BJ5=>?_
 clear FJ4
 rw [upd_upd] at FJ5 BJ5
 have hu1:=hq1.upd (o':=oJ5) hnd1 gB (by intro q; exact absurd (show Value.type "dict" = Value.type "tuple" from q) (by decide))
 walk_at "r"
 refine x_global FJ5 (by k_is) rfl rfl rfl rfl ?_
 refine x_args FJ5 (by k_is) ?_
 walk_at "r"
 refine ⟨FJ5.K,?_⟩
 refine nfa_new FJ5 R' fun sJ6 GJ6 a rJ6 FJ6 NJ6 leJ6 newJ6 iJ6 fJ6 fuJ6 EJ6=>?_
 clear FJ5
 have MJ6:Made c _ GJ6 a rJ6:=⟨leJ6,NJ6,newJ6⟩
 refine x_store FJ6 rfl rfl (let MJ7:=setL _ _ _; fun sJ7 (FJ7:Fx _ _ _ _ MJ7 sJ7)=>?_)
 clear FJ6
 walk_at "d"
 refine unEEAAAA NJ6.meths fun esJ8 kJ8 hdxJ8 ma mi mf _=>?_
 refine x_method FJ7 (C:=229) (f:=170) NJ6.inst hdxJ8 (by k_is) (by k_is) (by k_is) ma ?_
 refine x_args FJ7 (by k_is) ?_
 walk_at "r"
 refine x_global FJ7 (by k_is) rfl rfl rfl rfl ?_
 walk_at "r"
 refine ⟨FJ7.K,?_⟩
 refine nfa_add_transition FJ7 R' NJ6 (by exact kp1 ‹_›) (by exact kp2 ‹_›) (by decide) fun sJ8 GJ8 rJ8 FJ8 NJ8 stJ8 iJ8 fJ8 fuJ8 EJ8=>?_
 clear FJ7
 have MJ8:=MJ6.step stJ8 NJ8
 walk_at "d"
 refine unEEAAAA NJ8.meths fun esJ9 kJ9 hdxJ9 ma mi mf _=>?_
 refine x_method FJ8 (C:=229) (f:=170) NJ8.inst hdxJ9 (by k_is) (by k_is) (by k_is) ma ?_
 refine x_args FJ8 (by k_is) ?_
 walk_at "r"
 refine x_global FJ8 (by k_is) rfl rfl rfl rfl ?_
 walk_at "r"
 refine ⟨FJ8.K,?_⟩
 refine nfa_add_transition FJ8 R' NJ8 (by exact kp1 ‹_›) (by exact kp4 ‹_›) (by decide) fun sJ9 GJ9 rJ9 FJ9 NJ9 stJ9 iJ9 fJ9 fuJ9 EJ9=>?_
 clear FJ8
 have MJ9:=MJ8.step stJ9 NJ9
 walk_at "d"
 refine unEEAAAA NJ9.meths fun esJ10 kJ10 hdxJ10 ma mi mf _=>?_
 have QJ10:=hu1.le MJ9.le
 refine x_method FJ9 (C:=229) (f:=219) NJ9.inst hdxJ10 (by k_is) (by k_is) (by k_is) mi ?_
 refine x_args FJ9 (by k_is) ?_
 walk_at "r"
 refine ⟨FJ9.K,?_⟩
 refine nfa_insert FJ9 R' NJ9 QJ10 (fun x hx=>MJ9.dis hu1 x hx) (by exact kp2 ‹_›) (by exact kp3 ‹_›) hi1 hf1 fun sJ10 GJ10 rJ10 FJ10 NJ10 stJ10 iJ10 fJ10 fuJ10 EJ10=>?_
 clear FJ9
 have MJ10:=MJ9.step stJ10 NJ10
 walk_at "d"
 refine unEEAAAA NJ10.meths fun esJ11 kJ11 hdxJ11 ma mi mf _=>?_
 refine x_method FJ10 (C:=229) (f:=170) NJ10.inst hdxJ11 (by k_is) (by k_is) (by k_is) ma ?_
 refine x_args FJ10 (by k_is) ?_
 walk_at "r"
 refine x_global FJ10 (by k_is) rfl rfl rfl rfl ?_
 walk_at "r"
 refine ⟨FJ10.K,?_⟩
 refine nfa_add_transition FJ10 R' NJ10 (by exact kp3 ‹_›) (by exact kp2 ‹_›) (by decide) fun sJ11 GJ11 rJ11 FJ11 NJ11 stJ11 iJ11 fJ11 fuJ11 EJ11=>?_
 clear FJ10
 have MJ11:=MJ10.step stJ11 NJ11
 walk_at "d"
 refine unEEAAAA NJ11.meths fun esJ12 kJ12 hdxJ12 ma mi mf _=>?_
 refine x_method FJ11 (C:=229) (f:=170) NJ11.inst hdxJ12 (by k_is) (by k_is) (by k_is) ma ?_
 refine x_args FJ11 (by k_is) ?_
 walk_at "r"
 refine x_global FJ11 (by k_is) rfl rfl rfl rfl ?_
 walk_at "r"
 refine ⟨FJ11.K,?_⟩
 refine nfa_add_transition FJ11 R' NJ11 (by exact kp3 ‹_›) (by exact kp4 ‹_›) (by decide) fun sJ12 GJ12 rJ12 FJ12 NJ12 stJ12 iJ12 fJ12 fuJ12 EJ12=>?_
 clear FJ11
 have MJ12:=MJ11.step stJ12 NJ12
 walk_at "d"
 refine unEEAAAA NJ12.meths fun esJ13 kJ13 hdxJ13 ma mi mf _=>?_
 refine x_method FJ12 (C:=229) (f:=177) NJ12.inst hdxJ13 (by k_is) (by k_is) (by k_is) mf ?_
 refine x_args FJ12 (by k_is) ?_
 walk_at "r"
 refine ⟨FJ12.K,?_⟩
 refine nfa_add_final FJ12 R' NJ12 (by rw [fJ12,fJ11,fJ10,fJ9,fJ8,fJ6]; decide) fun sJ13 GJ13 rJ13 FJ13 NJ13 stJ13 iJ13 fJ13 fuJ13 EJ13=>?_
 clear FJ12
 have MJ13:=MJ12.step stJ13 NJ13
 walk_at "d"
 walk_at "p"; refine h _ _ _ a rJ13 (back _ _ _ FJ13) ⟨_,rfl⟩ MJ13 (BJ5.le MJ13.le) (by rw [iJ13,iJ12,iJ11,iJ10,iJ9,iJ8,iJ6]) (by rw [fJ13,fJ12,fJ11,fJ10,fJ9,fJ8,fJ6]; rfl) (fun g1=>(fuJ13 (fuJ12 (fuJ11 (fuJ10 (fuJ9 (fuJ8 fuJ6)) g1))))) fun x l y=>?_
 have hno:=EJ6 x l y
 rw [EJ13,EJ12,EJ11,EJ10,EJ9,EJ8]
 simp only [hno,false_or,or_assoc,EPS,ANY]
end
end
section
noncomputable def fx414:{ fd:FuncData // FdAt 414 fd }:=⟨_,fun P=>(inEEE _ _ _ (by k_is))⟩
noncomputable def fd414:FuncData:=fx414.1
noncomputable def fx421:{ fd:FuncData // FdAt 421 fd }:=⟨_,fun P=>(inEEE _ _ _ (by k_is))⟩
noncomputable def fd421:FuncData:=fx421.1
noncomputable def IsEps (k:Int) (r:Rep):Prop:=r.ini=k+1∧r.fin=[k+1+1]∧r.full∧∀ x l y,r.E x l y↔(x=k+1∧l=EPS∧y=k+1+1)
noncomputable def IsStar (k:Int) (q r:Rep):Prop:=r.ini=k+1∧r.fin=[k+1+1+1+1]∧(q.full→r.full)∧∀ x l y,r.E x l y↔(x=(k+1)∧l=EPS∧y=(k+1+1))∨(x=(k+1)∧l=EPS∧y=(k+1+1+1+1)) ∨
 q.E x l y∨(x=(k+1+1)∧l=EPS∧y=q.ini)∨(x∈q.fin∧l=EPS∧y=(k+1+1+1))∨(x=(k+1+1+1)∧l=EPS∧y=(k+1+1))∨(x=(k+1+1+1)∧l=EPS∧y=(k+1+1+1+1))
noncomputable def IsConcat (k:Int) (q1 q2 r:Rep):Prop:=r.ini=k+1∧r.fin=[k+1+1+1]∧(q1.full→q2.full→r.full)∧∀ x l y,r.E x l y↔q1.E x l y∨(x=(k+1)∧l=EPS∧y=q1.ini)∨(x∈q1.fin∧l=EPS∧y=(k+1+1)) ∨
 q2.E x l y∨(x=(k+1+1)∧l=EPS∧y=q2.ini)∨(x∈q2.fin∧l=EPS∧y=(k+1+1+1))
noncomputable def IsChoice (k:Int) (q1 q2 r:Rep):Prop:=r.ini=k+1∧r.fin=[k+1+1+1+1+1+1]∧(q1.full→q2.full→r.full)∧∀ x l y,r.E x l y↔(x=(k+1)∧l=EPS∧y=(k+1+1))∨(x=(k+1)∧l=EPS∧y=(k+1+1+1)) ∨
 q1.E x l y∨(x=(k+1+1)∧l=EPS∧y=q1.ini)∨(x∈q1.fin∧l=EPS∧y=(k+1+1+1+1)) ∨
 q2.E x l y∨(x=(k+1+1+1)∧l=EPS∧y=q2.ini)∨(x∈q2.fin∧l=EPS∧y=(k+1+1+1+1+1)) ∨
 (x=(k+1+1+1+1)∧l=EPS∧y=(k+1+1+1+1+1+1))∨(x=(k+1+1+1+1+1)∧l=EPS∧y=(k+1+1+1+1+1+1))
theorem Made.over {c:Cx} {G GJ1 G':View} {a d:Addr} {r:Rep} {o o' od:Obj} (hd:G d=some od) (hl:Le (upd G d o) GJ1) (M:Made c (upd GJ1 d o') G' a r):Made c (upd G d o') G' a r:=by
 refine ⟨fun x y e=>?_,M.at_,fun x hx=>?_⟩
 ·refine M.le x y ?_
  by_cases q:x=d
  ·(replace q:=q.symm; subst q); rw [upd_self] at e ⊢; exact e
  ·rw [upd_ne q] at e ⊢; exact hl x y ((upd_ne q).trans e)
 ·have:=M.new x hx
  by_cases q:x=d
  ·(replace q:=q.symm; clear hx; subst q); rw [upd_self] at this; exact snN this
  ·rw [upd_ne q] at this ⊢
   cases e:G x with
   | none=>rfl
   | some y=>rw [hl x y ((upd_ne q).trans e)] at this; exact snN this
section
variable {c:Cx} {O:List (Addr×Obj)} {L:Addr} {G:View} {m:Str→Option Value} {A:Around} {E:Value→Shared→Prop} {s:Shared} {n:Nat} {b d:Addr}
theorem b_plus {a1:Addr} {q1:Rep} {k:Int} {Q:Value→Shared→Prop} (F:Fx c O L G m s) (R:Room A (n+4)) (hB:BuilderAt c G b d k) (hk:0≤k∧k<80) (hq1:NfaAt c G a1 q1) (hnd1:¬ q1.has a1 d) (hi1:0≤q1.ini∧q1.ini<100) (hf1:∀ f∈q1.fin,0≤f∧f<100)
  (h:∀ s' GJ0 G' a r rJ2,Fx c O L G' m s'→(∃ o,GJ0=upd G d o)→Made c GJ0 G' a r→BuilderAt c G' b d (k+1+1+1+1+1+1+1)→IsStar k q1 rJ2→IsConcat (k+1+1+1+1) q1 rJ2 r→Q (.ref a) s') :
  wpAny (model c.prog c.w) A (call (.ref 414) [.ref b,.ref a1] []) Q E s:=by
 refine unEEE (fx414.2 c.w.params) fun oc od osl ho=>?_
 refine enter F (fd:=fd414) (binds:=[("self",.ref b),("n",.ref a1)]) ho rfl (by kernel_rfl) R.dl (BindsTo.of_eq rfl) rfl (by decide) (locs rfl) rfl rfl rfl fun sJ1 L' O' FJ1 back=>?_
 have R':=R.deeper (env:=cenv fd414 L' 414)
 generalize A.deeper (cenv fd414 L' 414)=A' at R' ⊢
 clear F
 walk_at "r"
 refine unEEAAAAA hB.meth fun es nJ1 gd m1 m2 m3 m4 m5=>?_
 refine x_method FJ1 (C:=424) (f:=400) hB.1 gd (by k_is) (by k_is) (by k_is) m4 ?_
 refine x_args FJ1 (by k_is) ?_
 walk_at "r"
 refine x_method FJ1 (C:=424) (f:=407) hB.1 gd (by k_is) (by k_is) (by k_is) m3 ?_
 refine x_args FJ1 (by k_is) ?_
 walk_at "r"
 refine ⟨FJ1.K,?_⟩
 refine b_star FJ1 R' hB (by exact kq ‹_›) hq1 hnd1 hi1 hf1 fun sJ2 GJ0 GJ2 aJ2 rJ2 FJ2 hGJ0 MJ2 BJ2 iJ2 fJ2 fuJ2 EJ2=>?_
 clear FJ1
 refine unE hGJ0 fun oJ0 y1=>?_; clear hGJ0; subst y1
 walk_at "r"
 refine ⟨FJ2.K,?_⟩
 have hu:=(hq1.upd (o':=oJ0) hnd1 gd (by intro q; exact absurd (show Value.type "dict" = Value.type "tuple" from q) (by decide))).le MJ2.le
 have hnd2:¬ rJ2.has aJ2 d:=fun q=>by have:=MJ2.new d q; rw [upd_self] at this; exact snN this
 refine b_concat FJ2 R' BJ2 (by exact kt ‹_›) hu hnd1 hi1 hf1 MJ2.at_ hnd2 (by rw [iJ2]; exact ⟨a01 1678060951740102 hk.1,a01 1856913020423180553812182262 hk.2⟩) (fun f hf=>by rw [fJ2,List.mem_singleton] at hf; exact ⟨a02 60458517529006247547769534332646 hk.1 hf,a02 66902342294698106486243348280102906125979927 hk.2 hf⟩) fun sJ3 GJ1 GJ3 aJ3 rJ3 FJ3 hGJ1 MJ3 BJ3 iJ3 fJ3 fuJ3 EJ3=>?_
 clear FJ2
 refine unE hGJ1 fun oJ1 y2=>?_; clear hGJ1; subst y2
 walk_at "p"; exact h _ _ _ aJ3 rJ3 rJ2 (back _ _ _ FJ3) ⟨oJ1,rfl⟩ (MJ3.over gd MJ2.le) BJ3 (inAAA iJ2 fJ2 fuJ2 EJ2) (inAAA iJ3 fJ3 fuJ3 EJ3)
theorem b_question {a1:Addr} {q1:Rep} {k:Int} {Q:Value→Shared→Prop} (F:Fx c O L G m s) (R:Room A (n+4)) (hB:BuilderAt c G b d k) (hk:0≤k∧k<80) (hq1:NfaAt c G a1 q1) (hnd1:¬ q1.has a1 d) (hi1:0≤q1.ini∧q1.ini<100) (hf1:∀ f∈q1.fin,0≤f∧f<100)
  (h:∀ s' GJ0 G' a r rJ2,Fx c O L G' m s'→(∃ o,GJ0=upd G d o)→Made c GJ0 G' a r→BuilderAt c G' b d (k+1+1+1+1+1+1+1+1)→IsEps k rJ2→IsChoice (k+1+1) q1 rJ2 r→Q (.ref a) s') :
  wpAny (model c.prog c.w) A (call (.ref 421) [.ref b,.ref a1] []) Q E s:=by
 refine unEEE (fx421.2 c.w.params) fun oc od osl ho=>?_
 refine enter F (fd:=fd421) (binds:=[("self",.ref b),("n",.ref a1)]) ho rfl (by kernel_rfl) R.dl (BindsTo.of_eq rfl) rfl (by decide) (locs rfl) rfl rfl rfl fun sJ1 L' O' FJ1 back=>?_
 have R':=R.deeper (env:=cenv fd421 L' 421)
 generalize A.deeper (cenv fd421 L' 421)=A' at R' ⊢
 clear F
 walk_at "r"
 refine unEEAAAAA hB.meth fun es nJ1 gd m1 m2 m3 m4 m5=>?_
 refine x_method FJ1 (C:=424) (f:=393) hB.1 gd (by k_is) (by k_is) (by k_is) m5 ?_
 refine x_args FJ1 (by k_is) ?_
 walk_at "r"
 refine x_method FJ1 (C:=424) (f:=365) hB.1 gd (by k_is) (by k_is) (by k_is) m2 ?_
 refine x_args0 FJ1 (by k_is) ?_
 refine b_epsilon FJ1 R' hB (by exact kq ‹_›) fun sJ2 GJ0 GJ2 aJ2 rJ2 FJ2 hGJ0 MJ2 BJ2 iJ2 fJ2 fuJ2 EJ2=>?_
 clear FJ1
 refine unE hGJ0 fun oJ0 y3=>?_; clear hGJ0; subst y3
 walk_at "r"
 refine ⟨FJ2.K,?_⟩
 have hu:=(hq1.upd (o':=oJ0) hnd1 gd (by intro q; exact absurd (show Value.type "dict" = Value.type "tuple" from q) (by decide))).le MJ2.le
 have hnd2:¬ rJ2.has aJ2 d:=fun q=>by have:=MJ2.new d q; rw [upd_self] at this; exact snN this
 refine b_choice FJ2 R' BJ2 (by exact ku ‹_›) hu hnd1 hi1 hf1 MJ2.at_ hnd2 (by rw [iJ2]; exact ⟨a01 1678060951740102 hk.1,a01 1856913020423180553812182262 hk.2⟩) (fun f hf=>by rw [fJ2,List.mem_singleton] at hf; exact ⟨a02 57657735375410339120201446 hk.1 hf,a02 63803045553873163687008599875726184727 hk.2 hf⟩) fun sJ3 GJ1 GJ3 aJ3 rJ3 FJ3 hGJ1 MJ3 BJ3 iJ3 fJ3 fuJ3 EJ3=>?_
 clear FJ2
 refine unE hGJ1 fun oJ1 y4=>?_; clear hGJ1; subst y4
 walk_at "p"; exact h _ _ _ aJ3 rJ3 rJ2 (back _ _ _ FJ3) ⟨oJ1,rfl⟩ (MJ3.over gd MJ2.le) BJ3 (inAAA iJ2 fJ2 fuJ2 EJ2) (inAAA iJ3 fJ3 fuJ3 EJ3)
end
end
section
structure DRep (K:Type) where
 dx:Addr
 T:Addr
 Df:Addr
 Fs:Addr
 ini:K
 fin:List K
 D:K→Option Addr
 nx:K→Str→Option K
 df:K→Option K
 U:List K
noncomputable def DRep.has {K:Type} (r:DRep K) (a b:Addr):Prop:=b=a∨b=r.dx∨b=r.T∨b=r.Df∨b=r.Fs∨∃ k,r.D k=some b
noncomputable def OptIs {c:Cx} {K:Type} [DecidableEq K] (kd:Kd c K) (G:View):Option Value→Option K→Prop
 | none,none=>True
 | some v,some k=>kd.is G k v
 | _,_=>False
theorem OptIs.up {c:Cx} {K:Type} [DecidableEq K] {kd:Kd c K} {G G':View} {x:Option Value} {y:Option K} (h:OptIs kd G x y) (t:Tups G G'):OptIs kd G' x y:=by
 cases x <;> cases y <;> first | exact h | exact kd.up h t
structure DfaAt (c:Cx) {K:Type} [DecidableEq K] (kd:Kd c K) (G:View) (a:Addr) (r:DRep K):Prop where
 inst:G a=some (instObj 327 r.dx)
 attrs:∃ t1 t2 t3 t4 t5 vi w k,G r.dx=some (dictOf [ent c "initial" t1 vi,ent c "transitions" t2 (.ref r.T),ent c "defaults" t3 (.ref r.Df),ent c "final_states" t4 (.ref r.Fs),ent c "outlabels" t5 w] k)∧kd.is G r.ini vi∧handedIn vi=true
 tr:∃ o tk,G r.T=some o∧DictIs kd G o tk∧∀ k,valueAt tk k=(r.D k).map .ref
 dfs:∃ o dk,G r.Df=some o∧DictIs kd G o dk∧∀ k,OptIs kd G (valueAt dk k) (r.df k)
 fs:∃ o,G r.Fs=some o∧SetIs kd G o r.fin
 inner:∀ k b,r.D k=some b→∃ o lk,G b=some o∧DictIs (kStr c) G o lk∧∀ l,OptIs kd G (valueAt lk l) (r.nx k l)
 sub:∀ k l k',r.nx k l=some k'→∃ b,r.D k=some b
 dxT:r.dx≠r.T
 dxDf:r.dx≠r.Df
 TDf:r.T≠r.Df
 dxD:∀ k,r.D k≠some r.dx
 TD:∀ k,r.D k≠some r.T
 DfD:∀ k,r.D k≠some r.Df
 DD:∀ k k' b,r.D k=some b→r.D k'=some b→k=k'
 bD:∀ k b,r.D k=some b→k∈r.U
 bd:∀ k k',r.df k=some k'→k∈r.U
 bF:∀ k∈r.fin,k∈r.U
 bl:∀ k l k',r.nx k l=some k'→l∈Lab
 bU:r.U.length≤200
section
variable {c:Cx} {K:Type} [DecidableEq K] {kd:Kd c K} {G G':View} {a b:Addr} {r:DRep K} {o o':Obj}
theorem DfaAt.known {x:Addr} (h:DfaAt c kd G a r) (hx:r.has a x):∃ o,G x=some o∧o.cls≠.type "tuple" := by
 rcases hx with rfl | rfl | rfl | rfl | rfl | ⟨k,e⟩
 ·exact (inEA _ h.inst (by intro q; cases q))
 ·refine unEEEEEEEEA h.attrs fun _ _ _ _ _ _ _ _ e _=>?_; exact (inEA _ e (by intro q; exact absurd (show Value.type "dict" = Value.type "tuple" from q) (by decide)))
 ·refine unEEAA h.tr fun o _ e d _=>?_; exact (inEA o e d.notTup)
 ·refine unEEAA h.dfs fun o _ e d _=>?_; exact (inEA o e d.notTup)
 ·refine unEA h.fs fun o e d=>?_; exact (inEA o e d.notTup)
 ·refine unEEAA (h.inner k x e) fun o _ e' d _=>?_; exact (inEA o e' d.notTup)
theorem DfaAt.notHas (h:DfaAt c kd G a r) (hb:G b=none):¬ r.has a b:=fun hr=>by refine unEA (h.known hr) fun o e _=>?_; rw [hb] at e; cases e
theorem DfaAt.mono (h:DfaAt c kd G a r) (hk:∀ b o,r.has a b→G b=some o→G' b=some o) (ht:Tups G G'):DfaAt c kd G' a r:=by
 refine ⟨hk _ _ (.inl rfl) h.inst,?_,?_,?_,?_,fun k x e=>?_,h.sub,h.dxT,h.dxDf,h.TDf,h.dxD,h.TD,h.DfD,h.DD,h.bD,h.bd,h.bF,h.bl,h.bU⟩
 ·refine unEEEEEEEEAA h.attrs fun t1 t2 t3 t4 t5 vi w k e hi hh=>?_; exact (inEEEEEEEEAA t1 t2 t3 t4 t5 vi w k (hk _ _ (.inr (.inl rfl)) e) (kd.up hi ht) hh)
 ·refine unEEAA h.tr fun o tk e dd v=>?_; exact (inEEAA o tk (hk _ _ (.inr (.inr (.inl rfl))) e) (dd.up ht) v)
 ·refine unEEAA h.dfs fun o tk e dd v=>?_; exact (inEEAA o tk (hk _ _ (.inr (.inr (.inr (.inl rfl)))) e) (dd.up ht) (fun k=>(v k).up ht))
 ·refine unEA h.fs fun o e ss=>?_; exact (inEA o (hk _ _ (.inr (.inr (.inr (.inr (.inl rfl))))) e) (ss.up ht))
 ·refine unEEAA (h.inner k x e) fun o lk e' dd v=>?_; exact (inEEAA o lk (hk _ _ (.inr (.inr (.inr (.inr (.inr ⟨k,e⟩))))) e') (dd.up ht) (fun l=>(v l).up ht))
theorem DfaAt.tups {R':Addr→Prop} (h:DfaAt c kd G a r) (st:Step G G' (r.has a) R'):Tups G G':=fun x o e t=>st.keep x o e fun hx=>by
 refine unEA (h.known hx) fun o' e' hn=>?_
 rw [e] at e'; cases e'; exact hn t
theorem DfaAt.alloc {o:Obj} (h:DfaAt c kd G a r) (hb:G b=none):DfaAt c kd (upd G b o) a r :=
 h.mono (fun x y hx e=>(upd_ne (fun q:x=b=>h.notHas hb (by rw [← q]; exact hx))).trans e) (.push hb)
theorem DfaAt.trLen (h:DfaAt c kd G a r) {o:Obj} {tk:List (K×Value)} (hD:DictIs kd G o tk) (hv:∀ k,valueAt tk k=(r.D k).map .ref):tk.length≤200:=by
 have:=nodup_len hD.nodup (l':=r.U) fun k hk=>by
  refine unE (mem_keys hk) fun v hv'=>?_
  rw [hv] at hv'
  refine unEA (Option.map_eq_some_iff.mp hv') fun b hb _=>?_
  exact h.bD k b hb
 have h2:=h.bU
 rw [List.length_map] at this; exact a20 52912034708079145666869626872086 this h2
theorem OptIs.some_iff {x:Option Value} {y:Option K} {v:Value} (h:OptIs kd G x y) (hx:x=some v):∃ k,y=some k∧kd.is G k v:=by
 subst hx
 cases y with
 | none=>exact h.elim
 | some k=>exact (inEA k rfl h)
theorem DfaAt.dfLen (h:DfaAt c kd G a r) {o:Obj} {dk:List (K×Value)} (hD:DictIs kd G o dk) (hv:∀ k,OptIs kd G (valueAt dk k) (r.df k)):dk.length≤200:=by
 have:=nodup_len hD.nodup (l':=r.U) fun k hk=>by
  refine unE (mem_keys hk) fun v hv'=>?_
  refine unEA ((hv k).some_iff hv') fun k' hk' _=>?_
  exact h.bd k k' hk'
 have h2:=h.bU
 rw [List.length_map] at this; exact a20 52912034708079145666869626872086 this h2
theorem DfaAt.inLen (h:DfaAt c kd G a r) {k:K} {o:Obj} {lk:List (Str×Value)} (hD:DictIs (kStr c) G o lk) (hv:∀ l,OptIs kd G (valueAt lk l) (r.nx k l)):lk.length≤5:=by
 have:=nodup_len hD.nodup (l':=Lab) fun l hl=>by
  refine unE (mem_keys hl) fun v hv'=>?_
  refine unEA ((hv l).some_iff hv') fun k' hk' _=>?_
  exact h.bl k l k' hk'
 simpa [Lab] using this
theorem DfaAt.finLen (h:DfaAt c kd G a r) {o:Obj} (hS:SetIs kd G o r.fin):r.fin.length≤200:=by
 have:=nodup_len hS.nodup h.bF
 have h2:=h.bU
 exact a20 52912034708079145666869626872086 this h2
theorem obj_ne {x y:Addr} {ox oy:Obj} (hx:G x=some ox) (hy:G y=some oy) (h:ox.cls≠oy.cls):x≠y:=fun e=>by rw [e,hy] at hx; clear hy; cases hx; exact h rfl
noncomputable def DRep.addState (r:DRep K) (src:K) (b:Addr):DRep K:={ r with D:=fun k=>if k=src then some b else r.D k }
theorem DfaAt.addState {tk:List (K×Value)} {oB:Obj} {src:K} (h:DfaAt c kd G a r) (hD:r.D src=none) (hU:src∈r.U) (hb:¬ r.has a b) (hB:G b=some oB) (hBd:DictIs (kStr c) G oB []) (hv:∀ s,valueAt tk s=(r.D s).map .ref)
  (hg:G r.T=some o) (hod:o.cls=.type "dict") (hT':DictIs kd (upd G r.T o') o' (tk++[(src,.ref b)])):DfaAt c kd (upd G r.T o') a (r.addState src b):=by
 have hn:o.cls≠.type "tuple" := by rw [hod]; decide
 have hup:Tups G (upd G r.T o'):=.upd hg hn
 have at_:∀ {x:Addr} {y:Obj},x≠r.T→G x=some y→upd G r.T o' x=some y:=fun hx e=>(upd_ne hx).trans e
 have hbT:b≠r.T:=fun e=>hb (.inr (.inr (.inl e)))
 have Dcase:∀ {s x},(r.addState src b).D s=some x→(s=src∧x=b)∨r.D s=some x:=fun {s x} e=>by
  unfold DRep.addState at e
  dsimp only at e
  split at e
  ·rename_i hs; cases e; exact .inl ⟨hs,rfl⟩
  ·exact .inr e
 have nxn:∀ l,r.nx src l=none:=fun l=>by
  cases e:r.nx src l with
  | none=>rfl
  | some k'=>refine unE (h.sub _ _ _ e) fun x hx=>?_; rw [hD] at hx; exact nnS hx
 refine ⟨at_ (obj_ne h.inst hg (by rw [hod]; intro q; cases q)) h.inst,?_,(inEEAA o' (tk++[(src,.ref b)]) (upd_self _ _ _) hT' (fun s=>?_)),?_,?_,fun s x e=>?_,fun s l x e=>?_,h.dxT,h.dxDf,h.TDf,fun s e=>?_,fun s e=>?_,fun s e=>?_,fun s s' x e e'=>?_,fun s x e=>?_,h.bd,h.bF,h.bl,h.bU⟩
 ·refine unEEEEEEEEAA h.attrs fun t1 t2 t3 t4 t5 vi w k e hi hh=>?_
  exact (inEEEEEEEEAA t1 t2 t3 t4 t5 vi w k (at_ h.dxT e) (kd.up hi hup) hh)
 ·rw [valueAt_push (by rw [hv,hD]; rfl)]
  unfold DRep.addState
  dsimp only
  split
  ·rfl
  ·exact hv s
 ·refine unEEAA h.dfs fun o2 dk g2 d2 v2=>?_
  exact (inEEAA o2 dk (at_ h.TDf.symm g2) (d2.up hup) (fun k=>(v2 k).up hup))
 ·refine unEA h.fs fun o2 g2 s2=>?_
  exact (inEA o2 (at_ (obj_ne g2 hg (by rw [hod,s2.1.1]; decide)) g2) (s2.up hup))
 ·rcases Dcase e with ⟨rfl,rfl⟩ | e
  ·refine (inEEAA oB ([]) (at_ hbT hB) (hBd.up hup) (fun l=>?_))
   show OptIs kd _ none (r.nx s l)
   rw [nxn]; trivial
  ·refine unEEAA (h.inner s x e) fun o2 lk g2 d2 v2=>?_
   exact (inEEAA o2 lk (at_ (fun q=>h.TD s (q▸e)) g2) (d2.up hup) (fun l=>(v2 l).up hup))
 ·refine unE (h.sub s l x e) fun d hd=>?_
  by_cases hs:s=src
  ·(replace hs:=hs.symm; clear e; subst hs); rw [hD] at hd; exact nnS hd
  ·exact ⟨d,by show (if s=src then _ else _)=_; rw [if_neg hs]; exact hd⟩
 ·rcases Dcase e with ⟨_,q⟩ | e
  ·exact hb (.inr (.inl q.symm))
  ·exact h.dxD s e
 ·rcases Dcase e with ⟨_,q⟩ | e
  ·exact hbT q.symm
  ·exact h.TD s e
 ·rcases Dcase e with ⟨_,q⟩ | e
  ·exact hb (.inr (.inr (.inr (.inl q.symm))))
  ·exact h.DfD s e
 ·rcases Dcase e with ⟨q1,q2⟩ | e <;> rcases Dcase e' with ⟨q1',q2'⟩ | e'
  ·rw [q1,q1']
  ·exact absurd (show r.has a b from .inr (.inr (.inr (.inr (.inr ⟨s',by rw [e',q2]⟩))))) hb
  ·exact absurd (show r.has a b from .inr (.inr (.inr (.inr (.inr ⟨s,by rw [e,q2']⟩))))) hb
  ·exact h.DD s s' x e e'
 ·rcases Dcase e with ⟨rfl,_⟩ | e
  ·exact hU
  ·exact h.bD s x e
theorem valueAt_stored {kvs:List (K×Value)} {k:K} {v:Value} (k':K):valueAt (stored kvs k v) k'=if k'=k then some v else valueAt kvs k':=by
 cases hk:valueAt kvs k with
 | none=>rw [stored_new hk]; exact valueAt_push hk k'
 | some w =>
  have hany:(kvs.any fun kv=>decide (kv.1=k))=true:=by
   unfold valueAt at hk
   refine unEA (Option.map_eq_some_iff.mp hk) fun kv hkv _=>?_
   have h1:=List.find?_some hkv
   exact List.any_eq_true.mpr (inEA kv (List.mem_of_find?_eq_some hkv) h1)
  unfold stored
  rw [if_pos hany]
  clear hk
  by_cases e:k'=k
  ·subst e
   rw [if_pos rfl]
   refine unEA (List.any_eq_true.mp hany) fun kv hm hkk=>?_
   clear hany
   induction kvs with
   | nil=>cases hm
   | cons x xs ih =>
    unfold valueAt at *
    rw [List.map_cons,List.find?_cons]
    by_cases hx:x.1=k'
    ·rw [if_pos hx]; simp [hx]
    ·rw [if_neg hx]
     simp only [decide_eq_false hx]
     rcases List.mem_cons.mp hm with rfl | hm
     ·exact absurd (of_decide_eq_true hkk) hx
     ·exact ih hm
  ·rw [if_neg e]
   clear hany
   induction kvs with
   | nil=>rfl
   | cons x xs ih =>
    unfold valueAt at *
    rw [List.map_cons,List.find?_cons,List.find?_cons]
    by_cases hx:x.1=k
    ·rw [if_pos hx]
     have:¬ x.1=k':=fun q=>e (by rw [← q,hx])
     simp only [decide_eq_false this]
     exact ih
    ·rw [if_neg hx]
     by_cases hx':x.1=k'
     ·simp [hx']
     ·simp only [decide_eq_false hx']; exact ih
noncomputable def DRep.setNx (r:DRep K) (src:K) (lab:Str) (dst:K):DRep K:={ r with nx:=fun k l=>if k=src∧l=lab then some dst else r.nx k l }
theorem DfaAt.setNx {d:Addr} {src dst:K} {lab:Str} {v:Value} {lk:List (Str×Value)} (h:DfaAt c kd G a r) (hD:r.D src=some d) (hlab:lab∈Lab) (hv:kd.is G dst v) (hl:∀ l,OptIs kd G (valueAt lk l) (r.nx src l))
  (hg:G d=some o) (hod:o.cls=.type "dict") (hD':DictIs (kStr c) (upd G d o') o' (stored lk lab v)):DfaAt c kd (upd G d o') a (r.setNx src lab dst):=by
 have hn:o.cls≠.type "tuple" := by rw [hod]; decide
 have hup:Tups G (upd G d o'):=.upd hg hn
 have at_:∀ {x:Addr} {y:Obj},x≠d→G x=some y→upd G d o' x=some y:=fun hx e=>(upd_ne hx).trans e
 refine ⟨at_ (obj_ne h.inst hg (by rw [hod]; intro q; cases q)) h.inst,?_,?_,?_,?_,fun s x e=>?_,fun s l x e=>?_,h.dxT,h.dxDf,h.TDf,h.dxD,h.TD,h.DfD,h.DD,h.bD,h.bd,h.bF,fun s l x e=>?_,h.bU⟩
 ·refine unEEEEEEEEAA h.attrs fun t1 t2 t3 t4 t5 vi w k e hi hh=>?_
  exact (inEEEEEEEEAA t1 t2 t3 t4 t5 vi w k (at_ (fun q=>h.dxD src (by rw [hD]; exact congrArg some q.symm)) e) (kd.up hi hup) hh)
 ·refine unEEAA h.tr fun o2 tk g2 d2 v2=>?_
  exact (inEEAA o2 tk (at_ (fun q=>h.TD src (by rw [hD]; exact congrArg some q.symm)) g2) (d2.up hup) v2)
 ·refine unEEAA h.dfs fun o2 dk g2 d2 v2=>?_
  exact (inEEAA o2 dk (at_ (fun q=>h.DfD src (by rw [hD]; exact congrArg some q.symm)) g2) (d2.up hup) (fun k=>(v2 k).up hup))
 ·refine unEA h.fs fun o2 g2 s2=>?_
  exact (inEA o2 (at_ (obj_ne g2 hg (by rw [hod,s2.1.1]; decide)) g2) (s2.up hup))
 ·by_cases hs:s=src
  ·subst hs
   have:x=d:=by have e:r.D s=some x:=e; rw [hD] at e; cases e; rfl
   (replace this:=this.symm; clear e; subst this)
   refine (inEEAA o' _ (upd_self _ _ _) hD' (fun l=>?_))
   rw [valueAt_stored]
   show OptIs kd _ _ (if s=s∧l=lab then _ else _)
   by_cases hl':l=lab
   ·rw [if_pos hl',if_pos ⟨rfl,hl'⟩]; exact kd.up hv hup
   ·rw [if_neg hl',if_neg (fun q=>hl' q.2)]; exact (hl l).up hup
  ·refine unEEAA (h.inner s x e) fun o2 lk2 g2 d2 v2=>?_
   refine (inEEAA o2 lk2 (at_ (fun q=>hs (h.DD s src x e (by rw [hD,q]))) g2) (d2.up hup) (fun l=>?_))
   show OptIs kd _ _ (if s=src∧l=lab then _ else _)
   rw [if_neg (fun q=>hs q.1)]; exact (v2 l).up hup
 ·have e:(if s=src∧l=lab then some dst else r.nx s l)=some x:=e
  split at e
  ·rename_i hc; exact ⟨d,by rw [hc.1]; exact hD⟩
  ·exact h.sub s l x e
 ·have e:(if s=src∧l=lab then some dst else r.nx s l)=some x:=e
  split at e
  ·rename_i hc; rw [hc.2]; exact hlab
  ·exact h.bl s l x e
noncomputable def DRep.setDf (r:DRep K) (src dst:K):DRep K:={ r with df:=fun k=>if k=src then some dst else r.df k }
theorem DfaAt.setDf {src dst:K} {v:Value} {dk:List (K×Value)} (h:DfaAt c kd G a r) (hU:src∈r.U) (hv:kd.is G dst v) (hl:∀ k,OptIs kd G (valueAt dk k) (r.df k))
  (hg:G r.Df=some o) (hod:o.cls=.type "dict") (hD':DictIs kd (upd G r.Df o') o' (stored dk src v)):DfaAt c kd (upd G r.Df o') a (r.setDf src dst):=by
 have hn:o.cls≠.type "tuple" := by rw [hod]; decide
 have hup:Tups G (upd G r.Df o'):=.upd hg hn
 have at_:∀ {x:Addr} {y:Obj},x≠r.Df→G x=some y→upd G r.Df o' x=some y:=fun hx e=>(upd_ne hx).trans e
 refine ⟨at_ (obj_ne h.inst hg (by rw [hod]; intro q; cases q)) h.inst,?_,?_,(inEEAA o' _ (upd_self _ _ _) hD' (fun k=>?_)),?_,fun s x e=>?_,h.sub,h.dxT,h.dxDf,h.TDf,h.dxD,h.TD,h.DfD,h.DD,h.bD,fun k k' e=>?_,h.bF,h.bl,h.bU⟩
 ·refine unEEEEEEEEAA h.attrs fun t1 t2 t3 t4 t5 vi w k e hi hh=>?_
  exact (inEEEEEEEEAA t1 t2 t3 t4 t5 vi w k (at_ h.dxDf e) (kd.up hi hup) hh)
 ·refine unEEAA h.tr fun o2 tk g2 d2 v2=>?_
  exact (inEEAA o2 tk (at_ h.TDf g2) (d2.up hup) v2)
 ·rw [valueAt_stored]
  show OptIs kd _ _ (if k=src then _ else _)
  split
  ·exact kd.up hv hup
  ·exact (hl k).up hup
 ·refine unEA h.fs fun o2 g2 s2=>?_
  exact (inEA o2 (at_ (obj_ne g2 hg (by rw [hod,s2.1.1]; decide)) g2) (s2.up hup))
 ·refine unEEAA (h.inner s x e) fun o2 lk2 g2 d2 v2=>?_
  exact (inEEAA o2 lk2 (at_ (fun q=>h.DfD s (q▸e)) g2) (d2.up hup) (fun l=>(v2 l).up hup))
 ·have e:(if k=src then some dst else r.df k)=some k':=e
  split at e
  ·rename_i hc; rw [hc]; exact hU
  ·exact h.bd k k' e
theorem DfaAt.addFin {l':List K} (h:DfaAt c kd G a r) (hU:∀ k∈l',k∈r.U) (hg:G r.Fs=some o) (hod:o.cls=.type "set") (hS:SetIs kd (upd G r.Fs o') o' l'):DfaAt c kd (upd G r.Fs o') a { r with fin:=l' }:=by
 have hn:o.cls≠.type "tuple" := by rw [hod]; decide
 have hup:Tups G (upd G r.Fs o'):=.upd hg hn
 have at_:∀ {x:Addr} {y:Obj},x≠r.Fs→G x=some y→upd G r.Fs o' x=some y:=fun hx e=>(upd_ne hx).trans e
 have dn:∀ {x:Addr} {ox:Obj} {K':Type} [DecidableEq K'] {kd':Kd c K'} {l:List (K'×Value)},G x=some ox→DictIs kd' G ox l→x≠r.Fs:=fun {x ox K' _ kd' l} g d=>obj_ne g hg (by rw [hod,d.1.1]; decide)
 refine ⟨at_ (obj_ne h.inst hg (by rw [hod]; intro q; cases q)) h.inst,?_,?_,?_,(inEA o' (upd_self _ _ _) hS),fun s x e=>?_,h.sub,h.dxT,h.dxDf,h.TDf,h.dxD,h.TD,h.DfD,h.DD,h.bD,h.bd,hU,h.bl,h.bU⟩
 ·refine unEEEEEEEEAA h.attrs fun t1 t2 t3 t4 t5 vi w k e hi hh=>?_
  exact (inEEEEEEEEAA t1 t2 t3 t4 t5 vi w k (at_ (obj_ne e hg (by rw [hod]; intro q; exact absurd (show Value.type "dict" = Value.type "set" from q) (by decide))) e) (kd.up hi hup) hh)
 ·refine unEEAA h.tr fun o2 tk g2 d2 v2=>?_
  exact (inEEAA o2 tk (at_ (dn g2 d2) g2) (d2.up hup) v2)
 ·refine unEEAA h.dfs fun o2 dk g2 d2 v2=>?_
  exact (inEEAA o2 dk (at_ (dn g2 d2) g2) (d2.up hup) (fun k=>(v2 k).up hup))
 ·refine unEEAA (h.inner s x e) fun o2 lk2 g2 d2 v2=>?_
  exact (inEEAA o2 lk2 (at_ (dn g2 d2) g2) (d2.up hup) (fun l=>(v2 l).up hup))
end
end
section
noncomputable def fx245:{ fd:FuncData // FdAt 245 fd }:=⟨_,fun P=>(inEEE _ _ _ (by k_is))⟩
noncomputable def fd245:FuncData:=fx245.1
section
variable {c:Cx} {K:Type} [DecidableEq K] {kd:Kd c K} {O:List (Addr×Obj)} {L:Addr} {G:View} {m:Str→Option Value} {A:Around} {E:Value→Shared→Prop} {s:Shared} {n:Nat} {a b d:Addr} {r:DRep K}
theorem d_new {ini:K} {vi:Value} {U:List K} {Q:Value→Shared→Prop} (F:Fx c O L G m s) (R:Room A (n+2)) (hi:kd.is G ini vi) (hh:handedIn vi=true) (hU:U.length≤200)
  (h:∀ s' G' a r,Fx c O L G' m s'→DfaAt c kd G' a r→Le G G'→(∀ b,r.has a b→G b=none)→r.ini=ini→r.fin=[]→(∀ k l,r.nx k l=none)→(∀ k,r.df k=none)→(∀ k,r.D k=none)→r.U=U→Q (.ref a) s') :
  wpAny (model c.prog c.w) A (call (.ref 327) [vi] []) Q E s:=by
 refine x_make (f:=245) F (by k_is) (by k_is) (by k_is) fun x dx sJ0 hx hdx hne FJ0=>?_
 clear F
 have RJ1:=R.made (C:=327) (rest:=[vi]) (kw:=[])
 generalize A.under (.builtin "type.__call__" ⟨[Value.ref 327,vi],[]⟩)=AJ1 at RJ1 ⊢
 refine unEEE (fx245.2 c.w.params) fun oc od osl ho=>?_
 refine enterC FJ0 (fd:=fd245) (binds:=[("self",.ref x),("initial",vi)]) ho rfl (by kernel_rfl) RJ1.dl (BindsTo.of_eq rfl) rfl (by decide) (locs rfl) rfl rfl rfl fun sJ1 L' O' FJ1 back=>?_
 have R':=RJ1.deeper (env:=cenv fd245 L' 245)
 generalize AJ1.deeper (cenv fd245 L' 245)=A' at R' ⊢
 clear FJ0
 have gx:upd (upd G dx (dictOf [] 0)) x (instObj 327 dx) x=some (instObj 327 dx):=upd_self _ _ _
 have gd:upd (upd G dx (dictOf [] 0)) x (instObj 327 dx) dx=some (dictOf [] 0):=(upd_ne (Ne.symm hne)).trans (upd_self _ _ _)
 have le0:Le G (upd (upd G dx (dictOf [] 0)) x (instObj 327 dx)):=(Le.alloc hdx).trans (Le.alloc ((upd_ne hne).trans hx))
 generalize upd (upd G dx (dictOf [] 0)) x (instObj 327 dx)=GJ0 at *
 have notTd:∀ (es:List DictEntry) (k:Nat),(dictOf es k).cls≠.type "tuple" := fun _ _ q=>absurd (show Value.type "dict" = Value.type "tuple" from q) (by decide)
 walk_at "r"
 refine x_setattr FJ1 gx gd (by k_is) (by k_is) (by k_is) (by k_is) rfl (Nat.le_of_ble_eq_true rfl) fun sJ2 uJ1 FJ2=>?_
 clear FJ1
 walk_at "r"
 refine x_dict0 FJ2 fun T sJ3 hT FJ3=>?_
 clear FJ2
 have hTd:T≠dx:=updN hT
 have hT0:GJ0 T=none:=updK hT
 have hTx:T≠x:=nsn hT0 gx
 walk_at "r"
 refine x_setattr FJ3 ((upd_ne hTx.symm).trans ((upd_ne hne).trans gx)) ((upd_ne hTd.symm).trans (upd_self _ _ _)) (by k_is) (by k_is) (by k_is) (by k_is) rfl (Nat.le_of_ble_eq_true rfl) fun sJ4 uJ2 FJ4=>?_
 clear FJ3
 have e4:∀ oJ1 oJ2 oJ3,upd (upd (upd GJ0 dx oJ1) T oJ2) dx oJ3=upd (upd GJ0 T oJ2) dx oJ3:=fun oJ1 oJ2 oJ3=>by funext y; unfold upd; split <;> simp_all
 rw [e4] at FJ4
 walk_at "r"
 refine x_dict0 FJ4 fun Df sJ5 hDf FJ5=>?_
 clear FJ4
 have hDd:Df≠dx:=updN hDf
 have hDT:Df≠T:=updN (updK hDf)
 have hD0:GJ0 Df=none:=updK (updK hDf)
 have hDx:Df≠x:=nsn hD0 gx
 walk_at "r"
 refine x_setattr FJ5 ((upd_ne hDx.symm).trans ((upd_ne hne).trans ((upd_ne hTx.symm).trans gx))) ((upd_ne hDd.symm).trans (upd_self _ _ _)) (by k_is) (by k_is) (by k_is) (by k_is) rfl (Nat.le_of_ble_eq_true rfl) fun sJ6 uJ3 FJ6=>?_
 clear FJ5
 have e6:∀ oJ1 oJ2 oJ3 oJ4,upd (upd (upd (upd GJ0 T oJ1) dx oJ2) Df oJ3) dx oJ4=upd (upd (upd GJ0 T oJ1) Df oJ3) dx oJ4:=fun oJ1 oJ2 oJ3 oJ4=>by funext y; unfold upd; split <;> simp_all
 rw [e6] at FJ6
 walk_at "r"
 refine x_builtin FJ6 (by k_is) (v:=.type "set") rfl (by decide) rfl rfl rfl rfl rfl ?_
 refine callWith_type0 ?_
 refine x_set0 FJ6 fun Fs sJ7 oF hF FJ7 hFs=>?_
 clear FJ6
 have hFd:Fs≠dx:=updN hF
 have hFD:Fs≠Df:=updN (updK hF)
 have hFT:Fs≠T:=updN (updK (updK hF))
 have hF0:GJ0 Fs=none:=updK (updK (updK hF))
 have hFx:Fs≠x:=nsn hF0 gx
 walk_at "r"
 refine x_setattr FJ7 ((upd_ne hFx.symm).trans ((upd_ne hne).trans ((upd_ne hDx.symm).trans ((upd_ne hTx.symm).trans gx)))) ((upd_ne hFd.symm).trans (upd_self _ _ _)) (by k_is) (by k_is) (by k_is) (by k_is) rfl (Nat.le_of_ble_eq_true rfl) fun sJ8 uJ4 FJ8=>?_
 clear FJ7
 walk_at "r"
 refine x_dict0 FJ8 fun Ol sJ9 hO FJ9=>?_
 clear FJ8
 have hOd:Ol≠dx:=updN hO
 have hOF:Ol≠Fs:=updN (updK hO)
 have hOD:Ol≠Df:=updN (updK (updK (updK hO)))
 have hOT:Ol≠T:=updN (updK (updK (updK (updK hO))))
 have hO0:GJ0 Ol=none:=updK (updK (updK (updK (updK hO))))
 have hOx:Ol≠x:=nsn hO0 gx
 walk_at "r"
 refine x_setattr FJ9 ((upd_ne hOx.symm).trans ((upd_ne hne).trans ((upd_ne hFx.symm).trans ((upd_ne hne).trans ((upd_ne hDx.symm).trans ((upd_ne hTx.symm).trans gx)))))) ((upd_ne hOd.symm).trans (upd_self _ _ _)) (by k_is) (by k_is) (by k_is) (by k_is) rfl (Nat.le_of_ble_eq_true rfl) fun sJ10 uJ5 FJ10=>?_
 clear FJ9
 walk_at "r"
 have e9:∀ (V:View) oJ1 oJ2 oJ3 oJ4 oJ5,upd (upd (upd (upd (upd V dx oJ1) Fs oJ2) dx oJ3) Ol oJ4) dx oJ5=upd (upd (upd V Fs oJ2) Ol oJ4) dx oJ5:=fun V oJ1 oJ2 oJ3 oJ4 oJ5=>by funext y; unfold upd; split <;> simp_all
 rw [e9] at FJ10
 have hk9:∃ k9,Fx c O' L' (upd (upd (upd (upd (upd GJ0 T (dictOf [] 0)) Df (dictOf [] 0)) Fs oF) Ol (dictOf [] 0)) dx (dictOf [ent c "initial" uJ1 vi,ent c "transitions" uJ2 (.ref T),ent c "defaults" uJ3 (.ref Df),ent c "final_states" uJ4 (.ref Fs),ent c "outlabels" uJ5 (.ref Ol)] k9)) (fun x_1=>List.lookup x_1 [(Str.ofString "self",Value.ref x),(Str.ofString "initial",vi)].reverse) sJ10:=⟨_,FJ10⟩
 clear FJ10
 refine unE hk9 fun k9 FJ10=>?_; clear hk9
 generalize hG9:upd (upd (upd (upd (upd GJ0 T (dictOf [] 0)) Df (dictOf [] 0)) Fs oF) Ol (dictOf [] 0)) dx (dictOf [ent c "initial" uJ1 vi,ent c "transitions" uJ2 (.ref T),ent c "defaults" uJ3 (.ref Df),ent c "final_states" uJ4 (.ref Fs),ent c "outlabels" uJ5 (.ref Ol)] k9)=G9 at FJ10
 have none0:∀ {y},GJ0 y=none→G y=none:=fun {y} e=>by
  cases e':G y with
  | none=>rfl
  | some o=>rw [le0 y o e'] at e; exact snN e
 have hT1:T≠Df:=hDT.symm
 have g9x:G9 x=some (instObj 327 dx):=by rw [← hG9,upd_ne hne,upd_ne hOx.symm,upd_ne hFx.symm,upd_ne hDx.symm,upd_ne hTx.symm]; exact gx
 have g9d:G9 dx=some (dictOf [ent c "initial" uJ1 vi,ent c "transitions" uJ2 (.ref T),ent c "defaults" uJ3 (.ref Df),ent c "final_states" uJ4 (.ref Fs),ent c "outlabels" uJ5 (.ref Ol)] k9):=by rw [← hG9]; exact upd_self _ _ _
 have g9T:G9 T=some (dictOf [] 0):=by rw [← hG9,upd_ne hTd,upd_ne hOT.symm,upd_ne hFT.symm,upd_ne hT1]; exact upd_self _ _ _
 have g9D:G9 Df=some (dictOf [] 0):=by rw [← hG9,upd_ne hDd,upd_ne hOD.symm,upd_ne hFD.symm]; exact upd_self _ _ _
 have g9F:G9 Fs=some oF:=by rw [← hG9,upd_ne hFd,upd_ne hOF.symm]; exact upd_self _ _ _
 have le9:Le G G9:=fun y o e=>by
  have e0:=le0 y o e
  have ny:∀ {z},G z=none→y≠z:=fun {z} h0 q=>by rw [q,h0] at e; exact nnS e
  rw [← hG9,upd_ne (ny hdx),upd_ne (ny (none0 hO0)),upd_ne (ny (none0 hF0)),upd_ne (ny (none0 hD0)),upd_ne (ny (none0 hT0))]
  walk_at "p"; exact e0
 have tp9:∀ l k,Tups (upd (upd (upd (upd GJ0 T (dictOf [] 0)) Df (dictOf [] 0)) dx (dictOf l k)) Fs oF) G9:=fun l k y o e t=>by
  by_cases hy:y=Fs
  ·(replace hy:=hy.symm; subst hy); rw [upd_self] at e; clear t; cases e; exact g9F
  ·rw [upd_ne hy] at e
   by_cases hd:y=dx
   ·(replace hd:=hd.symm; clear hy; subst hd); rw [upd_self] at e; cases e; exact absurd (show Value.type "dict" = Value.type "tuple" from t) (by decide)
   ·rw [upd_ne hd] at e
    by_cases hD:y=Df
    ·rw [hD] at e ⊢; rw [upd_self] at e; rw [g9D]; exact e
    ·rw [upd_ne hD] at e
     by_cases hT:y=T
     ·rw [hT] at e ⊢; rw [upd_self] at e; rw [g9T]; exact e
     ·rw [upd_ne hT] at e
      have nO:y≠Ol:=nns e hO0
      rw [← hG9,upd_ne hd,upd_ne nO,upd_ne hy,upd_ne hD,upd_ne hT]
      walk_at "p"; exact e
 refine ⟨rfl,?_⟩
 refine h sJ10 G9 x ⟨dx,T,Df,Fs,ini,[],fun _=>none,fun _ _=>none,fun _=>none,U⟩ (back _ _ _ FJ10) ?_ le9 ?_ rfl rfl (fun _ _=>rfl) (fun _=>rfl) (fun _=>rfl) rfl
 ·refine ⟨g9x,(inEEEEEEEEAA uJ1 uJ2 uJ3 uJ4 uJ5 vi _ k9 g9d (kd.up hi ?_) hh),(inEEAA _ ([]) g9T DictIs.new (fun _=>rfl)),(inEEAA _ ([]) g9D DictIs.new (fun _=>trivial)),(inEA oF g9F ?_),
   fun k b e=>(nnS e),fun k l k' e=>(nnS e),hTd.symm,hDd.symm,hT1,fun k e=>(nnS e),fun k e=>(nnS e),fun k e=>(nnS e),fun k k' b e=>(nnS e),fun k b e=>(nnS e),fun k k' e=>(nnS e),fun k e=>(niP e),fun k l k' e=>(nnS e),hU⟩
  ·walk_at "p"; exact fun y o e t=>le9 y o e
  ·walk_at "p"; exact (hFs kd).up (tp9 _ _)
 ·rintro b (q | q | q | q | q | ⟨k,q⟩)
  ·have q:b=x:=q; rw [q]; exact hx
  ·have q:b=dx:=q; rw [q]; exact hdx
  ·have q:b=T:=q; rw [q]; exact none0 hT0
  ·have q:b=Df:=q; rw [q]; exact none0 hD0
  ·have q:b=Fs:=q; rw [q]; exact none0 hF0
  ·exact nnS q
end
end
section
noncomputable def fx252:{ fd:FuncData // FdAt 252 fd }:=⟨_,fun P=>(inEEE _ _ _ (by k_is))⟩
noncomputable def fd252:FuncData:=fx252.1
noncomputable def fx259:{ fd:FuncData // FdAt 259 fd }:=⟨_,fun P=>(inEEE _ _ _ (by k_is))⟩
noncomputable def fd259:FuncData:=fx259.1
noncomputable def fx266:{ fd:FuncData // FdAt 266 fd }:=⟨_,fun P=>(inEEE _ _ _ (by k_is))⟩
noncomputable def fd266:FuncData:=fx266.1
noncomputable def fx273:{ fd:FuncData // FdAt 273 fd }:=⟨_,fun P=>(inEEE _ _ _ (by k_is))⟩
noncomputable def fd273:FuncData:=fx273.1
noncomputable def fx280:{ fd:FuncData // FdAt 280 fd }:=⟨_,fun P=>(inEEE _ _ _ (by k_is))⟩
noncomputable def fd280:FuncData:=fx280.1
noncomputable def fx287:{ fd:FuncData // FdAt 287 fd }:=⟨_,fun P=>(inEEE _ _ _ (by k_is))⟩
noncomputable def fd287:FuncData:=fx287.1
section
variable {c:Cx} {K:Type} [DecidableEq K] {kd:Kd c K} {O:List (Addr×Obj)} {L:Addr} {G:View} {m:Str→Option Value} {A:Around} {E:Value→Shared→Prop} {s:Shared} {n:Nat} {a b d:Addr} {r:DRep K}
theorem DfaAt.dAttr (h:DfaAt c kd G a r):∃ es k,G r.dx=some (dictOf es k)∧getL "transitions" es=some (some (.ref r.T))∧getL "defaults" es=some (some (.ref r.Df))∧getL "final_states" es=some (some (.ref r.Fs))∧(∃ vi,getL "initial" es=some (some vi)∧kd.is G r.ini vi∧handedIn vi=true)∧es.length≤900
  ∧ getL "start" es=some none∧getL "next_state" es=some none∧getL "is_final" es=some none∧getL "accept" es=some none∧getL "add_transition" es=some none∧getL "add_final_state" es=some none∧getL "set_default_transition" es=some none:=by
 refine unEEEEEEEEAA h.attrs fun t1 t2 t3 t4 t5 vi w k e hi hh=>?_
 walk_at "p"; exact (inEEAAAAAAAA _ k e rfl rfl rfl (inEAA vi rfl hi hh) (by simp) rfl rfl (inAAAA rfl rfl rfl rfl rfl))
theorem d_start {Q:Value→Shared→Prop} (F:Fx c O L G m s) (R:Room A (n+1)) (hN:DfaAt c kd G a r)
  (h:∀ s' v,Fx c O L G m s'→kd.is G r.ini v→Q v s') :
  wpAny (model c.prog c.w) A (call (.ref 252) [.ref a] []) Q E s:=by
 refine unEEE (fx252.2 c.w.params) fun oc od osl ho=>?_
 refine enter F (fd:=fd252) (binds:=[("self",.ref a)]) ho rfl (by kernel_rfl) R.dl (BindsTo.of_eq rfl) rfl (by decide) (locs rfl) rfl rfl rfl fun sJ1 L' O' FJ1 back=>?_
 have R':=R.deeper (env:=cenv fd252 L' 252)
 generalize A.deeper (cenv fd252 L' 252)=A' at R' ⊢
 clear F
 walk_at "r"
 refine unEEAAAAA hN.dAttr fun es k hdx e1 e2 e3 y1 e5=>?_; refine unEAA y1 fun vi e4 hi hh=>?_; clear y1
 refine x_attr (v:=vi) FJ1 hN.inst hdx (by k_is) (by k_is) (by k_is) (by k_is) e4 hh fun sJ2 FJ2=>?_
 walk_at "p"; exact h _ _ (back _ _ _ FJ2) hi
theorem d_set_default {src dst:K} {vs vd:Value} {Q:Value→Shared→Prop} (F:Fx c O L G m s) (R:Room A (n+1)) (hN:DfaAt c kd G a r) (hs:kd.is G src vs) (hd:kd.is G dst vd) (hU:src∈r.U)
  (h:∀ s' G' r',Fx c O L G' m s'→DfaAt c kd G' a r'→Step G G' (r.has a) (r'.has a)→r'.ini=r.ini→r'.fin=r.fin→r'.nx=r.nx→r'.U=r.U→(∀ k,r'.df k=if k=src then some dst else r.df k)→Q .none s') :
  wpAny (model c.prog c.w) A (call (.ref 266) [.ref a,vs,vd] []) Q E s:=by
 refine unEEE (fx266.2 c.w.params) fun oc od osl ho=>?_
 refine enter F (fd:=fd266) (binds:=[("self",.ref a),("src",vs),("dest",vd)]) ho rfl (by kernel_rfl) R.dl (BindsTo.of_eq rfl) rfl (by decide) (locs rfl) rfl rfl rfl fun sJ1 L' O' FJ1 back=>?_
 have R':=R.deeper (env:=cenv fd266 L' 266)
 generalize A.deeper (cenv fd266 L' 266)=A' at R' ⊢
 clear F
 walk_at "r"
 refine unEEAAAAA hN.dAttr fun es k hdx e1 e2 e3 y2 e5=>?_; refine unEAA y2 fun vi e4 hi hh=>?_; clear y2
 refine x_attr (v:=.ref r.Df) FJ1 hN.inst hdx (by k_is) (by k_is) (by k_is) (by k_is) e2 rfl fun sJ2 FJ2=>?_
 walk_at "r"
 refine unEEAA hN.dfs fun oD dk gD dD vD=>?_
 refine x_setItem_dict FJ2 R'.in1 hs gD dD (by have:=hN.dfLen dD vD; rw [sizeLine_eq]; exact Nat.le_trans ‹_› (by decide)) fun sJ3 o' FJ3 dD'=>?_
 clear FJ2
 walk_at "r"
 walk_at "p"; refine h _ _ (r.setDf src dst) (back _ _ _ FJ3) (hN.setDf hU hd vD gD dD.1.1 dD') ⟨fun x y e hx=>(upd_ne (fun q:x=r.Df=>hx (.inr (.inr (.inr (.inl q)))))).trans e,fun x hx=>.inl hx⟩ rfl rfl rfl rfl fun _=>rfl
theorem d_add_final {k:K} {vk:Value} {Q:Value→Shared→Prop} (hS:KdS kd) (F:Fx c O L G m s) (R:Room A (n+1)) (hN:DfaAt c kd G a r) (hk:kd.is G k vk) (hU:k∈r.U)
  (h:∀ s' G' r',Fx c O L G' m s'→DfaAt c kd G' a r'→Step G G' (r.has a) (r'.has a)→r'.ini=r.ini→r'.nx=r.nx→r'.df=r.df→r'.U=r.U→(∀ x,x∈r'.fin↔x∈r.fin∨x=k)→Q .none s') :
  wpAny (model c.prog c.w) A (call (.ref 273) [.ref a,vk] []) Q E s:=by
 refine unEEE (fx273.2 c.w.params) fun oc od osl ho=>?_
 refine enter F (fd:=fd273) (binds:=[("self",.ref a),("state",vk)]) ho rfl (by kernel_rfl) R.dl (BindsTo.of_eq rfl) rfl (by decide) (locs rfl) rfl rfl rfl fun sJ1 L' O' FJ1 back=>?_
 have R':=R.deeper (env:=cenv fd273 L' 273)
 generalize A.deeper (cenv fd273 L' 273)=A' at R' ⊢
 clear F
 walk_at "r"
 refine unEEAAAAA hN.dAttr fun es k' hdx e1 e2 e3 y3 e5=>?_; refine unEAA y3 fun vi e4 hi hh=>?_; clear y3
 refine x_attr (v:=.ref r.Fs) FJ1 hN.inst hdx (by k_is) (by k_is) (by k_is) (by k_is) e3 rfl fun sJ2 FJ2=>?_
 clear FJ1
 refine unEA hN.fs fun oF gF sF=>?_
 refine x_bmethod FJ2 gF sF.1.1 sF.1.2.1 PySem.F.plainAttrs_set PySem.F.slot_set_add PySem.F.type_set_add ?_
 walk_at "r"
 refine x_add hS FJ2 R'.in1 hk gF sF (Nat.lt_of_le_of_lt (hN.finLen sF) (by decide)) fun sJ3 o' FJ3 sF'=>?_
 clear FJ2
 walk_at "r"
 walk_at "p"; refine h _ _ { r with fin:=ins k r.fin } (back _ _ _ FJ3) (hN.addFin (fun x hx=>by rcases mem_ins.mp hx with rfl | hx; exact hU; exact hN.bF x hx) gF sF.1.1 sF')
  ⟨fun x y e hx=>(upd_ne (fun q:x=r.Fs=>hx (.inr (.inr (.inr (.inr (.inl q))))))).trans e,fun x hx=>.inl hx⟩ rfl rfl rfl rfl fun x=>mem_ins.trans ⟨Or.symm,Or.symm⟩
theorem d_is_final {k:K} {vk:Value} {Q:Value→Shared→Prop} (hS:KdS kd) (F:Fx c O L G m s) (R:Room A (n+1)) (hN:DfaAt c kd G a r) (hk:kd.is G k vk)
  (h:∀ s' b,Fx c O L G m s'→(b=true↔k∈r.fin)→Q (.bool b) s') :
  wpAny (model c.prog c.w) A (call (.ref 280) [.ref a,vk] []) Q E s:=by
 refine unEEE (fx280.2 c.w.params) fun oc od osl ho=>?_
 refine enter F (fd:=fd280) (binds:=[("self",.ref a),("state",vk)]) ho rfl (by kernel_rfl) R.dl (BindsTo.of_eq rfl) rfl (by decide) (locs rfl) rfl rfl rfl fun sJ1 L' O' FJ1 back=>?_
 have R':=R.deeper (env:=cenv fd280 L' 280)
 generalize A.deeper (cenv fd280 L' 280)=A' at R' ⊢
 clear F
 walk_at "r"
 refine unEEAAAAA hN.dAttr fun es k' hdx e1 e2 e3 y4 e5=>?_; refine unEAA y4 fun vi e4 hi hh=>?_; clear y4
 refine x_attr (v:=.ref r.Fs) FJ1 hN.inst hdx (by k_is) (by k_is) (by k_is) (by k_is) e3 rfl fun sJ2 FJ2=>?_
 clear FJ1
 refine unEA hN.fs fun oF gF sF=>?_
 refine x_in_set hS FJ2 R'.in1 hk gF sF (Nat.lt_of_le_of_lt (hN.finLen sF) (by decide)) fun sJ3 b FJ3 hb=>?_
 walk_at "p"; exact h _ _ (back _ _ _ FJ3) hb
theorem x_dstate {src:K} {vs:Value} {Q:Value→Shared→Prop} (hu:A.in1.units<cLine) (hd:G d=none) (F:Fx c O L (upd G d (dictOf [] 0)) m s) (hN:DfaAt c kd G a r) (hs:kd.is G src vs) (hU:src∈r.U)
  (h:∀ s' G' r' D,Fx c O L G' m s'→DfaAt c kd G' a r'→Step G G' (r.has a) (r'.has a)→r'.D src=some D→r'.ini=r.ini→r'.fin=r.fin→r'.nx=r.nx→r'.df=r.df→r'.U=r.U→Q (.ref D) s') :
  wpAny (model c.prog c.w) A (call (.builtin "dict.setdefault") [.ref r.T,vs,.ref d] []) Q E s:=by
 refine unEEAA hN.tr fun oT tkv gT dT vT=>?_
 have hTd:r.T≠d:=nns gT hd
 have gT':upd G d (dictOf [] 0) r.T=some oT:=(upd_ne hTd).trans gT
 have dT':=dT.up (G':=upd G d (dictOf [] 0)) (.push hd)
 refine x_setdefault (kd:=kd) (k:=src) F hu (kd.up hs (.push hd)) gT' dT' (setLine (Nat.lt_of_le_of_lt (hN.trLen dT vT) (by decide))) (fun v s' hv F'=>?_) fun s' o' hv F' D'=>?_
 ·rw [vT] at hv
  refine unEA (Option.map_eq_some_iff.mp hv) fun D hD y5=>?_; clear hv; subst y5
  walk_at "p"; exact h s' G r D (F'.forget hd) hN (Step.refl _ _) hD rfl rfl rfl rfl rfl
 ·rw [vT] at hv
  have hD:r.D src=none:=by cases e:r.D src with | none=>rfl | some x=>rw [e] at hv; exact snN hv
  have N1:=hN.alloc (o:=dictOf [] 0) hd
  have N2:=N1.addState (o':=o') (b:=d) hD hU (hN.notHas hd) (upd_self _ _ _) DictIs.new vT gT' dT.1.1 D'
  refine h s' _ _ d F' N2 ?_ (by show (if src=src then _ else _)=_; rw [if_pos rfl]) rfl rfl rfl rfl rfl
  refine ⟨fun x y e hx=>?_,fun x hx=>?_⟩
  ·rw [upd_ne (fun q:x=r.T=>hx (by rw [q]; exact .inr (.inr (.inl rfl)))),upd_ne (nns e hd)]; exact e
  ·rcases hx with q | q | q | q | q | ⟨s,q⟩
   ·walk_at "p"; exact .inl (.inl q)
   ·walk_at "p"; exact .inl (.inr (.inl q))
   ·walk_at "p"; exact .inl (.inr (.inr (.inl q)))
   ·walk_at "p"; exact .inl (.inr (.inr (.inr (.inl q))))
   ·walk_at "p"; exact .inl (.inr (.inr (.inr (.inr (.inl q)))))
   ·have q:(if s=src then some d else r.D s)=some x:=q
    split at q
    ·cases q; exact .inr hd
    ·walk_at "p"; exact .inl (.inr (.inr (.inr (.inr (.inr ⟨s,q⟩)))))
theorem d_add_transition {src dst:K} {lab:Str} {t:Tok} {vs vd:Value} {Q:Value→Shared→Prop} (F:Fx c O L G m s) (R:Room A (n+1)) (hN:DfaAt c kd G a r) (hs:kd.is G src vs) (hd':kd.is G dst vd) (hU:src∈r.U) (hlab:lab∈Lab)
  (h:∀ s' G' r',Fx c O L G' m s'→DfaAt c kd G' a r'→Step G G' (r.has a) (r'.has a)→r'.ini=r.ini→r'.fin=r.fin→r'.df=r.df→r'.U=r.U→(∀ k l,r'.nx k l=if k=src∧l=lab then some dst else r.nx k l)→Q .none s') :
  wpAny (model c.prog c.w) A (call (.ref 259) [.ref a,vs,.str lab t,vd] []) Q E s:=by
 refine unEEE (fx259.2 c.w.params) fun oc od osl ho=>?_
 refine enter F (fd:=fd259) (binds:=[("self",.ref a),("src",vs),("label",.str lab t),("dest",vd)]) ho rfl (by kernel_rfl) R.dl (BindsTo.of_eq rfl) rfl (by decide) (locs rfl) rfl rfl rfl fun sJ1 L' O' FJ1 back=>?_
 have R':=R.deeper (env:=cenv fd259 L' 259)
 generalize A.deeper (cenv fd259 L' 259)=A' at R' ⊢
 clear F
 walk_at "r"
 refine unEEAAAAA hN.dAttr fun es k' hdx e1 e2 e3 y6 e5=>?_; refine unEAA y6 fun vi e4 hi hh=>?_; clear y6
 refine x_attr (v:=.ref r.T) FJ1 hN.inst hdx (by k_is) (by k_is) (by k_is) (by k_is) e1 rfl fun sJ2 FJ2=>?_
 clear FJ1
 refine unEEAA hN.tr fun oT tk gT dT vT=>?_
 refine x_bmethod FJ2 gT dT.1.1 dT.1.2.1 PySem.F.plainAttrs_dict PySem.F.slot_dict_setdefault PySem.F.type_dict_setdefault ?_
 walk_at "r"
 refine x_dict0 FJ2 fun d sJ3 hd FJ3=>?_
 clear FJ2
 walk_at "r"
 refine x_dstate R'.in1 hd FJ3 hN hs hU fun sJ4 GJ4 rJ4 D FJ4 NJ4 stJ4 hD i4 f4 n4 df4 U4=>?_
 clear FJ3
 refine unEEAA (NJ4.inner src D hD) fun oD lk gD dD vD=>?_
 walk_at "r"
 refine x_setItem_dict (kd:=kStr c) (k:=lab) FJ4 R'.in1 isKS gD dD (setLine (Nat.lt_of_le_of_lt (NJ4.inLen dD vD) (by decide))) fun sJ5 o' FJ5 dD'=>?_
 clear FJ4
 walk_at "r"
 have vd4:kd.is GJ4 dst vd:=kd.up hd' (hN.tups stJ4)
 walk_at "p"; refine h _ _ (rJ4.setNx src lab dst) (back _ _ _ FJ5) (NJ4.setNx hD hlab vd4 vD gD dD.1.1 dD') (stJ4.trans ⟨fun x y e hx=>(upd_ne (fun q:x=D=>hx (by rw [q]; exact .inr (.inr (.inr (.inr (.inr ⟨src,hD⟩))))))).trans e,fun x hx=>.inl hx⟩) i4 f4 df4 U4 fun k l=>?_
 show (if k=src∧l=lab then _ else _)=_
 rw [n4]
theorem d_next_state {src:K} {lab:Str} {t:Tok} {vs:Value} {Q:Value→Shared→Prop} (F:Fx c O L G m s) (R:Room A (n+1)) (hN:DfaAt c kd G a r) (hs:kd.is G src vs)
  (h:∀ s' v,Fx c O L G m s'→(match (r.nx src lab).or (r.df src) with | some k=>kd.is G k v | none=>v=.none)→Q v s') :
  wpAny (model c.prog c.w) A (call (.ref 287) [.ref a,vs,.str lab t] []) Q E s:=by
 refine unEEE (fx287.2 c.w.params) fun oc od osl ho=>?_
 refine enter F (fd:=fd287) (binds:=[("self",.ref a),("src",vs),("label",.str lab t)]) ho rfl (by kernel_rfl) R.dl (BindsTo.of_eq rfl) rfl (by decide) (locs rfl) rfl rfl rfl fun sJ1 L' O' FJ1 back=>?_
 have R':=R.deeper (env:=cenv fd287 L' 287)
 generalize A.deeper (cenv fd287 L' 287)=A' at R' ⊢
 clear F
 walk_at "r"
 refine unEEAAAAA hN.dAttr fun es k' hdx e1 e2 e3 y7 e5=>?_; refine unEAA y7 fun vi e4 hi hh=>?_; clear y7
 refine x_attr (v:=.ref r.T) FJ1 hN.inst hdx (by k_is) (by k_is) (by k_is) (by k_is) e1 rfl fun sJ2 FJ2=>?_
 clear FJ1
 refine unEEAA hN.tr fun oT tk gT dT vT=>?_
 refine x_bmethod FJ2 gT dT.1.1 dT.1.2.1 PySem.F.plainAttrs_dict PySem.F.slot_dict_get PySem.F.type_dict_get ?_
 walk_at "r"
 refine x_dict0 FJ2 fun d sJ3 hd FJ3=>?_
 clear FJ2
 walk_at "r"
 have hTd:r.T≠d:=nns gT hd
 have hDd:r.Df≠d:=fun e=>by refine unEEA hN.dfs fun _ _ gD _=>?_; rw [e,hd] at gD; exact nnS gD
 have tp:=Tups.push (o':=dictOf [] 0) hd
 refine x_get2 (kd:=kd) (k:=src) FJ3 R'.in1 (kd.up hs tp) ((upd_ne hTd).trans gT) (dT.up tp) fun sJ4 FJ4=>?_
 clear FJ3
 walk_at "r"
 refine x_store FJ4 rfl rfl fun sJ5 FJ5=>?_
 clear FJ4
 have hN5:=hN.alloc (o:=dictOf [] 0) hd
 have hval:∃ D oI lk,(valueAt tk src).getD (.ref d)=.ref D∧upd G d (dictOf [] 0) D=some oI∧DictIs (kStr c) (upd G d (dictOf [] 0)) oI lk∧∀ l,OptIs kd G (valueAt lk l) (r.nx src l):=by
  rw [vT]
  cases hD:r.D src with
  | none =>
   refine (inEEEAAA d _ ([]) rfl (upd_self _ _ _) DictIs.new (fun l=>?_))
   have:r.nx src l=none:=by
    cases e:r.nx src l with
    | none=>rfl
    | some k=>refine unE (hN.sub _ _ _ e) fun b hb=>?_; rw [hD] at hb; exact nnS hb
   rw [this]; trivial
  | some D =>
   refine unEEAA (hN.inner src D hD) fun oI lk gI dI vI=>?_
   walk_at "p"; exact (inEEEAAA D oI lk rfl ((upd_ne (fun q:D=d=>by rw [q,hd] at gI; cases gI)).trans gI) (dI.up tp) vI)
 refine unEEEAAA hval fun D oI lk hv gI dI vI=>?_; clear hval
 rw [hv] at FJ5
 clear hv
 walk_at "r"
 refine x_bmethod FJ5 gI dI.1.1 dI.1.2.1 PySem.F.plainAttrs_dict PySem.F.slot_dict_get PySem.F.type_dict_get ?_
 walk_at "d"
 refine unEEAAAAA hN5.dAttr fun es' k'' hdx' e1' e2' e3' _ _=>?_
 refine x_attr (v:=.ref r.Df) FJ5 hN5.inst hdx' (by k_is) (by k_is) (by k_is) (by k_is) e2' rfl fun sJ6 FJ6=>?_
 clear FJ5
 refine unEEAA hN.dfs fun oD dk gD dD vD=>?_
 have gD':upd G d (dictOf [] 0) r.Df=some oD:=(upd_ne hDd).trans gD
 refine x_bmethod FJ6 gD' dD.1.1 dD.1.2.1 PySem.F.plainAttrs_dict PySem.F.slot_dict_get PySem.F.type_dict_get ?_
 walk_at "r"
 refine x_get2 (kd:=kd) (k:=src) FJ6 R'.in1 (kd.up hs tp) gD' (dD.up tp) fun sJ7 FJ7=>?_
 clear FJ6
 walk_at "r"
 refine x_get2 (kd:=kStr c) (k:=lab) FJ7 R'.in1 isKS gI dI fun sJ8 FJ8=>?_
 clear FJ7
 walk_at "p"; refine h _ _ (back _ _ _ (FJ8.forget hd)) ?_
 have hI:=vI lab
 have hDf:=vD src
 cases e1:r.nx src lab with
 | some k =>
  rw [e1] at hI
  cases e2:valueAt lk lab with
  | none=>rw [e2] at hI; exact hI.elim
  | some v=>rw [e2] at hI; exact hI
 | none =>
  rw [e1] at hI
  cases e2:valueAt lk lab with
  | some v=>rw [e2] at hI; exact hI.elim
  | none =>
   cases e3:r.df src with
   | some k =>
    rw [e3] at hDf
    cases e4:valueAt dk src with
    | none=>rw [e4] at hDf; exact hDf.elim
    | some v=>rw [e4] at hDf; exact hDf
   | none =>
    rw [e3] at hDf
    cases e4:valueAt dk src with
    | some v=>rw [e4] at hDf; exact hDf.elim
    | none=>rfl
end
end
section
section
variable {prog:Program} {w:World} {A:Around} {E:Value→Shared→Prop} {s:Shared}
theorem pyHash_none {Q:Int→Shared→Prop} (h:Q 0xFCA86420 { s with toks:=s.toks+1 }):wpAny (model prog w) A (pyHash .none) Q E s:=by
 have hT:s.TypeIs .none "NoneType" := rfl
 have hv:[Value.none].any Value.onHeap=false:=rfl
 refine wpAny_bind ?_
 rw [cRoomFor,if_neg (by rw [hv]; exact Bool.false_ne_true)]; refine wpAny_pure ?_
 refine wpAny_bind (wpAny_specialOf hT F.slot_NoneType_hash.lookup ?_)
 rw [if_neg (by rw [beq_builtin_none]; exact Bool.false_ne_true)]
 refine wpAny_bind (wpAny_specialOf hT F.slot_NoneType_hash.lookup ?_)
 refine wpAny_bind (wpAny_callSpecialIfBoundUnlessNone?_slot hT F.slot_NoneType_hash
  (wpAny_call_entry F.slot_NoneType_hash hT F.entry_NoneType_hash
   (show wpAny _ _ (do ret (← mkInt 0xFCA86420)) _ _ s from wpAny_ret_mkInt ?_) (F.args_NoneType_hash_1 _)))
 exact wpAny_pure h
theorem scan_none {a:Addr} {o:Obj} {es:Array (Int×Value)} {ep:Nat} {t:SetTable} {h:Int} {x:Value} {Q:ScanMet→Shared→Prop} (ho:s.heap.get? a=some o) (hd:o.data=.set es ep t) (hf:t.fits es.size=true) (hq:Q .absent s) :
  ∀ (l:List (Int×Value)) (i:Nat),(∀ e∈l,∀ (Q:Bool→Shared→Prop),Q false s→wpAny (model prog w) A (eqBool e.2 x) Q E s)→wpAny (model prog w) A (setScanFrom a x h false l i) Q E s:=by
 intro l
 induction l with
 | nil=>intro i _; unfold setScanFrom; exact wpAny_pure hq
 | cons e rest ih =>
  intro i hl
  obtain ⟨h',y⟩:=e
  have hr:=fun j=>ih j fun e he=>hl e (List.mem_cons_of_mem _ he)
  unfold setScanFrom
  by_cases hh:(h' == h)=true
  ·rw [if_pos hh]
   refine wpAny_bind (wpAny_setEpoch_of ho hd hf ?_)
   refine wpAny_bind (hl (h',y) List.mem_cons_self _ ?_)
   refine wpAny_bind (wpAny_setEpoch_of ho hd hf ?_)
   simp only [bne_self_eq_false,Bool.false_eq_true,↓reduceIte]
   exact hr _
  ·rw [if_neg hh]
   exact hr _
end
noncomputable def KdN {c:Cx} {K:Type} [DecidableEq K] (kd:Kd c K):Prop :=
 ∀ {O:List (Addr×Obj)} {L:Addr} {G:View} {m:Str→Option Value} {s:Shared} {A:Around} {E:Value→Shared→Prop} {a:Addr} {o:Obj} {l:List K} {Q:Option Nat→Shared→Prop} (hh:Int),
  Fx c O L G m s→A.units<cLine→G a=some o→SetIs kd G o l→l.length<1000→Q none s→wpAny (model c.prog c.w) A (setFind a .none hh) Q E s
section
variable {c:Cx}
theorem kdnInt:KdN (kInt c):=fun {O L G m s A E a o l Q} hh F hu hg hS hl h=>by
 refine unAEEEEAAAAAA hS fun h1 es ep t ks h2 h4 h5 h6 h7 h8 h9=>?_; clear hS
 have hint:∀ e∈es.toList,∃ n u,e.2=.int n u:=fun e he=>by
  refine unEAA (h4.left he) fun k _ r1 r2=>?_
  refine unE (Value.isInt_shape (show e.2.isInt k=true from r1)) fun u e2=>?_
  exact (inEE k u e2)
 have hsz:es.size=l.length:=by rw [← Array.length_toList,h4.length,h5.length_eq]
 refine wpAny_bind (wpAny_setState_of (F.get hg) h2 h7.fits' ?_)
 dsimp only
 have hb:byScan .none es=true:=by
  unfold byScan
  rw [Bool.and_eq_true,Bool.and_eq_true]
  refine ⟨⟨rfl,decide_eq_true (by unfold scanBound; exact a20 53242534463611294868832008536343 hl hsz)⟩,?_⟩
  rw [Array.all_eq_true_iff_forall_mem]
  intro e he
  refine unEE (hint e (Array.mem_toList_iff.mpr he)) fun n u e2=>?_
  rw [e2]; rfl
 rw [if_pos hb]
 refine wpAny_bind (wpAny_rule ?_)
 refine wpAny_bind ?_
 unfold setScan
 refine scan_none (F.get hg) h2 h7.fits' ?_ _ _ fun e he Q' hq'=>?_
 ·exact wpAny_pure h
 ·refine unEE (hint e he) fun n u e2=>?_
  rw [e2]
  exact PySem.SeqAt.EqAt.int_none n u _ _ _ _ hq'
theorem kdnTup:KdN (kTup c):=fun {O L G m s A E a o l Q} hh F hu hg hS hl h=>by
 refine unAEEEEAAAAAA hS fun h1 es ep t ks h2 h4 h5 h6 h7 h8 h9=>?_; clear hS
 have htup:∀ e∈es.toList,∃ b k,e.2=.ref b∧IsTupleKey (intKind c.prog c.w) s.heap k b:=fun e he=>by
  refine unEAA (h4.left he) fun k _ r1 r2=>?_
  refine unEA (kTup_key F r1) fun b e2 hb=>?_
  exact (inEEA b k e2 hb)
 have heq:∀ e∈es.toList,∀ (Q:Bool→Shared→Prop),Q false s→wpAny (model c.prog c.w) A (eqBool e.2 .none) Q E s:=fun e he Q' hq'=>by
  refine unEEA (htup e he) fun b k e2 w18=>unEEEAAA w18 fun ob items nb i1 i2 i3 i4=>?_; clear w18
  rw [e2]
  exact PySem.SeqAt.EqAt.tuple_none (inEAAE ob i1 i2 nb i3) hu _ _ _ _ hq'
 refine wpAny_bind (wpAny_setState_of (F.get hg) h2 h7.fits' ?_)
 dsimp only
 split
 ·refine wpAny_bind (wpAny_rule ?_)
  refine wpAny_bind ?_
  unfold setScan
  refine scan_none (F.get hg) h2 h7.fits' ?_ _ _ heq
  exact wpAny_pure h
 ·refine wpAny_bind ?_
  refine search_go (tst:=fun i=>false) (F.get hg) h2 h7 ?_ ?_ ?_ _ _ _ [] 100000 none _ (pw_start t _) rfl rfl (fun z hz=>(niP hz)) rfl ?_ ?_ ?_
  ·intro e he
   refine unEEA (htup e he) fun b k e2 _=>?_
   exact ⟨b,e2⟩
  ·intro l' Q' hl' hq'
   refine couldBeSeen_false quiet_none (fun y hy=>?_) hq'
   refine unEA (hl' y hy) fun e he e2=>?_
   refine unEEA (htup e he) fun b k e3 hb=>?_
   rw [← e2,e3]
   exact quiet_tuple hb
  ·intro i y Q' hey hq'
   exact heq _ (List.mem_of_getElem? (by rw [Array.getElem?_toList]; exact hey)) _ hq'
  ·have:=walk_len t.mask hh
   unfold SetTable.turns at this
   exact a20 482308084866767835506974333327997387931043854188823 h8 this
  ·intro i _ hi; exact ftP hi
  ·intro j _ _ _ _
   exact wpAny_pure h
end
section
variable {c:Cx} {K:Type} [DecidableEq K] {kd:Kd c K} {O:List (Addr×Obj)} {L:Addr} {G:View} {m:Str→Option Value} {A:Around} {E:Value→Shared→Prop} {s:Shared} {n:Nat} {a b d:Addr} {r:DRep K} {o:Obj} {l:List K}
theorem x_in_set_none {Q:Value→Shared→Prop} (hS:KdN kd) (F:Fx c O L G m s) (hu:A.in1.units<cLine) (hg:G a=some o) (hI:SetIs kd G o l) (hl:l.length<1000)
  (h:∀ s',Fx c O L G m s'→Q (.bool false) s'):wpAny (model c.prog c.w) A (compareOp .In .none (.ref a)) Q E s:=by
 have hT:=hI.typeIs (F.get hg)
 refine wpAny_bind ?_
 unfold contains
 try with_reducible refine wpAny_holding ?_
 refine wpAny_bind (wpAny_specialOf hT PySem.F.slot_set_contains.lookup ?_)
 rw [if_neg (by rw [beq_builtin_none]; exact Bool.false_ne_true)]
 refine wpAny_bind (wpAny_callSpecialUnlessNone?_slot (name:=Str.ofString "__contains__") hT PySem.F.slot_set_contains
  (wpAny_call_entry PySem.F.slot_set_contains hT entry_set_contains ?_ (PySem.F.args_set_contains_2 _ _)))
 unfold Builtin.«frozenset.__contains__» Builtin.Frozenset.oneOther
 simp only [List.isEmpty_nil,bind_assoc]
 refine wpAny_bind (wpAny_pure ?_)
 refine wpAny_bind (wpAny_pure ?_)
 refine wpAny_bind (wpAny_tryCatch ?_)
 refine wpAny_holding ?_
 refine wpAny_bind (pyHash_none ?_)
 have F1:=F.eta (t:=s.toks+1) (d:=s.drawn)
 refine wpAny_bind (hS 0xFCA86420 F1 hu hg hI hl ?_)
 refine wpAny_pure ?_
 exact wpAny_pure (inEA _ rfl (wpAny_truthy_bool (wpAny_pure (h _ F1))))
end
end
section
noncomputable def fx128:{ fd:FuncData // FdAt 128 fd }:=⟨_,fun P=>(inEEE _ _ _ (by k_is))⟩
noncomputable def fd128:FuncData:=fx128.1
theorem dflt121 (P):∃ o n,(hd.heap_39 P).lookup 121=some o∧o.data=.seq #[.bool false] n:=(inEEA _ _ (by k_is) rfl)
section
variable {c:Cx} {K:Type} [DecidableEq K] {kd:Kd c K} {O:List (Addr×Obj)} {L:Addr} {G:View} {m:Str→Option Value} {A:Around} {E:Value→Shared→Prop} {s:Shared} {n:Nat} {a b d:Addr} {r:DRep K}
theorem d_is_final_none {Q:Value→Shared→Prop} (hS:KdN kd) (F:Fx c O L G m s) (R:Room A (n+1)) (hN:DfaAt c kd G a r)
  (h:∀ s',Fx c O L G m s'→Q (.bool false) s') :
  wpAny (model c.prog c.w) A (call (.ref 280) [.ref a,.none] []) Q E s:=by
 refine unEEE (fx280.2 c.w.params) fun oc od osl ho=>?_
 refine enter F (fd:=fd280) (binds:=[("self",.ref a),("state",.none)]) ho rfl (by kernel_rfl) R.dl (BindsTo.of_eq rfl) rfl (by decide) (locs rfl) rfl rfl rfl fun sJ1 L' O' FJ1 back=>?_
 have R':=R.deeper (env:=cenv fd280 L' 280)
 generalize A.deeper (cenv fd280 L' 280)=A' at R' ⊢
 clear F
 walk_at "r"
 refine unEEAAAAA hN.dAttr fun es k' hdx e1 e2 e3 y1 e5=>?_; refine unEAA y1 fun vi e4 hi hh=>?_; clear y1
 refine x_attr (v:=.ref r.Fs) FJ1 hN.inst hdx (by k_is) (by k_is) (by k_is) (by k_is) e3 rfl fun sJ2 FJ2=>?_
 clear FJ1
 obtain ⟨oF,gF,sF⟩:=hN.fs
 refine x_in_set_none hS FJ2 R'.in1 gF sF (Nat.lt_of_le_of_lt (hN.finLen sF) (by decide)) fun sJ3 FJ3=>?_
 walk_at "p"; exact h _ (back _ _ _ FJ3)
noncomputable def DRep.next (r:DRep K) (k:K) (l:Str):Option K:=(r.nx k l).or (r.df k)
noncomputable def DRep.run (r:DRep K) (k:K) (cs:List Nat):Option K:=cs.foldlM (fun k cp=>r.next k ⟨#[cp]⟩) k
noncomputable def DRep.acc (r:DRep K) (cs:List Nat):Prop:=∃ k,r.run r.ini cs=some k∧k∈r.fin
noncomputable def KdTr (kd:Kd c K) (P:K→Prop):Prop:=∀ {O:List (Addr×Obj)} {L:Addr} {G:View} {m:Str→Option Value} {s:Shared} {A:Around} {E:Value→Shared→Prop} {k:K} {v:Value} {Q:Bool→Shared→Prop},
 Fx c O L G m s→kd.is G k v→P k→(∀ s',Fx c O L G m s'→Q true s')→wpAny (model c.prog c.w) A (truthy v) Q E s
noncomputable def DRep.trueStates (r:DRep K) (P:K→Prop):Prop:=∀ k l k',r.next k l=some k'→P k'
theorem DRep.run_take {k:K} {cs:List Nat} {i:Nat} {cp:Nat} (h:cs[i]?=some cp):r.run k (cs.take (i+1))=(r.run k (cs.take i)).bind fun k'=>r.next k' ⟨#[cp]⟩:=by
 unfold DRep.run
 rw [List.take_add_one,h,Option.toList_some,List.foldlM_append]
 simp
theorem DRep.run_none {k:K} {cs:List Nat} {i:Nat} (h:r.run k (cs.take i)=none):r.run k cs=none:=by
 unfold DRep.run at *
 rw [← List.take_append_drop i cs,List.foldlM_append,h]
 rfl
theorem d_accept {P:K→Prop} {word:Str} {t:Tok} {Q:Value→Shared→Prop} (hS:KdS kd) (hNn:KdN kd) (hTr:KdTr kd P) (F:Fx c O L G m s) (R:Room A (n+2)) (hN:DfaAt c kd G a r) (hP:r.trueStates P) (hw:word.cps.all (·<128)=true)
  (h:∀ s' b,Fx c O L G m s'→(b=true↔r.acc word.cps.toList)→Q (.bool b) s') :
  wpAny (model c.prog c.w) A (call (.ref 128) [.ref a,.str word t] []) Q E s:=by
 refine unEEA (dflt121 c.w.params) fun oT nT hoT hdT=>?_
 refine unEEE (fx128.2 c.w.params) fun oc od osl ho=>?_
 refine enter F (fd:=fd128) (binds:=[("self",.ref a),("string",.str word t),("debug",.bool false)]) ho rfl (by kernel_rfl) R.dl (BindsTo.of_defaults rfl (F.K _ _ hoT) hdT rfl rfl) rfl (by decide) (locs rfl) rfl rfl rfl fun sJ1 L' O' FJ1 back=>?_
 have R':=R.deeper (env:=cenv fd128 L' 128)
 generalize A.deeper (cenv fd128 L' 128)=A' at R' ⊢
 clear F
 walk_at "r"
 refine unEEAAAAA hN.dAttr fun es k' hdx _ _ _ _ wd=>?_
 refine x_method FJ1 (C:=327) (f:=252) hN.inst hdx (by k_is) (by k_is) (by k_is) wd.2.1 ?_
 refine x_args0 FJ1 (by k_is) ?_
 refine d_start FJ1 R' hN fun sJ2 vJ0 FJ2 hvJ0=>?_
 clear FJ1
 refine x_store FJ2 rfl rfl (let MJ3:=setL _ _ _; fun sJ3 (FJ3:Fx _ _ _ _ MJ3 sJ3)=>?_)
 clear FJ2
 walk_at "r"
 refine x_iter_str FJ3 hw fun I sJ4 oI hI FJ4=>?_
 clear FJ3
 refine x_forLoop (It.str word t) R'.handled FJ4 hI rfl rfl (fun i G' m'=>G'=G∧m' "self" = some (.ref a)∧∃ k v,m' "state" = some v∧kd.is G k v∧r.run r.ini (word.cps.toList.take i)=some k)
  (inAA rfl rfl (inEEAA r.ini vJ0 rfl hvJ0 rfl)) (fun i G' m' _=>trivial) ?body ?fin
 case body =>
  intro i w OJ2 G' m' sJ7 hi' z1 z2 FJ7 Qt hQt; refine unEEA z1 fun cp tk hcp y2=>?_; clear z1; subst y2; refine unAAEEAA z2 fun y3 q1 k v q2 hk hrun=>?_; clear z2; clear hvJ0 FJ4; subst y3
  walk_at "r"
  refine x_method FJ7 (C:=327) (f:=287) hN.inst hdx (by k_is) (by k_is) (by k_is) wd.2.2.1 ?_
  refine x_args FJ7 (by k_is) ?_
  walk_at "r"
  walk_at "p"; refine ⟨FJ7.K,?_⟩
  refine d_next_state FJ7 R' hN hk fun sJ8 w FJ8 hm=>?_
  clear FJ7
  refine x_store FJ8 rfl rfl (let MJ9:=setL _ _ _; fun sJ9 (FJ9:Fx _ _ _ _ MJ9 sJ9)=>?_)
  clear FJ8
  have hcp':word.cps.toList[i]?=some cp:=by rw [Array.getElem?_toList]; exact hcp
  have hstep:=r.run_take (k:=r.ini) hcp'
  rw [hrun] at hstep
  have hstep:r.run r.ini (word.cps.toList.take (i+1))=r.next k ⟨#[cp]⟩:=hstep
  walk_at "r"
  cases hnx:r.next k ⟨#[cp]⟩ with
  | some kJ2 =>
   have hm:kd.is G' kJ2 w:=by unfold DRep.next at hnx; rw [hnx] at hm; exact hm
   refine hTr FJ9 hm (hP _ _ _ hnx) fun sJ10 FJ10=>?_
   clear FJ9
   refine ite_ff ?_
   walk_at "r"
   walk_at "p"; exact (inEEAAA G' _ FJ10 rfl q1 (inEEAA kJ2 w rfl hm (hstep.trans hnx)))
  | none =>
   have hm:w=.none:=by unfold DRep.next at hnx; rw [hnx] at hm; exact hm
   subst hm
   refine truthy_none ?_
   refine ite_tt ?_
   walk_at "r"
   try refine wpAny_Break ?_
   walk_at "p"; refine ⟨G',_,FJ9,fun sJ11 FJ11=>?_⟩
   walk_at "r"
   refine x_method FJ11 (C:=327) (f:=280) hN.inst hdx (by k_is) (by k_is) (by k_is) wd.2.2.2.1 ?_
   refine x_args FJ11 (by k_is) ?_
   walk_at "r"
   walk_at "p"; refine ⟨FJ11.K,?_⟩
   refine d_is_final_none hNn FJ11 R' hN fun sJ12 FJ12=>?_
   walk_at "p"; refine h _ _ (back _ _ _ FJ12) ⟨fun e=>(ftP e),fun v1=>unEA v1 fun kJ2 e _=>?_⟩
   rw [DRep.run_none (hstep.trans hnx)] at e; exact nnS e
 case fin =>
  intro G' m' sJ7 z3 FJ7; refine unAAEEAA z3 fun y4 q1 k v q2 hk hrun=>?_; clear z3; (replace y4:=y4.symm; subst y4)
  walk_at "r"
  refine x_method FJ7 (C:=327) (f:=280) hN.inst hdx (by k_is) (by k_is) (by k_is) wd.2.2.2.1 ?_
  refine x_args FJ7 (by k_is) ?_
  walk_at "r"
  walk_at "p"; refine ⟨FJ7.K,?_⟩
  refine d_is_final hS FJ7 R' hN hk fun sJ12 b FJ12 hb=>?_
  walk_at "p"; refine h _ _ (back _ _ _ FJ12) ?_
  rw [hb]
  have hr:r.run r.ini word.cps.toList=some k:=by rw [List.take_of_length_le (by simp)] at hrun; exact hrun
  walk_at "p"; exact ⟨fun q=>(inEA k hr q),fun v2=>unEA v2 fun kJ2 e q=>by rw [hr] at e; cases e; exact q⟩
end
end
section
section
variable {c:Cx} {O:List (Addr×Obj)} {L:Addr} {G:View} {m:Str→Option Value} {A:Around} {E:Value→Shared→Prop} {s:Shared} {n:Nat} {a b d:Addr} {r:Rep}
noncomputable def Rep.after (r:Rep) (cs:List Nat):Int→Prop:=cs.foldl (fun P cp k=>∃ s,P s∧∃ d,r.out s ⟨#[cp]⟩ d∧Eps r.E d k) (fun k=>Eps r.E r.ini k)
noncomputable def Rep.acc (r:Rep) (cs:List Nat):Prop:=∃ k,k∈r.fin∧r.after cs k
theorem Rep.after_take {r:Rep} {cs:List Nat} {i cp:Nat} (h:cs[i]?=some cp) (k:Int):r.after (cs.take (i+1)) k↔∃ s,r.after (cs.take i) s∧∃ d,r.out s ⟨#[cp]⟩ d∧Eps r.E d k:=by
 unfold Rep.after
 rw [List.take_add_one,h,Option.toList_some,List.foldl_append]
 rfl
theorem Rep.after_none {r:Rep} {cs:List Nat} {i:Nat} (h:∀ k,¬ r.after (cs.take i) k) (k:Int):¬ r.after cs k:=by
 have:∀ (l:List Nat) (P:Int→Prop),(∀ k,¬ P k)→∀ k,¬ l.foldl (fun (P:Int→Prop) cp k=>∃ s,P s∧∃ d,r.out s ⟨#[cp]⟩ d∧Eps r.E d k) P k:=by
  intro l
  induction l with
  | nil=>intro P hP k; exact hP k
  | cons x xs ih=>intro P hP k; exact ih _ (fun k' v1=>unEA v1 fun s hs _=>hP s hs) k
 have h2:=this (cs.drop i) _ h k
 unfold Rep.after at h2 ⊢
 rw [← List.foldl_append,List.take_append_drop] at h2
 walk_at "p"; exact h2
theorem sorted_len {ks:List Int} (h:ks.Pairwise (·<·)) (hb:∀ k∈ks,0≤k∧k<60):ks.length≤60 :=
 len_range (n:=60) (List.nodup_iff_pairwise_ne.mpr (h.imp fun {a b} q=>by exact fun z0=>a02 53590456098517 q z0)) fun k hk=>by exact_mod_cast hb k hk
theorem Rep.small.reach {r:Rep} {ks:List Int} {lab:Str} {k:Int} (h:r.small) (q:∃ s∈ks,∃ d,r.out s lab d∧Eps r.E d k):0≤k∧k<60:=by
 refine unEAEA q fun s _ d ho he=>?_; clear q
 walk_at "p"; exact h.eps (ho.elim (h.2 _ _ _) (h.2 _ _ _)) he
theorem n_accept {word:Str} {t:Tok} {Q:Value→Shared→Prop} (F:Fx c O L G m s) (R:Room A (n+4)) (hN:NfaAt c G a r) (hthin:r.thin) (hsm:r.small) (hw:word.cps.all (·<128)=true)
  (h:∀ s' b,Fx c O L G m s'→(b=true↔r.acc word.cps.toList)→Q (.bool b) s') :
  wpAny (model c.prog c.w) A (call (.ref 128) [.ref a,.str word t] []) Q E s:=by
 refine unEEA (dflt121 c.w.params) fun oT nT hoT hdT=>?_
 refine unEEE (fx128.2 c.w.params) fun oc od osl ho=>?_
 refine enter F (fd:=fd128) (binds:=[("self",.ref a),("string",.str word t),("debug",.bool false)]) ho rfl (by kernel_rfl) R.dl (BindsTo.of_defaults rfl (F.K _ _ hoT) hdT rfl rfl) rfl (by decide) (locs rfl) rfl rfl rfl fun sJ1 L' O' FJ1 back=>?_
 have R':=R.deeper (env:=cenv fd128 L' 128)
 generalize A.deeper (cenv fd128 L' 128)=A' at R' ⊢
 clear F
 walk_at "r"
 refine unEEEEE hN.attrs fun u1 u2 u3 tk0 k0 hdx=>?_
 refine x_method FJ1 (C:=229) (f:=163) hN.inst hdx (by k_is) (by k_is) (by k_is) rfl ?_
 refine x_args0 FJ1 (by k_is) ?_
 refine nfa_start FJ1 R' hN hthin hsm fun sJ2 T oT ks hT FJ2 hvJ0 hks hmJ0=>?_
 clear FJ1
 have le0:Le G (upd G T oT):=Le.alloc hT
 generalize upd G T oT=GJ0 at *
 refine x_store FJ2 rfl rfl (let MJ3:=setL _ _ _; fun sJ3 (FJ3:Fx _ _ _ _ MJ3 sJ3)=>?_)
 clear FJ2
 walk_at "r"
 refine x_iter_str FJ3 hw fun I sJ4 oI hI FJ4=>?_
 clear FJ3
 have hN_:∀ {G'},Le G G'→NfaAt c G' a r:=fun le=>hN.mono (fun b o _ e=>le b o e) le.tups
 refine x_forLoop (It.str word t) R'.handled FJ4 hI rfl rfl (fun i G' m'=>Le G G'∧m' "self" = some (.ref a)∧∃ ks v,m' "state" = some v∧(kTup c).is G' ks v∧∀ k,k∈ks↔r.after (word.cps.toList.take i) k)
  (inAA le0 rfl (inEEAA ks _ rfl hvJ0 hmJ0)) (fun i G' m' _=>trivial) ?body ?fin
 case body =>
  intro i w OJ2 G' m' sJ7 hi' z1 z2 FJ7 Qt hQt; refine unEEA z1 fun cp tk hcp y1=>?_; clear z1; subst y1; refine unAAEEAA z2 fun le q1 ksJ1 v q2 hk hrun=>?_; clear z2
  have N:=hN_ le
  walk_at "r"
  refine x_method FJ7 (C:=229) (f:=198) N.inst (le _ _ hdx) (by k_is) (by k_is) (by k_is) rfl ?_
  refine x_args FJ7 (by k_is) ?_
  walk_at "r"
  walk_at "p"; refine ⟨FJ7.K,?_⟩
  refine nfa_next_state FJ7 R' N hthin hsm hk fun sJ8 TJ2 oTJ2 ksJ2 hTJ2 FJ8 hvJ2 hksJ2 hmJ2=>?_
  clear FJ7
  have le2:=le.trans (Le.alloc (o:=oTJ2) hTJ2)
  generalize upd G' TJ2 oTJ2=GJ2 at *
  refine x_store FJ8 rfl rfl (let MJ9:=setL _ _ _; fun sJ9 (FJ9:Fx _ _ _ _ MJ9 sJ9)=>?_)
  clear FJ8
  have hcp':word.cps.toList[i]?=some cp:=by rw [Array.getElem?_toList]; exact hcp
  have hstep:∀ k,k∈ksJ2↔r.after (word.cps.toList.take (i+1)) k:=fun k=>by
   rw [hmJ2,Rep.after_take hcp']
   constructor
   ·intro z3; refine unEA z3 fun s hs q=>?_; clear z3; exact (inEA s ((hrun s).mp hs) q)
   ·intro z4; refine unEA z4 fun s hs q=>?_; clear z4; exact (inEA s ((hrun s).mpr hs) q)
  walk_at "r"
  refine unEEEAAA (kTup_is hvJ2) fun tt ot vs e1 gt ht zt=>?_
  cases e1
  have hvl:vs.length<100000:=by
   rw [zt.length]
   walk_at "p"; exact Nat.lt_of_le_of_lt (sorted_len hksJ2 fun k hk=>hsm.reach ((hmJ2 k).mp hk)) (by decide)
  refine x_truthyTup FJ9 gt ht hvl fun sJ10 FJ10=>?_
  clear FJ9
  cases vs with
  | cons x xs =>
   refine ite_ff ?_
   walk_at "r"
   walk_at "p"; exact (inEEAAA GJ2 _ FJ10 le2 q1 (inEEAA ksJ2 _ rfl hvJ2 hstep))
  | nil =>
   refine ite_tt ?_
   walk_at "r"
   walk_at "p"; refine (inEEA GJ2 _ FJ10 (fun sJ11 FJ11=>?_))
   have hN2:=hN_ le2
   walk_at "r"
   refine x_method FJ11 (C:=229) (f:=184) hN2.inst (le2 _ _ hdx) (by k_is) (by k_is) (by k_is) rfl ?_
   refine x_args FJ11 (by k_is) ?_
   walk_at "r"
   walk_at "p"; refine ⟨FJ11.K,?_⟩
   refine nfa_is_final FJ11 R' hN2 hvJ2 fun sJ12 b FJ12 hb=>?_
   walk_at "p"; refine h _ _ (back _ _ _ (FJ12.less le2)) ?_
   have hno:∀ k,¬ r.after (word.cps.toList.take (i+1)) k:=fun k hk=>by
    have:=(hstep k).mpr hk
    clear hksJ2 hmJ2 hvJ2 hstep hb; cases zt
    exact niP this
   rw [hb]
   constructor
   ·intro z5; refine unEA z5 fun k _ hk=>?_; clear z5; exact absurd ((hstep k).mp hk) (hno k)
   ·intro z6; refine unEA z6 fun k _ hk=>?_; clear z6; exact absurd hk (Rep.after_none hno k)
 case fin =>
  intro G' m' sJ7 z7 FJ7; refine unAAEEAA z7 fun le q1 ksJ1 v q2 hk hrun=>?_; clear z7
  have N:=hN_ le
  walk_at "r"
  refine x_method FJ7 (C:=229) (f:=184) N.inst (le _ _ hdx) (by k_is) (by k_is) (by k_is) rfl ?_
  refine x_args FJ7 (by k_is) ?_
  walk_at "r"
  walk_at "p"; refine ⟨FJ7.K,?_⟩
  refine nfa_is_final FJ7 R' N hk fun sJ12 b FJ12 hb=>?_
  walk_at "p"; refine h _ _ (back _ _ _ (FJ12.less le)) ?_
  have hr:word.cps.toList.take word.cps.size=word.cps.toList:=List.take_of_length_le (by simp)
  rw [hr] at hrun
  rw [hb]
  constructor
  ·intro z8; refine unEA z8 fun k h1 h2=>?_; clear z8; exact (inEA k h1 ((hrun k).mp h2))
  ·intro z9; refine unEA z9 fun k h1 h2=>?_; clear z9; exact (inEA k h1 ((hrun k).mpr h2))
end
end
section
section
variable {c:Cx} {G G' G'':View} {a d Fr S:Addr} {r:Rep} {q q':DRep (List Int)} {fks fks':List (List Int)} {sn sn':List (List Int)}
structure Td (c:Cx) (G G':View) (a d Fr S:Addr) (r:Rep) (q:DRep (List Int)) (fks sn:List (List Int)):Prop where
 nfa:NfaAt c G a r
 le:Le G G'
 dfa:DfaAt c (kTup c) G' d q
 new:∀ b,q.has d b→G b=none
 fr:∃ fvs kf,G' Fr=some (lst fvs kf)∧KeysAre (kTup c) G' fvs fks
 frN:G Fr=none
 frD:¬ q.has d Fr
 st:∃ o,G' S=some o∧SetIs (kTup c) G' o sn
 sN:G S=none
 sD:¬ q.has d S
 FS:Fr≠S
theorem Td.nfa' (h:Td c G G' a d Fr S r q fks sn):NfaAt c G' a r:=h.nfa.mono (fun b o _ e=>h.le b o e) h.le.tups
theorem Td.grow (h:Td c G G' a d Fr S r q fks sn) (le2:Le G' G''):Td c G G'' a d Fr S r q fks sn:=by
 refine unEEA h.fr fun fvs kf g1 z1=>?_
 refine unEA h.st fun o g2 z2=>?_
 exact ⟨h.nfa,h.le.trans le2,h.dfa.mono (fun b o _ e=>le2 b o e) le2.tups,h.new,(inEEA fvs kf (le2 _ _ g1) (z1.up le2.tups)),h.frN,h.frD,(inEA o (le2 _ _ g2) (z2.up le2.tups)),h.sN,h.sD,h.FS⟩
theorem Td.setFr {vs:List Value} {k:Nat} (h:Td c G G' a d Fr S r q fks sn) (z:KeysAre (kTup c) G' vs fks'):Td c G (upd G' Fr (lst vs k)) a d Fr S r q fks' sn:=by
 refine unEEA h.fr fun fvs kf g1 z1=>?_
 refine unEA h.st fun o g2 z2=>?_
 have tp:Tups G' (upd G' Fr (lst vs k)):=.upd g1 (by intro e; exact absurd (show Value.type "list" = Value.type "tuple" from e) (by decide))
 exact ⟨h.nfa,h.le.set h.frN,h.dfa.mono (fun b o hb e=>(upd_ne (fun q:b=Fr=>h.frD (q▸hb))).trans e) tp,h.new,(inEEA vs k (upd_self _ _ _) (z.up tp)),h.frN,h.frD,(inEA o ((upd_ne h.FS.symm).trans g2) (z2.up tp)),h.sN,h.sD,h.FS⟩
theorem Td.setS {o':Obj} (h:Td c G G' a d Fr S r q fks sn) (z:SetIs (kTup c) (upd G' S o') o' sn'):Td c G (upd G' S o') a d Fr S r q fks sn':=by
 refine unEEA h.fr fun fvs kf g1 z1=>?_
 refine unEA h.st fun o g2 z2=>?_
 have tp:Tups G' (upd G' S o'):=.upd g2 z2.notTup
 exact ⟨h.nfa,h.le.set h.sN,h.dfa.mono (fun b o hb e=>(upd_ne (fun q:b=S=>h.sD (q▸hb))).trans e) tp,h.new,(inEEA fvs kf ((upd_ne h.FS).trans g1) (z1.up tp)),h.frN,h.frD,(inEA o' (upd_self _ _ _) z),h.sN,h.sD,h.FS⟩
theorem Td.setD (h:Td c G G' a d Fr S r q fks sn) (hd:DfaAt c (kTup c) G'' d q') (st:Step G' G'' (q.has d) (q'.has d)):Td c G G'' a d Fr S r q' fks sn:=by
 refine unEEA h.fr fun fvs kf g1 z1=>?_
 refine unEA h.st fun o g2 z2=>?_
 have tp:=h.dfa.tups st
 refine ⟨h.nfa,fun b o e=>st.keep b o (h.le b o e) fun hb=>(by rw [h.new b hb] at e; exact nnS e),hd,fun b hb=>?_,(inEEA fvs kf (st.keep _ _ g1 h.frD) (z1.up tp)),h.frN,fun hb=>?_,(inEA o (st.keep _ _ g2 h.sD) (z2.up tp)),h.sN,fun hb=>?_,h.FS⟩
 ·rcases st.new b hb with hb | hb
  ·exact h.new b hb
  ·cases e:G b with
   | none=>rfl
   | some o=>rw [h.le b o e] at hb; exact snN hb
 ·rcases st.new _ hb with hb | hb
  ·exact h.frD hb
  ·rw [g1] at hb; exact snN hb
 ·rcases st.new _ hb with hb | hb
  ·exact h.sD hb
  ·rw [g2] at hb; exact snN hb
end
end
section
theorem key_ext:∀ {xs ys:List Int},xs.Pairwise (·<·)→ys.Pairwise (·<·)→(∀ k,k∈xs↔k∈ys)→xs=ys
 | [],[],_,_,_=>rfl
 | [],y::ys,_,_,h=>absurd ((h y).mpr List.mem_cons_self) (List.not_mem_nil)
 | x::xs,[],_,_,h=>absurd ((h x).mp List.mem_cons_self) (List.not_mem_nil)
 | x::xs,y::ys,hx,hy,h=>by
  rw [List.pairwise_cons] at hx hy
  have hxy:x=y:=by
   rcases List.mem_cons.mp ((h x).mp List.mem_cons_self) with e | e
   ·exact e
   ·rcases List.mem_cons.mp ((h y).mpr List.mem_cons_self) with e' | e'
    ·exact e'.symm
    ·have h1:=hy.1 x e
     have h2:=hx.1 y e'
     exact Int.le_antisymm (a02 56193666024176893655 h1 h2) (a02 56193666024176893686 h1 h2)
  subst hxy
  rw [key_ext hx.2 hy.2 fun k=>?_]
  constructor
  ·intro hk
   rcases List.mem_cons.mp ((h k).mp (List.mem_cons_of_mem _ hk)) with e | e
   ·clear hy h; subst e; exact absurd (hx.1 k hk) (by exact a01 53974)
   ·exact e
  ·intro hk
   rcases List.mem_cons.mp ((h k).mpr (List.mem_cons_of_mem _ hk)) with e | e
   ·clear hx h; subst e; exact absurd (hy.1 k hk) (by exact a01 53974)
   ·exact e
open Classical in
noncomputable def keyOf (P:Int→Prop):List Int:=((List.range 60).map Int.ofNat).filter fun k=>decide (P k)
theorem keyOf_sorted (P:Int→Prop):(keyOf P).Pairwise (·<·):=by
 refine List.Pairwise.filter _ ?_
 rw [List.pairwise_map]
 exact List.pairwise_lt_range.imp fun {a b} h=>by simpa using h
theorem mem_keyOf {P:Int→Prop} (h:∀ k,P k→0≤k∧k<60) (k:Int):k∈keyOf P↔P k:=by
 unfold keyOf
 rw [List.mem_filter,List.mem_map]
 constructor
 ·intro z1; obtain ⟨_,h⟩:=z1; simpa using h
 ·intro hp
  refine ⟨(inEA k.toNat ?_ ?_),by simpa using hp⟩
  ·have:=h k hp; rw [List.mem_range]; exact a11 1947113653590734370879903484670230 this.2 (Int.toNat_of_nonneg (a01 1638731398854 this.1))
  ·have:=h k hp; show (k.toNat:Int)=k; exact Int.le_antisymm (a11 1748418910738614 (Int.toNat_of_nonneg (a01 1638731398854 this.1))) (a11 1783603282810582 (Int.toNat_of_nonneg (a01 1638731398854 this.1)))
theorem keyOf_eq {P:Int→Prop} {ks:List Int} (hs:ks.Pairwise (·<·)) (h:∀ k,P k→0≤k∧k<60) (hm:∀ k,k∈ks↔P k):ks=keyOf P :=
 key_ext hs (keyOf_sorted P) fun k=>by rw [hm,mem_keyOf h]
noncomputable def Rep.key0 (r:Rep):List Int:=keyOf fun k=>Eps r.E r.ini k
noncomputable def Rep.delta (r:Rep) (ks:List Int) (l:Str):List Int:=keyOf fun k=>∃ s∈ks,∃ d,r.out s l d∧Eps r.E d k
noncomputable def Rep.labs (r:Rep) (ks:List Int) (l:Str):Prop:=∃ s∈ks,∃ b,r.S s l=some b
theorem Rep.key0_eq {r:Rep} {ks:List Int} (hsm:r.small) (hs:ks.Pairwise (·<·)) (hm:∀ k,k∈ks↔Eps r.E r.ini k):ks=r.key0:=keyOf_eq hs (fun _ hk=>hsm.eps hsm.1 hk) hm
theorem Rep.delta_eq {r:Rep} {ks ks':List Int} {l:Str} (hsm:r.small) (hs:ks'.Pairwise (·<·)) (hm:∀ k,k∈ks'↔∃ s∈ks,∃ d,r.out s l d∧Eps r.E d k):ks'=r.delta ks l:=keyOf_eq hs (fun _ hk=>hsm.reach hk) hm
theorem Rep.mem_key0 {r:Rep} (hsm:r.small) (k:Int):k∈r.key0↔Eps r.E r.ini k:=mem_keyOf (fun _ hk=>hsm.eps hsm.1 hk) k
theorem Rep.mem_delta {r:Rep} (hsm:r.small) (ks:List Int) (l:Str) (k:Int):k∈r.delta ks l↔∃ s∈ks,∃ d,r.out s l d∧Eps r.E d k:=mem_keyOf (fun _ hk=>hsm.reach hk) k
structure Rep.Home (r:Rep) (U:List (List Int)):Prop where
 ini:r.key0∈U
 step:∀ ks∈U,∀ l,r.labs ks l→l≠EPS→r.delta ks l∈U
 size:U.length≤150
end
section
noncomputable def Rep.finK (r:Rep) (ks:List Int):Prop:=∃ x,x∈r.fin∧x∈ks
structure Wd (r:Rep) (U:List (List Int)) (q:DRep (List Int)) (fks sn:List (List Int)) (Vis:List Int→Prop) (Pr:List Int→Str→Prop):Prop where
 home:q.U=U
 ini:q.ini=r.key0
 frU:∀ k∈fks,k∈U
 snU:∀ k∈sn,k∈U
 todo:∀ k,k=r.key0∨k∈sn→k∈fks∨Vis k
 nxS:∀ k l k',q.nx k l=some k'→r.labs k l∧l≠EPS∧l≠ANY∧k'=r.delta k l
 dfS:∀ k k',q.df k=some k'→r.labs k ANY∧k'=r.delta k ANY
 fnS:∀ k∈q.fin,r.finK k
 nxC:∀ k l,Pr k l→l≠ANY→q.nx k l=some (r.delta k l)
 dfC:∀ k,Pr k ANY→q.df k=some (r.delta k ANY)
 sc:∀ k l,Pr k l→r.delta k l∈sn
 fnC:∀ k,Vis k→r.finK k→k∈q.fin
section
variable {r:Rep} {U:List (List Int)} {q q':DRep (List Int)} {fks sn:List (List Int)} {Vis Vis':List Int→Prop} {Pr Pr':List Int→Str→Prop} {cur k:List Int} {lab:Str}
theorem Wd.addFin (h:Wd r U q fks sn Vis Pr) (hk:r.finK k) (i:q'.ini=q.ini) (n:q'.nx=q.nx) (f:q'.df=q.df) (u:q'.U=q.U) (m:∀ x,x∈q'.fin↔x∈q.fin∨x=k):Wd r U q' fks sn Vis Pr :=
 ⟨u.trans h.home,i.trans h.ini,h.frU,h.snU,h.todo,by rw [n]; exact h.nxS,by rw [f]; exact h.dfS,fun x hx=>((m x).mp hx).elim (h.fnS x) (fun e=>e▸hk),by rw [n]; exact h.nxC,by rw [f]; exact h.dfC,h.sc,fun x hx hf=>(m x).mpr (.inl (h.fnC x hx hf))⟩
theorem Wd.pop (h:Wd r U q (fks++[cur]) sn Vis Pr) (hf:r.finK cur→cur∈q.fin):Wd r U q fks sn (fun k=>Vis k∨k=cur) Pr :=
 ⟨h.home,h.ini,fun k hk=>h.frU k (List.mem_append_left _ hk),h.snU,fun k hk=>by
  rcases h.todo k hk with h1 | h1
  ·rcases List.mem_append.mp h1 with h1 | h1
   ·exact .inl h1
   ·exact .inr (.inr (List.mem_singleton.mp h1))
  ·exact .inr (.inl h1),h.nxS,h.dfS,h.fnS,h.nxC,h.dfC,h.sc,fun k hk hq=>hk.elim (fun h1=>h.fnC k h1 hq) (fun e=>by clear h hk; subst e; exact hf hq)⟩
theorem Wd.push (h:Wd r U q fks sn Vis Pr) (hU:k∈U):Wd r U q (fks++[k]) (ins k sn) Vis Pr :=
 ⟨h.home,h.ini,fun x hx=>(List.mem_append.mp hx).elim (h.frU x) (fun e=>List.mem_singleton.mp e▸hU),fun x hx=>(mem_ins.mp hx).elim (fun e=>e▸hU) (h.snU x),fun x hx=>by
  by_cases e:x=k
  ·exact .inl (List.mem_append_right _ (List.mem_singleton.mpr e))
  ·rcases h.todo x (hx.imp id fun hx=>(mem_ins.mp hx).resolve_left e) with h1 | h1
   ·exact .inl (List.mem_append_left _ h1)
   ·exact .inr h1,h.nxS,h.dfS,h.fnS,h.nxC,h.dfC,fun x l hx=>mem_ins.mpr (.inr (h.sc x l hx)),h.fnC⟩
theorem Wd.setNx (h:Wd r U q fks sn Vis Pr) (hl:r.labs cur lab) (h1:lab≠EPS) (h2:lab≠ANY) (hs:r.delta cur lab∈sn) (i:q'.ini=q.ini) (f:q'.fin=q.fin) (df:q'.df=q.df) (u:q'.U=q.U)
  (n:∀ k l,q'.nx k l=if k=cur∧l=lab then some (r.delta cur lab) else q.nx k l):Wd r U q' fks sn Vis (fun k l=>Pr k l∨(k=cur∧l=lab)) :=
 ⟨u.trans h.home,i.trans h.ini,h.frU,h.snU,h.todo,fun k l k' e=>by
  rw [n] at e
  split at e
  ·rename_i hc; clear hs n; obtain ⟨rfl,rfl⟩:=hc; cases e; exact (inAAA hl h1 h2 rfl)
  ·exact h.nxS k l k' e,by rw [df]; exact h.dfS,by rw [f]; exact h.fnS,fun k l hp hn=>by
  rw [n]
  split
  ·rename_i hc; clear h1 h2 hl hs n hp; obtain ⟨rfl,rfl⟩:=hc; rfl
  ·rename_i hc; exact h.nxC k l (hp.resolve_right hc) hn,fun k hp=>by rw [df]; exact h.dfC k (hp.resolve_right fun hc=>h2 hc.2.symm),fun k l hp=>hp.elim (h.sc k l) (fun v1=>unA v1 fun e1 e2=>by rw [e1,e2]; exact hs),by rw [f]; exact h.fnC⟩
theorem Wd.setDf (h:Wd r U q fks sn Vis Pr) (hl:r.labs cur ANY) (hs:r.delta cur ANY∈sn) (i:q'.ini=q.ini) (f:q'.fin=q.fin) (nx:q'.nx=q.nx) (u:q'.U=q.U)
  (n:∀ k,q'.df k=if k=cur then some (r.delta cur ANY) else q.df k):Wd r U q' fks sn Vis (fun k l=>Pr k l∨(k=cur∧l=ANY)) :=
 ⟨u.trans h.home,i.trans h.ini,h.frU,h.snU,h.todo,by rw [nx]; exact h.nxS,fun k k' e=>by
  rw [n] at e
  split at e
  ·rename_i hc; (replace hc:=hc.symm; subst hc); cases e; exact ⟨hl,rfl⟩
  ·exact h.dfS k k' e,by rw [f]; exact h.fnS,fun k l hp hn=>by rw [nx]; exact h.nxC k l (hp.resolve_right fun hc=>hn hc.2) hn,fun k hp=>by
  rw [n]
  split
  ·rename_i hc; (replace hc:=hc.symm; clear hp; subst hc); rfl
  ·rename_i hc; exact h.dfC k (hp.resolve_right fun q=>hc q.1),fun k l hp=>hp.elim (h.sc k l) (fun v2=>unA v2 fun e1 e2=>by rw [e1,e2]; exact hs),by rw [f]; exact h.fnC⟩
theorem Wd.weak (h:Wd r U q fks sn Vis Pr) (hp:∀ k l,Pr' k l→Pr k l):Wd r U q fks sn Vis Pr' :=
 ⟨h.home,h.ini,h.frU,h.snU,h.todo,h.nxS,h.dfS,h.fnS,fun k l x=>h.nxC k l (hp k l x),fun k x=>h.dfC k (hp k _ x),fun k l x=>h.sc k l (hp k l x),h.fnC⟩
end
end
section
noncomputable def fx226:{ fd:FuncData // FdAt 226 fd }:=⟨_,fun P=>(inEEE _ _ _ (by k_is))⟩
noncomputable def fd226:FuncData:=fx226.1
section
variable {c:Cx} {O:List (Addr×Obj)} {L:Addr} {G:View} {m:Str→Option Value} {A:Around} {E:Value→Shared→Prop} {s:Shared} {n:Nat} {a b d:Addr} {r:Rep} {U:List (List Int)}
theorem to_dfa {Q:Value→Shared→Prop} (F:Fx c O L G m s) (R:Room A (n+5)) (hN:NfaAt c G a r) (hthin:r.thin) (hsm:r.small) (hfull:r.full) (hU:r.Home U)
  (h:∀ s' G' d q sn (Vis:List Int→Prop),Fx c O L G' m s'→DfaAt c (kTup c) G' d q→Le G G'→(∀ b,q.has d b→G b=none)→Wd r U q [] sn Vis (fun k l=>Vis k∧r.labs k l∧l≠EPS)→Q (.ref d) s') :
  wpAny (model c.prog c.w) A (call (.ref 226) [.ref a] []) Q E s:=by
 refine unEEE (fx226.2 c.w.params) fun oc od osl ho=>?_
 refine enter F (fd:=fd226) (binds:=[("self",.ref a)]) ho rfl (by kernel_rfl) R.dl (BindsTo.of_eq rfl) rfl (by decide) (locs rfl) rfl rfl rfl fun sJ1 L' O' FJ1 back=>?_
 have R':=R.deeper (env:=cenv fd226 L' 226)
 generalize A.deeper (cenv fd226 L' 226)=A' at R' ⊢
 clear F
 walk_at "r"
 refine unEEEEE hN.attrs fun u1 u2 u3 tk0 k0 hdx=>?_
 refine x_global FJ1 (by k_is) rfl rfl rfl rfl ?_
 refine x_args FJ1 (by k_is) ?_
 walk_at "r"
 refine x_method FJ1 (C:=229) (f:=163) hN.inst hdx (by k_is) (by k_is) (by k_is) rfl ?_
 refine x_args0 FJ1 (by k_is) ?_
 refine nfa_start FJ1 R' hN hthin hsm fun sJ2 TJ0 oTJ0 ksJ0 hTJ0 FJ2 hvJ0 hksJ0 hmJ0=>?_
 clear FJ1
 obtain rfl:=Rep.key0_eq hsm hksJ0 hmJ0
 walk_at "r"
 walk_at "p"; refine ⟨FJ2.K,?_⟩
 have leJ2:Le G (upd G TJ0 oTJ0):=Le.alloc hTJ0
 generalize upd G TJ0 oTJ0=GJ2 at *
 refine d_new (kd:=kTup c) (U:=U) FJ2 R' hvJ0 rfl (Nat.le_trans (hU.size) (by decide)) fun sJ3 GJ3 d qJ0 FJ3 DJ3 leJ3 newJ3 iJ3 fJ3 nJ3 dfJ3 _ UJ3=>?_
 clear FJ2
 refine x_store FJ3 rfl rfl (let MJ4:=setL _ _ _; fun sJ4 (FJ4:Fx _ _ _ _ MJ4 sJ4)=>?_)
 clear FJ3
 have le3:=leJ2.trans leJ3
 have noneG:∀ {G':View} {b:Addr},Le G G'→G' b=none→G b=none:=fun {G' b} le e=>by
  cases q:G b with
  | none=>rfl
  | some o=>rw [le b o q] at e; exact snN e
 have new3:∀ b,qJ0.has d b→G b=none:=fun b hb=>noneG leJ2 (newJ3 b hb)
 have hN_:∀ {G'},Le G G'→NfaAt c G' a r:=fun le=>hN.mono (fun b o _ e=>le b o e) le.tups
 walk_at "r"
 refine x_method FJ4 (C:=229) (f:=163) (hN_ le3).inst (le3 _ _ hdx) (by k_is) (by k_is) (by k_is) rfl ?_
 refine x_args0 FJ4 (by k_is) ?_
 refine nfa_start FJ4 R' (hN_ le3) hthin hsm fun sJ5 TJ1 oTJ1 ksJ1 hTJ1 FJ5 hvJ1 hksJ1 hmJ1=>?_
 clear FJ4
 obtain rfl:=Rep.key0_eq hsm hksJ1 hmJ1
 have DJ4:DfaAt c (kTup c) (upd GJ3 TJ1 oTJ1) d qJ0:=DJ3.mono (fun b o _ e=>Le.alloc hTJ1 b o e) (Le.alloc hTJ1).tups
 have le4:=le3.trans (Le.alloc (o:=oTJ1) hTJ1)
 generalize upd GJ3 TJ1 oTJ1=GJ4 at *
 walk_at "r"
 walk_at "p"; refine ⟨listLine (by simp),?_⟩
 have FJ6:=FJ5.push (lst [Value.ref TJ1] 0) rfl (t:=sJ5.toks) (d:=sJ5.drawn)
 have hFr:=FJ5.fresh
 clear FJ5
 generalize sJ5.heap.objs.size=Fr at FJ6 hFr ⊢
 refine x_store FJ6 rfl rfl (let MJ7:=setL _ _ _; fun sJ7 (FJ7:Fx _ _ _ _ MJ7 sJ7)=>?_)
 clear FJ6
 walk_at "r"
 refine x_builtin FJ7 (by k_is) (v:=.type "set") rfl (by decide) rfl rfl rfl rfl rfl ?_
 refine callWith_type0 ?_
 refine x_set0 FJ7 fun S sJ8 oS hS FJ8 sS=>?_
 clear FJ7
 refine x_store FJ8 rfl rfl (let MJ9:=setL _ _ _; fun sJ9 (FJ9:Fx _ _ _ _ MJ9 sJ9)=>?_)
 clear FJ8
 have hSF:S≠Fr:=updN hS
 have hS4:GJ4 S=none:=updK hS
 have td0:Td c G (upd (upd GJ4 Fr (lst [Value.ref TJ1] 0)) S oS) a d Fr S r qJ0 [r.key0] [] :=
  have l1:Le GJ4 (upd GJ4 Fr (lst [Value.ref TJ1] 0)):=Le.alloc hFr
  have l2:Le (upd GJ4 Fr (lst [Value.ref TJ1] 0)) (upd (upd GJ4 Fr (lst [Value.ref TJ1] 0)) S oS):=Le.alloc hS
  ⟨hN,le4.trans (l1.trans l2),DJ4.mono (fun b o _ e=>l2 _ _ (l1 b o e)) (l1.trans l2).tups,new3,
   (inEEA _ 0 (l2 _ _ (upd_self _ _ _)) ((show KeysAre (kTup c) GJ4 [Value.ref TJ1] [r.key0] from Zip2.cons hvJ1 .nil).up (l1.trans l2).tups)),noneG le4 hFr,fun hb=>DJ4.notHas hFr hb,(inEA oS (upd_self _ _ _) (sS (kTup c))),noneG le4 hS4,fun hb=>DJ4.notHas hS4 hb,hSF.symm⟩
 clear sS; generalize upd (upd GJ4 Fr (lst [Value.ref TJ1] 0)) S oS=GJ9 at *
 walk_at "r"
 have W0:Wd r U qJ0 [r.key0] [] (fun _=>False) (fun _ _=>False) :=
  ⟨UJ3,iJ3,fun k hk=>List.mem_singleton.mp hk▸hU.ini,fun _ hk=>(niP hk),fun k hk=>.inl (by rcases hk with e | e; exact List.mem_singleton.mpr e; exact niP e),
   fun k l k' e=>(by rw [nJ3] at e; cases e),fun k k' e=>(by rw [dfJ3] at e; cases e),fun k hk=>(by rw [fJ3] at hk; exact niP hk),fun _ _ e=>e.elim,fun _ e=>e.elim,fun _ _ e=>e.elim,fun _ e=>e.elim⟩
 refine x_while (fun μ s'=>∃ mJ1 G' q fks sn,∃ Vis:List Int→Prop,Fx c O' L' G' mJ1 s'∧Td c G G' a d Fr S r q fks sn∧Wd r U q fks sn Vis (fun k l=>Vis k∧r.labs k l∧l≠EPS)∧sn.Nodup ∧
   fks.length+(150 - sn.length)≤151∧μ=fks.length+(150 - sn.length)∧mJ1 "self" = some (.ref a)∧mJ1 "dfa" = some (.ref d)∧mJ1 "frontier" = some (.ref Fr)∧mJ1 "seen" = some (.ref S)) ?turn _
   (inEEEE _ GJ9 qJ0 _ (inEEAAAAAAAA _ (fun _=>False) FJ9 td0 (W0.weak (fun _ _ x=>x.1)) List.nodup_nil (by simp) rfl rfl rfl (inA rfl rfl)))
 case turn =>
  intro μ s' z1; refine unEEEE z1 fun mJ1 G' q fks w19=>unEEAAAAAAAA w19 fun sn Vis F td W hnd hb y1 hm1 hm2 w20=>unA w20 fun hm3 hm4=>?_; clear w19 w20; clear z1; subst y1; intro Qt hQt
  refine unEEA td.fr fun fvs kf gFr zFr=>?_
  have lenv:fvs.length=fks.length:=zFr.length
  walk_at "r"
  refine x_truthyList F gFr (lst_is _ _) (by exact a30 53221230040516740949175132705423640 hb lenv) fun sJ11 FJ11=>?_
  clear F
  rcases List.eq_nil_or_concat fvs with rfl | ⟨fv,v,rfl⟩
  ·clear hb hQt lenv; cases zFr
   simp only [List.isEmpty_nil,Bool.not_true,Bool.false_eq_true,if_false]
   walk_at "r"
   walk_at "d"
   walk_at "p"; exact h _ _ d q sn Vis (back _ _ _ FJ11) td.dfa td.le td.new W
  ·rw [List.concat_eq_append] at *
   refine unEEAA zFr.snoc fun fk cur y2 zfJ1 hcur=>?_; subst y2
   have hne':(fv++[v]).isEmpty=false:=by simp
   rw [hne']
   simp only [Bool.not_false,if_true]
   walk_at "r"
   refine x_bmethod FJ11 gFr rfl rfl PySem.F.plainAttrs_list PySem.F.slot_list_pop PySem.F.type_list_pop ?_
   walk_at "r"
   refine x_pop FJ11 gFr (by rw [List.length_append,List.length_append] at lenv; rw [List.length_append] at hb; exact a50 57145860619242920155096597052021471432163609 hb lenv) fun sJ12 kJ12 FJ12=>?_
   clear FJ11
   have tdJ1:=td.setFr (vs:=fv) (k:=kJ12) zfJ1
   have hcurU:cur∈U:=W.frU cur (List.mem_append_right _ (List.mem_singleton.mpr rfl))
   have hvJ1:=(kTup c).up hcur (Tups.upd (o':=lst fv kJ12) gFr (by intro e; exact absurd (show Value.type "list" = Value.type "tuple" from e) (by decide)))
   clear td hcur gFr zFr zfJ1
   generalize upd G' Fr (lst fv kJ12)=GJ12 at *
   refine x_store FJ12 rfl rfl (let MJ13:=setL _ _ _; fun sJ13 (FJ13:Fx _ _ _ _ MJ13 sJ13)=>?_)
   clear FJ12
   try dsimp only
   (first | refine wpAny_execs_cons ?_ | (refine absEnd (by assumption) (seqN ?_); refine wpAny_execs_cons ?_))
   refine wpAny_mono (Q:=fun f s'=>f=.next∧∃ GJ2 qJ2,Fx c O' (cenv fd226 L' 226).locals GJ2 (setL mJ1 "current" v) s'∧Td c G GJ2 a d Fr S r qJ2 fk sn∧Wd r U qJ2 (fk++[cur]) sn Vis (fun k l=>Vis k∧r.labs k l∧l≠EPS)∧(r.finK cur→cur∈qJ2.fin)∧(kTup c).is GJ2 cur v) ?one ?two fun _ _ e=>e
   case one =>
    walk_at "r"
    refine x_method FJ13 (C:=229) (f:=184) tdJ1.nfa'.inst (tdJ1.le _ _ hdx) (by k_is) (by k_is) (by k_is) rfl ?_
    refine x_args FJ13 (by k_is) ?_
    walk_at "r"
    walk_at "p"; refine ⟨FJ13.K,?_⟩
    refine nfa_is_final FJ13 R' tdJ1.nfa' hvJ1 fun sJ14 b FJ14 hbJ1=>?_
    clear FJ13
    cases b with
    | false =>
     walk_at "r"
     walk_at "p"; exact (inAEEAA rfl GJ12 q FJ14 tdJ1 (inAA W (fun q=>(ftP (hbJ1.mpr q))) hvJ1))
    | true =>
     walk_at "r"
     refine unEEAAAAAAAAAAAA tdJ1.dfa.dAttr fun es kd gdx w1 w2 w3 w4 w5 w6 w7 w8 w9 w10 w11 w12=>?_
     refine x_method FJ14 (C:=327) (f:=273) tdJ1.dfa.inst gdx (by k_is) (by k_is) (by k_is) w11 ?_
     refine x_args FJ14 (by k_is) ?_
     walk_at "r"
     walk_at "p"; refine ⟨FJ14.K,?_⟩
     refine d_add_final kdsTup FJ14 R' tdJ1.dfa hvJ1 (W.home▸hcurU) fun sJ15 GJ15 qJ15 FJ15 DJ15 stJ15 i15 n15 df15 U15 m15=>?_
     clear FJ14
     walk_at "r"
     walk_at "p"; exact (inAEEAA rfl GJ15 qJ15 FJ15 (tdJ1.setD DJ15 stJ15) (inAA (W.addFin (hbJ1.mp rfl) i15 n15 df15 U15 m15) (fun _=>(m15 cur).mpr (.inr rfl)) ((kTup c).up hvJ1 (tdJ1.dfa.tups stJ15))))
   case two =>
    intro f sJ16 z2; refine unAEEAA z2 fun y3 GJ2 qJ2 F td w21=>unAA w21 fun WJ2 hfin hv=>?_; clear w21; clear z2; subst y3
    clear FJ13 tdJ1 W hvJ1
    have W:=WJ2.pop hfin
    clear WJ2
    walk_at "r"
    refine x_method F (C:=229) (f:=205) td.nfa'.inst (td.le _ _ hdx) (by k_is) (by k_is) (by k_is) rfl ?_
    refine x_args F (by k_is) ?_
    walk_at "r"
    walk_at "p"; refine ⟨F.K,?_⟩
    refine nfa_get_labels F R' td.nfa' hv fun sJ17 Sl oSl ls hSl FJ17 sSl hlab hls=>?_
    clear F
    have le17:Le GJ2 (upd GJ2 Sl oSl):=Le.alloc hSl
    have tdJ1:=td.grow le17
    have hvJ1:=(kTup c).up hv le17.tups
    have gSl:upd GJ2 Sl oSl Sl=some oSl:=upd_self _ _ _
    clear td hv
    clear le17; generalize upd GJ2 Sl oSl=GJ17 at *
    refine x_store FJ17 rfl rfl (let MJ18:=setL _ _ _; fun sJ18 (FJ18:Fx _ _ _ _ MJ18 sJ18)=>?_)
    clear FJ17
    walk_at "r"
    refine x_builtin FJ18 (by k_is) (v:=.builtin "sorted") rfl (by decide) rfl rfl rfl rfl rfl ?_
    walk_at "r"
    have sSl':SetIs (kStr c) GJ17 oSl ls:=sSl
    refine x_sortedSetStr R'.handled FJ18 gSl sSl' (by have:=nodup_len sSl'.nodup (l':=Lab) hlab; simp [Lab] at this; exact Nat.lt_of_le_of_lt ‹_› (by decide)) fun Sq sJ19 vs ns kq hSq FJ19 zq pq=>?_
    clear FJ18
    have le19:Le GJ17 (upd GJ17 Sq (lst vs kq)):=Le.alloc hSq
    have tdJ2:=tdJ1.grow le19
    have hSqF:Sq≠Fr:=fun e=>by refine unEEA tdJ1.fr fun _ _ g' _=>?_; rw [← e,hSq] at g'; exact nnS g'
    have hSqS:Sq≠S:=fun e=>by refine unEA tdJ1.st fun _ g' _=>?_; rw [← e,hSq] at g'; exact nnS g'
    have hSqD:¬ qJ2.has d Sq:=fun hb=>tdJ1.dfa.notHas hSq hb
    have hvJ2:=(kTup c).up hvJ1 le19.tups
    have gSq:upd GJ17 Sq (lst vs kq) Sq=some (lst vs kq):=upd_self _ _ _
    clear tdJ1 hvJ1 gSl
    clear le19; generalize upd GJ17 Sq (lst vs kq)=GJ19 at *
    refine x_iter_list FJ19 gSq (lst_is _ _) fun I sJ20 oI hI FJ20=>?_
    clear FJ19
    have zq':=keysAre_strs.mp zq
    have zq'':=zq'
    refine x_forLoop (It.list Sq vs) R'.handled FJ20 hI rfl rfl (fun i G' m'=>∃ q fks sn',Td c G G' a d Fr S r q fks sn'∧Wd r U q fks sn' (fun k=>Vis k∨k=cur) (fun k l=>(Vis k∧r.labs k l∧l≠EPS)∨(k=cur∧l∈ns.take i∧l≠EPS))∧sn'.Nodup ∧
      fks.length+(150 - sn'.length)≤fk.length+(150 - sn.length)∧(kTup c).is G' cur v∧G' Sq=some (lst vs kq)∧¬ q.has d Sq∧m' "self" = some (.ref a)∧m' "dfa" = some (.ref d)∧m' "frontier" = some (.ref Fr)∧m' "seen" = some (.ref S)∧m' "current" = some v)
     (inEEEAAAA qJ2 fk sn tdJ2 (W.weak (fun k l x=>x.elim id fun x=>by simp at x)) hnd (Nat.le_refl _) (inAAAA hvJ2 gSq hSqD hm1 (inAAA hm2 hm3 hm4 rfl))) (fun i G' m' v1=>unEEEAAAA v1 fun q fks sn' h1 h2 h3 h4 w2=>unAA w2 fun h5 h6 _=>(inEA _ h6 (lst_is _ _))) ?body ?fin
    case body =>
     intro i w OJ2 G' m' sJ21 hi hw z3 FJ21 Qt hQt; refine unEEEAAAA z3 fun q fks sn' td W hnd' hb' w22=>unAAAA w22 fun hv gSq' hSqD' p1 w23=>unAAA w23 fun p2 p3 p4 p5=>?_; clear w22 w23; clear z3
     obtain ⟨lab,hlabi⟩:∃ l,ns[i]?=some l:=⟨ns[i]'(by have:=zq.length; exact a30 49276136826884631318 hi this),List.getElem?_eq_getElem _⟩
     have hwl:=zq.get hw hlabi
     refine unE (Value.isStrOf_shape (show w.isStrOf lab=true from hwl)) fun tw y4=>?_; subst y4
     have hlabm:lab∈ls:=pq.mem_iff.mp (List.mem_of_getElem? hlabi)
     have hlabL:=hlab lab hlabm
     have hlabs:r.labs cur lab:=(hls lab).mp hlabm
     have htake:ns.take (i+1)=ns.take i++[lab]:=by rw [List.take_add_one,hlabi]; rfl
     walk_at "r"
     refine x_global FJ21 (by k_is) rfl rfl rfl rfl ?_
     refine PyProof.Rows.eq_str ?_
     by_cases hE:lab=EPS
     ·have hbE:(lab == Str.ofString "<EPSILON>")=true:=by rw [beq_iff_eq]; exact hE
      rw [hbE]
      walk_at "r"
      walk_at "p"; refine (inEEA G' _ FJ21 (inEEEAAAA q fks sn' td (W.weak fun k l x=>?_) hnd' hb' (inAAAA hv gSq' hSqD' p1 (inAAA p2 p3 p4 p5))))
      rcases x with x | ⟨x1,x2,x3⟩
      ·walk_at "p"; exact .inl x
      ·rw [htake] at x2
       rcases List.mem_append.mp x2 with x2 | x2
       ·walk_at "p"; exact .inr (inAA x1 x2 x3)
       ·walk_at "p"; exact absurd ((List.mem_singleton.mp x2).trans hE) x3
     have hbE:(lab == Str.ofString "<EPSILON>")=false:=by rw [beq_eq_false_iff_ne]; exact hE
     rw [hbE]
     walk_at "r"
     refine x_method FJ21 (C:=229) (f:=198) td.nfa'.inst (td.le _ _ hdx) (by k_is) (by k_is) (by k_is) rfl ?_
     refine x_args FJ21 (by k_is) ?_
     walk_at "r"
     walk_at "p"; refine ⟨FJ21.K,?_⟩
     refine nfa_next_state FJ21 R' td.nfa' hthin hsm hv fun sJ22 Tn oTn ks' hTn FJ22 hvn hksn hmn=>?_
     clear FJ21
     obtain rfl:=Rep.delta_eq hsm hksn hmn
     have le22:Le G' (upd G' Tn oTn):=Le.alloc hTn
     have tdJ2:=td.grow le22
     have hvJ2:=(kTup c).up hv le22.tups
     have gSqJ2:=le22 _ _ gSq'
     clear td hv gSq'
     clear le22; generalize upd G' Tn oTn=GJ22 at *
     have hdU:r.delta cur lab∈U:=hU.step _ hcurU _ hlabs hE
     refine x_store FJ22 rfl rfl (let MJ23:=setL _ _ _; fun sJ23 (FJ23:Fx _ _ _ _ MJ23 sJ23)=>?_)
     clear FJ22
     try dsimp only
     (first | refine wpAny_execs_cons ?_ | (refine absEnd (by assumption) (seqN ?_); refine wpAny_execs_cons ?_))
     refine wpAny_mono (Q:=fun f s'=>f=.next∧∃ GJ2 qJ2 fksJ2 snJ2,Fx c OJ2 (cenv fd226 L' 226).locals GJ2 (setL (setL m' "label" (.str lab tw)) "new_state" (.ref Tn)) s'∧Td c G GJ2 a d Fr S r qJ2 fksJ2 snJ2 ∧
       Wd r U qJ2 fksJ2 snJ2 (fun k=>Vis k∨k=cur) (fun k l=>(Vis k∧r.labs k l∧l≠EPS)∨(k=cur∧l∈ns.take i∧l≠EPS))∧snJ2.Nodup∧fksJ2.length+(150 - snJ2.length)≤fk.length+(150 - sn.length)∧r.delta cur lab∈snJ2 ∧
       (kTup c).is GJ2 cur v∧(kTup c).is GJ2 (r.delta cur lab) (.ref Tn)∧GJ2 Sq=some (lst vs kq)∧¬ qJ2.has d Sq) ?one2 ?two2 fun _ _ e=>e
     case one2 =>
      have hsn:sn'.length≤150:=Nat.le_trans (nodup_len hnd' W.snU) hU.size
      refine unEA tdJ2.st fun oS' gS' sS'=>?_
      walk_at "r"
      refine x_notin_set kdsTup FJ23 R'.in1 hvn gS' sS' (by exact Nat.lt_of_le_of_lt ‹_› (by decide)) fun sJ24 b FJ24 hbm=>?_
      clear FJ23
      cases b with
      | true =>
       walk_at "r"
       refine ite_ff ?_
       walk_at "r"
       walk_at "p"; exact (inAEEEEAAAAAAAAA rfl GJ22 q fks sn' FJ24 tdJ2 W hnd' hb' (hbm.mp rfl) hvJ2 hvn gSqJ2 hSqD')
      | false =>
       have hnotin:r.delta cur lab∉sn':=fun q=>(ftP (hbm.mpr q))
       walk_at "r"
       refine ite_tt ?_
       walk_at "r"
       refine unEEA tdJ2.fr fun fvs kf gFr zFr=>?_
       have lenf:fvs.length=fks.length:=zFr.length
       have hbn:fks.length≤200:=by have h0:=hb; rw [List.length_append,List.length_singleton] at h0; exact a40 57224267111163333245556697742787545753919766 hb' h0
       refine x_bmethod FJ24 gFr rfl rfl PySem.F.plainAttrs_list PySem.F.slot_list_append PySem.F.type_list_append ?_
       walk_at "r"
       refine x_append FJ24 gFr (by exact a20 55447335908535604469863043318038 lenf hbn) fun sJ25 kJ25 FJ25=>?_
       clear FJ24
       have tpF:Tups GJ22 (upd GJ22 Fr (lst (fvs++[Value.ref Tn]) kJ25)):=.upd gFr (by intro e; exact absurd (show Value.type "list" = Value.type "tuple" from e) (by decide))
       have tdJ3:=tdJ2.setFr (vs:=fvs++[Value.ref Tn]) (k:=kJ25) (fks':=fks++[r.delta cur lab]) (zFr.append (.cons hvn .nil))
       have hvJ3:=(kTup c).up hvJ2 tpF
       have hvnJ3:=(kTup c).up hvn tpF
       have gSqJ3:upd GJ22 Fr (lst (fvs++[Value.ref Tn]) kJ25) Sq=some (lst vs kq):=(upd_ne hSqF).trans gSqJ2
       clear tdJ2 hvJ2 hvn gSqJ2 gFr zFr gS' sS' tpF
       generalize upd GJ22 Fr (lst (fvs++[Value.ref Tn]) kJ25)=GJ25 at *
       walk_at "r"
       refine unEA tdJ3.st fun oSJ3 gSJ3 sSJ3=>?_
       refine x_bmethod FJ25 gSJ3 sSJ3.1.1 sSJ3.1.2.1 PySem.F.plainAttrs_set PySem.F.slot_set_add PySem.F.type_set_add ?_
       walk_at "r"
       refine x_add kdsTup FJ25 R'.in1 hvnJ3 gSJ3 sSJ3 (by exact Nat.lt_of_le_of_lt ‹_› (by decide)) fun sJ26 oSJ4 FJ26 sSJ4=>?_
       clear FJ25
       have tpS:Tups GJ25 (upd GJ25 S oSJ4):=.upd gSJ3 sSJ3.notTup
       have tdJ4:=tdJ3.setS sSJ4
       have hvJ4:=(kTup c).up hvJ3 tpS
       have hvnJ4:=(kTup c).up hvnJ3 tpS
       have gSqJ4:upd GJ25 S oSJ4 Sq=some (lst vs kq):=(upd_ne hSqS).trans gSqJ3
       have WJ4:=W.push hdU
       have hndJ4:(ins (r.delta cur lab) sn').Nodup:=by unfold ins; rw [if_neg hnotin]; exact List.nodup_cons.mpr ⟨hnotin,hnd'⟩
       have hlenJ4:(ins (r.delta cur lab) sn').length=sn'.length+1:=by unfold ins; rw [if_neg hnotin]; rfl
       have hsnJ4:(ins (r.delta cur lab) sn').length≤150:=Nat.le_trans (nodup_len hndJ4 WJ4.snU) hU.size
       have hbJ4:(fks++[r.delta cur lab]).length+(150 - (ins (r.delta cur lab) sn').length)≤fk.length+(150 - sn.length):=by
        rw [hlenJ4] at hsnJ4 ⊢; rw [List.length_append]; simp only [List.length_singleton]; lia
       have hinJ4:r.delta cur lab∈ins (r.delta cur lab) sn':=mem_ins.mpr (.inl rfl)
       clear tdJ3 hvJ3 hvnJ3 gSqJ3 gSJ3 sSJ3 tpS sSJ4
       generalize upd GJ25 S oSJ4=GJ26 at *
       walk_at "r"
       refine x_method FJ26 (C:=229) (f:=184) tdJ4.nfa'.inst (tdJ4.le _ _ hdx) (by k_is) (by k_is) (by k_is) rfl ?_
       refine x_args FJ26 (by k_is) ?_
       walk_at "r"
       walk_at "p"; refine ⟨FJ26.K,?_⟩
       refine nfa_is_final FJ26 R' tdJ4.nfa' hvnJ4 fun sJ27 b FJ27 hbf=>?_
       clear FJ26
       cases b with
       | false =>
        walk_at "r"
        walk_at "p"; exact (inAEEEEAAAAAAAAA rfl GJ26 q _ _ FJ27 tdJ4 WJ4 hndJ4 hbJ4 hinJ4 hvJ4 hvnJ4 gSqJ4 hSqD')
       | true =>
        walk_at "r"
        refine unEEAAAAAAAAAAAA tdJ4.dfa.dAttr fun es kd gdx w1 w2 w3 w4 w5 w6 w7 w8 w9 w10 w11 w12=>?_
        refine x_method FJ27 (C:=327) (f:=273) tdJ4.dfa.inst gdx (by k_is) (by k_is) (by k_is) w11 ?_
        refine x_args FJ27 (by k_is) ?_
        walk_at "r"
        walk_at "p"; refine ⟨FJ27.K,?_⟩
        refine d_add_final kdsTup FJ27 R' tdJ4.dfa hvnJ4 (W.home▸hdU) fun sJ28 GJ28 qJ28 FJ28 DJ28 stJ28 i28 n28 df28 U28 m28=>?_
        clear FJ27
        walk_at "r"
        walk_at "p"; exact (inAEEEEAAAAAAAAA rfl GJ28 qJ28 _ _ FJ28 (tdJ4.setD DJ28 stJ28) (WJ4.addFin (hbf.mp rfl) i28 n28 df28 U28 m28) hndJ4 hbJ4 hinJ4 ((kTup c).up hvJ4 (tdJ4.dfa.tups stJ28)) ((kTup c).up hvnJ4 (tdJ4.dfa.tups stJ28)) (stJ28.keep _ _ gSqJ4 hSqD') (fun hb=>by
         rcases stJ28.new _ hb with hb | hb
         ·walk_at "p"; exact hSqD' hb
         ·rw [gSqJ4] at hb; exact snN hb))
     case two2 =>
      intro f sJ30 z4; refine unAEEEEAAAAAA z4 fun y5 GJ2 qJ2 fksJ2 snJ2 F td W hndJ2 hbJ2 hin w24=>unAAA w24 fun hv hvn gSq hSqD=>?_; clear w24; clear z4; subst y5
      walk_at "r"
      refine x_global F (by k_is) rfl rfl rfl rfl ?_
      refine PyProof.Rows.eq_str ?_
      refine unEEAAAAAAAAAAAA td.dfa.dAttr fun es kd gdx w1 w2 w3 w4 w5 w6 w7 w8 w9 w10 w11 w12=>?_
      have close:∀ GJ3 qJ3 st mJ3,Fx c OJ2 (cenv fd226 L' 226).locals GJ3 mJ3 st→DfaAt c (kTup c) GJ3 d qJ3→Step GJ2 GJ3 (qJ2.has d) (qJ3.has d)→Wd r U qJ3 fksJ2 snJ2 (fun k=>Vis k∨k=cur) (fun k l=>((Vis k∧r.labs k l∧l≠EPS)∨(k=cur∧l∈ns.take i∧l≠EPS))∨(k=cur∧l=lab)) →
        mJ3 "self" = some (.ref a)→mJ3 "dfa" = some (.ref d)→mJ3 "frontier" = some (.ref Fr)→mJ3 "seen" = some (.ref S)→mJ3 "current" = some v →
        ∃ GJ3 mJ3,Fx c OJ2 (cenv fd226 L' 226).locals GJ3 mJ3 st∧∃ q fks sn',Td c G GJ3 a d Fr S r q fks sn'∧Wd r U q fks sn' (fun k=>Vis k∨k=cur) (fun k l=>(Vis k∧r.labs k l∧l≠EPS)∨(k=cur∧l∈ns.take (i+1)∧l≠EPS))∧sn'.Nodup ∧
         fks.length+(150 - sn'.length)≤fk.length+(150 - sn.length)∧(kTup c).is GJ3 cur v∧GJ3 Sq=some (lst vs kq)∧¬ q.has d Sq∧mJ3 "self" = some (.ref a)∧mJ3 "dfa" = some (.ref d)∧mJ3 "frontier" = some (.ref Fr)∧mJ3 "seen" = some (.ref S)∧mJ3 "current" = some v:=by
       intro GJ3 qJ3 st mJ3 FJ3 DJ3 stJ3 WJ3 z1 z2 z3 z4 z5
       walk_at "p"; refine (inEEA GJ3 mJ3 FJ3 (inEEEAAAA qJ3 fksJ2 snJ2 (td.setD DJ3 stJ3) (WJ3.weak fun k l x=>?_) hndJ2 hbJ2 (inAAAA ((kTup c).up hv (td.dfa.tups stJ3)) (stJ3.keep _ _ gSq hSqD) (fun hb=>?_) z1 (inAAA z2 z3 z4 z5))))
       ·rcases x with x | ⟨x1,x2,x3⟩
        ·walk_at "p"; exact .inl (.inl x)
        ·rw [htake] at x2
         rcases List.mem_append.mp x2 with x2 | x2
         ·walk_at "p"; exact .inl (.inr (inAA x1 x2 x3))
         ·walk_at "p"; exact .inr ⟨x1,List.mem_singleton.mp x2⟩
       ·rcases stJ3.new _ hb with hb | hb
        ·walk_at "p"; exact hSqD hb
        ·rw [gSq] at hb; exact snN hb
      by_cases hA:lab=ANY
      ·have hbA:(lab == Str.ofString "<ANY>")=true:=by rw [beq_iff_eq]; exact hA
       rw [hbA]
       walk_at "r"
       refine x_method F (C:=327) (f:=266) td.dfa.inst gdx (by k_is) (by k_is) (by k_is) w12 ?_
       refine x_args F (by k_is) ?_
       walk_at "r"
       walk_at "p"; refine ⟨F.K,?_⟩
       refine d_set_default F R' td.dfa hv hvn (W.home▸hcurU) fun sJ31 GJ31 qJ31 FJ31 DJ31 stJ31 i31 f31 n31 U31 df31=>?_
       walk_at "r"
       refine close GJ31 qJ31 _ _ FJ31 DJ31 stJ31 ?_ p1 p2 p3 p4 p5
       clear hlabi hw hwl hlabm hlabL htake hE hbE hksn hmn hvn hdU FJ23 F close hbA FJ31; subst hA
       walk_at "p"; exact W.setDf hlabs hin i31 f31 n31 U31 df31
      ·have hbA:(lab == Str.ofString "<ANY>")=false:=by rw [beq_eq_false_iff_ne]; exact hA
       rw [hbA]
       walk_at "r"
       refine x_method F (C:=327) (f:=259) td.dfa.inst gdx (by k_is) (by k_is) (by k_is) w10 ?_
       refine x_args F (by k_is) ?_
       walk_at "r"
       walk_at "p"; refine ⟨F.K,?_⟩
       refine d_add_transition F R' td.dfa hv hvn (W.home▸hcurU) hlabL fun sJ31 GJ31 qJ31 FJ31 DJ31 stJ31 i31 f31 df31 U31 n31=>?_
       walk_at "r"
       walk_at "p"; exact close GJ31 qJ31 _ _ FJ31 DJ31 stJ31 (W.setNx hlabs hE hA hin i31 f31 df31 U31 n31) p1 p2 p3 p4 p5
    case fin =>
     intro G' m' sJ40 z5 FJ40; refine unEEEAAAA z5 fun q fks sn' td W hnd' hb' w25=>unAAAA w25 fun hv gSq' hSqD' p1 w26=>unAAA w26 fun p2 p3 p4 p5=>?_; clear w25 w26
     walk_at "r"
     have hb0:fk.length+1+(150 - sn.length)≤151:=by have h0:=hb; rw [List.length_append,List.length_singleton] at h0; exact h0
     walk_at "p"; refine ⟨fks.length+(150 - sn'.length),by rw [List.length_append,List.length_singleton]; exact a40 1588292472852841781830354678 hb',m',G',q,fks,sn',fun k=>Vis k∨k=cur,FJ40,td,W.weak fun k l v2=>unAA v2 fun x1 x2 x3=>?_,hnd',by exact a40 58597649521831253243450058488614446851962439414 hb' hb0,rfl,p1,p2,p3,p4⟩
     rcases x1 with x1 | rfl
     ·walk_at "p"; exact .inl (inAA x1 x2 x3)
     ·refine .inr (inAA rfl ?_ x3)
      have hlen:vs.length=ns.length:=zq.length
      rw [hlen,List.take_length]
      walk_at "p"; exact pq.mem_iff.mpr ((hls l).mpr x2)
end
end
section
noncomputable def Go (E:Int→Str→Int→Prop) (w:List Nat) (x:Int) (p:Nat) (y:Int) (p':Nat):Prop :=
 (p'=p∧E x EPS y)∨(p'=p+1∧∃ cp,w[p]?=some cp∧(E x ⟨#[cp]⟩ y∨E x ANY y))
inductive Path (E:Int→Str→Int→Prop) (w:List Nat) (s:Int) (i:Nat):Int→Nat→Prop
 | refl:Path E w s i s i
 | step {x p y p'}:Path E w s i x p→Go E w x p y p'→Path E w s i y p'
section
variable {E E':Int→Str→Int→Prop} {w:List Nat} {s t x y u:Int} {i j k p p':Nat}
theorem Go.le (h:Go E w x p y p'):p≤p':=by rcases h with ⟨h,_⟩ | ⟨h,_⟩ <;> (first | exact a20 1537262790359 h | exact a20 1549477836007127 h)
theorem Go.len (h:Go E w x p y p') (hp:p≤w.length):p'≤w.length:=by
 rcases h with ⟨h,_⟩ | ⟨h,cp,hc,_⟩
 ·exact a30 48123215320163854072 hp h
 ·have:=(List.getElem?_eq_some_iff.mp hc).1; exact a30 50811257063127390398230 h this
theorem Path.le (h:Path E w s i t j):i≤j:=by
 induction h with
 | refl=>exact Nat.le_refl _
 | step _ g ih=>exact Nat.le_trans ih g.le
theorem Path.len (h:Path E w s i t j) (hi:i≤w.length):j≤w.length:=by
 induction h with
 | refl=>exact hi
 | step _ g ih=>exact g.len ih
theorem Path.trans (h:Path E w s i t j) (h':Path E w t j u k):Path E w s i u k:=by
 induction h' with
 | refl=>exact h
 | step _ g ih=>exact ih.step g
theorem Path.up (h:Path E w s i t j) (hE:∀ x l y,E x l y→E' x l y):Path E' w s i t j:=by
 induction h with
 | refl=>exact .refl
 | step _ g ih =>
  refine ih.step ?_
  rcases g with ⟨e,g⟩ | ⟨e,cp,hc,g⟩
  ·exact .inl ⟨e,hE _ _ _ g⟩
  ·exact .inr (inAEA e cp hc (g.imp (hE _ _ _) (hE _ _ _)))
theorem Path.eps (h:Path E w s i t j) (g:E t EPS u):Path E w s i u j:=h.step (.inl ⟨rfl,g⟩)
theorem Path.rng {lo hi:Int} (h:Path E w s i t j) (hs:lo<s∧s≤hi) (hE:∀ x l y,E x l y→(lo<x∧x≤hi)∧(lo<y∧y≤hi)):lo<t∧t≤hi:=by
 induction h with
 | refl=>exact hs
 | step _ g ih =>
  rcases g with ⟨e,g⟩ | ⟨e,cp,hc,g | g⟩ <;> exact (hE _ _ _ g).2
theorem Path.inv {I:Int→Nat→Prop} (h:Path E w s i t j) (h0:I s i) (hs:∀ x p y p',I x p→Go E w x p y p'→I y p'):I t j:=by
 induction h with
 | refl=>exact h0
 | step _ g ih=>exact hs _ _ _ _ ih g
theorem chr_ne_eps (cp:Nat):(⟨#[cp]⟩:Str)≠EPS:=by
 intro h
 have h1:1=(EPS:Str).cps.size:=congrArg (fun s:Str=>s.cps.size) h
 exact absurd h1 (by decide)
theorem any_ne_eps:ANY≠EPS:=by decide
theorem go_sum {E1 E2:Int→Str→Int→Prop} {N:Int→Int→Prop} (hE:∀ x l y,E x l y↔E1 x l y∨E2 x l y∨(l=EPS∧N x y)) (g:Go E w x p y p') :
  Go E1 w x p y p'∨Go E2 w x p y p'∨(p'=p∧N x y):=by
 rcases g with ⟨e,g⟩ | ⟨e,cp,hc,g | g⟩
 ·rcases (hE _ _ _).mp g with g | g | ⟨_,g⟩
  ·exact .inl (.inl ⟨e,g⟩)
  ·exact .inr (.inl (.inl ⟨e,g⟩))
  ·exact .inr (.inr ⟨e,g⟩)
 ·rcases (hE _ _ _).mp g with g | g | ⟨z,g⟩
  ·exact .inl (.inr (inAEA e cp hc (.inl g)))
  ·exact .inr (.inl (.inr (inAEA e cp hc (.inl g))))
  ·exact absurd z (chr_ne_eps cp)
 ·rcases (hE _ _ _).mp g with g | g | ⟨z,g⟩
  ·exact .inl (.inr (inAEA e cp hc (.inr g)))
  ·exact .inr (.inl (.inr (inAEA e cp hc (.inr g))))
  ·exact absurd z any_ne_eps
theorem Go.src {lo hi:Int} (g:Go E w x p y p') (hE:∀ x l y,E x l y→(lo<x∧x≤hi)∧(lo<y∧y≤hi)):(lo<x∧x≤hi)∧(lo<y∧y≤hi):=by
 rcases g with ⟨e,g⟩ | ⟨e,cp,hc,g | g⟩ <;> exact hE _ _ _ g
theorem Go.some (g:Go E w x p y p'):∃ l,E x l y:=by
 rcases g with ⟨e,g⟩ | ⟨e,cp,hc,g | g⟩ <;> exact ⟨_,g⟩
end
noncomputable abbrev Lang:=List Nat→Nat→Nat→Prop
noncomputable def mEps:Lang:=fun _ i j=>i=j
noncomputable def mDot:Lang:=fun w i j=>j=i+1∧∃ cp,w[i]?=some cp
noncomputable def mChr (c:Nat):Lang:=fun w i j=>j=i+1∧w[i]?=some c
noncomputable def mCat (M1 M2:Lang):Lang:=fun w i j=>∃ k,M1 w i k∧M2 w k j
noncomputable def mAlt (M1 M2:Lang):Lang:=fun w i j=>M1 w i j∨M2 w i j
inductive mStar (M:Lang) (w:List Nat) (i:Nat):Nat→Prop
 | refl:mStar M w i i
 | step {k j}:mStar M w i k→M w k j→mStar M w i j
theorem mStar.trans {M:Lang} {w:List Nat} {i j k:Nat} (h:mStar M w i j) (h':mStar M w j k):mStar M w i k:=by
 induction h' with
 | refl=>exact h
 | step _ g ih=>exact ih.step g
theorem mStar.head {M:Lang} {w:List Nat} {i j:Nat} (h:mStar M w i j):i=j∨∃ k,M w i k∧mStar M w k j:=by
 induction h with
 | refl=>exact .inl rfl
 | step _ g ih =>
  rcases ih with e | ⟨k,h1,h2⟩
  ·clear a; subst e; exact .inr (inEA _ g (.refl))
  ·exact .inr (inEA k h1 (h2.step g))
theorem plus_comm {M:Lang} {w:List Nat} {i j:Nat}:(∃ k,mStar M w i k∧M w k j)↔mCat M (mStar M) w i j:=by
 constructor
 ·intro z1; refine unEA z1 fun k h g=>?_; clear z1
  rcases h.head with e | ⟨k',h1,h2⟩
  ·clear h; subst e; exact (inEA j g (.refl))
  ·exact (inEA k' h1 (h2.step g))
 ·intro z2; refine unEA z2 fun k g h=>?_; clear z2
  have:mStar M w i j:=(mStar.refl.step g).trans h
  induction h with
  | refl=>exact (inEA i (.refl) g)
  | step h1 g1 ih=>exact (inEA _ ((mStar.refl.step g).trans h1) g1)
structure Reg (r:Rep) (lo hi:Int) (M:Lang) (n:Nat):Prop where
 ini:lo<r.ini∧r.ini≤hi
 fin:∃ f,r.fin=[f]∧(lo<f∧f≤hi)∧(∀ l y,¬ r.E f l y)∧∀ w i j,Path r.E w r.ini i f j↔M w i j
 rng:∀ x l y,r.E x l y→(lo<x∧x≤hi)∧(lo<y∧y≤hi)
 full:r.full
 eps2:∀ x,∃ a b,∀ y,r.E x EPS y→y=a∨y=b
 lv:∃ (Lf:List Int) (nl:Nat),Lf.length+nl≤n∧(∀ x l y,l≠EPS→r.E x l y→y∈Lf)∧(M [] 0 0→1≤nl)
theorem Reg.le {r:Rep} {lo hi:Int} {M:Lang} {n:Nat} (h:Reg r lo hi M n) {w:List Nat} {i j:Nat} (hm:M w i j):i≤j:=by
 refine unEAAA h.fin fun f _ _ _ hl=>?_; exact ((hl w i j).mpr hm).le
theorem Reg.len {r:Rep} {lo hi:Int} {M:Lang} {n:Nat} (h:Reg r lo hi M n) {w:List Nat} {i j:Nat} (hm:M w i j) (hi:i≤w.length):j≤w.length:=by
 refine unEAAA h.fin fun f _ _ _ hl=>?_; exact ((hl w i j).mpr hm).len hi
theorem Reg.wide {r:Rep} {lo hi lo' hi':Int} {M:Lang} {n n':Nat} (h:Reg r lo hi M n) (h1:lo'≤lo) (h2:hi≤hi') (hn:n≤n'):Reg r lo' hi' M n':=by
 refine unEAAA h.fin fun f q1 q2 q3 q4=>?_
 refine unEEA h.lv fun Lf nl z1 z2=>?_
 have:=h.ini
 exact ⟨by exact ⟨a03 55040744521717564182 h1 this.1,a03 55040744485243895544 h2 this.2⟩,(inEAAA f q1 (by exact ⟨a03 55040744521717564182 h1 q2.1,a03 55040744485243895544 h2 q2.2⟩) q3 q4),fun x l y e=>by have:=h.rng x l y e; exact ⟨⟨a03 55040744521717564182 h1 this.1.1,a03 55040744485243895544 h2 this.1.2⟩,⟨a03 55040744521717564182 h1 this.2.1,a03 55040744485243895544 h2 this.2.2⟩⟩,h.full,h.eps2,(inEEA Lf nl (by exact a40 50460848554717566499260216 hn z1) z2)⟩
theorem reg_one {r:Rep} {k:Int} {lab:Str} {M:Lang} (hi:r.ini=k+1) (hf:r.fin=[k+1+1]) (hfull:r.full) (hE:∀ x l y,r.E x l y↔x=k+1∧l=lab∧y=k+1+1)
  (hM:∀ w i j,Go r.E w (k+1) i (k+1+1) j↔M w i j) (h0:lab=EPS∨¬ M [] 0 0):Reg r k (k+1+1) M 1:=by
 refine ⟨by exact ⟨a02 1760584068547287 hi,a02 1809212712111825788662 hi⟩,(inEAAA (k+1+1) hf (by exact ⟨a01 51580542678,a01 52960219190494454⟩) (fun l y e=>by have:=(hE _ _ _).mp e; exact a01 1725397925404373 this.1) (fun w i j=>?_)),fun x l y e=>by have:=(hE _ _ _).mp e; exact ⟨⟨a02 1760584068547287 this.1,a02 1809212712111825788662 this.1⟩,⟨a02 1802813406923768535 this.2.2,a02 1852607939115538558525174 this.2.2⟩⟩,hfull,fun x=>(inEE (k+1+1) (k+1+1) (fun y e=>.inl ((hE _ _ _).mp e).2.2)),?_⟩
 ·rw [hi,← hM]
  constructor
  ·intro h
   have:=h.inv (I:=fun x p=>(x=k+1∧p=i)∨(x=k+1+1∧Go r.E w (k+1) i (k+1+1) p)) (.inl ⟨rfl,rfl⟩) fun x p y p' hI g=>by
    refine unE g.some fun l e=>?_
    refine unAA ((hE _ _ _).mp e) fun e1 _ e2=>?_
    clear e; subst e1 e2
    rcases hI with ⟨_,rfl⟩ | ⟨q,_⟩
    ·exact .inr ⟨rfl,g⟩
    ·lia
   rcases this with ⟨q,_⟩ | ⟨_,q⟩
   ·exact False.elim (a01 1725397925404373 q)
   ·exact q
  ·exact fun g=>Path.refl.step g
 ·rcases h0 with h0 | h0
  ·exact (inEEAA ([]) 1 (Nat.le_refl _) (fun x l y hl e=>absurd (((hE _ _ _).mp e).2.1.trans h0) hl) (fun _=>Nat.le_refl _))
  ·exact (inEEAA ([k+1+1]) 0 (Nat.le_refl _) (fun x l y _ e=>by rw [((hE _ _ _).mp e).2.2]; exact List.mem_singleton.mpr rfl) (fun q=>absurd q h0))
theorem any_ne_chr (cp:Nat):(⟨#[cp]⟩:Str)≠ANY:=by
 intro h
 have h1:1=(ANY:Str).cps.size:=congrArg (fun s:Str=>s.cps.size) h
 exact absurd h1 (by decide)
theorem reg_eps {r:Rep} {k:Int} (hi:r.ini=k+1) (hf:r.fin=[k+1+1]) (hfull:r.full) (hE:∀ x l y,r.E x l y↔x=k+1∧l=EPS∧y=k+1+1):Reg r k (k+1+1) mEps 1:=by
 refine reg_one hi hf hfull hE (fun w i j=>?_) (.inl rfl)
 constructor
 ·rintro (⟨e,_⟩ | ⟨e,cp,_,g | g⟩)
  ·exact e.symm
  ·exact absurd ((hE _ _ _).mp g).2.1 (chr_ne_eps cp)
  ·exact absurd ((hE _ _ _).mp g).2.1 any_ne_eps
 ·rintro rfl; exact .inl ⟨rfl,(hE _ _ _).mpr (inAA rfl rfl rfl)⟩
theorem reg_dot {r:Rep} {k:Int} (hi:r.ini=k+1) (hf:r.fin=[k+1+1]) (hfull:r.full) (hE:∀ x l y,r.E x l y↔x=k+1∧l=ANY∧y=k+1+1):Reg r k (k+1+1) mDot 1:=by
 refine reg_one hi hf hfull hE (fun w i j=>?_) (.inr (by intro z3; refine unAE z3 fun _ cp h=>?_; clear z3; exact nnS h))
 constructor
 ·rintro (⟨_,g⟩ | ⟨e,cp,hc,g | g⟩)
  ·exact absurd ((hE _ _ _).mp g).2.1.symm any_ne_eps
  ·exact absurd ((hE _ _ _).mp g).2.1 (any_ne_chr cp)
  ·exact (inAE e cp hc)
 ·intro z4; refine unAE z4 fun e cp hc=>?_; clear z4; exact .inr (inAEA e cp hc (.inr ((hE _ _ _).mpr (inAA rfl rfl rfl))))
theorem reg_chr {r:Rep} {k:Int} {c:Nat} (hi:r.ini=k+1) (hf:r.fin=[k+1+1]) (hfull:r.full) (hE:∀ x l y,r.E x l y↔x=k+1∧l=⟨#[c]⟩∧y=k+1+1):Reg r k (k+1+1) (mChr c) 1:=by
 refine reg_one hi hf hfull hE (fun w i j=>?_) (.inr (by intro z5; obtain ⟨_,h⟩:=z5; exact nnS h))
 constructor
 ·rintro (⟨_,g⟩ | ⟨e,cp,hc,g | g⟩)
  ·exact absurd ((hE _ _ _).mp g).2.1.symm (chr_ne_eps c)
  ·have:=((hE _ _ _).mp g).2.1
   have h2:cp=c:=by injection this with h; injection h with h; injection h
   exact ⟨e,by rw [hc,h2]⟩
  ·exact absurd ((hE _ _ _).mp g).2.1.symm (any_ne_chr c)
 ·intro z6; obtain ⟨e,hc⟩:=z6; exact .inr (inAEA e c hc (.inl ((hE _ _ _).mpr (inAA rfl rfl rfl))))
end
section
theorem far {x h k d:Int} (h1:x≤h) (h2:h≤k) (e:x=k+d) (hd:0<d:=by decide):False:=by exact a04 60517938565297703160829460374741 h1 h2 e hd
theorem neq {x k d d':Int} (e:x=k+d) (e':x=k+d') (h:d≠d':=by decide):False:=by exact (Int.lt_or_gt_of_ne h).elim (fun z0=>a04 1897739270660438372078085909 e e' z0) (fun z0=>a04 1936424896886980605761839925 e e' z0)
theorem sep {x a b:Int} (h1:x≤a) (h:a≤b) (h2:b<x):False:=by exact a03 1761303823595450424085 h1 h h2
theorem lenAdd {a b c d n m:Nat} (h:a+c≤n) (h':b+d≤m):a+b+(c+d)≤n+m:=by exact a60 55497527779008665467688833245216737078 h h'
theorem lenMin {a b c d n m:Nat} (h:a+c≤n) (h':b+d≤m):a+b+min c d≤n+m:=by omega
theorem ka2 (k:Int):k+1+1=k+2:=Int.add_assoc k 1 1
theorem ka3 (k:Int):k+2+1=k+3:=Int.add_assoc k 2 1
theorem ka4 (k:Int):k+3+1=k+4:=Int.add_assoc k 3 1
theorem ka5 (k:Int):k+4+1=k+5:=Int.add_assoc k 4 1
theorem ka6 (k:Int):k+5+1=k+6:=Int.add_assoc k 5 1
theorem ka7 (k:Int):k+6+1=k+7:=Int.add_assoc k 6 1
theorem newIn {lo k n d:Int} (h:lo<k) (h0:0<d:=by decide) (h1:d≤n:=by decide):lo<k+d∧k+d≤k+n:=by exact ⟨a03 57542314010372080722678 h h0,a03 1720023264458966744 h1⟩
theorem oldIn {lo l h k n x:Int} (hx:l<x∧x≤h) (h1:lo≤l) (h2:h≤k) (h0:0≤n:=by decide):lo<x∧x≤k+n:=by exact ⟨a03 56193665989850743544 hx.1 h1,a04 1891185580165553143931789698838 hx.2 h2 h0⟩
section
variable {q1 q2 r:Rep} {lo1 hi1 lo2 hi2 k:Int} {M1 M2:Lang} {n1 n2:Nat}
end
inductive NCat (k i1 f1 i2 f2 x y:Int):Prop
 | e0 (a:x=k+1) (b:y=i1)
 | e1 (a:x=f1) (b:y=k+2)
 | e2 (a:x=k+2) (b:y=i2)
 | e3 (a:x=f2) (b:y=k+3)
inductive NAlt (k i1 f1 i2 f2 x y:Int):Prop
 | e0 (a:x=k+1) (b:y=k+2)
 | e1 (a:x=k+1) (b:y=k+3)
 | e2 (a:x=k+2) (b:y=i1)
 | e3 (a:x=f1) (b:y=k+4)
 | e4 (a:x=k+3) (b:y=i2)
 | e5 (a:x=f2) (b:y=k+5)
 | e6 (a:x=k+4) (b:y=k+6)
 | e7 (a:x=k+5) (b:y=k+6)
inductive NStar (k i1 f1 x y:Int):Prop
 | e0 (a:x=k+1) (b:y=k+2)
 | e1 (a:x=k+1) (b:y=k+4)
 | e2 (a:x=k+2) (b:y=i1)
 | e3 (a:x=f1) (b:y=k+3)
 | e4 (a:x=k+3) (b:y=k+2)
 | e5 (a:x=k+3) (b:y=k+4)
inductive NPlus (k i1 f1 x y:Int):Prop
 | e0 (a:x=k+5) (b:y=i1)
 | e1 (a:x=f1) (b:y=k+6)
 | e2 (a:x=k+1) (b:y=k+2)
 | e3 (a:x=k+1) (b:y=k+4)
 | e4 (a:x=k+2) (b:y=i1)
 | e5 (a:x=f1) (b:y=k+3)
 | e6 (a:x=k+3) (b:y=k+2)
 | e7 (a:x=k+3) (b:y=k+4)
 | e8 (a:x=k+6) (b:y=k+1)
 | e9 (a:x=k+4) (b:y=k+7)
inductive ICat (k:Int) (q1 q2:Rep) (M1 M2:Lang) (w:List Nat) (i:Nat) (x:Int) (p:Nat):Prop
 | j0 (a:x=k+1) (b:p=i)
 | j1 (a:Path q1.E w q1.ini i x p)
 | j2 (a:x=k+2) (b:M1 w i p)
 | j3 (m:Nat) (a:M1 w i m) (b:Path q2.E w q2.ini m x p)
 | j4 (a:x=k+3) (b:mCat M1 M2 w i p)
inductive IAlt (k:Int) (q1 q2:Rep) (M1 M2:Lang) (w:List Nat) (i:Nat) (x:Int) (p:Nat):Prop
 | j0 (a:x=k+1) (b:p=i)
 | j1 (a:x=k+2) (b:p=i)
 | j2 (a:x=k+3) (b:p=i)
 | j3 (a:Path q1.E w q1.ini i x p)
 | j4 (a:Path q2.E w q2.ini i x p)
 | j5 (a:x=k+4) (b:M1 w i p)
 | j6 (a:x=k+5) (b:M2 w i p)
 | j7 (a:x=k+6) (b:mAlt M1 M2 w i p)
inductive IStar (k:Int) (q1:Rep) (M1:Lang) (w:List Nat) (i:Nat) (x:Int) (p:Nat):Prop
 | j0 (a:x=k+1) (b:p=i)
 | j1 (m:Nat) (a:mStar M1 w i m) (b:Path q1.E w q1.ini m x p)
 | j2 (a:x=k+2) (b:mStar M1 w i p)
 | j3 (a:x=k+3) (b:mStar M1 w i p)
 | j4 (a:x=k+4) (b:mStar M1 w i p)
noncomputable def DPlus (M1:Lang) (w:List Nat) (i p:Nat):Prop:=∃ m,mStar M1 w i m∧M1 w m p
inductive IPlus (k:Int) (q1:Rep) (M1:Lang) (w:List Nat) (i:Nat) (x:Int) (p:Nat):Prop
 | j0 (a:x=k+5) (b:p=i)
 | j1 (m:Nat) (a:mStar M1 w i m) (b:Path q1.E w q1.ini m x p)
 | j2 (a:x=k+1) (b:DPlus M1 w i p)
 | j3 (a:x=k+2) (b:DPlus M1 w i p)
 | j4 (a:x=k+3) (b:DPlus M1 w i p)
 | j5 (a:x=k+4) (b:DPlus M1 w i p)
 | j6 (a:x=k+6) (b:DPlus M1 w i p)
 | j7 (a:x=k+7) (b:DPlus M1 w i p)
section
variable {q1 q2 r:Rep} {lo1 hi1 lo2 hi2 k:Int} {M1 M2:Lang} {n1 n2:Nat}
theorem reg_cat (h1:Reg q1 lo1 hi1 M1 n1) (h2:Reg q2 lo2 hi2 M2 n2) (h12:hi1≤lo2) (hk:hi2≤k) (hc:IsConcat k q1 q2 r):Reg r lo1 (k+1+1+1) (mCat M1 M2) (n1+n2):=by
 simp only [IsConcat,ka2,ka3] at hc ⊢
 refine unAAA hc fun ri rf rfull hE0=>?_; clear hc
 refine unEAAA h1.fin fun f1 e1 b1 o1 l1=>?_
 refine unEAAA h2.fin fun f2 e2 b2 o2 l2=>?_
 have i1:=h1.ini
 have i2:=h2.ini
 have l12:lo1≤lo2:=Int.le_trans (Int.le_of_lt (Int.lt_of_lt_of_le i1.1 i1.2)) h12
 have hk1:hi1≤k:=Int.le_trans h12 (Int.le_trans (Int.le_of_lt (Int.lt_of_lt_of_le i2.1 i2.2)) hk)
 have hl:lo1<k:=Int.lt_of_lt_of_le (Int.lt_of_lt_of_le i1.1 i1.2) hk1
 have hE:∀ x l y,r.E x l y↔q1.E x l y∨q2.E x l y∨(l=EPS∧NCat k q1.ini f1 q2.ini f2 x y):=by
  intro x l y; rw [hE0,e1,e2]; simp only [List.mem_singleton]
  constructor
  ·rintro (e | ⟨a,b,c⟩ | ⟨a,b,c⟩ | e | ⟨a,b,c⟩ | ⟨a,b,c⟩)
   ·exact .inl e
   ·exact .inr (.inr ⟨b,.e0 a c⟩)
   ·exact .inr (.inr ⟨b,.e1 a c⟩)
   ·exact .inr (.inl e)
   ·exact .inr (.inr ⟨b,.e2 a c⟩)
   ·exact .inr (.inr ⟨b,.e3 a c⟩)
  ·rintro (e | e | ⟨b,(⟨a,c⟩ | ⟨a,c⟩ | ⟨a,c⟩ | ⟨a,c⟩)⟩)
   ·exact (.inl e)
   ·exact (.inr (.inr (.inr (.inl e))))
   ·exact (.inr (.inl (inAA a b c)))
   ·exact (.inr (.inr (.inl (inAA a b c))))
   ·exact (.inr (.inr (.inr (.inr (.inl (inAA a b c))))))
   ·exact (.inr (.inr (.inr (.inr (.inr ((inAA a b c)))))))
 have rng:∀ x l y,r.E x l y→(lo1<x∧x≤k+3)∧(lo1<y∧y≤k+3):=by
  intro x l y e
  rcases (hE _ _ _).mp e with e | e | ⟨_,e⟩
  ·exact ⟨oldIn (h1.rng _ _ _ e).1 (Int.le_refl _) hk1,oldIn (h1.rng _ _ _ e).2 (Int.le_refl _) hk1⟩
  ·exact ⟨oldIn (h2.rng _ _ _ e).1 l12 hk,oldIn (h2.rng _ _ _ e).2 l12 hk⟩
  ·rcases e with ⟨rfl,rfl⟩ | ⟨rfl,rfl⟩ | ⟨rfl,rfl⟩ | ⟨rfl,rfl⟩
   ·exact ⟨newIn hl,oldIn i1 (Int.le_refl _) hk1⟩
   ·exact ⟨oldIn b1 (Int.le_refl _) hk1,newIn hl⟩
   ·exact ⟨newIn hl,oldIn i2 l12 hk⟩
   ·exact ⟨oldIn b2 l12 hk,newIn hl⟩
 refine ⟨by rw [ri]; exact newIn hl,(inEAAA (k+3) rf (newIn hl) (fun l y e=>?_) (fun w i j=>?_)),rng,rfull h1.full h2.full,fun x=>?_,?_⟩
 ·rcases (hE _ _ _).mp e with e | e | ⟨_,e⟩
  ·exact far (h1.rng _ _ _ e).1.2 hk1 rfl
  ·exact far (h2.rng _ _ _ e).1.2 hk rfl
  ·rcases e with ⟨a,_⟩ | ⟨a,_⟩ | ⟨a,_⟩ | ⟨a,_⟩
   ·exact neq rfl a
   ·exact far b1.2 hk1 a.symm
   ·exact neq rfl a
   ·exact far b2.2 hk a.symm
 ·rw [ri]
  constructor
  ·intro h
   have:=h.inv (I:=ICat k q1 q2 M1 M2 w i) (.j0 rfl rfl) fun x p y p' hI g=>by
    have hr1:Path q1.E w q1.ini i x p→lo1<x∧x≤hi1:=fun q=>q.rng i1 h1.rng
    have hr2:∀ {m},Path q2.E w q2.ini m x p→lo2<x∧x≤hi2:=fun q=>q.rng i2 h2.rng
    have gg:=go_sum hE g; clear g; rcases gg with g | g | ⟨rfl,g⟩
    ·have hx:=g.src h1.rng
     rcases hI with ⟨q,q'⟩ | q | ⟨q,q'⟩ | ⟨m,q',q⟩ | ⟨q,q'⟩
     ·exact (far hx.1.2 hk1 q).elim
     ·exact .j1 (q.step g)
     ·exact (far hx.1.2 hk1 q).elim
     ·exact (sep hx.1.2 h12 (hr2 q).1).elim
     ·exact (far hx.1.2 hk1 q).elim
    ·have hx:=g.src h2.rng
     rcases hI with ⟨q,q'⟩ | q | ⟨q,q'⟩ | ⟨m,q',q⟩ | ⟨q,q'⟩
     ·exact (far hx.1.2 hk q).elim
     ·exact (sep (hr1 q).2 h12 hx.1.1).elim
     ·exact (far hx.1.2 hk q).elim
     ·exact .j3 m q' (q.step g)
     ·exact (far hx.1.2 hk q).elim
    ·rcases g with ⟨a,rfl⟩ | ⟨a,rfl⟩ | ⟨a,rfl⟩ | ⟨a,rfl⟩ <;> rcases hI with ⟨q,q'⟩ | q | ⟨q,q'⟩ | ⟨m,q',q⟩ | ⟨q,q'⟩
     all_goals first
      | exact (neq a q).elim
      | exact (far (hr1 q).2 hk1 a).elim
      | exact (far b1.2 hk1 (a.symm.trans q)).elim
      | exact (far (hr2 q).2 hk a).elim
      | exact (far b2.2 hk (a.symm.trans q)).elim
      | exact (sep (Int.le_trans (Int.le_of_eq a) b1.2) h12 (hr2 q).1).elim
      | exact (sep (hr1 q).2 h12 (Int.lt_of_lt_of_le b2.1 (Int.le_of_eq a.symm))).elim
      | (clear h hr1; subst q'; exact .j1 .refl)
      | (rw [a] at q; exact .j2 rfl ((l1 _ _ _).mp q))
      | exact .j3 _ q' .refl
      | (rw [a] at q; exact .j4 rfl (inEA m q' ((l2 _ _ _).mp q)))
   rcases this with ⟨q,_⟩ | q | ⟨q,_⟩ | ⟨m,_,q⟩ | ⟨_,q⟩
   ·exact (neq rfl q).elim
   ·exact (far (q.rng i1 h1.rng).2 hk1 rfl).elim
   ·exact (neq rfl q).elim
   ·exact (far (q.rng i2 h2.rng).2 hk rfl).elim
   ·exact q
  ·intro z1; refine unEA z1 fun m hm1 hm2=>?_; clear z1
   have p0:Path r.E w (k+1) i q1.ini i:=Path.refl.eps ((hE _ _ _).mpr (.inr (.inr ⟨rfl,.e0 rfl rfl⟩)))
   have p1:=p0.trans (((l1 _ _ _).mpr hm1).up fun x l y e=>(hE _ _ _).mpr (.inl e))
   have p2:=p1.eps ((hE _ _ _).mpr (.inr (.inr ⟨rfl,.e1 rfl rfl⟩)))
   have p3:=p2.eps ((hE _ _ _).mpr (.inr (.inr ⟨rfl,.e2 rfl rfl⟩)))
   have p4:=p3.trans (((l2 _ _ _).mpr hm2).up fun x l y e=>(hE _ _ _).mpr (.inr (.inl e)))
   exact p4.eps ((hE _ _ _).mpr (.inr (.inr ⟨rfl,.e3 rfl rfl⟩)))
 ·refine unEE (h1.eps2 x) fun a1 c1 z1=>?_
  refine unEE (h2.eps2 x) fun a2 c2 z2=>?_
  have no:∀ y,r.E x EPS y→(q1.E x EPS y∧x≤hi1∧x≠f1)∨(q2.E x EPS y∧lo2<x∧x≤hi2∧x≠f2)∨NCat k q1.ini f1 q2.ini f2 x y:=by
   intro y e
   rcases (hE _ _ _).mp e with e | e | ⟨_,e⟩
   ·exact .inl (inAA e ((h1.rng _ _ _ e).1.2) (fun q=>o1 _ _ (q▸e)))
   ·exact .inr (.inl (inAAA e ((h2.rng _ _ _ e).1.1) ((h2.rng _ _ _ e).1.2) (fun q=>o2 _ _ (q▸e))))
   ·exact .inr (.inr e)
  by_cases x0:x=k+1
  ·refine (inEE q1.ini q1.ini (fun y e=>?_))
   rcases no y e with ⟨_,q,q'⟩ | ⟨_,p,q,q'⟩ | ⟨a,b⟩ | ⟨a,b⟩ | ⟨a,b⟩ | ⟨a,b⟩
   ·exact (far q hk1 x0).elim
   ·exact (far q hk x0).elim
   ·exact .inl b
   ·exact (far b1.2 hk1 (a.symm.trans x0)).elim
   ·exact (neq x0 a).elim
   ·exact (far b2.2 hk (a.symm.trans x0)).elim
  by_cases x1:x=f1
  ·refine (inEE (k+2) (k+2) (fun y e=>?_))
   rcases no y e with ⟨_,q,q'⟩ | ⟨_,p,q,q'⟩ | ⟨a,b⟩ | ⟨a,b⟩ | ⟨a,b⟩ | ⟨a,b⟩
   ·exact absurd x1 q'
   ·exact (sep (Int.le_trans (Int.le_of_eq x1) b1.2) h12 p).elim
   ·exact (far b1.2 hk1 (x1.symm.trans a)).elim
   ·exact .inl b
   ·exact (far b1.2 hk1 (x1.symm.trans a)).elim
   ·exact (sep (Int.le_trans (Int.le_of_eq x1) b1.2) h12 (Int.lt_of_lt_of_le b2.1 (Int.le_of_eq a.symm))).elim
  by_cases x2:x=k+2
  ·refine (inEE q2.ini q2.ini (fun y e=>?_))
   rcases no y e with ⟨_,q,q'⟩ | ⟨_,p,q,q'⟩ | ⟨a,b⟩ | ⟨a,b⟩ | ⟨a,b⟩ | ⟨a,b⟩
   ·exact (far q hk1 x2).elim
   ·exact (far q hk x2).elim
   ·exact (neq x2 a).elim
   ·exact (far b1.2 hk1 (a.symm.trans x2)).elim
   ·exact .inl b
   ·exact (far b2.2 hk (a.symm.trans x2)).elim
  by_cases x3:x=f2
  ·refine (inEE (k+3) (k+3) (fun y e=>?_))
   rcases no y e with ⟨_,q,q'⟩ | ⟨_,p,q,q'⟩ | ⟨a,b⟩ | ⟨a,b⟩ | ⟨a,b⟩ | ⟨a,b⟩
   ·exact (sep q h12 (Int.lt_of_lt_of_le b2.1 (Int.le_of_eq x3.symm))).elim
   ·exact absurd x3 q'
   ·exact (far b2.2 hk (x3.symm.trans a)).elim
   ·exact (sep (Int.le_trans (Int.le_of_eq a) b1.2) h12 (Int.lt_of_lt_of_le b2.1 (Int.le_of_eq x3.symm))).elim
   ·exact (far b2.2 hk (x3.symm.trans a)).elim
   ·exact .inl b
  by_cases xo:x≤hi1
  ·refine (inEE a1 c1 (fun y e=>?_))
   rcases no y e with ⟨q,_⟩ | ⟨_,p,_⟩ | ⟨a,b⟩ | ⟨a,b⟩ | ⟨a,b⟩ | ⟨a,b⟩
   ·exact z1 y q
   ·exact (sep xo h12 p).elim
   ·exact absurd a x0
   ·exact absurd a x1
   ·exact absurd a x2
   ·exact absurd a x3
  ·refine (inEE a2 c2 (fun y e=>?_))
   rcases no y e with ⟨_,q,_⟩ | ⟨q,_⟩ | ⟨a,b⟩ | ⟨a,b⟩ | ⟨a,b⟩ | ⟨a,b⟩
   ·exact absurd q xo
   ·exact z2 y q
   ·exact absurd a x0
   ·exact absurd a x1
   ·exact absurd a x2
   ·exact absurd a x3
 ·refine unEEAA h1.lv fun L1 m1 t1 v1 w1=>?_
  refine unEEAA h2.lv fun L2 m2 t2 v2 w2=>?_
  refine (inEEAA (L1++L2) (min m1 m2) (by rw [List.length_append]; exact lenMin t1 t2) (fun x l y hl e=>?_) ?_)
  ·rcases (hE _ _ _).mp e with e | e | ⟨q,_⟩
   ·exact List.mem_append_left _ (v1 _ _ _ hl e)
   ·exact List.mem_append_right _ (v2 _ _ _ hl e)
   ·exact absurd q hl
  ·intro z2; refine unEA z2 fun m hm1 hm2=>?_; clear z2
   have:m=0:=Nat.le_zero.mp (h2.le hm2)
   subst this
   exact Nat.le_min.mpr ⟨w1 hm1,w2 hm2⟩
theorem reg_alt (h1:Reg q1 lo1 hi1 M1 n1) (h2:Reg q2 lo2 hi2 M2 n2) (h12:hi1≤lo2) (hk:hi2≤k) (hc:IsChoice k q1 q2 r):Reg r lo1 (k+1+1+1+1+1+1) (mAlt M1 M2) (n1+n2):=by
 simp only [IsChoice,ka2,ka3,ka4,ka5,ka6] at hc ⊢
 refine unAAA hc fun ri rf rfull hE0=>?_; clear hc
 refine unEAAA h1.fin fun f1 e1 b1 o1 l1=>?_
 refine unEAAA h2.fin fun f2 e2 b2 o2 l2=>?_
 have i1:=h1.ini
 have i2:=h2.ini
 have l12:lo1≤lo2:=Int.le_trans (Int.le_of_lt (Int.lt_of_lt_of_le i1.1 i1.2)) h12
 have hk1:hi1≤k:=Int.le_trans h12 (Int.le_trans (Int.le_of_lt (Int.lt_of_lt_of_le i2.1 i2.2)) hk)
 have hl:lo1<k:=Int.lt_of_lt_of_le (Int.lt_of_lt_of_le i1.1 i1.2) hk1
 have hE:∀ x l y,r.E x l y↔q1.E x l y∨q2.E x l y∨(l=EPS∧NAlt k q1.ini f1 q2.ini f2 x y):=by
  intro x l y; rw [hE0,e1,e2]; simp only [List.mem_singleton]
  constructor
  ·rintro (⟨a,b,c⟩ | ⟨a,b,c⟩ | e | ⟨a,b,c⟩ | ⟨a,b,c⟩ | e | ⟨a,b,c⟩ | ⟨a,b,c⟩ | ⟨a,b,c⟩ | ⟨a,b,c⟩)
   ·exact .inr (.inr ⟨b,.e0 a c⟩)
   ·exact .inr (.inr ⟨b,.e1 a c⟩)
   ·exact .inl e
   ·exact .inr (.inr ⟨b,.e2 a c⟩)
   ·exact .inr (.inr ⟨b,.e3 a c⟩)
   ·exact .inr (.inl e)
   ·exact .inr (.inr ⟨b,.e4 a c⟩)
   ·exact .inr (.inr ⟨b,.e5 a c⟩)
   ·exact .inr (.inr ⟨b,.e6 a c⟩)
   ·exact .inr (.inr ⟨b,.e7 a c⟩)
  ·rintro (e | e | ⟨b,(⟨a,c⟩ | ⟨a,c⟩ | ⟨a,c⟩ | ⟨a,c⟩ | ⟨a,c⟩ | ⟨a,c⟩ | ⟨a,c⟩ | ⟨a,c⟩)⟩)
   ·exact (.inr (.inr (.inl e)))
   ·exact (.inr (.inr (.inr (.inr (.inr (.inl e))))))
   ·exact (.inl (inAA a b c))
   ·exact (.inr (.inl (inAA a b c)))
   ·exact (.inr (.inr (.inr (.inl (inAA a b c)))))
   ·exact (.inr (.inr (.inr (.inr (.inl (inAA a b c))))))
   ·exact (.inr (.inr (.inr (.inr (.inr (.inr (.inl (inAA a b c))))))))
   ·exact (.inr (.inr (.inr (.inr (.inr (.inr (.inr (.inl (inAA a b c)))))))))
   ·exact (.inr (.inr (.inr (.inr (.inr (.inr (.inr (.inr (.inl (inAA a b c))))))))))
   ·exact (.inr (.inr (.inr (.inr (.inr (.inr (.inr (.inr (.inr ((inAA a b c)))))))))))
 have rng:∀ x l y,r.E x l y→(lo1<x∧x≤k+6)∧(lo1<y∧y≤k+6):=by
  intro x l y e
  rcases (hE _ _ _).mp e with e | e | ⟨_,e⟩
  ·exact ⟨oldIn (h1.rng _ _ _ e).1 (Int.le_refl _) hk1,oldIn (h1.rng _ _ _ e).2 (Int.le_refl _) hk1⟩
  ·exact ⟨oldIn (h2.rng _ _ _ e).1 l12 hk,oldIn (h2.rng _ _ _ e).2 l12 hk⟩
  ·rcases e with ⟨rfl,rfl⟩ | ⟨rfl,rfl⟩ | ⟨rfl,rfl⟩ | ⟨rfl,rfl⟩ | ⟨rfl,rfl⟩ | ⟨rfl,rfl⟩ | ⟨rfl,rfl⟩ | ⟨rfl,rfl⟩
   ·exact ⟨newIn hl,newIn hl⟩
   ·exact ⟨newIn hl,newIn hl⟩
   ·exact ⟨newIn hl,oldIn i1 (Int.le_refl _) hk1⟩
   ·exact ⟨oldIn b1 (Int.le_refl _) hk1,newIn hl⟩
   ·exact ⟨newIn hl,oldIn i2 l12 hk⟩
   ·exact ⟨oldIn b2 l12 hk,newIn hl⟩
   ·exact ⟨newIn hl,newIn hl⟩
   ·exact ⟨newIn hl,newIn hl⟩
 refine ⟨by rw [ri]; exact newIn hl,(inEAAA (k+6) rf (newIn hl) (fun l y e=>?_) (fun w i j=>?_)),rng,rfull h1.full h2.full,fun x=>?_,?_⟩
 ·rcases (hE _ _ _).mp e with e | e | ⟨_,e⟩
  ·exact far (h1.rng _ _ _ e).1.2 hk1 rfl
  ·exact far (h2.rng _ _ _ e).1.2 hk rfl
  ·rcases e with ⟨a,_⟩ | ⟨a,_⟩ | ⟨a,_⟩ | ⟨a,_⟩ | ⟨a,_⟩ | ⟨a,_⟩ | ⟨a,_⟩ | ⟨a,_⟩
   ·exact neq rfl a
   ·exact neq rfl a
   ·exact neq rfl a
   ·exact far b1.2 hk1 a.symm
   ·exact neq rfl a
   ·exact far b2.2 hk a.symm
   ·exact neq rfl a
   ·exact neq rfl a
 ·rw [ri]
  constructor
  ·intro h
   have:=h.inv (I:=IAlt k q1 q2 M1 M2 w i) (.j0 rfl rfl) fun x p y p' hI g=>by
    have hr1:Path q1.E w q1.ini i x p→lo1<x∧x≤hi1:=fun q=>q.rng i1 h1.rng
    have hr2:Path q2.E w q2.ini i x p→lo2<x∧x≤hi2:=fun q=>q.rng i2 h2.rng
    have gg:=go_sum hE g; clear g; rcases gg with g | g | ⟨rfl,g⟩
    ·have hx:=g.src h1.rng
     rcases hI with ⟨q,q'⟩ | ⟨q,q'⟩ | ⟨q,q'⟩ | q | q | ⟨q,q'⟩ | ⟨q,q'⟩ | ⟨q,q'⟩
     ·exact (far hx.1.2 hk1 q).elim
     ·exact (far hx.1.2 hk1 q).elim
     ·exact (far hx.1.2 hk1 q).elim
     ·exact .j3 (q.step g)
     ·exact (sep hx.1.2 h12 (hr2 q).1).elim
     ·exact (far hx.1.2 hk1 q).elim
     ·exact (far hx.1.2 hk1 q).elim
     ·exact (far hx.1.2 hk1 q).elim
    ·have hx:=g.src h2.rng
     rcases hI with ⟨q,q'⟩ | ⟨q,q'⟩ | ⟨q,q'⟩ | q | q | ⟨q,q'⟩ | ⟨q,q'⟩ | ⟨q,q'⟩
     ·exact (far hx.1.2 hk q).elim
     ·exact (far hx.1.2 hk q).elim
     ·exact (far hx.1.2 hk q).elim
     ·exact (sep (hr1 q).2 h12 hx.1.1).elim
     ·exact .j4 (q.step g)
     ·exact (far hx.1.2 hk q).elim
     ·exact (far hx.1.2 hk q).elim
     ·exact (far hx.1.2 hk q).elim
    ·rcases g with ⟨a,rfl⟩ | ⟨a,rfl⟩ | ⟨a,rfl⟩ | ⟨a,rfl⟩ | ⟨a,rfl⟩ | ⟨a,rfl⟩ | ⟨a,rfl⟩ | ⟨a,rfl⟩ <;> rcases hI with ⟨q,q'⟩ | ⟨q,q'⟩ | ⟨q,q'⟩ | q | q | ⟨q,q'⟩ | ⟨q,q'⟩ | ⟨q,q'⟩
     all_goals first
      | exact (neq a q).elim
      | exact (far (hr1 q).2 hk1 a).elim
      | exact (far b1.2 hk1 (a.symm.trans q)).elim
      | exact (far (hr2 q).2 hk a).elim
      | exact (far b2.2 hk (a.symm.trans q)).elim
      | exact (sep (Int.le_trans (Int.le_of_eq a) b1.2) h12 (hr2 q).1).elim
      | exact (sep (hr1 q).2 h12 (Int.lt_of_lt_of_le b2.1 (Int.le_of_eq a.symm))).elim
      | exact .j1 rfl q'
      | exact .j2 rfl q'
      | (clear h hr1 hr2; subst q'; exact .j3 .refl)
      | (clear h hr1 hr2; subst q'; exact .j4 .refl)
      | (rw [a] at q; exact .j5 rfl ((l1 _ _ _).mp q))
      | (rw [a] at q; exact .j6 rfl ((l2 _ _ _).mp q))
      | exact .j7 rfl (.inl q')
      | exact .j7 rfl (.inr q')
   rcases this with ⟨q,_⟩ | ⟨q,_⟩ | ⟨q,_⟩ | q | q | ⟨q,_⟩ | ⟨q,_⟩ | ⟨_,q⟩
   ·exact (neq rfl q).elim
   ·exact (neq rfl q).elim
   ·exact (neq rfl q).elim
   ·exact (far (q.rng i1 h1.rng).2 hk1 rfl).elim
   ·exact (far (q.rng i2 h2.rng).2 hk rfl).elim
   ·exact (neq rfl q).elim
   ·exact (neq rfl q).elim
   ·exact q
  ·rintro (hm | hm)
   ·have p1:Path r.E w (k+1) i (k+2) i:=Path.refl.eps ((hE _ _ _).mpr (.inr (.inr ⟨rfl,.e0 rfl rfl⟩)))
    have p2:Path r.E w (k+1) i q1.ini i:=p1.eps ((hE _ _ _).mpr (.inr (.inr ⟨rfl,.e2 rfl rfl⟩)))
    have p3:=p2.trans (((l1 _ _ _).mpr hm).up fun x l y e=>(hE _ _ _).mpr (.inl e))
    have p4:Path r.E w (k+1) i (k+4) j:=p3.eps ((hE _ _ _).mpr (.inr (.inr ⟨rfl,.e3 rfl rfl⟩)))
    exact p4.eps ((hE _ _ _).mpr (.inr (.inr ⟨rfl,.e6 rfl rfl⟩)))
   ·have p1:Path r.E w (k+1) i (k+3) i:=Path.refl.eps ((hE _ _ _).mpr (.inr (.inr ⟨rfl,.e1 rfl rfl⟩)))
    have p2:Path r.E w (k+1) i q2.ini i:=p1.eps ((hE _ _ _).mpr (.inr (.inr ⟨rfl,.e4 rfl rfl⟩)))
    have p3:=p2.trans (((l2 _ _ _).mpr hm).up fun x l y e=>(hE _ _ _).mpr (.inr (.inl e)))
    have p4:Path r.E w (k+1) i (k+5) j:=p3.eps ((hE _ _ _).mpr (.inr (.inr ⟨rfl,.e5 rfl rfl⟩)))
    exact p4.eps ((hE _ _ _).mpr (.inr (.inr ⟨rfl,.e7 rfl rfl⟩)))
 ·refine unEE (h1.eps2 x) fun a1 c1 z1=>?_
  refine unEE (h2.eps2 x) fun a2 c2 z2=>?_
  have no:∀ y,r.E x EPS y→(q1.E x EPS y∧x≤hi1∧x≠f1)∨(q2.E x EPS y∧lo2<x∧x≤hi2∧x≠f2)∨NAlt k q1.ini f1 q2.ini f2 x y:=by
   intro y e
   rcases (hE _ _ _).mp e with e | e | ⟨_,e⟩
   ·exact .inl (inAA e ((h1.rng _ _ _ e).1.2) (fun q=>o1 _ _ (q▸e)))
   ·exact .inr (.inl (inAAA e ((h2.rng _ _ _ e).1.1) ((h2.rng _ _ _ e).1.2) (fun q=>o2 _ _ (q▸e))))
   ·exact .inr (.inr e)
  by_cases x0:x=k+1
  ·refine (inEE (k+2) (k+3) (fun y e=>?_))
   rcases no y e with ⟨_,q,q'⟩ | ⟨_,p,q,q'⟩ | ⟨a,b⟩ | ⟨a,b⟩ | ⟨a,b⟩ | ⟨a,b⟩ | ⟨a,b⟩ | ⟨a,b⟩ | ⟨a,b⟩ | ⟨a,b⟩
   ·exact (far q hk1 x0).elim
   ·exact (far q hk x0).elim
   ·exact .inl b
   ·exact .inr b
   ·exact (neq x0 a).elim
   ·exact (far b1.2 hk1 (a.symm.trans x0)).elim
   ·exact (neq x0 a).elim
   ·exact (far b2.2 hk (a.symm.trans x0)).elim
   ·exact (neq x0 a).elim
   ·exact (neq x0 a).elim
  by_cases x1:x=k+2
  ·refine (inEE q1.ini q1.ini (fun y e=>?_))
   rcases no y e with ⟨_,q,q'⟩ | ⟨_,p,q,q'⟩ | ⟨a,b⟩ | ⟨a,b⟩ | ⟨a,b⟩ | ⟨a,b⟩ | ⟨a,b⟩ | ⟨a,b⟩ | ⟨a,b⟩ | ⟨a,b⟩
   ·exact (far q hk1 x1).elim
   ·exact (far q hk x1).elim
   ·exact (neq x1 a).elim
   ·exact (neq x1 a).elim
   ·exact .inl b
   ·exact (far b1.2 hk1 (a.symm.trans x1)).elim
   ·exact (neq x1 a).elim
   ·exact (far b2.2 hk (a.symm.trans x1)).elim
   ·exact (neq x1 a).elim
   ·exact (neq x1 a).elim
  by_cases x2:x=f1
  ·refine (inEE (k+4) (k+4) (fun y e=>?_))
   rcases no y e with ⟨_,q,q'⟩ | ⟨_,p,q,q'⟩ | ⟨a,b⟩ | ⟨a,b⟩ | ⟨a,b⟩ | ⟨a,b⟩ | ⟨a,b⟩ | ⟨a,b⟩ | ⟨a,b⟩ | ⟨a,b⟩
   ·exact absurd x2 q'
   ·exact (sep (Int.le_trans (Int.le_of_eq x2) b1.2) h12 p).elim
   ·exact (far b1.2 hk1 (x2.symm.trans a)).elim
   ·exact (far b1.2 hk1 (x2.symm.trans a)).elim
   ·exact (far b1.2 hk1 (x2.symm.trans a)).elim
   ·exact .inl b
   ·exact (far b1.2 hk1 (x2.symm.trans a)).elim
   ·exact (sep (Int.le_trans (Int.le_of_eq x2) b1.2) h12 (Int.lt_of_lt_of_le b2.1 (Int.le_of_eq a.symm))).elim
   ·exact (far b1.2 hk1 (x2.symm.trans a)).elim
   ·exact (far b1.2 hk1 (x2.symm.trans a)).elim
  by_cases x3:x=k+3
  ·refine (inEE q2.ini q2.ini (fun y e=>?_))
   rcases no y e with ⟨_,q,q'⟩ | ⟨_,p,q,q'⟩ | ⟨a,b⟩ | ⟨a,b⟩ | ⟨a,b⟩ | ⟨a,b⟩ | ⟨a,b⟩ | ⟨a,b⟩ | ⟨a,b⟩ | ⟨a,b⟩
   ·exact (far q hk1 x3).elim
   ·exact (far q hk x3).elim
   ·exact (neq x3 a).elim
   ·exact (neq x3 a).elim
   ·exact (neq x3 a).elim
   ·exact (far b1.2 hk1 (a.symm.trans x3)).elim
   ·exact .inl b
   ·exact (far b2.2 hk (a.symm.trans x3)).elim
   ·exact (neq x3 a).elim
   ·exact (neq x3 a).elim
  by_cases x4:x=f2
  ·refine (inEE (k+5) (k+5) (fun y e=>?_))
   rcases no y e with ⟨_,q,q'⟩ | ⟨_,p,q,q'⟩ | ⟨a,b⟩ | ⟨a,b⟩ | ⟨a,b⟩ | ⟨a,b⟩ | ⟨a,b⟩ | ⟨a,b⟩ | ⟨a,b⟩ | ⟨a,b⟩
   ·exact (sep q h12 (Int.lt_of_lt_of_le b2.1 (Int.le_of_eq x4.symm))).elim
   ·exact absurd x4 q'
   ·exact (far b2.2 hk (x4.symm.trans a)).elim
   ·exact (far b2.2 hk (x4.symm.trans a)).elim
   ·exact (far b2.2 hk (x4.symm.trans a)).elim
   ·exact (sep (Int.le_trans (Int.le_of_eq a) b1.2) h12 (Int.lt_of_lt_of_le b2.1 (Int.le_of_eq x4.symm))).elim
   ·exact (far b2.2 hk (x4.symm.trans a)).elim
   ·exact .inl b
   ·exact (far b2.2 hk (x4.symm.trans a)).elim
   ·exact (far b2.2 hk (x4.symm.trans a)).elim
  by_cases x5:x=k+4
  ·refine (inEE (k+6) (k+6) (fun y e=>?_))
   rcases no y e with ⟨_,q,q'⟩ | ⟨_,p,q,q'⟩ | ⟨a,b⟩ | ⟨a,b⟩ | ⟨a,b⟩ | ⟨a,b⟩ | ⟨a,b⟩ | ⟨a,b⟩ | ⟨a,b⟩ | ⟨a,b⟩
   ·exact (far q hk1 x5).elim
   ·exact (far q hk x5).elim
   ·exact (neq x5 a).elim
   ·exact (neq x5 a).elim
   ·exact (neq x5 a).elim
   ·exact (far b1.2 hk1 (a.symm.trans x5)).elim
   ·exact (neq x5 a).elim
   ·exact (far b2.2 hk (a.symm.trans x5)).elim
   ·exact .inl b
   ·exact (neq x5 a).elim
  by_cases x6:x=k+5
  ·refine (inEE (k+6) (k+6) (fun y e=>?_))
   rcases no y e with ⟨_,q,q'⟩ | ⟨_,p,q,q'⟩ | ⟨a,b⟩ | ⟨a,b⟩ | ⟨a,b⟩ | ⟨a,b⟩ | ⟨a,b⟩ | ⟨a,b⟩ | ⟨a,b⟩ | ⟨a,b⟩
   ·exact (far q hk1 x6).elim
   ·exact (far q hk x6).elim
   ·exact (neq x6 a).elim
   ·exact (neq x6 a).elim
   ·exact (neq x6 a).elim
   ·exact (far b1.2 hk1 (a.symm.trans x6)).elim
   ·exact (neq x6 a).elim
   ·exact (far b2.2 hk (a.symm.trans x6)).elim
   ·exact (neq x6 a).elim
   ·exact .inl b
  by_cases xo:x≤hi1
  ·refine (inEE a1 c1 (fun y e=>?_))
   rcases no y e with ⟨q,_⟩ | ⟨_,p,_⟩ | ⟨a,b⟩ | ⟨a,b⟩ | ⟨a,b⟩ | ⟨a,b⟩ | ⟨a,b⟩ | ⟨a,b⟩ | ⟨a,b⟩ | ⟨a,b⟩
   ·exact z1 y q
   ·exact (sep xo h12 p).elim
   ·exact absurd a x0
   ·exact absurd a x0
   ·exact absurd a x1
   ·exact absurd a x2
   ·exact absurd a x3
   ·exact absurd a x4
   ·exact absurd a x5
   ·exact absurd a x6
  ·refine (inEE a2 c2 (fun y e=>?_))
   rcases no y e with ⟨_,q,_⟩ | ⟨q,_⟩ | ⟨a,b⟩ | ⟨a,b⟩ | ⟨a,b⟩ | ⟨a,b⟩ | ⟨a,b⟩ | ⟨a,b⟩ | ⟨a,b⟩ | ⟨a,b⟩
   ·exact absurd q xo
   ·exact z2 y q
   ·exact absurd a x0
   ·exact absurd a x0
   ·exact absurd a x1
   ·exact absurd a x2
   ·exact absurd a x3
   ·exact absurd a x4
   ·exact absurd a x5
   ·exact absurd a x6
 ·refine unEEAA h1.lv fun L1 m1 t1 v1 w1=>?_
  refine unEEAA h2.lv fun L2 m2 t2 v2 w2=>?_
  refine (inEEAA (L1++L2) (m1+m2) (by rw [List.length_append]; exact lenAdd t1 t2) (fun x l y hl e=>?_) ?_)
  ·rcases (hE _ _ _).mp e with e | e | ⟨q,_⟩
   ·exact List.mem_append_left _ (v1 _ _ _ hl e)
   ·exact List.mem_append_right _ (v2 _ _ _ hl e)
   ·exact absurd q hl
  ·rintro (hm | hm)
   ·exact Nat.le_trans (w1 hm) (Nat.le_add_right _ _)
   ·exact Nat.le_trans (w2 hm) (Nat.le_add_left _ _)
theorem reg_star (h1:Reg q1 lo1 hi1 M1 n1) (hk1:hi1≤k) (hc:IsStar k q1 r):Reg r lo1 (k+1+1+1+1) (mStar M1) (n1+1):=by
 simp only [IsStar,ka2,ka3,ka4] at hc ⊢
 refine unAAA hc fun ri rf rfull hE0=>?_; clear hc
 refine unEAAA h1.fin fun f1 e1 b1 o1 l1=>?_
 have i1:=h1.ini
 have hl:lo1<k:=Int.lt_of_lt_of_le (Int.lt_of_lt_of_le i1.1 i1.2) hk1
 have hE:∀ x l y,r.E x l y↔q1.E x l y∨(fun _ _ _=>False:Int→Str→Int→Prop) x l y∨(l=EPS∧NStar k q1.ini f1 x y):=by
  intro x l y; rw [hE0,e1]; simp only [List.mem_singleton]
  constructor
  ·rintro (⟨a,b,c⟩ | ⟨a,b,c⟩ | e | ⟨a,b,c⟩ | ⟨a,b,c⟩ | ⟨a,b,c⟩ | ⟨a,b,c⟩)
   ·exact .inr (.inr ⟨b,.e0 a c⟩)
   ·exact .inr (.inr ⟨b,.e1 a c⟩)
   ·exact .inl e
   ·exact .inr (.inr ⟨b,.e2 a c⟩)
   ·exact .inr (.inr ⟨b,.e3 a c⟩)
   ·exact .inr (.inr ⟨b,.e4 a c⟩)
   ·exact .inr (.inr ⟨b,.e5 a c⟩)
  ·rintro (e | e | ⟨b,(⟨a,c⟩ | ⟨a,c⟩ | ⟨a,c⟩ | ⟨a,c⟩ | ⟨a,c⟩ | ⟨a,c⟩)⟩)
   ·exact (.inr (.inr (.inl e)))
   ·exact e.elim
   ·exact (.inl (inAA a b c))
   ·exact (.inr (.inl (inAA a b c)))
   ·exact (.inr (.inr (.inr (.inl (inAA a b c)))))
   ·exact (.inr (.inr (.inr (.inr (.inl (inAA a b c))))))
   ·exact (.inr (.inr (.inr (.inr (.inr (.inl (inAA a b c)))))))
   ·exact (.inr (.inr (.inr (.inr (.inr (.inr ((inAA a b c))))))))
 have rng:∀ x l y,r.E x l y→(lo1<x∧x≤k+4)∧(lo1<y∧y≤k+4):=by
  intro x l y e
  rcases (hE _ _ _).mp e with e | e | ⟨_,e⟩
  ·exact ⟨oldIn (h1.rng _ _ _ e).1 (Int.le_refl _) hk1,oldIn (h1.rng _ _ _ e).2 (Int.le_refl _) hk1⟩
  ·exact e.elim
  ·rcases e with ⟨rfl,rfl⟩ | ⟨rfl,rfl⟩ | ⟨rfl,rfl⟩ | ⟨rfl,rfl⟩ | ⟨rfl,rfl⟩ | ⟨rfl,rfl⟩
   ·exact ⟨newIn hl,newIn hl⟩
   ·exact ⟨newIn hl,newIn hl⟩
   ·exact ⟨newIn hl,oldIn i1 (Int.le_refl _) hk1⟩
   ·exact ⟨oldIn b1 (Int.le_refl _) hk1,newIn hl⟩
   ·exact ⟨newIn hl,newIn hl⟩
   ·exact ⟨newIn hl,newIn hl⟩
 refine ⟨by rw [ri]; exact newIn hl,(inEAAA (k+4) rf (newIn hl) (fun l y e=>?_) (fun w i j=>?_)),rng,rfull h1.full,fun x=>?_,?_⟩
 ·rcases (hE _ _ _).mp e with e | e | ⟨_,e⟩
  ·exact far (h1.rng _ _ _ e).1.2 hk1 rfl
  ·exact e
  ·rcases e with ⟨a,_⟩ | ⟨a,_⟩ | ⟨a,_⟩ | ⟨a,_⟩ | ⟨a,_⟩ | ⟨a,_⟩
   ·exact neq rfl a
   ·exact neq rfl a
   ·exact neq rfl a
   ·exact far b1.2 hk1 a.symm
   ·exact neq rfl a
   ·exact neq rfl a
 ·rw [ri]
  constructor
  ·intro h
   have:=h.inv (I:=IStar k q1 M1 w i) (.j0 rfl rfl) fun x p y p' hI g=>by
    have hr1:∀ {m},Path q1.E w q1.ini m x p→lo1<x∧x≤hi1:=fun q=>q.rng i1 h1.rng
    have gg:=go_sum hE g; clear g; rcases gg with g | g | ⟨rfl,g⟩
    ·have hx:=g.src h1.rng
     rcases hI with ⟨q,q'⟩ | ⟨m,q',q⟩ | ⟨q,q'⟩ | ⟨q,q'⟩ | ⟨q,q'⟩
     ·exact (far hx.1.2 hk1 q).elim
     ·exact .j1 m q' (q.step g)
     ·exact (far hx.1.2 hk1 q).elim
     ·exact (far hx.1.2 hk1 q).elim
     ·exact (far hx.1.2 hk1 q).elim
    ·exact g.some.elim fun _ e=>e.elim
    ·rcases g with ⟨a,rfl⟩ | ⟨a,rfl⟩ | ⟨a,rfl⟩ | ⟨a,rfl⟩ | ⟨a,rfl⟩ | ⟨a,rfl⟩ <;> rcases hI with ⟨q,q'⟩ | ⟨m,q',q⟩ | ⟨q,q'⟩ | ⟨q,q'⟩ | ⟨q,q'⟩
     all_goals first
      | exact (neq a q).elim
      | exact (far (hr1 q).2 hk1 a).elim
      | exact (far b1.2 hk1 (a.symm.trans q)).elim
      | (clear h; subst q'; exact .j2 rfl .refl)
      | (clear h; subst q'; exact .j4 rfl .refl)
      | exact .j1 _ q' .refl
      | (rw [a] at q; exact .j3 rfl (q'.step ((l1 _ _ _).mp q)))
      | exact .j2 rfl q'
      | exact .j4 rfl q'
   rcases this with ⟨q,_⟩ | ⟨m,_,q⟩ | ⟨q,_⟩ | ⟨q,_⟩ | ⟨_,q⟩
   ·exact (neq rfl q).elim
   ·exact (far (q.rng i1 h1.rng).2 hk1 rfl).elim
   ·exact (neq rfl q).elim
   ·exact (neq rfl q).elim
   ·exact q
  ·have round:∀ {m j},Path r.E w (k+1) i (k+2) m→M1 w m j→Path r.E w (k+1) i (k+3) j:=fun {m j} p hm=>by
    have p2:Path r.E w (k+1) i q1.ini m:=p.eps ((hE _ _ _).mpr (.inr (.inr ⟨rfl,.e2 rfl rfl⟩)))
    have p3:=p2.trans (((l1 _ _ _).mpr hm).up fun x l y e=>(hE _ _ _).mpr (.inl e))
    exact p3.eps ((hE _ _ _).mpr (.inr (.inr ⟨rfl,.e3 rfl rfl⟩)))
   have all:∀ {m},mStar M1 w i m→Path r.E w (k+1) i (k+2) m:=fun {m} hm=>by
    induction hm with
    | refl=>exact Path.refl.eps ((hE _ _ _).mpr (.inr (.inr ⟨rfl,.e0 rfl rfl⟩)))
    | step _ g ih=>exact (round ih g).eps ((hE _ _ _).mpr (.inr (.inr ⟨rfl,.e4 rfl rfl⟩)))
   intro hm
   cases hm with
   | refl=>exact Path.refl.eps ((hE _ _ _).mpr (.inr (.inr ⟨rfl,.e1 rfl rfl⟩)))
   | step hm g=>exact (round (all hm) g).eps ((hE _ _ _).mpr (.inr (.inr ⟨rfl,.e5 rfl rfl⟩)))
 ·refine unEE (h1.eps2 x) fun a1 c1 z1=>?_
  have no:∀ y,r.E x EPS y→(q1.E x EPS y∧x≤hi1∧x≠f1)∨NStar k q1.ini f1 x y:=by
   intro y e
   rcases (hE _ _ _).mp e with e | e | ⟨_,e⟩
   ·exact .inl (inAA e ((h1.rng _ _ _ e).1.2) (fun q=>o1 _ _ (q▸e)))
   ·exact e.elim
   ·exact .inr e
  by_cases x0:x=k+1
  ·refine (inEE (k+2) (k+4) (fun y e=>?_))
   rcases no y e with ⟨_,q,q'⟩ | ⟨a,b⟩ | ⟨a,b⟩ | ⟨a,b⟩ | ⟨a,b⟩ | ⟨a,b⟩ | ⟨a,b⟩
   ·exact (far q hk1 x0).elim
   ·exact .inl b
   ·exact .inr b
   ·exact (neq x0 a).elim
   ·exact (far b1.2 hk1 (a.symm.trans x0)).elim
   ·exact (neq x0 a).elim
   ·exact (neq x0 a).elim
  by_cases x1:x=k+2
  ·refine (inEE q1.ini q1.ini (fun y e=>?_))
   rcases no y e with ⟨_,q,q'⟩ | ⟨a,b⟩ | ⟨a,b⟩ | ⟨a,b⟩ | ⟨a,b⟩ | ⟨a,b⟩ | ⟨a,b⟩
   ·exact (far q hk1 x1).elim
   ·exact (neq x1 a).elim
   ·exact (neq x1 a).elim
   ·exact .inl b
   ·exact (far b1.2 hk1 (a.symm.trans x1)).elim
   ·exact (neq x1 a).elim
   ·exact (neq x1 a).elim
  by_cases x2:x=f1
  ·refine (inEE (k+3) (k+3) (fun y e=>?_))
   rcases no y e with ⟨_,q,q'⟩ | ⟨a,b⟩ | ⟨a,b⟩ | ⟨a,b⟩ | ⟨a,b⟩ | ⟨a,b⟩ | ⟨a,b⟩
   ·exact absurd x2 q'
   ·exact (far b1.2 hk1 (x2.symm.trans a)).elim
   ·exact (far b1.2 hk1 (x2.symm.trans a)).elim
   ·exact (far b1.2 hk1 (x2.symm.trans a)).elim
   ·exact .inl b
   ·exact (far b1.2 hk1 (x2.symm.trans a)).elim
   ·exact (far b1.2 hk1 (x2.symm.trans a)).elim
  by_cases x3:x=k+3
  ·refine (inEE (k+2) (k+4) (fun y e=>?_))
   rcases no y e with ⟨_,q,q'⟩ | ⟨a,b⟩ | ⟨a,b⟩ | ⟨a,b⟩ | ⟨a,b⟩ | ⟨a,b⟩ | ⟨a,b⟩
   ·exact (far q hk1 x3).elim
   ·exact (neq x3 a).elim
   ·exact (neq x3 a).elim
   ·exact (neq x3 a).elim
   ·exact (far b1.2 hk1 (a.symm.trans x3)).elim
   ·exact .inl b
   ·exact .inr b
  ·refine (inEE a1 c1 (fun y e=>?_))
   rcases no y e with ⟨q,_⟩ | ⟨a,b⟩ | ⟨a,b⟩ | ⟨a,b⟩ | ⟨a,b⟩ | ⟨a,b⟩ | ⟨a,b⟩
   ·exact z1 y q
   ·exact absurd a x0
   ·exact absurd a x0
   ·exact absurd a x1
   ·exact absurd a x2
   ·exact absurd a x3
   ·exact absurd a x3
 ·refine unEEAA h1.lv fun L1 m1 t1 v1 w1=>?_
  refine (inEEAA L1 1 (Nat.succ_le_succ (Nat.le_trans (Nat.le_add_right _ _) t1)) (fun x l y hl e=>?_) (fun _=>Nat.le_refl _))
  rcases (hE _ _ _).mp e with e | e | ⟨q,_⟩
  ·exact v1 _ _ _ hl e
  ·exact e.elim
  ·exact absurd q hl
theorem reg_plus {rJ2:Rep} (h1:Reg q1 lo1 hi1 M1 n1) (hk1:hi1≤k) (hs:IsStar k q1 rJ2) (hc:IsConcat (k+1+1+1+1) q1 rJ2 r):Reg r lo1 (k+1+1+1+1+1+1+1) (mCat M1 (mStar M1)) n1:=by
 simp only [IsStar,IsConcat,ka2,ka3,ka4,ka5,ka6,ka7] at hs hc ⊢
 refine unAAA hs fun si sf sfull hS=>?_; clear hs
 refine unAAA hc fun ri rf rfull hE0=>?_; clear hc
 refine unEAAA h1.fin fun f1 e1 b1 o1 l1=>?_
 have i1:=h1.ini
 have hl:lo1<k:=Int.lt_of_lt_of_le (Int.lt_of_lt_of_le i1.1 i1.2) hk1
 have hE:∀ x l y,r.E x l y↔q1.E x l y∨(fun _ _ _=>False:Int→Str→Int→Prop) x l y∨(l=EPS∧NPlus k q1.ini f1 x y):=by
  intro x l y; rw [hE0,hS,e1,si,sf]; simp only [List.mem_singleton]
  constructor
  ·rintro (e | ⟨a,b,c⟩ | ⟨a,b,c⟩ | (⟨a,b,c⟩ | ⟨a,b,c⟩ | e | ⟨a,b,c⟩ | ⟨a,b,c⟩ | ⟨a,b,c⟩ | ⟨a,b,c⟩) | ⟨a,b,c⟩ | ⟨a,b,c⟩)
   ·exact .inl e
   ·exact .inr (.inr ⟨b,.e0 a c⟩)
   ·exact .inr (.inr ⟨b,.e1 a c⟩)
   ·exact .inr (.inr ⟨b,.e2 a c⟩)
   ·exact .inr (.inr ⟨b,.e3 a c⟩)
   ·exact .inl e
   ·exact .inr (.inr ⟨b,.e4 a c⟩)
   ·exact .inr (.inr ⟨b,.e5 a c⟩)
   ·exact .inr (.inr ⟨b,.e6 a c⟩)
   ·exact .inr (.inr ⟨b,.e7 a c⟩)
   ·exact .inr (.inr ⟨b,.e8 a c⟩)
   ·exact .inr (.inr ⟨b,.e9 a c⟩)
  ·rintro (e | e | ⟨b,(⟨a,c⟩ | ⟨a,c⟩ | ⟨a,c⟩ | ⟨a,c⟩ | ⟨a,c⟩ | ⟨a,c⟩ | ⟨a,c⟩ | ⟨a,c⟩ | ⟨a,c⟩ | ⟨a,c⟩)⟩)
   ·exact (.inl e)
   ·exact e.elim
   ·exact (.inr (.inl (inAA a b c)))
   ·exact (.inr (.inr (.inl (inAA a b c))))
   ·exact (.inr (.inr (.inr (.inl ((.inl (inAA a b c)))))))
   ·exact (.inr (.inr (.inr (.inl ((.inr (.inl (inAA a b c))))))))
   ·exact (.inr (.inr (.inr (.inl ((.inr (.inr (.inr (.inl (inAA a b c))))))))))
   ·exact (.inr (.inr (.inr (.inl ((.inr (.inr (.inr (.inr (.inl (inAA a b c)))))))))))
   ·exact (.inr (.inr (.inr (.inl ((.inr (.inr (.inr (.inr (.inr (.inl (inAA a b c))))))))))))
   ·exact (.inr (.inr (.inr (.inl ((.inr (.inr (.inr (.inr (.inr (.inr ((inAA a b c)))))))))))))
   ·exact (.inr (.inr (.inr (.inr (.inl (inAA a b c))))))
   ·exact (.inr (.inr (.inr (.inr (.inr ((inAA a b c)))))))
 have rng:∀ x l y,r.E x l y→(lo1<x∧x≤k+7)∧(lo1<y∧y≤k+7):=by
  intro x l y e
  rcases (hE _ _ _).mp e with e | e | ⟨_,e⟩
  ·exact ⟨oldIn (h1.rng _ _ _ e).1 (Int.le_refl _) hk1,oldIn (h1.rng _ _ _ e).2 (Int.le_refl _) hk1⟩
  ·exact e.elim
  ·rcases e with ⟨rfl,rfl⟩ | ⟨rfl,rfl⟩ | ⟨rfl,rfl⟩ | ⟨rfl,rfl⟩ | ⟨rfl,rfl⟩ | ⟨rfl,rfl⟩ | ⟨rfl,rfl⟩ | ⟨rfl,rfl⟩ | ⟨rfl,rfl⟩ | ⟨rfl,rfl⟩
   ·exact ⟨newIn hl,oldIn i1 (Int.le_refl _) hk1⟩
   ·exact ⟨oldIn b1 (Int.le_refl _) hk1,newIn hl⟩
   ·exact ⟨newIn hl,newIn hl⟩
   ·exact ⟨newIn hl,newIn hl⟩
   ·exact ⟨newIn hl,oldIn i1 (Int.le_refl _) hk1⟩
   ·exact ⟨oldIn b1 (Int.le_refl _) hk1,newIn hl⟩
   ·exact ⟨newIn hl,newIn hl⟩
   ·exact ⟨newIn hl,newIn hl⟩
   ·exact ⟨newIn hl,newIn hl⟩
   ·exact ⟨newIn hl,newIn hl⟩
 refine ⟨by rw [ri]; exact newIn hl,(inEAAA (k+7) rf (newIn hl) (fun l y e=>?_) (fun w i j=>?_)),rng,rfull h1.full (sfull h1.full),fun x=>?_,?_⟩
 ·rcases (hE _ _ _).mp e with e | e | ⟨_,e⟩
  ·exact far (h1.rng _ _ _ e).1.2 hk1 rfl
  ·exact e
  ·rcases e with ⟨a,_⟩ | ⟨a,_⟩ | ⟨a,_⟩ | ⟨a,_⟩ | ⟨a,_⟩ | ⟨a,_⟩ | ⟨a,_⟩ | ⟨a,_⟩ | ⟨a,_⟩ | ⟨a,_⟩
   ·exact neq rfl a
   ·exact far b1.2 hk1 a.symm
   ·exact neq rfl a
   ·exact neq rfl a
   ·exact neq rfl a
   ·exact far b1.2 hk1 a.symm
   ·exact neq rfl a
   ·exact neq rfl a
   ·exact neq rfl a
   ·exact neq rfl a
 ·rw [ri,← plus_comm]
  constructor
  ·intro h
   have:=h.inv (I:=IPlus k q1 M1 w i) (.j0 rfl rfl) fun x p y p' hI g=>by
    have hr1:∀ {m},Path q1.E w q1.ini m x p→lo1<x∧x≤hi1:=fun q=>q.rng i1 h1.rng
    have gg:=go_sum hE g; clear g; rcases gg with g | g | ⟨rfl,g⟩
    ·have hx:=g.src h1.rng
     rcases hI with ⟨q,q'⟩ | ⟨m,q',q⟩ | ⟨q,q'⟩ | ⟨q,q'⟩ | ⟨q,q'⟩ | ⟨q,q'⟩ | ⟨q,q'⟩ | ⟨q,q'⟩
     ·exact (far hx.1.2 hk1 q).elim
     ·exact .j1 m q' (q.step g)
     ·exact (far hx.1.2 hk1 q).elim
     ·exact (far hx.1.2 hk1 q).elim
     ·exact (far hx.1.2 hk1 q).elim
     ·exact (far hx.1.2 hk1 q).elim
     ·exact (far hx.1.2 hk1 q).elim
     ·exact (far hx.1.2 hk1 q).elim
    ·exact g.some.elim fun _ e=>e.elim
    ·rcases g with ⟨a,rfl⟩ | ⟨a,rfl⟩ | ⟨a,rfl⟩ | ⟨a,rfl⟩ | ⟨a,rfl⟩ | ⟨a,rfl⟩ | ⟨a,rfl⟩ | ⟨a,rfl⟩ | ⟨a,rfl⟩ | ⟨a,rfl⟩ <;> rcases hI with ⟨q,q'⟩ | ⟨m,q',q⟩ | ⟨q,q'⟩ | ⟨q,q'⟩ | ⟨q,q'⟩ | ⟨q,q'⟩ | ⟨q,q'⟩ | ⟨q,q'⟩
     all_goals first
      | exact (neq a q).elim
      | exact (far (hr1 q).2 hk1 a).elim
      | exact (far b1.2 hk1 (a.symm.trans q)).elim
      | (clear h; subst q'; exact .j1 _ .refl .refl)
      | exact .j1 _ (q'.elim fun _ z=>z.1.step z.2) .refl
      | (rw [a] at q; exact .j4 rfl (inEA m q' ((l1 _ _ _).mp q)))
      | (rw [a] at q; exact .j6 rfl (inEA m q' ((l1 _ _ _).mp q)))
      | exact .j2 rfl q'
      | exact .j3 rfl q'
      | exact .j4 rfl q'
      | exact .j5 rfl q'
      | exact .j6 rfl q'
      | exact .j7 rfl q'
   rcases this with ⟨q,_⟩ | ⟨m,_,q⟩ | ⟨q,_⟩ | ⟨q,_⟩ | ⟨q,_⟩ | ⟨q,_⟩ | ⟨q,_⟩ | ⟨_,q⟩
   ·exact (neq rfl q).elim
   ·exact (far (q.rng i1 h1.rng).2 hk1 rfl).elim
   ·exact (neq rfl q).elim
   ·exact (neq rfl q).elim
   ·exact (neq rfl q).elim
   ·exact (neq rfl q).elim
   ·exact (neq rfl q).elim
   ·exact q
  ·have one:∀ {s:Int} {m j:Nat},r.E s EPS q1.ini→M1 w m j→Path r.E w s m f1 j:=fun {s m j} hs hm =>
    (Path.refl.eps hs).trans (((l1 _ _ _).mpr hm).up fun x l y e=>(hE _ _ _).mpr (.inl e))
   have first:∀ {m},mStar M1 w i m→∀ {j},M1 w m j→Path r.E w (k+5) i f1 j:=fun {m} hm=>by
    induction hm with
    | refl=>exact fun hj=>one ((hE _ _ _).mpr (.inr (.inr ⟨rfl,.e0 rfl rfl⟩))) hj
    | step _ g ih =>
     intro j hj
     have p1:Path r.E w (k+5) i (k+3) _:=(ih g).eps ((hE _ _ _).mpr (.inr (.inr ⟨rfl,.e5 rfl rfl⟩)))
     have p2:Path r.E w (k+5) i (k+2) _:=p1.eps ((hE _ _ _).mpr (.inr (.inr ⟨rfl,.e6 rfl rfl⟩)))
     exact p2.trans (one ((hE _ _ _).mpr (.inr (.inr ⟨rfl,.e4 rfl rfl⟩))) hj)
   intro z3; refine unEA z3 fun m hm hj=>?_; clear z3
   have p1:Path r.E w (k+5) i (k+3) j:=(first hm hj).eps ((hE _ _ _).mpr (.inr (.inr ⟨rfl,.e5 rfl rfl⟩)))
   have p2:Path r.E w (k+5) i (k+4) j:=p1.eps ((hE _ _ _).mpr (.inr (.inr ⟨rfl,.e7 rfl rfl⟩)))
   exact p2.eps ((hE _ _ _).mpr (.inr (.inr ⟨rfl,.e9 rfl rfl⟩)))
 ·refine unEE (h1.eps2 x) fun a1 c1 z1=>?_
  have no:∀ y,r.E x EPS y→(q1.E x EPS y∧x≤hi1∧x≠f1)∨NPlus k q1.ini f1 x y:=by
   intro y e
   rcases (hE _ _ _).mp e with e | e | ⟨_,e⟩
   ·exact .inl (inAA e ((h1.rng _ _ _ e).1.2) (fun q=>o1 _ _ (q▸e)))
   ·exact e.elim
   ·exact .inr e
  by_cases x0:x=k+5
  ·refine (inEE q1.ini q1.ini (fun y e=>?_))
   rcases no y e with ⟨_,q,q'⟩ | ⟨a,b⟩ | ⟨a,b⟩ | ⟨a,b⟩ | ⟨a,b⟩ | ⟨a,b⟩ | ⟨a,b⟩ | ⟨a,b⟩ | ⟨a,b⟩ | ⟨a,b⟩ | ⟨a,b⟩
   ·exact (far q hk1 x0).elim
   ·exact .inl b
   ·exact (far b1.2 hk1 (a.symm.trans x0)).elim
   ·exact (neq x0 a).elim
   ·exact (neq x0 a).elim
   ·exact (neq x0 a).elim
   ·exact (far b1.2 hk1 (a.symm.trans x0)).elim
   ·exact (neq x0 a).elim
   ·exact (neq x0 a).elim
   ·exact (neq x0 a).elim
   ·exact (neq x0 a).elim
  by_cases x1:x=f1
  ·refine (inEE (k+6) (k+3) (fun y e=>?_))
   rcases no y e with ⟨_,q,q'⟩ | ⟨a,b⟩ | ⟨a,b⟩ | ⟨a,b⟩ | ⟨a,b⟩ | ⟨a,b⟩ | ⟨a,b⟩ | ⟨a,b⟩ | ⟨a,b⟩ | ⟨a,b⟩ | ⟨a,b⟩
   ·exact absurd x1 q'
   ·exact (far b1.2 hk1 (x1.symm.trans a)).elim
   ·exact .inl b
   ·exact (far b1.2 hk1 (x1.symm.trans a)).elim
   ·exact (far b1.2 hk1 (x1.symm.trans a)).elim
   ·exact (far b1.2 hk1 (x1.symm.trans a)).elim
   ·exact .inr b
   ·exact (far b1.2 hk1 (x1.symm.trans a)).elim
   ·exact (far b1.2 hk1 (x1.symm.trans a)).elim
   ·exact (far b1.2 hk1 (x1.symm.trans a)).elim
   ·exact (far b1.2 hk1 (x1.symm.trans a)).elim
  by_cases x2:x=k+1
  ·refine (inEE (k+2) (k+4) (fun y e=>?_))
   rcases no y e with ⟨_,q,q'⟩ | ⟨a,b⟩ | ⟨a,b⟩ | ⟨a,b⟩ | ⟨a,b⟩ | ⟨a,b⟩ | ⟨a,b⟩ | ⟨a,b⟩ | ⟨a,b⟩ | ⟨a,b⟩ | ⟨a,b⟩
   ·exact (far q hk1 x2).elim
   ·exact (neq x2 a).elim
   ·exact (far b1.2 hk1 (a.symm.trans x2)).elim
   ·exact .inl b
   ·exact .inr b
   ·exact (neq x2 a).elim
   ·exact (far b1.2 hk1 (a.symm.trans x2)).elim
   ·exact (neq x2 a).elim
   ·exact (neq x2 a).elim
   ·exact (neq x2 a).elim
   ·exact (neq x2 a).elim
  by_cases x3:x=k+2
  ·refine (inEE q1.ini q1.ini (fun y e=>?_))
   rcases no y e with ⟨_,q,q'⟩ | ⟨a,b⟩ | ⟨a,b⟩ | ⟨a,b⟩ | ⟨a,b⟩ | ⟨a,b⟩ | ⟨a,b⟩ | ⟨a,b⟩ | ⟨a,b⟩ | ⟨a,b⟩ | ⟨a,b⟩
   ·exact (far q hk1 x3).elim
   ·exact (neq x3 a).elim
   ·exact (far b1.2 hk1 (a.symm.trans x3)).elim
   ·exact (neq x3 a).elim
   ·exact (neq x3 a).elim
   ·exact .inl b
   ·exact (far b1.2 hk1 (a.symm.trans x3)).elim
   ·exact (neq x3 a).elim
   ·exact (neq x3 a).elim
   ·exact (neq x3 a).elim
   ·exact (neq x3 a).elim
  by_cases x4:x=k+3
  ·refine (inEE (k+2) (k+4) (fun y e=>?_))
   rcases no y e with ⟨_,q,q'⟩ | ⟨a,b⟩ | ⟨a,b⟩ | ⟨a,b⟩ | ⟨a,b⟩ | ⟨a,b⟩ | ⟨a,b⟩ | ⟨a,b⟩ | ⟨a,b⟩ | ⟨a,b⟩ | ⟨a,b⟩
   ·exact (far q hk1 x4).elim
   ·exact (neq x4 a).elim
   ·exact (far b1.2 hk1 (a.symm.trans x4)).elim
   ·exact (neq x4 a).elim
   ·exact (neq x4 a).elim
   ·exact (neq x4 a).elim
   ·exact (far b1.2 hk1 (a.symm.trans x4)).elim
   ·exact .inl b
   ·exact .inr b
   ·exact (neq x4 a).elim
   ·exact (neq x4 a).elim
  by_cases x5:x=k+6
  ·refine (inEE (k+1) (k+1) (fun y e=>?_))
   rcases no y e with ⟨_,q,q'⟩ | ⟨a,b⟩ | ⟨a,b⟩ | ⟨a,b⟩ | ⟨a,b⟩ | ⟨a,b⟩ | ⟨a,b⟩ | ⟨a,b⟩ | ⟨a,b⟩ | ⟨a,b⟩ | ⟨a,b⟩
   ·exact (far q hk1 x5).elim
   ·exact (neq x5 a).elim
   ·exact (far b1.2 hk1 (a.symm.trans x5)).elim
   ·exact (neq x5 a).elim
   ·exact (neq x5 a).elim
   ·exact (neq x5 a).elim
   ·exact (far b1.2 hk1 (a.symm.trans x5)).elim
   ·exact (neq x5 a).elim
   ·exact (neq x5 a).elim
   ·exact .inl b
   ·exact (neq x5 a).elim
  by_cases x6:x=k+4
  ·refine (inEE (k+7) (k+7) (fun y e=>?_))
   rcases no y e with ⟨_,q,q'⟩ | ⟨a,b⟩ | ⟨a,b⟩ | ⟨a,b⟩ | ⟨a,b⟩ | ⟨a,b⟩ | ⟨a,b⟩ | ⟨a,b⟩ | ⟨a,b⟩ | ⟨a,b⟩ | ⟨a,b⟩
   ·exact (far q hk1 x6).elim
   ·exact (neq x6 a).elim
   ·exact (far b1.2 hk1 (a.symm.trans x6)).elim
   ·exact (neq x6 a).elim
   ·exact (neq x6 a).elim
   ·exact (neq x6 a).elim
   ·exact (far b1.2 hk1 (a.symm.trans x6)).elim
   ·exact (neq x6 a).elim
   ·exact (neq x6 a).elim
   ·exact (neq x6 a).elim
   ·exact .inl b
  ·refine (inEE a1 c1 (fun y e=>?_))
   rcases no y e with ⟨q,_⟩ | ⟨a,b⟩ | ⟨a,b⟩ | ⟨a,b⟩ | ⟨a,b⟩ | ⟨a,b⟩ | ⟨a,b⟩ | ⟨a,b⟩ | ⟨a,b⟩ | ⟨a,b⟩ | ⟨a,b⟩
   ·exact z1 y q
   ·exact absurd a x0
   ·exact absurd a x1
   ·exact absurd a x2
   ·exact absurd a x2
   ·exact absurd a x3
   ·exact absurd a x1
   ·exact absurd a x4
   ·exact absurd a x4
   ·exact absurd a x5
   ·exact absurd a x6
 ·refine unEEAA h1.lv fun L1 m1 t1 v1 w1=>?_
  refine ⟨L1,m1,t1,fun x l y hl e=>?_,fun v1=>unEA v1 fun m hm hj=>?_⟩
  ·rcases (hE _ _ _).mp e with e | e | ⟨q,_⟩
   ·exact v1 _ _ _ hl e
   ·exact e.elim
   ·exact absurd q hl
  ·have h0:m≤0:=by
    have:∀ {i j:Nat},mStar M1 [] i j→i≤j:=fun {i j} h=>by
     induction h with
     | refl=>exact Nat.le_refl _
     | step _ g ih=>exact Nat.le_trans ih (h1.le g)
    exact this hj
   have:m=0:=Nat.le_zero.mp h0
   clear hj h0; subst this
   exact w1 hm
theorem reg_opt {rJ2:Rep} (h1:Reg q1 lo1 hi1 M1 n1) (hk:hi1≤k) (hs:IsEps k rJ2) (hc:IsChoice (k+1+1) q1 rJ2 r):Reg r lo1 (k+1+1+1+1+1+1+1+1) (mAlt M1 mEps) (n1+1) :=
 reg_alt h1 (reg_eps hs.1 hs.2.1 hs.2.2.1 hs.2.2.2) hk (Int.le_refl _) hc
end
end
section
noncomputable def subs:List Int→List (List Int)
 | []=>[[]]
 | x::xs=>subs xs++(subs xs).map (x::·)
theorem subs_length:∀ l:List Int,(subs l).length=2 ^ l.length
 | []=>rfl
 | x::xs=>by rw [subs,List.length_append,List.length_map,subs_length xs,List.length_cons,Nat.pow_succ]; exact Nat.le_antisymm (a10 46302633745123030) (a10 46222030017661206)
theorem nil_subs:∀ l:List Int,[]∈subs l
 | []=>List.mem_singleton.mpr rfl
 | x::xs=>List.mem_append_left _ (nil_subs xs)
theorem filter_subs (p:Int→Bool):∀ l:List Int,l.filter p∈subs l
 | []=>List.mem_singleton.mpr rfl
 | x::xs=>by
  rw [List.filter_cons,subs]
  split
  ·exact List.mem_append_right _ (List.mem_map_of_mem (filter_subs p xs))
  ·exact List.mem_append_left _ (filter_subs p xs)
noncomputable def subs1 (l:List Int):List (List Int):=(subs l).filter fun d=>!d.isEmpty
theorem subs1_length (l:List Int):(subs1 l).length+1≤2 ^ l.length:=by
 have:(subs1 l).length<(subs l).length:=by
  unfold subs1
  rw [List.length_filter_lt_length_iff_exists]
  exact (inEA ([]) (nil_subs l) (by simp))
 rw [subs_length] at this
 exact this
theorem mem_subs1 {l:List Int} {p:Int→Bool} {x:Int} (hx:x∈l) (hp:p x=true):l.filter p∈subs1 l:=by
 unfold subs1
 rw [List.mem_filter]
 refine ⟨filter_subs p l,?_⟩
 have:x∈l.filter p:=List.mem_filter.mpr ⟨hx,hp⟩
 cases h:l.filter p with
 | nil=>rw [h] at this; cases this
 | cons=>rfl
theorem keyOf_congr {P Q:Int→Prop} (h:∀ k,P k↔Q k):keyOf P=keyOf Q:=by rw [show P=Q from funext fun k=>propext (h k)]
section
variable {r:Rep} {lo hi:Int} {M:Lang} {n:Nat}
theorem Reg.small (h:Reg r lo hi M n) (h0:0≤lo) (h1:hi<60):r.small :=
 ⟨by have:=h.ini; exact ⟨a02 54986701325081820902 h0 this.1,a02 60847301674710377641582518137111 h1 this.2⟩,fun s l d e=>by have:=h.rng s l d e; exact ⟨a02 54986701325081820902 h0 this.2.1,a02 60847301674710377641582518137111 h1 this.2.2⟩⟩
theorem Reg.thin {c:Cx} {G:View} {a:Addr} (h:Reg r lo hi M n) (hN:NfaAt c G a r):r.thin:=by
 intro s b hb
 refine unEA (hN.sets s EPS b hb) fun o _ hS=>?_
 refine unEE (h.eps2 s) fun x y hxy=>?_
 have:=nodup_len hS.nodup (l':=[x,y]) fun d hd=>by
  rcases hxy d (inEA b hb hd) with e | e <;> simp [e]
 exact Nat.le_trans this (by simp)
theorem eps_path {E:Int→Str→Int→Prop} {w:List Nat} {s t:Int} {i:Nat} (h:Eps E s t):Path E w s i t i:=by
 induction h with
 | refl=>exact .refl
 | step _ e ih=>exact ih.eps e
theorem Reg.home (h:Reg r lo hi M n) (hn:n≤6) (h0:0≤lo) (h1:hi<60):∃ U,r.Home U∧∀ fin:List (List Int),fin.Nodup→(∀ k∈fin,k∈U∧r.finK k)→fin.length≤63:=by
 have hs:=h.small h0 h1
 refine unEEAA h.lv fun Lf nl z1 z2 z3=>?_
 refine unEAAA h.fin fun f hf _ _ hl=>?_
 have hlen:=subs1_length Lf
 have hp6:2 ^ Lf.length≤2 ^ 6:=Nat.pow_le_pow_right (by decide) (by exact a30 53221050563705134818732972236085527 hn z1)
 refine (inEA (r.key0::(subs1 Lf).map (fun D=>keyOf fun k=>∃ d∈D,Eps r.E d k)) ⟨List.mem_cons_self,fun ks _ l hl' hE=>List.mem_cons_of_mem _ (List.mem_map.mpr ?_),?_⟩ (fun fin hnd hk=>?_))
 ·classical
  refine unEA hl' fun s hs' w3=>unE w3 fun b hb=>?_; clear w3; clear hl'
  refine unE (List.exists_mem_of_ne_nil _ (h.full s l b hb)) fun d hd=>?_
  have hout:∀ {s d},r.out s l d→d∈Lf:=fun {s d} e=>e.elim (z2 _ _ _ hE) (z2 _ _ _ any_ne_eps)
  refine (inEA (Lf.filter fun d=>decide (∃ s∈ks,r.out s l d)) (mem_subs1 (x:=d) (hout (.inl (inEA b hb hd))) (decide_eq_true (inEA s hs' (.inl (inEA b hb hd))))) ?_)
  refine keyOf_congr fun k=>?_
  constructor
  ·intro z1; refine unEA z1 fun d hd e=>?_; clear z1
   refine unEA (of_decide_eq_true (List.mem_filter.mp hd).2) fun s hs ho=>?_
   exact (inEAEA s hs d ho e)
  ·intro z2; refine unEAEA z2 fun s hs d ho e=>?_; clear z2
   exact (inEA d (List.mem_filter.mpr ⟨hout ho,decide_eq_true (inEA s hs ho)⟩) e)
 ·rw [List.length_cons,List.length_map]; lia
 ·by_cases h6:Lf.length≤5
  ·have:=nodup_len hnd fun k hk'=>(hk k hk').1
   rw [List.length_cons,List.length_map] at this
   have hp5:2 ^ Lf.length≤2 ^ 5:=Nat.pow_le_pow_right (by decide) h6
   omega
  ·have hnl:nl=0:=by exact Nat.le_antisymm (a30 1785802122108405614326007987168773478065368 hn z1 h6) (a10 42694)
   have:=nodup_len hnd (l':=(subs1 Lf).map (fun D=>keyOf fun k=>∃ d∈D,Eps r.E d k)) fun k hk'=>by
    refine unAEA (hk k hk') fun hU x hx1 hx2=>?_
    rcases List.mem_cons.mp hU with e | e
    ·clear hk' hU; subst e
     rw [hf,List.mem_singleton] at hx1
     (replace hx1:=hx1.symm; subst hx1)
     have:=z3 ((hl [] 0 0).mp (eps_path ((Rep.mem_key0 hs _).mp hx2)))
     exact False.elim (a10 47508782110965 hnl this)
    ·exact e
   rw [List.length_map] at this
   omega
theorem after_path {w:List Nat}:∀ {p:Nat},p≤w.length→∀ k,r.after (w.take p) k↔Path r.E w r.ini 0 k p:=by
 have close:∀ {p:Nat} {k x:Int},Path r.E w r.ini 0 k p→Eps r.E k x→Path r.E w r.ini 0 x p:=fun h e=>h.trans (eps_path e)
 intro p
 induction p with
 | zero =>
  intro _ k
  have h0:r.after (w.take 0) k↔Eps r.E r.ini k:=Iff.rfl
  rw [h0]
  constructor
  ·exact fun e=>close .refl e
  ·intro h
   have:=h.inv (I:=fun x p=>p=0→Eps r.E r.ini x) (fun _=>.refl _) fun x p y p' hI g=>by
    intro hp
    rcases g with ⟨e,g⟩ | ⟨e,_⟩
    ·exact (hI (by exact Nat.le_antisymm (a20 49816568815421531351 hp e) (a10 42694))).step g
    ·exact False.elim (a20 48648992960274133 hp e)
   exact this rfl
 | succ p ih =>
  intro hp k
  obtain ⟨cp,hc⟩:∃ cp,w[p]?=some cp:=⟨w[p]'(by assumption),List.getElem?_eq_getElem _⟩
  have ih:=ih (by exact Nat.le_of_lt ‹_›)
  rw [Rep.after_take hc]
  constructor
  ·intro z3; refine unEAEA z3 fun s hs d ho e=>?_; clear z3
   exact close (((ih s).mp hs).step (.inr (inAEA rfl cp hc ho))) e
  ·intro h
   have:=h.inv (I:=fun x p'=>p'≤p+1→if p'≤p then Path r.E w r.ini 0 x p' else ∃ s,r.after (w.take p) s∧∃ d,r.out s ⟨#[cp]⟩ d∧Eps r.E d x) (fun _=>by rw [if_pos (Nat.zero_le _)]; exact .refl) fun x p1 y p2 hI g=>by
    intro hp2
    have hp1:=hI (Nat.le_trans g.le hp2)
    by_cases q2:p2≤p
    ·rw [if_pos q2]
     rw [if_pos (Nat.le_trans g.le q2)] at hp1
     exact hp1.step g
    ·rw [if_neg q2]
     have hp2':p2=p+1:=by exact Nat.le_antisymm (a20 1478578913013702390 hp2) (a20 1609341469394167 q2)
     clear hp2; subst hp2'
     rcases g with ⟨e,g⟩ | ⟨e,cp',hc',g⟩
     ·clear hI; subst e
      rw [if_neg (by omega)] at hp1
      refine unEAEA hp1 fun s hs d ho e=>?_; clear hp1
      exact (inEAEA s hs d ho (e.step g))
     ·have:p1=p:=by exact Nat.le_antisymm (a20 1586664590727489239 e) (a20 1550635793708525302 e)
      (replace this:=this.symm; clear hI; subst this)
      rw [if_pos (Nat.le_refl _)] at hp1
      rw [hc] at hc'; cases hc'
      exact (inEAEA x ((ih x).mpr hp1) y g (.refl y))
   have:=this (Nat.le_refl _)
   rw [if_neg (by exact a10 47908086)] at this
   exact this
theorem Reg.acc (h:Reg r lo hi M n) {w:List Nat} {p:Nat} (hp:p≤w.length):r.acc (w.take p)↔M w 0 p:=by
 refine unEAAA h.fin fun f hf _ _ hl=>?_
 unfold Rep.acc
 rw [hf,← hl]
 constructor
 ·intro z4; refine unEA z4 fun k hk e=>?_; clear z4; rw [List.mem_singleton] at hk; (replace hk:=hk.symm; subst hk); exact (after_path hp _).mp e
 ·exact fun e=>(inEA f (List.mem_singleton.mpr rfl) ((after_path hp _).mpr e))
end
section
variable {r:Rep} {U:List (List Int)} {q:DRep (List Int)} {sn:List (List Int)} {Vis:List Int→Prop}
noncomputable abbrev astep (r:Rep):(Int→Prop)→Nat→Int→Prop:=fun P cp k=>∃ s,P s∧∃ d,r.out s ⟨#[cp]⟩ d∧Eps r.E d k
theorem astep_none:∀ (cs:List Nat) (P:Int→Prop),(∀ k,¬ P k)→∀ k,¬ cs.foldl (astep r) P k
 | [],_,h=>h
 | _::cs,_,h=>astep_none cs _ fun k v1=>unEA v1 fun s hs _=>h s hs
theorem Wd.run (W:Wd r U q [] sn Vis (fun k l=>Vis k∧r.labs k l∧l≠EPS)) (hs:r.small):∀ (cs:List Nat) (ks:List Int) (P:Int→Prop),Vis ks→(∀ x,x∈ks↔P x) →
  (∃ k,q.run ks cs=some k∧Vis k∧∀ x,x∈k↔cs.foldl (astep r) P x)∨(q.run ks cs=none∧∀ x,¬ cs.foldl (astep r) P x)
 | [],ks,P,hv,hP=>.inl (inEAA ks rfl hv hP)
 | cp::cs,ks,P,hv,hP=>by
  have vis:∀ l,r.labs ks l→l≠EPS→Vis (r.delta ks l):=fun l hl hE=>by
   rcases W.todo _ (.inr (W.sc ks l (inAA hv hl hE))) with h | h
   ·cases h
   ·exact h
  have hrun:∀ k,q.next ks ⟨#[cp]⟩=some k→q.run ks (cp::cs)=q.run k cs:=fun k e=>by unfold DRep.run; rw [List.foldlM_cons,e]; rfl
  have hnone:q.next ks ⟨#[cp]⟩=none→q.run ks (cp::cs)=none:=fun e=>by unfold DRep.run; rw [List.foldlM_cons,e]; rfl
  have mem:∀ l x,x∈r.delta ks l↔∃ s,P s∧∃ d,r.out s l d∧Eps r.E d x:=fun l x=>by
   rw [Rep.mem_delta hs]
   constructor
   ·intro z5; refine unEA z5 fun s h1 h2=>?_; clear z5; exact (inEA s ((hP s).mp h1) h2)
   ·intro z6; refine unEA z6 fun s h1 h2=>?_; clear z6; exact (inEA s ((hP s).mpr h1) h2)
  rw [List.foldl_cons]
  cases hnx:q.nx ks ⟨#[cp]⟩ with
  | some k =>
   refine unAAA (W.nxS _ _ _ hnx) fun h1 h2 h3 y1=>?_; subst y1
   rw [hrun (r.delta ks ⟨#[cp]⟩) (by unfold DRep.next; rw [hnx]; rfl)]
   exact W.run hs cs _ _ (vis _ h1 h2) (mem _)
  | none =>
   have nol:¬ r.labs ks ⟨#[cp]⟩:=fun h=>by
    have:=W.nxC ks ⟨#[cp]⟩ (inAA hv h (chr_ne_eps cp)) (any_ne_chr cp)
    rw [hnx] at this; cases this
   have out:∀ s,P s→∀ d,r.out s ⟨#[cp]⟩ d↔r.out s ANY d:=fun s hs' d=>by
    constructor
    ·rintro (⟨b,hb,_⟩ | h)
     ·exact absurd (inEA s ((hP s).mpr hs') (inE b hb)) nol
     ·exact .inl h
    ·rintro (h | h) <;> exact .inr h
   cases hdf:q.df ks with
   | some k =>
    obtain ⟨h1,rfl⟩:=W.dfS _ _ hdf
    rw [hrun (r.delta ks ANY) (by unfold DRep.next; rw [hnx,hdf]; rfl)]
    refine W.run hs cs _ _ (vis _ h1 any_ne_eps) fun x=>?_
    rw [mem]
    constructor
    ·intro z7; refine unEAEA z7 fun s h1 d h2 h3=>?_; clear z7; exact (inEAEA s h1 d ((out s h1 d).mpr h2) h3)
    ·intro z8; refine unEAEA z8 fun s h1 d h2 h3=>?_; clear z8; exact (inEAEA s h1 d ((out s h1 d).mp h2) h3)
   | none =>
    have noA:¬ r.labs ks ANY:=fun h=>by
     have:=W.dfC ks (inAA hv h any_ne_eps)
     rw [hdf] at this; cases this
    refine .inr ⟨hnone (by unfold DRep.next; rw [hnx,hdf]; rfl),astep_none cs _ fun x=>?_⟩
    intro z9; refine unEAEA z9 fun s h1 d h2 _=>?_; clear z9
    rw [out s h1 d] at h2
    rcases h2 with ⟨b,hb,_⟩ | ⟨b,hb,_⟩ <;> exact noA (inEA s ((hP s).mpr h1) (inE b hb))
theorem Wd.acc (W:Wd r U q [] sn Vis (fun k l=>Vis k∧r.labs k l∧l≠EPS)) (hs:r.small) (cs:List Nat):q.acc cs↔r.acc cs:=by
 have v0:Vis r.key0:=(W.todo _ (.inl rfl)).elim (fun h=>niP h) id
 unfold DRep.acc Rep.acc Rep.after
 rw [W.ini]
 rcases W.run hs cs r.key0 _ v0 (Rep.mem_key0 hs) with ⟨k,h1,h2,h3⟩ | ⟨h1,h2⟩
 ·constructor
  ·intro z10; refine unEA z10 fun k' e hk=>?_; clear z10
   rw [h1] at e; cases e
   refine unEA (W.fnS _ hk) fun x hx1 hx2=>?_
   exact (inEA x hx1 ((h3 x).mp hx2))
  ·intro z11; refine unEA z11 fun x hx1 hx2=>?_; clear z11
   exact (inEA k h1 (W.fnC k h2 (inEA x hx1 ((h3 x).mpr hx2))))
 ·constructor
  ·intro z12; refine unEA z12 fun k' e _=>?_; clear z12; rw [h1] at e; cases e
  ·intro z13; refine unEA z13 fun x _ hx=>?_; clear z13; exact absurd hx (h2 x)
theorem Wd.true_ {Pr:List Int→Str→Prop} (W:Wd r U q [] sn Vis Pr) (hs:r.small) (hf:r.full):q.trueStates (·≠[]):=by
 intro k l k' e
 have ne:∀ {l},r.labs k l→r.delta k l≠[]:=fun {l} v2 h0=>unEA v2 fun s hs' w1=>unE w1 fun b hb=>by
  refine unE (List.exists_mem_of_ne_nil _ (hf s l b hb)) fun d hd=>?_
  have:d∈r.delta k l:=(Rep.mem_delta hs _ _ _).mpr (inEAEA s hs' d (.inl (inEA b hb hd)) (.refl d))
  rw [h0] at this; exact niP this
 unfold DRep.next at e
 cases hnx:q.nx k l with
 | some k2 =>
  rw [hnx] at e; cases e
  refine unAAA (W.nxS _ _ _ hnx) fun h1 _ _ y2=>?_; clear hnx; subst y2
  exact ne h1
 | none =>
  rw [hnx] at e
  obtain ⟨h1,rfl⟩:=W.dfS _ _ e
  exact ne h1
end
structure Ren (q:DRep (List Int)) (q':DRep Int) (f:List Int→Option Int):Prop where
 inj:∀ k k' a,f k=some a→f k'=some a→k=k'
 pos:∀ k a,f k=some a→1≤a
 ini:f q.ini=some q'.ini
 nx:∀ k a l,f k=some a→∀ b,q'.nx a l=some b↔∃ k',q.nx k l=some k'∧f k'=some b
 df:∀ k a,f k=some a→∀ b,q'.df a=some b↔∃ k',q.df k=some k'∧f k'=some b
 nxT:∀ k l k',q.nx k l=some k'→(f k).isSome∧(f k').isSome
 dfT:∀ k k',q.df k=some k'→(f k).isSome∧(f k').isSome
 fn:∀ k a,f k=some a→(a∈q'.fin↔k∈q.fin)
 nxP:∀ a l b,q'.nx a l=some b→1≤b
 dfP:∀ a b,q'.df a=some b→1≤b
section
variable {q:DRep (List Int)} {q':DRep Int} {f:List Int→Option Int}
theorem Ren.next (h:Ren q q' f) {k:List Int} {a:Int} (hk:f k=some a) (l:Str):(∃ k' b,q.next k l=some k'∧q'.next a l=some b∧f k'=some b)∨(q.next k l=none∧q'.next a l=none):=by
 unfold DRep.next
 cases hnx:q.nx k l with
 | some k' =>
  refine unE (Option.isSome_iff_exists.mp (h.nxT _ _ _ hnx).2) fun b hb=>?_
  exact .inl (inEEAA k' b rfl (by rw [(h.nx k a l hk b).mpr (inEA k' hnx hb)]; rfl) hb)
 | none =>
  have hn:q'.nx a l=none:=by
   cases e:q'.nx a l with
   | none=>rfl
   | some b=>refine unEA ((h.nx k a l hk b).mp e) fun k' h1 _=>?_; rw [hnx] at h1; exact nnS h1
  rw [hn]
  cases hdf:q.df k with
  | some k' =>
   refine unE (Option.isSome_iff_exists.mp (h.dfT _ _ hdf).2) fun b hb=>?_
   exact .inl (inEEAA k' b rfl (by rw [(h.df k a hk b).mpr (inEA k' hdf hb)]; rfl) hb)
  | none =>
   refine .inr ⟨rfl,?_⟩
   cases e:q'.df a with
   | none=>rfl
   | some b=>refine unEA ((h.df k a hk b).mp e) fun k' h1 _=>?_; rw [hdf] at h1; exact nnS h1
theorem Ren.run (h:Ren q q' f):∀ (cs:List Nat) {k:List Int} {a:Int},f k=some a→(∃ k' b,q.run k cs=some k'∧q'.run a cs=some b∧f k'=some b)∨(q.run k cs=none∧q'.run a cs=none)
 | [],k,a,hk=>.inl (inEEAA k a rfl rfl hk)
 | cp::cs,k,a,hk=>by
  unfold DRep.run
  rw [List.foldlM_cons,List.foldlM_cons]
  rcases h.next hk ⟨#[cp]⟩ with ⟨k',b,e1,e2,e3⟩ | ⟨e1,e2⟩
  ·rw [e1,e2]
   exact h.run cs e3
  ·rw [e1,e2]
   exact .inr ⟨rfl,rfl⟩
theorem Ren.acc (h:Ren q q' f) (cs:List Nat):q'.acc cs↔q.acc cs:=by
 unfold DRep.acc
 rcases h.run cs h.ini with ⟨k,b,e1,e2,e3⟩ | ⟨e1,e2⟩
 ·rw [e1,e2]
  constructor
  ·intro z14; refine unEA z14 fun _ e hb=>?_; clear z14; cases e; exact (inEA k rfl ((h.fn _ _ e3).mp hb))
  ·intro z15; refine unEA z15 fun _ e hb=>?_; clear z15; cases e; exact (inEA b rfl ((h.fn _ _ e3).mpr hb))
 ·rw [e1,e2]
  constructor <;> rintro ⟨_,e,_⟩ <;> exact nnS e
theorem Ren.true_ (h:Ren q q' f):q'.trueStates (1≤·):=by
 intro k l k' e
 unfold DRep.next at e
 cases hnx:q'.nx k l with
 | some k2=>rw [hnx] at e; cases e; exact h.nxP _ _ _ hnx
 | none=>rw [hnx] at e; exact h.dfP _ _ e
end
end
section
noncomputable abbrev cellO (v:Option Value):Obj:={ cls:=.type "cell",data:=.cell v }
noncomputable abbrev frameO:Obj:={ cls:=.type "frame",data:=.dict #[] }
section
variable {c:Cx} {O:List (Addr×Obj)} {L a ca:Addr} {G:View} {m:Str→Option Value} {A:Around} {E:Value→Shared→Prop} {s:Shared} {env:Env} {x:Str} {v:Value}
theorem x_cell {M:Model} {pos:Pos} {Q:Value→Shared→Prop} (F:Fx c O L G m s) (hc:env.cells.lookup x=some ca) (hg:G ca=some (cellO (some v))) (hk:env.scope.kind=.function) (hl:env.kindOf x=some .cell)
  (hd:(x == ("__debug__" : Str))=false) (h:Q v s):wpAny M A (eval (.Name x pos) env) Q E s :=
 wpAny_Name (wpAny_loadName_cell hk hl hc (inEA _ (F.get hg) rfl) h) hd
theorem x_free {M:Model} {pos:Pos} {Q:Value→Shared→Prop} (F:Fx c O L G m s) (hc:env.cells.lookup x=some ca) (hg:G ca=some (cellO (some v))) (hk:env.scope.kind=.function) (hl:env.kindOf x=some .free)
  (hd:(x == ("__debug__" : Str))=false) (hn:(x == ("__classdict__" : Str))=false) (h:Q v s):wpAny M A (eval (.Name x pos) env) Q E s :=
 wpAny_Name (wpAny_loadName_free hk hl hc (inEA _ (F.get hg) rfl) h hn) hd
theorem x_setCell {M:Model} {vJ0:Option Value} {Q:Unit→Shared→Prop} (F:Fx c O L G m s) (hc:env.cells.lookup x=some ca) (hg:G ca=some (cellO vJ0)) (hk:env.scope.kind=.function) (hl:env.kindOf x=some .cell)
  (h:∀ s',Fx c O L (upd G ca (cellO (some v))) m s'→Q () s'):wpAny M A (storeName env x v) Q E s:=by
 unfold storeName
 simp only [hl,hk]
 refine wpAny_bind (wpAny_cellOf hc ?_)
 refine wpAny_bind (wpAny_load (F.get hg) ?_)
 refine wpAny_update (F.get hg) ?_
 exact h _ (F.upd hg (fun o=>{ o with data:=.cell (some v) }) rfl (t:=s.toks) (d:=s.drawn))
theorem Fx.toks {s':Shared} (F:Fx c O L G m s) (h:s'.heap=s.heap) (hg:s'.gens=s.gens) (ho:s'.os=s.os):Fx c O L G m s' :=
 ⟨F.X,F.T,h▸F.ns,fun b o e=>h▸F.see b o e,fun p hp=>h▸F.out p hp,F.nd,fun b o e=>h▸F.keep b o e,F.above,hg.trans F.gens,ho.trans F.os⟩
theorem newEnv_cells {M:Model} {scope:Scope} {globals:Addr} {binds:List (Str×Value)} {qual:Str} {func:Option Addr} {code:Value} {builtins:Addr} {Q:Env→Shared→Prop}
  (h:∀ env,env=newEnv scope s.heap.objs.size globals (cellsFrom (s.heap.objs.size+1) scope.names []) qual func code none builtins →
   wpAny M A (forIn binds PUnit.unit fun x _=>do storeName env x.1 x.2; pure (ForInStep.yield PUnit.unit)) (fun _ s'=>Q env s') E { s with heap:=pushCells (s.heap.push frameO) scope.names }) :
  wpAny M A (newFunctionEnv scope globals [] binds qual func code none builtins) Q E s:=by
 simp only [newFunctionEnv,Option.isSome_none,Bool.false_eq_true,if_false]
 refine wpAny_bind (wpAny_alloc ?_)
 refine wpAny_bind (wpAny_layCells _ (fun name kind cells=>by cases hkc:kind == NameKind.cell <;> simp [hkc]) _ _ _ _ ?_)
 rw [show ({ s with heap:=s.heap.push { cls:=.type "frame",data:=.dict #[] } }:Shared).heap.objs.size=s.heap.objs.size+1 from Heap.size_push ..]
 refine wpAny_bind (wpAny_mono (h _ rfl) (fun _ s' q=>wpAny_pure q) fun _ _ e=>e)
theorem binds_nil {M:Model} {Q:PUnit→Shared→Prop} (h:Q ⟨⟩ s):wpAny M A (forIn ([]:List (Str×Value)) PUnit.unit fun x _=>do storeName env x.1 x.2; pure (ForInStep.yield PUnit.unit)) Q E s:=by
 rw [List.forIn_nil]; exact wpAny_pure h
theorem binds_cons {M:Model} {r:List (Str×Value)} {Q:PUnit→Shared→Prop} (h:wpAny M A (storeName env x v) (fun _ s'=>wpAny M A (forIn r PUnit.unit fun x _=>do storeName env x.1 x.2; pure (ForInStep.yield PUnit.unit)) Q E s') E s) :
  wpAny M A (forIn ((x,v)::r) PUnit.unit fun x _=>do storeName env x.1 x.2; pure (ForInStep.yield PUnit.unit)) Q E s:=by
 rw [List.forIn_cons]
 exact wpAny_bind (wpAny_bind (wpAny_mono h (fun _ s' q=>wpAny_pure q) fun _ _ e=>e))
theorem Fx.newFrame (F:Fx c O L G m s):∃ O',Fx c O' s.heap.objs.size G (fun _=>none) { s with heap:=s.heap.push frameO }∧(∀ G' m' sJ2,Fx c O' s.heap.objs.size G' m' sJ2→Fx c O L G' m sJ2):=by
 refine unEEEA F.ns fun oL es ep hoL hL2=>?_
 have hns:(s.heap.push frameO).Ns s.heap.objs.size fun _=>none:=Heap.Ns.new s.heap (.type "frame")
 have up:∀ b o,s.heap.get? b=some o→(s.heap.push frameO).get? b=some o:=fun b o e=>Heap.get?_push_of_some _ e
 refine (inEA ((L,oL)::O) ⟨F.X,F.T,hns,fun b o e=>?_,fun p hp=>?_,?_,fun b o e=>up b o (F.keep b o e),F.sizeAbove,F.gens,F.os⟩ (fun G' m' sJ2 FJ2=>?_))
 ·refine unAAA (F.see b o e) fun q1 q2 q3 q4=>?_
  refine (inAAA q1 (up b o q2) (Nat.ne_of_lt (Heap.lt_size q2)) (fun p hp=>?_))
  rcases List.mem_cons.mp hp with rfl | hp
  ·exact q3.symm
  ·exact q4 p hp
 ·rcases List.mem_cons.mp hp with rfl | hp
  ·exact (inAA (up _ _ hoL) (Nat.ne_of_lt (Heap.lt_size hoL)) F.baseL)
  ·exact (inAA (up _ _ (F.out p hp).1) (Nat.ne_of_lt (Heap.lt_size (F.out p hp).1)) ((F.out p hp).2.2))
 ·refine List.nodup_cons.mpr ⟨fun hm=>?_,F.nd⟩
  refine unEA (List.mem_map.mp hm) fun p hp e=>?_
  exact (F.out p hp).2.1 e
 ·refine ⟨F.X,F.T,(inEEEA oL es ep ((FJ2.out _ (.head _)).1) hL2),fun b o e=>?_,fun p hp=>⟨(FJ2.out p (.tail _ hp)).1,(F.out p hp).2⟩,F.nd,FJ2.keep,F.above,FJ2.gens,FJ2.os⟩
  refine unAAA (FJ2.see b o e) fun q1 q2 _ q4=>?_
  exact (inAAA q1 q2 ((q4 _ (.head _)).symm) (fun p hp=>q4 p (.tail _ hp)))
theorem enterK {f:Addr} {fd:FuncData} {body:List Stmt} {oc:Value} {od:Option Addr} {osl:Array (Option Value)} {pos:List Value} {kw:List (Str×Value)} {binds:List (Str×Value)} {Q:Value→Shared→Prop}
  (F:Fx c O L G m s) (ho:(hd.heap_39 c.w.params).lookup f=some ⟨oc,od,.func fd,osl⟩) (hbody:fd.body=.stmts body) (hcd:codeIn (hd.heap_39 c.w.params) fd.code fd.qualname=true)
  (hroom:A.depth<recursionLimit) (hbind:BindsTo s fd ⟨pos,kw⟩ binds) (hclo:fd.closure=[])
  (hco:fd.scope.isCoroutine=false) (hgen:fd.scope.isGenerator=false)
  (h:∀ sJ1 L' O' env,sJ1.heap.objs.size=L'+1→Fx c O' L' G (fun _=>none) sJ1→(∀ G' m' sJ2,Fx c O' L' G' m' sJ2→Fx c O L G' m sJ2) →
   env=newEnv fd.scope L' fd.globals (cellsFrom (L'+1) fd.scope.names []) (fd.qualname ++ ".<locals>.") (some f) fd.code none fd.builtins →
   wpAny (model c.prog c.w) A.in1 (forIn binds PUnit.unit fun x _=>do storeName env x.1 x.2; pure (ForInStep.yield PUnit.unit))
    (fun _ sJ2=>(∃ GJ2 mJ2,Fx c O' L' GJ2 mJ2 sJ2)∧wpAny (model c.prog c.w) (A.deeper env) (execs body env) (fun fl sJ2=>Q (retOf fl) sJ2) (fun _ _=>False) sJ2) (fun _ _=>False) { sJ1 with heap:=pushCells sJ1.heap fd.scope.names }) :
  wpAny (model c.prog c.w) A (call (.ref f) pos kw) Q E s:=by
 refine wpAny_call ?_
 refine codeAny_call_function hroom (F.K _ _ ho) rfl hco hgen hbody (codeRec_of F.K hcd) ?_
 rw [hclo]
 refine hbind _ _ _ _ (newEnv_cells fun env he=>?_)
 refine unEA F.newFrame fun O' F' back=>?_
 have h1:=h _ _ O' env (by show (s.heap.push frameO).objs.size=_; exact Heap.size_push ..) F' back he
 refine wpAny_mono h1 (fun _ sJ2 q=>?_) fun _ _ e=>e.elim
 obtain ⟨⟨GJ2,mJ2,FJ2⟩,q⟩:=q
 exact ⟨FJ2.T.nolimit.keeps FJ2.keep,codeAny_func (wpAny_mono q (fun fl sJ2 hq=>hq) fun _ _ hf=>False.elim hf)⟩
noncomputable abbrev cenvF (fd:FuncData) (L f:Addr):Env:=newEnv fd.scope L fd.globals fd.closure (fd.qualname ++ ".<locals>.") (some f) fd.code none fd.builtins
theorem enterM {f:Addr} {fd:FuncData} {body:List Stmt} {oF:Obj} {pos:List Value} {kw:List (Str×Value)} {binds:List (Str×Value)} {Q:Value→Shared→Prop}
  (F:Fx c O L G m s) (ho:G f=some oF) (hof:oF.data=.func fd) (hbody:fd.body=.stmts body) (hcd:s.heap.CodeRec fd.code fd.qualname)
  (hroom:A.depth<recursionLimit) (hbind:BindsTo s fd ⟨pos,kw⟩ binds)
  (hcell:∀ x∈fd.scope.names,x.2≠.cell) (hloc:∀ x∈binds,fd.scope.names.lookup x.1=some .local)
  (hco:fd.scope.isCoroutine=false) (hgen:fd.scope.isGenerator=false) (hk:fd.scope.kind=.function)
  (h:∀ sJ1 L' O',Fx c O' L' G (fun x=>binds.reverse.lookup x) sJ1→(∀ G' m' sJ2,Fx c O' L' G' m' sJ2→Fx c O L G' m sJ2) →
   wpAny (model c.prog c.w) (A.deeper (cenvF fd L' f)) (execs body (cenvF fd L' f)) (fun fl sJ2=>Q (retOf fl) sJ2) (fun _ _=>False) sJ1) :
  wpAny (model c.prog c.w) A (call (.ref f) pos kw) Q E s:=by
 refine wpAny_call ?_
 refine codeAny_call_function hroom (F.get ho) hof hco hgen hbody hcd ?_
 refine unEA F.newFrame fun O' F' back=>?_
 refine hbind _ _ _ _ (wpAny_newFunctionEnv hcell hloc (fun hJ0 hns hsb=>⟨(F.T.nolimit.keeps F.keep).fresh _ hsb,codeAny_func (wpAny_mono (h _ s.heap.objs.size O' ?_ back) (fun fl sJ2 hq=>hq) fun _ _ hf=>False.elim hf)⟩) hk)
 have:=F'.set (h':=hJ0) hns hsb (t:=s.toks+binds.length) (d:=s.drawn)
 exact this
end
end
section
structure Nest (c:Cx):Prop where
 code:CodeHd c.base 336 332
 bm:c.base.BuiltinsAt c.mg 332
section
variable {c:Cx} {O:List (Addr×Obj)} {L a d:Addr} {G:View} {m:Str→Option Value} {A:Around} {E:Value→Shared→Prop} {s:Shared} {env:Env} {x:Str} {v:Value}
 {K:Type} [DecidableEq K] {kd:Kd c K} {o:Obj} {kvs:List (K×Value)}
theorem x_lenDict {Q:Value→Shared→Prop} (F:Fx c O L G m s) (hg:G d=some o) (hD:DictIs kd G o kvs) (hz:kvs.length<100000)
  (h:∀ s' t,Fx c O L G m s'→Q (.int kvs.length t) s'):wpAny (model c.prog c.w) A (call (.builtin "len") [.ref d] []) Q E s:=by
 have hT:=hD.typeIs (F.get hg)
 refine unAEEAA hD fun _ es ep hd hz' _=>?_; clear hD
 refine Calls.call_function_entry kind_len plain_len entry_len (args_len1 _) ?_
 refine wpAny_bind (m:=oneArg "len" _) (wpAny_pure ?_)
 refine wpAny_bind (m:=callSpecial? (.ref d) (Str.ofString "__len__")) (wpAny_callSpecial?_slot (name:=Str.ofString "__len__") hT PySem.F.slot_dict_len
  (wpAny_call_entry PySem.F.slot_dict_len hT PySem.F.entry_dict_len ?_ (PySem.F.args_dict_len_1 _)))
 show wpAny _ _ (dictSize d >>= _) _ _ s
 refine wpAny_bind (wpAny_bind (wpAny_dictEntries (F.get hg) hd (wpAny_pure ?_)))
 show wpAny _ _ (Builtin.Dict.pendingCount d >>= _) _ _ s
 refine wpAny_bind (wpAny_pendingCount_other (F.mods hg) ?_)
 refine wpAny_bind (wpAny_mkInt (wpAny_pure (inEA _ rfl ?_)))
 have hn:es.size=kvs.length:=by rw [← Array.length_toList]; exact hz'.length
 rw [Nat.add_zero,hn]
 refine wpAny_bind (wpAny_holding (wpAny_pure ?_))
 refine wpAny_bind (wpAny_letGo ?_)
 show wpAny _ _ (if ((kvs.length:Nat):Int) ≥ 2 ^ 63 then _ else _) _ _ _
 rw [if_neg (by omega)]
 exact wpAny_bind (wpAny_mkInt (wpAny_pure (inEA _ rfl (h _ _ (F.eta (t:=s.toks+1+1) (d:=s.drawn))))))
theorem x_def {name:Str} {params:Arguments} {body:List Stmt} {scope:Scope} {pos:Pos} {clos:List (Str×Addr)} {Q:Flow→Shared→Prop} (F:Fx c O env.locals G m s) (N:Nest c) (hP:G 332=some (tabObj #[])) (hcode:env.code=.ref 336)
  (hge:env.globals=mainGlobals) (hcl:closureFor scope env=pure clos) (hkf:env.scope.kind=.function) (hl:env.kindOf name=some .local) (hd0:params.defaults=[]) (hk0:params.kw_defaults=[]) (ha:annTrees params none env=[])
  (h:∀ s' P' f c' oc vs t ctv doc,G f=none→G c'=none→f≠c'→oc.data=.fields vs→vs[1]?=some (.str (qualnameIn env name name) t) →
   Fx c O env.locals (upd (upd (upd G 332 (tabObj P')) c' oc) f (fnMade name (qualnameIn env name name) params body scope clos doc ((c.mg ("__name__" : Str)).getD .none) c' ctv)) (setL m name (.ref f)) s'→Q .next s') :
  wpAny (model c.prog c.w) A (exec (.FunctionDef name params body [] none [] scope none name pos) env) Q E s:=by
 refine nestDef_K hd0 hk0 ha ?_
 refine unEEAAAAA N.bm fun bm ob b1 b2 b3 b4 b5 b6=>?_
 refine makeFunction_K (mg:=c.mg) hcl hge (F.T.g.keeps F.keep) hcode (N.code.keeps F.keep) (F.get hP) trivial rfl (by decide) (inEEAAAAA bm ob b1 b2 b3 b4 (F.keep _ _ b5) b6) fun c' ctv doc h' tk hx hge' hlt hrec htb=>?_
 refine unEEEEAAA hrec fun cJ2 oc vs t e2 hoc hd hv=>?_; clear hrec
 cases e2
 have FJ1:=F.at (s':={ s with heap:=h' }) (F.new hP) (F.see _ _ hP).2.2.1 (F.see _ _ hP).2.2.2 (fun b o hb e=>hx b o hb e) htb rfl rfl
 have low:∀ {b o},s.heap.get? b=some o→b≠c':=fun {b o} e q=>absurd (q▸Heap.lt_size e) (Nat.not_lt.mpr hge')
 have hG:∀ {b},s.heap.objs.size≤b→G b=none:=fun {b} hb=>by
  cases e:G b with
  | none=>rfl
  | some o=>exact absurd (F.lt e) (Nat.not_lt.mpr hb)
 have hbase:c.base.get? c'=none:=by
  cases e:c.base.get? c' with
  | none=>rfl
  | some o=>exact absurd rfl (low (F.keep _ _ e))
 have hsys:c'≠sysModules:=Nat.ne_of_gt (Nat.lt_of_lt_of_le (modules_low F.T.nolimit) (Nat.le_trans F.sizeAbove hge'))
 have FJ2:=FJ1.at (s':={ s with heap:=h' }) (a:=c') ⟨hbase,hsys⟩ (Nat.ne_of_gt (Nat.lt_of_lt_of_le F.ns.lt hge')) (fun p hp=>low (F.out p hp).1) (fun _ _ _ e=>e) hoc rfl rfl
 have FJ3:=FJ2.push (fnMade name (qualnameIn env name name) params body scope clos doc ((c.mg ("__name__" : Str)).getD .none) c' ctv) rfl (t:=tk) (d:=s.drawn)
 refine x_store FJ3 hkf hl fun sJ4 FJ4=>?_
 exact h sJ4 _ _ c' oc vs t ctv doc (hG (Nat.le_trans hge' (Nat.le_of_lt hlt))) (hG hge') (Nat.ne_of_gt hlt) hd hv FJ4
end
noncomputable def KasOk {α:Type} (n:Nat) (P:α→Prop):KasT α→Prop
 | .ret a=>P a
 | .ask i j k=>i<n∧j<n∧∀ b,KasOk n P (k b)
theorem KasOk.bind {α β:Type} {n:Nat} {P:α→Prop} {Q:β→Prop} {f:α→KasT β}:∀ {t:KasT α},KasOk n P t→(∀ a,P a→KasOk n Q (f a))→KasOk n Q (t.bind f)
 | .ret a,h,hf=>hf a h
 | .ask _ _ _,h,hf=>(inAA h.1 h.2.1 (fun b=>KasOk.bind (h.2.2 b) hf))
noncomputable abbrev PermN (n:Nat) (p:Array Nat):Prop:=p.Perm (List.range n).toArray
section
variable {n:Nat} {p:Array Nat}
theorem PermN.lt (hn:0<n) (h:PermN n p) (i:Nat):p.getD i 0<n:=by
 by_cases hi:i<p.size
 ·have:p.getD i 0=p[i]:=by simp [Array.getD,hi]
  rw [this]
  have hm:p[i]∈(List.range n).toArray:=(Array.Perm.mem_iff h).mp (Array.getElem_mem hi)
  simpa using hm
 ·have:p.getD i 0=0:=by simp [Array.getD,hi]
  rw [this]; exact hn
theorem PermN.rev (h:PermN n p) (i j:Nat):PermN n (kas_rev p i j):=(mirror_perm _ _ _ _).trans h
theorem asc_ok (hn:0<n) (h:PermN n p):∀ f m,KasOk n (fun _=>True) (kas_asc p f m)
 | 0,_=>trivial
 | f+1,m=>(inAA (h.lt hn _) (h.lt hn _) (fun b=>by
  cases b with
  | true=>exact trivial
  | false=>exact asc_ok hn h f (m+1)))
theorem desc_ok (hn:0<n):∀ f (p:Array Nat) m q,PermN n p→KasOk n (fun r=>PermN n r.1) (kas_desc f p m q)
 | 0,_,_,_,h=>h
 | f+1,p,m,q,h=>(inAA (h.lt hn _) (h.lt hn _) (fun b=>by
  cases b with
  | true =>
   show KasOk n (fun r=>PermN n r.1) (if q > 0 then kas_desc f (kas_rev p (m - (q+1)) m) (m+1) 0 else kas_desc f p (m+1) 0)
   split
   ·exact desc_ok hn f _ _ _ (h.rev _ _)
   ·exact desc_ok hn f _ _ _ h
  | false=>exact (inAA (h.lt hn _) (h.lt hn _) (fun b=>by
    cases b with
    | true=>exact h
    | false=>exact desc_ok hn f _ _ _ h))))
theorem tail3_ok (hn:0<n) (h:PermN n p) (m k:Nat):KasOk n (fun r=>PermN n r.2) (kas_tail3 m k p):=(asc_ok hn (h.rev _ _) _ _).bind fun _ _=>h.rev _ _
theorem descPart_ok (hn:0<n) (h:PermN n p) (m k:Nat):KasOk n (fun r=>PermN n r.2) (kas_descPart m k p):=(desc_ok hn _ _ _ _ h).bind fun r hr=>by
 split
 ·exact tail3_ok hn (hr.rev _ _) _ _
 ·exact tail3_ok hn hr _ _
theorem count_ok (hn:0<n) (h:PermN n p) (k:Nat):KasOk n (fun r=>PermN n r.2) (kas_count k p):=(asc_ok hn h _ _).bind fun r _=>by
 split
 ·exact h
 ·split
  ·exact (inAA (h.lt hn _) (h.lt hn _) (fun b=>by
    cases b with
    | true=>exact h
    | false=>exact descPart_ok hn (h.rev _ _) _ _))
  ·exact descPart_ok hn h _ _
theorem place_ok (hn:0<n) (h:PermN n p) (k:Nat):∀ f l r,KasOk n (fun _=>True) (kas_place p k f l r)
 | 0,_,_=>trivial
 | f+1,l,r=>by
  unfold kas_place
  split
  ·exact trivial
  ·exact (inAA (h.lt hn _) (h.lt hn _) (fun b=>by
    cases b with
    | true=>exact place_ok hn h k f _ _
    | false=>exact place_ok hn h k f _ _))
theorem bin_ok (hn:0<n):∀ f (p:Array Nat) k,PermN n p→KasOk n (PermN n) (kas_bin f p k)
 | 0,_,_,h=>h
 | f+1,p,k,h=>(place_ok hn h k _ _ _).bind fun l _=>bin_ok hn f _ _ ((bubble_perm _ _ _).trans h)
theorem sort_ok (hn:0<n):KasOk n (PermN n) (kas_sort n):=(count_ok hn (Array.Perm.refl _) n).bind fun r hr=>by
 split
 ·exact bin_ok hn _ _ _ hr
 ·exact hr
theorem kasWp_ok {α:Type} {P:α→Prop} {cmp:Nat→Nat→(Bool→Shared→Prop)→Shared→Prop} {Q:α→Shared→Prop} {s:Shared} (hc:∀ i j (C:Bool→Shared→Prop),i<n→j<n→(∀ b,C b s)→cmp i j C s) (hQ:∀ a,P a→Q a s) :
  ∀ {t:KasT α},KasOk n P t→t.kasWp cmp Q s
 | .ret a,h=>hQ a h
 | .ask _ _ k,h=>hc _ _ _ h.1 h.2.1 fun b=>kasWp_ok hc hQ (t:=k b) (h.2.2 b)
end
end
section
section
variable {c:Cx} {O:List (Addr×Obj)} {L a d S:Addr} {G:View} {m:Str→Option Value} {A:Around} {E:Value→Shared→Prop} {s:Shared}
theorem lex_ints {prog:Program} {w:World} {fin:Bool} {Q:Bool→Shared→Prop} (h:∀ b,Q b s):∀ (ps:List (Value×Value)) (i:Nat),(∀ p∈ps,∃ a t b u,p=(.int a t,.int b u))→KatLex prog w A true fin Q ps i s
 | [],_,_=>kat_nil (h fin)
 | (p,q)::r,i,hp=>by
  refine unEEEE (hp _ List.mem_cons_self) fun a t b u e=>?_
  cases e
  refine kat_cons (wpAny_eqBool_int (kat_go (fun _=>kat_yes (lex_ints h r (i+1) fun p hp'=>hp p (List.mem_cons_of_mem _ hp'))) fun _=>kat_no ?_))
  cases i with
  | zero=>exact oneLt_int (h _)
  | succ i=>exact kat_one _ _ (lt_int (h _))
noncomputable def TupsAre (G:View) (vs:List Value):Prop:=∀ v∈vs,∃ t o us,v=.ref t∧G t=some o∧TupIs o us∧us≠[]∧∀ u∈us,∃ n k,u=.int n k
theorem firsts {vs:List Value}:∀ {h:Heap},(∀ v∈vs,∃ t o us,v=.ref t∧h.get? t=some o∧TupIs o us∧us≠[]∧∀ u∈us,∃ n k,u=.int n k)→∃ fs,KatTups h vs fs∧fs.length=vs.length∧∀ f∈fs,∃ n k,f=.int n k:=by
 induction vs with
 | nil=>exact fun _=>(inEAA ([]) KatTups.nil rfl (fun _ h=>niP h))
 | cons v vs ih =>
  intro h hv
  refine unEAA (ih fun v' hv'=>hv v' (List.mem_cons_of_mem _ hv')) fun fs h1 h2 h3=>?_
  refine unEEEAAAA (hv _ List.mem_cons_self) fun t o us y1 ho y2 hne hi=>?_; clear hv; subst y1; refine unAE y2 fun hc n hd=>?_; clear y2
  cases us with
  | nil=>exact absurd rfl hne
  | cons u us =>
   refine (inEAA (u::fs) (KatTups.cons ho hc hd (by simp) h1) (by simp [h2]) (fun f hf=>?_))
   rcases List.mem_cons.mp hf with rfl | hf
   ·exact hi _ List.mem_cons_self
   ·exact h3 f hf
theorem sort_tups {vs:List Value} {n:Nat} {P:PySem.Fin→Shared→Prop} (ho:s.heap.get? S=some (seqObj "list" vs.toArray n)) (hv:∀ v∈vs,∃ t o us,v=.ref t∧t≠S∧s.heap.get? t=some o∧TupIs o us∧us≠[]∧∀ u∈us,∃ n k,u=.int n k)
  (h64:vs.length<64) (h:∀ out:Array Value,out.toList.Perm vs→P (.done (.ret .none)) { s with heap:=sortedHeap s.heap S vs out }) :
  wpAny (model c.prog c.w) A (Builtin.«list.sort» ⟨[.ref S],[]⟩) P E s:=by
 rw [list_sort_plain]
 have ha:S<s.heap.objs.size:=Heap.lt_size ho
 refine wpAny_bind (listItems_at ho rfl ?_)
 refine wpAny_bind (listUpdate_at ho rfl ?_ (by rw [List.size_toArray,sizeLine_eq]; exact Nat.le_trans (Nat.le_of_lt h64) (by decide)) (Nat.zero_le _))
 obtain ⟨e1,ho1⟩:∃ e1,(s.heap.update S (Obj.mapSeq fun _=>(#[]:Array Value))).get? S=some (seqObj "list" #[] e1):=⟨_,get?_update_seq ho (fun _=>#[])⟩
 refine wpAny_bind (seqEpoch_at ho1 rfl ?_)
 refine wpAny_bind (wpAny_newTuple ?_ (by show vs.length≤_; rw [sizeLine_eq]; exact Nat.le_trans (Nat.le_of_lt h64) (by decide)))
 refine wpAny_bind (wpAny_newList ?_ (Nat.zero_le _))
 refine wpAny_holding ?_
 have up:∀ {b o},b≠S→s.heap.get? b=some o→(((s.heap.update S (Obj.mapSeq fun _=>#[])).push (seqObj "tuple" vs.toArray 0)).push (seqObj "list" #[] 0)).get? b=some o:=fun {b o} hb e =>
  Heap.get?_push_of_some _ (Heap.get?_push_of_some _ (by rw [Heap.get?_update_ne _ _ _ _ hb]; exact e))
 have ho6:(((s.heap.update S (Obj.mapSeq fun _=>#[])).push (seqObj "tuple" vs.toArray 0)).push (seqObj "list" #[] 0)).get? S=some (seqObj "list" #[] e1):=Heap.get?_push_of_some _ (Heap.get?_push_of_some _ ho1)
 show wpAny (model c.prog c.w) A _ P E { s with heap:=((s.heap.update S (Obj.mapSeq fun _=>#[])).push (seqObj "tuple" vs.toArray 0)).push (seqObj "list" #[] 0) }
 dsimp only
 have hsz:vs.toArray.size=vs.length:=by simp
 by_cases h2:vs.toArray.size<2
 ·rw [if_pos h2,if_pos h2]
  refine wpAny_bind (wpAny_pure ?_)
  rw [StateT.run_pure]
  refine wpAny_bind (wpAny_pure ?_)
  dsimp only
  refine wpAny_bind (seqEpoch_at ho6 rfl ?_)
  refine wpAny_bind (listUpdate_at ho6 rfl ?_ (Nat.zero_le _) (by rw [Array.size_map]; show (pairsOf vs).size≤_; rw [pairsOf_size,sizeLine_eq]; exact Nat.le_trans (Nat.le_of_lt h64) (by decide)))
  simp only [bne_self_eq_false,Bool.false_eq_true,if_false]
  refine wpAny_pure (h ((arrOf (SortSt.mk' general' (vs.toArray.zip vs.toArray) #[] 7 none)).map fun x:Value×Value=>x.2) ?_)
  have:((arrOf (SortSt.mk' general' (vs.toArray.zip vs.toArray) #[] 7 none)).map (·.2)).toList=vs:=by
   rw [Array.toList_map,Array.toList_zip]
   simp [List.map_snd_zip]
  rw [this]
 ·rw [if_neg h2,if_neg h2]
  have h2':2≤vs.length:=by exact a20 55447336097423130047655486423112 hsz h2
  refine unEAA (firsts (vs:=vs) (h:=((s.heap.update S (Obj.mapSeq fun _=>#[])).push (seqObj "tuple" vs.toArray 0)).push (seqObj "list" #[] 0)) fun v hv'=>by
   refine unEEEAAA (hv v hv') fun t o us e hne hg r=>?_
   exact (inEEEAA t o us e (up hne hg) r)) fun fs t hfl hfi=>?_
  refine wpAny_bind (kat_kind t (by exact a30 1774314755117540161525079450102534 hsz h2 hfl) (T:=.type "int") (fun v hv'=>by refine unEE (hfi v hv') fun n k y3=>?_; clear hv'; subst y3; exact .now) rfl ?_)
  rw [show ((Value.type "int" != Value.type "tuple")=true) from rfl]
  refine wpAny_bind (wpAny_mono (kat_run (κ:=tuples' true) (ks:=vs) (Q:=fun st' s'=>∃ p:Array Nat,PermN vs.length p∧arrOf st'=p.map (kas_item (vs.toArray.zip vs.toArray))∧failedOf st'=none∧s'={ s with heap:=((s.heap.update S (Obj.mapSeq fun _=>#[])).push (seqObj "tuple" vs.toArray 0)).push (seqObj "list" #[] 0) })
   (G:=fun p s'=>PermN vs.length p∧s'={ s with heap:=((s.heap.update S (Obj.mapSeq fun _=>#[])).push (seqObj "tuple" vs.toArray 0)).push (seqObj "list" #[] 0) }) rfl h2' h64 (fun p' st' s' a1 a2 a3 a4=>(inEAAA p' a4.1 a2 a3 a4.2)) ?_) ?_ fun _ _ e=>e)
  ·refine kasWp_ok (n:=vs.length) (P:=PermN vs.length) (fun i j C hi hj hC=>?_) (fun p hp=>⟨hp,rfl⟩) (sort_ok (by exact Nat.le_of_lt ‹_›))
   unfold kas_ask
   have gi:∀ {i},i<vs.length→vs.getD i Value.none∈vs:=fun {i} hi=>by rw [List.getD_eq_getElem?_getD,List.getElem?_eq_getElem hi]; exact List.getElem_mem hi
   refine unEEEAAAA (hv _ (gi hi)) fun t1 o1 us1 x1 x2 x3 y4 w27=>unA w27 fun _ x5=>?_; clear w27; refine unAE y4 fun _ n1 x4=>?_; clear y4
   refine unEEEAAAA (hv _ (gi hj)) fun t2 o2 us2 y1 y2 y3 y1 w28=>unA w28 fun _ y5=>?_; clear w28; refine unAE y1 fun _ n2 y4=>?_; clear y1
   rw [x1,y1]
   refine kat_lt (up x2 x3) x4 (up y2 y3) y4 (lex_ints hC _ _ fun p hp=>?_)
   obtain ⟨p1,p2⟩:=p
   have hp':=List.of_mem_zip hp
   refine unEE (x5 p1 (by simpa using hp'.1)) fun a k e1=>?_
   refine unEE (y5 p2 (by simpa using hp'.2)) fun b u e2=>?_
   exact (inEEEE a k b u (by rw [e1,e2]))
  ·intro z1 s' z2; obtain ⟨⟨⟩,st'⟩:=z1; refine unEAAA z2 fun p hp har hf y5=>?_; clear z2; subst y5
   have hout:=kat_snds (ks:=vs) (vs:=vs) rfl har
   have hps:p.size=vs.length:=by have:=hp.size_eq; simpa using this
   refine wpAny_bind (seqEpoch_at ho6 rfl ?_)
   refine wpAny_bind (listUpdate_at ho6 rfl ?_ (Nat.zero_le _) (by rw [hout,List.size_toArray,List.length_map,Array.length_toList,hps,sizeLine_eq]; exact Nat.le_trans (Nat.le_of_lt h64) (by decide)))
   rw [hf]
   simp only [bne_self_eq_false,Bool.false_eq_true,if_false]
   refine wpAny_pure (h _ ?_)
   rw [hout]
   have e1:(List.range vs.length).map (fun i=>vs.getD i Value.none)=vs:=by
    apply List.ext_getElem
    ·simp
    ·intro i h1 h2; simp [List.getD_eq_getElem?_getD,List.getElem?_eq_getElem h2]
   have e2:p.toList.Perm (List.range vs.length):=by simpa using hp.toList
   have:=e2.map fun i=>vs.getD i Value.none
   rwa [e1] at this
theorem x_sortedSetTup {ks:List (List Int)} {o:Obj} {Q:Value→Shared→Prop} (hh:A.handled=none) (F:Fx c O L G m s) (hg:G a=some o) (hI:SetIs (kTup c) G o ks) (hl:ks.length<64) (hne:∀ k∈ks,k≠[])
  (h:∀ S s' vs ns k,G S=none→Fx c O L (upd G S (lst vs k)) m s'→KeysAre (kTup c) G vs ns→ns.Perm ks→Q (.ref S) s'):wpAny (model c.prog c.w) A (call (.builtin "sorted") [.ref a] []) Q E s:=by
 refine sorted_core (Z:=fun vs=>∃ ns,KeysAre (kTup c) G vs ns∧ns.Perm ks) (P:=fun out=>∃ ns',KeysAre (kTup c) G out.toList ns'∧ns'.Perm ks)
  (fun Q' h'=>x_collectSet (by exact hh) F hg hI (by exact Nat.lt_of_lt_of_le ‹_› (by decide)) fun s' vs ns F' z p=>h' s' vs F' (inEA ns z p)) ?_ ?_ ?_
 ·intro S s' vs P' z3 hS F hP; refine unEA z3 fun ns z hp=>?_; clear z3
  refine sort_tups (F.get (upd_self _ _ _)) (fun v hv=>?_) (by rw [z.length,hp.length_eq]; exact hl) fun out hout=>?_
  ·refine unEA (z.left hv) fun k hk hkv=>?_
   refine unEEEAAA (kTup_is hkv) fun t ot us e gt ht zt=>?_
   refine (inEEEAAAA t ot us e (fun q=>(by rw [q,hS] at gt; exact nnS gt)) (F.get (by rw [upd_ne (nns gt hS)]; exact gt)) ht (inA (fun q=>?_) (fun u hu=>?_)))
   ·clear ht; subst q; clear hkv; cases zt; exact hne [] (hp.mem_iff.mp hk) rfl
   ·refine unEA (zt.left hu) fun n _ hn=>?_
    refine unE (Value.isInt_shape (show u.isInt n=true from hn)) fun tk e=>?_
    exact (inEE n tk e)
  ·refine unEA (z.perm hout.symm) fun ns' z' p'=>?_
   exact hP out (inEA ns' z' (p'.trans hp))
 ·intro S s' out k hS F z4; refine unEA z4 fun ns' a1 a2=>?_; clear z4
  exact h S s' out ns' k hS F (by simpa using a1) a2
 ·intro vs z5; refine unEA z5 fun ns z hp=>?_; clear z5
  rw [z.length,hp.length_eq]; exact a10 1586717453868509479846166 hl
end
end
section
noncomputable def fx337:{ fd:FuncData // FdAt 337 fd }:=⟨_,fun P=>(inEEE _ _ _ (by k_is))⟩
noncomputable def fd337:FuncData:=fx337.1
noncomputable def rmB:FuncBody:=match fd337.body with | .stmts (_::.FunctionDef _ _ b _ _ _ _ _ _ _::_)=>.stmts b | x=>x
noncomputable def rmS:Scope:=match fd337.body with | .stmts (_::.FunctionDef _ _ _ _ _ _ s _ _ _::_)=>s | _=>default
noncomputable def rmP:Arguments:=match fd337.body with | .stmts (_::.FunctionDef _ p _ _ _ _ _ _ _ _::_)=>p | _=>⟨[],[],none,[],[],none,[]⟩
noncomputable def rmFd (qual:Str) (cm cb:Addr) (doc pm ctv:Value) (c':Addr):FuncData :=
 { name := "remap",qualname:=qual,params:=rmP,body:=rmB,scope:=rmS,globals:=mainGlobals,closure:=[("mapping",cm),("base",cb)],defaults:=.none,kwdefaults:=.none,doc:=doc,pyModule:=pm,annotations:=none,code:=.ref c',closureTuple:=ctv,builtins:=builtinsNs }
noncomputable def num (mp:List (List Int)) (k:List Int):Option Int:=(mp.findIdx? fun k'=>decide (k'=k)).map fun i:Nat=>(1:Int)+(i:Int)
noncomputable def MapIs (c:Cx) (G:View) (M:Addr) (mp:List (List Int)):Prop :=
 ∃ o kvs,G M=some o∧DictIs (kTup c) G o kvs∧kvs.map (·.1)=mp∧∀ (i:Nat) k v,kvs[i]?=some (k,v)→∃ t,v=.int (1+i) t
structure RemapAt (c:Cx) (G:View) (f cm cb M:Addr):Prop where
 fn:∃ qual doc pm ctv c' oc vs t,G f=some { cls:=.type "function",data:=.func (rmFd qual cm cb doc pm ctv c') }∧G c'=some oc∧oc.data=.fields vs∧vs[1]?=some (.str qual t)
 map:G cm=some (cellO (some (.ref M)))
 base:∃ t,G cb=some (cellO (some (.int 1 t)))
theorem num_some {mp:List (List Int)} {k:List Int} {i:Int} (h:num mp k=some i):∃ j:Nat,i=1+j∧mp[j]?=some k:=by
 unfold num at h
 refine unEA (Option.map_eq_some_iff.mp h) fun j hj e=>?_
 walk_at "p"; refine (inEA j e.symm ?_)
 rw [List.findIdx?_eq_some_iff_getElem] at hj
 refine unEA hj fun hlt h1 _=>?_; clear hj
 rw [List.getElem?_eq_getElem hlt,of_decide_eq_true h1]
theorem num_inj {mp:List (List Int)} {k k':List Int} {i:Int} (h:num mp k=some i) (h':num mp k'=some i):k=k':=by
 refine unEA (num_some h) fun j e hj=>?_
 refine unEA (num_some h') fun j' e' hj'=>?_
 have:j=j':=by exact Nat.le_antisymm (a21 61942572431949034922971277046 e e') (a21 60704632392664780547978995415 e e')
 clear e'; subst this
 rw [hj] at hj'; clear h'; cases hj'; rfl
theorem num_bound {mp:List (List Int)} {k:List Int} {i:Int} (h:num mp k=some i):1≤i∧i≤mp.length:=by
 refine unEA (num_some h) fun j e hj=>?_
 have:=(List.getElem?_eq_some_iff.mp hj).1
 exact ⟨a11 56336441441042119 e,a21 59281867570953677050451702 e this⟩
theorem num_append {mp:List (List Int)} {k:List Int} {i:Int} (r:List (List Int)) (h:num mp k=some i):num (mp++r) k=some i:=by
 unfold num at h ⊢
 rw [List.findIdx?_append]
 refine unEA (Option.map_eq_some_iff.mp h) fun j hj e=>?_
 rw [hj]; simp [e]
theorem num_new {mp:List (List Int)} {k:List Int} (h:k∉mp):num (mp++[k]) k=some (1+(mp.length:Int)):=by
 unfold num
 have:(mp.findIdx? fun k'=>decide (k'=k))=none:=by
  rw [List.findIdx?_eq_none_iff]; intro x hx; exact decide_eq_false fun e=>h (e▸hx)
 rw [List.findIdx?_append,this]
 simp [List.findIdx?_cons]
theorem num_mem {mp:List (List Int)} {k:List Int} (h:k∈mp):∃ i,num mp k=some i:=by
 unfold num
 cases e:mp.findIdx? fun k'=>decide (k'=k) with
 | some j=>exact ⟨_,rfl⟩
 | none=>rw [List.findIdx?_eq_none_iff] at e; exact absurd (e k h) (by simp)
section
variable {c:Cx} {O:List (Addr×Obj)} {L:Addr} {G:View} {m:Str→Option Value} {A:Around} {E:Value→Shared→Prop} {s:Shared} {n:Nat} {f cm cb M:Addr}
theorem MapIs.valueAt {mp:List (List Int)} {kvs:List (List Int×Value)} (h1:kvs.map (·.1)=mp) (h2:∀ (i:Nat) k v,kvs[i]?=some (k,v)→∃ t,v=.int (1+i) t) (k:List Int) :
  (∃ i t,num mp k=some i∧PySem.valueAt kvs k=some (.int i t))∨(k∉mp∧PySem.valueAt kvs k=none):=by
 have hi:(kvs.findIdx? fun kv=>decide (kv.1=k))=mp.findIdx? fun k'=>decide (k'=k):=by
  rw [← h1,List.findIdx?_map]; rfl
 rw [valueAt_of_idx,hi]
 cases e:mp.findIdx? fun k'=>decide (k'=k) with
 | some j =>
  rw [List.findIdx?_eq_some_iff_getElem] at e
  refine unEA (id e) fun hlt _ _=>?_
  have hlt':j<kvs.length:=by rw [← h1,List.length_map] at hlt; exact hlt
  refine unE (h2 j kvs[j].1 kvs[j].2 (List.getElem?_eq_getElem hlt')) fun t ht=>?_
  refine .inl (inEEA (1+j) t ?_ ?_)
  ·unfold num; rw [List.findIdx?_eq_some_iff_getElem.mpr e]; rfl
  ·show (kvs[j]?).map (·.2)=_
   rw [List.getElem?_eq_getElem hlt',Option.map_some,ht]
 | none =>
  rw [List.findIdx?_eq_none_iff] at e
  walk_at "p"; exact .inr ⟨fun hk=>absurd (e k hk) (by simp),rfl⟩
theorem remap_spec {mp:List (List Int)} {ks:List Int} {v:Value} {Q:Value→Shared→Prop} (F:Fx c O L G m s) (R:Room A (n+1)) (hf:RemapAt c G f cm cb M) (hM:MapIs c G M mp) (hnd:mp.Nodup) (hk:(kTup c).is G ks v) (hlen:mp.length≤500)
  (h:∀ s' oM mp' i t,Fx c O L (upd G M oM) m s'→oM.cls≠.type "tuple" → MapIs c (upd G M oM) M mp'→mp'.Nodup→num mp' ks=some i→(∃ r,mp'=mp++r)→(∀ k∈mp',k∈mp∨k=ks)→Q (.int i t) s') :
  wpAny (model c.prog c.w) A (call (.ref f) [v] []) Q E s:=by
 refine unEEEEEEEEAA hf.fn fun qual doc pm ctv c' oc vs t gf gc w29=>unA w29 fun hoc hvs=>?_; clear w29
 refine unE hf.base fun tb gb=>?_
 have gm:=hf.map
 refine enterM F (fd:=rmFd qual cm cb doc pm ctv c') (binds:=[("state",v)]) gf rfl rfl (inEEEEAAA c' oc vs t rfl (F.get gc) hoc hvs) R.dl (BindsTo.of_eq rfl) (show ∀ x∈rmS.names,x.2≠.cell from by decide) (locs rfl) rfl rfl rfl fun sJ1 L' O' FJ1 back=>?_
 have R':=R.deeper (env:=cenvF (rmFd qual cm cb doc pm ctv c') L' f)
 generalize A.deeper (cenvF (rmFd qual cm cb doc pm ctv c') L' f)=A' at R' ⊢
 clear F
 refine unEEAAA hM fun o kvs gM dM hkv hnum=>?_; clear hM
 have hlk:kvs.length=mp.length:=by rw [← hkv,List.length_map]
 walk_at "r"
 refine x_free FJ1 (v:=.ref M) rfl gm rfl rfl rfl rfl ?_
 refine x_in_dict FJ1 R'.in1 hk gM dM fun sJ2 FJ2=>?_
 clear FJ1
 rcases MapIs.valueAt hkv hnum ks with ⟨i,ti,hi,hv⟩ | ⟨hno,hv⟩
 ·rw [hv]
  simp only [Option.isSome_some]
  walk_at "r"
  refine x_free FJ2 (v:=.ref M) rfl gm rfl rfl rfl rfl ?_
  walk_at "r"
  refine x_getItemTail_dict FJ2 R'.in1 hk gM dM hv fun sJ3 FJ3=>?_
  clear FJ2
  refine x_store FJ3 rfl rfl (let MJ4:=setL _ _ _; fun sJ4 (FJ4:Fx _ _ _ _ MJ4 sJ4)=>?_)
  clear FJ3
  walk_at "r"
  walk_at "p"; refine h _ o mp i ti (by rw [upd_same gM]; exact back _ _ _ FJ4) dM.notTup (by rw [upd_same gM]; exact (inEEAAA o kvs gM dM hkv hnum)) hnd hi ⟨[],by simp⟩ fun k hk=>.inl hk
 ·rw [hv]
  simp only [Option.isSome_none]
  walk_at "r"
  refine wpAny_BinOp ?_
  refine x_free FJ2 (v:=.int 1 tb) rfl gb rfl rfl rfl rfl ?_
  walk_at "r"
  refine x_builtin FJ2 (by k_is) (v:=.builtin "len") rfl (by decide) rfl rfl rfl rfl rfl ?_
  walk_at "r"
  refine x_free FJ2 (v:=.ref M) rfl gm rfl rfl rfl rfl ?_
  walk_at "r"
  refine x_lenDict FJ2 gM dM (by exact a20 51974279400473258152748050448663 hlen hlk) fun sJ3 tJ3 FJ3=>?_
  clear FJ2
  refine PyProof.Rows.add_int ?_
  have FJ4:=FJ3.eta (t:=sJ3.toks+1) (d:=sJ3.drawn)
  clear FJ3
  refine x_store FJ4 rfl rfl (let MJ5:=setL _ _ _; fun sJ5 (FJ5:Fx _ _ _ _ MJ5 sJ5)=>?_)
  clear FJ4
  walk_at "d"
  refine x_free FJ5 (v:=.ref M) rfl gm rfl rfl rfl rfl ?_
  walk_at "r"
  refine x_setItem_dict FJ5 R'.in1 hk gM dM (by rw [sizeLine_eq]; exact Nat.le_trans (Nat.le_of_eq hlk) (Nat.le_trans hlen (by decide))) fun sJ6 oM FJ6 dM'=>?_
  clear FJ5
  rw [stored_new hv] at dM'
  walk_at "r"
  walk_at "p"; refine h _ oM (mp++[ks]) _ _ (back _ _ _ FJ6) dM'.notTup (inEEAAA oM _ (upd_self _ _ _) dM' (by rw [List.map_append,hkv]; rfl) (fun i k v hi=>?_)) (by rw [List.nodup_append]; exact (inAA hnd (List.nodup_cons.mpr ⟨List.not_mem_nil,List.nodup_nil⟩) (fun a ha b hb=>by rw [List.mem_singleton] at hb; (replace hb:=hb.symm; subst hb); exact fun q=>hno (q▸ha)))) (by rw [hlk]; exact num_new hno) ⟨[ks],rfl⟩ fun k hk=>?_
  ·by_cases hlt:i<kvs.length
   ·rw [List.getElem?_append_left hlt] at hi; exact hnum i k v hi
   ·have:i=kvs.length:=by have:=(List.getElem?_eq_some_iff.mp hi).1; rw [List.length_append] at this; simp at this; exact Nat.le_antisymm (a20 1479109091829494 this) (a20 1605982267095 hlt)
    clear hlt; subst this
    rw [List.getElem?_append_right (Nat.le_refl _),Nat.sub_self] at hi
    cases hi
    walk_at "p"; exact ⟨_,rfl⟩
  ·rcases List.mem_append.mp hk with q | q
   ·walk_at "p"; exact .inl q
   ·walk_at "p"; exact .inr (List.mem_singleton.mp q)
end
end
section
structure Rn (c:Cx) (GJ1 G':View) (d M:Addr) (q':DRep Int) (mp:List (List Int)) (V:List (List Int)):Prop where
 keep:∀ b o,b≠M→GJ1 b=some o→G' b=some o
 dfa:DfaAt c (kInt c) G' d q'
 new:∀ b,q'.has d b→GJ1 b=none
 map:MapIs c G' M mp
 hM:∃ o,GJ1 M=some o∧o.cls≠.type "tuple"
 nd:mp.Nodup
 sub:∀ k∈mp,k∈V
section
variable {c:Cx} {GJ1 G' G'':View} {d M:Addr} {q' q'':DRep Int} {mp mp' V:List (List Int)}
theorem Rn.tups (h:Rn c GJ1 G' d M q' mp V):Tups GJ1 G':=fun b o e t=>h.keep b o (fun q=>by subst q; refine unEA h.hM fun o' e' n=>?_; rw [e] at e'; cases e'; exact n t) e
theorem Rn.len (h:Rn c GJ1 G' d M q' mp V) (hV:V.length≤150):mp.length≤150:=Nat.le_trans (nodup_len h.nd h.sub) hV
theorem Rn.remap {oM:Obj} (h:Rn c GJ1 G' d M q' mp V) (hm:MapIs c (upd G' M oM) M mp') (hnd:mp'.Nodup) (hsub:∀ k∈mp',k∈V):Rn c GJ1 (upd G' M oM) d M q' mp' V:=by
 refine unEA h.hM fun o e n=>?_
 refine unEEAA h.map fun o' kvs gM dM _=>?_
 have hn:¬ q'.has d M:=fun hb=>by rw [h.new M hb] at e; exact nnS e
 exact ⟨fun b x hb e=>(upd_ne hb).trans (h.keep b x hb e),h.dfa.mono (fun b x hb e=>(upd_ne (fun q:b=M=>hn (q▸hb))).trans e) (.upd gM dM.notTup),h.new,hm,h.hM,hnd,hsub⟩
theorem Rn.step (h:Rn c GJ1 G' d M q' mp V) (hd:DfaAt c (kInt c) G'' d q'') (st:Step G' G'' (q'.has d) (q''.has d)):Rn c GJ1 G'' d M q'' mp V:=by
 refine unEA h.hM fun o e n=>?_
 refine unEEAAA h.map fun o' kvs gM dM hk hv=>?_
 have hn:¬ q'.has d M:=fun hb=>by rw [h.new M hb] at e; exact nnS e
 refine ⟨fun b x hb e=>st.keep b x (h.keep b x hb e) fun hh=>(by rw [h.new b hh] at e; exact nnS e),hd,fun b hb=>?_,(inEEAAA o' kvs (st.keep _ _ gM hn) (dM.up (h.dfa.tups st)) hk hv),h.hM,h.nd,h.sub⟩
 rcases st.new b hb with hb | hb
 ·exact h.new b hb
 ·cases e1:GJ1 b with
  | none=>rfl
  | some x =>
   by_cases q:b=M
   ·clear h e hn; subst q; rw [gM] at hb; exact snN hb
   ·rw [h.keep b x q e1] at hb; exact snN hb
theorem Rn.grow (h:Rn c GJ1 G' d M q' mp V) (le:Le G' G''):Rn c GJ1 G'' d M q' mp V:=by
 refine unEEAAA h.map fun o' kvs gM dM hk hv=>?_
 exact ⟨fun b x hb e=>le _ _ (h.keep b x hb e),h.dfa.mono (fun b o _ e=>le b o e) le.tups,h.new,(inEEAAA o' kvs (le _ _ gM) (dM.up le.tups) hk hv),h.hM,h.nd,h.sub⟩
theorem Rn.forget {a:Addr} {o:Obj} (h:Rn c GJ1 (upd G' a o) d M q' mp V) (ha:upd G' a o=G'):Rn c GJ1 G' d M q' mp V:=by rw [ha] at h; exact h
end
structure Sm (q:DRep (List Int)) (q':DRep Int) (mp:List (List Int)) (N:List Int→Str→Prop) (B D:List Int→Prop):Prop where
 ini:num mp q.ini=some q'.ini
 nxS:∀ x l y,q'.nx x l=some y→∃ k k',num mp k=some x∧q.nx k l=some k'∧num mp k'=some y
 nxC:∀ k l k',N k l→q.nx k l=some k'→∃ x y,num mp k=some x∧num mp k'=some y∧q'.nx x l=some y
 dfS:∀ x y,q'.df x=some y→∃ k k',num mp k=some x∧q.df k=some k'∧num mp k'=some y
 dfC:∀ k k',D k→q.df k=some k'→∃ x y,num mp k=some x∧num mp k'=some y∧q'.df x=some y
 fnS:∀ x∈q'.fin,∃ k∈q.fin,num mp k=some x
 fnC:∀ k∈q.fin,B k→∃ x,num mp k=some x∧x∈q'.fin
section
variable {q:DRep (List Int)} {q' q'':DRep Int} {mp:List (List Int)} {N N':List Int→Str→Prop} {B B' D D':List Int→Prop} {k k':List Int} {l:Str} {x y:Int}
theorem Sm.grow (h:Sm q q' mp N B D) (r:List (List Int)):Sm q q' (mp++r) N B D :=
 have a:∀ {k i},num mp k=some i→num (mp++r) k=some i:=fun e=>num_append r e
 ⟨a h.ini,fun x l y e=>let ⟨k,k',h1,h2,h3⟩:=h.nxS x l y e; (inEEAA k k' (a h1) h2 (a h3)),fun k l k' n e=>let ⟨x,y,h1,h2,h3⟩:=h.nxC k l k' n e; (inEEAA x y (a h1) (a h2) h3),
  fun x y e=>let ⟨k,k',h1,h2,h3⟩:=h.dfS x y e; (inEEAA k k' (a h1) h2 (a h3)),fun k k' n e=>let ⟨x,y,h1,h2,h3⟩:=h.dfC k k' n e; (inEEAA x y (a h1) (a h2) h3),
  fun x e=>let ⟨k,h1,h2⟩:=h.fnS x e; (inEA k h1 (a h2)),fun k e n=>let ⟨x,h1,h2⟩:=h.fnC k e n; (inEA x (a h1) h2)⟩
theorem Sm.weak (h:Sm q q' mp N B D) (hN:∀ k l,q.nx k l≠none→N' k l→N k l) (hB:∀ k∈q.fin,B' k→B k) (hD:∀ k,q.df k≠none→D' k→D k):Sm q q' mp N' B' D' :=
 ⟨h.ini,h.nxS,fun k l k' n e=>h.nxC k l k' (hN k l (by rw [e]; exact Option.some_ne_none _) n) e,h.dfS,fun k k' n e=>h.dfC k k' (hD k (by rw [e]; exact Option.some_ne_none _) n) e,h.fnS,fun k e n=>h.fnC k e (hB k e n)⟩
theorem Sm.setNx (h:Sm q q' mp N B D) (hk:num mp k=some x) (hq:q.nx k l=some k') (hk':num mp k'=some y) (i:q''.ini=q'.ini) (f:q''.fin=q'.fin) (df:q''.df=q'.df)
  (n:∀ a b,q''.nx a b=if a=x∧b=l then some y else q'.nx a b):Sm q q'' mp (fun a b=>N a b∨(a=k∧b=l)) B D:=by
 refine ⟨i▸h.ini,fun a b z e=>?_,fun a b z hn e=>?_,by rw [df]; exact h.dfS,by rw [df]; exact h.dfC,by rw [f]; exact h.fnS,by rw [f]; exact h.fnC⟩
 ·rw [n] at e
  split at e
  ·rename_i hc; clear n; obtain ⟨rfl,rfl⟩:=hc; cases e; exact (inEEAA k k' hk hq hk')
  ·exact h.nxS a b z e
 ·by_cases hc:a=k∧b=l
  ·clear hn; obtain ⟨rfl,rfl⟩:=hc
   rw [hq] at e; cases e
   exact (inEEAA x y hk hk' (by rw [n,if_pos ⟨rfl,rfl⟩]))
  ·refine unEEAA (h.nxC a b z (hn.resolve_right hc) e) fun x2 y2 h1 h2 h3=>?_
   refine (inEEAA x2 y2 h1 h2 ?_)
   rw [n,if_neg fun ⟨e1,e2⟩=>hc ⟨num_inj h1 (e1▸hk),e2⟩]; exact h3
theorem Sm.setDf (h:Sm q q' mp N B D) (hk:num mp k=some x) (hq:q.df k=some k') (hk':num mp k'=some y) (i:q''.ini=q'.ini) (f:q''.fin=q'.fin) (nx:q''.nx=q'.nx)
  (n:∀ a,q''.df a=if a=x then some y else q'.df a):Sm q q'' mp N B (fun a=>D a∨a=k):=by
 refine ⟨i▸h.ini,by rw [nx]; exact h.nxS,by rw [nx]; exact h.nxC,fun a z e=>?_,fun a z hn e=>?_,by rw [f]; exact h.fnS,by rw [f]; exact h.fnC⟩
 ·rw [n] at e
  split at e
  ·rename_i hc; (replace hc:=hc.symm; subst hc); cases e; exact (inEEAA k k' hk hq hk')
  ·exact h.dfS a z e
 ·by_cases hc:a=k
  ·clear hn; subst hc
   rw [hq] at e; cases e
   exact (inEEAA x y hk hk' (by rw [n,if_pos rfl]))
  ·refine unEEAA (h.dfC a z (hn.resolve_right hc) e) fun x2 y2 h1 h2 h3=>?_
   refine (inEEAA x2 y2 h1 h2 ?_)
   rw [n,if_neg fun e1:x2=x=>hc (num_inj h1 (e1▸hk))]; exact h3
theorem Sm.addFin (h:Sm q q' mp N B D) (hk:num mp k=some x) (hq:k∈q.fin) (i:q''.ini=q'.ini) (nx:q''.nx=q'.nx) (df:q''.df=q'.df) (m:∀ a,a∈q''.fin↔a∈q'.fin∨a=x):Sm q q'' mp N (fun a=>B a∨a=k) D :=
 ⟨i▸h.ini,by rw [nx]; exact h.nxS,by rw [nx]; exact h.nxC,by rw [df]; exact h.dfS,by rw [df]; exact h.dfC,fun a ha=>((m a).mp ha).elim (h.fnS a) (fun e=>(inEA k hq (e▸hk))),fun a ha hb=>hb.elim (fun hb=>let ⟨x2,h1,h2⟩:=h.fnC a ha hb; (inEA x2 h1 ((m x2).mpr (.inl h2)))) fun e=>(inEA x (e▸hk) ((m x).mpr (.inr rfl)))⟩
theorem Sm.ren (h:Sm q q' mp (fun _ _=>True) (fun _=>True) (fun _=>True)):Ren q q' (num mp):=by
 refine ⟨fun _ _ _ h1 h2=>num_inj h1 h2,fun _ _ h1=>(num_bound h1).1,h.ini,fun k a l hk b=>?_,fun k a hk b=>?_,fun k l k' e=>?_,fun k k' e=>?_,fun k a hk=>?_,fun a l b e=>?_,fun a b e=>?_⟩
 ·constructor
  ·intro e
   refine unEEAA (h.nxS _ _ _ e) fun k2 k3 h1 h2 h3=>?_
   rw [num_inj hk h1]; exact (inEA k3 h2 h3)
  ·intro z1; refine unEA z1 fun k' h1 h2=>?_; clear z1
   refine unEEAA (h.nxC _ _ _ trivial h1) fun x y e1 e2 e3=>?_
   rw [hk] at e1; cases e1
   rw [h2] at e2; cases e2
   exact e3
 ·constructor
  ·intro e
   refine unEEAA (h.dfS _ _ e) fun k2 k3 h1 h2 h3=>?_
   rw [num_inj hk h1]; exact (inEA k3 h2 h3)
  ·intro z2; refine unEA z2 fun k' h1 h2=>?_; clear z2
   refine unEEAA (h.dfC _ _ trivial h1) fun x y e1 e2 e3=>?_
   rw [hk] at e1; cases e1
   rw [h2] at e2; cases e2
   exact e3
 ·refine unEEAA (h.nxC _ _ _ trivial e) fun x y e1 e2 _=>?_
  rw [e1,e2]; exact ⟨rfl,rfl⟩
 ·refine unEEAA (h.dfC _ _ trivial e) fun x y e1 e2 _=>?_
  rw [e1,e2]; exact ⟨rfl,rfl⟩
 ·constructor
  ·intro ha
   refine unEA (h.fnS _ ha) fun k2 h1 h2=>?_
   rw [num_inj hk h2]; exact h1
  ·intro hf
   refine unEA (h.fnC k hf trivial) fun x e1 e2=>?_
   rw [hk] at e1; cases e1
   exact e2
 ·refine unEEAA (h.nxS _ _ _ e) fun _ _ _ _ h3=>?_; exact (num_bound h3).1
 ·refine unEEAA (h.dfS _ _ e) fun _ _ _ _ h3=>?_; exact (num_bound h3).1
end
section
variable {c:Cx} {O:List (Addr×Obj)} {L:Addr} {G:View} {m:Str→Option Value} {A:Around} {E:Value→Shared→Prop} {s:Shared} {env:Env}
theorem x_argsF {f:Addr} {oc:Value} {od:Option Addr} {fd:FuncData} {sl:Array (Option Value)} {first:List Value} {e:Expr} {rest:List Expr} {pos:Pos} {Q:Value→Shared→Prop} (F:Fx c O L G m s) (hg:G f=some ⟨oc,od,.func fd,sl⟩)
  (h:wpAny (model c.prog c.w) A (spliced (backTo pos (starEach (e::rest) env))) (fun vs sJ1=>FnAt f sJ1.heap∧wpAny (model c.prog c.w) A (call (.ref f) (first++vs)) Q E sJ1) E s)
  (he:starEach (e::rest) env=(false,eval e env)::starEach rest env:=by rfl) (hplain:(backTo pos (starEach rest env)).any (·.1)=false:=by rfl) :
  wpAny (model c.prog c.w) A (callWith pos (.ref f) first (backTo pos (starEach (e::rest) env)) []) Q E s:=callWith_F (inEEEE oc od fd sl (F.get hg)) h he hplain
theorem Fx.fn {f:Addr} {oc:Value} {od:Option Addr} {fd:FuncData} {sl:Array (Option Value)} (F:Fx c O L G m s) (hg:G f=some ⟨oc,od,.func fd,sl⟩):FnAt f s.heap:=(inEEEE oc od fd sl (F.get hg))
end
end
section
theorem dflt330 (P:Params):∃ oT nT tk,(hd.heap_39 P).lookup 330=some oT∧oT.data=.seq #[.int 0 tk] nT:=(inEEEA _ _ _ (by k_is) rfl)
noncomputable def U150:List Int:=(List.range 151).map Int.ofNat
theorem mem_U150 {mp:List (List Int)} {k:List Int} {x:Int} (hl:mp.length≤150) (hk:num mp k=some x):x∈U150:=by
 have hb:=num_bound hk
 unfold U150
 rw [List.mem_map]
 walk_at "p"; exact (inEA x.toNat (by rw [List.mem_range]; exact a21 1785808103634393441716812308058719308111127 hl hb.2 (Int.toNat_of_nonneg (a01 1638764953286 hb.1))) (by show ((x.toNat:Nat):Int)=x; exact Int.le_antisymm (a11 1748418910738614 (Int.toNat_of_nonneg (a01 1638764953286 hb.1))) (a11 1783603282810582 (Int.toNat_of_nonneg (a01 1638764953286 hb.1)))))
noncomputable abbrev env337 (L' cb cm:Addr):Env:=newEnv fd337.scope L' fd337.globals [(("mapping" : Str),cm),(("base" : Str),cb)] (fd337.qualname ++ ".<locals>.") (some 337) fd337.code none fd337.builtins
section
variable {c:Cx} {O:List (Addr×Obj)} {L:Addr} {G:View} {m:Str→Option Value} {A:Around} {E:Value→Shared→Prop} {s:Shared} {n:Nat} {a:Addr} {q:DRep (List Int)} {V:List (List Int)} {t:Tok}
theorem renumber {Q:Value→Shared→Prop} (F:Fx c O L G m s) (R:Room A (n+5)) (N:Nest c) (hP:G 332=some (tabObj #[])) (hD:DfaAt c (kTup c) G a q) (hnP:¬ q.has a 332) (hV:V.length≤150) (hini:q.ini∈V)
  (hnx:∀ k l k',q.nx k l=some k'→k∈V∧k'∈V) (hdf:∀ k k',q.df k=some k'→k∈V∧k'∈V) (hfn:∀ k∈q.fin,k∈V∧k≠[]) (hfl:q.fin.length<64)
  (h:∀ s' G' P' d q' f,Fx c O L G' m s'→Le (upd G 332 (tabObj P')) G'→DfaAt c (kInt c) G' d q'→Ren q q' f→Q (.ref d) s') :
  wpAny (model c.prog c.w) A (call (.ref 337) [.ref a,.int 1 t] []) Q E s:=by
 refine unEEEA (dflt330 c.w.params) fun oT nT tkT hoT hdT=>?_
 refine unEEE (fx337.2 c.w.params) fun oc od osl ho=>?_
 refine enterK F (fd:=fd337) (binds:=[("dfa",.ref a),("base",.int 1 t)]) ho rfl (by kernel_rfl) R.dl (BindsTo.of_defaults rfl (F.K _ _ hoT) hdT rfl rfl) rfl rfl rfl fun sJ1 L' O' env hsz FJ1 back he=>?_
 have R':=R.deeper (env:=env)
 generalize A.deeper env=A' at R' ⊢
 clear F
 have hb1:G (L'+1)=none:=hsz▸FJ1.fresh
 have FJ2:=FJ1.push (cellO none) rfl (t:=sJ1.toks) (d:=sJ1.drawn)
 clear FJ1
 rw [hsz] at FJ2
 have hsz2:(sJ1.heap.push (cellO none)).objs.size=L'+1+1:=by rw [Heap.size_push,hsz]
 have hb2:upd G (L'+1) (cellO none) (L'+1+1)=none:=hsz2▸FJ2.fresh
 have FJ3:=FJ2.push (cellO none) rfl (t:=sJ1.toks) (d:=sJ1.drawn)
 clear FJ2
 rw [show ({ sJ1 with heap:=sJ1.heap.push (cellO none),toks:=sJ1.toks,drawn:=sJ1.drawn }:Shared).heap.objs.size=L'+1+1 from hsz2] at FJ3
 have hFJ3:Fx c O' L' (upd (upd G (L'+1) (cellO none)) (L'+1+1) (cellO none)) (fun _=>none) { sJ1 with heap:=pushCells sJ1.heap fd337.scope.names }:=FJ3
 clear FJ3
 generalize { sJ1 with heap:=pushCells sJ1.heap fd337.scope.names }=sJ2 at hFJ3 ⊢
 have gb:upd (upd G (L'+1) (cellO none)) (L'+1+1) (cellO none) (L'+1)=some (cellO none):=(upd_ne (Nat.ne_of_lt (Nat.lt_succ_self _))).trans (upd_self _ _ _)
 have gm:upd (upd G (L'+1) (cellO none)) (L'+1+1) (cellO none) (L'+1+1)=some (cellO none):=upd_self _ _ _
 have he':env=env337 L' (L'+1) (L'+1+1):=by rw [he]; rfl
 subst he'
 clear he
 generalize hcb:L'+1=cb at *
 generalize hcm:cb+1=cm at *
 have hbm:cb≠cm:=hcm▸Nat.ne_of_lt (Nat.lt_succ_self _)
 have leG:Le G (upd (upd G cb (cellO none)) cm (cellO none)):=(Le.alloc hb1).trans (Le.alloc hb2)
 have ncb:¬ q.has a cb:=hD.notHas hb1
 have ncm:¬ q.has a cm:=fun hb=>by refine unEA (hD.known hb) fun o e _=>?_; rw [leG _ _ e] at gm; cases gm; rw [upd_ne hbm.symm] at hb2; rw [e] at hb2; exact snN hb2
 have hcbG:∀ b o,G b=some o→b≠cb:=fun b o e q=>by rw [q,hb1] at e; exact nnS e
 have hcmG:∀ b o,G b=some o→b≠cm:=fun b o e q=>by rw [upd_ne hbm.symm] at hb2; rw [q,hb2] at e; exact nnS e
 have DJ1:=hD.mono (fun b o _ e=>leG b o e) leG.tups
 have gP:=leG _ _ hP
 clear hb1 hb2 hsz hsz2 hcb hcm hD
 generalize upd (upd G cb (cellO none)) cm (cellO none)=GJ1 at *
 refine binds_cons ?_
 refine x_store hFJ3 rfl rfl (let MJ3:=setL _ _ _; fun sJ3 (FJ3:Fx _ _ _ _ MJ3 sJ3)=>?_)
 clear hFJ3
 refine binds_cons ?_
 refine x_setCell FJ3 rfl gb rfl rfl fun sJ4 FJ4=>?_
 clear FJ3
 refine binds_nil ⟨(inEE _ _ FJ4),?_⟩
 walk_at "r"
 refine x_dict0 FJ4 fun M sJ5 hM FJ5=>?_
 clear FJ4
 have hMb:M≠cb:=updN hM
 have hM1:GJ1 M=none:=updK hM
 have hMm:M≠cm:=nsn hM1 gm
 have hMP:M≠332:=nsn hM1 gP
 have hcbP:cb≠332:=fun e=>by rw [e,gP] at gb; cases gb
 have hcmP:cm≠332:=fun e=>by rw [e,gP] at gm; cases gm
 refine x_setCell FJ5 rfl ((upd_ne hMm.symm).trans ((upd_ne hbm.symm).trans gm)) rfl rfl fun sJ6 FJ6=>?_
 clear FJ5
 walk_at "r"
 refine x_def FJ6 N ((upd_ne hcmP.symm).trans ((upd_ne hMP.symm).trans ((upd_ne hcbP.symm).trans gP))) rfl rfl (clos:=[(("mapping" : Str),cm),(("base" : Str),cb)]) rfl rfl rfl rfl rfl rfl fun sJ7 P' f c' oc' vs' tq ctv doc hf hc' hfc hoc hvs FJ7=>?_
 clear FJ6
 have nf:∀ {x},x≠cm→x≠M→x≠cb→(upd (upd (upd GJ1 cb (cellO (some (Value.int 1 t)))) M (dictOf [] 0)) cm (cellO (some (Value.ref M)))) x=GJ1 x:=fun {x} h1 h2 h3=>by rw [upd_ne h1,upd_ne h2,upd_ne h3]
 have fresh:∀ {x},(upd (upd (upd GJ1 cb (cellO (some (Value.int 1 t)))) M (dictOf [] 0)) cm (cellO (some (Value.ref M)))) x=none→x≠cm∧x≠M∧x≠cb∧GJ1 x=none:=fun {x} e=>by
  have h1:x≠cm:=updN e
  have h2:x≠M:=updN (updK e)
  have h3:x≠cb:=updN (updK (updK e))
  walk_at "p"; exact (inAAA h1 h2 h3 (nf h1 h2 h3▸e))
 refine unAAA (fresh hf) fun f1 f2 f3 f4=>?_
 refine unAAA (fresh hc') fun d1 d2 d3 d4=>?_
 have fP:f≠332:=nsn f4 gP
 have cP:c'≠332:=nsn d4 gP
 obtain ⟨GJ7,hGJ7,FJ7'⟩:∃ GJ7,GJ7=_∧Fx c O' (env337 L' cb cm).locals GJ7 _ sJ7:=(inEA _ rfl FJ7)
 clear FJ7
 have rm:RemapAt c GJ7 f cm cb M:=by
  walk_at "p"; refine ⟨(inEEEEEEEEAA _ doc ((c.mg ("__name__" : Str)).getD .none) ctv c' oc' vs' tq (by rw [hGJ7]; exact upd_self _ _ _) (by rw [hGJ7,upd_ne hfc.symm,upd_self]) (inA hoc hvs)),?_,⟨t,?_⟩⟩
  ·rw [hGJ7,upd_ne f1.symm,upd_ne d1.symm,upd_ne hcmP,upd_self]
  ·rw [hGJ7,upd_ne f3.symm,upd_ne d3.symm,upd_ne hcbP,upd_ne hbm,upd_ne hMb.symm,upd_self]
 have gM:GJ7 M=some (dictOf [] 0):=by rw [hGJ7,upd_ne f2.symm,upd_ne d2.symm,upd_ne hMP,upd_ne hMm,upd_self]
 have keep7:∀ b o,b≠cb→b≠cm→b≠332→GJ1 b=some o→GJ7 b=some o:=fun b o h1 h2 h3 e=>by
  have x1:b≠f:=nns e f4
  have x2:b≠c':=nns e d4
  have x3:b≠M:=nns e hM1
  rw [hGJ7,upd_ne x1,upd_ne x2,upd_ne h3,upd_ne h2,upd_ne x3,upd_ne h1]; exact e
 have leP:Le (upd G 332 (tabObj P')) GJ7:=fun b o e=>by
  by_cases hb:b=332
  ·subst hb
   rw [upd_self] at e
   rw [hGJ7,upd_ne fP.symm,upd_ne cP.symm,upd_self]; exact e
  ·rw [upd_ne hb] at e
   refine keep7 b o (fun q=>?_) (fun q=>?_) hb (leG b o e)
   ·clear hbm ncb gb hM hMb hcbP hf hc' hvs nf fresh f3 d3 hGJ7 FJ7' rm keep7; subst q; exact hcbG b o e rfl
   ·clear hbm ncm gm hMm hcmP hf hc' hvs nf fresh f1 d1 hGJ7 FJ7' rm keep7; subst q; exact hcmG b o e rfl
 have DJ7:DfaAt c (kTup c) GJ7 a q:=DJ1.mono (fun b o hb e=>keep7 b o (fun q=>ncb (q▸hb)) (fun q=>ncm (q▸hb)) (fun q=>hnP (q▸hb)) e) fun b o e ht=>keep7 b o (fun q=>(by (replace q:=q.symm; subst q); rw [gb] at e; cases e; exact absurd (show Value.type "cell" = Value.type "tuple" from ht) (by decide))) (fun q=>(by (replace q:=q.symm; subst q); rw [gm] at e; cases e; exact absurd (show Value.type "cell" = Value.type "tuple" from ht) (by decide))) (fun q=>(by subst q; rw [gP] at e; cases e; cases ht)) e
 have leM:upd G 332 (tabObj P') M=none:=by
  rw [upd_ne hMP]
  cases e:G M with
  | none=>rfl
  | some o=>rw [leG _ _ e] at hM1; exact snN hM1
 have nM:¬ q.has a M:=fun hb=>by refine unEA (DJ1.known hb) fun o e _=>?_; rw [hM1] at e; exact nnS e
 clear hGJ7 nf fresh hf hc' f1 f2 f3 f4 d1 d2 d3 d4 fP cP keep7 gb gm hM hM1 DJ1 gP hbm ncb ncm leG hMb hMm hMP hcbP hcmP
 have Tq:∀ {G':View} {q':DRep Int} {d:Addr} {mp:List (List Int)},Rn c GJ7 G' d M q' mp V→DfaAt c (kTup c) G' a q:=fun h=>DJ7.mono (fun b o hb e=>h.keep b o (fun e'=>nM (e'▸hb)) e) h.tups
 have rmUp:∀ {G':View} {q':DRep Int} {d:Addr} {mp:List (List Int)},Rn c GJ7 G' d M q' mp V→RemapAt c G' f cm cb M:=fun h=>by
  obtain ⟨⟨qual,doc,pm,ctv,c',oc,vs,t,h1,h2,h3,h4⟩,h5,t',h6⟩:=rm
  have hne:∀ {b o},GJ7 b=some o→o≠dictOf [] 0→b≠M:=fun {b o} e hn q=>hn (by rw [q,gM] at e; exact (Option.some.inj e).symm)
  walk_at "p"; exact ⟨(inEEEEEEEEAA qual doc pm ctv c' oc vs t (h.keep _ _ (hne h1 (fun e=>absurd (show Value.type "function" = Value.type "dict" from congrArg Obj.cls e) (by decide))) h1) (h.keep _ _ (hne h2 (by intro e; rw [e] at h3; cases h3)) h2) (inA h3 h4)),h.keep _ _ (hne h5 (fun e=>absurd (show Value.type "cell" = Value.type "dict" from congrArg Obj.cls e) (by decide))) h5,t',h.keep _ _ (hne h6 (fun e=>absurd (show Value.type "cell" = Value.type "dict" from congrArg Obj.cls e) (by decide))) h6⟩
 have isI:∀ {G':View} (x:Int) (t:Tok),(kInt c).is G' x (.int x t):=fun x t=>by simp [Value.isInt,kdOf,intKind]
 walk_at "r"
 refine x_global FJ7' (by k_is) rfl rfl rfl rfl ?_
 refine x_args FJ7' (by k_is) ?_
 walk_at "r"
 refine unEEEEEEEEA rm.fn fun quJ1 doJ1 pmJ1 ctJ1 cJ1 ocJ1 vsJ1 tJ1 gfJ1 _=>?_
 refine x_argsF FJ7' gfJ1 ?_
 walk_at "r"
 refine unEEAAAAA DJ7.dAttr fun es kd gdx w1 w2 w3 y1 _=>?_; refine unEAA y1 fun vi w4 hvi hh=>?_; clear y1
 refine x_attr (v:=vi) FJ7' DJ7.inst gdx (by k_is) (by k_is) (by k_is) (by k_is) w4 hh fun sJ8 FJ8=>?_
 clear FJ7'
 walk_at "r"
 walk_at "p"; refine ⟨FJ8.fn gfJ1,?_⟩
 refine remap_spec FJ8 R' rm (inEEAAA _ ([]) gM dict0_is rfl (fun i k v e=>by simp at e)) List.nodup_nil hvi (by simp) fun sJ9 oM mpJ1 iJ1 ti FJ9 hoM hMJ1 hndJ1 hnJ1 hxJ1 hsJ1=>?_
 clear FJ8
 walk_at "r"
 walk_at "p"; refine ⟨FJ9.K,?_⟩
 refine d_new (kd:=kInt c) (ini:=iJ1) (U:=U150) FJ9 R' (isI _ _) rfl (by decide) fun sJ10 GJ10 d qJ0 FJ10 DJ10 leJ10 newJ10 iJ10 fJ10 nJ10 dfJ10 _ UJ10=>?_
 clear FJ9
 have rnJ0:Rn c GJ7 GJ10 d M qJ0 mpJ1 V:=by
  refine unEEAAA hMJ1 fun oM' kvs g dM hk hv=>?_; clear hMJ1
  rw [upd_self] at g; cases g
  walk_at "p"; refine ⟨fun b o hb e=>leJ10 b o (by rw [upd_ne hb]; exact e),DJ10,fun b hb=>?_,(inEEAAA oM kvs (leJ10 _ _ (upd_self _ _ _)) (dM.up leJ10.tups) hk hv),(inEA _ gM (by intro e; exact absurd (show Value.type "dict" = Value.type "tuple" from e) (by decide))),hndJ1,fun k hk=>(hsJ1 k hk).elim (fun e=>niP e) fun e=>e▸hini⟩
  have:=newJ10 b hb
  by_cases hbM:b=M
  ·(replace hbM:=hbM.symm; clear hb; subst hbM); rw [upd_self] at this; exact snN this
  ·rw [upd_ne hbM] at this; exact this
 have smJ0:Sm q qJ0 mpJ1 (fun _ _=>False) (fun _=>False) (fun _=>False) :=
  ⟨iJ10▸hnJ1,fun x l y e=>(by rw [nJ10] at e; cases e),fun _ _ _ h=>h.elim,fun x y e=>(by rw [dfJ10] at e; cases e),fun _ _ h=>h.elim,fun x e=>(by rw [fJ10] at e; exact niP e),fun _ _ h=>h.elim⟩
 refine x_store FJ10 rfl rfl (let MJ11:=setL _ _ _; fun sJ11 (FJ11:Fx _ _ _ _ MJ11 sJ11)=>?_)
 clear FJ10
 try dsimp only
 refine unEEAA DJ7.tr fun oT tkv gT dT vT=>?_
 have nT:q.T≠M:=fun e=>nM (e▸(.inr (.inr (.inl rfl))))
 have ndx:q.dx≠M:=fun e=>nM (e▸(.inr (.inl rfl)))
 have na:a≠M:=fun e=>nM (e▸(.inl rfl))
 (first | refine wpAny_execs_cons ?_ | (refine absEnd (by assumption) (seqN ?_); refine wpAny_execs_cons ?_))
 refine wpAny_mono (Q:=fun fl s'=>fl=.next∧∃ G' m' q' mp,Fx c O' (env337 L' cb cm).locals G' m' s'∧Rn c GJ7 G' d M q' mp V∧Sm q q' mp (fun _ _=>True) (fun _=>False) (fun _=>False)∧q'.U=U150 ∧
   m' "remap" = some (.ref f)∧m' "newdfa" = some (.ref d)∧m' "dfa" = some (.ref a)) ?l1 ?l2 fun _ _ e=>e
 case l1 =>
  walk_at "r"
  refine x_attr (v:=.ref q.T) FJ11 (rnJ0.keep _ _ na DJ7.inst) (rnJ0.keep _ _ ndx gdx) (by k_is) (by k_is) (by k_is) (by k_is) w1 rfl fun sJ12 FJ12=>?_
  clear FJ11
  have gT10:=rnJ0.keep _ _ nT gT
  refine x_bmethod FJ12 gT10 dT.1.1 dT.1.2.1 PySem.F.plainAttrs_dict PySem.F.slot_dict_items PySem.F.type_dict_items ?_
  walk_at "r"
  have dT10:=dT.up rnJ0.tups
  refine x_items FJ12 gT10 dT10 fun v sJ13 FJ13 hv=>?_
  clear FJ12
  have hvT:q.T≠v:=nns gT10 hv
  refine x_iter_items (kd:=kTup c) (d:=q.T) FJ13 (upd_self _ _ _) ((upd_ne hvT).trans gT10) (dT10.up (.push hv)) fun I sJ14 oI hI FJ14=>?_
  clear FJ13
  have FJ15:Fx c ((I,oI)::O') (env337 L' cb cm).locals GJ10 _ sJ14:=FJ14.forget hv
  clear FJ14
  refine x_forItems (kd:=kTup c) R'.handled FJ15 hI dT10 rfl rfl rfl (fun i G' m'=>∃ q' mp,Rn c GJ7 G' d M q' mp V∧Tups GJ10 G'∧Sm q q' mp (fun k _=>k∈(tkv.take i).map (·.1)) (fun _=>False) (fun _=>False)∧q'.U=U150 ∧
    m' "remap" = some (.ref f)∧m' "newdfa" = some (.ref d)∧m' "dfa" = some (.ref a))
   (inEEAAAAAA qJ0 mpJ1 rnJ0 (.refl _) (smJ0.weak (fun k l _ h=>by simp at h) (fun _ _ h=>h) (fun _ _ h=>h)) UJ10 rfl rfl rfl) (fun i G' m' v1=>unEEA v1 fun q' mp rn _=>rn.keep _ _ nT gT) ?body ?fin
  case fin =>
   intro G' m' sJ5 z1 FJ6; refine unEEAAAAAA z1 fun q' mp rn _ sm hU p1 p2 p3=>?_; clear z1
   walk_at "p"; refine (inAEEEEAAAAAA rfl G' m' q' mp FJ6 rn (sm.weak (fun k l hn _=>?_) (fun _ _ h=>h) (fun _ _ h=>h)) hU p1 p2 p3)
   rw [List.take_of_length_le (Nat.le_refl _)]
   cases hk:q.nx k l with
   | none=>exact absurd hk hn
   | some k' =>
    refine unE (DJ7.sub k l k' hk) fun b hb=>?_
    walk_at "p"; exact key_mem (v:=.ref b) (by rw [vT,hb]; rfl)
  case body =>
   intro i ks key val OJ2 G' m' sJ16 hkv hkey z2 FJ16 Qt hQt; refine unEEAAAAAA z2 fun q' mp rn tp sm hU p1 p2 p3=>?_; clear z2
   have hDk:∃ Dk,q.D ks=some Dk∧val=.ref Dk:=by
    have:=valueAt_of_get dT.nodup hkv
    rw [vT] at this
    refine unEA (Option.map_eq_some_iff.mp this) fun D hD e=>?_
    walk_at "p"; exact ⟨D,hD,e.symm⟩
   obtain ⟨Dk,hDk,rfl⟩:=hDk
   obtain ⟨oD,lk,gD,dD,vD⟩:=DJ7.inner ks Dk hDk
   have nD:Dk≠M:=fun e=>nM (e▸(.inr (.inr (.inr (.inr (.inr ⟨ks,hDk⟩))))))
   have gD':=rn.keep _ _ nD gD
   have dD':=dD.up rn.tups
   walk_at "r"
   refine x_bmethod FJ16 gD' dD.1.1 dD.1.2.1 PySem.F.plainAttrs_dict PySem.F.slot_dict_items PySem.F.type_dict_items ?_
   walk_at "r"
   refine x_items FJ16 gD' dD' fun w sJ17 FJ17 hw=>?_
   clear FJ16
   have hvD:Dk≠w:=nns gD' hw
   refine x_iter_items (kd:=kStr c) (d:=Dk) FJ17 (upd_self _ _ _) ((upd_ne hvD).trans gD') (dD'.up (.push hw)) fun IJ2 sJ18 oIJ2 hIJ2 FJ18=>?_
   clear FJ17
   have FJ19:Fx c ((IJ2,oIJ2)::OJ2) (env337 L' cb cm).locals G' _ sJ18:=FJ18.forget hw
   clear FJ18
   have hV7:=rn.len hV
   refine x_forItems (kd:=kStr c) R'.handled FJ19 hIJ2 dD' rfl rfl rfl (fun j G'' m''=>∃ q' mp,Rn c GJ7 G'' d M q' mp V∧Tups G' G''∧Sm q q' mp (fun k l=>k∈(tkv.take i).map (·.1)∨(k=ks∧l∈(lk.take j).map (·.1))) (fun _=>False) (fun _=>False)∧q'.U=U150 ∧
     m'' "remap" = some (.ref f)∧m'' "newdfa" = some (.ref d)∧m'' "dfa" = some (.ref a)∧m'' "src" = some key)
    (inEEAAAAAAA q' mp rn (.refl _) (sm.weak (fun k l _ h=>by simpa using h) (fun _ _ h=>h) (fun _ _ h=>h)) hU p1 p2 p3 rfl) (fun j G'' m'' v2=>unEEA v2 fun q' mp rn _=>rn.keep _ _ nD gD) ?body2 ?fin2
   case fin2 =>
    intro G'' m'' sJ20 z3 FJ20; refine unEEAAAAAAA z3 fun q'' mp' rn' tp' sm' hU' r1 r2 r3 _=>?_; clear z3
    walk_at "r"
    walk_at "p"; refine (inAEEA rfl G'' m'' FJ20 (inEEAAAAAA q'' mp' rn' (tp.trans tp') (sm'.weak (fun k l hn h=>?_) (fun _ _ h=>h) (fun _ _ h=>h)) hU' r1 r2 r3))
    rw [keys_take hkv,List.mem_append,List.mem_singleton] at h
    rcases h with h | h
    ·walk_at "p"; exact .inl h
    ·refine .inr ⟨h,?_⟩
     rw [List.take_of_length_le (Nat.le_refl _)]
     clear hkey hDk hkv sm'; subst h
     cases hk:q.nx k l with
     | none=>exact absurd hk hn
     | some k' =>
      have:=vD l
      rw [hk] at this
      cases hva:valueAt lk l with
      | none=>rw [hva] at this; exact this.elim
      | some v=>exact key_mem hva
   case body2 =>
    intro j lab keyJ2 valJ2 OJ3 G'' m'' sJ20 hkvJ2 hkeyJ2 z4 FJ20 Qt hQt; refine unEEAAAAAAA z4 fun q'' mp' rn' tp' sm' hU' r1 r2 r3 r4=>?_; clear z4
    refine unE (Value.isStrOf_shape hkeyJ2) fun tkeyJ2 y2=>?_; clear hkeyJ2; subst y2
    refine unEA ((vD lab).some_iff (valueAt_of_get dD.nodup hkvJ2)) fun kd' hkd' hvalJ2=>?_
    have hVk:=hnx _ _ _ hkd'
    walk_at "r"
    refine unEEAAAAAAAAAAAA rn'.dfa.dAttr fun esJ2 kJ2 gdxJ2 u1 u2 u3 u4 u5 u6 u7 u8 u9 u10 u11 u12=>?_
    refine x_method FJ20 (C:=327) (f:=259) rn'.dfa.inst gdxJ2 (by k_is) (by k_is) (by k_is) u10 ?_
    refine x_args FJ20 (by k_is) ?_
    walk_at "r"
    have rmJ2:=rmUp rn'
    refine unEEEEEEEEA rmJ2.fn fun quJ2 doJ2 pmJ2 ctJ2 cJ2 ocJ2 vsJ2 tJ2 gfJ2 _=>?_
    refine x_argsF FJ20 gfJ2 ?_
    walk_at "r"
    walk_at "p"; refine ⟨FJ20.fn gfJ2,?_⟩
    refine remap_spec FJ20 R' rmJ2 rn'.map rn'.nd ((kTup c).up hkey (tp.trans tp')) (Nat.le_trans (rn'.len hV) (by decide)) fun sJ21 oMJ2 mpJ2 x tx FJ21 hoMJ2 hMJ2 hndJ2 hxJ2 hrJ2 hsJ2=>?_
    clear FJ20
    have rnJ2:=rn'.remap hMJ2 hndJ2 (fun k hk=>(hsJ2 k hk).elim (rn'.sub k) fun e=>e▸hVk.1)
    refine unE hrJ2 fun rr y3=>?_; clear hrJ2; subst y3
    have smJ2:=sm'.grow rr
    have mapA:=rn'.map
    clear rn' sm' hMJ2 hndJ2 hsJ2 gdxJ2 gfJ2
    refine unEEAA mapA fun oMM kvsMM gMM dMM _=>?_; clear mapA
    have tpa:Tups G'' (upd G'' M oMJ2):=.upd gMM dMM.notTup
    clear gMM dMM
    generalize upd G'' M oMJ2=GJ21 at *
    walk_at "r"
    have rmJ3:=rmUp rnJ2
    refine unEEEEEEEEA rmJ3.fn fun quJ3 doJ3 pmJ3 ctJ3 cJ3 ocJ3 vsJ3 tJ3 gfJ3 _=>?_
    refine x_argsF FJ21 gfJ3 ?_
    walk_at "r"
    walk_at "p"; refine ⟨FJ21.fn gfJ3,?_⟩
    refine remap_spec FJ21 R' rmJ3 rnJ2.map rnJ2.nd ((kTup c).up hvalJ2 rnJ2.tups) (Nat.le_trans (rnJ2.len hV) (by decide)) fun sJ22 oMJ3 mpJ3 y ty FJ22 hoMJ3 hMJ3 hndJ3 hxJ3 hrJ3 hsJ3=>?_
    clear FJ21
    have rnJ3:=rnJ2.remap hMJ3 hndJ3 (fun k hk=>(hsJ3 k hk).elim (rnJ2.sub k) fun e=>e▸hVk.2)
    refine unE hrJ3 fun rrJ3 y4=>?_; clear hrJ3; subst y4
    have smJ3:=smJ2.grow rrJ3
    have hxJ2':=num_append rrJ3 hxJ2
    have mapB:=rnJ2.map
    clear rnJ2 smJ2 hMJ3 hndJ3 hsJ3 gfJ3
    refine unEEAA mapB fun oMN kvsMN gMN dMN _=>?_; clear mapB
    have tpb:Tups GJ21 (upd GJ21 M oMJ3):=.upd gMN dMN.notTup
    clear gMN dMN
    generalize upd GJ21 M oMJ3=GJ22 at *
    walk_at "r"
    walk_at "p"; refine ⟨FJ22.K,?_⟩
    refine d_add_transition (kd:=kInt c) FJ22 R' rnJ3.dfa (isI x tx) (isI y ty) (hU'▸mem_U150 (rnJ3.len hV) hxJ2') (DJ7.bl _ _ _ hkd') fun sJ23 GJ23 qJ23 FJ23 DJ23 stJ23 i23 f23 df23 U23 n23=>?_
    clear FJ22
    walk_at "r"
    walk_at "p"; refine (inAEEA rfl GJ23 _ FJ23 (inEEAAAAAAA qJ23 _ (rnJ3.step DJ23 stJ23) (((tp'.trans tpa).trans tpb).trans (rnJ3.dfa.tups stJ23)) ((smJ3.setNx hxJ2' hkd' hxJ3 i23 f23 df23 n23).weak (fun k l _ h=>?_) (fun _ _ h=>h) (fun _ _ h=>h)) (U23.trans hU') r1 r2 r3 r4))
    rw [keys_take hkvJ2,List.mem_append,List.mem_singleton] at h
    rcases h with h | ⟨h1,h2 | h2⟩
    ·walk_at "p"; exact .inl (.inl h)
    ·walk_at "p"; exact .inl (.inr ⟨h1,h2⟩)
    ·walk_at "p"; exact .inr ⟨h1,h2⟩
 case l2 =>
  intro fl sJ20 z5; refine unAEEEEAAAAAA z5 fun y5 GJ2 mJ2 qJ2 mpJ2 FJ20 rn sm hU p1 p2 p3=>?_; clear z5; subst y5
  (first | refine wpAny_execs_cons ?_ | (refine absEnd (by assumption) (seqN ?_); refine wpAny_execs_cons ?_))
  refine wpAny_mono (Q:=fun fl s'=>fl=.next∧∃ G' m' q' mp,Fx c O' (env337 L' cb cm).locals G' m' s'∧Rn c GJ7 G' d M q' mp V∧Sm q q' mp (fun _ _=>True) (fun _=>True) (fun _=>False)∧q'.U=U150 ∧
   m' "remap" = some (.ref f)∧m' "newdfa" = some (.ref d)∧m' "dfa" = some (.ref a)) ?m1 ?m2 fun _ _ e=>e
  case m1 =>
   walk_at "r"
   refine x_builtin FJ20 (by k_is) (v:=.builtin "sorted") rfl (by decide) rfl rfl rfl rfl rfl ?_
   walk_at "r"
   refine x_attr (v:=.ref q.Fs) FJ20 (rn.keep _ _ na DJ7.inst) (rn.keep _ _ ndx gdx) (by k_is) (by k_is) (by k_is) (by k_is) w3 rfl fun sJ21 FJ21=>?_
   clear FJ20
   walk_at "r"
   refine unEA DJ7.fs fun oF gF sF=>?_
   have nF:q.Fs≠M:=fun e=>nM (e▸(.inr (.inr (.inr (.inr (.inl rfl))))))
   refine x_sortedSetTup R'.handled FJ21 (rn.keep _ _ nF gF) (sF.up rn.tups) hfl (fun k hk=>(hfn k hk).2) fun S sJ22 vs ns k hS FJ22 zv pv=>?_
   clear FJ21
   have leS:Le GJ2 (upd GJ2 S (lst vs k)):=Le.alloc hS
   have rnJ1:=rn.grow leS
   have hSd:¬ qJ2.has d S:=rn.dfa.notHas hS
   have hSM:S≠M:=fun e=>by refine unEEA rn.map fun _ _ g _=>?_; rw [← e,hS] at g; exact nnS g
   have gS:upd GJ2 S (lst vs k) S=some (lst vs k):=upd_self _ _ _
   have zvJ1:=fun (i:Nat) (v:Value) (x:List Int) (h1:vs[i]?=some v) (h2:ns[i]?=some x)=>(kTup c).up (zv.get h1 h2) leS.tups
   have hlen:vs.length=ns.length:=zv.length
   clear rn hS leS zv
   generalize upd GJ2 S (lst vs k)=GJ22 at *
   refine x_iter_list FJ22 gS (lst_is _ _) fun I sJ23 oI hI FJ23=>?_
   clear FJ22
   refine x_forLoop (It.list S vs) R'.handled FJ23 hI rfl rfl (fun i G' m'=>∃ q' mp,Rn c GJ7 G' d M q' mp V∧Tups GJ22 G'∧Sm q q' mp (fun _ _=>True) (fun k=>k∈ns.take i) (fun _=>False)∧q'.U=U150∧G' S=some (lst vs k)∧¬ q'.has d S ∧
     m' "remap" = some (.ref f)∧m' "newdfa" = some (.ref d)∧m' "dfa" = some (.ref a))
    (inEEAAAAAAAA qJ2 mpJ2 rnJ1 (.refl _) (sm.weak (fun _ _ _ h=>h) (fun k _ h=>by simp at h) (fun _ _ h=>h)) hU gS hSd p1 p2 p3) (fun i G' m' v3=>unEEAAAAA v3 fun q' mp _ _ _ _ h5 _=>(inEA _ h5 (lst_is _ _))) ?body ?fin
   case fin =>
    intro G' m' sJ5 z6 FJ6; refine unEEAAAAAAAA z6 fun q' mp rn _ sm hU _ _ r1 r2 r3=>?_; clear z6
    walk_at "p"; refine (inAEEEEAAAAAA rfl G' m' q' mp FJ6 rn (sm.weak (fun _ _ _ h=>h) (fun k hk _=>?_) (fun _ _ h=>h)) hU r1 r2 r3)
    rw [hlen,List.take_length]
    walk_at "p"; exact pv.mem_iff.mpr hk
   case body =>
    intro i v OJ2 G' m' sJ24 hi hv z7 FJ24 Qt hQt; refine unEEAAAAAAAA z7 fun q' mp rn tp sm hU gS' hSd' r1 r2 r3=>?_; clear z7
    obtain ⟨ks,hks⟩:∃ x,ns[i]?=some x:=⟨ns[i]'(by exact a30 50429058295017810680 hlen hi),List.getElem?_eq_getElem _⟩
    have hkv:=zvJ1 i v ks hv hks
    have hkf:ks∈q.fin:=pv.mem_iff.mp (List.mem_of_getElem? hks)
    walk_at "r"
    refine unEEAAAAAAAAAAAA rn.dfa.dAttr fun esJ2 kJ2 gdxJ2 u1 u2 u3 u4 u5 u6 u7 u8 u9 u10 u11 u12=>?_
    refine x_method FJ24 (C:=327) (f:=273) rn.dfa.inst gdxJ2 (by k_is) (by k_is) (by k_is) u11 ?_
    refine x_args FJ24 (by k_is) ?_
    walk_at "r"
    have rmJ2:=rmUp rn
    refine unEEEEEEEEA rmJ2.fn fun quJ2 doJ2 pmJ2 ctJ2 cJ2 ocJ2 vsJ2 tJ2 gfJ2 _=>?_
    refine x_argsF FJ24 gfJ2 ?_
    walk_at "r"
    walk_at "p"; refine ⟨FJ24.fn gfJ2,?_⟩
    refine remap_spec FJ24 R' rmJ2 rn.map rn.nd ((kTup c).up hkv tp) (Nat.le_trans (rn.len hV) (by decide)) fun sJ25 oMJ2 mpJ3 x tx FJ25 hoMJ2 hMJ2 hndJ2 hxJ2 hrJ2 hsJ2=>?_
    clear FJ24
    have rnJ2:=rn.remap hMJ2 hndJ2 (fun k hk=>(hsJ2 k hk).elim (rn.sub k) fun e=>e▸(hfn _ hkf).1)
    refine unE hrJ2 fun rr y6=>?_; clear hrJ2; subst y6
    have smJ2:=sm.grow rr
    refine unEEAA rn.map fun oMM kvsMM gMM dMM _=>?_
    have tpa:Tups G' (upd G' M oMJ2):=.upd gMM dMM.notTup
    have gSJ2:upd G' M oMJ2 S=some (lst vs k):=(upd_ne hSM).trans gS'
    clear rn sm hMJ2 hndJ2 hsJ2 gdxJ2 gfJ2 gMM dMM gS'
    generalize upd G' M oMJ2=GJ25 at *
    walk_at "r"
    walk_at "p"; refine ⟨FJ25.K,?_⟩
    refine d_add_final (kd:=kInt c) kdsInt FJ25 R' rnJ2.dfa (isI x tx) (hU▸mem_U150 (rnJ2.len hV) hxJ2) fun sJ26 GJ26 qJ26 FJ26 DJ26 stJ26 i26 n26 df26 U26 m26=>?_
    clear FJ25
    walk_at "r"
    walk_at "p"; refine (inEEA GJ26 _ FJ26 (inEEAAAAAAAA qJ26 _ (rnJ2.step DJ26 stJ26) ((tp.trans tpa).trans (rnJ2.dfa.tups stJ26)) ((smJ2.addFin hxJ2 hkf i26 n26 df26 m26).weak (fun _ _ _ h=>h) (fun k _ h=>?_) (fun _ _ h=>h)) (U26.trans hU) (stJ26.keep _ _ gSJ2 hSd') (fun hb=>?_) r1 r2 r3))
    ·rw [List.take_add_one,hks,List.mem_append] at h
     walk_at "p"; exact h.imp id fun h=>by simpa using h
    ·rcases stJ26.new _ hb with hb | hb
     ·walk_at "p"; exact hSd' hb
     ·rw [gSJ2] at hb; exact snN hb
  case m2 =>
   intro fl sJ30 z8; refine unAEEEEAAAAAA z8 fun y7 GJ2 mJ2 qJ2 mpJ2 FJ20 rn sm hU p1 p2 p3=>?_; clear z8; subst y7
   refine unEEAA DJ7.dfs fun oDf dk gDf dDf vDf=>?_
   have nDf:q.Df≠M:=fun e=>nM (e▸(.inr (.inr (.inr (.inl rfl)))))
   have gDf':=rn.keep _ _ nDf gDf
   have dDf':=dDf.up rn.tups
   walk_at "r"
   refine x_attr (v:=.ref q.Df) FJ20 (rn.keep _ _ na DJ7.inst) (rn.keep _ _ ndx gdx) (by k_is) (by k_is) (by k_is) (by k_is) w2 rfl fun sJ21 FJ21=>?_
   clear FJ20
   refine x_bmethod FJ21 gDf' dDf.1.1 dDf.1.2.1 PySem.F.plainAttrs_dict PySem.F.slot_dict_items PySem.F.type_dict_items ?_
   walk_at "r"
   refine x_items FJ21 gDf' dDf' fun w sJ22 FJ22 hw=>?_
   clear FJ21
   have hvD:q.Df≠w:=nns gDf' hw
   refine x_iter_items (kd:=kTup c) (d:=q.Df) FJ22 (upd_self _ _ _) ((upd_ne hvD).trans gDf') (dDf'.up (.push hw)) fun I sJ23 oI hI FJ23=>?_
   clear FJ22
   have FJ24:Fx c ((I,oI)::O') (env337 L' cb cm).locals GJ2 _ sJ23:=FJ23.forget hw
   clear FJ23
   refine x_forItems (kd:=kTup c) R'.handled FJ24 hI dDf' rfl rfl rfl (fun i G' m'=>∃ q' mp,Rn c GJ7 G' d M q' mp V∧Tups GJ2 G'∧Sm q q' mp (fun _ _=>True) (fun _=>True) (fun k=>k∈(dk.take i).map (·.1))∧q'.U=U150 ∧
     m' "remap" = some (.ref f)∧m' "newdfa" = some (.ref d)∧m' "dfa" = some (.ref a))
    (inEEAAAAAA qJ2 mpJ2 rn (.refl _) (sm.weak (fun _ _ _ h=>h) (fun _ _ h=>h) (fun k _ h=>by simp at h)) hU p1 p2 p3) (fun i G' m' v4=>unEEA v4 fun q' mp rn _=>rn.keep _ _ nDf gDf) ?body ?fin
   case fin =>
    intro G' m' sJ5 z9 FJ6; refine unEEAAAAAA z9 fun q' mp rn _ sm hU r1 r2 r3=>?_; clear z9
    walk_at "r"
    walk_at "p"; refine h _ G' P' d q' (num mp) (back _ _ _ FJ6) (fun b o e=>rn.keep b o (fun hb=>?_) (leP b o e)) rn.dfa (sm.weak (fun _ _ _ h=>h) (fun _ _ h=>h) (fun k hk _=>?_)).ren
    ·(replace hb:=hb.symm; subst hb); rw [leM] at e; exact nnS e
    ·rw [List.take_of_length_le (Nat.le_refl _)]
     cases hq:q.df k with
     | none=>exact absurd hq hk
     | some k' =>
      have:=vDf k
      rw [hq] at this
      cases hva:valueAt dk k with
      | none=>rw [hva] at this; exact this.elim
      | some v=>exact key_mem hva
   case body =>
    intro i ks key val OJ2 G' m' sJ24 hkv hkey z10 FJ24 Qt hQt; refine unEEAAAAAA z10 fun q' mp rn tp sm hU r1 r2 r3=>?_; clear z10
    refine unEA ((vDf ks).some_iff (valueAt_of_get dDf.nodup hkv)) fun kd' hkd' hval=>?_
    have hVk:=hdf _ _ hkd'
    walk_at "r"
    refine unEEAAAAAAAAAAAA rn.dfa.dAttr fun esJ2 kJ2 gdxJ2 u1 u2 u3 u4 u5 u6 u7 u8 u9 u10 u11 u12=>?_
    refine x_method FJ24 (C:=327) (f:=266) rn.dfa.inst gdxJ2 (by k_is) (by k_is) (by k_is) u12 ?_
    refine x_args FJ24 (by k_is) ?_
    walk_at "r"
    have rmJ2:=rmUp rn
    refine unEEEEEEEEA rmJ2.fn fun quJ2 doJ2 pmJ2 ctJ2 cJ2 ocJ2 vsJ2 tJ2 gfJ2 _=>?_
    refine x_argsF FJ24 gfJ2 ?_
    walk_at "r"
    walk_at "p"; refine ⟨FJ24.fn gfJ2,?_⟩
    refine remap_spec FJ24 R' rmJ2 rn.map rn.nd ((kTup c).up hkey tp) (Nat.le_trans (rn.len hV) (by decide)) fun sJ25 oMJ2 mpJ3 x tx FJ25 hoMJ2 hMJ2 hndJ2 hxJ2 hrJ2 hsJ2=>?_
    clear FJ24
    have rnJ2:=rn.remap hMJ2 hndJ2 (fun k hk=>(hsJ2 k hk).elim (rn.sub k) fun e=>e▸hVk.1)
    refine unE hrJ2 fun rr y8=>?_; clear hrJ2; subst y8
    have smJ2:=sm.grow rr
    refine unEEAA rn.map fun oMM kvsMM gMM dMM _=>?_
    have tpa:Tups G' (upd G' M oMJ2):=.upd gMM dMM.notTup
    clear rn sm hMJ2 hndJ2 hsJ2 gdxJ2 gfJ2 gMM dMM
    generalize upd G' M oMJ2=GJ25 at *
    walk_at "r"
    have rmJ3:=rmUp rnJ2
    refine unEEEEEEEEA rmJ3.fn fun quJ3 doJ3 pmJ3 ctJ3 cJ3 ocJ3 vsJ3 tJ3 gfJ3 _=>?_
    refine x_argsF FJ25 gfJ3 ?_
    walk_at "r"
    walk_at "p"; refine ⟨FJ25.fn gfJ3,?_⟩
    refine remap_spec FJ25 R' rmJ3 rnJ2.map rnJ2.nd ((kTup c).up hval rnJ2.tups) (Nat.le_trans (rnJ2.len hV) (by decide)) fun sJ26 oMJ3 mpJ3 y ty FJ26 hoMJ3 hMJ3 hndJ3 hxJ3 hrJ3 hsJ3=>?_
    clear FJ25
    have rnJ3:=rnJ2.remap hMJ3 hndJ3 (fun k hk=>(hsJ3 k hk).elim (rnJ2.sub k) fun e=>e▸hVk.2)
    refine unE hrJ3 fun rrJ3 y9=>?_; clear hrJ3; subst y9
    have smJ3:=smJ2.grow rrJ3
    have hxJ2':=num_append rrJ3 hxJ2
    refine unEEAA rnJ2.map fun oMN kvsMN gMN dMN _=>?_
    have tpb:Tups GJ25 (upd GJ25 M oMJ3):=.upd gMN dMN.notTup
    clear rnJ2 smJ2 hMJ3 hndJ3 hsJ3 gfJ3 gMN dMN
    generalize upd GJ25 M oMJ3=GJ26 at *
    walk_at "r"
    walk_at "p"; refine ⟨FJ26.K,?_⟩
    refine d_set_default (kd:=kInt c) FJ26 R' rnJ3.dfa (isI x tx) (isI y ty) (hU▸mem_U150 (rnJ3.len hV) hxJ2') fun sJ27 GJ27 qJ27 FJ27 DJ27 stJ27 i27 f27 n27 U27 df27=>?_
    clear FJ26
    walk_at "r"
    walk_at "p"; refine (inAEEA rfl GJ27 _ FJ27 (inEEAAAAAA qJ27 _ (rnJ3.step DJ27 stJ27) (((tp.trans tpa).trans tpb).trans (rnJ3.dfa.tups stJ27)) ((smJ3.setDf hxJ2' hkd' hxJ3 i27 f27 n27 df27).weak (fun _ _ _ h=>h) (fun _ _ h=>h) (fun k _ h=>?_)) (U27.trans hU) r1 r2 r3))
    rw [keys_take hkv,List.mem_append,List.mem_singleton] at h
    walk_at "p"; exact h
end
end
section
theorem compTurn_0 (elt t0 i0 t1 i1:Expr) (ifs0:List Expr) (scope:Scope) (pos:Pos) (it acc:Value) (env:Env) :
  compTurn (.ListComp elt [⟨t0,i0,ifs0,0⟩,⟨t1,i1,[],0⟩] scope pos) 0 it acc env=(do
   standAt i0.pos
   match ← pyNext it with
   | none=>pure (.done .next)
   | some v =>
    letOwnedTupleGo t0 it v
    assign t0 env v
    let mut ok:=true
    for c in ifs0 do
     if ok then ok ← isTrue c env (eval c env)
    if ok then
     let x ← eval i1 env
     standAt i1.pos
     let x ← foldedSetIterable i1 env x
     let _ ← runOwn (.compStart (.ListComp elt [⟨t0,i0,ifs0,0⟩,⟨t1,i1,[],0⟩] scope pos) 1 (← holding [x] (pyIter x)) acc env) env
    again (.compLoop (.ListComp elt [⟨t0,i0,ifs0,0⟩,⟨t1,i1,[],0⟩] scope pos) 0 it acc env)):=by rfl
theorem compTurn_1 (elt t0 i0 t1 i1:Expr) (ifs0:List Expr) (scope:Scope) (pos:Pos) (it acc:Value) (env:Env) :
  compTurn (.ListComp elt [⟨t0,i0,ifs0,0⟩,⟨t1,i1,[],0⟩] scope pos) 1 it acc env=(do
   standAt i1.pos
   match ← pyNext it with
   | none=>pure (.done .next)
   | some v =>
    letOwnedTupleGo t1 it v
    assign t1 env v
    (do let _ ← call (.builtin "list.append") [acc,← eval elt env])
    again (.compLoop (.ListComp elt [⟨t0,i0,ifs0,0⟩,⟨t1,i1,[],0⟩] scope pos) 1 it acc env)):=by rfl
structure Self (ok:Nat→Obj→Prop):Prop where
 self:∀ {c:Cx} {O:List (Addr×Obj)} {L I:Addr} {G:View} {m:Str→Option Value} {s:Shared} {A:Around} {E:Value→Shared→Prop} {o:Obj} {i:Nat} {Q:Value→Shared→Prop},
  Fx c ((I,o)::O) L G m s→ok i o→Q (.ref I) s→wpAny (model c.prog c.w) A (pyIter (.ref I)) Q E s
theorem Self.list (l:Addr):Self (itL l):=⟨fun F hok h=>wpAny_pyIter_listiter (l:=l) (inEAA _ F.hid hok.1 hok.2) h⟩
theorem Self.range (a n st:Int):Self (itR a n st):=⟨fun {_ _ _ _ _ _ _ _ _ o _ _} F hok h=>by
 have q:=F.hid
 rw [show o=_ from hok] at q
 exact wpAny_pyIter_rangeiter q h⟩
section
variable {c:Cx} {O O':List (Addr×Obj)} {L l D I:Addr} {G:View} {m:Str→Option Value} {A:Around} {E:Value→Shared→Prop} {s:Shared} {o:Obj} {vs:List Value} {k:Nat}
 {env:Env} {x y:Str} {pos px py:Pos} {scope:Scope} {elt iter i1:Expr} {ifs:List Expr} {it:Value} {n:Nat} {P:Nat→Value→Prop} {ok:Nat→Obj→Prop} {dep:View→Prop} {X:List (Addr×Obj)}
theorem Fx.perm (F:Fx c O L G m s) (p:O.Perm O'):Fx c O' L G m s :=
 ⟨F.X,F.T,F.ns,fun b o e=>let ⟨a1,a2,a3,a4⟩:=F.see b o e; (inAAA a1 a2 a3 (fun q hq=>a4 q (p.mem_iff.mpr hq))),fun q hq=>F.out q (p.mem_iff.mpr hq),(p.map (·.1)).nodup_iff.mp F.nd,F.keep,F.above,F.gens,F.os⟩
theorem x_compLoop {R:Result→Shared→Prop} (W:It c X n P ok dep) (hh:A.handled=none) (F:Fx c ((I,o)::(X++O)) env.locals G m s) (hok:ok 0 o) (hk:env.scope.kind=.function) (hl:env.kindOf x=some .local)
  (J:Nat→View→List Value→Prop) (h0:J 0 G []) (hD:G D=some (lst [] k)) (hdep:∀ i G vs,J i G vs→dep G) (hn:n≤9000)
  (body:∀ i v O' G' (m':Str→Option Value) vs k' s',i<n→P i v→J i G' vs→vs.length=i→G' D=some (lst vs k')→Fx c O' env.locals G' (setL m' x v) s' →
   wpAny (model c.prog c.w) A (eval elt env) (fun u sJ2=>∃ GJ2 mJ2,Fx c O' env.locals GJ2 mJ2 sJ2∧GJ2 D=some (lst vs k')∧∀ kJ2,J (i+1) (upd GJ2 D (lst (vs++[u]) kJ2)) (vs++[u])) (fun _ _=>False) s')
  (fin:∀ G' m' vs k' s',J n G' vs→vs.length=n→G' D=some (lst vs k')→Fx c O env.locals G' m' s'→R (.ok .next) s') :
  codeAny (model c.prog c.w) A (.compLoop (.ListComp elt [⟨.Name x px,iter,[],0⟩] scope pos) 0 (.ref I) (.ref D) env) R s:=by
 refine codeAny_compLoop_list (fun q s'=>∃ i G' m' vs k' o',q=n - i∧i≤n∧Fx c ((I,o')::(X++O)) env.locals G' m' s'∧ok i o'∧J i G' vs∧vs.length=i∧G' D=some (lst vs k')) ?_ n (inEEEE 0 G m ([]) (inEEAAAAAA k o rfl (Nat.zero_le _) F hok h0 rfl hD))
 intro q s' z1; refine unEEEE z1 fun i G' m' vs w33=>unEEAAAAAA w33 fun k' o' y1 hi F' hok' hJ hvs hD'=>?_; clear w33; clear z1; subst y1
 rcases Nat.lt_or_ge i n with hlt | hge
 ·refine W.next F' (hdep _ _ _ hJ) hok' hlt fun v sJ1 oJ1 hP hokJ1 FJ1=>?_
  refine wpAny_assign_Name (x_store FJ1 hk hl fun sJ2 FJ2=>?_)
  refine wpAny_mono (body i v _ _ _ _ _ _ hlt hP hJ hvs hD' FJ2) (fun u sJ3 hu=>?_) fun _ _ hf=>hf.elim
  refine unEEAA hu fun GJ2 mJ2 FJ3 hDJ2 hJJ2=>?_; clear hu
  refine x_append FJ3 hDJ2 (by exact a30 1744312224855442862459923079382133653783 hn hvs hlt) fun sJ4 kJ4 FJ4=>?_
  exact (inEA (n - (i+1)) (by exact subL ‹_›) (inEEEE (i+1) _ mJ2 _ (inEEAAAAAA kJ4 oJ1 rfl hlt FJ4 hokJ1 (hJJ2 kJ4) (by simp [hvs]) (upd_self _ _ _))))
 ·have:i=n:=by exact Nat.le_antisymm (a20 1434183575286 hi) (a20 1434183575286 hge)
  clear hn body hi hge; subst this
  refine W.done hh F' (hdep _ _ _ hJ) hok' fun sJ1 FJ1=>?_
  exact fin _ _ _ _ _ hJ hvs hD' FJ1
theorem x_compLoop1 {R:Result→Shared→Prop} {i0:Expr} (W:It c X n P ok dep) (hh:A.handled=none) (F:Fx c ((I,o)::(X++O)) env.locals G m s) (hok:ok 0 o) (hk:env.scope.kind=.function) (hl:env.kindOf y=some .local)
  (J:Nat→View→List Value→(Str→Option Value)→Prop) (h0:J 0 G vs m) (hD:G D=some (lst vs k)) (hdep:∀ i G vs m,J i G vs m→dep G) (hn:n+vs.length≤9000)
  (body:∀ i v O' G' m' us k' s',i<n→P i v→J i G' us m'→G' D=some (lst us k')→Fx c O' env.locals G' (fun z=>if z=y then some v else m' z) s' →
   wpAny (model c.prog c.w) A (eval elt env) (fun u sJ2=>∃ GJ2 mJ2,Fx c O' env.locals GJ2 mJ2 sJ2∧GJ2 D=some (lst us k')∧∀ kJ2,J (i+1) (upd GJ2 D (lst (us++[u]) kJ2)) (us++[u]) mJ2) (fun _ _=>False) s')
  (fin:∀ G' m' us k' s',J n G' us m'→us.length=vs.length+n→G' D=some (lst us k')→Fx c O env.locals G' m' s'→R (.ok .next) s') :
  codeAny (model c.prog c.w) A (.compLoop (.ListComp elt [⟨.Name x px,i0,ifs,0⟩,⟨.Name y py,i1,[],0⟩] scope pos) 1 (.ref I) (.ref D) env) R s:=by
 refine codeAny_loop rfl (fun q s'=>∃ i G' m' us k' o',q=n - i∧i≤n∧Fx c ((I,o')::(X++O)) env.locals G' m' s'∧ok i o'∧J i G' us m'∧us.length=vs.length+i∧G' D=some (lst us k')) (fun q s' hI=>?_) n (inEEEE 0 G m vs (inEEAAAAAA k o rfl (Nat.zero_le _) F hok h0 rfl hD))
 refine unEEEE hI fun i G' m' us w34=>unEEAAAAAA w34 fun k' o' y2 hi F' hok' hJ hvs hD'=>?_; clear w34; clear hI; subst y2
 show wpAny _ A ((compTurn (.ListComp elt [⟨.Name x px,i0,ifs,0⟩,⟨.Name y py,i1,[],0⟩] scope pos) 1 (.ref I) (.ref D) env).onRaise (fun x=>do noteFrame x env; theTreesLotGoes x)) _ _ s'
 refine wpAny_noted ?_
 rw [compTurn_1]
 refine wpAny_bind (wpAny_standAt (wpAny_bind ?_))
 rcases Nat.lt_or_ge i n with hlt | hge
 ·refine W.next F' (hdep _ _ _ _ hJ) hok' hlt fun v sJ1 oJ1 hP hokJ1 FJ1=>?_
  refine wpAny_bind (wpAny_pure ?_)
  refine wpAny_bind (wpAny_assign_Name (x_store FJ1 hk hl fun sJ2 FJ2=>?_))
  refine wpAny_bind (wpAny_bind (wpAny_mono (body i v _ _ _ _ _ _ hlt hP hJ hD' FJ2) (fun u sJ3 hu=>?_) fun _ _ hf=>hf.elim))
  refine unEEAA hu fun GJ2 mJ2 FJ3 hDJ2 hJJ2=>?_; clear hu
  refine wpAny_bind (x_append FJ3 hDJ2 (by exact a40 1829043934648407680785294443571920710848495896 hn hvs hlt) fun sJ4 kJ4 FJ4=>?_)
  exact wpAny_pure (wpAny_pure (inAEA rfl (n - (i+1)) (by exact subL ‹_›) (inEEEE (i+1) _ mJ2 _ (inEEAAAAAA kJ4 oJ1 rfl hlt FJ4 hokJ1 (hJJ2 kJ4) (by simp [hvs]; exact Nat.le_antisymm (a20 46198446017971958) (a20 46204836929117942)) (upd_self _ _ _)))))
 ·have:i=n:=by exact Nat.le_antisymm (a20 1434183575286 hi) (a20 1434183575286 hge)
  clear hn body hi hge; subst this
  refine W.done hh F' (hdep _ _ _ _ hJ) hok' fun sJ1 FJ1=>?_
  exact wpAny_pure (fin _ _ _ _ _ hJ hvs hD' FJ1)
theorem codeAny_compStart1 {target t1 acc:_} {R:Result→Shared→Prop} {i0:Expr}
  (h0:codeAny (model c.prog c.w) A (.compLoop (.ListComp elt [⟨target,i0,ifs,0⟩,⟨t1,i1,[],0⟩] scope pos) 1 it acc env) R s)
  (h:wpAny (model c.prog c.w) A (pyIter it) (fun it' s'=>codeAny (model c.prog c.w) A (.compLoop (.ListComp elt [⟨target,i0,ifs,0⟩,⟨t1,i1,[],0⟩] scope pos) 1 it' acc env) R s')
   (notedBy (model c.prog c.w) A env fun x s'=>R (.error x) s') s) :
  codeAny (model c.prog c.w) A (.compStart (.ListComp elt [⟨target,i0,ifs,0⟩,⟨t1,i1,[],0⟩] scope pos) 1 it acc env) R s:=by
 refine codeAny_of_tree ?_
 show wpAny _ _ ((compStart (.ListComp elt [⟨target,i0,ifs,0⟩,⟨t1,i1,[],0⟩] scope pos) 1 it acc env).onRaise (fun x=>do noteFrame x env; standAt theWindowsPlace)) _ _ s
 refine wpAny_notedAt ?_
 refine wpAny_bind (wpAny_askSetting (wpAny_ite ?_))
 split
 ·first
   | exact wpAny_bind (wpAny_pure (wpAny_pure (And.intro rfl h0)))
   | exact wpAny_pure (And.intro rfl h0)
 ·first
   | exact wpAny_bind (wpAny_rule (wpAny_bind (wpAny_standAt (wpAny_bind (wpAny_mono h (fun it' s' h'=>wpAny_pure (And.intro rfl h')) fun _ _ x=>x)))))
   | (refine wpAny_bind (wpAny_rule ?_); show wpAny _ _ (standAt i1.pos >>= _) _ _ s; exact wpAny_bind (wpAny_standAt (wpAny_bind (wpAny_mono h (fun it' s' h'=>wpAny_pure (And.intro rfl h')) fun _ _ x=>x))))
theorem x_compLoop0 {R:Result→Shared→Prop} {i0:Expr} (W:It c X n P ok dep) (hh:A.handled=none) (F:Fx c ((I,o)::(X++O)) env.locals G m s) (hok:ok 0 o) (hk:env.scope.kind=.function) (hl:env.kindOf x=some .local)
  (J:Nat→View→List Value→Prop) (h0:J 0 G []) (hD:G D=some (lst [] k)) (hdep:∀ i G vs,J i G vs→dep G) (hs:∀ x,foldedSetIterable i1 env x=pure x)
  (body:∀ i v O' G' (m':Str→Option Value) us k' s',i<n→P i v→J i G' us→G' D=some (lst us k')→Fx c O' env.locals G' (fun z=>if z=x then some v else m' z) s' →
   wpAny (model c.prog c.w) A (forIn ifs true fun c r=>if r=true then do let ok ← isTrue c env (eval c env); pure (ForInStep.yield ok) else pure (ForInStep.yield r)) (fun ok sJ2 =>
    if ok=true then wpAny (model c.prog c.w) A (eval i1 env) (fun xv sJ3=>wpAny (model c.prog c.w) A (pyIter xv) (fun it sJ4 =>
     codeAny (model c.prog c.w) A (.compStart (.ListComp elt [⟨.Name x px,i0,ifs,0⟩,⟨.Name y py,i1,[],0⟩] scope pos) 1 it (.ref D) env) (fun r sJ5=>r=.ok .next∧∃ GJ2 mJ2 usJ2 kJ2,Fx c O' env.locals GJ2 mJ2 sJ5∧GJ2 D=some (lst usJ2 kJ2)∧J (i+1) GJ2 usJ2) sJ4)
     (fun _ _=>False) sJ3) (fun _ _=>False) sJ2
    else ∃ GJ2 mJ2 usJ2 kJ2,Fx c O' env.locals GJ2 mJ2 sJ2∧GJ2 D=some (lst usJ2 kJ2)∧J (i+1) GJ2 usJ2) (fun _ _=>False) s')
  (fin:∀ G' m' us k' s',J n G' us→G' D=some (lst us k')→Fx c O env.locals G' m' s'→R (.ok .next) s') :
  codeAny (model c.prog c.w) A (.compLoop (.ListComp elt [⟨.Name x px,i0,ifs,0⟩,⟨.Name y py,i1,[],0⟩] scope pos) 0 (.ref I) (.ref D) env) R s:=by
 refine codeAny_loop rfl (fun q s'=>∃ i G' m' us k' o',q=n - i∧i≤n∧Fx c ((I,o')::(X++O)) env.locals G' m' s'∧ok i o'∧J i G' us∧G' D=some (lst us k')) (fun q s' hI=>?_) n (inEEEE 0 G m ([]) (inEEAAAAA k o rfl (Nat.zero_le _) F hok h0 hD))
 refine unEEEE hI fun i G' m' us w35=>unEEAAAAA w35 fun k' o' y3 hi F' hok' hJ hD'=>?_; clear w35; clear hI; subst y3
 show wpAny _ A ((compTurn (.ListComp elt [⟨.Name x px,i0,ifs,0⟩,⟨.Name y py,i1,[],0⟩] scope pos) 0 (.ref I) (.ref D) env).onRaise (fun x=>do noteFrame x env; theTreesLotGoes x)) _ _ s'
 refine wpAny_noted ?_
 rw [compTurn_0]
 refine wpAny_bind (wpAny_standAt (wpAny_bind ?_))
 rcases Nat.lt_or_ge i n with hlt | hge
 ·refine W.next F' (hdep _ _ _ hJ) hok' hlt fun v sJ1 oJ1 hP hokJ1 FJ1=>?_
  refine wpAny_bind (wpAny_pure ?_)
  refine wpAny_bind (wpAny_assign_Name (x_store FJ1 hk hl fun sJ2 FJ2=>?_))
  refine wpAny_bind (wpAny_mono (body i v _ _ _ _ _ _ hlt hP hJ hD' FJ2) (fun b sJ3 hb=>?_) fun _ _ hf=>hf.elim)
  cases b with
  | false =>
   rw [if_neg (by decide)] at hb
   refine unEEEE hb fun GJ2 mJ2 usJ2 kJ2 w36=>unAA w36 fun FJ3 hDJ3 hJJ3=>?_; clear w36; clear hb
   exact wpAny_pure (inAEA rfl (n - (i+1)) (by exact subL ‹_›) (inEEEE (i+1) _ mJ2 _ (inEEAAAAA kJ2 oJ1 rfl hlt FJ3 hokJ1 hJJ3 hDJ3)))
  | true =>
   rw [if_pos rfl] at hb
   refine wpAny_bind (wpAny_mono hb (fun xv sJ4 hx=>?_) fun _ _ hf=>hf.elim)
   refine wpAny_bind (wpAny_standAt (wpAny_bind (wpAny_of_eq (hs xv) (wpAny_bind (wpAny_holding (wpAny_mono hx (fun it sJ5 hit=>?_) fun _ _ hf=>hf.elim))))))
   refine wpAny_bind (wpAny_runOwn (codeAny_mono hit fun r sJ6 hr=>?_))
   refine unAEEEEA hr fun y4 GJ2 mJ2 usJ2 kJ2 FJ3 w37=>unA w37 fun hDJ3 hJJ3=>?_; clear w37; clear hr; subst y4
   exact wpAny_pure (inAEA rfl (n - (i+1)) (by exact subL ‹_›) (inEEEE (i+1) _ mJ2 _ (inEEAAAAA kJ2 oJ1 rfl hlt FJ3 hokJ1 hJJ3 hDJ3)))
 ·have:i=n:=by exact Nat.le_antisymm (a20 1434183575286 hi) (a20 1434183575286 hge)
  clear body hi hge; subst this
  refine W.done hh F' (hdep _ _ _ hJ) hok' fun sJ1 FJ1=>?_
  exact wpAny_pure (fin _ _ _ _ _ hJ hD' FJ1)
end
end
section
section
variable {c:Cx} {O OJ1:List (Addr×Obj)} {L C D I:Addr} {G:View} {m mJ2:Str→Option Value} {A:Around} {E:Value→Shared→Prop} {s:Shared} {oL:Obj}
 {env:Env} {scope:Scope} {elt iter target:Expr} {ifs:List Expr} {rest:List Comprehension} {pos:Pos} {cl:List (Str×Addr)}
theorem Fx.swap (F:Fx c ((L,oL)::OJ1) C G mJ2 s) (hab:c.base.objs.size≤L) (hL:∀ h:Heap,h.get? L=some oL→h.Ns L m):∃ oC,Fx c ((C,oC)::OJ1) L G m s:=by
 refine unEEEA (id F.ns) fun oC es ep hoC hr=>?_
 have hLC:L≠C:=(F.out _ (.head _)).2.1
 refine ⟨oC,F.X,F.T,hL _ (F.out _ (.head _)).1,fun b o e=>?_,fun p hp=>?_,?_,F.keep,hab,F.gens,F.os⟩
 ·refine unAAA (F.see b o e) fun a1 a2 a3 a4=>?_
  refine (inAAA a1 a2 ((a4 _ (.head _)).symm) (fun p hp=>?_))
  rcases List.mem_cons.mp hp with rfl | hp
  ·exact a3.symm
  ·exact a4 p (.tail _ hp)
 ·rcases List.mem_cons.mp hp with rfl | hp
  ·exact (inAA hoC hLC.symm F.baseL)
  ·refine (inAA ((F.out p (.tail _ hp)).1) (fun e=>?_) ((F.out p (.tail _ hp)).2.2))
   have:=F.nd
   rw [List.map_cons,List.nodup_cons] at this
   exact this.1 (List.mem_map.mpr (inEA p hp e))
 ·have:=F.nd
  rw [List.map_cons,List.nodup_cons] at this ⊢
  refine ⟨fun hm=>?_,this.2⟩
  refine unEA (List.mem_map.mp hm) fun p hp e=>?_
  exact (F.out p (.tail _ hp)).2.1 e
theorem Fx.compFrame (F:Fx c O L G m s) {h':Heap} (hns:h'.Ns s.heap.objs.size fun _=>none) (hsb:Heap.SameBut s.heap.objs.size (s.heap.push { cls:=.type "dict",data:=.dict #[] }) h') :
  ∃ oL,Fx c ((L,oL)::O) s.heap.objs.size G (fun _=>none) { s with heap:=h' }∧∀ h:Heap,h.get? L=some oL→h.Ns L m:=by
 refine unEEEA F.ns fun oL es ep hoL hL2=>?_
 have up:∀ b o,s.heap.get? b=some o→h'.get? b=some o:=fun b o e=>hsb.extBut b o (Nat.ne_of_lt (Heap.lt_size e)) (Heap.get?_push_of_some _ e)
 refine (inEA oL ⟨F.X,F.T,hns,fun b o e=>?_,fun p hp=>?_,?_,fun b o e=>up b o (F.keep b o e),F.sizeAbove,F.gens,F.os⟩ (fun h e=>(inEEEA oL es ep e hL2)))
 ·refine unAAA (F.see b o e) fun q1 q2 q3 q4=>?_
  refine (inAAA q1 (up b o q2) (Nat.ne_of_lt (Heap.lt_size q2)) (fun p hp=>?_))
  rcases List.mem_cons.mp hp with rfl | hp
  ·exact q3.symm
  ·exact q4 p hp
 ·rcases List.mem_cons.mp hp with rfl | hp
  ·exact (inAA (up _ _ hoL) (Nat.ne_of_lt (Heap.lt_size hoL)) F.baseL)
  ·exact (inAA (up _ _ (F.out p hp).1) (Nat.ne_of_lt (Heap.lt_size (F.out p hp).1)) ((F.out p hp).2.2))
 ·refine List.nodup_cons.mpr ⟨fun hm=>?_,F.nd⟩
  refine unEA (List.mem_map.mp hm) fun p hp e=>?_
  exact (F.out p hp).2.1 e
noncomputable def CompRuns (c:Cx) (A:Around) (env:Env) (e:Expr) (scope:Scope) (cl:List (Str×Addr)) (it:Value) (sJ2:Shared) (Q:Value→View→(Str→Option Value)→List (Addr×Obj)→Prop):Prop :=
 ∃ I oI i ok OJ1 GJ1 mJ1,it=.ref I∧Self ok∧ok i oI∧Fx c ((I,oI)::OJ1) env.locals GJ1 mJ1 sJ2 ∧
  ∀ D C oL sJ4,GJ1 D=none→Fx c ((I,oI)::((env.locals,oL)::OJ1)) C (upd GJ1 D (lst [] 0)) (fun _=>none) sJ4 →
   codeAny (model c.prog c.w) A (.compLoop e 0 (.ref I) (.ref D) (compEnvC scope cl C env)) (fun r sJ5=>r=.ok .next∧∃ GJ2 mJ2,Fx c ((env.locals,oL)::OJ1) C GJ2 mJ2 sJ5∧Q (.ref D) GJ2 mJ1 OJ1) sJ4
theorem comp_runs {RR:Value→Addr→Result→Shared→Prop} {Q:Value→View→(Str→Option Value)→List (Addr×Obj)→Prop} {it:Value}
  (hcell:∀ y∈scope.names,y.2≠.cell) (hkind:scope.kind=.function)
  (h:CompRuns c A env (.ListComp elt (⟨target,iter,ifs,0⟩::rest) scope pos) scope cl it s Q)
  (hRR:∀ D C oL GJ2 mJ1 mJ2 OJ1 sJ5,Q (.ref D) GJ2 mJ1 OJ1→Fx c ((env.locals,oL)::OJ1) C GJ2 mJ2 sJ5→c.base.objs.size≤env.locals→(∀ h:Heap,h.get? env.locals=some oL→h.Ns env.locals mJ1)→RR (.ref D) C (.ok .next) sJ5) :
  wpAny (model c.prog c.w) A (newList []) (fun acc sJ3=>wpAny (model c.prog c.w) A (newFunctionEnv scope env.globals cl [] env.qual none .none (some env)) (fun cenv sJ4 =>
   codeAny (model c.prog c.w) A (.compStart (.ListComp elt (⟨target,iter,ifs,0⟩::rest) scope pos) 0 it acc { cenv with scope:=relabel scope env }) (RR acc cenv.locals) sJ4) E sJ3) E s:=by
 refine unEEEEE h fun I oI i ok OJ1 w38=>unEEAAAA w38 fun GJ1 mJ1 y1 hS hok F hl=>?_; clear w38; clear h; subst y1
 refine wpAny_newList ?_ (Nat.zero_le _)
 have FJ1:=F.push (lst [] 0) rfl (t:=s.toks) (d:=s.drawn)
 have hD:=F.fresh
 have hab:=F.above
 clear F
 have e1:({ s with heap:=s.heap.push (lst [] 0),toks:=s.toks,drawn:=s.drawn }:Shared)={ s with heap:=s.heap.push { cls:=.type "list",data:=.seq ([]:List Value).toArray } }:=rfl
 rw [e1] at FJ1
 generalize s.heap.objs.size=D at FJ1 hD ⊢
 generalize ({ s with heap:=s.heap.push { cls:=.type "list",data:=.seq ([]:List Value).toArray } }:Shared)=sJ1 at FJ1 ⊢
 refine wpAny_newFunctionEnv hcell (by intro y hy; simp at hy) (fun h' hns hsb=>?_) hkind
 refine unEA (FJ1.compFrame (h':=h') (hns) hsb) fun oL FJ2 hL=>?_
 have FJ3:=FJ2.perm (List.Perm.swap (I,oI) (env.locals,oL) OJ1)
 have FJ4:Fx c ((I,oI)::(env.locals,oL)::OJ1) sJ1.heap.objs.size (upd GJ1 D (lst [] 0)) (fun _=>none) { sJ1 with heap:=h',toks:=sJ1.toks+([]:List (Str×Value)).length }:=FJ3
 clear FJ2 FJ3
 have run:=hl D _ oL _ hD FJ4
 have run':codeAny (model c.prog c.w) A (.compLoop (.ListComp elt (⟨target,iter,ifs,0⟩::rest) scope pos) 0 (.ref I) (.ref D) (compEnvC scope cl sJ1.heap.objs.size env)) (RR (.ref D) sJ1.heap.objs.size) { sJ1 with heap:=h',toks:=sJ1.toks+([]:List (Str×Value)).length } :=
  codeAny_mono run fun r sJ5 hr=>by
   refine unAE hr fun y2 GJ2 w39=>unEA w39 fun mJ2 FJ5 hQ=>?_; clear w39; clear hr; subst y2
   exact hRR D _ oL GJ2 mJ1 mJ2 OJ1 sJ5 hQ FJ5 hab hL
 exact codeAny_compStart_list run' (hS.self FJ4 hok run')
theorem x_ListComp {Q:Value→Shared→Prop} (hclos:closureFor scope env=pure cl) (hcell:∀ y∈scope.names,y.2≠.cell) (hkind:scope.kind=.function)
  (hnames:∀ x∈scope.names,x.2=.local→scope.names.lookup x.1=some .local)
  (h:wpAny (model c.prog c.w) A (eval iter env) (fun xv sJ1=>wpAny (model c.prog c.w) A (pyIter xv) (fun it sJ2 =>
   CompRuns c A env (.ListComp elt (⟨target,iter,ifs,0⟩::rest) scope pos) scope cl it sJ2 fun v GJ2 mJ1 OJ1=>∀ s',Fx c OJ1 env.locals GJ2 mJ1 s'→Q v s') E sJ1) E s)
  (hs:∀ x,foldedSetIterable iter env x=pure x) :
  wpAny (model c.prog c.w) A (eval (.ListComp elt (⟨target,iter,ifs,0⟩::rest) scope pos) env) Q E s:=by
 rw [eval_ListComp]
 refine wpAny_comprehension_free (use:=none) rfl hs hclos hkind hnames (wpAny_mono h (fun xv sJ1 hJ1=>wpAny_mono hJ1 (fun it sJ2 hJ2=>?_) fun _ _ e=>e) fun _ _ e=>e)
 refine comp_runs (RR:=fun acc C=>compPost (model c.prog c.w) A E none Q acc C) hcell hkind hJ2 fun D C oL GJ2 mJ1 mJ2 OJ1 sJ5 hQ F hab hL=>?_
 refine (inEA mJ2 F.ns (fun h' hs'=>?_))
 refine unE (F.swap hab hL) fun oC F'=>?_
 exact hQ _ (F'.ended (s':={ sJ5 with heap:=h' }) (fun b x hb e=>(hs'.2 b hb).trans e) rfl rfl)
theorem x_AssignComp {y:Str} {py spos:Pos} {Q:Flow→Shared→Prop} (hsw:swapsWith (.ListComp elt (⟨target,iter,ifs,0⟩::rest) scope pos) (some (.Name y py)) spos.line env=pure true)
  (hclos:closureFor scope env=pure cl) (hcell:∀ y∈scope.names,y.2≠.cell) (hkind:scope.kind=.function)
  (hnames:∀ x∈scope.names,x.2=.local→scope.names.lookup x.1=some .local) (hk:env.scope.kind=.function) (hy:env.kindOf y=some .local)
  (h:wpAny (model c.prog c.w) A (eval iter env) (fun xv sJ1=>wpAny (model c.prog c.w) A (pyIter xv) (fun it sJ2 =>
   CompRuns c A env (.ListComp elt (⟨target,iter,ifs,0⟩::rest) scope pos) scope cl it sJ2 fun v GJ2 mJ1 OJ1=>∀ s',Fx c OJ1 env.locals GJ2 (fun z=>if z=y then some v else mJ1 z) s'→Q .next s') E sJ1) E s)
  (hs:∀ x,foldedSetIterable iter env x=pure x) :
  wpAny (model c.prog c.w) A (exec (.Assign [.Name y py] (.ListComp elt (⟨target,iter,ifs,0⟩::rest) scope pos) spos) env) Q E s:=by
 rw [exec_Assign_Name_used _ _ _ _ hsw]
 refine wpAny_bind (wpAny_standAt (wpAny_bind ?_))
 refine wpAny_bind (wpAny_mono (wpAny_comprehension_free (use:=some (assign (.Name y py) env)) (Q:=fun _ s'=>Q .next s') rfl hs hclos hkind hnames
  (wpAny_mono h (fun xv sJ1 hJ1=>wpAny_mono hJ1 (fun it sJ2 hJ2=>?_) fun _ _ e=>e) fun _ _ e=>e)) (fun _ s' hq=>wpAny_pure (wpAny_pure hq)) fun _ _ e=>e)
 refine comp_runs (RR:=fun acc C=>compPost (model c.prog c.w) A E (some (assign (.Name y py) env)) (fun _ s'=>Q .next s') acc C) hcell hkind hJ2 fun D C oL GJ2 mJ1 mJ2 OJ1 sJ5 hQ F hab hL=>?_
 refine unE (F.swap hab hL) fun oC F'=>?_
 have hnC:∀ s':Shared,s'.heap.get? C=some oC→s'.heap.Ns C mJ2:=fun s' e=>by
  refine unEEEA F.ns fun o es ep ho r=>?_
  have:=(F'.out _ (.head _)).1
  rw [show (C,oC).1=C from rfl,ho] at this
  clear ho; cases this
  exact (inEEEA _ es ep e r)
 refine wpAny_assign_Name (x_store F' hk hy fun sJ6 FJ6=>?_)
 refine (inEA mJ2 (hnC sJ6 (FJ6.out _ (.head _)).1) (fun hJ3 hsJ3=>?_))
 exact hQ _ (FJ6.ended (s':={ sJ6 with heap:=hJ3 }) (fun b x hb e=>(hsJ3.2 b hb).trans e) rfl rfl)
end
end
section
section
variable {c:Cx} {O:List (Addr×Obj)} {L l b a r:Addr} {G:View} {m:Str→Option Value} {A:Around} {E:Value→Shared→Prop} {s:Shared} {o:Obj} {vs ws:List Value} {k n:Nat} {t:Tok}
noncomputable abbrev rangeO (a b st:Int) (t u v:Tok):Obj:={ cls:=.type "range",data:=.fields #[.int a t,.int b u,.int st v] }
theorem x_range1 {N:Int} {Q:Value→Shared→Prop} (F:Fx c O L G m s) (h:∀ r s' t u v,G r=none→Fx c O L (upd G r (rangeO 0 N 1 t u v)) m s'→Q (.ref r) s') :
  wpAny (model c.prog c.w) A (call (.type "range") [.int N t] []) Q E s :=
 call_range_1 (h _ _ _ _ _ F.fresh (F.push _ rfl))
theorem x_range3 {p q st:Int} {t u v:Tok} {Q:Value→Shared→Prop} (F:Fx c O L G m s) (hst:st≠0) (hs:st.natAbs<1073741824) (h:∀ r s' t' u' v',G r=none→Fx c O L (upd G r (rangeO p q st t' u' v')) m s'→Q (.ref r) s') :
  wpAny (model c.prog c.w) A (call (.type "range") [.int p t,.int q u,.int st v] []) Q E s :=
 call_range_3 hst (h _ _ _ _ _ F.fresh (F.push _ rfl (t:=s.toks) (d:=s.drawn))) (.inl (PyProof.noPylong_small hs))
theorem x_iter_range {p q st:Int} {t u v:Tok} {Q:Value→Shared→Prop} (F:Fx c O L G m s) (hg:G r=some (rangeO p q st t u v)) (hsm:Builtin.Range.small p q st=true) (hn:Builtin.Range.rangeSize p q st=n)
  (h:∀ I s' o',itR p n st 0 o'→Fx c ((I,o')::O) L G m s'→Q (.ref I) s'):wpAny (model c.prog c.w) A (pyIter (.ref r)) Q E s:=by
 refine wpAny_pyIter_range (F.get hg) hsm ?_
 refine h _ _ _ ?_ (F.hide _)
 rw [hn]
 show _=_
 simp
theorem x_lenList {Q:Value→Shared→Prop} (F:Fx c O L G m s) (hg:G l=some (lst vs k)) (hz:vs.length<100000) (h:∀ s' t,Fx c O L G m s'→Q (.int vs.length t) s'):wpAny (model c.prog c.w) A (call (.builtin "len") [.ref l] []) Q E s:=by
 refine call_len_list ((lst_is vs k).isList (F.get hg)) (by rw [List.size_toArray]; omega) ?_
 rw [List.size_toArray]
 exact h _ _ (F.eta (t:=s.toks+1+1) (d:=s.drawn))
theorem x_getItemTail_list {value slice:Expr} {i:Int} {v:Value} {Q:Value→Shared→Prop} (F:Fx c O L G m s) (hg:G l=some (lst vs k)) (h0:0≤i) (h1:i<100000) (hv:vs[i.toNat]?=some v) (h:Q v s)
  (hs:subscripted slice false (.ref l) (.int i t)=operate [.ref l,.int i t] (getItem (.ref l) (.int i t)):=by with_unfolding_all rfl):wpAny (model c.prog c.w) A (subscriptTail value slice (.ref l) (.int i t)) Q E s :=
 tail_any (T := "list") (inEA _ (F.get hg) rfl) PySem.F.slot_list_getitem.lookup (wpAny_getItem_list ((lst_is vs k).isList (F.get hg)) h0 (by omega) (by simpa using hv) h) hs
theorem x_setItem_list {i:Int} {v:Value} {Q:Unit→Shared→Prop} (F:Fx c O L G m s) (hg:G l=some (lst vs k)) (h0:0≤i) (h1:i<100000) (hi:i.toNat<vs.length) (h:∀ s' k',Fx c O L (upd G l (lst (vs.set i.toNat v) k')) m s'→Q () s') :
  wpAny (model c.prog c.w) A (setItem (.ref l) (.int i t) v) Q E s:=by
 have hl:=(lst_is vs k).isList (F.get hg)
 unfold setItem
 try with_reducible refine wpAny_holding ?_
 first | refine wpAny_bind (wpAny_pure ?_) | skip
 refine wpAny_bind (wpAny_sequenceKey hl.typeIs (by decide) ?_)
 refine wpAny_bind (wpAny_callSpecial?_slot (name:=Str.ofString "__setitem__") hl.typeIs PySem.slot_list_setitem
  (wpAny_call_entry PySem.slot_list_setitem hl.typeIs PySem.entry_list_setitem ?_ (PySem.args_list_setitem _ _ _)))
 show wpAny _ _ (Builtin.List.listSubscript? (.int i t) >>= _) _ _ s
 refine wpAny_bind (wpAny_listSubscript_int (fitsIndex_of h0 (by lia)) ?_)
 clear h1
 refine unE (Int.eq_ofNat_of_zero_le h0) fun j y1=>?_; clear h0; subst y1
 have hj:j<vs.toArray.size:=by simpa using hi
 refine wpAny_bind (wpAny_bind (wpAny_seqItemAt (F.get hg) rfl (wpAny_pure ?_)))
 rw [Array.getElem?_eq_getElem hj]
 refine unE (F.updList (f:=(·.setIfInBounds j v)) hg) fun k' F'=>?_
 have F':Fx c O L (Mine.upd G l (lst (vs.set j v) k')) m { s with heap:=s.heap.update l (Obj.mapSeq (·.setIfInBounds j v)) }:=by simpa using F'
 refine wpAny_bind (wpAny_setSeqItemAt (F.get hg) rfl ?_)
 first
  | exact wpAny_bind (wpAny_pure (wpAny_pure (inEA (.none) rfl (wpAny_pure (h _ k' F')))))
  | exact wpAny_pure (inEA (.none) rfl (wpAny_pure (h _ k' F')))
theorem x_addLists {k2:Nat} {Q:Value→Shared→Prop} (F:Fx c O L G m s) (hg:G l=some (lst vs k)) (hg2:G b=some (lst ws k2)) (hz:vs.length+ws.length≤10000) (h:∀ r s',G r=none→Fx c O L (upd G r (lst (vs++ws) 0)) m s'→Q (.ref r) s') :
  wpAny (model c.prog c.w) A (binaryOp .Add (.ref l) (.ref b)) Q E s:=by
 have e:vs.toArray++ws.toArray=(vs++ws).toArray:=by simp
 refine concat_meets (inEA _ (F.get hg) rfl) (inEA _ (F.get hg2) rfl) noFill_list_add seq_list_add PySem.F.slot_list_add PySem.F.entry_list_add (PySem.F.args_list_add_2 _ _)
  (list_addW l b vs.toArray ws.toArray k k2 none none #[] #[] (by rw [List.size_toArray,List.size_toArray,sizeLine_eq]; exact Nat.le_trans hz (by decide))) (inAA (F.get hg) (F.get hg2) ?_)
 rw [e]
 exact h _ _ F.fresh (F.push (lst (vs++ws) 0) rfl (t:=s.toks) (d:=s.drawn))
end
end
section
noncomputable def fx433:{ fd:FuncData // FdAt 433 fd }:=⟨_,fun P=>(inEEE _ _ _ (by k_is))⟩
noncomputable def fd433:FuncData:=fx433.1
noncomputable def IL (G:View) (b:Addr) (e:List Int):Prop:=∃ us k,G b=some (lst us k)∧IntsAre us e
noncomputable def RefIL (G:View) (v:Value) (e:List Int):Prop:=∃ b,v=.ref b∧IL G b e
noncomputable def EndsAt (G:View) (a:Addr) (es:List (List Int)):Prop:=∃ vs k,G a=some (lst vs k)∧Zip2 (RefIL G) vs es
theorem IL.le {G G':View} {b:Addr} {e:List Int} (h:IL G b e) (le:Le G G'):IL G' b e:=unEEA (h) fun us k g i =>  (inEEA us k (le _ _ g) i)
theorem RefIL.le {G G':View} {v:Value} {e:List Int} (h:RefIL G v e) (le:Le G G'):RefIL G' v e:=unEA (h) fun b q i =>  (inEA b q (i.le le))
theorem EndsAt.le {G G':View} {a:Addr} {es:List (List Int)} (h:EndsAt G a es) (le:Le G G'):EndsAt G' a es:=unEEA (h) fun vs k g z =>  (inEEA vs k (le _ _ g) (z.imp fun _ _ q=>q.le le))
theorem none_le {G G':View} {b:Addr} (le:Le G G') (h:G' b=none):G b=none:=by
 cases e:G b with
 | none=>rfl
 | some o=>rw [le _ _ e] at h; exact snN h
noncomputable def RefN (D:Addr) (GJ0 G:View) (v:Value) (e:List Int):Prop:=∃ b,v=.ref b∧b≠D∧GJ0 b=none∧IL G b e
theorem RefN.le {D:Addr} {GJ0 G G':View} {v:Value} {e:List Int} (h:RefN D GJ0 G v e) (le:Le G G'):RefN D GJ0 G' v e:=unEAAA (h) fun b q1 q2 q0 q3 =>  (inEAAA b q1 q2 q0 (q3.le le))
noncomputable def EndsNew (GJ0 G:View) (a:Addr) (es:List (List Int)):Prop:=∃ vs k,GJ0 a=none∧G a=some (lst vs k)∧Zip2 (fun v e=>∃ b,v=.ref b∧GJ0 b=none∧IL G b e) vs es
theorem EndsNew.at_ {GJ0 G:View} {a:Addr} {es:List (List Int)} (h:EndsNew GJ0 G a es):EndsAt G a es:=unEEAA (h) fun vs k _ g z =>  (inEEA vs k g (z.imp fun _ _ v1=>unEAA v1 fun b q1 _ q2=>(inEA b q1 q2)))
noncomputable def at2 (two:List (List Int)) (y:Int):List Int:=(two[y.toNat]?).getD []
theorem ints_app {vs ws:List Value} {ns ms:List Int} (h:IntsAre vs ns) (h':IntsAre ws ms):IntsAre (vs++ws) (ns++ms):=by
 induction h with
 | nil=>exact h'
 | cons n t _ ih=>exact .cons n t ih
theorem ints_at {vs:List Value} {ns:List Int} (h:IntsAre vs ns):∀ {i:Nat} {v:Value},vs[i]?=some v→∃ n t,ns[i]?=some n∧v=.int n t:=by
 induction h with
 | nil=>intro i v e; simp at e
 | cons n t _ ih =>
  intro i v e
  cases i with
  | zero=>simp at e; exact (inEEA n t rfl e.symm)
  | succ i=>simp at e; exact ih e
theorem ints_len {vs:List Value} {ns:List Int} (h:IntsAre vs ns):vs.length=ns.length:=by
 induction h with
 | nil=>rfl
 | cons n t _ ih=>simp [ih]
noncomputable def JoinSpec (one two es:List (List Int)):Prop:=∀ (i:Nat) (e':List Int),es[i]?=some e'→e'.Nodup∧∃ e,one[i]?=some e∧∀ x,x∈e'↔∃ y∈e,x∈at2 two y
noncomputable abbrev env433 (L' ct:Addr):Env:=newEnv fd433.scope L' fd433.globals [(("two" : Str),ct)] (fd433.qualname ++ ".<locals>.") (some 433) fd433.code none fd433.builtins
section
variable {c:Cx} {O:List (Addr×Obj)} {L:Addr} {G:View} {m:Str→Option Value} {A:Around} {E:Value→Shared→Prop} {s:Shared} {n:Nat} {a b:Addr} {one two:List (List Int)}
theorem joined {Q:Value→Shared→Prop} (F:Fx c O L G m s) (R:Room A (n+1)) (h1:EndsAt G a one) (h2:EndsAt G b two) (l1:one.length≤5) (hone:∀ e∈one,e.length≤5∧∀ y∈e,0≤y∧y<two.length) (l2:two.length≤5) (htwo:∀ e∈two,e.length≤5)
  (h:∀ s' G' d es,Fx c O L G' m s'→Le G G'→EndsNew G G' d es→es.length=one.length→JoinSpec one two es→Q (.ref d) s') :
  wpAny (model c.prog c.w) A (call (.ref 433) [.ref a,.ref b] []) Q E s:=by
 refine unEEE (fx433.2 c.w.params) fun oc od osl ho=>?_
 refine enterK F (fd:=fd433) (binds:=[("one",.ref a),("two",.ref b)]) ho rfl (by kernel_rfl) R.dl (BindsTo.of_eq rfl) rfl rfl rfl fun sJ1 L' O' env hsz FJ1 back he=>?_
 have R':=R.deeper (env:=env)
 generalize A.deeper env=A' at R' ⊢
 clear F
 have hc1:G (L'+1)=none:=hsz▸FJ1.fresh
 have FJ2:=FJ1.push (cellO none) rfl (t:=sJ1.toks) (d:=sJ1.drawn)
 clear FJ1
 rw [hsz] at FJ2
 have FJ3:Fx c O' L' (upd G (L'+1) (cellO none)) (fun _=>none) { sJ1 with heap:=pushCells sJ1.heap fd433.scope.names }:=FJ2
 clear FJ2
 generalize { sJ1 with heap:=pushCells sJ1.heap fd433.scope.names }=sJ2 at FJ3 ⊢
 have he':env=env433 L' (L'+1):=by rw [he]; rfl
 subst he'
 clear he
 clear hsz; generalize hct:L'+1=ct at *
 refine binds_cons ?_
 refine x_store FJ3 rfl rfl (let MJ3:=setL _ _ _; fun sJ3 (FJ4:Fx _ _ _ _ MJ3 sJ3)=>?_)
 clear FJ3
 refine binds_cons ?_
 refine x_setCell FJ4 rfl (upd_self _ _ _) rfl rfl fun sJ4 FJ5=>?_
 clear FJ4
 rw [upd_upd] at FJ5
 refine binds_nil ⟨(inEE _ _ FJ5),?_⟩
 have le1:Le G (upd G ct (cellO (some (.ref b)))):=Le.alloc hc1
 have gc:upd G ct (cellO (some (.ref b))) ct=some (cellO (some (.ref b))):=upd_self _ _ _
 generalize upd G ct (cellO (some (.ref b)))=GJ1 at *
 refine unEEA (h1.le le1) fun vs1 k1 ga z1=>?_
 refine unEEA (h2.le le1) fun vs2 k2 gb z2=>?_
 walk_at "r"
 refine x_ListComp (cl:=[(("two" : Str),ct)]) rfl (by decide) rfl (by decide) ?_ (fun _=>rfl)
 walk_at "r"
 refine x_iter_list FJ5 ga (lst_is _ _) fun I sJ5 oI hI FJ6=>?_
 clear FJ5
 walk_at "p"; refine (inEEEEEEEAAAA I oI 0 (itL a) _ _ _ rfl (.list a) hI FJ6 (fun D C oL sJ6 hD FJ7=>?_))
 clear FJ6
 refine x_compLoop (It.list a vs1) R'.handled FJ7 hI rfl rfl (fun i G' vs=>Le GJ1 G'∧∃ es,Zip2 (RefN D G G') vs es∧JoinSpec one two es)
  (inAEA (Le.alloc hD) ([]) (.nil) (fun j e' q=>by simp at q)) (upd_self _ _ _) (fun i G' vs v2=>unA v2 fun le _=>(inEA _ (le _ _ ga) (lst_is _ _))) (by have:=z1.length; exact a20 51973680982192548911305403965719 l1 this) ?body ?fin
 case fin =>
  intro G' m' vs k' sJ8 z1 hvl hD' FJ8; refine unAEA z1 fun le es z hes=>?_; clear z1
  walk_at "p"; refine (inAEEA rfl G' m' FJ8 (fun sJ9 FJ9=>?_))
  walk_at "p"; refine h _ G' D es (back _ _ _ FJ9) (le1.trans le) (inEEAA vs k' (none_le le1 hD) hD' (z.imp fun v e v3=>unEAAA v3 fun b q1 _ q0 q2=>(inEAA b q1 q0 q2))) ?_ hes
  rw [← z.length,hvl,z1.length]
 case body =>
  intro i v OJ2 G' m' vs k' sJ8 hi hv z2 hvl hD' FJ8; refine unAEA z2 fun le es z hes=>?_; clear z2
  obtain ⟨e,he⟩:∃ e,one[i]?=some e:=⟨one[i]'(by have:=z1.length; exact a30 49276136826884631318 hi this),List.getElem?_eq_getElem _⟩
  refine unEAEEA (z1.get hv he) fun be y1 us ku gu hus=>?_; clear hv; subst y1
  have gu':=le _ _ gu
  have heI:=hone e (List.mem_of_getElem? he)
  walk_at "r"
  refine x_builtin FJ8 (by k_is) (v:=.builtin "sorted") rfl (by decide) rfl rfl rfl rfl rfl ?_
  walk_at "r"
  refine x_builtin FJ8 (by k_is) (v:=.type "set") rfl (by decide) rfl rfl rfl rfl rfl ?_
  walk_at "r"
  refine x_ListComp (cl:=[(("two" : Str),ct)]) rfl (by decide) rfl (by decide) ?_ (fun _=>rfl)
  walk_at "r"
  refine x_iter_list FJ8 gu' (lst_is _ _) fun IJ2 sJ9 oIJ2 hIJ2 FJ9=>?_
  clear FJ8
  walk_at "p"; refine (inEEEEEEEAAAA IJ2 oIJ2 0 (itL be) _ _ _ rfl (.list be) hIJ2 FJ9 (fun DJ2 CJ2 oLJ2 sJ10 hDJ2 FJ10=>?_))
  clear FJ9
  refine x_compLoop0 (It.list be us) R'.handled FJ10 hIJ2 rfl rfl (fun j G'' ws=>Le G' G''∧∃ ns,IntsAre ws ns∧(∀ x,x∈ns↔∃ y∈e.take j,x∈at2 two y)∧ws.length≤5*j)
   (inAEA (Le.alloc hDJ2) ([]) (.nil) (inA (by simp) (by simp))) (upd_self _ _ _) (fun j G'' ws v4=>unA v4 fun le _=>(inEA _ (le _ _ gu') (lst_is _ _))) (fun _=>rfl) ?body2 ?fin2
  case body2 =>
   intro j v OJ3 G'' m'' ws k'' sJ11 hj hv z3 hD'' FJ11; refine unAEAA z3 fun le' ns hns hmem hwl=>?_; clear z3
   refine unEEA (ints_at hus hv) fun y ty hy y2=>?_; clear hv; subst y2
   have hyr:=heI.2 y (List.mem_of_getElem? hy)
   have hz2:=z2.length
   obtain ⟨f,hf⟩:∃ f,two[y.toNat]?=some f:=⟨two[y.toNat]'(by exact a21 56879022196446730431191 hyr.2 (Int.toNat_of_nonneg (a01 1638731398854 hyr.1))),List.getElem?_eq_getElem _⟩
   obtain ⟨w,hw⟩:∃ w,vs2[y.toNat]?=some w:=⟨vs2[y.toNat]'(by exact a31 1908543282333317692957772524280 hyr.2 hz2 (Int.toNat_of_nonneg (a01 1638731398854 hyr.1))),List.getElem?_eq_getElem _⟩
   refine unEAEEA (z2.get hw hf) fun bf y3 uf kf gf huf=>?_; subst y3
   have gf':=(le.trans le') _ _ gf
   have lf:=htwo f (List.mem_of_getElem? hf)
   refine wpAny_tests_nil ?_
   walk_at "r"
   refine x_cell FJ11 (v:=.ref b) rfl ((le.trans le') _ _ gc) rfl rfl rfl ?_
   walk_at "r"
   refine x_getItemTail_list FJ11 ((le.trans le') _ _ gb) hyr.1 (by exact a11 1663157791430166716926545515675926 l2 hyr.2) hw ?_
   refine x_iter_list FJ11 gf' (lst_is _ _) fun IJ3 sJ12 oIJ3 hIJ3 FJ12=>?_
   clear FJ11
   refine (fun run=>codeAny_compStart1 run ((Self.list bf).self FJ12 hIJ3 run)) ?_
   refine x_compLoop1 (It.list bf uf) R'.handled FJ12 hIJ3 rfl rfl (fun q GJ3 usJ3 _=>Le G' GJ3∧∃ ns',IntsAre usJ3 ns'∧(∀ x,x∈ns'↔x∈ns∨x∈f.take q)) (inAEA le' ns hns (by simp)) hD'' (fun q GJ3 usJ3 _ v5=>unA v5 fun leJ3 _=>(inEA _ ((le.trans leJ3) _ _ gf) (lst_is _ _))) (by have:=(ints_len huf); have:=heI.1; have:=(ints_len hus); exact a60 313101818611618679638873900910891101613763048399852542185823825686154137651382075 heI.1 hj hwl lf ‹_› this) ?body3 ?fin3
   case body3 =>
    intro q v OJ4 GJ3 mJ3 usJ3 kJ3 sJ13 hq hvJ3 z4 hDJ3 FJ13; refine unAEA z4 fun leJ3 ns' hns' hmem'=>?_; clear z4
    refine unEEA (ints_at huf hvJ3) fun x tx hx y4=>?_; clear hvJ3; subst y4
    walk_at "r"
    walk_at "p"; refine (inEEAA GJ3 _ FJ13 hDJ3 (fun kJ4=>(inAEA (leJ3.set hDJ2) (ns'++[x]) (ints_app hns' (.cons x tx .nil)) (fun z=>?_))))
    rw [List.take_add_one,hx]
    simp [hmem',or_assoc]
   case fin3 =>
    intro GJ3 mJ3 usJ3 kJ3 sJ13 z5 hlJ3 hDJ3 FJ13; refine unAEA z5 fun leJ3 ns' hns' hmem'=>?_; clear z5
    walk_at "p"; refine (inAEEEEA rfl GJ3 mJ3 usJ3 kJ3 FJ13 (inAA hDJ3 leJ3 (inEAA ns' hns' (fun x=>?_) (by have:=(ints_len huf); exact a50 67656912485514795742124139582035510757800903041599926430722954521 hwl lf hlJ3 this))))
    rw [hmem',hmem,(ints_len huf),List.take_length,List.take_add_one,hy]
    have hat:at2 two y=f:=by unfold at2; rw [hf]; rfl
    constructor
    ·rintro (⟨y',h1,h2⟩ | h)
     ·walk_at "p"; exact (inEA y' (List.mem_append_left _ h1) h2)
     ·walk_at "p"; exact (inEA y (List.mem_append_right _ (List.mem_singleton.mpr rfl)) (hat▸h))
    ·intro z6; refine unEA z6 fun y' h1 h2=>?_; clear z6
     rcases List.mem_append.mp h1 with h1 | h1
     ·walk_at "p"; exact .inl (inEA y' h1 h2)
     ·have:y'=y:=by simpa using h1
      (replace this:=this.symm; clear h1; subst this); exact .inr (hat▸h2)
  case fin2 =>
   intro G'' m'' ws k'' sJ11 z7 hD'' FJ11; refine unAEAA z7 fun le' ns hns hmem hwl=>?_; clear z7
   walk_at "p"; refine (inAEEA rfl G'' m'' FJ11 (fun sJ12 FJ12=>?_))
   clear FJ11
   walk_at "r"
   have hle:ws.length≤25:=by have:=heI.1; have:=(ints_len hus); exact a30 7718555751759411489827317128085953471196027708695 heI.1 hwl this
   refine x_setOfList (kd:=kInt c) kdsInt R' FJ12 hD'' (lst_is _ _) (keysAre_ints.mpr hns) (by exact Nat.lt_of_le_of_lt ‹_› (by decide)) fun S sJ13 oS l hS FJ13 sS hl=>?_
   clear FJ12
   walk_at "r"
   have hll:l.length≤ns.length:=nodup_len sS.nodup fun k hk=>(hl k).mp hk
   refine x_sortedSet R'.handled FJ13 (upd_self _ _ _) sS (by have:=(ints_len hns); exact a30 1743948155603054897124248235989371257111 hle hll this) fun B sJ14 us' ns' kb hB FJ14 zb pb sb=>?_
   clear FJ13
   have le14:Le G' (upd (upd G'' S oS) B (lst us' kb)):=le'.trans ((Le.alloc hS).trans (Le.alloc hB))
   have hBD:B≠D:=fun e=>by
    have:G'' D=some (lst vs k'):=le' _ _ hD'
    have h2:upd G'' S oS D=some (lst vs k'):=Le.alloc hS _ _ this
    rw [← e,hB] at h2; exact nnS h2
   walk_at "p"; refine (inEEAA _ _ FJ14 (le14 _ _ hD') (fun kJ2=>?_))
   have hm:∀ x,x∈ns'↔∃ y∈e,x∈at2 two y:=fun x=>by
    rw [pb.mem_iff,hl,hmem,(ints_len hus),List.take_length]
   have hBG:G B=none:=none_le (((le1.trans le).trans le').trans (Le.alloc hS)) hB
   have z':Zip2 (RefN D G (upd (upd (upd G'' S oS) B (lst us' kb)) D (lst (vs++[Value.ref B]) kJ2))) (vs++[Value.ref B]) (es++[ns']):=by
    refine (z.imp fun v e v6=>unEAAA v6 fun b q1 q2 q0 q3=>(inEAAA b q1 q2 q0 ?_)).append (.cons (inEAAAEEA B rfl hBD hBG us' kb ((upd_ne hBD).trans (upd_self _ _ _)) (keysAre_ints.mp zb)) .nil)
    obtain ⟨u,ku,g,hi⟩:=q3.le le14
    walk_at "p"; exact (inEEA u ku ((upd_ne q2).trans g) hi)
   walk_at "p"; refine (inAEA ((le.trans le14).set hD) (es++[ns']) z' (fun j e' hj=>?_))
   have hel:es.length=i:=by rw [← z.length,hvl]
   by_cases hlt:j<es.length
   ·rw [List.getElem?_append_left hlt] at hj; exact hes j e' hj
   ·have hj':j=i:=by have:=(List.getElem?_eq_some_iff.mp hj).1; simp at this; exact Nat.le_antisymm (a30 51639355670448761251576 hel this) (a30 51581979937063610135 hel hlt)
    (replace hj':=hj'.symm; clear hlt; subst hj')
    rw [List.getElem?_append_right (by exact Nat.le_of_eq ‹_›),hel,Nat.sub_self] at hj
    cases hj
    walk_at "p"; exact (inAEA (pb.nodup_iff.mpr sS.nodup) e he hm)
end
end
section
noncomputable def fx438:{ fd:FuncData // FdAt 438 fd }:=⟨_,fun P=>(inEEE _ _ _ (by k_is))⟩
noncomputable def fd438:FuncData:=fx438.1
section
variable {c:Cx} {O:List (Addr×Obj)} {L ca I:Addr} {G:View} {m:Str→Option Value} {A:Around} {E:Value→Shared→Prop} {s:Shared} {env:Env} {o:Obj} {n:Nat} {X:List (Addr×Obj)} {P:Nat→Value→Prop} {ok:Nat→Obj→Prop} {dep:View→Prop} {x:Str} {px:Pos} {body:List Stmt}
theorem x_forLoopC {R:Result→Shared→Prop} (W:It c X n P ok dep) (hh:A.handled=none) (F:Fx c ((I,o)::(X++O)) env.locals G m s) (hok:ok 0 o) (hk:env.scope.kind=.function) (hc:env.cells.lookup x=some ca) (hl:env.kindOf x=some .cell)
  (J:Nat→View→(Str→Option Value)→Prop) (h0:J 0 G m) (hdep:∀ i G m,J i G m→dep G) (hcl:∀ i G m,J i G m→∃ vJ0,G ca=some (cellO vJ0))
  (body_ok:∀ i v O' G' m' s',i<n→P i v→J i G' m'→Fx c O' env.locals (upd G' ca (cellO (some v))) m' s' →
   ∀ Qt:Flow→Shared→Prop,(∀ f sJ2,(f=.next∧∃ GJ2 mJ2,Fx c O' env.locals GJ2 mJ2 sJ2∧J (i+1) GJ2 mJ2)→Qt f sJ2)→wpAny (model c.prog c.w) A (execs body env) (Abs Qt) (fun _ _=>False) s')
  (fin:∀ G' m' s',J n G' m'→Fx c O env.locals G' m' s'→R (.ok .next) s') :
  codeAny (model c.prog c.w) A (.forLoop (.Name x px) (.ref I) body [] env) R s:=by
 refine codeAny_forLoop (fun k s'=>∃ i G' m' o',k=n - i∧i≤n∧Fx c ((I,o')::(X++O)) env.locals G' m' s'∧ok i o'∧J i G' m') ?_ n (inEEEEAAAA 0 G m o rfl (Nat.zero_le _) F hok h0)
 intro k s' z1; refine unEEEEAAAA z1 fun i G' m' o' y1 hi F' hok' hJ=>?_; clear z1; subst y1
 rcases Nat.lt_or_ge i n with hlt | hge
 ·refine unE (hcl _ _ _ hJ) fun vJ0 hvJ0=>?_
  refine W.next F' (hdep _ _ _ hJ) hok' hlt fun v sJ1 oJ1 hP hokJ1 FJ1=>?_
  refine wpAny_assign_Name (x_setCell FJ1 hc hvJ0 hk hl fun sJ2 FJ2=>?_)
  refine wpAny_mono (body_ok i v _ _ _ _ hlt hP hJ FJ2 _ fun _ _ z=>z) (fun f sJ3 hf=>?_) fun _ _ hf=>hf.elim
  obtain ⟨rfl,GJ2,mJ2,FJ3,hf⟩:=hf
  walk_at "p"; exact ⟨n - (i+1),by exact subL ‹_›,i+1,GJ2,mJ2,oJ1,rfl,hlt,FJ3,hokJ1,hf⟩
 ·have:i=n:=by exact Nat.le_antisymm (a20 1434183575286 hi) (a20 1434183575286 hge)
  clear body_ok hi hge; subst this
  refine W.done hh F' (hdep _ _ _ hJ) hok' fun sJ1 FJ1=>?_
  walk_at "p"; exact wpAny_execs_nil (fin _ _ _ hJ FJ1)
end
theorem lst_cell {G:View} {b d:Addr} {vs:List Value} {k:Nat} {v:Option Value} (h:G b=some (lst vs k)) (h':G d=some (cellO v)):b≠d:=obj_ne h h' (by intro e; exact absurd (show Value.type "list" = Value.type "cell" from e) (by decide))
theorem zip2_set {α β:Type} {R:α→β→Prop} {as:List α} {bs:List β} (h:Zip2 R as bs) {a:α} {b:β} (r:R a b):∀ i,Zip2 R (as.set i a) (bs.set i b):=by
 induction h with
 | nil=>intro i; exact .nil
 | cons r' t ih =>
  intro i
  cases i with
  | zero=>exact .cons r t
  | succ i=>exact .cons r' (ih i)
theorem at2_set {es:List (List Int)} {p:Nat} {f:List Int} {y:Int} (h:(p:Int)<y):at2 (es.set p f) y=at2 es y:=by
 unfold at2
 rw [List.getElem?_set_ne (by exact fun z0=>a21 1839571578365722363631349 h z0 (Int.toNat_of_nonneg (a11 53538579332806 h)))]
theorem mem_at2 {es:List (List Int)} {y x:Int} (h:x∈at2 es y):∃ f,es[y.toNat]?=some f∧x∈f:=by
 unfold at2 at h
 cases e:es[y.toNat]? with
 | none=>rw [e] at h; cases h
 | some f=>rw [e] at h; exact (inEA f rfl h)
noncomputable def StarAt (one es:List (List Int)) (j:Nat) (e':List Int):Prop:=∀ x,x∈e'↔x=(j:Int)∨∃ e,one[j]?=some e∧∃ y∈e,(j:Int)<y∧x∈at2 es y
noncomputable def StarSpec (one es:List (List Int)):Prop:=∀ (j:Nat) (e':List Int),es[j]?=some e'→e'.Nodup∧StarAt one es j e'
noncomputable abbrev env438 (L' cp cs:Addr):Env:=newEnv fd438.scope L' fd438.globals [(("star" : Str),cs),(("place" : Str),cp)] (fd438.qualname ++ ".<locals>.") (some 438) fd438.code none fd438.builtins
theorem small_down {N:Nat} (h1:1≤N) (h5:N≤5):Builtin.Range.small ((N:Int) - 1) (-1) (-1)=true∧Builtin.Range.rangeSize ((N:Int) - 1) (-1) (-1)=N:=by
 rcases (Or.resolve_left (or5 h5) (Nat.ne_of_gt h1)) with rfl | rfl | rfl | rfl | rfl <;> decide
theorem small_up {N:Nat} (h5:N≤5):Builtin.Range.small 0 N 1=true∧Builtin.Range.rangeSize 0 N 1=N:=by
 rcases or5 h5 with rfl | rfl | rfl | rfl | rfl | rfl <;> decide
section
variable {c:Cx} {O:List (Addr×Obj)} {L:Addr} {G:View} {m:Str→Option Value} {A:Around} {E:Value→Shared→Prop} {s:Shared} {n:Nat} {a b:Addr} {one two:List (List Int)}
theorem lawstar {Q:Value→Shared→Prop} (F:Fx c O L G m s) (R:Room A (n+1)) (h1:EndsAt G a one) (l1:1≤one.length) (l5:one.length≤5) (hone:∀ e∈one,e.length≤5∧∀ y∈e,0≤y∧y<one.length)
  (h:∀ s' G' d es,Fx c O L G' m s'→Le G G'→EndsNew G G' d es→es.length=one.length→(∀ e∈es,∀ x∈e,0≤x∧x<one.length)→StarSpec one es→Q (.ref d) s') :
  wpAny (model c.prog c.w) A (call (.ref 438) [.ref a] []) Q E s:=by
 refine unEEE (fx438.2 c.w.params) fun oc od osl ho=>?_
 refine enterK F (fd:=fd438) (binds:=[("one",.ref a)]) ho rfl (by kernel_rfl) R.dl (BindsTo.of_eq rfl) rfl rfl rfl fun sJ1 L' O' env hsz FJ1 back he=>?_
 have R':=R.deeper (env:=env)
 generalize A.deeper env=A' at R' ⊢
 clear F
 have hb1:G (L'+1)=none:=hsz▸FJ1.fresh
 have FJ2:=FJ1.push (cellO none) rfl (t:=sJ1.toks) (d:=sJ1.drawn)
 clear FJ1
 rw [hsz] at FJ2
 have hsz2:(sJ1.heap.push (cellO none)).objs.size=L'+1+1:=by rw [Heap.size_push,hsz]
 have hb2:upd G (L'+1) (cellO none) (L'+1+1)=none:=hsz2▸FJ2.fresh
 have FJ3:=FJ2.push (cellO none) rfl (t:=sJ1.toks) (d:=sJ1.drawn)
 clear FJ2
 rw [show ({ sJ1 with heap:=sJ1.heap.push (cellO none),toks:=sJ1.toks,drawn:=sJ1.drawn }:Shared).heap.objs.size=L'+1+1 from hsz2] at FJ3
 have hFJ3:Fx c O' L' (upd (upd G (L'+1) (cellO none)) (L'+1+1) (cellO none)) (fun _=>none) { sJ1 with heap:=pushCells sJ1.heap fd438.scope.names }:=FJ3
 clear FJ3
 generalize { sJ1 with heap:=pushCells sJ1.heap fd438.scope.names }=sJ2 at hFJ3 ⊢
 have gp:upd (upd G (L'+1) (cellO none)) (L'+1+1) (cellO none) (L'+1)=some (cellO none):=(upd_ne (Nat.ne_of_lt (Nat.lt_succ_self _))).trans (upd_self _ _ _)
 have gs:upd (upd G (L'+1) (cellO none)) (L'+1+1) (cellO none) (L'+1+1)=some (cellO none):=upd_self _ _ _
 have he':env=env438 L' (L'+1) (L'+1+1):=by rw [he]; rfl
 subst he'
 clear he
 generalize hcp:L'+1=cp at *
 generalize hcs:cp+1=cs at *
 have hps:cp≠cs:=hcs▸Nat.ne_of_lt (Nat.lt_succ_self _)
 have leG:Le G (upd (upd G cp (cellO none)) cs (cellO none)):=(Le.alloc hb1).trans (Le.alloc hb2)
 have hGp:∀ {b o},G b=some o→b≠cp∧b≠cs:=fun {b o} e=>⟨fun q=>(by rw [q,hb1] at e; exact nnS e),fun q=>(by rw [upd_ne hps.symm] at hb2; rw [q,hb2] at e; exact nnS e)⟩
 clear hb1 hb2 hsz hsz2 hcp hcs
 generalize upd (upd G cp (cellO none)) cs (cellO none)=GJ1 at *
 refine binds_cons ?_
 refine x_store hFJ3 rfl rfl (let MJ3:=setL _ _ _; fun sJ3 (FJ3:Fx _ _ _ _ MJ3 sJ3)=>?_)
 clear hFJ3
 refine binds_nil ⟨(inEE _ _ FJ3),?_⟩
 refine unEEA h1 fun vs1 k1 ga z1=>?_; clear h1
 have ga1:=leG _ _ ga
 have hz1:=z1.length
 walk_at "r"
 refine x_ListComp (cl:=[]) rfl (by decide) rfl (by decide) ?_ (fun _=>rfl)
 walk_at "r"
 refine x_builtin FJ3 (by k_is) (v:=.type "range") rfl (by decide) rfl rfl rfl rfl rfl ?_
 walk_at "r"
 refine x_builtin FJ3 (by k_is) (v:=.builtin "len") rfl (by decide) rfl rfl rfl rfl rfl ?_
 walk_at "r"
 refine x_lenList FJ3 ga1 (by exact a20 51973680982192548911306570891543 l5 hz1) fun sJ4 tl FJ4=>?_
 clear FJ3
 walk_at "r"
 refine x_range1 FJ4 fun r sJ5 t u v hr FJ5=>?_
 clear FJ4
 have leR:Le GJ1 (upd GJ1 r (rangeO 0 vs1.length 1 t u v)):=Le.alloc hr
 refine x_iter_range (n:=vs1.length) FJ5 (upd_self _ _ _) (small_up (by exact a20 51973680982192548911305394754839 l5 hz1)).1 (small_up (by exact a20 51973680982192548911305394754839 l5 hz1)).2 fun I sJ6 oI hI FJ6=>?_
 clear FJ5
 have leGJ2:=leG.trans leR
 have gpJ2:=leR _ _ gp
 have gsJ2:=leR _ _ gs
 generalize upd GJ1 r (rangeO 0 vs1.length 1 t u v)=GJ2 at *
 walk_at "p"; refine (inEEEEEEEAAAA I oI 0 (itR 0 vs1.length 1) _ _ _ rfl (.range _ _ _) hI FJ6 (fun D C oL sJ7 hD FJ7=>?_))
 clear FJ6
 refine x_compLoop (It.range 0 1 vs1.length) R'.handled FJ7 hI rfl rfl (fun i G' vs=>Le GJ2 G'∧∃ es,Zip2 (RefN D G G') vs es∧∀ (j:Nat) e',es[j]?=some e'→e'=[(j:Int)])
  (inAEA (Le.alloc hD) ([]) (.nil) (fun j e' q=>by simp at q)) (upd_self _ _ _) (fun i G' vs _=>trivial) (by exact a20 51973680982192548911305403965719 l5 hz1) ?body ?fin
 case body =>
  intro i v OJ2 G' m' vs k' sJ8 hi z2 z3 hvl hD' FJ8; refine unE z2 fun tk y2=>?_; clear z2; subst y2; refine unAEA z3 fun le es z hes=>?_; clear z3
  walk_at "r"
  walk_at "p"; refine ⟨listLine (by simp),?_⟩
  have FJ9:=FJ8.push (lst [Value.int (0+i*1) tk] 0) rfl (t:=sJ8.toks) (d:=sJ8.drawn)
  have hB:=FJ8.fresh
  clear FJ8
  generalize sJ8.heap.objs.size=B at FJ9 hB ⊢
  have leB:Le G' (upd G' B (lst [Value.int (0+i*1) tk] 0)):=Le.alloc hB
  have hBD:B≠D:=nsn hB hD'
  walk_at "p"; refine (inEEAA _ _ FJ9 (leB _ _ hD') (fun kJ2=>(inAEA ((le.trans leB).set hD) (es++[[(0+i*1:Int)]]) ((z.imp fun v e v1=>unEAAAEEA v1 fun b q1 q2 q0 u ku g q3=>(inEAAAEEA b q1 q2 q0 u ku ((upd_ne q2).trans (leB _ _ g)) q3)).append (.cons (inEAAAEEA B rfl hBD (none_le (leGJ2.trans le) hB) _ 0 ((upd_ne hBD).trans (upd_self _ _ _)) (.cons _ _ .nil)) .nil)) (fun j e' hj=>?_))))
  have hel:es.length=i:=by rw [← z.length,hvl]
  by_cases hlt:j<es.length
  ·rw [List.getElem?_append_left hlt] at hj; exact hes j e' hj
  ·have hj':j=i:=by have:=(List.getElem?_eq_some_iff.mp hj).1; simp at this; exact Nat.le_antisymm (a30 51639355670448761251576 hel this) (a30 51581979937063610135 hel hlt)
   (replace hj':=hj'.symm; subst hj')
   rw [List.getElem?_append_right (by exact Nat.le_of_eq ‹_›),hel,Nat.sub_self] at hj
   cases hj
   simp
 case fin =>
  intro G' m' vs k' sJ8 z4 hvl hD' FJ8; refine unAEA z4 fun le es z hes=>?_; clear z4
  walk_at "p"; refine (inAEEA rfl G' m' FJ8 (fun sJ9 FJ9=>?_))
  clear FJ8
  have hDG:G D=none:=none_le leGJ2 hD
  have hDp:D≠cp∧D≠cs:=⟨fun q=>(by rw [q,gpJ2] at hD; exact snN hD),fun q=>(by rw [q,gsJ2] at hD; exact snN hD)⟩
  refine x_setCell FJ9 rfl (le _ _ gsJ2) rfl rfl fun sJ10 FJ10=>?_
  clear FJ9
  have hel:es.length=one.length:=by rw [← z.length,hvl,hz1]
  have leS:Le G (upd G' cs (cellO (some (Value.ref D)))):=fun b o e=>(upd_ne (hGp e).2).trans (le _ _ (leGJ2 _ _ e))
  have gsS:upd G' cs (cellO (some (Value.ref D))) cs=some (cellO (some (Value.ref D))):=upd_self _ _ _
  have gpS:upd G' cs (cellO (some (Value.ref D))) cp=some (cellO none):=(upd_ne hps).trans (le _ _ gpJ2)
  have gDS:upd G' cs (cellO (some (Value.ref D))) D=some (lst vs k'):=(upd_ne hDp.2).trans hD'
  have zS:Zip2 (RefN D G (upd G' cs (cellO (some (Value.ref D))))) vs es:=z.imp fun v e v2=>unEAAAEEA v2 fun b q1 q2 q0 u ku g q3=>(inEAAAEEA b q1 q2 q0 u ku (by
   rw [upd_ne (lst_cell g (le _ _ gsJ2))]; exact g) q3)
  have hGD:∀ {b o},G b=some o→b≠D:=fun {b o} e q=>by rw [q] at e; rw [leGJ2 _ _ e] at hD; exact snN hD
  clear z hD' le
  generalize upd G' cs (cellO (some (Value.ref D)))=GS at *
  walk_at "d"
  refine x_builtin FJ10 (by k_is) (v:=.type "range") rfl (by decide) rfl rfl rfl rfl rfl ?_
  walk_at "r"
  refine wpAny_BinOp ?_
  walk_at "r"
  refine x_builtin FJ10 (by k_is) (v:=.builtin "len") rfl (by decide) rfl rfl rfl rfl rfl ?_
  walk_at "r"
  refine x_lenList FJ10 (leS _ _ ga) (by exact a20 51973680982192548911306570891543 l5 hz1) fun sJ11 tlJ2 FJ11=>?_
  clear FJ10
  walk_at "r"
  refine PyProof.Rows.sub_int ?_
  have FJ12:=FJ11.eta (t:=sJ11.toks+1+1) (d:=sJ11.drawn)
  clear FJ11
  walk_at "r"
  refine wpAny_UnaryOp ?_
  walk_at "r"
  refine PyProof.Rows.neg_int ?_
  walk_at "r"
  refine wpAny_UnaryOp ?_
  walk_at "r"
  refine PyProof.Rows.neg_int ?_
  walk_at "r"
  refine x_range3 (FJ12.toks rfl rfl rfl) (by decide) (by decide) fun r sJ12 tJ2 uJ2 vJ2 hr FJ13=>?_
  clear FJ12
  have leR:Le GS (upd GS r (rangeO ((vs1.length:Int) - 1) (-1) (-1) tJ2 uJ2 vJ2)):=Le.alloc hr
  refine x_iter_range (n:=vs1.length) FJ13 (upd_self _ _ _) (small_down (by exact a20 48070298058868434663 l1 hz1) (by exact a20 51973680982192548911305394754839 l5 hz1)).1 (small_down (by exact a20 48070298058868434663 l1 hz1) (by exact a20 51973680982192548911305394754839 l5 hz1)).2 fun IJ2 sJ13 oIJ2 hIJ2 FJ14=>?_
  clear FJ13
  have leS':=leS.trans leR
  have gsS':=leR _ _ gsS
  have gpS':=leR _ _ gpS
  have gDS':=leR _ _ gDS
  have zS':=zS.imp fun v e q=>q.le leR
  clear leS gsS gpS gDS zS leR hr
  generalize upd GS r (rangeO ((vs1.length:Int) - 1) (-1) (-1) tJ2 uJ2 vJ2)=GJ0 at *
  refine x_forLoopC (ca:=cp) (It.range ((vs1.length:Int) - 1) (-1) vs1.length) R'.handled FJ14 hIJ2 rfl rfl rfl (fun i G' m'=>Le G G'∧G' cs=some (cellO (some (.ref D)))∧(∃ vJ0,G' cp=some (cellO vJ0))∧(∃ vs es k,G' D=some (lst vs k)∧Zip2 (RefN D G G') vs es∧es.length=one.length ∧
    (∀ (j:Nat) e',es[j]?=some e'→e'.Nodup∧(∀ x∈e',0≤x∧x<one.length)∧(one.length≤j+i→StarAt one es j e')))∧m' "one" = some (.ref a))
   (inAAAA leS' gsS' ⟨_,gpS'⟩ (inEEEAAA vs es k' gDS' zS' hel (fun j e' hj=>?_)) rfl) (fun _ _ _ _=>trivial) (fun i G' m' v3=>unAAA v3 fun _ _ h3 _=>h3) ?lbody ?lfin
  ·have:=hes j e' hj
   subst this
   have hj':=(List.getElem?_eq_some_iff.mp hj).1
   walk_at "p"; refine (inAA (List.nodup_cons.mpr ⟨List.not_mem_nil,List.nodup_nil⟩) (fun x hx=>?_) (fun hle=>by lia))
   rw [List.mem_singleton] at hx
   exact ⟨a11 55171740647110 hx,a31 1732729249161432359387975390966 hel hj' hx⟩
  case lfin =>
   intro G' m' sJ14 z5 FJ15; refine unAAAA z5 fun leF gcs gcp y3 hm=>?_; clear z5; refine unEEEAAA y3 fun us fs ku gu zu hul hus=>?_; clear y3
   walk_at "r"
   refine x_cell FJ15 (v:=.ref D) rfl gcs rfl rfl rfl ?_
   walk_at "p"; refine h _ G' D fs (back _ _ _ FJ15) leF (inEEAA us ku hDG gu (zu.imp fun v e v4=>unEAAA v4 fun b q1 _ q0 q2=>(inEAA b q1 q0 q2))) hul (fun e he=>?_) fun j e' hj=>⟨(hus j e' hj).1,(hus j e' hj).2.2 (by exact a30 1574157096639255 hz1)⟩
   refine unE (List.mem_iff_getElem?.mp he) fun j hj=>?_
   walk_at "p"; exact (hus j e hj).2.1
  case lbody =>
   intro i v OJ2 G' m' sJ14 hi z6 z7 FJ15 Qt hQt; refine unE z6 fun tk y4=>?_; clear z6; subst y4; refine unAAAA z7 fun leF gcs y5 y6 hm=>?_; clear z7; refine unE y5 fun vJ0 gcp=>?_; clear y5; refine unEEEAAA y6 fun us fs ku gu zu hul hus=>?_; clear y6
   obtain ⟨p,hp⟩:∃ p:Nat,(vs1.length:Int) - 1+i*-1=p:=⟨vs1.length - 1 - i,by omega⟩
   rw [hp] at FJ15
   have leP:∀ {b o},b≠cp→G' b=some o→upd G' cp (cellO (some (Value.int (p:Int) tk))) b=some o:=fun {b o} hb e=>(upd_ne hb).trans e
   have gcs':=leP hps.symm gcs
   have gcp':upd G' cp (cellO (some (Value.int (p:Int) tk))) cp=some (cellO (some (Value.int (p:Int) tk))):=upd_self _ _ _
   have leF':Le G (upd G' cp (cellO (some (Value.int (p:Int) tk)))):=fun b o e=>leP (hGp e).1 (leF _ _ e)
   have gu':=leP (lst_cell gu gcp) gu
   have zu':Zip2 (RefN D G (upd G' cp (cellO (some (Value.int (p:Int) tk))))) us fs:=zu.imp fun v e v5=>unEAAAEEA v5 fun b q1 q2 q0 w kw g q3=>(inEAAAEEA b q1 q2 q0 w kw (leP (lst_cell g gcp) g) q3)
   clear gcp leP zu gu leF gcs
   generalize upd G' cp (cellO (some (Value.int (p:Int) tk)))=GP at *
   have hpl:p<one.length:=by lia
   obtain ⟨e,he⟩:∃ e,one[p]?=some e:=⟨one[p],List.getElem?_eq_getElem hpl⟩
   obtain ⟨w,hw⟩:∃ w,vs1[p]?=some w:=⟨vs1[p]'(by lia),List.getElem?_eq_getElem _⟩
   refine unEAEEA (z1.get hw he) fun be y7 ue ke ge hue=>?_; subst y7
   have ge':=leF' _ _ ge
   have heI:=hone e (List.mem_of_getElem? he)
   walk_at "r"
   refine x_builtin FJ15 (by k_is) (v:=.builtin "sorted") rfl (by decide) rfl rfl rfl rfl rfl ?_
   walk_at "r"
   refine x_builtin FJ15 (by k_is) (v:=.type "set") rfl (by decide) rfl rfl rfl rfl rfl ?_
   walk_at "r"
   refine wpAny_BinOp ?_
   walk_at "r"
   refine x_cell FJ15 (v:=.int p tk) rfl gcp' rfl rfl rfl ?_
   walk_at "r"
   walk_at "p"; refine ⟨listLine (by simp),?_⟩
   have FJ16:=FJ15.push (lst [Value.int (p:Int) tk] 0) rfl (t:=sJ14.toks) (d:=sJ14.drawn)
   have hB:=FJ15.fresh
   clear FJ15
   generalize sJ14.heap.objs.size=B at FJ16 hB ⊢
   have leB:Le GP (upd GP B (lst [Value.int (p:Int) tk] 0)):=Le.alloc hB
   have gB:upd GP B (lst [Value.int (p:Int) tk] 0) B=some (lst [Value.int (p:Int) tk] 0):=upd_self _ _ _
   have hBG:GP B=none:=hB
   generalize upd GP B (lst [Value.int (p:Int) tk] 0)=GB at *
   have gcsB:=leB _ _ gcs'
   have gcpB:=leB _ _ gcp'
   have guB:=leB _ _ gu'
   have geB:=leB _ _ ge'
   have zuB:=zu'.imp fun v e q=>q.le leB
   have leGB:=leF'.trans leB
   have hDB:B≠D:=nsn hBG gu'
   clear leB hB gcs' gcp' gu' ge' zu' leF' hBG
   refine x_ListComp (cl:=[(("star" : Str),cs),(("place" : Str),cp)]) rfl (by decide) rfl (by decide) ?_ (fun _=>rfl)
   walk_at "r"
   refine x_cell FJ16 (v:=.int p tk) rfl gcpB rfl rfl rfl ?_
   walk_at "r"
   refine x_getItemTail_list FJ16 (leGB _ _ ga) (by exact Int.natCast_nonneg _) (by lia) (by simpa using hw) ?_
   refine x_iter_list FJ16 geB (lst_is _ _) fun IJ3 sJ17 oIJ3 hIJ3 FJ17=>?_
   clear FJ16
   walk_at "p"; refine (inEEEEEEEAAAA IJ3 oIJ3 0 (itL be) _ _ _ rfl (.list be) hIJ3 FJ17 (fun DJ2 CJ2 oLJ2 sJ18 hDJ2 FJ18=>?_))
   clear FJ17
   have lf:∀ f∈fs,f.length≤5:=fun f hf=>by
    refine unE (List.mem_iff_getElem?.mp hf) fun j hj=>?_
    have:=len_range (n:=one.length) (hus j f hj).1 (hus j f hj).2.1
    exact a20 51973680982192476853711356826903 l5 this
   refine x_compLoop0 (It.list be ue) R'.handled FJ18 hIJ3 rfl rfl (fun j G'' ws=>Le GB G''∧∃ ns,IntsAre ws ns∧(∀ x,x∈ns↔∃ y∈e.take j,(p:Int)<y∧x∈at2 fs y)∧ws.length≤5*j)
    (inAEA (Le.alloc hDJ2) ([]) (.nil) (inA (by simp) (by simp))) (upd_self _ _ _) (fun j G'' ws v6=>unA v6 fun le _=>(inEA _ (le _ _ geB) (lst_is _ _))) (fun _=>rfl) ?body2 ?fin2
   case body2 =>
    intro j v OJ3 G'' m'' ws k'' sJ19 hj hv z8 hD'' FJ19; refine unAEAA z8 fun le' ns hns hmem hwl=>?_; clear z8
    refine unEEA (ints_at hue hv) fun y ty hy y8=>?_; subst y8
    have hyr:=heI.2 y (List.mem_of_getElem? hy)
    refine wpAny_tests_one ?_
    walk_at "r"
    refine x_cell FJ19 (v:=.int p tk) rfl (le' _ _ gcpB) rfl rfl rfl ?_
    refine PyProof.Rows.gt_int ?_
    refine wpAny_truthy_bool ?_
    by_cases hpy:(p:Int)<y
    ·rw [if_pos (decide_eq_true hpy)]
     obtain ⟨f,hf⟩:∃ f,fs[y.toNat]?=some f:=⟨fs[y.toNat]'(by lia),List.getElem?_eq_getElem _⟩
     have hul':=zuB.length
     obtain ⟨w,hw'⟩:∃ w,us[y.toNat]?=some w:=⟨us[y.toNat]'(by lia),List.getElem?_eq_getElem _⟩
     refine unEAAA (zuB.get hw' hf) fun bf y9 _ _ w40=>unEEA w40 fun uf kf gf huf=>?_; clear w40; subst y9
     have gf':=le' _ _ gf
     have lf':=lf f (List.mem_of_getElem? hf)
     walk_at "r"
     refine x_cell FJ19 (v:=.ref D) rfl (le' _ _ gcsB) rfl rfl rfl ?_
     walk_at "r"
     refine x_getItemTail_list FJ19 (le' _ _ guB) hyr.1 (by exact a11 1663157791430166716926545515675926 l5 hyr.2) hw' ?_
     refine x_iter_list FJ19 gf' (lst_is _ _) fun IJ4 sJ20 oIJ4 hIJ4 FJ20=>?_
     clear FJ19
     refine (fun run=>codeAny_compStart1 run ((Self.list bf).self FJ20 hIJ4 run)) ?_
     refine x_compLoop1 (It.list bf uf) R'.handled FJ20 hIJ4 rfl rfl (fun q GJ3 usJ3 _=>Le GB GJ3∧∃ ns',IntsAre usJ3 ns'∧(∀ x,x∈ns'↔x∈ns∨x∈f.take q)) (inAEA le' ns hns (by simp)) hD'' (fun q GJ3 usJ3 _ v7=>unA v7 fun leJ3 _=>(inEA _ (leJ3 _ _ gf) (lst_is _ _))) (by have:=ints_len huf; have:=heI.1; have:=ints_len hue; exact a60 313101818611618679638873900910891101613763048399852542185823825686154137651382075 heI.1 hj hwl lf' ‹_› this) ?body3 ?fin3
     case body3 =>
      intro q v OJ4 GJ3 mJ3 usJ3 kJ3 sJ21 hq hvJ3 z9 hDJ3 FJ21; refine unAEA z9 fun leJ3 ns' hns' hmem'=>?_; clear z9
      refine unEEA (ints_at huf hvJ3) fun x tx hx y10=>?_; subst y10
      walk_at "r"
      walk_at "p"; refine (inEEAA GJ3 _ FJ21 hDJ3 (fun kJ4=>(inAEA (leJ3.set hDJ2) (ns'++[x]) (ints_app hns' (.cons x tx .nil)) (fun z=>?_))))
      rw [List.take_add_one,hx]
      simp [hmem',or_assoc]
     case fin3 =>
      intro GJ3 mJ3 usJ3 kJ3 sJ21 z10 hlJ3 hDJ3 FJ21; refine unAEA z10 fun leJ3 ns' hns' hmem'=>?_; clear z10
      walk_at "p"; refine (inAEEEEA rfl GJ3 mJ3 usJ3 kJ3 FJ21 (inAA hDJ3 leJ3 (inEAA ns' hns' (fun x=>?_) (by have:=ints_len huf; exact a50 67656912485514795742124139582035510757800903041599926430722954521 hwl lf' hlJ3 this))))
      rw [hmem',hmem,ints_len huf,List.take_length,List.take_add_one,hy]
      have hat:at2 fs y=f:=by unfold at2; rw [hf]; rfl
      constructor
      ·rintro (⟨y',h1,h2,h3⟩ | h)
       ·walk_at "p"; exact (inEAA y' (List.mem_append_left _ h1) h2 h3)
       ·walk_at "p"; exact (inEAA y (List.mem_append_right _ (List.mem_singleton.mpr rfl)) hpy (hat▸h))
      ·intro z11; refine unEAA z11 fun y' h1 h2 h3=>?_; clear z11
       rcases List.mem_append.mp h1 with h1 | h1
       ·walk_at "p"; exact .inl (inEAA y' h1 h2 h3)
       ·have:y'=y:=by simpa using h1
        (replace this:=this.symm; subst this); exact .inr (hat▸h3)
    ·rw [if_neg (by rw [decide_eq_true_eq]; exact hpy)]
     walk_at "p"; refine (inEEEEAAA G'' _ ws k'' FJ19 hD'' le' (inEAA ns hns (fun x=>?_) (by exact a20 1667871663368186798139072812422422 hwl)))
     rw [hmem,List.take_add_one,hy]
     constructor
     ·intro z12; refine unEA z12 fun y' h1 h2=>?_; clear z12; exact (inEA y' (List.mem_append_left _ h1) h2)
     ·intro z13; refine unEA z13 fun y' h1 h2=>?_; clear z13
      rcases List.mem_append.mp h1 with h1 | h1
      ·walk_at "p"; exact (inEA y' h1 h2)
      ·have:y'=y:=by simpa using h1
       (replace this:=this.symm; subst this); exact absurd h2.1 hpy
   case fin2 =>
    intro G'' m'' ws k'' sJ19 z14 hD'' FJ19; refine unAEAA z14 fun le' ns hns hmem hwl=>?_; clear z14
    walk_at "p"; refine (inAEEA rfl G'' m'' FJ19 (fun sJ20 FJ20=>?_))
    clear FJ19
    have hle:ws.length≤25:=by have:=heI.1; have:=ints_len hue; exact a30 7718555751759411489827317128085953471196027708695 heI.1 hwl this
    refine x_addLists FJ20 (le' _ _ gB) hD'' (by simp; exact a10 1586111607687647824426829511 hle) fun rJ2 sJ21 hrJ2 FJ21=>?_
    clear FJ20
    have hns2:IntsAre ([Value.int (p:Int) tk]++ws) ((p:Int)::ns):=.cons _ _ hns
    walk_at "r"
    refine x_setOfList (kd:=kInt c) kdsInt R' FJ21 (upd_self _ _ _) (lst_is _ _) (keysAre_ints.mpr hns2) (by simp; exact a10 1586111607687648914396415222 hle) fun S sJ22 oS l hS FJ22 sS hl=>?_
    clear FJ21
    walk_at "r"
    have hll:l.length≤((p:Int)::ns).length:=nodup_len sS.nodup fun k hk=>(hl k).mp hk
    refine x_sortedSet R'.handled FJ22 (upd_self _ _ _) sS (by have:=ints_len hns; simp at hll; exact a30 1785802911337527306475211652227906033221911 hle hll this) fun BJ2 sJ23 us' ns' kb hBJ2 FJ23 zb pb sb=>?_
    clear FJ22
    have leX:Le G'' (upd (upd (upd G'' rJ2 (lst ([Value.int (p:Int) tk]++ws) 0)) S oS) BJ2 (lst us' kb)):=(Le.alloc hrJ2).trans ((Le.alloc hS).trans (Le.alloc hBJ2))
    have gBJ2:upd (upd (upd G'' rJ2 (lst ([Value.int (p:Int) tk]++ws) 0)) S oS) BJ2 (lst us' kb) BJ2=some (lst us' kb):=upd_self _ _ _
    have hBJ2D:BJ2≠D:=fun q=>by
     have:=(Le.alloc (o:=oS) hS) _ _ ((Le.alloc (o:=lst ([Value.int (p:Int) tk]++ws) 0) hrJ2) _ _ (le' _ _ guB))
     rw [← q,hBJ2] at this; exact nnS this
    have hBJ2G:G BJ2=none:=none_le (((leGB.trans le').trans (Le.alloc hrJ2)).trans (Le.alloc hS)) hBJ2
    have leY:=le'.trans leX
    clear leX le' hD''
    generalize upd (upd (upd G'' rJ2 (lst ([Value.int (p:Int) tk]++ws) 0)) S oS) BJ2 (lst us' kb)=GX at *
    have hmm:∀ x,x∈ns'↔x=(p:Int)∨∃ y∈e,(p:Int)<y∧x∈at2 fs y:=fun x=>by
     rw [pb.mem_iff,hl,List.mem_cons,hmem,ints_len hue,List.take_length]
    walk_at "r"
    refine x_cell FJ23 (v:=.ref D) rfl (leY _ _ gcsB) rfl rfl rfl ?_
    walk_at "r"
    refine x_cell FJ23 (v:=.int p tk) rfl (leY _ _ gcpB) rfl rfl rfl ?_
    refine x_setItem_list FJ23 (leY _ _ guB) (by exact a10 1545926) (by lia) (by have:=zuB.length; simp; omega) fun sJ24 kJ24 FJ24=>?_
    clear FJ23
    walk_at "r"
    have hcsD:cs≠D:=(lst_cell guB gcsB).symm
    have hcpD:cp≠D:=(lst_cell guB gcpB).symm
    have zN:Zip2 (RefN D G (upd GX D (lst (us.set p (.ref BJ2)) kJ24))) (us.set p (.ref BJ2)) (fs.set p ns'):=by
     refine zip2_set (zuB.imp fun v e v8=>unEAAAEEA v8 fun b q1 q2 q0 u ku g q3=>(inEAAAEEA b q1 q2 q0 u ku ((upd_ne q2).trans (leY _ _ g)) q3)) ⟨BJ2,rfl,hBJ2D,hBJ2G,us',kb,(upd_ne hBJ2D).trans gBJ2,keysAre_ints.mp zb⟩ p
    walk_at "p"; refine (inAEEAA rfl _ _ FJ24 (fun b o q=>(upd_ne (hGD q)).trans (leY _ _ (leGB _ _ q))) (inAAA ((upd_ne hcsD).trans (leY _ _ gcsB)) ⟨_,(upd_ne hcpD).trans (leY _ _ gcpB)⟩ (inEEEAAA _ _ kJ24 (upd_self _ _ _) zN (by rw [List.length_set]; exact hul) (fun j e' hj=>?_)) hm))
    by_cases hjp:j=p
    ·(replace hjp:=hjp.symm; subst hjp)
     rw [List.getElem?_set_self (by lia)] at hj
     cases hj
     walk_at "p"; refine (inAA (pb.nodup_iff.mpr sS.nodup) (fun x hx=>?_) (fun _ x=>?_))
     ·rcases (hmm x).mp hx with rfl | ⟨y,hy,hpy,hxy⟩
      ·omega
      ·refine unEA (mem_at2 hxy) fun f hf hxf=>?_
       walk_at "p"; exact (hus _ f hf).2.1 x hxf
     ·rw [hmm]
      refine or_congr_right ⟨fun v9=>unEAA v9 fun y hy hpy hxy=>⟨e,he,y,hy,hpy,by rw [at2_set hpy]; exact hxy⟩,fun v10=>unEAEAA v10 fun e' he' y hy hpy hxy=>?_⟩
      rw [he] at he'; cases he'
      rw [at2_set hpy] at hxy
      walk_at "p"; exact (inEAA y hy hpy hxy)
    ·rw [List.getElem?_set_ne (Ne.symm hjp)] at hj
     walk_at "p"; refine (inAA ((hus j e' hj).1) ((hus j e' hj).2.1) (fun hle x=>?_))
     have:=(hus j e' hj).2.2 (by lia) x
     rw [this]
     refine or_congr_right ⟨fun v11=>unEAEAA v11 fun eJ2 heJ2 y hy hpy hxy=>(inEAEAA eJ2 heJ2 y hy hpy (by rw [at2_set (by lia)]; exact hxy)),fun v12=>unEAEAA v12 fun eJ2 heJ2 y hy hpy hxy=>(inEAEAA eJ2 heJ2 y hy hpy (by rw [at2_set (by lia)] at hxy; exact hxy))⟩
end
end
section
noncomputable def fx351:{ fd:FuncData // FdAt 351 fd }:=⟨_,fun P=>(inEEE _ _ _ (by k_is))⟩
noncomputable def fd351:FuncData:=fx351.1
section
variable {c:Cx} {O:List (Addr×Obj)} {L l b a r:Addr} {G:View} {m:Str→Option Value} {A:Around} {E:Value→Shared→Prop} {s:Shared} {o:Obj} {vs ws:List Value} {k n:Nat} {x:Str} {t:Tok} {env:Env}
theorem x_strItem {value slice:Expr} {i:Int} {u:Tok} {cp:Nat} {Q:Value→Shared→Prop} (F:Fx c O L G m s) (h0:0≤i) (h1:i<1000) (hc:x.cps[i.toNat]?=some cp) (h:∀ s' t',Fx c O L G m s'→Q (.str ⟨#[cp]⟩ t') s')
  (hs:subscripted slice false (.str x t) (.int i u)=operate [.str x t,.int i u] (getItem (.str x t) (.int i u)):=by with_unfolding_all rfl):wpAny (model c.prog c.w) A (subscriptTail value slice (.str x t) (.int i u)) Q E s:=by
 refine tail_any (T := "str") (typeIs_str s x t) PySem.F.slot_str_getitem.lookup (PySem.P.getItem_str (c:=cp) ?_ ?_ (h _ _ (F.eta (t:=s.toks+1) (d:=s.drawn)))) hs
 ·rw [Bool.or_eq_false_iff,decide_eq_false_iff_not,decide_eq_false_iff_not]; constructor <;> lia
 ·have hlt:i.toNat<x.length:=(Array.getElem?_eq_some_iff.mp hc).1
  have e:seqIndex? i x.length=some i.toNat:=by
   unfold seqIndex?
   have hl:i<(x.length:Int):=by exact a21 50458764354226547594998 hlt (Int.toNat_of_nonneg (a01 1638731398854 h0))
   have hn:¬ i<0:=by exact a01 1638731403478 h0
   simp only [hn,if_false]
   simp [h0,hl]
  rw [e]; exact hc
theorem slice_take {p:Nat} (hp:p≤x.length):(Txt.slice x none (some (p:Int))).cps.toList=x.cps.toList.take p:=by
 have hl:x.length=x.cps.toList.length:=by rw [Array.length_toList]; rfl
 have hi:Builtin.Str.strSliceIndices none (some (p:Int)) 1 x.length=List.range p:=by
  unfold Builtin.Str.strSliceIndices sliceRange
  have h1:¬ ((p:Int)<0):=by exact a10 1710262
  have h2:max 0 (min (p:Int) x.length)=p:=by lia
  simp only [show (1:Int) > 0 by decide,if_true,h1,if_false,h2,Int.ediv_one]
  by_cases h3:(0:Int)<p
  ·rw [if_pos h3]
   have:((p:Int) - 0+1 - 1).toNat=p:=by exact Nat.le_antisymm (a20 1853788506535651404982006 (Int.toNat_of_nonneg (a10 1820110263449908020451014 h3))) (a20 1891567438398608566691543 (Int.toNat_of_nonneg (a10 1820110263449908020451014 h3)))
   rw [this]
   apply List.ext_getElem
   ·simp
   ·intro i h1 h2; simp
  ·have:p=0:=by exact Nat.le_antisymm (a10 57370227025110 h3) (a10 42694)
   clear hp h1 h2 h3; subst this
   simp
 unfold Txt.slice
 rw [hi]
 split
 ·rename_i h
  have:p=x.length:=by simpa using h
  rw [this,hl,List.take_length]
 ·show ((List.range p).filterMap (x.cps[·]?)).toArray.toList=_
  rw [List.toList_toArray]
  have:∀ (l:List Nat) (p:Nat),p≤l.length→(List.range p).filterMap (l[·]?)=l.take p:=by
   intro l p
   induction p with
   | zero=>intro _; simp
   | succ p ih =>
    intro h
    rw [List.range_succ,List.filterMap_append,ih (by exact Nat.le_of_lt ‹_›),List.take_add_one,List.getElem?_eq_getElem (by assumption)]
    simp [List.getElem?_eq_getElem (show p<l.length by assumption)]
  have h2:=this x.cps.toList p (by rw [← hl]; exact hp)
  rw [← h2]
  congr 1
  funext i
  rw [Array.getElem?_toList]
theorem x_strSlice {value slice:Expr} {p:Nat} {u:Tok} {Q:Value→Shared→Prop} (F:Fx c O L G m s) (hp:p≤x.length) (hx:x.length≤1000) (h:∀ s' y t',Fx c O L G m s'→y.cps.toList=x.cps.toList.take p→Q (.str y t') s')
  (hs:subscripted slice false (.str x t) (.ref s.heap.objs.size)=operate [.ref s.heap.objs.size,.str x t] (getItem (.str x t) (.ref s.heap.objs.size)):=by with_unfolding_all rfl)
  (ht:∀ r,letTemporaryGo value (.str x t) r=pure ():=by intro _; with_unfolding_all rfl) :
  wpAny (model c.prog c.w) A (subscriptTail value slice (.str x t) (.ref s.heap.objs.size)) Q E { s with heap:=s.heap.push { cls:=.type "slice",data:=.fields #[.none,.int p u,.none] } }:=by
 refine tail_of_ItemOn (PySem.SBH.sliceItem_ns (P:=fun h'=>∀ b o,s.heap.get? b=some o→h'.get? b=some o) ?_ (fun _ _ e=>e) (fun h' t' k hP=>h _ _ t' (F.grow (s':={ s with heap:=h',toks:=k }) hP rfl rfl) (slice_take hp)) (by rw [sizeLine_eq]; exact Nat.le_trans ‹_› (by decide))) hs ht
 intro h' o hP b o' e
 walk_at "p"; exact Heap.get?_push_of_some _ (hP b o' e)
theorem x_inInts {v:Int} {ns:List Int} {Q:Value→Shared→Prop} (F:Fx c O L G m s) (hg:G l=some (lst vs k)) (hI:IntsAre vs ns) (h:∀ b,(b=true↔v∈ns)→Q (.bool b) s):wpAny (model c.prog c.w) A (compareOp .In (.int v t) (.ref l)) Q E s:=by
 refine SeqAt.in_listAt (fun y=>match y with | .int i _=>i == v | _=>false) ((lst_is vs k).isList (F.get hg)) (fun y hy=>?_) (h _ ?_)
 ·refine unE (List.mem_iff_getElem?.mp (show y∈vs by simpa using hy)) fun i hi=>?_
  refine unEEA (ints_at hI hi) fun w tw _ y1=>?_; clear hy hi; subst y1
  walk_at "p"; exact fun prog w E Q hq=>wpAny_eqBool_int hq
 ·rw [← Array.any_toList]
  show (vs.any _=true)↔_
  rw [List.any_eq_true]
  constructor
  ·intro z1; refine unEA z1 fun y hy e=>?_; clear z1
   refine unE (List.mem_iff_getElem?.mp hy) fun i hi=>?_
   refine unEEA (ints_at hI hi) fun w tw hw y2=>?_; clear hy hi; subst y2
   have:w=v:=by simpa using e
   clear h; subst this; exact List.mem_of_getElem? hw
  ·intro hv
   refine unE (List.mem_iff_getElem?.mp hv) fun i hi=>?_
   have hlt:=(List.getElem?_eq_some_iff.mp hi).1
   have hl:=ints_len hI
   have hlv:i<vs.length:=by exact a30 49276136860204182294 hlt hl
   have hi':vs[i]?=some vs[i]:=List.getElem?_eq_getElem hlv
   refine unEEA (ints_at hI hi') fun w tw hw e=>?_
   rw [hi] at hw; cases hw
   walk_at "p"; exact (inEA _ (List.getElem_mem hlv) (by rw [e]; simp))
theorem x_unpack2 {e1 e2:Expr} {x1:Nat} {pos:Pos} {v1 v2:Value} {q:Nat} {Q:Unit→Shared→Prop} (hh:A.handled=none) (F:Fx c O L G m s) (hg:G b=some { cls:=.type "tuple",data:=.seq #[v1,v2] q }) (he:assignEach [e1,e2] env=[(false,assign e1 env),(false,assign e2 env)])
  (h:∀ s',Fx c O L G m s'→wpAny (model c.prog c.w) A (assign e1 env v1) (fun _ sJ1=>wpAny (model c.prog c.w) A (assign e2 env v2) (fun _ sJ2=>Q () sJ2) E sJ1) E s') :
  wpAny (model c.prog c.w) A (assign (.Tuple [e1,e2] x1 pos) env (.ref b)) Q E s:=by
 refine assign_Tuple_tuple hh (items:=#[v1,v2]) ?_ (by rw [he]; rfl) (by rw [he]; rfl) fun h' hx=>?_
 ·walk_at "p"; exact (inEAAE _ (F.get hg) rfl _ rfl)
 ·rw [he]
  have F':=F.grow (s':={ s with heap:=h' }) (fun b o e=>hx b o (Nat.ne_of_lt (Heap.lt_size e)) e) rfl rfl
  walk_at "p"; exact assignInOrder_cons (wpAny_mono (h _ F') (fun _ sJ1 hJ1=>assignInOrder_cons (wpAny_mono hJ1 (fun _ sJ2 hJ2=>assignInOrder_nil hJ2) fun _ _ e=>e)) fun _ _ e=>e)
theorem x_eqNil {k2:Nat} {Q:Value→Shared→Prop} (F:Fx c O L G m s) (hu:A.units<cLine) (hg:G l=some (lst vs k)) (hg2:G b=some (lst [] k2)) (h:Q (.bool vs.isEmpty) s):wpAny (model c.prog c.w) A (compareOp .Eq (.ref l) (.ref b)) Q E s:=by
 cases vs with
 | nil=>exact SeqAt.eq_listAt (e:=fun _=>true) ((lst_is [] k).isList (F.get hg)) ((lst_is [] k2).isList (F.get hg2)) rfl hu (fun j h1 _=>absurd h1 (by simp)) h
 | cons v vs=>exact SeqAt.eq_list_lengthsAt ((lst_is (v::vs) k).isList (F.get hg)) ((lst_is [] k2).isList (F.get hg2)) rfl hu h
theorem kdtr_tup:KdTr (kTup c) (fun k=>k≠[]∧k.length≤60):=fun {O L G m s A E k v Q} F hk hne h=>by
 refine unEEEAAA (kTup_is hk) fun tt ot vs e1 gt ht zt=>?_
 cases e1
 refine x_truthyTup F gt ht (by have:=zt.length; have:=hne.2; omega) fun s' F'=>?_
 cases vs with
 | nil=>clear hk; cases zt; exact absurd rfl hne.1
 | cons=>exact h _ F'
theorem kdtr_int:KdTr (kInt c) (1≤·):=fun {O L G m s A E k v Q} F hk hne h=>by
 refine unE (Value.isInt_shape (show v.isInt k=true from hk)) fun t y3=>?_; clear hk; subst y3
 refine PySem.P.truthy_int ?_
 have:(k != 0)=true:=by simp; have:(1:Int)≤k:=hne; omega
 rw [this]; exact h _ F
end
theorem keyOf_length (P:Int→Prop):(keyOf P).length≤60:=by
 walk_at "p"; exact Nat.le_trans (List.length_filter_le _ _) (by simp)
theorem Wd.true60 {r:Rep} {U:List (List Int)} {q:DRep (List Int)} {sn:List (List Int)} {Vis:List Int→Prop} {Pr:List Int→Str→Prop} (W:Wd r U q [] sn Vis Pr) (hs:r.small) (hf:r.full):q.trueStates (fun k=>k≠[]∧k.length≤60):=by
 intro k l k' e
 walk_at "p"; refine ⟨W.true_ hs hf k l k' e,?_⟩
 unfold DRep.next at e
 cases hnx:q.nx k l with
 | some k2=>rw [hnx] at e; cases e; refine unAAA (W.nxS _ _ _ hnx) fun _ _ _ y4=>?_; clear hnx; subst y4; exact keyOf_length _
 | none=>rw [hnx] at e; obtain ⟨_,rfl⟩:=W.dfS _ _ e; exact keyOf_length _
end
section
section
variable {c:Cx} {O:List (Addr×Obj)} {L:Addr} {G:View} {m:Str→Option Value} {A:Around} {E:Value→Shared→Prop} {s:Shared} {n:Nat}
theorem builder_new {Q:Value→Shared→Prop} (F:Fx c O L G m s) (R:Room A (n+2))
  (h:∀ s' G' b d,Fx c O L G' m s'→Le G G'→G b=none→G d=none→BuilderAt c G' b d 1→Q (.ref b) s') :
  wpAny (model c.prog c.w) A (call (.ref 424) [] []) Q E s:=by
 refine x_make (f:=351) F (by k_is) (by k_is) (by k_is) fun x dx sJ0 hx hdx hne FJ0=>?_
 clear F
 have RJ1:=R.made (C:=424) (rest:=[]) (kw:=[])
 generalize A.under (.builtin "type.__call__" ⟨[Value.ref 424],[]⟩)=AJ1 at RJ1 ⊢
 refine unEEE (fx351.2 c.w.params) fun oc od osl ho=>?_
 refine enterC FJ0 (fd:=fd351) (binds:=[("self",.ref x)]) ho rfl (by kernel_rfl) RJ1.dl (BindsTo.of_eq rfl) rfl (by decide) (locs rfl) rfl rfl rfl fun sJ1 L' O' FJ1 back=>?_
 have R':=RJ1.deeper (env:=cenv fd351 L' 351)
 generalize AJ1.deeper (cenv fd351 L' 351)=A' at R' ⊢
 clear FJ0
 walk_at "r"
 have FJ2:=FJ1.eta (t:=sJ1.toks+1) (d:=sJ1.drawn)
 clear FJ1
 walk_at "r"
 have gx:upd (upd G dx (dictOf [] 0)) x (instObj 424 dx) x=some (instObj 424 dx):=upd_self _ _ _
 have gd:upd (upd G dx (dictOf [] 0)) x (instObj 424 dx) dx=some (dictOf [] 0):=(upd_ne (Ne.symm hne)).trans (upd_self _ _ _)
 refine x_setattr FJ2 gx gd (by k_is) (by k_is) (by k_is) (by k_is) rfl (Nat.le_of_ble_eq_true rfl) fun sJ3 uJ1 FJ3=>?_
 walk_at "r"
 walk_at "p"; refine ⟨rfl,?_⟩
 have le1:Le G (upd (upd G dx (dictOf [] 0)) x (instObj 424 dx)):=(Le.alloc hdx).trans (Le.alloc ((upd_ne hne).trans hx))
 walk_at "p"; exact h _ _ x dx (back _ _ _ FJ3) (le1.set hdx) hx hdx (inAEEE ((upd_ne hne).trans (upd_self _ _ _)) _ _ _ (upd_self _ _ _))
end
section
variable {c:Cx} {O:List (Addr×Obj)} {cz:Addr} {G:View} {m:Str→Option Value} {A:Around} {E:Value→Shared→Prop} {s:Shared} {n:Nat} {env:Env} {elt:Expr} {scope:Scope} {cl:List (Str×Addr)} {pos p1 p2 p3 p4 p5 p6:Pos} {k3:Nat}
theorem law_comp {sz:Nat} {tz:Tok} {T:Nat→List Int→Prop} {Q':Value→View→(Str→Option Value)→List (Addr×Obj)→Prop} (F:Fx c O env.locals G m s) (R:Room A n) (hsz:sz≤4) (hc:env.cells.lookup ("size" : Str)=some cz) (hz:G cz=some (cellO (some (.int sz tz)))) (hk:env.scope.kind=.function) (hl:env.kindOf "size" = some .cell)
  (hr:env.kindOf "range" = some .globalImplicit) (hg:env.globals=mainGlobals) (hb:env.builtins=builtinsNs) (hk':(relabel scope env).kind=.function) (hpl:(relabel scope env).names.lookup ("place" : Str)=some .local)
  (helt:∀ p:Nat,p≤sz→∀ O' C G' m' s' tp,Le G G'→Fx c O' C G' m' s'→m' ("place" : Str)=some (.int p tp) →
   wpAny (model c.prog c.w) A (eval elt (compEnvC scope cl C env)) (fun u sJ2=>∃ GJ2 mJ2,Fx c O' C GJ2 mJ2 sJ2∧Le G' GJ2∧∃ b e,u=.ref b∧G' b=none∧IL GJ2 b e∧e.length≤5∧T p e) (fun _ _=>False) s')
  (hQ:∀ G' D es,Le G G'→EndsNew G G' D es→es.length=sz+1→(∀ (i:Nat) e,es[i]?=some e→e.length≤5∧T i e)→Q' (.ref D) G' m O) :
  wpAny (model c.prog c.w) A (eval (.Call (.Name "range" p1) [.BinOp (.Name "size" p2) .Add (.Constant (.int 1) k3 p3) p4] [] p5) env) (fun xv sJ1=>wpAny (model c.prog c.w) A (pyIter xv) (fun it sJ2 =>
   CompRuns c A env (.ListComp elt [⟨.Name "place" p6,.Call (.Name "range" p1) [.BinOp (.Name "size" p2) .Add (.Constant (.int 1) k3 p3) p4] [] p5,[],0⟩] scope pos) scope cl it sJ2 Q') E sJ1) E s:=by
 walk_at "r"
 refine x_builtin F (by k_is) (v:=.type "range") rfl (by decide) hg hb hk hr rfl ?_
 walk_at "r"
 refine wpAny_BinOp ?_
 refine x_cell F hc hz hk hl rfl ?_
 walk_at "r"
 refine PyProof.Rows.add_int ?_
 have FJ1:=F.eta (t:=s.toks+1+1) (d:=s.drawn)
 clear F
 walk_at "r"
 have e1:((sz:Int)+1)=((sz+1:Nat):Int):=by exact Int.le_antisymm (a10 51850176928950) (a10 51719113442550)
 refine x_range1 (FJ1.toks rfl rfl rfl) fun r sJ5 t u v hr FJ5=>?_
 clear FJ1
 rw [e1] at FJ5
 have leR:Le G (upd G r (rangeO 0 (sz+1:Nat) 1 t u v)):=Le.alloc hr
 refine x_iter_range (n:=sz+1) FJ5 (upd_self _ _ _) (small_up (by exact Nat.lt_succ_of_le ‹_›)).1 (small_up (by exact Nat.lt_succ_of_le ‹_›)).2 fun I sJ6 oI hI FJ6=>?_
 clear FJ5
 generalize upd G r (rangeO 0 (sz+1:Nat) 1 t u v)=GJ2 at *
 walk_at "p"; refine (inEEEEEEEAAAA I oI 0 (itR 0 (sz+1:Nat) 1) _ _ _ rfl (.range _ _ _) hI FJ6 (fun D C oL sJ7 hD FJ7=>?_))
 clear FJ6
 refine x_compLoop (It.range 0 1 (sz+1)) R.handled FJ7 hI hk' hpl (fun i G' vs=>Le GJ2 G'∧∃ es,Zip2 (RefN D G G') vs es∧∀ (j:Nat) e',es[j]?=some e'→e'.length≤5∧T j e')
  (inAEA (Le.alloc hD) ([]) (.nil) (fun j e' q=>by simp at q)) (upd_self _ _ _) (fun i G' vs _=>trivial) (by exact Nat.lt_of_le_of_lt ‹_› (by decide)) ?body ?fin
 case body =>
  intro i v OJ2 G' m' vs k' sJ8 hi z1 z2 hvl hD' FJ8; refine unE z1 fun tk y1=>?_; clear z1; subst y1; refine unAEA z2 fun le es z hes=>?_; clear z2
  have e2:(0+(i:Int)*1)=(i:Int):=by exact Int.le_antisymm (a10 51872505501382) (a10 51715942062262)
  rw [e2] at FJ8
  refine wpAny_mono (helt i (by exact Nat.le_of_lt_succ ‹_›) _ C _ _ _ tk (leR.trans le) FJ8 rfl) (fun u sJ9 hu=>?_) fun _ _ hf=>hf
  refine unEEAA hu fun GJ3 mJ3 FJ9 le3 w41=>unEEAAAA w41 fun B e y2 hB hIL hel5 hT=>?_; clear w41; clear hu; subst y2
  have hBD:B≠D:=nsn hB hD'
  walk_at "p"; refine (inEEAA GJ3 mJ3 FJ9 (le3 _ _ hD') (fun kJ2=>?_))
  have zN:Zip2 (RefN D G (upd GJ3 D (lst (vs++[Value.ref B]) kJ2))) (vs++[Value.ref B]) (es++[e]):=by
   refine unEEA hIL fun ue ke ge he=>?_; clear hIL
   refine (z.imp fun v e v1=>unEAAAEEA v1 fun b q1 q2 q0 u ku g q3=>(inEAAAEEA b q1 q2 q0 u ku ((upd_ne q2).trans (le3 _ _ g)) q3)).append (.cons (inEAAAEEA B rfl hBD (none_le (leR.trans le) hB) ue ke ((upd_ne hBD).trans ge) he) .nil)
  walk_at "p"; refine (inAEA ((le.trans le3).set hD) (es++[e]) zN (fun j e' hj=>?_))
  have hel:es.length=i:=by rw [← z.length,hvl]
  by_cases hlt:j<es.length
  ·rw [List.getElem?_append_left hlt] at hj; exact hes j e' hj
  ·have hj':j=i:=by have:=(List.getElem?_eq_some_iff.mp hj).1; simp at this; exact Nat.le_antisymm (a30 51639355670448761251576 hel this) (a30 51581979937063610135 hel hlt)
   (replace hj':=hj'.symm; clear hlt; subst hj')
   rw [List.getElem?_append_right (by exact Nat.le_of_eq ‹_›),hel,Nat.sub_self] at hj
   cases hj
   walk_at "p"; exact ⟨hel5,hT⟩
 case fin =>
  intro G' m' vs k' sJ8 z3 hvl hD' FJ8; refine unAEA z3 fun le es z hes=>?_; clear z3
  walk_at "p"; exact (inAEEA rfl G' m' FJ8 (hQ G' D es (leR.trans le) (inEEAA vs k' (none_le leR hD) hD' (z.imp fun v e v2=>unEAAA v2 fun b q1 _ q0 q2=>(inEAA b q1 q0 q2))) (by rw [← z.length,hvl]) hes))
end
end
section
noncomputable def EndsOk (w:List Nat) (es:List (List Int)) (M:Lang):Prop:=es.length=w.length+1∧∀ (i:Nat) (e:List Int),es[i]?=some e→e.length≤5∧∀ x:Int,x∈e↔∃ j:Nat,x=j∧M w i j
structure Mono (M:Lang):Prop where
 le:∀ {w i j},M w i j→i≤j
 len:∀ {w:List Nat} {i j:Nat},M w i j→i≤w.length→j≤w.length
theorem Reg.mono {r:Rep} {lo hi:Int} {M:Lang} {n:Nat} (h:Reg r lo hi M n):Mono M:=⟨h.le,h.len⟩
section
variable {w:List Nat} {e1 e2 es:List (List Int)} {M M1 M2:Lang}
theorem EndsOk.rng (h:EndsOk w es M) (hM:Mono M) (hw:w.length≤4):∀ e∈es,e.length≤5∧∀ y∈e,0≤y∧y<(w.length+1:Nat):=by
 intro e he
 refine unE (List.mem_iff_getElem?.mp he) fun i hi=>?_
 obtain ⟨h1,h2⟩:=h.2 i e hi
 refine ⟨h1,fun y hy=>?_⟩
 refine unEA ((h2 y).mp hy) fun j y1 hm=>?_; clear hy; subst y1
 have hil:=(List.getElem?_eq_some_iff.mp hi).1
 have:=h.1
 have:=hM.len hm (by exact a30 50458764084917835966230 hil this)
 exact ⟨a10 1545926,a20 1503850483529538742 this⟩
theorem EndsOk.mk' (hl:es.length=w.length+1) (hw:w.length≤4) (hM:Mono M) (h:∀ (i:Nat) (e:List Int),es[i]?=some e→e.Nodup∧∀ x:Int,x∈e↔∃ j:Nat,x=j∧M w i j):EndsOk w es M:=by
 refine ⟨hl,fun i e he=>?_⟩
 obtain ⟨h1,h2⟩:=h i e he
 refine ⟨?_,h2⟩
 have hil:=(List.getElem?_eq_some_iff.mp he).1
 refine len_range (n:=5) h1 fun x hx=>?_
 refine unEA ((h2 x).mp hx) fun j y1 hm=>?_; clear hx; subst y1
 have:=hM.len hm (by exact a30 50811257063125276468984 hl hil)
 exact ⟨a10 1545926,a20 53221048087825057012828022866354359 hw this⟩
theorem at2_ok (h:EndsOk w es M) {j:Nat} (hj:j≤w.length) (x:Int):x∈at2 es j↔∃ l:Nat,x=l∧M w j l:=by
 have hlt:j<es.length:=by have:=h.1; exact a30 49278172499383756565270 hj this
 have he:es[j]?=some es[j]:=List.getElem?_eq_getElem hlt
 have:at2 es (j:Int)=es[j]:=by unfold at2; rw [show ((j:Int)).toNat=j from rfl,he]; rfl
 rw [this]
 exact (h.2 j _ he).2 x
theorem mono_cat (h1:Mono M1) (h2:Mono M2):Mono (mCat M1 M2):=⟨fun ⟨_,a,b⟩=>Nat.le_trans (h1.le a) (h2.le b),fun ⟨_,a,b⟩ hi=>h2.len b (h1.len a hi)⟩
theorem mono_alt (h1:Mono M1) (h2:Mono M2):Mono (mAlt M1 M2):=⟨fun h=>h.elim h1.le h2.le,fun h hi=>h.elim (fun h=>h1.len h hi) fun h=>h2.len h hi⟩
theorem mono_eps:Mono mEps:=⟨fun h=>Nat.le_of_eq h,fun h hi=>(show _=_ from h)▸hi⟩
theorem mono_dot:Mono mDot:=⟨fun ⟨h,_⟩=>by exact a20 1549477836007127 h,fun ⟨h,_,hc⟩ _=>by have:=(List.getElem?_eq_some_iff.mp hc).1; exact a30 50811257063127390398230 h this⟩
theorem mono_chr {c:Nat}:Mono (mChr c):=⟨fun ⟨h,_⟩=>by exact a20 1549477836007127 h,fun ⟨h,hc⟩ _=>by have:=(List.getElem?_eq_some_iff.mp hc).1; exact a30 50811257063127390398230 h this⟩
theorem mono_star (h1:Mono M1):Mono (mStar M1):=by
 refine ⟨fun h=>?_,fun h hi=>?_⟩
 ·induction h with
  | refl=>exact Nat.le_refl _
  | step _ g ih=>exact Nat.le_trans ih (h1.le g)
 ·induction h with
  | refl=>exact hi
  | step _ g ih=>exact h1.len g ih
theorem ends_joined (h1:EndsOk w e1 M1) (h2:EndsOk w e2 M2) (m1:Mono M1) (m2:Mono M2) (hw:w.length≤4) (hl:es.length=e1.length) (hj:JoinSpec e1 e2 es):EndsOk w es (mCat M1 M2):=by
 refine EndsOk.mk' (hl.trans h1.1) hw (mono_cat m1 m2) fun i e' he'=>?_
 refine unAEA (hj i e' he') fun hn e he hx=>?_
 refine ⟨hn,fun x=>?_⟩
 have hil:=(List.getElem?_eq_some_iff.mp he).1
 have h1l:=h1.1
 rw [hx]
 constructor
 ·intro z1; refine unEA z1 fun y hy hxy=>?_; clear z1
  refine unEA (((h1.2 i e he).2 y).mp hy) fun j y2 hm=>?_; clear hy; subst y2
  refine unEA ((at2_ok h2 (m1.len hm (by exact a30 50458764084917835966230 hil h1l)) x).mp hxy) fun l y3 hm2=>?_; clear hxy; subst y3
  exact (inEAEA l rfl j hm hm2)
 ·intro z2; refine unEAEA z2 fun l y4 j hm hm2=>?_; clear z2; subst y4
  exact (inEA j (((h1.2 i e he).2 j).mpr (inEA j rfl hm)) ((at2_ok h2 (m1.len hm (by exact a30 50458764084917835966230 hil h1l)) l).mpr (inEA l rfl hm2)))
theorem star_strict {i j:Nat} (m1:Mono M1) (h:mStar M1 w i j):j=i∨∃ k,i<k∧M1 w i k∧mStar M1 w k j:=by
 induction h with
 | refl=>exact .inl rfl
 | @step k j h g ih =>
  rcases ih with rfl | ⟨k',h1,h2,h3⟩
  ·by_cases e:j=k
   ·exact .inl e
   ·have:=m1.le g
    exact .inr (inEAA j (by exact (Nat.lt_or_gt_of_ne e).elim (fun z0=>a20 48123215285770529526 this z0) (fun z0=>a20 1468543314678 z0)) g (.refl))
  ·exact .inr (inEAA k' h1 h2 (h3.step g))
theorem ends_star (h1:EndsOk w e1 M1) (m1:Mono M1) (hw:w.length≤4) (hl:es.length=e1.length) (hs:StarSpec e1 es):EndsOk w es (mStar M1):=by
 have hl1:=h1.1
 have key:∀ n (j:Nat),w.length - j≤n→j≤w.length→∀ e,es[j]?=some e→∀ x,x∈e↔∃ l:Nat,x=l∧mStar M1 w j l:=by
  intro n
  induction n with
  | zero =>
   intro j hn hj e he x
   rw [(hs j e he).2 x]
   constructor
   ·rintro (rfl | ⟨eJ1,heJ1,y,hy,hlt,_⟩)
    ·exact (inEA j rfl (.refl))
    ·refine unEA (((h1.2 j eJ1 heJ1).2 y).mp hy) fun k y5 hm=>?_; clear hy right; subst y5
     have:=m1.len hm hj
     exact False.elim (a40 53492321892298958230611284798987061 hn hlt this sg)
   ·intro z3; refine unEA z3 fun l y6 h=>?_; clear z3; subst y6
    have:=(mono_star m1).len h hj
    have:=(mono_star m1).le h
    exact .inl (by exact Int.le_antisymm (a40 1671635051388271314284653237691575 hn ‹_› sg) (a20 1468603986795702 this))
  | succ n ih =>
   intro j hn hj e he x
   have at_:∀ {k:Nat},j<k→k≤w.length→∀ x,x∈at2 es k↔∃ l:Nat,x=l∧mStar M1 w k l:=fun {k} hjk hk x=>by
    have hlt:k<es.length:=by exact a40 1772343331986273710827074792153 hl hl1 hk
    have hek:es[k]?=some es[k]:=List.getElem?_eq_getElem hlt
    have:at2 es (k:Int)=es[k]:=by unfold at2; rw [show ((k:Int)).toNat=k from rfl,hek]; rfl
    rw [this]
    exact ih k (by exact a60 57199751177031557630556922513504088040187643 hn hjk (Nat.sub_add_cancel (a30 49276136758165153558 hjk hk)) (Nat.sub_add_cancel (a20 1434183575286 hk))) hk _ hek x
   rw [(hs j e he).2 x]
   constructor
   ·rintro (rfl | ⟨eJ1,heJ1,y,hy,hlt,hx⟩)
    ·exact (inEA j rfl (.refl))
    ·refine unEA (((h1.2 j eJ1 heJ1).2 y).mp hy) fun k y7 hm=>?_; clear hy; subst y7
     refine unEA ((at_ (by exact a20 1695143799335670 hlt) (m1.len hm hj) x).mp hx) fun l y8 hsl=>?_; clear hx; subst y8
     exact (inEA l rfl ((mStar.refl.step hm).trans hsl))
   ·intro z4; refine unEA z4 fun l y9 h=>?_; clear z4; subst y9
    rcases star_strict m1 h with rfl | ⟨k,hjk,hm,hsl⟩
    ·exact .inl rfl
    ·have hlt:j<e1.length:=by exact a30 51991848683809401776856 hl1 hj
     have hek:e1[j]?=some e1[j]:=List.getElem?_eq_getElem hlt
     exact .inr (inEAEAA _ hek k (((h1.2 j _ hek).2 k).mpr (inEA k rfl hm)) (by exact a20 1503788359933110 hjk) ((at_ hjk (m1.len hm hj) l).mpr (inEA l rfl hsl)))
 refine EndsOk.mk' (hl.trans h1.1) hw (mono_star m1) fun j e he=>⟨(hs j e he).1,key _ j (Nat.le_refl _) ?_ e he⟩
 have:=(List.getElem?_eq_some_iff.mp he).1
 exact a40 1732729249548549921345103767321 hl hl1 this
theorem ends_opt (h1:EndsOk w e1 M1) (hl:es.length=w.length+1) (h:∀ (i:Nat) e,es[i]?=some e→e.length≤5∧∀ x,x∈e↔x=(i:Int)∨x∈at2 e1 i):EndsOk w es (mAlt M1 mEps):=by
 refine ⟨hl,fun i e he=>⟨(h i e he).1,fun x=>?_⟩⟩
 have hil:=(List.getElem?_eq_some_iff.mp he).1
 rw [(h i e he).2,at2_ok h1 (by exact a30 50811257063125276468984 hl hil)]
 constructor
 ·rintro (rfl | ⟨j,rfl,hm⟩)
  ·exact (inEA i rfl (.inr rfl))
  ·exact (inEA j rfl (.inl hm))
 ·intro z5; refine unEA z5 fun j y10 y11=>?_; clear z5; subst y10; rcases y11 with hm | hm
  ·exact .inr (inEA j rfl hm)
  ·exact .inl (by rw [show i=j from hm])
theorem ends_alt (h1:EndsOk w e1 M1) (h2:EndsOk w e2 M2) (hl:es.length=w.length+1) (h:∀ (i:Nat) e,es[i]?=some e→e.length≤5∧∀ x,x∈e↔x∈at2 e1 i∨x∈at2 e2 i):EndsOk w es (mAlt M1 M2):=by
 refine ⟨hl,fun i e he=>⟨(h i e he).1,fun x=>?_⟩⟩
 have hil:=(List.getElem?_eq_some_iff.mp he).1
 rw [(h i e he).2,at2_ok h1 (by exact a30 50811257063125276468984 hl hil),at2_ok h2 (by exact a30 50811257063125276468984 hl hil)]
 constructor
 ·rintro (⟨j,rfl,hm⟩ | ⟨j,rfl,hm⟩)
  ·exact (inEA j rfl (.inl hm))
  ·exact (inEA j rfl (.inr hm))
 ·intro z6; refine unEA z6 fun j y12 y13=>?_; clear z6; subst y12; rcases y13 with hm | hm
  ·exact .inl (inEA j rfl hm)
  ·exact .inr (inEA j rfl hm)
theorem ends_eps (hl:es.length=w.length+1) (h:∀ (i:Nat) e,es[i]?=some e→e.length≤5∧e=[(i:Int)]):EndsOk w es mEps:=by
 refine ⟨hl,fun i e he=>⟨(h i e he).1,fun x=>?_⟩⟩
 rw [(h i e he).2,List.mem_singleton]
 exact ⟨fun q=>(inEA i q rfl),fun ⟨j,q,hm⟩=>by rw [q,show i=j from hm]⟩
theorem ends_dot (hl:es.length=w.length+1) (h:∀ (i:Nat) e,es[i]?=some e→e.length≤5∧e=if i<w.length then [(i:Int)+1] else []):EndsOk w es mDot:=by
 refine ⟨hl,fun i e he=>⟨(h i e he).1,fun x=>?_⟩⟩
 rw [(h i e he).2]
 split
 ·rename_i hi
  rw [List.mem_singleton]
  exact ⟨fun q=>(inEAAE (i+1) (by rw [q]; exact Int.le_antisymm (a10 51850176928950) (a10 51719113442550)) rfl (w[i]) (List.getElem?_eq_getElem hi)),fun ⟨j,q,hj,_⟩=>(by rw [q,hj]; exact Int.le_antisymm (a10 51719113442550) (a10 51850176928950))⟩
 ·rename_i hi
  refine ⟨fun q=>(niP q),fun ⟨j,q,hj,cp,hc⟩=>absurd (List.getElem?_eq_some_iff.mp hc).1 hi⟩
theorem ends_chr {c:Nat} (hl:es.length=w.length+1) (h:∀ (i:Nat) e,es[i]?=some e→e.length≤5∧e=if w[i]?=some c then [(i:Int)+1] else []):EndsOk w es (mChr c):=by
 refine ⟨hl,fun i e he=>⟨(h i e he).1,fun x=>?_⟩⟩
 rw [(h i e he).2]
 split
 ·rename_i hi
  rw [List.mem_singleton]
  exact ⟨fun q=>(inEAA (i+1) (by rw [q]; exact Int.le_antisymm (a10 51850176928950) (a10 51719113442550)) rfl hi),fun ⟨j,q,hj,_⟩=>(by rw [q,hj]; exact Int.le_antisymm (a10 51719113442550) (a10 51850176928950))⟩
 ·rename_i hi
  exact ⟨fun q=>(niP q),fun ⟨j,q,hj,hc⟩=>absurd hc hi⟩
end
structure Item where
 a:Addr
 r:Rep
 lo:Int
 hi:Int
 M:Lang
 cnt:Nat
 ea:Addr
 es:List (List Int)
noncomputable def Chain:Int→List Item→Int→Prop
 | a,[],k=>a≤k
 | a,it::r,k=>a≤it.lo∧Chain it.hi r k
theorem Chain.snoc {it:Item} {k:Int}:∀ {a:Int} {l:List Item},Chain a (l++[it]) k↔Chain a l it.lo∧it.hi≤k
 | a,[]=>Iff.rfl
 | a,x::l=>by show (_∧Chain _ (l++[it]) k)↔_; rw [Chain.snoc]; exact and_assoc.symm
theorem Chain.up {k k':Int} (h:k≤k'):∀ {a:Int} {l:List Item},Chain a l k→Chain a l k'
 | _,[],q=>Int.le_trans q h
 | _,_::_,q=>⟨q.1,Chain.up h q.2⟩
noncomputable def hid (mu:List Addr) (G:View):View:=fun x=>if x∈mu then none else G x
section
variable {c:Cx} {mu:List Addr} {G G' GJ0:View} {x a b:Addr} {o:Obj}
theorem hid_le:Le (hid mu G) G:=fun b o e=>by unfold hid at e; split at e; exact nnS e; exact e
theorem hid_get (h:x∉mu) (e:G x=some o):hid mu G x=some o:=by unfold hid; rw [if_neg h]; exact e
theorem hid_mem (h:x∈mu):hid mu G x=none:=by unfold hid; rw [if_pos h]
theorem hid_not (e:hid mu G x=some o):x∉mu:=fun h=>by rw [hid_mem h] at e; exact nnS e
theorem hid_up (h:∀ b o,b∉mu→G b=some o→G' b=some o):Le (hid mu G) (hid mu G'):=fun b o e=>hid_get (hid_not e) (h b o (hid_not e) (hid_le _ _ e))
theorem hid_Le (h:Le G G'):Le (hid mu G) (hid mu G'):=hid_up fun b o _ e=>h b o e
theorem hid_upd (h:x∈mu):hid mu (upd G x o)=hid mu G:=by
 funext y
 unfold hid
 split
 ·rfl
 ·rename_i hy; rw [upd_ne (fun e:y=x=>hy (e▸h))]
noncomputable def MuOk (mu:List Addr) (G:View):Prop:=∀ x∈mu,∃ o,G x=some o∧o.cls≠.type "tuple"
theorem MuOk.le (h:MuOk mu G) (le:Le G G'):MuOk mu G':=fun x hx=>let ⟨o,e,n⟩:=h x hx; (inEA o (le _ _ e) n)
theorem MuOk.upd (h:MuOk mu G) (hn:o.cls≠.type "tuple"):MuOk mu (upd G x o):=fun y hy=>by
 by_cases e:y=x
 ·subst e; exact (inEA o (upd_self _ _ _) hn)
 ·rw [upd_ne e]; exact h y hy
theorem MuOk.fresh (h:MuOk mu G) (e:G b=none):b∉mu:=fun hb=>by refine unEA (h b hb) fun o q _=>?_; rw [e] at q; exact nnS q
theorem MuOk.tups (h:MuOk mu G):Tups G (hid mu G):=fun b o e t=>hid_get (fun hb=>by refine unEA (h b hb) fun o' q n=>?_; rw [e] at q; cases q; exact n t) e
theorem hid_nfa {r:Rep} (h:NfaAt c G a r) (hm:MuOk mu G) (hn:∀ x,r.has a x→x∉mu):NfaAt c (hid mu G) a r:=h.mono (fun b o hb e=>hid_get (hn b hb) e) hm.tups
theorem hid_made {r:Rep} (h:Made c GJ0 G a r) (hm:MuOk mu GJ0):NfaAt c (hid mu G) a r:=hid_nfa h.at_ (hm.le h.le) fun x hx=>hm.fresh (h.new x hx)
theorem hid_ends {es:List (List Int)} (h:EndsNew GJ0 G a es) (hm:MuOk mu GJ0):EndsAt (hid mu G) a es:=by
 refine unEEAA h fun vs k e0 g z=>?_; clear h
 exact (inEEA vs k (hid_get (hm.fresh e0) g) (z.imp fun v e ⟨b,q1,q2,u,ku,gu,hi⟩=>(inEA b q1 (inEEA u ku (hid_get (hm.fresh q2) gu) hi))))
end
structure ItemOk (c:Cx) (H:View) (w:List Nat) (it:Item):Prop where
 nfa:NfaAt c H it.a it.r
 reg:Reg it.r it.lo it.hi it.M it.cnt
 ends:EndsAt H it.ea it.es
 ok:EndsOk w it.es it.M
theorem ItemOk.le {c:Cx} {H H':View} {w:List Nat} {it:Item} (h:ItemOk c H w it) (le:Le H H'):ItemOk c H' w it:=⟨h.nfa.le le,h.reg,h.ends.le le,h.ok⟩
noncomputable abbrev pairO (a b:Addr) (q:Nat):Obj:={ cls:=.type "tuple",data:=.seq #[.ref a,.ref b] q }
noncomputable def PairIs (H:View) (v:Value) (it:Item):Prop:=∃ t q,v=.ref t∧H t=some (pairO it.a it.ea q)
theorem PairIs.le {H H':View} {v:Value} {it:Item} (h:PairIs H v it) (le:Le H H'):PairIs H' v it:=let ⟨t,q,e,g⟩:=h; (inEEA t q e (le _ _ g))
structure Stk (c:Cx) (mu:List Addr) (G:View) (w:List Nat) (b d Sk:Addr) (k:Int) (its:List Item) (n:Nat) (z:Int):Prop where
 bld:BuilderAt c G b d k
 bN:b∉mu
 dM:d∈mu
 sM:Sk∈mu
 stk:∃ vs q,G Sk=some (lst vs q)∧Zip2 (PairIs (hid mu G)) vs its
 items:∀ it∈its,ItemOk c (hid mu G) w it
 chain:Chain 0 its k
 cnt:(its.map Item.cnt).sum≤n
 room:1≤k∧k+3*its.length≤z
 mu:MuOk mu G
end
section
structure LC where
 cz:Addr
 cw:Addr
 ce:Addr
 cb:Addr
 cg:Addr
 b:Addr
 d:Addr
 Sk:Addr
 no:Addr
 w:Str
 tw:Tok
 tz:Tok
 esn:List (List Int)
noncomputable def LC.mu (q:LC):List Addr:=[q.d,q.Sk,q.ce,q.cb,q.cg,332]
noncomputable abbrev LC.ws (q:LC):List Nat:=q.w.cps.toList
structure Lw (c:Cx) (q:LC) (G:View) (m:Str→Option Value) (k:Int) (its:List Item) (n:Nat) (z:Int):Prop where
 st:Stk c q.mu G q.ws q.b q.d q.Sk k its n z
 gz:G q.cz=some (cellO (some (.int q.w.length q.tz)))
 gw:G q.cw=some (cellO (some (.str q.w q.tw)))
 zN:q.cz∉q.mu
 wN:q.cw∉q.mu
 ge:∃ v,G q.ce=some (cellO v)
 gb:∃ v,G q.cb=some (cellO v)
 gg:∃ v,G q.cg=some (cellO v)
 gP:G 332=some (tabObj #[])
 dis:q.ce≠q.cb∧q.ce≠q.cg∧q.cb≠q.cg
 no:EndsAt (hid q.mu G) q.no q.esn
 nok:EndsOk q.ws q.esn mEps
 wl:q.w.length≤4
 asc:q.w.cps.all (·<128)=true
 mb:m ("builder" : Str)=some (.ref q.b)
 ms:m ("stack" : Str)=some (.ref q.Sk)
 mn:m ("nothing" : Str)=some (.ref q.no)
section
variable {c:Cx} {q:LC} {G G':View} {m m':Str→Option Value} {k k':Int} {its its':List Item} {n n':Nat} {z z':Int} {x:Addr} {o:Obj}
theorem LC.wsl (q:LC):q.ws.length=q.w.length:=Array.length_toList
theorem LC.cem (q:LC):q.ce∈q.mu:=by simp [LC.mu]
theorem LC.cbm (q:LC):q.cb∈q.mu:=by simp [LC.mu]
theorem LC.cgm (q:LC):q.cg∈q.mu:=by simp [LC.mu]
theorem LC.dm (q:LC):q.d∈q.mu:=by simp [LC.mu]
theorem LC.sm (q:LC):q.Sk∈q.mu:=by simp [LC.mu]
theorem LC.pm (q:LC):332∈q.mu:=by simp [LC.mu]
theorem Lw.keep (h:Lw c q G m k its n z) (hk:∀ b o,b∉q.mu→G b=some o→G' b=some o) (hB:BuilderAt c G' q.b q.d k') (hS:∃ vs r,G' q.Sk=some (lst vs r)∧Zip2 (PairIs (hid q.mu G)) vs its') (hsub:∀ it∈its',it∈its)
  (hc:Chain 0 its' k') (hn:(its'.map Item.cnt).sum≤n') (hz:1≤k'∧k'+3*its'.length≤z') (he:∃ v,G' q.ce=some (cellO v)) (hb:∃ v,G' q.cb=some (cellO v)) (hg:∃ v,G' q.cg=some (cellO v)) (hP:G' 332=some (tabObj #[]))
  (mb:m' ("builder" : Str)=some (.ref q.b)) (ms:m' ("stack" : Str)=some (.ref q.Sk)) (mn:m' ("nothing" : Str)=some (.ref q.no)):Lw c q G' m' k' its' n' z':=by
 have le:Le (hid q.mu G) (hid q.mu G'):=hid_up hk
 refine unEEA hS fun vs r gS zS=>?_; clear hS
 refine ⟨⟨hB,h.st.bN,h.st.dM,h.st.sM,(inEEA vs r gS (zS.imp fun _ _ p=>p.le le)),fun it hit=>(h.st.items it (hsub it hit)).le le,hc,hn,hz,fun y hy=>?_⟩,hk _ _ h.zN h.gz,hk _ _ h.wN h.gw,h.zN,h.wN,he,hb,hg,hP,h.dis,h.no.le le,h.nok,h.wl,h.asc,mb,ms,mn⟩
 have ncell:∀ v,(cellO v).cls≠.type "tuple" := fun v e=>absurd (show Value.type "cell" = Value.type "tuple" from e) (by decide)
 simp only [LC.mu,List.mem_cons,List.not_mem_nil,or_false] at hy
 rcases hy with rfl | rfl | rfl | rfl | rfl | rfl
 ·refine unAEEE hB fun _ t tk r e=>?_; clear hB; exact (inEA _ e (fun e=>absurd (show Value.type "dict" = Value.type "tuple" from e) (by decide)))
 ·exact (inEA _ gS (fun e=>absurd (show Value.type "list" = Value.type "tuple" from e) (by decide)))
 ·refine unE he fun v e=>?_; clear he; exact (inEA _ e (ncell v))
 ·refine unE hb fun v e=>?_; clear hb; exact (inEA _ e (ncell v))
 ·refine unE hg fun v e=>?_; clear hg; exact (inEA _ e (ncell v))
 ·exact (inEA _ hP (fun e=>by cases e))
theorem Lw.names (h:Lw c q G m k its n z) (mb:m' ("builder" : Str)=some (.ref q.b)) (ms:m' ("stack" : Str)=some (.ref q.Sk)) (mn:m' ("nothing" : Str)=some (.ref q.no)):Lw c q G m' k its n z:=⟨h.st,h.gz,h.gw,h.zN,h.wN,h.ge,h.gb,h.gg,h.gP,h.dis,h.no,h.nok,h.wl,h.asc,mb,ms,mn⟩
theorem Lw.more (h:Lw c q G m k its n z) (hn:n≤n') (hz:z≤z'):Lw c q G m k its n' z':=⟨⟨h.st.bld,h.st.bN,h.st.dM,h.st.sM,h.st.stk,h.st.items,h.st.chain,Nat.le_trans h.st.cnt hn,⟨h.st.room.1,Int.le_trans h.st.room.2 hz⟩,h.st.mu⟩,h.gz,h.gw,h.zN,h.wN,h.ge,h.gb,h.gg,h.gP,h.dis,h.no,h.nok,h.wl,h.asc,h.mb,h.ms,h.mn⟩
theorem Lw.grow (h:Lw c q G m k its n z) (le:Le G G'):Lw c q G' m k its n z:=by
 refine unEEA h.st.stk fun vs r gS zS=>?_
 exact h.keep (fun b o _ e=>le b o e) (h.st.bld.le le) (inEEA vs r (le _ _ gS) zS) (fun _ p=>p) h.st.chain h.st.cnt h.st.room (h.ge.imp fun _ e=>le _ _ e) (h.gb.imp fun _ e=>le _ _ e) (h.gg.imp fun _ e=>le _ _ e) (le _ _ h.gP) h.mb h.ms h.mn
theorem Lw.ne (_h:Lw c q G m k its n z) {x y:Addr} {ox oy:Obj} (hx:G x=some ox) (hy:G y=some oy) (hn:ox.cls≠oy.cls):x≠y:=obj_ne hx hy hn
theorem lst_dict:∀ {vs k es n},(lst vs k).cls≠(dictOf es n).cls:=fun e=>absurd (show Value.type "list" = Value.type "dict" from e) (by decide)
theorem cell_dict:∀ {v es n},(cellO v).cls≠(dictOf es n).cls:=fun e=>absurd (show Value.type "cell" = Value.type "dict" from e) (by decide)
theorem cell_lst:∀ {v vs k},(cellO v).cls≠(lst vs k).cls:=fun e=>absurd (show Value.type "cell" = Value.type "list" from e) (by decide)
theorem cell_tab:∀ {v ps},(cellO v).cls≠(tabObj ps).cls:=fun e=>by cases e
theorem lst_tab:∀ {vs k ps},(lst vs k).cls≠(tabObj ps).cls:=fun e=>by cases e
theorem dict_tab:∀ {es n ps},(dictOf es n).cls≠(tabObj ps).cls:=fun e=>by cases e
theorem inst_dict:∀ {C d es n},(instObj C d).cls≠(dictOf es n).cls:=fun e=>by cases e
theorem Lw.cell (h:Lw c q G m k its n z) {v:Option Value} (hx:x=q.ce∨x=q.cb∨x=q.cg):Lw c q (upd G x (cellO v)) m k its n z:=by
 obtain ⟨vs,r,gS,zS⟩:=h.st.stk
 obtain ⟨gB,t,tk,r2,gd⟩:=id h.st.bld
 have gx:∃ vJ0,G x=some (cellO vJ0):=by
  rcases hx with rfl | rfl | rfl
  ·exact h.ge
  ·exact h.gb
  ·exact h.gg
 obtain ⟨vJ0,gx⟩:=gx
 have hm:x∈q.mu:=by rcases hx with rfl | rfl | rfl; exact q.cem; exact q.cbm; exact q.cgm
 have one:∀ {y},(∃ v,G y=some (cellO v))→∃ v',upd G x (cellO v) y=some (cellO v'):=fun {y} v1=>unE v1 fun w e=>by
  by_cases hy:y=x
  ·clear hx gx hm; subst hy; exact ⟨v,upd_self _ _ _⟩
  ·rw [upd_ne hy]; exact ⟨w,e⟩
 refine h.keep (fun b o hb e=>(upd_ne (fun p:b=x=>hb (p▸hm))).trans e) ⟨(upd_ne (fun p:q.b=x=>h.st.bN (p▸hm))).trans gB,t,tk,r2,(upd_ne (h.ne gd gx (Ne.symm cell_dict))).trans gd⟩ ⟨vs,r,(upd_ne (h.ne gS gx (Ne.symm cell_lst))).trans gS,zS⟩ (fun _ p=>p) h.st.chain h.st.cnt h.st.room
  (one h.ge) (one h.gb) (one h.gg) ((upd_ne (h.ne h.gP gx (Ne.symm cell_tab))).trans h.gP) h.mb h.ms h.mn
theorem Lw.stack (h:Lw c q G m k its n z) {vs:List Value} {r:Nat} (zS:Zip2 (PairIs (hid q.mu G)) vs its') (hsub:∀ it∈its',it∈its) (hc:Chain 0 its' k) (hn:(its'.map Item.cnt).sum≤n') (hz:k+3*its'.length≤z'):Lw c q (upd G q.Sk (lst vs r)) m k its' n' z':=by
 refine unEEA h.st.stk fun vsJ0 rJ0 gS _=>?_
 refine unAEEE (id h.st.bld) fun gB t tk r2 gd=>?_
 have one:∀ {y},(∃ v,G y=some (cellO v))→∃ v',upd G q.Sk (lst vs r) y=some (cellO v'):=fun {y} v2=>unE v2 fun w e=>⟨w,(upd_ne (h.ne e gS cell_lst)).trans e⟩
 exact h.keep (fun b o hb e=>(upd_ne (fun p:b=q.Sk=>hb (p▸q.sm))).trans e) (inAEEE ((upd_ne (fun p:q.b=q.Sk=>h.st.bN (p▸q.sm))).trans gB) t tk r2 ((upd_ne (h.ne gd gS (Ne.symm lst_dict))).trans gd)) (inEEA vs r (upd_self _ _ _) zS) hsub hc hn ⟨h.st.room.1,hz⟩
  (one h.ge) (one h.gb) (one h.gg) ((upd_ne (h.ne h.gP gS (Ne.symm lst_tab))).trans h.gP) h.mb h.ms h.mn
theorem Lw.made (h:Lw c q G m k its n z) (hle:Le (upd G q.d o) G') (hB:BuilderAt c G' q.b q.d k') (hk:k≤k') (hz:k'+3*its.length≤z'):Lw c q G' m k' its n z':=by
 refine unEEA h.st.stk fun vs r gS zS=>?_
 refine unAEEE (id h.st.bld) fun gB t tk r2 gd=>?_
 have one:∀ {y},(∃ v,G y=some (cellO v))→∃ v',G' y=some (cellO v'):=fun {y} v3=>unE v3 fun w e=>⟨w,hle _ _ ((upd_ne (h.ne e gd cell_dict)).trans e)⟩
 exact h.keep (fun b o hb e=>hle _ _ ((upd_ne (fun p:b=q.d=>hb (p▸q.dm))).trans e)) hB (inEEA vs r (hle _ _ ((upd_ne (h.ne gS gd lst_dict)).trans gS)) zS) (fun _ p=>p) (Chain.up hk h.st.chain) h.st.cnt ⟨Int.le_trans h.st.room.1 hk,hz⟩
  (one h.ge) (one h.gb) (one h.gg) (hle _ _ ((upd_ne (h.ne h.gP gd (Ne.symm dict_tab))).trans h.gP)) h.mb h.ms h.mn
theorem Lw.madeMu (h:Lw c q G m k its n z) (ho:o.cls≠.type "tuple"):MuOk q.mu (upd G q.d o):=h.st.mu.upd ho
theorem Lw.push (h:Lw c q G m k its n z) {T:Addr} {it:Item} {vs:List Value} {r r':Nat} (hT:G T=none) (gS:G q.Sk=some (lst vs r)) (zS:Zip2 (PairIs (hid q.mu G)) vs its) (hit:ItemOk c (hid q.mu G) q.ws it) (hc:Chain 0 its it.lo) (hh:it.hi≤k)
  (hn:(its.map Item.cnt).sum+it.cnt≤n') (hz:k+3*(its.length+1)≤z'):Lw c q (upd (upd G T (pairO it.a it.ea 0)) q.Sk (lst (vs++[.ref T]) r')) m k (its++[it]) n' z':=by
 have le:Le G (upd G T (pairO it.a it.ea 0)):=Le.alloc hT
 have leH:Le (hid q.mu G) (hid q.mu (upd G T (pairO it.a it.ea 0))):=hid_Le le
 have h1:=h.grow le
 have hTm:T∉q.mu:=h.st.mu.fresh hT
 have z2:Zip2 (PairIs (hid q.mu (upd G T (pairO it.a it.ea 0)))) (vs++[.ref T]) (its++[it]):=(zS.imp fun _ _ p=>p.le leH).append (.cons (inEEA T 0 rfl (hid_get hTm (upd_self _ _ _))) .nil)
 have gS':=le _ _ gS
 clear le; generalize upd G T (pairO it.a it.ea 0)=GJ1 at *
 refine unAEEE (id h1.st.bld) fun gB t tk r2 gd=>?_
 have one:∀ {y},(∃ v,GJ1 y=some (cellO v))→∃ v',upd GJ1 q.Sk (lst (vs++[.ref T]) r') y=some (cellO v'):=fun {y} v4=>unE v4 fun w e=>⟨w,(upd_ne (h1.ne e gS' cell_lst)).trans e⟩
 have hm:hid q.mu (upd GJ1 q.Sk (lst (vs++[.ref T]) r'))=hid q.mu GJ1:=hid_upd q.sm
 have ne:∀ b o,b∉q.mu→GJ1 b=some o→upd GJ1 q.Sk (lst (vs++[.ref T]) r') b=some o:=fun b o hb e=>(upd_ne (fun p:b=q.Sk=>hb (p▸q.sm))).trans e
 refine ⟨⟨(inAEEE ((upd_ne (fun p:q.b=q.Sk=>h.st.bN (p▸q.sm))).trans gB) t tk r2 ((upd_ne (h1.ne gd gS' (Ne.symm lst_dict))).trans gd)),h.st.bN,h.st.dM,h.st.sM,(inEEA _ r' (upd_self _ _ _) (by rw [hm]; exact z2)),fun i hi=>?_,Chain.snoc.mpr ⟨hc,hh⟩,by simpa using hn,⟨h.st.room.1,by rw [List.length_append]; simp only [List.length_singleton]; assumption⟩,h1.st.mu.upd (fun e=>absurd (show Value.type "list" = Value.type "tuple" from e) (by decide))⟩,
  ne _ _ h.zN h1.gz,ne _ _ h.wN h1.gw,h.zN,h.wN,one h1.ge,one h1.gb,one h1.gg,(upd_ne (h1.ne h1.gP gS' (Ne.symm lst_tab))).trans h1.gP,h.dis,by rw [hm]; exact h1.no,h.nok,h.wl,h.asc,h.mb,h.ms,h.mn⟩
 rw [hm]
 rcases List.mem_append.mp hi with hi | hi
 ·exact h1.st.items i hi
 ·rw [List.mem_singleton] at hi; (replace hi:=hi.symm; subst hi); exact hit.le leH
end
end
section
noncomputable def fx443:{ fd:FuncData // FdAt 443 fd }:=⟨_,fun P=>(inEEE _ _ _ (by k_is))⟩
noncomputable def fd443:FuncData:=fx443.1
noncomputable abbrev envL (q:LC) (L':Addr) (qual:Str) (fa:Addr) (code:Value):Env:=newEnv fd443.scope L' mainGlobals [(("sign" : Str),q.cg),(("begun" : Str),q.cb),(("ends" : Str),q.ce),(("word" : Str),q.cw),(("size" : Str),q.cz)] qual (some fa) code none builtinsNs
noncomputable def turnB:List Stmt:=match fd443.body with | .stmts (_::_::_::_::_::_::_::_::.For _ _ b _ _::_)=>b | _=>[]
noncomputable def brAB:List Stmt:=match turnB with | [_,.If _ a _ _]=>a | _=>[]
noncomputable def brBB:List Stmt:=match turnB with | [_,.If _ _ [.If _ a _ _] _]=>a | _=>[]
noncomputable def brCB:List Stmt:=match turnB with | [_,.If _ _ [.If _ _ [.If _ a _ _] _] _]=>a | _=>[]
noncomputable def brDB:List Stmt:=match turnB with | [_,.If _ _ [.If _ _ [.If _ _ [.If _ a _ _] _] _] _]=>a | _=>[]
noncomputable def brEB:List Stmt:=match turnB with | [_,.If _ _ [.If _ _ [.If _ _ [.If _ _ a _] _] _] _]=>a | _=>[]
section
variable {c:Cx} {O:List (Addr×Obj)} {L' fa:Addr} {qual:Str} {code:Value} {q:LC} {G:View} {m:Str→Option Value} {A:Around} {E:Value→Shared→Prop} {s:Shared} {n:Nat} {k:Int} {its:List Item} {i:Nat}
theorem BuilderAt.meth2 {b d:Addr} (h:BuilderAt c G b d k):∃ es n,G d=some (dictOf es n)∧getL "char" es=some none∧getL "dot" es=some none∧getL "plus" es=some none∧getL "question" es=some none:=by
 refine unAEEE h fun _ t tk k h2=>?_; clear h; exact (inEEAAA _ k h2 rfl rfl (inA rfl rfl))
theorem pairLine {x y:Value}:[x,y].length≤sizeLine:=by rw [sizeLine_eq]; simp
noncomputable abbrev After (c:Cx) (O:List (Addr×Obj)) (L':Addr) (q:LC) (i:Nat) (f:Flow) (sJ2:Shared):Prop:=f=.next∧∃ GJ2 mJ2 kJ2 itsJ2,Fx c O L' GJ2 mJ2 sJ2∧Lw c q GJ2 mJ2 kJ2 itsJ2 i (1+8*i)
theorem made_dict {b d:Addr} {o:Obj} {G':View} (hle:Le (upd G d o) G') (hB:BuilderAt c G' b d k):o.cls≠.type "tuple" := by
 refine unAEEE hB fun _ t tk r e=>?_; clear hB
 rw [hle _ _ (upd_self _ _ _)] at e
 clear hle; cases e
 walk_at "p"; exact fun e=>absurd (show Value.type "dict" = Value.type "tuple" from e) (by decide)
theorem pushPair {it:Item} {vs:List Value} {r n':Nat} {z z':Int} (F:Fx c O L' G m s) (W:Lw c q G m k its i z) (gS:G q.Sk=some (lst vs r)) (zS:Zip2 (PairIs (hid q.mu G)) vs its) (hit:ItemOk c (hid q.mu G) q.ws it) (hc:Chain 0 its it.lo) (hh:it.hi≤k)
  (hn:(its.map Item.cnt).sum+it.cnt≤n') (hz:k+3*(its.length+1)≤z') (hz':z'≤100) :
  wpAny (model c.prog c.w) A (call (.builtin "list.append") [.ref q.Sk,.ref s.heap.objs.size] []) (fun v s'=>v=.none∧∃ GJ2,Fx c O L' GJ2 m s'∧Lw c q GJ2 m k (its++[it]) n' z') E { s with heap:=s.heap.push (pairO it.a it.ea 0) }:=by
 have FJ1:=F.push (pairO it.a it.ea 0) rfl (t:=s.toks) (d:=s.drawn)
 have hT:=F.fresh
 clear F
 have le:Le G (upd G s.heap.objs.size (pairO it.a it.ea 0)):=Le.alloc hT
 have hvl:vs.length≤100:=by have:=zS.length; have:=W.st.room; exact a22 2453849378263366019794231394303049170050399551201375963628802327 hz hz' ‹_› this.1
 generalize s.heap.objs.size=T at FJ1 hT le ⊢
 refine x_append (FJ1.toks rfl rfl rfl) (le _ _ gS) (by exact Nat.le_trans ‹_› (by decide)) fun sJ2 kJ2 FJ2=>?_
 walk_at "p"; exact (inAEA rfl _ FJ2 (W.push hT gS zS hit hc hh hn hz))
theorem brC (F:Fx c O L' G m s) (R:Room A (n+5)) (W:Lw c q G m k its i (1+8*i)) (hi:i≤6) :
  wpAny (model c.prog c.w) A (execs brCB (envL q L' qual fa code)) (After c O L' q (i+1)) (fun _ _=>False) s:=by
 delta brCB turnB fd443 fx443
 have hms:=W.ms
 have hmb:=W.mb
 have hmn:=W.mn
 refine unEEA W.st.stk fun vs r gS zS=>?_
 refine unEEAAAAA W.st.bld.meth fun es nJ1 gd m1 m2 m3 m4 m5=>?_
 walk_at "r"
 refine x_bmethod F gS rfl rfl PySem.F.plainAttrs_list PySem.F.slot_list_append PySem.F.type_list_append ?_
 walk_at "d"
 refine x_method F (C:=424) (f:=365) W.st.bld.1 gd (by k_is) (by k_is) (by k_is) m2 ?_
 refine x_args0 F (by k_is) ?_
 have hk:0≤k∧k<80:=by have:=W.st.room; exact ⟨a01 1638764953286 this.1,a21 415857999355133213345434679858341284427493347335758304854294 hi this.2⟩
 refine b_epsilon F (R.less (k:=n+3) (by exact a10 48441150123036223999254)) W.st.bld (by exact kq ‹_›) fun sJ1 GJ0 GJ1 a ra FJ1 hGJ0 MJ1 BJ1 iJ1 fJ1 fuJ1 EJ1=>?_
 clear F
 refine unE hGJ0 fun oJ1 y1=>?_; clear hGJ0; subst y1
 walk_at "r"
 walk_at "p"; refine ⟨pairLine,?_⟩
 have WJ1:=W.made MJ1.le BJ1 (z':=1+8*i+2) (by exact a01 50506800854) (by have:=W.st.room; exact a21 2788457543625286511833297610637112810407640927204934896868978613237410352157918454 this.2)
 refine unEEA WJ1.st.stk fun vsJ1 rJ1 gSJ1 zSJ1=>?_
 walk_at "r"
 refine wpAny_mono (pushPair (it:=⟨a,ra,k,k+1+1,mEps,1,q.no,q.esn⟩) (n':=i+1) (z':=1+8*(i+1:Nat)) FJ1 WJ1 gSJ1 zSJ1 ⟨hid_made MJ1 (W.madeMu (made_dict MJ1.le BJ1)),reg_eps iJ1 fJ1 fuJ1 EJ1,WJ1.no,W.nok⟩ W.st.chain (Int.le_refl _) (by have:=W.st.cnt; simp; omega) (by have:=W.st.room; simp; exact a21 2723103069946568859212204697887805478917847215310109840309927835171961672271094 this.2) (by exact a10 360699317077048744164997612462342064316679 hi)) (fun v s' hv=>?_) fun _ _ e=>e
 refine unAEA hv fun y2 GJ2 FJ2 WJ2=>?_; clear hv; subst y2
 walk_at "r"
 walk_at "p"; exact (inAEEEEA rfl GJ2 m _ _ FJ2 WJ2)
theorem brD (F:Fx c O L' G m s) (R:Room A (n+5)) (W:Lw c q G m k its i (1+8*i)) (hi:i≤6) :
  wpAny (model c.prog c.w) A (execs brDB (envL q L' qual fa code)) (After c O L' q (i+1)) (fun _ _=>False) s:=by
 delta brDB turnB fd443 fx443
 have hms:=W.ms
 have hmb:=W.mb
 refine unEEA W.st.stk fun vs r gS zS=>?_
 refine unEEAAAA W.st.bld.meth2 fun es nJ1 gd m1 m2 m3 m4=>?_
 walk_at "r"
 refine x_bmethod F gS rfl rfl PySem.F.plainAttrs_list PySem.F.slot_list_append PySem.F.type_list_append ?_
 walk_at "d"
 refine x_method F (C:=424) (f:=386) W.st.bld.1 gd (by k_is) (by k_is) (by k_is) m2 ?_
 refine x_args0 F (by k_is) ?_
 have hk:0≤k∧k<80:=by have:=W.st.room; exact ⟨a01 1638764953286 this.1,a21 415857999355133213345434679858341284427493347335758304854294 hi this.2⟩
 refine b_dot F (R.less (k:=n+3) (by exact a10 48441150123036223999254)) W.st.bld (by exact kq ‹_›) fun sJ1 GJ0 GJ1 a ra FJ1 hGJ0 MJ1 BJ1 iJ1 fJ1 fuJ1 EJ1=>?_
 clear F
 refine unE hGJ0 fun oJ1 y3=>?_; clear hGJ0; subst y3
 have WJ1:=W.made MJ1.le BJ1 (z':=1+8*i+2) (by exact a01 50506800854) (by have:=W.st.room; exact a21 2788457543625286511833297610637112810407640927204934896868978613237410352157918454 this.2)
 walk_at "r"
 refine x_ListComp (cl:=[(("size" : Str),q.cz)]) rfl (by decide) rfl (by decide) (law_comp (T:=fun p e=>e=if p<q.w.length then [(p:Int)+1] else []) FJ1 R W.wl rfl WJ1.gz rfl rfl rfl rfl rfl rfl rfl ?helt ?hQ) (fun _=>rfl)
 case helt =>
  intro p hp OJ2 C G' m' sJ2 tp le FJ2 hm
  refine wpAny_IfExp ?_
  walk_at "r"
  refine x_cell FJ2 (v:=.int q.w.length q.tz) rfl (le _ _ WJ1.gz) rfl rfl rfl ?_
  refine PyProof.Rows.lt_int ?_
  refine wpAny_truthy_bool ?_
  by_cases hlt:p<q.w.length
  ·rw [if_pos (by rw [decide_eq_true_eq]; exact a20 1503788359933110 hlt)]
   walk_at "r"
   refine wpAny_BinOp ?_
   walk_at "r"
   refine PyProof.Rows.add_int ?_
   have FJ3:=FJ2.eta (t:=sJ2.toks+1+1) (d:=sJ2.drawn)
   clear FJ2
   walk_at "r"
   walk_at "p"; refine ⟨listLine (by simp),?_⟩
   have FJ4:=FJ3.push (lst [Value.int ((p:Int)+1) (sJ2.toks+1)] 0) rfl (t:=sJ2.toks+1+1) (d:=sJ2.drawn)
   walk_at "p"; exact (inEEAAEEAAAA _ _ FJ4 (Le.alloc FJ3.fresh) _ ([(p:Int)+1]) rfl FJ3.fresh (inEEA _ 0 (upd_self _ _ _) (.cons _ _ .nil)) (by simp) (by rw [if_pos hlt]))
  ·rw [if_neg (by rw [decide_eq_true_eq]; exact a20 1644525852482742 hlt)]
   walk_at "r"
   walk_at "p"; refine ⟨listLine (by simp),?_⟩
   have FJ4:=FJ2.push (lst [] 0) rfl (t:=sJ2.toks) (d:=sJ2.drawn)
   walk_at "p"; exact (inEEAAEEAAAA _ _ FJ4 (Le.alloc FJ2.fresh) _ ([]) rfl FJ2.fresh (inEEA _ 0 (upd_self _ _ _) (.nil)) (by simp) (by rw [if_neg hlt]))
 case hQ =>
  intro GJ2 D ess le hen hel hes sJ2 FJ2
  clear FJ1
  have WJ2:=WJ1.grow le
  refine unEEA WJ2.st.stk fun vsJ1 rJ1 gSJ1 zSJ1=>?_
  walk_at "r"
  walk_at "p"; refine ⟨pairLine,?_⟩
  walk_at "r"
  refine wpAny_mono (pushPair (it:=⟨a,ra,k,k+1+1,mDot,1,D,ess⟩) (n':=i+1) (z':=1+8*(i+1:Nat)) FJ2 WJ2 gSJ1 zSJ1 ⟨(hid_made MJ1 (W.madeMu (made_dict MJ1.le BJ1))).le (hid_Le le),reg_dot iJ1 fJ1 fuJ1 EJ1,hid_ends hen WJ1.st.mu,ends_dot (by rw [hel,q.wsl]) fun j e he=>by rw [q.wsl]; exact hes j e he⟩ W.st.chain (Int.le_refl _) (by have:=W.st.cnt; simp; omega) (by have:=W.st.room; simp; exact a21 2723103069946568859212204697887805478917847215310109840309927835171961672271094 this.2) (by exact a10 360699317077048744164997612462342064316679 hi)) (fun v s' hv=>?_) fun _ _ e=>e
  refine unAEA hv fun y4 GJ3 FJ3 WJ3=>?_; clear hv; subst y4
  walk_at "r"
  walk_at "p"; exact (inAEEEEA rfl GJ3 m _ _ FJ3 WJ3)
end
end
section
section
variable {c:Cx} {O:List (Addr×Obj)} {L' fa:Addr} {qual:Str} {code:Value} {q:LC} {G:View} {m:Str→Option Value} {A:Around} {E:Value→Shared→Prop} {s:Shared} {n:Nat} {k:Int} {its:List Item} {i:Nat}
theorem abc_at {y:Int} (h0:0≤y) (h3:y<3):∃ cp,("abc" : Str).cps[y.toNat]?=some cp∧(⟨#[cp]⟩:Str)∈Lab∧(⟨#[cp]⟩:Str)=⟨#[cp]⟩:=by
 rcases (by lia:y=0∨y=1∨y=2) with rfl | rfl | rfl
 ·walk_at "p"; exact (inEAA 97 (by decide) (by decide) rfl)
 ·walk_at "p"; exact (inEAA 98 (by decide) (by decide) rfl)
 ·walk_at "p"; exact (inEAA 99 (by decide) (by decide) rfl)
theorem fmod_rng {y b:Int} (h:0<b):0≤y.fmod b∧y.fmod b<b:=⟨Int.fmod_nonneg_of_pos y h,Int.fmod_lt_of_pos y h⟩
theorem sign_eq {x y:Nat}:((⟨#[x]⟩:Str) == ⟨#[y]⟩)=decide (x=y):=by
 by_cases h:x=y
 ·subst h; simp
 ·rw [decide_eq_false h,beq_eq_false_iff_ne]
  intro e; injection e with e; injection e with e; injection e with e; exact h e
theorem brE {pk:Int} {tp:Tok} (F:Fx c O L' G m s) (R:Room A (n+5)) (W:Lw c q G m k its i (1+8*i)) (hi:i≤6) (hp:m ("pick" : Str)=some (.int pk tp)) :
  wpAny (model c.prog c.w) A (execs brEB (envL q L' qual fa code)) (After c O L' q (i+1)) (fun _ _=>False) s:=by
 delta brEB turnB fd443 fx443
 walk_at "r"
 refine wpAny_Constant_str ?_
 refine wpAny_BinOp ?_
 have FJ1:=F.eta (t:=s.toks+1) (d:=s.drawn)
 clear F
 walk_at "r"
 refine PyProof.Rows.mod_int (by decide) ?_
 have FJ2:=FJ1.eta (t:=s.toks+1+1+1) (d:=s.drawn)
 clear FJ1
 obtain ⟨y0,y3⟩:=fmod_rng (y:=pk) (b:=3) (by decide)
 refine unEAA (abc_at y0 y3) fun cp hcp hlab _=>?_
 refine x_strItem (FJ2.toks rfl rfl rfl) y0 (by exact Int.lt_of_lt_of_le ‹_› (by decide)) hcp fun sJ3 tJ3 FJ3=>?_
 clear FJ2
 refine unE W.gg fun vJ0 gg=>?_
 refine x_setCell FJ3 rfl gg rfl rfl fun sJ4 FJ4=>?_
 clear FJ3
 have WJ1:=W.cell (x:=q.cg) (v:=some (.str ⟨#[cp]⟩ tJ3)) (.inr (.inr rfl))
 have ggJ1:upd G q.cg (cellO (some (.str ⟨#[cp]⟩ tJ3))) q.cg=some (cellO (some (.str ⟨#[cp]⟩ tJ3))):=upd_self _ _ _
 clear W gg
 generalize upd G q.cg (cellO (some (.str ⟨#[cp]⟩ tJ3)))=Gg at *
 try dsimp only
 have hms:=WJ1.ms
 have hmb:=WJ1.mb
 refine unEEA WJ1.st.stk fun vs r gS zS=>?_
 refine unEEAAAA WJ1.st.bld.meth2 fun es nJ1 gd m1 m2 m3 m4=>?_
 walk_at "r"
 refine x_bmethod FJ4 gS rfl rfl PySem.F.plainAttrs_list PySem.F.slot_list_append PySem.F.type_list_append ?_
 walk_at "d"
 refine x_method FJ4 (C:=424) (f:=372) WJ1.st.bld.1 gd (by k_is) (by k_is) (by k_is) m1 ?_
 refine x_args FJ4 (by k_is) ?_
 walk_at "r"
 refine x_cell FJ4 (v:=.str ⟨#[cp]⟩ tJ3) rfl ggJ1 rfl rfl rfl ?_
 walk_at "r"
 walk_at "p"; refine ⟨FJ4.K,?_⟩
 have hk:0≤k∧k<80:=by have:=WJ1.st.room; exact ⟨a01 1638764953286 this.1,a21 415857999355133213345434679858341284427493347335758304854294 hi this.2⟩
 refine b_char FJ4 (R.less (k:=n+3) (by exact a10 48441150123036223999254)) WJ1.st.bld (by exact kq ‹_›) hlab fun sJ1 GJ0 GJ1 a ra FJ1 hGJ0 MJ1 BJ1 iJ1 fJ1 fuJ1 EJ1=>?_
 clear FJ4
 refine unE hGJ0 fun oJ1 y1=>?_; clear hGJ0; subst y1
 have e2:k+2=k+1+1:=by exact Int.le_antisymm (a01 54231264450830141718) (a01 54223339591589659894)
 rw [e2] at BJ1 fJ1
 have EJ1:∀ x l y,ra.E x l y↔x=k+1∧l=⟨#[cp]⟩∧y=k+1+1:=fun x l y=>by rw [← e2]; exact EJ1 x l y
 have WJ2:=WJ1.made MJ1.le BJ1 (z':=1+8*i+2) (by exact a01 50506800854) (by have:=WJ1.st.room; exact a21 2788457543625286511833297610637112810407640927204934896868978613237410352157918454 this.2)
 have ggJ2:GJ1 q.cg=some (cellO (some (.str ⟨#[cp]⟩ tJ3))):=MJ1.le _ _ ((upd_ne (WJ1.ne ggJ1 gd cell_dict)).trans ggJ1)
 walk_at "r"
 refine x_ListComp (cl:=[(("word" : Str),q.cw),(("size" : Str),q.cz),(("sign" : Str),q.cg)]) rfl (by decide) rfl (by decide) (law_comp (T:=fun p e=>e=if q.ws[p]?=some cp then [(p:Int)+1] else []) FJ1 R WJ1.wl rfl WJ2.gz rfl rfl rfl rfl rfl rfl rfl ?helt ?hQ) (fun _=>rfl)
 case helt =>
  intro p hp OJ2 C G' m' sJ2 tp le FJ2 hm
  refine wpAny_IfExp ?_
  walk_at "r"
  refine x_cell FJ2 (v:=.int q.w.length q.tz) rfl (le _ _ WJ2.gz) rfl rfl rfl ?_
  refine PyProof.Rows.lt_int ?_
  refine wpAny_truthy_bool ?_
  have hws:∀ {x},q.ws[p]?=some x↔q.w.cps[p]?=some x:=fun {x}=>by rw [Array.getElem?_toList]
  by_cases hlt:p<q.w.length
  ·rw [if_pos (by rw [decide_eq_true_eq]; exact a20 1503788359933110 hlt)]
   walk_at "r"
   refine x_cell FJ2 (v:=.str q.w q.tw) rfl (le _ _ WJ2.gw) rfl rfl rfl ?_
   walk_at "r"
   obtain ⟨x,hx⟩:∃ x,q.w.cps[p]?=some x:=⟨q.w.cps[p]'hlt,Array.getElem?_eq_getElem hlt⟩
   refine x_strItem FJ2 (by exact Int.natCast_nonneg _) (by have:=WJ1.wl; exact a20 1733749929865610029573060164853942 hlt this) (cp:=x) (by simpa using hx) fun sJ3 tJ3 FJ3=>?_
   clear FJ2
   walk_at "r"
   refine x_cell FJ3 rfl (le _ _ ggJ2) rfl rfl rfl ?_
   refine PyProof.Rows.eq_str ?_
   refine wpAny_truthy_bool ?_
   rw [sign_eq]
   by_cases hxc:x=cp
   ·(replace hxc:=hxc.symm; subst hxc)
    rw [if_pos (decide_eq_true rfl)]
    walk_at "r"
    refine wpAny_BinOp ?_
    walk_at "r"
    refine PyProof.Rows.add_int ?_
    have FJ4:=FJ3.eta (t:=sJ3.toks+1+1) (d:=sJ3.drawn)
    clear FJ3
    walk_at "r"
    walk_at "p"; refine ⟨listLine (by simp),?_⟩
    have FJ5:=FJ4.push (lst [Value.int ((p:Int)+1) (sJ3.toks+1)] 0) rfl (t:=sJ3.toks+1+1) (d:=sJ3.drawn)
    walk_at "p"; exact (inEEAAEEAAAA _ _ FJ5 (Le.alloc FJ4.fresh) _ ([(p:Int)+1]) rfl FJ4.fresh (inEEA _ 0 (upd_self _ _ _) (.cons _ _ .nil)) (by simp) (by rw [if_pos (hws.mpr hx)]))
   ·rw [if_neg (by rw [decide_eq_true_eq]; exact hxc)]
    walk_at "r"
    walk_at "p"; refine ⟨listLine (by simp),?_⟩
    have FJ4:=FJ3.push (lst [] 0) rfl (t:=sJ3.toks) (d:=sJ3.drawn)
    walk_at "p"; exact (inEEAAEEAAAA _ _ FJ4 (Le.alloc FJ3.fresh) _ ([]) rfl FJ3.fresh (inEEA _ 0 (upd_self _ _ _) (.nil)) (by simp) (by rw [if_neg (fun e=>hxc (by rw [hws,hx] at e; clear hx hxc; cases e; rfl))]))
  ·rw [if_neg (by rw [decide_eq_true_eq]; exact a20 1644525852482742 hlt)]
   walk_at "r"
   walk_at "p"; refine ⟨listLine (by simp),?_⟩
   have FJ4:=FJ2.push (lst [] 0) rfl (t:=sJ2.toks) (d:=sJ2.drawn)
   walk_at "p"; exact (inEEAAEEAAAA _ _ FJ4 (Le.alloc FJ2.fresh) _ ([]) rfl FJ2.fresh (inEEA _ 0 (upd_self _ _ _) (.nil)) (by simp) (by rw [if_neg (fun e=>hlt (Array.getElem?_eq_some_iff.mp (hws.mp e)).1)]))
 case hQ =>
  intro GJ2 D ess le hen hel hes sJ2 FJ2
  clear FJ1
  have WJ3:=WJ2.grow le
  refine unEEA WJ3.st.stk fun vsJ1 rJ1 gSJ1 zSJ1=>?_
  walk_at "r"
  walk_at "p"; refine ⟨pairLine,?_⟩
  walk_at "r"
  refine wpAny_mono (pushPair (it:=⟨a,ra,k,k+1+1,mChr cp,1,D,ess⟩) (n':=i+1) (z':=1+8*(i+1:Nat)) FJ2 WJ3 gSJ1 zSJ1 ⟨(hid_made MJ1 (WJ1.madeMu (made_dict MJ1.le BJ1))).le (hid_Le le),reg_chr iJ1 fJ1 fuJ1 EJ1,hid_ends hen WJ2.st.mu,ends_chr (by rw [hel,q.wsl]) hes⟩ WJ1.st.chain (Int.le_refl _) (by have:=WJ1.st.cnt; simp; omega) (by have:=WJ1.st.room; simp; exact a21 2723103069946568859212204697887805478917847215310109840309927835171961672271094 this.2) (by exact a10 360699317077048744164997612462342064316679 hi)) (fun v s' hv=>?_) fun _ _ e=>e
  refine unAEA hv fun y2 GJ3 FJ3 WJ3=>?_; clear hv; subst y2
  walk_at "r"
  walk_at "p"; exact (inAEEEEA rfl GJ3 _ _ _ FJ3 WJ3)
end
end
section
theorem zip2_snocR {α β:Type} {R:α→β→Prop} {as:List α} {bs:List β} {b:β} (h:Zip2 R as (bs++[b])):∃ as' a,as=as'++[a]∧Zip2 R as' bs∧R a b :=
 unEEAA h.flip.snoc fun as' a e z q=>inEEAA as' a e z.flip q
theorem Chain.le_:∀ {a k:Int} {l:List Item},(∀ it∈l,it.lo≤it.hi)→Chain a l k→a≤k
 | _,_,[],_,h=>h
 | a,k,it::l,hl,h=>by
  have h1:=Chain.le_ (fun i hi=>hl i (List.mem_cons_of_mem _ hi)) h.2
  have:=hl it List.mem_cons_self
  have:=h.1
  exact a04 1846860918059491297553596153 h1 ‹_› this
section
variable {c:Cx} {O:List (Addr×Obj)} {L' fa:Addr} {qual:Str} {code:Value} {q:LC} {G:View} {m:Str→Option Value} {A:Around} {E:Value→Shared→Prop} {s:Shared} {n:Nat} {k:Int} {its:List Item} {i:Nat} {it:Item} {z:Int}
theorem ItemOk.lohi {H:View} {w:List Nat} (h:ItemOk c H w it):it.lo≤it.hi:=by have:=h.reg.ini; exact a03 56193665991964671766 this.1 this.2
structure Popped (c:Cx) (q:LC) (G:View) (k:Int) (its:List Item) (it:Item) (n:Nat) (z:Int):Prop where
 ok:ItemOk c (hid q.mu G) q.ws it
 lo:Chain 0 its it.lo
 l0:0≤it.lo
 hi:it.hi≤k
 cnt:(its.map Item.cnt).sum+it.cnt≤n
 room:k+3*(its.length+1)≤z
theorem Popped.le {G':View} (h:Popped c q G k its it n z) (le:Le (hid q.mu G) (hid q.mu G')):Popped c q G' k its it n z:=⟨h.ok.le le,h.lo,h.l0,h.hi,h.cnt,h.room⟩
theorem Popped.ini (h:Popped c q G k its it n z) (hk:k<90):0≤it.r.ini∧it.r.ini<100:=by have:=h.ok.reg.ini; have:=h.l0; have:=h.hi; omega
theorem Popped.fin (h:Popped c q G k its it n z) (hk:k<90):∀ f∈it.r.fin,0≤f∧f<100:=by
 refine unEAA h.ok.reg.fin fun f e hf _=>?_
 intro f' hf'
 rw [e,List.mem_singleton] at hf'
 (replace hf':=hf'.symm; subst hf')
 have:=h.l0; have:=h.hi
 exact ⟨a02 56193665989246762726 hf.1 ‹_›,a03 2041697863372131780926879723376313733399 hk hf.2 this⟩
theorem Popped.not (h:Popped c q G k its it n z):¬ it.r.has it.a q.d:=h.ok.nfa.notHas (hid_mem q.dm)
theorem popPair {x1 x2:Str} {ca:Addr} {p1 p2 p3:Pos} {kk:Nat} {Q:Unit→Shared→Prop} (F:Fx c O L' G m s) (R:Room A n) (W:Lw c q G m k (its++[it]) i z) (hz:z≤100) (h1:(envL q L' qual fa code).kindOf x1=some .local) (h2:(envL q L' qual fa code).kindOf x2=some .cell) (hc:(envL q L' qual fa code).cells.lookup x2=some ca)
  (hca:ca=q.ce∨ca=q.cb∨ca=q.cg) (hn:x1≠("builder" : Str)∧x1≠("stack" : Str)∧x1≠("nothing" : Str))
  (h:∀ s' GJ2,Fx c O L' GJ2 (setL m x1 (.ref it.a)) s'→Lw c q GJ2 (setL m x1 (.ref it.a)) k its i z→Popped c q GJ2 k its it i z→GJ2 ca=some (cellO (some (.ref it.ea)))→(∀ y o,y≠ca→y≠q.Sk→G y=some o→GJ2 y=some o)→Le (hid q.mu G) (hid q.mu GJ2)→Q () s') :
  wpAny (model c.prog c.w) A (call (.builtin "list.pop") [.ref q.Sk] []) (fun v sJ1=>wpAny (model c.prog c.w) A (assign (.Tuple [.Name x1 p1,.Name x2 p2] kk p3) (envL q L' qual fa code) v) Q E sJ1) E s:=by
 have hms:=W.ms
 refine unEEA W.st.stk fun vs r gS zS=>?_
 have hlen:=zS.length
 refine unEEAA (zip2_snocR zS) fun us u y1 zU w42=>unEEA w42 fun t qq y2 gt=>?_; clear w42; subst y1; subst y2
 have hroom:=W.st.room
 rw [List.length_append,List.length_singleton] at hroom hlen
 refine x_pop F gS (by rw [List.length_append,List.length_singleton] at hlen; exact a22 2534240142874340065434439021508143359744643175576482723396704834175254 hz hlen hroom.1 hroom.2) fun sJ1 rJ1 FJ1=>?_
 clear F
 obtain ⟨hch,hhi⟩:=Chain.snoc.mp W.st.chain
 have hcnt:=W.st.cnt
 rw [List.map_append,List.sum_append] at hcnt
 simp only [List.map_cons,List.map_nil,List.sum_cons,List.sum_nil] at hcnt
 have hok:=W.st.items it (List.mem_append_right _ (List.mem_singleton.mpr rfl))
 have hits:∀ x∈its,x.lo≤x.hi:=fun x hx=>(W.st.items x (List.mem_append_left _ hx)).lohi
 have WJ1:=W.stack (r:=rJ1) (its':=its) (n':=i) (z':=z) zU (fun x hx=>List.mem_append_left _ hx) (Chain.up (Int.le_trans hok.lohi hhi) hch) (by exact a30 1504238791018194710 hcnt) (by exact a12 2078491429434735214527783865252180230409494 hroom.2)
 have hid1:hid q.mu (upd G q.Sk (lst us rJ1))=hid q.mu G:=hid_upd q.sm
 have gtJ1:upd G q.Sk (lst us rJ1) t=some (pairO it.a it.ea qq):=hid_le (mu:=q.mu) _ _ (by rw [hid1]; exact gt)
 have kp:∀ y o,y≠q.Sk→G y=some o→upd G q.Sk (lst us rJ1) y=some o:=fun y o hy e=>by rw [upd_ne hy]; exact e
 have gc:∃ vJ0,upd G q.Sk (lst us rJ1) ca=some (cellO vJ0):=by
  rcases hca with rfl | rfl | rfl
  ·walk_at "p"; exact WJ1.ge
  ·walk_at "p"; exact WJ1.gb
  ·walk_at "p"; exact WJ1.gg
 refine unE gc fun vJ0 gc=>?_
 rw [← hid1] at hok gt
 clear W gS zS
 generalize upd G q.Sk (lst us rJ1)=GJ1 at *
 refine x_unpack2 R.handled FJ1 gtJ1 rfl fun sJ2 FJ2=>?_
 clear FJ1
 refine wpAny_assign_Name (x_store FJ2 rfl h1 fun sJ3 FJ3=>?_)
 clear FJ2
 refine wpAny_assign_Name (x_setCell FJ3 hc gc rfl h2 fun sJ4 FJ4=>?_)
 have hm:ca∈q.mu:=by rcases hca with rfl | rfl | rfl; exact q.cem; exact q.cbm; exact q.cgm
 have hid2:hid q.mu (upd GJ1 ca (cellO (some (.ref it.ea))))=hid q.mu GJ1:=hid_upd hm
 walk_at "p"; refine h _ _ FJ4 ((WJ1.cell hca).names (by rw [setL_ne hn.1.symm]; exact WJ1.mb) (by rw [setL_ne hn.2.1.symm]; exact WJ1.ms) (by rw [setL_ne hn.2.2.symm]; exact WJ1.mn)) ⟨by rw [hid2]; exact hok,hch,Chain.le_ hits hch,hhi,by omega,by exact a12 2128375223741168859676450678018075521194134806 hroom.2⟩ (upd_self _ _ _) (fun y o hy1 hy2 e=>by rw [upd_ne hy1]; exact kp y o hy2 e) ?_
 rw [hid2,hid1]
 walk_at "p"; exact fun _ _ e=>e
end
end
section
section
variable {c:Cx} {O:List (Addr×Obj)} {L' fa:Addr} {qual:Str} {code:Value} {q:LC} {G G':View} {m:Str→Option Value} {A:Around} {E:Value→Shared→Prop} {s:Shared} {n:Nat} {k:Int} {its:List Item} {i:Nat} {it:Item} {z:Int}
theorem made_hid {o:Obj} (hle:Le (upd G q.d o) G'):Le (hid q.mu G) (hid q.mu G'):=hid_up fun b x hb e=>hle _ _ ((upd_ne (fun p:b=q.d=>hb (p▸q.dm))).trans e)
theorem Popped.rng (h:Popped c q G k its it i z) (hw:q.w.length≤4):∀ e∈it.es,e.length≤5∧∀ y∈e,0≤y∧y<it.es.length:=by
 have:=h.ok.ok.rng h.ok.reg.mono (by rw [q.wsl]; exact hw)
 rw [h.ok.ok.1]; exact this
theorem Popped.elen (h:Popped c q G k its it i z):it.es.length=q.w.length+1:=by rw [h.ok.ok.1,q.wsl]
theorem sortedSet2 {l1 l2:Addr} {us1 us2:List Value} {k1 k2:Nat} {n1 n2:List Int} {Q:Value→Shared→Prop} (F:Fx c O L' G m s) (R:Room A n) (g1:G l1=some (lst us1 k1)) (g2:G l2=some (lst us2 k2)) (h1:IntsAre us1 n1) (h2:IntsAre us2 n2) (hl1:n1.length≤5) (hl2:n2.length≤5)
  (hr:∀ x,x∈n1∨x∈n2→0≤x∧x<5)
  (h:∀ r s',(∀ Q':Value→Shared→Prop,(∀ S s'',(∀ Q'':Value→Shared→Prop,(∀ B sJ3 GJ3 e,Fx c O L' GJ3 m sJ3→Le G GJ3→G B=none→IL GJ3 B e→e.length≤5→(∀ x,x∈e↔x∈n1∨x∈n2)→Q'' (.ref B) sJ3)→wpAny (model c.prog c.w) A (call (.builtin "sorted") [.ref S] []) Q'' E s'')→Q' (.ref S) s'')→wpAny (model c.prog c.w) A (call (.type "set") [.ref r] []) Q' E s')→Q (.ref r) s') :
  wpAny (model c.prog c.w) A (binaryOp .Add (.ref l1) (.ref l2)) Q E s:=by
 have e1:=ints_len h1
 have e2:=ints_len h2
 refine x_addLists F g1 g2 (by exact a40 62832324879786274221544276663858347443709386363318306616 hl1 hl2 e1 e2) fun r sJ1 hrJ1 FJ1=>h r sJ1 fun Q' hQ'=>?_
 have hI:IntsAre (us1++us2) (n1++n2):=ints_app h1 h2
 refine x_setOfList (kd:=kInt c) kdsInt R FJ1 (upd_self _ _ _) (lst_is _ _) (keysAre_ints.mpr hI) (by simp; exact a40 62832324879786274221544276663858347443709387453287892792 hl1 hl2 e1 e2) fun S sJ2 oS l hS FJ2 sS hl=>hQ' S sJ2 fun Q'' hQ''=>?_
 have hll:l.length≤(n1++n2).length:=nodup_len sS.nodup fun k hk=>(hl k).mp hk
 rw [List.length_append] at hll
 refine x_sortedSet R.handled FJ2 (upd_self _ _ _) sS (by exact a30 1872549202435799664901026387827686016169581543704 hl1 hl2 hll) fun B sJ3 us' ns' kb hB FJ3 zb pb sb=>?_
 have le1:Le G (upd G r (lst (us1++us2) 0)):=Le.alloc hrJ1
 have le2:=le1.trans (Le.alloc (o:=oS) hS)
 have hm:∀ x,x∈ns'↔x∈n1∨x∈n2:=fun x=>by rw [pb.mem_iff,hl,List.mem_append]
 refine hQ'' B sJ3 _ ns' FJ3 (le2.trans (Le.alloc hB)) (none_le le2 hB) (inEEA us' kb (upd_self _ _ _) (keysAre_ints.mp zb)) ?_ hm
 walk_at "p"; exact len_range (n:=5) (pb.nodup_iff.mpr sS.nodup) fun x hx=>by exact_mod_cast hr x ((hm x).mp hx)
theorem brA {pk:Int} {tp:Tok} (F:Fx c O L' G m s) (R:Room A (n+5)) (W:Lw c q G m k (its++[it]) i (1+8*i)) (hi:i≤6) (hp:m ("pick" : Str)=some (.int pk tp)) :
  wpAny (model c.prog c.w) A (execs brAB (envL q L' qual fa code)) (After c O L' q (i+1)) (fun _ _=>False) s:=by
 delta brAB turnB fd443 fx443
 have hms:=W.ms
 refine unEEA W.st.stk fun vs r gS zS=>?_
 (first | refine wpAny_execs_cons ?_ | (refine absEnd (by assumption) (seqN ?_); refine wpAny_execs_cons ?_))
 refine Assign_Tuple ?_
 walk_at "r"
 refine x_bmethod F gS rfl rfl PySem.F.plainAttrs_list PySem.F.slot_list_pop PySem.F.type_list_pop ?_
 walk_at "r"
 refine popPair F R W (by exact a10 352245426833055414223630480942546559239 hi) rfl rfl rfl (.inl rfl) (by decide) fun sJ1 GJ1 FJ1 WJ1 P gce kp le=>?_
 clear F W gS zS hms
 try dsimp only
 have hk:0≤k∧k<80:=by have:=WJ1.st.room; have:=P.room; lia
 have hms:=WJ1.ms
 have hmb:=WJ1.mb
 refine unEEA WJ1.st.stk fun vsJ1 rJ1 gS zS=>?_
 walk_at "r"
 refine PyProof.Rows.eq_int ?_
 refine wpAny_truthy_bool ?_
 replace FJ1:=FJ1.eta (t:=sJ1.toks+1) (d:=sJ1.drawn)
 by_cases h9:pk=9
 ·rw [if_pos (beq_iff_eq.mpr h9)]
  refine unEEAAAAA WJ1.st.bld.meth fun es nJ1 gd m1 m2 m3 m4 m5=>?_
  walk_at "r"
  refine x_bmethod FJ1 gS rfl rfl PySem.F.plainAttrs_list PySem.F.slot_list_append PySem.F.type_list_append ?_
  walk_at "d"
  refine x_method FJ1 (C:=424) (f:=407) WJ1.st.bld.1 gd (by k_is) (by k_is) (by k_is) m3 ?_
  refine x_args FJ1 (by k_is) ?_
  walk_at "r"
  walk_at "p"; refine ⟨FJ1.K,?_⟩
  refine b_star FJ1 (R.less (k:=n+3) (by exact a10 48441150123036223999254)) WJ1.st.bld (by exact kq ‹_›) (P.ok.nfa.le hid_le) P.not (P.ini (by exact kr ‹_›)) (P.fin (by exact kr ‹_›)) fun sJ2 GJ0 GJ2 a ra FJ2 hGJ0 MJ2 BJ2 iJ2 fJ2 fuJ2 EJ2=>?_
  clear FJ1
  refine unE hGJ0 fun oJ2 y1=>?_; clear hGJ0; subst y1
  have WJ2:=WJ1.made MJ2.le BJ2 (z':=1+8*i+1) (by exact a01 52960218491952854) (by have:=P.room; exact a21 2855380524672293388109952544101724578735746637505413908285459220494627237938846729462 this)
  have PJ2:=P.le (made_hid MJ2.le)
  have gceJ2:=MJ2.le _ _ ((upd_ne (WJ1.ne gce gd cell_dict)).trans gce)
  walk_at "r"
  refine x_global FJ2 (by k_is) rfl rfl rfl rfl ?_
  refine x_args FJ2 (by k_is) ?_
  walk_at "r"
  refine x_cell FJ2 rfl gceJ2 rfl rfl rfl ?_
  walk_at "r"
  walk_at "p"; refine ⟨FJ2.K,?_⟩
  have hel:=P.elen
  have hwl:=WJ1.wl
  refine lawstar FJ2 R (PJ2.ok.ends.le hid_le) (by exact a20 1549477836007111 hel) (by exact a20 55867567962757012631922496042439958 hel hwl) (P.rng hwl) fun sJ3 GJ3 D ess FJ3 leJ3 hen helJ3 hrg hss=>?_
  clear FJ2
  have WJ3:=WJ2.grow leJ3
  refine unEEA WJ3.st.stk fun vsJ3 rJ3 gSJ3 zSJ3=>?_
  walk_at "r"
  walk_at "p"; refine ⟨pairLine,?_⟩
  walk_at "r"
  refine wpAny_mono (pushPair (it:=⟨a,ra,it.lo,k+1+1+1+1,mStar it.M,it.cnt+1,D,ess⟩) (n':=i+1) (z':=1+8*(i+1:Nat)) FJ3 WJ3 gSJ3 zSJ3 ⟨(hid_made MJ2 (WJ1.madeMu (made_dict MJ2.le BJ2))).le (hid_Le leJ3),reg_star P.ok.reg P.hi (inAAA iJ2 fJ2 fuJ2 EJ2),hid_ends hen WJ2.st.mu,ends_star P.ok.ok P.ok.reg.mono (by rw [q.wsl]; exact hwl) helJ3 hss⟩ P.lo (Int.le_refl _) (by have:=P.cnt; simp only; exact Nat.lt_succ_of_le ‹_›) (by have:=P.room; exact a21 2923909657264428429424591405160165968625399023520253742605203322221497515647904129451254 this) (by exact a10 360699317077048744164997612462342064316679 hi)) (fun v s' hv=>?_) fun _ _ e=>e
  refine unAEA hv fun y2 GJ4 FJ4 WJ4=>?_; clear hv; subst y2
  walk_at "r"
  walk_at "p"; exact (inAEEEEA rfl GJ4 _ _ _ FJ4 WJ4)
 ·rw [if_neg (by rw [beq_iff_eq]; exact h9)]
  refine unEEAAAA WJ1.st.bld.meth2 fun es nJ1 gd m1 m2 m3 m4=>?_
  have hel:=P.elen
  have hwl:=WJ1.wl
  walk_at "r"
  refine PyProof.Rows.eq_int ?_
  refine wpAny_truthy_bool ?_
  replace FJ1:=FJ1.eta (t:=sJ1.toks+1+1) (d:=sJ1.drawn)
  by_cases h10:pk=10
  ·rw [if_pos (beq_iff_eq.mpr h10)]
   walk_at "r"
   refine x_bmethod FJ1 gS rfl rfl PySem.F.plainAttrs_list PySem.F.slot_list_append PySem.F.type_list_append ?_
   walk_at "d"
   refine x_method FJ1 (C:=424) (f:=414) WJ1.st.bld.1 gd (by k_is) (by k_is) (by k_is) m3 ?_
   refine x_args FJ1 (by k_is) ?_
   walk_at "r"
   walk_at "p"; refine ⟨FJ1.K,?_⟩
   refine b_plus FJ1 (R.less (k:=n+4) (by exact Nat.le_succ _)) WJ1.st.bld hk (P.ok.nfa.le hid_le) P.not (P.ini (by exact kr ‹_›)) (P.fin (by exact kr ‹_›)) fun sJ2 GJ0 GJ2 a ra raJ2 FJ2 hGJ0 MJ2 BJ2 hSJ2 hCJ2=>?_
   clear FJ1
   refine unE hGJ0 fun oJ2 y3=>?_; clear hGJ0; subst y3
   have WJ2:=WJ1.made MJ2.le BJ2 (z':=1+8*i+5) (by exact a01 56865601602987249156267734) (by have:=P.room; exact a21 3214872666728777965698883630931353210157627270852013248323251285741384290257894995866090556854863094 this)
   have PJ2:=P.le (made_hid MJ2.le)
   have gceJ2:=MJ2.le _ _ ((upd_ne (WJ1.ne gce gd cell_dict)).trans gce)
   walk_at "r"
   refine x_global FJ2 (by k_is) rfl rfl rfl rfl ?_
   refine x_args FJ2 (by k_is) ?_
   walk_at "r"
   refine x_cell FJ2 rfl gceJ2 rfl rfl rfl ?_
   walk_at "r"
   refine x_global FJ2 (by k_is) rfl rfl rfl rfl ?_
   refine x_args FJ2 (by k_is) ?_
   walk_at "r"
   refine x_cell FJ2 rfl gceJ2 rfl rfl rfl ?_
   walk_at "r"
   walk_at "p"; refine ⟨FJ2.K,?_⟩
   refine lawstar FJ2 R (PJ2.ok.ends.le hid_le) (by exact a20 1549477836007111 hel) (by exact a20 55867567962757012631922496042439958 hel hwl) (P.rng hwl) fun sJ3 GJ3 DJ3 ess FJ3 leJ3 henJ3 helJ3 hrg hss=>?_
   clear FJ2
   have okJ3:=ends_star P.ok.ok P.ok.reg.mono (by rw [q.wsl]; exact hwl) helJ3 hss
   have rngJ3:=okJ3.rng (mono_star P.ok.reg.mono) (by rw [q.wsl]; exact hwl)
   walk_at "r"
   walk_at "p"; refine ⟨FJ3.K,?_⟩
   refine joined FJ3 R ((PJ2.ok.ends.le hid_le).le leJ3) henJ3.at_ (by exact a20 55867567962757012631922496042439958 hel hwl) (by rw [helJ3]; exact P.rng hwl) (by exact a30 1874604510211708712880984520398000499987736 hel hwl helJ3) (fun e he=>(rngJ3 e he).1) fun sJ4 GJ4 DJ4 esJ4 FJ4 leJ4 henJ4 helJ4 hj=>?_
   clear FJ3
   have WJ3:=WJ2.grow leJ3
   have WJ4:=WJ3.grow leJ4
   refine unEEA WJ4.st.stk fun vsJ3 rJ3 gSJ3 zSJ3=>?_
   walk_at "r"
   walk_at "p"; refine ⟨pairLine,?_⟩
   walk_at "r"
   refine wpAny_mono (pushPair (it:=⟨a,ra,it.lo,k+1+1+1+1+1+1+1,mCat it.M (mStar it.M),it.cnt,DJ4,esJ4⟩) (n':=i+1) (z':=1+8*(i+1:Nat)) FJ4 WJ4 gSJ3 zSJ3 ⟨((hid_made MJ2 (WJ1.madeMu (made_dict MJ2.le BJ2))).le (hid_Le leJ3)).le (hid_Le leJ4),reg_plus P.ok.reg P.hi hSJ2 hCJ2,hid_ends henJ4 WJ3.st.mu,ends_joined P.ok.ok okJ3 P.ok.reg.mono (mono_star P.ok.reg.mono) (by rw [q.wsl]; exact hwl) helJ4 hj⟩ P.lo (Int.le_refl _) (by have:=P.cnt; simp only; exact a30 1540365828749874956022 this) (by have:=P.room; exact a21 3139524088602322232127816045831399619294562720242456154527737527092970474463249121734099276629238 this) (by exact a10 360699317077048744164997612462342064316679 hi)) (fun v s' hv=>?_) fun _ _ e=>e
   refine unAEA hv fun y4 GJ5 FJ5 WJ5=>?_; clear hv; subst y4
   walk_at "r"
   walk_at "p"; exact (inAEEEEA rfl GJ5 _ _ _ FJ5 WJ5)
  ·rw [if_neg (by rw [beq_iff_eq]; exact h10)]
   walk_at "r"
   refine x_bmethod FJ1 gS rfl rfl PySem.F.plainAttrs_list PySem.F.slot_list_append PySem.F.type_list_append ?_
   walk_at "d"
   refine x_method FJ1 (C:=424) (f:=421) WJ1.st.bld.1 gd (by k_is) (by k_is) (by k_is) m4 ?_
   refine x_args FJ1 (by k_is) ?_
   walk_at "r"
   walk_at "p"; refine ⟨FJ1.K,?_⟩
   refine b_question FJ1 (R.less (k:=n+4) (by exact Nat.le_succ _)) WJ1.st.bld hk (P.ok.nfa.le hid_le) P.not (P.ini (by exact kr ‹_›)) (P.fin (by exact kr ‹_›)) fun sJ2 GJ0 GJ2 a ra raJ2 FJ2 hGJ0 MJ2 BJ2 hSJ2 hCJ2=>?_
   clear FJ1
   refine unE hGJ0 fun oJ2 y5=>?_; clear hGJ0; subst y5
   have WJ2:=WJ1.made MJ2.le BJ2 (z':=1+8*i+6) (by exact a01 58230376041458943136017456854) (by have:=P.room; exact a21 3292029610730268636875656838073705687201410325401501423590717760066644618092894369642676382129255056630 this)
   have PJ2:=P.le (made_hid MJ2.le)
   have gceJ2:=MJ2.le _ _ ((upd_ne (WJ1.ne gce gd cell_dict)).trans gce)
   refine unEEA (PJ2.ok.ends.le hid_le) fun vse ke gea zea=>?_
   have hze:=zea.length
   walk_at "r"
   refine x_ListComp (cl:=[(("ends" : Str),q.ce)]) rfl (by decide) rfl (by decide) (law_comp (T:=fun p e=>∀ x,x∈e↔x=(p:Int)∨x∈at2 it.es p) FJ2 R hwl rfl WJ2.gz rfl rfl rfl rfl rfl rfl rfl ?helt ?hQ) (fun _=>rfl)
   case helt =>
    intro p hp OJ2 C G' m' sJ2 tp le FJ3 hm
    obtain ⟨e,he⟩:∃ e,it.es[p]?=some e:=⟨it.es[p]'(by exact a30 51991848683809401776856 hel hp),List.getElem?_eq_getElem _⟩
    obtain ⟨v,hv⟩:∃ v,vse[p]?=some v:=⟨vse[p]'(by exact a40 1744556951218594808565743004441 hel hze hp),List.getElem?_eq_getElem _⟩
    refine unEAEEA (zea.get hv he) fun be y6 ue kke ge hue=>?_; subst y6
    have herng:=P.rng hwl e (List.mem_of_getElem? he)
    walk_at "r"
    refine x_builtin FJ3 (by k_is) (v:=.builtin "sorted") rfl (by decide) rfl rfl rfl rfl rfl ?_
    walk_at "r"
    refine x_builtin FJ3 (by k_is) (v:=.type "set") rfl (by decide) rfl rfl rfl rfl rfl ?_
    walk_at "r"
    refine wpAny_BinOp ?_
    walk_at "r"
    walk_at "p"; refine ⟨listLine (by simp),?_⟩
    have FJ4:=FJ3.push (lst [Value.int (p:Int) tp] 0) rfl (t:=sJ2.toks) (d:=sJ2.drawn)
    have hB:=FJ3.fresh
    clear FJ3
    generalize sJ2.heap.objs.size=B at FJ4 hB ⊢
    have leB:Le G' (upd G' B (lst [Value.int (p:Int) tp] 0)):=Le.alloc hB
    have gB:upd G' B (lst [Value.int (p:Int) tp] 0) B=some (lst [Value.int (p:Int) tp] 0):=upd_self _ _ _
    generalize upd G' B (lst [Value.int (p:Int) tp] 0)=GB at *
    have leX:=le.trans leB
    walk_at "r"
    refine x_cell FJ4 rfl (leX _ _ gceJ2) rfl rfl rfl ?_
    walk_at "r"
    refine x_getItemTail_list FJ4 (leX _ _ gea) (by exact Int.natCast_nonneg _) (by exact a20 1663157752744533031650873622667447 hwl hp) (by simpa using hv) ?_
    refine sortedSet2 FJ4 R gB (leX _ _ ge) (.cons (p:Int) tp .nil) hue (by simp) herng.1 (fun x hx=>?_) fun rJ4 sJ4 hset=>?_
    ·rcases hx with hx | hx
     ·rw [List.mem_singleton] at hx; exact ⟨a11 55171740647110 hx,a21 55806313719739246982284336496239997621526 hwl hp hx⟩
     ·have:=herng.2 x hx; exact ⟨a01 1638731398854 this.1,a21 59987344326774678812191509803374888873891094 hel hwl this.2⟩
    ·walk_at "r"
     refine hset _ fun S sJ5 hsort=>?_
     walk_at "r"
     refine hsort _ fun BJ2 sJ6 GJ6 eJ6 FJ6 leJ6 hBJ2 hIL hl5 hmJ6=>?_
     walk_at "p"; refine (inEEAAEEAAAA GJ6 _ FJ6 (leB.trans leJ6) BJ2 eJ6 rfl (none_le leB hBJ2) hIL hl5 (fun x=>?_))
     have hat:at2 it.es (p:Int)=e:=by unfold at2; rw [show ((p:Int)).toNat=p from rfl,he]; rfl
     rw [hmJ6,List.mem_singleton,hat]
   case hQ =>
    intro GJ3 D ess le hen helJ3 hes sJ3 FJ3
    clear FJ2
    have WJ3:=WJ2.grow le
    refine unEEA WJ3.st.stk fun vsJ3 rJ3 gSJ3 zSJ3=>?_
    walk_at "r"
    walk_at "p"; refine ⟨pairLine,?_⟩
    walk_at "r"
    refine wpAny_mono (pushPair (it:=⟨a,ra,it.lo,k+1+1+1+1+1+1+1+1,mAlt it.M mEps,it.cnt+1,D,ess⟩) (n':=i+1) (z':=1+8*(i+1:Nat)) FJ3 WJ3 gSJ3 zSJ3 ⟨(hid_made MJ2 (WJ1.madeMu (made_dict MJ2.le BJ2))).le (hid_Le le),reg_opt P.ok.reg P.hi hSJ2 hCJ2,hid_ends hen WJ2.st.mu,ends_opt P.ok.ok (by rw [helJ3,q.wsl]) hes⟩ P.lo (Int.le_refl _) (by have:=P.cnt; simp only; exact a30 1577334608639871954231030 this) (by have:=P.room; exact a21 3214872666728777965698883630931353210157632225528275102236403227743201765850367100655717659268318454 this) (by exact a10 360699317077048744164997612462342064316679 hi)) (fun v s' hv=>?_) fun _ _ e=>e
    refine unAEA hv fun y7 GJ4 FJ4 WJ4=>?_; clear hv; subst y7
    walk_at "r"
    walk_at "p"; exact (inAEEEEA rfl GJ4 _ _ _ FJ4 WJ4)
end
end
section
section
variable {c:Cx} {O:List (Addr×Obj)} {L' fa:Addr} {qual:Str} {code:Value} {q:LC} {G G':View} {m:Str→Option Value} {A:Around} {E:Value→Shared→Prop} {s:Shared} {n:Nat} {k:Int} {its:List Item} {i:Nat} {it1 it2:Item} {z:Int}
theorem brB {pk:Int} {tp:Tok} (F:Fx c O L' G m s) (R:Room A (n+5)) (W:Lw c q G m k (its++[it1]++[it2]) i (1+8*i)) (hi:i≤6) (hp:m ("pick" : Str)=some (.int pk tp)) :
  wpAny (model c.prog c.w) A (execs brBB (envL q L' qual fa code)) (After c O L' q (i+1)) (fun _ _=>False) s:=by
 delta brBB turnB fd443 fx443
 have hms:=W.ms
 have hwl:=W.wl
 refine unEEA W.st.stk fun vs r gS zS=>?_
 (first | refine wpAny_execs_cons ?_ | (refine absEnd (by assumption) (seqN ?_); refine wpAny_execs_cons ?_))
 refine Assign_Tuple ?_
 walk_at "r"
 refine x_bmethod F gS rfl rfl PySem.F.plainAttrs_list PySem.F.slot_list_pop PySem.F.type_list_pop ?_
 walk_at "r"
 refine popPair F R W (by exact a10 352245426833055414223630480942546559239 hi) rfl rfl rfl (.inl rfl) (by decide) fun sJ1 GJ1 FJ1 WJ1 P2 gce kpJ1 leJ1=>?_
 clear F W gS zS hms
 try dsimp only
 have hms:=WJ1.ms
 refine unEEA WJ1.st.stk fun vsJ1 rJ1 gS zS=>?_
 (first | refine wpAny_execs_cons ?_ | (refine absEnd (by assumption) (seqN ?_); refine wpAny_execs_cons ?_))
 refine Assign_Tuple ?_
 walk_at "r"
 refine x_bmethod FJ1 gS rfl rfl PySem.F.plainAttrs_list PySem.F.slot_list_pop PySem.F.type_list_pop ?_
 walk_at "r"
 refine popPair FJ1 R WJ1 (by exact a10 352245426833055414223630480942546559239 hi) rfl rfl rfl (.inr (.inl rfl)) (by decide) fun sJ2 GJ2 FJ2 WJ2 P1 gcb kpJ2 leJ2=>?_
 have gceJ2:=kpJ2 _ _ WJ1.dis.1 (WJ1.ne gce gS cell_lst) gce
 have P2':=P2.le leJ2
 clear FJ1 WJ1 gS zS hms
 try dsimp only
 have hk:0≤k∧k<80:=by have:=WJ2.st.room; have:=P1.room; lia
 obtain ⟨hc12,h12⟩:=Chain.snoc.mp P2.lo
 have hroom:=P2.room
 have hcnt:=P2.cnt
 rw [List.length_append,List.length_singleton] at hroom
 rw [List.map_append,List.sum_append] at hcnt
 simp only [List.map_cons,List.map_nil,List.sum_cons,List.sum_nil] at hcnt
 have hel1:=P1.elen
 have hel2:=P2'.elen
 have hms:=WJ2.ms
 have hmb:=WJ2.mb
 refine unEEA WJ2.st.stk fun vsJ2 rJ2 gS zS=>?_
 refine unEEAAAAA WJ2.st.bld.meth fun es nJ1 gd m1 m2 m3 m4 m5=>?_
 walk_at "r"
 refine PyProof.Rows.lt_int ?_
 refine wpAny_truthy_bool ?_
 replace FJ2:=FJ2.eta (t:=sJ2.toks+1) (d:=sJ2.drawn)
 by_cases h7:pk<7
 ·rw [if_pos (decide_eq_true h7)]
  walk_at "r"
  refine x_bmethod FJ2 gS rfl rfl PySem.F.plainAttrs_list PySem.F.slot_list_append PySem.F.type_list_append ?_
  walk_at "d"
  refine x_method FJ2 (C:=424) (f:=400) WJ2.st.bld.1 gd (by k_is) (by k_is) (by k_is) m4 ?_
  refine x_args FJ2 (by k_is) ?_
  walk_at "r"
  walk_at "p"; refine ⟨FJ2.K,?_⟩
  refine b_concat FJ2 (R.less (k:=n+3) (by exact a10 48441150123036223999254)) WJ2.st.bld (by exact kq ‹_›) (P1.ok.nfa.le hid_le) P1.not (P1.ini (by exact kr ‹_›)) (P1.fin (by exact kr ‹_›)) (P2'.ok.nfa.le hid_le) P2'.not (P2'.ini (by exact kr ‹_›)) (P2'.fin (by exact kr ‹_›)) fun sJ3 GJ0 GJ3 a ra FJ3 hGJ0 MJ3 BJ3 iJ3 fJ3 fuJ3 EJ3=>?_
  clear FJ2
  refine unE hGJ0 fun oJ3 y1=>?_; clear hGJ0; subst y1
  have WJ3:=WJ2.made MJ3.le BJ3 (z':=1+8*i+3) (by exact a01 51718963371734) (by exact a21 2994083489038774711730780505754599593269544034883006344752439754960926156948028578835170550 hroom)
  have Q1:=P1.le (made_hid MJ3.le)
  have Q2:=P2'.le (made_hid MJ3.le)
  have gceJ3:=MJ3.le _ _ ((upd_ne (WJ2.ne gceJ2 gd cell_dict)).trans gceJ2)
  have gcbJ3:=MJ3.le _ _ ((upd_ne (WJ2.ne gcb gd cell_dict)).trans gcb)
  walk_at "r"
  refine x_global FJ3 (by k_is) rfl rfl rfl rfl ?_
  refine x_args FJ3 (by k_is) ?_
  walk_at "r"
  refine x_cell FJ3 rfl gcbJ3 rfl rfl rfl ?_
  walk_at "r"
  refine x_cell FJ3 rfl gceJ3 rfl rfl rfl ?_
  walk_at "r"
  walk_at "p"; refine ⟨FJ3.K,?_⟩
  refine joined FJ3 R (Q1.ok.ends.le hid_le) (Q2.ok.ends.le hid_le) (by exact a20 53221048087825106037518102832354583 hwl hel1) (by rw [hel2,← hel1]; exact P1.rng hwl) (by exact a20 53221048087825106037518102832354583 hwl hel2) (fun e he=>(P2'.rng hwl e he).1) fun sJ4 GJ4 DJ4 esJ4 FJ4 leJ4 henJ4 helJ4 hj=>?_
  clear FJ3
  have WJ4:=WJ3.grow leJ4
  refine unEEA WJ4.st.stk fun vsJ4 rJ4 gSJ4 zSJ4=>?_
  walk_at "r"
  walk_at "p"; refine ⟨pairLine,?_⟩
  walk_at "r"
  refine wpAny_mono (pushPair (it:=⟨a,ra,it1.lo,k+1+1+1,mCat it1.M it2.M,it1.cnt+it2.cnt,DJ4,esJ4⟩) (n':=i+1) (z':=1+8*(i+1:Nat)) FJ4 WJ4 gSJ4 zSJ4 ⟨(hid_made MJ3 (WJ2.madeMu (made_dict MJ3.le BJ3))).le (hid_Le leJ4),reg_cat P1.ok.reg P2'.ok.reg h12 P2.hi (inAAA iJ3 fJ3 fuJ3 EJ3),hid_ends henJ4 WJ3.st.mu,ends_joined P1.ok.ok P2'.ok.ok P1.ok.reg.mono P2'.ok.reg.mono (by rw [q.wsl]; exact hwl) helJ4 hj⟩ P1.lo (Int.le_refl _) (by simp only; exact a40 1655193571578646132596067590902 hcnt) (by exact a21 2923909657264428429424590337650976165302289100966157486518167144069579159075591264896246 hroom) (by exact a10 360699317077048744164997612462342064316679 hi)) (fun v s' hv=>?_) fun _ _ e=>e
  refine unAEA hv fun y2 GJ5 FJ5 WJ5=>?_; clear hv; subst y2
  walk_at "r"
  walk_at "p"; exact (inAEEEEA rfl GJ5 _ _ _ FJ5 WJ5)
 ·rw [if_neg (by rw [decide_eq_true_eq]; exact h7)]
  walk_at "r"
  refine x_bmethod FJ2 gS rfl rfl PySem.F.plainAttrs_list PySem.F.slot_list_append PySem.F.type_list_append ?_
  walk_at "d"
  refine x_method FJ2 (C:=424) (f:=393) WJ2.st.bld.1 gd (by k_is) (by k_is) (by k_is) m5 ?_
  refine x_args FJ2 (by k_is) ?_
  walk_at "r"
  walk_at "p"; refine ⟨FJ2.K,?_⟩
  refine b_choice FJ2 (R.less (k:=n+3) (by exact a10 48441150123036223999254)) WJ2.st.bld (by exact kq ‹_›) (P1.ok.nfa.le hid_le) P1.not (P1.ini (by exact kr ‹_›)) (P1.fin (by exact kr ‹_›)) (P2'.ok.nfa.le hid_le) P2'.not (P2'.ini (by exact kr ‹_›)) (P2'.fin (by exact kr ‹_›)) fun sJ3 GJ0 GJ3 a ra FJ3 hGJ0 MJ3 BJ3 iJ3 fJ3 fuJ3 EJ3=>?_
  clear FJ2
  refine unE hGJ0 fun oJ3 y3=>?_; clear hGJ0; subst y3
  have WJ3:=WJ2.made MJ3.le BJ3 (z':=1+8*i+6) (by exact a01 55532814065417235504854) (by exact a21 3214872666728777965698882457192586263666898335663739163375241257622005454234627242612490768919790838 hroom)
  have Q1:=P1.le (made_hid MJ3.le)
  have Q2:=P2'.le (made_hid MJ3.le)
  have gceJ3:=MJ3.le _ _ ((upd_ne (WJ2.ne gceJ2 gd cell_dict)).trans gceJ2)
  have gcbJ3:=MJ3.le _ _ ((upd_ne (WJ2.ne gcb gd cell_dict)).trans gcb)
  refine unEEA (Q1.ok.ends.le hid_le) fun vs1 k1 g1 z1=>?_
  refine unEEA (Q2.ok.ends.le hid_le) fun vs2 k2 g2 z2=>?_
  have hz1:=z1.length
  have hz2:=z2.length
  walk_at "r"
  refine x_ListComp (cl:=[(("ends" : Str),q.ce),(("begun" : Str),q.cb)]) rfl (by decide) rfl (by decide) (law_comp (T:=fun p e=>∀ x,x∈e↔x∈at2 it1.es p∨x∈at2 it2.es p) FJ3 R hwl rfl WJ3.gz rfl rfl rfl rfl rfl rfl rfl ?helt ?hQ) (fun _=>rfl)
  case helt =>
   intro p hp OJ2 C G' m' sJ2 tp le FJ4 hm
   obtain ⟨e1,he1⟩:∃ e,it1.es[p]?=some e:=⟨it1.es[p]'(by exact a30 51991848683809401776856 hel1 hp),List.getElem?_eq_getElem _⟩
   obtain ⟨v1,hv1⟩:∃ v,vs1[p]?=some v:=⟨vs1[p]'(by exact a40 1744556951218594808565743004441 hel1 hz1 hp),List.getElem?_eq_getElem _⟩
   refine unEAEEA (z1.get hv1 he1) fun b1 y4 u1 kk1 ge1 hu1=>?_; subst y4
   obtain ⟨e2,he2⟩:∃ e,it2.es[p]?=some e:=⟨it2.es[p]'(by exact a30 51991848683809401776856 hel2 hp),List.getElem?_eq_getElem _⟩
   obtain ⟨v2,hv2⟩:∃ v,vs2[p]?=some v:=⟨vs2[p]'(by exact a40 1744556951218594808565743004441 hel2 hz2 hp),List.getElem?_eq_getElem _⟩
   refine unEAEEA (z2.get hv2 he2) fun b2 y5 u2 kk2 ge2 hu2=>?_; subst y5
   have hr1:=P1.rng hwl e1 (List.mem_of_getElem? he1)
   have hr2:=P2'.rng hwl e2 (List.mem_of_getElem? he2)
   walk_at "r"
   refine x_builtin FJ4 (by k_is) (v:=.builtin "sorted") rfl (by decide) rfl rfl rfl rfl rfl ?_
   walk_at "r"
   refine x_builtin FJ4 (by k_is) (v:=.type "set") rfl (by decide) rfl rfl rfl rfl rfl ?_
   walk_at "r"
   refine wpAny_BinOp ?_
   walk_at "r"
   refine x_cell FJ4 rfl (le _ _ gcbJ3) rfl rfl rfl ?_
   walk_at "r"
   refine x_getItemTail_list FJ4 (le _ _ g1) (by exact Int.natCast_nonneg _) (by exact a20 1663157752744533031650873622667447 hwl hp) (by simpa using hv1) ?_
   walk_at "r"
   refine x_cell FJ4 rfl (le _ _ gceJ3) rfl rfl rfl ?_
   walk_at "r"
   refine x_getItemTail_list FJ4 (le _ _ g2) (by exact a10 1545926) (by exact a20 1663157752744533031650873622667447 hwl hp) (by simpa using hv2) ?_
   refine sortedSet2 FJ4 R (le _ _ ge1) (le _ _ ge2) hu1 hu2 hr1.1 hr2.1 (fun x hx=>?_) fun rJ4 sJ4 hset=>?_
   ·rcases hx with hx | hx
    ·have:=hr1.2 x hx; exact ⟨a01 1638731398854 this.1,a21 57145665249013041549718108445490501958767894 hwl hel1 this.2⟩
    ·have:=hr2.2 x hx; exact ⟨a01 1638731398854 this.1,a21 57145665249013041549718108445490501958767894 hwl hel2 this.2⟩
   ·walk_at "r"
    refine hset _ fun S sJ5 hsort=>?_
    walk_at "r"
    refine hsort _ fun BJ2 sJ6 GJ6 eJ6 FJ6 leJ6 hBJ2 hIL hl5 hmJ6=>?_
    walk_at "p"; refine (inEEAAEEAAAA GJ6 _ FJ6 leJ6 BJ2 eJ6 rfl hBJ2 hIL hl5 (fun x=>?_))
    have hat1:at2 it1.es (p:Int)=e1:=by unfold at2; rw [show ((p:Int)).toNat=p from rfl,he1]; rfl
    have hat2:at2 it2.es (p:Int)=e2:=by unfold at2; rw [show ((p:Int)).toNat=p from rfl,he2]; rfl
    rw [hmJ6,hat1,hat2]
  case hQ =>
   intro GJ4 D ess le hen helJ3 hes sJ4 FJ4
   clear FJ3
   have WJ4:=WJ3.grow le
   refine unEEA WJ4.st.stk fun vsJ4 rJ4 gSJ4 zSJ4=>?_
   walk_at "r"
   walk_at "p"; refine ⟨pairLine,?_⟩
   walk_at "r"
   refine wpAny_mono (pushPair (it:=⟨a,ra,it1.lo,k+1+1+1+1+1+1,mAlt it1.M it2.M,it1.cnt+it2.cnt,D,ess⟩) (n':=i+1) (z':=1+8*(i+1:Nat)) FJ4 WJ4 gSJ4 zSJ4 ⟨(hid_made MJ3 (WJ2.madeMu (made_dict MJ3.le BJ3))).le (hid_Le le),reg_alt P1.ok.reg P2'.ok.reg h12 P2.hi (inAAA iJ3 fJ3 fuJ3 EJ3),hid_ends hen WJ3.st.mu,ends_alt P1.ok.ok P2'.ok.ok (by rw [helJ3,q.wsl]) hes⟩ P1.lo (Int.le_refl _) (by simp only; exact a40 1655193571578646132596067590902 hcnt) (by exact a21 3139524088602322232127814899602135023112205410646722101845272198410140709178211518648140038374646 hroom) (by exact a10 360699317077048744164997612462342064316679 hi)) (fun v s' hv=>?_) fun _ _ e=>e
   refine unAEA hv fun y6 GJ5 FJ5 WJ5=>?_; clear hv; subst y6
   walk_at "r"
   walk_at "p"; exact (inAEEEEA rfl GJ5 _ _ _ FJ5 WJ5)
end
end
section
noncomputable def e1B:List Stmt:=match turnB with | [_,.If _ _ o _]=>o | _=>[]
noncomputable def e2B:List Stmt:=match turnB with | [_,.If _ _ [.If _ _ o _] _]=>o | _=>[]
section
variable {c:Cx} {O:List (Addr×Obj)} {L' fa:Addr} {qual:Str} {code:Value} {q:LC} {G G':View} {m:Str→Option Value} {A:Around} {E:Value→Shared→Prop} {s:Shared} {n:Nat} {k:Int} {its:List Item} {i:Nat} {pk:Int} {tp:Tok}
theorem turnElse2 (F:Fx c O L' G m s) (R:Room A (n+5)) (W:Lw c q G m k its i (1+8*i)) (hi:i≤6) (hp:m ("pick" : Str)=some (.int pk tp)) :
  wpAny (model c.prog c.w) A (execs e2B (envL q L' qual fa code)) (After c O L' q (i+1)) (fun _ _=>False) s:=by
 delta e2B turnB fd443 fx443
 walk_at "r"
 refine PyProof.Rows.eq_int ?_
 refine wpAny_truthy_bool ?_
 replace F:=F.eta (t:=s.toks+1) (d:=s.drawn)
 by_cases h4:pk=4
 ·rw [if_pos (beq_iff_eq.mpr h4)]
  refine wpAny_mono (brC F R W hi) (fun f s' hf=>?_) fun _ _ e=>e
  obtain ⟨rfl,r⟩:=hf
  walk_at "r"
  walk_at "p"; exact ⟨rfl,r⟩
 ·rw [if_neg (by rw [beq_iff_eq]; exact h4)]
  walk_at "r"
  refine PyProof.Rows.eq_int ?_
  refine wpAny_truthy_bool ?_
  replace F:=F.eta (t:=s.toks+1+1) (d:=s.drawn)
  by_cases h3:pk=3
  ·rw [if_pos (beq_iff_eq.mpr h3)]
   refine wpAny_mono (brD F R W hi) (fun f s' hf=>?_) fun _ _ e=>e
   obtain ⟨rfl,r⟩:=hf
   walk_at "r"
   walk_at "p"; exact ⟨rfl,r⟩
  ·rw [if_neg (by rw [beq_iff_eq]; exact h3)]
   refine wpAny_mono (brE F R W hi hp) (fun f s' hf=>?_) fun _ _ e=>e
   obtain ⟨rfl,r⟩:=hf
   walk_at "r"
   walk_at "p"; exact ⟨rfl,r⟩
theorem turnElse1 (F:Fx c O L' G m s) (R:Room A (n+5)) (W:Lw c q G m k its i (1+8*i)) (hi:i≤6) (hp:m ("pick" : Str)=some (.int pk tp)) :
  wpAny (model c.prog c.w) A (execs e1B (envL q L' qual fa code)) (After c O L' q (i+1)) (fun _ _=>False) s:=by
 delta e1B turnB fd443 fx443
 have hms:=W.ms
 refine unEEA W.st.stk fun vs r gS zS=>?_
 have hlen:=zS.length
 have hroom:=W.st.room
 have other:∀ s',Fx c O L' G m s'→wpAny (model c.prog c.w) A (execs e2B (envL q L' qual fa code)) (fun f sJ2=>After c O L' q (i+1) .next sJ2∧f=.next) (fun _ _=>False) s':=fun s' F' =>
  wpAny_mono (turnElse2 F' R W hi hp) (fun f s'' hf=>by obtain ⟨rfl,r⟩:=hf; exact ⟨⟨rfl,r⟩,rfl⟩) fun _ _ e=>e
 walk_at "r"
 refine PyProof.Rows.gt_int ?_
 refine wpAny_truthy_bool ?_
 replace F:=F.eta (t:=s.toks+1) (d:=s.drawn)
 by_cases h4:4<pk
 ·rw [if_pos (decide_eq_true h4)]
  walk_at "r"
  refine x_builtin F (by k_is) (v:=.builtin "len") rfl (by decide) rfl rfl rfl rfl rfl ?_
  walk_at "r"
  refine x_lenList F gS (by exact a31 468214482733707526446043040092761529502526409195180717442936396418427552023 hi hlen hroom.1 hroom.2) fun sJ3 tJ3 FJ3=>?_
  clear F
  walk_at "r"
  refine PyProof.Rows.gt_int ?_
  refine wpAny_truthy_bool ?_
  replace FJ3:=FJ3.eta (t:=sJ3.toks+1) (d:=sJ3.drawn)
  by_cases h1:1<vs.length
  ·rw [if_pos (by rw [decide_eq_true_eq]; exact a10 46942920382151 h1)]
   refine isTrue_and_nil ?_
   refine ite_tt ?_
   rcases List.eq_nil_or_concat its with rfl | ⟨itsJ1,it2,rfl⟩
   ·simp at hlen; simp [hlen] at h1
   rcases List.eq_nil_or_concat itsJ1 with rfl | ⟨itsJ2,it1,rfl⟩
   ·simp at hlen; exact False.elim (a10 46942920220373 h1 hlen)
   simp only [List.concat_eq_append] at *
   refine wpAny_mono (brB FJ3 R W hi hp) (fun f s' hf=>?_) fun _ _ e=>e
   obtain ⟨rfl,r⟩:=hf
   walk_at "r"
   walk_at "p"; exact ⟨rfl,r⟩
  ·rw [if_neg (by rw [decide_eq_true_eq]; exact a10 51340967024327 h1)]
   refine wpAny_mono (other _ FJ3) (fun f s' hf=>?_) fun _ _ e=>e
   obtain ⟨hf,rfl⟩:=hf
   walk_at "p"; exact hf
 ·rw [if_neg (by rw [decide_eq_true_eq]; exact h4)]
  refine wpAny_mono (other _ F) (fun f s' hf=>?_) fun _ _ e=>e
  obtain ⟨hf,rfl⟩:=hf
  walk_at "p"; exact hf
theorem lawTurn {v:Int} {tv:Tok} (F:Fx c O L' G m s) (R:Room A (n+5)) (W:Lw c q G m k its i (1+8*i)) (hi:i≤6) (hp:m ("number" : Str)=some (.int v tv)) :
  wpAny (model c.prog c.w) A (execs turnB (envL q L' qual fa code)) (After c O L' q (i+1)) (fun _ _=>False) s:=by
 delta turnB fd443 fx443
 walk_at "r"
 refine wpAny_BinOp ?_
 walk_at "r"
 refine PyProof.Rows.mod_int (by decide) ?_
 have FJ1:=F.eta (t:=s.toks+1+1) (d:=s.drawn)
 clear F
 refine x_store FJ1 rfl rfl fun sJ2 FJ2=>?_
 clear FJ1
 have WJ2:=W.names (m':=setL m ("pick" : Str) (.int (v.fmod 12) (s.toks+1))) W.mb W.ms W.mn
 clear W
 try dsimp only
 refine unEEA WJ2.st.stk fun vs r gS zS=>?_
 have hlen:=zS.length
 have hroom:=WJ2.st.room
 have hp:(setL m ("pick" : Str) (Value.int (v.fmod 12) (s.toks+1))) ("pick" : Str)=some (.int (v.fmod 12) (s.toks+1)):=rfl
 generalize (setL m ("pick" : Str) (Value.int (v.fmod 12) (s.toks+1)))=mJ2 at *
 generalize v.fmod 12=pk at *
 generalize s.toks+1=tp at *
 have hms:=WJ2.ms
 have other:∀ s',Fx c O L' G mJ2 s'→wpAny (model c.prog c.w) A (execs e1B (envL q L' qual fa code)) (fun f sJ2=>After c O L' q (i+1) .next sJ2∧f=.next) (fun _ _=>False) s':=fun s' F' =>
  wpAny_mono (turnElse1 F' R WJ2 hi hp) (fun f s'' hf=>by obtain ⟨rfl,r⟩:=hf; exact ⟨⟨rfl,r⟩,rfl⟩) fun _ _ e=>e
 walk_at "r"
 refine PyProof.Rows.gt_int ?_
 refine wpAny_truthy_bool ?_
 replace FJ2:=FJ2.eta (t:=sJ2.toks+1) (d:=sJ2.drawn)
 by_cases h8:8<pk
 ·rw [if_pos (decide_eq_true h8)]
  walk_at "r"
  refine x_builtin FJ2 (by k_is) (v:=.builtin "len") rfl (by decide) rfl rfl rfl rfl rfl ?_
  walk_at "r"
  refine x_lenList FJ2 gS (by exact a31 468214482733707526446043040092761529502526409195180717442936396418427552023 hi hlen hroom.1 hroom.2) fun sJ3 tJ3 FJ3=>?_
  clear FJ2
  walk_at "r"
  refine PyProof.Rows.gt_int ?_
  refine wpAny_truthy_bool ?_
  replace FJ3:=FJ3.eta (t:=sJ3.toks+1) (d:=sJ3.drawn)
  by_cases h1:0<vs.length
  ·rw [if_pos (by rw [decide_eq_true_eq]; exact a10 46941846640326 h1)]
   refine isTrue_and_nil ?_
   refine ite_tt ?_
   rcases List.eq_nil_or_concat its with rfl | ⟨itsJ1,it1,rfl⟩
   ·simp at hlen; simp [hlen] at h1
   simp only [List.concat_eq_append] at *
   refine wpAny_mono (brA FJ3 R WJ2 hi hp) (fun f s' hf=>?_) fun _ _ e=>e
   obtain ⟨rfl,r⟩:=hf
   walk_at "r"
   walk_at "p"; exact ⟨rfl,r⟩
  ·rw [if_neg (by rw [decide_eq_true_eq]; exact a10 51339893282502 h1)]
   refine wpAny_mono (other _ FJ3) (fun f s' hf=>?_) fun _ _ e=>e
   obtain ⟨hf,rfl⟩:=hf
   walk_at "p"; exact hf
 ·rw [if_neg (by rw [decide_eq_true_eq]; exact h8)]
  refine wpAny_mono (other _ FJ2) (fun f s' hf=>?_) fun _ _ e=>e
  obtain ⟨hf,rfl⟩:=hf
  walk_at "p"; exact hf
end
end
section
noncomputable def tail3B:List Stmt:=match fd443.body with | .stmts (_::_::_::_::_::_::_::_::_::_::_::r)=>r | _=>[]
section
variable {c:Cx} {O:List (Addr×Obj)} {L' fa:Addr} {qual:Str} {code:Value} {q:LC} {G G':View} {m:Str→Option Value} {A:Around} {E:Value→Shared→Prop} {s:Shared} {n:Nat} {k:Int} {it:Item}
noncomputable abbrev LawEnd (c:Cx) (O:List (Addr×Obj)) (L':Addr) (f:Flow) (s:Shared):Prop:=f=.ret (.bool true)∧∃ G m P,Fx c O L' G m s∧G 332=some (tabObj P)
theorem lawTail3 (F:Fx c O L' G m s) (R:Room A (n+6)) (N:Nest c) (W:Lw c q G m k [it] 6 54) :
  wpAny (model c.prog c.w) A (execs tail3B (envL q L' qual fa code)) (LawEnd c O L') (fun _ _=>False) s:=by
 delta tail3B fd443 fx443
 try dsimp only
 have hms:=W.ms
 have hwl:=W.wl
 refine unEEA W.st.stk fun vs r gS zS=>?_
 (first | refine wpAny_execs_cons ?_ | (refine absEnd (by assumption) (seqN ?_); refine wpAny_execs_cons ?_))
 refine Assign_Tuple ?_
 walk_at "r"
 refine x_bmethod F gS rfl rfl PySem.F.plainAttrs_list PySem.F.slot_list_pop PySem.F.type_list_pop ?_
 walk_at "d"
 refine popPair (its:=[]) F R W (by decide) rfl rfl rfl (.inl rfl) (by decide) fun sJ1 GJ1 FJ1 WJ1 P gce kp le=>?_
 clear F W gS zS hms kp le
 try dsimp only
 have hk:k≤51:=by have:=P.room; simp at this; exact a01 1906548601476258920577943036022038 this
 have hcnt:it.cnt≤6:=by have:=P.cnt; simpa using this
 have hhi:it.hi<60:=by have:=P.hi; exact a02 59579640194149771708423242576151 hk this
 have hN:=P.ok.nfa
 have hsm:=P.ok.reg.small P.l0 hhi
 have hthin:=P.ok.reg.thin hN
 refine unEA (P.ok.reg.home hcnt P.l0 hhi) fun U hU hUf=>?_
 have hNJ1:=hN.le (hid_le (mu:=q.mu) (G:=GJ1))
 refine unEEEEE hNJ1.attrs fun u1 u2 u3 tk0 k0 hdx=>?_
 walk_at "r"
 refine x_method FJ1 (C:=229) (f:=226) hNJ1.inst hdx (by k_is) (by k_is) (by k_is) rfl ?_
 refine x_args0 FJ1 (by k_is) ?_
 refine to_dfa FJ1 (R.less (k:=n+5) (by exact Nat.le_succ _)) hNJ1 hthin hsm P.ok.reg.full hU fun sJ2 GJ2 d qd sn Vis FJ2 DJ2 leJ2 newJ2 WdJ2=>?_
 clear FJ1
 refine x_store FJ2 rfl rfl (let MJ3:=setL _ _ _; fun sJ3 (FJ3:Fx _ _ _ _ MJ3 sJ3)=>?_)
 clear FJ2
 walk_at "d"
 refine x_global FJ3 (by k_is) rfl rfl rfl rfl ?_
 refine x_args FJ3 (by k_is) ?_
 walk_at "r"
 have FJ4:=FJ3.eta (t:=sJ3.toks+1) (d:=sJ3.drawn)
 clear FJ3
 walk_at "p"; refine ⟨FJ4.K,?_⟩
 have hnP:¬ qd.has d 332:=fun hb=>by have:=newJ2 _ hb; rw [WJ1.gP] at this; exact snN this
 have hUU:∀ k∈qd.U,k∈U:=fun k hk=>WdJ2.home▸hk
 have hlen:=hU.size
 have inU:∀ {k l k'},qd.nx k l=some k'→k∈U∧k'∈U:=fun {k l k'} e=>by
  refine unE (DJ2.sub _ _ _ e) fun b hb=>?_
  have hkU:=hUU _ (DJ2.bD _ _ hb)
  refine unAAA (WdJ2.nxS _ _ _ e) fun h1 h2 _ y1=>?_; subst y1
  walk_at "p"; exact ⟨hkU,hU.step _ hkU _ h1 h2⟩
 have inU2:∀ {k k'},qd.df k=some k'→k∈U∧k'∈U:=fun {k k'} e=>by
  have hkU:=hUU _ (DJ2.bd _ _ e)
  obtain ⟨h1,rfl⟩:=WdJ2.dfS _ _ e
  walk_at "p"; exact ⟨hkU,hU.step _ hkU _ h1 any_ne_eps⟩
 have hfn:∀ k∈qd.fin,k∈U∧k≠[]:=fun k hk=>⟨hUU _ (DJ2.bF _ hk),fun e=>by refine unEA (WdJ2.fnS _ hk) fun x _ hx=>?_; rw [e] at hx; exact niP hx⟩
 have hnd:qd.fin.Nodup:=by refine unEA DJ2.fs fun o _ hS=>?_; exact hS.nodup
 have hfl:qd.fin.length<64:=by have:=hUf qd.fin hnd fun k hk=>⟨(hfn k hk).1,WdJ2.fnS _ hk⟩; exact Nat.lt_succ_of_le ‹_›
 refine renumber (V:=U) FJ4 (R.less (k:=n+5) (by exact Nat.le_succ _)) N (leJ2 _ _ WJ1.gP) DJ2 hnP hlen (WdJ2.ini▸hU.ini) (fun _ _ _ e=>inU e) (fun _ _ e=>inU2 e) hfn hfl fun sJ5 GJ5 P' d' q' f' FJ5 leJ5 DJ5 ren=>?_
 clear FJ4
 have up:∀ {b o},b≠332→GJ2 b=some o→GJ5 b=some o:=fun {b o} hb e=>leJ5 _ _ ((upd_ne hb).trans e)
 have hidUp:Le (hid q.mu GJ1) GJ5:=fun b o e=>up (fun p=>hid_not e (p▸q.pm)) (leJ2 _ _ (hid_le _ _ e))
 have gPJ5:GJ5 332=some (tabObj P'):=leJ5 _ _ (upd_self _ _ _)
 have gzJ5:=up (fun p:q.cz=332=>WJ1.zN (p▸q.pm)) (leJ2 _ _ WJ1.gz)
 have gwJ5:=up (fun p:q.cw=332=>WJ1.wN (p▸q.pm)) (leJ2 _ _ WJ1.gw)
 have geJ5:=up (WJ1.ne gce WJ1.gP cell_tab) (leJ2 _ _ gce)
 have hNJ5:=hN.le hidUp
 have hd5:=DJ2.mono (G':=GJ5) (fun b o hb e=>up (fun p=>hnP (p▸hb)) e) (fun b o e t=>up (fun p=>by subst p; rw [leJ2 _ _ WJ1.gP] at e; cases e; cases t) e)
 refine unEEA (P.ok.ends.le hidUp) fun vse ke gea zea=>?_
 have hze:=zea.length
 have hel:=P.elen
 have hM:=P.ok.reg
 have hok:=P.ok.ok
 clear leJ2 newJ2 leJ5 up hidUp hNJ1 hdx gce DJ2
 refine unEEEEE hNJ5.attrs fun u1 u2 u3 tk0 k0 hdx=>?_
 refine x_store FJ5 rfl rfl (let MJ6:=setL _ _ _; fun sJ6 (FJ6:Fx _ _ _ _ MJ6 sJ6)=>?_)
 clear FJ5
 try dsimp only
 obtain ⟨e0,he0⟩:∃ e,it.es[0]?=some e:=⟨it.es[0]'(by exact a20 1549477836008134 hel),List.getElem?_eq_getElem _⟩
 obtain ⟨v0,hv0⟩:∃ v,vse[0]?=some v:=⟨vse[0]'(by exact a30 52819947361537030662854 hze hel),List.getElem?_eq_getElem _⟩
 refine unEAEEA (zea.get hv0 he0) fun b0 y1 us0 k0' g0 hu0=>?_; subst y1
 have hmem:∀ p:Nat,p≤q.w.length→((p:Int)∈e0↔it.r.acc (q.ws.take p)):=fun p hp=>by
  rw [hM.acc (by rw [q.wsl]; exact hp),(hok.2 0 e0 he0).2]
  exact ⟨fun v1=>unEA v1 fun j e h=>by have:j=p:=(by exact Nat.le_antisymm (a20 1765512543512279 e) (a20 1730328171423478 e)); rw [← this]; exact h,fun h=>(inEA p rfl h)⟩
 walk_at "r"
 refine x_method FJ6 (C:=229) (f:=128) hNJ5.inst hdx (by k_is) (by k_is) (by k_is) rfl ?_
 refine x_args FJ6 (by k_is) ?_
 walk_at "r"
 refine x_cell FJ6 rfl gwJ5 rfl rfl rfl ?_
 walk_at "r"
 walk_at "p"; refine ⟨FJ6.K,?_⟩
 refine n_accept FJ6 (R.less (k:=n+4) (by exact a10 48441150158220596089110)) hNJ5 hthin hsm WJ1.asc fun sJ7 bJ7 FJ7 hbJ7=>?_
 clear FJ6
 walk_at "r"
 refine x_cell FJ7 rfl gzJ5 rfl rfl rfl ?_
 walk_at "r"
 refine x_cell FJ7 rfl geJ5 rfl rfl rfl ?_
 walk_at "r"
 have FJ8:=FJ7.eta (t:=sJ7.toks+1) (d:=sJ7.drawn)
 clear FJ7
 refine x_getItemTail_list FJ8 gea (by decide) (by decide) hv0 ?_
 refine x_inInts FJ8 g0 hu0 fun bJ8 hbJ8=>?_
 refine PyProof.Rows.ne_bool ?_
 refine wpAny_truthy_bool ?_
 have hbb:(bJ7 != bJ8)=false:=by
  have h1:bJ7=true↔bJ8=true:=by
   rw [hbJ7,hbJ8,hmem _ (Nat.le_refl _),← q.wsl,List.take_length]
  cases bJ7 <;> cases bJ8 <;> simp_all
 rw [hbb]
 walk_at "r"
 refine x_builtin FJ8 (by k_is) (v:=.type "range") rfl (by decide) rfl rfl rfl rfl rfl ?_
 walk_at "r"
 refine wpAny_BinOp ?_
 refine x_cell FJ8 rfl gzJ5 rfl rfl rfl ?_
 walk_at "r"
 refine PyProof.Rows.add_int ?_
 have FJ9:=FJ8.eta (t:=sJ7.toks+1+1+1) (d:=sJ7.drawn)
 clear FJ8
 walk_at "r"
 have e1:((q.w.length:Int)+1)=((q.w.length+1:Nat):Int):=by exact Int.le_antisymm (a10 51850176928950) (a10 51719113442550)
 refine x_range1 (FJ9.toks rfl rfl rfl) fun rJ9 sJ9 tJ9 uJ9 vJ9 hrJ9 FJ10=>?_
 clear FJ9
 rw [e1] at FJ10
 refine x_iter_range (n:=q.w.length+1) FJ10 (upd_self _ _ _) (small_up (by exact Nat.lt_succ_of_le ‹_›)).1 (small_up (by exact Nat.lt_succ_of_le ‹_›)).2 fun I sJ10 oI hI FJ11=>?_
 clear FJ10
 have FJ11:=FJ11.forget hrJ9
 refine x_forLoop (It.range 0 1 (q.w.length+1)) R.handled FJ11 hI rfl rfl (fun i G' m'=>G'=GJ5∧m' ("dfa" : Str)=some (.ref d)∧m' ("anew" : Str)=some (.ref d'))
  (inAA rfl rfl rfl) (fun _ _ _ _=>trivial) ?body ?fin
 case fin =>
  intro G' m' sJ11 z1 FJ12; refine unAA z1 fun y2 _ _=>?_; clear z1; clear DJ5 gzJ5 gwJ5 geJ5 hNJ5 hd5 gea zea hdx g0 hrJ9 FJ11; subst y2
  walk_at "d"
  walk_at "p"; exact (inAEEE rfl G' m' P' (inA FJ12 gPJ5))
 case body =>
  intro p v OJ2 G' m' sJ11 hp z2 z3 FJ12 Qt hQt; refine unE z2 fun tk y3=>?_; clear z2; subst y3; refine unAA z3 fun y4 hd1 hd2=>?_; clear z3; clear gPJ5 gzJ5 hNJ5 zea hdx hrJ9 FJ11; subst y4
  have e2:(0+(p:Int)*1)=(p:Int):=by exact Int.le_antisymm (a10 51872505501382) (a10 51715942062262)
  rw [e2] at FJ12
  have hpl:p≤q.w.length:=by exact Nat.le_of_lt_succ ‹_›
  walk_at "r"
  refine x_cell FJ12 rfl geJ5 rfl rfl rfl ?_
  walk_at "r"
  have FJ13:=FJ12.eta (t:=sJ11.toks+1) (d:=sJ11.drawn)
  clear FJ12
  refine x_getItemTail_list FJ13 gea (by decide) (by decide) hv0 ?_
  refine x_inInts FJ13 g0 hu0 fun bd hbd=>?_
  refine x_store FJ13 rfl rfl (let MJ12:=setL _ _ _; fun sJ12 (FJ14:Fx _ _ _ _ MJ12 sJ12)=>?_)
  clear FJ13
  have hbd:bd=true↔it.r.acc (q.ws.take p):=hbd.trans (hmem p hpl)
  have hasc:∀ {y:Str},y.cps.toList=q.ws.take p→y.cps.all (·<128)=true:=fun {y} e=>by
   have h0:=WJ1.asc
   rw [← Array.all_toList,List.all_eq_true] at h0 ⊢
   intro x hx
   rw [e] at hx
   walk_at "p"; exact h0 x (List.mem_of_mem_take hx)
  walk_at "d"
  refine PyProof.Rows.isTrue_or ?_
  walk_at "r"
  refine unEEAAAAA hd5.dAttr fun es k' hdx _ _ _ _ w=>?_; have y4:=w.2.2.2.2.1; clear w
  refine x_method FJ14 (C:=327) (f:=128) hd5.inst hdx (by k_is) (by k_is) (by k_is) y4 ?_
  refine x_args FJ14 (by k_is) ?_
  walk_at "r"
  refine x_cell FJ14 rfl gwJ5 rfl rfl rfl ?_
  refine wpAny_Slice ?_
  refine evalPart_none_step ?_
  refine evalPart_some_step ?_
  walk_at "r"
  refine evalPart_none_step ?_
  try dsimp only
  refine x_strSlice FJ14 hpl (Nat.le_trans hwl (by decide)) (fun us y ut uF hy=>?_)
  walk_at "r"
  walk_at "p"; refine ⟨uF.K,?_⟩
  refine d_accept kdsTup kdnTup kdtr_tup uF (R.less (k:=n+4) (by exact a10 48441150158220596089110)) hd5 (WdJ2.true60 hsm hM.full) (hasc hy) fun us' ub uG hb=>?_
  clear uF
  have hb:ub=true↔it.r.acc (q.ws.take p):=by rw [hb,hy]; exact WdJ2.acc hsm _
  walk_at "r"
  refine PyProof.Rows.ne_bool ?_
  have hbb:(ub != bd)=false:=by
   have h1:ub=true↔bd=true:=hb.trans hbd.symm
   revert h1
   cases ub <;> cases bd <;> simp
  rw [hbb]
  refine wpAny_truthy_bool ?_
  refine ite_ff ?_
  refine PyProof.Rows.isTrue_or ?_
  clear hdx y4 hb hbb FJ14
  walk_at "r"
  refine unEEAAAAA DJ5.dAttr fun es k' hdx _ _ _ _ w=>?_; have y4:=w.2.2.2.2.1; clear w
  refine x_method uG (C:=327) (f:=128) DJ5.inst hdx (by k_is) (by k_is) (by k_is) y4 ?_
  refine x_args uG (by k_is) ?_
  walk_at "r"
  refine x_cell uG rfl gwJ5 rfl rfl rfl ?_
  refine wpAny_Slice ?_
  refine evalPart_none_step ?_
  refine evalPart_some_step ?_
  walk_at "r"
  refine evalPart_none_step ?_
  try dsimp only
  refine x_strSlice uG hpl (Nat.le_trans hwl (by decide)) (fun ws y wt wF hy=>?_)
  walk_at "r"
  walk_at "p"; refine ⟨wF.K,?_⟩
  refine d_accept kdsInt kdnInt kdtr_int wF (R.less (k:=n+4) (by exact a10 48441150158220596089110)) DJ5 ren.true_ (hasc hy) fun ws' wb wG hb=>?_
  clear wF
  have hb:wb=true↔it.r.acc (q.ws.take p):=by rw [hb,hy]; exact (ren.acc _).trans (WdJ2.acc hsm _)
  walk_at "r"
  refine PyProof.Rows.ne_bool ?_
  have hbb:(wb != bd)=false:=by
   have h1:wb=true↔bd=true:=hb.trans hbd.symm
   revert h1
   cases wb <;> cases bd <;> simp
  rw [hbb]
  refine wpAny_truthy_bool ?_
  refine ite_ff ?_
  refine PyProof.Rows.isTrue_or_nil ?_
  refine ite_ff ?_
  walk_at "r"
  walk_at "p"; exact (inEEAAA G' _ wG rfl hd1 hd2)
end
end
section
noncomputable def tail2B:List Stmt:=match fd443.body with | .stmts (_::_::_::_::_::_::_::_::_::_::r)=>r | _=>[]
section
variable {c:Cx} {O:List (Addr×Obj)} {L' fa:Addr} {qual:Str} {code:Value} {q:LC} {G G':View} {m:Str→Option Value} {A:Around} {E:Value→Shared→Prop} {s:Shared} {n:Nat} {k:Int} {its:List Item}
theorem lawTail2 (F:Fx c O L' G m s) (R:Room A (n+6)) (N:Nest c) (W:Lw c q G m k its 6 54) (hne:its≠[]) :
  wpAny (model c.prog c.w) A (execs tail2B (envL q L' qual fa code)) (LawEnd c O L') (fun _ _=>False) s:=by
 delta tail2B fd443 fx443
 have RR:=R.less (k:=n+5) (by exact Nat.le_succ _)
 (first | refine wpAny_execs_cons ?_ | (refine absEnd (by assumption) (seqN ?_); refine wpAny_execs_cons ?_))
 refine x_while (fun μ s'=>∃ G m k its,Fx c O L' G m s'∧Lw c q G m k its 6 54∧its≠[]∧μ=its.length) ?turn _ (inEEEEAAA G m k its F W hne rfl)
 clear F W hne
 intro μ s z1; refine unEEEEAAA z1 fun G m k its F W hne y1=>?_; clear z1; subst y1; intro Qt hQt
 have hms:=W.ms
 have hwl:=W.wl
 refine unEEA W.st.stk fun vs r gS zS=>?_
 have hlen:=zS.length
 have hroom:=W.st.room
 walk_at "r"
 refine x_builtin F (by k_is) (v:=.builtin "len") rfl (by decide) rfl rfl rfl rfl rfl ?_
 walk_at "r"
 refine x_lenList F gS (by exact a21 161241631767407724138143649138507824869793382692192534 hlen hroom.1 hroom.2) fun sJ3 tJ3 FJ3=>?_
 clear F
 walk_at "r"
 refine PyProof.Rows.gt_int ?_
 refine wpAny_truthy_bool ?_
 replace FJ3:=FJ3.eta (t:=sJ3.toks+1) (d:=sJ3.drawn)
 rcases List.eq_nil_or_concat its with rfl | ⟨itsJ1,it2,rfl⟩
 ·walk_at "p"; exact absurd rfl hne
 rcases List.eq_nil_or_concat itsJ1 with rfl | ⟨itsJ2,it1,rfl⟩
 ·simp only [List.concat_eq_append,List.nil_append,List.length_singleton] at *
  rw [if_neg (by rw [decide_eq_true_eq]; exact a10 47543142192839 hlen)]
  refine wpAny_execs_nil ?_
  walk_at "p"; exact lawTail3 FJ3 R N W
 ·simp only [List.concat_eq_append] at *
  rw [if_pos (by rw [decide_eq_true_eq]; simp at hlen; exact a20 51982924879692251535047 hlen)]
  (first | refine wpAny_execs_cons ?_ | (refine absEnd (by assumption) (seqN ?_); refine wpAny_execs_cons ?_))
  refine Assign_Tuple ?_
  walk_at "r"
  refine x_bmethod FJ3 gS rfl rfl PySem.F.plainAttrs_list PySem.F.slot_list_pop PySem.F.type_list_pop ?_
  walk_at "r"
  refine popPair FJ3 RR W (by decide) rfl rfl rfl (.inl rfl) (by decide) fun sJ1 GJ1 FJ1 WJ1 P2 gce kpJ1 leJ1=>?_
  clear FJ3 W gS zS hms
  try dsimp only
  have hms:=WJ1.ms
  refine unEEA WJ1.st.stk fun vsJ1 rJ1 gS zS=>?_
  (first | refine wpAny_execs_cons ?_ | (refine absEnd (by assumption) (seqN ?_); refine wpAny_execs_cons ?_))
  refine Assign_Tuple ?_
  walk_at "r"
  refine x_bmethod FJ1 gS rfl rfl PySem.F.plainAttrs_list PySem.F.slot_list_pop PySem.F.type_list_pop ?_
  walk_at "d"
  refine popPair FJ1 RR WJ1 (by decide) rfl rfl rfl (.inr (.inl rfl)) (by decide) fun sJ2 GJ2 FJ2 WJ2 P1 gcb kpJ2 leJ2=>?_
  have gceJ2:=kpJ2 _ _ WJ1.dis.1 (WJ1.ne gce gS cell_lst) gce
  have P2':=P2.le leJ2
  clear FJ1 WJ1 gS zS hms
  try dsimp only
  have hk:0≤k∧k<80:=by have:=WJ2.st.room; have:=P1.room; exact ⟨a01 1638764953286 hroom.1,a11 62473784573296981091609273606464422166 hroom.2⟩
  obtain ⟨hc12,h12⟩:=Chain.snoc.mp P2.lo
  have hroom:=P2.room
  have hcnt:=P2.cnt
  rw [List.length_append,List.length_singleton] at hroom
  rw [List.map_append,List.sum_append] at hcnt
  simp only [List.map_cons,List.map_nil,List.sum_cons,List.sum_nil] at hcnt
  have hel1:=P1.elen
  have hel2:=P2'.elen
  have hms:=WJ2.ms
  have hmb:=WJ2.mb
  refine unEEA WJ2.st.stk fun vsJ2 rJ2 gS zS=>?_
  refine unEEAAAAA WJ2.st.bld.meth fun es nJ1 gd m1 m2 m3 m4 m5=>?_
  walk_at "r"
  refine x_bmethod FJ2 gS rfl rfl PySem.F.plainAttrs_list PySem.F.slot_list_append PySem.F.type_list_append ?_
  walk_at "d"
  refine x_method FJ2 (C:=424) (f:=400) WJ2.st.bld.1 gd (by k_is) (by k_is) (by k_is) m4 ?_
  refine x_args FJ2 (by k_is) ?_
  walk_at "r"
  walk_at "p"; refine ⟨FJ2.K,?_⟩
  refine b_concat FJ2 (R.less (k:=n+3) (by exact a10 48441150158220596088086)) WJ2.st.bld (by exact kq ‹_›) (P1.ok.nfa.le hid_le) P1.not (P1.ini (by exact kr ‹_›)) (P1.fin (by exact kr ‹_›)) (P2'.ok.nfa.le hid_le) P2'.not (P2'.ini (by exact kr ‹_›)) (P2'.fin (by exact kr ‹_›)) fun sJ3 GJ0 GJ3 a ra FJ3 hGJ0 MJ3 BJ3 iJ3 fJ3 fuJ3 EJ3=>?_
  clear FJ2
  refine unE hGJ0 fun oJ3 y2=>?_; clear hGJ0; subst y2
  have WJ3:=WJ2.made MJ3.le BJ3 (z':=57) (by exact a01 51718963371734) (by exact a11 2474841578526942991333086259414300013890781636163483774772445414646 hroom)
  have Q1:=P1.le (made_hid MJ3.le)
  have Q2:=P2'.le (made_hid MJ3.le)
  have gceJ3:=MJ3.le _ _ ((upd_ne (WJ2.ne gceJ2 gd cell_dict)).trans gceJ2)
  have gcbJ3:=MJ3.le _ _ ((upd_ne (WJ2.ne gcb gd cell_dict)).trans gcb)
  walk_at "r"
  refine x_global FJ3 (by k_is) rfl rfl rfl rfl ?_
  refine x_args FJ3 (by k_is) ?_
  walk_at "r"
  refine x_cell FJ3 rfl gcbJ3 rfl rfl rfl ?_
  walk_at "r"
  refine x_cell FJ3 rfl gceJ3 rfl rfl rfl ?_
  walk_at "r"
  walk_at "p"; refine ⟨FJ3.K,?_⟩
  refine joined FJ3 RR (Q1.ok.ends.le hid_le) (Q2.ok.ends.le hid_le) (by exact a20 53221048087825106037518102832354583 hwl hel1) (by rw [hel2,← hel1]; exact P1.rng hwl) (by exact a20 53221048087825106037518102832354583 hwl hel2) (fun e he=>(P2'.rng hwl e he).1) fun sJ4 GJ4 DJ4 esJ4 FJ4 leJ4 henJ4 helJ4 hj=>?_
  clear FJ3
  have WJ4:=WJ3.grow leJ4
  refine unEEA WJ4.st.stk fun vsJ4 rJ4 gSJ4 zSJ4=>?_
  walk_at "r"
  walk_at "p"; refine ⟨pairLine,?_⟩
  walk_at "r"
  refine wpAny_mono (pushPair (it:=⟨a,ra,it1.lo,k+1+1+1,mCat it1.M it2.M,it1.cnt+it2.cnt,DJ4,esJ4⟩) (n':=6) (z':=54) FJ4 WJ4 gSJ4 zSJ4 ⟨(hid_made MJ3 (WJ2.madeMu (made_dict MJ3.le BJ3))).le (hid_Le leJ4),reg_cat P1.ok.reg P2'.ok.reg h12 P2.hi (inAAA iJ3 fJ3 fuJ3 EJ3),hid_ends henJ4 WJ3.st.mu,ends_joined P1.ok.ok P2'.ok.ok P1.ok.reg.mono P2'.ok.reg.mono (by rw [q.wsl]; exact hwl) helJ4 hj⟩ P1.lo (Int.le_refl _) (by simp only; exact a30 1743947384069294462286605095975112467190 hcnt) (by exact a11 2534237776411589623125080329640243214224041553019021215154901104166134 hroom) (by decide)) (fun v s' hv=>?_) fun _ _ e=>e
  refine unAEA hv fun y3 GJ5 FJ5 WJ5=>?_; clear hv; subst y3
  walk_at "r"
  walk_at "p"; exact (inEA (itsJ2.length+1) (by simp) (inEEEEAAA GJ5 _ _ _ FJ5 WJ5 (by simp) (by simp)))
end
end
local macro_rules | `(tactic| walk_at "w")=>`(tactic| with_reducible refine wpAny_execs_cons ?_)
section
noncomputable def tail1B:List Stmt:=match fd443.body with | .stmts (_::_::_::_::_::_::_::_::_::r)=>r | _=>[]
section
variable {c:Cx} {O:List (Addr×Obj)} {L' fa:Addr} {qual:Str} {code:Value} {q:LC} {G G':View} {m:Str→Option Value} {A:Around} {E:Value→Shared→Prop} {s:Shared} {n:Nat} {k:Int} {its:List Item}
theorem lawTail1 {i:Nat} (F:Fx c O L' G m s) (R:Room A (n+6)) (N:Nest c) (W:Lw c q G m k its i (1+8*i)) (hi:i≤6) :
  wpAny (model c.prog c.w) A (execs tail1B (envL q L' qual fa code)) (LawEnd c O L') (fun _ _=>False) s:=by
 delta tail1B fd443 fx443
 have hms:=W.ms
 have hmb:=W.mb
 have hmn:=W.mn
 refine unEEA W.st.stk fun vs r gS zS=>?_
 have hlen:=zS.length
 refine unEEAAAAA W.st.bld.meth fun es nJ1 gd m1 m2 m3 m4 m5=>?_
 walk_at "r"
 refine ⟨listLine (by simp),?_⟩
 have FJ1:=F.push (lst [] 0) rfl (t:=s.toks) (d:=s.drawn)
 have hT:=F.fresh
 clear F
 have le:Le G (upd G s.heap.objs.size (lst [] 0)):=Le.alloc hT
 have WJ1:=W.grow le
 have gT:upd G s.heap.objs.size (lst [] 0) s.heap.objs.size=some (lst [] 0):=upd_self _ _ _
 replace gS:=le _ _ gS
 replace gd:=le _ _ gd
 clear W zS
 clear le; generalize upd G s.heap.objs.size (lst [] 0)=GJ1 at *
 refine x_eqNil (FJ1.toks rfl rfl rfl) R.here gS gT ?_
 refine wpAny_truthy_bool ?_
 cases vs with
 | cons v vs =>
  refine wpAny_execs_nil ?_
  exact lawTail2 FJ1 R N (WJ1.more hi (by exact a10 352245426833055414221973156279674216711 hi)) (fun e=>by clear WJ1; subst e; simp at hlen)
 | nil =>
  have hnil:its=[]:=by cases its with | nil=>rfl | cons _ _=>simp at hlen
  clear hlen; subst hnil
  refine ite_tt ?_
  walk_at "r"
  refine x_bmethod FJ1 gS rfl rfl PySem.F.plainAttrs_list PySem.F.slot_list_append PySem.F.type_list_append ?_
  dsimp only
  walk_at "r"
  refine x_method FJ1 (C:=424) (f:=365) WJ1.st.bld.1 gd (by k_is) (by k_is) (by k_is) m2 ?_
  refine x_args0 FJ1 (by k_is) ?_
  have hk:0≤k∧k<80:=by have:=WJ1.st.room; exact ⟨a01 1638764953286 this.1,a21 415857999355133213345434679858341284427493347335758304854294 hi this.2⟩
  refine b_epsilon FJ1 (R.less (k:=n+3) (by exact a10 48441150158220596088086)) WJ1.st.bld (by exact kq ‹_›) fun sJ2 GJ0 GJ2 a ra FJ2 hGJ0 MJ2 BJ2 iJ2 fJ2 fuJ2 EJ2=>?_
  clear FJ1
  refine unE hGJ0 fun oJ2 y1=>?_; clear hGJ0; subst y1
  walk_at "r"
  refine ⟨pairLine,?_⟩
  have WJ2:=WJ1.made MJ2.le BJ2 (z':=51) (by exact a01 50506800854) (by have:=WJ1.st.room; simp at this ⊢; exact a11 12393534164283669392628511186193441151783068555773174 hi this.2)
  refine unEEA WJ2.st.stk fun vsJ2 rJ2 gSJ2 zSJ2=>?_
  walk_at "r"
  refine wpAny_mono (pushPair (it:=⟨a,ra,k,k+1+1,mEps,1,q.no,q.esn⟩) (n':=6) (z':=54) FJ2 WJ2 gSJ2 zSJ2 ⟨hid_made MJ2 (WJ1.madeMu (made_dict MJ2.le BJ2)),reg_eps iJ2 fJ2 fuJ2 EJ2,WJ2.no,WJ1.nok⟩ WJ1.st.chain (Int.le_refl _) (by simp) (by have:=WJ1.st.room; simp at this ⊢; exact a11 13307455979364262827053909755467749119152216341909796635772150 hi this.2) (by decide)) (fun v s' hv=>?_) fun _ _ e=>e
  refine unAEA hv fun y2 GJ3 FJ3 WJ3=>?_; clear hv; subst y2
  refine wpAny_execs_nil ?_
  exact lawTail2 FJ3 R N WJ3 (by simp)
end
end
section
section
variable {c:Cx} {O:List (Addr×Obj)} {L l:Addr} {G:View} {m:Str→Option Value} {A:Around} {E:Value→Shared→Prop} {s:Shared} {vs:List Value} {ns:List Int}
theorem It.listH (l:Addr) (vs:List Value) (k:Nat):It c [(l,lst vs k)] vs.length (fun i v=>vs[i]?=some v) (itL l) (fun _=>True) where
 next:=fun {O L I G m s A E o i Q} F _ hok hi h=>by
  have hit:s.heap.IsListIter I l i:=(inEAA o F.hid hok.1 hok.2)
  refine wpAny_pyNext_list_item hit ((lst_is vs k).isList F.drop.hid) (x:=vs[i]) (by simp [hi]) fun h' hit' hs=>?_
  refine unEAA hit' fun o' ho' hc' hd'=>?_; clear hit'
  exact h _ _ o' (by simp [hi]) ⟨hc',hd'⟩ (F.turn (s':={ s with heap:=h' }) (fun b x hb e=>(hs.2 b hb).trans e) ho' rfl rfl)
 done:=fun {O L I G m s A E o Q} hh F _ hok h=>by
  have hit:s.heap.IsListIter I l vs.length:=(inEAA o F.hid hok.1 hok.2)
  refine wpAny_pyNext_list_end hh hit ((lst_is vs k).isList F.drop.hid) (by simp) fun h' hs=>?_
  exact h _ (F.ended (s':={ s with heap:=h' }) (fun b x hb e=>hs b x hb e) rfl rfl).drop
theorem Fx.baseList (F:Fx c O L G m s) {xs:Array Value} (hl:c.base.IsList l xs):s.heap.IsList l xs:=by
 refine unEA hl fun o e r=>?_; clear hl
 exact (inEA o (F.keep _ _ e) r)
theorem x_listSlice {value slice:Expr} {a b:Int} {t u:Tok} {Q:Value→Shared→Prop} (F:Fx c O L G m s) (hl:c.base.IsList l vs.toArray) (hI:IntsAre vs ns) (ha:0≤a) (hb:0≤b) (hz:vs.length≤1000)
  (h:∀ D s' ws ms k,Fx c ((D,lst ws k)::O) L G m s'→IntsAre ws ms→ms=(ns.drop (min a.toNat ns.length)).take (min b.toNat ns.length - min a.toNat ns.length)→Q (.ref D) s')
  (hs:subscripted slice false (.ref l) (.ref s.heap.objs.size)=operate [.ref s.heap.objs.size,.ref l] (getItem (.ref l) (.ref s.heap.objs.size)):=by with_unfolding_all rfl)
  (ht:∀ r,letTemporaryGo value (.ref l) r=pure ():=by intro _; with_unfolding_all rfl) :
  wpAny (model c.prog c.w) A (subscriptTail value slice (.ref l) (.ref s.heap.objs.size)) Q E { s with heap:=s.heap.push { cls:=.type "slice",data:=.fields #[.int a t,.int b u,.none] } }:=by
 have hl':s.heap.IsList l vs.toArray:=F.baseList hl
 refine subscriptTail_ops (Heap.IsList.typeIs (s:={ s with heap:=s.heap.push { cls:=.type "slice",data:=.fields #[.int a t,.int b u,.none] } }) (hl'.push _)) list_getitem_lookup
  (wpAny_getItem_list_slice (hl'.push _) (Heap.IsSliceOf.new ..) (.int a t) (.int b u) .none (by simp) ?_ (by rw [sizeLine_eq]; simp; exact Nat.le_trans ‹_› (by decide))) hs ht
 have FJ1:=F.grow (s':={ s with heap:=s.heap.push { cls:=.type "slice",data:=.fields #[.int a t,.int b u,.none] } }) (fun b o e=>Heap.get?_push_of_some _ e) rfl rfl
 have hp:=kssn_any (lo:=some a) (hi:=some b) hI
 have e1:kms_lo (some a) ns.length=min a.toNat ns.length:=if_neg (by exact a01 1638731403478 ha)
 have e2:kms_hi (some b) ns.length=min b.toNat ns.length:=if_neg (by exact a01 1638731403478 hb)
 rw [e1,e2] at hp
 have FJ2:=FJ1.hide (lst (slicePick vs.toArray (some a) (some b) none).toList 0) rfl (t:=s.toks) (d:=s.drawn)
 have:=h _ _ _ _ 0 FJ2 hp rfl
 rw [show lst (slicePick vs.toArray (some a) (some b) none).toList 0=({ cls:=.type "list",data:=.seq (slicePick vs.toArray (some a) (some b) none) }:Obj) from rfl] at this
 exact this
theorem x_iterH {k:Nat} {Q:Value→Shared→Prop} (F:Fx c ((l,lst vs k)::O) L G m s) (h:∀ I s' o',itL l 0 o'→Fx c ((I,o')::([(l,lst vs k)]++O)) L G m s'→Q (.ref I) s'):wpAny (model c.prog c.w) A (pyIter (.ref l)) Q E s :=
 wpAny_pyIter_list ((lst_is vs k).isList F.hid) (h _ _ _ ⟨rfl,rfl⟩ (F.hide _))
theorem x_truthyB {Q:Bool→Shared→Prop} (F:Fx c O L G m s) (hl:c.base.IsList l vs.toArray) (hz:vs.length≤1000) (h:∀ s',Fx c O L G m s'→Q (!vs.isEmpty) s'):wpAny (model c.prog c.w) A (truthy (.ref l)) Q E s :=
 wpAny_truthy_list (F.baseList hl) (by simp; omega) (by simpa using h _ (F.eta (t:=s.toks+1+1) (d:=s.drawn)))
theorem x_itemB {value slice:Expr} {i:Int} {v:Value} {t:Tok} {Q:Value→Shared→Prop} (F:Fx c O L G m s) (hl:c.base.IsList l vs.toArray) (h0:0≤i) (h1:i<100000) (hv:vs[i.toNat]?=some v) (h:Q v s)
  (hs:subscripted slice false (.ref l) (.int i t)=operate [.ref l,.int i t] (getItem (.ref l) (.int i t)):=by with_unfolding_all rfl):wpAny (model c.prog c.w) A (subscriptTail value slice (.ref l) (.int i t)) Q E s :=
 tail_any (T := "list") (F.baseList hl).typeIs PySem.F.slot_list_getitem.lookup (wpAny_getItem_list (F.baseList hl) h0 (by omega) (by simpa using hv) h) hs
theorem abcd_at {y:Int} (h0:0≤y) (h3:y<4):∃ cp,("abcd" : Str).cps[y.toNat]?=some cp∧cp<128:=by
 rcases (by lia:y=0∨y=1∨y=2∨y=3) with rfl | rfl | rfl | rfl
 ·exact (inEA 97 (by decide) (by decide))
 ·exact (inEA 98 (by decide) (by decide))
 ·exact (inEA 99 (by decide) (by decide))
 ·exact (inEA 100 (by decide) (by decide))
end
noncomputable def mainB:List Stmt:=match fd443.body with | .stmts (_::_::_::_::_::_::_::_::r)=>r | _=>[]
section
variable {c:Cx} {O:List (Addr×Obj)} {L' fa:Addr} {qual:Str} {code:Value} {q:LC} {G G':View} {m:Str→Option Value} {A:Around} {E:Value→Shared→Prop} {s:Shared} {n:Nat} {k:Int} {its:List Item} {sl:Addr} {vs:List Value} {ns:List Int}
theorem lawMain (F:Fx c O L' G m s) (R:Room A (n+6)) (N:Nest c) (W:Lw c q G m k [] 0 1) (hms:m ("script" : Str)=some (.ref sl)) (hl:c.base.IsList sl vs.toArray) (hI:IntsAre vs ns) (hz:vs.length≤63) :
  wpAny (model c.prog c.w) A (execs mainB (envL q L' qual fa code)) (LawEnd c O L') (fun _ _=>False) s:=by
 delta mainB fd443 fx443
 walk_at "r"
 refine wpAny_Slice ?_
 refine evalPart_some_step ?_
 walk_at "r"
 refine evalPart_some_step ?_
 walk_at "r"
 refine evalPart_none_step ?_
 have F:=F.eta (t:=s.toks+1+1) (d:=s.drawn)
 refine x_listSlice F hl hI (by decide) (by decide) (by exact a10 1548938485976755289956630 hz) fun D sJ1 ws ms kD FJ1 hIJ1 hmsJ1=>?_
 clear F
 have hlen:ws.length≤6:=by rw [hIJ1.length,hmsJ1]; simp; exact min6 _
 refine x_iterH FJ1 fun I sJ2 oI hIJ2 FJ2=>?_
 clear FJ1
 refine x_forLoop (It.listH D ws kD) R.handled FJ2 hIJ2 rfl rfl (fun i G' m'=>∃ k its,Lw c q G' m' k its i (1+8*i)) (inEE k ([]) (W.more (Nat.le_refl _) (by exact a00 1694590616631255271))) (fun _ _ _ _=>trivial) ?body ?fin
 case fin =>
  intro G' m' sJ3 z1 FJ3; refine unEE z1 fun k' its' W'=>?_; clear z1
  exact lawTail1 FJ3 R N W' hlen
 case body =>
  intro i v OJ2 G' m' sJ3 hi hv z2 FJ3 Qt hQt; refine unEE z2 fun k' its' W'=>?_; clear z2
  obtain ⟨y,hy⟩:∃ y,ms[i]?=some y:=⟨ms[i]'(by rw [← hIJ1.length]; exact hi),List.getElem?_eq_getElem _⟩
  obtain ⟨tv,rfl⟩:∃ t,v=.int y t:=by
   refine unEEA (ints_at hIJ1 hv) fun w t h1 h2=>?_
   rw [hy] at h1
   cases h1
   exact ⟨t,h2⟩
  refine wpAny_mono (lawTurn FJ3 (R.less (k:=n+5) (by exact a10 48441150158220596090134)) (W'.names (by exact W'.mb) (by exact W'.ms) (by exact W'.mn)) (by exact a20 51973682191118332497137550498071 hlen hi) rfl) (fun f sJ4 hf=>?_) fun _ _ e=>e
  refine unAEEEEA hf fun y1 GJ2 mJ2 kJ2 itsJ2 FJ4 WJ4=>?_; clear hf; subst y1
  exact hQt _ _ (inEEA GJ2 mJ2 FJ4 (inEE kJ2 itsJ2 WJ4))
end
end
section
noncomputable def midB:List Stmt:=match fd443.body with | .stmts (_::_::_::_::_::r)=>r | _=>[]
section
variable {c:Cx} {O:List (Addr×Obj)} {L' fa:Addr} {qual:Str} {code:Value} {q:LC} {G G':View} {m:Str→Option Value} {A:Around} {E:Value→Shared→Prop} {s:Shared} {n:Nat} {k:Int} {its:List Item} {sl:Addr} {vs:List Value} {ns:List Int}
theorem lawMid (F:Fx c O L' G m s) (R:Room A (n+6)) (N:Nest c) (gz:G q.cz=some (cellO (some (.int q.w.length q.tz)))) (gw:G q.cw=some (cellO (some (.str q.w q.tw)))) (ge:∃ v,G q.ce=some (cellO v)) (gb:∃ v,G q.cb=some (cellO v)) (gg:∃ v,G q.cg=some (cellO v)) (gP:G 332=some (tabObj #[]))
  (dis:q.ce≠q.cb∧q.ce≠q.cg∧q.cb≠q.cg) (dz:q.cz≠q.ce∧q.cz≠q.cb∧q.cz≠q.cg) (dw:q.cw≠q.ce∧q.cw≠q.cb∧q.cw≠q.cg) (wl:q.w.length≤4) (asc:q.w.cps.all (·<128)=true)
  (hms:m ("script" : Str)=some (.ref sl)) (hl:c.base.IsList sl vs.toArray) (hI:IntsAre vs ns) (hz:vs.length≤63) :
  wpAny (model c.prog c.w) A (execs midB (envL q L' qual fa code)) (LawEnd c O L') (fun _ _=>False) s:=by
 delta midB fd443 fx443
 refine wpAny_execs_cons ?_
 refine x_AssignComp (c:=c) (cl:=[]) rfl rfl (by decide) rfl (by decide) rfl rfl (law_comp (T:=fun p e=>e=[(p:Int)]) F R wl rfl gz rfl rfl rfl rfl rfl rfl rfl ?helt ?hQ) (fun _=>rfl)
 case helt =>
  intro p hp OJ2 C G' m' sJ2 tp le FJ2 hm
  walk_at "r"
  refine ⟨listLine (by simp),?_⟩
  have FJ4:=FJ2.push (lst [Value.int (p:Int) tp] 0) rfl (t:=sJ2.toks) (d:=sJ2.drawn)
  exact ⟨_,_,FJ4,Le.alloc FJ2.fresh,_,[(p:Int)],rfl,FJ2.fresh,⟨_,0,upd_self _ _ _,.cons _ _ .nil⟩,by simp,rfl⟩
 case hQ =>
  intro GJ1 no ess le hen hel hes sJ1 FJ1
  clear F
  walk_at "r"
  refine x_global FJ1 (by k_is) rfl rfl rfl rfl ?_
  refine x_args0 FJ1 (by k_is) ?_
  refine builder_new FJ1 (R.less (k:=n+2) (by exact a10 48441150158220596087062)) fun sJ2 GJ2 b d FJ2 leJ2 hb hd BJ2=>?_
  clear FJ1
  refine x_store FJ2 rfl rfl (let MJ3:=setL _ _ _; fun sJ3 (FJ3:Fx _ _ _ _ MJ3 sJ3)=>?_)
  clear FJ2
  walk_at "r"
  refine ⟨listLine (by simp),?_⟩
  have FJ4:=FJ3.push (lst [] 0) rfl (t:=sJ3.toks) (d:=sJ3.drawn)
  have hT:=FJ3.fresh
  clear FJ3
  have leT:Le GJ2 (upd GJ2 sJ3.heap.objs.size (lst [] 0)):=Le.alloc hT
  have gT:upd GJ2 sJ3.heap.objs.size (lst [] 0) sJ3.heap.objs.size=some (lst [] 0):=upd_self _ _ _
  generalize sJ3.heap.objs.size=Sk at *
  generalize hGJ3:upd GJ2 Sk (lst [] 0)=GJ3 at *
  refine x_store (FJ4.toks rfl rfl rfl) rfl rfl (let MJ5:=setL _ _ _; fun sJ5 (FJ5:Fx _ _ _ _ MJ5 sJ5)=>?_)
  clear FJ4
  try dsimp only
  let q':LC:=⟨q.cz,q.cw,q.ce,q.cb,q.cg,b,d,Sk,no,q.w,q.tw,q.tz,ess⟩
  have up:Le G GJ3:=le.trans (leJ2.trans leT)
  obtain ⟨gB,t,tk,r,gD⟩:=id BJ2
  replace gB:=leT _ _ gB
  replace gD:=leT _ _ gD
  obtain ⟨ve,ge⟩:=ge
  obtain ⟨vb,gb⟩:=gb
  obtain ⟨vg,gg⟩:=gg
  have frs:∀ {x:Addr} {o:Obj},G x=none→GJ1 x=some o→x∉q'.mu:=fun {x o} h0 h1 hm=>by
   simp only [LC.mu,q',List.mem_cons,List.not_mem_nil,or_false] at hm
   rcases hm with rfl | rfl | rfl | rfl | rfl | rfl
   ·rw [hd] at h1; exact nnS h1
   ·rw [leJ2 _ _ h1] at hT; exact snN hT
   ·rw [ge] at h0; exact snN h0
   ·rw [gb] at h0; exact snN h0
   ·rw [gg] at h0; exact snN h0
   ·rw [gP] at h0; exact snN h0
  have celN:∀ {x:Addr} {v:Option Value},G x=some (cellO v)→(x≠q.ce∧x≠q.cb∧x≠q.cg)→x∉q'.mu:=fun {x v} hx hn hm=>by
   simp only [LC.mu,q',List.mem_cons,List.not_mem_nil,or_false] at hm
   rcases hm with hm | hm | hm | hm | hm | hm
   ·exact obj_ne (up _ _ hx) gD cell_dict hm
   ·exact obj_ne (up _ _ hx) gT cell_lst hm
   ·exact hn.1 hm
   ·exact hn.2.1 hm
   ·exact hn.2.2 hm
   ·exact obj_ne hx gP cell_tab hm
  have instN:∀ {o:Obj},o.cls=.type "dict" ∨ o.cls=.type "list" ∨ o.cls=.type "cell" ∨ o.cls=(tabObj #[]).cls→(instObj 424 d).cls≠o.cls:=fun {o} h e=>by
   rcases h with h | h | h | h <;> rw [h] at e <;> cases e
  have bN:b∉q'.mu:=fun hm=>by
   simp only [LC.mu,q',List.mem_cons,List.not_mem_nil,or_false] at hm
   rcases hm with hm | hm | hm | hm | hm | hm
   ·exact obj_ne gB gD (instN (.inl rfl)) hm
   ·exact obj_ne gB gT (instN (.inr (.inl rfl))) hm
   ·exact obj_ne gB (up _ _ ge) (instN (.inr (.inr (.inl rfl)))) hm
   ·exact obj_ne gB (up _ _ gb) (instN (.inr (.inr (.inl rfl)))) hm
   ·exact obj_ne gB (up _ _ gg) (instN (.inr (.inr (.inl rfl)))) hm
   ·exact obj_ne gB (up _ _ gP) (instN (.inr (.inr (.inr rfl)))) hm
  have ncell:∀ v,(cellO v).cls≠.type "tuple" := fun v e=>absurd (show Value.type "cell" = Value.type "tuple" from e) (by decide)
  have hmu:MuOk q'.mu GJ3:=fun y hy=>by
   simp only [LC.mu,q',List.mem_cons,List.not_mem_nil,or_false] at hy
   rcases hy with rfl | rfl | rfl | rfl | rfl | rfl
   ·exact (inEA _ gD (fun e=>absurd (show Value.type "dict" = Value.type "tuple" from e) (by decide)))
   ·exact (inEA _ gT (fun e=>absurd (show Value.type "list" = Value.type "tuple" from e) (by decide)))
   ·exact ⟨_,up _ _ ge,ncell _⟩
   ·exact ⟨_,up _ _ gb,ncell _⟩
   ·exact ⟨_,up _ _ gg,ncell _⟩
   ·exact (inEA _ (up _ _ gP) (fun e=>by cases e))
  have hno:EndsAt (hid q'.mu GJ3) no ess:=by
   refine unEEAA hen fun us ku h0 h1 z=>?_; clear hen
   exact ⟨us,ku,hid_get (frs h0 h1) (leT _ _ (leJ2 _ _ h1)),z.imp fun v e ⟨x,e1,e2,u,kk,g1,i1⟩=>(inEA x e1 (inEEA u kk (hid_get (frs e2 g1) (leT _ _ (leJ2 _ _ g1))) i1))⟩
  exact lawMain (q:=q') FJ5 R N ⟨⟨⟨gB,t,tk,r,gD⟩,bN,LC.dm q',LC.sm q',⟨[],0,gT,.nil⟩,fun _ hh=>(niP hh),by simp [Chain],Nat.le_refl _,by simp,hmu⟩,up _ _ gz,up _ _ gw,celN gz dz,celN gw dw,⟨_,up _ _ ge⟩,⟨_,up _ _ gb⟩,⟨_,up _ _ gg⟩,up _ _ gP,dis,hno,ends_eps (by rw [hel,LC.wsl]) hes,wl,asc,rfl,rfl,rfl⟩ hms hl hI hz
end
end
section
noncomputable def lawB:List Stmt:=match fd443.body with | .stmts r=>r | _=>[]
section
variable {c:Cx} {O:List (Addr×Obj)} {L' fa:Addr} {qual:Str} {code:Value} {q:LC} {G G':View} {m:Str→Option Value} {A:Around} {E:Value→Shared→Prop} {s:Shared} {n:Nat} {k:Int} {its:List Item} {sl:Addr} {vs:List Value} {ns:List Int}
theorem lawWhole (F:Fx c O L' G m s) (R:Room A (n+6)) (N:Nest c) (gz:∃ v,G q.cz=some (cellO v)) (gw:∃ v,G q.cw=some (cellO v)) (ge:∃ v,G q.ce=some (cellO v)) (gb:∃ v,G q.cb=some (cellO v)) (gg:∃ v,G q.cg=some (cellO v)) (gP:G 332=some (tabObj #[]))
  (dis:q.ce≠q.cb∧q.ce≠q.cg∧q.cb≠q.cg) (dz:q.cz≠q.ce∧q.cz≠q.cb∧q.cz≠q.cg) (dw:q.cw≠q.ce∧q.cw≠q.cb∧q.cw≠q.cg) (dzw:q.cz≠q.cw)
  (hms:m ("script" : Str)=some (.ref sl)) (hl:c.base.IsList sl vs.toArray) (hI:IntsAre vs ns) (hz:vs.length≤63) :
  wpAny (model c.prog c.w) A (execs lawB (envL q L' qual fa code)) (LawEnd c O L') (fun _ _=>False) s:=by
 delta lawB fd443 fx443
 dsimp only
 refine wpAny_execs_cons ?_
 refine wpAny_mono (Q:=fun f s'=>f=.next∧∃ N t,Fx c O L' G (setL m ("number" : Str) (.int N t)) s') ?one ?two fun _ _ e=>e
 case one =>
  walk_at "r"
  refine wpAny_IfExp ?_
  walk_at "r"
  refine x_truthyB F hl (by exact Nat.le_trans ‹_› (by decide)) fun sJ1 FJ1=>?_
  clear F
  cases hv:vs with
  | nil =>
   rw [if_neg (by simp)]
   walk_at "r"
   refine x_store (FJ1.toks rfl rfl rfl) rfl rfl (let MJ2:=setL _ _ _; fun sJ2 (FJ2:Fx _ _ _ _ MJ2 sJ2)=>?_)
   exact (inAE rfl _ (inE _ FJ2))
  | cons v vr =>
   rw [if_pos (by simp)]
   walk_at "r"
   refine unEEA (ints_at hI (i:=0) (v:=v) (by rw [hv]; rfl)) fun N0 t0 _ y1=>?_; subst y1
   refine x_itemB (FJ1.eta (t:=sJ1.toks+1) (d:=sJ1.drawn)) hl (by decide) (by decide) (v:=.int N0 t0) (by rw [hv]; rfl) ?_
   refine x_store (FJ1.toks rfl rfl rfl) rfl rfl (let MJ2:=setL _ _ _; fun sJ2 (FJ2:Fx _ _ _ _ MJ2 sJ2)=>?_)
   exact (inAE rfl _ (inE _ FJ2))
 intro f sJ1 z1; refine unAE z1 fun y2 N0 w43=>unE w43 fun t0 FJ1=>?_; clear w43; clear z1; subst y2
 clear F
 dsimp only
 have hmsJ1:(setL m ("number" : Str) (Value.int N0 t0)) ("script" : Str)=some (.ref sl):=hms
 have hmnJ1:(setL m ("number" : Str) (Value.int N0 t0)) ("number" : Str)=some (.int N0 t0):=rfl
 generalize (setL m ("number" : Str) (Value.int N0 t0))=mJ1 at *
 clear hms
 walk_at "r"
 refine wpAny_BinOp ?_
 walk_at "r"
 refine PyProof.Rows.mod_int (by decide) ?_
 have FJ2:=FJ1.eta (t:=sJ1.toks+1+1) (d:=sJ1.drawn)
 clear FJ1
 refine unE gz fun vz gz=>?_
 refine x_setCell FJ2 rfl gz rfl rfl fun sJ3 FJ3=>?_
 clear FJ2
 obtain ⟨r0,r5⟩:=fmod_rng (y:=N0) (b:=5) (by decide)
 obtain ⟨sz,hsz⟩:∃ sz:Nat,N0.fmod 5=sz:=⟨(N0.fmod 5).toNat,by lia⟩
 rw [hsz] at FJ3
 generalize sJ1.toks+1=tz at *
 walk_at "d"
 refine wpAny_BinOp ?_
 walk_at "r"
 refine PyProof.Rows.floordiv_int (by decide) ?_ (.inl (PyProof.noPylong_small (by decide)))
 have FJ4:=FJ3.eta (t:=sJ3.toks+1+1) (d:=sJ3.drawn)
 clear FJ3
 refine x_store FJ4 rfl rfl (let MJ5:=setL _ _ _; fun sJ5 (FJ5:Fx _ _ _ _ MJ5 sJ5)=>?_)
 clear FJ4
 walk_at "d"
 refine wpAny_Constant_str ?_
 have FJ6:=FJ5.eta (t:=sJ5.toks+1) (d:=sJ5.drawn)
 clear FJ5
 refine unE gw fun vw gw=>?_
 have gwJ1:upd G q.cz (cellO (some (.int sz tz))) q.cw=some (cellO vw):=(upd_ne dzw.symm).trans gw
 refine x_setCell FJ6 rfl gwJ1 rfl rfl fun sJ7 FJ7=>?_
 clear FJ6
 dsimp only
 generalize sJ5.toks=twJ0 at *
 have gzJ1:∀ o,upd (upd G q.cz (cellO (some (.int sz tz)))) q.cw o q.cz=some (cellO (some (.int sz tz))):=fun o=>(upd_ne dzw).trans (upd_self _ _ _)
 have far:∀ o {b:Addr} {x:Obj},b≠q.cz→b≠q.cw→G b=some x→upd (upd G q.cz (cellO (some (.int sz tz)))) q.cw o b=some x:=fun o {b x} h1 h2 e=>(upd_ne h2).trans ((upd_ne h1).trans e)
 walk_at "r"
 refine x_builtin FJ7 (by k_is) (v:=.type "range") rfl (by decide) rfl rfl rfl rfl rfl ?_
 walk_at "r"
 refine x_cell FJ7 rfl (gzJ1 _) rfl rfl rfl ?_
 walk_at "r"
 refine x_range1 FJ7 fun rJ8 sJ8 tJ8 uJ8 vJ8 hrJ8 FJ8=>?_
 clear FJ7
 have hs5:sz≤4:=by exact a11 1947111525881292408704808628785430 r5 hsz
 refine x_iter_range (n:=sz) FJ8 (upd_self _ _ _) (small_up (by exact Nat.le_trans ‹_› (by decide))).1 (small_up (by exact Nat.le_trans ‹_› (by decide))).2 fun I sJ9 oI hIJ9 FJ9=>?_
 clear FJ8
 have FJ9:=FJ9.forget hrJ8
 refine x_forLoop (It.range 0 1 sz) R.handled FJ9 hIJ9 rfl rfl (fun i G' m'=>∃ w tw N1 t1,G'=upd (upd G q.cz (cellO (some (.int sz tz)))) q.cw (cellO (some (.str w tw)))∧w.length=i∧w.cps.all (·<128)=true∧m' ("number" : Str)=some (.int N1 t1)∧m' ("script" : Str)=some (.ref sl))
  (inEEEEAAAA _ twJ0 _ _ rfl rfl (by rw [← Array.all_toList]; rfl) rfl hmsJ1) (fun _ _ _ _=>trivial) ?body ?fin
 case fin =>
  intro G' m' sJ10 z2 FJ10; refine unEEEEAAAA z2 fun w tw N1 t1 y3 hw ha hm1 hm2=>?_; clear z2; subst y3
  dsimp only
  have nz:∀ {x:Addr},q.cz≠x→q.cw≠x→∀ {v:Option Value},G x=some (cellO v)→∃ v,upd (upd G q.cz (cellO (some (.int sz tz)))) q.cw (cellO (some (.str w tw))) x=some (cellO v):=fun {x} h1 h2 {v} e=>⟨v,far _ h1.symm h2.symm e⟩
  refine unE ge fun ve ge=>?_
  refine unE gb fun vb gb=>?_
  obtain ⟨vg,gg⟩:=gg
  exact lawMid (q:={ q with w:=w,tw:=tw,tz:=tz }) FJ10 R N (by rw [show ({ q with w:=w,tw:=tw,tz:=tz }:LC).w.length=sz from hw]; exact gzJ1 _) (upd_self _ _ _) (nz dz.1 dw.1 ge) (nz dz.2.1 dw.2.1 gb) (nz dz.2.2 dw.2.2 gg)
   (far _ (fun e=>obj_ne gz gP cell_tab e.symm) (fun e=>obj_ne gw gP cell_tab e.symm) gP) dis dz dw (by show w.length≤4; lia) ha hm2 hl hI hz
 case body =>
  intro i v OJ2 G' m' sJ10 hi z3 z4 FJ10 Qt hQt; refine unE z3 fun tk y4=>?_; clear z3; subst y4; refine unEEEEAAAA z4 fun w tw N1 t1 y5 hw ha hm1 hm2=>?_; clear z4; subst y5
  have hm1':(setL m' ("place" : Str) (Value.int (0+(i:Int)*1) tk)) ("number" : Str)=some (.int N1 t1):=hm1
  have hm2':(setL m' ("place" : Str) (Value.int (0+(i:Int)*1) tk)) ("script" : Str)=some (.ref sl):=hm2
  generalize (setL m' ("place" : Str) (Value.int (0+(i:Int)*1) tk))=mJ2 at *
  clear hm1 hm2
  walk_at "r"
  refine wpAny_BinOp ?_
  refine x_cell FJ10 rfl (upd_self _ _ _) rfl rfl rfl ?_
  walk_at "r"
  refine wpAny_Constant_str ?_
  refine wpAny_BinOp ?_
  have FJ11:=FJ10.eta (t:=sJ10.toks+1) (d:=sJ10.drawn)
  clear FJ10
  walk_at "r"
  refine PyProof.Rows.mod_int (by decide) ?_
  have FJ12:=FJ11.eta (t:=sJ10.toks+1+1+1) (d:=sJ10.drawn)
  clear FJ11
  obtain ⟨y0,y3⟩:=fmod_rng (y:=N1) (b:=4) (by decide)
  refine unEA (abcd_at y0 y3) fun cp hcp hlt=>?_
  refine x_strItem (FJ12.toks rfl rfl rfl) y0 (by exact Int.lt_of_lt_of_le ‹_› (by decide)) hcp fun sJ13 tJ13 FJ13=>?_
  clear FJ12
  refine PyProof.Rows.add_str (fun tJ14 kJ14=>?_) (by rw [sizeLine_eq]; show w.length+1≤_; lia)
  have FJ14:=FJ13.eta (t:=kJ14) (d:=sJ13.drawn)
  clear FJ13
  refine x_setCell FJ14 rfl (upd_self _ _ _) rfl rfl fun sJ15 FJ15=>?_
  clear FJ14
  rw [upd_upd] at FJ15
  dsimp only
  walk_at "r"
  refine wpAny_BinOp ?_
  walk_at "r"
  refine PyProof.Rows.floordiv_int (by decide) ?_ (.inl (PyProof.noPylong_small (by decide)))
  have FJ16:=FJ15.eta (t:=sJ15.toks+1+1) (d:=sJ15.drawn)
  clear FJ15
  refine x_store FJ16 rfl rfl (let MJ17:=setL _ _ _; fun sJ17 (FJ17:Fx _ _ _ _ MJ17 sJ17)=>?_)
  clear FJ16
  dsimp only
  walk_at "r"
  refine (inEEA _ _ FJ17 (inEEEEAAAA (w++⟨#[cp]⟩) tJ14 _ _ rfl ?_ ?_ rfl hm2'))
  ·show (w.cps++#[cp]).size=_
   rw [Array.size_append]
   show w.length+1=_
   exact Nat.le_antisymm (a20 1575908069923849462 hw) (a20 1611936866942780663 hw)
  ·show (w.cps++#[cp]).all _=true
   rw [Array.all_append,ha]
   simpa using hlt
end
end
section
section
variable {c:Cx} {A:Around} {s:Shared} {n:Nat} {sl:Addr} {vs:List Value} {ns:List Int}
theorem Fx.cellNext {O:List (Addr×Obj)} {L:Addr} {G:View} {m:Str→Option Value} {k:Nat} (F:Fx c O L G m s) (h:s.heap.objs.size=k):Fx c O L (Mine.upd G k (cellO none)) m { s with heap:=s.heap.push (cellO none) }∧(s.heap.push (cellO none)).objs.size=k+1:=by
 have FJ1:=F.push (cellO none) rfl (t:=s.toks) (d:=s.drawn)
 rw [h] at FJ1
 exact ⟨FJ1,by rw [Heap.size_push,h]⟩
theorem lawCall (X:(hd.heap_39 c.w.params).In c.base) (T:TopRead c.p c.loose c.mg c.mb c.base) (N:Nest c) (keep:∀ b o,c.base.get? b=some o→s.heap.get? b=some o) (hsz:c.base.objs.size≤s.heap.objs.size) (hg:s.gens=c.gens) (ho:s.os=c.os)
  (hP:s.heap.get? 332=some (tabObj #[])) (hPb:c.base.get? 332=none) (R:Room A (n+7)) (hl:c.base.IsList sl vs.toArray) (hI:IntsAre vs ns) (hz:vs.length≤63) :
  codeAny (model c.prog c.w) A (.call (.ref 443) ⟨[.ref sl],[]⟩) (fun r s'=>r=.ok (.ret (.bool true))∧s'.os=c.os∧s'.gens=c.gens∧(∀ b o,c.base.get? b=some o→s'.heap.get? b=some o)∧∃ P,s'.heap.get? 332=some (tabObj P)) s:=by
 refine unEEE (fx443.2 c.w.params) fun oc od osl hoF=>?_
 have KX:(hd.heap_39 c.w.params).In s.heap:=X.keeps keep
 refine codeAny_call_function (fd:=fd443) R.dl (KX _ _ hoF) rfl rfl rfl rfl (codeRec_of KX (by kernel_rfl)) ?_
 refine (BindsTo.of_eq (binds:=[(("script" : Str),Value.ref sl)]) rfl) _ _ _ _ (newEnv_cells fun env he=>?_)
 have FJ0:Fx c [] s.heap.objs.size (fun b=>if b=332 then some (tabObj #[]) else none) (fun _=>none) { s with heap:=s.heap.push frameO }:=by
  refine ⟨X,T,Heap.Ns.new s.heap (.type "frame"),fun b o e=>?_,fun p hp=>(niP hp),List.nodup_nil,fun b o e=>Heap.get?_push_of_some _ (keep b o e),hsz,hg,ho⟩
  split at e
  ·rename_i hb
   subst hb
   cases e
   exact (inAAA ⟨hPb,by decide⟩ (Heap.get?_push_of_some _ hP) (Nat.ne_of_lt (Heap.lt_size hP)) (fun p hp=>(niP hp)))
  ·exact nnS e
 have hs0:(s.heap.push frameO).objs.size=s.heap.objs.size+1:=Heap.size_push ..
 have hPL:(332:Nat)<s.heap.objs.size:=Heap.lt_size hP
 clear hP
 clear hsz; generalize hL:s.heap.objs.size=L at *
 obtain ⟨FJ1,hs1⟩:=FJ0.cellNext hs0
 obtain ⟨FJ2,hs2⟩:=FJ1.cellNext hs1
 obtain ⟨FJ3,hs3⟩:=FJ2.cellNext hs2
 obtain ⟨FJ4,hs4⟩:=FJ3.cellNext hs3
 obtain ⟨FJ5,hs5⟩:=FJ4.cellNext hs4
 clear FJ0 FJ1 FJ2 FJ3 FJ4
 generalize hG:upd (upd (upd (upd (upd (fun b=>if b=332 then some (tabObj #[]) else none) (L+1) (cellO none)) (L+1+1) (cellO none)) (L+1+1+1) (cellO none)) (L+1+1+1+1) (cellO none)) (L+1+1+1+1+1) (cellO none)=G at FJ5
 have g1:G (L+1)=some (cellO none):=by rw [← hG]; simp [upd]
 have g2:G (L+1+1)=some (cellO none):=by rw [← hG]; simp [upd]
 have g3:G (L+1+1+1)=some (cellO none):=by rw [← hG]; simp [upd]
 have g4:G (L+1+1+1+1)=some (cellO none):=by rw [← hG]; simp [upd]
 have g5:G (L+1+1+1+1+1)=some (cellO none):=by rw [← hG]; simp [upd]
 have gP:G 332=some (tabObj #[]):=by
  have nP:∀ {i:Nat},L≤i→(332:Addr)≠i:=fun {i} hi=>Nat.ne_of_lt (Nat.lt_of_lt_of_le hPL hi)
  rw [← hG,upd_ne (nP (by exact a10 47313734708117937878)),upd_ne (nP (by exact a10 46204819050897110)),upd_ne (nP (by exact a10 45121893605078)),upd_ne (nP (by exact a10 44064349910)),upd_ne (nP (by exact Nat.le_succ _))]
  exact if_pos rfl
 clear hG
 have he':env=envL ⟨L+1,L+1+1,L+1+1+1,L+1+1+1+1,L+1+1+1+1+1,0,0,0,0,⟨#[]⟩,0,0,[]⟩ L (fd443.qualname ++ ".<locals>.") 443 fd443.code:=he
 clear he
 have R':=R.deeper (env:=env)
 subst he'
 generalize hq:({ cz:=L+1,cw:=L+1+1,ce:=L+1+1+1,cb:=L+1+1+1+1,cg:=L+1+1+1+1+1,b:=0,d:=0,Sk:=0,no:=0,w:=⟨#[]⟩,tw:=0,tz:=0,esn:=[] }:LC)=q
 have hFJ5:Fx c [] L G (fun _=>none) { s with heap:=pushCells (s.heap.push frameO) fd443.scope.names }:=FJ5
 clear FJ5
 refine binds_cons ?_
 refine x_store hFJ5 rfl rfl (let MJ6:=setL _ _ _; fun sJ6 (FJ6:Fx _ _ _ _ MJ6 sJ6)=>?_)
 refine binds_nil ⟨FJ6.T.nolimit.keeps FJ6.keep,codeAny_func ?_⟩
 refine wpAny_mono (lawWhole (q:=q) (n:=n) FJ6 (by rw [hq] at R'; exact R') N ⟨none,?_⟩ ⟨none,?_⟩ ⟨none,?_⟩ ⟨none,?_⟩ ⟨none,?_⟩ gP ?_ ?_ ?_ ?_ rfl hl hI hz) (fun f s' hf=>?_) fun _ _ hf=>hf.elim
 ·clear FJ6; subst hq; exact g1
 ·clear FJ6; subst hq; exact g2
 ·clear FJ6; subst hq; exact g3
 ·clear FJ6; subst hq; exact g4
 ·clear FJ6; subst hq; exact g5
 ·clear FJ6; subst hq; exact (inAA (by exact fun z0=>a10 1703642372612610462061731541 z0:(L+1+1+1:Nat)≠L+1+1+1+1) (by exact fun z0=>a10 1744529789555289696852075650773 z0:(L+1+1+1:Nat)≠L+1+1+1+1+1) (by exact fun z0=>a10 1786398504504616649576525465689813 z0:(L+1+1+1+1:Nat)≠L+1+1+1+1+1))
 ·clear FJ6; subst hq; exact (inAA (by exact fun z0=>a10 1586640600707407573 z0:(L+1:Nat)≠L+1+1+1) (by exact fun z0=>a10 1624719975102053129941 z0:(L+1:Nat)≠L+1+1+1+1) (by exact fun z0=>a10 1663713254504480072834773 z0:(L+1:Nat)≠L+1+1+1+1+1))
 ·clear FJ6; subst hq; exact (inAA (by exact fun z0=>a10 1624719975124384653013 z0:(L+1+1:Nat)≠L+1+1+1) (by exact fun z0=>a10 1663713254504502404357845 z0:(L+1+1:Nat)≠L+1+1+1+1) (by exact fun z0=>a10 1703642372612587594582105813 z0:(L+1+1:Nat)≠L+1+1+1+1+1))
 ·clear FJ6; subst hq; exact (by exact fun z0=>a10 1549453733437141 z0:(L+1:Nat)≠L+1+1)
 ·refine unAEEE hf fun y1 G' m' P w44=>unA w44 fun FJ7 gP'=>?_; clear w44; clear hf; subst y1
  exact (inAAAA rfl FJ7.os FJ7.gens FJ7.keep (inE P (FJ7.get gP')))
end
end
section
set_option tactic.hygienic true
theorem lawEntry {prog:Program} {w:World} {s:Shared} {mg mb:Str→Option Value} {p:Program} {loose:List Str} {mean:ExcName→Option Value} {sl:Addr} {vs:List Value} {ns:List Int} (KX:(hd.heap_39 w.params).In s.heap) (T:Top p loose mean mg mb s.heap) (hT:TabsAt [(336,332)] s.heap)
  (hl:s.heap.IsList sl vs.toArray) (hI:IntsAre vs ns) (hz:ns.length≤63) (hg:s.gens=#[]) :
  codeAny (model prog w) callerA (.call (.ref 443) ⟨[.ref sl],[]⟩) (fun r s'=>r=.ok (.ret (.bool true))∧s'.os=s.os∧s'.gens=#[]∧(∀ b o,(ghostOf s.heap [(336,332)]).get? b=some o→s'.heap.get? b=some o)∧GrownAll [(336,332)] s'.heap) s:=by
 have T':=ghost_top hT T
 have X':=ghost_K hT KX (by kernel_rfl)
 have hC:CodeHd (ghostOf s.heap [(336,332)]) 336 332:=(ghost_code hT).1
 have h332:=(hT _ (.head _)).2
 have hPb:(ghostOf s.heap [(336,332)]).get? 332=none:=hideAll_none _ (.head _)
 refine unEEAAAAA T'.bmain fun bm ob b1 b2 b3 b4 b5 b6=>?_
 have hbP:bm≠332:=fun q=>by rw [q,hPb] at b3; cases b3
 have hbG:bm≠mainGlobals:=fun q=>by
  refine unEEEAA T'.g fun o es ep e hd _=>?_
  rw [q,e] at b3; clear e; cases b3; rw [hd] at b6; cases b6
 refine codeAny_mono (lawCall (n:=0) (c:=⟨prog,w,ghostOf s.heap [(336,332)],s.os,s.gens,_,_,mg,mb⟩) X' (topRead_of T') ⟨hC,bm,ob,b1,b2,hbG,hbP,b3,b4,b5,b6⟩ (fun b o e=>of_hideAll _ e) (Nat.le_of_eq (hideAll_size _ _)) rfl rfl h332 hPb ⟨rfl,by decide,by decide⟩ (ghost_list hT hl) hI (by rw [hI.length]; exact hz)) fun r s' h=>?_
 refine unAAAA h fun h1 h2 h3 h4 w45=>unE w45 fun P h5=>?_; clear w45; clear h
 exact (inAAAA h1 h2 (h3.trans hg) h4 (inA ⟨P,h5⟩ trivial))
theorem tEntry:PySem.Challenge.rw_iu0054_01.Holds:=hd (by
 k_fill
 intro w sJ0 sJ1 mg mb G Y fa o pm cd doc dV kV ho hd hcd hD hmg hg args vals as hpre hlay hrd hwl hlo
 have KX:=km_in_of Y
 km_tabs Y
 have X:=(Ground.X G).1
 have V:=(Ground.X G).2
 refine Ground.open G ?_
 intro T B D TE TW
 try (refine guard_noD D (by decide +kernel) ?_; clear D)
 km_lay T hmg ho hd cd
 have hfa:fa=443:=by
  have e:=mg_of KX T.g (n := "law") (v:=.ref 443) (by k_is)
  have e2:mg ("law" : Str)=some (.ref fa):=hmg
  rw [e] at e2
  clear ho hmg; cases e2
  rfl
 clear hmg hd hcd hD ho
 subst hfa
 wrow_args hpre hlay hrd hwl hlo
 refine enter_call ?_
 w_top on
 kn_posts
 rename_i ns _ _ _ _ _ _ _ l vs _ hL _ _ _ hI _ hz _
 refine codeAny_mono (lawEntry KX T hT9 hL hI (by exact a10 2018534232467117950330010902 hz) hg) fun r s' h=>?_
 refine unAAAA h fun y1 h2 h3 h4 h5=>?_; clear h; subst y1
 exact ⟨(inAAA (.inl (inEEEAAAA _ (.bool true) ([]) rfl (fun _=>rfl) (.bool _) (by wrow_post) (fun _=>⟨List.nodup_nil,fun _ h=>(niP h)⟩))) h4 h2 h3),h5⟩)
end
end
end Mine
theorem PySem.Challenge.cw_iu0054_01_holds : PySem.Challenge.rw_iu0054_01.Holds :=
  Mine.tEntry
