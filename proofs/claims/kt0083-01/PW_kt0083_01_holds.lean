import PyProof.Rows.All
import Wide.All
import OpenK.AllK
import Wide.FinOn
import PySem.Challenge.RW_kt0083_01
set_option compiler.extract_closed false
set_option maxHeartbeats 8000000
set_option maxRecDepth 100000
set_option Elab.async false
set_option linter.unusedVariables false
namespace Mine
open PySem PySem.W PyProof.Rows PySem.Calls PySem.W.X
theorem hz.tw9537998302760928614 : True := trivial
theorem hz.tw7581611560446312768 : True := trivial
theorem hz.tw1802311323448366806 : True := trivial
theorem hz.tw12941849051688131525 : True := trivial
theorem hz.tw4950685258733539858 : True := trivial
theorem hz.tw17676520557524251207 : True := trivial
theorem hz.tw9011580976055079875 : True := trivial
theorem hz.tw14539314499852262716 : True := trivial
theorem hz.tw9018712526460730463 : True := trivial
theorem hz.tw11991242680876982051 : True := trivial
theorem hz.tw8121089592043263327 : True := trivial
theorem hz.tw15206729295343402987 : True := trivial
theorem hz.tw2143702831897708083 : True := trivial
theorem hz.tw4435916572026292727 : True := trivial
theorem hz.tw7688935206997113189 : True := trivial
theorem hz.tw8013884887973231837 : True := trivial
theorem hz.tw785714607113233219 : True := trivial
theorem hz.tw6885745513561349377 : True := trivial
theorem hz.tw7731688148592960606 : True := trivial
theorem hz.tw10903345660565013030 : True := trivial
theorem hz.tw6746361551635453669 : True := trivial
theorem hz.tw17698843455231020242 : True := trivial
theorem hz.tw2471590334264182933 : True := trivial
theorem hz.tw17207451778298570013 : True := trivial
theorem hz.tw9111419542042733873 : True := trivial
theorem hz.tw10563933556949201555 : True := trivial
theorem hz.tw4075905047373072761 : True := trivial
theorem hz.tw7789090625882113295 : True := trivial
theorem hz.tw15673157329898572484 : True := trivial
theorem hz.tw9048204616202493478 : True := trivial
theorem hz.tw15162205536711540470 : True := trivial
theorem hz.tw17091834305540529004 : True := trivial
theorem hz.tw18015179878675430669 : True := trivial
theorem hz.tw2962827689330891266 : True := trivial
theorem hz.tw5567535874370979394 : True := trivial
theorem hz.tw6635683240626421415 : True := trivial
theorem hz.tw14100309652484104395 : True := trivial
theorem hz.tw8191764203767702324 : True := trivial
theorem hz.tw8007107073393810137 : True := trivial
theorem hz.tw16741116043745812405 : True := trivial
theorem hz.tw6536652001705934272 : True := trivial
theorem hz.tw15127333769936753342 : True := trivial
theorem hz.tw14024143452941154765 : True := trivial
theorem hz.tw3088063956462335577 : True := trivial
theorem hz.tw6560458597652431233 : True := trivial
theorem hz.tw11063453768386354132 : True := trivial
theorem hz.tw14263412739246447820 : True := trivial
theorem hz.tw17758080039513689311 : True := trivial
theorem hz.tw15132140800782814512 : True := trivial
theorem hz.tw1338245204509957908 : True := trivial
theorem hz.tw16350622116264335677 : True := trivial
theorem hz.tw4427937363305193418 : True := trivial
theorem hz.tw15921073761713741761 : True := trivial
theorem hz.tw6138852377812161400 : True := trivial
theorem hz.tw11756198756248372695 : True := trivial
theorem hz.tw10660006274836819307 : True := trivial
theorem hz.tw3512928400696831886 : True := trivial
theorem hz.tw1501332018486256666 : True := trivial
theorem hz.tw2724179468437991670 : True := trivial
theorem hz.tw3755561091582582624 : True := trivial
theorem hz.tw4583139713499339240 : True := trivial
theorem hz.tw16336241826912422431 : True := trivial
theorem hz.tw11137752532684724872 : True := trivial
theorem hz.tw10509527511993067728 : True := trivial
theorem hz.tw9769715614817061252 : True := trivial
theorem hz.tw14016276511259183977 : True := trivial
theorem hz.tw3812404219692040274 : True := trivial
theorem hz.tw12816733458343424791 : True := trivial
theorem hz.tw11292075623454799011 : True := trivial
theorem hz.tw9438331317132086644 : True := trivial
theorem hz.tw15473054915893662161 : True := trivial
theorem hz.tw16299882675976560936 : True := trivial
theorem hz.tw7741611425830564102 : True := trivial
theorem hz.tw17578626959204756607 : True := trivial
theorem hz.tw10294465996826503759 : True := trivial
theorem hz.tw9360853826835299084 : True := trivial
theorem hz.tw9238309822234929038 : True := trivial
theorem hz.tw6093169433671411052 : True := trivial
theorem hz.tw12605182980146816822 : True := trivial
theorem hz.tw7878537723000907712 : True := trivial
theorem hz.tw14408268817481000106 : True := trivial
theorem hz.tw12764850950428471281 : True := trivial
theorem hz.tw3908361572782866236 : True := trivial
theorem hz.tw12947612336852668680 : True := trivial
theorem hz.tw1153387532419382708 : True := trivial
theorem hz.tw17336787870679972960 : True := trivial
theorem hz.tw11594666653368946203 : True := trivial
theorem hz.tw10975566911447591811 : True := trivial
theorem hz.tw9832355078031445292 : True := trivial
theorem hz.tw7645067403781508193 : True := trivial
theorem hz.tw6555005581738970673 : True := trivial
theorem hz.tw14904626848106700745 : True := trivial
theorem hz.tw8474768708940959635 : True := trivial
theorem hz.tw2848225064286381272 : True := trivial
theorem hz.tw8863673184922365159 : True := trivial
theorem hz.tw5519258327489219786 : True := trivial
theorem hz.tw2715596142299090111 : True := trivial
theorem hz.tw10100802685880485059 : True := trivial
theorem hz.tw2894976555549152009 : True := trivial
theorem hz.tw552923568333662598 : True := trivial
theorem hz.tw663588262400327805 : True := trivial
theorem hz.tw11362593172683423171 : True := trivial
theorem hz.tw3535908522903089207 : True := trivial
theorem hz.tw5966038125719176857 : True := trivial
theorem hz.tw8135759269570258104 : True := trivial
theorem hz.tw15009613546882382433 : True := trivial
theorem hz.tw8718016696775332174 : True := trivial
theorem hz.tw3214327704012015337 : True := trivial
theorem hz.tw6437681181906130852 : True := trivial
theorem hz.tw11551759450806679687 : True := trivial
theorem hz.tw3346222278772038464 : True := trivial
theorem hz.tw1687839594713461187 : True := trivial
theorem hz.tw3404601758183488535 : True := trivial
theorem hz.tw5889664759048283243 : True := trivial
theorem hz.tw18305816028041897254 : True := trivial
theorem hz.tw13192833554976677374 : True := trivial
theorem hz.tw2995937540042053572 : True := trivial
theorem hz.tw15317930657272457491 : True := trivial
theorem hz.tw798709202300626369 : True := trivial
theorem hz.tw16253609671897568717 : True := trivial
theorem hz.tw6869124709034623965 : True := trivial
theorem hz.tw15839914611292809150 : True := trivial
theorem hz.tw17498263171074037197 : True := trivial
theorem hz.tw12784569771315788795 : True := trivial
theorem hz.tw16714232845613220506 : True := trivial
theorem hz.tw7611007226172968251 : True := trivial
theorem hz.tw12982619837235327758 : True := trivial
theorem hz.tw17211494644747771628 : True := trivial
theorem hz.tw14909641694730708060 : True := trivial
theorem hz.tw18223051347294401255 : True := trivial
theorem hz.tw15616685991513745161 : True := trivial
theorem hz.tw11415811354096548523 : True := trivial
theorem hz.tw6094564032256456343 : True := trivial
theorem hz.tw8668805290361442222 : True := trivial
theorem hz.tw11088673668365886653 : True := trivial
theorem hz.tw11650969073141567019 : True := trivial
theorem hz.tw2354034305164819086 : True := trivial
theorem hz.tw12390733177676322012 : True := trivial
theorem hz.tw5898525357616215260 : True := trivial
theorem hz.tw16901067012327575444 : True := trivial
theorem hz.tw14407926449618962611 : True := trivial
theorem hz.tw5492773311616133392 : True := trivial
theorem hz.tw18101952642836395803 : True := trivial
theorem hz.tw8833721974828347106 : True := trivial
theorem hz.tw12962586748009232755 : True := trivial
theorem hz.tw16430667514383355901 : True := trivial
theorem hz.tw1211068848471973693 : True := trivial
theorem hz.tw17753902917466916509 : True := trivial
theorem hz.tw2037920109708023953 : True := trivial
theorem hz.tw474429871401947528 : True := trivial
theorem hz.tw15930791923105179026 : True := trivial
theorem hz.tw14771733439313439021 : True := trivial
theorem hz.tw17703798964700465118 : True := trivial
theorem hz.tw17008329055590653482 : True := trivial
theorem hz.tw17462229033733836676 : True := trivial
theorem hz.tw1275142049066921025 : True := trivial
theorem hz.tw4138045965966720184 : True := trivial
theorem hz.tw805431558515574907 : True := trivial
theorem hz.tw9630377521553601526 : True := trivial
theorem hz.tw5035346421110574879 : True := trivial
theorem hz.tw10136073752128974454 : True := trivial
theorem hz.tw6140497613556046199 : True := trivial
theorem hz.tw10577221913981621933 : True := trivial
theorem hz.tw15561097582929817305 : True := trivial
theorem hz.tw4296415343112477580 : True := trivial
theorem hz.tw1652845779595902004 : True := trivial
theorem hz.tw11994405481971948523 : True := trivial
theorem hz.tw4088546638275206842 : True := trivial
theorem hz.tw2378959162892004019 : True := trivial
theorem hz.tw8445655205729835814 : True := trivial
theorem hz.tw9898471702688563584 : True := trivial
theorem hz.tw7607375641628440619 : True := trivial
theorem hz.tw6513563213138905442 : True := trivial
theorem hz.tw4240624968881325941 : True := trivial
theorem hz.tw14029616563926508751 : True := trivial
theorem hz.tw11914681925747566417 : True := trivial
theorem hz.tw8086017637182528582 : True := trivial
theorem hz.tw13878532445217489311 : True := trivial
theorem hz.tw3681641224979243702 : True := trivial
theorem hz.tw5777757143587963570 : True := trivial
theorem hz.tw5388030385305558027 : True := trivial
theorem hz.tw14750773643277894787 : True := trivial
theorem hz.tw11124203224274982922 : True := trivial
theorem hz.tw6825812363586113491 : True := trivial
theorem hz.tw1733822270195699754 : True := trivial
theorem hz.tw8815248214632773687 : True := trivial
theorem hz.tw15790336561205463264 : True := trivial
theorem hz.tw7292638865201871724 : True := trivial
theorem hz.tw2360641280702514234 : True := trivial
theorem hz.tw12021617797872129714 : True := trivial
theorem hz.tw14456851818651698412 : True := trivial
theorem hz.tw5745977931726740160 : True := trivial
theorem hz.tw1047276407452341914 : True := trivial
theorem hz.tw14489579118853842164 : True := trivial
theorem hz.tw6185151111298361092 : True := trivial
theorem hz.tw6800014353234044488 : True := trivial
theorem hz.tw10088497234066933626 : True := trivial
theorem hz.tw2386750604914903283 : True := trivial
theorem hz.tw5755766482698208309 : True := trivial
theorem hz.tw3114291605618311025 : True := trivial
theorem hz.tw8676408116396264903 : True := trivial
theorem hz.tw766400334088550741 : True := trivial
theorem hz.tw17009943216683553207 : True := trivial
theorem hz.tw1348579817310203780 : True := trivial
theorem hz.tw8529504435330434641 : True := trivial
theorem hz.tw1421406785843614282 : True := trivial
theorem hz.tw7314685479293046051 : True := trivial
theorem hz.tw5885976926424196909 : True := trivial
theorem hz.tw12228033827191767756 : True := trivial
theorem hz.tw15911889187360663324 : True := trivial
theorem hz.tw17297774889435404752 : True := trivial
theorem hz.tw5991232702987149508 : True := trivial
theorem hz.tw18353837732718769323 : True := trivial
theorem hz.tw16885365799216882787 : True := trivial
theorem hz.tw3242472639483865330 : True := trivial
theorem hz.tw14667088553357109582 : True := trivial
theorem hz.tw14268210265538614633 : True := trivial
theorem hz.tw17276004915434365590 : True := trivial
theorem hz.tw6825905489636204023 : True := trivial
theorem hz.tw5013489576112095343 : True := trivial
theorem hz.tw12902098946065173135 : True := trivial
theorem hz.tw8181499813402541781 : True := trivial
theorem hz.tw14427049361215030059 : True := trivial
theorem hz.tw5219118403367324714 : True := trivial
theorem hz.tw283924794178822991 : True := trivial
theorem hz.tw14103567145475582054 : True := trivial
theorem hz.tw17396383587408572562 : True := trivial
theorem hz.tw14434952134803436133 : True := trivial
theorem hz.tw1955195414182757197 : True := trivial
theorem hz.tw9868172252857495080 : True := trivial
theorem hz.tw1619802014739285061 : True := trivial
theorem hz.tw17892439837983788726 : True := trivial
theorem hz.tw15829527977084238125 : True := trivial
theorem hz.tw14633650196898751024 : True := trivial
theorem hz.tw2407508533421911020 : True := trivial
theorem hz.tw16482762943182700693 : True := trivial
theorem hz.tw10956058408332465515 : True := trivial
theorem hz.tw1544752273976586820 : True := trivial
theorem hz.tw8136892811824830698 : True := trivial
theorem hz.tw18193865503031473328 : True := trivial
theorem hz.tw14112008529548993409 : True := trivial
theorem hz.tw7734263097361234996 : True := trivial
theorem hz.tw18275973383194340182 : True := trivial
theorem hz.tw8566871482187042088 : True := trivial
theorem hz.tw363545948999612101 : True := trivial
theorem hz.tw10568399150326316296 : True := trivial
theorem hz.tw6219961250153377410 : True := trivial
theorem hz.tw5443675815905478066 : True := trivial
theorem hz.tw11401256361271199110 : True := trivial
theorem hz.tw5481591971063427407 : True := trivial
theorem hz.tw14225157807694218829 : True := trivial
theorem hz.tw10992964402721213113 : True := trivial
theorem hz.tw12626822707964557123 : True := trivial
theorem hz.tw9688960451604383288 : True := trivial
theorem hz.tw18196949671313417997 : True := trivial
theorem hz.tw14206984928272028898 : True := trivial
theorem hz.tw6211202714331721067 : True := trivial
theorem hz.tw7353848414088218277 : True := trivial
theorem hz.tw4963148689783819018 : True := trivial
theorem hz.tw11153760964976290164 : True := trivial
theorem hz.tw15287039209063297742 : True := trivial
theorem hz.tw11102210183543840693 : True := trivial
theorem hz.tw6420400275869789773 : True := trivial
theorem hz.tw14997907894320057063 : True := trivial
theorem hz.tw6331546520035405674 : True := trivial
theorem hz.tw17913027724117005974 : True := trivial
theorem hz.tw11318026091968918251 : True := trivial
theorem hz.tw5574448824774937841 : True := trivial
theorem hz.tw17973146882923313552 : True := trivial
theorem hz.tw396703575553445435 : True := trivial
theorem hz.tw10167545959960747525 : True := trivial
theorem hz.tw6982740667873728981 : True := trivial
theorem hz.tw4664009783704010094 : True := trivial
theorem hz.tw7931286921354267628 : True := trivial
theorem hz.tw4267934787936932089 : True := trivial
theorem hz.tw12963766845211282499 : True := trivial
theorem hz.tw12672825805078064510 : True := trivial
theorem hz.tw11335510366034291380 : True := trivial
theorem hz.tw623239353647989400 : True := trivial
theorem hz.tw15791376875146381418 : True := trivial
theorem hz.tw13130062859456189188 : True := trivial
theorem hz.tw4305595229341936560 : True := trivial
theorem hz.tw13029377189569759628 : True := trivial
theorem hz.tw10439806957776195124 : True := trivial
theorem hz.tw5667799243118929361 : True := trivial
theorem hz.tw10215936037408733800 : True := trivial
theorem hz.tw16913874724116886976 : True := trivial
theorem hz.tw15110191313772394649 : True := trivial
theorem hz.tw605931727897249274 : True := trivial
theorem hz.tw10515518414715828113 : True := trivial
theorem hz.tw16205025338727042381 : True := trivial
theorem hz.tw850506470932084881 : True := trivial
theorem hz.tw9682601072241650802 : True := trivial
theorem hz.tw15553380198446826621 : True := trivial
theorem hz.tw12098599617646063895 : True := trivial
theorem hz.tw10532067175027323285 : True := trivial
theorem hz.tw12229863294001042694 : True := trivial
theorem hz.tw14653155183644986716 : True := trivial
theorem hz.tw14677341832249333543 : True := trivial
theorem hz.tw1775162167961364288 : True := trivial
theorem hz.tw4317037424802598728 : True := trivial
theorem hz.tw11931880581907806350 : True := trivial
theorem hz.tw1986942244603452950 : True := trivial
theorem hz.tw2336483821182657212 : True := trivial
theorem hz.tw17806619198266800984 : True := trivial
theorem hz.tw17634069999869508453 : True := trivial
theorem hz.tw13607640732868430046 : True := trivial
theorem hz.tw15606550244979847441 : True := trivial
theorem hz.tw7864906255462662741 : True := trivial
theorem hz.tw1656025728705834010 : True := trivial
theorem hz.tw6073149709941262 : True := trivial
theorem hz.tw8572133867269400220 : True := trivial
theorem hz.tw2471060327926172215 : True := trivial
theorem hz.tw4015315064297637016 : True := trivial
theorem hz.tw3643492364033777073 : True := trivial
theorem hz.tw11971968729217864998 : True := trivial
theorem hz.tw4753666172365577924 : True := trivial
theorem hz.tw4277490546692507890 : True := trivial
theorem hz.tw16379083104448618723 : True := trivial
theorem hz.tw6724903578619132774 : True := trivial
theorem hz.tw8378013024205134695 : True := trivial
theorem hz.tw16560014334565726043 : True := trivial
theorem hz.tw2509355391706066357 : True := trivial
theorem hz.tw10980826311742864034 : True := trivial
theorem hz.tw3874127899894635210 : True := trivial
theorem hz.tw13321394708887219518 : True := trivial
theorem hz.tw1972168024715998626 : True := trivial
theorem hz.tw2503734534824126783 : True := trivial
theorem hz.tw13742960800693517954 : True := trivial
theorem hz.tw9541425769318420093 : True := trivial
theorem hz.tw4718015605303766759 : True := trivial
theorem hz.tw14725766471076761672 : True := trivial
theorem hz.tw16948971293129736686 : True := trivial
theorem hz.tw15301734798525606132 : True := trivial
theorem hz.tw13108459971381789592 : True := trivial
theorem hz.tw13601765088496029472 : True := trivial
theorem hz.tw17074526480083208561 : True := trivial
theorem hz.tw583422456535418539 : True := trivial
theorem hz.tw11681242348153760842 : True := trivial
theorem hz.tw17656444443558895233 : True := trivial
theorem hz.tw416079458014394858 : True := trivial
theorem hz.tw9396322633399712782 : True := trivial
theorem hz.tw15083213975239214892 : True := trivial
theorem hz.tw5426572545804147340 : True := trivial
theorem hz.tw13250121457035938022 : True := trivial
theorem hz.tw3137468806240774238 : True := trivial
theorem hz.tw17326225683070583064 : True := trivial
theorem hz.tw11163498801685013333 : True := trivial
theorem hz.tw10997401841508905028 : True := trivial
theorem hz.tw3859522445245388698 : True := trivial
theorem hz.tw4402482316674157012 : True := trivial
theorem hz.tw7801802290815811314 : True := trivial
theorem hz.tw9316532486862619548 : True := trivial
theorem hz.tw4681568562550579975 : True := trivial
theorem hz.tw9076506177583955504 : True := trivial
theorem hz.tw12009070327386540151 : True := trivial
theorem hz.tw9901891953547811869 : True := trivial
theorem hz.tw11706132607031367939 : True := trivial
theorem hz.tw6775177611216001576 : True := trivial
theorem hz.tw12335161559182981673 : True := trivial
theorem hz.tw17814075476311176942 : True := trivial
theorem hz.tw14814863856570491898 : True := trivial
theorem hz.tw10107942069339470369 : True := trivial
theorem hz.tw6652640153094647222 : True := trivial
theorem hz.tw10542187544250527577 : True := trivial
theorem hz.tw932561257395962739 : True := trivial
theorem hz.tw4179091168817529893 : True := trivial
theorem hz.tw114683065339868775 : True := trivial
theorem hz.tw9016439022310003499 : True := trivial
theorem hz.tw13579050973318176638 : True := trivial
theorem hz.tw883739004559756537 : True := trivial
theorem hz.tw11015567397747985120 : True := trivial
theorem hz.tw11787242405949976302 : True := trivial
theorem hz.tw15950781351407898290 : True := trivial
theorem hz.tw3910286741914687834 : True := trivial
theorem hz.tw13801894863573213998 : True := trivial
theorem hz.tw8283286142596886282 : True := trivial
theorem hz.tw3799456832010684183 : True := trivial
theorem hz.tw12325694754271985504 : True := trivial
theorem hz.tw16489331371824675057 : True := trivial
theorem hz.tw6710405943800023557 : True := trivial
theorem hz.tw10317568855747070129 : True := trivial
theorem hz.tw12565732230493721079 : True := trivial
theorem hz.tw3309869668238031572 : True := trivial
theorem hz.tw8515505526242257046 : True := trivial
theorem hz.tw9540907143535930958 : True := trivial
theorem hz.tw9991146971592527763 : True := trivial
theorem hz.tw8097352024482218168 : True := trivial
theorem hz.tw3943065111725701930 : True := trivial
theorem hz.tw761766379551656931 : True := trivial
theorem hz.tw18311642621083838331 : True := trivial
theorem hz.tw14239637400398174575 : True := trivial
theorem hz.tw5651034725991188563 : True := trivial
theorem hz.tw4720456230911801110 : True := trivial
theorem hz.tw11357216796606849763 : True := trivial
theorem hz.tw15178463586153353556 : True := trivial
theorem hz.tw10280878485123461742 : True := trivial
theorem hz.tw2581616097424704911 : True := trivial
theorem hz.tw16415993422635621128 : True := trivial
theorem hz.tw6121226529164358727 : True := trivial
theorem hz.tw6957369906263234921 : True := trivial
theorem hz.tw17971945490092320105 : True := trivial
theorem hz.tw7002064927154065811 : True := trivial
theorem hz.tw389642960102293897 : True := trivial
theorem hz.tw10137114547390488719 : True := trivial
theorem hz.tw11540576437255277970 : True := trivial
theorem hz.tw9289581034238873020 : True := trivial
theorem hz.tw11514735185602839827 : True := trivial
theorem hz.tw9070929400822318462 : True := trivial
theorem hz.tw17096455197003100566 : True := trivial
theorem hz.tw17374545276104810259 : True := trivial
theorem hz.tw6773290221920961780 : True := trivial
theorem hz.tw8387864772819777830 : True := trivial
theorem hz.tw12505319857324418021 : True := trivial
theorem hz.tw3866912275884586916 : True := trivial
theorem hz.tw8769746110242683794 : True := trivial
theorem hz.tw9293987267168756662 : True := trivial
theorem hz.tw885470819693271951 : True := trivial
theorem hz.tw17149602009727689222 : True := trivial
theorem hz.tw7342327400295742078 : True := trivial
theorem hz.tw11796573754669710238 : True := trivial
theorem hz.tw9403624759231595650 : True := trivial
theorem hz.tw9939346461046721529 : True := trivial
theorem hz.tw9977432576754884351 : True := trivial
theorem hz.tw5969150300567819328 : True := trivial
theorem hz.tw3897912622281608165 : True := trivial
theorem hz.tw7394145489032786167 : True := trivial
theorem hz.tw14621827329078144384 : True := trivial
theorem hz.tw15560596079907882945 : True := trivial
theorem hz.tw13673490021016327276 : True := trivial
theorem hz.tw13708395874590131200 : True := trivial
theorem hz.tw16771905472993600601 : True := trivial
theorem hz.tw8982871655617799333 : True := trivial
theorem hz.tw13108639919726450803 : True := trivial
theorem hz.tw5713793752494408687 : True := trivial
theorem hz.tw5070803365521493737 : True := trivial
theorem hz.tw12464347031304837173 : True := trivial
theorem hz.tw9320575021926472870 : True := trivial
theorem hz.tw7849852050199202298 : True := trivial
theorem hz.tw4239024384502553036 : True := trivial
theorem hz.tw2374052769866529817 : True := trivial
theorem hz.tw4830439431141269446 : True := trivial
theorem hz.tw10798015174596782338 : True := trivial
theorem hz.tw3142331017922162649 : True := trivial
theorem hz.tw16757658370585449341 : True := trivial
theorem hz.tw8858262341522829159 : True := trivial
theorem hz.tw16662636819385312213 : True := trivial
theorem hz.tw3700398144910398058 : True := trivial
theorem hz.tw12478683518598527524 : True := trivial
theorem hz.tw17398862615249126810 : True := trivial
theorem hz.tw5037695400780231482 : True := trivial
theorem hz.tw15841801169576120372 : True := trivial
theorem hz.tw18438406943808174141 : True := trivial
theorem hz.tw12854206514954585933 : True := trivial
theorem hz.tw7495265293956819040 : True := trivial
theorem hz.tw6038739721906059517 : True := trivial
theorem hz.tw15272685315964655177 : True := trivial
theorem hz.tw14457348244978764906 : True := trivial
theorem hz.tw2414634198482547524 : True := trivial
theorem hz.tw10454278151310657483 : True := trivial
theorem hz.tw10992231156826365409 : True := trivial
theorem hz.tw2221473554405495014 : True := trivial
theorem hz.tw15740682739359413649 : True := trivial
theorem hz.tw3475030741526975732 : True := trivial
theorem hz.tw12243863119443182570 : True := trivial
theorem hz.tw16286438908445766582 : True := trivial
theorem hz.tw8288769589293950572 : True := trivial
theorem hz.tw2351651644213134532 : True := trivial
theorem hz.tw5572801948703449588 : True := trivial
theorem hz.tw14589149029358403104 : True := trivial
theorem hz.tw3438358738362929110 : True := trivial
theorem hz.tw5271432405679188410 : True := trivial
theorem hz.tw14623250489668796574 : True := trivial
theorem hz.tw8033644838798443218 : True := trivial
theorem hz.tw12701473085456249569 : True := trivial
theorem hz.tw10522965759934230622 : True := trivial
theorem hz.tw4850304392508428161 : True := trivial
theorem hz.tw16916559752327845863 : True := trivial
theorem hz.tw12128028332633989779 : True := trivial
theorem hz.tw7321563722428163838 : True := trivial
theorem hz.tw9201867243721975577 : True := trivial
theorem hz.tw7000029786039592900 : True := trivial
theorem hz.tw6140374088416726379 : True := trivial
theorem hz.tw15374365178396712405 : True := trivial
theorem hz.tw2696045607461498616 : True := trivial
theorem hz.tw4339710908008239361 : True := trivial
theorem hz.tw16441894931015575711 : True := trivial
theorem hz.tw1035675047063224775 : True := trivial
theorem hz.tw11201707059196669981 : True := trivial
theorem hz.tw8055412184724411835 : True := trivial
theorem hz.tw16273958794034798625 : True := trivial
theorem hz.tw14626727300643596634 : True := trivial
theorem hz.tw12243813535450605829 : True := trivial
theorem hz.tw7051610553473337502 : True := trivial
theorem hz.tw17320032713246204464 : True := trivial
theorem hz.tw3484977739564664312 : True := trivial
theorem hz.tw11200521928165251703 : True := trivial
theorem hz.tw8848187374381775484 : True := trivial
theorem hz.tw11834127297508429104 : True := trivial
theorem hz.tw1642728536628680142 : True := trivial
theorem hz.tw7056754976012160675 : True := trivial
theorem hz.tw7606245221297571655 : True := trivial
theorem hz.tw9771498179790352490 : True := trivial
theorem hz.tw11312880285794164628 : True := trivial
theorem hz.tw10825546434683997549 : True := trivial
theorem hz.tw8442416947719712889 : True := trivial
theorem hz.tw7510078109190122003 : True := trivial
theorem hz.tw8325386420962135856 : True := trivial
theorem hz.tw10828063625459767322 : True := trivial
theorem hz.tw2951143003900987774 : True := trivial
theorem hz.tw9815706836761633682 : True := trivial
theorem hz.tw18034184193602152776 : True := trivial
theorem hz.tw18265132678542793614 : True := trivial
theorem hz.tw12422956096502714686 : True := trivial
theorem hz.tw14190685656785547654 : True := trivial
theorem hz.tw8898160240275027680 : True := trivial
theorem hz.tw13202376327557454463 : True := trivial
theorem hz.tw15055005141212833 : True := trivial
theorem hz.tw7845895202301588769 : True := trivial
theorem hz.tw13754261486584909497 : True := trivial
theorem hz.tw14942591108937330390 : True := trivial
theorem hz.tw17501165697768252180 : True := trivial
theorem hz.tw10866420472246322889 : True := trivial
theorem hz.tw14211185832563962626 : True := trivial
theorem hz.tw5017077206033542401 : True := trivial
theorem hz.tw3329585567259285651 : True := trivial
theorem hz.tw6987855161452597927 : True := trivial
theorem hz.tw17262389547949415788 : True := trivial
theorem hz.tw3926514167070958589 : True := trivial
theorem hz.tw3163300412273690346 : True := trivial
theorem hz.tw7814979853567033528 : True := trivial
theorem hz.tw14142603653821357332 : True := trivial
theorem hz.tw12810321929769510677 : True := trivial
theorem hz.tw12179640556852107329 : True := trivial
theorem hz.tw4812991067812546163 : True := trivial
theorem hz.tw16718659211299844249 : True := trivial
theorem hz.tw14565471915793707798 : True := trivial
theorem hz.tw1232741870705677767 : True := trivial
theorem hz.tw8660585829462843650 : True := trivial
theorem hz.tw17039371753133514740 : True := trivial
theorem hz.tw12499778022779700631 : True := trivial
theorem hz.tw3241644412236857243 : True := trivial
theorem hz.tw18147045309034274641 : True := trivial
theorem hz.tw818547062046072570 : True := trivial
theorem hz.tw16636934420824467215 : True := trivial
theorem hz.tw4061979737337946191 : True := trivial
theorem hz.tw10814698976993490413 : True := trivial
theorem hz.tw12629928811017745617 : True := trivial
theorem hz.tw11715259221749871531 : True := trivial
theorem hz.tw1509398810210618381 : True := trivial
theorem hz.tw12836554889798896205 : True := trivial
theorem hz.tw6687901780249007357 : True := trivial
theorem hz.tw5902246032779567467 : True := trivial
theorem hz.tw2112690620150144317 : True := trivial
theorem hz.tw13432415010392838578 : True := trivial
theorem hz.tw9630304028033349199 : True := trivial
theorem hz.tw3100992946528246890 : True := trivial
theorem hz.tw13017829481051862176 : True := trivial
theorem hz.tw4181543552553508908 : True := trivial
theorem hz.tw16265697536775485607 : True := trivial
theorem hz.tw5806018850420586899 : True := trivial
theorem hz.tw3207369186536571480 : True := trivial
theorem hz.tw9300640117773747035 : True := trivial
theorem hz.tw18354813575799355629 : True := trivial
theorem hz.tw7149104514077207244 : True := trivial
theorem hz.tw16032555560169355742 : True := trivial
theorem hz.tw15820580772646036808 : True := trivial
theorem hz.tw16850012487077453499 : True := trivial
theorem hz.tw9914353605271600789 : True := trivial
theorem hz.tw13840201308800779911 : True := trivial
theorem hz.tw8348228568092318468 : True := trivial
theorem hz.tw17470342242265703592 : True := trivial
theorem hz.tw13414685659950563899 : True := trivial
theorem hz.tw9662156738967638380 : True := trivial
theorem hz.tw4159705727510366811 : True := trivial
theorem hz.tw12412655487547459182 : True := trivial
theorem hz.tw8827072295080645905 : True := trivial
theorem hz.tw15707621160816244904 : True := trivial
theorem hz.tw6484360232018580986 : True := trivial
theorem hz.tw857159399361408515 : True := trivial
theorem hz.tw1059211775924068136 : True := trivial
theorem hz.tw1573960974891872823 : True := trivial
theorem hz.tw6888448432685805638 : True := trivial
theorem hz.tw38426916372594139 : True := trivial
theorem hz.tw8856122689965517855 : True := trivial
theorem hz.tw15280196709899990146 : True := trivial
theorem hz.tw4950838307135178571 : True := trivial
theorem hz.tw16403379571072905632 : True := trivial
theorem hz.tw9729800063069342020 : True := trivial
theorem hz.tw15055710859671986779 : True := trivial
theorem hz.tw12945109440704396772 : True := trivial
theorem hz.tw6599950586724369633 : True := trivial
theorem hz.tw10533046326160312507 : True := trivial
theorem hz.tw6835715175246602148 : True := trivial
theorem hz.tw5054753170160954622 : True := trivial
theorem hz.tw17229698734055881969 : True := trivial
theorem hz.tw8844924767008489185 : True := trivial
theorem hz.tw17964650597591853497 : True := trivial
theorem hz.tw3441306055948480108 : True := trivial
theorem hz.tw13003961455321191637 : True := trivial
theorem hz.tw11311816090093141988 : True := trivial
theorem hz.tw17389923136368571651 : True := trivial
theorem hz.tw1607408153074711662 : True := trivial
theorem hz.tw5766119374624985812 : True := trivial
theorem hz.tw13014532388373356402 : True := trivial
theorem hz.tw2374504171192738094 : True := trivial
theorem hz.tw5916274651056395347 : True := trivial
theorem hz.tw4374334568152544409 : True := trivial
theorem hz.tw9460509993713669382 : True := trivial
theorem hz.tw4538529883159427579 : True := trivial
theorem hz.tw17435222664246078396 : True := trivial
theorem hz.tw16338127713994568751 : True := trivial
theorem hz.tw9323246123999026840 : True := trivial
theorem hz.tw14480285306394643312 : True := trivial
theorem hz.tw17558283912211789402 : True := trivial
theorem hz.tw7614479825053605794 : True := trivial
theorem hz.tw1685380879330261278 : True := trivial
theorem hz.tw11087419179950877547 : True := trivial
theorem hz.tw13283374990009820887 : True := trivial
theorem hz.tw13990979124738811871 : True := trivial
theorem hz.tw10528871807144743482 : True := trivial
theorem hz.tw12306364583662874549 : True := trivial
theorem hz.tw15012261436444867497 : True := trivial
theorem hz.tw5766140941133465946 : True := trivial
theorem hz.tw7508406947242559208 : True := trivial
theorem hz.tw5435981721702415064 : True := trivial
theorem hz.tw884294898191101139 : True := trivial
theorem hz.tw7428054468611981740 : True := trivial
theorem hz.tw12960145124574263395 : True := trivial
theorem hz.tw4367219200643248437 : True := trivial
theorem hz.tw857775494920039014 : True := trivial
theorem hz.tw18293670480271006992 : True := trivial
theorem hz.tw13499924406552382398 : True := trivial
theorem hz.tw816497794977729214 : True := trivial
theorem hz.tw11352980550198641324 : True := trivial
theorem hz.tw16434487401556834528 : True := trivial
theorem hz.tw3418818418724816231 : True := trivial
theorem hz.tw5994175655321524298 : True := trivial
theorem hz.tw435493145017552099 : True := trivial
theorem hz.tw15153361984402490023 : True := trivial
theorem hz.tw2578749361337394626 : True := trivial
theorem hz.tw1843691011253267837 : True := trivial
theorem hz.tw12371077691833783672 : True := trivial
theorem hz.tw10933051255674946531 : True := trivial
theorem hz.tw1385018620958232942 : True := trivial
theorem hz.tw11815946028511170082 : True := trivial
theorem hz.tw2903645220633066438 : True := trivial
theorem hz.tw3384705726268408274 : True := trivial
theorem hz.tw3290931331286684165 : True := trivial
theorem hz.tw10313118133249832213 : True := trivial
theorem hz.tw16037308369160377089 : True := trivial
theorem hz.tw4399099304474815453 : True := trivial
theorem hz.tw57866142562270112 : True := trivial
theorem hz.tw3203294283922203066 : True := trivial
theorem hz.tw13097121935166825579 : True := trivial
theorem hz.tw1084182863906447486 : True := trivial
theorem hz.tw12164335079443141756 : True := trivial
theorem hz.tw16922277775994845442 : True := trivial
theorem hz.tw3035833193185932268 : True := trivial
theorem hz.tw15406904009402328732 : True := trivial
theorem hz.tw16312591928387836314 : True := trivial
theorem hz.tw2066386168737057647 : True := trivial
theorem hz.tw4561978366764427404 : True := trivial
theorem hz.tw14086012016314669164 : True := trivial
theorem hz.tw5308095267251234726 : True := trivial
theorem hz.tw11030799929612776038 : True := trivial
theorem hz.tw12891486641602788980 : True := trivial
theorem hz.tw15305075768649940095 : True := trivial
theorem hz.tw16855697467332732092 : True := trivial
theorem hz.tw11944691617385641537 : True := trivial
theorem hz.tw4671209514205895628 : True := trivial
theorem hz.tw14695287089911534510 : True := trivial
theorem hz.tw8756014972068662955 : True := trivial
theorem hz.tw10263150839297989375 : True := trivial
theorem hz.tw3838362100035332841 : True := trivial
theorem hz.tw8079056183941066602 : True := trivial
theorem hz.tw4385333811661808628 : True := trivial
theorem hz.tw13495715174520915592 : True := trivial
theorem hz.tw15497355373892262571 : True := trivial
theorem hz.tw466499207345153316 : True := trivial
theorem hz.tw7391989581604557556 : True := trivial
theorem hz.tw16794205711239092836 : True := trivial
theorem hz.tw12104965909573965367 : True := trivial
theorem hz.tw14298183046590505346 : True := trivial
theorem hz.tw845259255264681751 : True := trivial
theorem hz.tw3047712185454269526 : True := trivial
theorem hz.tw16475101580518363154 : True := trivial
theorem hz.tw11389451863755384170 : True := trivial
theorem hz.tw18062513400007585565 : True := trivial
theorem hz.tw10153267303197748439 : True := trivial
theorem hz.tw6547881312587685268 : True := trivial
theorem hz.tw15288807803227270272 : True := trivial
theorem hz.tw4318038362599073767 : True := trivial
theorem hz.tw3071855413393321869 : True := trivial
theorem hz.tw11683608003091529967 : True := trivial
theorem hz.tw11877471385977531191 : True := trivial
theorem hz.tw9108477828419882862 : True := trivial
theorem hz.tw15387721044037775960 : True := trivial
theorem hz.tw6877257032200561081 : True := trivial
theorem hz.tw3379477238991246314 : True := trivial
theorem hz.tw321157747399339472 : True := trivial
theorem hz.tw15687462084408199890 : True := trivial
theorem hz.tw4747556218517697016 : True := trivial
theorem hz.tw14638001601258150705 : True := trivial
theorem hz.tw15911487991986726034 : True := trivial
theorem hz.tw2269403390555876840 : True := trivial
theorem hz.tw7526197279016189555 : True := trivial
theorem hz.tw9560491632590737171 : True := trivial
theorem hz.tw14422433871324932070 : True := trivial
theorem hz.tw15276498866044108104 : True := trivial
theorem hz.tw18373450675769261416 : True := trivial
theorem hz.tw6973907394467328277 : True := trivial
theorem hz.tw2734171650002650170 : True := trivial
theorem hz.tw4170020791557187119 : True := trivial
theorem hz.tw17225258447307907961 : True := trivial
theorem hz.tw3367326688571005212 : True := trivial
theorem hz.tw716331380128427721 : True := trivial
theorem hz.tw8795904624217240779 : True := trivial
theorem hz.tw3570518314566901741 : True := trivial
theorem hz.tw5435961580427188491 : True := trivial
theorem hz.tw34633205882917914 : True := trivial
theorem hz.tw18316010264384124850 : True := trivial
theorem hz.tw12704318905832217545 : True := trivial
theorem hz.tw11587054371745055941 : True := trivial
theorem hz.tw10556910129247614076 : True := trivial
theorem hz.tw14951391062522239545 : True := trivial
theorem hz.tw10059195602772952952 : True := trivial
theorem hz.tw11338049464976757459 : True := trivial
theorem hz.tw4442021070955565074 : True := trivial
theorem hz.tw7522276795032988519 : True := trivial
theorem hz.tw5033730870372992372 : True := trivial
theorem hz.tw6620616609805695689 : True := trivial
theorem hz.tw13943329278880481763 : True := trivial
theorem hz.tw12972083228738055626 : True := trivial
theorem hz.tw6625619936139450121 : True := trivial
theorem hz.tw11636545708907027534 : True := trivial
theorem hz.tw16465813739468190622 : True := trivial
theorem hz.tw10872919451897546242 : True := trivial
theorem hz.tw16785469713802121961 : True := trivial
theorem hz.tw5660516654215366323 : True := trivial
theorem hz.tw12046676398773372696 : True := trivial
theorem hz.tw8356092833828834918 : True := trivial
theorem hz.tw16018119972030079345 : True := trivial
theorem hz.tw8071325310934243323 : True := trivial
theorem hz.tw2747674064909979972 : True := trivial
theorem hz.tw18280353048901136651 : True := trivial
theorem hz.tw17723057502233125940 : True := trivial
theorem hz.tw2249784825129113658 : True := trivial
theorem hz.tw17566398983644978423 : True := trivial
theorem hz.tw16520123921708207373 : True := trivial
theorem hz.tw6675068514616268451 : True := trivial
theorem hz.tw9819836363843967531 : True := trivial
theorem hz.tw12726015647070158618 : True := trivial
theorem hz.tw13350297029778916019 : True := trivial
theorem hz.tw6503193330215060451 : True := trivial
theorem hz.tw3523891597054116217 : True := trivial
theorem hz.tw14366788250059190139 : True := trivial
theorem hz.tw6350595127430816201 : True := trivial
theorem hz.tw18250114622762977504 : True := trivial
theorem hz.tw6929465531335008240 : True := trivial
theorem hz.tw7144426590242864046 : True := trivial
theorem hz.tw12361124937481065395 : True := trivial
theorem hz.tw15058503269290059100 : True := trivial
theorem hz.tw12519463810365407981 : True := trivial
theorem hz.tw15910614977864402258 : True := trivial
theorem hz.tw5974247297615500024 : True := trivial
theorem hz.tw8567375957506584466 : True := trivial
theorem hz.tw6916295809870778795 : True := trivial
theorem hz.tw15262996803369322192 : True := trivial
theorem hz.tw8674935313267446618 : True := trivial
theorem hz.tw13197564183972156233 : True := trivial
theorem hz.tw15383693046849304363 : True := trivial
theorem hz.tw5045519309234541295 : True := trivial
theorem hz.tw23385890880277552 : True := trivial
theorem hz.tw4832174382262721512 : True := trivial
theorem hz.tw464559358401711713 : True := trivial
theorem hz.tw11681139196030892479 : True := trivial
theorem hz.tw17373939790721287808 : True := trivial
theorem hz.tw16739691452991639601 : True := trivial
theorem hz.tw13144693644294339479 : True := trivial
theorem hz.tw5850184285409418546 : True := trivial
theorem hz.tw11101329619906039777 : True := trivial
theorem hz.tw11734811781773190075 : True := trivial
theorem hz.tw11277426960405791242 : True := trivial
theorem hz.tw16243997896778138296 : True := trivial
theorem hz.tw198358958594223580 : True := trivial
theorem hz.tw9099862064921785007 : True := trivial
theorem hz.tw18426793918244363447 : True := trivial
theorem hz.tw2562384591281644362 : True := trivial
theorem hz.tw17382399094686688910 : True := trivial
theorem hz.tw13301949964496506152 : True := trivial
theorem hz.tw8885964200080701212 : True := trivial
theorem hz.tw2362145583303342145 : True := trivial
theorem hz.tw4751904060933156889 : True := trivial
theorem hz.tw16324516716481547866 : True := trivial
theorem hz.tw8527801573402709496 : True := trivial
theorem hz.tw1975478853422511027 : True := trivial
theorem hz.tw11993180261757008304 : True := trivial
theorem hz.tw14467105797841258643 : True := trivial
theorem hz.tw7774476203083683216 : True := trivial
theorem hz.tw9112233417141478292 : True := trivial
theorem hz.tw7997453897852924065 : True := trivial
theorem hz.tw18083458012840041500 : True := trivial
theorem hz.tw9811305985279255438 : True := trivial
theorem hz.tw765269356416642638 : True := trivial
theorem hz.tw15646834182017273151 : True := trivial
theorem hz.tw16838226236357944856 : True := trivial
theorem hz.tw13042897503477634871 : True := trivial
theorem hz.tw13285193656499570566 : True := trivial
theorem hz.tw12652347227186416501 : True := trivial
theorem hz.tw7609096438733158772 : True := trivial
theorem hz.tw5513401282719376782 : True := trivial
theorem hz.tw3495132991933142529 : True := trivial
theorem hz.tw6836602325367379948 : True := trivial
theorem hz.tw5528380559598693354 : True := trivial
theorem hz.tw4178384540975618718 : True := trivial
theorem hz.tw263721675691732264 : True := trivial
theorem hz.tw1534967959816916118 : True := trivial
theorem hz.tw13667832320176264300 : True := trivial
theorem hz.tw13379858693892719590 : True := trivial
theorem hz.tw2751105121329881067 : True := trivial
theorem hz.tw6133664799794614129 : True := trivial
theorem hz.tw201163509412176465 : True := trivial
theorem hz.tw6148659333033066988 : True := trivial
theorem hz.tw16427853755416263625 : True := trivial
theorem hz.tw3281741999074718737 : True := trivial
theorem hz.tw16678417148349961741 : True := trivial
theorem hz.tw6488168231913567413 : True := trivial
theorem hz.tw15420671382375374563 : True := trivial
theorem hz.tw17249131125625471833 : True := trivial
theorem hz.tw2417845113612154810 : True := trivial
theorem hz.tw4525940060038291391 : True := trivial
theorem hz.tw18088913563823138669 : True := trivial
theorem hz.tw2652457738381487036 : True := trivial
theorem hz.tw6896027563033615779 : True := trivial
theorem hz.tw12241261609716154448 : True := trivial
theorem hz.tw4513907714131656727 : True := trivial
theorem hz.tw14414922332657046977 : True := trivial
theorem hz.tw16844472882963192264 : True := trivial
theorem hz.tw1970537101652348298 : True := trivial
theorem hz.tw6767429058614177153 : True := trivial
theorem hz.tw11981178796661666982 : True := trivial
theorem hz.tw16590027456945233886 : True := trivial
theorem hz.tw6735088453409992761 : True := trivial
theorem hz.tw5866249880593280484 : True := trivial
theorem hz.tw3692100692124138647 : True := trivial
theorem hz.tw10165873656559617911 : True := trivial
theorem hz.tw2876114387167773565 : True := trivial
theorem hz.tw17234902189487386583 : True := trivial
theorem hz.tw10819416476226201183 : True := trivial
theorem hz.tw11158925138923571986 : True := trivial
theorem hz.tw6934120426249899266 : True := trivial
theorem hz.tw13389982875069583677 : True := trivial
theorem hz.tw7695886061517512558 : True := trivial
theorem hz.tw1807074571637647880 : True := trivial
theorem hz.tw12562141080130705313 : True := trivial
theorem hz.tw1225054191699162464 : True := trivial
theorem hz.tw17882520107500042980 : True := trivial
theorem hz.tw9011099945904546472 : True := trivial
theorem hz.tw17632904462738418731 : True := trivial
theorem hz.tw707292788929546938 : True := trivial
theorem hz.tw2382884819272403164 : True := trivial
theorem hz.tw1556852547895353103 : True := trivial
theorem hz.tw17650565190407447066 : True := trivial
theorem hz.tw3157837101078046141 : True := trivial
theorem hz.tw12100385184109673459 : True := trivial
theorem hz.tw12432302975517612039 : True := trivial
theorem hz.tw654210853927702081 : True := trivial
theorem hz.tw14907918385716958920 : True := trivial
theorem hz.tw4311119765778752274 : True := trivial
theorem hz.tw9697684609632748354 : True := trivial
theorem hz.tw1745227089916663705 : True := trivial
theorem hz.tw16456759970826036207 : True := trivial
theorem hz.tw5778381238436302044 : True := trivial
theorem hz.tw17283742458875143866 : True := trivial
theorem hz.tw565641799631954039 : True := trivial
theorem hz.tw9972881289136033888 : True := trivial
theorem hz.tw8701974994498775752 : True := trivial
theorem hz.tw1900803566515362890 : True := trivial
theorem hz.tw1413180866553122209 : True := trivial
theorem hz.tw16429551699793734293 : True := trivial
theorem hz.tw3229292642891798566 : True := trivial
theorem hz.tw709245649439175248 : True := trivial
theorem hz.tw6641449555870319107 : True := trivial
theorem hz.tw12201323050030605714 : True := trivial
theorem hz.tw10136550070918223152 : True := trivial
theorem hz.tw8403147723383428642 : True := trivial
theorem hz.tw16021004675964697493 : True := trivial
theorem hz.tw14214267634439554063 : True := trivial
theorem hz.tw11392282053710544062 : True := trivial
theorem hz.tw7176767311379724816 : True := trivial
theorem hz.tw16895551491138271718 : True := trivial
theorem hz.tw10865706405552564018 : True := trivial
theorem hz.tw1312702027555178273 : True := trivial
theorem hz.tw3809701550618004376 : True := trivial
theorem hz.tw11048362698932154058 : True := trivial
theorem hz.tw7754164584405489300 : True := trivial
theorem hz.tw67278915600818653 : True := trivial
theorem hz.tw10590464685711127999 : True := trivial
theorem hz.tw2363488031494741784 : True := trivial
theorem hz.tw15684795949602387494 : True := trivial
theorem hz.tw3952944298567809340 : True := trivial
theorem hz.tw8931412941408995453 : True := trivial
theorem hz.tw1836861832492623742 : True := trivial
theorem hz.tw2573423218560722090 : True := trivial
theorem hz.tw5688003879166119759 : True := trivial
theorem hz.tw5746886759673039633 : True := trivial
theorem hz.tw12574278091020684211 : True := trivial
theorem hz.tw11215861665675876570 : True := trivial
theorem hz.tw9725287022693405164 : True := trivial
theorem hz.tw5213194036654243578 : True := trivial
theorem hz.tw17282081391903366197 : True := trivial
theorem hz.tw7086817164333957245 : True := trivial
theorem hz.tw18079616342645859454 : True := trivial
theorem hz.tw8801974027579957681 : True := trivial
theorem hz.tw17765099317285799261 : True := trivial
theorem hz.tw5225663623110495000 : True := trivial
theorem hz.tw5352772296509291499 : True := trivial
theorem hz.tw30045767096052240 : True := trivial
theorem hz.tw10619713437097762938 : True := trivial
theorem hz.tw5113994385557948277 : True := trivial
theorem hz.tw17153029844896111765 : True := trivial
theorem hz.tw12827291619090602467 : True := trivial
theorem hz.tw9855730247351425037 : True := trivial
theorem hz.tw3296619940395714034 : True := trivial
theorem hz.tw12653559180779801582 : True := trivial
theorem hz.tw9769100699928231869 : True := trivial
theorem hz.tw6984409551699094780 : True := trivial
theorem hz.tw474063633273619114 : True := trivial
theorem hz.tw7044749123600374360 : True := trivial
theorem hz.tw14559949493762476254 : True := trivial
theorem hz.tw16690566949643992132 : True := trivial
theorem hz.tw2975152891166552592 : True := trivial
theorem hz.tw2913198346902272006 : True := trivial
theorem hz.tw7844849375414614137 : True := trivial
theorem hz.tw11552627438253932139 : True := trivial
theorem hz.tw18210642166831351322 : True := trivial
theorem hz.tw7777115776726397956 : True := trivial
theorem hz.tw13826746120632849917 : True := trivial
theorem hz.tw16244015959188572248 : True := trivial
theorem hz.tw6927066728284588219 : True := trivial
theorem hz.tw16295891101421115102 : True := trivial
theorem hz.tw11431449822135777752 : True := trivial
theorem hz.tw17383743811184824017 : True := trivial
theorem hz.tw15571589618412301551 : True := trivial
theorem hz.tw2325953843746727646 : True := trivial
theorem hz.tw11133972863026715697 : True := trivial
theorem hz.tw3571565338881310677 : True := trivial
theorem hz.tw6116000403522874337 : True := trivial
theorem hz.tw6661274446367000918 : True := trivial
theorem hz.tw5399519033371756106 : True := trivial
theorem hz.tw14087290493361769678 : True := trivial
theorem hz.tw14923388099833720690 : True := trivial
theorem hz.tw976588215514019272 : True := trivial
theorem hz.tw9637413171211783501 : True := trivial
theorem hz.tw12662800829203343565 : True := trivial
theorem hz.tw9937069772597576473 : True := trivial
theorem hz.tw6583911937563176189 : True := trivial
theorem hz.tw4672724324049254698 : True := trivial
theorem hz.tw15238248409818295061 : True := trivial
theorem hz.tw4956355085919150728 : True := trivial
theorem hz.tw12658536904589074870 : True := trivial
theorem hz.tw7954134116926362078 : True := trivial
theorem hz.tw16320947689345711866 : True := trivial
theorem hz.tw6952014429962055653 : True := trivial
theorem hz.tw8417374086686259214 : True := trivial
theorem hz.tw3244810641497281152 : True := trivial
theorem hz.tw15629000774522163529 : True := trivial
theorem hz.tw3175117341270308226 : True := trivial
theorem hz.tw7464403497590151001 : True := trivial
theorem hz.tw15654857541912844404 : True := trivial
theorem hz.tw15415305451095625928 : True := trivial
theorem hz.tw1450623794737859403 : True := trivial
theorem hz.tw4565910943770924314 : True := trivial
theorem hz.tw3816708474162791544 : True := trivial
theorem hz.tw11757769867909144224 : True := trivial
theorem hz.tw10011936574200380524 : True := trivial
theorem hz.tw5735341952147434594 : True := trivial
theorem hz.tw2512341096502648168 : True := trivial
theorem hz.tw13872759425206591379 : True := trivial
theorem hz.tw11959712452011905067 : True := trivial
theorem hz.tw10647251202523545812 : True := trivial
theorem hz.tw2742102821180064030 : True := trivial
theorem hz.tw17522313362860084072 : True := trivial
theorem hz.tw1879794466126141733 : True := trivial
theorem hz.tw16212449004471992794 : True := trivial
theorem hz.tw6422550305863195250 : True := trivial
theorem hz.tw10848189118514158675 : True := trivial
theorem hz.tw5100741392266617667 : True := trivial
theorem hz.tw9021558118812823818 : True := trivial
theorem hz.tw132247750445038404 : True := trivial
theorem hz.tw6308897079550015653 : True := trivial
theorem hz.tw4040738756098620657 : True := trivial
theorem hz.tw13502892382171151390 : True := trivial
theorem hz.tw5567931006687199603 : True := trivial
theorem hz.tw6154464033501805708 : True := trivial
theorem hz.tw13201788923118172873 : True := trivial
theorem hz.tw17808823461373976240 : True := trivial
theorem hz.tw5037362311540996337 : True := trivial
theorem hz.tw1148975153787927687 : True := trivial
theorem hz.tw3730405904163986246 : True := trivial
theorem hz.tw17653917351203551286 : True := trivial
theorem hz.tw12639387879550626152 : True := trivial
theorem hz.tw684568892814292144 : True := trivial
theorem hz.tw8801594908850565855 : True := trivial
theorem hz.tw17323432720758319894 : True := trivial
theorem hz.tw5396561889484722962 : True := trivial
theorem hz.tw17964555143084585827 : True := trivial
theorem hz.tw11327193760499052661 : True := trivial
theorem hz.tw956729046032417913 : True := trivial
theorem hz.tw18032320842398538987 : True := trivial
theorem hz.tw5834376787977349131 : True := trivial
theorem hz.tw1486629055683865287 : True := trivial
theorem hz.tw11924959393245886444 : True := trivial
theorem hz.tw16727650448355479822 : True := trivial
theorem hz.tw441090299199646440 : True := trivial
theorem hz.tw9850375095198256467 : True := trivial
theorem hz.tw1570116001670664191 : True := trivial
theorem hz.tw8545564089921580965 : True := trivial
theorem hz.tw15990649478819344776 : True := trivial
theorem hz.tw7703823086195361909 : True := trivial
theorem hz.tw4138217418844702747 : True := trivial
theorem hz.tw2202236583521843050 : True := trivial
theorem hz.tw923293567136778467 : True := trivial
theorem hz.tw12833871302396818493 : True := trivial
theorem hz.tw12885589258926025801 : True := trivial
theorem hz.tw5681684120281383207 : True := trivial
theorem hz.tw11770948674124466586 : True := trivial
theorem hz.tw12094783367381009157 : True := trivial
theorem hz.tw12582234761265655269 : True := trivial
theorem hz.tw17535340690981793246 : True := trivial
theorem hz.tw9833432274284988425 : True := trivial
theorem hz.tw8415280013497914277 : True := trivial
theorem hz.tw8162671062947812907 : True := trivial
theorem hz.tw4485948772195661608 : True := trivial
theorem hz.tw6015275037747381980 : True := trivial
theorem hz.tw1450652626615982611 : True := trivial
theorem hz.tw221648542841503589 : True := trivial
theorem hz.tw6361888458728460236 : True := trivial
theorem hz.tw7908072572937960666 : True := trivial
theorem hz.tw7191133497698283134 : True := trivial
theorem hz.tw12244216021098649873 : True := trivial
theorem hz.tw6577009157857588363 : True := trivial
theorem hz.tw8748014743845204143 : True := trivial
theorem hz.tw9599494443586160424 : True := trivial
theorem hz.tw16745019488864340935 : True := trivial
theorem hz.tw10542189430505031009 : True := trivial
theorem hz.tw17460389362165038323 : True := trivial
theorem hz.tw11415525739241593802 : True := trivial
theorem hz.tw1482590610026776438 : True := trivial
theorem hz.tw15117712977110588794 : True := trivial
theorem hz.tw13938834018106408208 : True := trivial
theorem hz.tw9294631413053681133 : True := trivial
theorem hz.tw14128758719165034554 : True := trivial
theorem hz.tw226925464246855819 : True := trivial
theorem hz.tw12985330713738442804 : True := trivial
theorem hz.tw1792183059726978656 : True := trivial
theorem hz.tw11272674510835320019 : True := trivial
theorem hz.tw9435110646960139442 : True := trivial
theorem hz.tw2086513108710541580 : True := trivial
theorem hz.tw18178210866982006740 : True := trivial
theorem hz.tw12771501797042822540 : True := trivial
theorem hz.tw14947300686886338620 : True := trivial
theorem hz.tw15614858937660582810 : True := trivial
theorem hz.tw1219091445504609244 : True := trivial
theorem hz.tw1513109823345537939 : True := trivial
theorem hz.tw12537076168424602934 : True := trivial
theorem hz.tw5358305424268519322 : True := trivial
theorem hz.tw4750967403191604008 : True := trivial
theorem hz.tw924659946985441755 : True := trivial
theorem hz.tw15977980265284066037 : True := trivial
theorem hz.tw761500270294285894 : True := trivial
theorem hz.tw8183494793963914756 : True := trivial
theorem hz.tw3183989486830538363 : True := trivial
theorem hz.tw3067005305014116935 : True := trivial
theorem hz.tw7965869007780304471 : True := trivial
theorem hz.tw8759501892602494410 : True := trivial
theorem hz.tw4189234500583401961 : True := trivial
theorem hz.tw13192265305717443762 : True := trivial
theorem hz.tw13340409173449318285 : True := trivial
theorem hz.tw15499797701999438383 : True := trivial
theorem hz.tw17654660315638230768 : True := trivial
theorem hz.tw17708599867947588609 : True := trivial
theorem hz.tw14470087932028689839 : True := trivial
theorem hz.tw3056881912097437410 : True := trivial
theorem hz.tw6998255803574513121 : True := trivial
theorem hz.tw961262777192767157 : True := trivial
theorem hz.tw14376290683087594288 : True := trivial
theorem hz.tw16911275143151643303 : True := trivial
theorem hz.tw1078984735445109300 : True := trivial
theorem hz.tw5551805022452451905 : True := trivial
theorem hz.tw3603618288538472829 : True := trivial
theorem hz.tw3226535696013953333 : True := trivial
theorem hz.tw8424974847203773298 : True := trivial
theorem hz.tw10189669945877170180 : True := trivial
theorem hz.tw11397542914960096310 : True := trivial
theorem hz.tw9192628962904258913 : True := trivial
theorem hz.tw12506853317576939301 : True := trivial
theorem hz.tw1276601005280744188 : True := trivial
theorem hz.tw1633568374086977844 : True := trivial
theorem hz.tw7351571340482053763 : True := trivial
theorem hz.tw13473515524567490408 : True := trivial
theorem hz.tw858238442401738111 : True := trivial
theorem hz.tw6291265942674922166 : True := trivial
theorem hz.tw3751754950559188383 : True := trivial
theorem hz.tw2266292589131177820 : True := trivial
theorem hz.tw14205454767551385726 : True := trivial
theorem hz.tw12957425684755558315 : True := trivial
theorem hz.tw7612062216463716765 : True := trivial
theorem hz.tw3841598637668036570 : True := trivial
theorem hz.tw1619758589177284021 : True := trivial
theorem hz.tw4815329155190671329 : True := trivial
theorem hz.tw15785045258530900643 : True := trivial
theorem hz.tw13028244682447229244 : True := trivial
theorem hz.tw3274846673132838798 : True := trivial
theorem hz.tw4093554545191146189 : True := trivial
theorem hz.tw1738575508396371633 : True := trivial
theorem hz.tw6728846693698850323 : True := trivial
theorem hz.tw16368402587254915187 : True := trivial
theorem hz.tw4958073217588998420 : True := trivial
theorem hz.tw11497154374855996593 : True := trivial
theorem hz.tw6815260252694338854 : True := trivial
theorem hz.tw5128895165420307936 : True := trivial
theorem hz.tw17264125264331456767 : True := trivial
theorem hz.tw8090544507540750339 : True := trivial
theorem hz.tw2234962915851811286 : True := trivial
theorem hz.tw5897197653288087916 : True := trivial
theorem hz.tw13813819475707521422 : True := trivial
theorem hz.tw15484827384427399583 : True := trivial
theorem hz.tw4666802869516784894 : True := trivial
theorem hz.tw13014052458985315732 : True := trivial
theorem hz.tw1595559400252480414 : True := trivial
theorem hz.tw3096894806492394398 : True := trivial
theorem hz.tw8627365464827849138 : True := trivial
theorem hz.tw2279073770286726382 : True := trivial
theorem hz.tw15687695367210672005 : True := trivial
theorem hz.tw3838604191143984294 : True := trivial
theorem hz.tw4705909742310167546 : True := trivial
theorem hz.tw7782902475837390221 : True := trivial
theorem hz.tw12927248869914994694 : True := trivial
theorem hz.tw3783817212296582236 : True := trivial
theorem hz.tw6140816796038725589 : True := trivial
theorem hz.tw10727946761115490433 : True := trivial
theorem hz.tw3951906589753420337 : True := trivial
theorem hz.tw3778256230531311071 : True := trivial
theorem hz.tw16831068832093100999 : True := trivial
theorem hz.tw4351829661253900086 : True := trivial
theorem hz.tw4490879839680447616 : True := trivial
theorem hz.tw15542160261068749002 : True := trivial
theorem hz.tw9312398208610183486 : True := trivial
theorem hz.tw3371859040278334612 : True := trivial
theorem hz.tw15626778153350813009 : True := trivial
theorem hz.tw7974156548224181761 : True := trivial
theorem hz.tw7479871013029105893 : True := trivial
theorem hz.tw958285325149963549 : True := trivial
theorem hz.tw9762387837347892432 : True := trivial
theorem hz.tw10032517369887289566 : True := trivial
theorem hz.tw15809873250183336945 : True := trivial
theorem hz.tw11075805381449682420 : True := trivial
theorem hz.tw13628571336538322524 : True := trivial
theorem hz.tw11923924304751631398 : True := trivial
theorem hz.tw5694787473343405340 : True := trivial
theorem hz.tw17358900424138494953 : True := trivial
theorem hz.tw16469249818533351254 : True := trivial
theorem hz.tw7938678304694890436 : True := trivial
theorem hz.tw5426725868830077253 : True := trivial
theorem hz.tw7081654153238362674 : True := trivial
theorem hz.tw409985440780296453 : True := trivial
theorem hz.tw11058751537032971823 : True := trivial
theorem hz.tw10534011537801891259 : True := trivial
theorem hz.tw12512976386978371000 : True := trivial
theorem hz.tw11615717975134652813 : True := trivial
theorem hz.tw8687001896531183778 : True := trivial
theorem hz.tw6015413113841756202 : True := trivial
theorem hz.tw4690996695305242034 : True := trivial
theorem hz.tw15871388085744141577 : True := trivial
theorem hz.tw13881702314842908958 : True := trivial
theorem hz.tw11896351922255214568 : True := trivial
theorem hz.tw3513899297442237110 : True := trivial
theorem hz.tw1045551267300040007 : True := trivial
theorem hz.tw6694873301231611408 : True := trivial
theorem hz.tw14725768573191863357 : True := trivial
theorem hz.tw17704797000440056289 : True := trivial
theorem hz.tw14830507484077066558 : True := trivial
theorem hz.tw2657905162531413029 : True := trivial
theorem hz.tw17660367372934062911 : True := trivial
theorem hz.tw8046979324706339699 : True := trivial
theorem hz.tw14425748580837060962 : True := trivial
theorem hz.tw16320588737591904912 : True := trivial
theorem hz.tw5648200747918470406 : True := trivial
theorem hz.tw3370442020672760944 : True := trivial
theorem hz.tw15134441718682697918 : True := trivial
theorem hz.tw6927800948453198054 : True := trivial
theorem hz.tw15548112421954737492 : True := trivial
theorem hz.tw7707805229359600881 : True := trivial
theorem hz.tw3642772506884462464 : True := trivial
theorem hz.tw12624428859817766056 : True := trivial
theorem hz.tw13439197161792800212 : True := trivial
theorem hz.tw8046439657785443536 : True := trivial
theorem hz.tw7662693394017484408 : True := trivial
theorem hz.tw12052697944676011134 : True := trivial
theorem hz.tw3736170051133473516 : True := trivial
theorem hz.tw6351503914634206963 : True := trivial
theorem hz.tw4083213235143097639 : True := trivial
theorem hz.tw2234274038257188102 : True := trivial
theorem hz.tw6110804473065476981 : True := trivial
theorem hz.tw18264580060316099714 : True := trivial
theorem hz.tw1756603797821479346 : True := trivial
theorem hz.tw5234498242095111876 : True := trivial
theorem hz.tw13303182354595505010 : True := trivial
theorem hz.tw2659366690608564123 : True := trivial
theorem hz.tw6085383614223654075 : True := trivial
theorem hz.tw8584684856721608395 : True := trivial
theorem hz.tw3226769002004848799 : True := trivial
theorem hz.tw2755070681600139566 : True := trivial
theorem hz.tw7241922923315754809 : True := trivial
theorem hz.tw12378328644191067336 : True := trivial
theorem hz.tw4270962415101909919 : True := trivial
theorem hz.tw15330307914526905628 : True := trivial
theorem hz.tw6256592213667703084 : True := trivial
theorem hz.tw9212775196730583795 : True := trivial
theorem hz.tw13242727000049350037 : True := trivial
theorem hz.tw5067774323800722246 : True := trivial
theorem hz.tw4899005160394752463 : True := trivial
theorem hz.tw10846600340983897172 : True := trivial
theorem hz.tw18444163471458128172 : True := trivial
theorem hz.tw483321041265122085 : True := trivial
theorem hz.tw2283297537372514049 : True := trivial
theorem hz.tw15186512335821913165 : True := trivial
theorem hz.tw17749785752155141213 : True := trivial
theorem hz.tw2319673661428538664 : True := trivial
theorem hz.tw6122289797007241148 : True := trivial
theorem hz.tw17620118237602610209 : True := trivial
theorem hz.tw14139306257143100578 : True := trivial
theorem hz.tw6041638566286656704 : True := trivial
theorem hz.tw1001132667826152295 : True := trivial
theorem hz.tw13698236954763844096 : True := trivial
theorem hz.tw18263913810941266200 : True := trivial
theorem hz.tw9991516186149869732 : True := trivial
theorem hz.tw14229016269405359517 : True := trivial
theorem hz.tw5950420143918803629 : True := trivial
theorem hz.tw3816941108727683764 : True := trivial
theorem hz.tw7438951378094393900 : True := trivial
theorem hz.tw1871862856897693365 : True := trivial
theorem hz.tw11455687744660858766 : True := trivial
theorem hz.tw14509050875723676426 : True := trivial
theorem hz.tw7842207077309364795 : True := trivial
theorem hz.tw8334104912328023976 : True := trivial
theorem hz.tw9617257089834766996 : True := trivial
theorem hz.tw1748335833560546921 : True := trivial
theorem hz.tw4942655502470056675 : True := trivial
theorem hz.tw671735619439490739 : True := trivial
theorem hz.tw2134273325396830645 : True := trivial
theorem hz.tw7106173101555998724 : True := trivial
theorem hz.tw14381791463678125473 : True := trivial
theorem hz.tw18435379644964850653 : True := trivial
theorem hz.tw7492105302162615363 : True := trivial
theorem hz.tw15471316018624152801 : True := trivial
theorem hz.tw2374605529050857212 : True := trivial
theorem hz.tw3008683918931248865 : True := trivial
theorem hz.tw17179678753968957768 : True := trivial
theorem hz.tw10425385327534961218 : True := trivial
theorem hz.tw7244852867778442854 : True := trivial
theorem hz.tw13861468098817363802 : True := trivial
theorem hz.tw6479784138639248817 : True := trivial
theorem hz.tw11983892229091564563 : True := trivial
theorem hz.tw2499628622793903406 : True := trivial
theorem hz.tw14387293046808167135 : True := trivial
theorem hz.tw12949575160307607212 : True := trivial
theorem hz.tw3134249399753796881 : True := trivial
theorem hz.tw7358994964077610655 : True := trivial
theorem hz.tw637394438323309208 : True := trivial
theorem hz.tw15681906741229264844 : True := trivial
theorem hz.tw12307828771423068430 : True := trivial
theorem hz.tw6542866204565811119 : True := trivial
theorem hz.tw17526434347482098973 : True := trivial
theorem hz.tw16479875330378957376 : True := trivial
theorem hz.tw985138589599317755 : True := trivial
theorem hz.tw15458837872006398331 : True := trivial
theorem hz.tw7705595612303866225 : True := trivial
theorem hz.tw10728445638691496306 : True := trivial
theorem hz.tw1907479699188212966 : True := trivial
theorem hz.tw17289214970197588629 : True := trivial
theorem hz.tw7121088713146036395 : True := trivial
theorem hz.tw15519220644514134138 : True := trivial
theorem hz.tw15019375054074907486 : True := trivial
theorem hz.tw15874472234624628075 : True := trivial
theorem hz.tw16684475450458564287 : True := trivial
theorem hz.tw11704744597354397987 : True := trivial
theorem hz.tw9106371787157008024 : True := trivial
theorem hz.tw4697030476367509364 : True := trivial
theorem hz.tw10134801552816134495 : True := trivial
theorem hz.tw11247197755803390044 : True := trivial
theorem hz.tw2516042509723132552 : True := trivial
theorem hz.tw11952643024043869961 : True := trivial
theorem hz.tw3298439603739818107 : True := trivial
theorem hz.tw16714001515250048981 : True := trivial
theorem hz.tw7483369334625681836 : True := trivial
theorem hz.tw16476479376743933893 : True := trivial
theorem hz.tw12417218475073272023 : True := trivial
theorem hz.tw16157425910694145484 : True := trivial
theorem hz.tw12026615869061748521 : True := trivial
theorem hz.tw12217044404746306352 : True := trivial
theorem hz.tw6281759584556030109 : True := trivial
theorem hz.tw12255735837127675127 : True := trivial
theorem hz.tw5954232561155541368 : True := trivial
theorem hz.tw1464081886460256886 : True := trivial
theorem hz.tw10220342133638584555 : True := trivial
theorem hz.tw3539839125081988670 : True := trivial
theorem hz.tw11192503412587135968 : True := trivial
theorem hz.tw6075212877666064972 : True := trivial
theorem hz.tw1738327205668695202 : True := trivial
theorem hz.tw6503980636361882403 : True := trivial
theorem hz.tw17912938333058377714 : True := trivial
theorem hz.tw1147416926725716661 : True := trivial
theorem hz.tw9065419967827076007 : True := trivial
theorem hz.tw8501221815504969037 : True := trivial
theorem hz.tw4812053984834211655 : True := trivial
theorem hz.tw15072624428879377899 : True := trivial
theorem hz.tw10958967124350033666 : True := trivial
theorem hz.tw10137910371081859269 : True := trivial
theorem hz.tw13322142752630663547 : True := trivial
theorem hz.tw8389414041272889623 : True := trivial
theorem hz.tw13423642505596300596 : True := trivial
theorem hz.tw2018770930673933092 : True := trivial
theorem hz.tw11999498528810007416 : True := trivial
theorem hz.tw13292848157412546607 : True := trivial
theorem hz.tw455911078567703127 : True := trivial
theorem hz.tw15449240513935964638 : True := trivial
section
local macro_rules | `(tactic| refine $f (q := $q) (loose := $l) (Xt := $a1) (XP := $a2) (Yf := $a3) (Ya := $a4) (YP := $a5) (N := $a6) $x*) => `(tactic| ((refine ($f (q := $q) (loose := $l) (Xt := $a1) (XP := $a2) (Yf := $a3) (Ya := $a4) (YP := $a5) (N := $a6) $x*)); (case hc => assumption)))
set_option Elab.async true
theorem hz : True := by
  let rec hd : _ → PySem.Challenge.rw_kt0083_01.Holds := by
    intro walk
    w_on
    o_law
    k_head
    (case hw => w_witness2)
  trivial
set_option Elab.async false
end
section
/-! ## small sums (said once: a proof by omega is some 400 nodes) -/
theorem neg1_toNat (n : Nat) : ((-1 : Int) + ((n + 1 : Nat) : Int)).toNat = n := by omega
theorem neg1_le (n : Nat) : -((n + 1 : Nat) : Int) ≤ -1 := by omega
theorem all_nil {α : Type} {P : α → Prop} : ∀ p ∈ ([] : List α), P p := fun _ h => nomatch h
theorem all_cons {α : Type} {P : α → Prop} {x : α} {l : List α} (a : P x) (h : ∀ p ∈ l, P p) : ∀ p ∈ x :: l, P p := List.forall_mem_cons.mpr ⟨a, h⟩
theorem pw_two {a b : Nat} (h : a > b) : [a, b].Pairwise (· > ·) := .cons (all_cons h all_nil) (.cons all_nil .nil)
theorem fwd {i n : Nat} (k : Nat) (h : i < n) : n - (i + (k + 1)) < n - i := Nat.sub_lt_sub_left h (Nat.lt_add_of_pos_right (Nat.succ_pos k))
theorem castk {ai : Int} {i : Nat} (h : ai = i) (k : Nat) : ai + k = ((i + k : Nat) : Int) := by subst h; rfl
theorem drop_le {α : Type} {l a b : List α} {i : Nat} (h : l.drop i = a ++ b) (hi : i ≤ l.length) : i + a.length ≤ l.length := by
  have := congrArg List.length h; rw [List.length_drop, List.length_append] at this; omega
theorem app1_le {α : Type} {l : List α} {c : α} {i : Nat} (h : l.length ≤ i) (k : Nat) : (l ++ [c]).length ≤ i + (k + 1) := by rw [List.length_append]; simp; omega
theorem le16 {a b : Nat} (h : a ≤ b) (hb : b ≤ 1000000) : a ≤ 16777216 := Nat.le_trans h (Nat.le_trans hb (by decide))
theorem le16s {a b : Nat} (h : a ≤ b) (hb : b ≤ 1000000) : a + 1 ≤ 16777216 := Nat.le_trans (Nat.succ_le_succ h) (Nat.le_trans (Nat.succ_le_succ hb) (by decide))
theorem lt_of_cast {ai : Int} {i n : Nat} (h : ai = i) (hd : decide (ai < (n : Int)) = true) : i < n := by have := of_decide_eq_true hd; omega
theorem ge_of_cast {ai : Int} {i n : Nat} (h : ai = i) (hd : decide (ai < (n : Int)) = false) : n ≤ i := by have := of_decide_eq_false hd; omega
theorem take1_le {α : Type} {a b : Nat} (h : a ≤ b) (hb : b ≤ 1000000) (r : List α) : a + (r.take 1).length ≤ 16777216 := by
  have : (r.take 1).length ≤ 1 := by rw [List.length_take]; exact Nat.min_le_left _ _
  omega
theorem lt3 {c : Nat} (h : c = 42 ∨ c = 63 ∨ c = 91) {P : Nat → Prop} (a : P 42) (b : P 63) (d : P 91) : P c := by rcases h with rfl | rfl | rfl <;> assumption
theorem fwd1 {i n : Nat} (k : Nat) (h : i < n) : n - (i + 1 + k) < n - i := Nat.sub_lt_sub_left h (Nat.lt_of_lt_of_le (Nat.lt_succ_self i) (Nat.le_add_right _ k))
theorem leq3 {n m i a b : Nat} (h1 : n = m) (h2 : m = i + 1 + (a + b)) : i + 1 + a ≤ n := Nat.le_trans (Nat.add_le_add_left (Nat.le_add_right a b) (i + 1)) (Nat.le_of_eq (h1.trans h2).symm)
theorem ne3 {n m i a b : Nat} (h1 : n = m) (h2 : m = i + 1 + (a + (b + 1))) : i + 1 + a ≠ n := Nat.ne_of_lt (Nat.lt_of_lt_of_le (Nat.add_lt_add_left (Nat.lt_add_of_pos_right (Nat.succ_pos b)) (i + 1)) (Nat.le_of_eq (h1.trans h2).symm))
theorem r2le {a i q : Nat} (h : a ≤ 2 * i) (hq : 1 ≤ q) : a + 1 + 1 ≤ 2 * (i + 1 + q) := by omega
theorem castlt {ai : Int} {i n : Nat} (h : ai = i) (hl : i < n) : ai < (n : Int) := by subst h; exact Int.ofNat_lt.mpr hl
theorem castnl {ai : Int} {i n : Nat} (h : ai = i) (hl : n ≤ i) : ¬ ai < (n : Int) := by subst h; exact Int.not_lt.mpr (Int.ofNat_le.mpr hl)
theorem cast0 {ai : Int} {i : Nat} (h : ai = i) : 0 ≤ ai := by subst h; exact Int.natCast_nonneg i
theorem lt3' {n m i j a b : Nat} (h1 : n = m) (h2 : m = i + 1 + (a + b)) (hj : j < a) : i + 1 + j < n := Nat.lt_of_lt_of_le (Nat.add_lt_add_left hj _) (leq3 h1 h2)
theorem lt3'' {n m i a b : Nat} (h1 : n = m) (h2 : m = i + 1 + (a + (b + 1))) : i + 1 + a < n := Nat.lt_of_lt_of_le (Nat.add_lt_add_left (Nat.lt_add_of_pos_right (Nat.succ_pos b)) (i + 1)) (Nat.le_of_eq (h1.trans h2).symm)
theorem b2 {a i n : Nat} (h : a ≤ 2 * i) (h2 : i ≤ n) (h3 : n ≤ 10000) : a + 1 + 1 ≤ 99999 := by omega
theorem nz0 {n i k t : Nat} (h1 : i = n) (h2 : n = i + (k + 1 + t)) : False := absurd (h1.trans h2) (Nat.ne_of_lt (Nat.lt_add_of_pos_right (Nat.lt_of_lt_of_le (Nat.succ_pos k) (Nat.le_add_right _ t))))
theorem nz2 {n i k t : Nat} (h1 : i + 1 = n) (h2 : n = i + 1 + (k + 1 + t)) : False := nz0 h1 h2
theorem nz1 {n i t : Nat} (h1 : i = n) (h2 : n = i + (t + 1)) : False := absurd (h1.trans h2) (Nat.ne_of_lt (Nat.lt_add_of_pos_right (Nat.succ_pos t)))
theorem nz3 {n i k t : Nat} (h1 : i + 1 = n) (h2 : n = i + 1 + (t + (k + 1))) : False := nz1 (t := t + k) h1 h2
theorem snoc16 {α : Type} {l : List α} (h : l.length + 1 ≤ 16777216) (x : α) : (l ++ [x]).length ≤ 16777216 := by rw [List.length_append]; exact h
/-! ## what only grows -/
noncomputable def Up (s s' : Shared) : Prop := s.toks ≤ s'.toks ∧ s.heap.objs.size ≤ s'.heap.objs.size
theorem Up.rfl {s : Shared} : Up s s := ⟨Nat.le_refl _, Nat.le_refl _⟩
theorem Up.trans {a b c : Shared} (x : Up a b) (y : Up b c) : Up a c := ⟨Nat.le_trans x.1 y.1, Nat.le_trans x.2 y.2⟩
theorem up_runs {M : Model} {Γ : Ctx} {p : Pos} {t : Sem Fin} {fs : List Frame} {s s' : Shared} {e : End} (h : Runs M Γ p t fs s e s') : Up s s' := by
  induction h with
  | done | raise | yield => exact Up.rfl
  | update _ _ ih => exact ⟨ih.1, by have := ih.2; rwa [Heap.size_after_update] at this⟩
  | alloc _ ih => exact ⟨ih.1, by have := ih.2; rw [Heap.size_push] at this; omega⟩
  | fresh _ ih => exact ⟨by have := ih.1; dsimp only at this; omega, ih.2⟩
  | call _ _ ih1 ih2 | segRet _ _ ih1 ih2 => exact ih1.trans ih2
  | segGen _ _ ih1 ih2 => exact ih1.trans ih2
  | resumeFresh _ _ _ _ ih1 ih2 => exact ih1.trans ih2
  | resumeSuspended _ _ _ _ ih1 ih2 => exact ih1.trans ih2
  | segSuspGen _ _ _ _ ih1 ih2 => exact ih1.trans ih2
  | segSuspOut _ _ ih => exact ih
  | resumeThrowFresh _ _ ih => exact ih
  | resumeJustStarted _ _ _ ih => exact ih
  | _ => rename_i ih; exact ih
theorem up_wakes {M : Model} {Γ : Ctx} {p : Pos} {g : Nat} {r : Resume} {s s' : Shared} {res : GenResult} (h : Wakes M Γ p g r s res s') : Up s s' := by
  unfold Wakes at h
  split at h
  · exact h.elim
  · split at h
    · obtain ⟨_, _, h1, _, _, rfl⟩ := h; have u := up_runs h1; exact u
    · obtain ⟨_, rfl⟩ := h; exact Up.rfl
    · obtain ⟨_, rfl⟩ := h; exact Up.rfl
  · obtain ⟨_, _, h1, _, _, rfl⟩ := h; have u := up_runs h1; exact u
  · obtain ⟨_, rfl⟩ := h; exact Up.rfl
  · obtain ⟨_, rfl⟩ := h; exact Up.rfl
theorem up_wp {α : Type} {M : Model} {Γ : Ctx} {t : Sem α} : ∀ {Q : α → Pos → Shared → Prop} {E : Value → Pos → Shared → Prop} {p : Pos} {s : Shared},
    Sem.wp M Γ t Q E p s → Sem.wp M Γ t (fun a p' s' => Q a p' s' ∧ Up s s') (fun e p' s' => E e p' s' ∧ Up s s') p s := by
  induction t with
  | pure a => intro Q E p s h; exact ⟨h, Up.rfl⟩
  | raise a => intro Q E p s h; exact ⟨h, Up.rfl⟩
  | unsupported | finish | yield | fork | await | register => intro Q E p s h; exact h
  | load a _ k ih => intro Q E p s ⟨o, ho, h⟩; exact ⟨o, ho, ih o h⟩
  | genState a k ih => intro Q E p s ⟨o, ho, h⟩; exact ⟨o, ho, ih _ h⟩
  | update a _ f k ih =>
    intro Q E p s ⟨ho, h⟩
    refine ⟨ho, Sem.wp_mono M Γ _ (fun _ _ s' x => ⟨x.1, x.2.1, ?_⟩) (fun _ _ s' x => ⟨x.1, x.2.1, ?_⟩) _ _ (ih _ h)⟩ <;>
    (have := x.2.2; rwa [Heap.size_after_update] at this)
  | alloc o k ih =>
    intro Q E p s h
    refine Sem.wp_mono M Γ _ (fun _ _ s' x => ⟨x.1, x.2.1, ?_⟩) (fun _ _ s' x => ⟨x.1, x.2.1, ?_⟩) _ _ (ih _ h) <;>
    (have := x.2.2; rw [Heap.size_push] at this; omega)
  | fresh k ih =>
    intro Q E p s h
    refine Sem.wp_mono M Γ _ (fun _ _ s' x => ⟨x.1, ?_, x.2.2⟩) (fun _ _ s' x => ⟨x.1, ?_, x.2.2⟩) _ _ (ih _ h) <;>
    (have := x.2.1; dsimp only at this; omega)
  | choose src n k ih => intro Q E p s ⟨hn, h⟩; exact ⟨hn, ih _ h⟩
  | call c hd g l k ih =>
    intro Q E p s ⟨r, s', hr, h⟩
    have u := up_runs hr
    exact ⟨r, s', hr, Sem.wp_mono M Γ _ (fun _ _ _ x => ⟨x.1, u.trans x.2⟩) (fun _ _ _ x => ⟨x.1, u.trans x.2⟩) _ _ (ih _ h)⟩
  | resume g r l k ih =>
    intro Q E p s ⟨res, s', hw, h⟩
    have u := up_wakes hw
    exact ⟨res, s', hw, Sem.wp_mono M Γ _ (fun _ _ _ x => ⟨x.1, u.trans x.2⟩) (fun _ _ _ x => ⟨x.1, u.trans x.2⟩) _ _ (ih _ h)⟩
  | _ => rename_i ih; intro Q E p s h; exact ih _ h
theorem up {α : Type} {M : Model} {A : Around} {t : Sem α} {Q : α → Shared → Prop} {E : Value → Shared → Prop} {s : Shared}
    (h : wpAny M A t (fun a s' => Up s s' → Q a s') (fun e s' => Up s s' → E e s') s) : wpAny M A t Q E s :=
  fun Γ p hΓ => Sem.wp_mono M Γ _ (fun _ _ _ x => x.1 x.2) (fun _ _ _ x => x.1 x.2) _ _ (up_wp (h Γ p hΓ))
theorem up_code {M : Model} {A : Around} {c : Code} {R : Result → Shared → Prop} {s : Shared} (h : codeAny M A c (fun r s' => Up s s' → R r s') s) : codeAny M A c R s :=
  fun Γ p hc hΓ => let ⟨r, s', hr, hR⟩ := h Γ p hc hΓ; ⟨r, s', hr, hR (up_runs hr)⟩

/-! ## the static part, the frame, the ledger -/
noncomputable def Bm (g : Heap) : Prop := ∃ mg bm ob, g.Ns mainGlobals mg ∧ mg "__builtins__" = some (.ref bm) ∧ bm ≠ builtinsNs ∧ g.get? bm = some ob ∧ ob.cls = .type "module" ∧ ob.dict = some builtinsNs ∧ ob.data = .plain
structure Sta (K : Frag) (g : Heap) : Prop where
  X : K.In g
  top : ∃ mg mb, g.Ns mainGlobals mg ∧ g.Ns builtinsNs mb ∧ (∀ x : Str, x ≠ "__name__" → mb x = bootBuiltins x)
  lim : g.NoLimit
  bm : Bm g
theorem Sta.keeps {K : Frag} {g h : Heap} (S : Sta K g) (k : ∀ b o, g.get? b = some o → h.get? b = some o) : Sta K h :=
  ⟨S.X.keeps k, let ⟨mg, mb, a, b, c⟩ := S.top; ⟨mg, mb, a.keeps k, b.keeps k, c⟩, S.lim.keeps k, let ⟨mg, bm, ob, a, b, c, d, e⟩ := S.bm; ⟨mg, bm, ob, a.keeps k, b, c, k _ _ d, e⟩⟩

noncomputable def Rest (s s' : Shared) : Prop := s'.gens = s.gens ∧ s'.drawn = s.drawn ∧ s'.os = s.os
theorem Rest.rfl {s : Shared} : Rest s s := ⟨Eq.refl _, Eq.refl _, Eq.refl _⟩
theorem Rest.trans {a b c : Shared} (x : Rest a b) (y : Rest b c) : Rest a c := ⟨y.1.trans x.1, y.2.1.trans x.2.1, y.2.2.trans x.2.2⟩

noncomputable abbrev Vals := List (Str × Option Value)
noncomputable abbrev News' := List (Addr × Obj)

structure St (B : Shared) (g : Heap) (env : Env) (vals : Vals) (s : Shared) (news : News') : Prop where
  led : ∃ m, Led g env.locals m s.heap news ∧ ∀ p ∈ vals, m p.1 = p.2
  loc : ∀ p ∈ vals, env.kindOf p.1 = some .local ∧ (p.1 == ("__debug__" : Str)) = false
  nd : (vals.map (·.1)).Nodup
  kind : env.scope.kind = .function
  tok : 1 ≤ s.toks
  rest : Rest B s
  up : Up B s

inductive At : Vals → Str → Value → Prop
  | head {x v r} : At ((x, some v) :: r) x v
  | tail {p r x v} : At r x v → At (p :: r) x v
theorem At.mem {l : Vals} {x : Str} {v : Value} (h : At l x v) : (x, some v) ∈ l := by
  induction h with
  | head => exact .head _
  | tail _ ih => exact .tail _ ih
inductive Put (x : Str) (v : Value) : Vals → Vals → Prop
  | head {u r} : Put x v ((x, u) :: r) ((x, some v) :: r)
  | tail {p r r'} : Put x v r r' → Put x v (p :: r) (p :: r')
theorem Put.keys {x : Str} {v : Value} {l l' : Vals} (h : Put x v l l') : l'.map (·.1) = l.map (·.1) ∧ x ∈ l.map (·.1) := by
  induction h with
  | head => exact ⟨rfl, .head _⟩
  | tail _ ih => exact ⟨by rw [List.map_cons, List.map_cons, ih.1], .tail _ ih.2⟩
theorem Put.old {x : Str} {v : Value} {l l' : Vals} (h : Put x v l l') (nd : (l.map (·.1)).Nodup) : ∀ p ∈ l', p = (x, some v) ∨ (p ∈ l ∧ p.1 ≠ x) := by
  induction h with
  | head =>
    intro p hp
    rw [List.map_cons, List.nodup_cons] at nd
    rcases List.mem_cons.mp hp with rfl | hp
    · exact .inl rfl
    · exact .inr ⟨.tail _ hp, fun e => nd.1 (by rw [← e]; exact List.mem_map_of_mem (f := (·.1)) hp)⟩
  | tail h ih =>
    intro p hp
    rw [List.map_cons, List.nodup_cons] at nd
    rcases List.mem_cons.mp hp with rfl | hp
    · exact .inr ⟨.head _, fun e => nd.1 (e ▸ h.keys.2)⟩
    · exact (ih nd.2 p hp).imp id fun z => ⟨.tail _ z.1, z.2⟩

theorem Led.setLoc {g h h' : Heap} {L : Addr} {m m' : Str → Option Value} {news : News'} (D : Led g L m h news) (hn : h'.Ns L m') (hs : Heap.SameBut L h h') : Led g L m' h' news :=
  ⟨D.fr.set hn hs, D.nw.set hs, D.ord⟩

section
variable {B : Shared} {g : Heap} {env : Env} {vals vals' : Vals} {s : Shared} {news news' : News'} {M : Model} {A : Around} {E : Value → Shared → Prop} {K : Frag}

theorem St.to (D : St B g env vals s news) {h' : Heap} {tk : Tok} {vals' : Vals} {news' : News'} (hl : ∃ m, Led g env.locals m h' news' ∧ ∀ p ∈ vals', m p.1 = p.2)
    (hk : vals'.map (·.1) = vals.map (·.1)) (u : Up s ⟨h', s.gens, s.drawn, tk, s.os⟩) : St B g env vals' ⟨h', s.gens, s.drawn, tk, s.os⟩ news' where
  led := hl
  loc := fun p hp => by
    have : p.1 ∈ vals.map (·.1) := hk ▸ List.mem_map_of_mem hp
    obtain ⟨q, hq, e⟩ := List.mem_map.mp this
    exact e ▸ D.loc q hq
  nd := hk ▸ D.nd
  kind := D.kind
  tok := Nat.le_trans D.tok u.1
  rest := D.rest
  up := D.up.trans u
/-- the same heap, other tokens -/
theorem St.tk (D : St B g env vals s news) {tk : Tok} (u : Up s ⟨s.heap, s.gens, s.drawn, tk, s.os⟩) : St B g env vals ⟨s.heap, s.gens, s.drawn, tk, s.os⟩ news := D.to D.led rfl u
theorem St.tk1 (D : St B g env vals s news) {n : Nat} : St B g env vals ⟨s.heap, s.gens, s.drawn, s.toks + n, s.os⟩ news := D.tk ⟨Nat.le_add_right _ _, Nat.le_refl _⟩
/-- forget some of the ledger -/
theorem St.drop (D : St B g env vals s news) (h : news'.Sublist news) : St B g env vals s news' :=
  { D with led := let ⟨m, L, e⟩ := D.led; ⟨m, ⟨L.fr, fun p hp => L.nw p (h.subset hp), L.ord.sublist (h.map _)⟩, e⟩ }
theorem St.get (D : St B g env vals s news) {a : Addr} {o : Obj} (h : (a, o) ∈ news) : s.heap.get? a = some o := let ⟨_, L, _⟩ := D.led; L.nw.get h
theorem St.keep (D : St B g env vals s news) : ∀ b o, g.get? b = some o → s.heap.get? b = some o := let ⟨_, L, _⟩ := D.led; L.fr.keep

theorem r_ld {x : Str} {pos : Pos} {v : Value} {Q : Value → Shared → Prop} (D : St B g env vals s news) (hx : At vals x v) (k : Q v s) : wpAny M A (eval (.Name x pos) env) Q E s := by
  obtain ⟨m, L, e⟩ := D.led
  have h := D.loc _ hx.mem
  exact wpAny_Name (wpAny_loadName_local D.kind h.1 L.fr.ns (e _ hx.mem) k) h.2
theorem r_ldn {x : Str} {v : Value} {Q : Value → Shared → Prop} (D : St B g env vals s news) (hx : At vals x v) (k : Q v s) : wpAny M A (loadName env x) Q E s := by
  obtain ⟨m, L, e⟩ := D.led
  exact wpAny_loadName_local D.kind (D.loc _ hx.mem).1 L.fr.ns (e _ hx.mem) k
theorem r_st {x : Str} {v : Value} {Q : Unit → Shared → Prop} (D : St B g env vals s news) (hx : Put x v vals vals') (k : ∀ s', St B g env vals' s' news → Q () s') : wpAny M A (storeName env x v) Q E s := by
  obtain ⟨m, L, e⟩ := D.led
  have hm : ∃ p ∈ vals, p.1 = x := by obtain ⟨p, hp, h⟩ := List.mem_map.mp hx.keys.2; exact ⟨p, hp, h⟩
  obtain ⟨p, hp, rfl⟩ := hm
  refine wpAny_storeName_local (D.loc p hp).1 L.fr.ns (fun h' hn hs => k _ (D.to ⟨_, Led.setLoc L hn hs, fun q hq => ?_⟩ hx.keys.1 ⟨Nat.le_add_right _ _, Nat.le_of_eq hs.1.symm⟩)) ?_
  · rcases hx.old D.nd q hq with rfl | ⟨hq, hne⟩
    · exact if_pos rfl
    · exact (if_neg hne).trans (e q hq)
  · rw [D.kind]; rfl

/-- the names of the text's own and the built-ins -/
structure Glo (K : Frag) (env : Env) (gl : List (Str × Value)) : Prop where
  glo : env.globals = mainGlobals
  bui : env.builtins = builtinsNs
  gl : ∀ p ∈ gl, env.kindOf p.1 = some .globalImplicit ∧ (p.1 == ("__debug__" : Str)) = false ∧ (nsIn K mainGlobals p.1 = some (some p.2) ∨ (nsIn K mainGlobals p.1 = some none ∧ bootBuiltins p.1 = some p.2 ∧ p.1 ≠ "__name__"))
theorem r_gl {x : Str} {pos : Pos} {v : Value} {gl : List (Str × Value)} {Q : Value → Shared → Prop} (S : Sta K g) (H : Glo K env gl) (D : St B g env vals s news) (hx : (x, v) ∈ gl) (k : Q v s) :
    wpAny M A (eval (.Name x pos) env) Q E s := by
  obtain ⟨m, L, e⟩ := D.led
  obtain ⟨h1, h2, h3⟩ := H.gl _ hx
  obtain ⟨mg, mb, hg, hb, hbb⟩ := S.top
  refine Name_function_global D.kind h1 ?_ h2
  rcases h3 with h3 | ⟨h3, h4, h5⟩
  · exact loadGlobal_global (by rw [H.glo]; exact hg.keeps L.fr.keep) (mg_of S.X hg h3) k
  · exact loadGlobal_builtin (by rw [H.glo]; exact hg.keeps L.fr.keep) (mg_none_of S.X hg h3) (by rw [H.bui]; exact hb.keeps L.fr.keep) ((hbb _ h5).trans h4) k
end

/-! ## contracts -/
structure Room (A : Around) (n : Nat) : Prop where
  hd : A.handled = none
  dp : A.depth + n < recursionLimit
  un : A.units + 10 * n < cLine
theorem dp1 {a n L : Nat} (h : a + (n + 1) < L) : a + 1 + n < L := by rw [Nat.add_assoc, Nat.add_comm 1 n]; exact h
theorem un1 {a n L : Nat} (h : a + 10 * (n + 1) < L) : a + 1 + 10 * n < L := Nat.lt_of_le_of_lt (by rw [Nat.add_assoc, Nat.mul_succ, Nat.add_comm 1]; exact Nat.add_le_add_left (Nat.add_le_add_left (by decide) _) _) h
theorem Room.less {A : Around} {n m : Nat} (h : Room A n) (k : m ≤ n) : Room A m := ⟨h.hd, Nat.lt_of_le_of_lt (Nat.add_le_add_left k _) h.dp, Nat.lt_of_le_of_lt (Nat.add_le_add_left (Nat.mul_le_mul_left 10 k) _) h.un⟩
theorem Room.in1 {A : Around} {n : Nat} (h : Room A (n + 1)) : Room A.in1 n := ⟨h.hd, by rw [Around.in1_depth]; exact Nat.lt_of_le_of_lt (Nat.add_le_add_left (Nat.le_succ n) _) h.dp, by rw [Around.in1_units]; exact un1 h.un⟩
theorem Room.deeper {A : Around} {n : Nat} {env : Env} (h : Room A (n + 1)) : Room (A.deeper env) n := ⟨h.hd, dp1 h.dp, by have := h.un; simp only [Around.deeper]; omega⟩

structure Own (g : Heap) (s : Shared) (own : News') : Prop where
  keep : ∀ b o, g.get? b = some o → s.heap.get? b = some o
  size : g.objs.size ≤ s.heap.objs.size
  ord : (own.map (·.1)).Pairwise (· > ·)
  at_ : ∀ p ∈ own, s.heap.get? p.1 = some p.2 ∧ g.get? p.1 = none
  tok : 1 ≤ s.toks

noncomputable def Fn (K : Frag) (prog : Program) (w : World) (n : Nat) (f : Value) (args : List Value) (own : News') (post : Value → News' → Prop) : Prop :=
  ∀ {A : Around} {s : Shared} {g : Heap} {R : Result → Shared → Prop}, Sta K g → Room A n → Own g s own →
    (∀ v s' own', post v own' → Own g s' own' → (∀ p ∈ own', p.1 ∈ own.map (·.1) ∨ s.heap.objs.size ≤ p.1) → Rest s s' → Up s s' → R (.ok (.ret v)) s') →
    codeAny (model prog w) A (.call f ⟨args, []⟩) R s

noncomputable def retOf : Flow → Value
  | .ret v => v
  | _ => .none

/-- a body's start: the arguments are bound, nothing else -/
noncomputable def startVals (binds : List (Str × Value)) (more : List Str) : Vals := binds.map (fun p => (p.1, some p.2)) ++ more.map fun x => (x, none)

theorem lookup_rev {binds : List (Str × Value)} (nd : (binds.map (·.1)).Nodup) {p : Str × Value} (hp : p ∈ binds) : binds.reverse.lookup p.1 = some p.2 := by
  induction binds with
  | nil => cases hp
  | cons q r ih =>
    rw [List.map_cons, List.nodup_cons] at nd
    rw [List.reverse_cons, List.lookup_append]
    rcases List.mem_cons.mp hp with rfl | hp
    · have : List.lookup p.1 r.reverse = none := by
        rw [List.lookup_eq_none_iff]
        intro q hq
        rw [List.mem_reverse] at hq
        simp only [beq_eq_false_iff_ne, ne_eq, bne_iff_ne]
        intro e
        exact nd.1 (by rw [e]; exact List.mem_map_of_mem (f := (·.1)) hq)
      rw [this]
      show List.lookup p.1 [(p.1, p.2)] = _
      simp [List.lookup]
    · rw [ih nd.2 hp]; rfl
theorem lookup_rev_none {binds : List (Str × Value)} {x : Str} (h : x ∉ binds.map (·.1)) : binds.reverse.lookup x = none := by
  rw [List.lookup_eq_none_iff]
  intro q hq
  rw [List.mem_reverse] at hq
  simp only [beq_eq_false_iff_ne, ne_eq, bne_iff_ne]
  intro e
  exact h (by rw [e]; exact List.mem_map_of_mem (f := (·.1)) hq)

section
variable {prog : Program} {w : World} {A : Around} {R : Result → Shared → Prop} {s : Shared} {g : Heap} {own : News'} {K : Frag} {n : Nat}
  {name qual : Str} {params : Arguments} {body : List Stmt} {scope : Scope} {dV kV doc pm cdv ct oc : Value} {an od : Option Addr} {osl : Array (Option Value)} {f : Addr} {args : Args} {binds : List (Str × Value)}
  {gl : List (Str × Value)} {more : List Str}

noncomputable def bodyOk (scope : Scope) (binds : List Str) (more : List Str) : Bool :=
  (binds ++ more).all (fun x => scope.names.lookup x == some .local && !(x == ("__debug__" : Str))) && decide ((binds ++ more).Nodup) && scope.names.all (fun x => x.2 != .cell) && !scope.isCoroutine && !scope.isGenerator && scope.kind == .function
noncomputable def gloOk (K : Frag) (scope : Scope) (gl : List (Str × Value)) : Bool :=
  gl.all fun p => scope.names.lookup p.1 == some .globalImplicit && !(p.1 == ("__debug__" : Str)) && (match nsIn K mainGlobals p.1 with
    | some (some v) => decide (v = p.2)
    | some none => decide (bootBuiltins p.1 = some p.2) && !(p.1 == ("__name__" : Str))
    | none => false)
theorem gloOk_at (hgl : gloOk K scope gl = true) : ∀ p ∈ gl, scope.names.lookup p.1 = some .globalImplicit ∧ (p.1 == ("__debug__" : Str)) = false ∧ (nsIn K mainGlobals p.1 = some (some p.2) ∨ (nsIn K mainGlobals p.1 = some none ∧ bootBuiltins p.1 = some p.2 ∧ p.1 ≠ "__name__")) := fun p hp => by
  have h := Bool.and_eq_true_iff.mp (List.all_eq_true.mp hgl p hp)
  obtain ⟨a, b⟩ := Bool.and_eq_true_iff.mp h.1
  refine ⟨eq_of_beq a, (Bool.not_eq_true' _).mp b, ?_⟩
  have c := h.2
  split at c
  · rename_i v e; exact .inl (e.trans (congrArg (fun x => some (some x)) (of_decide_eq_true c)))
  · rename_i e
    obtain ⟨c1, c2⟩ := Bool.and_eq_true_iff.mp c
    exact .inr ⟨e, of_decide_eq_true c1, ne_of_beq_false ((Bool.not_eq_true' _).mp c2)⟩
  · cases c
structure BodyOk (scope : Scope) (binds : List (Str × Value)) (more : List Str) : Prop where
  loc : ∀ p ∈ startVals binds more, scope.names.lookup p.1 = some .local ∧ (p.1 == ("__debug__" : Str)) = false
  bind : ∀ x ∈ binds, scope.names.lookup x.1 = some .local
  at_ : ∀ p ∈ startVals binds more, List.lookup p.1 binds.reverse = p.2
  nd : ((startVals binds more).map (·.1)).Nodup
  cell : ∀ x ∈ scope.names, x.2 ≠ .cell
  co : scope.isCoroutine = false
  gen : scope.isGenerator = false
  kind : scope.kind = .function
theorem bodyOk_at (hok : bodyOk scope (binds.map (·.1)) more = true) : BodyOk scope binds more := by
  unfold bodyOk at hok
  simp only [Bool.and_eq_true, List.all_eq_true, beq_iff_eq, Bool.not_eq_true', decide_eq_true_eq, bne_iff_ne, ne_eq] at hok
  obtain ⟨⟨⟨⟨⟨h1, h2⟩, h3⟩, h4⟩, h5⟩, h6⟩ := hok
  have e : (startVals binds more).map (·.1) = binds.map (·.1) ++ more := by
    unfold startVals; rw [List.map_append, List.map_map, List.map_map]; congr 1; exact List.map_id _
  refine ⟨fun p hp => h1 p.1 (e ▸ List.mem_map_of_mem hp), fun x hx => (h1 x.1 (List.mem_append_left _ (List.mem_map_of_mem hx))).1, fun p hp => ?_, e ▸ h2, h3, h4, h5, h6⟩
  rcases List.mem_append.mp hp with hp | hp
  · obtain ⟨q, hq, rfl⟩ := List.mem_map.mp hp
    exact lookup_rev (List.nodup_append.mp h2).1 hq
  · obtain ⟨q, hq, rfl⟩ := List.mem_map.mp hp
    exact lookup_rev_none fun z => (List.nodup_append.mp h2).2.2 _ z _ hq rfl
theorem enterG {s₁ : Shared} (S : Sta K g) (O : Own g s own) (O₁ : Own g s₁ own) (u₁ : Up s s₁) (r₁ : Rest s s₁) (hroom : Room A (n + 1))
    (ho : K.lookup f = some ⟨oc, od, .func (fnX name qual params body scope [] dV kV doc pm an cdv ct), osl⟩) (hcd : codeIn K cdv qual = true)
    (hbind : ∀ (M : Model) (A : Around) (E : Value → Shared → Prop) (Q : List (Str × Value) → Shared → Prop), Q binds s₁ → wpAny M A (bindArgs (fnX name qual params body scope [] dV kV doc pm an cdv ct) args) Q E s)
    (hok : bodyOk scope (binds.map (·.1)) more = true) (hgl : gloOk K scope gl = true)
    (h : ∀ env A' s1, Room A' n → env.code = cdv → env.locals = s₁.heap.objs.size → env.frame = some env.locals → (∀ fl, A.frames = some fl → A'.frames = some (env :: fl)) → Glo K env gl → St s g env (startVals binds more) s1 own →
      wpAny (model prog w) A' (execs body env) (fun fl s' => R (.ok (.ret (retOf fl))) s') (fun e s' => wpAny (model prog w) A' (leaving env e) (fun _ s'' => R (.error e) s'') (fun e' s'' => R (.error e') s'') s') s1) :
    codeAny (model prog w) A (.call (.ref f) args) R s := by
  obtain ⟨h1, h2, h3, h4, h5, h6, h7, h8⟩ := bodyOk_at hok
  refine codeAny_call_function (by have := hroom.dp; omega) (O.keep _ _ (S.X _ _ ho)) rfl h6 h7 rfl ((codeRec_of S.X hcd).keeps O.keep) (hbind _ _ _ _ ?_)
  refine wpAny_newFunctionEnv h5 h2 (fun h₁ hns hsb => ⟨(S.lim.keeps O₁.keep).fresh _ hsb, codeAny_func ?_⟩) h8
  have hk : ∀ b o, s₁.heap.get? b = some o → h₁.get? b = some o := fun b o e => hsb.extBut b o (Nat.ne_of_lt (Heap.lt_size e)) (Heap.get?_push_of_some _ e)
  refine wpAny_mono (h (callEnv (fnX name qual params body scope [] dV kV doc pm an cdv ct) s₁.heap.objs.size f) _ _ hroom.deeper rfl rfl rfl (fun fl hfl => Around.frames_deeper hfl) ⟨rfl, rfl, gloOk_at hgl⟩ ?_) (fun fl s' x => ?_) fun _ _ x => x
  · exact ⟨⟨_, ⟨⟨hns, fun b o e => hk b o (O₁.keep b o e), O₁.size⟩, fun p hp => ⟨hk _ _ (O₁.at_ p hp).1, Nat.ne_of_lt (Heap.lt_size (O₁.at_ p hp).1), (O₁.at_ p hp).2⟩, O₁.ord⟩, h3⟩, h1, h4, h8, Nat.le_trans O₁.tok (Nat.le_add_right _ _), r₁.trans ⟨rfl, rfl, rfl⟩, u₁.trans ⟨Nat.le_add_right _ _, Nat.le_of_lt hns.lt⟩⟩
  · cases fl <;> exact x
theorem enterC (S : Sta K g) (O : Own g s own) (hroom : Room A (n + 1))
    (ho : K.lookup f = some ⟨oc, od, .func (fnX name qual params body scope [] dV kV doc pm an cdv ct), osl⟩) (hcd : codeIn K cdv qual = true)
    (hbind : BindsTo s (fnX name qual params body scope [] dV kV doc pm an cdv ct) args binds)
    (hok : bodyOk scope (binds.map (·.1)) more = true) (hgl : gloOk K scope gl = true)
    (h : ∀ env A' s1, Room A' n → env.code = cdv → Glo K env gl → St s g env (startVals binds more) s1 own →
      wpAny (model prog w) A' (execs body env) (fun fl s' => R (.ok (.ret (retOf fl))) s') (fun e s' => wpAny (model prog w) A' (leaving env e) (fun _ s'' => R (.error e) s'') (fun e' s'' => R (.error e') s'') s') s1) :
    codeAny (model prog w) A (.call (.ref f) args) R s :=
  enterG S O O Up.rfl Rest.rfl hroom ho hcd (fun _ _ _ _ q => hbind _ _ _ _ q) hok hgl fun env A' s1 a b _ _ _ => h env A' s1 a b
theorem enterCQ (S : Sta K g) (O : Own g s own) (hroom : Room A (n + 1))
    (ho : K.lookup f = some ⟨oc, od, .func (fnX name qual params body scope [] dV kV doc pm an cdv ct), osl⟩) (hcd : codeIn K cdv qual = true)
    (hbind : BindsTo s (fnX name qual params body scope [] dV kV doc pm an cdv ct) args binds)
    (hok : bodyOk scope (binds.map (·.1)) more = true) (hgl : gloOk K scope gl = true)
    (h : ∀ env A' s1, Room A' n → env.code = cdv → Glo K env gl → St s g env (startVals binds more) s1 own → ∀ Q : Flow → Shared → Prop, ((∀ v s', R (.ok (.ret v)) s' → Q (.ret v) s') ∧ ∀ s', R (.ok (.ret .none)) s' → Q .next s') →
      wpAny (model prog w) A' (execs body env) Q (fun _ _ => False) s1) :
    codeAny (model prog w) A (.call (.ref f) args) R s :=
  enterC S O hroom ho hcd hbind hok hgl fun env A' s1 a hc b c => wpAny_mono (h env A' s1 a hc b c _ ⟨fun _ _ x => x, fun _ x => x⟩) (fun _ _ x => x) fun _ _ x => x.elim
theorem enter (S : Sta K g) (O : Own g s own) (hroom : Room A (n + 1))
    (ho : K.lookup f = some ⟨oc, od, .func (fnX name qual params body scope [] dV kV doc pm an cdv ct), osl⟩) (hcd : codeIn K cdv qual = true)
    (hbind : BindsTo s (fnX name qual params body scope [] dV kV doc pm an cdv ct) args binds)
    (hok : bodyOk scope (binds.map (·.1)) more = true) (hgl : gloOk K scope gl = true)
    (h : ∀ env A' s1, Room A' n → Glo K env gl → St s g env (startVals binds more) s1 own → ∀ Q : Flow → Shared → Prop, ((∀ v s', R (.ok (.ret v)) s' → Q (.ret v) s') ∧ ∀ s', R (.ok (.ret .none)) s' → Q .next s') →
      wpAny (model prog w) A' (execs body env) Q (fun _ _ => False) s1) :
    codeAny (model prog w) A (.call (.ref f) args) R s :=
  enterCQ S O hroom ho hcd hbind hok hgl fun env A' s1 a _ b c => h env A' s1 a b c
end

inductive UpdP (a : Addr) (o o' : Obj) : News' → News' → Prop
  | head {r} : UpdP a o o' ((a, o) :: r) ((a, o') :: r)
  | tail {p r r'} : UpdP a o o' r r' → UpdP a o o' (p :: r) (p :: r')
theorem UpdP.keys {a : Addr} {o o' : Obj} {l l' : News'} (h : UpdP a o o' l l') : l'.map (·.1) = l.map (·.1) ∧ (a, o) ∈ l := by
  induction h with
  | head => exact ⟨rfl, .head _⟩
  | tail _ ih => exact ⟨by rw [List.map_cons, List.map_cons, ih.1], .tail _ ih.2⟩
theorem UpdP.old {a : Addr} {o o' : Obj} {l l' : News'} (h : UpdP a o o' l l') (nd : (l.map (·.1)).Pairwise (· > ·)) : ∀ p ∈ l', p = (a, o') ∨ (p ∈ l ∧ p.1 ≠ a) := by
  induction h with
  | head =>
    intro p hp
    rw [List.map_cons, List.pairwise_cons] at nd
    rcases List.mem_cons.mp hp with rfl | hp
    · exact .inl rfl
    · exact .inr ⟨.tail _ hp, Nat.ne_of_lt (nd.1 _ (List.mem_map_of_mem (f := (·.1)) hp))⟩
  | tail h ih =>
    intro p hp
    rw [List.map_cons, List.pairwise_cons] at nd
    rcases List.mem_cons.mp hp with rfl | hp
    · exact .inr ⟨.head _, Nat.ne_of_gt (nd.1 _ (List.mem_map_of_mem (f := (·.1)) h.keys.2))⟩
    · exact (ih nd.2 p hp).imp id fun z => ⟨.tail _ z.1, z.2⟩

section
variable {B : Shared} {g : Heap} {env : Env} {vals vals' : Vals} {s : Shared} {news news' : News'} {M : Model} {A : Around} {E : Value → Shared → Prop} {K : Frag} {prog : Program} {w : World} {n : Nat}
  {f : Value} {args : List Value}

/-- the frame behind a call that has turned the objects «own» of the ledger alone -/
theorem St.after (D : St B g env vals s news) {own own' : News'} {s' : Shared} (hsub : ∀ p ∈ own, p ∈ news) (O : Own (hideAll s.heap (own.map (·.1))) s' own') (r : Rest s s') (u : Up s s')
    (hm : ∀ p ∈ news', p ∈ own' ∧ g.get? p.1 = none ∧ p.1 ≠ env.locals ∨ (p ∈ news ∧ p.1 ∉ own.map (·.1))) (ho : (news'.map (·.1)).Pairwise (· > ·)) : St B g env vals s' news' := by
  obtain ⟨m, L, e⟩ := D.led
  have hg : ∀ b o, g.get? b = some o → b ∉ own.map (·.1) := fun b o q z => by
    obtain ⟨p, hp, rfl⟩ := List.mem_map.mp z
    rw [(L.nw p (hsub p hp)).2.2] at q; cases q
  have hL : env.locals ∉ own.map (·.1) := fun z => by
    obtain ⟨p, hp, q⟩ := List.mem_map.mp z
    exact (L.nw p (hsub p hp)).2.1 q
  refine ⟨⟨m, ⟨⟨?_, fun b o q => O.keep _ _ (hideAll_get _ (L.fr.keep b o q) (hg b o q)), L.fr.above⟩, fun p hp => ?_, ho⟩, e⟩, D.loc, D.nd, D.kind, Nat.le_trans D.tok u.1, D.rest.trans r, D.up.trans u⟩
  · obtain ⟨o, es, ep, h1, h2⟩ := L.fr.ns
    exact ⟨o, es, ep, O.keep _ _ (hideAll_get _ h1 hL), h2⟩
  · rcases hm p hp with ⟨h1, h2, h3⟩ | ⟨h1, h2⟩
    · exact ⟨(O.at_ p h1).1, h3, h2⟩
    · have z := L.nw p h1
      exact ⟨O.keep _ _ (hideAll_get _ z.1 h2), z.2⟩
theorem St.own (D : St B g env vals s news) {own : News'} (hsub : own.Sublist news) : Own (hideAll s.heap (own.map (·.1))) s own := by
  obtain ⟨m, L, e⟩ := D.led
  exact ⟨fun b o q => of_hideAll _ q, Nat.le_of_eq (hideAll_size _ _), L.ord.sublist (hsub.map _), fun p hp => ⟨(L.nw p (hsub.subset hp)).1, hideAll_none _ (List.mem_map_of_mem hp)⟩, D.tok⟩
theorem St.sta (D : St B g env vals s news) (S : Sta K g) {own : News'} (hsub : own.Sublist news) : Sta K (hideAll s.heap (own.map (·.1))) := by
  obtain ⟨m, L, e⟩ := D.led
  refine S.keeps fun b o q => hideAll_get _ (L.fr.keep b o q) fun z => ?_
  obtain ⟨p, hp, rfl⟩ := List.mem_map.mp z
  rw [(L.nw p (hsub.subset hp)).2.2] at q; cases q

/-- a call that changes nothing that stands, and hands back some new objects -/
theorem use0 {post : Value → News' → Prop} {Q : Value → Shared → Prop} (C : Fn K prog w n f args [] post) (S : Sta K g) (hA : Room A n) (D : St B g env vals s news)
    (k : ∀ v own' s', post v own' → St B g env vals s' (own' ++ news) → Q v s') : wpAny (model prog w) A (call f args []) Q E s := by
  have hs : ([] : News').Sublist news := List.nil_sublist _
  obtain ⟨m, L, e⟩ := D.led
  refine wpAny_call (C (D.sta S hs) hA (D.own hs) fun v s' own' hp O hnew r u => k v own' s' hp (D.after (own := []) (fun p hp => nomatch hp) O r u (fun p hp => ?_) ?_))
  · rcases List.mem_append.mp hp with hp | hp
    · have hge : s.heap.objs.size ≤ p.1 := (hnew p hp).resolve_left fun z => nomatch z
      refine .inl ⟨hp, ?_, fun q => ?_⟩
      · cases q : g.get? p.1 with
        | none => rfl
        | some o => exact absurd (Heap.lt_size (L.fr.keep _ _ q)) (Nat.not_lt.mpr hge)
      · have := L.fr.ns.lt; rw [← q] at this; exact absurd this (Nat.not_lt.mpr hge)
    · exact .inr ⟨hp, fun z => nomatch z⟩
  · rw [List.map_append]
    refine List.pairwise_append.mpr ⟨O.ord, L.ord, fun a ha b hb => ?_⟩
    obtain ⟨p, hp, rfl⟩ := List.mem_map.mp ha
    obtain ⟨q, hq, rfl⟩ := List.mem_map.mp hb
    have hge : s.heap.objs.size ≤ p.1 := (hnew p hp).resolve_left fun z => nomatch z
    exact Nat.lt_of_lt_of_le (Heap.lt_size (L.nw q hq).1) hge

/-- a frame's end: what the caller sees -/
theorem St.leave {own : News'} {B : Shared} (D : St B g env vals s news) (hB : ∀ p ∈ news, p.1 ∈ own.map (·.1) ∨ B.heap.objs.size ≤ p.1) (hg : g.objs.size ≤ B.heap.objs.size)
    {R : Result → Shared → Prop} {v : Value} {post : Value → News' → Prop} (hp : post v news)
    (k : ∀ v s' own', post v own' → Own g s' own' → (∀ p ∈ own', p.1 ∈ own.map (·.1) ∨ B.heap.objs.size ≤ p.1) → Rest B s' → Up B s' → R (.ok (.ret v)) s') : R (.ok (.ret v)) s := by
  obtain ⟨m, L, e⟩ := D.led
  exact k v s news hp ⟨L.fr.keep, Nat.le_trans hg D.up.2, L.ord, fun p hp => ⟨(L.nw p hp).1, (L.nw p hp).2.2⟩, D.tok⟩ hB D.rest D.up

/-- an end that hands back a text, nothing made -/
theorem St.leaveS {B : Shared} {l l' : List Nat} {t : Tok} (D : St B g env vals s []) (hg : g.objs.size ≤ B.heap.objs.size) {R : Result → Shared → Prop} {T' : List Nat → Str} (e : l = l')
    (k : ∀ v s' own', (∃ t, v = .str (T' l') t ∧ own' = []) → Own g s' own' → (∀ p ∈ own', p.1 ∈ ([] : News').map (·.1) ∨ B.heap.objs.size ≤ p.1) → Rest B s' → Up B s' → R (.ok (.ret v)) s') : R (.ok (.ret (.str (T' l) t))) s :=
  D.leave (own := []) (fun _ hp => nomatch hp) hg (post := fun v own => ∃ t, v = .str (T' l') t ∧ own = []) ⟨t, by rw [e], rfl⟩ k
/-! ## statements -/
theorem r_assign {x : Str} {pos' pos : Pos} {e : Expr} {Q : Flow → Shared → Prop} (h : wpAny M A (eval e env) (fun v s₁ => wpAny M A (storeName env x v) (fun _ => Q .next) E s₁) E s)
    (hs : swapsWith e (some (.Name x pos')) pos.line env = pure false := by rfl) : wpAny M A (exec (.Assign [.Name x pos'] e pos) env) Q E s := wpAny_Assign_Name h hs

theorem while_loop {test : Expr} {body orelse : List Stmt} {pos : Pos} {Q : Flow → Shared → Prop} (I : Nat → Shared → Prop)
    (turn : ∀ n s, I n s → wpAny M A (PySem.isTrue test env (eval test env)) (fun b s1 => if b = true then
        wpAny M A (execs body env) (fun f s2 => match f with | .next | .cont => ∃ m, m < n ∧ I m s2 | .brk => Q .next s2 | .ret v => Q (.ret v) s2) (fun _ _ => False) s1
      else wpAny M A (execs orelse env) Q (fun _ _ => False) s1) (fun _ _ => False) s) (n : Nat) (h : I n s) (hM : M.den = denote table := by rfl) : wpAny M A (exec (.While test body orelse pos) env) Q E s := by
  refine wpAny_While (codeAny_loop rfl I (fun n s hI => ?_) n h)
  rw [Around.under_of_weight (by rfl)]
  rw [hM]
  show wpAny M A ((whileTurn test body orelse env).onRaise _) _ _ s
  refine wpAny_onRaise (wpAny_mono ?_ (fun _ _ x => x) (fun _ _ x => x.elim) (E := fun _ _ => False))
  unfold whileTurn
  refine wpAny_bind (wpAny_mono (turn n s hI) (fun b s1 hb => ?_) fun _ _ x => x)
  cases b with
  | true =>
    rw [if_pos rfl] at hb ⊢
    refine wpAny_bind (wpAny_mono hb (fun fl s2 hf => ?_) fun _ _ x => x)
    cases fl with
    | next => exact wpAny_pure ⟨rfl, hf⟩
    | cont => exact wpAny_pure ⟨rfl, hf⟩
    | brk => exact wpAny_pure hf
    | ret v => exact wpAny_pure hf
  | false =>
    rw [if_neg (by decide)] at hb ⊢
    exact wpAny_bind (wpAny_mono hb (fun fl s2 hf => wpAny_pure hf) fun _ _ x => x)
end

/-! ## a subscript of a name -/
theorem subscripted_slice {lo up : Option Expr} {p : Pos} {b : Bool} {v i : Value} : subscripted (.Slice lo up none p) b v i = operate [i, v] (getItem v i) := rfl
theorem subscripted_name {x : Str} {p : Pos} {v i : Value} : subscripted (.Name x p) false v i = operate [v, i] (getItem v i) := rfl
theorem subscripted_const {x : Const} {n : Nat} {p : Pos} {v i : Value} : subscripted (.Constant x n p) false v i = operate [v, i] (getItem v i) := rfl
theorem subscripted_bin {x y : Expr} {op : Operator} {p : Pos} {v i : Value} : subscripted (.BinOp x op y p) false v i = operate [v, i] (getItem v i) := rfl
theorem subscripted_un {x : Expr} {op : UnaryOp} {p : Pos} {v i : Value} : subscripted (.UnaryOp op x p) false v i = operate [v, i] (getItem v i) := rfl
theorem temporary_str {e : Expr} {x : Str} {t : Tok} : ∀ r, letTemporaryGo e (.str x t) r = pure () := fun r => by cases e <;> rfl
theorem temporary_name {x : Str} {p : Pos} {v : Value} : ∀ r, letTemporaryGo (.Name x p) v r = pure () := fun _ => rfl

section
variable {B : Shared} {g : Heap} {env : Env} {vals vals' : Vals} {s : Shared} {news news' : News'} {M : Model} {A : Around} {E : Value → Shared → Prop} {K : Frag} {prog : Program} {w : World}

/-! ## constants -/
theorem r_str {x : Str} {i : Nat} {pos : Pos} {Q : Value → Shared → Prop} (D : St B g env vals s news) (k : ∀ t s', 1 ≤ t → St B g env vals s' news → (∀ s'', Up s' s'' → t < s''.toks) → Q (.str x t) s') : wpAny M A (eval (.Constant (.str x) i pos) env) Q E s :=
  Constant_str (k _ _ D.tok D.tk1 fun _ u => u.1)
theorem r_int {x : Int} {i : Nat} {pos : Pos} {Q : Value → Shared → Prop} (D : St B g env vals s news) (k : ∀ t s', St B g env vals s' news → Q (.int x t) s') : wpAny M A (eval (.Constant (.int x) i pos) env) Q E s :=
  wpAny_Constant_int (k _ _ D.tk1)

/-! ## texts -/
theorem r_add_str {x y : Str} {t u : Tok} {Q : Value → Shared → Prop} (D : St B g env vals s news) (hsz : x.length + y.length ≤ sizeLine) (k : ∀ t s', St B g env vals s' news → Q (.str (x ++ y) t) s') :
    wpAny (model prog w) A (binaryOp .Add (.str x t) (.str y u)) Q E s := up (SBL.add (fun t' j _ u => k _ _ (D.tk u)) hsz)
theorem r_iadd_str {x y : Str} {t u : Tok} {Q : Value → Shared → Prop} (D : St B g env vals s news) (hsz : x.length + y.length ≤ sizeLine) (k : ∀ t s', St B g env vals s' news → Q (.str (x ++ y) t) s') :
    wpAny (model prog w) A (inplaceOp .Add (.str x t) (.str y u)) Q E s := up (SBL.iadd (fun t' j _ u => k _ _ (D.tk u)) hsz)
theorem small_len {x : Str} (h : x.length ≤ sizeLine) : (x.length : Int) < 9223372036854775808 := by rw [sizeLine_eq] at h; omega
theorem r_len_str {x : Str} {t : Tok} {Q : Value → Shared → Prop} (D : St B g env vals s news) (hsz : x.length ≤ sizeLine) (k : ∀ t s', St B g env vals s' news → Q (.int x.length t) s') :
    wpAny (model prog w) A (call (.builtin "len") [.str x t]) Q E s := SBL.len (small_len hsz) (k _ _ (D.tk1 (n := 2)))
theorem r_truthy_str {x : Str} {t : Tok} {Q : Bool → Shared → Prop} (D : St B g env vals s news) (hsz : x.length ≤ sizeLine) (k : ∀ s', St B g env vals s' news → Q ((x.length : Int) != 0) s') :
    wpAny (model prog w) A (truthy (.str x t)) Q E s := SBL.truthy (small_len hsz) (k _ (D.tk1 (n := 2)))
theorem r_item_str {e sl : Expr} {x : Str} {t u : Tok} {i : Int} {Q : Value → Shared → Prop} (D : St B g env vals s news) (hsz : x.length ≤ sizeLine) (h0 : -(x.length : Int) ≤ i) (h1 : i < x.length) (k : ∀ t s', St B g env vals s' news → Q (.str (Txt.item x i) t) s')
    (hs : subscripted sl false (.str x t) (.int i u) = operate [.str x t, .int i u] (getItem (.str x t) (.int i u)) := by with_unfolding_all rfl) (ht : ∀ r, letTemporaryGo e (.str x t) r = pure () := by intro _; with_unfolding_all rfl) :
    wpAny (model prog w) A (subscriptTail e sl (.str x t) (.int i u)) Q E s :=
  item_str (fitsSsize_of (N := 9223372036854775808) (by have := small_len hsz; omega) (by have := small_len hsz; omega) (Int.le_refl _)) h0 h1 (fun _ => k _ _ D.tk1) hs ht

/-- the state with the slice object pushed -/
noncomputable abbrev pushSlice (s : Shared) (a b c : Value) : Shared := { s with heap := s.heap.push { cls := .type "slice", data := .fields #[a, b, c] } }
theorem r_slice {o : Expr} {lo up' st : Option Expr} {p pos : Pos} {Q : Value → Shared → Prop}
    (h : wpAny M A (eval o env) (fun ov s1 => wpAny M A (evalPart lo env) (fun l s2 => wpAny M A (evalPart up' env) (fun u s3 => wpAny M A (evalPart st env) (fun c s4 =>
      wpAny M A (subscriptTail o (.Slice lo up' st p) ov (.ref s4.heap.objs.size)) Q E (pushSlice s4 l u c)) E s3) E s2) E s1) E s) :
    wpAny M A (eval (.Subscript o (.Slice lo up' st p) pos) env) Q E s :=
  Subscript_ (wpAny_mono h (fun ov s1 h1 => wpAny_Slice h1) fun _ _ x => x)
theorem St.pushFr (D : St B g env vals s news) : ∃ m, Fr g env.locals s.heap m ∧ News g env.locals s.heap news ∧ (∀ {h' : Heap} {tk}, Fr g env.locals h' m → News g env.locals h' news → Up s ⟨h', s.gens, s.drawn, tk, s.os⟩ → St B g env vals ⟨h', s.gens, s.drawn, tk, s.os⟩ news) := by
  obtain ⟨m, L, e⟩ := D.led
  exact ⟨m, L.fr, L.nw, fun F N u => D.to ⟨m, ⟨F, N, L.ord⟩, e⟩ rfl u⟩
theorem up_push {s s' : Shared} {o : Obj} (u : Up { s with heap := s.heap.push o } s') : Up s s' := ⟨u.1, by have := u.2; rw [Heap.size_push] at this; omega⟩
theorem r_slice_ss {e sl : Expr} {x : Str} {t : Tok} {i j : Int} {ui uj : Tok} {Q : Value → Shared → Prop} (D : St B g env vals s news) (hsz : x.length ≤ sizeLine) (k : ∀ t s', St B g env vals s' news → Q (.str (Txt.slice x (some i) (some j)) t) s')
    (hs : subscripted sl false (.str x t) (.ref s.heap.objs.size) = operate [.ref s.heap.objs.size, .str x t] (getItem (.str x t) (.ref s.heap.objs.size)) := by with_unfolding_all rfl)
    (ht : ∀ r, letTemporaryGo e (.str x t) r = pure () := by intro _; with_unfolding_all rfl) :
    wpAny (model prog w) A (subscriptTail e sl (.str x t) (.ref s.heap.objs.size)) Q E (pushSlice s (.int i ui) (.int j uj) .none) := by
  obtain ⟨m, F, N, c⟩ := D.pushFr
  exact up (slice_strN_ss (s := s) F N (fun h' t' tk F' N' u => k _ _ (c F' N' (up_push u))) hs ht hsz)
theorem r_slice_ns {e sl : Expr} {x : Str} {t : Tok} {j : Int} {uj : Tok} {Q : Value → Shared → Prop} (D : St B g env vals s news) (hsz : x.length ≤ sizeLine) (k : ∀ t s', St B g env vals s' news → Q (.str (Txt.slice x none (some j)) t) s')
    (hs : subscripted sl false (.str x t) (.ref s.heap.objs.size) = operate [.ref s.heap.objs.size, .str x t] (getItem (.str x t) (.ref s.heap.objs.size)) := by with_unfolding_all rfl)
    (ht : ∀ r, letTemporaryGo e (.str x t) r = pure () := by intro _; with_unfolding_all rfl) :
    wpAny (model prog w) A (subscriptTail e sl (.str x t) (.ref s.heap.objs.size)) Q E (pushSlice s .none (.int j uj) .none) := by
  obtain ⟨m, F, N, c⟩ := D.pushFr
  exact up (slice_strN_ns (s := s) F N (fun h' t' tk F' N' u => k _ _ (c F' N' (up_push u))) hs ht hsz)
theorem r_slice_sn {e sl : Expr} {x : Str} {t : Tok} {i : Int} {ui : Tok} {Q : Value → Shared → Prop} (D : St B g env vals s news) (hsz : x.length ≤ sizeLine) (k : ∀ t s', St B g env vals s' news → Q (.str (Txt.slice x (some i) none) t) s')
    (hs : subscripted sl false (.str x t) (.ref s.heap.objs.size) = operate [.ref s.heap.objs.size, .str x t] (getItem (.str x t) (.ref s.heap.objs.size)) := by with_unfolding_all rfl)
    (ht : ∀ r, letTemporaryGo e (.str x t) r = pure () := by intro _; with_unfolding_all rfl) :
    wpAny (model prog w) A (subscriptTail e sl (.str x t) (.ref s.heap.objs.size)) Q E (pushSlice s (.int i ui) .none .none) := by
  obtain ⟨m, F, N, c⟩ := D.pushFr
  exact up (slice_strN_sn (s := s) F N (fun h' t' tk F' N' u => k _ _ (c F' N' (up_push u))) hs ht hsz)

/-! ## numbers -/
theorem r_add_int {a b : Int} {t u : Tok} {Q : Value → Shared → Prop} (D : St B g env vals s news) (k : ∀ t s', St B g env vals s' news → Q (.int (a + b) t) s') : wpAny (model prog w) A (binaryOp .Add (.int a t) (.int b u)) Q E s := add_int (k _ _ D.tk1)
theorem r_iadd_int {a b : Int} {t u : Tok} {Q : Value → Shared → Prop} (D : St B g env vals s news) (k : ∀ t s', St B g env vals s' news → Q (.int (a + b) t) s') : wpAny (model prog w) A (inplaceOp .Add (.int a t) (.int b u)) Q E s := iadd_int (k _ _ D.tk1)
theorem r_sub_int {a b : Int} {t u : Tok} {Q : Value → Shared → Prop} (D : St B g env vals s news) (k : ∀ t s', St B g env vals s' news → Q (.int (a - b) t) s') : wpAny (model prog w) A (binaryOp .Sub (.int a t) (.int b u)) Q E s := sub_int (k _ _ D.tk1)
theorem r_neg_int {a : Int} {t : Tok} {Q : Value → Shared → Prop} (D : St B g env vals s news) (k : ∀ t s', St B g env vals s' news → Q (.int (-a) t) s') : wpAny (model prog w) A (unaryOp .USub (.int a t)) Q E s := neg_int (k _ _ D.tk1)
theorem r_mod_int {a b : Int} {t u : Tok} {Q : Value → Shared → Prop} (D : St B g env vals s news) (hb : b ≠ 0) (k : ∀ t s', St B g env vals s' news → Q (.int (a.fmod b) t) s') : wpAny (model prog w) A (binaryOp .Mod (.int a t) (.int b u)) Q E s := mod_int' hb (k _ _ D.tk1)

theorem ite_t {c : Bool} {P Q : Prop} (h : c = true) (k : P) : if c = true then P else Q := by rw [if_pos h]; exact k
theorem ite_f {c : Bool} {P Q : Prop} (h : c = false) (k : Q) : if c = true then P else Q := by rw [if_neg (by rw [h]; decide)]; exact k
theorem ite_b {c : Bool} {P Q : Prop} (h1 : c = true → P) (h2 : c = false → Q) : if c = true then P else Q := by
  cases h : c with
  | true => rw [if_pos rfl]; exact h1 h
  | false => rw [if_neg (by decide)]; exact h2 h
end

noncomputable def T (l : List Nat) : Str := ⟨l.toArray⟩
theorem T_cps (l : List Nat) : (T l).cps = l.toArray := rfl
theorem T_list (l : List Nat) : (T l).cps.toList = l := rfl
theorem T_of (x : Str) : x = T x.cps.toList := rfl
theorem T_len (l : List Nat) : (T l).length = l.length := by simp [T, Str.length]
theorem T_inj {a b : List Nat} : T a = T b ↔ a = b := ⟨fun h => by have := congrArg (fun x => x.cps.toList) h; simpa [T] using this, fun h => h ▸ rfl⟩
theorem T_beq (a b : List Nat) : (T a == T b) = decide (a = b) := by
  by_cases h : a = b
  · subst h; simp
  · have : T a ≠ T b := fun e => h (T_inj.mp e)
    simp [h, this]
theorem T_bne (a b : List Nat) : (T a != T b) = !decide (a = b) := by rw [bne, T_beq]
theorem T_app (a b : List Nat) : T a ++ T b = T (a ++ b) := Str.ext' (by rw [Str.cps_append]; simp [T])
theorem T_item {l : List Nat} {i : Int} {c : Nat} (h0 : 0 ≤ i) (h : l[i.toNat]? = some c) : Txt.item (T l) i = T [c] := by
  have hlt : i.toNat < l.length := (List.getElem?_eq_some_iff.mp h).1
  unfold Txt.item Txt.charAt
  rw [StrLaws.at_nonneg (x := T l) (n := c) h0 (by rw [T_cps]; simpa using h)]
  rfl
theorem Txt_slice_eq (x : Str) (l u : Option Int) : Txt.slice x l u = StrLaws.sliceText x l u := rfl
theorem T_slice {l : List Nat} {i j : Int} (h : 0 ≤ i ∧ i ≤ j ∧ j ≤ l.length) : Txt.slice (T l) (some i) (some j) = T ((l.drop i.toNat).take (j - i).toNat) := by
  rw [Txt_slice_eq, StrLaws.sliceText_plain (x := T l) (by rw [T_list]; exact h), T_list]; rfl
theorem T_slice_to {l : List Nat} {j : Int} (h : 0 ≤ j ∧ j ≤ l.length) : Txt.slice (T l) none (some j) = T (l.take j.toNat) := by
  rw [Txt_slice_eq, StrLaws.sliceText_to (x := T l) (by rw [T_list]; exact h), T_list, List.drop_zero, Int.sub_zero]; rfl
theorem sub_le_toNat {n : Nat} {i j : Int} (h : 0 ≤ i) (hj : (n : Int) ≤ j) : n - i.toNat ≤ (j - i).toNat := by
  obtain ⟨k, rfl⟩ := Int.eq_ofNat_of_zero_le h
  exact Nat.le_trans (Nat.le_of_eq (Int.toNat_sub n k).symm) (Int.toNat_le_toNat (Int.sub_le_sub_right hj _))
theorem T_slice_from {l : List Nat} {i : Int} (h : 0 ≤ i ∧ i ≤ l.length) : Txt.slice (T l) (some i) none = T (l.drop i.toNat) := by
  rw [Txt_slice_eq, StrLaws.sliceText_from (x := T l) (by rw [T_list]; exact h), T_list]
  congr 1
  rw [List.take_of_length_le]
  rw [List.length_drop]; exact sub_le_toNat h.1 (Int.le_refl _)
/-- the upper bound may lie beyond the end -/
theorem sliceIdx_over (l : Option Int) {j : Int} (len : Nat) (h : (len : Int) ≤ j) : Builtin.Str.strSliceIndices l (some j) 1 len = Builtin.Str.strSliceIndices l (some (len : Int)) 1 len := by
  have a : ¬ j < 0 := Int.not_lt.mpr (Int.le_trans (Int.natCast_nonneg len) h)
  have b : ¬ (len : Int) < 0 := Int.not_lt.mpr (Int.natCast_nonneg len)
  have c : min j (len : Int) = len := Int.min_eq_right h
  simp [Builtin.Str.strSliceIndices, a, b, c]
theorem T_slice_over {l : List Nat} {i j : Int} (h : 0 ≤ i ∧ i ≤ l.length) (hj : l.length ≤ j) : Txt.slice (T l) (some i) (some j) = T (l.drop i.toNat) := by
  have e : Txt.slice (T l) (some i) (some j) = Txt.slice (T l) (some i) (some (l.length : Int)) := by
    rw [Txt_slice_eq, Txt_slice_eq]; unfold StrLaws.sliceText; rw [sliceIdx_over (len := (T l).length) _ (by rw [T_len]; exact hj), T_len]
  rw [e, T_slice ⟨h.1, h.2, Int.le_refl _⟩]
  congr 1
  rw [List.take_of_length_le]
  rw [List.length_drop]; exact sub_le_toNat h.1 (Int.le_refl _)
/-- l[i:j] for 0 ≤ i ≤ the length, i ≤ j -/
theorem T_slice' {l : List Nat} {i j : Int} (h : 0 ≤ i ∧ i ≤ l.length) (hj : i ≤ j) : Txt.slice (T l) (some i) (some j) = T ((l.drop i.toNat).take (j - i).toNat) := by
  by_cases q : j ≤ l.length
  · exact T_slice ⟨h.1, hj, q⟩
  · rw [T_slice_over h (Int.le_of_lt (Int.not_le.mp q)), List.take_of_length_le (by rw [List.length_drop]; exact sub_le_toNat h.1 (Int.le_of_lt (Int.not_le.mp q)))]
theorem T_slice_to_over {l : List Nat} {j : Int} (hj : 0 ≤ j) : Txt.slice (T l) none (some j) = T (l.take j.toNat) := by
  have e : Txt.slice (T l) none (some j) = Txt.slice (T l) (some 0) (some j) := by rw [Txt_slice_eq, Txt_slice_eq]; unfold StrLaws.sliceText; rw [StrLaws.sliceIdx_none_lo]
  rw [e, T_slice' ⟨Int.le_refl _, Int.natCast_nonneg _⟩ hj, Int.sub_zero]; rfl

section
variable {B : Shared} {g : Heap} {env : Env} {vals vals' : Vals} {s : Shared} {news news' : News'} {M : Model} {A : Around} {E : Value → Shared → Prop} {K : Frag} {prog : Program} {w : World}
theorem q_str {x : Str} {l : List Nat} {i : Nat} {pos : Pos} {Q : Value → Shared → Prop} (D : St B g env vals s news) (hx : x = T l) (k : ∀ t s', St B g env vals s' news → Q (.str (T l) t) s') : wpAny M A (eval (.Constant (.str x) i pos) env) Q E s := by
  subst hx; exact r_str D fun t s' _ D' _ => k t s' D'
theorem q_add {x y : List Nat} {t u : Tok} {Q : Value → Shared → Prop} (D : St B g env vals s news) (hsz : x.length + y.length ≤ 16777216) (k : ∀ t s', St B g env vals s' news → Q (.str (T (x ++ y)) t) s') :
    wpAny (model prog w) A (binaryOp .Add (.str (T x) t) (.str (T y) u)) Q E s := r_add_str D (by rw [T_len, T_len, sizeLine_eq]; exact hsz) fun t s' D' => by rw [T_app]; exact k t s' D'
theorem q_iadd {x y : List Nat} {t u : Tok} {Q : Value → Shared → Prop} (D : St B g env vals s news) (hsz : x.length + y.length ≤ 16777216) (k : ∀ t s', St B g env vals s' news → Q (.str (T (x ++ y)) t) s') :
    wpAny (model prog w) A (inplaceOp .Add (.str (T x) t) (.str (T y) u)) Q E s := r_iadd_str D (by rw [T_len, T_len, sizeLine_eq]; exact hsz) fun t s' D' => by rw [T_app]; exact k t s' D'
theorem q_len {x : List Nat} {t : Tok} {Q : Value → Shared → Prop} (D : St B g env vals s news) (hsz : x.length ≤ 16777216) (k : ∀ t s', St B g env vals s' news → Q (.int x.length t) s') :
    wpAny (model prog w) A (call (.builtin "len") [.str (T x) t]) Q E s := r_len_str D (by rw [T_len, sizeLine_eq]; exact hsz) fun t s' D' => by rw [T_len]; exact k t s' D'
theorem q_truthy {x : List Nat} {t : Tok} {Q : Bool → Shared → Prop} (D : St B g env vals s news) (hsz : x.length ≤ 16777216) (k : ∀ s', St B g env vals s' news → Q (!decide (x = [])) s') :
    wpAny (model prog w) A (truthy (.str (T x) t)) Q E s := r_truthy_str D (by rw [T_len, sizeLine_eq]; exact hsz) fun s' D' => by
  have e : (((T x).length : Int) != 0) = !decide (x = []) := by rw [T_len]; cases x <;> simp <;> omega
  rw [e]; exact k s' D'
theorem q_item {e sl : Expr} {l : List Nat} {c : Nat} {t u : Tok} {i : Int} {Q : Value → Shared → Prop} (D : St B g env vals s news) (h0 : 0 ≤ i) (hc : l[i.toNat]? = some c) (hsz : l.length ≤ 16777216) (k : ∀ t s', St B g env vals s' news → Q (.str (T [c]) t) s')
    (hs : subscripted sl false (.str (T l) t) (.int i u) = operate [.str (T l) t, .int i u] (getItem (.str (T l) t) (.int i u)) := by with_unfolding_all rfl) (ht : ∀ r, letTemporaryGo e (.str (T l) t) r = pure () := by intro _; with_unfolding_all rfl) :
    wpAny (model prog w) A (subscriptTail e sl (.str (T l) t) (.int i u)) Q E s := by
  have hlt : i.toNat < l.length := (List.getElem?_eq_some_iff.mp hc).1
  exact r_item_str D (by rw [T_len, sizeLine_eq]; exact hsz) (by omega) (by rw [T_len]; omega) (fun t s' D' => by rw [T_item h0 hc]; exact k t s' D') hs ht
theorem q_slice_ss {e sl : Expr} {l : List Nat} {t : Tok} {i j : Int} {ui uj : Tok} {Q : Value → Shared → Prop} (D : St B g env vals s news) (h : 0 ≤ i ∧ i ≤ l.length) (hj : i ≤ j) (hsz : l.length ≤ 16777216) (k : ∀ t s', St B g env vals s' news → Q (.str (T ((l.drop i.toNat).take (j - i).toNat)) t) s')
    (hs : subscripted sl false (.str (T l) t) (.ref s.heap.objs.size) = operate [.ref s.heap.objs.size, .str (T l) t] (getItem (.str (T l) t) (.ref s.heap.objs.size)) := by with_unfolding_all rfl)
    (ht : ∀ r, letTemporaryGo e (.str (T l) t) r = pure () := by intro _; with_unfolding_all rfl) :
    wpAny (model prog w) A (subscriptTail e sl (.str (T l) t) (.ref s.heap.objs.size)) Q E (pushSlice s (.int i ui) (.int j uj) .none) :=
  r_slice_ss D (by rw [T_len, sizeLine_eq]; exact hsz) (fun t s' D' => by rw [T_slice' h hj]; exact k t s' D') hs ht
theorem q_slice_ns {e sl : Expr} {l : List Nat} {t : Tok} {j : Int} {uj : Tok} {Q : Value → Shared → Prop} (D : St B g env vals s news) (hj : 0 ≤ j) (hsz : l.length ≤ 16777216) (k : ∀ t s', St B g env vals s' news → Q (.str (T (l.take j.toNat)) t) s')
    (hs : subscripted sl false (.str (T l) t) (.ref s.heap.objs.size) = operate [.ref s.heap.objs.size, .str (T l) t] (getItem (.str (T l) t) (.ref s.heap.objs.size)) := by with_unfolding_all rfl)
    (ht : ∀ r, letTemporaryGo e (.str (T l) t) r = pure () := by intro _; with_unfolding_all rfl) :
    wpAny (model prog w) A (subscriptTail e sl (.str (T l) t) (.ref s.heap.objs.size)) Q E (pushSlice s .none (.int j uj) .none) :=
  r_slice_ns D (by rw [T_len, sizeLine_eq]; exact hsz) (fun t s' D' => by rw [T_slice_to_over hj]; exact k t s' D') hs ht
theorem q_slice_sn {e sl : Expr} {l : List Nat} {t : Tok} {i : Int} {ui : Tok} {Q : Value → Shared → Prop} (D : St B g env vals s news) (h : 0 ≤ i ∧ i ≤ l.length) (hsz : l.length ≤ 16777216) (k : ∀ t s', St B g env vals s' news → Q (.str (T (l.drop i.toNat)) t) s')
    (hs : subscripted sl false (.str (T l) t) (.ref s.heap.objs.size) = operate [.ref s.heap.objs.size, .str (T l) t] (getItem (.str (T l) t) (.ref s.heap.objs.size)) := by with_unfolding_all rfl)
    (ht : ∀ r, letTemporaryGo e (.str (T l) t) r = pure () := by intro _; with_unfolding_all rfl) :
    wpAny (model prog w) A (subscriptTail e sl (.str (T l) t) (.ref s.heap.objs.size)) Q E (pushSlice s (.int i ui) .none .none) :=
  r_slice_sn D (by rw [T_len, sizeLine_eq]; exact hsz) (fun t s' D' => by rw [T_slice_from h]; exact k t s' D') hs ht
theorem q_eq {x y : List Nat} {t u : Tok} {Q : Value → Shared → Prop} (k : Q (.bool (decide (x = y))) s) : wpAny (model prog w) A (compareOp .Eq (.str (T x) t) (.str (T y) u)) Q E s := eq_str (by rw [T_beq]; exact k)
theorem q_ne {x y : List Nat} {t u : Tok} {Q : Value → Shared → Prop} (k : Q (.bool (!decide (x = y))) s) : wpAny (model prog w) A (compareOp .NotEq (.str (T x) t) (.str (T y) u)) Q E s := ne_str (by rw [T_bne]; exact k)
theorem d_t {p : Prop} [Decidable p] (h : p) : decide p = true := decide_eq_true h
theorem d_f {p : Prop} [Decidable p] (h : ¬ p) : decide p = false := decide_eq_false h
theorem nd_t {p : Prop} [Decidable p] (h : ¬ p) : (!decide p) = true := by simp [h]
theorem nd_f {p : Prop} [Decidable p] (h : p) : (!decide p) = false := by simp [h]
end

section
variable {B : Shared} {g : Heap} {env : Env} {vals vals' : Vals} {s : Shared} {news news' : News'} {M : Model} {A : Around} {E : Value → Shared → Prop} {K : Frag} {prog : Program} {w : World}
theorem m_while {test : Expr} {body orelse : List Stmt} {pos : Pos} {Q : Flow → Shared → Prop} (I : Nat → Shared → Prop) (n : Nat) (h : I n s) 
    (turn : ∀ n s, I n s → ∀ Q' : Flow → Shared → Prop, (∀ f s2, (match f with | .next | .cont => ∃ m, m < n ∧ I m s2 | .brk => Q .next s2 | .ret v => Q (.ret v) s2) → Q' f s2) → wpAny (model prog w) A (PySem.isTrue test env (eval test env)) (fun b s1 => if b = true then
        wpAny (model prog w) A (execs body env) Q' (fun _ _ => False) s1
      else wpAny (model prog w) A (execs orelse env) Q (fun _ _ => False) s1) (fun _ _ => False) s) : wpAny (model prog w) A (exec (.While test body orelse pos) env) Q E s := while_loop I (fun n s h => turn n s h _ fun _ _ x => x) n h rfl
end


/-! ## methods, calls -/
section
variable {B : Shared} {g : Heap} {env : Env} {vals vals' : Vals} {s : Shared} {news news' : News'} {M : Model} {A : Around} {E : Value → Shared → Prop} {K : Frag} {prog : Program} {w : World}
theorem r_method {o : Expr} {name : Str} {apos pos : Pos} {args : List Expr} {Q : Value → Shared → Prop}
    (h : wpAny M A (eval o env) (fun ov s₁ => wpAny M A (getMethod ov name (do return (← importBound o env).getD true)) (fun fx s₂ => wpAny M A (callWith pos fx.1 fx.2 (backTo pos (starEach args env)) []) Q E s₂) E s₁) E s)
    (he : eval (.Call (.Attribute o name apos) args [] pos) env = (do
      let ov ← eval o env
      standAt apos.atName
      let (f, first) ← holding [ov] (getMethod ov name (do return (← importBound o env).getD true))
      callWith pos f first (backTo pos (starEach args env)) []) := by with_unfolding_all rfl) :
    wpAny M A (eval (.Call (.Attribute o name apos) args [] pos) env) Q E s := MethodCall_ h he
theorem r_unary {op : UnaryOp} {x : Expr} {pos : Pos} {Q : Value → Shared → Prop} (h : wpAny M A (eval x env) (fun v s₁ => wpAny M A (unaryOp op v) Q E s₁) E s) : wpAny M A (eval (.UnaryOp op x pos) env) Q E s := by
  show wpAny M A (do let v ← eval x env; standAt pos; holding [v] (unaryOp op v)) Q E s
  exact wpAny_bind (wpAny_mono h (fun v s₁ h₁ => wpAny_bind (wpAny_standAt (wpAny_holding h₁))) fun _ _ x => x)
theorem r_callK {f : Value} {pos : Pos} {e : Expr} {rest : List Expr} {Q : Value → Shared → Prop} (S : Sta K g) (D : St B g env vals s news) (hk : keepIn K f = true)
    (h : wpAny M A (spliced (backTo pos (starEach (e :: rest) env))) (fun vs s₁ => K.In s₁.heap ∧ wpAny M A (call f vs) Q E s₁) E s)
    (he : starEach (e :: rest) env = (false, eval e env) :: starEach rest env := by rfl) (hplain : (backTo pos (starEach rest env)).any (·.1) = false := by rfl) :
    wpAny M A (callWith pos f [] (backTo pos (starEach (e :: rest) env)) []) Q E s := callWith_K S.X hk h he hplain
theorem r_meth1 {pos : Pos} {id : String} {x : Value} {e : Expr} {rest : List Expr} {Q : Value → Shared → Prop} (h : wpAny M A (spliced (backTo pos (starEach (e :: rest) env))) (fun vs s₁ => wpAny M A (call (.builtin id) (x :: vs)) Q E s₁) E s)
    (he : starEach (e :: rest) env = (false, eval e env) :: starEach rest env := by rfl) (hplain : (backTo pos (starEach rest env)).any (·.1) = false := by rfl) :
    wpAny M A (callWith pos (.builtin id) [x] (backTo pos (starEach (e :: rest) env)) []) Q E s := callWith_method1 h he hplain
theorem r_inK {P : Prop} (S : Sta K g) (D : St B g env vals s news) (h : P) : K.In s.heap ∧ P := ⟨S.X.keeps D.keep, h⟩
theorem q_in {c : Nat} {l : List Nat} {t u : Tok} {Q : Value → Shared → Prop} (k : Q (.bool (decide (c ∈ l))) s) : wpAny (model prog w) A (compareOp .In (.str (T [c]) t) (.str (T l) u)) Q E s :=
  in_str (by have := StrLaws.found_one (T l) c; rw [T_list] at this; show Q (.bool (!(Builtin.Str.occurrences (T l) ⟨#[c]⟩ 0 (T l).length 1).isEmpty)) s; rw [this]; exact k)
theorem r_div_int {a b : Int} {t u : Tok} {Q : Value → Shared → Prop} (D : St B g env vals s news) (hb : b ≠ 0) (hp : Builtin.divisionGoesByPylong a b = false) (k : ∀ t s', St B g env vals s' news → Q (.int (a.fdiv b) t) s') : wpAny (model prog w) A (binaryOp .FloorDiv (.int a t) (.int b u)) Q E s := floordiv_int hb (k _ _ D.tk1) (.inl hp)
theorem pylong_small {a b : Int} (h : b.natAbs < 2 ^ 9000) : Builtin.divisionGoesByPylong a b = false := by
  unfold Builtin.divisionGoesByPylong
  dsimp only
  rw [Bool.and_eq_false_iff]
  left
  rw [decide_eq_false_iff_not]
  split
  · omega
  · rename_i hb
    have hb' : b.natAbs ≠ 0 := by intro e; apply hb; simpa using e
    have : b.natAbs.log2 < 9000 := (Nat.log2_lt hb').mpr h
    omega

theorem q_div {a b : Int} {t u : Tok} {Q : Value → Shared → Prop} (D : St B g env vals s news) (hb : 0 < b ∧ b < 1000000000) (k : ∀ t s', St B g env vals s' news → Q (.int (a / b) t) s') : wpAny (model prog w) A (binaryOp .FloorDiv (.int a t) (.int b u)) Q E s :=
  r_div_int D (Int.ne_of_gt hb.1) (pylong_small (Nat.lt_of_lt_of_le (by omega : b.natAbs < 2 ^ 30) (Nat.pow_le_pow_right (by decide) (by decide)))) fun t s' D' => by rw [Int.fdiv_eq_ediv_of_nonneg a (Int.le_of_lt hb.1)]; exact k t s' D'
theorem q_mod {a b : Int} {t u : Tok} {Q : Value → Shared → Prop} (D : St B g env vals s news) (hb : 0 < b) (k : ∀ t s', St B g env vals s' news → Q (.int (a % b) t) s') : wpAny (model prog w) A (binaryOp .Mod (.int a t) (.int b u)) Q E s :=
  r_mod_int D (Int.ne_of_gt hb) fun t s' D' => by rw [Int.fmod_eq_emod_of_nonneg a (Int.le_of_lt hb)]; exact k t s' D'
theorem q_chr {i : Int} {t : Tok} {Q : Value → Shared → Prop} (D : St B g env vals s news) (h : 0 ≤ i ∧ i ≤ 1114111) (k : ∀ t s', St B g env vals s' news → Q (.str (T [i.toNat]) t) s') : wpAny (model prog w) A (call (.builtin "chr") [.int i t]) Q E s :=
  chr_of_range h.1 h.2 (k _ _ D.tk1)
/-! replace of one sign -/
noncomputable def sub1 (c : Nat) (z : List Nat) (l : List Nat) : List Nat := l.flatMap fun k => if k = c then z else [k]
theorem sub1_append (c : Nat) (z a b : List Nat) : sub1 c z (a ++ b) = sub1 c z a ++ sub1 c z b := List.flatMap_append
theorem sub1_free {c : Nat} {z : List Nat} : ∀ {l : List Nat}, c ∉ l → sub1 c z l = l
  | [], _ => rfl
  | k :: r, h => by
    have h1 : k ≠ c := fun e => h (e ▸ List.mem_cons_self)
    have h2 : c ∉ r := fun e => h (List.mem_cons_of_mem _ e)
    show (if k = c then z else [k]) ++ sub1 c z r = _
    rw [if_neg h1, sub1_free h2]; rfl
theorem sub1_one (c : Nat) (z : List Nat) : sub1 c z [c] = z := by simp [sub1]
theorem sub1_join (c : Nat) (z : Str) : ∀ parts : List Str, (∀ p ∈ parts, c ∉ p.cps.toList) → sub1 c z.cps.toList (Str.join ⟨#[c]⟩ parts).cps.toList = (Str.join z parts).cps.toList
  | [], _ => rfl
  | [p], h => sub1_free (h p (List.mem_singleton.mpr rfl))
  | p :: q :: r, h => by
    have ih := sub1_join c z (q :: r) fun x hx => h x (List.mem_cons_of_mem _ hx)
    show sub1 c z.cps.toList (p ++ ⟨#[c]⟩ ++ Str.join ⟨#[c]⟩ (q :: r)).cps.toList = (p ++ z ++ Str.join z (q :: r)).cps.toList
    rw [Str.cps_append, Str.cps_append, Str.cps_append, Str.cps_append, Array.toList_append, Array.toList_append, Array.toList_append, Array.toList_append, sub1_append, sub1_append, ih, sub1_free (h p List.mem_cons_self)]
    congr 2
    exact sub1_one c _
theorem T_replace (l z : List Nat) (c : Nat) : Txt.replace (T l) (T [c]) (T z) = T (sub1 c z l) := by
  have e : Txt.replace (T l) (T [c]) (T z) = T (Txt.replace (T l) (T [c]) (T z)).cps.toList := rfl
  rw [e]
  congr 1
  show (Txt.replace (T l) ⟨#[c]⟩ (T z)).cps.toList = _
  rw [StrLaws.replace_one, ← sub1_join c (T z) _ (StrLaws.split_free (T l) c), StrLaws.join_split]
  rfl
noncomputable def RepEnd (c : Nat) (z : List Nat) (Q : Value → Shared → Prop) (ov : Value) (s₁ : Shared) : Prop :=
  ∃ l t B g env vals news, ov = .str (T l) t ∧ l.length ≤ 1000000 ∧ St B g env vals s₁ news ∧ ∀ t' s', St B g env vals s' news → Q (.str (T (sub1 c z l)) t') s'
theorem rep_end {c : Nat} {z l : List Nat} {t : Tok} {Q : Value → Shared → Prop} (D : St B g env vals s news) (hl : l.length ≤ 1000000) (k : ∀ t' s', St B g env vals s' news → Q (.str (T (sub1 c z l)) t') s') : RepEnd c z Q (.str (T l) t) s :=
  ⟨_, _, _, _, _, _, _, rfl, hl, D, k⟩
theorem r_replace {o : Expr} {a b : Str} {c : Nat} {z : List Nat} {apos pos p1 p2 : Pos} {i j : Nat} {Q : Value → Shared → Prop}
    (ha : a = T [c]) (hb : b = T z) (hne : ([c] : List Nat) ≠ z) (hz : z.length ≤ 14)
    (h : wpAny (model prog w) A (eval o env) (fun ov s₁ => RepEnd c z Q ov s₁) E s)
    (he : eval (.Call (.Attribute o (Str.ofString "replace") apos) [.Constant (.str a) i p1, .Constant (.str b) j p2] [] pos) env = (do
      let ov ← eval o env
      standAt apos.atName
      let (f, first) ← holding [ov] (getMethod ov (Str.ofString "replace") (do return (← importBound o env).getD true))
      callWith pos f first (backTo pos (starEach [.Constant (.str a) i p1, .Constant (.str b) j p2] env)) []) := by with_unfolding_all rfl) :
    wpAny (model prog w) A (eval (.Call (.Attribute o (Str.ofString "replace") apos) [.Constant (.str a) i p1, .Constant (.str b) j p2] [] pos) env) Q E s := by
  refine r_method (wpAny_mono h (fun ov s₁ h₁ => ?_) fun _ _ x => x) he
  obtain ⟨l, t, B, g, env₁, vals, news, rfl, hl, D, k⟩ := h₁
  refine PySem.GM.replace (callWith_method1 ?_ (by with_unfolding_all rfl) (by with_unfolding_all rfl))
  refine spliced_more (Constant_str (spliced_more (Constant_str (spliced_none ?_)) (by with_unfolding_all rfl))) (by with_unfolding_all rfl)
  subst ha hb
  refine up (SC.replaceW (by have := D.tok; show s₁.toks ≠ 0; omega) (by show s₁.toks + 1 ≠ 0; omega) (by show s₁.toks ≠ s₁.toks + 1; omega) ?_ (by rw [T_len]; omega) (by rw [T_len]; exact hz) (fun t' tk u => ?_))
  · rw [T_beq]; exact decide_eq_false hne
  · rw [T_replace]
    exact k t' _ (D.tk (tk := tk) ⟨Nat.le_trans (by show s₁.toks ≤ s₁.toks + 1 + 1; omega) u.1, Nat.le_refl _⟩)
end

end
section
theorem lit0 : Str.ofString "." = T [46] := by decide +kernel
theorem lit1 : Str.ofString "latin1" = T [108, 97, 116, 105, 110, 49] := by decide +kernel
theorem lit2 : Str.ofString "*" = T [42] := by decide +kernel
theorem lit3 : Str.ofString "?" = T [63] := by decide +kernel
theorem lit4 : Str.ofString "[" = T [91] := by decide +kernel
theorem lit5 : Str.ofString "!" = T [33] := by decide +kernel
theorem lit6 : Str.ofString "]" = T [93] := by decide +kernel
theorem lit7 : Str.ofString "\\[" = T [92, 91] := by decide +kernel
theorem lit8 : Str.ofString "-" = T [45] := by decide +kernel
theorem lit9 : Str.ofString "\\" = T [92] := by decide +kernel
theorem lit10 : Str.ofString "\\\\" = T [92, 92] := by decide +kernel
theorem lit11 : Str.ofString "(?!)" = T [40, 63, 33, 41] := by decide +kernel
theorem lit12 : Str.ofString "\\-" = T [92, 45] := by decide +kernel
theorem lit13 : Str.ofString "" = T [] := by decide +kernel
theorem lit14 : Str.ofString "^" = T [94] := by decide +kernel
theorem lit15 : Str.ofString "(?s:" = T [40, 63, 115, 58] := by decide +kernel
theorem lit16 : Str.ofString ")\\Z" = T [41, 92, 90] := by decide +kernel
theorem lit17 : Str.ofString ".*" = T [46, 42] := by decide +kernel
theorem lit18 : Str.ofString "(?>.*?" = T [40, 63, 62, 46, 42, 63] := by decide +kernel
theorem lit19 : Str.ofString ")" = T [41] := by decide +kernel
theorem lit20 : Str.ofString "257" = T [50, 53, 55] := by decide +kernel
theorem lit21 : Str.ofString " \"" = T [32, 34] := by decide +kernel
theorem lit22 : Str.ofString "\"" = T [34] := by decide +kernel
theorem lit23 : Str.ofString "\n" = T [10] := by decide +kernel
theorem lit24 : Str.ofString "\r" = T [13] := by decide +kernel
theorem lit25 : Str.ofString "\r\n" = T [13, 10] := by decide +kernel
theorem lit26 : Str.ofString "illegal newline value: " = T [105, 108, 108, 101, 103, 97, 108, 32, 110, 101, 119, 108, 105, 110, 101, 32, 118, 97, 108, 117, 101, 58, 32] := by decide +kernel
theorem lit27 : Str.ofString "I/O operation on closed file" = T [73, 47, 79, 32, 111, 112, 101, 114, 97, 116, 105, 111, 110, 32, 111, 110, 32, 99, 108, 111, 115, 101, 100, 32, 102, 105, 108, 101] := by decide +kernel
theorem lit28 : Str.ofString "StringIO.read of a size that is no exact int" = T [83, 116, 114, 105, 110, 103, 73, 79, 46, 114, 101, 97, 100, 32, 111, 102, 32, 97, 32, 115, 105, 122, 101, 32, 116, 104, 97, 116, 32, 105, 115, 32, 110, 111, 32, 101, 120, 97, 99, 116, 32, 105, 110, 116] := by decide +kernel
theorem lit29 : Str.ofString " " = T [32] := by decide +kernel
theorem lit30 : Str.ofString "#" = T [35] := by decide +kernel
theorem lit32 : Str.ofString " \t\r\n" = T [32, 9, 13, 10] := by decide +kernel
theorem lit33 : Str.ofString "'\"" = T [39, 34] := by decide +kernel
theorem lit35 : Str.ofString "~-./*?=" = T [126, 45, 46, 47, 42, 63, 61] := by decide +kernel
theorem lit36 : Str.ofString "();<>|&" = T [40, 41, 59, 60, 62, 124, 38] := by decide +kernel
theorem lit37 : Str.ofString "shlex: token=EOF" = T [115, 104, 108, 101, 120, 58, 32, 116, 111, 107, 101, 110, 61, 69, 79, 70] := by decide +kernel
theorem lit38 : Str.ofString "shlex: popping token " = T [115, 104, 108, 101, 120, 58, 32, 112, 111, 112, 112, 105, 110, 103, 32, 116, 111, 107, 101, 110, 32] := by decide +kernel
theorem lit39 : Str.ofString "shlex: token=" = T [115, 104, 108, 101, 120, 58, 32, 116, 111, 107, 101, 110, 61] := by decide +kernel
theorem lit40 : Str.ofString "shlex: raw token=EOF" = T [115, 104, 108, 101, 120, 58, 32, 114, 97, 119, 32, 116, 111, 107, 101, 110, 61, 69, 79, 70] := by decide +kernel
theorem lit41 : Str.ofString "shlex: in state %r I see character: %r" = T [115, 104, 108, 101, 120, 58, 32, 105, 110, 32, 115, 116, 97, 116, 101, 32, 37, 114, 32, 73, 32, 115, 101, 101, 32, 99, 104, 97, 114, 97, 99, 116, 101, 114, 58, 32, 37, 114] := by decide +kernel
theorem lit42 : Str.ofString "shlex: raw token=" = T [115, 104, 108, 101, 120, 58, 32, 114, 97, 119, 32, 116, 111, 107, 101, 110, 61] := by decide +kernel
theorem lit43 : Str.ofString "No closing quotation" = T [78, 111, 32, 99, 108, 111, 115, 105, 110, 103, 32, 113, 117, 111, 116, 97, 116, 105, 111, 110] := by decide +kernel
theorem lit44 : Str.ofString "a" = T [97] := by decide +kernel
theorem lit45 : Str.ofString "shlex: I see whitespace in whitespace state" = T [115, 104, 108, 101, 120, 58, 32, 73, 32, 115, 101, 101, 32, 119, 104, 105, 116, 101, 115, 112, 97, 99, 101, 32, 105, 110, 32, 119, 104, 105, 116, 101, 115, 112, 97, 99, 101, 32, 115, 116, 97, 116, 101] := by decide +kernel
theorem lit46 : Str.ofString "shlex: I see EOF in quotes state" = T [115, 104, 108, 101, 120, 58, 32, 73, 32, 115, 101, 101, 32, 69, 79, 70, 32, 105, 110, 32, 113, 117, 111, 116, 101, 115, 32, 115, 116, 97, 116, 101] := by decide +kernel
theorem lit47 : Str.ofString "No escaped character" = T [78, 111, 32, 101, 115, 99, 97, 112, 101, 100, 32, 99, 104, 97, 114, 97, 99, 116, 101, 114] := by decide +kernel
theorem lit48 : Str.ofString "c" = T [99] := by decide +kernel
theorem lit49 : Str.ofString "shlex: I see EOF in escape state" = T [115, 104, 108, 101, 120, 58, 32, 73, 32, 115, 101, 101, 32, 69, 79, 70, 32, 105, 110, 32, 101, 115, 99, 97, 112, 101, 32, 115, 116, 97, 116, 101] := by decide +kernel
theorem lit50 : Str.ofString "shlex: I see whitespace in word state" = T [115, 104, 108, 101, 120, 58, 32, 73, 32, 115, 101, 101, 32, 119, 104, 105, 116, 101, 115, 112, 97, 99, 101, 32, 105, 110, 32, 119, 111, 114, 100, 32, 115, 116, 97, 116, 101] := by decide +kernel
theorem lit51 : Str.ofString "shlex: I see punctuation in word state" = T [115, 104, 108, 101, 120, 58, 32, 73, 32, 115, 101, 101, 32, 112, 117, 110, 99, 116, 117, 97, 116, 105, 111, 110, 32, 105, 110, 32, 119, 111, 114, 100, 32, 115, 116, 97, 116, 101] := by decide +kernel
theorem lit52 : Str.ofString "s argument must not be None" = T [115, 32, 97, 114, 103, 117, 109, 101, 110, 116, 32, 109, 117, 115, 116, 32, 110, 111, 116, 32, 98, 101, 32, 78, 111, 110, 101] := by decide +kernel
theorem lit53 : Str.ofString "*?[" = T [42, 63, 91] := by decide +kernel
theorem lit54 : Str.ofString "front" = T [102, 114, 111, 110, 116] := by decide +kernel
theorem lit55 : Str.ofString "group" = T [103, 114, 111, 117, 112] := by decide +kernel
theorem lit56 : Str.ofString "end" = T [101, 110, 100] := by decide +kernel
theorem lit57 : Str.ofString "behind" = T [98, 101, 104, 105, 110, 100] := by decide +kernel
theorem lit58 : Str.ofString "\"\"\\\\*[?" = T [34, 34, 92, 92, 42, 91, 63] := by decide +kernel
theorem lit59 : Str.ofString "257 \"" = T [50, 53, 55, 32, 34] := by decide +kernel
theorem lit60 : Str.ofString "\\\"" = T [92, 34] := by decide +kernel
theorem lit61 : Str.ofString "\"\"" = T [34, 34] := by decide +kernel

end
section
/-! ## several steps at once -/
inductive PutF (x : Str) : Vals → (Value → Vals) → Prop
  | head {u r} : PutF x ((x, u) :: r) (fun v => (x, some v) :: r)
  | tail {p r f} : PutF x r f → PutF x (p :: r) (fun v => p :: f v)
theorem PutF.put {x : Str} {l : Vals} {f : Value → Vals} (h : PutF x l f) (v : Value) : Put x v l (f v) := by
  induction h with
  | head => exact .head
  | tail _ ih => exact .tail ih
section
variable {B : Shared} {g : Heap} {env : Env} {vals : Vals} {s : Shared} {news : News'} {A : Around} {E : Value → Shared → Prop} {prog : Program} {w : World} {f : Value → Vals}
theorem c_eq {x lit : Str} {l m : List Nat} {t : Tok} {i : Nat} {p q r : Pos} {whole : Sem Value} {Q : Bool → Shared → Prop} (D : St B g env vals s news) (hx : At vals x (.str (T l) t)) (hl : lit = T m)
    (k : ∀ s', St B g env vals s' news → Q (decide (l = m)) s') : wpAny (model prog w) A (PySem.isTrue (.Compare (.Name x p) [.Eq] [.Constant (.str lit) i q] r) env whole) Q E s :=
  wpAny_isTrue_Compare1 (r_ld D hx (q_str D hl fun _ s' D' => q_eq (wpAny_truthy_bool (k s' D')))) rfl
theorem c_ne {x lit : Str} {l m : List Nat} {t : Tok} {i : Nat} {p q r : Pos} {whole : Sem Value} {Q : Bool → Shared → Prop} (D : St B g env vals s news) (hx : At vals x (.str (T l) t)) (hl : lit = T m)
    (k : ∀ s', St B g env vals s' news → Q (!decide (l = m)) s') : wpAny (model prog w) A (PySem.isTrue (.Compare (.Name x p) [.NotEq] [.Constant (.str lit) i q] r) env whole) Q E s :=
  wpAny_isTrue_Compare1 (r_ld D hx (q_str D hl fun _ s' D' => q_ne (wpAny_truthy_bool (k s' D')))) rfl
theorem c_in {x lit : Str} {c : Nat} {m : List Nat} {t : Tok} {i : Nat} {p q r : Pos} {whole : Sem Value} {Q : Bool → Shared → Prop} (D : St B g env vals s news) (hx : At vals x (.str (T [c]) t)) (hl : lit = T m)
    (k : ∀ s', St B g env vals s' news → Q (decide (c ∈ m)) s') : wpAny (model prog w) A (PySem.isTrue (.Compare (.Name x p) [.In] [.Constant (.str lit) i q] r) env whole) Q E s :=
  wpAny_isTrue_Compare1 (r_ld D hx (q_str D hl fun _ s' D' => q_in (wpAny_truthy_bool (k s' D')))) rfl
theorem a_str {x lit : Str} {m : List Nat} {i : Nat} {p q r : Pos} {Q : Flow → Shared → Prop} (D : St B g env vals s news) (hp : PutF x vals f) (hl : lit = T m)
    (k : ∀ t s', St B g env (f (.str (T m) t)) s' news → Q .next s') : wpAny (model prog w) A (exec (.Assign [.Name x p] (.Constant (.str lit) i q) r) env) Q E s :=
  r_assign (q_str D hl fun t _ D' => r_st D' (hp.put _) fun s'' D'' => k t s'' D'') rfl
theorem a_int {x : Str} {n : Int} {i : Nat} {p q r : Pos} {Q : Flow → Shared → Prop} (D : St B g env vals s news) (hp : PutF x vals f)
    (k : ∀ t s', St B g env (f (.int n t)) s' news → Q .next s') : wpAny (model prog w) A (exec (.Assign [.Name x p] (.Constant (.int n) i q) r) env) Q E s :=
  r_assign (r_int D fun t _ D' => r_st D' (hp.put _) fun s'' D'' => k t s'' D'') rfl
theorem a_name {x y : Str} {v : Value} {p q r : Pos} {Q : Flow → Shared → Prop} (D : St B g env vals s news) (hy : At vals y v) (hp : PutF x vals f)
    (k : ∀ s', St B g env (f v) s' news → Q .next s') : wpAny (model prog w) A (exec (.Assign [.Name x p] (.Name y q) r) env) Q E s :=
  r_assign (r_ld D hy (r_st D (hp.put _) fun s'' D'' => k s'' D'')) rfl
theorem g_int {x : Str} {a n : Int} {t : Tok} {i : Nat} {p q r : Pos} {Q : Flow → Shared → Prop} (D : St B g env vals s news) (hx : At vals x (.int a t)) (hp : PutF x vals f)
    (k : ∀ t s', St B g env (f (.int (a + n) t)) s' news → Q .next s') : wpAny (model prog w) A (exec (.AugAssign (.Name x p) .Add (.Constant (.int n) i q) r) env) Q E s :=
  wpAny_AugAssign_Name (r_ldn D hx (r_int D fun _ _ D' => r_iadd_int D' fun t _ D2 => r_st D2 (hp.put _) fun s'' D'' => k t s'' D''))
theorem g_name {x y : Str} {a n : Int} {t u : Tok} {p q r : Pos} {Q : Flow → Shared → Prop} (D : St B g env vals s news) (hx : At vals x (.int a t)) (hy : At vals y (.int n u)) (hp : PutF x vals f)
    (k : ∀ t s', St B g env (f (.int (a + n) t)) s' news → Q .next s') : wpAny (model prog w) A (exec (.AugAssign (.Name x p) .Add (.Name y q) r) env) Q E s :=
  wpAny_AugAssign_Name (r_ldn D hx (r_ld D hy (r_iadd_int D fun t _ D2 => r_st D2 (hp.put _) fun s'' D'' => k t s'' D'')))
end
/-! ## a statement's post as a variable -/
structure Nx (Q1 : Flow → Shared → Prop) (P : Shared → Prop) : Prop where
  go : ∀ s, P s → Q1 .next s
structure Rt (Q1 Q : Flow → Shared → Prop) : Prop where
  go : ∀ v s, Q (.ret v) s → Q1 (.ret v) s
  brk : ∀ s, Q .brk s → Q1 .brk s
  cont : ∀ s, Q .cont s → Q1 .cont s
section
variable {M : Model} {A : Around} {env : Env} {E : Value → Shared → Prop} {s : Shared}
theorem x_cons {st : Stmt} {rest : List Stmt} {Q : Flow → Shared → Prop} (h : ∀ Q1 : Flow → Shared → Prop, Nx Q1 (fun s' => wpAny M A (execs rest env) Q E s') → Rt Q1 Q → wpAny M A (exec st env) Q1 E s) : wpAny M A (execs (st :: rest) env) Q E s :=
  wpAny_execs_cons (h _ ⟨fun _ h => h⟩ ⟨fun _ _ h => h, fun _ h => h, fun _ h => h⟩)
theorem x_last {st : Stmt} {Q : Flow → Shared → Prop} (h : wpAny M A (exec st env) Q E s) : wpAny M A (execs [st] env) Q E s :=
  wpAny_execs_cons (wpAny_mono h (fun f s' q => by cases f <;> first | exact wpAny_execs_nil q | exact q) fun _ _ e => e)
theorem go_next {Q1 : Flow → Shared → Prop} {P : Shared → Prop} (h : Nx Q1 P) (k : P s) : Q1 .next s := h.go s k
theorem go_ret {Q1 Q : Flow → Shared → Prop} {v : Value} (h : Rt Q1 Q) (k : Q (.ret v) s) : Q1 (.ret v) s := h.go v s k
theorem go_brk {Q1 Q : Flow → Shared → Prop} (h : Rt Q1 Q) (k : Q .brk s) : Q1 .brk s := h.brk s k
theorem go_cont {Q1 Q : Flow → Shared → Prop} (h : Rt Q1 Q) (k : Q .cont s) : Q1 .cont s := h.cont s k
end

end
section
/-! ## the ledger: one object turned, one made -/
theorem UpdP.ord {a : Addr} {o o' : Obj} {l l' : News'} (h : UpdP a o o' l l') (x : (l.map (·.1)).Pairwise (· > ·)) : (l'.map (·.1)).Pairwise (· > ·) := h.keys.1 ▸ x
inductive Turn (a : Addr) (o o' : Obj) : News' → News' → News' → Prop
  | head {r} : Turn a o o' ((a, o) :: r) ((a, o') :: r) r
  | tail {p r r' r''} : Turn a o o' r r' r'' → Turn a o o' (p :: r) (p :: r') (p :: r'')
theorem Turn.upd {a : Addr} {o o' : Obj} {l l' l'' : News'} (h : Turn a o o' l l' l'') : UpdP a o o' l l' := by
  induction h with
  | head => exact .head
  | tail _ ih => exact .tail ih
theorem Turn.sub {a : Addr} {o o' : Obj} {l l' l'' : News'} (h : Turn a o o' l l' l'') : l''.Sublist l := by
  induction h with
  | head => exact List.sublist_cons_self _ _
  | tail _ ih => exact ih.cons_cons _
theorem Turn.ne {a : Addr} {o o' : Obj} {l l' l'' : News'} (h : Turn a o o' l l' l'') (nd : (l.map (·.1)).Pairwise (· > ·)) : ∀ p ∈ l'', p.1 ≠ a := by
  induction h with
  | head =>
    intro p hp
    rw [List.map_cons, List.pairwise_cons] at nd
    exact Nat.ne_of_lt (nd.1 _ (List.mem_map_of_mem (f := (·.1)) hp))
  | tail h ih =>
    intro p hp
    rw [List.map_cons, List.pairwise_cons] at nd
    rcases List.mem_cons.mp hp with rfl | hp
    · exact Nat.ne_of_gt (nd.1 _ (List.mem_map_of_mem (f := (·.1)) h.upd.keys.2))
    · exact ih nd.2 p hp

noncomputable def tupObj (vs : List Value) : Obj := { cls := .type "tuple", data := .seq vs.toArray }
noncomputable abbrev Lo (vs : List Value) (n : Nat) : Obj := listOf vs.toArray n
noncomputable abbrev Li (l : Addr) (i : Nat) : Obj := { cls := .type "list_iterator", data := .fields #[.ref l, .int i 0] }

section
variable {B : Shared} {g : Heap} {env : Env} {vals vals' : Vals} {s : Shared} {news news' : News'} {M : Model} {A : Around} {E : Value → Shared → Prop} {K : Frag} {prog : Program} {w : World}
  {l : Addr} {vs : List Value} {n : Nat}

theorem St.upd (D : St B g env vals s news) {a : Addr} {o o' : Obj} {h' : Heap} {tk : Tok} (U : UpdP a o o' news news') (hs : Heap.SameBut a s.heap h') (ho : h'.get? a = some o') (ht : s.toks ≤ tk) :
    St B g env vals ⟨h', s.gens, s.drawn, tk, s.os⟩ news' := by
  obtain ⟨m, L, e⟩ := D.led
  have z := L.nw _ U.keys.2
  refine D.to ⟨m, ⟨L.fr.change hs z.2.1 z.2.2, fun p hp => ?_, U.ord L.ord⟩, e⟩ rfl ⟨ht, Nat.le_of_eq hs.1.symm⟩
  rcases U.old L.ord p hp with rfl | ⟨hp, hne⟩
  · exact ⟨ho, z.2⟩
  · exact ⟨(hs.2 _ hne).trans (L.nw p hp).1, (L.nw p hp).2⟩
theorem St.made (D : St B g env vals s news) (o : Obj) (hf : o.isFreed = false := by rfl) : St B g env vals ⟨s.heap.push o, s.gens, s.drawn, s.toks, s.os⟩ ((s.heap.objs.size, o) :: news) := by
  obtain ⟨m, L, e⟩ := D.led
  refine D.to ⟨m, ⟨L.fr.push o, L.nw.push L.fr o hf, ?_⟩, e⟩ rfl ⟨Nat.le_refl _, by rw [Heap.size_push]; exact Nat.le_succ _⟩
  rw [List.map_cons, List.pairwise_cons]
  refine ⟨fun a ha => ?_, L.ord⟩
  obtain ⟨p, hp, rfl⟩ := List.mem_map.mp ha
  exact Heap.lt_size (L.nw p hp).1
theorem St.without (D : St B g env vals s news) {a : Addr} {o o' : Obj} {h' : Heap} {news₁ : News'} (U : Turn a o o' news news₁ news') (hs : Heap.ExtBut a s.heap h') (hz : s.heap.objs.size ≤ h'.objs.size) :
    St B g env vals ⟨h', s.gens, s.drawn, s.toks, s.os⟩ news' := by
  obtain ⟨m, L, e⟩ := D.led
  have z := L.nw _ U.upd.keys.2
  refine D.to ⟨m, ⟨⟨L.fr.ns.at' fun o e => hs _ _ z.2.1.symm e, fun b o e => hs b o (fun q => by rw [q, z.2.2] at e; cases e) (L.fr.keep b o e), L.fr.above⟩, fun p hp => ?_, L.ord.sublist (U.sub.map _)⟩, e⟩ rfl ⟨Nat.le_refl _, hz⟩
  have y := L.nw p (U.sub.subset hp)
  exact ⟨hs _ _ (U.ne L.ord p hp) y.1, y.2⟩
theorem St.lst (_D : St B g env vals s news) (hm : s.heap.get? l = some (Lo vs n)) : s.heap.IsList l vs.toArray := ⟨_, hm, rfl, n, rfl⟩

/-! ## lists -/
theorem r_newlist {Q : Value → Shared → Prop} (D : St B g env vals s news) (hsz : vs.length ≤ 16777216) (k : ∀ l s', B.heap.objs.size ≤ l → St B g env vals s' ((l, Lo vs 0) :: news) → Q (.ref l) s') : wpAny M A (newList vs) Q E s :=
  wpAny_newObj_type (k _ _ D.up.2 (D.made _)) (by show vs.toArray.size ≤ sizeLine; rw [List.size_toArray, sizeLine_eq]; exact hsz)
theorem r_newtuple {Q : Value → Shared → Prop} (D : St B g env vals s news) (hsz : vs.length ≤ 16777216) (k : ∀ l s', B.heap.objs.size ≤ l → St B g env vals s' ((l, tupObj vs) :: news) → Q (.ref l) s') : wpAny M A (newTuple vs) Q E s :=
  wpAny_newObj_type (k _ _ D.up.2 (D.made _)) (by show vs.toArray.size ≤ sizeLine; rw [List.size_toArray, sizeLine_eq]; exact hsz)
theorem r_append {x : Value} {Q : Value → Shared → Prop} (D : St B g env vals s news) (U : UpdP l (Lo vs n) (Lo (vs ++ [x]) (n + 1)) news news') (hsz : vs.length ≤ 16777216) (k : ∀ s', St B g env vals s' news' → Q .none s') :
    wpAny (model prog w) A (call (.builtin "list.append") [.ref l, x]) Q E s :=
  append_at (hsz := by rw [List.size_toArray, sizeLine_eq]; exact hsz) (D.get U.keys.2) fun h' hs ho' => k _ (D.upd U hs (by rw [ho', List.push_toArray]) (Nat.le_refl _))
theorem r_m_append {pl : Sem Bool} {Q : Value × List Value → Shared → Prop} (D : St B g env vals s news) (hm : s.heap.get? l = some (Lo vs n)) (k : Q (.builtin "list.append", [.ref l]) s) :
    wpAny (model prog w) A (getMethod (.ref l) (Str.ofString "append") pl) Q E s := Calls.getMethod_list_append hm rfl rfl k
theorem r_len_list {Q : Value → Shared → Prop} (D : St B g env vals s news) (hm : s.heap.get? l = some (Lo vs n)) (hsz : vs.length ≤ 16777216) (k : ∀ t s', St B g env vals s' news → Q (.int vs.length t) s') :
    wpAny (model prog w) A (call (.builtin "len") [.ref l]) Q E s :=
  Calls.call_len_list (D.lst hm) (by rw [List.size_toArray]; omega) (by rw [List.size_toArray]; exact k _ _ (D.tk1 (n := 2)))
theorem r_truthy_list {Q : Bool → Shared → Prop} (D : St B g env vals s news) (hm : s.heap.get? l = some (Lo vs n)) (hsz : vs.length ≤ 16777216) (k : ∀ s', St B g env vals s' news → Q (!decide (vs = [])) s') :
    wpAny (model prog w) A (truthy (.ref l)) Q E s :=
  wpAny_truthy_list (D.lst hm) (by rw [List.size_toArray]; omega) (by
    have e : (!vs.toArray.isEmpty) = !decide (vs = []) := by cases vs <;> simp
    rw [e]; exact k _ (D.tk1 (n := 2)))
theorem r_item_list {e sl : Expr} {i : Int} {u : Tok} {x : Value} {Q : Value → Shared → Prop} (D : St B g env vals s news) (hm : s.heap.get? l = some (Lo vs n)) (h0 : 0 ≤ i) (hx : vs[i.toNat]? = some x) (hsz : vs.length ≤ 16777216) (k : Q x s)
    (hs : subscripted sl false (.ref l) (.int i u) = operate [.ref l, .int i u] (getItem (.ref l) (.int i u)) := by with_unfolding_all rfl) (ht : ∀ r, letTemporaryGo e (.ref l) r = pure () := by intro _; with_unfolding_all rfl) :
    wpAny (model prog w) A (subscriptTail e sl (.ref l) (.int i u)) Q E s :=
  item_listL (D.lst hm) h0 (by have := (List.getElem?_eq_some_iff.mp hx).1; omega) hx k hs ht
/-- l[-1] -/
theorem r_item_last {e sl : Expr} {u : Tok} {x : Value} {Q : Value → Shared → Prop} (D : St B g env vals s news) (hm : s.heap.get? l = some (Lo (vs ++ [x]) n)) (hsz : vs.length ≤ 16777216) (k : Q x s)
    (hs : subscripted sl false (.ref l) (.int (-1) u) = operate [.ref l, .int (-1) u] (getItem (.ref l) (.int (-1) u)) := by with_unfolding_all rfl) (ht : ∀ r, letTemporaryGo e (.ref l) r = pure () := by intro _; with_unfolding_all rfl) :
    wpAny (model prog w) A (subscriptTail e sl (.ref l) (.int (-1) u)) Q E s := by
  have hl := D.lst hm
  have hz : (vs ++ [x]).toArray.size = vs.length + 1 := by rw [List.size_toArray, List.length_append]; rfl
  refine subscriptTail_builtin hl.typeIs slot_list_getitem.lookup (wpAny_getItem_list_neg hl (by decide) (by rw [hz]; exact neg1_le _) (by decide) ?_ k) hs ht
  rw [hz]
  have : ((-1 : Int) + ((vs.length + 1 : Nat) : Int)).toNat = vs.length := neg1_toNat _
  rw [this]; simp
theorem r_getlast {u : Tok} {x : Value} {Q : Value → Shared → Prop} (D : St B g env vals s news) (hm : s.heap.get? l = some (Lo (vs ++ [x]) n)) (hsz : vs.length ≤ 16777216) (k : Q x s) :
    wpAny (model prog w) A (getItem (.ref l) (.int (-1) u)) Q E s := by
  have hl := D.lst hm
  have hz : (vs ++ [x]).toArray.size = vs.length + 1 := by rw [List.size_toArray, List.length_append]; rfl
  refine wpAny_getItem_list_neg hl (by decide) (by rw [hz]; exact neg1_le _) (by decide) ?_ k
  rw [hz]
  have : ((-1 : Int) + ((vs.length + 1 : Nat) : Int)).toNat = vs.length := neg1_toNat _
  rw [this]; simp
theorem r_setlast {u : Tok} {x y : Value} {Q : Unit → Shared → Prop} (D : St B g env vals s news) (U : UpdP l (Lo (vs ++ [x]) n) (Lo (vs ++ [y]) n) news news') (k : ∀ s', St B g env vals s' news' → Q () s') :
    wpAny (model prog w) A (setItem (.ref l) (.int (-1) u) y) Q E s := by
  have hz : (vs ++ [x]).toArray.size = vs.length + 1 := by rw [List.size_toArray, List.length_append]; rfl
  refine ki_setBack (D.get U.keys.2) (by decide) (by rw [hz]; exact neg1_le _) (by decide) (k _ (D.upd U (Heap.SameBut.update ..) ?_ (Nat.le_refl _)))
  rw [PySem.IsL.update (D.get U.keys.2)]
  have e : ((-1 : Int) + ((vs ++ [x]).toArray.size : Int)).toNat = vs.length := by rw [hz]; exact neg1_toNat _
  rw [e]
  simp
end

/-! ## loops over a list -/
section
variable {B : Shared} {g : Heap} {env : Env} {vals vals' : Vals} {s : Shared} {news news' : News'} {M : Model} {A : Around} {E : Value → Shared → Prop} {K : Frag} {prog : Program} {w : World}
  {l : Addr} {vs : List Value} {n : Nat}

/-- one turn of a for: the iterator stands at i -/
inductive ForTurn (prog : Program) (w : World) (A : Around) (env : Env) (target : Expr) (body : List Stmt) (Q : Flow → Shared → Prop) (l : Addr) (vs : List Value) (J : Addr → Obj → Nat → Shared → Prop) (I : Addr) (o : Obj) (i : Nat) (s : Shared) : Prop
  | mk (B : Shared) (g : Heap) (vals : Vals) (n : Nat) (news news₂ : News') (D : St B g env vals s news) (hm : s.heap.get? l = some (Lo vs n))
    (step : ∀ o', ∃ news₁, Turn I o o' news news₁ news₂ ∧ ∀ v s', vs[i]? = some v → St B g env vals s' news₁ → ∀ Q' : Flow → Shared → Prop, (∀ f s₃, (match f with
          | .next | .cont => J I o' (i + 1) s₃
          | .brk => Q .next s₃
          | .ret v => Q (.ret v) s₃) → Q' f s₃) → wpAny (model prog w) A (assign target env v) (fun _ s₂ => wpAny (model prog w) A (execs body env) Q' (fun _ _ => False) s₂) (fun _ _ => False) s')
    (fin : vs.length ≤ i → ∀ s', St B g env vals s' news₂ → Q .next s') : ForTurn prog w A env target body Q l vs J I o i s
inductive ForIn (prog : Program) (w : World) (A : Around) (env : Env) (target : Expr) (body : List Stmt) (Q : Flow → Shared → Prop) (xv : Value) (s₁ : Shared) : Prop
  | mk (B : Shared) (g : Heap) (vals : Vals) (news : News') (l : Addr) (vs : List Value) (n : Nat) (J : Addr → Obj → Nat → Shared → Prop) (hx : xv = .ref l) (D : St B g env vals s₁ news) (hm : s₁.heap.get? l = some (Lo vs n))
    (h0 : ∀ I o s', St B g env vals s' ((I, o) :: news) → J I o 0 s') (turn : ∀ I o i s', i ≤ vs.length → J I o i s' → ForTurn prog w A env target body Q l vs J I o i s') : ForIn prog w A env target body Q xv s₁

theorem r_for {target iter : Expr} {body : List Stmt} {pos : Pos} {Q : Flow → Shared → Prop} (hA : A.handled = none)
    (h : wpAny (model prog w) A (eval iter env) (fun xv s₁ => ForIn prog w A env target body Q xv s₁) (fun _ _ => False) s)
    (hs : ∀ x, foldedSetIterable iter env x = pure x := by intro _; rfl) (ht : ∀ I v, letOwnedTupleGo target (.ref I) v = pure () := by intro _ _; rfl) :
    wpAny (model prog w) A (exec (.For target iter body [] pos) env) Q E s := by
  refine wpAny_For (wpAny_mono h (fun xv s₁ h₁ => ?_) fun _ _ x => x.elim) hs
  obtain ⟨B, g, vals, news, l, vs, n, J, rfl, D, hm, h0, turn⟩ := h₁
  refine wpAny_pyIter_list (D.lst hm) ?_
  refine codeAny_forLoop (fun k s' => ∃ i o, k = vs.length - i ∧ i ≤ vs.length ∧ o.cls = .type "list_iterator" ∧ o.data = .fields #[.ref l, .int i 0] ∧ J s₁.heap.objs.size o i s') ?_ _ ⟨0, Li l 0, rfl, Nat.zero_le _, rfl, rfl, h0 _ _ _ (D.made _)⟩ (ht _)
  rintro k s' ⟨i, o, rfl, hi, hc, hd, hJ⟩
  obtain ⟨B, g, vals, n, news, news₂, D, hm, step, fin⟩ := turn _ o i s' hi hJ
  have hit : s'.heap.IsListIter s₁.heap.objs.size l i := ⟨_, D.get (step o).choose_spec.1.upd.keys.2, hc, hd⟩
  have noE : ∀ e s'', False → notedBy (model prog w) A env (fun e s' => cameBackBy (model prog w) A env E e s') e s'' := fun _ _ x => x.elim
  by_cases hlt : i < vs.length
  · have hx : vs[i]? = some vs[i] := List.getElem?_eq_getElem hlt
    refine wpAny_pyNext_list_item hit (D.lst hm) (x := vs[i]) (by simp [hlt]) fun h' hit' hs' => ?_
    obtain ⟨o', ho', hc', hd'⟩ := hit'
    obtain ⟨news₁, U, step⟩ := step o'
    refine wpAny_mono (step _ _ hx (D.upd U.upd hs' ho' (Nat.le_refl _)) _ fun _ _ x => x) (fun _ s₂ h₂ => wpAny_mono h₂ (fun f s₃ h₃ => ?_) (noE)) (noE)
    cases f with
    | next => exact ⟨vs.length - (i + 1), fwd 0 hlt, i + 1, o', rfl, hlt, hc', hd', h₃⟩
    | cont => exact ⟨vs.length - (i + 1), fwd 0 hlt, i + 1, o', rfl, hlt, hc', hd', h₃⟩
    | brk => exact h₃
    | ret v => exact h₃
  · obtain ⟨news₁, U, _⟩ := step o
    refine up ?_
    refine wpAny_pyNext_list_end hA hit (D.lst hm) (by simp; omega) fun h' hx' u => ?_
    exact wpAny_execs_nil (fin (by omega) _ (D.without U hx' u.2))
end

/-! ## slices -/
theorem sliceIdx_neg_lo (u : Option Int) (len k : Nat) (h0 : 0 < k) (h : k ≤ len) : Builtin.Str.strSliceIndices (some (-(k : Int))) u 1 len = Builtin.Str.strSliceIndices (some ((len - k : Nat) : Int)) u 1 len := by
  have a : (-(k : Int)) < 0 := Int.neg_neg_of_pos (Int.ofNat_lt.mpr h0)
  have b : ¬ ((len - k : Nat) : Int) < 0 := Int.not_lt.mpr (Int.natCast_nonneg _)
  have c : max 0 (min (-(k : Int) + len) len) = max 0 (min ((len - k : Nat) : Int) len) := by rw [Int.ofNat_sub h, Int.sub_eq_add_neg, Int.add_comm]
  simp only [Builtin.Str.strSliceIndices, if_pos a, if_neg b]
  simp only [show (1 : Int) > 0 by decide, if_true, c]
theorem sliceIdx_neg_hi (l : Option Int) (len k : Nat) (h0 : 0 < k) (h : k ≤ len) : Builtin.Str.strSliceIndices l (some (-(k : Int))) 1 len = Builtin.Str.strSliceIndices l (some ((len - k : Nat) : Int)) 1 len := by
  have a : (-(k : Int)) < 0 := Int.neg_neg_of_pos (Int.ofNat_lt.mpr h0)
  have b : ¬ ((len - k : Nat) : Int) < 0 := Int.not_lt.mpr (Int.natCast_nonneg _)
  have c : max 0 (min (-(k : Int) + len) len) = max 0 (min ((len - k : Nat) : Int) len) := by rw [Int.ofNat_sub h, Int.sub_eq_add_neg, Int.add_comm]
  simp only [Builtin.Str.strSliceIndices, if_pos a, if_neg b]
  simp only [show (1 : Int) > 0 by decide, if_true, c]
/-- text[-k:] -/
theorem T_slice_last {l : List Nat} {k : Nat} (h0 : 0 < k) (h : k ≤ l.length) : Txt.slice (T l) (some (-(k : Int))) none = T (l.drop (l.length - k)) := by
  have e : Txt.slice (T l) (some (-(k : Int))) none = Txt.slice (T l) (some ((l.length - k : Nat) : Int)) none := by
    rw [Txt_slice_eq, Txt_slice_eq]; unfold StrLaws.sliceText; rw [sliceIdx_neg_lo _ (T l).length k h0 (by rw [T_len]; exact h), T_len]
  rw [e, T_slice_from (by omega)]
  congr 1
/-- text[i:-k] -/
theorem T_slice_but {l : List Nat} {i k : Nat} (h0 : 0 < k) (h : i + k ≤ l.length) : Txt.slice (T l) (some (i : Int)) (some (-(k : Int))) = T ((l.drop i).take (l.length - k - i)) := by
  have e : Txt.slice (T l) (some (i : Int)) (some (-(k : Int))) = Txt.slice (T l) (some (i : Int)) (some ((l.length - k : Nat) : Int)) := by
    rw [Txt_slice_eq, Txt_slice_eq]; unfold StrLaws.sliceText; rw [sliceIdx_neg_hi _ (T l).length k h0 (by rw [T_len]; omega), T_len]
  rw [e, T_slice' (by omega) (by omega)]
  congr 1
  have e : (((l.length - k : Nat) : Int) - (i : Int)).toNat = l.length - k - i := Int.toNat_sub _ _
  rw [e]; rfl
/-- text[:-k] -/
theorem T_slice_butlast {l : List Nat} {k : Nat} (h0 : 0 < k) (h : k ≤ l.length) : Txt.slice (T l) none (some (-(k : Int))) = T (l.take (l.length - k)) := by
  have e : Txt.slice (T l) none (some (-(k : Int))) = Txt.slice (T l) none (some ((l.length - k : Nat) : Int)) := by
    rw [Txt_slice_eq, Txt_slice_eq]; unfold StrLaws.sliceText; rw [sliceIdx_neg_hi _ (T l).length k h0 (by rw [T_len]; exact h), T_len]
  rw [e, T_slice_to_over (by omega)]
  congr 1

section
variable {B : Shared} {g : Heap} {env : Env} {vals vals' : Vals} {s : Shared} {news news' : News'} {M : Model} {A : Around} {E : Value → Shared → Prop} {K : Frag} {prog : Program} {w : World}
theorem q_slice_last {e sl : Expr} {l : List Nat} {t : Tok} {k : Nat} {ui : Tok} {Q : Value → Shared → Prop} (D : St B g env vals s news) (h0 : 0 < k) (h : k ≤ l.length) (hsz : l.length ≤ 16777216) (q : ∀ t s', St B g env vals s' news → Q (.str (T (l.drop (l.length - k))) t) s')
    (hs : subscripted sl false (.str (T l) t) (.ref s.heap.objs.size) = operate [.ref s.heap.objs.size, .str (T l) t] (getItem (.str (T l) t) (.ref s.heap.objs.size)) := by with_unfolding_all rfl)
    (ht : ∀ r, letTemporaryGo e (.str (T l) t) r = pure () := by intro _; with_unfolding_all rfl) :
    wpAny (model prog w) A (subscriptTail e sl (.str (T l) t) (.ref s.heap.objs.size)) Q E (pushSlice s (.int (-(k : Int)) ui) .none .none) :=
  r_slice_sn D (by rw [T_len, sizeLine_eq]; exact hsz) (fun t s' D' => by rw [T_slice_last h0 h]; exact q t s' D') hs ht
theorem q_slice_but {e sl : Expr} {l : List Nat} {t : Tok} {i k : Nat} {ui uj : Tok} {Q : Value → Shared → Prop} (D : St B g env vals s news) (h0 : 0 < k) (h : i + k ≤ l.length) (hsz : l.length ≤ 16777216) (q : ∀ t s', St B g env vals s' news → Q (.str (T ((l.drop i).take (l.length - k - i))) t) s')
    (hs : subscripted sl false (.str (T l) t) (.ref s.heap.objs.size) = operate [.ref s.heap.objs.size, .str (T l) t] (getItem (.str (T l) t) (.ref s.heap.objs.size)) := by with_unfolding_all rfl)
    (ht : ∀ r, letTemporaryGo e (.str (T l) t) r = pure () := by intro _; with_unfolding_all rfl) :
    wpAny (model prog w) A (subscriptTail e sl (.str (T l) t) (.ref s.heap.objs.size)) Q E (pushSlice s (.int (i : Int) ui) (.int (-(k : Int)) uj) .none) :=
  r_slice_ss D (by rw [T_len, sizeLine_eq]; exact hsz) (fun t s' D' => by rw [T_slice_but h0 h]; exact q t s' D') hs ht
theorem q_slice_butlast {e sl : Expr} {l : List Nat} {t : Tok} {k : Nat} {uj : Tok} {Q : Value → Shared → Prop} (D : St B g env vals s news) (h0 : 0 < k) (h : k ≤ l.length) (hsz : l.length ≤ 16777216) (q : ∀ t s', St B g env vals s' news → Q (.str (T (l.take (l.length - k))) t) s')
    (hs : subscripted sl false (.str (T l) t) (.ref s.heap.objs.size) = operate [.ref s.heap.objs.size, .str (T l) t] (getItem (.str (T l) t) (.ref s.heap.objs.size)) := by with_unfolding_all rfl)
    (ht : ∀ r, letTemporaryGo e (.str (T l) t) r = pure () := by intro _; with_unfolding_all rfl) :
    wpAny (model prog w) A (subscriptTail e sl (.str (T l) t) (.ref s.heap.objs.size)) Q E (pushSlice s .none (.int (-(k : Int)) uj) .none) :=
  r_slice_ns D (by rw [T_len, sizeLine_eq]; exact hsz) (fun t s' D' => by rw [T_slice_butlast h0 h]; exact q t s' D') hs ht
/-- a list's slice -/
theorem r_slice_list {e sl : Expr} {l : Addr} {vs ws : List Value} {n : Nat} {vl vu : Value} {lo hi : Option Int} {Q : Value → Shared → Prop} (D : St B g env vals s news) (hm : s.heap.get? l = some (Lo vs n)) (pl : IsPart vl lo) (pu : IsPart vu hi) (hw : slicePick vs.toArray lo hi none = ws.toArray) (hsz : vs.length ≤ 16777216)
    (k : ∀ l' s', B.heap.objs.size ≤ l' → St B g env vals s' ((l', Lo ws 0) :: news) → Q (.ref l') s')
    (hs : subscripted sl false (.ref l) (.ref s.heap.objs.size) = operate [.ref s.heap.objs.size, .ref l] (getItem (.ref l) (.ref s.heap.objs.size)) := by with_unfolding_all rfl)
    (ht : ∀ r, letTemporaryGo e (.ref l) r = pure () := by intro _; with_unfolding_all rfl) :
    wpAny (model prog w) A (subscriptTail e sl (.ref l) (.ref s.heap.objs.size)) Q E (pushSlice s vl vu .none) := by
  obtain ⟨m, F, N, c⟩ := D.pushFr
  obtain ⟨m', L, ev⟩ := D.led
  refine up (slice_list3 (s := s) L.fr L.nw (D.lst hm) pl pu .none (by simp) (fun h' F' N' u => ?_) hs ht (by rw [List.size_toArray, sizeLine_eq]; exact hsz))
  rw [hw] at N'
  refine k _ _ (Nat.le_succ_of_le D.up.2) (D.to ⟨m', ⟨F', N', ?_⟩, ev⟩ rfl (up_push u))
  rw [List.map_cons, List.pairwise_cons]
  refine ⟨fun a ha => ?_, L.ord⟩
  obtain ⟨p, hp, rfl⟩ := List.mem_map.mp ha
  exact Nat.lt_succ_of_lt (Heap.lt_size (L.nw p hp).1)
end

/-! ## contracts that read objects of the caller's -/
noncomputable def FnR (K : Frag) (prog : Program) (w : World) (n : Nat) (f : Value) (args : List Value) (rd : News') (post : Value → News' → Prop) : Prop :=
  ∀ {A : Around} {s : Shared} {g : Heap} {R : Result → Shared → Prop}, Sta K g → Room A n → Own g s [] → (∀ p ∈ rd, g.get? p.1 = some p.2) →
    (∀ v s' own', post v own' → Own g s' own' → (∀ p ∈ own', p.1 ∈ ([] : News').map (·.1) ∨ s.heap.objs.size ≤ p.1) → Rest s s' → Up s s' → R (.ok (.ret v)) s') →
    codeAny (model prog w) A (.call f ⟨args, []⟩) R s
section
variable {B : Shared} {g : Heap} {env : Env} {vals vals' : Vals} {s : Shared} {news news' : News'} {M : Model} {A : Around} {E : Value → Shared → Prop} {K : Frag} {prog : Program} {w : World} {n : Nat} {f : Value} {args : List Value}
theorem useR {rd : News'} {post : Value → News' → Prop} {Q : Value → Shared → Prop} (C : FnR K prog w n f args rd post) (S : Sta K g) (hA : Room A n) (D : St B g env vals s news) (hr : ∀ p ∈ rd, s.heap.get? p.1 = some p.2)
    (k : ∀ v own' s', post v own' → (∀ p ∈ own', B.heap.objs.size ≤ p.1) → St B g env vals s' (own' ++ news) → Q v s') : wpAny (model prog w) A (call f args []) Q E s := by
  have hs : ([] : News').Sublist news := List.nil_sublist _
  obtain ⟨m, L, e⟩ := D.led
  refine wpAny_call (C (D.sta S hs) hA (D.own hs) (fun p hp => hideAll_get _ (hr p hp) (by simp)) fun v s' own' hp O hnew r u => k v own' s' hp (fun p hp => Nat.le_trans D.up.2 ((hnew p hp).resolve_left fun z => nomatch z)) (D.after (own := []) (fun p hp => nomatch hp) O r u (fun p hp => ?_) ?_))
  · rcases List.mem_append.mp hp with hp | hp
    · have hge : s.heap.objs.size ≤ p.1 := (hnew p hp).resolve_left fun z => nomatch z
      refine .inl ⟨hp, ?_, fun q => ?_⟩
      · cases q : g.get? p.1 with
        | none => rfl
        | some o => exact absurd (Heap.lt_size (L.fr.keep _ _ q)) (Nat.not_lt.mpr hge)
      · have := L.fr.ns.lt; rw [← q] at this; exact absurd this (Nat.not_lt.mpr hge)
    · exact .inr ⟨hp, fun z => nomatch z⟩
  · rw [List.map_append]
    refine List.pairwise_append.mpr ⟨O.ord, L.ord, fun a ha b hb => ?_⟩
    obtain ⟨p, hp, rfl⟩ := List.mem_map.mp ha
    obtain ⟨q, hq, rfl⟩ := List.mem_map.mp hb
    have hge : s.heap.objs.size ≤ p.1 := (hnew p hp).resolve_left fun z => nomatch z
    exact Nat.lt_of_lt_of_le (Heap.lt_size (L.nw q hq).1) hge
/-- a frame's end that hands back new objects -/
theorem St.leaveN {B : Shared} {v : Value} {news' : News'} (D : St B g env vals s news) (hn : news'.Sublist news) (hB : ∀ p ∈ news', B.heap.objs.size ≤ p.1) (hg : g.objs.size ≤ B.heap.objs.size) {R : Result → Shared → Prop} {post : Value → News' → Prop} (hp : post v news')
    (k : ∀ v s' own', post v own' → Own g s' own' → (∀ p ∈ own', p.1 ∈ ([] : News').map (·.1) ∨ B.heap.objs.size ≤ p.1) → Rest B s' → Up B s' → R (.ok (.ret v)) s') : R (.ok (.ret v)) s :=
  (D.drop hn).leave (own := []) (fun p h => .inr (hB p h)) hg hp k
end

/-! ## lists of texts, of numbers -/
inductive Txts : List Value → List (List Nat) → Prop
  | nil : Txts [] []
  | cons {l : List Nat} {t : Tok} {vs ls} : Txts vs ls → Txts (.str (T l) t :: vs) (l :: ls)
theorem Txts.len {vs ls} (h : Txts vs ls) : vs.length = ls.length := by induction h <;> simp [*]
theorem Txts.snoc {vs ls} {l : List Nat} {t : Tok} (h : Txts vs ls) : Txts (vs ++ [.str (T l) t]) (ls ++ [l]) := by
  induction h with
  | nil => exact .cons .nil
  | cons _ ih => exact .cons ih
theorem Txts.get {vs ls} (h : Txts vs ls) : ∀ {i : Nat} {l : List Nat}, ls[i]? = some l → ∃ t, vs[i]? = some (.str (T l) t) := by
  induction h with
  | nil => intro i l e; simp at e
  | @cons l₀ t₀ vs ls _ ih =>
    intro i l e
    cases i with
    | zero => simp at e; subst e; exact ⟨t₀, rfl⟩
    | succ i => simp at e; simpa using ih e
theorem Txts.got {vs ls} (h : Txts vs ls) : ∀ {i : Nat} {v : Value}, vs[i]? = some v → ∃ l t, ls[i]? = some l ∧ v = .str (T l) t := by
  induction h with
  | nil => intro i l e; simp at e
  | @cons l₀ t₀ vs ls _ ih =>
    intro i v e
    cases i with
    | zero => simp at e; subst e; exact ⟨l₀, t₀, rfl, rfl⟩
    | succ i => simp at e; simpa using ih e
theorem Txts.drop {vs ls} (h : Txts vs ls) : ∀ n, Txts (vs.drop n) (ls.drop n) := by
  induction h with
  | nil => intro n; simp; exact .nil
  | cons h ih =>
    intro n
    cases n with
    | zero => exact .cons h
    | succ n => exact ih n
theorem Txts.take {vs ls} (h : Txts vs ls) : ∀ n, Txts (vs.take n) (ls.take n) := by
  induction h with
  | nil => intro n; simp; exact .nil
  | cons h ih =>
    intro n
    cases n with
    | zero => exact .nil
    | succ n => exact .cons (ih n)
inductive Nums : List Value → List Int → Prop
  | nil : Nums [] []
  | cons {i : Int} {t : Tok} {vs is} : Nums vs is → Nums (.int i t :: vs) (i :: is)
theorem Nums.are {vs is} (h : Nums vs is) : IntsAre vs is := by
  induction h with
  | nil => exact .nil
  | cons _ ih => exact .cons _ _ ih
theorem Nums.of {vs is} (h : IntsAre vs is) : Nums vs is := by
  induction h with
  | nil => exact .nil
  | cons _ _ _ ih => exact .cons ih
theorem Nums.len {vs is} (h : Nums vs is) : vs.length = is.length := by induction h <;> simp [*]
theorem Nums.got {vs is} (h : Nums vs is) : ∀ {i : Nat} {v : Value}, vs[i]? = some v → ∃ l t, is[i]? = some l ∧ v = .int l t := by
  induction h with
  | nil => intro i l e; simp at e
  | @cons l₀ t₀ vs ls _ ih =>
    intro i v e
    cases i with
    | zero => simp at e; subst e; exact ⟨l₀, t₀, rfl, rfl⟩
    | succ i => simp at e; simpa using ih e
theorem Nums.snoc {vs ls} {l : Int} {t : Tok} (h : Nums vs ls) : Nums (vs ++ [.int l t]) (ls ++ [l]) := by
  induction h with
  | nil => exact .cons .nil
  | cons _ ih => exact .cons ih
theorem r_expr {M : Model} {A : Around} {E : Value → Shared → Prop} {B : Shared} {g : Heap} {env : Env} {vals : Vals} {s : Shared} {news : News'} {e : Expr} {pos : Pos} {Q : Flow → Shared → Prop} (D : St B g env vals s news)
    (h : wpAny M A (eval e env) (fun v s' => match v with | .ref _ => False | _ => Q .next s') E s) (hs : swapsWith e none pos.line env = pure false := by rfl) : wpAny M A (exec (.Expr e pos) env) Q E s :=
  wpAny_Expr h (by unfold interactive; rw [D.kind]; rfl) hs

/-! ## in a written tuple -/
theorem any_mem {α : Type} [BEq α] [LawfulBEq α] [DecidableEq α] (x : α) : ∀ l : List α, l.any (· == x) = decide (x ∈ l)
  | [] => by simp
  | a :: r => by
    rw [List.any_cons, any_mem x r]
    by_cases h : a = x
    · subst h; simp
    · have h' : ¬ x = a := fun e => h e.symm
      simp [h, h']
theorem Txts.strs {vs ls} (h : Txts vs ls) : StrsAre vs (ls.map T) := by
  induction h with
  | nil => exact .nil
  | cons _ ih => exact .cons _ _ ih
theorem any_T (x : List Nat) (ls : List (List Nat)) : (ls.map T).any (· == T x) = decide (x ∈ ls) := by
  rw [List.any_map, ← any_mem]
  congr 1
  funext y
  show (T y == T x) = (y == x)
  rw [T_beq]
  by_cases h : y = x <;> simp [h]
section
variable {B : Shared} {g : Heap} {env : Env} {vals vals' : Vals} {s : Shared} {news news' : News'} {A : Around} {E : Value → Shared → Prop} {prog : Program} {w : World} {a : Addr} {ws : List Value}
theorem r_notin_tup_int {is : List Int} {i : Int} {t : Tok} {Q : Value → Shared → Prop} (D : St B g env vals s ((a, tupObj ws) :: news)) (hT : Nums ws is) (k : ∀ s', St B g env vals s' news → Q (.bool (!decide (i ∈ is))) s') :
    wpAny (model prog w) A (compareOp .NotIn (.int i t) (.ref a)) Q E s :=
  notin_tuple_ints ⟨_, D.get List.mem_cons_self, rfl, _, rfl⟩ hT.are (by rw [any_mem]; exact k s (D.drop (List.sublist_cons_self _ _)))
theorem r_in_tup_str {ls : List (List Nat)} {x : List Nat} {t : Tok} {Q : Value → Shared → Prop} (D : St B g env vals s ((a, tupObj ws) :: news)) (hT : Txts ws ls) (k : ∀ s', St B g env vals s' news → Q (.bool (decide (x ∈ ls))) s') :
    wpAny (model prog w) A (compareOp .In (.str (T x) t) (.ref a)) Q E s :=
  in_tuple_strs ⟨_, D.get List.mem_cons_self, rfl, _, rfl⟩ hT.strs (by rw [any_T]; exact k s (D.drop (List.sublist_cons_self _ _)))
end

/-! ## which kind a goal is of -/
section
variable {M : Model} {A : Around} {s : Shared} {env : Env}
theorem gEval {e : Expr} {Q : Value → Shared → Prop} {E : Value → Shared → Prop} (h : wpAny M A (eval e env) Q E s) : wpAny M A (eval e env) Q E s := h
theorem gExec {e : Stmt} {Q : Flow → Shared → Prop} {E : Value → Shared → Prop} (h : wpAny M A (exec e env) Q E s) : wpAny M A (exec e env) Q E s := h
theorem gExecs {e : List Stmt} {Q : Flow → Shared → Prop} {E : Value → Shared → Prop} (h : wpAny M A (execs e env) Q E s) : wpAny M A (execs e env) Q E s := h
theorem gIsTrue {e : Expr} {t : Sem Value} {Q : Bool → Shared → Prop} {E : Value → Shared → Prop} (h : wpAny M A (PySem.isTrue e env t) Q E s) : wpAny M A (PySem.isTrue e env t) Q E s := h
end

end
section
/-! ## pieces and a text: what is asked -/
/-- a star, then the pieces in their order, the last one at the end -/
noncomputable def Run : List (List Nat) → List Nat → Prop
  | [], _ => False
  | [q], l => ∃ a, l = a ++ q
  | p :: r, l => ∃ a b, l = a ++ (p ++ b) ∧ Run r b
noncomputable def Fit : List (List Nat) → List Nat → Prop
  | [], _ => False
  | [p], l => l = p
  | p :: r, l => ∃ b, l = p ++ b ∧ Run r b
theorem Run.more : ∀ {ps : List (List Nat)} {b : List Nat} (a : List Nat), Run ps b → Run ps (a ++ b)
  | [], _, _, h => h
  | [_], _, a, ⟨c, h⟩ => ⟨a ++ c, by rw [h, List.append_assoc]⟩
  | _ :: _ :: _, _, a, ⟨c, d, h, r⟩ => ⟨a ++ c, d, by rw [h, List.append_assoc], r⟩
theorem Run.sub {ps : List (List Nat)} {l : List Nat} {i j : Nat} (hij : i ≤ j) (h : Run ps (l.drop j)) : Run ps (l.drop i) := by
  have e : l.drop i = (l.drop i).take (j - i) ++ l.drop j := by
    have := (List.take_append_drop (j - i) (l.drop i)).symm
    rw [List.drop_drop, Nat.add_sub_of_le hij] at this
    exact this
  rw [e]; exact h.more _
/-- the piece stands at i -/
noncomputable def Stands (l p : List Nat) (i : Nat) : Prop := i + p.length ≤ l.length ∧ (l.drop i).take p.length = p
theorem run_split {p : List Nat} {r : List (List Nat)} {l : List Nat} {i : Nat} (hi : i ≤ l.length) (hr : r ≠ []) : Run (p :: r) (l.drop i) ↔ ∃ j, i ≤ j ∧ Stands l p j ∧ Run r (l.drop (j + p.length)) := by
  cases r with
  | nil => exact absurd rfl hr
  | cons q r =>
  constructor
  · rintro ⟨a, b, e, h⟩
    have hl : (l.drop i).length = a.length + (p.length + b.length) := by rw [e]; simp
    rw [List.length_drop] at hl
    have e2 : l.drop (i + a.length) = p ++ b := by rw [← List.drop_drop, e, List.drop_left]
    refine ⟨i + a.length, Nat.le_add_right _ _, ⟨by omega, by rw [e2, List.take_left]⟩, ?_⟩
    rw [← List.drop_drop, e2, List.drop_left]
    exact h
  · rintro ⟨j, hij, ⟨h1, h2⟩, h⟩
    refine ⟨(l.drop i).take (j - i), l.drop (j + p.length), ?_, h⟩
    have e1 := (List.take_append_drop (j - i) (l.drop i))
    rw [List.drop_drop, Nat.add_sub_of_le hij] at e1
    have e2 := List.take_append_drop p.length (l.drop j)
    rw [h2, List.drop_drop] at e2
    rw [e2, e1]
/-- the first place is enough -/
theorem run_first {p : List Nat} {r : List (List Nat)} {l : List Nat} {i j : Nat} (hi : i ≤ l.length) (hr : r ≠ []) (hij : i ≤ j) (hj : Stands l p j) (hf : ∀ k, i ≤ k → k < j → ¬ Stands l p k) :
    Run (p :: r) (l.drop i) ↔ Run r (l.drop (j + p.length)) := by
  rw [run_split hi hr]
  constructor
  · rintro ⟨k, hk, hs, h⟩
    have : j ≤ k := Nat.not_lt.mp fun q => hf k hk q hs
    exact h.sub (Nat.add_le_add_right this _)
  · exact fun h => ⟨j, hij, hj, h⟩
theorem run_none {p : List Nat} {r : List (List Nat)} {l : List Nat} {i : Nat} (hi : i ≤ l.length) (hr : r ≠ []) (hf : ∀ k, i ≤ k → ¬ Stands l p k) : ¬ Run (p :: r) (l.drop i) := by
  rw [run_split hi hr]
  rintro ⟨k, hk, hs, _⟩
  exact hf k hk hs
theorem run_last {q l : List Nat} {i : Nat} (hi : i ≤ l.length) : Run [q] (l.drop i) ↔ (i + q.length ≤ l.length ∧ l.drop (l.length - q.length) = q) := by
  constructor
  · rintro ⟨a, e⟩
    have hl : l.length = i + (a.length + q.length) := by rw [← List.length_append, ← e, List.length_drop]; exact (Nat.add_sub_of_le hi).symm
    refine ⟨Nat.le_trans (Nat.add_le_add_left (Nat.le_add_left _ _) _) (Nat.le_of_eq hl.symm), ?_⟩
    have e2 : l.drop (i + a.length) = q := by rw [← List.drop_drop, e, List.drop_left]
    rw [show l.length - q.length = i + a.length by rw [hl, ← Nat.add_assoc, Nat.add_sub_cancel], e2]
  · rintro ⟨h1, h2⟩
    refine ⟨(l.drop i).take (l.length - q.length - i), ?_⟩
    have e1 := (List.take_append_drop (l.length - q.length - i) (l.drop i))
    rw [List.drop_drop, Nat.add_sub_of_le (Nat.le_sub_of_add_le h1), h2] at e1
    exact e1.symm
theorem fit_cons {p l : List Nat} {r : List (List Nat)} (hr : r ≠ []) : Fit (p :: r) l ↔ (l.take p.length = p ∧ p.length ≤ l.length ∧ Run r (l.drop p.length)) := by
  cases r with
  | nil => exact absurd rfl hr
  | cons q r =>
  constructor
  · rintro ⟨b, e, h⟩
    subst e
    refine ⟨List.take_left, by simp, ?_⟩
    rw [List.drop_left]; exact h
  · rintro ⟨h1, _, h2⟩
    exact ⟨_, by have := List.take_append_drop p.length l; rw [h1] at this; exact this.symm, h2⟩

/-! ## find -/
theorem at_stands {l p : List Nat} {i : Nat} : StrLaws.At (T l) (T p) (T l).length i ↔ Stands l p i := by
  unfold StrLaws.At Stands
  rw [StrLaws.subAt_eq, T_len, T_len, T_list, T_list, beq_iff_eq]
theorem T_find3 (l p : List Nat) {i : Int} (h0 : 0 ≤ i) : (Txt.find3 (T l) (T p) i = -1 ∧ ∀ k, i.toNat ≤ k → ¬ Stands l p k) ∨
    ∃ j : Nat, Txt.find3 (T l) (T p) i = (j : Int) ∧ i.toNat ≤ j ∧ Stands l p j ∧ ∀ k, i.toNat ≤ k → k < j → ¬ Stands l p k := by
  have e : fromIndex (T l).length i = i.toNat := by
    unfold fromIndex
    rw [if_neg (Int.not_lt.mpr h0)]; congr 1; exact Int.max_eq_right h0
  unfold Txt.find3
  rw [e]
  rcases StrLaws.occ_head_from (T l) (T p) i.toNat 1 (Nat.le_refl 1) with ⟨h0, hn⟩ | ⟨j, r, h0, hlo, hj, hn⟩
  · rw [h0]; exact .inl ⟨rfl, fun k hk hs => hn k hk (at_stands.mpr hs)⟩
  · rw [h0]; exact .inr ⟨j, rfl, hlo, at_stands.mp hj, fun k h1 h2 hs => hn k h1 h2 (at_stands.mpr hs)⟩
section
variable {B : Shared} {g : Heap} {env : Env} {vals vals' : Vals} {s : Shared} {news news' : News'} {A : Around} {E : Value → Shared → Prop} {prog : Program} {w : World}
theorem q_find3 {l p : List Nat} {i : Int} {t u v : Tok} {Q : Value → Shared → Prop} (D : St B g env vals s news) (h0 : 0 ≤ i)
    (k : ∀ (t : Tok) (s' : Shared) (r : Int), ((r = -1 ∧ ∀ k, i.toNat ≤ k → ¬ Stands l p k) ∨ ∃ j : Nat, r = (j : Int) ∧ i.toNat ≤ j ∧ Stands l p j ∧ ∀ k, i.toNat ≤ k → k < j → ¬ Stands l p k) → St B g env vals s' news → Q (.int r t) s') :
    wpAny (model prog w) A (call (.builtin "str.find") [.str (T l) t, .str (T p) u, .int i v]) Q E s :=
  SC.find3 (k _ _ _ (T_find3 l p h0) D.tk1)
end
theorem Txts.splitLast : ∀ {vs ls}, Txts vs ls → ls ≠ [] → ∃ vs' ls' q t, vs = vs' ++ [.str (T q) t] ∧ ls = ls' ++ [q] ∧ Txts vs' ls'
  | _, _, .nil, h => absurd rfl h
  | _, _, @Txts.cons l t _ _ .nil, _ => ⟨[], [], l, t, rfl, rfl, .nil⟩
  | _, _, @Txts.cons l t _ _ (@Txts.cons l₂ t₂ vs ls h), _ => by
    obtain ⟨vs', ls', q, t', e1, e2, h'⟩ := Txts.splitLast (Txts.cons (l := l₂) (t := t₂) h) (List.cons_ne_nil _ _)
    exact ⟨_, _, q, t', by rw [e1]; rfl, by rw [e2]; rfl, .cons h'⟩
/-- list[1:-1] -/
theorem pick_mid (v x : Value) (ms : List Value) : slicePick (v :: (ms ++ [x])).toArray (some 1) (some (-1)) none = ms.toArray := by
  rw [slicePick_plain]
  have h1 := clipAt_nat (v :: (ms ++ [x])).toArray.size 1
  have h2 := clipAt_neg (v :: (ms ++ [x])).toArray.size 1 (Nat.le_refl _)
  have hz : (v :: (ms ++ [x])).toArray.size = ms.length + 2 := by simp
  rw [hz] at h1 h2 ⊢
  simp only [Option.elim]
  rw [show ((1 : Nat) : Int) = 1 from rfl] at h1
  rw [show (-((1 : Nat) : Int)) = -1 from rfl] at h2
  rw [h1, h2]
  have : min 1 (ms.length + 2) = 1 := Nat.min_eq_left (Nat.le_add_left 1 _)
  rw [this]
  simp

end
section
/-! ## the text that translate gives, by its pieces -/
noncomputable def eS (c : Nat) : List Nat := if c = 91 then [91, 92, 91, 93] else if c = 42 ∨ c = 63 then [91, c, 93] else if c = 92 ∨ c = 32 then [92, c] else [c]
noncomputable def eT (p : List Nat) : List Nat := p.flatMap eS
noncomputable def trTail : List (List Nat) → List Nat
  | [] => []
  | [q] => [46, 42] ++ eT q
  | m :: r => [40, 63, 62, 46, 42, 63] ++ (eT m ++ ([41] ++ trTail r))
noncomputable def trText : List (List Nat) → List Nat
  | [] => []
  | p :: r => [40, 63, 115, 58] ++ (eT p ++ trTail r) ++ [41, 92, 90]
theorem eT_cons (c : Nat) (p : List Nat) : eT (c :: p) = eS c ++ eT p := rfl
theorem trTail_two (m q : List Nat) (r : List (List Nat)) : trTail (m :: q :: r) = [40, 63, 62, 46, 42, 63] ++ (eT m ++ ([41] ++ trTail (q :: r))) := rfl
inductive Kind : Nat → List Nat → Prop
  | plain {c} : c ≠ 91 → c ≠ 92 → Kind c [c]
  | back {c} : Kind c [92, c]
  | fence {c} : c ≠ 92 → Kind c [91, c, 93]
  | both : Kind 91 [91, 92, 91, 93]
theorem eS_kind (c : Nat) : Kind c (eS c) := by
  unfold eS
  by_cases h1 : c = 91
  · subst h1; exact .both
  · rw [if_neg h1]
    by_cases h2 : c = 42 ∨ c = 63
    · rw [if_pos h2]; exact .fence (by omega)
    · rw [if_neg h2]
      by_cases h3 : c = 92 ∨ c = 32
      · rw [if_pos h3]; exact .back
      · rw [if_neg h3]; exact .plain h1 (by omega)
theorem drop_app {l a b : List Nat} {i k : Nat} (h : l.drop i = a ++ b) (hk : k = a.length) : l.drop (i + k) = b := by
  subst hk; rw [← List.drop_drop, h, List.drop_left]
theorem drop_more {l b : List Nat} {x i : Nat} (h : l.drop i = x :: b) : l.drop (i + 1) = b := by
  rw [← List.drop_drop, h]; rfl
theorem drop_lt {l b : List Nat} {x i : Nat} (h : l.drop i = x :: b) : i < l.length := by
  have := congrArg List.length h; simp at this; omega
theorem drop_at {l b : List Nat} {x i : Nat} (h : l.drop i = x :: b) : l[i]? = some x := by
  have := List.getElem?_drop (xs := l) (i := i) (j := 0); rw [h] at this; simpa using this.symm

theorem drop_ai {l b : List Nat} {x i : Nat} {ai : Int} (e : ai = i) (h : l.drop i = x :: b) : l[ai.toNat]? = some x := by subst e; exact drop_at h

section
variable {B : Shared} {g : Heap} {env : Env} {vals vals' : Vals} {s : Shared} {news news' : News'} {A : Around} {E : Value → Shared → Prop} {prog : Program} {w : World}
/-- text[a:a+k] where the rest is known -/
theorem q_slice_ak {e sl : Expr} {l : List Nat} {t : Tok} {i j : Int} {ui uj : Tok} {Q : Value → Shared → Prop} (D : St B g env vals s news) (a k : Nat) {r : List Nat} (hr : l.drop a = r) (hi : i = a) (hj : j = a + k) (h : a ≤ l.length) (hsz : l.length ≤ 16777216) (q : ∀ t s', St B g env vals s' news → Q (.str (T (r.take k)) t) s')
    (hs : subscripted sl false (.str (T l) t) (.ref s.heap.objs.size) = operate [.ref s.heap.objs.size, .str (T l) t] (getItem (.str (T l) t) (.ref s.heap.objs.size)) := by with_unfolding_all rfl)
    (ht : ∀ r, letTemporaryGo e (.str (T l) t) r = pure () := by intro _; with_unfolding_all rfl) :
    wpAny (model prog w) A (subscriptTail e sl (.str (T l) t) (.ref s.heap.objs.size)) Q E (pushSlice s (.int i ui) (.int j uj) .none) :=
  q_slice_ss D ⟨by rw [hi]; exact Int.natCast_nonneg a, by rw [hi]; exact Int.ofNat_le.mpr h⟩ (by rw [hi, hj]; exact Int.le_add_of_nonneg_right (Int.natCast_nonneg k)) hsz (fun t s' D' => by
    have e1 : i.toNat = a := by rw [hi]; rfl
    have e2 : (j - i).toNat = k := by rw [hj, hi]; exact (Int.toNat_sub (a + k) a).trans (Nat.add_sub_cancel_left a k)
    rw [e1, e2, hr]; exact q t s' D') hs ht
end

end
section
/-! ## str.translate of one sign -/
noncomputable def Ext (s s' : Shared) : Prop := (∀ b o, s.heap.get? b = some o → s'.heap.get? b = some o) ∧ Rest s s' ∧ Up s s'
theorem Ext.trans {a b c : Shared} (x : Ext a b) (y : Ext b c) : Ext a c := ⟨fun d o e => y.1 d o (x.1 d o e), x.2.1.trans y.2.1, x.2.2.trans y.2.2⟩
theorem St.ext {B : Shared} {g : Heap} {env : Env} {vals : Vals} {s s' : Shared} {news : News'} (D : St B g env vals s news) (x : Ext s s') : St B g env vals s' news := by
  obtain ⟨m, L, e⟩ := D.led
  exact { D with led := ⟨m, ⟨⟨L.fr.ns.at' fun o e => x.1 _ _ e, fun b o e => x.1 _ _ (L.fr.keep b o e), L.fr.above⟩, fun p hp => ⟨x.1 _ _ (L.nw p hp).1, (L.nw p hp).2⟩, L.ord⟩, e⟩, tok := Nat.le_trans D.tok x.2.2.1, rest := D.rest.trans x.2.1, up := D.up.trans x.2.2 }
theorem sub_KeyError : isSubtype (.type "KeyError") (.type "LookupError") = pure true := by rw [isSubtype_type]; kernel_rfl
section
variable {prog : Program} {w : World} {A : Around} {E : Value → Shared → Prop} {s : Shared} {d : Addr} {f : Int → Option Value} {c : Nat}
theorem look_hit {x : Str} {t : Tok} {Q : Builtin.Str.Mapped → Shared → Prop} (hm : s.heap.MapOf (intKind prog w) d f) (hf : f c = some (.str x t)) (k : Q (.text x) { s with toks := s.toks + 1 + 1 }) :
    wpAny (model prog w) A (Builtin.Str.tableLookup (.ref d) c) Q E s := by
  unfold Builtin.Str.tableLookup
  refine wpAny_bind (wpAny_attempt (wpAny_bind (wpAny_mkInt (wpAny_getItem_of (intKind_is prog w _ _) hm hf ?_))))
  dsimp only
  exact wpAny_bind (wpAny_pure (wpAny_bind (wpAny_pure (wpAny_pure k))))
theorem look_miss {Q : Builtin.Str.Mapped → Shared → Prop} (hh : A.handled = none) (hd : (d == sysModules) = false) (hm : s.heap.MapOf (intKind prog w) d f) (hf : f c = none) (k : ∀ s', Ext s s' → Q .keep s') :
    wpAny (model prog w) A (Builtin.Str.tableLookup (.ref d) c) Q E s := by
  unfold Builtin.Str.tableLookup
  refine up ?_
  refine wpAny_bind (wpAny_attempt (wpAny_bind (wpAny_mkInt (wpAny_getItem_missing_of (intKind_is prog w _ _) hd hh hm hf fun h' e hn => ?_))))
  dsimp only
  refine wpAny_bind (wpAny_isInstance (T := "KeyError") (b := true) (let ⟨ob, _, h1, h2, _⟩ := hn.there; ⟨ob, h1, h2⟩) sub_KeyError ?_)
  refine wpAny_bind (wpAny_rule (wpAny_pure fun u => k _ ⟨?_, ⟨rfl, rfl, rfl⟩, u⟩))
  exact hn.keeps
theorem wp_if_f {α : Type} {M : Model} {A : Around} {E : Value → Shared → Prop} {s : Shared} {c : Bool} {a b : Sem α} {Q : α → Shared → Prop} (hc : c = false) (h : wpAny M A b Q E s) : wpAny M A (if c = true then a else b) Q E s := by subst hc; exact h
theorem wp_if_t {α : Type} {M : Model} {A : Around} {E : Value → Shared → Prop} {s : Shared} {c : Bool} {a b : Sem α} {Q : α → Shared → Prop} (hc : c = true) (h : wpAny M A a Q E s) : wpAny M A (if c = true then a else b) Q E s := by subst hc; exact h
theorem wp_for_one {M : Model} {A : Around} {E : Value → Shared → Prop} {s : Shared} {σ : Type} {f : Nat → σ → Sem (ForInStep σ)} {b : σ} {Q : σ → Shared → Prop} (h : wpAny M A (f c b) (fun r s => Q (match r with | .done x => x | .yield x => x) s) E s) : wpAny M A (forIn (T [c]).cps b f) Q E s := by
  rw [T_cps, List.forIn_toArray, List.forIn_cons]
  refine wpAny_bind (wpAny_mono h (fun r s q => ?_) fun _ _ e => e)
  cases r <;> exact wpAny_pure q
theorem all_one {c : Nat} {b : Bool} (h : decide (c < 128) = b) : ((T [c]).cps.all fun x => decide (x < 128)) = b := by rw [T_cps, ← h]; simp
theorem tr_end {l : List Nat} {R : PySem.Fin → Shared → Prop} {ps : List Str} {s' : Shared} {n : Nat} (h1 : ps.reverse.foldl (fun acc p => acc ++ p.cps) #[] = l.toArray) (hn : n ≤ 2) (hl : l.length ≤ 2) (hx : Ext s s') (k : ∀ t s', Ext s s' → R (.done (.ret (.str (T l) t))) s') :
    wpAny (model prog w) A (if Builtin.Str.tooLong n = true then (do unsupported "str.translate:memory"; retStr ⟨ps.reverse.foldl (fun acc p => acc ++ p.cps) #[]⟩) else retStr ⟨ps.reverse.foldl (fun acc p => acc ++ p.cps) #[]⟩) R E s' := by
  refine wp_if_f (decide_eq_false (by rw [sizeLine_eq]; omega)) ?_
  rw [h1]
  unfold retStr
  refine up (wpAny_bind (wpAny_mkStr ?_ (by rw [sizeLine_eq]; exact Nat.le_trans (Nat.le_of_eq (T_len l)) (Nat.le_trans hl (Nat.le_of_ble_eq_true rfl)))))
  exact wpAny_pure fun u => k _ _ (hx.trans ⟨fun _ _ e => e, ⟨rfl, rfl, rfl⟩, u⟩)
theorem translate_miss {t : Tok} {Q : Value → Shared → Prop} (hh : A.handled = none) (hd : (d == sysModules) = false) (hm : s.heap.MapOf (intKind prog w) d f) (hf : f c = none) (k : ∀ t s', Ext s s' → Q (.str (T [c]) t) s') :
    wpAny (model prog w) A (call (.builtin "str.translate") [.str (T [c]) t, .ref d]) Q E s := by
  refine wpAny_call_entry F.slot_str_translate (typeIs_str _ _ _) F.entry_str_translate ?_ (F.args_str_translate_2 _ _)
  refine wpAny_bind (wpAny_of_eq (a := (.str (T [c]) t, T [c], .ref d)) rfl ?_)
  refine wp_if_f rfl (wpAny_bind (wp_for_one (wp_if_f rfl ?_)))
  by_cases hc : c < 128
  · refine wp_if_t (all_one (decide_eq_true hc)) (wpAny_bind (look_miss hh hd hm hf fun s' hx => ?_))
    exact wpAny_bind (wpAny_pure (wpAny_pure (tr_end (ps := [T [c]]) (l := [c]) (n := 1) rfl (Nat.le_of_ble_eq_true rfl) (Nat.le_of_ble_eq_true rfl) hx fun t s' hx => ⟨_, rfl, k _ _ hx⟩)))
  · refine wp_if_f (all_one (decide_eq_false hc)) (wp_if_f rfl (wpAny_bind (look_miss hh hd hm hf fun s' hx => ?_)))
    exact wpAny_pure (tr_end (ps := [T [c]]) (l := [c]) (n := 1) rfl (Nat.le_of_ble_eq_true rfl) (Nat.le_of_ble_eq_true rfl) hx fun t s' hx => ⟨_, rfl, k _ _ hx⟩)
theorem translate_hit {x : Nat} {t u : Tok} {Q : Value → Shared → Prop} (hm : s.heap.MapOf (intKind prog w) d f) (hc : c < 128) (hf : f c = some (.str (T [x, c]) u)) (k : ∀ t s', Ext s s' → Q (.str (T [x, c]) t) s') :
    wpAny (model prog w) A (call (.builtin "str.translate") [.str (T [c]) t, .ref d]) Q E s := by
  refine wpAny_call_entry F.slot_str_translate (typeIs_str _ _ _) F.entry_str_translate ?_ (F.args_str_translate_2 _ _)
  refine wpAny_bind (wpAny_of_eq (a := (.str (T [c]) t, T [c], .ref d)) rfl ?_)
  refine wp_if_f rfl (wpAny_bind (wp_for_one (wp_if_f rfl (wp_if_t (all_one (decide_eq_true hc)) (wpAny_bind (look_hit hm hf ?_))))))
  refine wpAny_bind (wpAny_pure (wpAny_bind (wpAny_rule (wp_if_f rfl (wpAny_bind (look_hit (s := { s with toks := s.toks + 1 + 1 }) hm hf ?_))))))
  exact wpAny_pure (tr_end (s := s) (ps := [T [x, c]]) (l := [x, c]) (n := 2) rfl (Nat.le_of_ble_eq_true rfl) (Nat.le_of_ble_eq_true rfl) ⟨fun _ _ e => e, ⟨rfl, rfl, rfl⟩, Nat.le_add_right _ 4, Nat.le_refl _⟩ fun t s' hx => ⟨_, rfl, k _ _ hx⟩)
end

/-! ## a table of ints that stands in the fragment -/
noncomputable def keyIn (L : List Nat) (e : DictEntry) : Bool := match e.key with
  | .int i _ => (L.any fun n => (n : Int) == i) && e.hash == hashInt i
  | _ => false
noncomputable def intTab (K : Frag) (a : Addr) (L : List Nat) : Bool := match K.lookup a with
  | some o => decide (o.cls = .type "dict") && o.dict.isNone && o.slots.isEmpty && (match o.data with
    | .dict es _ => es.all (keyIn L)
    | _ => false)
  | none => false
noncomputable def intAt (K : Frag) (a : Addr) (c : Int) : Option Value := match K.lookup a with
  | some ⟨_, _, .dict es _, _⟩ => findBy Value.isInt es c
  | _ => none
theorem intTab_spec {K : Frag} {a : Addr} {L : List Nat} (h : intTab K a L = true) : ∃ es n, K.lookup a = some ⟨.type "dict", none, .dict es n, #[]⟩ ∧ es.all (keyIn L) = true := by
  unfold intTab at h
  cases e : K.lookup a with
  | none => rw [e] at h; cases h
  | some o =>
    rw [e] at h
    obtain ⟨c, d, dt, sl⟩ := o
    dsimp only at h
    simp only [Bool.and_eq_true, decide_eq_true_eq, Option.isNone_iff_eq_none] at h
    obtain ⟨⟨⟨h1, h2⟩, h3⟩, h4⟩ := h
    subst h1 h2
    have h3' : sl = #[] := by simpa using h3
    subst h3'
    cases dt with
    | dict es n => exact ⟨es, n, rfl, h4⟩
    | _ => cases h4
theorem keyIn_spec {L : List Nat} {e : DictEntry} (h : keyIn L e = true) : ∃ (k : Nat) (t : Tok), k ∈ L ∧ e.key = .int k t ∧ e.hash = hashInt k := by
  unfold keyIn at h
  split at h
  · rename_i i t e1
    rw [Bool.and_eq_true, List.any_eq_true] at h
    obtain ⟨⟨k, hk, hi⟩, hh⟩ := h
    have := eq_of_beq hi
    subst this
    exact ⟨k, t, hk, e1, eq_of_beq hh⟩
  · cases h
theorem intTab_map {prog : Program} {w : World} {K : Frag} {a : Addr} {L : List Nat} {h : Heap} (X : K.In h) (hT : intTab K a L = true) : h.MapOf (intKind prog w) a (intAt K a) := by
  obtain ⟨es, n, e, hes⟩ := intTab_spec hT
  refine ⟨_, es, n, X _ _ e, ⟨rfl, rfl, rfl⟩, rfl, fun x hx => ?_, fun k => ?_⟩
  · obtain ⟨k, t, _, h1, h2⟩ := keyIn_spec (Array.all_eq_true'.mp hes x hx)
    exact ⟨k, by rw [h1]; exact intKind_is prog w _ _, h2⟩
  · unfold intAt; rw [e]; rfl
theorem intAt_none {K : Frag} {a : Addr} {L : List Nat} {c : Nat} (hT : intTab K a L = true) (hc : c ∉ L) : intAt K a c = none := by
  obtain ⟨es, n, e, hes⟩ := intTab_spec hT
  unfold intAt
  rw [e]
  show findBy Value.isInt es (c : Int) = none
  unfold findBy
  rw [Option.map_eq_none_iff, Array.find?_eq_none]
  intro x hx hq
  obtain ⟨k, t, hk, h1, _⟩ := keyIn_spec (Array.all_eq_true'.mp hes x hx)
  rw [h1] at hq
  have : (k : Int) = c := by simpa [Value.isInt] using hq
  have : k = c := by omega
  subst this
  exact hc hk
theorem gm_translate {M : Model} {A : Around} {E : Value → Shared → Prop} {s : Shared} {x : Str} {t : Tok} {pl : Sem Bool} {Q : Value × List Value → Shared → Prop} (h : Q (.builtin "str.translate", [.str x t]) s) : wpAny M A (getMethod (.str x t) (Str.ofString "translate") pl) Q E s :=
  PySem.GM.of (.str x t) (typeIs_str _ _ _) F.slot_str_translate F.type_str_translate PySem.GM.noRef h

end
section
/-! ## res.append as a value -/
noncomputable def bnd (l : Addr) : Obj := { cls := .type "builtin_function_or_method", data := .fields #[.builtin "list.append", .ref l] }
theorem slot_md_get : Slot "method_descriptor" "__get__" "method_descriptor.__get__" :=
  .of (owner := "method_descriptor") (n := "__get__") (by rw [typeLookup_type, builtinLookup_eq_fast]; kernel_rfl) (by decide +kernel) (by decide +kernel) (by decide +kernel)
    (by first | exact .inl (by decide +kernel) | exact .inr (by decide +kernel)) (by rw [isSubtype_type]; kernel_rfl)
theorem entry_md_get : entryFor table "method_descriptor.__get__" = some Builtin.«method_descriptor.__get__» := entryFor_of_tree (by kernel_rfl)
theorem args_md_get (a b c : Value) : argsOk "method_descriptor.__get__" ⟨[a, b, c], []⟩ := by unfold argsOk; kernel_rfl
theorem md_set_none : typeLookup (.type "method_descriptor") "__set__" = pure none := by rw [typeLookup_type, builtinLookup_eq_fast]; kernel_rfl
theorem md_del_none : typeLookup (.type "method_descriptor") "__delete__" = pure none := by rw [typeLookup_type, builtinLookup_eq_fast]; kernel_rfl
theorem sub_list_list : isSubtype (.type "list") (.type "list") = pure true := by rw [isSubtype_type]; kernel_rfl
theorem isType_list : isType (.type "list") = pure true := by first | rfl | kernel_rfl | (unfold isType; rw [isSubtype_type]; kernel_rfl)
section
variable {prog : Program} {w : World} {A : Around} {E : Value → Shared → Prop} {s : Shared} {l : Addr}
theorem run_md_get {vs : List Value} {n : Nat} {P : Fin → Shared → Prop} (hx : s.heap.get? l = some (Lo vs n)) (h : P (.done (.ret (.ref s.heap.objs.size))) { s with heap := s.heap.push (bnd l) }) :
    wpAny (model prog w) A (Builtin.«method_descriptor.__get__» ⟨[.builtin "list.append", .ref l, .type "list"], []⟩) P E s := by
  unfold Builtin.«method_descriptor.__get__»
  refine wpAny_bind (wpAny_of_eq (a := (.builtin "list.append", some (.ref l), some (.type "list"))) (by first | rfl | kernel_rfl) ?_)
  dsimp only
  refine wp_if_f (by decide +kernel) ?_
  refine wpAny_bind ?_
  refine wpAny_bind (wpAny_of_eq (a := (Str.ofString "append", .type "list")) (by first | rfl | kernel_rfl) ?_)
  refine wpAny_bind (wpAny_isInstance (T := "list") (b := true) ⟨_, hx, rfl⟩ sub_list_list ?_)
  refine wp_if_f rfl (wpAny_pure ?_)
  exact wpAny_bind (wpAny_newObj_type (wpAny_pure h))
theorem run_ga {vs : List Value} {n : Nat} {u : Tok} {P : Fin → Shared → Prop} (hx : s.heap.get? l = some (Lo vs n)) (h : P (.done (.ret (.ref s.heap.objs.size))) { s with heap := s.heap.push (bnd l) }) :
    wpAny (model prog w) A (Builtin.«object.__getattribute__» ⟨[.ref l, .str (Str.ofString "append") u], []⟩) P E s := by
  obtain ⟨hp, g, d, tk, os⟩ := s
  have hT : (⟨hp, g, d, tk, os⟩ : Shared).TypeIs (.ref l) "list" := ⟨_, hx, rfl⟩
  have f1 := slot_list_append.lookup
  have f2 := type_list_append
  have f3 := slot_md_get.lookup
  have f4 := md_set_none
  have f5 := md_del_none
  unfold Builtin.«object.__getattribute__»
  repeat (any_goals (first | assumption | wp_step))
  refine codeAny_call_builtin slot_md_get.plain entry_md_get (slot_md_get.check _ _ _ _ _ _ _ _ f2 (args_md_get _ _ _) (run_md_get hx ?_))
  dsimp only
  repeat (any_goals (first | assumption | wp_step))
theorem getAttr_append {vs : List Value} {n : Nat} {Q : Value → Shared → Prop} (hx : s.heap.get? l = some (Lo vs n)) (h : Q (.ref s.heap.objs.size) { s with heap := s.heap.push (bnd l), toks := s.toks + 1 }) :
    wpAny (model prog w) A (getAttr (.ref l) (Str.ofString "append") true) Q E s := by
  obtain ⟨hp, g, d, tk, os⟩ := s
  have hT : ∀ tk', (⟨hp, g, d, tk', os⟩ : Shared).TypeIs (.ref l) "list" := fun _ => ⟨_, hx, rfl⟩
  have f3 := F.slot_list_getattribute.lookup
  have f4 := F.slot_list_getattribute.bind (.ref l)
  unfold getAttr getAttrBy
  repeat (any_goals (first | assumption | exact hT _ | wp_step))
  refine codeAny_call_builtin F.slot_list_getattribute.plain am_entry_list_getattribute (F.slot_list_getattribute.check _ _ _ _ _ _ _ _ (hT _) (F.args_list_getattribute_2 _ _) (run_ga hx ?_))
  dsimp only
  repeat (any_goals (first | assumption | wp_step))
noncomputable def BndAt (l x : Addr) (s : Shared) : Prop := s.heap.get? x = some (bnd l)
theorem sig_append (l : Addr) (v : Value) : (Manifest.signature? "list.append").elim (pure () : Sem Unit) (fun sig => Bind.checkArgs "list.append" { sig with full := s!"{Bind.lastOf "list"}.{Bind.lastOf "list.append"}" } ⟨[.ref l, v], []⟩) = pure () := by kernel_rfl
theorem kind_append : builtinKind "list.append" = some .method := by decide +kernel
theorem vm_append : Manifest.varargsMethods.contains "list.append" = false := by decide +kernel
theorem sub_list_module : isSubtype (.type "list") (.type "module") = pure false := by rw [isSubtype_type]; kernel_rfl
theorem check_append {v : Value} {vs : List Value} {n : Nat} {Q : Unit → Shared → Prop} (hx : s.heap.get? l = some (Lo vs n)) (h : Q () s) : wpAny (model prog w) A (checkBoundCall "list.append" ⟨[.ref l, v], []⟩) Q E s := by
  have hs := sig_append l v
  unfold checkBoundCall
  cases e : Manifest.signature? "list.append" with
  | none => exact wpAny_pure h
  | some sig =>
    rw [e] at hs
    rw [kind_append, vm_append]
    dsimp only
    refine wp_if_f rfl ?_
    refine wpAny_bind (wpAny_isInstance (T := "list") (b := false) ⟨_, hx, rfl⟩ sub_list_module ?_)
    refine wp_if_f rfl ?_
    have hT : s.TypeIs (.ref l) "list" := ⟨_, hx, rfl⟩
    unfold isType
    refine wpAny_bind (wpAny_bind (wpAny_load hx (wpAny_pure ?_)))
    dsimp only
    refine wp_if_f rfl ?_
    exact wpAny_bind (wpAny_typeOf hT (wpAny_of_eq hs h))
theorem quiet_append {as : Args} : (Code.builtin "list.append" as).quiet = true := Code.quiet_builtin _ (by decide +kernel)
theorem call_bnd {x : Addr} {v : Value} {vs : List Value} {n : Nat} {Q : Value → Shared → Prop} (ho : s.heap.get? x = some (bnd l)) (hx : s.heap.get? l = some (Lo vs n)) (hsz : vs.length ≤ 16777216)
    (h : ∀ h', Heap.SameBut l s.heap h' → h'.get? l = some (Lo (vs ++ [v]) (n + 1)) → Q .none { s with heap := h' }) : wpAny (model prog w) A (call (.ref x) [v]) Q E s := by
  refine wpAny_call (codeAny_of_tree ?_)
  show wpAny _ A.in1 (callAny (.ref x) ⟨[v], []⟩) _ _ s
  simp only [callAny]
  refine wpAny_bind (wpAny_load ho ?_)
  simp only [bnd, show (Value.type "builtin_function_or_method" == Value.type "method" || Value.type "builtin_function_or_method" == Value.type "builtin_function_or_method" || Value.type "builtin_function_or_method" == Value.type "method-wrapper") = true by decide, if_true]
  show wpAny _ _ (if (Value.type "builtin_function_or_method" != Value.type "method") = true then (do checkBoundCall "list.append" ⟨[.ref l, v], []⟩; again (.builtin "list.append" ⟨[.ref l, v], []⟩)) else _) _ _ _
  refine wp_if_t (by decide) (wpAny_bind (check_append hx ?_))
  refine wpAny_pure ⟨quiet_append, codeAny_builtin entry_list_append ?_⟩
  show wpAny _ _ (updateSeq l (·.push v) >>= fun _ => ret .none) _ _ s
  refine wpAny_bind (wpAny_updateSeq hx rfl ?_ (by rw [List.size_toArray, sizeLine_eq]; exact hsz) (by rw [Array.size_push, List.size_toArray, sizeLine_eq]; omega))
  refine wpAny_pure (h _ (Heap.SameBut.update ..) ?_)
  rw [Heap.get?_update_self _ hx (by rw [mapSeq_push]; rfl), mapSeq_push, List.push_toArray]
end
section
variable {B : Shared} {g : Heap} {env : Env} {vals vals' : Vals} {s : Shared} {news news' : News'} {A : Around} {E : Value → Shared → Prop} {prog : Program} {w : World} {l x : Addr} {vs : List Value} {n : Nat}
theorem r_add {v : Value} {Q : Value → Shared → Prop} (D : St B g env vals s news) (hx : (x, bnd l) ∈ news) (U : UpdP l (Lo vs n) (Lo (vs ++ [v]) (n + 1)) news news') (hsz : vs.length ≤ 16777216) (k : ∀ s', St B g env vals s' news' → Q .none s') :
    wpAny (model prog w) A (call (.ref x) [v]) Q E s :=
  call_bnd (D.get hx) (D.get U.keys.2) hsz fun h' hs ho => k _ (D.upd U hs ho (Nat.le_refl _))
theorem r_attr_append {Q : Value → Shared → Prop} (D : St B g env vals s news) (hx : s.heap.get? l = some (Lo vs n)) (k : ∀ x s', B.heap.objs.size ≤ x → St B g env vals s' ((x, bnd l) :: news) → Q (.ref x) s') :
    wpAny (model prog w) A (getAttr (.ref l) (Str.ofString "append") true) Q E s :=
  getAttr_append hx (k _ _ D.up.2 ((D.made (bnd l)).tk1 (n := 1)))
/-- add(..) where add is the list's bound append -/
theorem r_callBnd {pos : Pos} {e : Expr} {rest : List Expr} {Q : Value → Shared → Prop} (D : St B g env vals s news) (hx : (x, bnd l) ∈ news)
    (h : wpAny M A (spliced (backTo pos (starEach (e :: rest) env))) (fun vs s₁ => s₁.heap.get? x = some (bnd l) ∧ wpAny M A (call (.ref x) vs) Q E s₁) E s)
    (he : starEach (e :: rest) env = (false, eval e env) :: starEach rest env := by rfl) (hplain : (backTo pos (starEach rest env)).any (·.1) = false := by rfl) :
    wpAny M A (callWith pos (.ref x) [] (backTo pos (starEach (e :: rest) env)) []) Q E s := by
  rw [he] at h ⊢
  have h2 : wpAny M A (evalArgs (.ref x) true (backTo pos ((false, eval e env) :: starEach rest env)) []) (fun a s₁ => s₁.heap.get? x = some (bnd l) ∧ wpAny M A (call (.ref x) ([] ++ a.pos) a.kw) Q E s₁) E s := evalArgs_plain h
  have hp : (backTo pos ((false, eval e env) :: starEach rest env)).any (·.1) = false := by show (false || (backTo pos (starEach rest env)).any (·.1)) = false; rw [hplain]; rfl
  unfold callWith
  refine wpAny_bind (wpAny_holding (wpAny_mono h2 (fun a s₁ h₁ => wpAny_bind (wpAny_standAt ?_)) fun _ _ x => x))
  obtain ⟨ho, hcall⟩ := h₁
  simp only [hp, List.any_nil, Bool.or_false]
  refine wpAny_bind (m := keeperOf (.ref x)) ?_
  unfold keeperOf
  refine wpAny_bind (wpAny_load ho ?_)
  simp only [bnd, show (Value.type "builtin_function_or_method" != Value.type "method") = true by decide, show (Value.type "builtin_function_or_method" == Value.type "builtin_function_or_method" || Value.type "builtin_function_or_method" == Value.type "method-wrapper") = true by decide, if_true]
  refine wpAny_pure ?_
  exact wpAny_bind (wpAny_mono hcall (fun r s₂ hr => wpAny_bind (wpAny_holding (wpAny_point (wpAny_pure hr)))) fun _ _ x => x)
end

end
section
section
variable {B : Shared} {g : Heap} {env : Env} {vals vals' : Vals} {s : Shared} {news news' : News'} {A : Around} {E : Value → Shared → Prop} {prog : Program} {w : World} {l x : Addr} {vs : List Value} {n : Nat} {M : Model}
theorem St.extBut (D : St B g env vals s news) {h' : Heap} (he : Heap.ExtBut s.heap.objs.size s.heap h') (hz : s.heap.objs.size ≤ h'.objs.size) : St B g env vals { s with heap := h' } news :=
  D.ext ⟨fun b o e => he b o (Nat.ne_of_lt (Heap.lt_size e)) e, ⟨rfl, rfl, rfl⟩, ⟨Nat.le_refl _, hz⟩⟩
/-! ## two names at once -/
noncomputable def Tup2 (prog : Program) (w : World) (A : Around) (env : Env) (x y : Str) (Q : Flow → Shared → Prop) (E : Value → Shared → Prop) (sw : Bool) (v : Value) (s₁ : Shared) : Prop :=
  ∃ B g vals news t a b, v = .ref t ∧ St B g env vals s₁ news ∧ s₁.heap.get? t = some (tupObj [a, b]) ∧ ∀ s', St B g env vals s' news →
    if sw = true then wpAny (model prog w) A (storeName env y b) (fun _ s'' => wpAny (model prog w) A (storeName env x a) (fun _ => Q .next) E s'') E s'
    else wpAny (model prog w) A (storeName env x a) (fun _ s'' => wpAny (model prog w) A (storeName env y b) (fun _ => Q .next) E s'') E s'
theorem Tup2.mk1 {x y : Str} {Q : Flow → Shared → Prop} {t : Addr} {a b : Value} (D : St B g env vals s ((t, tupObj [a, b]) :: news))
    (k : ∀ s', St B g env vals s' news → wpAny (model prog w) A (storeName env y b) (fun _ s'' => wpAny (model prog w) A (storeName env x a) (fun _ => Q .next) E s'') E s') : Tup2 prog w A env x y Q E true (.ref t) s :=
  ⟨_, _, _, _, _, _, _, rfl, D, D.get List.mem_cons_self, fun s' D' => k s' (D'.drop (List.sublist_cons_self _ _))⟩
theorem Tup2.mk2 {x y : Str} {Q : Flow → Shared → Prop} {t : Addr} {a b : Value} (D : St B g env vals s ((t, tupObj [a, b]) :: news))
    (k : ∀ s', St B g env vals s' news → wpAny (model prog w) A (storeName env x a) (fun _ s'' => wpAny (model prog w) A (storeName env y b) (fun _ => Q .next) E s'') E s') : Tup2 prog w A env x y Q E false (.ref t) s :=
  ⟨_, _, _, _, _, _, _, rfl, D, D.get List.mem_cons_self, fun s' D' => k s' (D'.drop (List.sublist_cons_self _ _))⟩
theorem r_pairS {x y : Str} {px py : Pos} {k : Nat} {tpos pos : Pos} {value : Expr} {Q : Flow → Shared → Prop} (hA : A.handled = none)
    (h : wpAny (model prog w) A (eval value env) (fun v s₁ => Tup2 prog w A env x y Q E true v s₁) E s)
    (hs : swapsWithSole [.Tuple [.Name x px, .Name y py] k tpos] value pos.line env = pure false)
    (hw : swappedStores [.Tuple [.Name x px, .Name y py] k tpos] value env = pure (some [x, y])) :
    wpAny (model prog w) A (exec (.Assign [.Tuple [.Name x px, .Name y py] k tpos] value pos) env) Q E s := by
  refine Assign_Tuple_swapped (wpAny_mono h (fun v s₁ h₁ => ?_) fun _ _ x => x) hs hw
  obtain ⟨B, g, vals, news, t, a, b, rfl, D, ht, kk⟩ := h₁
  refine up (unpackItems_tuple (items := #[a, b]) hA ⟨_, ht, rfl, _, rfl⟩ fun h' he u => ?_)
  exact assignInOrder_cons (bindName_ (wpAny_mono (kk _ (D.extBut he u.2)) (fun _ s'' h'' => assignInOrder_cons (bindName_ (wpAny_mono h'' (fun _ s3 h3 => assignInOrder_nil h3) fun _ _ x => x))) fun _ _ x => x))
theorem r_pairN {x y : Str} {px py : Pos} {k : Nat} {tpos pos : Pos} {value : Expr} {Q : Flow → Shared → Prop} (hA : A.handled = none)
    (h : wpAny (model prog w) A (eval value env) (fun v s₁ => Tup2 prog w A env x y Q E false v s₁) E s)
    (hs : swapsWithSole [.Tuple [.Name x px, .Name y py] k tpos] value pos.line env = pure false)
    (hw : swappedStores [.Tuple [.Name x px, .Name y py] k tpos] value env = pure none) :
    wpAny (model prog w) A (exec (.Assign [.Tuple [.Name x px, .Name y py] k tpos] value pos) env) Q E s := by
  refine Assign_Tuple (wpAny_mono h (fun v s₁ h₁ => ?_) fun _ _ x => x) hs hw
  obtain ⟨B, g, vals, news, t, a, b, rfl, D, ht, kk⟩ := h₁
  rw [assign_Tuple]
  refine wpAny_bind (wpAny_standAt ?_)
  unfold unpack
  refine wpAny_bind (wpAny_holding (up (unpackItems_tuple (items := #[a, b]) hA ⟨_, ht, rfl, _, rfl⟩ fun h' he u => ?_)))
  exact assignInOrder_cons (assign_Name (wpAny_mono (kk _ (D.extBut he u.2)) (fun _ s'' h'' => assignInOrder_cons (assign_Name (wpAny_mono h'' (fun _ s3 h3 => assignInOrder_nil h3) fun _ _ x => x))) fun _ _ x => x))

/-! ## ''.join -/
theorem join_flat : ∀ ls : List (List Nat), Str.join (T []) (ls.map T) = T ls.flatten
  | [] => rfl
  | [a] => by rw [List.flatten_cons, List.flatten_nil, List.append_nil]; rfl
  | a :: b :: r => by
    show T a ++ T [] ++ Str.join (T []) ((b :: r).map T) = _
    rw [join_flat (b :: r), T_app, T_app, List.append_nil]
    rfl
theorem sum_flat (ls : List (List Nat)) : ((ls.map T).map (·.length)).sum = ls.flatten.length := by
  induction ls with
  | nil => rfl
  | cons a r ih => rw [List.map_cons, List.map_cons, List.sum_cons, ih, List.flatten_cons, List.length_append, T_len]
theorem q_join0 {ls : List (List Nat)} {t : Tok} {Q : Value → Shared → Prop} (D : St B g env vals s news) (hm : s.heap.get? l = some (Lo vs n)) (hT : Txts vs ls) (hsz : ls.flatten.length ≤ 1000000) (k : ∀ t s', St B g env vals s' news → Q (.str (T ls.flatten) t) s') :
    wpAny (model prog w) A (call (.builtin "str.join") [.str (T []) t, .ref l]) Q E s :=
  up (join_list (D.lst hm) hT.strs (by rw [sum_flat]; show _ + _ * 0 ≤ _; omega) fun t' tk u => by
    have e : Txt.join (T []) (ls.map T) = T ls.flatten := (StrLaws.glued_eq_join _ _).trans (join_flat ls)
    rw [e]; exact k _ _ (D.tk u))

/-! ## f-strings -/
theorem q_fmt {y : List Nat} {t : Tok} {Q : Value → Shared → Prop} (D : St B g env vals s news) (hsz : y.length ≤ 16777216) (k : ∀ t s', St B g env vals s' news → Q (.str (T y) t) s') : wpAny M A (formatField (.str (T y) t) Str.empty) Q E s :=
  up (formatField_str (fun t' tk u => k _ _ (D.tk u)) (by rw [T_len, sizeLine_eq]; exact hsz))
theorem r_joined {v₁ v₂ : Expr} {rest : List Expr} {pos : Pos} {Q : Value → Shared → Prop} (h : wpAny M A (joinParts (T []) (evalEach (v₁ :: v₂ :: rest) env)) Q E s) : wpAny M A (eval (.JoinedStr (v₁ :: v₂ :: rest) pos) env) Q E s := JoinedStr_many h
theorem r_jcons {out : Str} {v : Expr} {rest : List Expr} {Q : Value → Shared → Prop}
    (h : wpAny M A (eval v env) (fun v s₁ => match v with | .str y _ => (out ++ y).length ≤ sizeLine ∧ wpAny M A (joinParts (out ++ y) (evalEach rest env)) Q E s₁ | _ => False) E s) : wpAny M A (joinParts out (evalEach (v :: rest) env)) Q E s := joinParts_cons h
theorem r_jpair {a b : List Nat} {r : List (Sem Value)} {Q : Value → Shared → Prop} (hz : a.length + b.length ≤ 16777216) (h : wpAny M A (joinParts (T (a ++ b)) r) Q E s) :
    (T a ++ T b).length ≤ sizeLine ∧ wpAny M A (joinParts (T a ++ T b) r) Q E s := by rw [T_app, T_len, List.length_append, sizeLine_eq]; exact ⟨hz, h⟩
theorem r_jnil {a : List Nat} {Q : Value → Shared → Prop} (D : St B g env vals s news) (hz : a.length ≤ 16777216) (k : ∀ t s', St B g env vals s' news → Q (.str (T a) t) s') : wpAny M A (joinParts (T a) (evalEach [] env)) Q E s :=
  joinParts_nil (k _ _ D.tk1) (by rw [T_len, sizeLine_eq]; exact hz)
theorem r_bndMid {P : Prop} (D : St B g env vals s news) (hx : (x, bnd l) ∈ news) (h : P) : s.heap.get? x = some (bnd l) ∧ P := ⟨D.get hx, h⟩
theorem isnot_str_ref {y : Str} {t : Tok} {a : Addr} {Q : Value → Shared → Prop} (h : Q (.bool true) s) : wpAny M A (compareOp .IsNot (.str y t) (.ref a)) Q E s := wpAny_isNot_other rfl (by intro e; cases e) h
theorem is_str_ref {y : Str} {t : Tok} {a : Addr} {Q : Value → Shared → Prop} (h : Q (.bool false) s) : wpAny M A (compareOp .Is (.str y t) (.ref a)) Q E s := wpAny_is_other rfl (by intro e; cases e) h
end
theorem swapped2 {B : Shared} {g : Heap} {env : Env} {vals v1 v2 : Vals} {s : Shared} {news : News'} {x y : Str} {px py : Pos} {k k' : Nat} {tp vp : Pos} {a b : Expr} {va vb : Value} (D : St B g env vals s news) (hx : Put x va vals v1) (hy : Put y vb vals v2)
    (hc : (decide (px.line = py.line) && !(x == y) && !([a, b].any fun | .Starred .. => true | _ => false) && !([a, b].all (foldedForSure 8)) && !([a, b].all (constantsAlone 8))) = true) :
    swappedStores [.Tuple [.Name x px, .Name y py] k tp] (.Tuple [a, b] k' vp) env = pure (some [x, y]) := by
  have kx : env.kindOf x = some .local := by
    obtain ⟨p, hp, e⟩ := List.mem_map.mp hx.keys.2
    exact e ▸ (D.loc p hp).1
  have ky : env.kindOf y = some .local := by
    obtain ⟨p, hp, e⟩ := List.mem_map.mp hy.keys.2
    exact e ▸ (D.loc p hp).1
  simp only [Bool.and_eq_true, decide_eq_true_eq, Bool.not_eq_true'] at hc
  obtain ⟨⟨⟨⟨h1, h2⟩, h3⟩, h4⟩, h5⟩ := hc
  have hk : env.blockKind = .function := by unfold Env.blockKind; rw [D.kind]; rfl
  have h2' : (y == x) = false := by rw [Bool.eq_false_iff] at h2 ⊢; intro e; exact h2 (by rw [eq_of_beq e]; exact beq_self_eq_true x)
  unfold swappedStores
  dsimp only
  rw [hk]
  simp only [h4, h5]
  refine Eq.trans (if_neg (fun e => nomatch (show (false : Bool) = true from e))) ?_
  refine Eq.trans (if_neg (by intro e; exact absurd (h3.symm.trans e) (by decide))) ?_
  simp [List.filterMap_cons, Expr.pos, kx, ky, h1, h2', List.eraseDups_cons]
theorem swappedN {B : Shared} {g : Heap} {env : Env} {vals v1 v2 : Vals} {s : Shared} {news : News'} {x y : Str} {px py : Pos} {k k' : Nat} {tp vp : Pos} {a b : Expr} (D : St B g env vals s news) (hx : Put x .none vals v1) (hy : Put y .none vals v2)
    (hc : (decide (px.line = py.line) && !(x == y) && !([a, b].any fun | .Starred .. => true | _ => false) && !([a, b].all (foldedForSure 8)) && !([a, b].all (constantsAlone 8))) = true) :
    swappedStores [.Tuple [.Name x px, .Name y py] k tp] (.Tuple [a, b] k' vp) env = pure (some [x, y]) := swapped2 D hx hy hc
/-! ## the parts of translate: texts and the star object -/
inductive Parts (S : Addr) : List Value → List (Option (List Nat)) → Prop
  | nil : Parts S [] []
  | star {vs ls} : Parts S vs ls → Parts S (.ref S :: vs) (none :: ls)
  | text {l : List Nat} {t : Tok} {vs ls} : Parts S vs ls → Parts S (.str (T l) t :: vs) (some l :: ls)
theorem Parts.len {S vs ls} (h : Parts S vs ls) : vs.length = ls.length := by induction h <;> simp [*]
theorem Parts.get {S vs ls} (h : Parts S vs ls) : ∀ {i : Nat}, (ls[i]? = some none → vs[i]? = some (.ref S)) ∧ ∀ l, ls[i]? = some (some l) → ∃ t, vs[i]? = some (.str (T l) t) := by
  induction h with
  | nil => intro i; exact ⟨fun e => by simp at e, fun l e => by simp at e⟩
  | star h ih =>
    intro i
    cases i with
    | zero => exact ⟨fun _ => rfl, fun l e => by simp at e⟩
    | succ i => simpa using ih (i := i)
  | @text l₀ t₀ vs ls h ih =>
    intro i
    cases i with
    | zero => exact ⟨fun e => by simp at e, fun l e => by simp at e; subst e; exact ⟨t₀, rfl⟩⟩
    | succ i => simpa using ih (i := i)
theorem Parts.snocT {S vs ls} {l : List Nat} {t : Tok} (h : Parts S vs ls) : Parts S (vs ++ [.str (T l) t]) (ls ++ [some l]) := by
  induction h with
  | nil => exact .text .nil
  | star _ ih => exact .star ih
  | text _ ih => exact .text ih
theorem Parts.snocS {S vs ls} (h : Parts S vs ls) : Parts S (vs ++ [.ref S]) (ls ++ [none]) := by
  induction h with
  | nil => exact .star .nil
  | star _ ih => exact .star ih
  | text _ ih => exact .text ih
noncomputable def tailParts : List (List (List Nat)) → List (Option (List Nat))
  | [] => []
  | q :: r => none :: (q.map some ++ tailParts r)
noncomputable def tT : List (List (List Nat)) → List Nat
  | [] => []
  | [q] => [46, 42] ++ q.flatten
  | m :: r => [40, 63, 62, 46, 42, 63] ++ (m.flatten ++ ([41] ++ tT r))
theorem gdrop_more {α : Type} {l b : List α} {x : α} {i : Nat} (h : l.drop i = x :: b) : l.drop (i + 1) = b := by rw [← List.drop_drop, h]; rfl
theorem gdrop_at {α : Type} {l b : List α} {x : α} {i : Nat} (h : l.drop i = x :: b) : l[i]? = some x := by
  have := List.getElem?_drop (xs := l) (i := i) (j := 0); rw [h] at this; simpa using this.symm
theorem gdrop_len {α : Type} {l b : List α} {i : Nat} (h : l.drop i = b) (hi : i ≤ l.length) : l.length = i + b.length := by
  have := congrArg List.length h; rw [List.length_drop] at this; omega
theorem gdrop_app {α : Type} {l a b : List α} {i : Nat} (h : l.drop i = a ++ b) : l.drop (i + a.length) = b := by
  rw [← List.drop_drop, h, List.drop_left]
theorem gdrop_mid {α : Type} {l a b : List α} {i j : Nat} (h : l.drop i = a ++ b) (hj : j < a.length) : l[i + j]? = some a[j] := by
  have := List.getElem?_drop (xs := l) (i := i) (j := j); rw [h, List.getElem?_append_left hj, List.getElem?_eq_getElem hj] at this; exact this.symm

end
section
/-! ## the twin pattern's sub on one sign -/
noncomputable def quietRun {α : Type} : Sem α → Option α
  | .pure a => some a
  | .rule _ k => quietRun (k ())
  | _ => none
theorem quiet_wp {α : Type} {M : Model} {A : Around} {E : Value → Shared → Prop} {t : Sem α} : ∀ {s : Shared} {a : α} {Q : α → Shared → Prop}, quietRun t = some a → Q a s → wpAny M A t Q E s := by
  induction t with
  | pure b => intro s a Q h k; cases h; exact wpAny_pure k
  | rule tag k ih => intro s a Q h q; exact fun Γ p hΓ => ih () h q Γ p hΓ
  | _ => intro s a Q h q; cases h
noncomputable def twinCode : Array Nat := #[14, 14, 4, 1, 1, 9, 0, 64, 0, 1342177280, 0, 0, 0, 0, 0, 17, 0, 13, 11, 9, 0, 64, 0, 1342177280, 0, 0, 0, 0, 0, 17, 1, 1]
theorem twin42 : quietRun (Builtin.Re.reRunToEnd (Sre.forSearch twinCode #[42] 1 0 1 false)) = some none := by kernel_rfl
theorem twin63 : quietRun (Builtin.Re.reRunToEnd (Sre.forSearch twinCode #[63] 1 0 1 false)) = some none := by kernel_rfl
theorem twin91 : quietRun (Builtin.Re.reRunToEnd (Sre.forSearch twinCode #[91] 1 0 1 false)) = some none := by kernel_rfl
theorem plainAttrs_pat : PlainAttrs "re.Pattern" :=
  ⟨⟨"object.__getattribute__", by rw [typeLookup_type, builtinLookup_eq_fast]; kernel_rfl, by decide +kernel⟩, by rw [typeLookup_type, builtinLookup_eq_fast]; kernel_rfl⟩
theorem slot_sub : Slot "re.Pattern" "sub" "re.Pattern.sub" :=
  .of (owner := "re.Pattern") (n := "sub") (by rw [typeLookup_type, builtinLookup_eq_fast]; kernel_rfl) (by decide +kernel) (by decide +kernel) (by decide +kernel)
    (by first | exact .inl (by decide +kernel) | exact .inr (by decide +kernel)) (by rw [isSubtype_type]; kernel_rfl)
theorem type_sub : typeOf (.builtin "re.Pattern.sub") = pure (.type "method_descriptor") := by show builtinType _ = _; rw [builtinType_eq_fast]; kernel_rfl
theorem entry_sub : entryFor table "re.Pattern.sub" = some Builtin.«re.Pattern.sub» := entryFor_of_tree (by kernel_rfl)
theorem entry_sub_loop : entryFor table "re.Pattern.sub.loop" = some Builtin.«re.Pattern.sub.loop» := entryFor_of_tree (by kernel_rfl)
theorem args_sub (a b c : Value) : argsOk "re.Pattern.sub" ⟨[a, b, c], []⟩ := by unfold argsOk; kernel_rfl
theorem quiet_sub_loop {as : Args} : (Code.builtin "re.Pattern.sub.loop" as).quiet = true := Code.quiet_builtin _ (by decide +kernel)
theorem plain_sub_loop : plainId "re.Pattern.sub.loop" = true := by decide +kernel

/-- the twin pattern and its code stand in the fragment -/
noncomputable def patOk (K : Frag) (a b : Addr) : Bool := (match K.lookup a with
    | some o => decide (o.cls = .type "re.Pattern") && o.dict.isNone && (match o.data with
      | .fields vs => Builtin.Re.reRawNat (vs.getD 6 .none) == 0 && Builtin.Re.reRawNat (vs.getD 2 .none) == 1 && decide (vs.getD 5 .none = .ref b)
      | _ => false)
    | none => false) && (match K.lookup b with
    | some o => (match o.data with
      | .seq xs _ => decide (((xs.map Builtin.Re.reRawOf).map (·.toNat)) = twinCode)
      | _ => false)
    | none => false)
structure PatAt (h : Heap) (a : Addr) : Prop where
  ex : ∃ o vs b o2 xs n, h.get? a = some o ∧ o.cls = .type "re.Pattern" ∧ o.dict = none ∧ o.data = .fields vs ∧ Builtin.Re.reRawNat (vs.getD 6 .none) = 0 ∧ Builtin.Re.reRawNat (vs.getD 2 .none) = 1 ∧ vs.getD 5 .none = .ref b ∧
    h.get? b = some o2 ∧ o2.data = .seq xs n ∧ (xs.map Builtin.Re.reRawOf).map (·.toNat) = twinCode
theorem PatAt.keeps {h h' : Heap} {a : Addr} (P : PatAt h a) (k : ∀ b o, h.get? b = some o → h'.get? b = some o) : PatAt h' a := by
  obtain ⟨o, vs, b, o2, xs, n, h1, h2, h3, h4, h5, h6, h7, h8, h9, h10⟩ := P.ex
  exact ⟨⟨o, vs, b, o2, xs, n, k _ _ h1, h2, h3, h4, h5, h6, h7, k _ _ h8, h9, h10⟩⟩
theorem patOk_at {K : Frag} {a b : Addr} {h : Heap} (X : K.In h) (hp : patOk K a b = true) : PatAt h a := by
  unfold patOk at hp
  rw [Bool.and_eq_true] at hp
  obtain ⟨h1, h2⟩ := hp
  cases e : K.lookup a with
  | none => rw [e] at h1; cases h1
  | some o =>
    cases e2 : K.lookup b with
    | none => rw [e2] at h2; cases h2
    | some o2 =>
      rw [e] at h1
      rw [e2] at h2
      dsimp only at h1 h2
      simp only [Bool.and_eq_true, decide_eq_true_eq, Option.isNone_iff_eq_none] at h1
      obtain ⟨⟨h1, h3⟩, h4⟩ := h1
      split at h4
      · rename_i vs ev
        split at h2
        · rename_i xs n ex
          simp only [Bool.and_eq_true, decide_eq_true_eq, beq_iff_eq] at h4 h2
          exact ⟨⟨o, vs, b, o2, xs, n, X _ _ e, h1, h3, ev, h4.1.1, h4.1.2, h4.2, X _ _ e2, ex, h2⟩⟩
        · cases h2
      · cases h4
section
variable {prog : Program} {w : World} {A : Around} {E : Value → Shared → Prop} {s : Shared} {a : Addr}
theorem gm_sub {pl : Sem Bool} {Q : Value × List Value → Shared → Prop} (P : PatAt s.heap a) (h : Q (.builtin "re.Pattern.sub", [.ref a]) s) : wpAny (model prog w) A (getMethod (.ref a) (Str.ofString "sub") pl) Q E s := by
  obtain ⟨o, vs, b, o2, xs, n, h1, h2, h3, _⟩ := P.ex
  exact getMethod_builtin ⟨o, h1, h2⟩ plainAttrs_pat slot_sub type_sub (fun a' e => by cases e; exact ⟨o, h1, h3⟩) h
theorem whole_target {c : Nat} {t : Tok} {Q : Builtin.Re.ReTarget → Shared → Prop} (P : PatAt s.heap a)
    (h : Q { pattern := .ref a, string := .str (T [c]) t, code := twinCode, text := #[c], kind := 0, groups := 1, pos := 0, lim := 1 } s) : wpAny (model prog w) A (Builtin.Re.reWholeTarget (.ref a) (.str (T [c]) t)) Q E s := by
  obtain ⟨o, vs, b, o2, xs, n, h1, h2, h3, h4, h5, h6, h7, h8, h9, h10⟩ := P.ex
  unfold Builtin.Re.reWholeTarget
  refine wpAny_bind (wpAny_fieldsOf h1 h4 ?_)
  refine wpAny_bind (m := Builtin.Re.reTextOf _) (wpAny_of_eq (a := (#[c], 0)) rfl ?_)
  dsimp only
  rw [h5, h6, h7]
  refine wp_if_f rfl (wp_if_f rfl ?_)
  refine wpAny_bind (m := Builtin.Re.reNoCollectionInside _ 0) (wpAny_pure ?_)
  refine wpAny_bind (m := Builtin.Re.reRawItems _) (wpAny_bind (wpAny_seqItems h8 h9 (wpAny_pure ?_)))
  refine wpAny_pure ?_
  dsimp only [Option.getD_some]
  rw [h10]
  exact h
theorem fn_call : ∃ g, typeLookup (.type "function") "__call__" = pure (some (.builtin g)) := ⟨"function.__call__", by rw [typeLookup_type, builtinLookup_eq_fast]; kernel_rfl⟩
theorem sub_loop {c : Nat} {t : Tok} {fn : Value} {L : Addr} {P' : Fin → Shared → Prop} (P : PatAt s.heap a) (hL : s.heap.get? L = some (Lo [] 0)) (hr : quietRun (Builtin.Re.reRunToEnd (Sre.forSearch twinCode #[c] 1 0 1 false)) = some none)
    (h : ∀ t s', Rest s s' → (∀ b o, b ≠ L → s.heap.get? b = some o → s'.heap.get? b = some o) → Up s s' → P' (.done (.ret (.str (T [c]) t))) s') :
    wpAny (model prog w) A (Builtin.«re.Pattern.sub.loop» ⟨[.ref a, .str (T [c]) t, fn, rawInt 1, rawInt 0, rawInt 0, rawInt 0, rawInt 0, .bool false, .ref L, .bool false], []⟩) P' E s := by
  unfold Builtin.«re.Pattern.sub.loop»
  refine up ?_
  dsimp only [rawInt]
  refine wpAny_bind (whole_target P ?_)
  refine wp_if_f rfl ?_
  refine wpAny_bind (m := Builtin.Re.reNextFound _ 0 false) (quiet_wp hr ?_)
  dsimp only
  rw [if_pos (by decide)]
  have x1 : (⟨(#[c] : Array Nat).extract 0 1⟩ : Str) = T [c] := by simp [T]
  have x0 : (⟨(#[c] : Array Nat).extract 0 0⟩ : Str) = T [] := by simp [T]
  refine wpAny_bind (m := Builtin.Re.reSlice _ 0 _ 1) ?_
  show wpAny _ _ (mkStr ⟨(#[c] : Array Nat).extract 0 1⟩) _ _ _
  rw [x1]
  refine wpAny_mkStr ?_ (by rw [T_len, sizeLine_eq]; exact Nat.le_of_ble_eq_true rfl)
  refine wpAny_bind (wpAny_updateSeq hL rfl ?_ (by rw [sizeLine_eq]; decide) (by rw [Array.size_push, sizeLine_eq]; decide))
  have hL2 : (s.heap.update L (Obj.mapSeq (·.push (.str (T [c]) s.toks)))).get? L = some (Lo [.str (T [c]) s.toks] 1) := by
    rw [Heap.get?_update_self _ hL (by rw [mapSeq_push]; rfl), mapSeq_push]; rfl
  refine wpAny_bind (m := Builtin.Re.reSlice _ 0 0 0) ?_
  show wpAny _ _ (mkStr ⟨(#[c] : Array Nat).extract 0 0⟩) _ _ _
  rw [x0]
  refine wpAny_mkStr ?_ (by rw [T_len, sizeLine_eq]; exact Nat.le_of_ble_eq_true rfl)
  refine wpAny_bind (wpAny_seqItems hL2 rfl ?_)
  refine wp_if_f rfl ?_
  refine wpAny_bind (m := call (.builtin "str.join") _) ?_
  refine join_list (ys := [T [c]]) ⟨_, hL2, rfl, _, rfl⟩ (.cons _ _ .nil) (by simp [T_len]) fun t' tk => ?_
  refine wp_if_f rfl ?_
  refine wpAny_pure fun u => ?_
  have e : Txt.join (T []) [T [c]] = T [c] := (StrLaws.glued_eq_join _ _).trans rfl
  rw [e]
  exact h t' _ ⟨rfl, rfl, rfl⟩ (fun b o hb eo => ((Heap.SameBut.update ..).2 b hb).trans eo) u
theorem sub_one {c : Nat} {t : Tok} {fn : Addr} {fo : Obj} {Q : Value → Shared → Prop} (P : PatAt s.heap a) (hf : s.heap.get? fn = some fo) (hc : fo.cls = .type "function") (hr : quietRun (Builtin.Re.reRunToEnd (Sre.forSearch twinCode #[c] 1 0 1 false)) = some none)
    (h : ∀ t s', Ext s s' → Q (.str (T [c]) t) s') : wpAny (model prog w) A (call (.builtin "re.Pattern.sub") [.ref a, .ref fn, .str (T [c]) t]) Q E s := by
  obtain ⟨o, vs, b, o2, xs, n, h1, h2, h3, _⟩ := id P.ex
  obtain ⟨gc, hgc⟩ := fn_call
  refine up (wpAny_call (codeAny_call_builtin slot_sub.plain entry_sub (slot_sub.check _ _ _ _ _ _ _ _ (T := "re.Pattern") ⟨o, h1, h2⟩ (args_sub _ _ _) ?_)))
  unfold Builtin.«re.Pattern.sub» Builtin.Re.reSubstitute
  dsimp only
  refine wpAny_bind (wpAny_of_eq (a := [some (.ref fn), some (.str (T [c]) t), none]) (by first | rfl | kernel_rfl) ?_)
  dsimp only
  refine wpAny_bind (wpAny_pure ?_)
  refine wpAny_bind (wpAny_specialOf ⟨fo, hf, hc⟩ hgc ?_)
  refine wp_if_t rfl ?_
  refine wpAny_bind (wpAny_pure ?_)
  refine wp_if_t rfl ?_
  refine wpAny_bind (wpAny_pure ?_)
  dsimp only
  refine wpAny_bind (wpAny_holding (whole_target P ?_))
  refine wp_if_t rfl ?_
  refine wpAny_bind (m := Builtin.Re.reNotHeld _ _) ?_
  unfold Builtin.Re.reNotHeld
  refine wpAny_bind (wpAny_isInstance (T := "str") (b := false) (typeIs_str _ _ _) (by rw [isSubtype_type]; kernel_rfl) ?_)
  refine wp_if_f rfl ?_
  refine wpAny_pure ?_
  refine wpAny_bind (m := newList []) (wpAny_newObj_type (wpAny_pure ?_) (by show (#[] : Array Value).size ≤ sizeLine; rw [sizeLine_eq]; decide))
  refine ⟨quiet_sub_loop, codeAny_builtin entry_sub_loop ?_⟩
  have P2 : PatAt (s.heap.push { cls := .type "list", data := .seq ([] : List Value).toArray }) a := by
    obtain ⟨o, vs, b, o2, xs, n, h1, h2, h3, h4, h5, h6, h7, h8, h9, h10⟩ := P.ex
    exact ⟨⟨o, vs, b, o2, xs, n, Heap.get?_push_of_some _ h1, h2, h3, h4, h5, h6, h7, Heap.get?_push_of_some _ h8, h9, h10⟩⟩
  refine sub_loop (s := { s with heap := s.heap.push { cls := .type "list", data := .seq ([] : List Value).toArray } }) P2 (Heap.get?_push_size _ rfl) hr fun t' s' hr' hk u => ?_
  intro u2
  exact h t' s' ⟨fun b o e => hk b o (Nat.ne_of_lt (Heap.lt_size e)) (Heap.get?_push_of_some _ e), hr', u2⟩
end

end
section
/-! ## a lambda: its code is kept in the table of the def's code -/
/-- the table: empty, or the lambda's code alone -/
noncomputable def Tab (pos : Pos) (ps : Array Value) : Prop := ps = #[] ∨ ∃ c', ps = #[rawInt pos.line, rawInt pos.col, .ref c']
section
variable {B : Shared} {g : Heap} {env : Env} {vals vals' : Vals} {s : Shared} {news : News'} {A : Around} {E : Value → Shared → Prop} {prog : Program} {w : World} {M : Model} {K : Frag}
theorem St.turnExt (D : St B g env vals s news) {a : Addr} {o o' : Obj} {news' : News'} {h' : Heap} {tk : Tok} (U : UpdP a o o' news news') (hs : Heap.ExtBut a s.heap h') (ho : h'.get? a = some o') (u : Up s ⟨h', s.gens, s.drawn, tk, s.os⟩) :
    St B g env vals ⟨h', s.gens, s.drawn, tk, s.os⟩ news' := by
  obtain ⟨m, L, e⟩ := D.led
  have z := L.nw _ U.keys.2
  refine D.to ⟨m, ⟨⟨L.fr.ns.at' fun o e => hs _ _ z.2.1.symm e, fun b o e => hs b o (fun q => by rw [q, z.2.2] at e; cases e) (L.fr.keep b o e), L.fr.above⟩, fun p hp => ?_, U.ord L.ord⟩, e⟩ rfl u
  rcases U.old L.ord p hp with rfl | ⟨hp, hne⟩
  · exact ⟨ho, z.2⟩
  · exact ⟨hs _ _ hne (L.nw p hp).1, (L.nw p hp).2⟩
noncomputable def UpdAll (P : Addr) (ps : Array Value) (news : News') (f : Array Value → News') : Prop := ∀ ps', UpdP P (tabObj ps) (tabObj ps') news (f ps')
theorem r_lambda {c P : Addr} {params : Arguments} {body : Expr} {scope : Scope} {pos : Pos} {ps : Array Value} {f : Array Value → News'} {Q : Value → Shared → Prop} (S : Sta K g) (D : St B g env vals s news) (hg0 : env.globals = mainGlobals) (hcd : env.code = .ref c) (hk : codeHdIn K c P = true)
    (hT : Tab pos ps) (U : UpdAll P ps news f) (hdef : defaultsOf params env = ([], [])) (hcl : closureFor scope env = pure [])
    (k : ∀ x fo ps' s', Tab pos ps' → fo.cls = .type "function" → B.heap.objs.size ≤ x → St B g env vals s' ((x, fo) :: f ps') → Q (.ref x) s') : wpAny M A (eval (.Lambda params body scope pos) env) Q E s := by
  have hP := D.get (U ps).keys.2
  obtain ⟨mg, bm, ob, b1, b2, b3, b4, b5, b6, b7⟩ := S.bm
  have X := S.X.keeps D.keep
  have C := codeHd_of_K X hk
  have hmg := b1.keeps D.keep
  have hPg : mainGlobals ≠ P := by
    intro q
    obtain ⟨o, es, ep, e, hd, _⟩ := hmg
    rw [q, hP] at e; cases e; cases hd
  have hob := D.keep _ _ b4
  have hB : s.heap.BuiltinsAt mg P := by
    refine ⟨bm, ob, b2, b3, fun q => ?_, fun q => ?_, hob, b5, b6, b7⟩
    · obtain ⟨o, es, ep, e, hd, _⟩ := hmg
      rw [q, e] at hob; cases hob; rw [hd] at b7; cases b7
    · rw [q, hP] at hob; cases hob; cases b5
  refine kla_eval hdef ?_
  refine up ?_
  rcases hT with rfl | ⟨c', rfl⟩
  · refine kla_makeFunction (mg := mg) hcl hg0 hmg hcd C hP trivial rfl hPg hB fun c' ctv h' tk hx hge hlt hrec htb u => ?_
    refine k _ _ _ _ (.inr ⟨c', rfl⟩) rfl ?_ ((D.turnExt (tk := tk) (U _) hx htb ⟨u.1, Nat.le_trans hge (Nat.le_of_lt hlt)⟩).made _)
    exact Nat.le_trans D.up.2 (Nat.le_trans hge (Nat.le_of_lt hlt))
  · refine kla_makeFunctionHit (mg := mg) (cv := .ref c') hcl hg0 hmg hcd C hP trivial (by simp [codeAmong, rawInt]) hB fun ctv h' tk hkk hsz u => ?_
    refine k _ _ _ _ (.inr ⟨c', rfl⟩) rfl (Nat.le_trans D.up.2 hsz) ((D.turnExt (tk := tk) (U _) (fun b o _ e => hkk b o e) (hkk _ _ hP) ⟨u.1, hsz⟩).made _)
end

/-! ## contracts of what makes the lambda -/
noncomputable def FnT (K : Frag) (prog : Program) (w : World) (n : Nat) (P : Addr) (pos : Pos) (f : Value) (args : List Value) (rd : News') (post : Value → News' → Prop) : Prop :=
  ∀ {A : Around} {s : Shared} {g : Heap} {R : Result → Shared → Prop} {ps : Array Value}, Tab pos ps → Sta K g → Room A n → Own g s [(P, tabObj ps)] → (∀ p ∈ rd, g.get? p.1 = some p.2) →
    (∀ v s' own' ps', post v own' → Tab pos ps' → Own g s' (own' ++ [(P, tabObj ps')]) → (∀ p ∈ own', s.heap.objs.size ≤ p.1) → Rest s s' → Up s s' → R (.ok (.ret v)) s') →
    codeAny (model prog w) A (.call f ⟨args, []⟩) R s
section
variable {B : Shared} {g : Heap} {env : Env} {vals vals' : Vals} {s : Shared} {news : News'} {A : Around} {E : Value → Shared → Prop} {prog : Program} {w : World} {K : Frag} {n : Nat} {P : Addr} {pos : Pos} {f : Value} {args : List Value}
theorem useT {rd : News'} {post : Value → News' → Prop} {ps : Array Value} {Q : Value → Shared → Prop} (C : FnT K prog w n P pos f args rd post) (hT : Tab pos ps) (S : Sta K g) (hA : Room A n) (D : St B g env vals s (news ++ [(P, tabObj ps)])) (hr : ∀ p ∈ rd, s.heap.get? p.1 = some p.2 ∧ p.1 ≠ P)
    (k : ∀ v own' ps' s', post v own' → Tab pos ps' → (∀ p ∈ own', B.heap.objs.size ≤ p.1) → St B g env vals s' (own' ++ (news ++ [(P, tabObj ps')])) → Q v s') : wpAny (model prog w) A (call f args []) Q E s := by
  have hs : ([(P, tabObj ps)] : News').Sublist (news ++ [(P, tabObj ps)]) := List.sublist_append_right _ _
  obtain ⟨m, L, e⟩ := id D.led
  have ho := L.ord
  rw [List.map_append, List.pairwise_append] at ho
  obtain ⟨ho1, _, ho3⟩ := ho
  have hPs : P < s.heap.objs.size := Heap.lt_size (L.nw _ (List.mem_append_right _ List.mem_cons_self)).1
  refine wpAny_call (C hT (D.sta S hs) hA (D.own hs) (fun p hp => hideAll_get _ (hr p hp).1 (by simpa using (hr p hp).2)) fun v s' own' ps' hp hT' O hnew r u =>
    k v own' ps' s' hp hT' (fun p hp => Nat.le_trans D.up.2 (hnew p hp)) (D.after (own := [(P, tabObj ps)]) (fun p hp => hs.subset hp) O r u (fun p hp => ?_) ?_))
  · rcases List.mem_append.mp hp with hp | hp
    · have hge := hnew p hp
      refine .inl ⟨List.mem_append_left _ hp, ?_, fun q => ?_⟩
      · cases q : g.get? p.1 with
        | none => rfl
        | some o => exact absurd (Heap.lt_size (L.fr.keep _ _ q)) (Nat.not_lt.mpr hge)
      · have := L.fr.ns.lt; rw [← q] at this; exact absurd this (Nat.not_lt.mpr hge)
    · rcases List.mem_append.mp hp with hp | hp
      · refine .inr ⟨List.mem_append_left _ hp, ?_⟩
        have := ho3 p.1 (List.mem_map_of_mem hp) P (by simp)
        simp only [List.map_cons, List.map_nil, List.mem_singleton]
        exact Nat.ne_of_gt this
      · rw [List.mem_singleton.mp hp]
        have z := L.nw (P, tabObj ps) (List.mem_append_right _ List.mem_cons_self)
        exact .inl ⟨List.mem_append_right _ List.mem_cons_self, z.2.2, z.2.1⟩
  · rw [List.map_append, List.map_append]
    have hO := O.ord
    rw [List.map_append, List.pairwise_append] at hO
    refine List.pairwise_append.mpr ⟨hO.1, List.pairwise_append.mpr ⟨ho1, by simp, fun a ha b hb => ?_⟩, fun a ha b hb => ?_⟩
    · have hb' : b = P := by simpa using hb
      subst hb'
      exact ho3 a ha _ (by simp)
    · obtain ⟨p, hp, rfl⟩ := List.mem_map.mp ha
      have hge := hnew p hp
      rcases List.mem_append.mp hb with hb | hb
      · obtain ⟨q, hq, rfl⟩ := List.mem_map.mp hb
        exact Nat.lt_of_lt_of_le (Heap.lt_size (L.nw q (List.mem_append_left _ hq)).1) hge
      · have hb' : b = P := by simpa using hb
        subst hb'
        exact Nat.lt_of_lt_of_le hPs hge
theorem St.leaveT {B : Shared} (D : St B g env vals s news) {v : Value} {nw : News'} {ps' : Array Value} (hn : (nw ++ [(P, tabObj ps')]).Sublist news) (hB : ∀ p ∈ nw, B.heap.objs.size ≤ p.1) (hg : g.objs.size ≤ B.heap.objs.size) (hT : Tab pos ps') {R : Result → Shared → Prop} {post : Value → News' → Prop} (hp : post v nw)
    (k : ∀ v s' own' ps', post v own' → Tab pos ps' → Own g s' (own' ++ [(P, tabObj ps')]) → (∀ p ∈ own', B.heap.objs.size ≤ p.1) → Rest B s' → Up B s' → R (.ok (.ret v)) s') : R (.ok (.ret v)) s := by
  obtain ⟨m, L, e⟩ := (D.drop hn).led
  exact k v s nw ps' hp hT ⟨L.fr.keep, Nat.le_trans hg D.up.2, L.ord, fun p hp => ⟨(L.nw p hp).1, (L.nw p hp).2.2⟩, D.tok⟩ hB D.rest D.up
theorem q_notin {c : Nat} {l : List Nat} {t u : Tok} {Q : Value → Shared → Prop} (k : Q (.bool (!decide (c ∈ l))) s) : wpAny (model prog w) A (compareOp .NotIn (.str (T [c]) t) (.str (T l) u)) Q E s :=
  notIn_str (by have := StrLaws.found_one (T l) c; rw [T_list] at this; show Q (.bool (!!(Builtin.Str.occurrences (T l) ⟨#[c]⟩ 0 (T l).length 1).isEmpty)) s; rw [this]; exact k)
end

end
section
/-! ## object() -/
noncomputable def obObj : Obj := { cls := .type "object", data := .plain }
theorem mro_object : mroOf (.type "object") = pure [.type "object"] := by rw [mroOf_type]; kernel_rfl
theorem lookup_object_new : typeLookup (.type "object") "__new__" = pure (some (.builtin "object.__new__")) := by rw [typeLookup_type, builtinLookup_eq_fast]; kernel_rfl
theorem lookup_object_init : typeLookup (.type "object") "__init__" = pure (some (.builtin "object.__init__")) := by rw [typeLookup_type, builtinLookup_eq_fast]; kernel_rfl
theorem newCall_object_0 : checkBuiltinCall "object.__new__" ⟨[.type "object"], []⟩ = pure () := by kernel_rfl
theorem plain_object_new : plainId "object.__new__" = true := by decide +kernel
section
variable {prog : Program} {w : World} {A : Around} {E : Value → Shared → Prop} {s : Shared}
theorem code_object_new {Q₁ : Value → Shared → Prop} (h : Q₁ (.ref s.heap.objs.size) { s with heap := s.heap.push obObj }) :
    codeAny (model prog w) A (.call (.builtin "object.__new__") ⟨[.type "object"], []⟩) (wants Q₁ E) s := by
  refine codeAny_of_tree ?_
  show wpAny _ A.in1 (do checkBuiltinCall "object.__new__" ⟨[.type "object"], []⟩; again (.builtin "object.__new__" ⟨[.type "object"], []⟩)) _ _ s
  refine wpAny_bind (wpAny_of_eq newCall_object_0 (wpAny_pure ⟨plainId_quiet plain_object_new _, codeAny_builtin PySem.F.entry_object_new ?_⟩))
  rw [Around.under_plainId plain_object_new _]
  unfold Builtin.«object.__new__»
  obtain ⟨hp, g, d, tk, os⟩ := s
  dsimp only
  have hl := lookup_object_new
  have hm := mro_object
  have hmade := madeBy_type mro_object lookup_object_new (by decide +kernel)
  wp_walk
  repeat (any_goals (first | assumption | wp_step))
theorem typeCall_object_0 : checkTypeCall "object" ⟨[], []⟩ = pure () := by kernel_rfl
theorem called_object : TypeCalled "object" "object.__new__" "object.__init__" :=
  ⟨by decide +kernel, by decide +kernel, ⟨_, _, mro_object⟩, madeBy_type mro_object lookup_object_new (by decide +kernel), by decide +kernel, by rw [isSubtype_type]; kernel_rfl, PySem.F.slot_object_init⟩
set_option maxHeartbeats 1000000 in
theorem call_object_0 {Q : Value → Shared → Prop} (h : Q (.ref s.heap.objs.size) { s with heap := s.heap.push obObj }) : wpAny (model prog w) A (call (.type "object") []) Q E s := by
  obtain ⟨c, tl, hmro⟩ := called_object.mro
  have hmade := called_object.made
  have hsub := called_object.sub
  refine wpAny_call (codeAny_of_tree ?_)
  show wpAny _ _ (callAny (.type "object") _) _ _ _
  refine wpAny_pure ⟨Code.quiet_builtin _ (by decide +kernel), codeAny_builtin PySem.F.entry_type_call ?_⟩
  rw [Around.under_plain (weight_type_call_type "object" [] []) rfl]
  have h1 := called_object.notType
  have h2 := called_object.canCreate
  have hct := typeCall_object_0
  repeat (any_goals (first | assumption | wp_step))
  refine codeAny_mono (code_object_new (E := E) (Q₁ := fun obj s₁ => obj = .ref s.heap.objs.size ∧ s₁ = { s with heap := s.heap.push obObj }) ⟨rfl, rfl⟩) fun r s₁ hr => ?_
  cases r with
  | error e => exact hr
  | ok fl =>
    cases fl with
    | ret obj =>
      obtain ⟨rfl, rfl⟩ := hr
      have hS : (s.heap.push obObj).get? s.heap.objs.size = some obObj := Heap.get?_push_size _ rfl
      have hT : Shared.TypeIs { s with heap := s.heap.push obObj } (.ref s.heap.objs.size) "object" := ⟨_, hS, rfl⟩
      have hli := called_object.init.lookup
      have hbi := called_object.init.bind (.ref s.heap.objs.size)
      repeat (any_goals (first | assumption | wp_step))
      refine codeAny_mono (codeAny_call_builtin (R := wants (fun r s₂ => r = .none ∧ Q (.ref s.heap.objs.size) s₂) E) called_object.init.plain PySem.F.entry_object_init (called_object.init.check _ _ _ _ _ _ _ _ hT (PySem.F.args_object_init_1 _) ?_)) fun r₂ s₂ hr₂ => ?_
      · unfold Builtin.«object.__init__»
        wp_walk
        exact ⟨rfl, h⟩
      · cases r₂ with
        | error e => exact hr₂
        | ok fl₂ =>
          cases fl₂ with
          | ret r =>
            obtain ⟨rfl, hq⟩ := hr₂
            repeat (any_goals (first | assumption | wp_step))
          | _ => exact hr₂.elim
    | _ => exact hr.elim
end

end
section
/-! ## an object's dict: fields by their names -/
structure Has (es : List DictEntry) (fs : Vals) : Prop where
  get : ∀ x, getL x es = some (fs.lookup x).join
  size : es.length ≤ (fs.filter (·.2.isSome)).length
  keys : (fs.map (·.1)).Nodup
theorem isStr_ne {k : Value} {x y : Str} (h : x ≠ y) (hx : k.isStr x = true) : k.isStr y = false := by
  cases k <;> simp [Value.isStr] at hx ⊢
  intro e; exact h (hx ▸ e)
theorem find_putL {name : Str} {hsh : Int} {t : Tok} {v : Value} (x : Str) : ∀ es : List DictEntry,
    ((putL name hsh (.str name t) v es).find? (·.key.isStr x)).map (·.val) = if x = name then some v else (es.find? (·.key.isStr x)).map (·.val)
  | [] => by
    by_cases h : x = name
    · subst h; simp [putL, Value.isStr]
    · simp [putL, Value.isStr, h, Ne.symm h]
  | e :: r => by
    have ih := find_putL (name := name) (hsh := hsh) (t := t) (v := v) x r
    unfold putL
    cases q : e.key.isStr name with
    | true =>
      rw [if_pos rfl]
      by_cases h : x = name
      · subst h; simp [q]
      · have : e.key.isStr x = false := isStr_ne (Ne.symm h) q
        simp [this, h]
    | false =>
      rw [if_neg (by decide)]
      cases q2 : e.key.isStr x with
      | true =>
        have h : x ≠ name := fun z => by rw [z, q] at q2; cases q2
        simp [q2, h]
      | false => rw [List.find?_cons, q2, List.find?_cons, q2]; exact ih
theorem ref_putL {name : Str} {hsh : Int} {t : Tok} {v : Value} : ∀ es : List DictEntry, (putL name hsh (.str name t) v es).any (·.refKey) = es.any (·.refKey)
  | [] => rfl
  | e :: r => by
    have ih := ref_putL (name := name) (hsh := hsh) (t := t) (v := v) r
    unfold putL
    cases q : e.key.isStr name with
    | true => rw [if_pos rfl]; rfl
    | false => rw [if_neg (by decide), List.any_cons, List.any_cons, ih]
theorem getL_form (x : Str) (es : List DictEntry) : getL x es = match (es.find? (·.key.isStr x)).map (·.val) with | some v => some (some v) | none => if es.any (·.refKey) then none else some none := by
  unfold getL; cases es.find? (·.key.isStr x) <;> rfl
theorem getL_put {name : Str} {hsh : Int} {t : Tok} {v : Value} (x : Str) (es : List DictEntry) : getL x (putL name hsh (.str name t) v es) = if x = name then some (some v) else getL x es := by
  rw [getL_form, getL_form, find_putL, ref_putL]
  by_cases h : x = name
  · rw [if_pos h, if_pos h]
  · rw [if_neg h, if_neg h]
theorem len_putL {name : Str} {hsh : Int} {k v : Value} : ∀ es : List DictEntry, (putL name hsh k v es).length = es.length + if es.any (·.key.isStr name) then 0 else 1
  | [] => rfl
  | e :: r => by
    have ih := len_putL (name := name) (hsh := hsh) (k := k) (v := v) r
    unfold putL
    cases q : e.key.isStr name with
    | true => simp [q]
    | false => rw [if_neg (by decide), List.length_cons, ih, List.any_cons, q, Bool.false_or, List.length_cons]; omega
theorem lookup_put {x : Str} {v : Value} {l l' : Vals} (h : Put x v l l') (nd : (l.map (·.1)).Nodup) (y : Str) : l'.lookup y = if y = x then some (some v) else l.lookup y := by
  induction h with
  | @head u r =>
    by_cases e : y = x
    · subst e; simp [List.lookup]
    · simp only [List.lookup, beq_false_of_ne e, if_neg e]
  | @tail p r r' hp ih =>
    obtain ⟨a, b⟩ := p
    rw [List.map_cons, List.nodup_cons] at nd
    by_cases e : y = a
    · subst e
      have : y ≠ x := fun q => nd.1 (by rw [q]; exact hp.keys.2)
      simp [List.lookup, this]
    · simp only [List.lookup, beq_false_of_ne e]; exact ih nd.2
theorem lookup_in {l : Vals} {x : Str} (h : x ∈ l.map (·.1)) : ∃ u, l.lookup x = some u := by
  induction l with
  | nil => cases h
  | cons p r ih =>
    obtain ⟨a, b⟩ := p
    by_cases e : x = a
    · subst e; exact ⟨b, by simp [List.lookup]⟩
    · rw [List.map_cons, List.mem_cons] at h
      simp only [List.lookup, beq_false_of_ne e]; exact ih (h.resolve_left e)
theorem count_put {x : Str} {v : Value} {l l' : Vals} (h : Put x v l l') (nd : (l.map (·.1)).Nodup) : (l'.filter (·.2.isSome)).length = (l.filter (·.2.isSome)).length + if (l.lookup x).join.isSome then 0 else 1 := by
  induction h with
  | @head u r => cases u <;> simp [List.lookup]
  | @tail p r r' hp ih =>
    obtain ⟨a, b⟩ := p
    rw [List.map_cons, List.nodup_cons] at nd
    have : x ≠ a := fun q => nd.1 (by rw [← q]; exact hp.keys.2)
    have e : List.lookup x ((a, b) :: r) = List.lookup x r := by simp only [List.lookup, beq_false_of_ne this]
    rw [e, List.filter_cons, List.filter_cons]
    have ih := ih nd.2
    cases b <;> simp <;> omega
theorem Has.empty {fs : Vals} (h : fs.all (·.2.isNone) = true) (nd : (fs.map (·.1)).Nodup) : Has [] fs := by
  refine ⟨fun x => ?_, Nat.zero_le _, nd⟩
  show some none = _
  congr 1
  induction fs with
  | nil => rfl
  | cons p r ih =>
    obtain ⟨a, b⟩ := p
    rw [List.all_cons, Bool.and_eq_true] at h
    cases b with
    | some u => exact absurd h.1 Bool.false_ne_true
    | none =>
    rw [List.map_cons, List.nodup_cons] at nd
    by_cases e : x = a
    · subst e; simp [List.lookup]
    · simp only [List.lookup, beq_false_of_ne e]; exact ih h.2 nd.2
theorem Has.put {es : List DictEntry} {fs fs' : Vals} {x : Str} {v : Value} {hsh : Int} {t : Tok} (h : Has es fs) (p : Put x v fs fs') : Has (putL x hsh (.str x t) v es) fs' := by
  refine ⟨fun y => ?_, ?_, by rw [p.keys.1]; exact h.keys⟩
  · rw [getL_put, lookup_put p h.keys]
    by_cases e : y = x
    · rw [if_pos e, if_pos e]; rfl
    · rw [if_neg e, if_neg e]; exact h.get y
  · rw [len_putL, count_put p h.keys]
    have hs := h.size
    have hg := h.get x
    unfold getL at hg
    cases q : es.find? (·.key.isStr x) with
    | some e =>
      rw [q] at hg
      have : es.any (·.key.isStr x) = true := List.any_eq_true.mpr ⟨e, List.mem_of_find?_eq_some q, by have := List.find?_some q; simpa using this⟩
      rw [if_pos this]; omega
    | none =>
      rw [q] at hg
      dsimp only at hg
      split at hg
      · cases hg
      · have e : (fs.lookup x).join = none := (Option.some.inj hg).symm
        have : es.any (·.key.isStr x) = false := by
          rw [List.any_eq_false]; intro y hy; exact (List.find?_eq_none.mp q) y hy
        rw [e, this]; simp; omega
theorem Has.at_ {es : List DictEntry} {fs : Vals} {x : Str} {v : Value} (h : Has es fs) (a : At fs x v) : getL x es = some (some v) := by
  rw [h.get]
  have nd := h.keys
  clear h
  induction a with
  | head => simp [List.lookup]
  | @tail p r x v a ih =>
    obtain ⟨b, c⟩ := p
    rw [List.map_cons, List.nodup_cons] at nd
    have : x ≠ b := fun q => nd.1 (by rw [← q]; exact List.mem_map_of_mem (f := (·.1)) a.mem)
    simp only [List.lookup, beq_false_of_ne this]; exact ih nd.2
theorem Has.none {es : List DictEntry} {fs : Vals} {x : Str} (h : Has es fs) (a : (fs.map (·.1)).contains x = false) : getL x es = some none := by
  rw [h.get]
  clear h
  induction fs with
  | nil => rfl
  | cons p r ih =>
    obtain ⟨b, c⟩ := p
    rw [List.map_cons, List.contains_cons, Bool.or_eq_false_iff] at a
    have : (x == b) = false := a.1
    simp only [List.lookup, this]; exact ih a.2

/-- what the class must say of a field's name -/
noncomputable def fieldOk (K : Frag) (C : Addr) (x : Str) : Bool := plainGet K C x && hasDictIn K C && (findIn K (.ref C) x == some none) && plainOver K C && (findIn K (.ref C) "__setattr__" == some (some (.builtin "object.__setattr__"))) && (match takerIn K C x with | some none => true | _ => false)
structure FieldOk (K : Frag) (C : Addr) (x : Str) : Prop where
  pg : plainGet K C x = true
  hd : hasDictIn K C = true
  fi : findIn K (.ref C) x = some none
  po : plainOver K C = true
  sa : findIn K (.ref C) "__setattr__" = some (some (.builtin "object.__setattr__"))
  tk : takerIn K C x = some none
theorem FieldOk.of {K : Frag} {C : Addr} {x : Str} (h : fieldOk K C x = true) : FieldOk K C x := by
  unfold fieldOk at h
  simp only [Bool.and_eq_true, beq_iff_eq] at h
  obtain ⟨⟨⟨⟨⟨a, b⟩, c⟩, d⟩, e⟩, f⟩ := h
  refine ⟨a, b, c, d, e, ?_⟩
  split at f
  · assumption
  · cases f

section
variable {B : Shared} {g : Heap} {env : Env} {vals vals' : Vals} {s : Shared} {news news' : News'} {A : Around} {E : Value → Shared → Prop} {K : Frag} {prog : Program} {w : World} {x C dx : Addr} {es : List DictEntry} {n : Nat} {fs fs' : Vals} {name : Str}
noncomputable abbrev Ob (x C dx : Addr) : Addr × Obj := (x, instObj C dx)
noncomputable abbrev Di (dx : Addr) (es : List DictEntry) (n : Nat) : Addr × Obj := (dx, dictOf es n)
theorem inst_at (hx : s.heap.get? x = some (instObj C dx)) (hd : s.heap.get? dx = some (dictOf es n)) : InstAt s.heap x (instObj C dx) C (some (dictOf es n)) := ⟨hx, rfl, rfl, hd⟩
theorem r_getf {v : Value} {expr : Bool} {Q : Value → Shared → Prop} (S : Sta K g) (D : St B g env vals s news) (hx : s.heap.get? x = some (instObj C dx)) (hd : s.heap.get? dx = some (dictOf es n)) (hf : Has es fs) (ha : At fs name v) (hok : fieldOk K C name = true) (hv : handedIn v = true)
    (k : ∀ s', St B g env vals s' news → Q v s') : wpAny (model prog w) A (getAttr (.ref x) name expr) Q E s := by
  have ok := FieldOk.of hok
  exact get_value (S.X.keeps D.keep) (inst_at hx hd) (plainGet_of ok.pg).1 (findObj_own ok.hd ok.fi rfl (by rw [lookIn_dict]; exact hf.at_ ha)) hv (k _ D.tk1)
inductive Hole (a : Addr) (o : Obj) : News' → (Obj → News') → Prop
  | head {r} : Hole a o ((a, o) :: r) (fun o' => (a, o') :: r)
  | tail {p r f} : Hole a o r f → Hole a o (p :: r) (fun o' => p :: f o')
theorem Hole.upd {a : Addr} {o : Obj} {l : News'} {f : Obj → News'} (h : Hole a o l f) (o' : Obj) : UpdP a o o' l (f o') := by
  induction h with
  | head => exact .head
  | tail _ ih => exact .tail ih
theorem UpdP.toUpd {a : Addr} {o o' : Obj} {l l' : News'} (h : UpdP a o o' l l') (nd : (l.map (·.1)).Pairwise (· > ·)) : Upd a o o' l l' := by
  induction h with
  | head =>
    rw [List.map_cons, List.pairwise_cons] at nd
    exact .head fun p hp => Nat.ne_of_lt (nd.1 _ (List.mem_map_of_mem (f := (·.1)) hp))
  | tail h ih =>
    rw [List.map_cons, List.pairwise_cons] at nd
    exact .tail (Nat.ne_of_gt (nd.1 _ (List.mem_map_of_mem (f := (·.1)) h.keys.2))) (ih nd.2)
theorem r_setf {v : Value} {f : Obj → News'} {Q : Unit → Shared → Prop} (S : Sta K g) (D : St B g env vals s news) (hx : s.heap.get? x = some (instObj C dx)) (U : Hole dx (dictOf es n) news f) (hf : Has es fs) (hp : Put name v fs fs') (hl : Nat.ble fs.length 100 = true) (hok : fieldOk K C name = true)
    (k : ∀ es' n' s', Has es' fs' → St B g env vals s' (f (dictOf es' n')) → Q () s') : wpAny (model prog w) A (setAttr (.ref x) name v) Q E s := by
  have ok := FieldOk.of hok
  obtain ⟨m, L, e⟩ := D.led
  have hd : s.heap.get? dx = some (dictOf es n) := L.nw.get (U.upd (dictOf es n)).keys.2
  have hf' := hf.put (hsh := PyData.keyHash w.params name) (t := s.toks + 1) hp
  have UU := U.upd (dictOf (putL name (PyData.keyHash w.params name) (.str name (s.toks + 1)) v es) (putN name es n))
  have hsz := hf'.size
  have hkl : (fs'.filter (·.2.isSome)).length ≤ fs'.length := List.length_filter_le _ _
  have hkl2 : fs'.length = fs.length := by have := congrArg List.length hp.keys.1; simpa using this
  have hl' := Nat.le_of_ble_eq_true hl
  refine up (set_dict L.fr S.X L.nw (inst_at hx hd) rfl ok.sa ok.po ok.tk ok.hd (by rw [hf.get]; rfl) rfl (UU.toUpd L.ord) (by omega) fun h' F' N' u => ?_)
  exact k _ _ _ hf' (D.to ⟨m, ⟨F', N', UU.ord L.ord⟩, e⟩ rfl u)
/-- a method of the class -/
noncomputable def methOk (K : Frag) (C : Addr) (x : Str) (f : Addr) : Bool := plainGet K C x && (findIn K (.ref C) x == some (some (.ref f))) && isFn K (.ref f)
theorem r_meth {f : Addr} {pl : Sem Bool} {Q : Value × List Value → Shared → Prop} (S : Sta K g) (D : St B g env vals s news) (hx : s.heap.get? x = some (instObj C dx)) (hd : s.heap.get? dx = some (dictOf es n)) (hf : Has es fs) (ha : (fs.map (·.1)).contains name = false) (hok : methOk K C name f = true)
    (k : Q (.ref f, [.ref x]) s) : wpAny (model prog w) A (getMethod (.ref x) name pl) Q E s := by
  unfold methOk at hok
  simp only [Bool.and_eq_true, beq_iff_eq] at hok
  obtain ⟨⟨a, b⟩, c⟩ := hok
  exact method_fn (S.X.keeps D.keep) (inst_at hx hd) (plainGet_of a).1 (plainGet_of a).2 b (beq_iff_eq.mp c) (by show (lookIn name (dictOf es n)).map _ = _; rw [lookIn_dict, hf.none ha]; rfl) k
/-- calls of the text's own defs with a self ahead -/
theorem r_callF {f self : Value} {pos : Pos} {e : Expr} {rest : List Expr} {M : Model} {Q : Value → Shared → Prop} (S : Sta K g) (D : St B g env vals s news) (hk : keepIn K f = true)
    (h : wpAny M A (spliced (backTo pos (starEach (e :: rest) env))) (fun vs s₁ => K.In s₁.heap ∧ wpAny M A (call f (self :: vs)) Q E s₁) E s)
    (he : starEach (e :: rest) env = (false, eval e env) :: starEach rest env := by rfl) (hplain : (backTo pos (starEach rest env)).any (·.1) = false := by rfl) :
    wpAny M A (callWith pos f [self] (backTo pos (starEach (e :: rest) env)) []) Q E s := callWith_K S.X hk h he hplain
theorem r_callF0 {f self : Value} {pos : Pos} {M : Model} {Q : Value → Shared → Prop} (S : Sta K g) (D : St B g env vals s news) (hk : keepIn K f = true) (h : wpAny M A (call f [self]) Q E s) :
    wpAny M A (callWith pos f [self] (backTo pos (starEach [] env)) []) Q E s := callWith_K0 (S.X.keeps D.keep) hk h
/-- a property -/
noncomputable def propOk (K : Frag) (C : Addr) (x : Str) (f : Addr) : Bool := plainGet K C x && hasDictIn K C && (match findIn K (.ref C) x with
  | some (some (.ref p)) => (specialIn K (.ref p) "__get__" == some (some (.builtin "property.__get__"))) && (takesIn K (.ref p) == some true) && (match recIn K p "property" with | some (v :: _) => v == .ref f | _ => false)
  | _ => false)
theorem r_prop {f : Addr} {expr : Bool} {Q : Value → Shared → Prop} (S : Sta K g) (D : St B g env vals s news) (hx : s.heap.get? x = some (instObj C dx)) (hd : s.heap.get? dx = some (dictOf es n)) (hok : propOk K C name f = true)
    (k : ∀ s', St B g env vals s' news → codeAny (model prog w) A.in1 (.call (.ref f) ⟨[.ref x], []⟩) (fun r s' => match r with | .ok (.ret v) => handedIn v = true ∧ Q v s' | _ => False) s') : wpAny (model prog w) A (getAttr (.ref x) name expr) Q E s := by
  unfold propOk at hok
  simp only [Bool.and_eq_true] at hok
  obtain ⟨⟨a, b⟩, c⟩ := hok
  split at c
  · rename_i p hp
    simp only [Bool.and_eq_true, beq_iff_eq] at c
    obtain ⟨⟨c1, c2⟩, c3⟩ := c
    split at c3
    · rename_i v rest hr
      have : v = .ref f := beq_iff_eq.mp c3
      subst this
      have X := S.X.keeps D.keep
      refine get_bind X (inst_at hx hd) (plainGet_of a).1 (findObj_data (by obtain ⟨cd, hc, _⟩ := any_some b; rw [hc]; rfl) hp c1 c2) (plainGet_of a).2 (wpAny_call (prop_get (s := { s with toks := s.toks + 1 }) X hr ?_))
      refine codeAny_mono (k _ (D.tk1 (n := 1))) fun r s' q => ?_
      rcases r with e | (v | _ | _ | _) <;> first | exact q.elim | exact handed_on q.1 q.2
    · cases c3
  · cases c
end

/-! ## contracts that change objects of the caller's -/
section
variable {B : Shared} {g : Heap} {env : Env} {vals vals' : Vals} {s : Shared} {news news' : News'} {A : Around} {E : Value → Shared → Prop} {K : Frag} {prog : Program} {w : World} {n : Nat} {f : Value} {args : List Value}
theorem useOc {pre own post : News'} {P : Value → News' → Prop} {R : Result → Shared → Prop} (C : Fn K prog w n f args own P) (S : Sta K g) (hA : Room A n) (D : St B g env vals s (pre ++ (own ++ post))) (hP : ∀ v own', P v own' → own'.map (·.1) = own.map (·.1))
    (k : ∀ v own' s', P v own' → St B g env vals s' (pre ++ (own' ++ post)) → R (.ok (.ret v)) s') : codeAny (model prog w) A (.call f ⟨args, []⟩) R s := by
  have hs : own.Sublist (pre ++ (own ++ post)) := (List.sublist_append_left own post).trans (List.sublist_append_right pre _)
  obtain ⟨m, L, e⟩ := D.led
  have ho := L.ord
  rw [List.map_append, List.map_append, List.pairwise_append, List.pairwise_append] at ho
  obtain ⟨o1, ⟨o2, o3, o4⟩, o5⟩ := ho
  refine C (D.sta S hs) hA (D.own hs) fun v s' own' hp O hnew r u => k v own' s' hp (D.after (own := own) (fun p hp => hs.subset hp) O r u (fun p hq => ?_) ?_)
  · rcases List.mem_append.mp hq with hq | hq
    · refine .inr ⟨List.mem_append_left _ hq, fun z => ?_⟩
      exact absurd (o5 _ (List.mem_map_of_mem hq) _ (List.mem_append_left _ z)) (Nat.lt_irrefl _)
    · rcases List.mem_append.mp hq with hq | hq
      · have hk : p.1 ∈ own.map (·.1) := by rw [← hP v own' hp]; exact List.mem_map_of_mem hq
        obtain ⟨q, hq2, e2⟩ := List.mem_map.mp hk
        have z := L.nw q (hs.subset hq2)
        rw [e2] at z
        exact .inl ⟨hq, z.2.2, z.2.1⟩
      · refine .inr ⟨List.mem_append_right _ (List.mem_append_right _ hq), fun z => ?_⟩
        exact absurd (o4 _ z _ (List.mem_map_of_mem hq)) (Nat.lt_irrefl _)
  · have := L.ord
    rw [List.map_append, List.map_append] at this ⊢
    rw [hP v own' hp]; exact this
theorem useO {pre own post : News'} {P : Value → News' → Prop} {Q : Value → Shared → Prop} (C : Fn K prog w n f args own P) (S : Sta K g) (hA : Room A n) (D : St B g env vals s (pre ++ (own ++ post))) (hP : ∀ v own', P v own' → own'.map (·.1) = own.map (·.1))
    (k : ∀ v own' s', P v own' → St B g env vals s' (pre ++ (own' ++ post)) → Q v s') : wpAny (model prog w) A (call f args []) Q E s :=
  wpAny_call (useOc C S hA D hP k)
end
section
variable {s : Shared} {A : Around} {E : Value → Shared → Prop} {prog : Program} {w : World} {Q : Value → Shared → Prop}
theorem q_type_int {i : Int} {t : Tok} (h : Q (.type "int") s) : wpAny (model prog w) A (call (.type "type") [.int i t]) Q E s := by
  obtain ⟨hh, g, d, tk, os⟩ := s
  exact call_type_of (Tx := "int") rfl (by decide +kernel) h
theorem q_type_str {x : Str} {t : Tok} (h : Q (.type "str") s) : wpAny (model prog w) A (call (.type "type") [.str x t]) Q E s := by
  obtain ⟨hh, g, d, tk, os⟩ := s
  exact call_type_of (Tx := "str") rfl (by decide +kernel) h
end
theorem hd_str {x : Str} {t : Tok} : handedIn (.str x t) = true := rfl
theorem hd_int {x : Int} {t : Tok} : handedIn (.int x t) = true := rfl
theorem hd_ref {x : Addr} : handedIn (.ref x) = true := rfl
theorem hd_bool {x : Bool} : handedIn (.bool x) = true := rfl
theorem hd_none : handedIn .none = true := rfl
section
variable {B : Shared} {g : Heap} {env : Env} {vals vals' : Vals} {s : Shared} {news news' : News'} {A : Around} {E : Value → Shared → Prop} {K : Frag} {prog : Program} {w : World} {n : Nat} {f : Value} {args : List Value}
theorem useRc {rd : News'} {post : Value → News' → Prop} {R : Result → Shared → Prop} (C : FnR K prog w n f args rd post) (S : Sta K g) (hA : Room A n) (D : St B g env vals s news) (hr : ∀ p ∈ rd, s.heap.get? p.1 = some p.2)
    (k : ∀ v own' s', post v own' → (∀ p ∈ own', B.heap.objs.size ≤ p.1) → St B g env vals s' (own' ++ news) → R (.ok (.ret v)) s') : codeAny (model prog w) A (.call f ⟨args, []⟩) R s := by
  have hs : ([] : News').Sublist news := List.nil_sublist _
  obtain ⟨m, L, e⟩ := D.led
  refine C (D.sta S hs) hA (D.own hs) (fun p hp => hideAll_get _ (hr p hp) (by simp)) fun v s' own' hp O hnew r u => k v own' s' hp (fun p hp => Nat.le_trans D.up.2 ((hnew p hp).resolve_left fun z => nomatch z)) (D.after (own := []) (fun p hp => nomatch hp) O r u (fun p hp => ?_) ?_)
  · rcases List.mem_append.mp hp with hp | hp
    · have hge : s.heap.objs.size ≤ p.1 := (hnew p hp).resolve_left fun z => nomatch z
      refine .inl ⟨hp, ?_, fun q => ?_⟩
      · cases q : g.get? p.1 with
        | none => rfl
        | some o => exact absurd (Heap.lt_size (L.fr.keep _ _ q)) (Nat.not_lt.mpr hge)
      · have := L.fr.ns.lt; rw [← q] at this; exact absurd this (Nat.not_lt.mpr hge)
    · exact .inr ⟨hp, fun z => nomatch z⟩
  · rw [List.map_append]
    refine List.pairwise_append.mpr ⟨O.ord, L.ord, fun a ha b hb => ?_⟩
    obtain ⟨p, hp, rfl⟩ := List.mem_map.mp ha
    obtain ⟨q, hq, rfl⟩ := List.mem_map.mp hb
    have hge : s.heap.objs.size ≤ p.1 := (hnew p hp).resolve_left fun z => nomatch z
    exact Nat.lt_of_lt_of_le (Heap.lt_size (L.nw q hq).1) hge
end

end
section
/-! ## what an expression gives, without what comes behind it (no continuation is carried: the terms stay small) -/
theorem At.a1 {p0 r x v} : At (p0 :: (x, some v) :: r) x v := .tail .head
theorem At.a2 {p0 p1 r x v} : At (p0 :: p1 :: (x, some v) :: r) x v := .tail At.a1
theorem At.a3 {p0 p1 p2 r x v} : At (p0 :: p1 :: p2 :: (x, some v) :: r) x v := .tail At.a2
theorem At.a4 {p0 p1 p2 p3 r x v} : At (p0 :: p1 :: p2 :: p3 :: (x, some v) :: r) x v := .tail At.a3
theorem At.a5 {p0 p1 p2 p3 p4 r x v} : At (p0 :: p1 :: p2 :: p3 :: p4 :: (x, some v) :: r) x v := .tail At.a4
theorem At.a6 {p0 p1 p2 p3 p4 p5 r x v} : At (p0 :: p1 :: p2 :: p3 :: p4 :: p5 :: (x, some v) :: r) x v := .tail At.a5
theorem At.a7 {p0 p1 p2 p3 p4 p5 p6 r x v} : At (p0 :: p1 :: p2 :: p3 :: p4 :: p5 :: p6 :: (x, some v) :: r) x v := .tail At.a6
structure Cx where
  prog : Program
  w : World
  A : Around
  E : Value → Shared → Prop
  B : Shared
  g : Heap
  env : Env
noncomputable def VI (a : Int) (v : Value) : Prop := ∃ t, v = .int a t
noncomputable def VS (l : List Nat) (v : Value) : Prop := ∃ t, v = .str (T l) t
noncomputable def VX (u : Value) (v : Value) : Prop := v = u
theorem isVI {a : Int} {t : Tok} : VI a (.int a t) := ⟨t, rfl⟩
theorem isVS {l : List Nat} {t : Tok} : VS l (.str (T l) t) := ⟨t, rfl⟩
theorem isVX {v : Value} : VX v v := rfl
noncomputable def Ev (c : Cx) (vals : Vals) (news : News') (e : Expr) (P : Value → Prop) : Prop := ∀ (s : Shared) (Q : Value → Shared → Prop), St c.B c.g c.env vals s news → (∀ v s', P v → St c.B c.g c.env vals s' news → Q v s') → wpAny (model c.prog c.w) c.A (eval e c.env) Q c.E s
noncomputable def Tv (c : Cx) (vals : Vals) (news : News') (e : Expr) (b : Bool) : Prop := ∀ (s : Shared) (Q : Bool → Shared → Prop), St c.B c.g c.env vals s news → (∀ s', St c.B c.g c.env vals s' news → Q b s') → wpAny (model c.prog c.w) c.A (isTrue e c.env (eval e c.env)) Q c.E s
/-- an operation on the two sides' values -/
noncomputable def Cmp (P1 : Value → Prop) (op : CmpOp) (P2 : Value → Prop) (b : Bool) : Prop := ∀ (prog : Program) (w : World) (A : Around) (E : Value → Shared → Prop) (s : Shared) (Q : Value → Shared → Prop) (v1 v2 : Value), P1 v1 → P2 v2 → Q (.bool b) s → wpAny (model prog w) A (compareOp op v1 v2) Q E s
noncomputable def Bin (P1 : Value → Prop) (op : Operator) (P2 P : Value → Prop) : Prop := ∀ (prog : Program) (w : World) (A : Around) (E : Value → Shared → Prop) (B : Shared) (g : Heap) (env : Env) (vals : Vals) (news : News') (s : Shared) (Q : Value → Shared → Prop) (v1 v2 : Value), P1 v1 → P2 v2 → St B g env vals s news →
  (∀ v s', P v → St B g env vals s' news → Q v s') → wpAny (model prog w) A (binaryOp op v1 v2) Q E s
noncomputable def Inp (P1 : Value → Prop) (op : Operator) (P2 P : Value → Prop) : Prop := ∀ (prog : Program) (w : World) (A : Around) (E : Value → Shared → Prop) (B : Shared) (g : Heap) (env : Env) (vals : Vals) (news : News') (s : Shared) (Q : Value → Shared → Prop) (v1 v2 : Value), P1 v1 → P2 v2 → St B g env vals s news →
  (∀ v s', P v → St B g env vals s' news → Q v s') → wpAny (model prog w) A (inplaceOp op v1 v2) Q E s
/-- a call of a built-in with one argument, or a test, at a value, the heap's own objects known -/
noncomputable def One (c : Cx) (vals : Vals) (news : News') (id : String) (P1 P : Value → Prop) : Prop := ∀ (s : Shared) (Q : Value → Shared → Prop) (v1 : Value), P1 v1 → St c.B c.g c.env vals s news → (∀ v s', P v → St c.B c.g c.env vals s' news → Q v s') → wpAny (model c.prog c.w) c.A (call (.builtin id) [v1]) Q c.E s
noncomputable def Tru (c : Cx) (vals : Vals) (news : News') (P1 : Value → Prop) (b : Bool) : Prop := ∀ (s : Shared) (Q : Bool → Shared → Prop) (v1 : Value), P1 v1 → St c.B c.g c.env vals s news → (∀ s', St c.B c.g c.env vals s' news → Q b s') → wpAny (model c.prog c.w) c.A (truthy v1) Q c.E s
/-- an object that stands in every state with this ledger -/
noncomputable def In (c : Cx) (vals : Vals) (news : News') (a : Addr) (o : Obj) : Prop := ∀ s, St c.B c.g c.env vals s news → s.heap.get? a = some o
section
variable {c : Cx} {vals : Vals} {news : News'}
theorem In.new {a : Addr} {o : Obj} (h : (a, o) ∈ news) : In c vals news a o := fun _ D => D.get h
theorem In.old {a : Addr} {o : Obj} (h : c.g.get? a = some o) : In c vals news a o := fun _ D => D.keep _ _ h
theorem ev_name {x : Str} {p : Pos} {v : Value} {P : Value → Prop} (hx : At vals x v) (hP : P v) : Ev c vals news (.Name x p) P := fun _ _ D k => r_ld D hx (k _ _ hP D)
theorem ev_int {n : Int} {i : Nat} {p : Pos} : Ev c vals news (.Constant (.int n) i p) (VI n) := fun _ _ D k => r_int D fun _ _ D' => k _ _ isVI D'
theorem ev_str {x : Str} {l : List Nat} {i : Nat} {p : Pos} (hl : x = T l) : Ev c vals news (.Constant (.str x) i p) (VS l) := fun _ _ D k => q_str D hl fun _ _ D' => k _ _ isVS D'
theorem ev_none {i : Nat} {p : Pos} : Ev c vals news (.Constant .none i p) (VX .none) := fun _ _ D k => wpAny_Constant_none (k _ _ isVX D)
theorem ev_bool {b : Bool} {i : Nat} {p : Pos} : Ev c vals news (.Constant (.bool b) i p) (VX (.bool b)) := fun _ _ D k => wpAny_Constant_bool (k _ _ isVX D)
theorem ev_bin {e1 e2 : Expr} {op : Operator} {p : Pos} {P1 P2 P : Value → Prop} (h1 : Ev c vals news e1 P1) (h2 : Ev c vals news e2 P2) (h : Bin P1 op P2 P) : Ev c vals news (.BinOp e1 op e2 p) P := fun s Q D k =>
  wpAny_BinOp (h1 s _ D fun _ _ p1 D1 => h2 _ _ D1 fun _ _ p2 D2 => h _ _ _ _ _ _ _ _ _ _ _ _ _ p1 p2 D2 k)
theorem ev_neg {e : Expr} {p : Pos} {a : Int} (h : Ev c vals news e (VI a)) : Ev c vals news (.UnaryOp .USub e p) (VI (-a)) := fun s Q D k =>
  r_unary (h s _ D fun v _ p1 D1 => by obtain ⟨t, rfl⟩ := p1; exact r_neg_int D1 fun _ _ D2 => k _ _ isVI D2)
theorem tv_cmp {e1 e2 : Expr} {op : CmpOp} {p : Pos} {P1 P2 : Value → Prop} {b : Bool} (h1 : Ev c vals news e1 P1) (h2 : Ev c vals news e2 P2) (h : Cmp P1 op P2 b) (hm : behindInMarks op e2 = false) : Tv c vals news (.Compare e1 [op] [e2] p) b := fun s Q D k =>
  wpAny_isTrue_Compare1 (h1 s _ D fun _ _ p1 D1 => h2 _ _ D1 fun _ _ p2 D2 => h _ _ _ _ _ _ _ _ p1 p2 (wpAny_truthy_bool (k _ D2))) hm
theorem ev_cmp {e1 e2 : Expr} {op : CmpOp} {p : Pos} {P1 P2 : Value → Prop} {b : Bool} (h1 : Ev c vals news e1 P1) (h2 : Ev c vals news e2 P2) (h : Cmp P1 op P2 b) (hm : behindInMarks op e2 = false) : Ev c vals news (.Compare e1 [op] [e2] p) (VX (.bool b)) := fun s Q D k =>
  wpAny_Compare1 (h1 s _ D fun _ _ p1 D1 => h2 _ _ D1 fun _ _ p2 D2 => h _ _ _ _ _ _ _ _ p1 p2 (k _ _ isVX D2)) hm
theorem tv_not {e : Expr} {p : Pos} {b : Bool} (h : Tv c vals news e b) : Tv c vals news (.UnaryOp .Not e p) (!b) := fun s Q D k => isTrue_not (h s _ D k)
theorem tv_val {e : Expr} {P : Value → Prop} {b : Bool} (h : Ev c vals news e P) (ht : Tru c vals news P b) (he : isTrue e c.env (eval e c.env) = (do let v ← eval e c.env; standAt e.pos; holding [v] (truthy v))) : Tv c vals news e b := fun s Q D k =>
  wpAny_isTrue_value (h s _ D fun _ _ p1 D1 => ht _ _ _ p1 D1 k) he
theorem ev_one {K : Frag} {gl : List (Str × Value)} {e : Expr} {id : String} {f : Str} {p1 p2 : Pos} {P1 P : Value → Prop} (S : Sta K c.g) (H : Glo K c.env gl) (hf : (f, .builtin id) ∈ gl) (h : Ev c vals news e P1) (ho : One c vals news id P1 P)
    (h1 : eval (.Call (.Name f p1) [e] [] p2) c.env = (do callWith p2 (← eval (.Name f p1) c.env) [] (backTo p2 (starEach [e] c.env)) (backToKw p2 (keywordEach [] c.env))))
    (h2 : starEach [e] c.env = (false, eval e c.env) :: starEach [] c.env) : Ev c vals news (.Call (.Name f p1) [e] [] p2) P := fun s Q D k =>
  PyProof.Rows.Call_ (r_gl S H D hf (PyProof.Rows.callWith_builtin1 (spliced_more (h s _ D fun _ _ p1 D1 => spliced_none (ho _ _ _ p1 D1 k)) h2) h2 rfl)) h1
theorem one_len_s {l : List Nat} (hz : l.length ≤ 16777216) : One c vals news "len" (VS l) (VI l.length) := fun _ _ v p D k => by obtain ⟨t, rfl⟩ := p; exact q_len D hz fun _ _ D' => k _ _ isVI D'
theorem one_len_l {a : Addr} {us : List Value} {n : Nat} (hi : In c vals news a (Lo us n)) (hz : us.length ≤ 16777216) : One c vals news "len" (VX (.ref a)) (VI us.length) := fun _ _ v p D k => by cases p; exact r_len_list D (hi _ D) hz fun _ _ D' => k _ _ isVI D'
theorem tru_b {b : Bool} : Tru c vals news (VX (.bool b)) b := fun _ _ v p D k => by cases p; exact wpAny_truthy_bool (k _ D)
theorem tru_s {l : List Nat} (hz : l.length ≤ 16777216) : Tru c vals news (VS l) (!decide (l = [])) := fun _ _ v p D k => by obtain ⟨t, rfl⟩ := p; exact q_truthy D hz k
theorem tru_l {a : Addr} {us : List Value} {n : Nat} (hi : In c vals news a (Lo us n)) (hz : us.length ≤ 16777216) : Tru c vals news (VX (.ref a)) (!decide (us = [])) := fun _ _ v p D k => by cases p; exact r_truthy_list D (hi _ D) hz k
/-! fields -/
theorem ev_field {K : Frag} {self f : Str} {p1 p2 : Pos} {x C dx : Addr} {es : List DictEntry} {n : Nat} {fs : Vals} {v : Value} {P : Value → Prop} (S : Sta K c.g) (h0 : At vals self (.ref x)) (hx : In c vals news x (instObj C dx)) (hd : In c vals news dx (dictOf es n)) (hf : Has es fs) (ha : At fs f v)
    (hok : fieldOk K C f = true) (hv : handedIn v = true) (hP : P v) : Ev c vals news (.Attribute (.Name self p1) f p2) P := fun s Q D k =>
  Attribute_name (r_ld D h0 (r_getf S D (hx _ D) (hd _ D) hf ha hok hv fun _ D' => k _ _ hP D'))
end
/-! the operations -/
theorem cmp_lt {a b : Int} : Cmp (VI a) .Lt (VI b) (decide (a < b)) := fun _ _ _ _ _ _ _ _ p1 p2 h => by obtain ⟨_, rfl⟩ := p1; obtain ⟨_, rfl⟩ := p2; exact lt_int h
theorem cmp_gt {a b : Int} : Cmp (VI a) .Gt (VI b) (decide (b < a)) := fun _ _ _ _ _ _ _ _ p1 p2 h => by obtain ⟨_, rfl⟩ := p1; obtain ⟨_, rfl⟩ := p2; exact gt_int h
theorem cmp_le {a b : Int} : Cmp (VI a) .LtE (VI b) (decide (a ≤ b)) := fun _ _ _ _ _ _ _ _ p1 p2 h => by obtain ⟨_, rfl⟩ := p1; obtain ⟨_, rfl⟩ := p2; exact le_int h
theorem cmp_ge {a b : Int} : Cmp (VI a) .GtE (VI b) (decide (b ≤ a)) := fun _ _ _ _ _ _ _ _ p1 p2 h => by obtain ⟨_, rfl⟩ := p1; obtain ⟨_, rfl⟩ := p2; exact ge_int h
theorem cmp_eqi {a b : Int} : Cmp (VI a) .Eq (VI b) (a == b) := fun _ _ _ _ _ _ _ _ p1 p2 h => by obtain ⟨_, rfl⟩ := p1; obtain ⟨_, rfl⟩ := p2; exact eq_int h
theorem cmp_nei {a b : Int} : Cmp (VI a) .NotEq (VI b) (a != b) := fun _ _ _ _ _ _ _ _ p1 p2 h => by obtain ⟨_, rfl⟩ := p1; obtain ⟨_, rfl⟩ := p2; exact ne_int h
theorem cmp_eqs {a b : List Nat} : Cmp (VS a) .Eq (VS b) (decide (a = b)) := fun _ _ _ _ _ _ _ _ p1 p2 h => by obtain ⟨_, rfl⟩ := p1; obtain ⟨_, rfl⟩ := p2; exact q_eq h
theorem cmp_nes {a b : List Nat} : Cmp (VS a) .NotEq (VS b) (!decide (a = b)) := fun _ _ _ _ _ _ _ _ p1 p2 h => by obtain ⟨_, rfl⟩ := p1; obtain ⟨_, rfl⟩ := p2; exact q_ne h
theorem cmp_in {y : Nat} {b : List Nat} : Cmp (VS [y]) .In (VS b) (decide (y ∈ b)) := fun _ _ _ _ _ _ _ _ p1 p2 h => by obtain ⟨_, rfl⟩ := p1; obtain ⟨_, rfl⟩ := p2; exact q_in h
theorem cmp_notin {y : Nat} {b : List Nat} : Cmp (VS [y]) .NotIn (VS b) (!decide (y ∈ b)) := fun _ _ _ _ _ _ _ _ p1 p2 h => by obtain ⟨_, rfl⟩ := p1; obtain ⟨_, rfl⟩ := p2; exact q_notin h
theorem bin_addi {a b : Int} : Bin (VI a) .Add (VI b) (VI (a + b)) := fun _ _ _ _ _ _ _ _ _ _ _ _ _ p1 p2 D k => by obtain ⟨_, rfl⟩ := p1; obtain ⟨_, rfl⟩ := p2; exact r_add_int D fun _ _ D' => k _ _ isVI D'
theorem bin_subi {a b : Int} : Bin (VI a) .Sub (VI b) (VI (a - b)) := fun _ _ _ _ _ _ _ _ _ _ _ _ _ p1 p2 D k => by obtain ⟨_, rfl⟩ := p1; obtain ⟨_, rfl⟩ := p2; exact r_sub_int D fun _ _ D' => k _ _ isVI D'
theorem bin_div {a b : Int} (hb : 0 < b ∧ b < 1000000000) : Bin (VI a) .FloorDiv (VI b) (VI (a / b)) := fun _ _ _ _ _ _ _ _ _ _ _ _ _ p1 p2 D k => by obtain ⟨_, rfl⟩ := p1; obtain ⟨_, rfl⟩ := p2; exact q_div D hb fun _ _ D' => k _ _ isVI D'
theorem bin_mod {a b : Int} (hb : 0 < b) : Bin (VI a) .Mod (VI b) (VI (a % b)) := fun _ _ _ _ _ _ _ _ _ _ _ _ _ p1 p2 D k => by obtain ⟨_, rfl⟩ := p1; obtain ⟨_, rfl⟩ := p2; exact q_mod D hb fun _ _ D' => k _ _ isVI D'
theorem bin_adds {a b : List Nat} (hz : a.length + b.length ≤ 16777216) : Bin (VS a) .Add (VS b) (VS (a ++ b)) := fun _ _ _ _ _ _ _ _ _ _ _ _ _ p1 p2 D k => by obtain ⟨_, rfl⟩ := p1; obtain ⟨_, rfl⟩ := p2; exact q_add D hz fun _ _ D' => k _ _ isVS D'
theorem inp_addi {a b : Int} : Inp (VI a) .Add (VI b) (VI (a + b)) := fun _ _ _ _ _ _ _ _ _ _ _ _ _ p1 p2 D k => by obtain ⟨_, rfl⟩ := p1; obtain ⟨_, rfl⟩ := p2; exact r_iadd_int D fun _ _ D' => k _ _ isVI D'
theorem inp_adds {a b : List Nat} (hz : a.length + b.length ≤ 16777216) : Inp (VS a) .Add (VS b) (VS (a ++ b)) := fun _ _ _ _ _ _ _ _ _ _ _ _ _ p1 p2 D k => by obtain ⟨_, rfl⟩ := p1; obtain ⟨_, rfl⟩ := p2; exact q_iadd D hz fun _ _ D' => k _ _ isVS D'
section
variable {c : Cx} {vals : Vals} {news : News'}
/-! texts' items and slices -/
theorem ev_item {x : Str} {p1 p2 : Pos} {e : Expr} {l : List Nat} {t : Tok} {i : Int} {y : Nat} (hx : At vals x (.str (T l) t)) (h : Ev c vals news e (VI i)) (h0 : 0 ≤ i) (hc : l[i.toNat]? = some y) (hz : l.length ≤ 16777216)
    (h1 : ∀ u : Tok, subscripted e false (.str (T l) t) (.int i u) = operate [.str (T l) t, .int i u] (getItem (.str (T l) t) (.int i u)))
    : Ev c vals news (.Subscript (.Name x p1) e p2) (VS [y]) := fun s Q D k =>
  Subscript_ (r_ld D hx (h s _ D fun v _ p D' => by obtain ⟨u, rfl⟩ := p; exact q_item D' h0 hc hz (fun _ _ D2 => k _ _ isVS D2) (h1 u) temporary_name))
theorem ev_slice_ak {x : Str} {p1 p2 p3 p4 p5 : Pos} {e1 e2 : Expr} {l r : List Nat} {t : Tok} {i j z : Int} {a m n : Nat} (hx : At vals x (.str (T l) t)) (h1 : Ev c vals news e1 (VI i)) (h2 : Ev c vals news e2 (VI j)) (hm : Int.ofNat m = z) (hri : l.drop a = r ∧ i = a) (hj : j = a) (h : a ≤ l.length) (hz : l.length ≤ 16777216) :
    Ev c vals news (.Subscript (.Name x p1) (.Slice (some e1) (some (.BinOp e2 .Add (.Constant (.int z) n p4) p5)) none p3) p2) (VS (r.take m)) := fun s Q D k =>
  r_slice (r_ld D hx (evalPart_some_step (h1 s _ D fun v _ q D1 => by
    obtain ⟨u, rfl⟩ := q
    exact evalPart_some_step (ev_bin h2 ev_int bin_addi _ _ D1 fun v _ q D2 => by obtain ⟨u', rfl⟩ := q; exact evalPart_none_step (q_slice_ak D2 a m hri.1 hri.2 (by rw [hj, ← hm]; rfl) h hz (fun _ _ D3 => k _ _ isVS D3) subscripted_slice temporary_name)))))
end
/-! where they are used -/
section
variable {B : Shared} {g : Heap} {env : Env} {vals : Vals} {s : Shared} {news : News'} {A : Around} {E : Value → Shared → Prop} {prog : Program} {w : World} {f : Value → Vals}
theorem t_in {e : Expr} {b : Bool} {Q : Bool → Shared → Prop} (D : St B g env vals s news) (h : Tv ⟨prog, w, A, E, B, g, env⟩ vals news e b) (k : ∀ s', St B g env vals s' news → Q b s') : wpAny (model prog w) A (isTrue e env (eval e env)) Q E s := h s Q D k
theorem e_in {e : Expr} {P : Value → Prop} {Q : Value → Shared → Prop} (D : St B g env vals s news) (h : Ev ⟨prog, w, A, E, B, g, env⟩ vals news e P) (k : ∀ v, P v → ∀ s', St B g env vals s' news → Q v s') : wpAny (model prog w) A (eval e env) Q E s := h s Q D fun v s' p => k v p s'
theorem of_i {a : Int} {R : Value → Prop} (k : ∀ t, R (.int a t)) : ∀ v, VI a v → R v := fun _ p => by obtain ⟨t, rfl⟩ := p; exact k t
theorem of_s {l : List Nat} {R : Value → Prop} (k : ∀ t, R (.str (T l) t)) : ∀ v, VS l v → R v := fun _ p => by obtain ⟨t, rfl⟩ := p; exact k t
theorem of_x {u : Value} {R : Value → Prop} (k : R u) : ∀ v, VX u v → R v := fun _ p => by cases p; exact k
theorem a_ev {x : Str} {e : Expr} {p r : Pos} {P : Value → Prop} {Q : Flow → Shared → Prop} (D : St B g env vals s news) (h : Ev ⟨prog, w, A, E, B, g, env⟩ vals news e P) (hp : PutF x vals f) (hs : swapsWith e (some (.Name x p)) r.line env = pure false)
    (k : ∀ v, P v → ∀ s', St B g env (f v) s' news → Q .next s') : wpAny (model prog w) A (exec (.Assign [.Name x p] e r) env) Q E s :=
  r_assign (h s _ D fun v _ pv D' => r_st D' (hp.put _) fun s'' D'' => k v pv s'' D'') hs
theorem g_ev {x : Str} {e : Expr} {op : Operator} {p r : Pos} {v0 : Value} {P0 P1 P : Value → Prop} {Q : Flow → Shared → Prop} (D : St B g env vals s news) (hx : At vals x v0) (h0 : P0 v0) (h : Ev ⟨prog, w, A, E, B, g, env⟩ vals news e P1) (hi : Inp P0 op P1 P) (hp : PutF x vals f)
    (k : ∀ v, P v → ∀ s', St B g env (f v) s' news → Q .next s') : wpAny (model prog w) A (exec (.AugAssign (.Name x p) op e r) env) Q E s :=
  wpAny_AugAssign_Name (r_ldn D hx (h s _ D fun v _ pv D' => hi _ _ _ _ _ _ _ _ _ _ _ _ _ h0 pv D' fun u _ pu D2 => r_st D2 (hp.put _) fun s'' D'' => k u pu s'' D''))
/-- a field's store -/
theorem s_ev {K : Frag} {self fn : Str} {e : Expr} {p1 p2 r : Pos} {x C dx : Addr} {es : List DictEntry} {n : Nat} {fs : Vals} {P : Value → Prop} {F : Value → Vals} {fo : Obj → News'} {Q : Flow → Shared → Prop} (S : Sta K g) (D : St B g env vals s news)
    (h : Ev ⟨prog, w, A, E, B, g, env⟩ vals news e P) (h0 : At vals self (.ref x)) (hx : In ⟨prog, w, A, E, B, g, env⟩ vals news x (instObj C dx)) (U : Hole dx (dictOf es n) news fo) (hf : Has es fs) (hp : PutF fn fs F) (hl : Nat.ble fs.length 100 = true) (hok : fieldOk K C fn = true)
    (hs : swapsWith e (some (.Attribute (.Name self p1) fn p2)) r.line env = pure false)
    (k : ∀ v, P v → ∀ es' n' s', Has es' (F v) → St B g env vals s' (fo (dictOf es' n')) → Q .next s') : wpAny (model prog w) A (exec (.Assign [.Attribute (.Name self p1) fn p2] e r) env) Q E s :=
  plainObj_wpAny_Assign_Attribute (h s _ D fun u _ pu D1 => r_ld D1 h0 (r_setf S D1 (hx _ D1) U hf (hp.put _) hl hok (k u pu))) hs
end
/-! tests in a written tuple -/
section
variable {c : Cx} {vals : Vals} {news : News'}
theorem tv_in2 {e : Expr} {x y : Str} {i j k : Nat} {q1 q2 q3 r : Pos} {l m1 m2 : List Nat} (h : Ev c vals news e (VS l)) (h1 : x = T m1) (h2 : y = T m2) :
    Tv c vals news (.Compare e [.In] [.Tuple [.Constant (.str x) i q1, .Constant (.str y) j q2] k q3] r) (decide (l ∈ [m1, m2])) := fun s Q D k =>
  wpAny_isTrue_Compare1 (h s _ D fun v _ p D0 => by
    obtain ⟨t, rfl⟩ := p
    exact Tuple_ (spliced_more (q_str D0 h1 fun _ _ D1 => spliced_more (q_str D1 h2 fun _ _ D2 => spliced_none (r_newtuple D2 (Nat.le_of_ble_eq_true rfl) fun _ _ _ D3 => r_in_tup_str D3 (.cons (.cons .nil)) fun _ D4 => wpAny_truthy_bool (k _ D4))) rfl) rfl)) rfl
theorem ev_item_d {x : Str} {p1 p2 : Pos} {e : Expr} {l r : List Nat} {t : Tok} {i : Int} {y a : Nat} (hx : At vals x (.str (T l) t)) (h : Ev c vals news e (VI i)) (hri : l.drop a = y :: r ∧ i = a) (hz : l.length ≤ 16777216)
    (h1 : ∀ u : Tok, subscripted e false (.str (T l) t) (.int i u) = operate [.str (T l) t, .int i u] (getItem (.str (T l) t) (.int i u))) : Ev c vals news (.Subscript (.Name x p1) e p2) (VS [y]) :=
  ev_item hx h (by rw [hri.2]; exact Int.natCast_nonneg _) (drop_ai hri.2 hri.1) hz h1
end
/-! a long post as a variable -/
structure Ab {α : Type} (Q1 Q : α → Shared → Prop) : Prop where
  go : ∀ v s, Q v s → Q1 v s
section
variable {M : Model} {A : Around} {env : Env} {E : Value → Shared → Prop} {s : Shared}
theorem ab {α : Type} {t : Sem α} {Q : α → Shared → Prop} (h : ∀ Q1 : α → Shared → Prop, Ab Q1 Q → wpAny M A t Q1 E s) : wpAny M A t Q E s := h Q ⟨fun _ _ x => x⟩
theorem ab_go {α : Type} {Q1 Q : α → Shared → Prop} {v : α} (h : Ab Q1 Q) (k : Q v s) : Q1 v s := h.go v s k
theorem ab_If {test : Expr} {body orelse : List Stmt} {pos : Pos} {Q : Flow → Shared → Prop}
    (h : ∀ Q1 : Bool → Shared → Prop, Ab Q1 (fun b s₂ => if b then wpAny M A (execs body env) Q E s₂ else wpAny M A (execs orelse env) Q E s₂) → wpAny M A (isTrue test env (eval test env)) Q1 E s) :
    wpAny M A (exec (.If test body orelse pos) env) Q E s := wpAny_If (h _ ⟨fun _ _ x => x⟩)
theorem ab_Subscript {value slice : Expr} {pos : Pos} {Q : Value → Shared → Prop} (h : ∀ Q1 : Value → Shared → Prop, Ab Q1 Q → wpAny M A (eval (.Subscript value slice pos) env) Q1 E s) : wpAny M A (eval (.Subscript value slice pos) env) Q E s := ab h
end
/-! a call's arguments -/
section
variable {B : Shared} {g : Heap} {env : Env} {vals : Vals} {s : Shared} {news : News'} {A : Around} {E : Value → Shared → Prop} {prog : Program} {w : World}
theorem spl_name {x : Str} {p : Pos} {rest : List Expr} {pos : Pos} {v : Value} {Q : List Value → Shared → Prop} (D : St B g env vals s news) (hx : At vals x v) (k : wpAny (model prog w) A (spliced (backTo pos (starEach rest env))) (fun vs s₂ => Q (v :: vs) s₂) E s) :
    wpAny (model prog w) A (spliced (backTo pos (starEach (.Name x p :: rest) env))) Q E s := spliced_more (r_ld D hx k) rfl
theorem spl_last {x : Str} {p : Pos} {pos : Pos} {v : Value} {Q : List Value → Shared → Prop} (D : St B g env vals s news) (hx : At vals x v) (k : Q [v] s) :
    wpAny (model prog w) A (spliced (backTo pos (starEach [.Name x p] env))) Q E s := spliced_more (r_ld D hx (spliced_none k)) rfl
theorem spl_str {x : Str} {i : Nat} {p : Pos} {rest : List Expr} {pos : Pos} {l : List Nat} {Q : List Value → Shared → Prop} (D : St B g env vals s news) (hl : x = T l)
    (k : ∀ t s', St B g env vals s' news → wpAny (model prog w) A (spliced (backTo pos (starEach rest env))) (fun vs s₂ => Q (.str (T l) t :: vs) s₂) E s') :
    wpAny (model prog w) A (spliced (backTo pos (starEach (.Constant (.str x) i p :: rest) env))) Q E s := spliced_more (q_str D hl k) rfl
theorem spl_int {n : Int} {i : Nat} {p : Pos} {rest : List Expr} {pos : Pos} {Q : List Value → Shared → Prop} (D : St B g env vals s news)
    (k : ∀ t s', St B g env vals s' news → wpAny (model prog w) A (spliced (backTo pos (starEach rest env))) (fun vs s₂ => Q (.int n t :: vs) s₂) E s') :
    wpAny (model prog w) A (spliced (backTo pos (starEach (.Constant (.int n) i p :: rest) env))) Q E s := spliced_more (r_int D k) rfl
theorem ab_spl {M : Model} {e : Expr} {rest : List Expr} {pos : Pos} {Q : List Value → Shared → Prop} (h : ∀ Q1 : Value → Shared → Prop, Ab Q1 (fun v s₁ => wpAny M A (spliced (backTo pos (starEach rest env))) (fun vs s₂ => Q (v :: vs) s₂) E s₁) → wpAny M A (eval e env) Q1 E s)
    (he : starEach (e :: rest) env = (false, eval e env) :: starEach rest env) : wpAny M A (spliced (backTo pos (starEach (e :: rest) env))) Q E s := spliced_more (h _ ⟨fun _ _ x => x⟩) he
end

end
section
/-! ## the driver's rows as text: «NAME args|holes' closers|tail»; a text that opens with % is a tactic's tree written out -/
def wT (k : String) (a : Array Lean.Syntax) : Lean.Syntax := .node .none (.str `Lean.Parser.Tactic k) a
def wA (s : String) : Lean.Syntax := .atom .none s
def wQ (a : Array Lean.Syntax) : Lean.Syntax := wT "tacticSeq" #[wT "tacticSeq1Indented" #[Lean.mkNullNode a]]
def wI (s : String) : Lean.Syntax := Lean.mkIdent s.toName
def wSub (k : String) : Lean.Syntax := .node .none `PySem.W.tacticWtm_at_ #[wA "wtm_at", Lean.Syntax.mkStrLit k]
def wGo : List String → List (Lean.Name × Array Lean.Syntax) → Lean.Syntax
  | [], s => s.head!.2[0]!
  | t :: r, s =>
    let c := t.front
    let u := (t.drop 1).toString
    if c == '(' then wGo r ((.str `Lean.Parser.Tactic u, #[]) :: s)
    else if c == '[' then wGo r ((u.toName, #[]) :: s)
    else
      let x := s.head!
      let s := s.tail
      if c == ')' then
        let y := s.head!
        wGo r ((y.1, y.2.push (.node .none x.1 x.2)) :: s.tail)
      else wGo r ((x.1, x.2.push (if c == '\'' then wA u else wI t)) :: s)
def wName (c : Lean.Macro.Context) (a : String) : Lean.Syntax := Lean.mkIdent (Lean.addMacroScope c.quotContext (.mkSimple ("h" ++ a)) c.currMacroScope)
def wArg (c : Lean.Macro.Context) (a : String) : Lean.Syntax :=
  if a == "-" then .node .none `Lean.Parser.Term.hole #[wA "_"]
  else if a == "_" then .node .none `Lean.Parser.Term.syntheticHole #[wA "?", wA "_"]
  else if a.length == 1 && a < "A" then .node .none `Lean.Parser.Term.syntheticHole #[wA "?", wName c a]
  else wI a
def wAp (n : String) (a : Array Lean.Syntax) : Lean.Syntax := if a.isEmpty then wI n else .node .none `Lean.Parser.Term.app #[wI n, Lean.mkNullNode a]
def wArgs (c : Lean.Macro.Context) : List String → Array Lean.Syntax → Array Lean.Syntax
  | [], r => r
  | a :: as, r => wArgs c as (if a == "" then r else r.push (if a == "R" then wAp "Room.hd" #[wI "hA'"] else wArg c a))
def wCs (c : Lean.Macro.Context) : List String → Array Lean.Syntax → Array Lean.Syntax
  | [], r => r
  | k :: ks, r => wCs c ks (if k == "" then r else (r.push (wA ";")).push (wT "case" #[wA "case", Lean.mkNullNode #[wT "caseArg" #[.node .none `Lean.binderIdent #[wName c (k.take 1).toString], Lean.mkNullNode #[]]], wA "=>", wQ #[wSub (k.drop 1).toString]]))
def wRow (c : Lean.Macro.Context) (l : String) : Lean.Syntax :=
  let f := l.front
  let u := (l.drop 1).toString
  if f == '^' then wSub u else
  let q := if f == '=' then "exact" else if f == '\'' then "refine'" else "refine"
  let p := (if f == '=' || f == '\'' then u else l).splitOn "|"
  let h := p.head!.splitOn " "
  let b := wCs c (p[1]!.splitOn " ") #[wT "withReducible" #[wA "with_reducible", wQ #[wT q #[wA q, wAp h.head! (wArgs c h.tail #[])]]]]
  wT "paren" #[wA "(", wQ (if p[2]! == "" then b else (b.push (wA ";")).push (wSub p[2]!)), wA ")"]
def wRows (c : Lean.Macro.Context) : List String → Array Lean.Syntax → Array Lean.Syntax
  | [], r => r
  | l :: ls, r => wRows c ls (r.push (.node .none `group #[wA "|", wQ #[wRow c l]]))
def wFind (k : String) : List String → String
  | a :: b :: r => if a == k then b else wFind k r
  | _ => ""
def wKey (k : String) : Lean.MacroM (Lean.TSyntax `tactic) := do
  let v := wFind k ["in", "=At.head||\n=At.a1||\n=At.a2||\n=At.a3||\n=At.a4||\n=At.a5||\n=At.a6||\n=At.a7||\n'At.tail 1|1in|",
   "rf", "%(withUnfoldingAll 'with_unfolding_all (tacticSeq (tacticSeq1Indented [null (exact 'exact rfl ) ) ) ) )",
   "as", "%(assumption 'assumption )",
   "ev", "'ev_name 1 2|1in 2vx|\n=ev_int||\n'ev_str 1|1lit|\n=ev_none||\n=ev_bool||\n'ev_bin 1 2 3|1ev 2ev 3bin|\n'ev_neg 1|1ev|\n'ev_cmp 1 2 3 4|1ev 2ev 3cmp 4rf|\n'ev_one S H 1 2 3 4 5|1mem 2ev 3one 4rf 5rf|\n'ev_slice_ak 1 2 3 4 5 6 7 8|1in 2ev 3ev 4rf 5dr 6ar 7ar 8ar|\n'ev_item_d 1 2 3 4 5|1in 2ev 3dr 4ar 5ir|\n'ev_field S 1 2 3 4 5 6 7 8|1in 2hs 3hs 4as 5fa 6fo 7hd 8vx|",
   "evy", "'ev_field S 1 2 3 4 5 6 7 8|1in 2hs 3hs 4as 5fa 6fo 7hd 8vy|",
   "evx", "^evy\n^ev",
   "evz", "'ev_name 1 2|1in 2vy|\n^evx",
   "tv", "'tv_in2 1 2 3|1ev 2lit 3lit|\n'tv_cmp 1 2 3 4|1ev 2ev 3cmp 4rf|\n'tv_not 1|1tv|\n'tv_val 1 2 3|1ev 2tru 3rf|",
   "m", "%(first 'first [null [group '| (tacticSeq (tacticSeq1Indented [null (paren '( (tacticSeq (tacticSeq1Indented [null (withReducible 'with_reducible (tacticSeq (tacticSeq1Indented [null (show 'show [Lean.Parser.Term.app wpAny [null [Lean.Parser.Term.hole '_ ) [Lean.Parser.Term.hole '_ ) [Lean.Parser.Term.app PySem.eval [null [Lean.Parser.Term.hole '_ ) [Lean.Parser.Term.hole '_ ) ) ) [Lean.Parser.Term.hole '_ ) [Lean.Parser.Term.hole '_ ) [Lean.Parser.Term.hole '_ ) ) ) ) ) ) ) ) '; [PySem.W.tacticWtm_at_ 'wtm_at [str '\"mE\" ) ) ) ) ) ') ) ) ) ) ) [group '| (tacticSeq (tacticSeq1Indented [null (paren '( (tacticSeq (tacticSeq1Indented [null (withReducible 'with_reducible (tacticSeq (tacticSeq1Indented [null (show 'show [Lean.Parser.Term.app wpAny [null [Lean.Parser.Term.hole '_ ) [Lean.Parser.Term.hole '_ ) [Lean.Parser.Term.app PySem.exec [null [Lean.Parser.Term.hole '_ ) [Lean.Parser.Term.hole '_ ) ) ) [Lean.Parser.Term.hole '_ ) [Lean.Parser.Term.hole '_ ) [Lean.Parser.Term.hole '_ ) ) ) ) ) ) ) ) '; [PySem.W.tacticWtm_at_ 'wtm_at [str '\"mX\" ) ) ) ) ) ') ) ) ) ) ) [group '| (tacticSeq (tacticSeq1Indented [null (paren '( (tacticSeq (tacticSeq1Indented [null (withReducible 'with_reducible (tacticSeq (tacticSeq1Indented [null (show 'show [Lean.Parser.Term.app wpAny [null [Lean.Parser.Term.hole '_ ) [Lean.Parser.Term.hole '_ ) [Lean.Parser.Term.app PySem.execs [null [Lean.Parser.Term.hole '_ ) [Lean.Parser.Term.hole '_ ) ) ) [Lean.Parser.Term.hole '_ ) [Lean.Parser.Term.hole '_ ) [Lean.Parser.Term.hole '_ ) ) ) ) ) ) ) ) '; [PySem.W.tacticWtm_at_ 'wtm_at [str '\"mX\" ) ) ) ) ) ') ) ) ) ) ) [group '| (tacticSeq (tacticSeq1Indented [null (paren '( (tacticSeq (tacticSeq1Indented [null (withReducible 'with_reducible (tacticSeq (tacticSeq1Indented [null (show 'show [Lean.Parser.Term.app wpAny [null [Lean.Parser.Term.hole '_ ) [Lean.Parser.Term.hole '_ ) [Lean.Parser.Term.app PySem.isTrue [null [Lean.Parser.Term.hole '_ ) [Lean.Parser.Term.hole '_ ) [Lean.Parser.Term.hole '_ ) ) ) [Lean.Parser.Term.hole '_ ) [Lean.Parser.Term.hole '_ ) [Lean.Parser.Term.hole '_ ) ) ) ) ) ) ) ) '; [PySem.W.tacticWtm_at_ 'wtm_at [str '\"mI\" ) ) ) ) ) ') ) ) ) ) ) [group '| (tacticSeq (tacticSeq1Indented [null (paren '( (tacticSeq (tacticSeq1Indented [null (withReducible 'with_reducible (tacticSeq (tacticSeq1Indented [null (show 'show [Lean.Parser.Term.app wpAny [null [Lean.Parser.Term.hole '_ ) [Lean.Parser.Term.hole '_ ) [Lean.Parser.Term.app PySem.compareOp [null [Lean.Parser.Term.hole '_ ) [Lean.Parser.Term.hole '_ ) [Lean.Parser.Term.hole '_ ) ) ) [Lean.Parser.Term.hole '_ ) [Lean.Parser.Term.hole '_ ) [Lean.Parser.Term.hole '_ ) ) ) ) ) ) ) ) '; [PySem.W.tacticWtm_at_ 'wtm_at [str '\"mO\" ) ) ) ) ) ') ) ) ) ) ) [group '| (tacticSeq (tacticSeq1Indented [null (paren '( (tacticSeq (tacticSeq1Indented [null (withReducible 'with_reducible (tacticSeq (tacticSeq1Indented [null (show 'show [Lean.Parser.Term.app wpAny [null [Lean.Parser.Term.hole '_ ) [Lean.Parser.Term.hole '_ ) [Lean.Parser.Term.app PySem.call [null [Lean.Parser.Term.hole '_ ) [Lean.Parser.Term.hole '_ ) ) ) [Lean.Parser.Term.hole '_ ) [Lean.Parser.Term.hole '_ ) [Lean.Parser.Term.hole '_ ) ) ) ) ) ) ) ) '; [PySem.W.tacticWtm_at_ 'wtm_at [str '\"mC\" ) ) ) ) ) ') ) ) ) ) ) [group '| (tacticSeq (tacticSeq1Indented [null (paren '( (tacticSeq (tacticSeq1Indented [null (withReducible 'with_reducible (tacticSeq (tacticSeq1Indented [null (show 'show [Lean.Parser.Term.app wpAny [null [Lean.Parser.Term.hole '_ ) [Lean.Parser.Term.hole '_ ) [Lean.Parser.Term.app PySem.callWith [null [Lean.Parser.Term.hole '_ ) [Lean.Parser.Term.hole '_ ) [Lean.Parser.Term.hole '_ ) [Lean.Parser.Term.hole '_ ) [Lean.Parser.Term.hole '_ ) ) ) [Lean.Parser.Term.hole '_ ) [Lean.Parser.Term.hole '_ ) [Lean.Parser.Term.hole '_ ) ) ) ) ) ) ) ) '; [PySem.W.tacticWtm_at_ 'wtm_at [str '\"mC\" ) ) ) ) ) ') ) ) ) ) ) [group '| (tacticSeq (tacticSeq1Indented [null (paren '( (tacticSeq (tacticSeq1Indented [null (withReducible 'with_reducible (tacticSeq (tacticSeq1Indented [null (show 'show [Lean.Parser.Term.app wpAny [null [Lean.Parser.Term.hole '_ ) [Lean.Parser.Term.hole '_ ) [Lean.Parser.Term.hole '_ ) [Lean.Parser.Term.hole '_ ) [Lean.Parser.Term.hole '_ ) [Lean.Parser.Term.hole '_ ) ) ) ) ) ) ) ) '; [PySem.W.tacticWtm_at_ 'wtm_at [str '\"mR\" ) ) ) ) ) ') ) ) ) ) ) [group '| (tacticSeq (tacticSeq1Indented [null [PySem.W.tacticWtm_at_ 'wtm_at [str '\"mN\" ) ) ) ) ) ) [group '| (tacticSeq (tacticSeq1Indented [null [PySem.W.tacticWtm_at_ 'wtm_at [str '\"ds\" ) ) ) ) ) ) ) )",
   "mX", "x_last _||\nx_cons _||i3\n'a_str D 1 2 _|1putf 2lit|nx\n'a_int D 1 _|1putf|nx\n'a_name D 1 2 _|1in 2putf|nx0\n'g_int D 1 2 _|1in 2putf|nx\n'g_name D 1 2 3 _|1in 2in 3putf|nx\n'a_ev D 1 2 3 _|1evx 2putf 3rf|pv\n'g_ev D 1 2 3 4 5 _|1in 2vx 3ev 4inp 5putf|pv\n's_ev S D 1 2 3 4 5 6 7 8 9 _|1evx 2in 3hs 4hole 5as 6pf 7rf 8fo 9rf|pvf\nab_If _||i2\nr_assign _ 1|1rf|\n'r_expr D _ 1|1rf|\nr_pairS R _ 1 2|1rf 2sw|\nr_pairN R _ 1 2|1rf 2rf|",
   "mN", "wpAny_execs_nil _||\nwpAny_AugAssign_Name _||\nwpAny_Return_some _||\nwpAny_Break _||\nwpAny_isTrue_Compare1 _ 1|1rf|\nwpAny_Compare1 _ 1|1rf|\nwpAny_BinOp _||\nwpAny_truthy_bool _||\nite_t rfl _||\nite_f rfl _||\neq_int _||\nne_int _||\nlt_int _||\ngt_int _||\nle_int _||\nge_int _||\nIfExp_ _||\nisTrue_not _||\nisTrue_or_nil _||\nisTrue_or _||\nisTrue_and_nil _||\nisTrue_and _||\nwpAny_isTrue_value _ 1|1rf|\nBoolOp_one _||\nBoolOp_or _||\nBoolOp_and _||\nConstant_bool _||\nConstant_none _||\nSubscript_ _||\nevalPart_some_step _||\nevalPart_none_step _||\nrep_end D 1 _|1sz|nx\nspliced_none _||\nr_inK S D _||\nwpAny_assign_Name _||\nis_ref_none _||\nwpAny_AugAssign_SubscriptAny _ 1|1is|\nList_ _||\nTuple_ _||\nTup2.mk1 D _||nx0\nTup2.mk2 D _||nx0\nAttribute_name _||\n'r_bndMid D 1 _|1mem|\nr_jpair 1 _|1sz|\nFormattedValue_plain _||\nwpAny_isNot_ref_self _||\nwpAny_is_ref_self _||\nwpAny_Assert_new R _||\nplainObj_wpAny_Assign_Attribute _ 1|1rf|\nwpAny_AugAssign_AttributeAny _||\ncall_int_int _||\nEqNone.eq_str_none _||\nEqNone.eq_none_none _||\nisnot_type_same _||\nisnot_str_none _||\nisnot_int_none _||\nisnot_none_none _||\nisnot_ref_none _||\nis_str_none _||\nis_int_none _||\nis_none_none _||\n'go_next 1 _|1ra|\n'go_ret 1 _|1ra|\n'go_brk 1 _|1ra|\n'go_cont 1 _|1ra|\nhQ - - _||\nAnd.left hQ0 - - _||\nAnd.right hQ0 - _||\n'ab_go 1 _|1ra|\nhQ1 - - _||\nhQ2 - - _||",
   "mI", "'c_eq D 1 2 _|1in 2lit|nx0\n'c_ne D 1 2 _|1in 2lit|nx0\n'c_in D 1 2 _|1in 2lit|nx0\n't_in D 1 _|1tv|nx0",
   "mE", "'r_ld D 1 _|1in|\n'q_str D 1 _|1lit|nx\nr_int D _||nx\n'e_in D 1 _|1evx|pv\n'r_gl S H D 1 _|1mem|\nr_slice _||\n'r_replace 1 2 3 4 _ 5|1lit 2lit 3de 4de 5rf|\nr_method _ 1|1rf|\nPyProof.Rows.Call_ _ 1|1rf|\nr_unary _||\nr_joined _||",
   "mR", "'r_ldn D 1 _|1in|\n'r_st D 1 _|1put|nx0\n'spl_last D 1 _|1in|\n'spl_name D 1 _|1in|\n'spl_str D 1 _|1lit|nx\nspl_int D _||nx\nab_spl _ 1|1rf|i2\nq_add D 1 _|1sz|nx\nq_iadd D 1 _|1sz|nx\nr_add_int D _||nx\nq_div D 1 _|1de|nx\nq_mod D 1 _|1de|nx\nr_iadd_int D _||nx\nr_sub_int D _||nx\nr_neg_int D _||nx\nPySem.GM.find _||\nPySem.GM.replace _||\nPySem.GM.join _||\ngm_translate _||\n'r_m_append D 1 _|1has|\nr_newtuple D 1 _|1le|nxt\n'r_item_list D 1 2 3 4 _ 5 6|1has 2de 3rf 4sz 5rf 6ir|\n'r_item_last D 1 2 _ 3 4|1has 2sz 3rf 4ir|\n'r_getlast D 1 2 _|1has 2sz|\n'r_setlast D 1 _|1upd|nx0\n'r_truthy_list D 1 2 _|1has 2sz|nx0\nq_truthy D 1 _|1sz|nx0\n'r_attr_append D 1 _|1has|nxb\nr_jcons _||\nr_jnil D 1 _|1sz|nx\nq_fmt D 1 _|1sz|nx\n'r_getf S D 1 2 3 4 5 6 _|1has 2has 3as 4fa 5fo 6hd|nx0\n'r_setf S D 1 2 3 4 5 6 _|1has 2hole 3as 4put 5rf 6fo|nxf\n'r_meth S D 1 2 3 4 5 _|1has 2has 3as 4kr 5mo|\n'r_truthy_deque D 1 _|1mem|nx0",
   "mO", "q_eq _||\nq_ne _||\nq_in _||\n'r_notin_tup_int D 1 _|1nums|nx0\n'r_in_tup_str D 1 _|1txts|nx0\nq_notin _||\nisnot_str_ref _||\nis_str_ref _||",
   "mC", "PyProof.Rows.callWith_builtin1 _ 1 2|1rf 2rf|\nr_meth1 _ 1 2|1rf 2rf|\n'r_callK S D 1 _ 2 3|1ki 2rf 3rf|\nq_len D 1 _|1sz|nx\nq_chr D 1 _|1om|nx\nPySem.IsiPair.str_str _||\n'r_append D 1 2 _|1upd 2sz|nx0\n'r_len_list D 1 2 _|1has 2sz|nx\n'r_callBnd D 1 _ 2 3|1mem 2rf 3rf|\n'r_add D 1 2 3 _|1mem 2upd 3sz|nx0\n'q_join0 D 1 2 3 _|1has 2as 3sz|nx\n'r_callF S D 1 _ 2 3|1ki 2rf 3rf|\nr_callF0 S D 1 _|1ki|\nPyProof.Rows.callWith_type1 _ 1 2|1rf 2rf|\nq_type_int _||\nq_type_str _||",
   "lit", "=lit0||\n=lit1||\n=lit2||\n=lit3||\n=lit4||\n=lit5||\n=lit6||\n=lit7||\n=lit8||\n=lit9||\n=lit10||\n=lit11||\n=lit12||\n=lit13||\n=lit14||\n=lit15||\n=lit16||\n=lit17||\n=lit18||\n=lit19||\n=lit20||\n=lit21||\n=lit22||\n=lit23||\n=lit24||\n=lit25||\n=lit26||\n=lit27||\n=lit28||\n=lit29||\n=lit30||\n=lit32||\n=lit33||\n=lit35||\n=lit36||\n=lit37||\n=lit38||\n=lit39||\n=lit40||\n=lit41||\n=lit42||\n=lit43||\n=lit44||\n=lit45||\n=lit46||\n=lit47||\n=lit48||\n=lit49||\n=lit50||\n=lit51||\n=lit52||\n=lit53||\n=lit54||\n=lit55||\n=lit56||\n=lit57||\n=lit58||\n=lit59||\n=lit60||\n=lit61||\n=lit31||\n=lit34||",
   "vx", "=isVI||\n=isVS||\n=isVX||",
   "vy", "=isVX||",
   "om", "%(omega 'omega (optConfig [null ) ) )",
   "nx", "%(paren '( (tacticSeq (tacticSeq1Indented [null (clear 'clear [null D ) ) '; (tacticTry_ 'try (tacticSeq (tacticSeq1Indented [null (clear 'clear [null s ) ) ) ) ) ) '; (intro 'intro [null t s D ) ) ) ) ) ') )",
   "nx0", "%(paren '( (tacticSeq (tacticSeq1Indented [null (clear 'clear [null D ) ) '; (tacticTry_ 'try (tacticSeq (tacticSeq1Indented [null (clear 'clear [null s ) ) ) ) ) ) '; (intro 'intro [null s D ) ) ) ) ) ') )",
   "de", "%(decide 'decide (optConfig [null ) ) )",
   "ds", "%(dsimp 'dsimp (optConfig [null ) ) [null ) [null 'only ) [null ) [null ) )",
   "ms", "%(tacticRepeat_ 'repeat (tacticSeq (tacticSeq1Indented [null [PySem.W.tacticWtm_at_ 'wtm_at [str '\"m\" ) ) ) ) ) )",
   "putf", "=PutF.head||\n'PutF.tail 1|1putf|",
   "put", "=Put.head||\n'Put.tail 1|1put|",
   "fa", "=fat_instream||\n=fat_infile||\n=fat_posix||\n=fat_eof||\n=fat_commenters||\n=fat_wordchars||\n=fat_whitespace||\n=fat_whitespace_split||\n=fat_quotes||\n=fat_escape||\n=fat_escapedquotes||\n=fat_state||\n=fat_pushback||\n=fat_lineno||\n=fat_debug||\n=fat_token||\n=fat_filestack||\n=fat_source||\n=fat_punctuation_chars||\n^in",
   "pf", "=fput_state||\n=fput_token||\n^putf",
   "mem", "=List.mem_cons_self||\n'List.mem_cons_of_mem - 1|1mem|",
   "upd", "=UpdP.head||\n'UpdP.tail 1|1upd|",
   "turn", "=Turn.head||\n'Turn.tail 1|1turn|",
   "hole", "=Hole.head||\n'Hole.tail 1|1hole|",
   "nums", "=Nums.nil||\n'Nums.cons 1|1nums|",
   "txts", "=Txts.nil||\n'Txts.cons 1|1txts|",
   "sub", "=List.Sublist.refl -||\n'List.Sublist.cons_cons - 1|1sub|\n'List.Sublist.cons - 1|1sub|\n=List.nil_sublist -||",
   "has", "'St.get D 1|1mem|\n'St.keep D - - 1|1as|",
   "hs", "'In.new 1|1mem|\n'In.old 1|1as|",
   "cmp", "=cmp_lt||\n=cmp_gt||\n=cmp_le||\n=cmp_ge||\n=cmp_eqi||\n=cmp_nei||\n=cmp_eqs||\n=cmp_nes||\n=cmp_in||\n=cmp_notin||",
   "fo", "=fo797l -||\n=fo797p -||\n=fo797o -||\n=fo797i -||\n=fo797c -||\n=fo797j -||\n=fo797k -||\n=fo797g -||\n=fo797e -||\n=fo797f -||\n=fo797a -||\n=fo662a -||\n=fo662b -||\n=fo662c -||\n=fo797b -||\n=fo797d -||\n=fo797h -||\n=fo797m -||\n=fo797n -||\n=fo797q -||\n=fo797r -||\n=fo797s -||",
   "mo", "=mo662a -||\n=mo662b -||\n=mo662c -||\n=mo797a -||\n=mo797b -||",
   "hd", "=hd_str||\n=hd_int||\n=hd_ref||\n=hd_bool||\n=hd_none||",
   "bin", "=bin_addi||\n=bin_subi||\n'bin_mod 1|1de|\n'bin_div 1|1de|\n'bin_adds 1|1sz|",
   "inp", "=inp_addi||\n'inp_adds 1|1sz|",
   "one", "'one_len_s 1|1sz|\n'one_len_l 1 2|1hs 2sz|",
   "tru", "=tru_b||\n'tru_s 1|1sz|\n'tru_l 1 2|1hs 2sz|",
   "pv", "of_i _||nx\nof_s _||nx\nof_x _||nx0",
   "pvf", "of_i _||nxg\nof_s _||nxg\nof_x _||nxf",
   "nxg", "%(paren '( (tacticSeq (tacticSeq1Indented [null [PySem.W.tacticWtm_at_ 'wtm_at [str '\"i1\" ) ) '; [PySem.W.tacticWtm_at_ 'wtm_at [str '\"nxf\" ) ) ) ) ) ') )",
   "i1", "%(intro 'intro [null [Lean.Parser.Term.hole '_ ) ) )",
   "i2", "%(intro 'intro [null [Lean.Parser.Term.hole '_ ) [Lean.Parser.Term.hole '_ ) ) )",
   "i3", "%(intro 'intro [null [Lean.Parser.Term.hole '_ ) [Lean.Parser.Term.hole '_ ) [Lean.Parser.Term.hole '_ ) ) )",
   "nl", "%(paren '( (tacticSeq (tacticSeq1Indented [null (clear 'clear [null D ) ) '; (tacticTry_ 'try (tacticSeq (tacticSeq1Indented [null (clear 'clear [null s ) ) ) ) ) ) ) ) ) ') )",
   "nxt", "%(paren '( (tacticSeq (tacticSeq1Indented [null (clear 'clear [null D ) ) '; (tacticTry_ 'try (tacticSeq (tacticSeq1Indented [null (clear 'clear [null s ) ) ) ) ) ) '; (intro 'intro [null a s haB D ) ) ) ) ) ') )",
   "nxb", "%(paren '( (tacticSeq (tacticSeq1Indented [null (clear 'clear [null D ) ) '; (tacticTry_ 'try (tacticSeq (tacticSeq1Indented [null (clear 'clear [null s ) ) ) ) ) ) '; (intro 'intro [null ad s hadB D ) ) ) ) ) ') )",
   "nxf", "%(paren '( (tacticSeq (tacticSeq1Indented [null (clear 'clear [null D ) ) '; (tacticTry_ 'try (tacticSeq (tacticSeq1Indented [null (clear 'clear [null s ) ) ) ) ) ) '; (intro 'intro [null es n s hF D ) ) ) ) ) ') )",
   "ra", "%(withReducible 'with_reducible (tacticSeq (tacticSeq1Indented [null (assumption 'assumption ) ) ) ) )",
   "kr", "%[tacticKernel_rfl 'kernel_rfl )",
   "ki", "%[PySem.W.tacticK_is 'k_is )",
   "ir", "%(paren '( (tacticSeq (tacticSeq1Indented [null [PySem.W.tacticWtm_at_ 'wtm_at [str '\"i1\" ) ) '; [PySem.W.tacticWtm_at_ 'wtm_at [str '\"rf\" ) ) ) ) ) ') )",
   "is", "%(paren '( (tacticSeq (tacticSeq1Indented [null (intros 'intros [null ) ) '; [PySem.W.tacticWtm_at_ 'wtm_at [str '\"rf\" ) ) ) ) ) ') )",
   "le", "%(exact 'exact [Lean.Parser.Term.app Nat.le_of_ble_eq_true [null rfl ) ) )",
   "sz", "^as\n=hsz -||\n^om\n^sy",
   "sy", "%(paren '( (tacticSeq (tacticSeq1Indented [null (simp 'simp (optConfig [null ) ) [null ) [null 'only ) [null '[ [null (simpLemma [null ) [null ) List.length_append ) ', (simpLemma [null ) [null ) List.length_cons ) ', (simpLemma [null ) [null ) List.length_nil ) ', (simpLemma [null ) [null ) List.length_take ) ', (simpLemma [null ) [null ) List.length_drop ) ) '] ) [null (location 'at (locationWildcard '* ) ) ) ) '; (omega 'omega (optConfig [null ) ) ) ) ) ) ') )",
   "ar", "^as\n^om\n'And.intro 1 2|1om 2om|\n^de",
   "dr", "'And.intro hRf 1|1ar|\n'And.intro hRe 1|1ar|\n'And.intro hRd 1|1ar|\n'And.intro hRc 1|1ar|\n'And.intro 1 2|1as 2ar|",
   "sw", "'swappedN D 1 2 3|1put 2put 3rf|",
   "pu", "%(paren '( (tacticSeq (tacticSeq1Indented [null (case 'case [null (caseArg [Lean.binderIdent hx ) [null ) ) ) '=> (tacticSeq (tacticSeq1Indented [null [PySem.W.tacticWtm_at_ 'wtm_at [str '\"mem\" ) ) ) ) ) ) '; (case 'case [null (caseArg [Lean.binderIdent hd ) [null ) ) ) '=> (tacticSeq (tacticSeq1Indented [null [PySem.W.tacticWtm_at_ 'wtm_at [str '\"mem\" ) ) ) ) ) ) '; (case 'case [null (caseArg [Lean.binderIdent hf ) [null ) ) ) '=> (tacticSeq (tacticSeq1Indented [null [PySem.W.tacticWtm_at_ 'wtm_at [str '\"as\" ) ) ) ) ) ) '; [PySem.W.tacticWtm_at_ 'wtm_at [str '\"nx0\" ) ) '; [PySem.W.tacticWtm_at_ 'wtm_at [str '\"ms\" ) ) ) ) ) ') )",
   "sl", "%(paren '( (tacticSeq (tacticSeq1Indented [null (case 'case [null (caseArg [Lean.binderIdent hi ) [null ) ) ) '=> (tacticSeq (tacticSeq1Indented [null [PySem.W.tacticWtm_at_ 'wtm_at [str '\"ar\" ) ) ) ) ) ) '; (case 'case [null (caseArg [Lean.binderIdent hj ) [null ) ) ) '=> (tacticSeq (tacticSeq1Indented [null [PySem.W.tacticWtm_at_ 'wtm_at [str '\"ar\" ) ) ) ) ) ) '; (case 'case [null (caseArg [Lean.binderIdent hb ) [null ) ) ) '=> (tacticSeq (tacticSeq1Indented [null [PySem.W.tacticWtm_at_ 'wtm_at [str '\"ar\" ) ) ) ) ) ) '; (case 'case [null (caseArg [Lean.binderIdent hs ) [null ) ) ) '=> (tacticSeq (tacticSeq1Indented [null [PySem.W.tacticWtm_at_ 'wtm_at [str '\"rf\" ) ) ) ) ) ) '; (case 'case [null (caseArg [Lean.binderIdent ht ) [null ) ) ) '=> (tacticSeq (tacticSeq1Indented [null [PySem.W.tacticWtm_at_ 'wtm_at [str '\"ir\" ) ) ) ) ) ) '; [PySem.W.tacticWtm_at_ 'wtm_at [str '\"nx\" ) ) '; [PySem.W.tacticWtm_at_ 'wtm_at [str '\"ms\" ) ) ) ) ) ') )",
   "it", "%(paren '( (tacticSeq (tacticSeq1Indented [null (case 'case [null (caseArg [Lean.binderIdent hi ) [null ) ) ) '=> (tacticSeq (tacticSeq1Indented [null [PySem.W.tacticWtm_at_ 'wtm_at [str '\"ar\" ) ) ) ) ) ) '; (case 'case [null (caseArg [Lean.binderIdent hs ) [null ) ) ) '=> (tacticSeq (tacticSeq1Indented [null [PySem.W.tacticWtm_at_ 'wtm_at [str '\"rf\" ) ) ) ) ) ) '; (case 'case [null (caseArg [Lean.binderIdent ht ) [null ) ) ) '=> (tacticSeq (tacticSeq1Indented [null [PySem.W.tacticWtm_at_ 'wtm_at [str '\"ir\" ) ) ) ) ) ) '; [PySem.W.tacticWtm_at_ 'wtm_at [str '\"nx\" ) ) '; [PySem.W.tacticWtm_at_ 'wtm_at [str '\"ms\" ) ) ) ) ) ') )",
   "li", "%(paren '( (tacticSeq (tacticSeq1Indented [null (case 'case [null (caseArg [Lean.binderIdent hm ) [null ) ) ) '=> (tacticSeq (tacticSeq1Indented [null [PySem.W.tacticWtm_at_ 'wtm_at [str '\"has\" ) ) ) ) ) ) '; (case 'case [null (caseArg [Lean.binderIdent hi ) [null ) ) ) '=> (tacticSeq (tacticSeq1Indented [null [PySem.W.tacticWtm_at_ 'wtm_at [str '\"ar\" ) ) ) ) ) ) '; (case 'case [null (caseArg [Lean.binderIdent hz ) [null ) ) ) '=> (tacticSeq (tacticSeq1Indented [null [PySem.W.tacticWtm_at_ 'wtm_at [str '\"ar\" ) ) ) ) ) ) '; (case 'case [null (caseArg [Lean.binderIdent hs ) [null ) ) ) '=> (tacticSeq (tacticSeq1Indented [null [PySem.W.tacticWtm_at_ 'wtm_at [str '\"rf\" ) ) ) ) ) ) '; (case 'case [null (caseArg [Lean.binderIdent ht ) [null ) ) ) '=> (tacticSeq (tacticSeq1Indented [null [PySem.W.tacticWtm_at_ 'wtm_at [str '\"ir\" ) ) ) ) ) ) '; [PySem.W.tacticWtm_at_ 'wtm_at [str '\"ms\" ) ) ) ) ) ') )"]
  if v == "" then Lean.Macro.throwUnsupported else
  if v.front == '%' then return ⟨wGo ((v.drop 1).toString.splitOn " ") [(`x, #[])]⟩ else
  return ⟨wT "first" #[wA "first", Lean.mkNullNode (wRows (← read) (v.splitOn "\n") #[])]⟩

end
section
/-! ## what the classes say of the names -/
theorem fo662a (w : World) : fieldOk (Mine.hz.heap_1_39 w.params) 662 (Str.ofString "_StringIO__newline") = true := by kernel_rfl
theorem fo662b (w : World) : fieldOk (Mine.hz.heap_1_39 w.params) 662 (Str.ofString "_StringIO__buf") = true := by kernel_rfl
theorem fo662c (w : World) : fieldOk (Mine.hz.heap_1_39 w.params) 662 (Str.ofString "_StringIO__pos") = true := by kernel_rfl
theorem mo662a (w : World) : methOk (Mine.hz.heap_1_39 w.params) 662 (Str.ofString "_StringIO__check") 446 = true := by kernel_rfl
theorem mo662b (w : World) : methOk (Mine.hz.heap_1_39 w.params) 662 (Str.ofString "_StringIO__translated") 439 = true := by kernel_rfl
theorem mo662c (w : World) : methOk (Mine.hz.heap_1_39 w.params) 662 (Str.ofString "read") 608 = true := by kernel_rfl
theorem fo797a (w : World) : fieldOk (Mine.hz.heap_1_39 w.params) 797 (Str.ofString "instream") = true := by kernel_rfl
theorem fo797b (w : World) : fieldOk (Mine.hz.heap_1_39 w.params) 797 (Str.ofString "infile") = true := by kernel_rfl
theorem fo797c (w : World) : fieldOk (Mine.hz.heap_1_39 w.params) 797 (Str.ofString "posix") = true := by kernel_rfl
theorem fo797d (w : World) : fieldOk (Mine.hz.heap_1_39 w.params) 797 (Str.ofString "eof") = true := by kernel_rfl
theorem fo797e (w : World) : fieldOk (Mine.hz.heap_1_39 w.params) 797 (Str.ofString "commenters") = true := by kernel_rfl
theorem fo797f (w : World) : fieldOk (Mine.hz.heap_1_39 w.params) 797 (Str.ofString "wordchars") = true := by kernel_rfl
theorem fo797g (w : World) : fieldOk (Mine.hz.heap_1_39 w.params) 797 (Str.ofString "whitespace") = true := by kernel_rfl
theorem fo797h (w : World) : fieldOk (Mine.hz.heap_1_39 w.params) 797 (Str.ofString "whitespace_split") = true := by kernel_rfl
theorem fo797i (w : World) : fieldOk (Mine.hz.heap_1_39 w.params) 797 (Str.ofString "quotes") = true := by kernel_rfl
theorem fo797j (w : World) : fieldOk (Mine.hz.heap_1_39 w.params) 797 (Str.ofString "escape") = true := by kernel_rfl
theorem fo797k (w : World) : fieldOk (Mine.hz.heap_1_39 w.params) 797 (Str.ofString "escapedquotes") = true := by kernel_rfl
theorem fo797l (w : World) : fieldOk (Mine.hz.heap_1_39 w.params) 797 (Str.ofString "state") = true := by kernel_rfl
theorem fo797m (w : World) : fieldOk (Mine.hz.heap_1_39 w.params) 797 (Str.ofString "pushback") = true := by kernel_rfl
theorem fo797n (w : World) : fieldOk (Mine.hz.heap_1_39 w.params) 797 (Str.ofString "lineno") = true := by kernel_rfl
theorem fo797o (w : World) : fieldOk (Mine.hz.heap_1_39 w.params) 797 (Str.ofString "debug") = true := by kernel_rfl
theorem fo797p (w : World) : fieldOk (Mine.hz.heap_1_39 w.params) 797 (Str.ofString "token") = true := by kernel_rfl
theorem fo797q (w : World) : fieldOk (Mine.hz.heap_1_39 w.params) 797 (Str.ofString "filestack") = true := by kernel_rfl
theorem fo797r (w : World) : fieldOk (Mine.hz.heap_1_39 w.params) 797 (Str.ofString "source") = true := by kernel_rfl
theorem fo797s (w : World) : fieldOk (Mine.hz.heap_1_39 w.params) 797 (Str.ofString "_punctuation_chars") = true := by kernel_rfl
theorem mo797a (w : World) : methOk (Mine.hz.heap_1_39 w.params) 797 (Str.ofString "get_token") 758 = true := by kernel_rfl
theorem mo797b (w : World) : methOk (Mine.hz.heap_1_39 w.params) 797 (Str.ofString "read_token") 765 = true := by kernel_rfl
theorem po797 (w : World) : propOk (Mine.hz.heap_1_39 w.params) 797 (Str.ofString "punctuation_chars") 728 = true := by kernel_rfl
noncomputable def W31 : List Nat := (Str.ofString "abcdfeghijklmnopqrstuvwxyzABCDEFGHIJKLMNOPQRSTUVWXYZ0123456789_").cps.toList
theorem lit31 : Str.ofString "abcdfeghijklmnopqrstuvwxyzABCDEFGHIJKLMNOPQRSTUVWXYZ0123456789_" = T W31 := T_of _
noncomputable def W34 : List Nat := (Str.ofString "ßàáâãäåæçèéêëìíîïðñòóôõöøùúûüýþÿÀÁÂÃÄÅÆÇÈÉÊËÌÍÎÏÐÑÒÓÔÕÖØÙÚÛÜÝÞ").cps.toList
theorem lit34 : Str.ofString "ßàáâãäåæçèéêëìíîïðñòóôõöøùúûüýþÿÀÁÂÃÄÅÆÇÈÉÊËÌÍÎÏÐÑÒÓÔÕÖØÙÚÛÜÝÞ" = T W34 := T_of _
theorem W_34 : 34 ∉ W31 ++ W34 := by decide +kernel
theorem W_len : (W31 ++ W34).length ≤ 200 := by decide +kernel
theorem W31_len : W31.length ≤ 100 := by decide +kernel
theorem W34_len : W34.length ≤ 100 := by decide +kernel

end
section
/-! ## an empty deque -/
noncomputable def dqObj : Obj := { cls := .type "collections.deque", data := .fields #[.none, .int 0 0] }
theorem mro_deque : mroOf (.type "collections.deque") = pure [.type "collections.deque", .type "object"] := by rw [mroOf_type]; kernel_rfl
theorem lookup_deque_new : typeLookup (.type "collections.deque") "__new__" = pure (some (.builtin "collections.deque.__new__")) := by rw [typeLookup_type, builtinLookup_eq_fast]; kernel_rfl
theorem slot_deque_init : Slot "collections.deque" "__init__" "collections.deque.__init__" :=
  .of (owner := "collections.deque") (n := "__init__") (by rw [typeLookup_type, builtinLookup_eq_fast]; kernel_rfl) (by decide +kernel) (by decide +kernel) (by decide +kernel)
    (by first | exact .inl (by decide +kernel) | exact .inr (by decide +kernel)) (by rw [isSubtype_type]; kernel_rfl)
theorem slot_deque_len : Slot "collections.deque" "__len__" "collections.deque.__len__" :=
  .of (owner := "collections.deque") (n := "__len__") (by rw [typeLookup_type, builtinLookup_eq_fast]; kernel_rfl) (by decide +kernel) (by decide +kernel) (by decide +kernel)
    (by first | exact .inl (by decide +kernel) | exact .inr (by decide +kernel)) (by rw [isSubtype_type]; kernel_rfl)
theorem noBool_deque : typeLookup (.type "collections.deque") "__bool__" = pure none := by rw [typeLookup_type, builtinLookup_eq_fast]; kernel_rfl
theorem called_deque : TypeCalled "collections.deque" "collections.deque.__new__" "collections.deque.__init__" :=
  ⟨by decide +kernel, by decide +kernel, ⟨_, _, mro_deque⟩, madeBy_type mro_deque lookup_deque_new (by decide +kernel), by decide +kernel, by rw [isSubtype_type]; kernel_rfl, slot_deque_init⟩
theorem typeCall_deque : checkTypeCall "collections.deque" ⟨[], []⟩ = pure () := by kernel_rfl
theorem newCall_deque : checkBuiltinCall "collections.deque.__new__" ⟨[.type "collections.deque"], []⟩ = pure () := by kernel_rfl
theorem entry_deque_new : entryFor table "collections.deque.__new__" = some Builtin.«collections.deque.__new__» := entryFor_of_tree (by kernel_rfl)
theorem entry_deque_init : entryFor table "collections.deque.__init__" = some Builtin.«collections.deque.__init__» := entryFor_of_tree (by kernel_rfl)
theorem entry_deque_len : entryFor table "collections.deque.__len__" = some Builtin.«collections.deque.__len__» := entryFor_of_tree (by kernel_rfl)
theorem plain_deque_new : plainId "collections.deque.__new__" = true := by decide +kernel
theorem args_deque_init (a : Value) : argsOk "collections.deque.__init__" ⟨[a], []⟩ := by unfold argsOk; kernel_rfl
theorem args_deque_len (a : Value) : argsOk "collections.deque.__len__" ⟨[a], []⟩ := by unfold argsOk; kernel_rfl
theorem dq_newArgs : Builtin.Deque.newArgs "collections.deque" ⟨[.type "collections.deque"], []⟩ = pure (.type "collections.deque", []) := by kernel_rfl
theorem dq_hasDict : typeHasDict (.type "collections.deque") = false := by decide +kernel
section
variable {prog : Program} {w : World} {A : Around} {E : Value → Shared → Prop} {s : Shared}
theorem code_deque_new {Q₁ : Value → Shared → Prop} (h : Q₁ (.ref s.heap.objs.size) { s with heap := s.heap.push dqObj }) :
    codeAny (model prog w) A (.call (.builtin "collections.deque.__new__") ⟨[.type "collections.deque"], []⟩) (wants Q₁ E) s := by
  refine codeAny_of_tree ?_
  show wpAny _ A.in1 (do checkBuiltinCall "collections.deque.__new__" ⟨[.type "collections.deque"], []⟩; again (.builtin "collections.deque.__new__" ⟨[.type "collections.deque"], []⟩)) _ _ s
  refine wpAny_bind (wpAny_of_eq newCall_deque (wpAny_pure ⟨plainId_quiet plain_deque_new _, codeAny_builtin entry_deque_new ?_⟩))
  rw [Around.under_plainId plain_deque_new _]
  show wpAny _ _ (do let (cls, _) ← Builtin.Deque.newArgs "collections.deque" ⟨[.type "collections.deque"], []⟩; ret (← Builtin.Deque.new cls #[] none)) _ _ _
  rw [dq_newArgs]
  refine wpAny_bind (wpAny_pure ?_)
  show wpAny _ _ (Builtin.Deque.new (.type "collections.deque") #[] none >>= _) _ _ _
  unfold Builtin.Deque.new
  rw [dq_hasDict]
  refine wpAny_bind ?_
  refine wpAny_bind (wpAny_pure ?_)
  refine wpAny_newObj_type (wpAny_pure h) (by size_fits)
theorem call_deque_0 {Q : Value → Shared → Prop} (h : ∀ h', h'.get? s.heap.objs.size = some dqObj → Heap.SameBut s.heap.objs.size (s.heap.push dqObj) h' → Q (.ref s.heap.objs.size) { s with heap := h' }) : wpAny (model prog w) A (call (.type "collections.deque") []) Q E s := by
  refine callType_codes (Q₁ := fun obj s₁ => obj = .ref s.heap.objs.size ∧ s₁ = { s with heap := s.heap.push dqObj }) called_deque typeCall_deque entry_deque_init (code_deque_new ⟨rfl, rfl⟩) fun obj s₁ h₁ => ?_
  obtain ⟨rfl, rfl⟩ := h₁
  have hS : (s.heap.push dqObj).get? s.heap.objs.size = some dqObj := Heap.get?_push_size _ rfl
  refine ⟨⟨_, hS, rfl⟩, args_deque_init _, ?_⟩
  show wpAny _ _ (setField (.ref s.heap.objs.size) 0 .none >>= fun _ => Builtin.Deque.clear (.ref s.heap.objs.size) >>= fun _ => ret .none) _ _ _
  refine wpAny_bind (wpAny_setField hS rfl (by decide) ?_)
  have hS2 := Heap.get?_update_self (Obj.mapFields (·.setIfInBounds 0 Value.none)) hS rfl
  unfold Builtin.Deque.clear Builtin.Deque.items
  refine wpAny_bind (wpAny_bind (wpAny_bind (wpAny_fieldsOf hS2 rfl (wpAny_pure ?_))))
  rw [if_neg (by simp [Obj.mapFields, dqObj])]
  refine wpAny_pure (wpAny_pure ⟨rfl, h _ ?_ (Heap.SameBut.update ..)⟩)
  exact hS2
theorem truthy_deque {a : Addr} {Q : Bool → Shared → Prop} (ha : s.heap.get? a = some dqObj) (h : Q false { s with toks := s.toks + 1 + 1 }) : wpAny (model prog w) A (truthy (.ref a)) Q E s := by
  have hT : s.TypeIs (.ref a) "collections.deque" := ⟨_, ha, rfl⟩
  have key0 : wpAny (model prog w) A.in1 (Builtin.«len» ⟨[.ref a], []⟩) (fun fin s' => ∃ r, fin = .done (.ret r) ∧ (r = .int 0 (s.toks + 1) ∧ Q false s')) E s := by
    unfold Builtin.«len»
    refine wpAny_bind (m := oneArg "len" _) (wpAny_pure ?_)
    refine wpAny_bind (m := callSpecial? (.ref a) (Str.ofString "__len__")) (wpAny_callSpecial?_slot (name := Str.ofString "__len__") hT slot_deque_len
      (wpAny_call_entry slot_deque_len hT entry_deque_len ?_ (args_deque_len _)))
    · show wpAny _ _ (do retInt (← Builtin.Deque.size (.ref a))) _ _ s
      unfold Builtin.Deque.size
      refine wpAny_bind (wpAny_bind (wpAny_fieldsOf ha rfl (wpAny_pure ?_)))
      refine wpAny_bind (wpAny_mkInt (wpAny_pure ⟨_, rfl, ?_⟩))
      refine wpAny_bind (wpAny_holding (wpAny_pure ?_))
      refine wpAny_bind (wpAny_letGo ?_)
      show wpAny _ _ (if ((0 : Nat) : Int) < 0 then _ else _) _ _ _
      rw [if_neg (by omega)]
      show wpAny _ _ (if ((0 : Nat) : Int) ≥ 2 ^ 63 then _ else _) _ _ _
      rw [if_neg (by omega)]
      exact wpAny_bind (wpAny_mkInt (wpAny_pure ⟨_, rfl, rfl, h⟩))
  have key : wpAny (model prog w) A (runValue (.builtin "len" ⟨[.ref a], []⟩)) (fun r s' => r = .int 0 (s.toks + 1) ∧ Q false s') E s := by
    refine wpAny_runValue (codeAny_builtin entry_len ?_)
    rw [Around.under_plainId plain_len _]
    exact wpAny_mono key0 (fun fin s' h' => by obtain ⟨r, rfl, hq⟩ := h'; exact hq) fun _ _ e => e
  unfold truthy
  first
    | refine wpAny_bind (wpAny_callSpecial?_none (name := Str.ofString "__bool__") hT noBool_deque ?_)
    | refine wpAny_bind (wpAny_pure (wpAny_bind (wpAny_callSpecial?_none (name := Str.ofString "__bool__") hT noBool_deque ?_)))
  first
    | refine wpAny_bind (wpAny_specialOf (name := Str.ofString "__len__") hT slot_deque_len.lookup ?_)
    | refine wpAny_bind (wpAny_pure (wpAny_bind (wpAny_specialOf (name := Str.ofString "__len__") hT slot_deque_len.lookup ?_)))
  first
    | exact wpAny_bind (wpAny_mono key (fun r s' h' => by obtain ⟨rfl, hq⟩ := h'; exact wpAny_pure hq) fun _ _ e => e)
    | exact wpAny_bind (wpAny_pure (wpAny_bind (wpAny_mono key (fun r s' h' => by obtain ⟨rfl, hq⟩ := h'; exact wpAny_pure hq) fun _ _ e => e)))
end
section
variable {B : Shared} {g : Heap} {env : Env} {vals vals' : Vals} {s : Shared} {news news' : News'} {A : Around} {E : Value → Shared → Prop} {prog : Program} {w : World}
theorem r_deque {Q : Value → Shared → Prop} (D : St B g env vals s news) (k : ∀ a s', B.heap.objs.size ≤ a → St B g env vals s' ((a, dqObj) :: news) → Q (.ref a) s') : wpAny (model prog w) A (call (.type "collections.deque") []) Q E s :=
  call_deque_0 fun h' e hs => k _ _ D.up.2 ((D.made dqObj).upd (.head) hs e (Nat.le_refl _))
theorem r_truthy_deque {a : Addr} {Q : Bool → Shared → Prop} (D : St B g env vals s news) (ha : (a, dqObj) ∈ news) (k : ∀ s', St B g env vals s' news → Q false s') : wpAny (model prog w) A (truthy (.ref a)) Q E s :=
  truthy_deque (D.get ha) (k _ (D.tk1 (n := 2)))
end

end
section
/-! ## contracts that may raise: the frames below are known -/
noncomputable def frs (fl : List Env) : List Addr := fl.filterMap (·.frame)
noncomputable def KeptF (fl : List Env) (h h' : Heap) : Prop := ∀ b ∈ frs fl, ∀ o, h.get? b = some o → (∀ vs, o.data ≠ .fields vs) → ∃ sl, h'.get? b = some { o with slots := sl }
theorem KeptF.tail {env : Env} {fl : List Env} {h h' : Heap} (k : KeptF (env :: fl) h h') : KeptF fl h h' := fun b hb => k b (by
  unfold frs at hb ⊢
  rw [List.filterMap_cons]
  split
  · exact hb
  · exact List.mem_cons_of_mem _ hb)
theorem KeptF.frames {fl : List Env} {g h h' : Heap} (k : KeptF fl h h') (hl : h.FunFrames g fl) : h'.FunFrames g fl := by
  induction fl with
  | nil => trivial
  | cons env rest ih =>
    obtain ⟨hk, ⟨L, o, hf, hn, ho, hd⟩, hr⟩ := hl
    obtain ⟨sl, e⟩ := k L (by unfold frs; rw [List.filterMap_cons, hf]; exact List.mem_cons_self) o ho hd
    exact ⟨hk, ⟨L, _, hf, hn, e, hd⟩, ih k.tail hr⟩
theorem frames_base {fl : List Env} {g g' h : Heap} (hl : h.FunFrames g fl) (k : ∀ b ∈ frs fl, g'.get? b = none) : h.FunFrames g' fl := by
  induction fl with
  | nil => trivial
  | cons env rest ih =>
    obtain ⟨hk, ⟨L, o, hf, hn, ho, hd⟩, hr⟩ := hl
    refine ⟨hk, ⟨L, o, hf, k L (by unfold frs; rw [List.filterMap_cons, hf]; exact List.mem_cons_self), ho, hd⟩, ih hr fun b hb => k b ?_⟩
    unfold frs at hb ⊢
    rw [List.filterMap_cons, hf]; exact List.mem_cons_of_mem _ hb
noncomputable def FnE (K : Frag) (prog : Program) (w : World) (n : Nat) (f : Value) (args : List Value) (own : News') (post : Result → News' → Shared → Prop) : Prop :=
  ∀ {A : Around} {s : Shared} {g : Heap} {fl : List Env} {R : Result → Shared → Prop}, Sta K g → Room A n → A.frames = some fl → s.heap.FunFrames g fl → (frs fl).Pairwise (· > ·) → Own g s own → (∀ p ∈ own, p.1 ∉ frs fl) →
    (∀ r s' own', post r own' s' → Own g s' own' → (∀ p ∈ own', p.1 ∈ own.map (·.1) ∨ s.heap.objs.size ≤ p.1) → KeptF fl s.heap s'.heap → Rest s s' → Up s s' → R r s') →
    codeAny (model prog w) A (.call f ⟨args, []⟩) R s
/-- the objects of the frames below, as they stood at B up to slots -/
structure FoAt (B : Shared) (fl : List Env) (fo : News') : Prop where
  keys : fo.map (·.1) = frs fl
  obj : ∀ p ∈ fo, (∀ vs, p.2.data ≠ .fields vs) ∧ ∃ o sl, B.heap.get? p.1 = some o ∧ p.2 = { o with slots := sl }
  env : ∀ env ∈ fl, env.scope.kind ≠ .module ∧ env.frame.isSome = true

section
variable {B : Shared} {g : Heap} {env : Env} {vals vals' : Vals} {s : Shared} {news news' : News'} {A : Around} {E : Value → Shared → Prop} {K : Frag} {prog : Program} {w : World} {n : Nat} {f : Value} {args : List Value} {fl : List Env}
theorem FoAt.frames {fo : News'} {h : Heap} (F : FoAt B fl fo) (k : ∀ b ∈ frs fl, g.get? b = none) (hm : ∀ p ∈ fo, h.get? p.1 = some p.2) : h.FunFrames g fl := by
  have hb : ∀ b ∈ frs fl, ∃ o, h.get? b = some o ∧ ∀ vs, o.data ≠ .fields vs := fun b hb => by
    rw [← F.keys] at hb
    obtain ⟨p, hp, rfl⟩ := List.mem_map.mp hb
    exact ⟨p.2, hm p hp, (F.obj p hp).1⟩
  have he := F.env
  clear F hm
  induction fl with
  | nil => trivial
  | cons env rest ih =>
    obtain ⟨h1, h2⟩ := he env List.mem_cons_self
    obtain ⟨L, hL⟩ := Option.isSome_iff_exists.mp h2
    have hf : frs (env :: rest) = L :: frs rest := by unfold frs; rw [List.filterMap_cons, hL]
    rw [hf] at k hb
    obtain ⟨o, ho, hd⟩ := hb L List.mem_cons_self
    exact ⟨h1, ⟨L, o, hL, k L List.mem_cons_self, ho, hd⟩, ih (fun b q => k b (List.mem_cons_of_mem _ q)) (fun b q => hb b (List.mem_cons_of_mem _ q)) fun e q => he e (List.mem_cons_of_mem _ q)⟩
/-- at the entry -/
theorem fo_at {s : Shared} (hf : s.heap.FunFrames g fl) : ∃ fo, FoAt s fl fo ∧ ∀ p ∈ fo, s.heap.get? p.1 = some p.2 ∧ g.get? p.1 = none := by
  induction fl with
  | nil => exact ⟨[], ⟨rfl, fun _ hp => (nomatch hp), fun _ hp => (nomatch hp)⟩, fun _ hp => nomatch hp⟩
  | cons env rest ih =>
    obtain ⟨hk, ⟨L, o, hL, hn, ho, hd⟩, hr⟩ := hf
    obtain ⟨fo, F, G⟩ := ih hr
    refine ⟨(L, o) :: fo, ⟨by unfold frs; rw [List.filterMap_cons, hL, List.map_cons, F.keys]; rfl, fun p hp => ?_, fun e he => ?_⟩, fun p hp => ?_⟩
    · rcases List.mem_cons.mp hp with rfl | hp
      · exact ⟨hd, o, o.slots, ho, rfl⟩
      · exact F.obj p hp
    · rcases List.mem_cons.mp he with rfl | he
      · exact ⟨hk, by rw [hL]; rfl⟩
      · exact F.env e he
    · rcases List.mem_cons.mp hp with rfl | hp
      · exact ⟨ho, hn⟩
      · exact G p hp
theorem St.gnone (D : St B g env vals s news) : g.get? env.locals = none := by
  obtain ⟨m, L, e⟩ := D.led
  cases q : g.get? env.locals with
  | none => rfl
  | some o => exact absurd (Heap.lt_size q) (Nat.not_lt.mpr L.fr.above)
theorem St.ns_slots {h h' : Heap} {L : Addr} {m : Str → Option Value} (hn : h.Ns L m) (k : ∀ o, h.get? L = some o → (∀ vs, o.data ≠ .fields vs) → ∃ sl, h'.get? L = some { o with slots := sl }) : h'.Ns L m := by
  obtain ⟨o, es, ep, ho, hd, r⟩ := hn
  obtain ⟨sl, hs⟩ := k o ho fun vs q => by rw [hd] at q; cases q
  exact ⟨_, es, ep, hs, hd, r⟩
theorem news_slots {h h' : Heap} {fl : List Env} (k : KeptF fl h h') : ∀ {fo : News'}, (∀ p ∈ fo, p.1 ∈ frs fl ∧ h.get? p.1 = some p.2 ∧ ∀ vs, p.2.data ≠ .fields vs) →
    ∃ fo' : News', fo'.map (·.1) = fo.map (·.1) ∧ ∀ p ∈ fo', h'.get? p.1 = some p.2 ∧ (∀ vs, p.2.data ≠ .fields vs) ∧ ∃ q ∈ fo, q.1 = p.1 ∧ ∃ sl, p.2 = { q.2 with slots := sl }
  | [], _ => ⟨[], rfl, fun _ hp => nomatch hp⟩
  | p :: r, H => by
    obtain ⟨fo', e, G⟩ := news_slots k (fo := r) fun q hq => H q (List.mem_cons_of_mem _ hq)
    obtain ⟨h1, h2, h3⟩ := H p List.mem_cons_self
    obtain ⟨sl, hs⟩ := k p.1 h1 p.2 h2 h3
    refine ⟨(p.1, { p.2 with slots := sl }) :: fo', by rw [List.map_cons, List.map_cons, e], fun q hq => ?_⟩
    rcases List.mem_cons.mp hq with rfl | hq
    · exact ⟨hs, h3, p, List.mem_cons_self, rfl, sl, rfl⟩
    · obtain ⟨a, b, q', c, d⟩ := G q hq
      exact ⟨a, b, q', List.mem_cons_of_mem _ c, d⟩
theorem useEc {pre own post fo : News'} {P : Result → News' → Shared → Prop} {R : Result → Shared → Prop} (C : FnE K prog w n f args own P) (S : Sta K g) (hA : Room A n) (hfm : env.frame = some env.locals) (hst : A.frames = some (env :: fl)) (F : FoAt B fl fo) (hlo : ∀ b ∈ frs fl, b < env.locals) (D : St B g env vals s (pre ++ (own ++ (post ++ fo))))
    (hP : ∀ r own' s', P r own' s' → own'.map (·.1) = own.map (·.1))
    (k : ∀ r own' fo' s', P r own' s' → FoAt B fl fo' → St B g env vals s' (pre ++ (own' ++ (post ++ fo'))) → R r s') : codeAny (model prog w) A (.call f ⟨args, []⟩) R s := by
  have hs : own.Sublist (pre ++ (own ++ (post ++ fo))) := (List.sublist_append_left own _).trans (List.sublist_append_right pre _)
  obtain ⟨m, L, e⟩ := D.led
  have ho := L.ord
  rw [List.map_append, List.map_append, List.map_append, List.pairwise_append, List.pairwise_append, List.pairwise_append] at ho
  obtain ⟨o1, ⟨o2, ⟨o3, o3', o3''⟩, o4⟩, o5⟩ := ho
  have hmf : ∀ p ∈ fo, p ∈ pre ++ (own ++ (post ++ fo)) := fun p hp => List.mem_append_right _ (List.mem_append_right _ (List.mem_append_right _ hp))
  have hfg : ∀ b ∈ frs fl, g.get? b = none := fun b hb => by
    rw [← F.keys] at hb
    obtain ⟨p, hp, rfl⟩ := List.mem_map.mp hb
    exact (L.nw p (hmf p hp)).2.2
  have hff : s.heap.FunFrames g fl := F.frames hfg fun p hp => (L.nw p (hmf p hp)).1
  let hid := own.map (·.1) ++ (env.locals :: frs fl)
  have hg : ∀ b o, g.get? b = some o → b ∉ hid := fun b o q z => by
    rcases List.mem_append.mp z with z | z
    · obtain ⟨p, hp, rfl⟩ := List.mem_map.mp z
      rw [(L.nw p (hs.subset hp)).2.2] at q; cases q
    · rcases List.mem_cons.mp z with rfl | z
      · rw [D.gnone] at q; cases q
      · rw [hfg b z] at q; cases q
  have S' : Sta K (hideAll s.heap hid) := S.keeps fun b o q => hideAll_get _ (L.fr.keep b o q) (hg b o q)
  have hf : s.heap.FunFrames (hideAll s.heap hid) (env :: fl) :=
    Heap.FunFrames.cons (by rw [D.kind]; decide) hfm L.fr.ns (hideAll_none _ (List.mem_append_right _ List.mem_cons_self)) (frames_base hff fun b hb => hideAll_none _ (List.mem_append_right _ (List.mem_cons_of_mem _ hb)))
  have O' : Own (hideAll s.heap hid) s own := ⟨fun b o q => of_hideAll _ q, Nat.le_of_eq (hideAll_size _ _), o2, fun p hp => ⟨(L.nw p (hs.subset hp)).1, hideAll_none _ (List.mem_append_left _ (List.mem_map_of_mem hp))⟩, D.tok⟩
  have hfrs : frs (env :: fl) = env.locals :: frs fl := by unfold frs; rw [List.filterMap_cons, hfm]
  have hord : (frs (env :: fl)).Pairwise (· > ·) := by
    rw [hfrs, List.pairwise_cons]
    exact ⟨hlo, F.keys ▸ o3'⟩
  refine C S' hA hst hf hord O' (fun p hp z => ?_) fun r s' own' hp O hnew kf rs u => ?_
  · rw [hfrs] at z
    rcases List.mem_cons.mp z with z | z
    · exact (L.nw p (hs.subset hp)).2.1 z
    · rw [← F.keys] at z
      exact absurd (o4 _ (List.mem_map_of_mem hp) _ (List.mem_append_right _ z)) (Nat.lt_irrefl _)
  obtain ⟨fo', ek, G⟩ := news_slots kf.tail (fo := fo) fun p hp => ⟨F.keys ▸ List.mem_map_of_mem hp, (L.nw p (hmf p hp)).1, (F.obj p hp).1⟩
  refine k r own' fo' s' hp ⟨by rw [ek, F.keys], fun p hp => ?_, F.env⟩ ⟨⟨m, ⟨⟨?_, fun b o q => O.keep _ _ (hideAll_get _ (L.fr.keep b o q) (hg b o q)), L.fr.above⟩, fun p hq => ?_, ?_⟩, e⟩, D.loc, D.nd, D.kind, Nat.le_trans D.tok u.1, D.rest.trans rs, D.up.trans u⟩
  · obtain ⟨g1, g2, q, hq, e1, sl, e2⟩ := G p hp
    obtain ⟨_, o, sl', h1, h2⟩ := F.obj q hq
    exact ⟨g2, o, sl, e1 ▸ h1, by rw [e2, h2]⟩
  · exact St.ns_slots L.fr.ns fun o h1 h2 => kf env.locals (by rw [hfrs]; exact List.mem_cons_self) o h1 h2
  · have old : ∀ p, p ∈ pre ∨ p ∈ post → s'.heap.get? p.1 = some p.2 ∧ p.1 ≠ env.locals ∧ g.get? p.1 = none := fun p hp => by
      have hm : p ∈ pre ++ (own ++ (post ++ fo)) := hp.elim (List.mem_append_left _) fun z => List.mem_append_right _ (List.mem_append_right _ (List.mem_append_left _ z))
      have z := L.nw p hm
      refine ⟨O.keep _ _ (hideAll_get _ z.1 fun q => ?_), z.2⟩
      rcases List.mem_append.mp q with q | q
      · rcases hp with hp | hp
        · exact absurd (o5 _ (List.mem_map_of_mem hp) _ (List.mem_append_left _ q)) (Nat.lt_irrefl _)
        · exact absurd (o4 _ q _ (List.mem_append_left _ (List.mem_map_of_mem hp))) (Nat.lt_irrefl _)
      · rcases List.mem_cons.mp q with q | q
        · exact z.2.1 q
        · rw [← F.keys] at q
          rcases hp with hp | hp
          · exact absurd (o5 _ (List.mem_map_of_mem hp) _ (List.mem_append_right _ (List.mem_append_right _ q))) (Nat.lt_irrefl _)
          · exact absurd (o3'' _ (List.mem_map_of_mem hp) _ q) (Nat.lt_irrefl _)
    rcases List.mem_append.mp hq with hq | hq
    · exact old p (.inl hq)
    · rcases List.mem_append.mp hq with hq | hq
      · have hk : p.1 ∈ own.map (·.1) := by rw [← hP r own' _ hp]; exact List.mem_map_of_mem hq
        obtain ⟨q, hq2, e2⟩ := List.mem_map.mp hk
        have z := L.nw q (hs.subset hq2)
        rw [e2] at z
        exact ⟨(O.at_ p hq).1, z.2⟩
      · rcases List.mem_append.mp hq with hq | hq
        · exact old p (.inr hq)
        · obtain ⟨g1, _, q, hq, e1, _⟩ := G p hq
          have z := L.nw q (hmf q hq)
          rw [e1] at z
          exact ⟨g1, z.2⟩
  · have := L.ord
    rw [List.map_append, List.map_append, List.map_append] at this ⊢
    rw [hP r own' _ hp, ek]; exact this
theorem useEn {news fo : News'} {P : Result → News' → Shared → Prop} {R : Result → Shared → Prop} (C : FnE K prog w n f args [] P) (S : Sta K g) (hA : Room A n) (hfm : env.frame = some env.locals) (hst : A.frames = some (env :: fl)) (F : FoAt B fl fo) (hlo : ∀ b ∈ frs fl, b < env.locals) (D : St B g env vals s (news ++ fo))
    (k : ∀ r own' fo' s', P r own' s' → (∀ p ∈ own', B.heap.objs.size ≤ p.1) → FoAt B fl fo' → St B g env vals s' (own' ++ (news ++ fo')) → R r s') : codeAny (model prog w) A (.call f ⟨args, []⟩) R s := by
  obtain ⟨m, L, e⟩ := D.led
  have ho := L.ord
  rw [List.map_append, List.pairwise_append] at ho
  obtain ⟨o3, o3', o3''⟩ := ho
  have hmf : ∀ p ∈ fo, p ∈ news ++ fo := fun p hp => List.mem_append_right _ hp
  have hfg : ∀ b ∈ frs fl, g.get? b = none := fun b hb => by
    rw [← F.keys] at hb
    obtain ⟨p, hp, rfl⟩ := List.mem_map.mp hb
    exact (L.nw p (hmf p hp)).2.2
  have hff : s.heap.FunFrames g fl := F.frames hfg fun p hp => (L.nw p (hmf p hp)).1
  let hid := env.locals :: frs fl
  have hg : ∀ b o, g.get? b = some o → b ∉ hid := fun b o q z => by
    rcases List.mem_cons.mp z with rfl | z
    · rw [D.gnone] at q; cases q
    · rw [hfg b z] at q; cases q
  have S' : Sta K (hideAll s.heap hid) := S.keeps fun b o q => hideAll_get _ (L.fr.keep b o q) (hg b o q)
  have hf : s.heap.FunFrames (hideAll s.heap hid) (env :: fl) :=
    Heap.FunFrames.cons (by rw [D.kind]; decide) hfm L.fr.ns (hideAll_none _ List.mem_cons_self) (frames_base hff fun b hb => hideAll_none _ (List.mem_cons_of_mem _ hb))
  have O' : Own (hideAll s.heap hid) s [] := ⟨fun b o q => of_hideAll _ q, Nat.le_of_eq (hideAll_size _ _), .nil, fun p hp => (nomatch hp), D.tok⟩
  have hfrs : frs (env :: fl) = env.locals :: frs fl := by unfold frs; rw [List.filterMap_cons, hfm]
  have hord : (frs (env :: fl)).Pairwise (· > ·) := by
    rw [hfrs, List.pairwise_cons]
    exact ⟨hlo, F.keys ▸ o3'⟩
  refine C S' hA hst hf hord O' (fun p hp => (nomatch hp)) fun r s' own' hp O hnew kf rs u => ?_
  obtain ⟨fo', ek, G⟩ := news_slots kf.tail (fo := fo) fun p hp => ⟨F.keys ▸ List.mem_map_of_mem hp, (L.nw p (hmf p hp)).1, (F.obj p hp).1⟩
  have hnew' : ∀ p ∈ own', s.heap.objs.size ≤ p.1 := fun p hp => (hnew p hp).resolve_left (by simp)
  refine k r own' fo' s' hp (fun p hp => Nat.le_trans D.up.2 (hnew' p hp)) ⟨by rw [ek, F.keys], fun p hp => ?_, F.env⟩ ⟨⟨m, ⟨⟨?_, fun b o q => O.keep _ _ (hideAll_get _ (L.fr.keep b o q) (hg b o q)), L.fr.above⟩, fun p hq => ?_, ?_⟩, e⟩, D.loc, D.nd, D.kind, Nat.le_trans D.tok u.1, D.rest.trans rs, D.up.trans u⟩
  · obtain ⟨g1, g2, q, hq, e1, sl, e2⟩ := G p hp
    obtain ⟨_, o, sl', h1, h2⟩ := F.obj q hq
    exact ⟨g2, o, sl, e1 ▸ h1, by rw [e2, h2]⟩
  · exact St.ns_slots L.fr.ns fun o h1 h2 => kf env.locals (by rw [hfrs]; exact List.mem_cons_self) o h1 h2
  · rcases List.mem_append.mp hq with hq | hq
    · have hge := hnew' p hq
      refine ⟨(O.at_ p hq).1, fun q => ?_, ?_⟩
      · have := L.fr.ns.lt; rw [← q] at this; exact absurd this (Nat.not_lt.mpr hge)
      · cases q : g.get? p.1 with
        | none => rfl
        | some o => exact absurd (Heap.lt_size (L.fr.keep _ _ q)) (Nat.not_lt.mpr hge)
    · rcases List.mem_append.mp hq with hq | hq
      · have z := L.nw p (List.mem_append_left _ hq)
        refine ⟨O.keep _ _ (hideAll_get _ z.1 fun q => ?_), z.2⟩
        rcases List.mem_cons.mp q with q | q
        · exact z.2.1 q
        · rw [← F.keys] at q
          exact absurd (o3'' _ (List.mem_map_of_mem hq) _ q) (Nat.lt_irrefl _)
      · obtain ⟨g1, _, q, hq, e1, _⟩ := G p hq
        have z := L.nw q (hmf q hq)
        rw [e1] at z
        exact ⟨g1, z.2⟩
  · have hL := L.ord
    rw [List.map_append] at hL
    rw [List.map_append, List.map_append, ek]
    refine List.pairwise_append.mpr ⟨O.ord, hL, fun a ha b hb => ?_⟩
    obtain ⟨p, hp, rfl⟩ := List.mem_map.mp ha
    have : b ∈ (news ++ fo).map (·.1) := by rw [List.map_append]; exact hb
    obtain ⟨q, hq, rfl⟩ := List.mem_map.mp this
    exact Nat.lt_of_lt_of_le (Heap.lt_size (L.nw q hq).1) (hnew' p hp)
end
section
variable {prog : Program} {w : World} {A : Around} {R : Result → Shared → Prop} {s : Shared} {g : Heap} {own : News'} {K : Frag} {n : Nat}
  {name qual : Str} {params : Arguments} {body : List Stmt} {scope : Scope} {dV kV doc pm cdv ct oc : Value} {an od : Option Addr} {osl : Array (Option Value)} {f : Addr} {args : Args} {binds : List (Str × Value)}
  {gl : List (Str × Value)} {more : List Str}
theorem enterF (S : Sta K g) (O : Own g s own) (hroom : Room A (n + 1))
    (ho : K.lookup f = some ⟨oc, od, .func (fnX name qual params body scope [] dV kV doc pm an cdv ct), osl⟩) (hcd : codeIn K cdv qual = true)
    (hbind : BindsTo s (fnX name qual params body scope [] dV kV doc pm an cdv ct) args binds)
    (hok : bodyOk scope (binds.map (·.1)) more = true) (hgl : gloOk K scope gl = true)
    (h : ∀ env A' s1, Room A' n → env.locals = s.heap.objs.size → env.frame = some env.locals → (∀ fl, A.frames = some fl → A'.frames = some (env :: fl)) → Glo K env gl → St s g env (startVals binds more) s1 own →
      wpAny (model prog w) A' (execs body env) (fun fl s' => R (.ok (.ret (retOf fl))) s') (fun e s' => wpAny (model prog w) A' (leaving env e) (fun _ s'' => R (.error e) s'') (fun e' s'' => R (.error e') s'') s') s1) :
    codeAny (model prog w) A (.call (.ref f) args) R s :=
  enterG S O O Up.rfl Rest.rfl hroom ho hcd (fun _ _ _ _ q => hbind _ _ _ _ q) hok hgl fun env A' s1 a _ => h env A' s1 a
end
section
variable {B : Shared} {g : Heap} {env : Env} {vals vals' : Vals} {s : Shared} {own own' : News'} {A : Around} {E : Value → Shared → Prop} {K : Frag} {prog : Program} {w : World} {n : Nat} {fl : List Env} {R : Result → Shared → Prop}
/-- the base that the walk of a raising def is made over: all that the caller does not own -/
noncomputable abbrev base2 (s : Shared) (own : News') : Heap := hideAll s.heap (own.map (·.1))
theorem Own.base2 (O : Own g s own) : Own (base2 s own) s own := ⟨fun b o q => of_hideAll _ q, Nat.le_of_eq (hideAll_size _ _), O.ord, fun p hp => ⟨(O.at_ p hp).1, hideAll_none _ (List.mem_map_of_mem hp)⟩, O.tok⟩
theorem Own.to2 (O : Own g s own) : ∀ b o, g.get? b = some o → (Mine.base2 s own).get? b = some o := fun b o q => hideAll_get _ (O.keep b o q) fun z => by
  obtain ⟨p, hp, rfl⟩ := List.mem_map.mp z
  rw [(O.at_ p hp).2] at q; cases q
theorem Own.sta2 (O : Own g s own) (S : Sta K g) : Sta K (Mine.base2 s own) := S.keeps O.to2
theorem St.ends (D : St B (base2 B own) env vals s own') (O : Own g B own) (hk : own'.map (·.1) = own.map (·.1)) : Own g s own' := by
  obtain ⟨m, L, e⟩ := D.led
  refine ⟨fun b o q => L.fr.keep _ _ (O.to2 b o q), Nat.le_trans O.size D.up.2, L.ord, fun p hp => ⟨(L.nw p hp).1, ?_⟩, D.tok⟩
  have : p.1 ∈ own.map (·.1) := by rw [← hk]; exact List.mem_map_of_mem hp
  obtain ⟨q, hq, e2⟩ := List.mem_map.mp this
  rw [← e2]; exact (O.at_ q hq).2
theorem St.keptF (D : St B (base2 B own) env vals s own') (hno : ∀ p ∈ own, p.1 ∉ frs fl) : ∀ b ∈ frs fl, ∀ o, B.heap.get? b = some o → s.heap.get? b = some o := fun b hb o ho =>
  D.keep b o (hideAll_get _ ho fun z => by
    obtain ⟨p, hp, rfl⟩ := List.mem_map.mp z
    exact hno p hp hb)
theorem St.leaveE (D : St B (base2 B own) env vals s own') (O : Own g B own) (hno : ∀ p ∈ own, p.1 ∉ frs fl) (hk : own'.map (·.1) = own.map (·.1)) {v : Value} {post : Result → News' → Shared → Prop} (hp : post (.ok (.ret v)) own' s)
    (k : ∀ r s' own', post r own' s' → Own g s' own' → (∀ p ∈ own', p.1 ∈ own.map (·.1) ∨ B.heap.objs.size ≤ p.1) → KeptF fl B.heap s'.heap → Rest B s' → Up B s' → R r s') : R (.ok (.ret v)) s :=
  k _ s own' hp (D.ends O hk) (fun p hp => .inl (by rw [← hk]; exact List.mem_map_of_mem hp)) (fun b hb o ho _ => ⟨o.slots, D.keptF hno b hb o ho⟩) D.rest D.up
theorem St.raiseE (D : St B (base2 B own) env vals s own') (O : Own g B own) (hno : ∀ p ∈ own, p.1 ∉ frs fl) (hk : own'.map (·.1) = own.map (·.1)) (hfm : env.frame = some env.locals) (hfr : A.frames = some (env :: fl)) (hff : B.heap.FunFrames g fl) {h1 : Heap} {e : Addr} {cls : String} {args : List Value} (hx : Heap.MadeExc s.heap h1 e cls args)
    {post : Result → News' → Shared → Prop} (hp : ∀ s, (∃ ob, s.heap.get? e = some ob ∧ ob.cls = .type cls) → post (.error (.ref e)) own' s)
    (k : ∀ r s' own', post r own' s' → Own g s' own' → (∀ p ∈ own', p.1 ∈ own.map (·.1) ∨ B.heap.objs.size ≤ p.1) → KeptF fl B.heap s'.heap → Rest B s' → Up B s' → R r s') :
    wpAny (model prog w) A (leaving env (.ref e)) (fun _ s'' => Up B s'' → R (.error (.ref e)) s'') (fun e' s'' => Up B s'' → R (.error e') s'') { s with heap := h1 } := by
  obtain ⟨m, L, ev⟩ := D.led
  have OE := D.ends O hk
  have hff1 : s.heap.FunFrames g fl := KeptF.frames (fun b hb o ho _ => ⟨o.slots, D.keptF hno b hb o ho⟩) hff
  have hfrs : frs (env :: fl) = env.locals :: frs fl := by unfold frs; rw [List.filterMap_cons, hfm]
  have hgl : g.get? env.locals = none := by
    cases q : g.get? env.locals with
    | none => rfl
    | some o => exact absurd (Heap.lt_size (O.to2 _ _ q)) (Nat.not_lt.mpr L.fr.above)
  have hF : s.heap.FunFrames (hideAll s.heap (env.locals :: frs fl)) (env :: fl) :=
    Heap.FunFrames.cons (by rw [D.kind]; decide) hfm L.fr.ns (hideAll_none _ List.mem_cons_self) (frames_base hff1 fun b hb => hideAll_none _ (List.mem_cons_of_mem _ hb))
  refine wpAny_leaves_madeW hfr hfm (fun b o q => of_hideAll _ q) hF hx.of fun h' t x1 x2 x3 x4 u => ?_
  have hst : ∀ b o, s.heap.get? b = some o → b ≠ env.locals → b ∉ frs fl → h'.get? b = some o := fun b o q1 q2 q3 => x1.1 _ _ (hideAll_get _ q1 fun z => by
    rcases List.mem_cons.mp z with z | z
    · exact q2 z
    · exact q3 z)
  refine k _ _ own' (hp _ (by
    obtain ⟨ob, ho, hc⟩ := x1.there
    exact ⟨ob, ho, hc⟩)) ⟨fun b o q => hst b o (OE.keep b o q) (fun z => by rw [z, hgl] at q; cases q) (fun z => by rw [(hff.mem z).1] at q; cases q), Nat.le_trans O.size u.2, OE.ord, fun p hp => ⟨hst _ _ (OE.at_ p hp).1 (L.nw p hp).2.1 fun z => ?_, (OE.at_ p hp).2⟩, Nat.le_trans D.tok (Nat.le_refl _)⟩
    (fun p hp => .inl (by rw [← hk]; exact List.mem_map_of_mem hp)) (fun b hb o ho hd => ?_) ⟨D.rest.1, D.rest.2.1, D.rest.2.2⟩ u
  · have : p.1 ∈ own.map (·.1) := by rw [← hk]; exact List.mem_map_of_mem hp
    obtain ⟨q, hq, e2⟩ := List.mem_map.mp this
    exact hno q hq (e2 ▸ z)
  · exact x4 b o (hx.keeps _ _ (D.keptF hno b hb o ho)) hd
end
section
variable {B : Shared} {g : Heap} {env : Env} {vals vals' : Vals} {s : Shared} {news news' own' fo : News'} {A : Around} {fl : List Env} {R : Result → Shared → Prop}
theorem Own.withFo (O : Own g s []) (F : FoAt s fl fo) (G : ∀ p ∈ fo, s.heap.get? p.1 = some p.2 ∧ g.get? p.1 = none) (hord : (frs fl).Pairwise (· > ·)) : Own g s fo := ⟨O.keep, O.size, F.keys ▸ hord, G, O.tok⟩
theorem FoAt.kept (F : FoAt B fl fo) {h : Heap} (hm : ∀ p ∈ fo, h.get? p.1 = some p.2) : KeptF fl B.heap h := fun b hb o ho _ => by
  rw [← F.keys] at hb
  obtain ⟨p, hp, rfl⟩ := List.mem_map.mp hb
  obtain ⟨_, o', sl, h1, h2⟩ := F.obj p hp
  rw [ho] at h1; cases h1
  exact ⟨sl, h2 ▸ hm p hp⟩
theorem St.leaveF (D : St B g env vals s (news ++ fo)) (F : FoAt B fl fo) (hn : own'.Sublist news) (hB : ∀ p ∈ own', B.heap.objs.size ≤ p.1) (hg : g.objs.size ≤ B.heap.objs.size) {v : Value} {post : Result → News' → Shared → Prop} (hp : post (.ok (.ret v)) own' s)
    (k : ∀ r s' own', post r own' s' → Own g s' own' → (∀ p ∈ own', p.1 ∈ ([] : News').map (·.1) ∨ B.heap.objs.size ≤ p.1) → KeptF fl B.heap s'.heap → Rest B s' → Up B s' → R r s') : R (.ok (.ret v)) s := by
  have KF : KeptF fl B.heap s.heap := F.kept fun p hp => D.get (List.mem_append_right _ hp)
  obtain ⟨m, L, e⟩ := (D.drop (hn.trans (List.sublist_append_left _ _))).led
  exact k _ s own' hp ⟨L.fr.keep, Nat.le_trans hg D.up.2, L.ord, fun p hp => ⟨(L.nw p hp).1, (L.nw p hp).2.2⟩, D.tok⟩ (fun p hp => .inr (hB p hp)) KF D.rest D.up
end

end
section
/-! ## calls with keywords; classes made through a __new__ of the text's own -/
theorem Room.make {A : Around} {n : Nat} (h : Room A (n + 1)) (C : Addr) (vs : List Value) (kw : List (Str × Value)) : Room (A.under (.builtin "type.__call__" ⟨.ref C :: vs, kw⟩)) n :=
  ⟨h.hd, dp1 (a := A.depth) h.dp, un1 (a := A.units) h.un⟩
noncomputable def FnK (K : Frag) (prog : Program) (w : World) (n : Nat) (f : Value) (args : Args) (own : News') (post : Value → News' → Prop) : Prop :=
  ∀ {A : Around} {s : Shared} {g : Heap} {R : Result → Shared → Prop}, Sta K g → Room A n → Own g s own →
    (∀ v s' own', post v own' → Own g s' own' → (∀ p ∈ own', p.1 ∈ own.map (·.1) ∨ s.heap.objs.size ≤ p.1) → Rest s s' → Up s s' → R (.ok (.ret v)) s') →
    codeAny (model prog w) A (.call f args) R s
section
variable {B : Shared} {g : Heap} {env : Env} {vals vals' : Vals} {s : Shared} {news news' : News'} {A : Around} {E : Value → Shared → Prop} {K : Frag} {prog : Program} {w : World} {n : Nat} {f : Value} {args : Args} {C : Addr}
/-- a call that may make new objects and turns the newest ones -/
theorem useG {own post : News'} {P : Value → News' → Prop} {R : Result → Shared → Prop} (Cc : FnK K prog w n f args own P) (S : Sta K g) (hA : Room A n) (D : St B g env vals s (own ++ post))
    (k : ∀ v own' s', P v own' → (∀ p ∈ own', p.1 ∈ own.map (·.1) ∨ B.heap.objs.size ≤ p.1) → St B g env vals s' (own' ++ post) → R (.ok (.ret v)) s') : codeAny (model prog w) A (.call f args) R s := by
  have hs : own.Sublist (own ++ post) := List.sublist_append_left own post
  obtain ⟨m, L, e⟩ := D.led
  have ho := L.ord
  rw [List.map_append, List.pairwise_append] at ho
  obtain ⟨o2, o3, o4⟩ := ho
  refine Cc (D.sta S hs) hA (D.own hs) fun v s' own' hp O hnew r u => k v own' s' hp (fun p hp => (hnew p hp).imp id fun z => Nat.le_trans D.up.2 z) (D.after (own := own) (fun p hp => hs.subset hp) O r u (fun p hq => ?_) ?_)
  · rcases List.mem_append.mp hq with hq | hq
    · rcases hnew p hq with hk | hge
      · obtain ⟨q, hq2, e2⟩ := List.mem_map.mp hk
        have z := L.nw q (hs.subset hq2)
        rw [e2] at z
        exact .inl ⟨hq, z.2.2, z.2.1⟩
      · refine .inl ⟨hq, ?_, fun q => ?_⟩
        · cases q : g.get? p.1 with
          | none => rfl
          | some o => exact absurd (Heap.lt_size (L.fr.keep _ _ q)) (Nat.not_lt.mpr hge)
        · have := L.fr.ns.lt; rw [← q] at this; exact absurd this (Nat.not_lt.mpr hge)
    · refine .inr ⟨List.mem_append_right _ hq, fun z => ?_⟩
      exact absurd (o4 _ z _ (List.mem_map_of_mem hq)) (Nat.lt_irrefl _)
  · rw [List.map_append]
    refine List.pairwise_append.mpr ⟨O.ord, o3, fun a ha b hb => ?_⟩
    obtain ⟨p, hp, rfl⟩ := List.mem_map.mp ha
    rcases hnew p hp with hk | hge
    · exact o4 _ hk _ hb
    · obtain ⟨q, hq, rfl⟩ := List.mem_map.mp hb
      exact Nat.lt_of_lt_of_le (Heap.lt_size (L.nw q (List.mem_append_right _ hq)).1) hge
/-- a new object of a class whose makers are object's own -/
theorem r_makeK {rest : List Value} {kw : List (Str × Value)} {fI : Addr} {Q : Value → Shared → Prop} (S : Sta K g) (D : St B g env vals s news) (hm : makesIn K C = true) (hi : findIn K (.ref C) "__init__" = some (some (.ref fI))) (hf : typeIn K (.ref fI) = some (.type "function"))
    (h : ∀ x dx s', B.heap.objs.size ≤ dx → B.heap.objs.size ≤ x → St B g env vals s' (Ob x C dx :: (Di dx [] 0) :: news) →
      codeAny (model prog w) (A.under (.builtin "type.__call__" ⟨.ref C :: rest, kw⟩)) (.call (.ref fI) ⟨.ref x :: rest, kw⟩) (fun r s' => match r with | .ok (.ret v) => v = .none ∧ Q (.ref x) s' | _ => False) s') :
    wpAny (model prog w) A (call (.ref C) rest kw) Q E s := by
  obtain ⟨hh, gg, d, t, os⟩ := s
  refine wpAny_call (make_core (makes_of (S.X.keeps D.keep) hm) (looks_findIn (S.X.keeps D.keep) hi) (fun self => bind_fn (S.X.keeps D.keep) self hf) (.inl rfl) ?_)
  have D1 := D.made emptyDict
  have D2 := D1.made (instObj C hh.objs.size)
  have e2 : (hh.push emptyDict).objs.size = hh.objs.size + 1 := Heap.size_push ..
  refine codeAny_mono (h (hh.objs.size + 1) hh.objs.size _ D.up.2 (Nat.le_succ_of_le D.up.2) (e2 ▸ D2)) fun r s' q => ?_
  rcases r with e | (v | _ | _ | _) <;> first | exact q.elim | exact q
end
/-- a tree run on to its first step that is no reading of the known heap -/
noncomputable def toNext {α : Type} (K : Frag) (S : Setting) : Sem α → Sem α
  | .rule _ k => toNext K S (k ())
  | .point _ k => toNext K S (k ())
  | .ask k => toNext K S (k S)
  | .load a p k => (match K.lookup a with
      | some o => toNext K S (k o)
      | none => .load a p k)
  | t => t
theorem at_same {α : Type} {M : Model} {A : Around} {Q : α → Shared → Prop} {E : Value → Shared → Prop} {s : Shared} {t u : Sem α} (q : wpAny M A u Q E s) (e : t = u) : wpAny M A t Q E s := e ▸ q
set_option smartUnfolding false in
theorem at_next {α : Type} {K : Frag} {M : Model} {A : Around} {Q : α → Shared → Prop} {E : Value → Shared → Prop} {s : Shared} {u : Sem α} (X : K.In s.heap) (q : wpAny M A u Q E s) : ∀ t : Sem α, toNext K ⟨M.prog, M.w.params⟩ t = u → wpAny M A t Q E s := by
  intro t
  induction t with
  | rule _ k ih => exact fun e Γ p hΓ => ih () e Γ p hΓ
  | point _ k ih => exact fun e Γ p hΓ => ih () e Γ p hΓ
  | ask k ih => exact fun e Γ p hΓ => ih _ e Γ p hΓ
  | load a p k ih =>
    intro e
    replace e : (match K.lookup a with | some o => toNext K ⟨M.prog, M.w.params⟩ (k o) | none => .load a p k) = u := e
    cases hl : K.lookup a with
    | some o => rw [hl] at e; exact fun Γ p hΓ => ⟨o, X _ _ hl, ih o e Γ p hΓ⟩
    | none => rw [hl] at e; exact at_same q e
  | _ => exact at_same q
section
variable {prog : Program} {w : World} {A : Around} {R : Result → Shared → Prop} {h : Heap} {g : Array GenState} {d : Drawn} {t : Nat} {os : OsState}
theorem new662 (X : (Mine.hz.heap_1_39 w.params).In h) (hq : R (.ok (.ret (.ref (h.objs.size + 1)))) ⟨(h.push emptyDict).push (instObj 662 h.objs.size), g, d, t, os⟩) :
    codeAny (model prog w) A (.call (.builtin "object.__new__") ⟨[.ref 662], []⟩) R ⟨h, g, d, t, os⟩ := by
  have F := PySem.F.objNew
  refine codeAny_call_builtin_code (Code.quiet_builtin _ F.quiet) ?_
  unfold checkBuiltinCall
  rw [F.kind, F.split, F.row]
  refine at_next (u := pure ()) X (wpAny_pure ?_) _ (by kernel_rfl)
  refine codeAny_builtin F.entry ?_
  refine at_next (u := (alloc emptyDict >>= fun x => newObj (.ref 662) .plain (some x) >>= ret)) X (wpAny_bind (wpAny_alloc ?_)) _ (by kernel_rfl)
  have X1 : (Mine.hz.heap_1_39 w.params).In (h.push emptyDict) := X.keeps fun _ _ e => Heap.get?_push_of_some _ e
  refine at_next (u := (alloc (instObj 662 h.objs.size) >>= fun x => (classHasDel 662 >>= fun b => if b = true then register x >>= fun _ => pure (.ref x) else pure (.ref x)) >>= ret)) X1 (wpAny_bind (wpAny_alloc ?_)) _ (by kernel_rfl)
  refine at_next (u := pure (.done (.ret (.ref (h.push emptyDict).objs.size)))) (X1.keeps fun _ _ e => Heap.get?_push_of_some _ e) (wpAny_pure ?_) _ (by kernel_rfl)
  rw [Heap.size_push]
  exact hq
end
section
variable {B : Shared} {g : Heap} {env : Env} {vals vals' : Vals} {s : Shared} {news news' : News'} {A : Around} {E : Value → Shared → Prop} {K : Frag} {prog : Program} {w : World} {n : Nat} {C : Addr}
theorem get_new {M : Unit} {p : Addr} {f : Value} {rest : List Value} {mc : Value} {expr : Bool} {Q : Value → Shared → Prop} (X : K.In s.heap) (hr : readsIn K C mc = true)
    (e : findCls K (.ref C) mc (Str.ofString "__new__") = some (.get (.builtin "staticmethod.__get__") (.ref p) .none (.ref C))) (hp : recIn K p "staticmethod" = some (f :: rest)) (hv : handedIn f = true) (h : Q f { s with toks := s.toks + 1 }) :
    wpAny (model prog w) A (getAttr (.ref C) (Str.ofString "__new__") expr) Q E s :=
  cls_bind X hr e (wpAny_call (sm_get (s := { s with toks := s.toks + 1 }) X hp (handed_on hv h)))
theorem r_makePy {oc : Value} {od : Option Addr} {cd : ClassData} {sl : Array (Option Value)} {rest rest' : List Value} {fN fI p : Addr} {mc : Value} {Q : Value → Shared → Prop} (S : Sta K g) (D : St B g env vals s news) (hA : Room A (n + 1))
    (hK : K.lookup C = some ⟨oc, od, .cls cd, sl⟩) (e4 : cd.mro.isEmpty = false) (hcall : specialIn K (.ref C) "__call__" = some (some (.builtin "type.__call__"))) (htyp : instIn K (.ref C) (.type "type") = some true)
    (hmb : ∀ S, peek K S (Bind.madeBy (.ref C)) = some none) (hread : readsIn K C mc = true) (hfind : findCls K (.ref C) mc (Str.ofString "__new__") = some (.get (.builtin "staticmethod.__get__") (.ref p) .none (.ref C)))
    (hrec : recIn K p "staticmethod" = some (.ref fN :: rest')) (hself : mroIn K C (.ref C) = some true) (hi : findIn K (.ref C) "__init__" = some (some (.ref fI))) (hf : typeIn K (.ref fI) = some (.type "function"))
    (hn : FnK K prog w n (.ref fN) ⟨.ref C :: rest, []⟩ [] (fun v own => ∃ x dx, v = .ref x ∧ own = [Ob x C dx, Di dx [] 0]))
    (h : ∀ x dx s', B.heap.objs.size ≤ dx → B.heap.objs.size ≤ x → St B g env vals s' (Ob x C dx :: (Di dx [] 0) :: news) →
      codeAny (model prog w) (A.under (.builtin "type.__call__" ⟨.ref C :: rest, []⟩)) (.call (.ref fI) ⟨.ref x :: rest, []⟩) (fun r s' => match r with | .ok (.ret v) => v = .none ∧ Q (.ref x) s' | _ => False) s') :
    wpAny (model prog w) A (call (.ref C) rest []) Q E s := by
  have X := S.X.keeps D.keep
  have hA' := hA.make C rest []
  have hC := X _ _ hK
  have Ccall : Looks (model prog w) s.heap (specialOf (.ref C) "__call__") (some (.builtin "type.__call__")) := looks_specialIn X hcall
  have typ : Looks (model prog w) s.heap (isInstance (.ref C) (.type "type")) true := looks_instIn X htyp
  have made : Looks (model prog w) s.heap (Bind.madeBy (.ref C)) none := Looks.of_peek X (hmb _)
  obtain ⟨hh, gg, d, t, os⟩ := s
  refine wpAny_call (codeAny_of_tree ?_)
  show wpAny _ _ (callAny (.ref C) _) _ _ _
  refine nd_load hC ?_
  show wpAny _ _ (callAny.viaDunder (.ref C) _) _ _ _
  unfold callAny.viaDunder
  refine wpAny_bind (Ccall.at ?_)
  dsimp only
  rw [tc_bind]
  refine wpAny_bind (wpAny_pure (wpAny_bind (wpAny_pure ?_)))
  refine wpAny_pure (a := Fin.again (.call (.builtin "type.__call__") ⟨.ref C :: rest, []⟩)) (And.intro rfl ?_)
  refine codeAny_call_builtin_at (Code.quiet_builtin _ (by decide +kernel)) entry_typeCall (check_slot tc_kind tc_split typ (tc_args _ _ _) ?_)
  unfold Builtin.«type.__call__»
  have hm : Looks (model prog w) hh (mroOf (.ref C)) cd.mro := ((Looks.ld (part := none) hC).andThen .now).andThen .now
  repeat (first | (with_reducible refine get_new (M := ()) X hread hfind hrec rfl ?_) | with_reducible refine wp_if_f e4 ?_ | with_reducible refine wp_if_f (by with_unfolding_all exact rfl) ?_ | with_reducible refine wp_if_t (by with_unfolding_all exact rfl) ?_ | with_reducible refine wpAny_call ?_ | lk)
  refine useG (post := news) hn S hA' (D.tk1 (n := 1)) fun v own' s2 hp hB D2 => ?_
  obtain ⟨x, dx, rfl, rfl⟩ := hp
  replace D2 : St B g env vals s2 (Ob x C dx :: Di dx [] 0 :: news) := D2
  have hbx : B.heap.objs.size ≤ x := (hB (Ob x C dx) (.head _)).resolve_left (fun h => nomatch h)
  have hbd : B.heap.objs.size ≤ dx := (hB (Di dx [] 0) (.tail _ (.head _))).resolve_left (fun h => nomatch h)
  have I2 : InstAt s2.heap x (instObj C dx) C (some (dictOf [] 0)) := inst_at (D2.get (.head _)) (D2.get (.tail _ (.head _)))
  have X2 := S.X.keeps D2.keep
  have t1 : Looks (model prog w) s2.heap (typeOf (.ref x)) (.ref C) := I2.type
  have s1 : Looks (model prog w) s2.heap (isSubtype (.ref C) (.ref C)) true := looks_mroIn X2 hself
  have i1 : Looks (model prog w) s2.heap (typeLookup (.ref C) (Str.ofString "__init__")) (some (.ref fI)) := looks_findIn X2 hi
  have b1 : Looks (model prog w) s2.heap (bindSpecial (.ref fI) (.ref x)) (.ref fI, [.ref x]) := bind_fn X2 (.ref x) hf
  have hq := h x dx s2 hbd hbx D2
  clear D D2 hn h I2 X2
  obtain ⟨hh2, gg2, d2, tt2, os2⟩ := s2
  dsimp only
  unfold isInstance callSpecial? specialOf
  repeat (first | with_reducible refine wpAny_call ?_ | lk)
  refine codeAny_mono hq fun r s' z => ?_
  rcases r with e | (v | _ | _ | _) <;> first | exact z.elim | skip
  obtain ⟨rfl, z⟩ := z
  exact wpAny_pure (wpAny_pure z)
end
section
variable {prog : Program} {w : World} {A : Around} {R : Result → Shared → Prop} {s : Shared} {g : Heap} {own : News'} {K : Frag} {n : Nat}
  {name qual : Str} {params : Arguments} {body : List Stmt} {scope : Scope} {dV kV doc pm cdv ct oc : Value} {an od : Option Addr} {osl : Array (Option Value)} {f : Addr} {args : Args} {binds : List (Str × Value)}
  {gl : List (Str × Value)} {more : List Str}
theorem enterB {s₁ : Shared} (S : Sta K g) (O : Own g s own) (O₁ : Own g s₁ own) (u₁ : Up s s₁) (r₁ : Rest s s₁) (hroom : Room A (n + 1))
    (ho : K.lookup f = some ⟨oc, od, .func (fnX name qual params body scope [] dV kV doc pm an cdv ct), osl⟩) (hcd : codeIn K cdv qual = true)
    (hbind : ∀ (M : Model) (A : Around) (E : Value → Shared → Prop) (Q : List (Str × Value) → Shared → Prop), Q binds s₁ → wpAny M A (bindArgs (fnX name qual params body scope [] dV kV doc pm an cdv ct) args) Q E s)
    (hok : bodyOk scope (binds.map (·.1)) more = true) (hgl : gloOk K scope gl = true)
    (h : ∀ env A' s1, Room A' n → Glo K env gl → St s g env (startVals binds more) s1 own →
      wpAny (model prog w) A' (execs body env) (fun fl s' => R (.ok (.ret (retOf fl))) s') (fun e s' => wpAny (model prog w) A' (leaving env e) (fun _ s'' => R (.error e) s'') (fun e' s'' => R (.error e') s'') s') s1) :
    codeAny (model prog w) A (.call (.ref f) args) R s :=
  enterG S O O₁ u₁ r₁ hroom ho hcd hbind hok hgl fun env A' s1 a _ _ _ _ => h env A' s1 a
end

end
section
/-! ## comprehensions over a list -/
section
variable {B : Shared} {g : Heap} {env : Env} {vals vals' : Vals} {s : Shared} {news news' : News'} {A : Around} {E : Value → Shared → Prop} {K : Frag} {prog : Program} {w : World}
/-- what one turn owes -/
noncomputable def CompStep (K : Frag) (prog : Program) (w : World) (A : Around) (x : Str) (ifs : List Expr) (elt : Expr) (vs : List Value) (Rr : Nat → List Value → Prop) (cenvOf : Addr → Env) (s₂ : Shared) : Prop :=
  ∀ C B' g' s i v ys m acc I o, (∀ b o, s₂.heap.get? b = some o → g'.get? b = some o) → I < acc → Sta K g' → vs[i]? = some v → Rr i ys → St B' g' (cenvOf C) [(x, some v)] s [(acc, Lo ys m), (I, o)] →
    wpAny (model prog w) A (forIn ifs true fun c r => if r = true then do let ok ← isTrue c (cenvOf C) (eval c (cenvOf C)); pure (ForInStep.yield ok) else pure (ForInStep.yield r))
      (fun ok s₁ => if ok = true then wpAny (model prog w) A (eval elt (cenvOf C)) (fun y s₂ => Rr (i + 1) (ys ++ [y]) ∧ ∃ vx, St B' g' (cenvOf C) [(x, vx)] s₂ [(acc, Lo ys m), (I, o)]) (fun _ _ => False) s₁
        else Rr (i + 1) ys ∧ ∃ vx, St B' g' (cenvOf C) [(x, vx)] s₁ [(acc, Lo ys m), (I, o)]) (fun _ _ => False) s
theorem comp_core {elt iter : Expr} {x : Str} {px : Pos} {ifs : List Expr} {scope : Scope} {cl : List (Str × Addr)} {pos : Pos} {l : Addr} {vs : List Value} {n : Nat} {Rr : Nat → List Value → Prop} {RR : Value → Addr → Result → Shared → Prop}
    (hA : A.handled = none) (hcell : ∀ y ∈ scope.names, y.2 ≠ .cell) (hkind : scope.kind = .function) (hx : scope.names.lookup x = some .local) (hd : (x == ("__debug__" : Str)) = false)
    (S : Sta K g) (D : St B g env vals s news) (hm : s.heap.get? l = some (Lo vs n)) (h0 : Rr 0 []) (hlen : ∀ i ys, Rr i ys → ys.length ≤ 16777216)
    (step : CompStep K prog w A x ifs elt vs Rr (fun C => compEnvC scope cl C env) s)
    (hfin : ∀ ys m acc C oC s', Rr vs.length ys → B.heap.objs.size ≤ acc → (∃ mC, s'.heap.Ns C mC) → St B g env vals s' ((C, oC) :: (acc, Lo ys m) :: news) → RR (.ref acc) C (.ok .next) s') :
    wpAny (model prog w) A (newList []) (fun acc s₃ => wpAny (model prog w) A (newFunctionEnv scope env.globals cl [] env.qual none .none (some env)) (fun cenv s₄ =>
      codeAny (model prog w) A (.compStart (.ListComp elt [⟨.Name x px, iter, ifs, 0⟩] scope pos) 0 (.ref s.heap.objs.size) acc { cenv with scope := relabel scope env }) (RR acc cenv.locals) s₄) E s₃) E { s with heap := s.heap.push (Li l 0) } := by
  have hI : s.heap.objs.size < (s.heap.push (Li l 0)).objs.size := by rw [Heap.size_push]; exact Nat.lt_succ_self _
  have hlI : l ≠ s.heap.objs.size := Nat.ne_of_lt (Heap.lt_size hm)
  have hm2 : (s.heap.push (Li l 0)).get? l = some (Lo vs n) := Heap.get?_push_of_some _ hm
  have D2 := D.made (Li l 0)
  have hgI : g.get? s.heap.objs.size = none := by
    obtain ⟨m, L, _⟩ := D2.led
    exact (L.nw _ List.mem_cons_self).2.2
  have hold : ∀ b o, s.heap.get? b = some o → (s.heap.push (Li l 0)).get? b = some o ∧ b ≠ s.heap.objs.size := fun b o e => ⟨Heap.get?_push_of_some _ e, Nat.ne_of_lt (Heap.lt_size e)⟩
  have hold : ∀ b o, s.heap.get? b = some o → ({ s with heap := s.heap.push (Li l 0) } : Shared).heap.get? b = some o ∧ b ≠ s.heap.objs.size := hold
  generalize hs2 : ({ s with heap := s.heap.push (Li l 0) } : Shared) = s2 at D2 hold ⊢
  have hI2 : s.heap.objs.size < s2.heap.objs.size := by rw [← hs2]; exact hI
  have hm2' : s2.heap.get? l = some (Lo vs n) := by rw [← hs2]; exact hm2
  have hB2 : B.heap.objs.size ≤ s2.heap.objs.size := D2.up.2
  generalize s.heap.objs.size = I at hI hI2 hlI D2 hgI hold ⊢
  clear hs2 hI hm2 D hm
  as_aux_lemma =>
    refine wpAny_newObj_type (wpAny_newFunctionEnv hcell (by intro y hy; simp at hy) (fun h₁ hns₁ hsb₁ => ?_) hkind)
    dsimp only at hns₁ hsb₁ ⊢
    generalize hH2 : s2.heap.push { cls := .type "list", dict := none, data := .seq ([] : List Value).toArray } = H2 at hns₁ hsb₁ ⊢
    have hC : H2.objs.size = s2.heap.objs.size + 1 := by rw [← hH2, Heap.size_push]
    have hacc : H2.get? s2.heap.objs.size = some (Lo [] 0) := by rw [← hH2]; exact Heap.get?_push_size _ rfl
    have hk2 : ∀ b o, s2.heap.get? b = some o → H2.get? b = some o := fun b o e => by rw [← hH2]; exact Heap.get?_push_of_some _ e
    have hsz1 : H2.objs.size < h₁.objs.size := hns₁.lt
    generalize H2.objs.size = C at hns₁ hsb₁ hC hsz1 ⊢
    have old : ∀ b o, s2.heap.get? b = some o → h₁.get? b = some o := fun b o e =>
      hsb₁.extBut b o (Nat.ne_of_lt (by rw [hC]; exact Nat.lt_succ_of_lt (Heap.lt_size e))) (Heap.get?_push_of_some _ (hk2 b o e))
    have hacc1 : h₁.get? s2.heap.objs.size = some (Lo [] 0) := hsb₁.extBut _ _ (Nat.ne_of_lt (by rw [hC]; exact Nat.lt_succ_self _)) (Heap.get?_push_of_some _ hacc)
    clear hacc hk2 hH2 hsb₁
    as_aux_lemma =>
      have hL : ∀ b, b ∈ [I] → b = I := fun b hb => List.mem_singleton.mp hb
      have hgI' : (hideAll s2.heap [I]).get? I = none := hideAll_none _ List.mem_cons_self
      have hgk : ∀ b o, b ≠ I → s2.heap.get? b = some o → (hideAll s2.heap [I]).get? b = some o := fun b o hb e => hideAll_get _ e fun z => hb (hL b z)
      have hgs : (hideAll s2.heap [I]).objs.size = s2.heap.objs.size := hideAll_size _ _
      have hgf : ∀ b o, (hideAll s2.heap [I]).get? b = some o → s2.heap.get? b = some o := fun b o e => of_hideAll _ e
      have S' : Sta K (hideAll s2.heap [I]) := S.keeps fun b o e => hgk b o (fun z => by rw [z, hgI] at e; cases e) (D2.keep b o e)
      have hga : (hideAll s2.heap [I]).get? s2.heap.objs.size = none := Heap.get?_none_of_le (by rw [hgs]; exact Nat.le_refl _)
      have hlg : (hideAll s2.heap [I]).get? l = some (Lo vs n) := hgk l _ hlI hm2'
      generalize hideAll s2.heap [I] = g' at hgI' hgk hgs hgf S' hga hlg
      have hIs : s2.heap.get? I = some (Li l 0) := D2.get List.mem_cons_self
      generalize hacc' : s2.heap.objs.size = acc at hI2 hB2 hC hacc1 hga hgs ⊢
      have Dc : St ⟨h₁, s2.gens, s2.drawn, s2.toks + ([] : List (Str × Value)).length, s2.os⟩ g' (compEnvC scope cl C env) [(x, none)] ⟨h₁, s2.gens, s2.drawn, s2.toks + ([] : List (Str × Value)).length, s2.os⟩ [(acc, Lo [] 0), (I, Li l 0)] := by
        refine ⟨⟨_, ⟨⟨hns₁, fun b o e => old b o (hgf b o e), ?_⟩, all_cons ?_ (all_cons ?_ all_nil), pw_two hI2⟩, fun p hp => ?_⟩, fun p hp => ?_, ?_, hkind, D2.tok, Rest.rfl, Up.rfl⟩
        · show g'.objs.size ≤ C; omega
        · exact ⟨hacc1, by show acc ≠ C; omega, hga⟩
        · exact ⟨old _ _ hIs, by show I ≠ C; omega, hgI'⟩
        · rw [List.mem_singleton.mp hp]; rfl
        · rw [List.mem_singleton.mp hp]; exact ⟨lookup_relabel_local hx, hd⟩
        · simp
      have hstart : Rest s2 ⟨h₁, s2.gens, s2.drawn, s2.toks + ([] : List (Str × Value)).length, s2.os⟩ := ⟨rfl, rfl, rfl⟩
      have hstart2 : Up s2 ⟨h₁, s2.gens, s2.drawn, s2.toks + ([] : List (Str × Value)).length, s2.os⟩ := ⟨Nat.le_refl _, by show s2.heap.objs.size ≤ h₁.objs.size; omega⟩
      clear old hacc1 hns₁ hga hIs
      show codeAny (model prog w) A (.compStart (.ListComp elt [⟨.Name x px, iter, ifs, 0⟩] scope pos) 0 (.ref I) (.ref acc) (compEnvC scope cl C env)) (RR (.ref acc) C) ⟨h₁, s2.gens, s2.drawn, s2.toks + ([] : List (Str × Value)).length, s2.os⟩
      generalize (⟨h₁, s2.gens, s2.drawn, s2.toks + ([] : List (Str × Value)).length, s2.os⟩ : Shared) = s4 at Dc hstart hstart2 ⊢
      as_aux_lemma =>
        have loop : codeAny (model prog w) A (.compLoop (.ListComp elt [⟨.Name x px, iter, ifs, 0⟩] scope pos) 0 (.ref I) (.ref acc) (compEnvC scope cl C env)) (RR (.ref acc) C) s4 := by
          refine codeAny_compLoop_tests (fun k s' => ∃ i ys m vx o, k = vs.length - i ∧ i ≤ vs.length ∧ o.cls = .type "list_iterator" ∧ o.data = .fields #[.ref l, .int i 0] ∧ Rr i ys ∧ St s4 g' (compEnvC scope cl C env) [(x, vx)] s' [(acc, Lo ys m), (I, o)])
            ?_ _ ⟨0, [], 0, none, Li l 0, rfl, Nat.zero_le _, rfl, rfl, h0, Dc⟩
          rintro k s' ⟨i, ys, m, vx, o, rfl, hi, hc, hdt, hR, D⟩
          have hit : s'.heap.IsListIter I l i := ⟨_, D.get (List.mem_cons_of_mem _ List.mem_cons_self), hc, hdt⟩
          have hls : s'.heap.IsList l vs.toArray := ⟨_, D.keep _ _ hlg, rfl, n, rfl⟩
          have noE : ∀ e s'', False → notedBy (model prog w) A (compEnvC scope cl C env) (fun e s' => RR (.ref acc) C (.error e) s') e s'' := fun _ _ x => x.elim
          by_cases hlt : i < vs.length
          · have hxv : vs[i]? = some vs[i] := List.getElem?_eq_getElem hlt
            refine wpAny_pyNext_list_item hit hls (x := vs[i]) (by simp [hlt]) fun h' hit' hs' => ?_
            obtain ⟨o', ho', hc', hd'⟩ := hit'
            have D1 := D.upd (.tail .head) hs' ho' (Nat.le_refl s'.toks)
            refine wpAny_assign_Name (r_st D1 (.head (u := vx)) fun s5 D5 => ?_)
            refine wpAny_mono (step C s4 g' s5 i vs[i] ys m acc I o' (fun b o e => hgk b o (hold b o e).2 (hold b o e).1) hI2 S' hxv hR D5) (fun ok s6 h6 => ?_) noE
            cases ok with
            | false =>
              rw [if_neg (by decide)] at h6 ⊢
              obtain ⟨hR', vx', D6⟩ := h6
              exact ⟨vs.length - (i + 1), fwd 0 hlt, i + 1, ys, m, vx', o', rfl, hlt, hc', hd', hR', D6⟩
            | true =>
              rw [if_pos rfl] at h6 ⊢
              refine wpAny_mono h6 (fun y s7 h7 => ?_) noE
              obtain ⟨hR', vx', D7⟩ := h7
              exact r_append D7 (.head) (hlen _ _ hR) fun s8 D8 => ⟨vs.length - (i + 1), fwd 0 hlt, i + 1, ys ++ [y], m + 1, vx', o', rfl, hlt, hc', hd', hR', D8⟩
          · refine up ?_
            refine wpAny_pyNext_list_end hA hit hls (by simp; omega) fun h' hx' u => ?_
            have hie : i = vs.length := by omega
            subst hie
            have D9 := D.without (.tail (o' := o) .head) hx' u.2
            show RR (.ref acc) C (.ok .next) _
            obtain ⟨mc, L9, _⟩ := id D9.led
            have kk : ∀ b o, b ≠ I → s2.heap.get? b = some o → h'.get? b = some o := fun b o hb e => L9.fr.keep b o (hgk b o hb e)
            have hnsC := L9.fr.ns
            have hnsC' := hnsC
            obtain ⟨oC, es, ep, hoC, _⟩ := hnsC'
            have hacc9 := D9.get List.mem_cons_self
            obtain ⟨m2, L2, e2⟩ := id D2.led
            have hlt0 : env.locals < acc := hacc' ▸ L2.fr.ns.lt
            have hlt1 : ∀ b o, s2.heap.get? b = some o → b < acc := fun b o e => hacc' ▸ Heap.lt_size e
            have hge : ∀ b, acc ≤ b → b ≠ env.locals ∧ g.get? b = none := fun b hb => ⟨fun q => Nat.lt_irrefl _ (Nat.lt_of_lt_of_le (q ▸ hlt0) hb), by
              cases q : g.get? b with
              | none => rfl
              | some o => exact absurd (hlt1 _ _ (L2.fr.keep _ _ q)) (Nat.not_lt.mpr hb)⟩
            have hord := L2.ord
            rw [List.map_cons, List.pairwise_cons] at hord
            refine hfin ys m acc C oC _ hR hB2 ⟨mc, hnsC⟩ ⟨⟨m2, ⟨⟨?_, fun b o e => kk b o (fun z => by rw [z, hgI] at e; cases e) (L2.fr.keep b o e), L2.fr.above⟩, fun p hp => ?_, ?_⟩, e2⟩, D2.loc, D2.nd, D2.kind, D9.tok, D2.rest.trans (hstart.trans D9.rest), D2.up.trans (hstart2.trans D9.up)⟩
            · obtain ⟨o, es', ep', ho, hr⟩ := L2.fr.ns
              exact ⟨o, es', ep', kk _ _ (fun z => (L2.nw _ List.mem_cons_self).2.1 z.symm) ho, hr⟩
            · rcases List.mem_cons.mp hp with rfl | hp
              · exact ⟨hoC, hge C (by rw [hC]; exact Nat.le_succ _)⟩
              · rcases List.mem_cons.mp hp with rfl | hp
                · exact ⟨hacc9, hge acc (Nat.le_refl _)⟩
                · have z := L2.nw p (List.mem_cons_of_mem _ hp)
                  exact ⟨kk _ _ (Nat.ne_of_lt (hord.1 _ (List.mem_map_of_mem (f := (·.1)) hp))) z.1, z.2⟩
            · have hlt2 : ∀ a ∈ news.map (·.1), a < acc := fun a ha => by
                obtain ⟨p, hp, rfl⟩ := List.mem_map.mp ha
                exact hlt1 _ _ (L2.nw p (List.mem_cons_of_mem _ hp)).1
              rw [List.map_cons, List.map_cons, List.pairwise_cons, List.pairwise_cons]
              refine ⟨fun a ha => ?_, hlt2, hord.2⟩
              rcases List.mem_cons.mp ha with h | ha
              · show C > a; rw [h, hC]; exact Nat.lt_succ_self _
              · have := hlt2 a ha; show C > a; rw [hC]; exact Nat.lt_succ_of_lt this
        exact codeAny_compStart_list loop (wpAny_pyIter_listiter (l := l) (i := 0) ⟨_, Dc.get (List.mem_cons_of_mem _ List.mem_cons_self), rfl, rfl⟩ loop)
end
section
variable {B : Shared} {g : Heap} {env : Env} {vals vals' : Vals} {s : Shared} {news news' : News'} {A : Around} {E : Value → Shared → Prop} {K : Frag} {prog : Program} {w : World}
theorem St.part (D : St B g env vals s news) {C : Addr} {oC : Obj} {rest : News'} (e : news = (C, oC) :: rest) {h' : Heap} (hs : Heap.SameBut C s.heap h') : St B g env vals { s with heap := h' } rest := by
  subst e
  exact D.without (.head (o' := oC)) hs.extBut (Nat.le_of_eq hs.1.symm)
theorem ns_again {h h' : Heap} {C : Addr} {oC : Obj} {m : Str → Option Value} (hn : h.Ns C m) (e : h.get? C = some oC) (e' : h'.get? C = some oC) : h'.Ns C m := by
  obtain ⟨o, es, ep, ho, r⟩ := hn
  rw [e] at ho; cases ho
  exact ⟨oC, es, ep, e', r⟩
inductive CompIn (K : Frag) (prog : Program) (w : World) (A : Around) (env : Env) (x : Str) (ifs : List Expr) (elt : Expr) (scope : Scope) (cl : List (Str × Addr)) (Q : Value → Shared → Prop) (xv : Value) (s₁ : Shared) : Prop
  | mk (B : Shared) (g : Heap) (vals : Vals) (news : News') (l : Addr) (vs : List Value) (n : Nat) (Rr : Nat → List Value → Prop) (hx : xv = .ref l) (D : St B g env vals s₁ news) (S : Sta K g) (hm : s₁.heap.get? l = some (Lo vs n)) (h0 : Rr 0 []) (hlen : ∀ i ys, Rr i ys → ys.length ≤ 16777216)
    (step : CompStep K prog w A x ifs elt vs Rr (fun C => compEnvC scope cl C env) s₁) (fin : ∀ ys m acc s', Rr vs.length ys → B.heap.objs.size ≤ acc → St B g env vals s' ((acc, Lo ys m) :: news) → Q (.ref acc) s') : CompIn K prog w A env x ifs elt scope cl Q xv s₁
inductive CompAs (K : Frag) (prog : Program) (w : World) (A : Around) (env : Env) (x y : Str) (ifs : List Expr) (elt : Expr) (scope : Scope) (cl : List (Str × Addr)) (Q : Flow → Shared → Prop) (xv : Value) (s₁ : Shared) : Prop
  | mk (B : Shared) (g : Heap) (vals : Vals) (news : News') (l : Addr) (vs : List Value) (n : Nat) (Rr : Nat → List Value → Prop) (hx : xv = .ref l) (D : St B g env vals s₁ news) (S : Sta K g) (hm : s₁.heap.get? l = some (Lo vs n)) (h0 : Rr 0 []) (hlen : ∀ i ys, Rr i ys → ys.length ≤ 16777216)
    (step : CompStep K prog w A x ifs elt vs Rr (fun C => compEnvC scope cl C env) s₁) (vals' : Addr → Vals) (hput : ∀ acc, Put y (.ref acc) vals (vals' acc))
    (fin : ∀ ys m acc s', Rr vs.length ys → B.heap.objs.size ≤ acc → St B g env (vals' acc) s' ((acc, Lo ys m) :: news) → Q .next s') : CompAs K prog w A env x y ifs elt scope cl Q xv s₁
theorem r_listcomp {elt iter : Expr} {x : Str} {px : Pos} {ifs : List Expr} {scope : Scope} {cl : List (Str × Addr)} {pos : Pos} {Q : Value → Shared → Prop}
    (hA : A.handled = none) (hclos : closureFor scope env = pure cl) (hcell : ∀ y ∈ scope.names, y.2 ≠ .cell) (hkind : scope.kind = .function) (hnames : ∀ y ∈ scope.names, y.2 = .local → scope.names.lookup y.1 = some .local)
    (hx : scope.names.lookup x = some .local) (hd : (x == ("__debug__" : Str)) = false)
    (h : wpAny (model prog w) A (eval iter env) (fun xv s₁ => CompIn K prog w A env x ifs elt scope cl Q xv s₁) E s)
    (hs : ∀ x, foldedSetIterable iter env x = pure x := by intro _; rfl) :
    wpAny (model prog w) A (eval (.ListComp elt [⟨.Name x px, iter, ifs, 0⟩] scope pos) env) Q E s := by
  rw [eval_ListComp]
  refine wpAny_comprehension_free (use := none) rfl hs hclos hkind hnames (wpAny_mono h (fun xv s₁ h₁ => ?_) fun _ _ e => e)
  obtain ⟨B, g, vals, news, l, vs, n, Rr, rfl, D, S, hm, h0, hlen, step, k⟩ := h₁
  refine wpAny_pyIter_list (D.lst hm) (comp_core (RR := fun acc C => compPost (model prog w) A E none Q acc C) hA hcell hkind hx hd S D hm h0 hlen step fun ys m acc C oC s' hR hb hn D' => ?_)
  obtain ⟨mC, hn⟩ := hn
  exact ⟨mC, hn, fun h' hs' => k ys m acc _ hR hb (D'.part rfl hs')⟩
theorem r_listcomp_assign {elt iter : Expr} {x y : Str} {px py : Pos} {ifs : List Expr} {scope : Scope} {cl : List (Str × Addr)} {pos spos : Pos} {Q : Flow → Shared → Prop}
    (hsw : swapsWith (.ListComp elt [⟨.Name x px, iter, ifs, 0⟩] scope pos) (some (.Name y py)) spos.line env = pure true)
    (hA : A.handled = none) (hclos : closureFor scope env = pure cl) (hcell : ∀ y ∈ scope.names, y.2 ≠ .cell) (hkind : scope.kind = .function) (hnames : ∀ y ∈ scope.names, y.2 = .local → scope.names.lookup y.1 = some .local)
    (hx : scope.names.lookup x = some .local) (hd : (x == ("__debug__" : Str)) = false)
    (h : wpAny (model prog w) A (eval iter env) (fun xv s₁ => CompAs K prog w A env x y ifs elt scope cl Q xv s₁) E s)
    (hs : ∀ x, foldedSetIterable iter env x = pure x := by intro _; rfl) :
    wpAny (model prog w) A (exec (.Assign [.Name y py] (.ListComp elt [⟨.Name x px, iter, ifs, 0⟩] scope pos) spos) env) Q E s := by
  rw [exec_Assign_Name_used _ _ _ _ hsw]
  refine wpAny_bind (wpAny_standAt (wpAny_bind ?_))
  show wpAny _ A (do let _ ← comprehension (.ListComp elt [⟨.Name x px, iter, ifs, 0⟩] scope pos) scope env _ (newList []) false (eval iter env) (some (assign (.Name y py) env))) _ _ s
  refine wpAny_bind (wpAny_mono (wpAny_comprehension_free (use := some (assign (.Name y py) env)) (Q := fun _ s' => Q .next s') rfl hs hclos hkind hnames
    (wpAny_mono h (fun xv s₁ h₁ => ?_) fun _ _ e => e)) (fun _ s' hq => wpAny_pure (wpAny_pure hq)) fun _ _ e => e)
  obtain ⟨B, g, vals, news, l, vs, n, Rr, rfl, D, S, hm, h0, hlen, step, vals', hput, k⟩ := h₁
  refine wpAny_pyIter_list (D.lst hm) (comp_core (RR := fun acc C => compPost (model prog w) A E (some (assign (.Name y py) env)) (fun _ s' => Q .next s') acc C) hA hcell hkind hx hd S D hm h0 hlen step fun ys m acc C oC s' hR hb hn D' => ?_)
  obtain ⟨mC, hn⟩ := hn
  have hC := D'.get List.mem_cons_self
  show wpAny _ A (assign (.Name y py) env (.ref acc)) _ _ _
  refine wpAny_assign_Name (r_st D' (hput acc) fun s'' D'' => ⟨mC, ns_again hn hC (D''.get List.mem_cons_self), fun h' hs' => k ys m acc _ hR hb (D''.part rfl hs')⟩)
end

end
section
/-! ## a def with two cells -/
section
variable {prog : Program} {w : World} {A : Around} {R : Result → Shared → Prop} {s : Shared} {g : Heap} {K : Frag} {n : Nat}
  {name qual : Str} {params : Arguments} {body : List Stmt} {scope : Scope} {dV kV doc pm cdv ct oc : Value} {an od : Option Addr} {osl : Array (Option Value)} {f : Addr} {args : List Value} {binds : List (Str × Value)}
  {gl : List (Str × Value)}
theorem enterC2 {x1 x2 : Str} {vals : Vals} (S : Sta K g) (O : Own g s []) (hroom : Room A (n + 1))
    (ho : K.lookup f = some ⟨oc, od, .func (fnX name qual params body scope [] dV kV doc pm an cdv ct), osl⟩) (hcd : codeIn K cdv qual = true)
    (hbind : bindArgs (fnX name qual params body scope [] dV kV doc pm an cdv ct) ⟨args, []⟩ = pure binds)
    (hcs : ∀ m, cellsFrom m scope.names [] = [(x2, m + 1), (x1, m)]) (hx : (x1 == x2) = false)
    (hkind : binds.all (fun b => scope.names.lookup b.1 == some .local || (scope.names.lookup b.1 == some .cell && (b.1 == x1 || b.1 == x2))) = true) (hgl : gloOk K scope gl = true)
    (hsc : (!scope.isCoroutine && !scope.isGenerator && scope.kind == .function) = true)
    (hvals : vals.all (fun p => scope.names.lookup p.1 == some .local && !(p.1 == ("__debug__" : Str))) = true) (hnd : (vals.map (·.1)).Nodup) (hv : ∀ p ∈ vals, bindL (fun x => scope.names.lookup x) binds (fun _ => none) p.1 = p.2)
    (h : ∀ env A' s1 c1 c2 o1 o2, Room A' n → Glo K env gl → env.scope = scope → env.cells = [(x2, c2), (x1, c1)] → o1.data = .cell (bindC (fun x => scope.names.lookup x) binds (fun _ => none) x1) → o2.data = .cell (bindC (fun x => scope.names.lookup x) binds (fun _ => none) x2) →
      s.heap.objs.size ≤ c1 → c1 < c2 → St s g env vals s1 [(c2, o2), (c1, o1)] → ∀ Q : Flow → Shared → Prop, ((∀ v s', R (.ok (.ret v)) s' → Q (.ret v) s') ∧ ∀ s', R (.ok (.ret .none)) s' → Q .next s') →
      wpAny (model prog w) A' (execs body env) Q (fun _ _ => False) s1) :
    codeAny (model prog w) A (.call (.ref f) ⟨args, []⟩) R s := by
  simp only [Bool.and_eq_true, Bool.not_eq_true', beq_iff_eq] at hsc
  obtain ⟨⟨h4, h5⟩, h6⟩ := hsc
  refine codeAny_call_function (by have := hroom.dp; omega) (O.keep _ _ (S.X _ _ ho)) rfl h4 h5 rfl ((codeRec_of S.X hcd).keeps O.keep) ?_
  rw [hbind]
  refine wpAny_pure (up (wpAny_newFunctionEnv_cells h6 (fun b hb => ?_) fun env he s₁ X u => ?_))
  · have := List.all_eq_true.mp hkind b hb
    simp only [Bool.or_eq_true, Bool.and_eq_true, beq_iff_eq] at this
    rcases this with q | ⟨q, z⟩
    · exact .inl q
    · refine .inr ⟨q, ?_⟩
      show ((cellsFrom (s.heap.objs.size + 1) scope.names []).lookup b.1).isSome = true
      rw [hcs]
      rcases z with z | z
      · rw [z, List.lookup_cons]
        rw [hx]
        simp
      · rw [z]; simp
  · subst he
    obtain ⟨X1, Xc, Xa, Xb⟩ := X
    have Xc : ∀ nm c, (cellsFrom (s.heap.objs.size + 1) scope.names []).lookup nm = some c → s₁.heap.IsCell c (bindC (fun x => scope.names.lookup x) binds (fun _ => none) nm) := Xc
    have hns : s₁.heap.Ns s.heap.objs.size (bindL (fun x => scope.names.lookup x) binds (fun _ => none)) := X1.ns
    rw [hcs] at Xc
    obtain ⟨o1, ho1, hd1⟩ := Xc x1 (s.heap.objs.size + 1) (by rw [List.lookup_cons, hx]; simp)
    obtain ⟨o2, ho2, hd2⟩ := Xc x2 (s.heap.objs.size + 1 + 1) (by simp)
    have hsame := X1.same
    have fresh : ∀ b, s.heap.objs.size ≤ b → g.get? b = none := fun b hb => by
      cases q : g.get? b with
      | none => rfl
      | some o => exact absurd (Heap.lt_size (O.keep _ _ q)) (Nat.not_lt.mpr hb)
    refine ⟨S.lim.keeps fun b o e => X1.keep _ _ (O.keep b o e), codeAny_func ?_⟩
    refine wpAny_mono (h (newEnv scope s.heap.objs.size mainGlobals (cellsFrom (s.heap.objs.size + 1) scope.names []) (qual ++ ".<locals>.") (some f) cdv none builtinsNs) _ s₁ (s.heap.objs.size + 1) (s.heap.objs.size + 1 + 1) o1 o2 hroom.deeper ⟨rfl, rfl, fun p hp => ?_⟩ rfl (by show cellsFrom _ _ _ = _; rw [hcs]) hd1 hd2 (Nat.le_succ _) (Nat.lt_succ_self _) ?_ (fun fl s' => R (.ok (.ret (retOf fl))) s') ⟨fun _ _ x => x, fun _ x => x⟩) (fun fl s' x => ?_) fun _ _ x => x.elim
    · exact gloOk_at hgl p hp
    · refine ⟨⟨_, ⟨⟨hns, fun b o e => X1.keep _ _ (O.keep b o e), O.size⟩, all_cons ?_ (all_cons ?_ all_nil), pw_two (Nat.lt_succ_self _)⟩, hv⟩, fun p hp => ?_, hnd, h6, Nat.le_trans O.tok u.1, ?_, u⟩
      · exact ⟨ho2, Nat.ne_of_gt (Nat.lt_succ_of_lt (Nat.lt_succ_self _)), fresh _ (Nat.le_succ_of_le (Nat.le_succ _))⟩
      · exact ⟨ho1, Nat.ne_of_gt (Nat.lt_succ_self _), fresh _ (Nat.le_succ _)⟩
      · have := List.all_eq_true.mp hvals p hp
        simp only [Bool.and_eq_true, beq_iff_eq, Bool.not_eq_true'] at this
        exact this
      · obtain ⟨h₁, tk, rfl⟩ := hsame
        exact ⟨rfl, rfl, rfl⟩
    · cases fl <;> exact x
end
section
variable {B : Shared} {g : Heap} {env : Env} {vals vals' : Vals} {s : Shared} {news news' : News'} {M : Model} {A : Around} {E : Value → Shared → Prop} {K : Frag} {prog : Program} {w : World}
theorem r_ldcell {x : Str} {pos : Pos} {c : Addr} {oc : Obj} {v : Value} {Q : Value → Shared → Prop} (hk : env.scope.kind = .function) (hl : env.kindOf x = some .cell) (hd : (x == ("__debug__" : Str)) = false) (hc : env.cells.lookup x = some c) (ho : s.heap.get? c = some oc) (hv : oc.data = .cell (some v)) (k : Q v s) :
    wpAny M A (eval (.Name x pos) env) Q E s := wpAny_Name (wpAny_loadName_cell hk hl hc ⟨oc, ho, hv⟩ k) hd
theorem r_stcell {x : Str} {c : Addr} {oc : Obj} {v₀ : Option Value} {v : Value} {f : Obj → News'} {Q : Unit → Shared → Prop} (D : St B g env vals s news) (hl : env.kindOf x = some .cell) (hc : env.cells.lookup x = some c) (U : Hole c oc news f) (hv : oc.data = .cell v₀)
    (k : ∀ oc' s', oc'.data = .cell (some v) → St B g env vals s' (f oc') → Q () s') : wpAny M A (storeName env x v) Q E s := by
  refine wpAny_storeName_cell D.kind hl hc ⟨oc, D.get (U.upd oc).keys.2, hv⟩ fun h' hcell hs => ?_
  obtain ⟨oc', ho', hd'⟩ := hcell
  exact k oc' _ hd' (D.upd (U.upd oc') hs ho' (Nat.le_refl _))
end
section
variable {B : Shared} {g : Heap} {env : Env} {vals vals' : Vals} {s : Shared} {news news' : News'} {A : Around} {E : Value → Shared → Prop} {K : Frag} {prog : Program} {w : World}
theorem St.grow (D : St B g env vals s news) {h' : Heap} {tk : Tok} {l : Addr} {o : Obj} (k : ∀ b o, s.heap.get? b = some o → h'.get? b = some o) (u : Up s ⟨h', s.gens, s.drawn, tk, s.os⟩) (hl : h'.get? l = some o) (hge : s.heap.objs.size ≤ l) : St B g env vals ⟨h', s.gens, s.drawn, tk, s.os⟩ ((l, o) :: news) := by
  obtain ⟨m, L, e⟩ := D.led
  refine D.to ⟨m, ⟨⟨L.fr.ns.keeps k, fun b o q => k _ _ (L.fr.keep b o q), L.fr.above⟩, fun p hp => ?_, ?_⟩, e⟩ rfl u
  · rcases List.mem_cons.mp hp with rfl | hp
    · refine ⟨hl, fun q => ?_, ?_⟩
      · have := L.fr.ns.lt; rw [← q] at this; exact absurd this (Nat.not_lt.mpr hge)
      · cases q : g.get? l with
        | none => rfl
        | some o => exact absurd (Heap.lt_size (L.fr.keep _ _ q)) (Nat.not_lt.mpr hge)
    · exact ⟨k _ _ (L.nw p hp).1, (L.nw p hp).2⟩
  · rw [List.map_cons, List.pairwise_cons]
    refine ⟨fun a ha => ?_, L.ord⟩
    obtain ⟨p, hp, rfl⟩ := List.mem_map.mp ha
    exact Nat.lt_of_lt_of_le (Heap.lt_size (L.nw p hp).1) hge
noncomputable def rngObj (a b : Int) (t u v : Tok) : Obj := { cls := .type "range", data := .fields #[.int a t, .int b u, .int 1 v] }
theorem r_range2 {a b : Int} {t u : Tok} {Q : Value → Shared → Prop} (D : St B g env vals s news) (k : ∀ r v s', St B g env vals s' ((r, rngObj a b t u v) :: news) → Q (.ref r) s') : wpAny (model prog w) A (call (.type "range") [.int a t, .int b u]) Q E s :=
  call_range_2 (k _ s.toks _ (((D.made (rngObj a b t u s.toks))).tk1 (n := 1)))
theorem range_len {k n : Nat} (h : k ≤ n) : Builtin.Range.rangeSize (k : Int) (n : Int) 1 = ((n - k : Nat) : Int) := by
  unfold Builtin.Range.rangeSize
  rw [if_pos (by decide)]
  by_cases q : (k : Int) < n
  · rw [if_pos q, Int.ediv_one]; omega
  · rw [if_neg q]; omega
theorem nums_range : ∀ (n : Nat) (vs : List Value) (a : Nat), vs.length = n → (∀ (j : Nat) (v : Value), vs[j]? = some v → ∃ t, v = Value.int ((a : Int) + j * 1) t) → Nums vs (((List.range n).map (a + ·)).map Nat.cast)
  | 0, [], _, _, _ => .nil
  | n + 1, vs, a, hl, h => by
    have hne : vs ≠ [] := fun e => by rw [e] at hl; simp at hl
    obtain ⟨ws, x, rfl⟩ : ∃ ws x, vs = ws ++ [x] := ⟨vs.dropLast, vs.getLast hne, (List.dropLast_concat_getLast hne).symm⟩
    have hw : ws.length = n := by simpa using hl
    have ih := nums_range n ws a hw fun j v hj => h j v (by
      have := (List.getElem?_eq_some_iff.mp hj).1
      rw [List.getElem?_append_left this]; exact hj)
    obtain ⟨t, ht⟩ := h n x (by rw [List.getElem?_append_right (by omega), hw]; simp)
    rw [List.range_succ, List.map_append, List.map_append, ht]
    have e : (a : Int) + (n : Nat) * 1 = ((a + n : Nat) : Int) := by omega
    rw [e]
    exact ih.snoc
theorem r_list_range {r : Addr} {k n : Nat} {t u v : Tok} {Q : Value → Shared → Prop} (hh : A.handled = none) (D : St B g env vals s news) (hr : (r, rngObj (k : Int) (n : Int) t u v) ∈ news) (hk : k ≤ n) (hn : n ≤ 100000)
    (q : ∀ l ws m s', B.heap.objs.size ≤ l → Nums ws (((List.range (n - k)).map (k + ·)).map Nat.cast) → St B g env vals s' ((l, Lo ws m) :: news) → Q (.ref l) s') : wpAny (model prog w) A (call (.type "list") [.ref r]) Q E s := by
  refine up (call_list_range (a := (k : Int)) (b := (n : Int)) (c := 1) hh (D.get hr) ?_ (range_len hk) (by omega) fun h' tk acc c' hkk hl hacc u => ?_)
  · have e := range_len hk
    have f : ∀ i : Int, 0 ≤ i ∧ i ≤ 200000 → Builtin.Range.rangeFitsLong i = true := fun i hi => by
      unfold Builtin.Range.rangeFitsLong
      rw [Bool.and_eq_true, decide_eq_true_eq, decide_eq_true_eq]
      exact ⟨by omega, by omega⟩
    unfold PySem.Builtin.Range.small
    rw [e, f _ ⟨by omega, by omega⟩, f _ ⟨by omega, by omega⟩, f 1 ⟨by omega, by omega⟩, f _ ⟨by omega, by omega⟩, if_pos (by decide), f _ ⟨by omega, by omega⟩]
    simp
  · have hacc' : Nums acc.toList (((List.range (n - k)).map (k + ·)).map Nat.cast) := nums_range _ _ _ (by simpa using hacc.1) fun j v hj => hacc.2 j v (by simpa using hj)
    refine q _ acc.toList c' _ D.up.2 hacc' (D.grow hkk u ?_ (Nat.le_refl _))
    rw [hl]
end

end
section
/-! ## what the law itself needs -/
section
open PySem.SeqAt
variable {B : Shared} {g : Heap} {env : Env} {vals vals' : Vals} {s : Shared} {news news' : News'} {A : Around} {E : Value → Shared → Prop} {K : Frag} {prog : Program} {w : World}
theorem r_slice_ints {e sl : Expr} {l : Addr} {vs : List Value} {ms : List Int} {vl vu : Value} {lo hi : Option Int} {Q : Value → Shared → Prop} (D : St B g env vals s news) (hm : s.heap.IsList l vs.toArray) (pl : IsPart vl lo) (pu : IsPart vu hi)
    (hw : IntsAre (slicePick vs.toArray lo hi none).toList ms) (hsz : vs.length ≤ 16777216)
    (k : ∀ l' ws s', Nums ws ms → B.heap.objs.size ≤ l' → St B g env vals s' ((l', Lo ws 0) :: news) → Q (.ref l') s')
    (hs : subscripted sl false (.ref l) (.ref s.heap.objs.size) = operate [.ref s.heap.objs.size, .ref l] (getItem (.ref l) (.ref s.heap.objs.size)))
    (ht : ∀ r, letTemporaryGo e (.ref l) r = pure ()) :
    wpAny (model prog w) A (subscriptTail e sl (.ref l) (.ref s.heap.objs.size)) Q E (pushSlice s vl vu .none) := by
  obtain ⟨m, F, N, c⟩ := D.pushFr
  obtain ⟨m', L, ev⟩ := D.led
  refine up (slice_list3 (s := s) L.fr L.nw hm pl pu .none (by simp) (fun h' F' N' u => ?_) hs ht (by rw [List.size_toArray, sizeLine_eq]; exact hsz))
  rw [show slicePick vs.toArray lo hi none = ((slicePick vs.toArray lo hi none).toList).toArray from by simp] at N'
  refine k _ _ _ (Nums.of hw) (Nat.le_succ_of_le D.up.2) (D.to ⟨m', ⟨F', N', ?_⟩, ev⟩ rfl (up_push u))
  rw [List.map_cons, List.pairwise_cons]
  refine ⟨fun a ha => ?_, L.ord⟩
  obtain ⟨p, hp, rfl⟩ := List.mem_map.mp ha
  exact Nat.lt_succ_of_lt (Heap.lt_size (L.nw p hp).1)
theorem r_add_lists {l b : Addr} {vs ws : List Value} {n k : Nat} {Q : Value → Shared → Prop} (D : St B g env vals s news) (hl : s.heap.get? l = some (Lo vs n)) (hb : s.heap.get? b = some (Lo ws k)) (hz : vs.length + ws.length ≤ 16777216)
    (q : ∀ l' s', B.heap.objs.size ≤ l' → St B g env vals s' ((l', Lo (vs ++ ws) 0) :: news) → Q (.ref l') s') : wpAny (model prog w) A (binaryOp .Add (.ref l) (.ref b)) Q E s := by
  obtain ⟨m', L, ev⟩ := D.led
  refine up (add_lists L.fr L.nw (D.lst hl) (D.lst hb) (fun h' F' N' u => ?_) (by rw [sizeLine_eq]; exact hz))
  refine q _ _ D.up.2 (D.to ⟨m', ⟨F', N', ?_⟩, ev⟩ rfl u)
  rw [List.map_cons, List.pairwise_cons]
  refine ⟨fun a ha => ?_, L.ord⟩
  obtain ⟨p, hp, rfl⟩ := List.mem_map.mp ha
  exact Heap.lt_size (L.nw p hp).1
theorem r_sum {l : Addr} {vs : List Value} {ns : List Int} {n : Nat} {Q : Value → Shared → Prop} (hA : A.handled = none) (D : St B g env vals s news) (hl : s.heap.get? l = some (Lo vs n)) (hi : Nums vs ns)
    (q : ∀ t s', St B g env vals s' news → Q (.int ns.sum t) s') : wpAny (model prog w) A (call (.builtin "sum") [.ref l]) Q E s := by
  obtain ⟨m', L, ev⟩ := D.led
  exact up (LSm.sum_ints L.fr L.nw hA (D.lst hl) hi.are fun h' tk t' F' N' u => q _ _ (D.to ⟨m', ⟨F', N', L.ord⟩, ev⟩ rfl u))
theorem ne_bools {a b : Bool} {Q : Value → Shared → Prop} (h : Q (.bool (!(a == b))) s) : wpAny (model prog w) A (compareOp .NotEq (.bool a) (.bool b)) Q E s := PySem.EqBoolInt.of_rcne (SeqAt.RcNeAt.bool_bool a b) h
theorem ne_txt {a b : Addr} {x : List Nat} {t u : Tok} {n m : Nat} {Q : Value → Shared → Prop} (hl : s.heap.get? a = some (Lo [.str (T x) t] n)) (hl' : s.heap.get? b = some (Lo [.str (T x) u] m)) (hu : A.units < cLine)
    (h : Q (.bool false) s) : wpAny (model prog w) A (compareOp .NotEq (.ref a) (.ref b)) Q E s :=
  PySem.EqBoolInt.of_rcne (RcNeAt.lists (items := #[.str (T x) t]) (items2 := #[.str (T x) u]) (e := fun _ => true) ⟨_, hl, rfl, n, rfl⟩ ⟨_, hl', rfl, m, rfl⟩ rfl hu fun j h1 h2 => by
    have hj : j = 0 := by simpa using h1
    subst hj
    have := EqAt.str_str (A := A.in1) (s := s) (T x) t (T x) u
    rw [beq_self_eq_true] at this
    exact this) (by simpa using h)
end
theorem Nums.append {vs ws is js} (h : Nums vs is) (k : Nums ws js) : Nums (vs ++ ws) (is ++ js) := by
  induction h with
  | nil => exact k
  | cons _ ih => exact .cons ih
theorem r_newlist_n {B : Shared} {g : Heap} {env : Env} {vals : Vals} {s : Shared} {news : News'} {M : Model} {A : Around} {E : Value → Shared → Prop} {vs : List Value} {ns : List Int} {Q : Value → Shared → Prop} (hn : Nums vs ns) (D : St B g env vals s news) (hsz : vs.length ≤ 16777216)
    (k : ∀ l ws s', Nums ws ns → ws.length = vs.length → St B g env vals s' ((l, Lo ws 0) :: news) → Q (.ref l) s') : wpAny M A (newList vs) Q E s :=
  r_newlist D hsz fun l s' _ D => k l vs s' hn rfl D

end
theorem fill_all : PySem.Challenge.rw_kt0083_01.Holds → Mine.hz.heap_1_39 = Mine.hz.heap_1_39 := by
  k_fill
  intro _; rfl
local macro_rules | `(tactic| wtm_at $s:str) => wKey s.getString
section
noncomputable def un257 : List Nat → List Nat
  | [] => []
  | c :: r => if c = 34 then (match r with | 34 :: r' => 34 :: un257 r' | _ => []) else c :: un257 r

theorem un257_ne {c : Nat} {r : List Nat} (h : c ≠ 34) : un257 (c :: r) = c :: un257 r := by rw [un257.eq_def]; exact if_neg h
theorem un257_two {r : List Nat} : un257 (34 :: 34 :: r) = 34 :: un257 r := by rw [un257.eq_def]; rfl
theorem un257_end {c : Nat} {r : List Nat} (h : c ≠ 34) : un257 (34 :: c :: r) = [] := by
  rw [un257.eq_def]
  simp only [if_true]
  split
  · rename_i e; injection e with e1 e2; exact absurd e1 h
  · rfl
inductive I257 (B : Shared) (g : Heap) (env : Env) (r : List Nat) (t0 : Tok) (n : Nat) (s : Shared) : Prop
  | mk (k : Nat) (acc : List Nat) (i : Int) (ti td tn : Tok) (vc : Option Value)
    (h1 : k ≤ r.length) (h2 : n = r.length - k) (h3 : i = 5 + k) (h4 : acc ++ un257 (r.drop k) = un257 r) (h5 : acc.length ≤ k) (h6 : St B g env [(Str.ofString "resp", some (.str (T ([50, 53, 55, 32, 34] ++ r)) t0)), (Str.ofString "dirname", some (.str (T acc) td)), (Str.ofString "i", some (.int i ti)), (Str.ofString "n", some (.int (([50, 53, 55, 32, 34] ++ r).length : Int) tn)), (Str.ofString "c", vc)] s []) : I257 B g env r t0 n s
theorem at257 {r : List Nat} {k c : Nat} (h : r[k]? = some c) : ([50, 53, 55, 32, 34] ++ r)[((5 : Int) + (k : Int)).toNat]? = some c := by
  have e : ((5 : Int) + (k : Int)).toNat = 5 + k := rfl
  rw [e, List.getElem?_append_right (show ([50, 53, 55, 32, 34] : List Nat).length ≤ 5 + k from Nat.le_add_right 5 k), ← h]; congr 1; exact Nat.add_sub_cancel_left (n := 5) (m := k)
theorem t257 (w : World) (r : List Nat) (hr : r.length ≤ 1000000) (t0 : Tok) : Fn (Mine.hz.heap_1_39 w.params) PySem.Challenge.pw_kt0083_01 w 3 (.ref 114) [.str (T ([50, 53, 55, 32, 34] ++ r)) t0] [] (fun v own => ∃ t, v = .str (T (un257 r)) t ∧ own = []) := by
  intro A s g R S hA O k
  have hs0 : g.objs.size ≤ s.heap.objs.size := O.size
  refine' enter (binds := [(Str.ofString "resp", .str (T ([50, 53, 55, 32, 34] ++ r)) t0)]) (more := [Str.ofString "dirname", Str.ofString "i", Str.ofString "n", Str.ofString "c"]) (gl := [(Str.ofString "len", .builtin "len")]) S O hA ?h1 ?h2 ?h3 ?h4 ?h5 ?_
  case h1 => k_is
  case h2 => k_is
  case h3 => exact BindsTo.of_eq rfl
  case h4 => kernel_rfl
  case h5 => kernel_rfl
  intro env A' s1 hA' H D Q0 hQ0
  replace D : St s g env [(Str.ofString "resp", some (.str (T ([50, 53, 55, 32, 34] ++ r)) t0)), (Str.ofString "dirname", none), (Str.ofString "i", none), (Str.ofString "n", none), (Str.ofString "c", none)] s1 [] := D
  generalize s = B at D k hs0 O
  clear O
  have hl : ([50, 53, 55, 32, 34] ++ r).length = 5 + r.length := by simp only [List.length_append, List.length_cons, List.length_nil]
  have hz : ([50, 53, 55, 32, 34] ++ r).length ≤ 16777216 := by omega
  wtm_at "ms"
  refine q_slice_ns D (by decide) hz ?_; wtm_at "nx"; wtm_at "ms"
  refine q_slice_ss D ⟨by decide, by omega⟩ (by decide) hz ?_; wtm_at "nx"; wtm_at "ms"
  refine m_while (I257 B g env r t0) r.length ?_ ?_
  · exact ⟨0, [], 5, _, _, _, _, Nat.zero_le _, rfl, rfl, rfl, Nat.le_refl _, D⟩
  clear D
  rintro n s ⟨j, acc, i, ti, td, tn, vc, hj, rfl, rfl, hacc, hla, D⟩
  intro Q' hQ
  wtm_at "ms"
  refine ite_b (fun h => ?_) (fun h => ?_)
  · have hlt : j < r.length := by have := of_decide_eq_true h; omega
    have hc : r[j]? = some r[j] := List.getElem?_eq_getElem hlt
    have hd : r.drop j = r[j] :: r.drop (j + 1) := List.drop_eq_getElem_cons hlt
    generalize r[j] = c at hc hd
    wtm_at "ms"
    refine q_item (c := c) D (Int.natCast_nonneg (5 + j)) ?_ hz ?_
    · exact at257 hc
    wtm_at "nx"; wtm_at "ms"
    rw [hd] at hacc
    refine ite_b (fun h2 => ?_) (fun h2 => ?_)
    · have hc34 : c = 34 := by simpa using h2
      subst hc34
      wtm_at "ms"
      refine ite_b (fun h3 => ?_) (fun h3 => ?_)
      · have hend : j + 1 = r.length := by have := of_decide_eq_true h3; omega
        wtm_at "ms"
        have e : acc = un257 r := by rw [← hacc, List.drop_eq_nil_of_le (by omega)]; simp [un257]
        exact D.leaveS hs0 e k
      · have hlt2 : j + 1 < r.length := by have := of_decide_eq_false h3; omega
        have hc2 : r[j + 1]? = some r[j + 1] := List.getElem?_eq_getElem hlt2
        have hd2 : r.drop (j + 1) = r[j + 1] :: r.drop (j + 2) := List.drop_eq_getElem_cons hlt2
        generalize r[j + 1] = c2 at hc2 hd2
        rw [hd2] at hacc
        wtm_at "ms"
        refine q_item (c := c2) D (Int.natCast_nonneg (5 + j + 1)) ?_ hz ?_
        · exact at257 hc2
        wtm_at "nx"; wtm_at "ms"
        refine ite_b (fun h4 => ?_) (fun h4 => ?_)
        · wtm_at "ms"
          have hne : c2 ≠ 34 := by simpa using h4
          have e : acc = un257 r := by rw [← hacc, un257_end hne, List.append_nil]
          exact D.leaveS hs0 e k
        · have hc34 : c2 = 34 := by simpa using h4
          subst hc34
          wtm_at "ms"
          refine ⟨r.length - (j + 2), fwd 1 hlt, j + 2, acc ++ [34], _, _, _, _, _, hlt2, rfl, ?_, ?_, ?_, D⟩
          · exact rfl
          · rw [← hacc, un257_two, List.append_assoc]; rfl
          · exact app1_le hla 1
    · have hne : c ≠ 34 := by simpa using h2
      wtm_at "ms"
      refine ⟨r.length - (j + 1), fwd 0 hlt, j + 1, acc ++ [c], _, _, _, _, _, hlt, rfl, ?_, ?_, ?_, D⟩
      · exact rfl
      · rw [← hacc, un257_ne hne, List.append_assoc]; rfl
      · exact app1_le hla 0
  · wtm_at "ms"
    have hend : j = r.length := by have := of_decide_eq_false h; omega
    have e : acc = un257 r := by rw [← hacc, List.drop_eq_nil_of_le (by omega)]; simp [un257]
    exact D.leaveS hs0 e k

end
section
noncomputable def barred (c : Nat) : List Nat := if c ∈ [42, 63, 91] then [91, c, 93] else [c]

theorem tBarred (w : World) (c : Nat) (t0 : Tok) : Fn (Mine.hz.heap_1_39 w.params) PySem.Challenge.pw_kt0083_01 w 3 (.ref 816) [.str (T [c]) t0] [] (fun v own => ∃ t, v = .str (T (barred c)) t ∧ own = []) := by
  intro A s g R S hA O k
  have hs0 : g.objs.size ≤ s.heap.objs.size := O.size
  refine' enter (binds := [(Str.ofString "sign", .str (T [c]) t0)]) (more := []) (gl := []) S O hA ?h1 ?h2 ?h3 ?h4 ?h5 ?_
  case h1 => k_is
  case h2 => k_is
  case h3 => exact BindsTo.of_eq rfl
  case h4 => kernel_rfl
  case h5 => kernel_rfl
  intro env A' s1 hA' H D Q0 hQ0
  replace D : St s g env [(Str.ofString "sign", some (.str (T [c]) t0))] s1 [] := D
  generalize s = B at D k hs0 O
  clear O
  wtm_at "ms"
  refine ite_b (fun h => ?_) (fun h => ?_)
  · have hc : c ∈ [42, 63, 91] := of_decide_eq_true h
    wtm_at "ms"
    exact D.leaveS hs0 (by rw [barred, if_pos hc]; rfl) k
  · have hc : ¬ c ∈ [42, 63, 91] := of_decide_eq_false h
    wtm_at "ms"
    exact D.leaveS hs0 (by rw [barred, if_neg hc]) k

/-- the dressing of a text -/
noncomputable def dressW (way : Int) (l : List Nat) : List Nat :=
  if way = 1 then [50, 53, 55, 32, 34] ++ sub1 34 [34, 34] l ++ [34] else [34] ++ sub1 34 [92, 34] (sub1 92 [92, 92] l) ++ [34]
theorem sub1_len (c : Nat) (z l : List Nat) (hz : z.length = 2) : (sub1 c z l).length ≤ 2 * l.length := by
  induction l with
  | nil => simp [sub1]
  | cons k r ih =>
    have : sub1 c z (k :: r) = (if k = c then z else [k]) ++ sub1 c z r := rfl
    rw [this, List.length_append, List.length_cons]
    split <;> simp only [hz, List.length_cons, List.length_nil] <;> omega
theorem tDressed (w : World) (way : Int) (l : List Nat) (hl : l.length ≤ 10000) (t0 t1 : Tok) : Fn (Mine.hz.heap_1_39 w.params) PySem.Challenge.pw_kt0083_01 w 3 (.ref 856) [.int way t0, .str (T l) t1] [] (fun v own => ∃ t, v = .str (T (dressW way l)) t ∧ own = []) := by
  intro A s g R S hA O k
  have hs0 : g.objs.size ≤ s.heap.objs.size := O.size
  refine' enter (binds := [(Str.ofString "way", .int way t0), (Str.ofString "text", .str (T l) t1)]) (more := []) (gl := []) S O hA ?h1 ?h2 ?h3 ?h4 ?h5 ?_
  case h1 => k_is
  case h2 => k_is
  case h3 => exact BindsTo.of_eq rfl
  case h4 => kernel_rfl
  case h5 => kernel_rfl
  intro env A' s1 hA' H D Q0 hQ0
  replace D : St s g env [(Str.ofString "way", some (.int way t0)), (Str.ofString "text", some (.str (T l) t1))] s1 [] := D
  generalize s = B at D k hs0 O
  clear O
  have h1 := sub1_len 34 [34, 34] l rfl
  have h2 := sub1_len 92 [92, 92] l rfl
  have h3 := sub1_len 34 [92, 34] (sub1 92 [92, 92] l) rfl
  wtm_at "ms"
  refine ite_b (fun h => ?_) (fun h => ?_)
  · wtm_at "ms"
    exact D.leaveS hs0 (by rw [dressW, if_pos (eq_of_beq h)]) k
  · wtm_at "ms"
    exact D.leaveS hs0 (by rw [dressW, if_neg (by intro e; subst e; cases h)]) k

end
section
/-- the sign that a number draws -/
noncomputable def signOf (x : Nat) : Nat := if x / 8 % 8 = 7 then 200 + x / 64 else [34, 34, 92, 92, 42, 91, 63].getD (x / 8 % 8) 0
theorem tSign (w : World) (x : Nat) (hx : x < 1000000) (t0 : Tok) : Fn (Mine.hz.heap_1_39 w.params) PySem.Challenge.pw_kt0083_01 w 3 (.ref 837) [.int x t0] [] (fun v own => ∃ t, v = .str (T [signOf x]) t ∧ own = []) := by
  intro A s g R S hA O k
  have hs0 : g.objs.size ≤ s.heap.objs.size := O.size
  refine' enter (binds := [(Str.ofString "x", .int x t0)]) (more := []) (gl := [(Str.ofString "chr", .builtin "chr")]) S O hA ?h1 ?h2 ?h3 ?h4 ?h5 ?_
  case h1 => k_is
  case h2 => k_is
  case h3 => exact BindsTo.of_eq rfl
  case h4 => kernel_rfl
  case h5 => kernel_rfl
  intro env A' s1 hA' H D Q0 hQ0
  replace D : St s g env [(Str.ofString "x", some (.int x t0))] s1 [] := D
  generalize s = B at D k hs0 O
  clear O
  wtm_at "ms"
  refine ite_b (fun h => ?_) (fun h => ?_)
  · have h7 : (x : Int) / 8 % 8 = 7 := eq_of_beq h
    wtm_at "ms"
    refine D.leaveS hs0 ?_ k
    rw [signOf, if_pos (show x / 8 % 8 = 7 from Int.ofNat.inj h7)]
    congr 1
  · have h7 : ¬ (x : Int) / 8 % 8 = 7 := fun e => by rw [e] at h; cases h
    wtm_at "ms"
    have hi : x / 8 % 8 < 7 := Nat.lt_of_le_of_ne (Nat.le_of_lt_succ (Nat.mod_lt _ (by decide))) fun e => h7 (congrArg Int.ofNat e)
    have hg : ([34, 34, 92, 92, 42, 91, 63] : List Nat)[((x : Int) / 8 % 8).toNat]? = some (signOf x) := by
      have e : ((x : Int) / 8 % 8).toNat = x / 8 % 8 := rfl
      rw [e, signOf, if_neg (Nat.ne_of_lt hi)]
      generalize x / 8 % 8 = j at hi
      rcases j with _ | _ | _ | _ | _ | _ | _ | j <;> first | rfl | omega
    refine q_item D (Int.natCast_nonneg (x / 8 % 8)) hg (by decide) ?_; wtm_at "nx"; wtm_at "ms"
    exact D.leaveS hs0 rfl k

end
section
noncomputable def itemOf (x : Nat) : List (List Nat) := if x % 8 < 2 then [[]] else if x % 8 > 2 then [[signOf x]] else []
noncomputable def nameOf (x : Nat) : List Nat := if x % 8 = 0 ∨ x % 8 = 3 then [] else [signOf x]
theorem itemLen (xs : List Nat) : (xs.flatMap itemOf).length ≤ xs.length := by
  induction xs with
  | nil => simp
  | cons x r ih =>
    rw [List.flatMap_cons, List.length_append, List.length_cons]
    have : (itemOf x).length ≤ 1 := by unfold itemOf; split <;> (try split) <;> simp
    omega
theorem nameLen (xs : List Nat) : (xs.flatMap nameOf).length ≤ xs.length := by
  induction xs with
  | nil => simp
  | cons x r ih =>
    rw [List.flatMap_cons, List.length_append, List.length_cons]
    have : (nameOf x).length ≤ 1 := by unfold nameOf; split <;> simp
    omega
theorem tDrawn (w : World) (l : Addr) (vs : List Value) (n : Nat) (xs : List Nat) (hxs : Nums vs (xs.map Nat.cast)) (hb : ∀ x ∈ xs, x < 1000000) (hl : xs.length ≤ 1000) :
    FnR (Mine.hz.heap_1_39 w.params) PySem.Challenge.pw_kt0083_01 w 5 (.ref 844) [.ref l] [(l, Lo vs n)]
      (fun v own => ∃ a b ws k t, v = .ref a ∧ own = [(a, tupObj [.ref b, .str (T (xs.flatMap nameOf)) t]), (b, Lo ws k)] ∧ Txts ws (xs.flatMap itemOf)) := by
  intro A s g R S hA O hr k
  have hs0 : g.objs.size ≤ s.heap.objs.size := O.size
  have hlst : g.get? l = some (Lo vs n) := hr _ (List.mem_singleton.mpr rfl)
  refine' enter (binds := [(Str.ofString "numbers", .ref l)]) (more := [Str.ofString "items", Str.ofString "name", Str.ofString "x"]) (gl := [(Str.ofString "_law_sign", .ref 837)]) S O hA ?h1 ?h2 ?h3 ?h4 ?h5 ?_
  case h1 => k_is
  case h2 => k_is
  case h3 => exact BindsTo.of_eq rfl
  case h4 => kernel_rfl
  case h5 => kernel_rfl
  intro env A' s1 hA' H D Q0 hQ0
  replace D : St s g env [(Str.ofString "numbers", some (.ref l)), (Str.ofString "items", none), (Str.ofString "name", none), (Str.ofString "x", none)] s1 [] := D
  generalize s = B at D k hs0 O
  clear O
  wtm_at "ms"
  refine r_newlist D (by decide) ?_; wtm_at "nl"; intro b s hbB D; wtm_at "ms"
  refine r_for hA'.hd ?_
  wtm_at "ms"
  refine ⟨_, _, _, _, l, vs, n, fun I o i s => ∃ (ws : List Value) (kk : Nat) (t : Tok) (vx : Option Value), Txts ws ((xs.take i).flatMap itemOf) ∧
    St B g env [(Str.ofString "numbers", some (.ref l)), (Str.ofString "items", some (.ref b)), (Str.ofString "name", some (.str (T ((xs.take i).flatMap nameOf)) t)), (Str.ofString "x", vx)] s [(I, o), (b, Lo ws kk)],
    rfl, D, by wtm_at "has", fun I o s' D' => ⟨[], 0, _, _, .nil, D'⟩, ?_⟩
  rintro I o i s' hi ⟨ws, kk, t, vx, hws, D⟩
  refine ⟨_, _, _, n, _, _, D, by wtm_at "has", fun o' => ⟨_, by wtm_at "turn", fun v s' hv D Q' hQ => ?_⟩, fun hi s' D => ?_⟩
  · obtain ⟨xi, ti, hx, rfl⟩ := hxs.got hv
    rw [List.getElem?_map] at hx
    cases hxi : xs[i]? with
    | none => rw [hxi] at hx; cases hx
    | some x =>
    rw [hxi] at hx
    cases hx
    have hx6 := hb x (List.mem_of_getElem? hxi)
    have hti : xs.take (i + 1) = xs.take i ++ [x] := by rw [List.take_add_one, hxi]; rfl
    have e1 : (xs.take (i + 1)).flatMap itemOf = (xs.take i).flatMap itemOf ++ itemOf x := by rw [hti, List.flatMap_append, List.flatMap_singleton]
    have e2 : (xs.take (i + 1)).flatMap nameOf = (xs.take i).flatMap nameOf ++ nameOf x := by rw [hti, List.flatMap_append, List.flatMap_singleton]
    have hwl := hws.len
    have hil := Nat.le_trans (itemLen (xs.take i)) (List.length_take_le i xs)
    have hnl := Nat.le_trans (nameLen (xs.take i)) (List.length_take_le i xs)
    have hil2 : (xs.take i).length ≤ xs.length := List.length_take_le' i xs
    have hil3 := itemLen (xs.take i)
    have hnl3 := nameLen (xs.take i)
    clear hti hv hxi
    wtm_at "ms"
    have hi8 : x % 8 < 2 ∨ x % 8 = 2 ∨ x % 8 > 2 := Nat.lt_trichotomy _ _
    have h03 : (x : Int) % 8 ∈ ([0, 3] : List Int) ↔ (x % 8 = 0 ∨ x % 8 = 3) := by
      simp only [List.mem_cons, List.not_mem_nil, or_false]; exact or_congr Int.ofNat_inj Int.ofNat_inj
    refine ite_b (fun h1 => ?_) (fun h1 => ?_)
    · have h1' : x % 8 < 2 := Int.ofNat_lt.mp (of_decide_eq_true h1)
      have ei : itemOf x = [[]] := if_pos h1'
      wtm_at "ms"
      refine ite_b (fun h2 => ?_) (fun h2 => ?_)
      · have en : nameOf x = [signOf x] := if_neg fun q => by rw [d_t (h03.mpr q)] at h2; cases h2
        wtm_at "ms"
        refine use0 (tSign w x hx6 _) S (hA'.less (by decide)) D fun v own' s0 hp D => ?_
        obtain ⟨tt, rfl, rfl⟩ := hp
        replace D := D.drop (List.Sublist.refl [(I, o'), (b, Lo (ws ++ [.str (T []) _]) (kk + 1))])
        wtm_at "ms"
        refine' ⟨_, _, _, _, ?hW, ?hD⟩
        case hD => rw [e2, en]; exact D
        case hW => rw [e1, ei]; exact hws.snoc
      · have en : nameOf x = [] := if_pos (by refine h03.mp ?_; by_cases q : (x : Int) % 8 ∈ ([0, 3] : List Int); exact q; rw [d_f q] at h2; cases h2)
        wtm_at "ms"
        refine' ⟨_, _, _, _, ?hW, ?hD⟩
        case hD => rw [e2, en, List.append_nil]; exact D
        case hW => rw [e1, ei]; exact hws.snoc
    · have h1' : ¬ x % 8 < 2 := fun q => of_decide_eq_false h1 (Int.ofNat_lt.mpr q)
      wtm_at "ms"
      refine ite_b (fun h2 => ?_) (fun h2 => ?_)
      · have h2' : x % 8 > 2 := Int.ofNat_lt.mp (of_decide_eq_true h2)
        have ei : itemOf x = [[signOf x]] := (if_neg h1').trans (if_pos h2')
        wtm_at "ms"
        refine use0 (tSign w x hx6 _) S (hA'.less (by decide)) D fun v own' s0 hp D => ?_
        obtain ⟨tt, rfl, rfl⟩ := hp
        replace D := D.drop (List.Sublist.refl [(I, o'), (b, Lo ws kk)])
        wtm_at "ms"
        refine ite_b (fun h3 => ?_) (fun h3 => ?_)
        · have en : nameOf x = [signOf x] := if_neg fun q => by rw [d_t (h03.mpr q)] at h3; cases h3
          wtm_at "ms"
          refine use0 (tSign w x hx6 _) S (hA'.less (by decide)) D fun v own' s0 hp D => ?_
          obtain ⟨tt', rfl, rfl⟩ := hp
          replace D := D.drop (List.Sublist.refl [(I, o'), (b, Lo (ws ++ [.str (T [signOf x]) _]) (kk + 1))])
          wtm_at "ms"
          refine' ⟨_, _, _, _, ?hW, ?hD⟩
          case hD => rw [e2, en]; exact D
          case hW => rw [e1, ei]; exact hws.snoc
        · have en : nameOf x = [] := if_pos (by refine h03.mp ?_; by_cases q : (x : Int) % 8 ∈ ([0, 3] : List Int); exact q; rw [d_f q] at h3; cases h3)
          wtm_at "ms"
          refine' ⟨_, _, _, _, ?hW, ?hD⟩
          case hD => rw [e2, en, List.append_nil]; exact D
          case hW => rw [e1, ei]; exact hws.snoc
      · have h2' : ¬ x % 8 > 2 := fun q => of_decide_eq_false h2 (Int.ofNat_lt.mpr q)
        have ei : itemOf x = [] := (if_neg h1').trans (if_neg h2')
        have en : nameOf x = [signOf x] := if_neg (by omega)
        wtm_at "ms"
        refine ite_t (nd_t (by rw [h03]; omega)) ?_
        wtm_at "ms"
        refine use0 (tSign w x hx6 _) S (hA'.less (by decide)) D fun v own' s0 hp D => ?_
        obtain ⟨tt, rfl, rfl⟩ := hp
        replace D := D.drop (List.Sublist.refl [(I, o'), (b, Lo ws kk)])
        wtm_at "ms"
        refine' ⟨_, _, _, _, ?hW, ?hD⟩
        case hD => rw [e2, en]; exact D
        case hW => rw [e1, ei, List.append_nil]; exact hws
  · wtm_at "ms"
    rw [List.take_of_length_le (by have := hxs.len; rw [List.length_map] at this; omega)] at hws D
    refine D.leaveN (List.Sublist.refl _) (all_cons ?_ (all_cons ?_ all_nil)) hs0 ⟨a, b, ws, kk, t, rfl, rfl, hws⟩ k
    · assumption
    · assumption

end
section
theorem tTakes (w : World) (l : Addr) (vs : List Value) (n : Nat) (ls : List (List Nat)) (name : List Nat) (hxs : Txts vs ls) (hne : ls ≠ []) (hb : ∀ x ∈ ls, x.length ≤ 1000000) (hl : ls.length ≤ 1000000) (hn : name.length ≤ 1000000) (t0 : Tok) :
    FnR (Mine.hz.heap_1_39 w.params) PySem.Challenge.pw_kt0083_01 w 3 (.ref 830) [.ref l, .str (T name) t0] [(l, Lo vs n)]
      (fun v own => ∃ b : Bool, v = .bool b ∧ (b = true ↔ Fit ls name) ∧ own = []) := by
  intro A s g R S hA O hr k
  have hs0 : g.objs.size ≤ s.heap.objs.size := O.size
  have hlst : g.get? l = some (Lo vs n) := hr _ (List.mem_singleton.mpr rfl)
  refine' enter (binds := [(Str.ofString "pieces", .ref l), (Str.ofString "name", .str (T name) t0)]) (more := [Str.ofString "at", Str.ofString "piece", Str.ofString "place", Str.ofString "behind"]) (gl := [(Str.ofString "len", .builtin "len")]) S O hA ?h1 ?h2 ?h3 ?h4 ?h5 ?_
  case h1 => k_is
  case h2 => k_is
  case h3 => exact BindsTo.of_eq rfl
  case h4 => kernel_rfl
  case h5 => kernel_rfl
  intro env A' s1 hA' H D Q0 hQ0
  replace D : St s g env [(Str.ofString "pieces", some (.ref l)), (Str.ofString "name", some (.str (T name) t0)), (Str.ofString "at", none), (Str.ofString "piece", none), (Str.ofString "place", none), (Str.ofString "behind", none)] s1 [] := D
  generalize s = B at D k hs0 O
  clear O
  have hvl : vs.length ≤ 16777216 := by rw [hxs.len]; omega
  have hnm : name.length ≤ 16777216 := Nat.le_trans hn (by decide)
  cases hxs with
  | nil => exact absurd rfl hne
  | @cons p0 tp0 vr lr hxr =>
  have hp0 : p0.length ≤ 16777216 := Nat.le_trans (hb p0 List.mem_cons_self) (by decide)
  cases hxr with
  | nil =>
    wtm_at "ms"
    exact D.leave (own := []) (fun _ hp => nomatch hp) hs0 (post := fun v own => ∃ b : Bool, v = .bool b ∧ (b = true ↔ Fit [p0] name) ∧ own = []) ⟨_, rfl, (decide_eq_true_iff (p := name = p0)), rfl⟩ k
  | @cons p1 tp1 vr lr hxr =>
  obtain ⟨ms, mls, q, tq, ev, el, hms⟩ := (Txts.cons (l := p1) (t := tp1) hxr).splitLast (List.cons_ne_nil _ _)
  rw [ev] at hlst hvl
  rw [el] at hb hl k
  have hq : q.length ≤ 1000000 := hb q (.tail _ (List.mem_append_right _ (.head _)))
  have hfc := fit_cons (p := p0) (l := name) (r := mls ++ [q]) (by simp)
  have hml := hms.len
  have hlst' : g.get? l = some (Lo ((.str (T p0) tp0 :: ms) ++ [.str (T q) tq]) n) := hlst
  have hmz : ms.length ≤ 16777214 := by simp at hl; omega
  wtm_at "ms"
  refine ite_f (by simp; omega) ?_
  wtm_at "ms"
  refine q_slice_ns D (Int.natCast_nonneg _) hnm ?_; wtm_at "nx"; wtm_at "ms"
  refine ite_b (fun h => ?_) (fun h => ?_)
  · wtm_at "ms"
    refine D.leave (own := []) (fun _ hp => nomatch hp) hs0 ⟨_, rfl, (show (false = true ↔ Fit (p0 :: (mls ++ [q])) name) from ⟨fun q => (nomatch q), fun q => ?_⟩), rfl⟩ k
    have := (hfc.mp q).1
    simp only [Int.toNat_natCast, this, decide_true] at h
    cases h
  · have hp : name.take p0.length = p0 := by simpa using h
    have hpl : p0.length ≤ name.length := by have := congrArg List.length hp; rw [List.length_take] at this; exact Nat.le_trans (Nat.le_of_eq this.symm) (Nat.min_le_right _ _)
    replace hfc : Fit (p0 :: (mls ++ [q])) name ↔ Run (mls ++ [q]) (name.drop p0.length) := hfc.trans ⟨fun z => z.2.2, fun z => ⟨hp, hpl, z⟩⟩
    wtm_at "ms"
    refine r_for hA'.hd ?_
    wtm_at "ms"
    refine r_slice_list D (by wtm_at "has") (.int _ _) (.int _ _) (pick_mid _ _ ms) hvl ?_; wtm_at "nl"; intro M s hMB D
    refine ⟨_, _, _, _, M, ms, 0, fun I o i s => ∃ (at' : Nat) (ta : Tok) (vp vq : Option Value), at' ≤ name.length ∧ (Fit (p0 :: (mls ++ [q])) name ↔ Run (mls.drop i ++ [q]) (name.drop at')) ∧
      St B g env [(Str.ofString "pieces", some (.ref l)), (Str.ofString "name", some (.str (T name) t0)), (Str.ofString "at", some (.int at' ta)), (Str.ofString "piece", vp), (Str.ofString "place", vq), (Str.ofString "behind", none)] s [(I, o), (M, Lo ms 0)],
      rfl, D, by wtm_at "has", fun I o s' D' => ⟨p0.length, _, _, _, hpl, hfc, D'⟩, ?_⟩
    rintro I o i s' hi ⟨at', ta, vp, vq, hat, hinv, D⟩
    refine ⟨_, _, _, 0, _, _, D, by wtm_at "has", fun o' => ⟨_, by wtm_at "turn", fun v s' hv D Q' hQ => ?_⟩, fun hi s' D => ?_⟩
    · obtain ⟨p, tp, hp, rfl⟩ := hms.got hv
      have hpb : p.length ≤ 1000000 := hb p (.tail _ (List.mem_append_left _ (List.mem_of_getElem? hp)))
      have hd : mls.drop i = p :: mls.drop (i + 1) := (List.getElem?_eq_some_iff.mp hp).elim fun hlt e => by rw [List.drop_eq_getElem_cons hlt, e]
      wtm_at "ms"
      refine q_find3 D (Int.natCast_nonneg _) ?_; wtm_at "nl"; intro t s r hr' D; wtm_at "ms"
      refine ite_b (fun h => ?_) (fun h => ?_)
      · wtm_at "ms"
        refine D.leaveN (news' := []) (List.nil_sublist _) (fun p hp => nomatch hp) hs0 ⟨_, rfl, (show (false = true ↔ Fit (p0 :: (mls ++ [q])) name) from ⟨fun q => (nomatch q), fun q => ?_⟩), rfl⟩ k
        rcases hr' with ⟨rfl, hno⟩ | ⟨j, rfl, _⟩
        · rw [hinv, hd] at q
          exact absurd q (run_none hat (by simp) hno)
        · have := of_decide_eq_true h; omega
      · rcases hr' with ⟨rfl, hno⟩ | ⟨j, rfl, hj1, hj2, hj3⟩
        · cases h
        · wtm_at "ms"
          refine ⟨j + p.length, _, _, _, hj2.1, ?_, D⟩
          rw [hinv, hd]
          exact run_first hat (by simp) hj1 hj2 hj3
    · have hdn : mls.drop i = [] := List.drop_eq_nil_of_le (by omega)
      rw [hdn] at hinv
      replace hinv := hinv.trans (run_last hat)
      wtm_at "ms"
      refine ite_b (fun h => ?_) (fun h => ?_)
      · have hle : at' + q.length ≤ name.length := by have := of_decide_eq_true h; omega
        wtm_at "ms"
        refine q_slice_sn D ⟨by omega, by omega⟩ hnm ?_; wtm_at "nx"; wtm_at "ms"
        refine D.leaveN (news' := []) (List.nil_sublist _) (fun p hp => nomatch hp) hs0 ⟨_, rfl, (Iff.trans decide_eq_true_iff ?_), rfl⟩ k
        have e : ((name.length : Int) - (q.length : Int)).toNat = name.length - q.length := Int.toNat_sub _ _
        rw [e]
        exact ⟨fun z => hinv.mpr ⟨hle, z⟩, fun z => (hinv.mp z).2⟩
      · wtm_at "ms"
        refine D.leaveN (news' := []) (List.nil_sublist _) (fun p hp => nomatch hp) hs0 ⟨_, rfl, ⟨fun z => (by rw [h] at z; cases z), fun z => ?_⟩, rfl⟩ k
        have := (hinv.mp z).1
        have := of_decide_eq_false h
        omega

end
section
noncomputable abbrev lFront : List Nat := [102, 114, 111, 110, 116]
noncomputable abbrev lGroup : List Nat := [103, 114, 111, 117, 112]
noncomputable abbrev lBehind : List Nat := [98, 101, 104, 105, 110, 100]
noncomputable abbrev lEnd : List Nat := [101, 110, 100]
/-- where the reading stands: the rest of the piece, the pieces behind it, the text ahead -/
inductive Stand : List Nat → List Nat → List (List Nat) → List Nat → Prop
  | front {p r} : Stand lFront p r (eT p ++ trTail r)
  | group {p q r} : Stand lGroup p (q :: r) (eT p ++ ([41] ++ trTail (q :: r)))
  | behind {q r} : Stand lBehind [] (q :: r) (trTail (q :: r))
  | fin {p} : Stand lEnd p [] (eT p)
inductive Step : List Nat → List Nat → List (List Nat) → List Nat → Prop
  | sign {st c p' rest R'} : (st = lFront ∨ st = lGroup ∨ st = lEnd) → Stand st p' rest R' → Step st (c :: p') rest (eS c ++ R')
  | opens {st m q r R'} : (st = lFront ∨ st = lBehind) → Stand lGroup m (q :: r) R' → Step st [] (m :: q :: r) ([40, 63, 62, 46, 42, 63] ++ R')
  | last {st q R'} : (st = lFront ∨ st = lBehind) → Stand lEnd q [] R' → Step st [] [q] ([46, 42] ++ R')
  | close {q r R'} : Stand lBehind [] (q :: r) R' → Step lGroup [] (q :: r) ([41] ++ R')
  | over {st} : (st = lFront ∨ st = lEnd) → Step st [] [] []
theorem Stand.step {st p rest R} (h : Stand st p rest R) : Step st p rest R := by
  have tl : ∀ {st} {rest : List (List Nat)}, (st = lFront ∨ st = lBehind) → (rest ≠ [] ∨ st = lFront) → Step st [] rest (trTail rest) := by
    intro st rest hs hr
    match rest with
    | [] => exact .over (.inl (hr.resolve_left fun q => q rfl))
    | [q] => exact .last hs .fin
    | m :: q :: r => exact .opens hs .group
  cases h with
  | @front p r =>
    cases p with
    | nil => exact tl (.inl rfl) (.inr rfl)
    | cons c p => rw [eT_cons, List.append_assoc]; exact .sign (.inl rfl) .front
  | @group p q r =>
    cases p with
    | nil => exact .close .behind
    | cons c p => rw [eT_cons, List.append_assoc]; exact .sign (.inr (.inl rfl)) .group
  | behind => exact tl (.inr rfl) (.inl (List.cons_ne_nil _ _))
  | @fin p =>
    cases p with
    | nil => exact .over (.inr rfl)
    | cons c p => rw [eT_cons]; exact .sign (.inr (.inr rfl)) .fin
theorem Step.nil {st p rest R} (h : Step st p rest R) (e : R = []) : p = [] ∧ rest = [] ∧ (st = lFront ∨ st = lEnd) := by
  cases h with
  | over hs => exact ⟨rfl, rfl, hs⟩
  | @sign _ c _ _ _ _ _ =>
    have hk := eS_kind c
    generalize eS c = E at hk e
    cases hk <;> cases e
  | opens => cases e
  | last => cases e
  | close => cases e
noncomputable abbrev pV (text : List Nat) (t0 : Tok) (body : List Nat) (tb : Tok) (P : Addr) (st : List Nat) (ts : Tok) (a : Int) (ta : Tok) (vf : Option Value) : Vals :=
  [(Str.ofString "text", some (.str (T text) t0)), (Str.ofString "body", some (.str (T body) tb)), (Str.ofString "pieces", some (.ref P)), (Str.ofString "stand", some (.str (T st) ts)), (Str.ofString "at", some (.int a ta)), (Str.ofString "fence", vf)]
inductive PInv (B : Shared) (g : Heap) (env : Env) (text : List Nat) (t0 : Tok) (body : List Nat) (P : Addr) (p0 : List Nat) (r0 : List (List Nat)) (n : Nat) (s : Shared) : Prop
  | mk (a : Nat) (st p : List Nat) (rest : List (List Nat)) (R : List Nat) (acc : List (List Nat)) (cur : List Nat) (vs : List Value) (kk : Nat) (ai : Int) (tb ts ta tc : Tok) (vf : Option Value)
    (h1 : ai = a) (h2 : n = body.length - a) (h3 : a ≤ body.length) (h4 : body.drop a = R) (h5 : Stand st p rest R) (h6 : Txts vs acc) (h7 : acc ++ (cur ++ p) :: rest = p0 :: r0) (h8 : cur.length ≤ a) (h9 : acc.length ≤ a)
    (D : St B g env (pV text t0 body tb P st ts ai ta vf) s [(P, Lo (vs ++ [.str (T cur) tc]) kk)])
theorem tPieces (w : World) (ps : List (List Nat)) (hne : ps ≠ []) (hgood : ∀ p ∈ ps, ∀ c ∈ p, c ≠ 40 ∧ c ≠ 41 ∧ c ≠ 46) (hb : (trText ps).length ≤ 1000000) (t0 : Tok) :
    Fn (Mine.hz.heap_1_39 w.params) PySem.Challenge.pw_kt0083_01 w 3 (.ref 823) [.str (T (trText ps)) t0] [] (fun v own => ∃ a vs n, v = .ref a ∧ own = [(a, Lo vs n)] ∧ Txts vs ps) := by
  intro A s g R S hA O k
  have hs0 : g.objs.size ≤ s.heap.objs.size := O.size
  refine' enter (binds := [(Str.ofString "text", .str (T (trText ps)) t0)]) (more := [Str.ofString "body", Str.ofString "pieces", Str.ofString "stand", Str.ofString "at", Str.ofString "fence"]) (gl := [(Str.ofString "len", .builtin "len")]) S O hA ?h1 ?h2 ?h3 ?h4 ?h5 ?_
  case h1 => k_is
  case h2 => k_is
  case h3 => exact BindsTo.of_eq rfl
  case h4 => kernel_rfl
  case h5 => kernel_rfl
  intro env A' s1 hA' H D Q0 hQ0
  replace D : St s g env [(Str.ofString "text", some (.str (T (trText ps)) t0)), (Str.ofString "body", none), (Str.ofString "pieces", none), (Str.ofString "stand", none), (Str.ofString "at", none), (Str.ofString "fence", none)] s1 [] := D
  generalize s = B at D k hs0 O
  clear O
  cases ps with
  | nil => exact absurd rfl hne
  | cons p0 r0 =>
  have htx : trText (p0 :: r0) = [40, 63, 115, 58] ++ ((eT p0 ++ trTail r0) ++ [41, 92, 90]) := by rw [trText, List.append_assoc]
  generalize htt : trText (p0 :: r0) = text at htx hb D
  generalize hbo : eT p0 ++ trTail r0 = body at htx
  as_aux_lemma =>
    have htl : text.length = 7 + body.length := by rw [htx]; simp; omega
    have e1 : text.take 4 = [40, 63, 115, 58] := by rw [htx]; rfl
    have e2 : text.drop (text.length - 3) = [41, 92, 90] := by
      rw [htl, Nat.add_comm 7, Nat.add_sub_assoc (by decide : 3 ≤ 7), Nat.add_comm body.length, ← List.drop_drop, htx]; simp
    have e3 : (text.drop 4).take (text.length - 3 - 4) = body := by rw [htl, htx, show 7 + body.length - 3 - 4 = body.length by omega]; simp
    have hz : text.length ≤ 16777216 := Nat.le_trans hb (by decide)
    wtm_at "ms"
    refine q_slice_ns D (by decide) hz ?_; wtm_at "nx"; wtm_at "ms"
    refine ite_f (nd_f e1) ?_
    wtm_at "ms"
    refine q_slice_last (k := 3) D (by decide) (by omega) hz ?_; wtm_at "nx"; wtm_at "ms"
    refine ite_f (nd_f e2) ?_
    wtm_at "ms"
    refine q_slice_but (i := 4) (k := 3) D (by decide) (by omega) hz ?_
    rw [e3]
    wtm_at "nx"; wtm_at "ms"
    refine r_newlist D (Nat.le_of_ble_eq_true rfl) ?_; wtm_at "nl"; intro P s hPB D; wtm_at "ms"
    have hbz : body.length ≤ 1000000 := Nat.le_trans (Nat.le_trans (Nat.le_add_left _ 7) (Nat.le_of_eq htl.symm)) hb
    refine m_while (PInv B g env text t0 body P p0 r0) body.length ?_ ?_
    · exact ⟨0, lFront, p0, r0, body, [], [], [], 0, 0, _, _, _, _, _, rfl, rfl, Nat.zero_le _, rfl, hbo ▸ .front, .nil, rfl, Nat.le_refl _, Nat.le_refl _, D⟩
    clear D
    rintro n s ⟨i, st, p, rest, R, acc, cur, vs, kk, ai, tb, ts, ta, tc, vf, hai, rfl, ha, hR, hst, hvs, hps, hcl, hal, D⟩
    intro Q' hQ
    have hvl := hvs.len
    have hbz2 : body.length ≤ 16777216 := Nat.le_trans hbz (by decide)
    wtm_at "ms"
    refine ite_b (fun h => ?_) (fun h => ?_)
    · have hlt : i < body.length := lt_of_cast hai h
      have hvz : vs.length ≤ 16777216 := hvl ▸ le16 (Nat.le_trans hal ha) hbz
      have hvz1 : vs.length + 1 ≤ 16777216 := hvl ▸ le16s (Nat.le_trans hal ha) hbz
      have hsz := fun r : List Nat => take1_le (Nat.le_trans hcl ha) hbz r
      have hRne : R ≠ [] := fun e => by rw [e] at hR; have := congrArg List.length hR; simp at this; omega
      clear h
      cases hst.step with
      | over => exact absurd rfl hRne
      | @sign _ c p' _ R' hs hst' =>
        clear hRne hst
        have hc : c ≠ 40 ∧ c ≠ 41 ∧ c ≠ 46 := hgood (cur ++ c :: p') (by rw [← hps]; simp) c (by simp)
        obtain ⟨hc40, hc41, hc46⟩ := hc
        obtain ⟨x, R1, hx, hx40, hx41, hx46⟩ : ∃ x R1, eS c ++ R' = x :: R1 ∧ x ≠ 40 ∧ x ≠ 41 ∧ x ≠ 46 := by
          have hk := eS_kind c
          generalize eS c = E at hk
          cases hk <;> exact ⟨_, _, rfl, by omega, by omega, by omega⟩
        have hR1 := hR
        rw [hx] at hR1
        with_reducible refine x_cons ?_; intro _ _ _
        refine wpAny_If ?_
        refine wpAny_mono (Q := fun b s' => b = false ∧ St B g env (pV text t0 body tb P st ts ai ta vf) s' [(P, Lo (vs ++ [.str (T cur) tc]) kk)]) ?_ (fun b s hb => ?_) fun _ _ x => x
        · rcases hs with rfl | rfl | rfl
          · wtm_at "ms"
            refine ite_f (d_f (by simp [hx40])) ?_
            wtm_at "ms"
            exact ⟨rfl, D⟩
          · wtm_at "ms"
            exact ⟨rfl, D⟩
          · wtm_at "ms"
            exact ⟨rfl, D⟩
        clear D
        obtain ⟨rfl, D⟩ := hb
        refine ite_f rfl ?_
        with_reducible refine x_cons ?_; intro _ _ _
        refine wpAny_If ?_
        refine wpAny_mono (Q := fun b s' => b = false ∧ St B g env (pV text t0 body tb P st ts ai ta vf) s' [(P, Lo (vs ++ [.str (T cur) tc]) kk)]) ?_ (fun b s hb => ?_) fun _ _ x => x
        · rcases hs with rfl | rfl | rfl
          · wtm_at "ms"
            refine ite_f (d_f (by simp [hx46])) ?_
            wtm_at "ms"
            exact ⟨rfl, D⟩
          · wtm_at "ms"
            exact ⟨rfl, D⟩
          · wtm_at "ms"
            exact ⟨rfl, D⟩
        clear D
        obtain ⟨rfl, D⟩ := hb
        refine ite_f rfl ?_
        with_reducible refine x_cons ?_; intro _ _ _
        refine wpAny_If ?_
        refine wpAny_mono (Q := fun b s' => b = false ∧ St B g env (pV text t0 body tb P st ts ai ta vf) s' [(P, Lo (vs ++ [.str (T cur) tc]) kk)]) ?_ (fun b s hb => ?_) fun _ _ x => x
        · rcases hs with rfl | rfl | rfl
          · wtm_at "ms"
            exact ⟨rfl, D⟩
          · wtm_at "ms"
            refine ite_f (d_f (by simp [hx41])) ?_
            wtm_at "ms"
            exact ⟨rfl, D⟩
          · wtm_at "ms"
            exact ⟨rfl, D⟩
        clear D
        obtain ⟨rfl, D⟩ := hb
        refine ite_f rfl ?_
        with_reducible refine x_cons ?_; intro _ _ _
        refine wpAny_If ?_
        refine wpAny_mono (Q := fun b s' => b = false ∧ St B g env (pV text t0 body tb P st ts ai ta vf) s' [(P, Lo (vs ++ [.str (T cur) tc]) kk)]) ?_ (fun b s hb => ?_) fun _ _ x => x
        · rcases hs with rfl | rfl | rfl
          · wtm_at "ms"
            exact ⟨rfl, D⟩
          · wtm_at "ms"
            exact ⟨rfl, D⟩
          · wtm_at "ms"
            exact ⟨rfl, D⟩
        clear D
        obtain ⟨rfl, D⟩ := hb
        refine ite_f rfl ?_
        clear hR1 hx hx40 hx41 hx46
        have hk := eS_kind c
        generalize eS c = E at hk hR
        cases hk with
        | plain h91 h92 =>
          have hRc : body.drop i = c :: R' := hR
          wtm_at "ms"
          refine ite_f (d_f (by simp [h91])) ?_
          wtm_at "ms"
          refine ite_f (d_f (by simp [h92])) ?_
          wtm_at "ms"
          exact ⟨body.length - (i + 1), fwd 0 hlt, i + 1, _, p', rest, R', acc, cur ++ [c], vs, _, _, _, _, _, _, _, (by rw [hai]; rfl), rfl, drop_le hR ha, drop_app hR rfl, hst', hvs, by simpa using hps, app1_le hcl 0, Nat.le_add_right_of_le hal, D⟩
        | back  =>
          have hRc : body.drop i = 92 :: c :: R' := hR
          have hRd := drop_more hRc
          wtm_at "ms"
          exact ⟨body.length - (i + 2), fwd 1 hlt, i + 2, _, p', rest, R', acc, cur ++ [c], vs, _, _, _, _, _, _, _, (by rw [hai]; rfl), rfl, drop_le hR ha, drop_app hR rfl, hst', hvs, by simpa using hps, app1_le hcl 1, Nat.le_add_right_of_le hal, D⟩
        | fence h92 =>
          have hRc : body.drop i = 91 :: c :: 93 :: R' := hR
          have hRd := drop_more hRc
          have hRe := drop_more hRd
          have hlt2 := drop_lt hRd
          wtm_at "ms"
          refine ite_f (d_f (by simp [h92])) ?_
          wtm_at "ms"
          exact ⟨body.length - (i + 3), fwd 2 hlt, i + 3, _, p', rest, R', acc, cur ++ [c], vs, _, _, _, _, _, _, _, (by rw [hai]; rfl), rfl, drop_le hR ha, drop_app hR rfl, hst', hvs, by simpa using hps, app1_le hcl 2, Nat.le_add_right_of_le hal, D⟩
        | both  =>
          have hRc : body.drop i = 91 :: 92 :: 91 :: 93 :: R' := hR
          have hRd := drop_more hRc
          have hRe := drop_more hRd
          have hRf := drop_more hRe
          have hlt2 := drop_lt hRd
          have hlt3 := drop_lt hRe
          wtm_at "ms"
          exact ⟨body.length - (i + 4), fwd 3 hlt, i + 4, _, p', rest, R', acc, cur ++ [91], vs, _, _, _, _, _, _, _, (by rw [hai]; rfl), rfl, drop_le hR ha, drop_app hR rfl, hst', hvs, by simpa using hps, app1_le hcl 3, Nat.le_add_right_of_le hal, D⟩
      | @opens _ m q r R' hs hst' =>
        wtm_at "ms"
        refine ite_t (d_t (by rcases hs with rfl | rfl <;> decide)) ?_
        wtm_at "ms"
        exact ⟨body.length - (i + 6), fwd 5 hlt, i + 6, _, m, q :: r, R', acc ++ [cur], [], _, _, _, _, _, _, _, _, (by rw [hai]; rfl), rfl, drop_le hR ha, drop_app hR rfl, hst', hvs.snoc, by simpa using hps, Nat.zero_le _, app1_le hal 5, D⟩
      | @last _ q R' hs hst' =>
        wtm_at "ms"
        refine ite_t (d_t (by rcases hs with rfl | rfl <;> decide)) ?_
        wtm_at "ms"
        refine ite_t (d_t (by rcases hs with rfl | rfl <;> decide)) ?_
        wtm_at "ms"
        exact ⟨body.length - (i + 2), fwd 1 hlt, i + 2, _, q, [], R', acc ++ [cur], [], _, _, _, _, _, _, _, _, (by rw [hai]; rfl), rfl, drop_le hR ha, drop_app hR rfl, hst', hvs.snoc, by simpa using hps, Nat.zero_le _, app1_le hal 1, D⟩
      | @close q r R' hst' =>
        have hRc : body.drop i = 41 :: R' := hR
        wtm_at "ms"
        exact ⟨body.length - (i + 1), fwd 0 hlt, i + 1, _, [], q :: r, R', acc, cur, vs, _, _, _, _, _, _, _, (by rw [hai]; rfl), rfl, hlt, drop_app hR rfl, hst', hvs, hps, Nat.le_add_right_of_le hcl, Nat.le_add_right_of_le hal, D⟩
    · have hend : R = [] := by rw [← hR]; exact List.drop_eq_nil_of_le (ge_of_cast hai h)
      obtain ⟨rfl, rfl, hs⟩ := hst.step.nil hend
      wtm_at "ms"
      refine ite_t (d_t (by rcases hs with rfl | rfl <;> decide)) ?_
      wtm_at "ms"
      refine D.leaveN (List.Sublist.refl _) (fun p hp => ?_) hs0 ⟨P, _, _, rfl, rfl, ?_⟩ k
      · rw [List.mem_singleton.mp hp]; exact hPB
      · rw [← hps, List.append_nil]; exact hvs.snoc

end
section
noncomputable def special : List Nat := [40, 41, 91, 93, 123, 125, 63, 42, 43, 45, 124, 94, 36, 92, 46, 38, 126, 35, 32, 9, 10, 13, 11, 12]
noncomputable def escS (c : Nat) : List Nat := if c = 92 ∨ c = 32 then [92, c] else [c]
noncomputable def isStrB (x : Str) : Option Value → Bool
  | some (.str y _) => decide (y = x)
  | _ => false
theorem isStrB_spec {x : Str} {o : Option Value} (h : isStrB x o = true) : ∃ u, o = some (.str x u) := by
  unfold isStrB at h
  split at h
  · exact ⟨_, by rw [of_decide_eq_true h]⟩
  · cases h
theorem tEscape (w : World) (c : Nat) (hc : c = 92 ∨ c = 32 ∨ c ∉ special) (t0 : Tok) : Fn (Mine.hz.heap_1_39 w.params) PySem.Challenge.pw_kt0083_01 w 3 (.ref 68) [.str (T [c]) t0] [] (fun v own => ∃ t, v = .str (T (escS c)) t ∧ own = []) := by
  intro A s g R S hA O k
  have hs0 : g.objs.size ≤ s.heap.objs.size := O.size
  refine' enter (binds := [(Str.ofString "pattern", .str (T [c]) t0)]) (more := []) (gl := [(Str.ofString "isinstance", .builtin "isinstance"), (Str.ofString "str", .type "str"), (Str.ofString "_special_chars_map", .ref 58)]) S O hA ?h1 ?h2 ?h3 ?h4 ?h5 ?_
  case h1 => k_is
  case h2 => k_is
  case h3 => exact BindsTo.of_eq rfl
  case h4 => kernel_rfl
  case h5 => kernel_rfl
  intro env A' s1 hA' H D Q0 hQ0
  replace D : St s g env [(Str.ofString "pattern", some (.str (T [c]) t0))] s1 [] := D
  generalize s = B at D k hs0 O
  clear O
  have hT : intTab (Mine.hz.heap_1_39 w.params) 58 special = true := by kernel_rfl
  wtm_at "ms"
  have X := S.X.keeps D.keep
  have hM : s1.heap.MapOf (intKind PySem.Challenge.pw_kt0083_01 w) 58 (intAt (Mine.hz.heap_1_39 w.params) 58) := intTab_map X hT
  by_cases h : c = 92 ∨ c = 32
  · have hf : ∃ u, intAt (Mine.hz.heap_1_39 w.params) 58 (c : Int) = some (.str (T [92, c]) u) := by
      rcases h with rfl | rfl
      · exact isStrB_spec (by kernel_rfl)
      · exact isStrB_spec (by kernel_rfl)
    obtain ⟨u, hf⟩ := hf
    refine translate_hit hM (by omega) hf fun t s' hx => ?_
    replace D := D.ext hx
    wtm_at "ms"
    exact D.leaveS hs0 (by rw [escS, if_pos h]) k
  · have hn : c ∉ special := hc.elim (fun q => absurd (.inl q) h) fun q => q.elim (fun q => absurd (.inr q) h) id
    refine translate_miss hA'.hd rfl hM (intAt_none hT hn) fun t s' hx => ?_
    replace D := D.ext hx
    wtm_at "ms"
    exact D.leaveS hs0 (by rw [escS, if_neg h]) k

end
section
noncomputable abbrev jV (l st R ad : Addr) (i : Int) (ti : Tok) (n : Int) (tn : Tok) (vf : Option Value) : Vals :=
  [(Str.ofString "inp", some (.ref l)), (Str.ofString "STAR", some (.ref st)), (Str.ofString "res", some (.ref R)), (Str.ofString "add", some (.ref ad)), (Str.ofString "i", some (.int i ti)), (Str.ofString "n", some (.int n tn)), (Str.ofString "fixed", vf)]
inductive J2c (B : Shared) (g : Heap) (env : Env) (l st R ad F : Addr) (vs rs : List Value) (kk i : Nat) (q : List (List Nat)) (m : Nat) (s : Shared) : Prop
  | mk (j : Nat) (fs : List Value) (kf : Nat) (ij : Int) (tj tn : Tok)
    (h1 : ij = i + 1 + j) (h2 : m = q.length - j) (h3 : j ≤ q.length) (h4 : Txts fs (q.take j)) (h5 : St B g env (jV l st R ad ij tj vs.length tn (some (.ref F))) s [(F, Lo fs kf), (ad, bnd R), (R, Lo rs kk)]) : J2c B g env l st R ad F vs rs kk i q m s
inductive J2b (B : Shared) (g : Heap) (env : Env) (l st R ad : Addr) (vs : List Value) (P : List (Option (List Nat))) (pf : List (List Nat)) (r : List (List (List Nat))) (m : Nat) (s : Shared) : Prop
  | mk (i : Nat) (r' : List (List (List Nat))) (ts : List (List Nat)) (rs : List Value) (kk : Nat) (ii : Int) (ti tn : Tok) (vf : Option Value)
    (h1 : ii = i) (h2 : m = vs.length - i) (h3 : i ≤ vs.length) (h4 : P.drop i = tailParts r') (h5 : Txts rs ts) (h6 : ts.flatten ++ tT r' = pf.flatten ++ tT r) (h7 : (∀ q ∈ r'.dropLast, q ≠ [])) (h8 : rs.length ≤ 2 * i) (h9 : St B g env (jV l st R ad ii ti vs.length tn vf) s [(ad, bnd R), (R, Lo rs kk)]) : J2b B g env l st R ad vs P pf r m s
inductive J2a (B : Shared) (g : Heap) (env : Env) (l st R ad : Addr) (vs : List Value) (pf : List (List Nat)) (m : Nat) (s : Shared) : Prop
  | mk (i : Nat) (rs : List Value) (kk : Nat) (ii : Int) (ti tn : Tok) (vf : Option Value)
    (h1 : ii = i) (h2 : m = pf.length - i) (h3 : i ≤ pf.length) (h4 : Txts rs (pf.take i)) (h5 : St B g env (jV l st R ad ii ti vs.length tn vf) s [(ad, bnd R), (R, Lo rs kk)]) : J2a B g env l st R ad vs pf m s
theorem tJoin (w : World) (l st : Addr) (vs : List Value) (nn : Nat) (pf : List (List Nat)) (r : List (List (List Nat))) (hvs : Parts st vs (pf.map some ++ tailParts r)) (hmid : ∀ q ∈ r.dropLast, q ≠ [])
    (hb : (pf.flatten ++ tT r).length ≤ 10000) (hn : vs.length ≤ 10000) :
    FnR (Mine.hz.heap_1_39 w.params) PySem.Challenge.pw_kt0083_01 w 5 (.ref 82) [.ref l, .ref st] [(l, Lo vs nn)]
      (fun v own => ∃ t, v = .str (T ([40, 63, 115, 58] ++ (pf.flatten ++ tT r) ++ [41, 92, 90])) t ∧ own = []) := by
  intro A s g R S hA O hr k
  have hs0 : g.objs.size ≤ s.heap.objs.size := O.size
  have hlst : g.get? l = some (Lo vs nn) := hr _ (List.mem_singleton.mpr rfl)
  refine' enter (binds := [(Str.ofString "inp", .ref l), (Str.ofString "STAR", .ref st)]) (more := [Str.ofString "res", Str.ofString "add", Str.ofString "i", Str.ofString "n", Str.ofString "fixed"]) (gl := [(Str.ofString "len", .builtin "len")]) S O hA ?h1 ?h2 ?h3 ?h4 ?h5 ?_
  case h1 => k_is
  case h2 => k_is
  case h3 => exact BindsTo.of_eq rfl
  case h4 => kernel_rfl
  case h5 => kernel_rfl
  intro env A' s1 hA' H D Q0 hQ0
  replace D : St s g env [(Str.ofString "inp", some (.ref l)), (Str.ofString "STAR", some (.ref st)), (Str.ofString "res", none), (Str.ofString "add", none), (Str.ofString "i", none), (Str.ofString "n", none), (Str.ofString "fixed", none)] s1 [] := D
  generalize s = B at D k hs0 O
  clear O
  wtm_at "ms"
  refine r_newlist D (by decide) ?_; wtm_at "nl"; intro R s hRB D; wtm_at "ms"
  have hvl := hvs.len
  have hvz : vs.length ≤ 16777216 := by omega
  have hpl : vs.length = pf.length + (tailParts r).length := by rw [hvl, List.length_append, List.length_map]
  refine m_while (J2a B g env l st R ad vs pf) pf.length ?_ ?_
  · exact ⟨0, [], 0, 0, _, _, _, rfl, rfl, Nat.zero_le _, .nil, D⟩
  clear D
  rintro m s ⟨i, rs, kk, ii, ti, tn, vf, hii, rfl, hi, hrs, D⟩
  intro Q' hQ
  have hrl := hrs.len
  rw [List.length_take] at hrl
  have hi0 := cast0 hii
  have hrz0 : rs.length ≤ 16777216 := hrl ▸ Nat.le_trans (Nat.min_le_right _ _) (Nat.le_trans (hpl ▸ Nat.le_add_right _ _) hvz)
  have hpp : (pf.map some ++ tailParts r)[i]? = if i < pf.length then pf[i]?.map some else (tailParts r)[i - pf.length]? := by
    by_cases h : i < pf.length
    · rw [if_pos h, List.getElem?_append_left (by rw [List.length_map]; exact h), List.getElem?_map]
    · rw [if_neg h, List.getElem?_append_right (by rw [List.length_map]; omega), List.length_map]
  refine wpAny_mono (Q := fun b s' => b = decide (i < pf.length) ∧ St B g env (jV l st R ad ii ti vs.length tn vf) s' [(ad, bnd R), (R, Lo rs kk)]) ?_ (fun b s hb => ?_) fun _ _ x => x
  · by_cases h : i < pf.length
    · rw [if_pos h, List.getElem?_eq_getElem h] at hpp
      obtain ⟨tx, hx⟩ := (hvs.get (i := i)).2 _ hpp
      wtm_at "ms"
      refine ite_t (d_t (castlt hii (hpl ▸ Nat.lt_add_right _ h))) ?_
      wtm_at "ms"
      have hx' : vs[ii.toNat]? = some (.str (T pf[i]) tx) := by rw [hii]; exact hx
      with_reducible refine' r_item_list (vs := vs) (n := nn) D ?hm ?hi hx' ?hz ?_ ?hs ?ht; wtm_at "li"
      exact ⟨(d_t h).symm, D⟩
    · have hie : i = pf.length := Nat.le_antisymm hi (Nat.le_of_not_lt h)
      subst hie
      rw [if_neg h, Nat.sub_self] at hpp
      cases r with
      | nil =>
        wtm_at "ms"
        refine ite_f (d_f (castnl hii (Nat.le_of_eq hpl))) ?_
        wtm_at "ms"
        exact ⟨(d_f h).symm, D⟩
      | cons q r =>
        have hx := (hvs.get (i := pf.length)).1 hpp
        wtm_at "ms"
        refine ite_t (d_t (castlt hii (hpl ▸ Nat.lt_add_of_pos_right (Nat.succ_pos _)))) ?_
        wtm_at "ms"
        have hx' : vs[ii.toNat]? = some (.ref st) := by rw [hii]; exact hx
        with_reducible refine' r_item_list (vs := vs) (n := nn) D ?hm ?hi hx' ?hz ?_ ?hs ?ht; wtm_at "li"
        exact ⟨(d_f h).symm, D⟩
  clear D
  obtain ⟨rfl, D⟩ := hb
  refine ite_b (fun h => ?_) (fun h => ?_)
  · have h := of_decide_eq_true h
    rw [if_pos h, List.getElem?_eq_getElem h] at hpp
    obtain ⟨tx, hx⟩ := (hvs.get (i := i)).2 _ hpp
    wtm_at "ms"
    have hx' : vs[ii.toNat]? = some (.str (T pf[i]) tx) := by rw [hii]; exact hx
    with_reducible refine' r_item_list (vs := vs) (n := nn) D ?hm ?hi hx' ?hz ?_ ?hs ?ht; wtm_at "li"
    refine ⟨pf.length - (i + 1), fwd 0 h, i + 1, _, _, _, _, _, _, castk hii 1, rfl, h, ?_, D⟩
    rw [List.take_add_one, List.getElem?_eq_getElem h]; exact hrs.snoc
  · have h := of_decide_eq_false h
    have hie : i = pf.length := Nat.le_antisymm hi (Nat.le_of_not_lt h)
    subst hie
    rw [List.take_length] at hrs
    clear hpp
    wtm_at "ms"
    have hP : (pf.map some ++ tailParts r).drop pf.length = tailParts r := by have := List.drop_left (l₁ := pf.map some) (l₂ := tailParts r); rwa [List.length_map] at this
    generalize hPP : pf.map some ++ tailParts r = P at hvs hP hvl
    as_aux_lemma =>
      refine wpAny_mono (Q := fun f s' => f = .next ∧ ∃ (rs : List Value) (ts : List (List Nat)) (kk : Nat) (ti tn : Tok) (vf : Option Value), Txts rs ts ∧ ts.flatten = pf.flatten ++ tT r ∧ rs.length ≤ 100000 ∧
        St B g env (jV l st R ad vs.length ti vs.length tn vf) s' [(ad, bnd R), (R, Lo rs kk)]) ?_ (fun f s hf => ?_) fun _ _ x => x
      · refine m_while (J2b B g env l st R ad vs P pf r) (vs.length - pf.length) ?_ ?_
        · exact ⟨pf.length, r, pf, rs, _, _, _, _, _, hii, rfl, by omega, hP, hrs, rfl, hmid, by omega, D⟩
        clear D hrs hi0 hrz0 hii hP hrl rs ii ti tn vf hmid
        rintro m s ⟨i, r', ts, rs, kk, ii, ti, tn, vf, hii, rfl, hi, hP, hrs, hts, hmid, hrz, D⟩
        intro Q1 hQ1
        have hPl := gdrop_len hP (hvl ▸ hi)
        have hi0 := cast0 hii
        have hi1 : 0 ≤ ii + 1 := Int.le_add_one hi0
        have hrz2 := b2 hrz hi hn
        have hrz1 : rs.length + 1 ≤ 16777216 := Nat.le_trans (Nat.le_of_succ_le hrz2) (by decide)
        have hrz0 : rs.length ≤ 16777216 := Nat.le_of_succ_le hrz1
        have hsz := fun x : Value => snoc16 (α := Value) hrz1 x
        wtm_at "ms"
        refine ite_b (fun h => ?_) (fun h => ?_)
        · have hlt : i < vs.length := lt_of_cast hii h
          cases r' with
          | nil => exact absurd (hvl.trans hPl).symm (Nat.ne_of_lt hlt)
          | cons q r' =>
          have hx : vs[i]? = some (.ref st) := (hvs.get (i := i)).1 (gdrop_at hP)
          have hx' : vs[ii.toNat]? = some (.ref st) := by rw [hii]; exact hx
          wtm_at "ms"
          with_reducible refine' r_item_list (vs := vs) (n := nn) D ?hm ?hi hx' ?hz ?_ ?hs ?ht; wtm_at "li"
          have hP1 := gdrop_more hP
          have hPl1 := gdrop_len hP1 (hvl ▸ hlt)
          rw [List.length_append, List.length_map] at hPl1
          refine ite_b (fun h2 => ?_) (fun h2 => ?_)
          · have h2' : i + 1 = vs.length := by have := eq_of_beq h2; rw [hii] at this; exact Int.ofNat.inj this
            have hq0 : q = [] := by cases q with | nil => rfl | cons a b => exact (nz2 h2' (hvl.trans hPl1)).elim
            have hr0 : r' = [] := by cases r' with | nil => rfl | cons a b => exact (nz3 (k := (a.map some ++ tailParts b).length) h2' (hvl.trans hPl1)).elim
            subst hq0 hr0
            wtm_at "ms"
            rw [show ii + 1 = (vs.length : Int) from h2' ▸ castk hii 1] at D
            exact ⟨rfl, _, ts ++ [[46, 42]], _, _, _, _, hrs.snoc, by rw [← hts]; simp [tT], by simp; omega, D⟩
          · have h2' : i + 1 ≠ vs.length := fun e => by rw [← e, hii] at h2; simp at h2
            have hq : q ≠ [] := by
              intro e
              subst e
              cases r' with
              | nil => exact (h2' (hvl.trans hPl1).symm).elim
              | cons a b => exact hmid [] (by simp) rfl
            obtain ⟨x0, q0, rfl⟩ := List.exists_cons_of_ne_nil hq
            have hx0 := (hvs.get (i := i + 1)).2 x0 (gdrop_at hP1)
            obtain ⟨tx0, hx0⟩ := hx0
            have hx0' : vs[(ii + 1).toNat]? = some (.str (T x0) tx0) := by rw [hii]; exact hx0
            wtm_at "ms"
            with_reducible refine' r_item_list (vs := vs) (n := nn) D ?hm ?hi hx0' ?hz ?_ ?hs ?ht; wtm_at "li"
            refine r_newlist D (by decide) ?_; wtm_at "nl"; intro F s hFB D; wtm_at "ms"
            generalize hqq : x0 :: q0 = q at *
            clear hx0 hx0' hqq
            as_aux_lemma =>
              refine m_while (J2c B g env l st R ad F vs rs kk i q) q.length ?_ ?_
              · exact ⟨0, [], 0, _, _, _, by omega, rfl, Nat.zero_le _, .nil, D⟩
              clear D
              rintro m s ⟨j, fs, kf, ij, tj, tn, hij, rfl, hj, hfs, D⟩
              intro Q2 hQ2
              have hfl := hfs.len
              rw [List.length_take] at hfl
              have hfz : fs.length ≤ 16777216 := hfl ▸ Nat.le_trans (Nat.min_le_right _ _) (Nat.le_trans (Nat.le_trans (Nat.le_add_left _ _) (leq3 hvl hPl1)) hvz)
              have hj0 : 0 ≤ ij := cast0 (i := i + 1 + j) hij
              refine wpAny_mono (Q := fun b s' => b = decide (j < q.length) ∧ St B g env (jV l st R ad ij tj vs.length tn (some (.ref F))) s' [(F, Lo fs kf), (ad, bnd R), (R, Lo rs kk)]) ?_ (fun b s hb => ?_) fun _ _ x => x
              · by_cases h : j < q.length
                · have hpp := gdrop_mid hP1 (j := j) (by rw [List.length_map]; exact h)
                  rw [List.getElem_map] at hpp
                  obtain ⟨tx, hx⟩ := (hvs.get (i := i + 1 + j)).2 _ hpp
                  have hx' : vs[ij.toNat]? = some (.str (T q[j]) tx) := by rw [hij]; exact hx
                  wtm_at "ms"
                  refine ite_t (d_t (castlt (i := i + 1 + j) hij (lt3' hvl hPl1 h))) ?_
                  wtm_at "ms"
                  with_reducible refine' r_item_list (vs := vs) (n := nn) D ?hm ?hi hx' ?hz ?_ ?hs ?ht; wtm_at "li"
                  exact ⟨(d_t h).symm, D⟩
                · have hje : j = q.length := Nat.le_antisymm hj (Nat.le_of_not_lt h)
                  cases r' with
                  | nil =>
                    wtm_at "ms"
                    refine ite_f (d_f (castnl (i := i + 1 + j) hij (Nat.le_of_eq (hje ▸ hvl.trans hPl1)))) ?_
                    wtm_at "ms"
                    exact ⟨(d_f h).symm, D⟩
                  | cons q2 r2 =>
                    have hP2 := gdrop_app hP1
                    rw [List.length_map, ← hje] at hP2
                    have hx := (hvs.get (i := i + 1 + j)).1 (gdrop_at hP2)
                    have hx' : vs[ij.toNat]? = some (.ref st) := by rw [hij]; exact hx
                    wtm_at "ms"
                    refine ite_t (d_t (castlt (i := i + 1 + j) hij (hje ▸ lt3'' hvl hPl1))) ?_
                    wtm_at "ms"
                    with_reducible refine' r_item_list (vs := vs) (n := nn) D ?hm ?hi hx' ?hz ?_ ?hs ?ht; wtm_at "li"
                    exact ⟨(d_f h).symm, D⟩
              clear D
              obtain ⟨rfl, D⟩ := hb
              refine ite_b (fun h => ?_) (fun h => ?_)
              · have h := of_decide_eq_true h
                have hpp := gdrop_mid hP1 (j := j) (by rw [List.length_map]; exact h)
                rw [List.getElem_map] at hpp
                obtain ⟨tx, hx⟩ := (hvs.get (i := i + 1 + j)).2 _ hpp
                have hx' : vs[ij.toNat]? = some (.str (T q[j]) tx) := by rw [hij]; exact hx
                wtm_at "ms"
                with_reducible refine' r_item_list (vs := vs) (n := nn) D ?hm ?hi hx' ?hz ?_ ?hs ?ht; wtm_at "li"
                refine ⟨q.length - (j + 1), fwd 0 h, j + 1, _, _, _, _, _, (by rw [hij]; rfl), rfl, h, ?_, D⟩
                rw [List.take_add_one, List.getElem?_eq_getElem h]; exact hfs.snoc
              · have h := of_decide_eq_false h
                have hje : j = q.length := Nat.le_antisymm hj (Nat.le_of_not_lt h)
                subst hje
                rw [List.take_length] at hfs
                have hqf : q.flatten.length ≤ 10000 := by
                  have h1 := congrArg List.length hts
                  rw [List.length_append] at h1
                  have h2 : q.flatten.length ≤ (tT (q :: r')).length := by cases r' <;> simp [tT] <;> omega
                  omega
                have hql : 1 ≤ q.length := by cases q with | nil => exact absurd rfl hq | cons a b => simp
                wtm_at "ms"
                cases r' with
                | nil =>
                  have hn1 : i + 1 + q.length = vs.length := (hvl.trans hPl1).symm
                  refine ite_t (by rw [hij, ← hn1]; exact beq_self_eq_true _) ?_
                  wtm_at "ms"
                  replace D := D.drop (List.sublist_cons_self _ _)
                  have hij' : ij = ((i + 1 + q.length : Nat) : Int) := hij
                  have e1 : P.drop (i + 1 + q.length) = tailParts [] := by have := gdrop_app hP1; rw [List.length_map] at this; exact this
                  have e2 : (ts ++ [[46, 42]] ++ [q.flatten]).flatten ++ tT [] = pf.flatten ++ tT r := by rw [← hts]; simp [tT]
                  refine ⟨_, ?_, i + 1 + q.length, [], ts ++ [[46, 42]] ++ [q.flatten], _, _, _, _, _, _, hij', rfl, ?_, e1, ?_, e2, ?_, ?_, D⟩
                  · exact fwd1 _ hlt
                  · exact Nat.le_of_eq hn1
                  · exact hrs.snoc.snoc
                  · exact fun q hq => nomatch hq
                  · rw [List.length_append, List.length_append]; exact r2le hrz hql
                | cons q2 r2 =>
                  have hn1 : i + 1 + q.length ≠ vs.length := ne3 hvl hPl1
                  refine ite_f (by rw [hij, Bool.eq_false_iff]; intro e; exact hn1 (Int.ofNat.inj (eq_of_beq e))) ?_
                  wtm_at "ms"
                  replace D := D.drop (List.sublist_cons_self _ _)
                  have hij' : ij = ((i + 1 + q.length : Nat) : Int) := hij
                  have e1 : P.drop (i + 1 + q.length) = tailParts (q2 :: r2) := by have := gdrop_app hP1; rw [List.length_map] at this; exact this
                  have e2 : (ts ++ [[] ++ [40, 63, 62, 46, 42, 63] ++ q.flatten ++ [41]]).flatten ++ tT (q2 :: r2) = pf.flatten ++ tT r := by rw [← hts]; simp [tT]
                  refine ⟨_, ?_, i + 1 + q.length, q2 :: r2, ts ++ [[] ++ [40, 63, 62, 46, 42, 63] ++ q.flatten ++ [41]], _, _, _, _, _, _, hij', rfl, ?_, e1, ?_, e2, ?_, ?_, D⟩
                  · exact fwd1 _ hlt
                  · exact leq3 hvl hPl1
                  · exact hrs.snoc
                  · exact fun x hx => hmid x (by simp; exact .inr hx)
                  · rw [List.length_append]; exact Nat.le_of_succ_le (r2le hrz hql)
        · have hlt : i = vs.length := Nat.le_antisymm hi (ge_of_cast hii h)
          cases r' with
          | cons q r' => exact (nz1 (t := (q.map some ++ tailParts r').length) hlt (hvl.trans hPl)).elim
          | nil =>
          rw [hlt] at hii
          subst hii
          wtm_at "ms"
          exact ⟨rfl, rs, ts, _, _, _, _, hrs, by rw [← hts]; simp [tT], by omega, D⟩
      · clear D
        obtain ⟨rfl, rs, ts, kk, ti, tn, vf, hrs, hts, hrz, D⟩ := hf
        have hfl : ts.flatten.length ≤ 10000 := by rw [hts]; exact hb
        wtm_at "ms"
        refine ite_t (beq_self_eq_true _) ?_
        wtm_at "ms"
        rw [← hts] at k
        exact D.leaveN (news' := []) (List.nil_sublist _) (fun p hp => nomatch hp) hs0 (post := fun v own => ∃ t, v = .str (T ([40, 63, 115, 58] ++ ts.flatten ++ [41, 92, 90])) t ∧ own = []) ⟨_, rfl, rfl⟩ k

end
section
/-! ## _translate -/
noncomputable def tokT : Option Nat → List Nat
  | none => [42]
  | some c => barred c
noncomputable def patT (p : List (Option Nat)) : List Nat := p.flatMap tokT
noncomputable def stepP (acc : List (Option (List Nat))) : Option Nat → List (Option (List Nat))
  | none => if acc.getLast? = some none then acc else acc ++ [none]
  | some c => acc ++ [some (eS c)]
noncomputable def partsOf (p : List (Option Nat)) : List (Option (List Nat)) := p.foldl stepP []
noncomputable def GoodC (c : Nat) : Prop := c = 42 ∨ c = 63 ∨ c = 91 ∨ ((c = 92 ∨ c = 32 ∨ c ∉ special) ∧ c ≠ 42 ∧ c ≠ 63 ∧ c ≠ 91)
noncomputable abbrev lamPos : Pos := { line := 67, col := 39, endLine := 67, endCol := 76 }
noncomputable abbrev tV (pt : List Nat) (t0 : Tok) (st : Addr) (t1 : Tok) (R ad : Addr) (i : Int) (ti : Tok) (n : Int) (tn : Tok) (vc vj vs : Option Value) : Vals :=
  [(Str.ofString "pat", some (.str (T pt) t0)), (Str.ofString "STAR", some (.ref st)), (Str.ofString "QUESTION_MARK", some (.str (T [46]) t1)), (Str.ofString "res", some (.ref R)), (Str.ofString "add", some (.ref ad)), (Str.ofString "i", some (.int i ti)), (Str.ofString "n", some (.int n tn)), (Str.ofString "c", vc), (Str.ofString "j", vj), (Str.ofString "stuff", vs), (Str.ofString "chunks", none), (Str.ofString "k", none), (Str.ofString "chunk", none)]
theorem Parts.last {S : Addr} {vs : List Value} {ls : List (Option (List Nat))} (h : Parts S vs ls) (hne : ls ≠ []) : ∃ vs' ls' v l, vs = vs' ++ [v] ∧ ls = ls' ++ [l] ∧ Parts S vs' ls' ∧ ((l = none ∧ v = .ref S) ∨ ∃ x t, l = some x ∧ v = .str (T x) t) := by
  induction h with
  | nil => exact absurd rfl hne
  | @star vs ls h ih =>
    by_cases e : ls = []
    · subst e
      obtain rfl : vs = [] := List.eq_nil_of_length_eq_zero h.len
      exact ⟨[], [], _, _, rfl, rfl, .nil, .inl ⟨rfl, rfl⟩⟩
    · obtain ⟨vs', ls', v, l, rfl, rfl, h', o⟩ := ih e
      exact ⟨_ :: vs', _ :: ls', v, l, rfl, rfl, .star h', o⟩
  | @text l t vs ls h ih =>
    by_cases e : ls = []
    · subst e
      obtain rfl : vs = [] := List.eq_nil_of_length_eq_zero h.len
      exact ⟨[], [], _, _, rfl, rfl, .nil, .inr ⟨l, t, rfl, rfl⟩⟩
    · obtain ⟨vs', ls', v, l', rfl, rfl, h', o⟩ := ih e
      exact ⟨_ :: vs', _ :: ls', v, l', rfl, rfl, .text h', o⟩
theorem partsOf_snoc (d : List (Option Nat)) (t : Option Nat) : partsOf (d ++ [t]) = stepP (partsOf d) t := by unfold partsOf; rw [List.foldl_append]; rfl
inductive T3b (B : Shared) (g : Heap) (env : Env) (p : List (Option Nat)) (t0 : Tok) (st : Addr) (t1 : Tok) (R' ad : Addr) (vs : List Value) (kk : Nat) (ps : Array Value) (i : Nat) (ii : Int) (m : Nat) (s : Shared) : Prop
  | mk (jn : Nat) (jj : Int) (tj ti tn : Tok) (vc vst : Option Value)
    (h1 : (jn = i + 1 ∨ jn = i + 2)) (h2 : jj = jn) (h3 : m = i + 2 - jn) (h4 : St B g env (tV (patT p) t0 st t1 R' ad (ii + 1) ti (patT p).length tn vc (some (.int jj tj)) vst) s [(ad, bnd R'), (R', Lo vs kk), (70, tabObj ps)]) : T3b B g env p t0 st t1 R' ad vs kk ps i ii m s
inductive T3a (B : Shared) (g : Heap) (env : Env) (p : List (Option Nat)) (t0 : Tok) (st : Addr) (t1 : Tok) (R' ad : Addr) (m : Nat) (s : Shared) : Prop
  | mk (i : Nat) (done rest : List (Option Nat)) (vs : List Value) (kk : Nat) (ii : Int) (ti tn : Tok) (ps : Array Value) (vc vj vst : Option Value)
    (h1 : ii = i) (h2 : m = (patT p).length - i) (h3 : i ≤ (patT p).length) (h4 : p = done ++ rest) (h5 : (patT p).drop i = patT rest) (h6 : Parts st vs (partsOf done)) (h7 : Tab lamPos ps) (h8 : vs.length ≤ i) (h9 : St B g env (tV (patT p) t0 st t1 R' ad ii ti (patT p).length tn vc vj vst) s [(ad, bnd R'), (R', Lo vs kk), (70, tabObj ps)]) : T3a B g env p t0 st t1 R' ad m s
theorem tTrans (w : World) (st : Addr) (p : List (Option Nat)) (hgood : ∀ c, some c ∈ p → GoodC c) (hb : (patT p).length ≤ 10000) (t0 t1 : Tok) :
    FnT (Mine.hz.heap_1_39 w.params) PySem.Challenge.pw_kt0083_01 w 6 70 lamPos (.ref 75) [.str (T (patT p)) t0, .ref st, .str (T [46]) t1] []
      (fun v own => ∃ a vs k, v = .ref a ∧ own = [(a, Lo vs k)] ∧ Parts st vs (partsOf p)) := by
  intro A s g R ps hTab S hA O hr k
  have hs0 : g.objs.size ≤ s.heap.objs.size := O.size
  refine' enterCQ (binds := [(Str.ofString "pat", .str (T (patT p)) t0), (Str.ofString "STAR", .ref st), (Str.ofString "QUESTION_MARK", .str (T [46]) t1)]) (more := [Str.ofString "res", Str.ofString "add", Str.ofString "i", Str.ofString "n", Str.ofString "c", Str.ofString "j", Str.ofString "stuff", Str.ofString "chunks", Str.ofString "k", Str.ofString "chunk"])
    (gl := [(Str.ofString "len", .builtin "len"), (Str.ofString "_twin_re_1", .ref 49), (Str.ofString "escape", .ref 68)]) S O hA ?h1 ?h2 ?h3 ?h4 ?h5 ?_
  case h1 => k_is
  case h2 => k_is
  case h3 => exact BindsTo.of_eq rfl
  case h4 => kernel_rfl
  case h5 => kernel_rfl
  intro env A' s1 hA' hcd H D Q0 hQ0
  replace D : St s g env [(Str.ofString "pat", some (.str (T (patT p)) t0)), (Str.ofString "STAR", some (.ref st)), (Str.ofString "QUESTION_MARK", some (.str (T [46]) t1)), (Str.ofString "res", none), (Str.ofString "add", none), (Str.ofString "i", none), (Str.ofString "n", none), (Str.ofString "c", none), (Str.ofString "j", none), (Str.ofString "stuff", none), (Str.ofString "chunks", none), (Str.ofString "k", none), (Str.ofString "chunk", none)] s1 [(70, tabObj ps)] := D
  generalize s = B at D k hs0 O
  clear O
  wtm_at "ms"
  refine r_newlist D (by decide) ?_; wtm_at "nl"; intro R' s hRB D; wtm_at "ms"
  have hz : (patT p).length ≤ 16777216 := Nat.le_trans hb (by decide)
  replace D := D.drop (news' := [(ad, bnd R'), (R', Lo [] 0), (70, tabObj ps)]) (by first | exact List.Sublist.refl _ | simp)
  refine m_while (T3a B g env p t0 st t1 R' ad) (patT p).length ?_ ?_
  · exact ⟨0, [], p, [], 0, 0, _, _, ps, _, _, _, rfl, rfl, Nat.zero_le _, rfl, rfl, .nil, hTab, Nat.le_refl _, D⟩
  clear D hTab ps
  rintro m s ⟨i, done, rest, vs, kk, ii, ti, tn, ps, vc, vj, vst, hii, rfl, hi, hpp, hdr, hvs, hTab, hvz, D⟩
  intro Q' hQ
  wtm_at "ms"
  refine ite_b (fun h => ?_) (fun h => ?_)
  · have hlt : i < (patT p).length := lt_of_cast hii h
    have hvzb : vs.length ≤ 16777216 := le16 (Nat.le_trans hvz hi) (Nat.le_trans hb (by decide))
    clear h
    cases rest with
    | nil => exfalso; have := congrArg List.length hdr; simp [patT] at this; simp [patT] at hlt; omega
    | cons tok rest =>
    cases tok with
    | none =>
      have hRc : (patT p).drop i = 42 :: patT rest := hdr
      wtm_at "ms"
      have hpp' : p = (done ++ [none]) ++ rest := by rw [hpp]; simp
      cases hvs' : partsOf done with
      | nil =>
        rw [hvs'] at hvs
        cases hvs
        refine ite_t (by decide) ?_
        wtm_at "ms"
        refine ⟨_, ?_, i + 1, done ++ [none], rest, _, _, _, _, _, ps, _, _, _, ?_, rfl, hlt, hpp', drop_more hRc, ?_, hTab, ?_, D⟩
        · exact fwd 0 hlt
        · exact castk hii 1
        · rw [partsOf_snoc, hvs']; exact .star .nil
        · simp
      | cons l0 lr =>
        obtain ⟨vs', ls', v, l, rfl, els, h', ho⟩ := hvs.last (by rw [hvs']; exact List.cons_ne_nil _ _)
        have hvn : vs' ++ [v] ≠ [] := by simp
        have hvz' : vs'.length ≤ 16777216 := by simp at hvz; omega
        refine ite_f (by rw [d_f hvn]; rfl) ?_
        rcases ho with ⟨rfl, rfl⟩ | ⟨x, tx, rfl, rfl⟩
        · wtm_at "ms"
          refine ⟨_, ?_, i + 1, done ++ [none], rest, _, _, _, _, _, ps, _, _, _, ?_, rfl, hlt, hpp', drop_more hRc, ?_, hTab, ?_, D⟩
          · exact fwd 0 hlt
          · exact castk hii 1
          · rw [partsOf_snoc, els, stepP, if_pos (by simp)]; rw [← els]; exact hvs
          · exact Nat.le_succ_of_le hvz
        · wtm_at "ms"
          refine ⟨_, ?_, i + 1, done ++ [none], rest, _, _, _, _, _, ps, _, _, _, ?_, rfl, hlt, hpp', drop_more hRc, ?_, hTab, ?_, D⟩
          · exact fwd 0 hlt
          · exact castk hii 1
          · rw [partsOf_snoc, els, stepP, if_neg (by simp)]; rw [← els]; exact hvs.snocS
          · simp at hvz ⊢; omega
    | some c =>
      have hpp' : p = (done ++ [some c]) ++ rest := by rw [hpp]; simp
      have hgc : (c = 42 ∨ c = 63 ∨ c = 91) ∨ ((c = 92 ∨ c = 32 ∨ c ∉ special) ∧ c ≠ 42 ∧ c ≠ 63 ∧ c ≠ 91) := by
        rcases hgood c (by rw [hpp]; simp) with h | h | h | h
        · exact .inl (.inl h)
        · exact .inl (.inr (.inl h))
        · exact .inl (.inr (.inr h))
        · exact .inr h
      rcases hgc with hc | ⟨hc1, hc42, hc63, hc91⟩
      · have hbc : barred c = [91, c, 93] := by unfold barred; rw [if_pos (by simp; omega)]
        have htw : quietRun (Builtin.Re.reRunToEnd (Sre.forSearch twinCode #[c] 1 0 1 false)) = some none := by
          rcases hc with rfl | rfl | rfl
          · exact twin42
          · exact twin63
          · exact twin91
        have hn33 : c ≠ 33 := lt3 (P := (· ≠ 33)) hc (by decide) (by decide) (by decide)
        have hn93 : c ≠ 93 := lt3 (P := (· ≠ 93)) hc (by decide) (by decide) (by decide)
        have hn45 : c ≠ 45 := lt3 (P := (· ≠ 45)) hc (by decide) (by decide) (by decide)
        have hn94 : c ≠ 94 := lt3 (P := (· ≠ 94)) hc (by decide) (by decide) (by decide)
        have hn92 : c ≠ 92 := lt3 (P := (· ≠ 92)) hc (by decide) (by decide) (by decide)
        have hRc : (patT p).drop i = 91 :: c :: 93 :: patT rest := by rw [hdr]; show barred c ++ _ = _; rw [hbc]; rfl
        have hRd := drop_more hRc
        have hRe := drop_more hRd
        have hl1 := drop_lt hRd
        have hl2 := drop_lt hRe
        have hP : PatAt g 49 := patOk_at S.X (show patOk (Mine.hz.heap_1_39 w.params) 49 48 = true by kernel_rfl)
        wtm_at "ms"
        refine ite_t (d_t (by omega)) ?_
        wtm_at "ms"
        refine ite_f (d_f (by simp [hn33])) ?_
        wtm_at "ms"
        refine ite_t (d_t (by omega)) ?_
        wtm_at "ms"
        refine ite_f (d_f (by simp [hn93])) ?_
        wtm_at "ms"
        refine m_while (T3b B g env p t0 st t1 R' ad vs kk ps i ii) 1 ?_ ?_
        · exact ⟨i + 1, _, _, _, _, _, _, .inl rfl, castk hii 1, (Nat.add_sub_add_left i 2 1).symm, D⟩
        clear D
        rintro m s ⟨jn, jj, tj, ti, tn, vc, vst, hjn, hjj, rfl, D⟩
        intro Q1 hQ1
        wtm_at "ms"
        refine ite_t (d_t (by omega)) ?_
        rcases hjn with rfl | rfl
        · wtm_at "ms"
          refine ite_t (nd_t (by simp [hn93])) ?_
          wtm_at "ms"
          exact ⟨_, Nat.lt_of_lt_of_eq (Nat.lt_of_le_of_lt (Nat.le_of_eq (Nat.sub_self _)) Nat.one_pos) (Nat.add_sub_add_left i 2 1).symm, i + 2, _, _, _, _, _, _, .inr rfl, castk hjj 1, rfl, D⟩
        · wtm_at "ms"
          refine ite_f (d_f (by omega)) ?_
          wtm_at "ms"
          with_reducible refine' q_slice_ak D (i + 1) 1 hRd ?hi ?hj ?hb hz ?_ ?hs ?ht; wtm_at "sl"
          refine ite_t (nd_t (by simp; omega)) ?_
          have htk : (c :: 93 :: patT rest).take 1 = [c] := rfl
          rw [htk] at D
          wtm_at "ms"
          have hsub : sub1 92 [92, 92] [c] = [c] := sub1_free (by simpa using hn92.symm)
          rw [hsub] at D
          refine gm_sub (hP.keeps D.keep) ?_
          wtm_at "ms"
          refine r_lambda (f := fun ps' => [(ad, bnd R'), (R', Lo vs kk), (70, tabObj ps')]) S D H.glo hcd (show codeHdIn (Mine.hz.heap_1_39 w.params) 74 70 = true by kernel_rfl) hTab (fun ps' => .tail (.tail .head)) ?_ ?_ ?_
          · rfl
          · rfl
          wtm_at "nl"
          clear hTab
          intro x fo ps' s hTab hfo hxB D
          wtm_at "ms"
          refine sub_one (hP.keeps D.keep) (D.get List.mem_cons_self) hfo htw fun t s' hx => ?_
          replace D := (D.ext hx).drop (List.sublist_cons_self _ _)
          clear hx
          wtm_at "ms"
          have h1l : ([c] : List Nat).length ≤ 16777216 := by simp
          have h1i : ([c] : List Nat)[(0 : Int).toNat]? = some c := rfl
          refine ite_f (d_f (by simp [hn33])) ?_
          wtm_at "ms"
          with_reducible refine' q_item (c := c) D ?hi h1i h1l ?_ ?hs ?ht; wtm_at "it"
          refine ite_f (d_f (by simp [hn33])) ?_
          wtm_at "ms"
          with_reducible refine' q_item (c := c) D ?hi h1i h1l ?_ ?hs ?ht; wtm_at "it"
          have hbl : (patT p).drop (i + 3) = patT rest := drop_more hRe
          refine ite_b (fun h91 => ?_) (fun h91 => ?_)
          · have hc91 : c = 91 := by have := of_decide_eq_true h91; simp at this; exact this.resolve_left hn94
            wtm_at "ms"
            have hee : eS c = [] ++ [91] ++ ([92] ++ [c]) ++ [93] := by subst hc91; rfl
            refine ⟨_, ?_, i + 3, done ++ [some c], rest, _, _, _, _, _, ps', _, _, _, ?_, rfl, ?_, hpp', hbl, ?_, hTab, ?_, D⟩
            · exact fwd 2 hlt
            · exact castk hjj 1
            · exact drop_lt hRe
            · rw [partsOf_snoc, stepP, hee]; exact hvs.snocT
            · exact app1_le hvz 2
          · have hc91 : c ≠ 91 := by have := of_decide_eq_false h91; simp at this; exact this.2
            wtm_at "ms"
            have hee : eS c = [] ++ [91] ++ [c] ++ [93] := by unfold eS; rw [if_neg hc91, if_pos (hc.elim .inl fun q => q.elim .inr fun q => absurd q hc91)]; rfl
            refine ⟨_, ?_, i + 3, done ++ [some c], rest, _, _, _, _, _, ps', _, _, _, ?_, rfl, ?_, hpp', hbl, ?_, hTab, ?_, D⟩
            · exact fwd 2 hlt
            · exact castk hjj 1
            · exact drop_lt hRe
            · rw [partsOf_snoc, stepP, hee]; exact hvs.snocT
            · exact app1_le hvz 2
      · have hbc : barred c = [c] := by unfold barred; rw [if_neg (by simp [hc42, hc63, hc91])]
        have hec : eS c = escS c := by unfold eS escS; rw [if_neg hc91, if_neg (fun q => q.elim hc42 hc63)]
        have hRc : (patT p).drop i = c :: patT rest := by rw [hdr]; show barred c ++ _ = _; rw [hbc]; rfl
        wtm_at "ms"
        refine ite_f (d_f (by simp [hc42])) ?_
        wtm_at "ms"
        refine ite_f (d_f (by simp [hc63])) ?_
        wtm_at "ms"
        refine ite_f (d_f (by simp [hc91])) ?_
        wtm_at "ms"
        refine use0 (tEscape w c hc1 _) S (hA'.less (by decide)) D fun v own' s0 hp D => ?_
        obtain ⟨tt, rfl, rfl⟩ := hp
        replace D := D.drop (List.Sublist.refl [(ad, bnd R'), (R', Lo vs kk), (70, tabObj ps)])
        wtm_at "ms"
        refine ⟨_, ?_, i + 1, done ++ [some c], rest, _, _, _, _, _, ps, _, _, _, ?_, rfl, hlt, hpp', drop_more hRc, ?_, hTab, ?_, D⟩
        · exact fwd 0 hlt
        · exact castk hii 1
        · rw [partsOf_snoc, stepP, hec]; exact hvs.snocT
        · exact app1_le hvz 0
  · have hend : i = (patT p).length := by have := of_decide_eq_false h; omega
    have hre : rest = [] := by
      cases rest with
      | nil => rfl
      | cons a r =>
        exfalso
        have h0 := congrArg List.length hdr
        have : 1 ≤ (tokT a).length := by cases a with | none => simp [tokT] | some c => simp only [tokT, barred]; split <;> simp
        simp [patT] at h0
        simp [patT] at hend
        omega
    subst hre
    rw [List.append_nil] at hpp
    subst hpp
    wtm_at "ms"
    refine ite_t (by rw [hii, hend]; exact beq_self_eq_true _) ?_
    wtm_at "ms"
    refine D.leaveT (nw := [(R', Lo vs kk)]) (List.sublist_cons_self _ _) (fun x hx => ?_) hs0 hTab ⟨_, _, _, rfl, rfl, hvs⟩ k
    rw [List.mem_singleton.mp hx]; exact hRB

end
section
theorem tTranslate (w : World) (p : List (Option Nat)) (hgood : ∀ c, some c ∈ p → GoodC c) (hb : (patT p).length ≤ 3000) (t0 : Tok) (pf : List (List Nat)) (r : List (List (List Nat))) (hpf : partsOf p = pf.map some ++ tailParts r) (hmid : ∀ q ∈ r.dropLast, q ≠ []) (hlen : (pf.flatten ++ tT r).length ≤ 10000) (hpn : (partsOf p).length ≤ 10000) :
    FnT (Mine.hz.heap_1_39 w.params) PySem.Challenge.pw_kt0083_01 w 8 70 lamPos (.ref 56) [.str (T (patT p)) t0] []
      (fun v own => ∃ t, v = .str (T ([40, 63, 115, 58] ++ (pf.flatten ++ tT r) ++ [41, 92, 90])) t ∧ own = []) := by
  intro A s g R ps hTab S hA O hr k
  have hs0 : g.objs.size ≤ s.heap.objs.size := O.size
  refine' enter (binds := [(Str.ofString "pat", .str (T (patT p)) t0)]) (more := [Str.ofString "STAR", Str.ofString "parts"])
    (gl := [(Str.ofString "object", .type "object"), (Str.ofString "_translate", .ref 75), (Str.ofString "_join_translated_parts", .ref 82)]) S O hA ?h1 ?h2 ?h3 ?h4 ?h5 ?_
  case h1 => k_is
  case h2 => k_is
  case h3 => exact BindsTo.of_eq rfl
  case h4 => kernel_rfl
  case h5 => kernel_rfl
  intro env A' s1 hA' H D Q0 hQ0
  replace D : St s g env [(Str.ofString "pat", some (.str (T (patT p)) t0)), (Str.ofString "STAR", none), (Str.ofString "parts", none)] s1 [(70, tabObj ps)] := D
  generalize s = B at D k hs0 O
  clear O
  wtm_at "ms"
  refine callWith_type0 (call_object_0 ?_)
  have hSB : B.heap.objs.size ≤ s1.heap.objs.size := D.up.2
  replace D := D.made obObj
  generalize s1.heap.objs.size = st at D hSB ⊢
  wtm_at "ms"
  refine useT (news := [(st, obObj)]) (tTrans w st p hgood (by omega) _ _) hTab S (hA'.less (by decide)) D (fun p hp => nomatch hp) fun v own' ps2 s0 hp hTab2 hB D => ?_
  obtain ⟨a, vs, kk, rfl, rfl, hparts⟩ := hp
  replace D : St B g env [(Str.ofString "pat", some (.str (T (patT p)) t0)), (Str.ofString "STAR", some (.ref st)), (Str.ofString "parts", none)] s0 [(a, Lo vs kk), (st, obObj), (70, tabObj ps2)] := D
  rw [hpf] at hparts hpn
  wtm_at "ms"
  refine useR (tJoin w a st vs kk pf r hparts hmid hlen (by rw [hparts.len]; exact hpn)) S (hA'.less (by decide)) D (fun p hp => by rw [List.mem_singleton.mp hp]; exact D.get List.mem_cons_self) fun v own' s0 hp hB2 D => ?_
  obtain ⟨t, rfl, rfl⟩ := hp
  refine And.left hQ0 _ _ ?_
  exact D.leaveT (nw := []) (by simp) (fun p hp => nomatch hp) hs0 hTab2 ⟨_, rfl, rfl⟩ k

end
section
/-! ## the pieces of a token list -/
/-- pieces, the last first: a star opens a new piece unless the last of several is empty -/
noncomputable def stepQ (q : List (List Nat)) : Option Nat → List (List Nat)
  | none => match q with
    | [] :: p :: r => [] :: p :: r
    | q => [] :: q
  | some c => match q with
    | [] => [[c]]
    | p :: r => (p ++ [c]) :: r
noncomputable def pcsR (p : List (Option Nat)) : List (List Nat) := p.foldl stepQ [[]]
noncomputable def pcs (p : List (Option Nat)) : List (List Nat) := (pcsR p).reverse
theorem pcsR_snoc (d : List (Option Nat)) (t : Option Nat) : pcsR (d ++ [t]) = stepQ (pcsR d) t := by unfold pcsR; rw [List.foldl_append]; rfl
noncomputable def sg (x : List Nat) : List (Option (List Nat)) := x.map fun c => some (eS c)
noncomputable def frm : List (List Nat) → List (Option (List Nat))
  | [] => []
  | p :: r => (p.map eS).map some ++ tailParts (r.map (·.map eS))
theorem tailParts_snoc (r : List (List (List Nat))) (q : List (List Nat)) : tailParts (r ++ [q]) = tailParts r ++ none :: q.map some := by
  induction r with
  | nil => simp [tailParts]
  | cons a r ih => simp [tailParts, ih]
theorem frm_one (x : List Nat) : frm [x] = sg x := by simp [frm, tailParts, sg]
theorem frm_snoc {l : List (List Nat)} (hl : l ≠ []) (x : List Nat) : frm (l ++ [x]) = frm l ++ none :: sg x := by
  cases l with
  | nil => exact absurd rfl hl
  | cons a r => simp [frm, tailParts_snoc, sg]
theorem sg_snoc (x : List Nat) (c : Nat) : sg (x ++ [c]) = sg x ++ [some (eS c)] := by simp [sg]
structure Inv (acc : List (Option (List Nat))) (q : List (List Nat)) : Prop where
  ne : q ≠ []
  eq : acc = frm q.reverse
  mid : ∀ x ∈ q.tail.dropLast, x ≠ []
theorem sg_last {x : List Nat} : (sg x).getLast? ≠ some none := by
  intro h
  have := List.mem_of_getLast? h
  simp [sg] at this
theorem frm_cons {p : List Nat} {r : List (List Nat)} : frm (p :: r).reverse = if r = [] then sg p else frm r.reverse ++ none :: sg p := by
  rw [List.reverse_cons]
  by_cases h : r = []
  · subst h; simp [frm_one]
  · rw [if_neg h, frm_snoc (by simpa using h)]
theorem Inv.step {acc q} (h : Inv acc q) (t : Option Nat) : Inv (stepP acc t) (stepQ q t) := by
  obtain ⟨ne, rfl, mid⟩ := h
  cases q with
  | nil => exact absurd rfl ne
  | cons p r =>
  cases t with
  | some c =>
    refine ⟨List.cons_ne_nil _ _, ?_, mid⟩
    show frm (p :: r).reverse ++ [some (eS c)] = frm ((p ++ [c]) :: r).reverse
    rw [frm_cons, frm_cons]
    by_cases h : r = []
    · rw [if_pos h, if_pos h, sg_snoc]
    · rw [if_neg h, if_neg h, sg_snoc]; simp
  | none =>
    by_cases hp : p = [] ∧ r ≠ []
    · obtain ⟨rfl, hr⟩ := hp
      obtain ⟨a, b, rfl⟩ := List.exists_cons_of_ne_nil hr
      refine ⟨List.cons_ne_nil _ _, ?_, mid⟩
      show stepP (frm ([] :: a :: b).reverse) none = frm ([] :: a :: b).reverse
      rw [frm_cons, if_neg (by simp), stepP, if_pos (by simp [sg])]
    · have hq : stepQ (p :: r) none = [] :: p :: r := by
        unfold stepQ
        dsimp only
        split
        · rename_i a b e
          injection e with e1 e2
          exact absurd ⟨e1, by rw [e2]; simp⟩ hp
        · rfl
      rw [hq]
      refine ⟨List.cons_ne_nil _ _, ?_, ?_⟩
      · rw [frm_cons (p := []), if_neg (by simp), stepP, if_neg]
        · rfl
        · rw [frm_cons]
          by_cases h : r = []
          · rw [if_pos h]; exact sg_last
          · rw [if_neg h]
            have hp' : p ≠ [] := fun e => hp ⟨e, h⟩
            intro hl
            rw [List.getLast?_append] at hl
            have : (none :: sg p : List (Option (List Nat))).getLast? = (sg p).getLast? := by
              cases p with
              | nil => exact absurd rfl hp'
              | cons a b => simp [sg]
            rw [this] at hl
            cases hs : (sg p).getLast? with
            | none => rw [List.getLast?_eq_none_iff] at hs; simp [sg] at hs; exact hp' hs
            | some v => rw [hs] at hl; simp at hl; subst hl; exact sg_last hs
      · intro x hx
        show x ≠ []
        cases r with
        | nil => simp at hx
        | cons a b =>
          simp only [List.tail_cons] at hx mid
          rw [List.dropLast_cons_of_ne_nil (List.cons_ne_nil _ _)] at hx
          rcases List.mem_cons.mp hx with rfl | hx
          · exact fun e => hp ⟨e, by simp⟩
          · exact mid x hx
theorem Inv.fold : ∀ (p : List (Option Nat)) {acc q}, Inv acc q → Inv (p.foldl stepP acc) (p.foldl stepQ q)
  | [], _, _, h => h
  | t :: p, _, _, h => Inv.fold p (h.step t)
theorem inv_pcs (p : List (Option Nat)) : Inv (partsOf p) (pcsR p) := Inv.fold p ⟨List.cons_ne_nil _ _, by simp [frm_one, sg], by simp⟩
theorem eT_flat (x : List Nat) : (x.map eS).flatten = eT x := by unfold eT; rw [List.flatMap_def]
theorem tT_tail : ∀ r : List (List Nat), tT (r.map (·.map eS)) = trTail r
  | [] => rfl
  | [q] => by show [46, 42] ++ (q.map eS).flatten = _; rw [eT_flat]; rfl
  | m :: q :: r => by
    have ih := tT_tail (q :: r)
    show [40, 63, 62, 46, 42, 63] ++ ((m.map eS).flatten ++ ([41] ++ tT ((q :: r).map (·.map eS)))) = _
    rw [ih, eT_flat, trTail_two]

end
section
theorem tIndex (w : World) (i : Int) (hi : -1099511627776 ≤ i ∧ i ≤ 1099511627776) (x : List Nat) (t0 t1 : Tok) : Fn (Mine.hz.heap_1_39 w.params) PySem.Challenge.pw_kt0083_01 w 3 (.ref 128) [.int i t0, .str (T x) t1] [] (fun v own => ∃ t, v = .int i t ∧ own = []) := by
  intro A s g R S hA O k
  have hs0 : g.objs.size ≤ s.heap.objs.size := O.size
  refine' enter (binds := [(Str.ofString "n", .int i t0), (Str.ofString "what", .str (T x) t1)]) (more := []) (gl := [(Str.ofString "type", .type "type"), (Str.ofString "int", .type "int")]) S O hA ?h1 ?h2 ?h3 ?h4 ?h5 ?_
  case h1 => k_is
  case h2 => k_is
  case h3 => exact BindsTo.of_eq rfl
  case h4 => kernel_rfl
  case h5 => kernel_rfl
  intro env A' s1 hA' H D Q0 hQ0
  replace D : St s g env [(Str.ofString "n", some (.int i t0)), (Str.ofString "what", some (.str (T x) t1))] s1 [] := D
  generalize s = B at D k hs0 O
  clear O
  wtm_at "ms"
  refine ite_f (decide_eq_false (by omega)) ?_
  wtm_at "ms"
  refine ite_f (decide_eq_false (by omega)) ?_
  wtm_at "ms"
  exact D.leave (own := []) (fun _ hp => nomatch hp) hs0 ⟨_, rfl, rfl⟩ k
/-! ## the text stream -/
noncomputable abbrev sioF (l : List Nat) (k : Nat) (t1 t2 t3 : Tok) : Vals := [(Str.ofString "_StringIO__newline", some (.str (T [10]) t1)), (Str.ofString "_StringIO__buf", some (.str (T l) t2)), (Str.ofString "_StringIO__pos", some (.int k t3))]
theorem tCheck (w : World) (x dx : Addr) (es : List DictEntry) (n : Nat) (l : List Nat) (k : Nat) (t1 t2 t3 : Tok) (hF : Has es (sioF l k t1 t2 t3)) :
    Fn (Mine.hz.heap_1_39 w.params) PySem.Challenge.pw_kt0083_01 w 3 (.ref 446) [.ref x] [Ob x 662 dx, Di dx es n] (fun v own => v = .none ∧ own = [Ob x 662 dx, Di dx es n]) := by
  intro A s g R S hA O k
  have hs0 : g.objs.size ≤ s.heap.objs.size := O.size
  refine' enter (binds := [(Str.ofString "self", .ref x)]) (more := []) (gl := []) S O hA ?h1 ?h2 ?h3 ?h4 ?h5 ?_
  case h1 => k_is
  case h2 => k_is
  case h3 => exact BindsTo.of_eq rfl
  case h4 => kernel_rfl
  case h5 => kernel_rfl
  intro env A' s1 hA' H D Q0 hQ0
  replace D : St s g env [(Str.ofString "self", some (.ref x))] s1 [Ob x 662 dx, Di dx es n] := D
  generalize s = B at D k hs0 O
  clear O
  wtm_at "ms"
  wtm_at "ms"
  exact D.leave (own := [Ob x 662 dx, Di dx es n]) (fun p hp => .inl (List.mem_map_of_mem hp)) hs0 ⟨rfl, rfl⟩ k
theorem tRead (w : World) (x dx : Addr) (es : List DictEntry) (n : Nat) (l : List Nat) (j : Nat) (hj : j ≤ l.length) (hl : l.length ≤ 100000) (t0 t1 t2 t3 : Tok) (hF : Has es (sioF l j t1 t2 t3)) :
    Fn (Mine.hz.heap_1_39 w.params) PySem.Challenge.pw_kt0083_01 w 5 (.ref 608) [.ref x, .int 1 t0] [Ob x 662 dx, Di dx es n]
      (fun v own => ∃ t es' n' t3', v = .str (T ((l.drop j).take 1)) t ∧ own = [Ob x 662 dx, Di dx es' n'] ∧ Has es' (sioF l (if j < l.length then j + 1 else j) t1 t2 t3')) := by
  intro A s g R S hA O k
  have hs0 : g.objs.size ≤ s.heap.objs.size := O.size
  refine' enter (binds := [(Str.ofString "self", .ref x), (Str.ofString "size", .int 1 t0)]) (more := [Str.ofString "start", Str.ofString "stop"]) (gl := [(Str.ofString "_index", .ref 128), (Str.ofString "len", .builtin "len")]) S O hA ?h1 ?h2 ?h3 ?h4 ?h5 ?_
  case h1 => k_is
  case h2 => k_is
  case h3 => exact binds_K (S.X.keeps O.keep) rfl (by k_is) rfl rfl rfl
  case h4 => kernel_rfl
  case h5 => kernel_rfl
  intro env A' s1 hA' H D Q0 hQ0
  replace D : St s g env [(Str.ofString "self", some (.ref x)), (Str.ofString "size", some (.int 1 t0)), (Str.ofString "start", none), (Str.ofString "stop", none)] s1 [Ob x 662 dx, Di dx es n] := D
  generalize s = B at D k hs0 O
  clear O
  wtm_at "ms"
  refine use0 (tIndex w 1 (by decide) _ _ _) S (hA'.less (by decide)) D fun v own' s hp D => ?_
  obtain ⟨tt, rfl, rfl⟩ := hp
  replace D : St B g env _ s [Ob x 662 dx, Di dx es n] := D
  wtm_at "ms"
  refine useO (pre := []) (post := []) (tCheck w x dx es n l j t1 t2 t3 hF) S (hA'.less (by decide)) D (fun v own' hp => by rw [hp.2]) fun v own' s hp D => ?_
  obtain ⟨rfl, rfl⟩ := hp
  replace D : St B g env _ s [Ob x 662 dx, Di dx es n] := D
  wtm_at "ms"
  refine ite_b (fun h => ?_) (fun h => ?_)
  · have hj2 : j = l.length := Nat.le_antisymm hj (Int.ofNat_le.mp (of_decide_eq_true h))
    have e1 : (l.drop j).take 1 = [] := by rw [List.drop_eq_nil_of_le (Nat.le_of_eq hj2.symm)]; rfl
    have e2 : (if j < l.length then j + 1 else j) = j := if_neg (Nat.not_lt.mpr (Nat.le_of_eq hj2.symm))
    simp only [e1, e2] at k
    wtm_at "ms"
    exact D.leave (own := [Ob x 662 dx, Di dx es n]) (fun p hp => .inl (List.mem_map_of_mem hp)) hs0 ⟨_, es, n, t3, rfl, rfl, hF⟩ k
  · have hj2 : j < l.length := Nat.lt_of_not_le fun q => of_decide_eq_false h (Int.ofNat_le.mpr q)
    have e2 : (if j < l.length then j + 1 else j) = j + 1 := if_pos hj2
    have e3 : (((l.drop j).take 1) ++ [32]).take ((((l.drop j).take 1) ++ [32]).length - 1) = (l.drop j).take 1 := by simp
    have e5 : ((l.drop j).take 1).length ≤ 1 := List.length_take_le _ _
    simp only [e2] at k
    wtm_at "ms"
    have hz : l.length ≤ 16777216 := Nat.le_trans hl (by decide)
    have e4 : (((l.drop j).take 1) ++ [32]).length ≤ 2 := by rw [List.length_append]; exact Nat.succ_le_succ e5
    have e6 : (((l.drop j).take 1) ++ [32]).length ≤ 16777216 := Nat.le_trans e4 (by decide)
    have e7 : 1 ≤ (((l.drop j).take 1) ++ [32]).length := by rw [List.length_append]; exact Nat.le_add_left 1 _
    refine ite_b (fun h2 => ?_) (fun h2 => ?_)
    · wtm_at "ms"
      refine q_slice_ak D j 1 rfl rfl rfl (Nat.le_of_lt hj2) hz ?_; wtm_at "nx"; wtm_at "ms"
      refine q_slice_butlast (k := 1) D (by decide) e7 e6 ?_; wtm_at "nx"; wtm_at "ms"
      rw [e3]
      exact D.leave (own := [Ob x 662 dx, Di dx _ _]) (fun p hp => .inl (List.mem_map_of_mem hp)) hs0 ⟨_, _, _, _, rfl, rfl, hF⟩ k
    · have hj3 : l.length = j + 1 := by have := of_decide_eq_false h2; omega
      wtm_at "ms"
      refine q_slice_ak D j 1 rfl rfl (by rw [hj3]; rfl) (Nat.le_of_lt hj2) hz ?_; wtm_at "nx"; wtm_at "ms"
      refine q_slice_butlast (k := 1) D (by decide) e7 e6 ?_; wtm_at "nx"; wtm_at "ms"
      rw [e3]
      rw [hj3] at hF
      exact D.leave (own := [Ob x 662 dx, Di dx _ _]) (fun p hp => .inl (List.mem_map_of_mem hp)) hs0 ⟨_, _, _, _, rfl, rfl, hF⟩ k

end
section
/-! ## shlex.read_token -/
noncomputable abbrev lexV (sio d1 d2 : Addr) (W : List Nat) (tk : Nat → Tok) (st tv : Value) : Vals :=
  [(Str.ofString "instream", some (.ref sio)), (Str.ofString "infile", some .none), (Str.ofString "posix", some (.bool true)), (Str.ofString "eof", some .none), (Str.ofString "commenters", some (.str (T []) (tk 0))),
   (Str.ofString "wordchars", some (.str (T W) (tk 1))), (Str.ofString "whitespace", some (.str (T [32, 9, 13, 10]) (tk 2))), (Str.ofString "whitespace_split", some (.bool true)), (Str.ofString "quotes", some (.str (T [39, 34]) (tk 3))),
   (Str.ofString "escape", some (.str (T [92]) (tk 4))), (Str.ofString "escapedquotes", some (.str (T [34]) (tk 5))), (Str.ofString "state", some st), (Str.ofString "pushback", some (.ref d1)), (Str.ofString "lineno", some (.int 1 (tk 6))),
   (Str.ofString "debug", some (.int 0 (tk 7))), (Str.ofString "token", some tv), (Str.ofString "filestack", some (.ref d2)), (Str.ofString "source", some .none), (Str.ofString "_punctuation_chars", some (.str (T []) (tk 8)))]
noncomputable abbrev lexF (sio d1 d2 : Addr) (W : List Nat) (tk : Nat → Tok) (st : Value) (tok : List Nat) (tt : Tok) : Vals := lexV sio d1 d2 W tk st (.str (T tok) tt)
theorem fat_instream {sio d1 d2 : Addr} {W : List Nat} {tk : Nat → Tok} {st tv : Value} : At (lexV sio d1 d2 W tk st tv) (Str.ofString "instream") (.ref sio) := .head
theorem fat_infile {sio d1 d2 : Addr} {W : List Nat} {tk : Nat → Tok} {st tv : Value} : At (lexV sio d1 d2 W tk st tv) (Str.ofString "infile") .none := .tail .head
theorem fat_posix {sio d1 d2 : Addr} {W : List Nat} {tk : Nat → Tok} {st tv : Value} : At (lexV sio d1 d2 W tk st tv) (Str.ofString "posix") (.bool true) := .tail (.tail .head)
theorem fat_eof {sio d1 d2 : Addr} {W : List Nat} {tk : Nat → Tok} {st tv : Value} : At (lexV sio d1 d2 W tk st tv) (Str.ofString "eof") .none := .tail (.tail (.tail .head))
theorem fat_commenters {sio d1 d2 : Addr} {W : List Nat} {tk : Nat → Tok} {st tv : Value} : At (lexV sio d1 d2 W tk st tv) (Str.ofString "commenters") (.str (T []) (tk 0)) := .tail (.tail (.tail (.tail .head)))
theorem fat_wordchars {sio d1 d2 : Addr} {W : List Nat} {tk : Nat → Tok} {st tv : Value} : At (lexV sio d1 d2 W tk st tv) (Str.ofString "wordchars") (.str (T W) (tk 1)) := .tail (.tail (.tail (.tail (.tail .head))))
theorem fat_whitespace {sio d1 d2 : Addr} {W : List Nat} {tk : Nat → Tok} {st tv : Value} : At (lexV sio d1 d2 W tk st tv) (Str.ofString "whitespace") (.str (T [32, 9, 13, 10]) (tk 2)) := .tail (.tail (.tail (.tail (.tail (.tail .head)))))
theorem fat_whitespace_split {sio d1 d2 : Addr} {W : List Nat} {tk : Nat → Tok} {st tv : Value} : At (lexV sio d1 d2 W tk st tv) (Str.ofString "whitespace_split") (.bool true) := .tail (.tail (.tail (.tail (.tail (.tail (.tail .head))))))
theorem fat_quotes {sio d1 d2 : Addr} {W : List Nat} {tk : Nat → Tok} {st tv : Value} : At (lexV sio d1 d2 W tk st tv) (Str.ofString "quotes") (.str (T [39, 34]) (tk 3)) := .tail (.tail (.tail (.tail (.tail (.tail (.tail (.tail .head)))))))
theorem fat_escape {sio d1 d2 : Addr} {W : List Nat} {tk : Nat → Tok} {st tv : Value} : At (lexV sio d1 d2 W tk st tv) (Str.ofString "escape") (.str (T [92]) (tk 4)) := .tail (.tail (.tail (.tail (.tail (.tail (.tail (.tail (.tail .head))))))))
theorem fat_escapedquotes {sio d1 d2 : Addr} {W : List Nat} {tk : Nat → Tok} {st tv : Value} : At (lexV sio d1 d2 W tk st tv) (Str.ofString "escapedquotes") (.str (T [34]) (tk 5)) := .tail (.tail (.tail (.tail (.tail (.tail (.tail (.tail (.tail (.tail .head)))))))))
theorem fat_state {sio d1 d2 : Addr} {W : List Nat} {tk : Nat → Tok} {st tv : Value} : At (lexV sio d1 d2 W tk st tv) (Str.ofString "state") st := .tail (.tail (.tail (.tail (.tail (.tail (.tail (.tail (.tail (.tail (.tail .head))))))))))
theorem fat_pushback {sio d1 d2 : Addr} {W : List Nat} {tk : Nat → Tok} {st tv : Value} : At (lexV sio d1 d2 W tk st tv) (Str.ofString "pushback") (.ref d1) := .tail (.tail (.tail (.tail (.tail (.tail (.tail (.tail (.tail (.tail (.tail (.tail .head)))))))))))
theorem fat_lineno {sio d1 d2 : Addr} {W : List Nat} {tk : Nat → Tok} {st tv : Value} : At (lexV sio d1 d2 W tk st tv) (Str.ofString "lineno") (.int 1 (tk 6)) := .tail (.tail (.tail (.tail (.tail (.tail (.tail (.tail (.tail (.tail (.tail (.tail (.tail .head))))))))))))
theorem fat_debug {sio d1 d2 : Addr} {W : List Nat} {tk : Nat → Tok} {st tv : Value} : At (lexV sio d1 d2 W tk st tv) (Str.ofString "debug") (.int 0 (tk 7)) := .tail (.tail (.tail (.tail (.tail (.tail (.tail (.tail (.tail (.tail (.tail (.tail (.tail (.tail .head)))))))))))))
theorem fat_token {sio d1 d2 : Addr} {W : List Nat} {tk : Nat → Tok} {st tv : Value} : At (lexV sio d1 d2 W tk st tv) (Str.ofString "token") tv := .tail (.tail (.tail (.tail (.tail (.tail (.tail (.tail (.tail (.tail (.tail (.tail (.tail (.tail (.tail .head))))))))))))))
theorem fat_filestack {sio d1 d2 : Addr} {W : List Nat} {tk : Nat → Tok} {st tv : Value} : At (lexV sio d1 d2 W tk st tv) (Str.ofString "filestack") (.ref d2) := .tail (.tail (.tail (.tail (.tail (.tail (.tail (.tail (.tail (.tail (.tail (.tail (.tail (.tail (.tail (.tail .head)))))))))))))))
theorem fat_source {sio d1 d2 : Addr} {W : List Nat} {tk : Nat → Tok} {st tv : Value} : At (lexV sio d1 d2 W tk st tv) (Str.ofString "source") .none := .tail (.tail (.tail (.tail (.tail (.tail (.tail (.tail (.tail (.tail (.tail (.tail (.tail (.tail (.tail (.tail (.tail .head))))))))))))))))
theorem fat_punctuation_chars {sio d1 d2 : Addr} {W : List Nat} {tk : Nat → Tok} {st tv : Value} : At (lexV sio d1 d2 W tk st tv) (Str.ofString "_punctuation_chars") (.str (T []) (tk 8)) := .tail (.tail (.tail (.tail (.tail (.tail (.tail (.tail (.tail (.tail (.tail (.tail (.tail (.tail (.tail (.tail (.tail (.tail .head)))))))))))))))))
theorem fput_state {sio d1 d2 : Addr} {W : List Nat} {tk : Nat → Tok} {st tv : Value} : PutF (Str.ofString "state") (lexV sio d1 d2 W tk st tv) (fun v => lexV sio d1 d2 W tk v tv) := .tail (.tail (.tail (.tail (.tail (.tail (.tail (.tail (.tail (.tail (.tail .head))))))))))
theorem fput_token {sio d1 d2 : Addr} {W : List Nat} {tk : Nat → Tok} {st tv : Value} : PutF (Str.ofString "token") (lexV sio d1 d2 W tk st tv) (fun v => lexV sio d1 d2 W tk st v) := .tail (.tail (.tail (.tail (.tail (.tail (.tail (.tail (.tail (.tail (.tail (.tail (.tail (.tail (.tail .head))))))))))))))
theorem tPunct (w : World) (x dx : Addr) (es : List DictEntry) (n : Nat) (sio d1 d2 : Addr) (W : List Nat) (tk : Nat → Tok) (st : Value) (tok : List Nat) (tt : Tok) (hF : Has es (lexF sio d1 d2 W tk st tok tt)) :
    FnR (Mine.hz.heap_1_39 w.params) PySem.Challenge.pw_kt0083_01 w 3 (.ref 728) [.ref x] [Ob x 797 dx, Di dx es n] (fun v own => v = .str (T []) (tk 8) ∧ own = []) := by
  intro A s g R S hA O hr k
  have hs0 : g.objs.size ≤ s.heap.objs.size := O.size
  have hx1 : g.get? x = some (instObj 797 dx) := hr (Ob x 797 dx) (.head _)
  have hx2 : g.get? dx = some (dictOf es n) := hr (Di dx es n) (.tail _ (.head _))
  refine' enter (binds := [(Str.ofString "self", .ref x)]) (more := []) (gl := []) S O hA ?h1 ?h2 ?h3 ?h4 ?h5 ?_
  case h1 => k_is
  case h2 => k_is
  case h3 => exact BindsTo.of_eq rfl
  case h4 => kernel_rfl
  case h5 => kernel_rfl
  intro env A' s1 hA' H D Q0 hQ0
  replace D : St s g env [(Str.ofString "self", some (.ref x))] s1 [] := D
  generalize s = B at D k hs0 O
  clear O
  wtm_at "ms"
  exact D.leave (own := []) (fun p hp => nomatch hp) hs0 ⟨rfl, rfl⟩ k
section
variable {B : Shared} {g : Heap} {env : Env} {vals vals' : Vals} {s : Shared} {news news' : News'} {A : Around} {E : Value → Shared → Prop} {w : World}
theorem r_punct {x dx : Addr} {es : List DictEntry} {n : Nat} {sio d1 d2 : Addr} {W : List Nat} {tk : Nat → Tok} {st : Value} {tok : List Nat} {tt : Tok} {expr : Bool} {Q : Value → Shared → Prop} (S : Sta (Mine.hz.heap_1_39 w.params) g) (D : St B g env vals s news) (hA : Room A 4)
    (hx : Ob x 797 dx ∈ news) (hd : Di dx es n ∈ news) (hF : Has es (lexF sio d1 d2 W tk st tok tt)) (k : ∀ s', St B g env vals s' news → Q (.str (T []) (tk 8)) s') :
    wpAny (model PySem.Challenge.pw_kt0083_01 w) A (getAttr (.ref x) (Str.ofString "punctuation_chars") expr) Q E s := by
  refine r_prop S D (D.get hx) (D.get hd) (po797 w) fun s' D' => useRc (tPunct w x dx es n sio d1 d2 W tk st tok tt hF) S hA.in1 D' (all_cons (D'.get hx) (all_cons (D'.get hd) all_nil)) fun v own' s2 hp _ D2 => ?_
  obtain ⟨rfl, rfl⟩ := hp
  exact ⟨rfl, k s2 D2⟩
end
/-- the coding of a shell's word -/
noncomputable def e0 (c : Nat) : List Nat := if c = 92 then [92, 92] else if c = 34 then [92, 34] else [c]
theorem e0_len (z : List Nat) : (z.flatMap e0).length ≤ 2 * z.length := by
  induction z with
  | nil => simp
  | cons c r ih =>
    have : (e0 c).length ≤ 2 := by unfold e0; split <;> (try split) <;> simp
    rw [List.flatMap_cons, List.length_append, List.length_cons]; omega
inductive RT (z : List Nat) : List Nat → List Nat → List Nat → Prop
  | start : RT z [32] [] (34 :: (z.flatMap e0 ++ [34]))
  | mid {d zs} : d ++ zs = z → RT z [34] d (zs.flatMap e0 ++ [34])
  | esc {d c zs} : d ++ c :: zs = z → (c = 34 ∨ c = 92) → RT z [92] d (c :: (zs.flatMap e0 ++ [34]))
  | fin : RT z [97] z []
noncomputable abbrev rV (x : Addr) (qv : Bool) (es : List Nat) (t : Tok) (vn vr : Option Value) : Vals := [(Str.ofString "self", some (.ref x)), (Str.ofString "quoted", some (.bool qv)), (Str.ofString "escapedstate", some (.str (T es) t)), (Str.ofString "nextchar", vn), (Str.ofString "result", vr)]
inductive I765 (B : Shared) (g : Heap) (env : Env) (x dx sio sd d1 d2 : Addr) (W L z : List Nat) (tk : Nat → Tok) (t1 t2 : Tok) (m : Nat) (s : Shared) : Prop
  | mk (j : Nat) (st d r : List Nat) (qv : Bool) (eS' : List Nat) (t ts tt t3 : Tok) (vn : Option Value) (es es2 : List DictEntry) (n n2 : Nat)
    (h1 : m = L.length + 1 - j) (h2 : j ≤ L.length) (h3 : L.drop j = r) (h4 : RT z st d r) (h5 : (st = [92] → eS' = [34])) (h6 : (st = [97] → qv = true)) (h7 : d.length ≤ z.length) (h8 : Has es (lexF sio d1 d2 W tk (.str (T st) ts) d tt)) (h9 : Has es2 (sioF L j t1 t2 t3)) (h10 : St B g env (rV x qv eS' t vn none) s [Ob sio 662 sd, Di sd es2 n2, Ob x 797 dx, Di dx es n]) : I765 B g env x dx sio sd d1 d2 W L z tk t1 t2 m s
theorem tTok1 (w : World) (x dx sio sd : Addr) (es es2 : List DictEntry) (n n2 : Nat) (d1 d2 : Addr) (W : List Nat) (tk : Nat → Tok) (ts tt t1 t2 t3 : Tok) (z : List Nat) (hz : z.length ≤ 10000) (hg : ∀ c ∈ z, c ≠ 10) (hW : 34 ∉ W) (hWl : W.length ≤ 10000)
    (hF : Has es (lexF sio d1 d2 W tk (.str (T [32]) ts) [] tt)) (hF2 : Has es2 (sioF (34 :: (z.flatMap e0 ++ [34])) 0 t1 t2 t3)) :
    Fn (Mine.hz.heap_1_39 w.params) PySem.Challenge.pw_kt0083_01 w 8 (.ref 765) [.ref x] [Ob sio 662 sd, Di sd es2 n2, Ob x 797 dx, Di dx es n]
      (fun v own => ∃ t tt' t3' es' n' es2' n2', v = .str (T z) t ∧ own = [Ob sio 662 sd, Di sd es2' n2', Ob x 797 dx, Di dx es' n'] ∧ Has es' (lexF sio d1 d2 W tk .none [] tt') ∧
        Has es2' (sioF (34 :: (z.flatMap e0 ++ [34])) (34 :: (z.flatMap e0 ++ [34])).length t1 t2 t3')) := by
  intro A s g R S hA O k
  have hs0 : g.objs.size ≤ s.heap.objs.size := O.size
  refine' enter (binds := [(Str.ofString "self", .ref x)]) (more := [Str.ofString "quoted", Str.ofString "escapedstate", Str.ofString "nextchar", Str.ofString "result"]) (gl := []) S O hA ?h1 ?h2 ?h3 ?h4 ?h5 ?_
  case h1 => k_is
  case h2 => k_is
  case h3 => exact BindsTo.of_eq rfl
  case h4 => kernel_rfl
  case h5 => kernel_rfl
  intro env A' s1 hA' H D Q0 hQ0
  replace D : St s g env [(Str.ofString "self", some (.ref x)), (Str.ofString "quoted", none), (Str.ofString "escapedstate", none), (Str.ofString "nextchar", none), (Str.ofString "result", none)] s1 [Ob sio 662 sd, Di sd es2 n2, Ob x 797 dx, Di dx es n] := D
  generalize s = B at D k hs0 O
  clear O
  wtm_at "ms"
  have hLl : (34 :: (z.flatMap e0 ++ [34])).length ≤ 2 * z.length + 2 := by have := e0_len z; simp only [List.length_cons, List.length_append, List.length_nil]; omega
  generalize hL : 34 :: (z.flatMap e0 ++ [34]) = L at k hF2 hLl
  as_aux_lemma =>
    refine m_while (I765 B g env x dx sio sd d1 d2 W L z tk t1 t2) (L.length + 1) ?_ ?_
    · exact ⟨0, [32], [], L, false, _, _, _, _, _, _, es, es2, n, n2, rfl, Nat.zero_le _, rfl, hL ▸ .start, (fun q => by cases q), (fun q => by cases q), Nat.zero_le _, hF, hF2, D⟩
    clear D hF hF2
    rintro m s ⟨j, st, d, r, qv, eS', t, ts, tt, t3, vn, es, es2, n, n2, rfl, hj, hr, hrt, heS, hqv, hdl, hF, hF2, D⟩
    intro Q' hQ
    wtm_at "ms"
    with_reducible refine' r_punct S D (hA'.less (by decide)) ?hx ?hd ?hf ?_; wtm_at "pu"
    refine useO (pre := []) (post := [Ob x 797 dx, Di dx es n]) (tRead w sio sd es2 n2 L j hj (by omega) _ t1 t2 t3 hF2) S (hA'.less (by decide)) D (fun v own' hp => by obtain ⟨_, _, _, _, _, e, _⟩ := hp; rw [e]; rfl) fun v own' s hp D => ?_
    obtain ⟨tn, es2, n2, t3, rfl, rfl, hF2⟩ := hp
    replace D : St B g env _ s [Ob sio 662 sd, Di sd es2 n2, Ob x 797 dx, Di dx es n] := D
    rw [hr]
    have hrl : j + r.length = L.length := by rw [← hr, List.length_drop]; omega
    have hnx : ∀ c r', r = c :: r' → (if j < L.length then j + 1 else j) = j + 1 ∧ j + 1 ≤ L.length ∧ L.drop (j + 1) = r' := fun c r' e => by
      rw [e, List.length_cons] at hrl
      exact ⟨if_pos (by omega), by omega, by rw [← List.drop_drop, hr, e]; rfl⟩
    cases hrt with
    | start =>
      obtain ⟨q1, q2, q3⟩ := hnx _ _ rfl
      rw [q1] at hF2
      have e1 : (34 :: (z.flatMap e0 ++ [34])).take 1 = [34] := rfl
      rw [e1]
      clear e1
      wtm_at "ms"
      refine ite_f (d_f hW) ?_
      wtm_at "ms"
      with_reducible refine' r_punct S D (hA'.less (by decide)) ?hx ?hd ?hf ?_; wtm_at "pu"
      exact ⟨L.length + 1 - (j + 1), fwd 0 (Nat.lt_succ_of_le hj), j + 1, [34], [], _, _, _, _, _, _, _, _, _, _, _, _, rfl, q2, q3, .mid rfl, fun q => (by cases q), fun q => (by cases q), Nat.zero_le _, hF, hF2, D⟩
    | mid hd =>
      rename_i zs
      cases zs with
      | nil =>
        obtain ⟨q1, q2, q3⟩ := hnx _ _ rfl
        rw [q1] at hF2
        rw [List.append_nil] at hd
        subst hd
        wtm_at "ms"
        exact ⟨L.length + 1 - (j + 1), fwd 0 (Nat.lt_succ_of_le hj), j + 1, [97], d, [], true, _, _, _, _, _, _, _, _, _, _, rfl, q2, q3, .fin, fun q => (by cases q), fun _ => rfl, hdl, hF, hF2, D⟩
      | cons c zs =>
        by_cases h92 : c = 92
        · subst h92
          obtain ⟨q1, q2, q3⟩ := hnx 92 (92 :: (zs.flatMap e0 ++ [34])) rfl
          rw [q1] at hF2
          have e1 : ((92 :: zs).flatMap e0 ++ [34]).take 1 = [92] := rfl
          rw [e1]
          clear e1
          wtm_at "ms"
          exact ⟨L.length + 1 - (j + 1), fwd 0 (Nat.lt_succ_of_le hj), j + 1, [92], d, _, _, _, _, _, _, _, _, _, _, _, _, rfl, q2, q3, .esc hd (.inr rfl), fun _ => rfl, fun q => (by cases q), hdl, hF, hF2, D⟩
        · by_cases h34 : c = 34
          · subst h34
            obtain ⟨q1, q2, q3⟩ := hnx 92 (34 :: (zs.flatMap e0 ++ [34])) rfl
            rw [q1] at hF2
            have e1 : ((34 :: zs).flatMap e0 ++ [34]).take 1 = [92] := rfl
            rw [e1]
            clear e1
            wtm_at "ms"
            exact ⟨L.length + 1 - (j + 1), fwd 0 (Nat.lt_succ_of_le hj), j + 1, [92], d, _, _, _, _, _, _, _, _, _, _, _, _, rfl, q2, q3, .esc hd (.inl rfl), fun _ => rfl, fun q => (by cases q), hdl, hF, hF2, D⟩
          · have hec : (c :: zs).flatMap e0 ++ [34] = c :: (zs.flatMap e0 ++ [34]) := by rw [List.flatMap_cons, e0, if_neg h92, if_neg h34]; rfl
            have hc10 : c ≠ 10 := hg c (by rw [← hd]; simp)
            obtain ⟨q1, q2, q3⟩ := hnx _ _ hec
            rw [q1] at hF2
            rw [hec]
            have e1 : (c :: (zs.flatMap e0 ++ [34])).take 1 = [c] := rfl
            rw [e1]
            clear e1
            wtm_at "ms"
            refine ite_f (d_f (by simpa using hc10)) ?_
            wtm_at "ms"
            refine ite_f (d_f (by simpa using h34)) ?_
            wtm_at "ms"
            refine ite_f (d_f (by simpa using h92)) ?_
            wtm_at "ms"
            exact ⟨L.length + 1 - (j + 1), fwd 0 (Nat.lt_succ_of_le hj), j + 1, [34], d ++ [c], _, _, _, _, _, _, _, _, _, _, _, _, rfl, q2, q3, .mid (by simpa using hd), fun q => (by cases q), fun q => (by cases q), (by rw [← hd]; simp), hF, hF2, D⟩
    | esc hd hc =>
      rename_i c zs
      obtain ⟨q1, q2, q3⟩ := hnx _ _ rfl
      rw [q1] at hF2
      have e1 : (c :: (zs.flatMap e0 ++ [34])).take 1 = [c] := rfl
      rw [e1]
      clear e1
      have := heS rfl
      subst this
      rcases hc with rfl | rfl
      · wtm_at "ms"
        exact ⟨L.length + 1 - (j + 1), fwd 0 (Nat.lt_succ_of_le hj), j + 1, [34], d ++ [34], _, _, _, _, _, _, _, _, _, _, _, _, rfl, q2, q3, .mid (by simpa using hd), fun q => (by cases q), fun q => (by cases q), (by rw [← hd]; simp), hF, hF2, D⟩
      · wtm_at "ms"
        exact ⟨L.length + 1 - (j + 1), fwd 0 (Nat.lt_succ_of_le hj), j + 1, [34], d ++ [92], _, _, _, _, _, _, _, _, _, _, _, _, rfl, q2, q3, .mid (by simpa using hd), fun q => (by cases q), fun q => (by cases q), (by rw [← hd]; simp), hF, hF2, D⟩
    | fin =>
      have := hqv rfl
      subst this
      rw [List.length_nil, Nat.add_zero] at hrl
      have e2 : (if j < L.length then j + 1 else j) = L.length := by rw [if_neg (by omega)]; exact hrl
      rw [e2] at hF2
      wtm_at "ms"
      refine D.leave (own := [Ob sio 662 sd, Di sd _ _, Ob x 797 dx, Di dx _ _]) (fun p hp => .inl (List.mem_map_of_mem hp)) hs0 ⟨_, _, _, _, _, _, _, rfl, rfl, hF, hF2⟩ k

end
section
noncomputable abbrev Lx (sio sd : Addr) (es2 : List DictEntry) (n2 : Nat) (x dx : Addr) (es : List DictEntry) (n : Nat) : News' := [Ob sio 662 sd, Di sd es2 n2, Ob x 797 dx, Di dx es n]
theorem tTok2 (w : World) (x dx sio sd : Addr) (es es2 : List DictEntry) (n n2 : Nat) (d1 d2 : Addr) (W : List Nat) (tk : Nat → Tok) (tt t1 t2 t3 : Tok) (L : List Nat) (hL : L.length ≤ 50000)
    (hF : Has es (lexF sio d1 d2 W tk .none [] tt)) (hF2 : Has es2 (sioF L L.length t1 t2 t3)) :
    Fn (Mine.hz.heap_1_39 w.params) PySem.Challenge.pw_kt0083_01 w 8 (.ref 765) [.ref x] (Lx sio sd es2 n2 x dx es n)
      (fun v own => ∃ tt' t3' es' n' es2' n2', v = .none ∧ own = Lx sio sd es2' n2' x dx es' n' ∧ Has es' (lexF sio d1 d2 W tk .none [] tt') ∧ Has es2' (sioF L L.length t1 t2 t3')) := by
  intro A s g R S hA O k
  have hs0 : g.objs.size ≤ s.heap.objs.size := O.size
  refine' enter (binds := [(Str.ofString "self", .ref x)]) (more := [Str.ofString "quoted", Str.ofString "escapedstate", Str.ofString "nextchar", Str.ofString "result"]) (gl := []) S O hA ?h1 ?h2 ?h3 ?h4 ?h5 ?_
  case h1 => k_is
  case h2 => k_is
  case h3 => exact BindsTo.of_eq rfl
  case h4 => kernel_rfl
  case h5 => kernel_rfl
  intro env A' s1 hA' H D Q0 hQ0
  replace D : St s g env [(Str.ofString "self", some (.ref x)), (Str.ofString "quoted", none), (Str.ofString "escapedstate", none), (Str.ofString "nextchar", none), (Str.ofString "result", none)] s1 [Ob sio 662 sd, Di sd es2 n2, Ob x 797 dx, Di dx es n] := D
  generalize s = B at D k hs0 O
  clear O
  wtm_at "ms"
  refine m_while (fun m s => ∃ (t : Tok), m = 0 ∧ St B g env (rV x false [32] t none none) s [Ob sio 662 sd, Di sd es2 n2, Ob x 797 dx, Di dx es n]) 0 ?_ ?_
  · exact ⟨_, rfl, D⟩
  clear D
  rintro m s ⟨t, rfl, D⟩
  intro Q' hQ
  wtm_at "ms"
  with_reducible refine' r_punct S D (hA'.less (by decide)) ?hx ?hd ?hf ?_; wtm_at "pu"
  refine useO (pre := []) (post := [Ob x 797 dx, Di dx es n]) (tRead w sio sd es2 n2 L L.length (Nat.le_refl _) (by omega) _ t1 t2 t3 hF2) S (hA'.less (by decide)) D (fun v own' hp => by obtain ⟨_, _, _, _, _, e, _⟩ := hp; rw [e]; rfl) fun v own' s hp D => ?_
  obtain ⟨tn, es2, n2, t3, rfl, rfl, hF2⟩ := hp
  replace D : St B g env _ s [Ob sio 662 sd, Di sd es2 n2, Ob x 797 dx, Di dx es n] := D
  rw [if_neg (Nat.lt_irrefl _)] at hF2
  have e1 : (L.drop L.length).take 1 = [] := by rw [List.drop_length]; rfl
  rw [e1]
  wtm_at "ms"

  exact D.leave (own := Lx sio sd _ _ x dx _ _) (fun p hp => .inl (List.mem_map_of_mem hp)) hs0 ⟨_, _, _, _, _, _, rfl, rfl, hF, hF2⟩ k

end
section
/-! ## shlex.get_token -/
noncomputable abbrev Lg (d2 d1 sio sd : Addr) (es2 : List DictEntry) (n2 : Nat) (x dx : Addr) (es : List DictEntry) (n : Nat) : News' := [(d2, dqObj), (d1, dqObj), Ob sio 662 sd, Di sd es2 n2, Ob x 797 dx, Di dx es n]
theorem tGet1 (w : World) (x dx sio sd : Addr) (es es2 : List DictEntry) (n n2 : Nat) (d1 d2 : Addr) (W : List Nat) (tk : Nat → Tok) (ts tt t1 t2 t3 : Tok) (z : List Nat) (hz : z.length ≤ 10000) (hg : ∀ c ∈ z, c ≠ 10) (hW : 34 ∉ W) (hWl : W.length ≤ 10000)
    (hF : Has es (lexF sio d1 d2 W tk (.str (T [32]) ts) [] tt)) (hF2 : Has es2 (sioF (34 :: (z.flatMap e0 ++ [34])) 0 t1 t2 t3)) :
    Fn (Mine.hz.heap_1_39 w.params) PySem.Challenge.pw_kt0083_01 w 9 (.ref 758) [.ref x] (Lg d2 d1 sio sd es2 n2 x dx es n)
      (fun v own => ∃ t tt' t3' es' n' es2' n2', v = .str (T z) t ∧ own = Lg d2 d1 sio sd es2' n2' x dx es' n' ∧ Has es' (lexF sio d1 d2 W tk .none [] tt') ∧
        Has es2' (sioF (34 :: (z.flatMap e0 ++ [34])) (34 :: (z.flatMap e0 ++ [34])).length t1 t2 t3')) := by
  intro A s g R S hA O k
  have hs0 : g.objs.size ≤ s.heap.objs.size := O.size
  refine' enter (binds := [(Str.ofString "self", .ref x)]) (more := [Str.ofString "tok", Str.ofString "raw", Str.ofString "spec", Str.ofString "newfile", Str.ofString "newstream"]) (gl := []) S O hA ?h1 ?h2 ?h3 ?h4 ?h5 ?_
  case h1 => k_is
  case h2 => k_is
  case h3 => exact BindsTo.of_eq rfl
  case h4 => kernel_rfl
  case h5 => kernel_rfl
  intro env A' s1 hA' H D Q0 hQ0
  replace D : St s g env [(Str.ofString "self", some (.ref x)), (Str.ofString "tok", none), (Str.ofString "raw", none), (Str.ofString "spec", none), (Str.ofString "newfile", none), (Str.ofString "newstream", none)] s1 (Lg d2 d1 sio sd es2 n2 x dx es n) := D
  generalize s = B at D k hs0 O
  clear O
  wtm_at "ms"
  refine useO (pre := [(d2, dqObj), (d1, dqObj)]) (post := []) (tTok1 w x dx sio sd es es2 n n2 d1 d2 W tk ts tt t1 t2 t3 z hz hg hW hWl hF hF2) S (hA'.less (by decide)) D (fun v own' hp => by obtain ⟨_, _, _, _, _, _, _, _, e, _⟩ := hp; rw [e]; rfl) fun v own' s hp D => ?_
  obtain ⟨tr, tt, t3, es, n, es2, n2, rfl, rfl, hF, hF2⟩ := hp
  replace D : St B g env _ s (Lg d2 d1 sio sd es2 n2 x dx es n) := D
  wtm_at "ms"
  refine m_while (fun m s => m = 0 ∧ St B g env [(Str.ofString "self", some (.ref x)), (Str.ofString "tok", none), (Str.ofString "raw", some (.str (T z) tr)), (Str.ofString "spec", none), (Str.ofString "newfile", none), (Str.ofString "newstream", none)] s (Lg d2 d1 sio sd es2 n2 x dx es n)) 0 ?_ ?_
  · exact ⟨rfl, D⟩
  clear D
  rintro m s ⟨rfl, D⟩
  intro Q' hQ
  wtm_at "ms"
  exact D.leave (own := Lg d2 d1 sio sd _ _ x dx _ _) (fun p hp => .inl (List.mem_map_of_mem hp)) hs0 ⟨_, _, _, _, _, _, _, rfl, rfl, hF, hF2⟩ k
theorem tGet2 (w : World) (x dx sio sd : Addr) (es es2 : List DictEntry) (n n2 : Nat) (d1 d2 : Addr) (W : List Nat) (tk : Nat → Tok) (tt t1 t2 t3 : Tok) (L : List Nat) (hL : L.length ≤ 50000)
    (hF : Has es (lexF sio d1 d2 W tk .none [] tt)) (hF2 : Has es2 (sioF L L.length t1 t2 t3)) :
    Fn (Mine.hz.heap_1_39 w.params) PySem.Challenge.pw_kt0083_01 w 9 (.ref 758) [.ref x] (Lg d2 d1 sio sd es2 n2 x dx es n)
      (fun v own => ∃ tt' t3' es' n' es2' n2', v = .none ∧ own = Lg d2 d1 sio sd es2' n2' x dx es' n' ∧ Has es' (lexF sio d1 d2 W tk .none [] tt') ∧ Has es2' (sioF L L.length t1 t2 t3')) := by
  intro A s g R S hA O k
  have hs0 : g.objs.size ≤ s.heap.objs.size := O.size
  refine' enter (binds := [(Str.ofString "self", .ref x)]) (more := [Str.ofString "tok", Str.ofString "raw", Str.ofString "spec", Str.ofString "newfile", Str.ofString "newstream"]) (gl := []) S O hA ?h1 ?h2 ?h3 ?h4 ?h5 ?_
  case h1 => k_is
  case h2 => k_is
  case h3 => exact BindsTo.of_eq rfl
  case h4 => kernel_rfl
  case h5 => kernel_rfl
  intro env A' s1 hA' H D Q0 hQ0
  replace D : St s g env [(Str.ofString "self", some (.ref x)), (Str.ofString "tok", none), (Str.ofString "raw", none), (Str.ofString "spec", none), (Str.ofString "newfile", none), (Str.ofString "newstream", none)] s1 (Lg d2 d1 sio sd es2 n2 x dx es n) := D
  generalize s = B at D k hs0 O
  clear O
  wtm_at "ms"
  refine useO (pre := [(d2, dqObj), (d1, dqObj)]) (post := []) (tTok2 w x dx sio sd es es2 n n2 d1 d2 W tk tt t1 t2 t3 L hL hF hF2) S (hA'.less (by decide)) D (fun v own' hp => by obtain ⟨_, _, _, _, _, _, _, e, _⟩ := hp; rw [e]; rfl) fun v own' s hp D => ?_
  obtain ⟨tt, t3, es, n, es2, n2, rfl, rfl, hF, hF2⟩ := hp
  replace D : St B g env _ s (Lg d2 d1 sio sd es2 n2 x dx es n) := D
  wtm_at "ms"
  refine m_while (fun m s => m = 0 ∧ St B g env [(Str.ofString "self", some (.ref x)), (Str.ofString "tok", none), (Str.ofString "raw", some .none), (Str.ofString "spec", none), (Str.ofString "newfile", none), (Str.ofString "newstream", none)] s (Lg d2 d1 sio sd es2 n2 x dx es n)) 0 ?_ ?_
  · exact ⟨rfl, D⟩
  clear D
  rintro m s ⟨rfl, D⟩
  intro Q1 hQ1
  wtm_at "ms"
  exact D.leave (own := Lg d2 d1 sio sd _ _ x dx _ _) (fun p hp => .inl (List.mem_map_of_mem hp)) hs0 ⟨_, _, _, _, _, _, rfl, rfl, hF, hF2⟩ k

end
section
/-! ## shlex.__iter__, __next__ -/
theorem tIter (w : World) (x : Addr) : Fn (Mine.hz.heap_1_39 w.params) PySem.Challenge.pw_kt0083_01 w 3 (.ref 787) [.ref x] [] (fun v own => v = .ref x ∧ own = []) := by
  intro A s g R S hA O k
  have hs0 : g.objs.size ≤ s.heap.objs.size := O.size
  refine' enter (binds := [(Str.ofString "self", .ref x)]) (more := []) (gl := []) S O hA ?h1 ?h2 ?h3 ?h4 ?h5 ?_
  case h1 => k_is
  case h2 => k_is
  case h3 => exact BindsTo.of_eq rfl
  case h4 => kernel_rfl
  case h5 => kernel_rfl
  intro env A' s1 hA' H D Q0 hQ0
  replace D : St s g env [(Str.ofString "self", some (.ref x))] s1 [] := D
  generalize s = B at D k hs0 O
  clear O
  wtm_at "ms"
  exact D.leave (own := []) (fun p hp => nomatch hp) hs0 ⟨rfl, rfl⟩ k
theorem tNext1 (w : World) (x dx sio sd : Addr) (es es2 : List DictEntry) (n n2 : Nat) (d1 d2 : Addr) (W : List Nat) (tk : Nat → Tok) (ts tt t1 t2 t3 : Tok) (z : List Nat) (hz : z.length ≤ 10000) (hg : ∀ c ∈ z, c ≠ 10) (hW : 34 ∉ W) (hWl : W.length ≤ 10000)
    (hF : Has es (lexF sio d1 d2 W tk (.str (T [32]) ts) [] tt)) (hF2 : Has es2 (sioF (34 :: (z.flatMap e0 ++ [34])) 0 t1 t2 t3)) :
    FnE (Mine.hz.heap_1_39 w.params) PySem.Challenge.pw_kt0083_01 w 11 (.ref 794) [.ref x] (Lg d2 d1 sio sd es2 n2 x dx es n)
      (fun r own _ => ∃ t tt' t3' es' n' es2' n2', r = .ok (.ret (.str (T z) t)) ∧ own = Lg d2 d1 sio sd es2' n2' x dx es' n' ∧ Has es' (lexF sio d1 d2 W tk .none [] tt') ∧
        Has es2' (sioF (34 :: (z.flatMap e0 ++ [34])) (34 :: (z.flatMap e0 ++ [34])).length t1 t2 t3')) := by
  intro A s g0 fl R S0 hA hst hfr hord O0 hno k
  have S := O0.sta2 S0
  have O := O0.base2
  refine' enterF (binds := [(Str.ofString "self", .ref x)]) (more := [Str.ofString "token"]) (gl := [(Str.ofString "StopIteration", .type "StopIteration")]) S O hA ?h1 ?h2 ?h3 ?h4 ?h5 ?_
  case h1 => k_is
  case h2 => k_is
  case h3 => exact BindsTo.of_eq rfl
  case h4 => kernel_rfl
  case h5 => kernel_rfl
  intro env A' s1 hA' _ hfm hst' H D
  replace D : St s (base2 s (Lg d2 d1 sio sd es2 n2 x dx es n)) env [(Str.ofString "self", some (.ref x)), (Str.ofString "token", none)] s1 (Lg d2 d1 sio sd es2 n2 x dx es n) := D
  clear O
  generalize hown : Lg d2 d1 sio sd es2 n2 x dx es n = own0 at k O0 hno
  have hkeys : own0.map (·.1) = [d2, d1, sio, sd, x, dx] := by rw [← hown]; rfl
  rw [hown] at S
  replace D : St s (base2 s own0) env [(Str.ofString "self", some (.ref x)), (Str.ofString "token", none)] s1 (Lg d2 d1 sio sd es2 n2 x dx es n) := by rw [← hown]; exact D
  clear hown
  generalize s = B at D k O0 hfr S
  wtm_at "ms"
  refine useO (pre := []) (post := []) (tGet1 w x dx sio sd es es2 n n2 d1 d2 W tk ts tt t1 t2 t3 z hz hg hW hWl hF hF2) S (hA'.less (by decide)) D (fun v own' hp => by obtain ⟨_, _, _, _, _, _, _, _, e, _⟩ := hp; rw [e]; rfl) fun v own' s hp D => ?_
  obtain ⟨tr, tt, t3, es, n, es2, n2, rfl, rfl, hF, hF2⟩ := hp
  replace D : St B _ env _ s (Lg d2 d1 sio sd es2 n2 x dx es n) := D
  wtm_at "ms"
  exact D.leaveE O0 hno hkeys.symm ⟨_, _, _, _, _, _, _, rfl, rfl, hF, hF2⟩ k
theorem tNext2 (w : World) (x dx sio sd : Addr) (es es2 : List DictEntry) (n n2 : Nat) (d1 d2 : Addr) (W : List Nat) (tk : Nat → Tok) (tt t1 t2 t3 : Tok) (L : List Nat) (hL : L.length ≤ 50000)
    (hF : Has es (lexF sio d1 d2 W tk .none [] tt)) (hF2 : Has es2 (sioF L L.length t1 t2 t3)) :
    FnE (Mine.hz.heap_1_39 w.params) PySem.Challenge.pw_kt0083_01 w 11 (.ref 794) [.ref x] (Lg d2 d1 sio sd es2 n2 x dx es n)
      (fun r own s => ∃ e es' n' es2' n2', r = .error (.ref e) ∧ own = Lg d2 d1 sio sd es2' n2' x dx es' n' ∧ ∃ ob, s.heap.get? e = some ob ∧ ob.cls = .type "StopIteration") := by
  intro A s g0 fl R S0 hA hst hfr hord O0 hno k
  refine up_code ?_
  have S := O0.sta2 S0
  have O := O0.base2
  refine' enterF (binds := [(Str.ofString "self", .ref x)]) (more := [Str.ofString "token"]) (gl := [(Str.ofString "StopIteration", .type "StopIteration")]) S O hA ?h1 ?h2 ?h3 ?h4 ?h5 ?_
  case h1 => k_is
  case h2 => k_is
  case h3 => exact BindsTo.of_eq rfl
  case h4 => kernel_rfl
  case h5 => kernel_rfl
  intro env A' s1 hA' _ hfm hst' H D
  replace D : St s (base2 s (Lg d2 d1 sio sd es2 n2 x dx es n)) env [(Str.ofString "self", some (.ref x)), (Str.ofString "token", none)] s1 (Lg d2 d1 sio sd es2 n2 x dx es n) := D
  clear O
  generalize hown : Lg d2 d1 sio sd es2 n2 x dx es n = own0 at k O0 hno
  have hkeys : own0.map (·.1) = [d2, d1, sio, sd, x, dx] := by rw [← hown]; rfl
  rw [hown] at S
  replace D : St s (base2 s own0) env [(Str.ofString "self", some (.ref x)), (Str.ofString "token", none)] s1 (Lg d2 d1 sio sd es2 n2 x dx es n) := by rw [← hown]; exact D
  clear hown
  generalize s = B at D k O0 hfr S
  wtm_at "ms"
  refine useO (pre := []) (post := []) (tGet2 w x dx sio sd es es2 n n2 d1 d2 W tk tt t1 t2 t3 L hL hF hF2) S (hA'.less (by decide)) D (fun v own' hp => by obtain ⟨_, _, _, _, _, _, _, e, _⟩ := hp; rw [e]; rfl) fun v own' s hp D => ?_
  obtain ⟨tt, t3, es, n, es2, n2, rfl, rfl, hF, hF2⟩ := hp
  replace D : St B _ env _ s (Lg d2 d1 sio sd es2 n2 x dx es n) := D
  wtm_at "ms"
  refine owsi_raiseC hA'.hd (r_gl S H D (by simp) ⟨rfl, rfl⟩) fun h' e hx => ?_
  exact D.raiseE O0 hno hkeys.symm hfm (hst' _ hst) hfr hx (fun h hob => ⟨e, _, _, _, _, rfl, rfl, hob⟩) k

end
section
/-! ## list(lex) -/
theorem ls_noLen (w : World) : findIn (Mine.hz.heap_1_39 w.params) (.ref 797) (Str.ofString "__len__") = some none := by kernel_rfl
theorem ls_noHint (w : World) : findIn (Mine.hz.heap_1_39 w.params) (.ref 797) (Str.ofString "__length_hint__") = some none := by kernel_rfl
theorem ls_iter (w : World) : findIn (Mine.hz.heap_1_39 w.params) (.ref 797) (Str.ofString "__iter__") = some (some (.ref 787)) := by kernel_rfl
theorem ls_iterF (w : World) : isFn (Mine.hz.heap_1_39 w.params) (.ref 787) = true := by kernel_rfl
theorem ls_next (w : World) : findIn (Mine.hz.heap_1_39 w.params) (.ref 797) (Str.ofString "__next__") = some (some (.ref 794)) := by kernel_rfl
theorem ls_nextF (w : World) : isFn (Mine.hz.heap_1_39 w.params) (.ref 794) = true := by kernel_rfl
section
variable {B : Shared} {g : Heap} {env : Env} {vals : Vals} {s : Shared} {news fo : News'} {A : Around} {E : Value → Shared → Prop} {fl : List Env}
theorem inst_lg {p : Addr × Obj} {d2 d1 sio sd x dx : Addr} {es es2 : List DictEntry} {n n2 : Nat} (D : St B g env vals s (p :: (Lg d2 d1 sio sd es2 n2 x dx es n ++ fo))) : InstAt s.heap x (instObj 797 dx) 797 (some (dictOf es n)) :=
  inst_at (D.get (.tail _ (.tail _ (.tail _ (.tail _ (.tail _ (.head _))))))) (D.get (.tail _ (.tail _ (.tail _ (.tail _ (.tail _ (.tail _ (.head _))))))))
theorem r_list_lex (w : World) (x dx sio sd : Addr) (es es2 : List DictEntry) (n n2 : Nat) (d1 d2 : Addr) (W : List Nat) (tk : Nat → Tok) (ts tt t1 t2 t3 : Tok) (z : List Nat) (hz : z.length ≤ 10000) (hg : ∀ c ∈ z, c ≠ 10) (hW : 34 ∉ W) (hWl : W.length ≤ 10000)
    (hF : Has es (lexF sio d1 d2 W tk (.str (T [32]) ts) [] tt)) (hF2 : Has es2 (sioF (34 :: (z.flatMap e0 ++ [34])) 0 t1 t2 t3)) {Q : Value → Shared → Prop}
    (S : Sta (Mine.hz.heap_1_39 w.params) g) (hA : Room A 16) (hfm : env.frame = some env.locals) (hst : A.frames = some (env :: fl)) (F : FoAt B fl fo) (hlo : ∀ b ∈ frs fl, b < env.locals)
    (D : St B g env vals s (Lg d2 d1 sio sd es2 n2 x dx es n ++ fo))
    (k : ∀ l m t fo' s', B.heap.objs.size ≤ l → FoAt B fl fo' → St B g env vals s' ((l, Lo [.str (T z) t] m) :: fo') → Q (.ref l) s') :
    wpAny (model PySem.Challenge.pw_kt0083_01 w) A (call (.type "list") [.ref x]) Q E s := by
  have hB := D.up.2
  have D1 := D.made (Lo [] 0)
  refine callType_codes (Q₁ := fun obj s₁ => obj = .ref s.heap.objs.size ∧ s₁ = { s with heap := s.heap.push { cls := .type "list", data := .seq #[] } }) PySem.F.called_list (PySem.F.typeCall_list_1 _) PySem.F.entry_list_init
    (code_list_new _ ⟨rfl, rfl⟩) fun obj s₁ h₁ => ?_
  obtain ⟨rfl, rfl⟩ := h₁
  have hS : (s.heap.push { cls := .type "list", data := .seq #[] }).get? s.heap.objs.size = some { cls := .type "list", data := .seq #[] } := Heap.get?_push_size _ rfl
  refine ⟨⟨_, hS, rfl⟩, PySem.F.args_list_init_2 _ _, ?_⟩
  have hlx : s.heap.objs.size ≠ x := fun q => Nat.lt_irrefl _ (q ▸ Heap.lt_size (D.get (.tail _ (.tail _ (.tail _ (.tail _ (.head _)))))))
  generalize hl : s.heap.objs.size = l at *
  show wpAny _ A.in1.in1 (do let old ← Builtin.List.listItems (.ref l); Builtin.List.listUpdate (.ref l) (fun _ => #[]); letGo old.toList.reverse; Builtin.List.listExtendWith (.ref l) (.ref x) .none) _ _ _
  refine wpAny_bind ?_
  unfold Builtin.List.listItems
  refine wpAny_bind (wpAny_seqItems hS rfl (wpAny_pure ?_))
  show wpAny _ _ (updateSeq l (fun _ => #[]) >>= fun _ => letGo (#[] : Array Value).toList.reverse >>= fun _ => Builtin.List.listExtendWith (.ref l) (.ref x) .none) _ _ _
  refine wpAny_bind (wpAny_updateSeq hS rfl ?_)
  have hS₂ := Heap.get?_update_self (Obj.mapSeq (fun _ => (#[] : Array Value))) hS rfl
  obtain ⟨m1, hE⟩ : ∃ m, Obj.mapSeq (fun _ => (#[] : Array Value)) { cls := .type "list", data := .seq #[] } = Lo [] m := ⟨_, rfl⟩
  rw [hE] at hS₂
  replace D1 := D1.upd (UpdP.head (o' := Lo [] m1)) (Heap.SameBut.update ..) hS₂ (Nat.le_refl _)
  refine wpAny_bind (wpAny_letGo ?_)
  clear D hS hS₂
  revert D1
  generalize (⟨_, _, _, _, _⟩ : Shared) = s1
  intro D1
  as_aux_lemma =>
    have I1 : InstAt s1.heap x (instObj 797 dx) 797 (some (dictOf es n)) := inst_lg D1
    have h1 : Builtin.List.listSameRef (.ref l) (.ref x) = false := beq_eq_false_iff_ne.mpr hlx
    have h2 : (Value.ref 797 == Value.type "list") = false := by decide
    have h3 : (Value.ref 797 == Value.type "tuple") = false := by decide
    unfold Builtin.List.listExtendWith
    refine wpAny_bind (I1.type.here ?_)
    simp only [h1, h2, h3, Bool.or_false, Bool.false_eq_true, if_false]
    obtain ⟨m, L, _⟩ := id D1.led
    have hA2 : Room A.in1.in1 14 := hA.in1.in1
    refine wpAny_bind (owit_iter L.fr S.X I1 (ls_iter w) (ls_iterF w) (use0 (tIter w x) S (hA2.less (by decide)) D1 fun v own' s2 hp D2 => ?_))
    obtain ⟨rfl, rfl⟩ := hp
    replace D2 : St B g env vals s2 ((l, Lo [] m1) :: (Lg d2 d1 sio sd es2 n2 x dx es n ++ fo)) := D2
    clear L I1 D1
    have I1 : InstAt s2.heap x (instObj 797 dx) 797 (some (dictOf es n)) := inst_lg D2
    obtain ⟨m, L, _⟩ := id D2.led
    refine owit_it L.fr S.X I1 (ls_next w) ?_
    refine wpAny_bind (wpAny_holding ?_)
    unfold Builtin.List.listLengthHint
    have X2 := S.X.keeps D2.keep
    refine wpAny_bind (wpAny_bind (I1.type.here ((looks_findIn X2 (ls_noLen w)).here ?_)))
    show wpAny _ _ (specialOf (.ref x) (Str.ofString "__length_hint__") >>= _) _ _ _
    refine wpAny_bind (wpAny_bind (I1.type.here ((looks_findIn X2 (ls_noHint w)).here ?_)))
    refine wpAny_pure ?_
    show wpAny _ _ (rule "list.extend.makes-room" >>= fun _ => Builtin.List.listTouch (.ref l) >>= fun _ => again (.builtin "list.extend.loop" ⟨[.ref l, .ref x, .none], []⟩)) _ _ _
    refine wpAny_bind (wpAny_rule ?_)
    refine wpAny_bind ?_
    show wpAny _ _ (updateSeq l (·.push .none) >>= fun _ => updateSeq l (·.pop)) _ _ _
    have hS := D2.get (List.mem_cons_self (a := (l, Lo [] m1)))
    refine wpAny_bind (wpAny_updateSeq hS rfl ?_)
    have hS₂ := Heap.get?_update_self (Obj.mapSeq (·.push Value.none)) hS rfl
    refine wpAny_updateSeq (hz := by seq_fits) hS₂ rfl ?_
    have hS₃ := Heap.get?_update_self (Obj.mapSeq (·.pop)) hS₂ rfl
    obtain ⟨m2, hE2⟩ : ∃ m, Obj.mapSeq (·.push Value.none) (Lo [] m1) = Lo [.none] m := ⟨_, rfl⟩
    obtain ⟨m3, hE3⟩ : ∃ m, Obj.mapSeq (·.pop) (Lo [.none] m2) = Lo [] m := ⟨_, rfl⟩
    rw [hE2] at hS₂ hS₃
    rw [hE3] at hS₃
    replace D2 := D2.upd (UpdP.head (o' := Lo [.none] m2)) (Heap.SameBut.update ..) hS₂ (Nat.le_refl _)
    replace D2 := D2.upd (UpdP.head (o' := Lo [] m3)) (Heap.SameBut.update ..) hS₃ (Nat.le_refl _)
    clear hS hS₂ hS₃ L I1 X2 hE2 hE3 hE
    revert D2
    dsimp only
    generalize (⟨_, _, _, _, _⟩ : Shared) = s3
    intro D2
    clear s2
    as_aux_lemma =>
      refine wpAny_pure ⟨plainId_quiet PySem.F.plain_extend_loop _, codeAny_builtin PySem.F.entry_extend_loop ?_⟩
      rw [Around.under_plainId PySem.F.plain_extend_loop _]
      show wpAny _ _ (pyNext (.ref x) >>= _) _ _ _
      have I1 : InstAt s3.heap x (instObj 797 dx) 797 (some (dictOf es n)) := inst_lg D2
      obtain ⟨m, L, _⟩ := id D2.led
      refine wpAny_bind (owit_next L.fr S.X I1 (ls_next w) (ls_nextF w) (wpAny_call ?_))
      refine useEc (pre := [(l, Lo [] m3)]) (own := Lg d2 d1 sio sd es2 n2 x dx es n) (post := []) (tNext1 w x dx sio sd es es2 n n2 d1 d2 W tk ts tt t1 t2 t3 z hz hg hW hWl hF hF2) S ?_ hfm ?_ F hlo D2 (fun r own' s' hp => by obtain ⟨_, _, _, _, _, _, _, _, e, _⟩ := hp; rw [e]; rfl) fun r own' fo' s' hp F' D3 => ?_
      · exact hA2.less (by decide)
      · exact hst
      clear L I1 D2 hF hF2 F
      obtain ⟨tr, tt, t3, es, n, es2, n2, rfl, rfl, hF, hF2⟩ := hp
      replace D3 : St B g env vals s' ((l, Lo [] m3) :: (Lg d2 d1 sio sd es2 n2 x dx es n ++ fo')) := D3
      show wpAny _ _ (updateSeq l (·.push (.str (T z) tr)) >>= fun _ => again (.builtin "list.extend.loop" ⟨[.ref l, .ref x, .none], []⟩)) _ _ _
      have hS := D3.get (List.mem_cons_self (a := (l, Lo [] m3)))
      refine wpAny_bind (wpAny_updateSeq hS rfl ?_)
      have hS₂ := Heap.get?_update_self (Obj.mapSeq (·.push (Value.str (T z) tr))) hS rfl
      obtain ⟨m4, hE2⟩ : ∃ m, Obj.mapSeq (·.push (Value.str (T z) tr)) (Lo [] m3) = Lo [.str (T z) tr] m := ⟨_, rfl⟩
      rw [hE2] at hS₂
      replace D3 := D3.upd (UpdP.head (o' := Lo [.str (T z) tr] m4)) (Heap.SameBut.update ..) hS₂ (Nat.le_refl _)
      clear hS hS₂ hE2
      revert D3
      generalize (⟨_, _, _, _, _⟩ : Shared) = s5
      intro D3
      clear s3 s'
      as_aux_lemma =>
        refine wpAny_pure ⟨plainId_quiet PySem.F.plain_extend_loop _, codeAny_builtin PySem.F.entry_extend_loop ?_⟩
        rw [Around.under_plainId PySem.F.plain_extend_loop _]
        show wpAny _ _ (pyNext (.ref x) >>= _) _ _ _
        have I1 : InstAt s5.heap x (instObj 797 dx) 797 (some (dictOf es n)) := inst_lg D3
        obtain ⟨m, L, _⟩ := id D3.led
        refine wpAny_bind (owit_next L.fr S.X I1 (ls_next w) (ls_nextF w) (wpAny_call ?_))
        refine useEc (pre := [(l, Lo [.str (T z) tr] m4)]) (own := Lg d2 d1 sio sd es2 n2 x dx es n) (post := []) (tNext2 w x dx sio sd es es2 n n2 d1 d2 W tk tt t1 t2 t3 (34 :: (z.flatMap e0 ++ [34])) ?_ hF hF2) S (hA2.less (by decide)) hfm hst F' hlo D3 (fun r own' s' hp => by obtain ⟨_, _, _, _, _, _, e, _⟩ := hp; rw [e]; rfl) fun r own' fo' s' hp F' D4 => ?_
        · have := e0_len z; simp only [List.length_cons, List.length_append, List.length_nil]; omega
        clear L I1 D3 hF hF2
        obtain ⟨e, es, n, es2, n2, rfl, rfl, ob, hob, hcls⟩ := hp
        replace D4 : St B g env vals s' ((l, Lo [.str (T z) tr] m4) :: (Lg d2 d1 sio sd es2 n2 x dx es n ++ fo')) := D4
        have hT : s'.TypeIs (.ref e) "StopIteration" := ⟨ob, hob, hcls⟩
        show OwitStop _ _ _ _ _ _
        unfold OwitStop
        refine wpAny_isInstance hT owsi_facts.sub ?_
        rw [if_pos rfl]
        refine wpAny_pure ⟨rfl, k l m4 tr fo' s' hB F' (D4.drop ?_)⟩
        exact List.Sublist.cons_cons _ (List.sublist_append_right _ _)
end

end
section
/-! ## StringIO: making -/
theorem sb662 (w : World) (S : Setting) : peek (Mine.hz.heap_1_39 w.params) S (Bind.staticBase (.ref 662)) = some (.type "object") := by kernel_rfl
theorem mb_obj (w : World) (S : Setting) : peek (Mine.hz.heap_1_39 w.params) S (Bind.madeBy (.type "object")) = some (some "object.__new__") := by kernel_rfl
theorem mb662 (w : World) (S : Setting) : peek (Mine.hz.heap_1_39 w.params) S (Bind.madeBy (.ref 662)) = some none := by kernel_rfl
theorem tNewIO (w : World) (v0 : Value) : FnK (Mine.hz.heap_1_39 w.params) PySem.Challenge.pw_kt0083_01 w 3 (.ref 155) ⟨[.ref 662, v0], []⟩ [] (fun v own => ∃ x dx, v = .ref x ∧ own = [Ob x 662 dx, Di dx [] 0]) := by
  intro A s g R S hA O k
  have hs0 : g.objs.size ≤ s.heap.objs.size := O.size
  let s₁ : Shared := { s with heap := (s.heap.push (tupObj [v0])).push emptyDict }
  have u₁ : Up s s₁ := ⟨Nat.le_refl _, by show s.heap.objs.size ≤ ((s.heap.push (tupObj [v0])).push emptyDict).objs.size; rw [Heap.size_push, Heap.size_push]; omega⟩
  have O₁ : Own g s₁ [] := ⟨fun b o q => Heap.get?_push_of_some _ (Heap.get?_push_of_some _ (O.keep b o q)), Nat.le_trans O.size u₁.2, .nil, fun p hp => (nomatch hp), O.tok⟩
  refine' enterB (s₁ := s₁) (binds := [(Str.ofString "cls", .ref 662), (Str.ofString "args", .ref s.heap.objs.size), (Str.ofString "kwargs", .ref (s.heap.push (tupObj [v0])).objs.size)]) (more := []) (gl := [(Str.ofString "BytesIO", .ref 415), (Str.ofString "StringIO", .ref 662), (Str.ofString "object", .type "object")]) S O O₁ u₁ ⟨rfl, rfl, rfl⟩ hA ?h1 ?h2 ?h3 ?h4 ?h5 ?_
  case h1 => k_is
  case h2 => k_is
  case h3 =>
    intro M A E Q q
    show wpAny M A (newTuple [v0] >>= fun t => alloc emptyDict >>= fun d => pure [(Str.ofString "cls", .ref 662), (Str.ofString "args", t), (Str.ofString "kwargs", .ref d)]) Q E s
    refine wpAny_bind (wpAny_newObj_type (wpAny_bind (wpAny_alloc (wpAny_pure q))) (by size_fits))
  case h4 => kernel_rfl
  case h5 => kernel_rfl
  intro env A' s1 hA' H D
  replace D : St s g env [(Str.ofString "cls", some (.ref 662)), (Str.ofString "args", some (.ref s.heap.objs.size)), (Str.ofString "kwargs", some (.ref (s.heap.push (tupObj [v0])).objs.size))] s1 [] := D
  clear_value s₁
  clear O₁ u₁ s₁
  generalize s.heap.objs.size = a1 at D
  generalize (s.heap.push (tupObj [v0])).objs.size = a2 at D
  generalize s = B at D k hs0 O
  clear O
  wtm_at "ms"
  have X := S.X.keeps D.keep
  refine wpAny_isNot_ref_other (by decide) (X _ _ (by k_is)) (X _ _ (by k_is)) (by decide) ?_
  wtm_at "ms"
  obtain ⟨m, L, _⟩ := id D.led
  with_reducible refine' method_type (v := .builtin "object.__new__") L.fr S.X meta_object ?h1 ?h2 ?h3 ?_
  case h1 => decide +kernel
  case h2 => kernel_rfl
  case h3 => rfl
  replace D := D.tk1 (n := 1)
  revert D
  generalize (⟨_, _, _, _, _⟩ : Shared) = s
  intro D
  clear X L
  wtm_at "ms"
  obtain ⟨hh, gg, d, t, os⟩ := s
  have hX := S.X.keeps D.keep
  refine wpAny_call (new662 hX ?_)
  have e2 : (hh.push emptyDict).objs.size = hh.objs.size + 1 := Heap.size_push ..
  have D2 := (D.made emptyDict).made (instObj 662 hh.objs.size)
  rw [show ({ heap := hh, gens := gg, drawn := d, toks := t, os := os } : Shared).heap.objs.size = hh.objs.size from rfl, show ({ heap := hh.push emptyDict, gens := gg, drawn := d, toks := t, os := os } : Shared).heap.objs.size = hh.objs.size + 1 from e2] at D2
  have hb : B.heap.objs.size ≤ hh.objs.size := D.up.2
  exact D2.leave (own := []) (all_cons (.inr (Nat.le_succ_of_le hb)) (all_cons (.inr hb) all_nil)) hs0 ⟨_, _, rfl, rfl⟩ k

end
section
theorem tTransl (w : World) (x dx : Addr) (es : List DictEntry) (n : Nat) (l : List Nat) (t t1 t2 t3 : Tok) (hF : Has es (sioF [] 0 t1 t2 t3)) :
    Fn (Mine.hz.heap_1_39 w.params) PySem.Challenge.pw_kt0083_01 w 3 (.ref 439) [.ref x, .str (T l) t] [Ob x 662 dx, Di dx es n] (fun v own => v = .str (T l) t ∧ own = [Ob x 662 dx, Di dx es n]) := by
  intro A s g R S hA O k
  have hs0 : g.objs.size ≤ s.heap.objs.size := O.size
  refine' enter (binds := [(Str.ofString "self", .ref x), (Str.ofString "s", .str (T l) t)]) (more := [Str.ofString "newline"]) (gl := []) S O hA ?h1 ?h2 ?h3 ?h4 ?h5 ?_
  case h1 => k_is
  case h2 => k_is
  case h3 => exact BindsTo.of_eq rfl
  case h4 => kernel_rfl
  case h5 => kernel_rfl
  intro env A' s1 hA' H D Q0 hQ0
  replace D : St s g env [(Str.ofString "self", some (.ref x)), (Str.ofString "s", some (.str (T l) t)), (Str.ofString "newline", none)] s1 [Ob x 662 dx, Di dx es n] := D
  generalize s = B at D k hs0 O
  clear O
  wtm_at "ms"
  exact D.leave (own := [Ob x 662 dx, Di dx es n]) (fun p hp => .inl (List.mem_map_of_mem hp)) hs0 ⟨rfl, rfl⟩ k
theorem tSioInit (w : World) (x dx : Addr) (l : List Nat) (hl : l.length ≤ 100000) (t0 : Tok) :
    FnK (Mine.hz.heap_1_39 w.params) PySem.Challenge.pw_kt0083_01 w 5 (.ref 432) ⟨[.ref x, .str (T l) t0], []⟩ [Ob x 662 dx, Di dx [] 0] (fun v own => ∃ es n t1 t3, v = .none ∧ own = [Ob x 662 dx, Di dx es n] ∧ Has es (sioF l 0 t1 t0 t3)) := by
  intro A s g R S hA O k
  have hs0 : g.objs.size ≤ s.heap.objs.size := O.size
  refine' enter (binds := [(Str.ofString "self", .ref x), (Str.ofString "initial_value", .str (T l) t0), (Str.ofString "newline", .str (Str.ofString "\n") 1003)]) (more := []) (gl := [(Str.ofString "type", .type "type"), (Str.ofString "str", .type "str")]) S O hA ?h1 ?h2 ?h3 ?h4 ?h5 ?_
  case h1 => k_is
  case h2 => k_is
  case h3 => exact kp_binds (S.X.keeps O.keep) (fun _ => by kernel_rfl)
  case h4 => kernel_rfl
  case h5 => kernel_rfl
  intro env A' s1 hA' H D Q0 hQ0
  replace D : St s g env [(Str.ofString "self", some (.ref x)), (Str.ofString "initial_value", some (.str (T l) t0)), (Str.ofString "newline", some (.str (Str.ofString "\n") 1003))] s1 [Ob x 662 dx, Di dx [] 0] := D
  rw [lit23] at D
  generalize s = B at D k hs0 O
  clear O
  have hF : Has [] [(Str.ofString "_StringIO__newline", none), (Str.ofString "_StringIO__buf", none), (Str.ofString "_StringIO__pos", none)] := Has.empty rfl (by decide)
  wtm_at "ms"
  replace hF : Has es (sioF [] 0 _ _ _) := hF
  refine useO (pre := []) (post := []) (tTransl w x dx es n l t0 _ _ _ hF) S (hA'.less (by decide)) D (fun v own' hp => by rw [hp.2]) fun v own' s hp D => ?_
  obtain ⟨rfl, rfl⟩ := hp
  replace D : St B g env _ s [Ob x 662 dx, Di dx es n] := D
  wtm_at "ms"
  exact D.leave (own := [Ob x 662 dx, Di dx _ _]) (fun p hp => .inl (List.mem_map_of_mem hp)) hs0 ⟨_, _, _, _, rfl, rfl, hF⟩ k
section
variable {B : Shared} {g : Heap} {env : Env} {vals : Vals} {s : Shared} {news : News'} {A : Around} {E : Value → Shared → Prop}
theorem r_make_sio {w : World} {l : List Nat} {t : Tok} {Q : Value → Shared → Prop} (S : Sta (Mine.hz.heap_1_39 w.params) g) (hA : Room A 8) (D : St B g env vals s news) (hl : Nat.ble l.length 100000 = true)
    (k : ∀ sio sd es n t1 t3 s', B.heap.objs.size ≤ sd → B.heap.objs.size ≤ sio → Has es (sioF l 0 t1 t t3) → St B g env vals s' (Ob sio 662 sd :: Di sd es n :: news) → Q (.ref sio) s') :
    wpAny (model PySem.Challenge.pw_kt0083_01 w) A (call (.ref 662) [.str (T l) t] []) Q E s := by
  with_reducible refine' r_makePy S D (n := 3) (mc := .type "type") (p := 159) (fN := 155) (fI := 432) (hA.less (by decide)) ?h1 ?h2 ?h3 ?h4 ?h5 ?h6 ?h7 ?h8 ?h9 ?h10 ?h11 ?h12 ?_
  case h1 => k_is
  case h2 => rfl
  case h3 => k_is
  case h4 => k_is
  case h5 => exact mb662 w
  case h6 => k_is
  case h7 => k_is
  case h8 => k_is
  case h9 => k_is
  case h10 => k_is
  case h11 => k_is
  case h12 => exact tNewIO w _
  intro x dx s' hd hx D
  refine useG (own := [Ob x 662 dx, Di dx [] 0]) (tSioInit w x dx l (Nat.le_of_ble_eq_true hl) t) S ((hA.make (n := 7) _ _ _).less (by decide)) D fun v own' s2 hp _ D2 => ?_
  obtain ⟨es, n, t1, t3, rfl, rfl, hF⟩ := hp
  exact ⟨rfl, k x dx es n t1 t3 s2 hd hx hF D2⟩
end

end
section
/-! ## shlex: making -/
noncomputable abbrev lexI (sio d1 d2 : Addr) (W : List Nat) (tk : Nat → Tok) (cm : List Nat) (c0 : Tok) (wsp : Bool) (st : Value) (tok : List Nat) (tt : Tok) : Vals :=
  [(Str.ofString "instream", some (.ref sio)), (Str.ofString "infile", some .none), (Str.ofString "posix", some (.bool true)), (Str.ofString "eof", some .none), (Str.ofString "commenters", some (.str (T cm) c0)),
   (Str.ofString "wordchars", some (.str (T W) (tk 1))), (Str.ofString "whitespace", some (.str (T [32, 9, 13, 10]) (tk 2))), (Str.ofString "whitespace_split", some (.bool wsp)), (Str.ofString "quotes", some (.str (T [39, 34]) (tk 3))),
   (Str.ofString "escape", some (.str (T [92]) (tk 4))), (Str.ofString "escapedquotes", some (.str (T [34]) (tk 5))), (Str.ofString "state", some st), (Str.ofString "pushback", some (.ref d1)), (Str.ofString "lineno", some (.int 1 (tk 6))),
   (Str.ofString "debug", some (.int 0 (tk 7))), (Str.ofString "token", some (.str (T tok) tt)), (Str.ofString "filestack", some (.ref d2)), (Str.ofString "source", some .none), (Str.ofString "_punctuation_chars", some (.str (T []) (tk 8)))]
theorem lexI_of {es : List DictEntry} {sio d1 d2 : Addr} {W : List Nat} {a1 a2 a3 a4 a5 a6 a7 a8 c0 : Tok} {cm : List Nat} {wsp : Bool} {st : Value} {tok : List Nat} {tt : Tok}
    (h : Has es [(Str.ofString "instream", some (.ref sio)), (Str.ofString "infile", some .none), (Str.ofString "posix", some (.bool true)), (Str.ofString "eof", some .none), (Str.ofString "commenters", some (.str (T cm) c0)),
   (Str.ofString "wordchars", some (.str (T W) a1)), (Str.ofString "whitespace", some (.str (T [32, 9, 13, 10]) a2)), (Str.ofString "whitespace_split", some (.bool wsp)), (Str.ofString "quotes", some (.str (T [39, 34]) a3)),
   (Str.ofString "escape", some (.str (T [92]) a4)), (Str.ofString "escapedquotes", some (.str (T [34]) a5)), (Str.ofString "state", some st), (Str.ofString "pushback", some (.ref d1)), (Str.ofString "lineno", some (.int 1 a6)),
   (Str.ofString "debug", some (.int 0 a7)), (Str.ofString "token", some (.str (T tok) tt)), (Str.ofString "filestack", some (.ref d2)), (Str.ofString "source", some .none), (Str.ofString "_punctuation_chars", some (.str (T []) a8))]) :
    ∃ tk, Has es (lexI sio d1 d2 W tk cm c0 wsp st tok tt) := ⟨fun i => [0, a1, a2, a3, a4, a5, a6, a7, a8].getD i 0, h⟩
theorem lexF_of {es : List DictEntry} {sio d1 d2 : Addr} {W : List Nat} {tk : Nat → Tok} {c0 : Tok} {st : Value} {tok : List Nat} {tt : Tok} (h : Has es (lexI sio d1 d2 W tk [] c0 true st tok tt)) : ∃ tk', Has es (lexF sio d1 d2 W tk' st tok tt) :=
  ⟨fun i => [c0, tk 1, tk 2, tk 3, tk 4, tk 5, tk 6, tk 7, tk 8].getD i 0, h⟩
noncomputable abbrev lexN : Vals := [(Str.ofString "instream", none), (Str.ofString "infile", none), (Str.ofString "posix", none), (Str.ofString "eof", none), (Str.ofString "commenters", none), (Str.ofString "wordchars", none), (Str.ofString "whitespace", none), (Str.ofString "whitespace_split", none), (Str.ofString "quotes", none),
   (Str.ofString "escape", none), (Str.ofString "escapedquotes", none), (Str.ofString "state", none), (Str.ofString "pushback", none), (Str.ofString "lineno", none), (Str.ofString "debug", none), (Str.ofString "token", none), (Str.ofString "filestack", none), (Str.ofString "source", none), (Str.ofString "_punctuation_chars", none)]
theorem lexN_has : Has [] lexN := Has.empty rfl (by decide +kernel)
theorem tLexInit (w : World) (x dx : Addr) (l : List Nat) (hl : l.length ≤ 100000) (t0 : Tok) :
    FnK (Mine.hz.heap_1_39 w.params) PySem.Challenge.pw_kt0083_01 w 10 (.ref 721) ⟨[.ref x, .str (T l) t0], [(Str.ofString "posix", .bool true)]⟩ [Ob x 797 dx, Di dx [] 0]
      (fun v own => ∃ d2 d1 sio sd es2 n2 es n tk c0 ts tt t1 t3, v = .none ∧ own = Lg d2 d1 sio sd es2 n2 x dx es n ∧ Has es (lexI sio d1 d2 (W31 ++ W34) tk [35] c0 false (.str (T [32]) ts) [] tt) ∧ Has es2 (sioF l 0 t1 t0 t3)) := by
  intro A s g R S hA O k
  have hs0 : g.objs.size ≤ s.heap.objs.size := O.size
  refine' enter (binds := [(Str.ofString "self", .ref x), (Str.ofString "instream", .str (T l) t0), (Str.ofString "infile", .none), (Str.ofString "posix", .bool true), (Str.ofString "punctuation_chars", .bool false)]) (more := [Str.ofString "t"])
    (gl := [(Str.ofString "isinstance", .builtin "isinstance"), (Str.ofString "str", .type "str"), (Str.ofString "StringIO", .ref 662), (Str.ofString "deque", .type "collections.deque")]) S O hA ?h1 ?h2 ?h3 ?h4 ?h5 ?_
  case h1 => k_is
  case h2 => k_is
  case h3 => exact kp_binds (S.X.keeps O.keep) (fun _ => by kernel_rfl)
  case h4 => kernel_rfl
  case h5 => kernel_rfl
  intro env A' s1 hA' H D Q0 hQ0
  replace D : St s g env [(Str.ofString "self", some (.ref x)), (Str.ofString "instream", some (.str (T l) t0)), (Str.ofString "infile", some .none), (Str.ofString "posix", some (.bool true)), (Str.ofString "punctuation_chars", some (.bool false)), (Str.ofString "t", none)] s1 [Ob x 797 dx, Di dx [] 0] := D
  generalize s = B at D k hs0 O
  clear O
  have hF := lexN_has
  unfold lexN at hF
  have hW1 := W31_len
  have hW2 := W34_len
  wtm_at "ms"
  refine r_make_sio S (hA'.less (by decide)) D (Nat.ble_eq_true_of_le hl) fun sio sd es2 n2 t1 t3 s hsd hsio hF2 D => ?_
  wtm_at "ms"
  refine callWith_type0 (r_deque D fun d1 s hd1 D => ?_)
  wtm_at "ms"
  refine callWith_type0 (r_deque D fun d2 s hd2 D => ?_)
  wtm_at "ms"
  obtain ⟨tk, hF⟩ := lexI_of hF
  refine D.leave (own := [Ob x 797 dx, Di dx _ _]) (all_cons (.inr hd2) (all_cons (.inr hd1) (all_cons (.inr hsio) (all_cons (.inr hsd) (all_cons (.inl (.head _)) (all_cons (.inl (.tail _ (.head _))) all_nil)))))) hs0 ⟨_, _, _, _, _, _, _, _, tk, _, _, _, _, _, rfl, rfl, hF, hF2⟩ k

end
section
/-! ## shlex.split -/
section
variable {M : Model} {A : Around} {E : Value → Shared → Prop} {s : Shared} {env : Env}
theorem r_callkw {func : Expr} {args : List Expr} {kws : List Keyword} {pos : Pos} {Q : Value → Shared → Prop}
    (h : wpAny M A (eval func env) (fun f s₁ => wpAny M A (callWith pos f [] (backTo pos (starEach args env)) (backToKw pos (keywordEach kws env))) Q E s₁) E s)
    (he : eval (.Call func args kws pos) env = (do callWith pos (← eval func env) [] (backTo pos (starEach args env)) (backToKw pos (keywordEach kws env))) := by rfl) :
    wpAny M A (eval (.Call func args kws pos) env) Q E s := by
  rw [he]; exact wpAny_bind h
end
theorem tSplit (w : World) (z : List Nat) (hz : z.length ≤ 10000) (hg : ∀ c ∈ z, c ≠ 10) (t0 : Tok) :
    FnE (Mine.hz.heap_1_39 w.params) PySem.Challenge.pw_kt0083_01 w 18 (.ref 809) [.str (T (34 :: (z.flatMap e0 ++ [34]))) t0] []
      (fun r own _ => ∃ l m t, r = .ok (.ret (.ref l)) ∧ own = [(l, Lo [.str (T z) t] m)]) := by
  intro A s g fl R S hA hst hfr hord O hno k
  have hs0 : g.objs.size ≤ s.heap.objs.size := O.size
  obtain ⟨fo, F, G⟩ := fo_at hfr
  have hlt : ∀ b ∈ frs fl, b < s.heap.objs.size := fun b hb => by
    rw [← F.keys] at hb
    obtain ⟨p, hp, rfl⟩ := List.mem_map.mp hb
    exact Heap.lt_size (G p hp).1
  have hLl : (34 :: (z.flatMap e0 ++ [34])).length ≤ 2 * z.length + 2 := by have := e0_len z; simp only [List.length_cons, List.length_append, List.length_nil]; omega
  generalize hL : 34 :: (z.flatMap e0 ++ [34]) = L at hLl
  refine' enterF (binds := [(Str.ofString "s", .str (T L) t0), (Str.ofString "comments", .bool false), (Str.ofString "posix", .bool true)]) (more := [Str.ofString "lex"])
    (gl := [(Str.ofString "shlex", .ref 797), (Str.ofString "list", .type "list")]) S (O.withFo F G hord) hA ?h1 ?h2 ?h3 ?h4 ?h5 ?_
  case h1 => k_is
  case h2 => k_is
  case h3 => exact kp_binds (S.X.keeps O.keep) (fun _ => by kernel_rfl)
  case h4 => kernel_rfl
  case h5 => kernel_rfl
  intro env A' s1 hA' hloc hfm hst' H D
  replace D : St s g env [(Str.ofString "s", some (.str (T L) t0)), (Str.ofString "comments", some (.bool false)), (Str.ofString "posix", some (.bool true)), (Str.ofString "lex", none)] s1 fo := D
  have hlo : ∀ b ∈ frs fl, b < env.locals := fun b hb => hloc ▸ hlt b hb
  clear hlt hloc G hno hfr
  generalize s = B at D k hs0 O F
  clear O
  wtm_at "ms"
  refine r_callkw ?_
  wtm_at "ms"
  refine callWith_KW (S.X.keeps D.keep) (by k_is) rfl ?_
  wtm_at "ms"
  refine wpAny_evalAll_cons (wpAny_bind ?_)
  wtm_at "ms"
  refine wpAny_bind (wpAny_standAt (wpAny_pure (wpAny_evalAll_nil ?_)))
  refine r_inK S D ?_
  show wpAny _ _ (call (.ref 797) [.str (T L) t0] [(Str.ofString "posix", .bool true)]) _ _ _
  with_reducible refine' r_makeK S D ?h1 (fI := 721) ?h2 ?h3 ?_
  case h1 => k_is
  case h2 => k_is
  case h3 => k_is
  intro x dx s hd hx D
  refine useG (own := [Ob x 797 dx, Di dx [] 0]) (tLexInit w x dx L (by omega) t0) S ((hA'.make (n := 16) _ _ _).less (by decide)) D fun v own' s hp _ D => ?_
  obtain ⟨d2, d1, sio, sd, es2, n2, es, n, tk, c0, ts, tt, t1, t3, rfl, rfl, hF, hF2⟩ := hp
  refine ⟨rfl, ?_⟩
  replace D : St B g env _ s (Lg d2 d1 sio sd es2 n2 x dx es n ++ fo) := D
  replace D : St B g env _ s ((d2, dqObj) :: (d1, dqObj) :: Ob sio 662 sd :: Di sd es2 n2 :: Ob x 797 dx :: Di dx es n :: fo) := D
  wtm_at "ms"
  obtain ⟨tk, hF⟩ := lexF_of hF
  rw [← hL] at hF2
  refine r_list_lex w x dx sio sd es es2 n n2 d1 d2 (W31 ++ W34) tk _ _ _ _ _ z hz hg W_34 (Nat.le_trans W_len (by decide)) hF hF2 S (hA'.less (by decide)) hfm (hst' _ hst) F hlo D fun l m t fo' s hl F D => ?_
  wtm_at "ms"
  exact St.leaveF (news := [(l, Lo [.str (T z) t] m)]) D F (List.Sublist.refl _) (fun p hp => by rw [List.mem_singleton.mp hp]; exact hl) hs0 ⟨l, m, t, rfl, rfl⟩ k

end
section
/-! ## _law_undressed -/
theorem tUndressed (w : World) (way : Int) (l z : List Nat) (hz : z.length ≤ 10000) (hg : ∀ c ∈ z, c ≠ 10) (hl : (way = 1 ∧ ∃ r, l = [50, 53, 55, 32, 34] ++ r ∧ un257 r = z ∧ r.length ≤ 1000000) ∨ (way ≠ 1 ∧ l = 34 :: (z.flatMap e0 ++ [34]))) (t0 t1 : Tok) :
    FnE (Mine.hz.heap_1_39 w.params) PySem.Challenge.pw_kt0083_01 w 20 (.ref 863) [.int way t0, .str (T l) t1] []
      (fun r own _ => ∃ l m t, r = .ok (.ret (.ref l)) ∧ own = [(l, Lo [.str (T z) t] m)]) := by
  intro A s g fl R S hA hst hfr hord O hno k
  have hs0 : g.objs.size ≤ s.heap.objs.size := O.size
  obtain ⟨fo, F, G⟩ := fo_at hfr
  have hlt : ∀ b ∈ frs fl, b < s.heap.objs.size := fun b hb => by
    rw [← F.keys] at hb
    obtain ⟨p, hp, rfl⟩ := List.mem_map.mp hb
    exact Heap.lt_size (G p hp).1
  refine' enterF (binds := [(Str.ofString "way", .int way t0), (Str.ofString "text", .str (T l) t1)]) (more := [])
    (gl := [(Str.ofString "parse257", .ref 114), (Str.ofString "split", .ref 809)]) S (O.withFo F G hord) hA ?h1 ?h2 ?h3 ?h4 ?h5 ?_
  case h1 => k_is
  case h2 => k_is
  case h3 => exact BindsTo.of_eq rfl
  case h4 => kernel_rfl
  case h5 => kernel_rfl
  intro env A' s1 hA' hloc hfm hst' H D
  replace D : St s g env [(Str.ofString "way", some (.int way t0)), (Str.ofString "text", some (.str (T l) t1))] s1 fo := D
  have hlo : ∀ b ∈ frs fl, b < env.locals := fun b hb => hloc ▸ hlt b hb
  clear hlt hloc G hno hfr
  generalize s = B at D k hs0 O F
  clear O
  wtm_at "ms"
  rcases hl with ⟨rfl, r, rfl, hr, hrl⟩ | ⟨hw, rfl⟩
  · refine ite_t rfl ?_
    wtm_at "ms"
    refine use0 (t257 w r hrl t1) S (hA'.less (by decide)) D fun v own' s hp D => ?_
    obtain ⟨t, rfl, rfl⟩ := hp
    rw [hr] at *
    replace D : St B g env _ s fo := D
    wtm_at "ms"
    refine r_newlist D (Nat.le_of_ble_eq_true rfl) ?_; wtm_at "nl"; intro b s hbB D; wtm_at "ms"
    exact St.leaveF (news := [(b, Lo [.str (T z) t] 0)]) D F (List.Sublist.refl _) (fun p hp => by rw [List.mem_singleton.mp hp]; exact hbB) hs0 ⟨b, 0, t, rfl, rfl⟩ k
  · refine ite_f (by rw [beq_eq_false_iff_ne]; exact hw) ?_
    wtm_at "ms"
    refine wpAny_call (useEn (news := []) (tSplit w z hz hg t1) S (hA'.less (by decide)) hfm (hst' _ hst) F hlo D fun r own' fo' s' hp hB F D => ?_)
    obtain ⟨l, m, t, rfl, rfl⟩ := hp
    have hb := hB (l, Lo [.str (T z) t] m) (.head _)
    replace D : St B g env _ s' ((l, Lo [.str (T z) t] m) :: fo') := D
    wtm_at "ms"
    exact St.leaveF (news := [(l, Lo [.str (T z) t] m)]) D F (List.Sublist.refl _) (fun p hp => by rw [List.mem_singleton.mp hp]; exact hb) hs0 ⟨l, m, t, rfl, rfl⟩ k

end
section
/-! ## a pattern's items over all places -/
noncomputable def Mat : List (Option Nat) → List Nat → Prop
  | [], n => n = []
  | none :: p, n => ∃ a b, n = a ++ b ∧ Mat p b
  | some c :: p, n => ∃ r, n = c :: r ∧ Mat p r
theorem mat_star {p : List (Option Nat)} {n : List Nat} (a : List Nat) (h : Mat (none :: p) n) : Mat (none :: p) (a ++ n) := by
  obtain ⟨x, y, e, h⟩ := h
  exact ⟨a ++ x, y, by rw [e, List.append_assoc], h⟩
theorem mat_some : ∀ (x : List Nat) {p : List (Option Nat)} {n : List Nat}, Mat (x.map some ++ p) n ↔ ∃ r, n = x ++ r ∧ Mat p r
  | [], p, n => ⟨fun h => ⟨n, rfl, h⟩, fun ⟨_, e, h⟩ => e ▸ h⟩
  | c :: x, p, n => by
    constructor
    · rintro ⟨r, rfl, h⟩
      obtain ⟨r', rfl, h'⟩ := (mat_some x).mp h
      exact ⟨r', rfl, h'⟩
    · rintro ⟨r, rfl, h⟩
      exact ⟨x ++ r, rfl, (mat_some x).mpr ⟨r, rfl, h⟩⟩
theorem mat_two : ∀ (X : List (Option Nat)) {Y : List (Option Nat)} {n : List Nat}, Mat (X ++ none :: none :: Y) n ↔ Mat (X ++ none :: Y) n
  | [], Y, n => by
    constructor
    · rintro ⟨a, b, rfl, c, d, rfl, h⟩
      exact ⟨a ++ c, d, by rw [List.append_assoc], h⟩
    · rintro ⟨a, b, rfl, h⟩
      exact ⟨a, b, rfl, [], b, rfl, h⟩
  | none :: X, Y, n => by
    constructor
    · rintro ⟨a, b, rfl, h⟩; exact ⟨a, b, rfl, (mat_two X).mp h⟩
    · rintro ⟨a, b, rfl, h⟩; exact ⟨a, b, rfl, (mat_two X).mpr h⟩
  | some c :: X, Y, n => by
    constructor
    · rintro ⟨a, rfl, h⟩; exact ⟨a, rfl, (mat_two X).mp h⟩
    · rintro ⟨a, rfl, h⟩; exact ⟨a, rfl, (mat_two X).mpr h⟩
noncomputable def toks : List (List Nat) → List (Option Nat)
  | [] => []
  | [x] => x.map some
  | x :: y :: r => x.map some ++ none :: toks (y :: r)
theorem toks_snoc : ∀ (l : List (List Nat)), l ≠ [] → ∀ x, toks (l ++ [x]) = toks l ++ none :: x.map some
  | [], h, _ => absurd rfl h
  | [y], _, x => rfl
  | y :: z :: r, _, x => by
    have ih := toks_snoc (z :: r) (List.cons_ne_nil _ _) x
    show y.map some ++ none :: toks (z :: (r ++ [x])) = (y.map some ++ none :: toks (z :: r)) ++ none :: x.map some
    rw [show z :: (r ++ [x]) = (z :: r) ++ [x] from rfl, ih, List.append_assoc]; rfl
theorem mat_end (x : List Nat) {n : List Nat} : Mat (x.map some) n ↔ n = x := by
  have := mat_some x (p := []) (n := n)
  rw [List.append_nil] at this
  rw [this]
  constructor
  · rintro ⟨r, rfl, h⟩; rw [show r = [] from h, List.append_nil]
  · rintro rfl; exact ⟨[], by simp, rfl⟩
theorem run_toks : ∀ {ps : List (List Nat)} {n : List Nat}, ps ≠ [] → (Run ps n ↔ Mat (none :: toks ps) n)
  | [], _, h => absurd rfl h
  | [q], n, _ => by
    constructor
    · rintro ⟨a, rfl⟩; exact ⟨a, q, rfl, (mat_end q).mpr rfl⟩
    · rintro ⟨a, b, rfl, h⟩; exact ⟨a, by rw [(mat_end q).mp h]⟩
  | p :: q :: r, n, _ => by
    have ih := fun n => run_toks (ps := q :: r) (n := n) (List.cons_ne_nil _ _)
    constructor
    · rintro ⟨a, b, rfl, h⟩
      exact ⟨a, p ++ b, rfl, (mat_some p).mpr ⟨b, rfl, (ih b).mp h⟩⟩
    · rintro ⟨a, b, rfl, h⟩
      obtain ⟨c, e, h'⟩ := (mat_some p).mp h
      subst e
      exact ⟨a, c, rfl, (ih c).mpr h'⟩
theorem fit_toks : ∀ {ps : List (List Nat)} {n : List Nat}, ps ≠ [] → (Fit ps n ↔ Mat (toks ps) n)
  | [], _, h => absurd rfl h
  | [q], n, _ => (mat_end q).symm
  | p :: q :: r, n, _ => by
    have ih := fun n => run_toks (ps := q :: r) (n := n) (List.cons_ne_nil _ _)
    constructor
    · rintro ⟨b, rfl, h⟩
      exact (mat_some p).mpr ⟨b, rfl, (ih b).mp h⟩
    · intro h
      obtain ⟨c, e, h'⟩ := (mat_some p).mp h
      subst e
      exact ⟨c, rfl, (ih c).mpr h'⟩
theorem step_ne {q : List (List Nat)} (h : q ≠ []) (t : Option Nat) : stepQ q t ≠ [] := by
  cases q with
  | nil => exact absurd rfl h
  | cons p r =>
    cases t with
    | some c => exact List.cons_ne_nil _ _
    | none => unfold stepQ; dsimp only; split <;> exact List.cons_ne_nil _ _
theorem step_toks {q : List (List Nat)} (h : q ≠ []) (t : Option Nat) (p : List (Option Nat)) (n : List Nat) : Mat (toks q.reverse ++ t :: p) n ↔ Mat (toks (stepQ q t).reverse ++ p) n := by
  cases q with
  | nil => exact absurd rfl h
  | cons x r =>
    have snoc : ∀ y, toks (y :: r).reverse = if r = [] then y.map some else toks r.reverse ++ none :: y.map some := fun y => by
      rw [List.reverse_cons]
      by_cases hr : r = []
      · subst hr; rfl
      · rw [if_neg hr, toks_snoc _ (by simpa using hr)]
    cases t with
    | some c =>
      have : stepQ (x :: r) (some c) = (x ++ [c]) :: r := rfl
      rw [this, snoc, snoc]
      by_cases hr : r = []
      · rw [if_pos hr, if_pos hr]; simp
      · rw [if_neg hr, if_neg hr]; simp
    | none =>
      by_cases hx : x = [] ∧ r ≠ []
      · obtain ⟨rfl, hr⟩ := hx
        obtain ⟨a, b, rfl⟩ := List.exists_cons_of_ne_nil hr
        have : stepQ ([] :: a :: b) none = [] :: a :: b := rfl
        rw [this, snoc, if_neg (List.cons_ne_nil _ _), List.map_nil, List.append_assoc, List.append_assoc]
        exact mat_two _
      · have : stepQ (x :: r) none = [] :: x :: r := by
          unfold stepQ
          dsimp only
          split
          · rename_i a b e
            injection e with e1 e2
            exact absurd ⟨e1, by rw [e2]; simp⟩ hx
          · rfl
        have e2 : ([] :: x :: r).reverse = (x :: r).reverse ++ [[]] := List.reverse_cons
        have hn : (x :: r).reverse ≠ [] := fun e => by have := congrArg List.length e; simp at this
        rw [this, e2, toks_snoc _ hn [], List.map_nil, List.append_assoc]; rfl
theorem fold_toks : ∀ (p : List (Option Nat)) {q : List (List Nat)} (n : List Nat), q ≠ [] → (Mat (toks q.reverse ++ p) n ↔ Mat (toks (p.foldl stepQ q).reverse) n)
  | [], q, n, _ => by rw [List.append_nil]; rfl
  | t :: p, q, n, h => (step_toks h t p n).trans (fold_toks p n (step_ne h t))
theorem pcsR_ne (p : List (Option Nat)) : pcsR p ≠ [] := (inv_pcs p).ne
theorem fit_pcs (p : List (Option Nat)) (n : List Nat) : Fit (pcs p) n ↔ Mat p n := by
  have h := fold_toks p (q := [[]]) n (List.cons_ne_nil _ _)
  have e : toks ([[]] : List (List Nat)).reverse ++ p = p := rfl
  rw [e] at h
  rw [h]
  exact fit_toks (fun e => pcsR_ne p (List.reverse_eq_nil_iff.mp e))
/-! ## the places that a pattern reaches -/
noncomputable def plStep (name : List Nat) (pl : List Nat) : Option Nat → List Nat
  | none => match pl with
    | [] => []
    | k :: _ => (List.range (name.length + 1 - k)).map (k + ·)
  | some c => (pl.filter fun k => decide (name[k]? = some c)).map (· + 1)
structure PlOk (name : List Nat) (pl : List Nat) : Prop where
  le : ∀ k ∈ pl, k ≤ name.length
  ord : pl.Pairwise (· < ·)
theorem PlOk.start (name : List Nat) : PlOk name [0] := ⟨fun k hk => by rw [List.mem_singleton.mp hk]; exact Nat.zero_le _, by simp⟩
theorem PlOk.step {name pl : List Nat} (h : PlOk name pl) (t : Option Nat) : PlOk name (plStep name pl t) := by
  cases t with
  | none =>
    cases pl with
    | nil => exact h
    | cons k r =>
      refine ⟨fun j hj => ?_, ?_⟩
      · obtain ⟨i, hi, rfl⟩ := List.mem_map.mp hj
        have := List.mem_range.mp hi
        have := h.le k List.mem_cons_self
        omega
      · show ((List.range (name.length + 1 - k)).map (k + ·)).Pairwise (· < ·)
        rw [List.pairwise_map]
        exact List.Pairwise.imp (fun h => Nat.add_lt_add_left h _) List.pairwise_lt_range
  | some c =>
    refine ⟨fun j hj => ?_, ?_⟩
    · obtain ⟨i, hi, rfl⟩ := List.mem_map.mp hj
      obtain ⟨_, h2⟩ := List.mem_filter.mp hi
      exact (List.getElem?_eq_some_iff.mp (of_decide_eq_true h2)).1
    · show ((pl.filter fun k => decide (name[k]? = some c)).map (· + 1)).Pairwise (· < ·)
      rw [List.pairwise_map]
      exact (List.Pairwise.filter _ h.ord).imp fun h => Nat.add_lt_add_right h 1
theorem PlOk.fold {name : List Nat} : ∀ (p : List (Option Nat)) {pl : List Nat}, PlOk name pl → PlOk name (p.foldl (plStep name) pl)
  | [], _, h => h
  | t :: p, _, h => PlOk.fold p (h.step t)
theorem asc_len : ∀ (l : List Nat) (a N : Nat), l.Pairwise (· < ·) → (∀ k ∈ l, a ≤ k ∧ k ≤ N) → l.length ≤ N + 1 - a
  | [], _, _, _, _ => Nat.zero_le _
  | k :: r, a, N, h, hb => by
    rw [List.pairwise_cons] at h
    have ih := asc_len r (k + 1) N h.2 fun j hj => ⟨h.1 j hj, (hb j (List.mem_cons_of_mem _ hj)).2⟩
    have := hb k List.mem_cons_self
    rw [List.length_cons]
    rw [Nat.succ_sub_succ] at ih
    exact Nat.le_trans (Nat.succ_le_succ ih) (Nat.le_trans (Nat.le_of_eq (Nat.succ_sub this.2).symm) (Nat.sub_le_sub_left this.1 _))
theorem PlOk.len {name pl : List Nat} (h : PlOk name pl) : pl.length ≤ name.length + 1 := asc_len pl 0 name.length h.ord fun k hk => ⟨Nat.zero_le _, h.le k hk⟩
theorem mat_drop {name : List Nat} {k : Nat} (c : Nat) (p : List (Option Nat)) : Mat (some c :: p) (name.drop k) ↔ name[k]? = some c ∧ Mat p (name.drop (k + 1)) := by
  constructor
  · rintro ⟨r, e, h⟩
    refine ⟨drop_at e, ?_⟩
    rw [drop_more e]; exact h
  · rintro ⟨e, h⟩
    obtain ⟨hlt, e⟩ := List.getElem?_eq_some_iff.mp e
    exact ⟨name.drop (k + 1), by rw [List.drop_eq_getElem_cons hlt, e], h⟩
theorem mat_star_drop {name : List Nat} {k : Nat} (hk : k ≤ name.length) (p : List (Option Nat)) : Mat (none :: p) (name.drop k) ↔ ∃ j, k ≤ j ∧ j ≤ name.length ∧ Mat p (name.drop j) := by
  constructor
  · rintro ⟨a, b, e, h⟩
    have hl : (name.drop k).length = a.length + b.length := by rw [e, List.length_append]
    rw [List.length_drop] at hl
    refine ⟨k + a.length, Nat.le_add_right _ _, by omega, ?_⟩
    rw [← List.drop_drop, e, List.drop_left]; exact h
  · rintro ⟨j, h1, h2, h⟩
    refine ⟨(name.drop k).take (j - k), name.drop j, ?_, h⟩
    have := (List.take_append_drop (j - k) (name.drop k)).symm
    rw [List.drop_drop, Nat.add_sub_of_le h1] at this
    exact this
theorem fold_places (name : List Nat) : ∀ (p : List (Option Nat)) {pl : List Nat}, PlOk name pl → (name.length ∈ p.foldl (plStep name) pl ↔ ∃ k ∈ pl, Mat p (name.drop k))
  | [], pl, h => by
    constructor
    · intro hm; exact ⟨_, hm, List.drop_length⟩
    · rintro ⟨k, hk, e⟩
      have := h.le k hk
      have e2 : name.length - k = 0 := by have := congrArg List.length (show name.drop k = [] from e); simpa using this
      have : k = name.length := Nat.le_antisymm this (Nat.le_of_sub_eq_zero e2)
      exact this ▸ hk
  | none :: p, pl, h => by
    show name.length ∈ p.foldl (plStep name) (plStep name pl none) ↔ _
    rw [fold_places name p (h.step none)]
    cases pl with
    | nil => constructor <;> (rintro ⟨k, hk, _⟩; cases hk)
    | cons k0 r =>
      have h0 := h.le k0 List.mem_cons_self
      constructor
      · rintro ⟨j, hj, hm⟩
        obtain ⟨i, hi, rfl⟩ := List.mem_map.mp hj
        have := List.mem_range.mp hi
        exact ⟨k0, List.mem_cons_self, (mat_star_drop h0 p).mpr ⟨k0 + i, Nat.le_add_right _ _, Nat.add_le_of_le_sub' h0 (Nat.le_of_lt_succ (Nat.lt_of_lt_of_eq this (Nat.succ_sub h0))), hm⟩⟩
      · rintro ⟨k, hk, hm⟩
        obtain ⟨j, h1, h2, hm⟩ := (mat_star_drop (h.le k hk) p).mp hm
        have hk0 : k0 ≤ k := by
          rcases List.mem_cons.mp hk with rfl | hk
          · exact Nat.le_refl _
          · exact Nat.le_of_lt ((List.pairwise_cons.mp h.ord).1 k hk)
        refine ⟨j, List.mem_map.mpr ⟨j - k0, List.mem_range.mpr (Nat.sub_lt_sub_right (Nat.le_trans hk0 h1) (Nat.lt_succ_of_le h2)), Nat.add_sub_of_le (Nat.le_trans hk0 h1)⟩, hm⟩
  | some c :: p, pl, h => by
    show name.length ∈ p.foldl (plStep name) (plStep name pl (some c)) ↔ _
    rw [fold_places name p (h.step (some c))]
    constructor
    · rintro ⟨j, hj, hm⟩
      obtain ⟨i, hi, rfl⟩ := List.mem_map.mp hj
      obtain ⟨h1, h2⟩ := List.mem_filter.mp hi
      exact ⟨i, h1, (mat_drop c p).mpr ⟨of_decide_eq_true h2, hm⟩⟩
    · rintro ⟨k, hk, hm⟩
      obtain ⟨h1, h2⟩ := (mat_drop c p).mp hm
      exact ⟨k + 1, List.mem_map.mpr ⟨k, List.mem_filter.mpr ⟨hk, decide_eq_true h1⟩, rfl⟩, h2⟩
theorem places_mat (name : List Nat) (p : List (Option Nat)) : name.length ∈ p.foldl (plStep name) [0] ↔ Mat p name := by
  rw [fold_places name p (PlOk.start name)]
  constructor
  · rintro ⟨k, hk, h⟩; rw [List.mem_singleton.mp hk] at h; exact h
  · intro h; exact ⟨0, List.mem_singleton.mpr rfl, h⟩

end
section
/-! ## dressing: a coded pattern means for the coded name what the bare one means for the bare name -/
noncomputable def e1 (c : Nat) : List Nat := if c = 34 then [34, 34] else [c]
theorem e1_34 : e1 34 = [34, 34] := rfl
theorem e1_ne {c : Nat} (h : c ≠ 34) : e1 c = [c] := if_neg h
theorem e0_92 : e0 92 = [92, 92] := rfl
theorem e0_34 : e0 34 = [92, 34] := rfl
theorem e0_ne {c : Nat} (h1 : c ≠ 92) (h2 : c ≠ 34) : e0 c = [c] := by unfold e0; rw [if_neg h1, if_neg h2]
noncomputable def tokE (e : Nat → List Nat) : Option Nat → List (Option Nat)
  | none => [none]
  | some c => (e c).map some
noncomputable def pE (e : Nat → List Nat) (p : List (Option Nat)) : List (Option Nat) := p.flatMap (tokE e)
theorem pE_none (e : Nat → List Nat) (p : List (Option Nat)) : pE e (none :: p) = none :: pE e p := rfl
theorem pE_some (e : Nat → List Nat) (c : Nat) (p : List (Option Nat)) : pE e (some c :: p) = (e c).map some ++ pE e p := rfl
theorem dress_fwd (e : Nat → List Nat) {t : List (Option Nat)} {s : List Nat} (ht : Mat t s) : ∀ {p : List (Option Nat)} {n : List Nat}, Mat p n → Mat (pE e p ++ t) (n.flatMap e ++ s)
  | [], n, h => by rw [show n = [] from h]; exact ht
  | none :: p, n, ⟨a, b, hn, h⟩ => by
    subst hn
    rw [pE_none, List.flatMap_append, List.append_assoc]
    exact ⟨_, _, rfl, dress_fwd e ht h⟩
  | some c :: p, n, ⟨r, hn, h⟩ => by
    subst hn
    rw [pE_some, List.append_assoc, List.flatMap_cons, List.append_assoc]
    exact (mat_some _).mpr ⟨_, rfl, dress_fwd e ht h⟩
theorem noNil (c : Nat) : ∀ (X : List (Option Nat)), ¬ Mat (X ++ [some c]) []
  | [], h => by obtain ⟨r, h, _⟩ := h; cases h
  | none :: X, h => by
    obtain ⟨a, b, h, h'⟩ := h
    obtain ⟨_, rfl⟩ := List.append_eq_nil_iff.mp h.symm
    exact noNil c X h'
  | some _ :: X, h => by obtain ⟨r, h, _⟩ := h; cases h
theorem suf1 : ∀ (n : List Nat) {a b : List Nat}, n.flatMap e1 ++ [34] = a ++ b → (∃ n1 m, n = n1 ++ m ∧ b = m.flatMap e1 ++ [34]) ∨ (∃ n1 m, n = n1 ++ 34 :: m ∧ b = 34 :: (m.flatMap e1 ++ [34])) ∨ b = []
  | n, [], b, h => .inl ⟨[], n, rfl, h.symm⟩
  | [], x :: a, b, h => by
    have : [] = a ++ b := (List.cons.inj h).2
    exact .inr (.inr (List.append_eq_nil_iff.mp this.symm).2)
  | c :: n, x :: a, b, h => by
    by_cases hc : c = 34
    · subst hc
      rw [List.flatMap_cons, e1_34] at h
      have h2 : 34 :: (n.flatMap e1 ++ [34]) = a ++ b := (List.cons.inj h).2
      cases a with
      | nil => exact .inr (.inl ⟨[], n, rfl, h2.symm⟩)
      | cons y a =>
        rcases suf1 n (List.cons.inj h2).2 with ⟨n1, m, e, e'⟩ | ⟨n1, m, e, e'⟩ | e
        · exact .inl ⟨34 :: n1, m, by rw [e]; rfl, e'⟩
        · exact .inr (.inl ⟨34 :: n1, m, by rw [e]; rfl, e'⟩)
        · exact .inr (.inr e)
    · rw [List.flatMap_cons, e1_ne hc] at h
      rcases suf1 n (List.cons.inj h).2 with ⟨n1, m, e, e'⟩ | ⟨n1, m, e, e'⟩ | e
      · exact .inl ⟨c :: n1, m, by rw [e]; rfl, e'⟩
      · exact .inr (.inl ⟨c :: n1, m, by rw [e]; rfl, e'⟩)
      · exact .inr (.inr e)
theorem dA1 : ∀ (p : List (Option Nat)), (∀ n, Mat (pE e1 p ++ [some 34]) (n.flatMap e1 ++ [34]) → Mat p n) ∧ (∀ m, Mat (pE e1 p ++ [some 34]) (34 :: (m.flatMap e1 ++ [34])) → Mat p m)
  | [] => by
    refine ⟨fun n h => ?_, fun m h => ?_⟩
    · obtain ⟨r, h, hr⟩ := h
      rw [show r = [] from hr] at h
      cases n with
      | nil => rfl
      | cons d n =>
        rw [List.flatMap_cons] at h
        have := congrArg List.length h
        have : 1 ≤ (e1 d).length := by unfold e1; split <;> simp
        simp at *; omega
    · obtain ⟨r, h, hr⟩ := h
      rw [show r = [] from hr] at h
      simp at h
  | none :: p => by
    obtain ⟨A, B⟩ := dA1 p
    have st : ∀ n a b, n.flatMap e1 ++ [34] = a ++ b → Mat (pE e1 p ++ [some 34]) b → Mat (none :: p) n := fun n a b h hb => by
      rcases suf1 n h with ⟨n1, m, rfl, rfl⟩ | ⟨n1, m, rfl, rfl⟩ | rfl
      · exact ⟨n1, m, rfl, A m hb⟩
      · exact ⟨n1 ++ [34], m, by simp, B m hb⟩
      · exact absurd hb (noNil _ _)
    refine ⟨fun n h => ?_, fun m h => ?_⟩
    · obtain ⟨a, b, h, hb⟩ := h
      exact st n a b h hb
    · obtain ⟨a, b, h, hb⟩ := h
      cases a with
      | nil => exact ⟨[], m, rfl, B m (h ▸ hb)⟩
      | cons x a => exact st m a b (List.cons.inj h).2 hb
  | some c :: p => by
    obtain ⟨A, B⟩ := dA1 p
    by_cases hc : c = 34
    · subst hc
      refine ⟨fun n h => ?_, fun m h => ?_⟩
      · rw [pE_some, e1_34] at h
        obtain ⟨r, h, r', rfl, hr⟩ := h
        cases n with
        | nil => simp at h
        | cons d n =>
          by_cases hd : d = 34
          · subst hd
            rw [List.flatMap_cons, e1_34] at h
            exact ⟨n, rfl, A n (by have := (List.cons.inj (List.cons.inj h).2).2; rw [← this] at hr; exact hr)⟩
          · rw [List.flatMap_cons, e1_ne hd] at h
            exact absurd (List.cons.inj h).1 hd
      · rw [pE_some, e1_34] at h
        obtain ⟨r, h, r', rfl, hr⟩ := h
        have h := (List.cons.inj h).2
        cases m with
        | nil =>
          have : r' = [] := (List.cons.inj h).2.symm
          subst this
          exact absurd hr (noNil _ _)
        | cons d m =>
          by_cases hd : d = 34
          · subst hd
            rw [List.flatMap_cons, e1_34] at h
            have := (List.cons.inj h).2
            rw [← this] at hr
            exact ⟨m, rfl, B m hr⟩
          · rw [List.flatMap_cons, e1_ne hd] at h
            exact absurd (List.cons.inj h).1 hd
    · refine ⟨fun n h => ?_, fun m h => ?_⟩
      · rw [pE_some, e1_ne hc] at h
        obtain ⟨r, h, hr⟩ := h
        cases n with
        | nil => exact absurd (List.cons.inj h).1.symm hc
        | cons d n =>
          by_cases hd : d = 34
          · subst hd
            rw [List.flatMap_cons, e1_34] at h
            exact absurd (List.cons.inj h).1.symm hc
          · rw [List.flatMap_cons, e1_ne hd] at h
            obtain ⟨h1, h2⟩ := List.cons.inj h
            have h3 : n.flatMap e1 ++ [34] = r := h2
            exact ⟨n, by rw [h1], A n (by rw [h3]; exact hr)⟩
      · rw [pE_some, e1_ne hc] at h
        obtain ⟨r, h, hr⟩ := h
        exact absurd (List.cons.inj h).1.symm hc
theorem suf0 : ∀ (n : List Nat) {a b : List Nat}, n.flatMap e0 ++ [34] = a ++ b → (∃ n1 m, n = n1 ++ m ∧ b = m.flatMap e0 ++ [34]) ∨ (∃ n1 m, n = n1 ++ 92 :: m ∧ b = 92 :: (m.flatMap e0 ++ [34])) ∨ (∃ n1 m, n = n1 ++ 34 :: m ∧ b = 34 :: (m.flatMap e0 ++ [34])) ∨ b = []
  | n, [], b, h => .inl ⟨[], n, rfl, h.symm⟩
  | [], x :: a, b, h => by
    have : [] = a ++ b := (List.cons.inj h).2
    exact .inr (.inr (.inr (List.append_eq_nil_iff.mp this.symm).2))
  | c :: n, x :: a, b, h => by
    have more : ∀ {a b}, n.flatMap e0 ++ [34] = a ++ b → (∃ n1 m, c :: n = n1 ++ m ∧ b = m.flatMap e0 ++ [34]) ∨ (∃ n1 m, c :: n = n1 ++ 92 :: m ∧ b = 92 :: (m.flatMap e0 ++ [34])) ∨ (∃ n1 m, c :: n = n1 ++ 34 :: m ∧ b = 34 :: (m.flatMap e0 ++ [34])) ∨ b = [] := fun h => by
      rcases suf0 n h with ⟨n1, m, e, e'⟩ | ⟨n1, m, e, e'⟩ | ⟨n1, m, e, e'⟩ | e
      · exact .inl ⟨c :: n1, m, by rw [e]; rfl, e'⟩
      · exact .inr (.inl ⟨c :: n1, m, by rw [e]; rfl, e'⟩)
      · exact .inr (.inr (.inl ⟨c :: n1, m, by rw [e]; rfl, e'⟩))
      · exact .inr (.inr (.inr e))
    by_cases h92 : c = 92
    · subst h92
      rw [List.flatMap_cons, e0_92] at h
      have h2 : 92 :: (n.flatMap e0 ++ [34]) = a ++ b := (List.cons.inj h).2
      cases a with
      | nil => exact .inr (.inl ⟨[], n, rfl, h2.symm⟩)
      | cons y a => exact more (List.cons.inj h2).2
    · by_cases h34 : c = 34
      · subst h34
        rw [List.flatMap_cons, e0_34] at h
        have h2 : 34 :: (n.flatMap e0 ++ [34]) = a ++ b := (List.cons.inj h).2
        cases a with
        | nil => exact .inr (.inr (.inl ⟨[], n, rfl, h2.symm⟩))
        | cons y a => exact more (List.cons.inj h2).2
      · rw [List.flatMap_cons, e0_ne h92 h34] at h
        exact more (List.cons.inj h).2
/-- how a coded text begins -/
theorem beg0 (m : List Nat) : (m = [] ∧ m.flatMap e0 ++ [34] = [34]) ∨ (∃ m', m = 92 :: m' ∧ m.flatMap e0 ++ [34] = 92 :: 92 :: (m'.flatMap e0 ++ [34])) ∨ (∃ m', m = 34 :: m' ∧ m.flatMap e0 ++ [34] = 92 :: 34 :: (m'.flatMap e0 ++ [34])) ∨
    ∃ d m', d ≠ 92 ∧ d ≠ 34 ∧ m = d :: m' ∧ m.flatMap e0 ++ [34] = d :: (m'.flatMap e0 ++ [34]) := by
  cases m with
  | nil => exact .inl ⟨rfl, rfl⟩
  | cons d m =>
    by_cases h92 : d = 92
    · subst h92; exact .inr (.inl ⟨m, rfl, rfl⟩)
    · by_cases h34 : d = 34
      · subst h34; exact .inr (.inr (.inl ⟨m, rfl, rfl⟩))
      · exact .inr (.inr (.inr ⟨d, m, h92, h34, rfl, by rw [List.flatMap_cons, e0_ne h92 h34]; rfl⟩))
theorem dA0 : ∀ (p : List (Option Nat)), (∀ n, Mat (pE e0 p ++ [some 34]) (n.flatMap e0 ++ [34]) → Mat p n) ∧ (∀ m, Mat (pE e0 p ++ [some 34]) (92 :: (m.flatMap e0 ++ [34])) → Mat p m ∨ Mat p (92 :: m)) ∧
    (∀ m, Mat (pE e0 p ++ [some 34]) (34 :: (m.flatMap e0 ++ [34])) → (∃ q, p = none :: q) ∧ Mat p m)
  | [] => by
    refine ⟨fun n h => ?_, fun m h => ?_, fun m h => ?_⟩
    · obtain ⟨r, h, hr⟩ := h
      rw [show r = [] from hr] at h
      rcases beg0 n with ⟨rfl, e⟩ | ⟨m', rfl, e⟩ | ⟨m', rfl, e⟩ | ⟨d, m', h1, h2, rfl, e⟩
      · rfl
      · rw [e] at h; cases h
      · rw [e] at h; cases h
      · rw [e] at h; exact absurd (List.cons.inj h).1 h2
    · obtain ⟨r, h, hr⟩ := h
      cases h
    · obtain ⟨r, h, hr⟩ := h
      rw [show r = [] from hr] at h
      simp at h
  | none :: p => by
    obtain ⟨A, B, C⟩ := dA0 p
    have st : ∀ n a b, n.flatMap e0 ++ [34] = a ++ b → Mat (pE e0 p ++ [some 34]) b → Mat (none :: p) n := fun n a b h hb => by
      rcases suf0 n h with ⟨n1, m, rfl, rfl⟩ | ⟨n1, m, rfl, rfl⟩ | ⟨n1, m, rfl, rfl⟩ | rfl
      · exact ⟨n1, m, rfl, A m hb⟩
      · rcases B m hb with z | z
        · exact ⟨n1 ++ [92], m, by simp, z⟩
        · exact ⟨n1, 92 :: m, rfl, z⟩
      · exact ⟨n1 ++ [34], m, by simp, (C m hb).2⟩
      · exact absurd hb (noNil _ _)
    refine ⟨fun n h => ?_, fun m h => ?_, fun m h => ?_⟩
    · obtain ⟨a, b, h, hb⟩ := h
      exact st n a b h hb
    · obtain ⟨a, b, h, hb⟩ := h
      cases a with
      | nil =>
        rcases B m (h ▸ hb) with z | z
        · exact .inl ⟨[], m, rfl, z⟩
        · exact .inr ⟨[], 92 :: m, rfl, z⟩
      | cons x a => exact .inl (st m a b (List.cons.inj h).2 hb)
    · refine ⟨⟨p, rfl⟩, ?_⟩
      obtain ⟨a, b, h, hb⟩ := h
      cases a with
      | nil => exact ⟨[], m, rfl, (C m (h ▸ hb)).2⟩
      | cons x a => exact st m a b (List.cons.inj h).2 hb
  | some c :: p => by
    obtain ⟨A, B, C⟩ := dA0 p
    by_cases h92 : c = 92
    · subst h92
      rw [pE_some, e0_92]
      refine ⟨fun n h => ?_, fun m h => ?_, fun m h => ?_⟩
      · obtain ⟨r, h, r', rfl, hr⟩ := h
        rcases beg0 n with ⟨rfl, e⟩ | ⟨m', rfl, e⟩ | ⟨m', rfl, e⟩ | ⟨d, m', h1, h2, rfl, e⟩
        · rw [e] at h; cases h
        · rw [e] at h
          have := (List.cons.inj (List.cons.inj h).2).2
          rw [← this] at hr
          exact ⟨m', rfl, A m' hr⟩
        · rw [e] at h
          have := (List.cons.inj (List.cons.inj h).2).1
          cases this
        · rw [e] at h; exact absurd (List.cons.inj h).1 h1
      · obtain ⟨r, h, r', rfl, hr⟩ := h
        have h := (List.cons.inj h).2
        rcases beg0 m with ⟨rfl, e⟩ | ⟨m', rfl, e⟩ | ⟨m', rfl, e⟩ | ⟨d, m', h1, h2, rfl, e⟩
        · rw [e] at h; cases h
        · rw [e] at h
          have := (List.cons.inj h).2
          rw [← this] at hr
          rcases B m' hr with z | z
          · exact .inl ⟨m', rfl, z⟩
          · exact .inr ⟨92 :: m', rfl, z⟩
        · rw [e] at h
          have := (List.cons.inj h).2
          rw [← this] at hr
          obtain ⟨⟨q, rfl⟩, z⟩ := C m' hr
          exact .inr ⟨34 :: m', rfl, mat_star [34] z⟩
        · rw [e] at h; exact absurd (List.cons.inj h).1 h1
      · obtain ⟨r, h, _⟩ := h
        cases h
    · by_cases h34 : c = 34
      · subst h34
        rw [pE_some, e0_34]
        refine ⟨fun n h => ?_, fun m h => ?_, fun m h => ?_⟩
        · obtain ⟨r, h, r', rfl, hr⟩ := h
          rcases beg0 n with ⟨rfl, e⟩ | ⟨m', rfl, e⟩ | ⟨m', rfl, e⟩ | ⟨d, m', h1, h2, rfl, e⟩
          · rw [e] at h; cases h
          · rw [e] at h
            have := (List.cons.inj (List.cons.inj h).2).1
            cases this
          · rw [e] at h
            have := (List.cons.inj (List.cons.inj h).2).2
            rw [← this] at hr
            exact ⟨m', rfl, A m' hr⟩
          · rw [e] at h; exact absurd (List.cons.inj h).1 h1
        · obtain ⟨r, h, r', rfl, hr⟩ := h
          have h := (List.cons.inj h).2
          rcases beg0 m with ⟨rfl, e⟩ | ⟨m', rfl, e⟩ | ⟨m', rfl, e⟩ | ⟨d, m', h1, h2, rfl, e⟩
          · rw [e] at h
            have : r' = [] := (List.cons.inj h).2.symm
            subst this
            exact absurd hr (noNil _ _)
          · rw [e] at h; cases (List.cons.inj h).1
          · rw [e] at h; cases (List.cons.inj h).1
          · rw [e] at h; exact absurd (List.cons.inj h).1 h2
        · obtain ⟨r, h, _⟩ := h
          cases h
      · rw [pE_some, e0_ne h92 h34]
        refine ⟨fun n h => ?_, fun m h => ?_, fun m h => ?_⟩
        · obtain ⟨r, h, hr⟩ := h
          rcases beg0 n with ⟨rfl, e⟩ | ⟨m', rfl, e⟩ | ⟨m', rfl, e⟩ | ⟨d, m', h1, h2, rfl, e⟩
          · rw [e] at h; exact absurd (List.cons.inj h).1.symm h34
          · rw [e] at h; exact absurd (List.cons.inj h).1.symm h92
          · rw [e] at h; exact absurd (List.cons.inj h).1.symm h92
          · rw [e] at h
            obtain ⟨h3, h4⟩ := List.cons.inj h
            rw [← h4] at hr
            exact ⟨m', by rw [h3], A m' hr⟩
        · obtain ⟨r, h, _⟩ := h
          exact absurd (List.cons.inj h).1.symm h92
        · obtain ⟨r, h, _⟩ := h
          exact absurd (List.cons.inj h).1.symm h34
/-- the dressing of items and of a name -/
noncomputable def preW (way : Int) : List Nat := if way = 1 then [50, 53, 55, 32, 34] else [34]
noncomputable def ew (way : Int) : Nat → List Nat := if way = 1 then e1 else e0
noncomputable def dT (way : Int) (p : List (Option Nat)) : List (Option Nat) := (preW way).map some ++ (pE (ew way) p ++ [some 34])
noncomputable def dN (way : Int) (n : List Nat) : List Nat := preW way ++ (n.flatMap (ew way) ++ [34])
theorem dress_mat (way : Int) (p : List (Option Nat)) (n : List Nat) : Mat (dT way p) (dN way n) ↔ Mat p n := by
  have h34 : Mat [some 34] [34] := ⟨[], rfl, rfl⟩
  unfold dT dN
  rw [mat_some]
  constructor
  · rintro ⟨r, e, h⟩
    rw [← List.append_cancel_left e] at h
    unfold ew at h
    split at h
    · exact (dA1 p).1 n h
    · exact (dA0 p).1 n h
  · intro h
    exact ⟨_, rfl, dress_fwd _ h34 h⟩
theorem sub_e1 (l : List Nat) : sub1 34 [34, 34] l = l.flatMap e1 := rfl
theorem sub_e0 (l : List Nat) : sub1 34 [92, 34] (sub1 92 [92, 92] l) = l.flatMap e0 := by
  unfold sub1
  rw [List.flatMap_assoc]
  congr 1
  funext k
  unfold e0
  by_cases h : k = 92
  · subst h; rfl
  · rw [if_neg h, if_neg h]; simp
theorem dressW_dN (way : Int) (l : List Nat) : dressW way l = dN way l := by
  unfold dressW dN preW ew
  split
  · rw [sub_e1, List.append_assoc]
  · rw [sub_e0, List.append_assoc]
theorem patT_app (a b : List (Option Nat)) : patT (a ++ b) = patT a ++ patT b := List.flatMap_append
theorem patT_plain : ∀ (x : List Nat), (∀ c ∈ x, c ∉ [42, 63, 91]) → patT (x.map some) = x
  | [], _ => rfl
  | c :: x, h => by
    show barred c ++ patT (x.map some) = _
    rw [patT_plain x fun d hd => h d (List.mem_cons_of_mem _ hd), barred, if_neg (h c List.mem_cons_self)]; rfl
theorem tok_dress (way : Int) (t : Option Nat) : (tokT t).flatMap (ew way) = patT (tokE (ew way) t) := by
  have pl : ∀ c, c ≠ 34 → c ≠ 92 → ew way c = [c] := fun c h1 h2 => by
    unfold ew; split
    · exact e1_ne h1
    · exact e0_ne h2 h1
  cases t with
  | none => show [42].flatMap (ew way) = _; rw [List.flatMap_cons, pl 42 (by decide) (by decide)]; rfl
  | some c =>
    show (barred c).flatMap (ew way) = patT ((ew way c).map some)
    by_cases hb : c ∈ [42, 63, 91]
    · have hc : c ≠ 34 ∧ c ≠ 92 := by simp at hb; omega
      rw [barred, if_pos hb, pl c hc.1 hc.2, List.flatMap_cons, List.flatMap_cons, List.flatMap_cons, pl 91 (by decide) (by decide), pl c hc.1 hc.2, pl 93 (by decide) (by decide)]
      show [91, c, 93] = barred c ++ []
      rw [barred, if_pos hb]; rfl
    · rw [barred, if_neg hb, List.flatMap_cons, List.flatMap_nil, List.append_nil]
      refine (patT_plain _ fun d hd => ?_).symm
      unfold ew at hd
      split at hd
      · unfold e1 at hd; split at hd
        · simp at hd; subst hd; decide
        · simp at hd; subst hd; exact hb
      · unfold e0 at hd; split at hd
        · simp at hd; subst hd; decide
        · split at hd
          · simp at hd; rcases hd with rfl | rfl <;> decide
          · simp at hd; subst hd; exact hb
theorem patT_dress (way : Int) : ∀ p : List (Option Nat), (patT p).flatMap (ew way) = patT (pE (ew way) p)
  | [] => rfl
  | t :: p => by
    show (tokT t ++ patT p).flatMap (ew way) = patT (tokE (ew way) t ++ pE (ew way) p)
    rw [List.flatMap_append, patT_app, tok_dress, patT_dress way p]
theorem dressW_patT (way : Int) (p : List (Option Nat)) : dressW way (patT p) = patT (dT way p) := by
  rw [dressW_dN]
  unfold dN dT
  rw [patT_app, patT_app, patT_dress]
  congr 1
  exact (patT_plain _ fun c hc => by
    unfold preW at hc
    split at hc
    · simp only [List.mem_cons, List.not_mem_nil, or_false] at hc
      rcases hc with rfl | rfl | rfl | rfl | rfl <;> decide
    · rw [List.mem_singleton.mp hc]; decide).symm
/-- the signs that occur -/
noncomputable def Sg (c : Nat) : Prop := c = 34 ∨ c = 92 ∨ c = 42 ∨ c = 63 ∨ c = 91 ∨ c = 32 ∨ c = 50 ∨ c = 53 ∨ c = 55 ∨ 200 ≤ c
theorem Sg.elim {P : Nat → Prop} (h34 : P 34) (h92 : P 92) (h42 : P 42) (h63 : P 63) (h91 : P 91) (h32 : P 32) (h50 : P 50) (h53 : P 53) (h55 : P 55) (hb : ∀ c, 200 ≤ c → P c) {c : Nat} (h : Sg c) : P c := by
  rcases h with rfl | rfl | rfl | rfl | rfl | rfl | rfl | rfl | rfl | h
  · exact h34
  · exact h92
  · exact h42
  · exact h63
  · exact h91
  · exact h32
  · exact h50
  · exact h53
  · exact h55
  · exact hb _ h
theorem big_ne {c k : Nat} (h : 200 ≤ c) (hk : k < 200) : c ≠ k := fun e => absurd (e ▸ h) (Nat.not_le_of_lt hk)
theorem special_small : ∀ x ∈ special, x < 200 := by decide
theorem Sg.good {c : Nat} (h : Sg c) : GoodC c := h.elim (P := GoodC) (.inr (.inr (.inr ⟨by decide, by decide⟩))) (.inr (.inr (.inr ⟨by decide, by decide⟩))) (.inl rfl) (.inr (.inl rfl)) (.inr (.inr (.inl rfl)))
  (.inr (.inr (.inr ⟨by decide, by decide⟩))) (.inr (.inr (.inr ⟨by decide, by decide⟩))) (.inr (.inr (.inr ⟨by decide, by decide⟩))) (.inr (.inr (.inr ⟨by decide, by decide⟩)))
  fun c h => .inr (.inr (.inr ⟨.inr (.inr fun q => absurd (special_small c q) (Nat.not_lt_of_le h)), big_ne h (by decide), big_ne h (by decide), big_ne h (by decide)⟩))
theorem Sg.ne10 {c : Nat} (h : Sg c) : c ≠ 10 := h.elim (P := (· ≠ 10)) (by decide) (by decide) (by decide) (by decide) (by decide) (by decide) (by decide) (by decide) (by decide) fun c h => big_ne h (by decide)
theorem Sg.piece {c : Nat} (h : Sg c) : c ≠ 40 ∧ c ≠ 41 ∧ c ≠ 46 := h.elim (P := fun c => c ≠ 40 ∧ c ≠ 41 ∧ c ≠ 46) (by decide) (by decide) (by decide) (by decide) (by decide) (by decide) (by decide) (by decide) (by decide)
  fun c h => ⟨big_ne h (by decide), big_ne h (by decide), big_ne h (by decide)⟩
theorem Sg.pre (way : Int) : ∀ c ∈ preW way, Sg c := fun c hc => by
  unfold preW at hc
  split at hc
  · simp only [List.mem_cons, List.not_mem_nil, or_false] at hc
    unfold Sg; rcases hc with rfl | rfl | rfl | rfl | rfl <;> simp
  · rw [List.mem_singleton.mp hc]; exact .inl rfl
theorem Sg.ew (way : Int) {c d : Nat} (h : Sg c) (hd : d ∈ Mine.ew way c) : Sg d := by
  unfold Mine.ew at hd
  split at hd
  · unfold e1 at hd; split at hd
    · simp at hd; subst hd; exact .inl rfl
    · simp at hd; subst hd; exact h
  · unfold e0 at hd; split at hd
    · simp at hd; subst hd; exact .inr (.inl rfl)
    · split at hd
      · simp at hd; rcases hd with rfl | rfl
        · exact .inr (.inl rfl)
        · exact .inl rfl
      · simp at hd; subst hd; exact h
theorem Sg.dN (way : Int) {n : List Nat} (h : ∀ c ∈ n, Sg c) : ∀ c ∈ Mine.dN way n, Sg c := fun c hc => by
  unfold Mine.dN at hc
  rcases List.mem_append.mp hc with hc | hc
  · exact Sg.pre way c hc
  · rcases List.mem_append.mp hc with hc | hc
    · obtain ⟨d, hd, hc⟩ := List.mem_flatMap.mp hc
      exact (h d hd).ew way hc
    · rw [List.mem_singleton.mp hc]; exact .inl rfl
theorem Sg.dT (way : Int) {p : List (Option Nat)} (h : ∀ c, some c ∈ p → Sg c) : ∀ c, some c ∈ Mine.dT way p → Sg c := fun c hc => by
  unfold Mine.dT at hc
  rcases List.mem_append.mp hc with hc | hc
  · obtain ⟨d, hd, e⟩ := List.mem_map.mp hc
    cases e; exact Sg.pre way c hd
  · rcases List.mem_append.mp hc with hc | hc
    · obtain ⟨t, ht, hc⟩ := List.mem_flatMap.mp hc
      cases t with
      | none => simp [tokE] at hc
      | some d =>
        obtain ⟨x, hx, e⟩ := List.mem_map.mp hc
        cases e
        exact (h d ht).ew way hx
    · rw [Option.some.inj (List.mem_singleton.mp hc)]; exact .inl rfl
/-- undressing -/
theorem un257_dress : ∀ n : List Nat, un257 (n.flatMap e1 ++ [34]) = n
  | [] => by rw [List.flatMap_nil, List.nil_append, un257.eq_def]; rfl
  | c :: n => by
    by_cases h : c = 34
    · subst h
      rw [List.flatMap_cons, e1_34]
      show un257 (34 :: 34 :: (n.flatMap e1 ++ [34])) = _
      rw [un257_two, un257_dress n]
    · rw [List.flatMap_cons, e1_ne h]
      show un257 (c :: (n.flatMap e1 ++ [34])) = _
      rw [un257_ne h, un257_dress n]
theorem ew_len (way : Int) (c : Nat) : (ew way c).length ≤ 2 := by
  unfold ew
  split
  · unfold e1; split <;> simp
  · unfold e0; split
    · simp
    · split <;> simp
theorem dN_len (way : Int) (n : List Nat) : (dN way n).length ≤ 2 * n.length + 6 := by
  have h : (n.flatMap (ew way)).length ≤ 2 * n.length := by
    induction n with
    | nil => simp
    | cons c n ih => rw [List.flatMap_cons, List.length_append, List.length_cons]; have := ew_len way c; omega
  have hp : (preW way).length ≤ 5 := by unfold preW; split <;> simp
  unfold dN
  simp only [List.length_append, List.length_cons, List.length_nil]; omega

end
section
/-! ## _law_fits -/
noncomputable def itemT : Option Nat → List Nat
  | none => []
  | some c => [c]
theorem take_one {name : List Nat} {k c : Nat} : (name.drop k).take 1 = [c] ↔ name[k]? = some c := by
  rw [← List.head?_drop]
  cases name.drop k with
  | nil => simp
  | cons a r => simp
noncomputable abbrev fV (l : Addr) (vp : Option Value) : Vals := [(Str.ofString "items", some (.ref l)), (Str.ofString "places", vp)]
theorem tFits (w : World) (l : Addr) (vs : List Value) (n : Nat) (p : List (Option Nat)) (name : List Nat) (hxs : Txts vs (p.map itemT)) (hp : p.length ≤ 1000) (hn : name.length ≤ 1000) (t0 : Tok) :
    FnR (Mine.hz.heap_1_39 w.params) PySem.Challenge.pw_kt0083_01 w 12 (.ref 849) [.ref l, .str (T name) t0] [(l, Lo vs n)]
      (fun v own => v = .bool (decide (name.length ∈ p.foldl (plStep name) [0])) ∧ own = []) := by
  intro A s g R S hA O hr k
  have hs0 : g.objs.size ≤ s.heap.objs.size := O.size
  have hlst : g.get? l = some (Lo vs n) := hr _ (List.mem_singleton.mpr rfl)
  have hvl : vs.length ≤ 16777216 := by have := hxs.len; rw [List.length_map] at this; omega
  refine' enterC2 (x1 := Str.ofString "name") (x2 := Str.ofString "item") (binds := [(Str.ofString "items", .ref l), (Str.ofString "name", .str (T name) t0)])
    (gl := [(Str.ofString "list", .type "list"), (Str.ofString "range", .type "range"), (Str.ofString "len", .builtin "len")]) (vals := fV l none) S O hA ?h1 ?h2 ?h3 ?h4 ?h5 ?h6 ?h7 ?h8 ?h9 ?h10 ?h11 ?_
  case h1 => k_is
  case h2 => k_is
  case h3 => rfl
  case h4 => intro m; rfl
  case h5 => decide
  case h6 => kernel_rfl
  case h7 => kernel_rfl
  case h8 => kernel_rfl
  case h9 => kernel_rfl
  case h10 => exact (by decide : ([Str.ofString "items", Str.ofString "places"] : List Str).Nodup)
  case h11 => exact all_cons rfl (all_cons rfl all_nil)
  intro env A' s1 cN cI oN oI hA' H hsc hcells hoN hoI hcN hlt D Q0 hQ0
  have hkN : env.kindOf (Str.ofString "name") = some .cell := by show env.scope.names.lookup _ = _; rw [hsc]; rfl
  have hkI : env.kindOf (Str.ofString "item") = some .cell := by show env.scope.names.lookup _ = _; rw [hsc]; rfl
  have hlN : env.cells.lookup (Str.ofString "name") = some cN := by rw [hcells]; rfl
  have hlI : env.cells.lookup (Str.ofString "item") = some cI := by rw [hcells]; rfl
  have hkf : env.scope.kind = .function := D.kind
  replace hoN : oN.data = .cell (some (.str (T name) t0)) := hoN
  have hkP : env.kindOf (Str.ofString "places") = some .local := by show env.scope.names.lookup _ = _; rw [hsc]; rfl
  have hbk : env.blockKind = .function := by unfold Env.blockKind; rw [hsc]; rfl
  have hd1 : ((Str.ofString "name" : Str) == ("__debug__" : Str)) = false := by decide
  have hd2 : ((Str.ofString "item" : Str) == ("__debug__" : Str)) = false := by decide
  generalize s = B at D k hs0 O hcN
  clear O hr
  wtm_at "ms"
  refine r_newlist D (Nat.le_of_ble_eq_true rfl) ?_; wtm_at "nl"; intro P s hPB D; wtm_at "ms"
  refine r_for hA'.hd ?_
  wtm_at "ms"
  refine ⟨_, _, _, _, l, vs, n, fun I o i s => ∃ (P : Addr) (pl : List Nat) (ws : List Value) (kk : Nat) (oI : Obj) (vI : Option Value), pl = (p.take i).foldl (plStep name) [0] ∧ Nums ws (pl.map Nat.cast) ∧ oI.data = .cell vI ∧
    (St B g env (fV l (some (.ref P))) s [(I, o), (P, Lo ws kk), (cI, oI), (cN, oN)] ∨ St B g env (fV l (some (.ref P))) s [(P, Lo ws kk), (I, o), (cI, oI), (cN, oN)]),
    rfl, D, by wtm_at "has", fun I o s' D' => ⟨P, [0], _, _, oI, _, rfl, .cons .nil, hoI, .inl D'⟩, ?_⟩
  clear D
  rintro I o i s hi ⟨P, pl, ws, kk, oI, vI, hpl, hws, hoI, hD⟩
  have hpk : PlOk name pl := hpl ▸ (PlOk.start name).fold _
  have hwl := hws.len
  rw [List.length_map] at hwl
  have hwl2 := hpk.len
  rcases hD with D | D
  all_goals (
    refine ⟨_, _, _, n, _, _, D, by wtm_at "has", fun o' => ⟨_, by wtm_at "turn", fun v s hv D Q' hQ => ?_⟩, fun hi s D => ?_⟩
    · obtain ⟨li, ti, hli, rfl⟩ := hxs.got hv
      rw [List.getElem?_map] at hli
      cases hpi : p[i]? with
      | none => rw [hpi] at hli; cases hli
      | some tok =>
      rw [hpi] at hli
      cases hli
      have hti : (p.take (i + 1)).foldl (plStep name) [0] = plStep name pl tok := by rw [List.take_add_one, hpi, List.foldl_append, ← hpl]; rfl
      refine wpAny_assign_Name (r_stcell D hkI hlI (by wtm_at "hole") hoI fun oI s hoI D => ?_)
      with_reducible refine x_last ?_
      with_reducible refine ab_If ?_
      intro QT hT
      wtm_at "ms"
      refine r_ldcell hkf hkI hd2 hlI (by wtm_at "has") hoI ?_
      wtm_at "ms"
      cases tok with
      | none =>
        refine ite_f rfl ?_
        wtm_at "ms"
        refine r_newlist D (Nat.le_of_ble_eq_true rfl) ?_; wtm_at "nl"; intro e0 s he0 D
        have hu : A'.units + 64 < cLine := Nat.lt_of_le_of_lt (Nat.add_le_add_left (by decide) _) hA'.un
        refine ne_intsK (D.lst (by wtm_at "has")) hws.are (D.lst (by wtm_at "has")) .nil hu ?_
        cases pl with
        | nil =>
          wtm_at "ms"
          first
          | exact ⟨P, [], ws, kk, oI, _, hti.symm, hws, hoI, .inl (D.drop (by wtm_at "sub"))⟩
          | exact ⟨P, [], ws, kk, oI, _, hti.symm, hws, hoI, .inr (D.drop (by wtm_at "sub"))⟩
        | cons k0 pl =>
          obtain ⟨ws', tk0, rfl, hws'⟩ : ∃ ws' t, ws = .int (k0 : Int) t :: ws' ∧ Nums ws' (pl.map Nat.cast) := by
            cases hws with
            | cons h => exact ⟨_, _, rfl, h⟩
          have hk0 := hpk.le k0 List.mem_cons_self
          wtm_at "ms"
          refine r_ldcell hkf hkN hd1 hlN (by wtm_at "has") hoN ?_
          wtm_at "ms"
          refine r_range2 D fun r v s D => ?_
          wtm_at "ms"
          refine r_list_range hA'.hd D (k := k0) (n := name.length + 1) List.mem_cons_self (by omega) (by omega) fun l2 ws2 m s hl2 hws2 D => ?_
          wtm_at "ms"
          exact ⟨l2, _, ws2, m, oI, _, hti.symm, hws2, hoI, .inr (D.drop (by wtm_at "sub"))⟩
      | some c =>
        try refine ite_t rfl ?_
        first | with_reducible refine x_last ?_ | (with_reducible refine x_cons ?_; intro _ _ _)
        refine' r_listcomp_assign (K := Mine.hz.heap_1_39 w.params) (cl := [(Str.ofString "name", cN), (Str.ofString "item", cI)]) ?hsw hA'.hd ?hclos ?hcell ?hkind ?hnames ?hx ?hd ?_
        case hsw => unfold swapsWith; dsimp only; rw [hbk, hkP]; rfl
        case hclos => show closureFor _ _ = _; unfold closureFor cellOf; simp [hlN, hlI]
        case hcell => decide
        case hkind => rfl
        case hnames => decide
        case hx => rfl
        case hd => decide
        wtm_at "ms"
        refine ⟨_, _, _, _, P, ws, kk, fun j ys => Nums ys ((plStep name (pl.take j) (some c)).map Nat.cast), rfl, D, S, by wtm_at "has", .nil, ?hlen, ?step, fun acc => fV l (some (.ref acc)), fun acc => .tail .head, ?fin⟩
        case hlen =>
          intro j ys hR
          have h1 := hR.len
          have h2 : ((plStep name (pl.take j) (some c)).map Nat.cast : List Int).length ≤ pl.length := by
            rw [List.length_map]
            show ((List.filter _ (pl.take j)).map _).length ≤ _
            rw [List.length_map]
            exact Nat.le_trans (List.length_filter_le _ _) (List.length_take_le' _ _)
          omega
        case step =>
          intro C B' g' s2 j v ys m acc I2 o2 hold hI2 S' hv2 hR D2
          obtain ⟨x, tx, hx, rfl⟩ := hws.got hv2
          rw [List.getElem?_map] at hx
          cases hpj : pl[j]? with
          | none => rw [hpj] at hx; cases hx
          | some kj =>
          rw [hpj] at hx
          cases hx
          have hkj := hpk.le kj (List.mem_of_getElem? hpj)
          have htk : pl.take (j + 1) = pl.take j ++ [kj] := by rw [List.take_add_one, hpj]; rfl
          have hRn : plStep name (pl.take (j + 1)) (some c) = plStep name (pl.take j) (some c) ++ (if name[kj]? = some c then [kj + 1] else []) := by
            show (List.filter _ (pl.take (j + 1))).map _ = (List.filter _ (pl.take j)).map _ ++ _
            rw [htk, List.filter_append, List.map_append]
            congr 1
            by_cases h : name[kj]? = some c
            · rw [if_pos h]; simp [h]
            · rw [if_neg h]; simp [h]
          have hgN : g'.get? cN = some oN := hold _ _ (D.get (by wtm_at "mem"))
          have hgI : g'.get? cI = some oI := hold _ _ (D.get (by wtm_at "mem"))
          replace S := S'
          clear D S'
          have D : St B' g' (compEnvC _ _ C env) _ s2 _ := D2
          clear D2
          rw [List.forIn_cons]
          refine wpAny_bind ?_
          rw [if_pos rfl]
          refine wpAny_bind ?_
          wtm_at "ms"
          refine r_ldcell D.kind ?hl hd1 rfl (D.keep _ _ hgN) hoN ?_
          case hl => unfold compEnvC relabel Env.kindOf; dsimp only; rw [hsc]; rfl
          wtm_at "ms"
          refine q_slice_ak D kj 1 rfl rfl rfl hkj (Nat.le_trans hn (by decide)) ?_; wtm_at "nx"; wtm_at "ms"
          refine r_ldcell D.kind ?hl hd2 rfl (D.keep _ _ hgI) hoI ?_
          case hl => unfold compEnvC relabel Env.kindOf; dsimp only; rw [hsc]; rfl
          wtm_at "ms"
          refine wpAny_pure (wpAny_pure ?_)
          refine ite_b (fun h => ?_) (fun h => ?_)
          · have hc := take_one.mp (of_decide_eq_true h)
            rw [hRn, if_pos hc, List.map_append]
            wtm_at "ms"
            exact ⟨hR.snoc, _, D⟩
          · have hc : ¬ name[kj]? = some c := fun q => of_decide_eq_false h (take_one.mpr q)
            rw [hRn, if_neg hc, List.append_nil]
            exact ⟨hR, _, D⟩
        case fin =>
          intro ys m acc s hR hb D
          rw [hwl, List.take_length] at hR
          wtm_at "ms"
          exact ⟨acc, _, ys, m, oI, _, hti.symm, hR, hoI, .inr (D.drop (by wtm_at "sub"))⟩
    · wtm_at "ms"
      refine r_ldcell hkf hkN hd1 hlN (by wtm_at "has") hoN ?_
      wtm_at "ms"
      refine in_list_ints (D.lst (by wtm_at "has")) hws.are ?_
      wtm_at "ms"
      have hpe : p.take i = p := List.take_of_length_le (by have := hxs.len; rw [List.length_map] at this; omega)
      rw [hpe] at hpl
      have e : ((pl.map Nat.cast : List Int).any (· == (name.length : Int))) = decide (name.length ∈ p.foldl (plStep name) [0]) := by
        rw [any_mem, ← hpl]
        congr 1
        rw [List.mem_map]
        have key : (∃ a ∈ pl, (Nat.cast a : Int) = (name.length : Int)) → name.length ∈ pl := fun ⟨a, ha, e⟩ => by
          have : a = name.length := Int.ofNat_inj.mp e
          exact this ▸ ha
        exact propext ⟨fun h => key h, fun h => ⟨_, h, rfl⟩⟩
      rw [e]
      exact D.leaveN (news' := []) (List.nil_sublist _) (fun p hp => nomatch hp) hs0 ⟨rfl, rfl⟩ k)

end
section
/-! ## the bridge: what translate gives for good items -/
theorem eS_len (c : Nat) : (eS c).length ≤ 4 := by
  unfold eS
  split
  · simp
  · split
    · simp
    · split <;> simp
theorem eT_len (x : List Nat) : (eT x).length ≤ 4 * x.length := by
  induction x with
  | nil => simp [eT]
  | cons c x ih => rw [eT_cons, List.length_append, List.length_cons]; have := eS_len c; omega
theorem trTail_len : ∀ r : List (List Nat), (trTail r).length ≤ 7 * r.length + 4 * r.flatten.length
  | [] => by simp [trTail]
  | [q] => by
    have := eT_len q
    show ([46, 42] ++ eT q).length ≤ _
    simp only [List.length_append, List.length_cons, List.length_nil, List.flatten_cons, List.flatten_nil]
    omega
  | m :: q :: r => by
    have h1 := eT_len m
    have h2 := trTail_len (q :: r)
    rw [trTail_two, List.flatten_cons (l := m)]
    simp only [List.length_append, List.length_cons, List.length_nil] at *
    omega
theorem trText_len : ∀ ps : List (List Nat), (trText ps).length ≤ 7 + 7 * ps.length + 4 * ps.flatten.length
  | [] => by simp [trText]
  | p :: r => by
    have h1 := eT_len p
    have h2 := trTail_len r
    show ([40, 63, 115, 58] ++ (eT p ++ trTail r) ++ [41, 92, 90]).length ≤ _
    rw [List.flatten_cons]
    simp only [List.length_append, List.length_cons, List.length_nil] at *
    omega
noncomputable def qSize (q : List (List Nat)) : Nat := q.length + q.flatten.length
theorem qSize_step (q : List (List Nat)) (t : Option Nat) : qSize (stepQ q t) ≤ qSize q + 2 := by
  unfold stepQ qSize
  cases t with
  | none =>
    dsimp only
    split
    · simp
    · simp; omega
  | some c =>
    cases q with
    | nil => simp
    | cons p r => simp; omega
theorem qSize_fold : ∀ (p : List (Option Nat)) (q : List (List Nat)), qSize (p.foldl stepQ q) ≤ qSize q + 2 * p.length
  | [], q => Nat.le_refl _
  | t :: p, q => by
    have h1 := qSize_fold p (stepQ q t)
    have h2 := qSize_step q t
    rw [List.foldl_cons, List.length_cons]
    omega
theorem pcs_size (p : List (Option Nat)) : (pcs p).length + (pcs p).flatten.length ≤ 1 + 2 * p.length := by
  have h := qSize_fold p [[]]
  unfold qSize at h
  unfold pcs
  have e : ((p.foldl stepQ [[]]).reverse).flatten.length = (p.foldl stepQ [[]]).flatten.length := by
    rw [List.length_flatten, List.length_flatten, List.map_reverse, List.sum_reverse]
  show ((p.foldl stepQ [[]]).reverse).length + ((p.foldl stepQ [[]]).reverse).flatten.length ≤ _
  rw [e, List.length_reverse]
  simpa using h
theorem stepQ_mem {P : Nat → Prop} {q : List (List Nat)} {t : Option Nat} (hq : ∀ x ∈ q, ∀ c ∈ x, P c) (ht : ∀ c, t = some c → P c) : ∀ x ∈ stepQ q t, ∀ c ∈ x, P c := by
  unfold stepQ
  cases t with
  | none =>
    dsimp only
    split
    · exact hq
    · intro x hx
      rcases List.mem_cons.mp hx with rfl | hx
      · intro c hc; cases hc
      · exact hq x hx
  | some d =>
    cases q with
    | nil =>
      intro x hx c hc
      rw [List.mem_singleton.mp hx, List.mem_singleton] at hc
      exact hc ▸ ht d rfl
    | cons p r =>
      intro x hx c hc
      rcases List.mem_cons.mp hx with rfl | hx
      · rcases List.mem_append.mp hc with hc | hc
        · exact hq p List.mem_cons_self c hc
        · rw [List.mem_singleton.mp hc]; exact ht d rfl
      · exact hq x (List.mem_cons_of_mem _ hx) c hc
theorem foldQ_mem {P : Nat → Prop} : ∀ (p : List (Option Nat)) {q : List (List Nat)}, (∀ x ∈ q, ∀ c ∈ x, P c) → (∀ c, some c ∈ p → P c) → ∀ x ∈ p.foldl stepQ q, ∀ c ∈ x, P c
  | [], _, hq, _ => hq
  | t :: p, q, hq, hp => foldQ_mem p (stepQ_mem hq fun c e => hp c (e ▸ List.mem_cons_self)) fun c hc => hp c (List.mem_cons_of_mem _ hc)
theorem pcs_mem {P : Nat → Prop} {p : List (Option Nat)} (hp : ∀ c, some c ∈ p → P c) : ∀ x ∈ pcs p, ∀ c ∈ x, P c := fun x hx =>
  foldQ_mem p (q := [[]]) (fun x hx c hc => by rw [List.mem_singleton.mp hx] at hc; cases hc) hp x (List.mem_reverse.mp hx)
theorem stepP_len (acc : List (Option (List Nat))) (t : Option Nat) : (stepP acc t).length ≤ acc.length + 1 := by
  unfold stepP
  cases t with
  | none => dsimp only; split <;> simp
  | some c => simp
theorem partsOf_len (p : List (Option Nat)) : (partsOf p).length ≤ p.length := by
  have : ∀ (p : List (Option Nat)) acc, (p.foldl stepP acc).length ≤ acc.length + p.length := fun p => by
    induction p with
    | nil => intro acc; simp
    | cons t p ih => intro acc; have h1 := ih (stepP acc t); have h2 := stepP_len acc t; rw [List.foldl_cons, List.length_cons]; omega
  have := this p []
  rw [List.length_nil, Nat.zero_add] at this
  exact this
theorem tokT_len (t : Option Nat) : 1 ≤ (tokT t).length ∧ (tokT t).length ≤ 3 := by
  cases t with
  | none => simp [tokT]
  | some c =>
    show 1 ≤ (barred c).length ∧ (barred c).length ≤ 3
    rw [barred]
    by_cases h : c ∈ [42, 63, 91]
    · rw [if_pos h]; exact ⟨by simp, by simp⟩
    · rw [if_neg h]; exact ⟨by simp, by simp⟩
theorem patT_len (p : List (Option Nat)) : p.length ≤ (patT p).length ∧ (patT p).length ≤ 3 * p.length := by
  induction p with
  | nil => simp [patT]
  | cons t p ih =>
    have h := tokT_len t
    have e : (patT (t :: p)).length = (tokT t).length + (patT p).length := by show (tokT t ++ patT p).length = _; rw [List.length_append]
    rw [e, List.length_cons]; omega
structure Bridge (p : List (Option Nat)) (pf : List (List Nat)) (r : List (List (List Nat))) : Prop where
  good : ∀ c, some c ∈ p → GoodC c
  hb : (patT p).length ≤ 3000
  hpf : partsOf p = pf.map some ++ tailParts r
  mid : ∀ q ∈ r.dropLast, q ≠ []
  len : (pf.flatten ++ tT r).length ≤ 10000
  pn : (partsOf p).length ≤ 10000
  txt : [40, 63, 115, 58] ++ (pf.flatten ++ tT r) ++ [41, 92, 90] = trText (pcs p)
  ne : pcs p ≠ []
  piece : ∀ x ∈ pcs p, ∀ c ∈ x, c ≠ 40 ∧ c ≠ 41 ∧ c ≠ 46
  tl : (trText (pcs p)).length ≤ 1000000
  pl : ∀ x ∈ pcs p, x.length ≤ 1000000
  pcl : (pcs p).length ≤ 1000000
theorem bridge (p : List (Option Nat)) (hs : ∀ c, some c ∈ p → Sg c) (hl : (patT p).length ≤ 500) : ∃ pf r, Bridge p pf r := by
  have hp1 := (patT_len p).1
  have hsz := pcs_size p
  have htl := trText_len (pcs p)
  obtain ⟨ine, ieq, imid⟩ := inv_pcs p
  have hne : pcs p ≠ [] := fun e => ine (List.reverse_eq_nil_iff.mp e)
  have hmid : ∀ x ∈ ((pcs p).tail).dropLast, x ≠ [] := by
    intro x hx
    refine imid x ?_
    unfold pcs at hx
    rw [List.tail_reverse, List.dropLast_reverse, List.mem_reverse] at hx
    rw [← List.tail_dropLast]
    exact hx
  have ieq : partsOf p = frm (pcs p) := ieq
  cases hpc : pcs p with
  | nil => exact absurd hpc hne
  | cons p0 r0 =>
  rw [hpc] at ieq hmid hsz htl
  have htxt : [40, 63, 115, 58] ++ ((p0.map eS).flatten ++ tT (r0.map (·.map eS))) ++ [41, 92, 90] = trText (p0 :: r0) := by
    rw [eT_flat, tT_tail]; rfl
  have hlen := congrArg List.length htxt
  simp only [List.length_append, List.length_cons, List.length_nil] at hlen
  refine ⟨p0.map eS, r0.map (·.map eS), fun c hc => (hs c hc).good, by omega, by rw [ieq]; rfl, ?_, ?_, ?_, ?_, hne, fun x hx c hc => (pcs_mem hs x hx c hc).piece, ?_, ?_, ?_⟩
  · intro q hq
    rw [← List.map_dropLast] at hq
    obtain ⟨x, hx, rfl⟩ := List.mem_map.mp hq
    intro e
    exact hmid x hx (List.map_eq_nil_iff.mp e)
  · rw [List.length_append]
    simp only [List.length_cons] at *
    omega
  · have := partsOf_len p; omega
  · rw [hpc]; exact htxt
  · rw [hpc]; simp only [List.length_cons] at *; omega
  · intro x hx
    rw [hpc] at hx
    have h1 : x.length ≤ (p0 :: r0).flatten.length := by
      exact (List.sublist_flatten_of_mem hx).length_le
    omega
  · rw [hpc]; omega
/-! ## the drawn items -/
noncomputable def tokOf (x : Nat) : List (Option Nat) := if x % 8 < 2 then [none] else if x % 8 > 2 then [some (signOf x)] else []
theorem item_tok (x : Nat) : itemOf x = (tokOf x).map itemT := by
  unfold itemOf tokOf
  split
  · rfl
  · split <;> rfl
theorem items_tok (xs : List Nat) : xs.flatMap itemOf = (xs.flatMap tokOf).map itemT := by
  rw [List.map_flatMap]
  congr 1
  funext x
  exact item_tok x
theorem Sg.sign (x : Nat) : Sg (signOf x) := by
  unfold signOf
  split
  · exact .inr (.inr (.inr (.inr (.inr (.inr (.inr (.inr (.inr (Nat.le_add_right _ _)))))))))
  · have h : x / 8 % 8 < 8 := Nat.mod_lt _ (by decide)
    rename_i h7
    generalize x / 8 % 8 = k at h h7
    match k, h, h7 with
    | 0, _, _ => exact .inl rfl
    | 1, _, _ => exact .inl rfl
    | 2, _, _ => exact .inr (.inl rfl)
    | 3, _, _ => exact .inr (.inl rfl)
    | 4, _, _ => exact .inr (.inr (.inl rfl))
    | 5, _, _ => exact .inr (.inr (.inr (.inr (.inl rfl))))
    | 6, _, _ => exact .inr (.inr (.inr (.inl rfl)))
    | 7, _, h => exact absurd rfl h
    | k + 8, h, _ => exact absurd h (Nat.not_lt_of_le (Nat.le_add_left 8 k))
theorem Sg.toks (xs : List Nat) : ∀ c, some c ∈ xs.flatMap tokOf → Sg c := fun c hc => by
  obtain ⟨x, _, hc⟩ := List.mem_flatMap.mp hc
  unfold tokOf at hc
  split at hc
  · simp at hc
  · split at hc
    · simp at hc; rw [hc]; exact Sg.sign x
    · cases hc
theorem Sg.name (xs : List Nat) : ∀ c ∈ xs.flatMap nameOf, Sg c := fun c hc => by
  obtain ⟨x, _, hc⟩ := List.mem_flatMap.mp hc
  unfold nameOf at hc
  split at hc
  · cases hc
  · rw [List.mem_singleton.mp hc]; exact Sg.sign x
theorem toks_len (xs : List Nat) : (xs.flatMap tokOf).length ≤ xs.length := by
  have := itemLen xs
  rw [items_tok, List.length_map] at this
  exact this
/-- the lengths of what is dressed -/
noncomputable def bd : Nat → Nat
  | 0 => 30
  | i + 1 => 2 * bd i + 6
theorem bd_le {i : Nat} (h : i ≤ 3) : bd i ≤ 282 := (by decide : ∀ k : Fin 4, bd k.val ≤ 282) ⟨i, Nat.lt_succ_of_le h⟩
/-- what the loop keeps -/
structure Kept (i : Nat) (due : Bool) (p : List (Option Nat)) (name : List Nat) : Prop where
  sp : ∀ c, some c ∈ p → Sg c
  sn : ∀ c ∈ name, Sg c
  lp : (patT p).length ≤ bd i
  ln : name.length ≤ bd i
  mat : due = true ↔ Mat p name
theorem Kept.dress {i : Nat} {due : Bool} {p : List (Option Nat)} {name : List Nat} (k : Kept i due p name) (way : Int) : Kept (i + 1) due (dT way p) (dN way name) where
  sp := Sg.dT way k.sp
  sn := Sg.dN way k.sn
  lp := by
    rw [← dressW_patT, dressW_dN]
    have := dN_len way (patT p)
    have := k.lp
    show _ ≤ 2 * bd i + 6
    omega
  ln := by
    have := dN_len way name
    have := k.ln
    show _ ≤ 2 * bd i + 6
    omega
  mat := k.mat.trans (dress_mat way p name).symm
theorem patT_ne10 {p : List (Option Nat)} (h : ∀ c, some c ∈ p → Sg c) : ∀ c ∈ patT p, c ≠ 10 := fun c hc => by
  obtain ⟨t, ht, hc⟩ := List.mem_flatMap.mp hc
  cases t with
  | none => rw [List.mem_singleton.mp hc]; decide
  | some d =>
    have hd := (h d ht).ne10
    have hc : c ∈ barred d := hc
    unfold barred at hc
    split at hc
    · simp only [List.mem_cons, List.not_mem_nil, or_false] at hc
      rcases hc with rfl | rfl | rfl
      · decide
      · exact hd
      · decide
    · rw [List.mem_singleton.mp hc]; exact hd
theorem dN_patT (way : Int) (p : List (Option Nat)) : dN way (patT p) = patT (dT way p) := by rw [← dressW_dN, dressW_patT]
theorem undress_ok (way : Int) (z : List Nat) (hz : z.length ≤ 10000) : (way = 1 ∧ ∃ r, dN way z = [50, 53, 55, 32, 34] ++ r ∧ un257 r = z ∧ r.length ≤ 1000000) ∨ (way ≠ 1 ∧ dN way z = 34 :: (z.flatMap e0 ++ [34])) := by
  by_cases h : way = 1
  · refine .inl ⟨h, z.flatMap e1 ++ [34], ?_, un257_dress z, ?_⟩
    · unfold dN preW ew; rw [if_pos h, if_pos h]
    · have := dN_len way z
      unfold dN ew at this
      rw [if_pos h] at this
      simp only [List.length_append] at *
      omega
  · refine .inr ⟨h, ?_⟩
    unfold dN preW ew; rw [if_neg h, if_neg h]; rfl
theorem fo_nil {B : Shared} : FoAt B [] [] := ⟨rfl, (fun _ h => nomatch h), (fun _ h => nomatch h)⟩
theorem FoAt.none {B : Shared} {fo : News'} (F : FoAt B [] fo) : fo = [] := by
  have := F.keys
  exact List.map_eq_nil_iff.mp this

end
section
/-! ## the law -/
theorem start_glo {K : Frag} {name : Str} {scope : Scope} {L a : Addr} {cd : Value} {gl : List (Str × Value)} (hgl : gloOk K scope gl = true) : Glo K (envOf name scope L a cd) gl :=
  ⟨rfl, rfl, gloOk_at hgl⟩
theorem start_st {name : Str} {scope : Scope} {L a : Addr} {cd : Value} {g : Heap} {s : Shared} {m : Str → Option Value} {binds : List (Str × Value)} {more : List Str} {P : Addr} {o : Obj}
    (F : Fr g L s.heap m) (N : News g L s.heap [(P, o)]) (hm : ∀ x, m x = List.lookup x binds.reverse) (ht : 1 ≤ s.toks) (hok : bodyOk scope (binds.map (·.1)) more = true) :
    St s g (envOf name scope L a cd) (startVals binds more) s [(P, o)] :=
  have h := bodyOk_at hok
  ⟨⟨m, ⟨F, N, List.pairwise_singleton _ _⟩, fun p hp => (hm _).trans (h.at_ p hp)⟩, h.loc, h.nd, h.kind, ht, Rest.rfl, Up.rfl⟩
theorem room0 (env : Env) : Room (callerA.deeper env) 30 := ⟨rfl, by show 1 + claimMargin + 1 + 30 < recursionLimit; decide +kernel, by show callerA.units + _ + 10 * 30 < cLine; decide +kernel⟩
theorem law_go {K : Frag} {prog : Program} {w : World} {name : Str} {scope : Scope} {L a : Addr} {cd : Value} {g : Heap} {s : Shared} {m : Str → Option Value} {binds : List (Str × Value)} {more : List Str} {P : Addr} {o : Obj} {gl : List (Str × Value)}
    {body : List Stmt} {Q : Flow → Shared → Prop} {E : Value → Shared → Prop} (F : Fr g L s.heap m) (N : News g L s.heap [(P, o)]) (hm : ∀ x, m x = List.lookup x binds.reverse) (ht : 1 ≤ s.toks) (hok : bodyOk scope (binds.map (·.1)) more = true)
    (hgl : gloOk K scope gl = true)
    (k : ∀ env A, env.locals = L → Room A 30 → env.frame = some env.locals → A.frames = some (env :: []) → Glo K env gl → St s g env (startVals binds more) s [(P, o)] → ∀ Q0 : Flow → Shared → Prop, (∀ f s', Q f s' → Q0 f s') →
      wpAny (model prog w) A (execs body env) Q0 (fun _ _ => False) s) :
    wpAny (model prog w) (callerA.deeper (envOf name scope L a cd)) (execs body (envOf name scope L a cd)) Q E s :=
  wpAny_mono (k (envOf name scope L a cd) _ rfl (room0 _) rfl rfl (start_glo hgl) (start_st F N hm ht hok) _ fun _ _ h => h) (fun _ _ h => h) fun _ _ h => h.elim
theorem comp_glo {K : Frag} {B : Shared} {g : Heap} {vals : Vals} {s : Shared} {news : News'} {scope : Scope} {cl : List (Str × Addr)} {C : Addr} {env : Env} {gl0 : List (Str × Value)} {x : Str} {v : Value} (D : St B g (compEnvC scope cl C env) vals s news) (H : Glo K env gl0)
    (hk : (compEnvC scope cl C env).kindOf x = some .globalImplicit) (hd : (x == ("__debug__" : Str)) = false) (hn : nsIn K mainGlobals x = some (some v)) : Glo K (compEnvC scope cl C env) [(x, v)] :=
  ⟨H.glo, H.bui, fun p hp => by rw [List.mem_singleton.mp hp]; exact ⟨hk, hd, .inl hn⟩⟩
noncomputable abbrev lV (l : Addr) (v1 v2 v3 v4 v5 v6 v7 v8 v9 : Option Value) : Vals := [(Str.ofString "script", some (.ref l)), (Str.ofString "numbers", v1), (Str.ofString "items", v2), (Str.ofString "name", v3), (Str.ofString "due", v4), (Str.ofString "pattern", v5), (Str.ofString "total", v6), (Str.ofString "way", v7), (Str.ofString "outer", v8), (Str.ofString "worn", v9)]
theorem last : PySem.Challenge.rw_kt0083_01.Holds := Mine.hz.hd (by
  w_on
  k_go0
  rename Frag.In _ _ => X0
  rename Top _ _ _ _ _ _ => T0
  rename Fr _ _ _ _ => F0
  rename News _ _ _ _ => N0
  rename IntsAre _ _ => hI
  rename Shared.gens _ = #[] => hgens
  rename ¬ _ < _ => hlen
  rename World => w
  rename Addr => l0
  have S : Sta (Mine.hz.heap_1_39 w.params) _ := ⟨X0, ⟨_, _, T0.g, T0.b, T0.builtins⟩, T0.nolimit, let ⟨bm, ob, h1, h2, h3, h4, h5, h6⟩ := T0.bmain; ⟨_, bm, ob, T0.g, h1, h2, h3, h4, h5, h6⟩⟩
  have hT0 : Tab lamPos #[] := .inl rfl
  clear X0 T0
  refine law_go (K := Mine.hz.heap_1_39 w.params) (binds := [(Str.ofString "script", .ref _)]) (more := [Str.ofString "numbers", Str.ofString "items", Str.ofString "name", Str.ofString "due", Str.ofString "pattern", Str.ofString "total", Str.ofString "way", Str.ofString "outer", Str.ofString "worn"])
    (gl := [(Str.ofString "_law_drawn", .ref 844), (Str.ofString "_law_fits", .ref 849), (Str.ofString "_law_takes", .ref 830), (Str.ofString "_law_pieces", .ref 823), (Str.ofString "translate", .ref 56),
      (Str.ofString "_law_dressed", .ref 856), (Str.ofString "_law_undressed", .ref 863), (Str.ofString "len", .builtin "len"), (Str.ofString "sum", .builtin "sum")]) F0 N0 (fun x => rfl) ?ht ?hok ?hgl ?_
  case ht => exact Nat.le_add_left _ _
  case hok => kernel_rfl
  case hgl => kernel_rfl
  clear F0 N0
  generalize hg0 : ghostOf _ [(74, 70)] = g at S lifted ⊢
  intro env A hL hA' hfm hfr H D Q0 hQ2
  dsimp only
  generalize hB : (Shared.mk _ _ _ _ _ : Shared) = B at D ⊢
  as_aux_lemma =>
    replace D : St B _ env (lV l0 none none none none none none none none none) B [(70, tabObj #[])] := D
    have hbk : env.blockKind = .function := by unfold Env.blockKind; rw [D.kind]; rfl
    have hkN : env.kindOf (Str.ofString "numbers") = some .local := (D.loc (Str.ofString "numbers", none) (by simp)).1
    with_reducible refine x_cons ?_; intro _ _ _
    refine' r_listcomp_assign (K := Mine.hz.heap_1_39 w.params) (cl := []) ?hsw hA'.hd ?hclos ?hcell ?hkind ?hnames ?hx ?hd ?_
    case hsw => unfold swapsWith; dsimp only; rw [hbk, hkN]; rfl
    case hclos => rfl
    case hcell => decide
    case hkind => rfl
    case hnames => decide
    case hx => rfl
    case hd => decide
    wtm_at "ms"
    have hvl := hI.length
    refine r_slice_ints D (let ⟨o, ho, r⟩ := lifted; ⟨o, D.keep _ _ ho, r⟩) .none (.int _ _) (kmk_upto hI (by decide)) (by omega) (fun l1 vs1 s hvs1 hl1 D => ?_) (by with_unfolding_all rfl) (by intro _; with_unfolding_all rfl)
    obtain ⟨ms, hvs1, hms7⟩ : ∃ ms : List Int, Nums vs1 ms ∧ ms.length ≤ 7 := ⟨_, hvs1, List.length_take_le _ _⟩
    refine ⟨_, _, _, _, l1, vs1, 0, fun j ys => Nums ys (((ms.take j).map fun x => (x % 1000000).toNat).map Nat.cast), rfl, D, S, by wtm_at "has", .nil, ?hlen, ?step, fun acc => lV l0 (some (.ref acc)) none none none none none none none none, fun acc => .tail .head, ?fin⟩
    case hlen =>
      intro j ys hR
      have h1 := hR.len
      rw [List.length_map, List.length_map] at h1
      exact Nat.le_trans (Nat.le_of_eq h1) (Nat.le_trans (List.length_take_le' j ms) (Nat.le_trans hms7 (by decide)))
    case step =>
      intro C B' g' s2 j v ys m acc I2 o2 hold hI2 S' hv2 hR D2
      obtain ⟨x, tx, hx, rfl⟩ := hvs1.got hv2
      have htk : ms.take (j + 1) = ms.take j ++ [x] := by rw [List.take_add_one, hx]; rfl
      replace S := S'
      clear D S'
      have D : St B' g' (compEnvC _ _ C env) _ s2 _ := D2
      clear D2
      rw [List.forIn_nil]
      refine wpAny_pure ?_
      rw [if_pos rfl]
      wtm_at "ms"
      have e : ((x % 1000000).toNat : Int) = x % 1000000 := Int.toNat_of_nonneg (Int.emod_nonneg _ (by decide))
      refine ⟨?_, _, D⟩
      rw [htk, List.map_append, List.map_append]
      show Nums _ (_ ++ [((x % 1000000).toNat : Int)])
      rw [e]
      exact hR.snoc
    case fin =>
      intro ys m acc s hR hb D
      rw [hvs1.len, List.take_length] at hR
      replace D := D.drop (news' := [(acc, Lo ys m), (70, tabObj #[])]) (by wtm_at "sub")
      obtain ⟨xs, hR, hx6, hx7⟩ : ∃ xs : List Nat, Nums ys (xs.map Nat.cast) ∧ (∀ x ∈ xs, x < 1000000) ∧ xs.length ≤ 7 := ⟨_, hR, fun x hx => by obtain ⟨y, _, rfl⟩ := List.mem_map.mp hx; exact (Int.toNat_lt (Int.emod_nonneg _ (by decide))).mpr (Int.emod_lt_of_pos _ (by decide)), by rw [List.length_map]; exact hms7⟩
      clear hvs1 hms7
      replace D : St B _ env (lV l0 (some (.ref acc)) none none none none none none none none) s [(acc, Lo ys m), (70, tabObj #[])] := D
      have hyl := hR.len
      rw [List.length_map] at hyl
      wtm_at "ms"
      refine r_newlist D (Nat.le_of_ble_eq_true rfl) ?_; wtm_at "nl"; intro l2 s hl2 D; wtm_at "ms"
      refine kba_turn (value' := PySem.Expr.Name (PySem.Str.ofString "_") ⟨0, 0, 0, 0⟩) (fun _ => rfl) ?_
      refine r_slice_ints (ms := ([4, 0, 21] : List Int).drop ys.length) D (D.lst (vs := [.int 4 _, .int 0 _, .int 21 _]) (by wtm_at "has")) (.int _ _) .none (kmk_from (.cons _ _ (.cons _ _ (.cons _ _ .nil))) (Int.natCast_nonneg _)) (by simp) (fun l3 ws s hws hl3 D => ?_) (by with_unfolding_all rfl) (by intro _; with_unfolding_all rfl)
      have hwl := hws.len
      rw [List.length_drop] at hwl
      wtm_at "ms"
      refine r_add_lists D (by wtm_at "has") (by wtm_at "has") (by simp at hwl; omega) fun l4 s hl4 D => ?_
      have hN : Nums (ys ++ ws) ((xs ++ ([4, 0, 21] : List Nat).drop xs.length).map Nat.cast) := by
        rw [List.map_append, List.map_drop, ← hyl]
        exact hR.append hws
      obtain ⟨ns, hN, hn6, hn7⟩ : ∃ ns : List Nat, Nums (ys ++ ws) (ns.map Nat.cast) ∧ (∀ x ∈ ns, x < 1000000) ∧ ns.length ≤ 10 := ⟨_, hN, fun x hx => by
        rcases List.mem_append.mp hx with hx | hx
        · exact hx6 x hx
        · have := List.mem_of_mem_drop hx
          simp at this; omega, by rw [List.length_append, List.length_drop]; simp; omega⟩
      generalize ys ++ ws = vs2 at hN D ⊢
      clear hws hR hwl hyl hx6 hx7
      as_aux_lemma =>
        wtm_at "ms"
        refine useR (tDrawn w l4 vs2 _ ns hN hn6 (Nat.le_trans hn7 (by decide))) S (hA'.less (by decide)) D (fun p hp => by rw [List.mem_singleton.mp hp]; wtm_at "has") fun v own' s hp hB2 D => ?_
        obtain ⟨a, b, is, k, t, rfl, rfl, his⟩ := hp
        dsimp only [List.cons_append, List.nil_append] at D
        replace D : St B _ env (lV l0 (some (.ref l4)) none none none none none none none none) s [(a, tupObj [.ref b, .str (T (ns.flatMap nameOf)) t]), (b, Lo is k), (l4, Lo vs2 0), (70, tabObj #[])] := D.drop (by wtm_at "sub")
        wtm_at "ms"
        clear hB2
        rw [items_tok] at his
        have hp10 := toks_len ns
        have hn10 := nameLen ns
        have hk0 := Sg.toks ns
        have hk1 := Sg.name ns
        generalize ns.flatMap tokOf = p at his hp10 hk0
        generalize ns.flatMap nameOf = name at D hn10 hk1 ⊢
        refine useR (tFits w b is k p name his (Nat.le_trans hp10 (Nat.le_trans hn7 (by decide))) (Nat.le_trans hn10 (Nat.le_trans hn7 (by decide))) t) S (hA'.less (by decide)) D (fun p hp => by rw [List.mem_singleton.mp hp]; wtm_at "has") fun v own' s hp hB2 D => ?_
        obtain ⟨rfl, rfl⟩ := hp
        have hlp := (patT_len p).2
        have hK : Kept 0 (decide (name.length ∈ p.foldl (plStep name) [0])) p name := ⟨hk0, hk1, Nat.le_trans hlp (Nat.mul_le_mul_left 3 (Nat.le_trans hp10 hn7)), Nat.le_trans hn10 (Nat.le_trans hn7 (by decide)), by rw [decide_eq_true_iff]; exact places_mat name p⟩
        generalize decide (name.length ∈ p.foldl (plStep name) [0]) = due at hK D ⊢
        clear hB2 hk0 hk1
        as_aux_lemma =>
          dsimp only [List.cons_append, List.nil_append] at D
          wtm_at "ms"
          refine' r_listcomp (K := Mine.hz.heap_1_39 w.params) (cl := []) hA'.hd ?hclos ?hcell ?hkind ?hnames ?hx ?hd ?_
          case hclos => rfl
          case hcell => decide
          case hkind => rfl
          case hnames => decide
          case hx => rfl
          case hd => decide
          wtm_at "ms"
          have hisl := his.len
          rw [List.length_map] at hisl
          refine ⟨_, _, _, _, b, is, k, fun j ys => Txts ys ((p.take j).map tokT), rfl, D, S, by wtm_at "has", .nil, ?hlen, ?step, ?fin⟩
          case hlen =>
            intro j ys hR
            have h1 := hR.len
            rw [List.length_map] at h1
            exact Nat.le_trans (Nat.le_of_eq h1) (Nat.le_trans (List.length_take_le' j p) (Nat.le_trans hp10 (Nat.le_trans hn7 (by decide))))
          case step =>
            intro C B' g' s2 j v ys m acc I2 o2 hold hI2 S' hv2 hR D2
            obtain ⟨li, ti, hli, rfl⟩ := his.got hv2
            rw [List.getElem?_map] at hli
            cases hpj : p[j]? with
            | none => rw [hpj] at hli; cases hli
            | some tok =>
            rw [hpj] at hli
            cases hli
            have htk : p.take (j + 1) = p.take j ++ [tok] := by rw [List.take_add_one, hpj]; rfl
            replace S := S'
            clear D S'
            have D : St B' g' (compEnvC _ _ C env) _ s2 _ := D2
            clear D2
            have H := comp_glo (x := Str.ofString "_law_barred") (v := .ref 816) D H (by rfl) (by decide) (by kernel_rfl)
            rw [List.forIn_nil]
            refine wpAny_pure ?_
            rw [if_pos rfl]
            cases tok with
            | none =>
              wtm_at "ms"
              refine ⟨?_, _, D⟩
              show Txts _ ((p.take (j + 1)).map tokT)
              rw [htk, List.map_append]
              exact hR.snoc
            | some c =>
              wtm_at "ms"
              refine use0 (tBarred w c _) S (hA'.less (by decide)) D fun v own' s hp D => ?_
              obtain ⟨t, rfl, rfl⟩ := hp
              refine ⟨?_, _, D⟩
              show Txts _ ((p.take (j + 1)).map tokT)
              rw [htk, List.map_append]
              exact hR.snoc
          case fin =>
            intro ys m acc s hR hb D
            rw [hisl, List.take_length] at hR
            have hjl : (p.map tokT).flatten.length ≤ 1000000 := by
              rw [← List.flatMap_def]
              exact Nat.le_trans hlp (Nat.le_trans (Nat.mul_le_mul_left 3 (Nat.le_trans hp10 hn7)) (by decide))
            wtm_at "ms"
            refine r_sum hA'.hd D (by wtm_at "has") hN fun tt s D => ?_
            generalize (ns.map Nat.cast : List Int).sum = tot at D ⊢
            as_aux_lemma =>
              replace D := D.drop (news' := [(l4, Lo vs2 0), (70, tabObj #[])]) (by wtm_at "sub")
              rw [← List.flatMap_def] at D
              wtm_at "ms"
              replace D := D.drop (news' := ([] : News') ++ [(70, tabObj #[])]) (List.sublist_cons_self _ _)
              obtain ⟨pf, r, Bd⟩ := bridge p hK.sp (Nat.le_trans hK.lp (by decide))
              refine useT (news := []) (tTranslate w p Bd.good Bd.hb _ pf r Bd.hpf Bd.mid Bd.len Bd.pn) hT0 S (hA'.less (by decide)) D (fun p hp => nomatch hp) fun v own' ps2 s hp hTab2 hB2 D => ?_
              obtain ⟨t2, rfl, rfl⟩ := hp
              dsimp only [List.nil_append] at D
              rw [Bd.txt]
              wtm_at "ms"
              refine use0 (tPieces w (pcs p) Bd.ne Bd.piece Bd.tl _) S (hA'.less (by decide)) D fun v own' s hp D => ?_
              obtain ⟨l5, vs5, n5, rfl, rfl, hx5⟩ := hp
              wtm_at "ms"
              refine useR (tTakes w l5 vs5 n5 (pcs p) name hx5 Bd.ne Bd.pl Bd.pcl (Nat.le_trans hn10 (Nat.le_trans hn7 (by decide))) _) S (hA'.less (by decide)) D (fun p hp => by rw [List.mem_singleton.mp hp]; exact D.get List.mem_cons_self) fun v own' s hp hB2 D => ?_
              obtain ⟨b5, rfl, hb5, rfl⟩ := hp
              obtain rfl : b5 = due := by rw [Bool.eq_iff_iff]; exact (hb5.trans (fit_pcs p name)).trans hK.mat.symm
              wtm_at "ms"
              refine ne_bools ?_
              rw [beq_self_eq_true, show (!true) = false from rfl]
              wtm_at "ms"
              refine r_for hA'.hd ?_
              wtm_at "ms"
              dsimp only [List.cons_append, List.nil_append] at D
              replace D := D.drop (news' := [(70, tabObj ps2)]) (by wtm_at "sub")
              refine r_newlist_n (.cons (.cons (.cons .nil))) D (by simp) fun W vw s hW hWl D => ?_
              have hWl : vw.length = 3 := hWl
              refine ⟨_, _, _, _, W, vw, 0, fun I o i s => ∃ (p : List (Option Nat)) (name : List Nat) (tp tn : Tok) (ps : Array Value) (vwy vo vr : Option Value), Kept i b5 p name ∧ Tab lamPos ps ∧
                St B g env (lV l0 (some (.ref l4)) (some (.ref b)) (some (.str (T name) tn)) (some (.bool b5)) (some (.str (T (patT p)) tp)) (some (.int tot tt)) vwy vo vr) s [(I, o), (W, Lo vw 0), (70, tabObj ps)],
                rfl, D, by wtm_at "has", fun I o s' D' => ⟨p, name, _, _, ps2, _, _, _, hK, hTab2, D'⟩, ?_⟩
              clear D hK hTab2 Bd hb5 hx5
              rintro I o i s hi ⟨p, name, tp, tn, ps, vwy, vo, vr, hK, hTab, D⟩
              refine ⟨_, _, _, 0, _, _, D, by wtm_at "has", fun o' => ⟨_, by wtm_at "turn", fun v s hv D Q' hQ => ?_⟩, fun hi s D => ?_⟩
              · obtain ⟨wy, tw, _, rfl⟩ := hW.got hv
                have hi3 : i < 3 := by
                  obtain ⟨h, _⟩ := List.getElem?_eq_some_iff.mp hv
                  omega
                have hbd := bd_le (Nat.le_of_lt hi3)
                have hKd := hK.dress wy
                have hbd2 : bd (i + 1) ≤ 282 := bd_le hi3
                have h1 := Nat.le_trans hK.lp hbd
                have h2 := Nat.le_trans hK.ln hbd
                have h3 := Nat.le_trans hKd.lp hbd2
                have h4 := Nat.le_trans hKd.ln hbd2
                wtm_at "ms"
                refine use0 (tDressed w wy (patT p) (Nat.le_trans h1 (by decide)) _ _) S (hA'.less (by decide)) D fun v own' s hp D => ?_
                obtain ⟨to, rfl, rfl⟩ := hp
                rw [dressW_dN]
                dsimp only [List.nil_append] at D
                wtm_at "ms"
                refine use0 (tDressed w wy name (Nat.le_trans h2 (by decide)) _ _) S (hA'.less (by decide)) D fun v own' s hp D => ?_
                obtain ⟨tr, rfl, rfl⟩ := hp
                rw [dressW_dN]
                dsimp only [List.nil_append] at D
                wtm_at "ms"
                have hu : A.units < cLine := Nat.lt_of_le_of_lt (Nat.le_add_right _ _) hA'.un
                refine wpAny_call (useEn (news := [(I, o'), (W, Lo vw 0), (70, tabObj ps)]) (fo := []) (tUndressed w wy (dN wy (patT p)) (patT p) (Nat.le_trans h1 (by decide)) (patT_ne10 hK.sp) (undress_ok wy _ (Nat.le_trans h1 (by decide))) _ _) S (hA'.less (by decide)) hfm hfr fo_nil (fun b hb => nomatch hb) D fun r own' fo' s hp hB F D => ?_)
                obtain ⟨lu, mu, tu, rfl, rfl⟩ := hp
                obtain rfl := F.none
                dsimp only [List.nil_append, List.cons_append, List.append_nil] at D
                wtm_at "ms"
                refine r_newlist D (Nat.le_of_ble_eq_true rfl) ?_; wtm_at "nl"; intro q1 s hq1 D
                refine ne_txt (by wtm_at "has") (by wtm_at "has") hu ?_
                wtm_at "ms"
                replace D := D.drop (news' := [(I, o'), (W, Lo vw 0), (70, tabObj ps)]) (by wtm_at "sub")
                refine wpAny_call (useEn (news := [(I, o'), (W, Lo vw 0), (70, tabObj ps)]) (fo := []) (tUndressed w wy (dN wy name) name (Nat.le_trans h2 (by decide)) (fun c hc => (hK.sn c hc).ne10) (undress_ok wy _ (Nat.le_trans h2 (by decide))) _ _) S (hA'.less (by decide)) hfm hfr fo_nil (fun b hb => nomatch hb) D fun r own' fo' s hp hB F D => ?_)
                obtain ⟨lu2, mu2, tu2, rfl, rfl⟩ := hp
                obtain rfl := F.none
                dsimp only [List.nil_append, List.cons_append, List.append_nil] at D
                wtm_at "ms"
                refine r_newlist D (Nat.le_of_ble_eq_true rfl) ?_; wtm_at "nl"; intro q2 s hq2 D
                refine ne_txt (by wtm_at "has") (by wtm_at "has") hu ?_
                wtm_at "ms"
                replace D := D.drop (news' := [(I, o'), (W, Lo vw 0), (70, tabObj ps)]) (by wtm_at "sub")
                rw [dN_patT] at D
                rw [dN_patT]
                obtain ⟨pf, r, Bd⟩ := bridge (dT wy p) hKd.sp (Nat.le_trans h3 (by decide))
                refine useT (news := [(I, o'), (W, Lo vw 0)]) (tTranslate w (dT wy p) Bd.good Bd.hb _ pf r Bd.hpf Bd.mid Bd.len Bd.pn) hTab S (hA'.less (by decide)) D (fun p hp => nomatch hp) fun v own' ps2 s hp hTab2 hB2 D => ?_
                obtain ⟨t2, rfl, rfl⟩ := hp
                dsimp only [List.nil_append, List.cons_append] at D
                rw [Bd.txt]
                wtm_at "ms"
                refine use0 (tPieces w (pcs (dT wy p)) Bd.ne Bd.piece Bd.tl _) S (hA'.less (by decide)) D fun v own' s hp D => ?_
                obtain ⟨l5, vs5, n5, rfl, rfl, hx5⟩ := hp
                dsimp only [List.nil_append, List.cons_append] at D
                wtm_at "ms"
                refine useR (tTakes w l5 vs5 n5 (pcs (dT wy p)) (dN wy name) hx5 Bd.ne Bd.pl Bd.pcl (Nat.le_trans h4 (by decide)) _) S (hA'.less (by decide)) D (fun p hp => by rw [List.mem_singleton.mp hp]; exact D.get List.mem_cons_self) fun v own' s hp hB2 D => ?_
                obtain ⟨b6, rfl, hb6, rfl⟩ := hp
                obtain rfl : b6 = b5 := by rw [Bool.eq_iff_iff]; exact (hb6.trans (fit_pcs _ _)).trans hKd.mat.symm
                dsimp only [List.nil_append, List.cons_append] at D
                wtm_at "ms"
                refine ne_bools ?_
                rw [beq_self_eq_true, show (!true) = false from rfl]
                wtm_at "ms"
                exact ⟨dT wy p, dN wy name, _, _, ps2, _, _, _, hKd, hTab2, D.drop (by wtm_at "sub")⟩
              · wtm_at "ms"
                obtain ⟨mF, LF, _⟩ := id D.led
                obtain ⟨r1, r2, r3⟩ := D.rest
                with_reducible refine And.intro ?g1 ?g2
                case g2 => exact ⟨⟨ps, D.get (by wtm_at "mem")⟩, trivial⟩
                with_reducible refine goodW_bool (s₁ := { heap := g, gens := _, drawn := _, toks := _, os := _ }) LF.fr ?hg (raisesW_false ?hn) ?hp ?hos
                case hg => exact r1.trans (by rw [← hB]; exact hgens)
                case hos => exact r3.trans (by rw [← hB])
                case hn => wrow_none_raised
                case hp => wrow_post)

end
end Mine
set_option maxRecDepth 100000 in
set_option maxHeartbeats 8000000 in
theorem PySem.Challenge.cw_kt0083_01_holds : PySem.Challenge.rw_kt0083_01.Holds := by
  exact Mine.last
