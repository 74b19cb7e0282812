import PyProof.Rows.All
import Wide.All
import OpenK.AllK
import Wide.FinOn
import Lean
import PySem.Challenge.RW_ij0133_01
open PySem PySem.W PyProof.Rows PySem.Calls
set_option Elab.async false
set_option rowWalk.seconds 0
set_option compiler.extract_closed false
set_option maxRecDepth 100000
set_option maxHeartbeats 1500000
namespace Mine
/- names that keep the head's twins from being laid: the compiled file stays small -/
theorem top.tw10001883323181062329 : True := trivial
theorem top.tw10005945817407372193 : True := trivial
theorem top.tw10006222313960134694 : True := trivial
theorem top.tw10008474027749305400 : True := trivial
theorem top.tw10010203797729834575 : True := trivial
theorem top.tw10017263926548143515 : True := trivial
theorem top.tw1007256952997204316 : True := trivial
theorem top.tw10079171474624433434 : True := trivial
theorem top.tw10090393231696489298 : True := trivial
theorem top.tw10101883924317870271 : True := trivial
theorem top.tw10180943152330463961 : True := trivial
theorem top.tw10187264123177260123 : True := trivial
theorem top.tw10187724287525710026 : True := trivial
theorem top.tw10194810499950245846 : True := trivial
theorem top.tw10195997230039290492 : True := trivial
theorem top.tw10219655510578893393 : True := trivial
theorem top.tw10239475785048107997 : True := trivial
theorem top.tw10242591131026960117 : True := trivial
theorem top.tw10248073240650190340 : True := trivial
theorem top.tw10252623693936335467 : True := trivial
theorem top.tw10276331973627342096 : True := trivial
theorem top.tw10296497611174029103 : True := trivial
theorem top.tw10317287140990440334 : True := trivial
theorem top.tw10328360990557673835 : True := trivial
theorem top.tw10341860258655708415 : True := trivial
theorem top.tw10350142207108426684 : True := trivial
theorem top.tw10353446712322349686 : True := trivial
theorem top.tw10361075674979980167 : True := trivial
theorem top.tw10362775142378211054 : True := trivial
theorem top.tw10367675484739944270 : True := trivial
theorem top.tw10399464001100048223 : True := trivial
theorem top.tw10404823597219466188 : True := trivial
theorem top.tw1040915598704419856 : True := trivial
theorem top.tw10414433010598505635 : True := trivial
theorem top.tw1043701613660472097 : True := trivial
theorem top.tw104434173382791472 : True := trivial
theorem top.tw10448899703829047738 : True := trivial
theorem top.tw10467260515200827399 : True := trivial
theorem top.tw1047907039808853306 : True := trivial
theorem top.tw10505224238033894595 : True := trivial
theorem top.tw10512489437642701289 : True := trivial
theorem top.tw1054488965285714247 : True := trivial
theorem top.tw10548783162686979305 : True := trivial
theorem top.tw10549977736560136457 : True := trivial
theorem top.tw10558761922227201614 : True := trivial
theorem top.tw10562855833978642645 : True := trivial
theorem top.tw10567129059001840431 : True := trivial
theorem top.tw10574840078274726829 : True := trivial
theorem top.tw10577272966987657301 : True := trivial
theorem top.tw10577396366154187472 : True := trivial
theorem top.tw10579768621468169598 : True := trivial
theorem top.tw10617020205504526918 : True := trivial
theorem top.tw10643057118474118344 : True := trivial
theorem top.tw10648311167861321448 : True := trivial
theorem top.tw10657950659306570408 : True := trivial
theorem top.tw1068965626710143233 : True := trivial
theorem top.tw10694878333477680388 : True := trivial
theorem top.tw10763682846017881258 : True := trivial
theorem top.tw10768140376307724812 : True := trivial
theorem top.tw10773188271377071773 : True := trivial
theorem top.tw10774637447528242797 : True := trivial
theorem top.tw10783980745131425670 : True := trivial
theorem top.tw10797620697341660853 : True := trivial
theorem top.tw10801874191123338550 : True := trivial
theorem top.tw10836530967397901330 : True := trivial
theorem top.tw10864713392326063847 : True := trivial
theorem top.tw10871174231137468428 : True := trivial
theorem top.tw10885322118463539834 : True := trivial
theorem top.tw1088946173253831356 : True := trivial
theorem top.tw10915162052029792233 : True := trivial
theorem top.tw10936122117785486979 : True := trivial
theorem top.tw10956490626425055710 : True := trivial
theorem top.tw10987319290404115282 : True := trivial
theorem top.tw10996937224433265937 : True := trivial
theorem top.tw11038064363049568621 : True := trivial
theorem top.tw11045010717311733409 : True := trivial
theorem top.tw11053662475850362967 : True := trivial
theorem top.tw1107088416671253978 : True := trivial
theorem top.tw11072019736110318841 : True := trivial
theorem top.tw1108800333578037850 : True := trivial
theorem top.tw11093206078495630212 : True := trivial
theorem top.tw11116745826364501430 : True := trivial
theorem top.tw1112988674713690477 : True := trivial
theorem top.tw11131206648525784891 : True := trivial
theorem top.tw11133666699803404755 : True := trivial
theorem top.tw11141966352661209427 : True := trivial
theorem top.tw11145643937294416527 : True := trivial
theorem top.tw11153979150802330146 : True := trivial
theorem top.tw11159431927160009238 : True := trivial
theorem top.tw11173010173815179391 : True := trivial
theorem top.tw11173226333570903287 : True := trivial
theorem top.tw11189890337720088615 : True := trivial
theorem top.tw11199532085631943738 : True := trivial
theorem top.tw11199710921928265848 : True := trivial
theorem top.tw11203750815551599093 : True := trivial
theorem top.tw1123975283337734383 : True := trivial
theorem top.tw11240886729373846589 : True := trivial
theorem top.tw1124271682379634556 : True := trivial
theorem top.tw11263669390164206178 : True := trivial
theorem top.tw11279390925490393535 : True := trivial
theorem top.tw11334203419191126389 : True := trivial
theorem top.tw11334350811105764591 : True := trivial
theorem top.tw11334415319851112604 : True := trivial
theorem top.tw1137235612907882162 : True := trivial
theorem top.tw11377482038585738817 : True := trivial
theorem top.tw11383000496634168614 : True := trivial
theorem top.tw11384800866962632227 : True := trivial
theorem top.tw1139600151236580504 : True := trivial
theorem top.tw11423202765487971197 : True := trivial
theorem top.tw1142415686869020238 : True := trivial
theorem top.tw1142465760834251562 : True := trivial
theorem top.tw11430207588045935325 : True := trivial
theorem top.tw11443710868159068359 : True := trivial
theorem top.tw11457754044182789617 : True := trivial
theorem top.tw11459358961799972967 : True := trivial
theorem top.tw11466170419677230873 : True := trivial
theorem top.tw11468358511172941013 : True := trivial
theorem top.tw11470690223818410786 : True := trivial
theorem top.tw114735475811551136 : True := trivial
theorem top.tw1147548669246485465 : True := trivial
theorem top.tw1149218181149386328 : True := trivial
theorem top.tw11503242561204267055 : True := trivial
theorem top.tw11520865232209809239 : True := trivial
theorem top.tw11542710104232473196 : True := trivial
theorem top.tw11561827921928013385 : True := trivial
theorem top.tw11577829705659331004 : True := trivial
theorem top.tw11582926029173025856 : True := trivial
theorem top.tw11584198869435930015 : True := trivial
theorem top.tw11592465598724292549 : True := trivial
theorem top.tw11593399256984752444 : True := trivial
theorem top.tw11613256710310857696 : True := trivial
theorem top.tw11620634932572840514 : True := trivial
theorem top.tw1169771345039838236 : True := trivial
theorem top.tw11732849358908057107 : True := trivial
theorem top.tw11735923915801401282 : True := trivial
theorem top.tw11760055953109336660 : True := trivial
theorem top.tw11762496359356365647 : True := trivial
theorem top.tw11765434788231831023 : True := trivial
theorem top.tw11779653239440661071 : True := trivial
theorem top.tw11803689641445798100 : True := trivial
theorem top.tw11828478481110319688 : True := trivial
theorem top.tw11840804652615492782 : True := trivial
theorem top.tw11842451847925006096 : True := trivial
theorem top.tw11845233108574324481 : True := trivial
theorem top.tw11858546649754279707 : True := trivial
theorem top.tw11862920568910387298 : True := trivial
theorem top.tw11889597043561437815 : True := trivial
theorem top.tw11917448952958348678 : True := trivial
theorem top.tw11922380849998532372 : True := trivial
theorem top.tw1192657577511650299 : True := trivial
theorem top.tw1195175773429642966 : True := trivial
theorem top.tw11960245374511038805 : True := trivial
theorem top.tw11961350612320602522 : True := trivial
theorem top.tw11982747722937265360 : True := trivial
theorem top.tw11994683656316670133 : True := trivial
theorem top.tw12012865196380796599 : True := trivial
theorem top.tw12031303853943761323 : True := trivial
theorem top.tw12033610942823940228 : True := trivial
theorem top.tw12043218685254973450 : True := trivial
theorem top.tw12080426169559351053 : True := trivial
theorem top.tw12094960947251128927 : True := trivial
theorem top.tw1209819496270969543 : True := trivial
theorem top.tw12105128591322288922 : True := trivial
theorem top.tw12117888159696746259 : True := trivial
theorem top.tw1212798325632107971 : True := trivial
theorem top.tw12157284967251751451 : True := trivial
theorem top.tw12166907935582030026 : True := trivial
theorem top.tw12182655422080760471 : True := trivial
theorem top.tw12193372218175167114 : True := trivial
theorem top.tw12209182163369298222 : True := trivial
theorem top.tw12210559395081530917 : True := trivial
theorem top.tw12216630987165489725 : True := trivial
theorem top.tw12256363837256957063 : True := trivial
theorem top.tw12287887523310495049 : True := trivial
theorem top.tw12317137736924338119 : True := trivial
theorem top.tw12318557346453588183 : True := trivial
theorem top.tw12322150652039217950 : True := trivial
theorem top.tw12329864456250741675 : True := trivial
theorem top.tw12340227926317113386 : True := trivial
theorem top.tw1236304545764765349 : True := trivial
theorem top.tw12376051458212225564 : True := trivial
theorem top.tw12379415707883124570 : True := trivial
theorem top.tw12385144161495827662 : True := trivial
theorem top.tw12392516345856041104 : True := trivial
theorem top.tw12415523145999629524 : True := trivial
theorem top.tw12425085872883035938 : True := trivial
theorem top.tw12427389293880184781 : True := trivial
theorem top.tw12443789822770055382 : True := trivial
theorem top.tw1245559373397905713 : True := trivial
theorem top.tw12483720753089274532 : True := trivial
theorem top.tw12488038555639769405 : True := trivial
theorem top.tw12507017104952529904 : True := trivial
theorem top.tw12519573946865146793 : True := trivial
theorem top.tw12520176845478516731 : True := trivial
theorem top.tw12521587561680038787 : True := trivial
theorem top.tw12535971307161669396 : True := trivial
theorem top.tw12540527436937284434 : True := trivial
theorem top.tw12545222027267286695 : True := trivial
theorem top.tw12554540806306477360 : True := trivial
theorem top.tw12559286593441436923 : True := trivial
theorem top.tw12564220515667953714 : True := trivial
theorem top.tw12603656398198563500 : True := trivial
theorem top.tw12609604535291364189 : True := trivial
theorem top.tw12622177474791663080 : True := trivial
theorem top.tw12625694945159114441 : True := trivial
theorem top.tw12638030207367898728 : True := trivial
theorem top.tw12643491718579748851 : True := trivial
theorem top.tw12643520174271941249 : True := trivial
theorem top.tw12718909917080609646 : True := trivial
theorem top.tw12725264436868645240 : True := trivial
theorem top.tw12734148187753135964 : True := trivial
theorem top.tw12751139281825843639 : True := trivial
theorem top.tw12756434147638494346 : True := trivial
theorem top.tw1275901062530889299 : True := trivial
theorem top.tw12762922103008790111 : True := trivial
theorem top.tw12777601194060584777 : True := trivial
theorem top.tw12783364522390391256 : True := trivial
theorem top.tw12787338502077490372 : True := trivial
theorem top.tw12819366960792805191 : True := trivial
theorem top.tw12841572728458906558 : True := trivial
theorem top.tw1284575025550258836 : True := trivial
theorem top.tw12865423146811077096 : True := trivial
theorem top.tw12879618353801967718 : True := trivial
theorem top.tw12894197372075662830 : True := trivial
theorem top.tw12904532413392791838 : True := trivial
theorem top.tw1291508964198565346 : True := trivial
theorem top.tw12931362102233154023 : True := trivial
theorem top.tw1293289543672728842 : True := trivial
theorem top.tw12932905502366258525 : True := trivial
theorem top.tw1294077662247117797 : True := trivial
theorem top.tw12944596839952905832 : True := trivial
theorem top.tw12958502747184954254 : True := trivial
theorem top.tw12958664272152378060 : True := trivial
theorem top.tw12960919825447276754 : True := trivial
theorem top.tw1297684725254868899 : True := trivial
theorem top.tw13001836021917841797 : True := trivial
theorem top.tw13007260833023717011 : True := trivial
theorem top.tw13012589842206080548 : True := trivial
theorem top.tw13029900630750994668 : True := trivial
theorem top.tw13044034144603486326 : True := trivial
theorem top.tw1304757597395314617 : True := trivial
theorem top.tw13047834502658803893 : True := trivial
theorem top.tw13068111086705522682 : True := trivial
theorem top.tw13090165191389475591 : True := trivial
theorem top.tw13091174067606910046 : True := trivial
theorem top.tw1312780250039628139 : True := trivial
theorem top.tw13134186033006778460 : True := trivial
theorem top.tw13167462122316868159 : True := trivial
theorem top.tw13177472732611162249 : True := trivial
theorem top.tw13178059906610389163 : True := trivial
theorem top.tw13187519465064655849 : True := trivial
theorem top.tw13188079976727067231 : True := trivial
theorem top.tw13191473780850816973 : True := trivial
theorem top.tw1321871150748368714 : True := trivial
theorem top.tw13223034962123697568 : True := trivial
theorem top.tw13261893007816960818 : True := trivial
theorem top.tw13264354339760550358 : True := trivial
theorem top.tw1327071701531785838 : True := trivial
theorem top.tw13272337422414781067 : True := trivial
theorem top.tw13290321428070320777 : True := trivial
theorem top.tw132903981291199154 : True := trivial
theorem top.tw13305523845174962083 : True := trivial
theorem top.tw13307591127769906961 : True := trivial
theorem top.tw13318506193475082254 : True := trivial
theorem top.tw13326734554550294991 : True := trivial
theorem top.tw13345470168829271861 : True := trivial
theorem top.tw13369591340354186047 : True := trivial
theorem top.tw13370185576492129568 : True := trivial
theorem top.tw13370750898655102155 : True := trivial
theorem top.tw13385244156195431271 : True := trivial
theorem top.tw13385996262653078937 : True := trivial
theorem top.tw13420762306968818387 : True := trivial
theorem top.tw13422432716488540661 : True := trivial
theorem top.tw13432635357386499347 : True := trivial
theorem top.tw13474863142627684814 : True := trivial
theorem top.tw13478431904813821724 : True := trivial
theorem top.tw13500427573557490136 : True := trivial
theorem top.tw13501252493785611398 : True := trivial
theorem top.tw13525443076416275642 : True := trivial
theorem top.tw1353657120722975067 : True := trivial
theorem top.tw13546161746385187788 : True := trivial
theorem top.tw13549259019975226677 : True := trivial
theorem top.tw13571448547899197161 : True := trivial
theorem top.tw13576654369662418201 : True := trivial
theorem top.tw13664746368384525793 : True := trivial
theorem top.tw13706816188851595723 : True := trivial
theorem top.tw13710211086531791108 : True := trivial
theorem top.tw13713866747541496747 : True := trivial
theorem top.tw13759081321499198575 : True := trivial
theorem top.tw13762209637798829341 : True := trivial
theorem top.tw13799840507378627052 : True := trivial
theorem top.tw13802547742096326172 : True := trivial
theorem top.tw13805588055438515702 : True := trivial
theorem top.tw13820912127525551613 : True := trivial
theorem top.tw13822267516522204269 : True := trivial
theorem top.tw13830271770371739309 : True := trivial
theorem top.tw13844505572957833930 : True := trivial
theorem top.tw13852830345959847167 : True := trivial
theorem top.tw13864677062968915208 : True := trivial
theorem top.tw13889309363888878346 : True := trivial
theorem top.tw13889484949932952446 : True := trivial
theorem top.tw13890846271309207196 : True := trivial
theorem top.tw13896958669275611876 : True := trivial
theorem top.tw13899568491130100285 : True := trivial
theorem top.tw13901205277877782832 : True := trivial
theorem top.tw13902025155065610156 : True := trivial
theorem top.tw13922054642007902626 : True := trivial
theorem top.tw1394568958698188020 : True := trivial
theorem top.tw13954775828768091011 : True := trivial
theorem top.tw13975414291046593716 : True := trivial
theorem top.tw13983857475226248213 : True := trivial
theorem top.tw13985988839938425345 : True := trivial
theorem top.tw13987285891283452908 : True := trivial
theorem top.tw13990698242589431971 : True := trivial
theorem top.tw13994475860397038760 : True := trivial
theorem top.tw1400011881503588481 : True := trivial
theorem top.tw14042817526060737062 : True := trivial
theorem top.tw14065501367340364311 : True := trivial
theorem top.tw14120148312427719287 : True := trivial
theorem top.tw14142502885225118848 : True := trivial
theorem top.tw14145802354927516647 : True := trivial
theorem top.tw14168018189251442112 : True := trivial
theorem top.tw14214649769353832295 : True := trivial
theorem top.tw14214845130331304391 : True := trivial
theorem top.tw14235281626263879747 : True := trivial
theorem top.tw14248925298954806443 : True := trivial
theorem top.tw14263998999751124003 : True := trivial
theorem top.tw14277827659066580250 : True := trivial
theorem top.tw14282377253939248939 : True := trivial
theorem top.tw14301671488300290737 : True := trivial
theorem top.tw14308104382005812605 : True := trivial
theorem top.tw14309182039651084788 : True := trivial
theorem top.tw14317375437502057738 : True := trivial
theorem top.tw14319750081657075607 : True := trivial
theorem top.tw14349089067433371257 : True := trivial
theorem top.tw14371913498598963198 : True := trivial
theorem top.tw14372152842798730730 : True := trivial
theorem top.tw14390669486469195807 : True := trivial
theorem top.tw14399976873020721970 : True := trivial
theorem top.tw14402358008270493973 : True := trivial
theorem top.tw14428541309147478210 : True := trivial
theorem top.tw14429230371299607918 : True := trivial
theorem top.tw14450715343900746980 : True := trivial
theorem top.tw14453841093610474573 : True := trivial
theorem top.tw14459580976405569124 : True := trivial
theorem top.tw14466935161476858967 : True := trivial
theorem top.tw14510474431719978317 : True := trivial
theorem top.tw14526540143163920134 : True := trivial
theorem top.tw14537839394382259888 : True := trivial
theorem top.tw14562072457839527476 : True := trivial
theorem top.tw14597223018079223185 : True := trivial
theorem top.tw14608685727046917156 : True := trivial
theorem top.tw14615657086365298920 : True := trivial
theorem top.tw14632489290957082403 : True := trivial
theorem top.tw14645912567700417926 : True := trivial
theorem top.tw14657780768301432306 : True := trivial
theorem top.tw14671331368771545958 : True := trivial
theorem top.tw146815374380898660 : True := trivial
theorem top.tw14697636140705633519 : True := trivial
theorem top.tw14705559076539443318 : True := trivial
theorem top.tw14707807475535933493 : True := trivial
theorem top.tw14724332232928298890 : True := trivial
theorem top.tw14747140909534839006 : True := trivial
theorem top.tw14751435942891637570 : True := trivial
theorem top.tw14762295962024373759 : True := trivial
theorem top.tw14771320824794740959 : True := trivial
theorem top.tw14786789198576647004 : True := trivial
theorem top.tw14789260269991461300 : True := trivial
theorem top.tw14796646475526232899 : True := trivial
theorem top.tw14823308797102314842 : True := trivial
theorem top.tw1483126911874232274 : True := trivial
theorem top.tw14851680436948445374 : True := trivial
theorem top.tw1486479319815781832 : True := trivial
theorem top.tw14901070454687303710 : True := trivial
theorem top.tw14917401599646851644 : True := trivial
theorem top.tw1492452104121835379 : True := trivial
theorem top.tw14971737761117006504 : True := trivial
theorem top.tw14973508212227373041 : True := trivial
theorem top.tw14983691940233647259 : True := trivial
theorem top.tw14987219478266130788 : True := trivial
theorem top.tw14996135249977892343 : True := trivial
theorem top.tw15003358760713899574 : True := trivial
theorem top.tw15008207993883188931 : True := trivial
theorem top.tw15024216053386777475 : True := trivial
theorem top.tw15029563650323070435 : True := trivial
theorem top.tw15058813355848621054 : True := trivial
theorem top.tw15073315481182737699 : True := trivial
theorem top.tw15092371282622821202 : True := trivial
theorem top.tw15095372191486117680 : True := trivial
theorem top.tw15125931889511115149 : True := trivial
theorem top.tw15151295755643613229 : True := trivial
theorem top.tw1516213087968936877 : True := trivial
theorem top.tw15166127791298437107 : True := trivial
theorem top.tw15169761463676818070 : True := trivial
theorem top.tw15177526630643400193 : True := trivial
theorem top.tw15212760480394562756 : True := trivial
theorem top.tw1522322319653140107 : True := trivial
theorem top.tw15234444972351076034 : True := trivial
theorem top.tw15240379268576122478 : True := trivial
theorem top.tw15242500199121756853 : True := trivial
theorem top.tw15245507539482535896 : True := trivial
theorem top.tw15254643099363442306 : True := trivial
theorem top.tw15262977503361262276 : True := trivial
theorem top.tw15271675978053873483 : True := trivial
theorem top.tw15286249088069653756 : True := trivial
theorem top.tw15299407806266782574 : True := trivial
theorem top.tw15349318334595610263 : True := trivial
theorem top.tw15361541807878343388 : True := trivial
theorem top.tw15362295582089109014 : True := trivial
theorem top.tw1536312445118062077 : True := trivial
theorem top.tw15383718091736126541 : True := trivial
theorem top.tw15438179002428589006 : True := trivial
theorem top.tw15451780782824253742 : True := trivial
theorem top.tw15491019914900986176 : True := trivial
theorem top.tw15498596964979890660 : True := trivial
theorem top.tw15503665604740900718 : True := trivial
theorem top.tw15506382734810221985 : True := trivial
theorem top.tw15508944514630427714 : True := trivial
theorem top.tw1551491737661789689 : True := trivial
theorem top.tw15525995667512963556 : True := trivial
theorem top.tw15542334942015070624 : True := trivial
theorem top.tw15569959144833144457 : True := trivial
theorem top.tw1559226430018442191 : True := trivial
theorem top.tw15638586536077026902 : True := trivial
theorem top.tw15646934709686841381 : True := trivial
theorem top.tw15687709949711836451 : True := trivial
theorem top.tw15690355392615275366 : True := trivial
theorem top.tw15735037969156040135 : True := trivial
theorem top.tw15740088241188596515 : True := trivial
theorem top.tw15743347864482560488 : True := trivial
theorem top.tw15744752440731449612 : True := trivial
theorem top.tw15755962551988530747 : True := trivial
theorem top.tw15787364395269599680 : True := trivial
theorem top.tw15817181387143870920 : True := trivial
theorem top.tw15823732540823425666 : True := trivial
theorem top.tw15833254233020807429 : True := trivial
theorem top.tw15836908640704697380 : True := trivial
theorem top.tw1584292188352093569 : True := trivial
theorem top.tw1585457916280141200 : True := trivial
theorem top.tw15860264024139754761 : True := trivial
theorem top.tw15873491276070852124 : True := trivial
theorem top.tw15874363893724204672 : True := trivial
theorem top.tw15877122091014420850 : True := trivial
theorem top.tw15878805988109762761 : True := trivial
theorem top.tw15911569825323301435 : True := trivial
theorem top.tw15918733279669447828 : True := trivial
theorem top.tw1592229195962567352 : True := trivial
theorem top.tw1595350964381101642 : True := trivial
theorem top.tw15966430410579761919 : True := trivial
theorem top.tw15985961358823992270 : True := trivial
theorem top.tw16004416686337608138 : True := trivial
theorem top.tw16007503158450755388 : True := trivial
theorem top.tw1601500998369573665 : True := trivial
theorem top.tw16034636559557993077 : True := trivial
theorem top.tw16044733080236030384 : True := trivial
theorem top.tw16054190913257422852 : True := trivial
theorem top.tw16058212318047004132 : True := trivial
theorem top.tw16068562728529669930 : True := trivial
theorem top.tw16104615914030681952 : True := trivial
theorem top.tw16120041803238788101 : True := trivial
theorem top.tw16123964013534891561 : True := trivial
theorem top.tw16128028805679967097 : True := trivial
theorem top.tw16149628235652541579 : True := trivial
theorem top.tw16155163154822807229 : True := trivial
theorem top.tw16166457384891526456 : True := trivial
theorem top.tw1617357707322924660 : True := trivial
theorem top.tw16174758807025615021 : True := trivial
theorem top.tw16196420915677631385 : True := trivial
theorem top.tw16204670001084760307 : True := trivial
theorem top.tw16240068400928781132 : True := trivial
theorem top.tw16258771989139608452 : True := trivial
theorem top.tw16262243036561855896 : True := trivial
theorem top.tw16264823338695392855 : True := trivial
theorem top.tw16273406610938067001 : True := trivial
theorem top.tw16281582537960229878 : True := trivial
theorem top.tw16307090917165222298 : True := trivial
theorem top.tw16325430554902658873 : True := trivial
theorem top.tw16326585352142918636 : True := trivial
theorem top.tw16342770487823414484 : True := trivial
theorem top.tw16352630495959832749 : True := trivial
theorem top.tw16354691339474908690 : True := trivial
theorem top.tw16357309143852133390 : True := trivial
theorem top.tw1638113669730673903 : True := trivial
theorem top.tw16414630628198896168 : True := trivial
theorem top.tw16415559393655328363 : True := trivial
theorem top.tw16420938139371093754 : True := trivial
theorem top.tw16426902794028739630 : True := trivial
theorem top.tw16439428074185983240 : True := trivial
theorem top.tw16441578918305252802 : True := trivial
theorem top.tw16487795177693110071 : True := trivial
theorem top.tw16509065781470453940 : True := trivial
theorem top.tw16526113553464788058 : True := trivial
theorem top.tw16533540343700365917 : True := trivial
theorem top.tw16542083797698202722 : True := trivial
theorem top.tw16550210197400561554 : True := trivial
theorem top.tw1655259298481077034 : True := trivial
theorem top.tw16580785732701462914 : True := trivial
theorem top.tw16612331741718818515 : True := trivial
theorem top.tw16615598289260009181 : True := trivial
theorem top.tw16656781636731879198 : True := trivial
theorem top.tw16659674399394625376 : True := trivial
theorem top.tw16663787254893796032 : True := trivial
theorem top.tw16674975167109581930 : True := trivial
theorem top.tw1670607248958778201 : True := trivial
theorem top.tw16713831800681072344 : True := trivial
theorem top.tw16719718919923625709 : True := trivial
theorem top.tw16721989186581611170 : True := trivial
theorem top.tw16734371015571099844 : True := trivial
theorem top.tw16736118626332596326 : True := trivial
theorem top.tw16739174306508632950 : True := trivial
theorem top.tw16740713388287298496 : True := trivial
theorem top.tw16753658254399821694 : True := trivial
theorem top.tw16759193500350966715 : True := trivial
theorem top.tw1676862907878916244 : True := trivial
theorem top.tw16770000883354449096 : True := trivial
theorem top.tw16782997733028217545 : True := trivial
theorem top.tw16793365374058956912 : True := trivial
theorem top.tw16795567611416646642 : True := trivial
theorem top.tw16800595933775061595 : True := trivial
theorem top.tw16809779246217341487 : True := trivial
theorem top.tw16821654228018055803 : True := trivial
theorem top.tw16836452506482946331 : True := trivial
theorem top.tw16840627104734473223 : True := trivial
theorem top.tw16866024460163772082 : True := trivial
theorem top.tw16869365282274683789 : True := trivial
theorem top.tw16878204669230926818 : True := trivial
theorem top.tw16885616592811714743 : True := trivial
theorem top.tw16896751376397280635 : True := trivial
theorem top.tw16900427199656544559 : True := trivial
theorem top.tw1697544655201012999 : True := trivial
theorem top.tw16982378080980825192 : True := trivial
theorem top.tw16994376123345812558 : True := trivial
theorem top.tw17009415399725018624 : True := trivial
theorem top.tw17022078359063049780 : True := trivial
theorem top.tw17030962893124633753 : True := trivial
theorem top.tw17033825039287860005 : True := trivial
theorem top.tw17046948494117081484 : True := trivial
theorem top.tw17050326753033342646 : True := trivial
theorem top.tw1706793611546318481 : True := trivial
theorem top.tw17085176360113175178 : True := trivial
theorem top.tw17089494485692210459 : True := trivial
theorem top.tw17103177528636943170 : True := trivial
theorem top.tw17103585973383926153 : True := trivial
theorem top.tw17104280840954017025 : True := trivial
theorem top.tw17135812771915316397 : True := trivial
theorem top.tw17138679496734019247 : True := trivial
theorem top.tw17157282023139344501 : True := trivial
theorem top.tw17160434163424456010 : True := trivial
theorem top.tw17176029603704830031 : True := trivial
theorem top.tw17177869089781658578 : True := trivial
theorem top.tw1717825165581474212 : True := trivial
theorem top.tw17219337458794519322 : True := trivial
theorem top.tw17226846203573267761 : True := trivial
theorem top.tw17240160907184977327 : True := trivial
theorem top.tw17301418000779511131 : True := trivial
theorem top.tw17315540178315561739 : True := trivial
theorem top.tw1732150942055357024 : True := trivial
theorem top.tw17323899518341599180 : True := trivial
theorem top.tw17336350906216195740 : True := trivial
theorem top.tw17337222044243258637 : True := trivial
theorem top.tw17342085116792181814 : True := trivial
theorem top.tw17346259052997144950 : True := trivial
theorem top.tw17355269125676882429 : True := trivial
theorem top.tw1736530178072539846 : True := trivial
theorem top.tw17366924284538989914 : True := trivial
theorem top.tw17377934564383891116 : True := trivial
theorem top.tw17391775962083533515 : True := trivial
theorem top.tw17395277212465857529 : True := trivial
theorem top.tw17412589854805754852 : True := trivial
theorem top.tw17428532607074087071 : True := trivial
theorem top.tw17431308487043992063 : True := trivial
theorem top.tw17434308400759680031 : True := trivial
theorem top.tw17444329988762607307 : True := trivial
theorem top.tw17469865338272021226 : True := trivial
theorem top.tw17470836177267949868 : True := trivial
theorem top.tw17474498911051797155 : True := trivial
theorem top.tw17486766287000646611 : True := trivial
theorem top.tw17489137672866753323 : True := trivial
theorem top.tw17492772389151264855 : True := trivial
theorem top.tw17494340499879156831 : True := trivial
theorem top.tw17504273579162756690 : True := trivial
theorem top.tw17542608870123051758 : True := trivial
theorem top.tw1754339480302792767 : True := trivial
theorem top.tw17545328352263074274 : True := trivial
theorem top.tw17555251805378815213 : True := trivial
theorem top.tw17565814175750979855 : True := trivial
theorem top.tw17566744294597663674 : True := trivial
theorem top.tw17576949682797635024 : True := trivial
theorem top.tw17576975557295073227 : True := trivial
theorem top.tw17582957951858275007 : True := trivial
theorem top.tw17586783052614405119 : True := trivial
theorem top.tw17594962761535629368 : True := trivial
theorem top.tw17620759639134147866 : True := trivial
theorem top.tw17683472795295644477 : True := trivial
theorem top.tw17709558473723601244 : True := trivial
theorem top.tw17735899436944072409 : True := trivial
theorem top.tw17741875731164886585 : True := trivial
theorem top.tw17756194745548210895 : True := trivial
theorem top.tw17774833976778514315 : True := trivial
theorem top.tw17781115878593249900 : True := trivial
theorem top.tw17783859843131274014 : True := trivial
theorem top.tw17785818512168800811 : True := trivial
theorem top.tw17788931634197215145 : True := trivial
theorem top.tw17794366733547915435 : True := trivial
theorem top.tw17795014544551873601 : True := trivial
theorem top.tw17807222030613408314 : True := trivial
theorem top.tw17810072253543177317 : True := trivial
theorem top.tw17828378304095215089 : True := trivial
theorem top.tw17830291351795818772 : True := trivial
theorem top.tw17861464445857800736 : True := trivial
theorem top.tw17886615442053742456 : True := trivial
theorem top.tw17916939684832112104 : True := trivial
theorem top.tw17921175469725437805 : True := trivial
theorem top.tw1792224892710378537 : True := trivial
theorem top.tw17953984050398360512 : True := trivial
theorem top.tw17958866498819703998 : True := trivial
theorem top.tw17964300760807480141 : True := trivial
theorem top.tw17981982808018919739 : True := trivial
theorem top.tw18008055252877512497 : True := trivial
theorem top.tw18016941796951652274 : True := trivial
theorem top.tw1803303928475200142 : True := trivial
theorem top.tw18034075008235765660 : True := trivial
theorem top.tw1805163160381243805 : True := trivial
theorem top.tw18062624165398249997 : True := trivial
theorem top.tw18063644159110109576 : True := trivial
theorem top.tw18085771088847121727 : True := trivial
theorem top.tw18086089286151905521 : True := trivial
theorem top.tw18121752080927795069 : True := trivial
theorem top.tw18134043772397237400 : True := trivial
theorem top.tw18137363274558907533 : True := trivial
theorem top.tw1814787853859245837 : True := trivial
theorem top.tw18164388396756303480 : True := trivial
theorem top.tw18177719399980262173 : True := trivial
theorem top.tw18185382058313985135 : True := trivial
theorem top.tw18186074749648716422 : True := trivial
theorem top.tw18200808041648558556 : True := trivial
theorem top.tw18201758440048473509 : True := trivial
theorem top.tw18229784292405043182 : True := trivial
theorem top.tw18236624570336363585 : True := trivial
theorem top.tw18237780215024852062 : True := trivial
theorem top.tw18245740138792012028 : True := trivial
theorem top.tw18289109515434150305 : True := trivial
theorem top.tw18326957874037197240 : True := trivial
theorem top.tw18330144715369815205 : True := trivial
theorem top.tw1833847959688406909 : True := trivial
theorem top.tw18367679650794681301 : True := trivial
theorem top.tw18371284783138465269 : True := trivial
theorem top.tw18374746225686918389 : True := trivial
theorem top.tw18394268562011335289 : True := trivial
theorem top.tw1843344800811705456 : True := trivial
theorem top.tw18444284757076569719 : True := trivial
theorem top.tw1867163669062818997 : True := trivial
theorem top.tw1869187583165140508 : True := trivial
theorem top.tw1880918794155911695 : True := trivial
theorem top.tw1886144042066472794 : True := trivial
theorem top.tw1897025099450329940 : True := trivial
theorem top.tw1950521091445644615 : True := trivial
theorem top.tw196536941598035525 : True := trivial
theorem top.tw1970226141267450039 : True := trivial
theorem top.tw1971433849790844608 : True := trivial
theorem top.tw1974259917200649262 : True := trivial
theorem top.tw1988063486488863061 : True := trivial
theorem top.tw1990408344712342385 : True := trivial
theorem top.tw2007660962349395123 : True := trivial
theorem top.tw2009410202504348048 : True := trivial
theorem top.tw2029088862249889922 : True := trivial
theorem top.tw2047080938173012442 : True := trivial
theorem top.tw2047500489365003465 : True := trivial
theorem top.tw2050295075708095047 : True := trivial
theorem top.tw2063449620868658059 : True := trivial
theorem top.tw2103985501979894447 : True := trivial
theorem top.tw2104741419117168686 : True := trivial
theorem top.tw2105017259488925948 : True := trivial
theorem top.tw2125386657190883914 : True := trivial
theorem top.tw2126296398998916975 : True := trivial
theorem top.tw2145171640123136144 : True := trivial
theorem top.tw216529984938456764 : True := trivial
theorem top.tw2165817408578904141 : True := trivial
theorem top.tw2167618695193717045 : True := trivial
theorem top.tw2175593866937868789 : True := trivial
theorem top.tw2218668502564051296 : True := trivial
theorem top.tw2220570432770164149 : True := trivial
theorem top.tw2248615004971204189 : True := trivial
theorem top.tw2249405535684624136 : True := trivial
theorem top.tw2267912224990424062 : True := trivial
theorem top.tw2287362676942042354 : True := trivial
theorem top.tw2307138979858485370 : True := trivial
theorem top.tw2312856594315299383 : True := trivial
theorem top.tw2365566498512967660 : True := trivial
theorem top.tw2369445192022557226 : True := trivial
theorem top.tw2377541652452675900 : True := trivial
theorem top.tw2394881407643693062 : True := trivial
theorem top.tw2405475915293451298 : True := trivial
theorem top.tw2411195145006440666 : True := trivial
theorem top.tw2417791160451022400 : True := trivial
theorem top.tw2422214840401454511 : True := trivial
theorem top.tw2424727229257130912 : True := trivial
theorem top.tw243287103678006315 : True := trivial
theorem top.tw2443449257678562572 : True := trivial
theorem top.tw2446451932059125521 : True := trivial
theorem top.tw2446586112883488508 : True := trivial
theorem top.tw2462062305354472974 : True := trivial
theorem top.tw2464713573024523455 : True := trivial
theorem top.tw2479311146797828861 : True := trivial
theorem top.tw2502181453436431679 : True := trivial
theorem top.tw2506305409684761478 : True := trivial
theorem top.tw2511388062720753356 : True := trivial
theorem top.tw2529601377429677153 : True := trivial
theorem top.tw2544169868661182894 : True := trivial
theorem top.tw2555065506035805374 : True := trivial
theorem top.tw2564807258711394888 : True := trivial
theorem top.tw2580922434103091657 : True := trivial
theorem top.tw2581206410525282061 : True := trivial
theorem top.tw2592109501493986082 : True := trivial
theorem top.tw2596539476470345881 : True := trivial
theorem top.tw2601905985415302144 : True := trivial
theorem top.tw2617181576586992344 : True := trivial
theorem top.tw2617719716777270872 : True := trivial
theorem top.tw2619622883677149074 : True := trivial
theorem top.tw2630061898475652689 : True := trivial
theorem top.tw2665807947273092163 : True := trivial
theorem top.tw2670627174450433442 : True := trivial
theorem top.tw2675166985342186458 : True := trivial
theorem top.tw2680655200719965100 : True := trivial
theorem top.tw2683898200743741643 : True := trivial
theorem top.tw2685012915969955173 : True := trivial
theorem top.tw2685745773621513544 : True := trivial
theorem top.tw2686433634493928565 : True := trivial
theorem top.tw2707679213066786127 : True := trivial
theorem top.tw2712389131950775728 : True := trivial
theorem top.tw2722852734226103192 : True := trivial
theorem top.tw2727672472851901052 : True := trivial
theorem top.tw2731995056826638727 : True := trivial
theorem top.tw2732273902793177162 : True := trivial
theorem top.tw2737145857125637188 : True := trivial
theorem top.tw2741389259953327712 : True := trivial
theorem top.tw2742194189697913485 : True := trivial
theorem top.tw2752453847809088016 : True := trivial
theorem top.tw2758071753971750899 : True := trivial
theorem top.tw2770239361232196585 : True := trivial
theorem top.tw2770563814800254177 : True := trivial
theorem top.tw2782073688633401757 : True := trivial
theorem top.tw2809488002615124206 : True := trivial
theorem top.tw2812155379371279736 : True := trivial
theorem top.tw2822501910515967889 : True := trivial
theorem top.tw283044589724301 : True := trivial
theorem top.tw2835187731363253809 : True := trivial
theorem top.tw2847958352784047137 : True := trivial
theorem top.tw2859833716702649255 : True := trivial
theorem top.tw2867133514656366558 : True := trivial
theorem top.tw2878843996050045342 : True := trivial
theorem top.tw2879243146029554076 : True := trivial
theorem top.tw2896640688883821729 : True := trivial
theorem top.tw2907113945770861938 : True := trivial
theorem top.tw2910609919460849807 : True := trivial
theorem top.tw2926424126403749041 : True := trivial
theorem top.tw2965125352208521119 : True := trivial
theorem top.tw2968346561183084112 : True := trivial
theorem top.tw2972514686349903234 : True := trivial
theorem top.tw2975709217455756120 : True := trivial
theorem top.tw297971269722091814 : True := trivial
theorem top.tw2985252069258134486 : True := trivial
theorem top.tw2988451766255067171 : True := trivial
theorem top.tw3002795768020413707 : True := trivial
theorem top.tw302023382947574297 : True := trivial
theorem top.tw3033006917804047512 : True := trivial
theorem top.tw304654302220672320 : True := trivial
theorem top.tw3061314461118691792 : True := trivial
theorem top.tw3087888393795971977 : True := trivial
theorem top.tw3095723055068941187 : True := trivial
theorem top.tw3120133295221510679 : True := trivial
theorem top.tw3140898538269762758 : True := trivial
theorem top.tw3143785405151724282 : True := trivial
theorem top.tw314455870634268127 : True := trivial
theorem top.tw3195522803047326042 : True := trivial
theorem top.tw3195968871104189447 : True := trivial
theorem top.tw3207569582813703071 : True := trivial
theorem top.tw3254097082911018636 : True := trivial
theorem top.tw3261557481417251176 : True := trivial
theorem top.tw32865551896584297 : True := trivial
theorem top.tw3302753350502126306 : True := trivial
theorem top.tw3315250197877816394 : True := trivial
theorem top.tw3331421620988305804 : True := trivial
theorem top.tw3337584539547039419 : True := trivial
theorem top.tw3357215229441099570 : True := trivial
theorem top.tw3378803678994701225 : True := trivial
theorem top.tw3389129807090800087 : True := trivial
theorem top.tw339143206060000330 : True := trivial
theorem top.tw3392894077380570524 : True := trivial
theorem top.tw3418912648064540324 : True := trivial
theorem top.tw3422688185749166683 : True := trivial
theorem top.tw342308947776675178 : True := trivial
theorem top.tw3423177367516475676 : True := trivial
theorem top.tw3430127420881650015 : True := trivial
theorem top.tw3453223234828964814 : True := trivial
theorem top.tw3465488137227279516 : True := trivial
theorem top.tw3473093325804163894 : True := trivial
theorem top.tw3474246075231452896 : True := trivial
theorem top.tw3479634599624807885 : True := trivial
theorem top.tw3484022092364678248 : True := trivial
theorem top.tw3486219094355674750 : True := trivial
theorem top.tw350670483859837877 : True := trivial
theorem top.tw3512812017678644602 : True := trivial
theorem top.tw352232786441526191 : True := trivial
theorem top.tw3548060758652744671 : True := trivial
theorem top.tw3561193834555079511 : True := trivial
theorem top.tw3570499242123996262 : True := trivial
theorem top.tw3581848524822189991 : True := trivial
theorem top.tw3584897518013459382 : True := trivial
theorem top.tw3603051052118289896 : True := trivial
theorem top.tw3605147657684821369 : True := trivial
theorem top.tw3644161924160858147 : True := trivial
theorem top.tw3657543652526465285 : True := trivial
theorem top.tw3664424711883983056 : True := trivial
theorem top.tw3669314199184481253 : True := trivial
theorem top.tw3695669965767098725 : True := trivial
theorem top.tw3696473221133414273 : True := trivial
theorem top.tw3698484244233388692 : True := trivial
theorem top.tw3704924817259034979 : True := trivial
theorem top.tw370947364307004932 : True := trivial
theorem top.tw3712731000106771831 : True := trivial
theorem top.tw3715792687998586317 : True := trivial
theorem top.tw372964977893139469 : True := trivial
theorem top.tw3730354652608582461 : True := trivial
theorem top.tw3739144386018749749 : True := trivial
theorem top.tw3767615275625035234 : True := trivial
theorem top.tw3776753064480771068 : True := trivial
theorem top.tw378458367893578143 : True := trivial
theorem top.tw3796891538752321733 : True := trivial
theorem top.tw381845443943030031 : True := trivial
theorem top.tw3820434133910038737 : True := trivial
theorem top.tw3831216023754155268 : True := trivial
theorem top.tw3843465024185675410 : True := trivial
theorem top.tw3846862658102513837 : True := trivial
theorem top.tw3855276242980373810 : True := trivial
theorem top.tw3871027444623705763 : True := trivial
theorem top.tw3874152929960365753 : True := trivial
theorem top.tw3909029901177050473 : True := trivial
theorem top.tw390997316461189296 : True := trivial
theorem top.tw3949973439248644570 : True := trivial
theorem top.tw3969286963782609292 : True := trivial
theorem top.tw3976154599441133093 : True := trivial
theorem top.tw3995942328266245912 : True := trivial
theorem top.tw4002441696211005659 : True := trivial
theorem top.tw4010397242664982755 : True := trivial
theorem top.tw401921906979044612 : True := trivial
theorem top.tw4023782888421380502 : True := trivial
theorem top.tw4046864289407762814 : True := trivial
theorem top.tw4047667213573674445 : True := trivial
theorem top.tw4052878762203253943 : True := trivial
theorem top.tw405421117753717134 : True := trivial
theorem top.tw4058662728301269685 : True := trivial
theorem top.tw4076138812419527698 : True := trivial
theorem top.tw408693308722189009 : True := trivial
theorem top.tw4111001743050654279 : True := trivial
theorem top.tw411662067469150650 : True := trivial
theorem top.tw4131498621145694574 : True := trivial
theorem top.tw4134505453457115739 : True := trivial
theorem top.tw4154345032738424160 : True := trivial
theorem top.tw4158126171336067921 : True := trivial
theorem top.tw4159251561096739476 : True := trivial
theorem top.tw4166218997396506358 : True := trivial
theorem top.tw4177254973167742082 : True := trivial
theorem top.tw4181406029030974548 : True := trivial
theorem top.tw4186445540838780016 : True := trivial
theorem top.tw419386298079150103 : True := trivial
theorem top.tw4205137553216949640 : True := trivial
theorem top.tw4213018616267185653 : True := trivial
theorem top.tw4231656071295301730 : True := trivial
theorem top.tw4232285709927190386 : True := trivial
theorem top.tw4250876409542091131 : True := trivial
theorem top.tw4250950275838387964 : True := trivial
theorem top.tw4258143625173308034 : True := trivial
theorem top.tw427269002284569659 : True := trivial
theorem top.tw427420600052151026 : True := trivial
theorem top.tw4292522238394942308 : True := trivial
theorem top.tw4299629679881509495 : True := trivial
theorem top.tw4321519831107876412 : True := trivial
theorem top.tw4331257952254489624 : True := trivial
theorem top.tw4345882819342510227 : True := trivial
theorem top.tw4383139521930768336 : True := trivial
theorem top.tw439095664309466517 : True := trivial
theorem top.tw4392038535549328194 : True := trivial
theorem top.tw4395346232132896567 : True := trivial
theorem top.tw443688265066261825 : True := trivial
theorem top.tw4468942710605802240 : True := trivial
theorem top.tw4498253355057717688 : True := trivial
theorem top.tw4501217679856968648 : True := trivial
theorem top.tw450566749975022562 : True := trivial
theorem top.tw4526881389914513428 : True := trivial
theorem top.tw453181688931711583 : True := trivial
theorem top.tw4547018644641229820 : True := trivial
theorem top.tw4547113066930546574 : True := trivial
theorem top.tw4551080515912023512 : True := trivial
theorem top.tw4555866861457887817 : True := trivial
theorem top.tw4566856676736034171 : True := trivial
theorem top.tw4571971715460732019 : True := trivial
theorem top.tw4586369020291528013 : True := trivial
theorem top.tw4597200072644226624 : True := trivial
theorem top.tw4626048006780466326 : True := trivial
theorem top.tw462939625794472801 : True := trivial
theorem top.tw4655869559712951663 : True := trivial
theorem top.tw4656485037274611717 : True := trivial
theorem top.tw4671429814451907529 : True := trivial
theorem top.tw4691186174975459493 : True := trivial
theorem top.tw4695670854781333657 : True := trivial
theorem top.tw46980244435833615 : True := trivial
theorem top.tw4699463449715708850 : True := trivial
theorem top.tw4705723845826882120 : True := trivial
theorem top.tw47109162367338493 : True := trivial
theorem top.tw4713442408853163898 : True := trivial
theorem top.tw4721632059943922391 : True := trivial
theorem top.tw4730768163679209282 : True := trivial
theorem top.tw4736427724481360342 : True := trivial
theorem top.tw4758201570946638301 : True := trivial
theorem top.tw4773702212245658779 : True := trivial
theorem top.tw4778504736273101941 : True := trivial
theorem top.tw4784893810139332661 : True := trivial
theorem top.tw479018264907363369 : True := trivial
theorem top.tw4791253341166991637 : True := trivial
theorem top.tw4796303294375832693 : True := trivial
theorem top.tw4807402645868434406 : True := trivial
theorem top.tw4807692442873511580 : True := trivial
theorem top.tw4827538265410502810 : True := trivial
theorem top.tw4828031223510198475 : True := trivial
theorem top.tw4835499133494076262 : True := trivial
theorem top.tw4840481374290595910 : True := trivial
theorem top.tw4856909995586565122 : True := trivial
theorem top.tw4859757453598101857 : True := trivial
theorem top.tw4870201379501977574 : True := trivial
theorem top.tw4885547446624616799 : True := trivial
theorem top.tw4916261283513009128 : True := trivial
theorem top.tw492879137614061493 : True := trivial
theorem top.tw4940147422707163885 : True := trivial
theorem top.tw4951766788466123468 : True := trivial
theorem top.tw4977374598719398275 : True := trivial
theorem top.tw4985058935396193736 : True := trivial
theorem top.tw5005317128667965579 : True := trivial
theorem top.tw501154541418245514 : True := trivial
theorem top.tw5058314954733539658 : True := trivial
theorem top.tw5071412327939943321 : True := trivial
theorem top.tw5072613934562372735 : True := trivial
theorem top.tw5077617475879078156 : True := trivial
theorem top.tw5078243831526850631 : True := trivial
theorem top.tw5105846836358774362 : True := trivial
theorem top.tw5118827330378232414 : True := trivial
theorem top.tw5151264090131730833 : True := trivial
theorem top.tw516228168201391017 : True := trivial
theorem top.tw5163715390036670947 : True := trivial
theorem top.tw517144808224063464 : True := trivial
theorem top.tw5176459694589498394 : True := trivial
theorem top.tw5184316447030610940 : True := trivial
theorem top.tw5186518429493523239 : True := trivial
theorem top.tw5196900775432865589 : True := trivial
theorem top.tw5225153198818245361 : True := trivial
theorem top.tw5225916559131626549 : True := trivial
theorem top.tw5235370132326077648 : True := trivial
theorem top.tw5240389563564037448 : True := trivial
theorem top.tw5240762971458559404 : True := trivial
theorem top.tw5244899138074338376 : True := trivial
theorem top.tw5245862010334584759 : True := trivial
theorem top.tw5251713544086459897 : True := trivial
theorem top.tw5278709424875269971 : True := trivial
theorem top.tw5290597957214086601 : True := trivial
theorem top.tw5303079699428457377 : True := trivial
theorem top.tw53344730913325255 : True := trivial
theorem top.tw5341934141677670832 : True := trivial
theorem top.tw5365650347091420665 : True := trivial
theorem top.tw5379463472682653830 : True := trivial
theorem top.tw5380135791562185454 : True := trivial
theorem top.tw5398424786039705171 : True := trivial
theorem top.tw5405092056839124451 : True := trivial
theorem top.tw5444345374180229054 : True := trivial
theorem top.tw5472114250418208992 : True := trivial
theorem top.tw5476889619067714990 : True := trivial
theorem top.tw5483185372664623402 : True := trivial
theorem top.tw5507162329139097715 : True := trivial
theorem top.tw5513142621748847562 : True := trivial
theorem top.tw5523086135645875356 : True := trivial
theorem top.tw5536038536531405202 : True := trivial
theorem top.tw5552270689369575618 : True := trivial
theorem top.tw5571243529121415630 : True := trivial
theorem top.tw5581607755468803823 : True := trivial
theorem top.tw5590232498371695878 : True := trivial
theorem top.tw5596365628329696591 : True := trivial
theorem top.tw5609151216138764652 : True := trivial
theorem top.tw5647976800219259906 : True := trivial
theorem top.tw5648408011753718230 : True := trivial
theorem top.tw5667650583090716360 : True := trivial
theorem top.tw568400683779154973 : True := trivial
theorem top.tw5691087667936548404 : True := trivial
theorem top.tw5692499903750754813 : True := trivial
theorem top.tw5702910450625016506 : True := trivial
theorem top.tw5705847716771211507 : True := trivial
theorem top.tw5728218623943512802 : True := trivial
theorem top.tw5738303106652476479 : True := trivial
theorem top.tw575894324575664597 : True := trivial
theorem top.tw5764397981948056254 : True := trivial
theorem top.tw5766051744304087583 : True := trivial
theorem top.tw5771795636922677268 : True := trivial
theorem top.tw5790966258338625528 : True := trivial
theorem top.tw5804503181746721162 : True := trivial
theorem top.tw5839659824258004927 : True := trivial
theorem top.tw5850499497852442878 : True := trivial
theorem top.tw5868845118606482295 : True := trivial
theorem top.tw5889316905344633881 : True := trivial
theorem top.tw5915399644114372684 : True := trivial
theorem top.tw5922324665105752571 : True := trivial
theorem top.tw5938664839603501006 : True := trivial
theorem top.tw594810645892935528 : True := trivial
theorem top.tw5958459099580689026 : True := trivial
theorem top.tw5969682004907312646 : True := trivial
theorem top.tw5969987386201385886 : True := trivial
theorem top.tw5970215366352900667 : True := trivial
theorem top.tw5983031951866500094 : True := trivial
theorem top.tw602653604445443664 : True := trivial
theorem top.tw6042063481754889096 : True := trivial
theorem top.tw6057728870046649322 : True := trivial
theorem top.tw6075534854705499898 : True := trivial
theorem top.tw6124053682588569230 : True := trivial
theorem top.tw6127594578889010139 : True := trivial
theorem top.tw6143595290313323761 : True := trivial
theorem top.tw6176384092110617959 : True := trivial
theorem top.tw6185767955086497853 : True := trivial
theorem top.tw6187478851450931391 : True := trivial
theorem top.tw6189502492464219833 : True := trivial
theorem top.tw6196800358849779857 : True := trivial
theorem top.tw620129878449983639 : True := trivial
theorem top.tw6203543418390704334 : True := trivial
theorem top.tw6211089042160764376 : True := trivial
theorem top.tw6220391956798857122 : True := trivial
theorem top.tw6240597372359344220 : True := trivial
theorem top.tw6240723676877644813 : True := trivial
theorem top.tw6259670677727819807 : True := trivial
theorem top.tw6265675901050258516 : True := trivial
theorem top.tw6265701101103706036 : True := trivial
theorem top.tw6276886402236213621 : True := trivial
theorem top.tw6286779285267259847 : True := trivial
theorem top.tw6287420888163001789 : True := trivial
theorem top.tw6292954644110606532 : True := trivial
theorem top.tw6333448901615975916 : True := trivial
theorem top.tw6345181382737326586 : True := trivial
theorem top.tw6370870915552960936 : True := trivial
theorem top.tw6381231289166406305 : True := trivial
theorem top.tw6383614241601562808 : True := trivial
theorem top.tw6430265229019958763 : True := trivial
theorem top.tw6431110157172167083 : True := trivial
theorem top.tw6432616177841060128 : True := trivial
theorem top.tw6438537300738474071 : True := trivial
theorem top.tw6448850889433096767 : True := trivial
theorem top.tw6459276657848829223 : True := trivial
theorem top.tw6468107147075657394 : True := trivial
theorem top.tw6480638250107114081 : True := trivial
theorem top.tw6487610083215253720 : True := trivial
theorem top.tw6491118196486620199 : True := trivial
theorem top.tw649594095290182367 : True := trivial
theorem top.tw650146959520709813 : True := trivial
theorem top.tw6503730183909636620 : True := trivial
theorem top.tw6505410396798821541 : True := trivial
theorem top.tw6509661102738689577 : True := trivial
theorem top.tw6520327441239513222 : True := trivial
theorem top.tw657111498738832265 : True := trivial
theorem top.tw6572447435987645144 : True := trivial
theorem top.tw6583040956863952856 : True := trivial
theorem top.tw65929781887070819 : True := trivial
theorem top.tw6594526768476950845 : True := trivial
theorem top.tw6600658504840714314 : True := trivial
theorem top.tw661290744650703789 : True := trivial
theorem top.tw6619077023068780702 : True := trivial
theorem top.tw6624316729101989866 : True := trivial
theorem top.tw6659320528611288953 : True := trivial
theorem top.tw6662652255960138227 : True := trivial
theorem top.tw6664487174759623829 : True := trivial
theorem top.tw6674990990233134667 : True := trivial
theorem top.tw668136137496459709 : True := trivial
theorem top.tw6694047246710070196 : True := trivial
theorem top.tw6699709698940308603 : True := trivial
theorem top.tw672699306608606093 : True := trivial
theorem top.tw6733462575251390621 : True := trivial
theorem top.tw6746510453823603384 : True := trivial
theorem top.tw6749217079512962374 : True := trivial
theorem top.tw6754034310392073148 : True := trivial
theorem top.tw6756851087969907010 : True := trivial
theorem top.tw6756868429301003459 : True := trivial
theorem top.tw6761616313442571491 : True := trivial
theorem top.tw6786057226368545225 : True := trivial
theorem top.tw679676368844127653 : True := trivial
theorem top.tw6812286434817487243 : True := trivial
theorem top.tw681777741448182936 : True := trivial
theorem top.tw682014064893787789 : True := trivial
theorem top.tw6821124136996835843 : True := trivial
theorem top.tw6859976401760118174 : True := trivial
theorem top.tw6883741973766446791 : True := trivial
theorem top.tw6885214360128481674 : True := trivial
theorem top.tw6893477703608230032 : True := trivial
theorem top.tw6898770573198911631 : True := trivial
theorem top.tw6906291655842520137 : True := trivial
theorem top.tw6908635100366463001 : True := trivial
theorem top.tw6912233166142098652 : True := trivial
theorem top.tw6916252892733821390 : True := trivial
theorem top.tw6919701780365589675 : True := trivial
theorem top.tw6930518751129746686 : True := trivial
theorem top.tw6933892841690572062 : True := trivial
theorem top.tw6942226510957090829 : True := trivial
theorem top.tw6973401727384321114 : True := trivial
theorem top.tw7008692893051332821 : True := trivial
theorem top.tw7033079012710635876 : True := trivial
theorem top.tw705360758644809490 : True := trivial
theorem top.tw7059692629156357883 : True := trivial
theorem top.tw7079599612431449588 : True := trivial
theorem top.tw708234853630380328 : True := trivial
theorem top.tw7108139096449030536 : True := trivial
theorem top.tw7138430578808182737 : True := trivial
theorem top.tw7158002623345892728 : True := trivial
theorem top.tw7160873610591055699 : True := trivial
theorem top.tw7188692134583612594 : True := trivial
theorem top.tw7191137982244381804 : True := trivial
theorem top.tw7198060816514059695 : True := trivial
theorem top.tw7204493036743257322 : True := trivial
theorem top.tw7204998973626084599 : True := trivial
theorem top.tw7213333562754528385 : True := trivial
theorem top.tw7215319984434753242 : True := trivial
theorem top.tw72247145696351765 : True := trivial
theorem top.tw7230903212357928904 : True := trivial
theorem top.tw7249705126575804556 : True := trivial
theorem top.tw7250933059871147345 : True := trivial
theorem top.tw7273676953221729872 : True := trivial
theorem top.tw7280543176740627685 : True := trivial
theorem top.tw728428047077509346 : True := trivial
theorem top.tw729201693064108563 : True := trivial
theorem top.tw7313339093194340965 : True := trivial
theorem top.tw7314081408670574914 : True := trivial
theorem top.tw7325726471975496349 : True := trivial
theorem top.tw7326723310030351153 : True := trivial
theorem top.tw7358114872323791358 : True := trivial
theorem top.tw7381879191629600215 : True := trivial
theorem top.tw7387763944681370771 : True := trivial
theorem top.tw7414872774492366064 : True := trivial
theorem top.tw7429413206186439793 : True := trivial
theorem top.tw7436774141650363327 : True := trivial
theorem top.tw7438316178485321408 : True := trivial
theorem top.tw7439886461454727182 : True := trivial
theorem top.tw7444641836354208208 : True := trivial
theorem top.tw7458633546980236471 : True := trivial
theorem top.tw7475746777092488413 : True := trivial
theorem top.tw7522852383072776753 : True := trivial
theorem top.tw7527032243904285869 : True := trivial
theorem top.tw7538252964068480738 : True := trivial
theorem top.tw7557910624720293991 : True := trivial
theorem top.tw7587601194962177611 : True := trivial
theorem top.tw7600245330811189008 : True := trivial
theorem top.tw76412952228603488 : True := trivial
theorem top.tw7657828476027519975 : True := trivial
theorem top.tw7671549972530922468 : True := trivial
theorem top.tw7673058066778466091 : True := trivial
theorem top.tw7675417749720738473 : True := trivial
theorem top.tw7681529838311687354 : True := trivial
theorem top.tw7714757148821155124 : True := trivial
theorem top.tw7715697345341360870 : True := trivial
theorem top.tw7717162694582976202 : True := trivial
theorem top.tw7737320934136571279 : True := trivial
theorem top.tw7740461459972228597 : True := trivial
theorem top.tw7743179893348639699 : True := trivial
theorem top.tw7744093853086628109 : True := trivial
theorem top.tw775762912060472103 : True := trivial
theorem top.tw7761843605638006849 : True := trivial
theorem top.tw7781603739153083191 : True := trivial
theorem top.tw7799483888651840948 : True := trivial
theorem top.tw7817637940432870852 : True := trivial
theorem top.tw7821361960523482326 : True := trivial
theorem top.tw7830913209206220567 : True := trivial
theorem top.tw7845129631348957993 : True := trivial
theorem top.tw7847352863974893604 : True := trivial
theorem top.tw7847650389618582240 : True := trivial
theorem top.tw7855079511596107753 : True := trivial
theorem top.tw788273225186049534 : True := trivial
theorem top.tw7892811243723596987 : True := trivial
theorem top.tw7913636548009798097 : True := trivial
theorem top.tw7926136590108786892 : True := trivial
theorem top.tw795583310449317561 : True := trivial
theorem top.tw7980593446034420393 : True := trivial
theorem top.tw7990429038631628895 : True := trivial
theorem top.tw8013090884974467112 : True := trivial
theorem top.tw8025738503920905074 : True := trivial
theorem top.tw8043003576528973991 : True := trivial
theorem top.tw8054331753737935190 : True := trivial
theorem top.tw8069049012094873728 : True := trivial
theorem top.tw8107780213005350392 : True := trivial
theorem top.tw8139039716903228087 : True := trivial
theorem top.tw8140125068956082859 : True := trivial
theorem top.tw8143265674769528471 : True := trivial
theorem top.tw8148004212497801138 : True := trivial
theorem top.tw8150499350492408157 : True := trivial
theorem top.tw8155677260382574692 : True := trivial
theorem top.tw8163011886388404031 : True := trivial
theorem top.tw8170299122808406783 : True := trivial
theorem top.tw81815255157605957 : True := trivial
theorem top.tw8184561461823581802 : True := trivial
theorem top.tw8204474986945543665 : True := trivial
theorem top.tw8212240652046128837 : True := trivial
theorem top.tw8237333600419904120 : True := trivial
theorem top.tw8243169916365450940 : True := trivial
theorem top.tw8260818223659903644 : True := trivial
theorem top.tw8265191368974092141 : True := trivial
theorem top.tw8265311939077410998 : True := trivial
theorem top.tw8281120267493503204 : True := trivial
theorem top.tw8297286125493194097 : True := trivial
theorem top.tw8311017846404947139 : True := trivial
theorem top.tw8321918168302905379 : True := trivial
theorem top.tw832561496525075734 : True := trivial
theorem top.tw8327351992414209593 : True := trivial
theorem top.tw83393220934416808 : True := trivial
theorem top.tw8340158742958640245 : True := trivial
theorem top.tw8345894832289464959 : True := trivial
theorem top.tw8347795973495727564 : True := trivial
theorem top.tw8363718466572441477 : True := trivial
theorem top.tw8369368087495890639 : True := trivial
theorem top.tw8372035913837991250 : True := trivial
theorem top.tw8374938949443298174 : True := trivial
theorem top.tw8393700709775954928 : True := trivial
theorem top.tw8410488445778877200 : True := trivial
theorem top.tw8420165910927482534 : True := trivial
theorem top.tw8435561252592420358 : True := trivial
theorem top.tw8443935842833279946 : True := trivial
theorem top.tw8450641986135516787 : True := trivial
theorem top.tw8455645898260960030 : True := trivial
theorem top.tw8472579005086612782 : True := trivial
theorem top.tw8500458220134822360 : True := trivial
theorem top.tw8507776931139520737 : True := trivial
theorem top.tw8523463495250067690 : True := trivial
theorem top.tw8529706226740600733 : True := trivial
theorem top.tw8538268897159353584 : True := trivial
theorem top.tw8541664164027344294 : True := trivial
theorem top.tw8547604310838440241 : True := trivial
theorem top.tw8560541052185303311 : True := trivial
theorem top.tw859137505422859605 : True := trivial
theorem top.tw8598144960395782539 : True := trivial
theorem top.tw860223938195835975 : True := trivial
theorem top.tw8620165645458168473 : True := trivial
theorem top.tw8622502720953521162 : True := trivial
theorem top.tw8628236747792435071 : True := trivial
theorem top.tw8637452081102412489 : True := trivial
theorem top.tw8640399195822439974 : True := trivial
theorem top.tw8640417174963836015 : True := trivial
theorem top.tw8645369167282567922 : True := trivial
theorem top.tw864819663365544661 : True := trivial
theorem top.tw8657480035899644758 : True := trivial
theorem top.tw8672883130414831044 : True := trivial
theorem top.tw8679839319945467846 : True := trivial
theorem top.tw8687831153774095200 : True := trivial
theorem top.tw8689318265317240412 : True := trivial
theorem top.tw8693662901424576113 : True := trivial
theorem top.tw8694864300669457046 : True := trivial
theorem top.tw870079450109401425 : True := trivial
theorem top.tw8716659796364181309 : True := trivial
theorem top.tw8720027088463671890 : True := trivial
theorem top.tw8722410040271553984 : True := trivial
theorem top.tw8729362747519067210 : True := trivial
theorem top.tw8735323631387419056 : True := trivial
theorem top.tw8746584487950033348 : True := trivial
theorem top.tw8746941081350896204 : True := trivial
theorem top.tw877433047237710547 : True := trivial
theorem top.tw8779778587388263019 : True := trivial
theorem top.tw8800459187187324500 : True := trivial
theorem top.tw8810280945414196856 : True := trivial
theorem top.tw8817415213059835157 : True := trivial
theorem top.tw8823455108540655025 : True := trivial
theorem top.tw8874702517807110003 : True := trivial
theorem top.tw887695700811335699 : True := trivial
theorem top.tw8892184565913893157 : True := trivial
theorem top.tw8912170899635468890 : True := trivial
theorem top.tw8922926602274725614 : True := trivial
theorem top.tw8968299171318014206 : True := trivial
theorem top.tw8973803690348224638 : True := trivial
theorem top.tw8975108423156789194 : True := trivial
theorem top.tw8985709366574770022 : True := trivial
theorem top.tw8999917154711486175 : True := trivial
theorem top.tw9016798869158615873 : True := trivial
theorem top.tw9038659593494541401 : True := trivial
theorem top.tw9059672392935016618 : True := trivial
theorem top.tw9059832203979395877 : True := trivial
theorem top.tw9063741608606530840 : True := trivial
theorem top.tw908825868028484722 : True := trivial
theorem top.tw9108098604805947806 : True := trivial
theorem top.tw9111341701214203307 : True := trivial
theorem top.tw913810622518204374 : True := trivial
theorem top.tw9149571693438533347 : True := trivial
theorem top.tw9152664641465651067 : True := trivial
theorem top.tw9165953624949470791 : True := trivial
theorem top.tw9166809390415177425 : True := trivial
theorem top.tw9178861053002065721 : True := trivial
theorem top.tw9195894827357321740 : True := trivial
theorem top.tw9227057690007400460 : True := trivial
theorem top.tw9227541089923242437 : True := trivial
theorem top.tw9229161468869434483 : True := trivial
theorem top.tw9233335307524088747 : True := trivial
theorem top.tw9238823003894178615 : True := trivial
theorem top.tw9250549774821547598 : True := trivial
theorem top.tw9259421805112917234 : True := trivial
theorem top.tw9272544492142499777 : True := trivial
theorem top.tw9287724387753133302 : True := trivial
theorem top.tw93012567124736588 : True := trivial
theorem top.tw9305691244287143441 : True := trivial
theorem top.tw9326722878772556681 : True := trivial
theorem top.tw9328819404386307858 : True := trivial
theorem top.tw9332579688445097367 : True := trivial
theorem top.tw9335426496214029073 : True := trivial
theorem top.tw9361663168868926718 : True := trivial
theorem top.tw9366391650621772374 : True := trivial
theorem top.tw9378254376102152143 : True := trivial
theorem top.tw9382581127745807760 : True := trivial
theorem top.tw9407396174263392564 : True := trivial
theorem top.tw9429129263215473398 : True := trivial
theorem top.tw9437893007894698314 : True := trivial
theorem top.tw9442318146202087700 : True := trivial
theorem top.tw9456006794991739263 : True := trivial
theorem top.tw9486757043174368735 : True := trivial
theorem top.tw9503340733035011235 : True := trivial
theorem top.tw9514800995652322822 : True := trivial
theorem top.tw9516688046558066552 : True := trivial
theorem top.tw953821971998124167 : True := trivial
theorem top.tw956089473029861405 : True := trivial
theorem top.tw956942650209027819 : True := trivial
theorem top.tw9576743257966636567 : True := trivial
theorem top.tw9589608677651300831 : True := trivial
theorem top.tw9590619109379692515 : True := trivial
theorem top.tw9590735534726013551 : True := trivial
theorem top.tw9614876229902214918 : True := trivial
theorem top.tw9622763587122877835 : True := trivial
theorem top.tw9631074621892390191 : True := trivial
theorem top.tw965346924571166687 : True := trivial
theorem top.tw9666326922614434849 : True := trivial
theorem top.tw9673933992889287130 : True := trivial
theorem top.tw9682687983338836895 : True := trivial
theorem top.tw9684699057600944294 : True := trivial
theorem top.tw9685713192446186341 : True := trivial
theorem top.tw9694206877528517478 : True := trivial
theorem top.tw9723989250521069032 : True := trivial
theorem top.tw9739860059890490050 : True := trivial
theorem top.tw9743097575036673082 : True := trivial
theorem top.tw9759319705405543751 : True := trivial
theorem top.tw9768079942903668216 : True := trivial
theorem top.tw9777375502002234229 : True := trivial
theorem top.tw9800703332001039478 : True := trivial
theorem top.tw9806617501295524395 : True := trivial
theorem top.tw9822532417609929294 : True := trivial
theorem top.tw9831455883205970180 : True := trivial
theorem top.tw9835852885743449411 : True := trivial
theorem top.tw9843447840031818808 : True := trivial
theorem top.tw9843949296442739443 : True := trivial
theorem top.tw984902984118615328 : True := trivial
theorem top.tw9851269098105209369 : True := trivial
theorem top.tw9854310039474760501 : True := trivial
theorem top.tw987869383939708018 : True := trivial
theorem top.tw9908339238214195531 : True := trivial
theorem top.tw9908739903337578654 : True := trivial
theorem top.tw9913501989792142831 : True := trivial
theorem top.tw9919435345466941130 : True := trivial
theorem top.tw9930815651645962114 : True := trivial
theorem top.tw9936536881743500907 : True := trivial
theorem top.tw99440450732166138 : True := trivial
theorem top.tw9951221954081769418 : True := trivial
theorem top.tw9953747333497923681 : True := trivial
theorem top.tw995497684801637723 : True := trivial
theorem top.tw9961057766049560675 : True := trivial
theorem top.tw9962302188120564619 : True := trivial
theorem top.tw9990226795618131978 : True := trivial

noncomputable def fnIn (l : List Stmt) (i : Nat) : Option (Arguments × List Stmt × Scope) := match l[i]? with
  | some (.FunctionDef _ a b _ _ _ s _ _ _) => some (a, b, s)
  | _ => none
noncomputable def fnAt (l : List Stmt) : List Nat → Option (Arguments × List Stmt × Scope)
  | [i] => fnIn l i
  | [i, j] => match l[i]? with
    | some (.ClassDef _ _ _ b _ _ _ _ _ _ _) => fnIn b j
    | _ => none
  | _ => none
/-- what the law can come to, as the top leaves it: the defs' texts are taken from the row -/
noncomputable def K : Params → Frag := fun P => (fun
 (p44 : Arguments) (b44 : List Stmt) (s44 : Scope) (_ : fnAt PySem.Challenge.pw_ij0133_01.main.body [2] = some (p44, b44, s44))
 (p51 : Arguments) (b51 : List Stmt) (s51 : Scope) (_ : fnAt PySem.Challenge.pw_ij0133_01.main.body [4] = some (p51, b51, s51))
 (p63 : Arguments) (b63 : List Stmt) (s63 : Scope) (_ : fnAt PySem.Challenge.pw_ij0133_01.main.body [7] = some (p63, b63, s63))
 (p70 : Arguments) (b70 : List Stmt) (s70 : Scope) (_ : fnAt PySem.Challenge.pw_ij0133_01.main.body [8] = some (p70, b70, s70))
 (p97 : Arguments) (b97 : List Stmt) (s97 : Scope) (_ : fnAt PySem.Challenge.pw_ij0133_01.main.body [10, 1] = some (p97, b97, s97))
 (p144 : Arguments) (b144 : List Stmt) (s144 : Scope) (_ : fnAt PySem.Challenge.pw_ij0133_01.main.body [13, 1] = some (p144, b144, s144))
 (p151 : Arguments) (b151 : List Stmt) (s151 : Scope) (_ : fnAt PySem.Challenge.pw_ij0133_01.main.body [13, 2] = some (p151, b151, s151))
 (p158 : Arguments) (b158 : List Stmt) (s158 : Scope) (_ : fnAt PySem.Challenge.pw_ij0133_01.main.body [13, 3] = some (p158, b158, s158))
 (p165 : Arguments) (b165 : List Stmt) (s165 : Scope) (_ : fnAt PySem.Challenge.pw_ij0133_01.main.body [13, 4] = some (p165, b165, s165))
 (p173 : Arguments) (b173 : List Stmt) (s173 : Scope) (_ : fnAt PySem.Challenge.pw_ij0133_01.main.body [13, 5] = some (p173, b173, s173))
 (p180 : Arguments) (b180 : List Stmt) (s180 : Scope) (_ : fnAt PySem.Challenge.pw_ij0133_01.main.body [13, 6] = some (p180, b180, s180))
 (p187 : Arguments) (b187 : List Stmt) (s187 : Scope) (_ : fnAt PySem.Challenge.pw_ij0133_01.main.body [13, 7] = some (p187, b187, s187))
 (p194 : Arguments) (b194 : List Stmt) (s194 : Scope) (_ : fnAt PySem.Challenge.pw_ij0133_01.main.body [13, 8] = some (p194, b194, s194))
 (p201 : Arguments) (b201 : List Stmt) (s201 : Scope) (_ : fnAt PySem.Challenge.pw_ij0133_01.main.body [13, 9] = some (p201, b201, s201))
 (p208 : Arguments) (b208 : List Stmt) (s208 : Scope) (_ : fnAt PySem.Challenge.pw_ij0133_01.main.body [13, 10] = some (p208, b208, s208))
 (p215 : Arguments) (b215 : List Stmt) (s215 : Scope) (_ : fnAt PySem.Challenge.pw_ij0133_01.main.body [13, 11] = some (p215, b215, s215))
 (p222 : Arguments) (b222 : List Stmt) (s222 : Scope) (_ : fnAt PySem.Challenge.pw_ij0133_01.main.body [13, 12] = some (p222, b222, s222))
 (p229 : Arguments) (b229 : List Stmt) (s229 : Scope) (_ : fnAt PySem.Challenge.pw_ij0133_01.main.body [13, 13] = some (p229, b229, s229))
 (p236 : Arguments) (b236 : List Stmt) (s236 : Scope) (_ : fnAt PySem.Challenge.pw_ij0133_01.main.body [13, 14] = some (p236, b236, s236))
 (p243 : Arguments) (b243 : List Stmt) (s243 : Scope) (_ : fnAt PySem.Challenge.pw_ij0133_01.main.body [13, 15] = some (p243, b243, s243))
 (p250 : Arguments) (b250 : List Stmt) (s250 : Scope) (_ : fnAt PySem.Challenge.pw_ij0133_01.main.body [13, 16] = some (p250, b250, s250))
 (p257 : Arguments) (b257 : List Stmt) (s257 : Scope) (_ : fnAt PySem.Challenge.pw_ij0133_01.main.body [13, 17] = some (p257, b257, s257))
 (p265 : Arguments) (b265 : List Stmt) (s265 : Scope) (_ : fnAt PySem.Challenge.pw_ij0133_01.main.body [13, 18] = some (p265, b265, s265))
 (p273 : Arguments) (b273 : List Stmt) (s273 : Scope) (_ : fnAt PySem.Challenge.pw_ij0133_01.main.body [13, 19] = some (p273, b273, s273))
 (p281 : Arguments) (b281 : List Stmt) (s281 : Scope) (_ : fnAt PySem.Challenge.pw_ij0133_01.main.body [13, 20] = some (p281, b281, s281))
 (p289 : Arguments) (b289 : List Stmt) (s289 : Scope) (_ : fnAt PySem.Challenge.pw_ij0133_01.main.body [13, 21] = some (p289, b289, s289))
 (p296 : Arguments) (b296 : List Stmt) (s296 : Scope) (_ : fnAt PySem.Challenge.pw_ij0133_01.main.body [13, 22] = some (p296, b296, s296))
 (p303 : Arguments) (b303 : List Stmt) (s303 : Scope) (_ : fnAt PySem.Challenge.pw_ij0133_01.main.body [13, 23] = some (p303, b303, s303))
 (p311 : Arguments) (b311 : List Stmt) (s311 : Scope) (_ : fnAt PySem.Challenge.pw_ij0133_01.main.body [13, 24] = some (p311, b311, s311))
 (p319 : Arguments) (b319 : List Stmt) (s319 : Scope) (_ : fnAt PySem.Challenge.pw_ij0133_01.main.body [13, 25] = some (p319, b319, s319))
 (p326 : Arguments) (b326 : List Stmt) (s326 : Scope) (_ : fnAt PySem.Challenge.pw_ij0133_01.main.body [13, 26] = some (p326, b326, s326))
 (p333 : Arguments) (b333 : List Stmt) (s333 : Scope) (_ : fnAt PySem.Challenge.pw_ij0133_01.main.body [13, 27] = some (p333, b333, s333))
 (p340 : Arguments) (b340 : List Stmt) (s340 : Scope) (_ : fnAt PySem.Challenge.pw_ij0133_01.main.body [13, 28] = some (p340, b340, s340))
 (p347 : Arguments) (b347 : List Stmt) (s347 : Scope) (_ : fnAt PySem.Challenge.pw_ij0133_01.main.body [13, 29] = some (p347, b347, s347))
 (p354 : Arguments) (b354 : List Stmt) (s354 : Scope) (_ : fnAt PySem.Challenge.pw_ij0133_01.main.body [13, 30] = some (p354, b354, s354))
 (p374 : Arguments) (b374 : List Stmt) (s374 : Scope) (_ : fnAt PySem.Challenge.pw_ij0133_01.main.body [14, 1] = some (p374, b374, s374))
 (p381 : Arguments) (b381 : List Stmt) (s381 : Scope) (_ : fnAt PySem.Challenge.pw_ij0133_01.main.body [14, 2] = some (p381, b381, s381))
 (p388 : Arguments) (b388 : List Stmt) (s388 : Scope) (_ : fnAt PySem.Challenge.pw_ij0133_01.main.body [14, 3] = some (p388, b388, s388))
 (p395 : Arguments) (b395 : List Stmt) (s395 : Scope) (_ : fnAt PySem.Challenge.pw_ij0133_01.main.body [14, 4] = some (p395, b395, s395))
 (p402 : Arguments) (b402 : List Stmt) (s402 : Scope) (_ : fnAt PySem.Challenge.pw_ij0133_01.main.body [14, 5] = some (p402, b402, s402))
 (p409 : Arguments) (b409 : List Stmt) (s409 : Scope) (_ : fnAt PySem.Challenge.pw_ij0133_01.main.body [14, 6] = some (p409, b409, s409))
 (p417 : Arguments) (b417 : List Stmt) (s417 : Scope) (_ : fnAt PySem.Challenge.pw_ij0133_01.main.body [14, 7] = some (p417, b417, s417))
 (p425 : Arguments) (b425 : List Stmt) (s425 : Scope) (_ : fnAt PySem.Challenge.pw_ij0133_01.main.body [14, 8] = some (p425, b425, s425))
 (p433 : Arguments) (b433 : List Stmt) (s433 : Scope) (_ : fnAt PySem.Challenge.pw_ij0133_01.main.body [14, 9] = some (p433, b433, s433))
 (p441 : Arguments) (b441 : List Stmt) (s441 : Scope) (_ : fnAt PySem.Challenge.pw_ij0133_01.main.body [14, 10] = some (p441, b441, s441))
 (p449 : Arguments) (b449 : List Stmt) (s449 : Scope) (_ : fnAt PySem.Challenge.pw_ij0133_01.main.body [14, 11] = some (p449, b449, s449))
 (p456 : Arguments) (b456 : List Stmt) (s456 : Scope) (_ : fnAt PySem.Challenge.pw_ij0133_01.main.body [14, 12] = some (p456, b456, s456))
 (p463 : Arguments) (b463 : List Stmt) (s463 : Scope) (_ : fnAt PySem.Challenge.pw_ij0133_01.main.body [14, 13] = some (p463, b463, s463))
 (p470 : Arguments) (b470 : List Stmt) (s470 : Scope) (_ : fnAt PySem.Challenge.pw_ij0133_01.main.body [14, 14] = some (p470, b470, s470))
 (p477 : Arguments) (b477 : List Stmt) (s477 : Scope) (_ : fnAt PySem.Challenge.pw_ij0133_01.main.body [14, 15] = some (p477, b477, s477))
 (p484 : Arguments) (b484 : List Stmt) (s484 : Scope) (_ : fnAt PySem.Challenge.pw_ij0133_01.main.body [14, 16] = some (p484, b484, s484))
 (p491 : Arguments) (b491 : List Stmt) (s491 : Scope) (_ : fnAt PySem.Challenge.pw_ij0133_01.main.body [14, 17] = some (p491, b491, s491))
 (p498 : Arguments) (b498 : List Stmt) (s498 : Scope) (_ : fnAt PySem.Challenge.pw_ij0133_01.main.body [14, 18] = some (p498, b498, s498))
 (p505 : Arguments) (b505 : List Stmt) (s505 : Scope) (_ : fnAt PySem.Challenge.pw_ij0133_01.main.body [14, 19] = some (p505, b505, s505))
 (p512 : Arguments) (b512 : List Stmt) (s512 : Scope) (_ : fnAt PySem.Challenge.pw_ij0133_01.main.body [14, 20] = some (p512, b512, s512))
 (p519 : Arguments) (b519 : List Stmt) (s519 : Scope) (_ : fnAt PySem.Challenge.pw_ij0133_01.main.body [14, 21] = some (p519, b519, s519))
 (p526 : Arguments) (b526 : List Stmt) (s526 : Scope) (_ : fnAt PySem.Challenge.pw_ij0133_01.main.body [14, 22] = some (p526, b526, s526))
 (p534 : Arguments) (b534 : List Stmt) (s534 : Scope) (_ : fnAt PySem.Challenge.pw_ij0133_01.main.body [14, 23] = some (p534, b534, s534))
 (p542 : Arguments) (b542 : List Stmt) (s542 : Scope) (_ : fnAt PySem.Challenge.pw_ij0133_01.main.body [14, 24] = some (p542, b542, s542))
 (p550 : Arguments) (b550 : List Stmt) (s550 : Scope) (_ : fnAt PySem.Challenge.pw_ij0133_01.main.body [14, 25] = some (p550, b550, s550))
 (p558 : Arguments) (b558 : List Stmt) (s558 : Scope) (_ : fnAt PySem.Challenge.pw_ij0133_01.main.body [14, 26] = some (p558, b558, s558))
 (p566 : Arguments) (b566 : List Stmt) (s566 : Scope) (_ : fnAt PySem.Challenge.pw_ij0133_01.main.body [14, 27] = some (p566, b566, s566))
 (p573 : Arguments) (b573 : List Stmt) (s573 : Scope) (_ : fnAt PySem.Challenge.pw_ij0133_01.main.body [14, 28] = some (p573, b573, s573))
 (p580 : Arguments) (b580 : List Stmt) (s580 : Scope) (_ : fnAt PySem.Challenge.pw_ij0133_01.main.body [14, 29] = some (p580, b580, s580))
 (p587 : Arguments) (b587 : List Stmt) (s587 : Scope) (_ : fnAt PySem.Challenge.pw_ij0133_01.main.body [14, 30] = some (p587, b587, s587))
 (p594 : Arguments) (b594 : List Stmt) (s594 : Scope) (_ : fnAt PySem.Challenge.pw_ij0133_01.main.body [14, 31] = some (p594, b594, s594))
 (p601 : Arguments) (b601 : List Stmt) (s601 : Scope) (_ : fnAt PySem.Challenge.pw_ij0133_01.main.body [14, 32] = some (p601, b601, s601))
 (p613 : Arguments) (b613 : List Stmt) (s613 : Scope) (_ : fnAt PySem.Challenge.pw_ij0133_01.main.body [16] = some (p613, b613, s613))
 (p620 : Arguments) (b620 : List Stmt) (s620 : Scope) (_ : fnAt PySem.Challenge.pw_ij0133_01.main.body [17] = some (p620, b620, s620))
 (p627 : Arguments) (b627 : List Stmt) (s627 : Scope) (_ : fnAt PySem.Challenge.pw_ij0133_01.main.body [18] = some (p627, b627, s627))
 (p634 : Arguments) (b634 : List Stmt) (s634 : Scope) (_ : fnAt PySem.Challenge.pw_ij0133_01.main.body [19] = some (p634, b634, s634))
 (p641 : Arguments) (b641 : List Stmt) (s641 : Scope) (_ : fnAt PySem.Challenge.pw_ij0133_01.main.body [20] = some (p641, b641, s641))
 (p648 : Arguments) (b648 : List Stmt) (s648 : Scope) (_ : fnAt PySem.Challenge.pw_ij0133_01.main.body [22] = some (p648, b648, s648))
 (p663 : Arguments) (b663 : List Stmt) (s663 : Scope) (_ : fnAt PySem.Challenge.pw_ij0133_01.main.body [24, 0] = some (p663, b663, s663))
 (p670 : Arguments) (b670 : List Stmt) (s670 : Scope) (_ : fnAt PySem.Challenge.pw_ij0133_01.main.body [24, 1] = some (p670, b670, s670))
 (p678 : Arguments) (b678 : List Stmt) (s678 : Scope) (_ : fnAt PySem.Challenge.pw_ij0133_01.main.body [24, 2] = some (p678, b678, s678))
 (p686 : Arguments) (b686 : List Stmt) (s686 : Scope) (_ : fnAt PySem.Challenge.pw_ij0133_01.main.body [24, 3] = some (p686, b686, s686))
 (p693 : Arguments) (b693 : List Stmt) (s693 : Scope) (_ : fnAt PySem.Challenge.pw_ij0133_01.main.body [24, 4] = some (p693, b693, s693))
 (p700 : Arguments) (b700 : List Stmt) (s700 : Scope) (_ : fnAt PySem.Challenge.pw_ij0133_01.main.body [24, 5] = some (p700, b700, s700))
 (p707 : Arguments) (b707 : List Stmt) (s707 : Scope) (_ : fnAt PySem.Challenge.pw_ij0133_01.main.body [24, 6] = some (p707, b707, s707))
 (p714 : Arguments) (b714 : List Stmt) (s714 : Scope) (_ : fnAt PySem.Challenge.pw_ij0133_01.main.body [24, 7] = some (p714, b714, s714))
 (p722 : Arguments) (b722 : List Stmt) (s722 : Scope) (_ : fnAt PySem.Challenge.pw_ij0133_01.main.body [24, 8] = some (p722, b722, s722))
 (p729 : Arguments) (b729 : List Stmt) (s729 : Scope) (_ : fnAt PySem.Challenge.pw_ij0133_01.main.body [24, 9] = some (p729, b729, s729))
 (p736 : Arguments) (b736 : List Stmt) (s736 : Scope) (_ : fnAt PySem.Challenge.pw_ij0133_01.main.body [24, 10] = some (p736, b736, s736))
 (p751 : Arguments) (b751 : List Stmt) (s751 : Scope) (_ : fnAt PySem.Challenge.pw_ij0133_01.main.body [25] = some (p751, b751, s751))
 (p758 : Arguments) (b758 : List Stmt) (s758 : Scope) (_ : fnAt PySem.Challenge.pw_ij0133_01.main.body [26] = some (p758, b758, s758))
 (p766 : Arguments) (b766 : List Stmt) (s766 : Scope) (_ : fnAt PySem.Challenge.pw_ij0133_01.main.body [29] = some (p766, b766, s766))
 (p773 : Arguments) (b773 : List Stmt) (s773 : Scope) (_ : fnAt PySem.Challenge.pw_ij0133_01.main.body [31] = some (p773, b773, s773))
 (p780 : Arguments) (b780 : List Stmt) (s780 : Scope) (_ : fnAt PySem.Challenge.pw_ij0133_01.main.body [32] = some (p780, b780, s780))
 (p787 : Arguments) (b787 : List Stmt) (s787 : Scope) (_ : fnAt PySem.Challenge.pw_ij0133_01.main.body [33] = some (p787, b787, s787))
 (p794 : Arguments) (b794 : List Stmt) (s794 : Scope) (_ : fnAt PySem.Challenge.pw_ij0133_01.main.body [34] = some (p794, b794, s794))
 (p801 : Arguments) (b801 : List Stmt) (s801 : Scope) (_ : fnAt PySem.Challenge.pw_ij0133_01.main.body [35] = some (p801, b801, s801))
 (p806 : Arguments) (b806 : List Stmt) (s806 : Scope) (_ : fnAt PySem.Challenge.pw_ij0133_01.main.body [36] = some (p806, b806, s806)) => 
  (nat_lit 2, { cls := Value.none, data := Data.dict #[{ hash := PyData.keyHash P (Str.ofString "\x69mport.loaded._sre"), key := Value.str (Str.ofString "\x69mport.loaded._sre") 183, val := Value.bool true }, { hash := PyData.keyHash P (Str.ofString "class._frozen_importlib.BuiltinImporter"), key := Value.str (Str.ofString "class._frozen_importlib.BuiltinImporter") 185, val := Value.ref 14 }, { hash := PyData.keyHash P (Str.ofString "watched.\x69mport"), key := Value.str (Str.ofString "watched.\x69mport") 206, val := Value.ref 18 }, { hash := PyData.keyHash P (Str.ofString "class._frozen_importlib.ModuleSpec"), key := Value.str (Str.ofString "class._frozen_importlib.ModuleSpec") 216, val := Value.ref 22 }, { hash := PyData.keyHash P (Str.ofString "sys.modules.booked-epoch"), key := Value.str (Str.ofString "sys.modules.booked-epoch") 245, val := Value.int 4 0 }, { hash := PyData.keyHash P (Str.ofString "\x69mport.later-laid._sre"), key := Value.str (Str.ofString "\x69mport.later-laid._sre") 270, val := Value.bool true }, { hash := PyData.keyHash P (Str.ofString "watched.library"), key := Value.str (Str.ofString "watched.library") 272, val := Value.ref 27 }, { hash := PyData.keyHash P (Str.ofString "watched.library-objects"), key := Value.str (Str.ofString "watched.library-objects") 0, val := Value.str (Str.ofString "\x0c\x1e") 0 }, { hash := PyData.keyHash P (Str.ofString "watched.library-deep._sre"), key := Value.str (Str.ofString "watched.library-deep._sre") 273, val := Value.str (Str.ofString "\x04\x00\x00\x0b\x04\x00\x00\x0b\x04\x00\x00\x03\x04\x00\x00\x0b\x08\x04dict\x02") 0 }, { hash := PyData.keyHash P (Str.ofString "\x69mport.loaded._collections"), key := Value.str (Str.ofString "\x69mport.loaded._collections") 280, val := Value.bool true }, { hash := PyData.keyHash P (Str.ofString "sys.modules.landed._collections"), key := Value.str (Str.ofString "sys.modules.landed._collections") 294, val := Value.bool true }, { hash := PyData.keyHash P (Str.ofString "\x69mport.later-laid._collections"), key := Value.str (Str.ofString "\x69mport.later-laid._collections") 309, val := Value.bool true }, { hash := PyData.keyHash P (Str.ofString "watched.library-deep._collections"), key := Value.str (Str.ofString "watched.library-deep._collections") 311, val := Value.str (Str.ofString "\x04\x00\x00\x1d\x04\x00\x00\x1d\x04\x00\x00\x03\x04\x00\x00\x1d\x08\x04dict\x02") 0 }, { hash := PyData.keyHash P (Str.ofString "type.__subclasses__.OSError.0"), key := Value.str (Str.ofString "type.__subclasses__.OSError.0") 419, val := Value.int 80 0 }, { hash := PyData.keyHash P (Str.ofString "type.__subclasses__.OSError.n"), key := Value.str (Str.ofString "type.__subclasses__.OSError.n") 420, val := Value.int 1 0 }] 15 }) ::
  (nat_lit 3, { cls := Value.type "dict", data := Data.dict #[{ hash := PyData.keyHash P (Str.ofString "__name__"), key := Value.str (Str.ofString "__name__") 165, val := Value.str (Str.ofString "law_ij0133_01") 1267 }, { hash := PyData.keyHash P (Str.ofString "__doc__"), key := Value.str (Str.ofString "__doc__") 166, val := Value.none }, { hash := PyData.keyHash P (Str.ofString "__package__"), key := Value.str (Str.ofString "__package__") 167, val := Value.none }, { hash := PyData.keyHash P (Str.ofString "__loader__"), key := Value.str (Str.ofString "__loader__") 168, val := Value.builtin "__main__.__loader__#opaque" }, { hash := PyData.keyHash P (Str.ofString "__spec__"), key := Value.str (Str.ofString "__spec__") 169, val := Value.none }, { hash := PyData.keyHash P (Str.ofString "__annotations__"), key := Value.str (Str.ofString "__annotations__") 170, val := Value.ref 6 }, { hash := PyData.keyHash P (Str.ofString "__builtins__"), key := Value.str (Str.ofString "__builtins__") 171, val := Value.ref 4 }, { hash := PyData.keyHash P (Str.ofString "__file__"), key := Value.str (Str.ofString "__file__") 173, val := Value.str (Str.ofString "/claim/cut.py") 172 }, { hash := PyData.keyHash P (Str.ofString "__cached__"), key := Value.str (Str.ofString "__cached__") 174, val := Value.none }, { hash := PyData.keyHash P (Str.ofString "_sre"), key := Value.str (Str.ofString "_sre") 275, val := Value.ref 12 }, { hash := PyData.keyHash P (Str.ofString "deque"), key := Value.str (Str.ofString "deque") 317, val := Value.type "collections.deque" }, { hash := PyData.keyHash P (Str.ofString "_wall"), key := Value.str (Str.ofString "_wall") 330, val := Value.ref 44 }, { hash := PyData.keyHash P (Str.ofString "_is_private"), key := Value.str (Str.ofString "_is_private") 342, val := Value.ref 51 }, { hash := PyData.keyHash P (Str.ofString "_twin_re_1"), key := Value.str (Str.ofString "_twin_re_1") 382, val := Value.ref 56 }, { hash := PyData.keyHash P (Str.ofString "_whence"), key := Value.str (Str.ofString "_whence") 392, val := Value.ref 63 }, { hash := PyData.keyHash P (Str.ofString "_index"), key := Value.str (Str.ofString "_index") 400, val := Value.ref 70 }, { hash := PyData.keyHash P (Str.ofString "UnsupportedOperation"), key := Value.str (Str.ofString "UnsupportedOperation") 422, val := Value.ref 80 }, { hash := PyData.keyHash P (Str.ofString "IOBase"), key := Value.str (Str.ofString "IOBase") 454, val := Value.ref 100 }, { hash := PyData.keyHash P (Str.ofString "BufferedIOBase"), key := Value.str (Str.ofString "BufferedIOBase") 472, val := Value.ref 115 }, { hash := PyData.keyHash P (Str.ofString "TextIOBase"), key := Value.str (Str.ofString "TextIOBase") 490, val := Value.ref 127 }, { hash := PyData.keyHash P (Str.ofString "BytesIO"), key := Value.str (Str.ofString "BytesIO") 752, val := Value.ref 357 }, { hash := PyData.keyHash P (Str.ofString "StringIO"), key := Value.str (Str.ofString "StringIO") 1039, val := Value.ref 604 }, { hash := PyData.keyHash P (Str.ofString "_kind"), key := Value.str (Str.ofString "_kind") 1050, val := Value.ref 613 }, { hash := PyData.keyHash P (Str.ofString "_fspath"), key := Value.str (Str.ofString "_fspath") 1059, val := Value.ref 620 }, { hash := PyData.keyHash P (Str.ofString "_check_arg_types"), key := Value.str (Str.ofString "_check_arg_types") 1069, val := Value.ref 627 }, { hash := PyData.keyHash P (Str.ofString "isabs"), key := Value.str (Str.ofString "isabs") 1076, val := Value.ref 634 }, { hash := PyData.keyHash P (Str.ofString "join"), key := Value.str (Str.ofString "join") 1087, val := Value.ref 758 }, { hash := PyData.keyHash P (Str.ofString "join_path"), key := Value.str (Str.ofString "join_path") 1088, val := Value.ref 641 }, { hash := PyData.keyHash P (Str.ofString "dirname"), key := Value.str (Str.ofString "dirname") 1098, val := Value.ref 648 }, { hash := PyData.keyHash P (Str.ofString "shlex"), key := Value.str (Str.ofString "shlex") 1239, val := Value.ref 739 }, { hash := PyData.keyHash P (Str.ofString "split"), key := Value.str (Str.ofString "split") 1249, val := Value.ref 751 }, { hash := PyData.keyHash P (Str.ofString "join_shlex"), key := Value.str (Str.ofString "join_shlex") 1257, val := Value.ref 758 }, { hash := PyData.keyHash P (Str.ofString "_find_unsafe"), key := Value.str (Str.ofString "_find_unsafe") 1259, val := Value.ref 759 }, { hash := PyData.keyHash P (Str.ofString "quote"), key := Value.str (Str.ofString "quote") 1266, val := Value.ref 766 }, { hash := PyData.keyHash P (Str.ofString "_law_class"), key := Value.str (Str.ofString "_law_class") 1275, val := Value.ref 773 }, { hash := PyData.keyHash P (Str.ofString "_law_name"), key := Value.str (Str.ofString "_law_name") 1285, val := Value.ref 780 }, { hash := PyData.keyHash P (Str.ofString "_law_hidden"), key := Value.str (Str.ofString "_law_hidden") 1293, val := Value.ref 787 }, { hash := PyData.keyHash P (Str.ofString "_law_tails"), key := Value.str (Str.ofString "_law_tails") 1303, val := Value.ref 794 }, { hash := PyData.keyHash P (Str.ofString "_law_read"), key := Value.str (Str.ofString "_law_read") 1315, val := Value.ref 801 }, { hash := PyData.keyHash P (Str.ofString "law"), key := Value.str (Str.ofString "law") 1321, val := Value.ref 806 }] 40 }) ::
  (nat_lit 38, { cls := Value.type "tuple", data := Data.seq #[] }) ::
  (nat_lit 40, { cls := Value.type "tuple", data := Data.seq #[Value.str (Str.ofString "k") 327] }) ::
  (nat_lit 41, { cls := Value.type "tuple", data := Data.seq #[] }) ::
  (nat_lit 43, { cls := Value.type "code", data := Data.fields #[Value.str (Str.ofString "_wall") 324, Value.str (Str.ofString "_wall") 325, Value.str (Str.ofString "/claim/cut.py") 326, Value.int 3 0, Value.int 1 0, Value.int 0 0, Value.int 0 0, Value.int 3 0, Value.ref 38, Value.bool true, Value.int 318 0, Value.ref 39, Value.none, Value.ref 40, Value.ref 41, Value.ref 42, Value.int 328 0, Value.int 3 0, Value.str (Str.ofString "/claim/cut.py") 329] }) ::
  (nat_lit 44, { cls := Value.type "function", data := Data.func { name := Str.ofString "_wall", qualname := Str.ofString "_wall", params := p44, body := FuncBody.stmts b44, scope := s44, globals := 3, closure := [], defaults := Value.none, kwdefaults := Value.none, pyModule := Value.str (Str.ofString "__main__") 164, code := Value.ref 43 } }) ::
  (nat_lit 45, { cls := Value.type "tuple", data := Data.seq #[] }) ::
  (nat_lit 47, { cls := Value.type "tuple", data := Data.seq #[Value.str (Str.ofString "cls_name") 336, Value.str (Str.ofString "name") 337, Value.str (Str.ofString "pattern") 338, Value.str (Str.ofString "pat_len") 339] }) ::
  (nat_lit 48, { cls := Value.type "tuple", data := Data.seq #[] }) ::
  (nat_lit 50, { cls := Value.type "code", data := Data.fields #[Value.str (Str.ofString "_is_private") 333, Value.str (Str.ofString "_is_private") 334, Value.str (Str.ofString "/claim/cut.py") 335, Value.int 7 0, Value.int 2 0, Value.int 0 0, Value.int 0 0, Value.int 3 0, Value.ref 45, Value.bool true, Value.int 318 0, Value.ref 46, Value.none, Value.ref 47, Value.ref 48, Value.ref 49, Value.int 340 0, Value.int 7 0, Value.str (Str.ofString "/claim/cut.py") 341] }) ::
  (nat_lit 51, { cls := Value.type "function", data := Data.func { name := Str.ofString "_is_private", qualname := Str.ofString "_is_private", params := p51, body := FuncBody.stmts b51, scope := s51, globals := 3, closure := [], defaults := Value.none, kwdefaults := Value.none, pyModule := Value.str (Str.ofString "cpy313.enum") 331, code := Value.ref 50 } }) ::
  (nat_lit 55, { cls := Value.type "tuple", data := Data.seq #[Value.int 14 0, Value.int 17 0, Value.int 4 0, Value.int 1 0, Value.int 1 0, Value.int 21 0, Value.int 9 0, Value.int 0 0, Value.int 604043296 0, Value.int 1 0, Value.int 0 0, Value.int 0 0, Value.int 0 0, Value.int 0 0, Value.int 0 0, Value.int 8 0, Value.int 4 0, Value.int 0 0, Value.int 13 0, Value.int 14 0, Value.int 21 0, Value.int 9 0, Value.int 0 0, Value.int 604043296 0, Value.int 1 0, Value.int 0 0, Value.int 0 0, Value.int 0 0, Value.int 0 0, Value.int 0 0, Value.int 8 0, Value.int 4 0, Value.int 0 0, Value.int 1 0] }) ::
  (nat_lit 56, { cls := Value.type "re.Pattern", data := Data.fields #[Value.str (Str.ofString "[^\\w@%+=:,./-]") 344, Value.int 256 381, Value.int 0 0, Value.none, Value.none, Value.ref 55, Value.int 0 0] }) ::
  (nat_lit 57, { cls := Value.type "tuple", data := Data.seq #[] }) ::
  (nat_lit 59, { cls := Value.type "tuple", data := Data.seq #[Value.str (Str.ofString "n") 388, Value.str (Str.ofString "what") 389] }) ::
  (nat_lit 60, { cls := Value.type "tuple", data := Data.seq #[] }) ::
  (nat_lit 62, { cls := Value.type "code", data := Data.fields #[Value.str (Str.ofString "_whence") 385, Value.str (Str.ofString "_whence") 386, Value.str (Str.ofString "/claim/cut.py") 387, Value.int 16 0, Value.int 2 0, Value.int 0 0, Value.int 0 0, Value.int 3 0, Value.ref 57, Value.bool true, Value.int 318 0, Value.ref 58, Value.none, Value.ref 59, Value.ref 60, Value.ref 61, Value.int 390 0, Value.int 16 0, Value.str (Str.ofString "/claim/cut.py") 391] }) ::
  (nat_lit 63, { cls := Value.type "function", data := Data.func { name := Str.ofString "_whence", qualname := Str.ofString "_whence", params := p63, body := FuncBody.stmts b63, scope := s63, globals := 3, closure := [], defaults := Value.none, kwdefaults := Value.none, pyModule := Value.str (Str.ofString "io") 383, code := Value.ref 62 } }) ::
  (nat_lit 64, { cls := Value.type "tuple", data := Data.seq #[] }) ::
  (nat_lit 66, { cls := Value.type "tuple", data := Data.seq #[Value.str (Str.ofString "n") 396, Value.str (Str.ofString "what") 397] }) ::
  (nat_lit 67, { cls := Value.type "tuple", data := Data.seq #[] }) ::
  (nat_lit 69, { cls := Value.type "code", data := Data.fields #[Value.str (Str.ofString "_index") 393, Value.str (Str.ofString "_index") 394, Value.str (Str.ofString "/claim/cut.py") 395, Value.int 21 0, Value.int 2 0, Value.int 0 0, Value.int 0 0, Value.int 3 0, Value.ref 64, Value.bool true, Value.int 318 0, Value.ref 65, Value.none, Value.ref 66, Value.ref 67, Value.ref 68, Value.int 398 0, Value.int 21 0, Value.str (Str.ofString "/claim/cut.py") 399] }) ::
  (nat_lit 70, { cls := Value.type "function", data := Data.func { name := Str.ofString "_index", qualname := Str.ofString "_index", params := p70, body := FuncBody.stmts b70, scope := s70, globals := 3, closure := [], defaults := Value.none, kwdefaults := Value.none, pyModule := Value.str (Str.ofString "io") 383, code := Value.ref 69 } }) ::
  (nat_lit 71, { cls := Value.type "tuple", data := Data.seq #[Value.type "OSError", Value.type "ValueError"] }) ::
  (nat_lit 78, { cls := Value.type "tuple", data := Data.seq #[] }) ::
  (nat_lit 79, { cls := Value.type "dict", data := Data.dict #[{ hash := PyData.keyHash P (Str.ofString "__module__"), key := Value.str (Str.ofString "__module__") 408, val := Value.str (Str.ofString "io") 413 }, { hash := PyData.keyHash P (Str.ofString "__firstlineno__"), key := Value.str (Str.ofString "__firstlineno__") 412, val := Value.int 28 411 }, { hash := PyData.keyHash P (Str.ofString "__static_attributes__"), key := Value.str (Str.ofString "__static_attributes__") 415, val := Value.ref 78 }, { hash := PyData.keyHash P (Str.ofString "__weakref__"), key := Value.str (Str.ofString "__weakref__") 417, val := Value.ref 81 }, { hash := PyData.keyHash P (Str.ofString "__doc__"), key := Value.str (Str.ofString "__doc__") 418, val := Value.none }] 3 }) ::
  (nat_lit 80, { cls := Value.type "type", data := Data.cls { name := Str.ofString "UnsupportedOperation", bases := [Value.type "OSError", Value.type "ValueError"], mro := [Value.ref 80, Value.type "OSError", Value.type "ValueError", Value.type "Exception", Value.type "BaseException", Value.type "object"], ns := 79, qualname := Str.ofString "UnsupportedOperation" }, slots := #[some (Value.ref 71), none, some (Value.str (Str.ofString "UnsupportedOperation") 401), some (Value.str (Str.ofString "UnsupportedOperation") 409), some (Value.builtin "OSError.__new__"), some (Value.bool true)] }) ::
  (nat_lit 81, { cls := Value.type "getset_descriptor", data := Data.fields #[Value.str (Str.ofString "__weakref__") 416, Value.ref 80, Value.builtin "ExceptionGroup.__weakref__", Value.none] }) ::
  (nat_lit 91, { cls := Value.type "tuple", data := Data.seq #[] }) ::
  (nat_lit 93, { cls := Value.type "tuple", data := Data.seq #[Value.str (Str.ofString "cls") 440, Value.str (Str.ofString "args") 441, Value.str (Str.ofString "kwargs") 442] }) ::
  (nat_lit 94, { cls := Value.type "tuple", data := Data.seq #[] }) ::
  (nat_lit 96, { cls := Value.type "code", data := Data.fields #[Value.str (Str.ofString "__new__") 437, Value.str (Str.ofString "IOBase.__new__") 438, Value.str (Str.ofString "/claim/cut.py") 439, Value.int 33 0, Value.int 1 0, Value.int 1 0, Value.int 0 0, Value.int 15 0, Value.ref 91, Value.bool true, Value.int 318 0, Value.ref 92, Value.none, Value.ref 93, Value.ref 94, Value.ref 95, Value.int 443 0, Value.int 33 0, Value.str (Str.ofString "/claim/cut.py") 444] }) ::
  (nat_lit 97, { cls := Value.type "function", data := Data.func { name := Str.ofString "__new__", qualname := Str.ofString "IOBase.__new__", params := p97, body := FuncBody.stmts b97, scope := s97, globals := 3, closure := [], defaults := Value.none, kwdefaults := Value.none, pyModule := Value.str (Str.ofString "io") 383, code := Value.ref 96 } }) ::
  (nat_lit 98, { cls := Value.type "tuple", data := Data.seq #[] }) ::
  (nat_lit 99, { cls := Value.type "dict", data := Data.dict #[{ hash := PyData.keyHash P (Str.ofString "__module__"), key := Value.str (Str.ofString "__module__") 430, val := Value.str (Str.ofString "io") 435 }, { hash := PyData.keyHash P (Str.ofString "__firstlineno__"), key := Value.str (Str.ofString "__firstlineno__") 434, val := Value.int 30 433 }, { hash := PyData.keyHash P (Str.ofString "__new__"), key := Value.str (Str.ofString "__new__") 445, val := Value.ref 101 }, { hash := PyData.keyHash P (Str.ofString "__static_attributes__"), key := Value.str (Str.ofString "__static_attributes__") 446, val := Value.ref 98 }, { hash := PyData.keyHash P (Str.ofString "__dict__"), key := Value.str (Str.ofString "__dict__") 449, val := Value.ref 102 }, { hash := PyData.keyHash P (Str.ofString "__weakref__"), key := Value.str (Str.ofString "__weakref__") 451, val := Value.ref 103 }, { hash := PyData.keyHash P (Str.ofString "__doc__"), key := Value.str (Str.ofString "__doc__") 452, val := Value.none }] 4 }) ::
  (nat_lit 100, { cls := Value.type "type", data := Data.cls { name := Str.ofString "IOBase", bases := [Value.type "object"], mro := [Value.ref 100, Value.type "object"], ns := 99, qualname := Str.ofString "IOBase", subclasses := [Value.ref 115, Value.ref 127] }, slots := #[none, none, some (Value.str (Str.ofString "IOBase") 423), some (Value.str (Str.ofString "IOBase") 431), some Value.none, some (Value.bool true)] }) ::
  (nat_lit 101, { cls := Value.type "staticmethod", data := Data.fields #[Value.ref 97] }) ::
  (nat_lit 102, { cls := Value.type "getset_descriptor", data := Data.fields #[Value.str (Str.ofString "__dict__") 448, Value.ref 100, Value.builtin "function.__dict__", Value.builtin "function.__dict__#set"] }) ::
  (nat_lit 103, { cls := Value.type "getset_descriptor", data := Data.fields #[Value.str (Str.ofString "__weakref__") 450, Value.ref 100, Value.builtin "ExceptionGroup.__weakref__", Value.none] }) ::
  (nat_lit 106, { cls := Value.type "tuple", data := Data.seq #[Value.ref 100] }) ::
  (nat_lit 113, { cls := Value.type "tuple", data := Data.seq #[] }) ::
  (nat_lit 114, { cls := Value.type "dict", data := Data.dict #[{ hash := PyData.keyHash P (Str.ofString "__module__"), key := Value.str (Str.ofString "__module__") 462, val := Value.str (Str.ofString "io") 467 }, { hash := PyData.keyHash P (Str.ofString "__firstlineno__"), key := Value.str (Str.ofString "__firstlineno__") 466, val := Value.int 37 465 }, { hash := PyData.keyHash P (Str.ofString "__static_attributes__"), key := Value.str (Str.ofString "__static_attributes__") 469, val := Value.ref 113 }, { hash := PyData.keyHash P (Str.ofString "__doc__"), key := Value.str (Str.ofString "__doc__") 470, val := Value.none }] 2 }) ::
  (nat_lit 115, { cls := Value.type "type", data := Data.cls { name := Str.ofString "BufferedIOBase", bases := [Value.ref 100], mro := [Value.ref 115, Value.ref 100, Value.type "object"], ns := 114, qualname := Str.ofString "BufferedIOBase", subclasses := [Value.ref 357] }, slots := #[some (Value.ref 106), none, some (Value.str (Str.ofString "BufferedIOBase") 455), some (Value.str (Str.ofString "BufferedIOBase") 463), some Value.none, some (Value.bool true)] }) ::
  (nat_lit 118, { cls := Value.type "tuple", data := Data.seq #[Value.ref 100] }) ::
  (nat_lit 125, { cls := Value.type "tuple", data := Data.seq #[] }) ::
  (nat_lit 126, { cls := Value.type "dict", data := Data.dict #[{ hash := PyData.keyHash P (Str.ofString "__module__"), key := Value.str (Str.ofString "__module__") 480, val := Value.str (Str.ofString "io") 485 }, { hash := PyData.keyHash P (Str.ofString "__firstlineno__"), key := Value.str (Str.ofString "__firstlineno__") 484, val := Value.int 39 483 }, { hash := PyData.keyHash P (Str.ofString "__static_attributes__"), key := Value.str (Str.ofString "__static_attributes__") 487, val := Value.ref 125 }, { hash := PyData.keyHash P (Str.ofString "__doc__"), key := Value.str (Str.ofString "__doc__") 488, val := Value.none }] 2 }) ::
  (nat_lit 127, { cls := Value.type "type", data := Data.cls { name := Str.ofString "TextIOBase", bases := [Value.ref 100], mro := [Value.ref 127, Value.ref 100, Value.type "object"], ns := 126, qualname := Str.ofString "TextIOBase", subclasses := [Value.ref 604] }, slots := #[some (Value.ref 118), none, some (Value.str (Str.ofString "TextIOBase") 473), some (Value.str (Str.ofString "TextIOBase") 481), some Value.none, some (Value.bool true)] }) ::
  (nat_lit 130, { cls := Value.type "tuple", data := Data.seq #[Value.ref 115] }) ::
  (nat_lit 137, { cls := Value.type "tuple", data := Data.seq #[Value.none] }) ::
  (nat_lit 138, { cls := Value.type "tuple", data := Data.seq #[] }) ::
  (nat_lit 140, { cls := Value.type "tuple", data := Data.seq #[Value.str (Str.ofString "self") 508, Value.str (Str.ofString "initial_bytes") 509] }) ::
  (nat_lit 141, { cls := Value.type "tuple", data := Data.seq #[] }) ::
  (nat_lit 143, { cls := Value.type "code", data := Data.fields #[Value.str (Str.ofString "__init__") 505, Value.str (Str.ofString "BytesIO.__init__") 506, Value.str (Str.ofString "/claim/cut.py") 507, Value.int 44 0, Value.int 2 0, Value.int 0 0, Value.int 0 0, Value.int 3 0, Value.ref 138, Value.bool true, Value.int 318 0, Value.ref 139, Value.none, Value.ref 140, Value.ref 141, Value.ref 142, Value.int 510 0, Value.int 44 0, Value.str (Str.ofString "/claim/cut.py") 511] }) ::
  (nat_lit 144, { cls := Value.type "function", data := Data.func { name := Str.ofString "__init__", qualname := Str.ofString "BytesIO.__init__", params := p144, body := FuncBody.stmts b144, scope := s144, globals := 3, closure := [], defaults := Value.ref 137, kwdefaults := Value.none, pyModule := Value.str (Str.ofString "io") 383, code := Value.ref 143 } }) ::
  (nat_lit 145, { cls := Value.type "tuple", data := Data.seq #[] }) ::
  (nat_lit 147, { cls := Value.type "tuple", data := Data.seq #[Value.str (Str.ofString "self") 516] }) ::
  (nat_lit 148, { cls := Value.type "tuple", data := Data.seq #[] }) ::
  (nat_lit 150, { cls := Value.type "code", data := Data.fields #[Value.str (Str.ofString "__check") 513, Value.str (Str.ofString "BytesIO.__check") 514, Value.str (Str.ofString "/claim/cut.py") 515, Value.int 50 0, Value.int 1 0, Value.int 0 0, Value.int 0 0, Value.int 3 0, Value.ref 145, Value.bool true, Value.int 318 0, Value.ref 146, Value.none, Value.ref 147, Value.ref 148, Value.ref 149, Value.int 517 0, Value.int 50 0, Value.str (Str.ofString "/claim/cut.py") 518] }) ::
  (nat_lit 151, { cls := Value.type "function", data := Data.func { name := Str.ofString "__check", qualname := Str.ofString "BytesIO.__check", params := p151, body := FuncBody.stmts b151, scope := s151, globals := 3, closure := [], defaults := Value.none, kwdefaults := Value.none, pyModule := Value.str (Str.ofString "io") 383, code := Value.ref 150 } }) ::
  (nat_lit 152, { cls := Value.type "tuple", data := Data.seq #[] }) ::
  (nat_lit 154, { cls := Value.type "tuple", data := Data.seq #[Value.str (Str.ofString "self") 523, Value.str (Str.ofString "limit") 524, Value.str (Str.ofString "start") 525, Value.str (Str.ofString "stop") 526, Value.str (Str.ofString "i") 527] }) ::
  (nat_lit 155, { cls := Value.type "tuple", data := Data.seq #[] }) ::
  (nat_lit 157, { cls := Value.type "code", data := Data.fields #[Value.str (Str.ofString "__line") 520, Value.str (Str.ofString "BytesIO.__line") 521, Value.str (Str.ofString "/claim/cut.py") 522, Value.int 54 0, Value.int 2 0, Value.int 0 0, Value.int 0 0, Value.int 3 0, Value.ref 152, Value.bool true, Value.int 318 0, Value.ref 153, Value.none, Value.ref 154, Value.ref 155, Value.ref 156, Value.int 528 0, Value.int 54 0, Value.str (Str.ofString "/claim/cut.py") 529] }) ::
  (nat_lit 158, { cls := Value.type "function", data := Data.func { name := Str.ofString "__line", qualname := Str.ofString "BytesIO.__line", params := p158, body := FuncBody.stmts b158, scope := s158, globals := 3, closure := [], defaults := Value.none, kwdefaults := Value.none, pyModule := Value.str (Str.ofString "io") 383, code := Value.ref 157 } }) ::
  (nat_lit 159, { cls := Value.type "tuple", data := Data.seq #[] }) ::
  (nat_lit 161, { cls := Value.type "tuple", data := Data.seq #[Value.str (Str.ofString "self") 534] }) ::
  (nat_lit 162, { cls := Value.type "tuple", data := Data.seq #[] }) ::
  (nat_lit 164, { cls := Value.type "code", data := Data.fields #[Value.str (Str.ofString "closed") 531, Value.str (Str.ofString "BytesIO.closed") 532, Value.str (Str.ofString "/claim/cut.py") 533, Value.int 67 0, Value.int 1 0, Value.int 0 0, Value.int 0 0, Value.int 3 0, Value.ref 159, Value.bool true, Value.int 318 0, Value.ref 160, Value.none, Value.ref 161, Value.ref 162, Value.ref 163, Value.int 535 0, Value.int 67 0, Value.str (Str.ofString "/claim/cut.py") 536] }) ::
  (nat_lit 165, { cls := Value.type "function", data := Data.func { name := Str.ofString "closed", qualname := Str.ofString "BytesIO.closed", params := p165, body := FuncBody.stmts b165, scope := s165, globals := 3, closure := [], defaults := Value.none, kwdefaults := Value.none, pyModule := Value.str (Str.ofString "io") 383, code := Value.ref 164 } }) ::
  (nat_lit 166, { cls := Value.type "property", data := Data.fields #[Value.ref 165, Value.none, Value.none, Value.none, Value.str (Str.ofString "closed") 538, Value.bool false] }) ::
  (nat_lit 167, { cls := Value.type "tuple", data := Data.seq #[] }) ::
  (nat_lit 169, { cls := Value.type "tuple", data := Data.seq #[Value.str (Str.ofString "self") 542] }) ::
  (nat_lit 170, { cls := Value.type "tuple", data := Data.seq #[] }) ::
  (nat_lit 172, { cls := Value.type "code", data := Data.fields #[Value.str (Str.ofString "close") 539, Value.str (Str.ofString "BytesIO.close") 540, Value.str (Str.ofString "/claim/cut.py") 541, Value.int 71 0, Value.int 1 0, Value.int 0 0, Value.int 0 0, Value.int 3 0, Value.ref 167, Value.bool true, Value.int 318 0, Value.ref 168, Value.none, Value.ref 169, Value.ref 170, Value.ref 171, Value.int 543 0, Value.int 71 0, Value.str (Str.ofString "/claim/cut.py") 544] }) ::
  (nat_lit 173, { cls := Value.type "function", data := Data.func { name := Str.ofString "close", qualname := Str.ofString "BytesIO.close", params := p173, body := FuncBody.stmts b173, scope := s173, globals := 3, closure := [], defaults := Value.none, kwdefaults := Value.none, pyModule := Value.str (Str.ofString "io") 383, code := Value.ref 172 } }) ::
  (nat_lit 174, { cls := Value.type "tuple", data := Data.seq #[] }) ::
  (nat_lit 176, { cls := Value.type "tuple", data := Data.seq #[Value.str (Str.ofString "self") 549] }) ::
  (nat_lit 177, { cls := Value.type "tuple", data := Data.seq #[] }) ::
  (nat_lit 179, { cls := Value.type "code", data := Data.fields #[Value.str (Str.ofString "__enter__") 546, Value.str (Str.ofString "BytesIO.__enter__") 547, Value.str (Str.ofString "/claim/cut.py") 548, Value.int 74 0, Value.int 1 0, Value.int 0 0, Value.int 0 0, Value.int 3 0, Value.ref 174, Value.bool true, Value.int 318 0, Value.ref 175, Value.none, Value.ref 176, Value.ref 177, Value.ref 178, Value.int 550 0, Value.int 74 0, Value.str (Str.ofString "/claim/cut.py") 551] }) ::
  (nat_lit 180, { cls := Value.type "function", data := Data.func { name := Str.ofString "__enter__", qualname := Str.ofString "BytesIO.__enter__", params := p180, body := FuncBody.stmts b180, scope := s180, globals := 3, closure := [], defaults := Value.none, kwdefaults := Value.none, pyModule := Value.str (Str.ofString "io") 383, code := Value.ref 179 } }) ::
  (nat_lit 181, { cls := Value.type "tuple", data := Data.seq #[] }) ::
  (nat_lit 183, { cls := Value.type "tuple", data := Data.seq #[Value.str (Str.ofString "self") 556, Value.str (Str.ofString "args") 557] }) ::
  (nat_lit 184, { cls := Value.type "tuple", data := Data.seq #[] }) ::
  (nat_lit 186, { cls := Value.type "code", data := Data.fields #[Value.str (Str.ofString "__exit__") 553, Value.str (Str.ofString "BytesIO.__exit__") 554, Value.str (Str.ofString "/claim/cut.py") 555, Value.int 78 0, Value.int 1 0, Value.int 0 0, Value.int 0 0, Value.int 7 0, Value.ref 181, Value.bool true, Value.int 318 0, Value.ref 182, Value.none, Value.ref 183, Value.ref 184, Value.ref 185, Value.int 558 0, Value.int 78 0, Value.str (Str.ofString "/claim/cut.py") 559] }) ::
  (nat_lit 187, { cls := Value.type "function", data := Data.func { name := Str.ofString "__exit__", qualname := Str.ofString "BytesIO.__exit__", params := p187, body := FuncBody.stmts b187, scope := s187, globals := 3, closure := [], defaults := Value.none, kwdefaults := Value.none, pyModule := Value.str (Str.ofString "io") 383, code := Value.ref 186 } }) ::
  (nat_lit 188, { cls := Value.type "tuple", data := Data.seq #[] }) ::
  (nat_lit 190, { cls := Value.type "tuple", data := Data.seq #[Value.str (Str.ofString "self") 564] }) ::
  (nat_lit 191, { cls := Value.type "tuple", data := Data.seq #[] }) ::
  (nat_lit 193, { cls := Value.type "code", data := Data.fields #[Value.str (Str.ofString "readable") 561, Value.str (Str.ofString "BytesIO.readable") 562, Value.str (Str.ofString "/claim/cut.py") 563, Value.int 81 0, Value.int 1 0, Value.int 0 0, Value.int 0 0, Value.int 3 0, Value.ref 188, Value.bool true, Value.int 318 0, Value.ref 189, Value.none, Value.ref 190, Value.ref 191, Value.ref 192, Value.int 565 0, Value.int 81 0, Value.str (Str.ofString "/claim/cut.py") 566] }) ::
  (nat_lit 194, { cls := Value.type "function", data := Data.func { name := Str.ofString "readable", qualname := Str.ofString "BytesIO.readable", params := p194, body := FuncBody.stmts b194, scope := s194, globals := 3, closure := [], defaults := Value.none, kwdefaults := Value.none, pyModule := Value.str (Str.ofString "io") 383, code := Value.ref 193 } }) ::
  (nat_lit 195, { cls := Value.type "tuple", data := Data.seq #[] }) ::
  (nat_lit 197, { cls := Value.type "tuple", data := Data.seq #[Value.str (Str.ofString "self") 571] }) ::
  (nat_lit 198, { cls := Value.type "tuple", data := Data.seq #[] }) ::
  (nat_lit 200, { cls := Value.type "code", data := Data.fields #[Value.str (Str.ofString "writable") 568, Value.str (Str.ofString "BytesIO.writable") 569, Value.str (Str.ofString "/claim/cut.py") 570, Value.int 85 0, Value.int 1 0, Value.int 0 0, Value.int 0 0, Value.int 3 0, Value.ref 195, Value.bool true, Value.int 318 0, Value.ref 196, Value.none, Value.ref 197, Value.ref 198, Value.ref 199, Value.int 572 0, Value.int 85 0, Value.str (Str.ofString "/claim/cut.py") 573] }) ::
  (nat_lit 201, { cls := Value.type "function", data := Data.func { name := Str.ofString "writable", qualname := Str.ofString "BytesIO.writable", params := p201, body := FuncBody.stmts b201, scope := s201, globals := 3, closure := [], defaults := Value.none, kwdefaults := Value.none, pyModule := Value.str (Str.ofString "io") 383, code := Value.ref 200 } }) ::
  (nat_lit 202, { cls := Value.type "tuple", data := Data.seq #[] }) ::
  (nat_lit 204, { cls := Value.type "tuple", data := Data.seq #[Value.str (Str.ofString "self") 578] }) ::
  (nat_lit 205, { cls := Value.type "tuple", data := Data.seq #[] }) ::
  (nat_lit 207, { cls := Value.type "code", data := Data.fields #[Value.str (Str.ofString "seekable") 575, Value.str (Str.ofString "BytesIO.seekable") 576, Value.str (Str.ofString "/claim/cut.py") 577, Value.int 89 0, Value.int 1 0, Value.int 0 0, Value.int 0 0, Value.int 3 0, Value.ref 202, Value.bool true, Value.int 318 0, Value.ref 203, Value.none, Value.ref 204, Value.ref 205, Value.ref 206, Value.int 579 0, Value.int 89 0, Value.str (Str.ofString "/claim/cut.py") 580] }) ::
  (nat_lit 208, { cls := Value.type "function", data := Data.func { name := Str.ofString "seekable", qualname := Str.ofString "BytesIO.seekable", params := p208, body := FuncBody.stmts b208, scope := s208, globals := 3, closure := [], defaults := Value.none, kwdefaults := Value.none, pyModule := Value.str (Str.ofString "io") 383, code := Value.ref 207 } }) ::
  (nat_lit 209, { cls := Value.type "tuple", data := Data.seq #[] }) ::
  (nat_lit 211, { cls := Value.type "tuple", data := Data.seq #[Value.str (Str.ofString "self") 585] }) ::
  (nat_lit 212, { cls := Value.type "tuple", data := Data.seq #[] }) ::
  (nat_lit 214, { cls := Value.type "code", data := Data.fields #[Value.str (Str.ofString "isatty") 582, Value.str (Str.ofString "BytesIO.isatty") 583, Value.str (Str.ofString "/claim/cut.py") 584, Value.int 93 0, Value.int 1 0, Value.int 0 0, Value.int 0 0, Value.int 3 0, Value.ref 209, Value.bool true, Value.int 318 0, Value.ref 210, Value.none, Value.ref 211, Value.ref 212, Value.ref 213, Value.int 586 0, Value.int 93 0, Value.str (Str.ofString "/claim/cut.py") 587] }) ::
  (nat_lit 215, { cls := Value.type "function", data := Data.func { name := Str.ofString "isatty", qualname := Str.ofString "BytesIO.isatty", params := p215, body := FuncBody.stmts b215, scope := s215, globals := 3, closure := [], defaults := Value.none, kwdefaults := Value.none, pyModule := Value.str (Str.ofString "io") 383, code := Value.ref 214 } }) ::
  (nat_lit 216, { cls := Value.type "tuple", data := Data.seq #[] }) ::
  (nat_lit 218, { cls := Value.type "tuple", data := Data.seq #[Value.str (Str.ofString "self") 592] }) ::
  (nat_lit 219, { cls := Value.type "tuple", data := Data.seq #[] }) ::
  (nat_lit 221, { cls := Value.type "code", data := Data.fields #[Value.str (Str.ofString "flush") 589, Value.str (Str.ofString "BytesIO.flush") 590, Value.str (Str.ofString "/claim/cut.py") 591, Value.int 97 0, Value.int 1 0, Value.int 0 0, Value.int 0 0, Value.int 3 0, Value.ref 216, Value.bool true, Value.int 318 0, Value.ref 217, Value.none, Value.ref 218, Value.ref 219, Value.ref 220, Value.int 593 0, Value.int 97 0, Value.str (Str.ofString "/claim/cut.py") 594] }) ::
  (nat_lit 222, { cls := Value.type "function", data := Data.func { name := Str.ofString "flush", qualname := Str.ofString "BytesIO.flush", params := p222, body := FuncBody.stmts b222, scope := s222, globals := 3, closure := [], defaults := Value.none, kwdefaults := Value.none, pyModule := Value.str (Str.ofString "io") 383, code := Value.ref 221 } }) ::
  (nat_lit 223, { cls := Value.type "tuple", data := Data.seq #[] }) ::
  (nat_lit 225, { cls := Value.type "tuple", data := Data.seq #[Value.str (Str.ofString "self") 599] }) ::
  (nat_lit 226, { cls := Value.type "tuple", data := Data.seq #[] }) ::
  (nat_lit 228, { cls := Value.type "code", data := Data.fields #[Value.str (Str.ofString "fileno") 596, Value.str (Str.ofString "BytesIO.fileno") 597, Value.str (Str.ofString "/claim/cut.py") 598, Value.int 100 0, Value.int 1 0, Value.int 0 0, Value.int 0 0, Value.int 3 0, Value.ref 223, Value.bool true, Value.int 318 0, Value.ref 224, Value.none, Value.ref 225, Value.ref 226, Value.ref 227, Value.int 600 0, Value.int 100 0, Value.str (Str.ofString "/claim/cut.py") 601] }) ::
  (nat_lit 229, { cls := Value.type "function", data := Data.func { name := Str.ofString "fileno", qualname := Str.ofString "BytesIO.fileno", params := p229, body := FuncBody.stmts b229, scope := s229, globals := 3, closure := [], defaults := Value.none, kwdefaults := Value.none, pyModule := Value.str (Str.ofString "io") 383, code := Value.ref 228 } }) ::
  (nat_lit 230, { cls := Value.type "tuple", data := Data.seq #[] }) ::
  (nat_lit 232, { cls := Value.type "tuple", data := Data.seq #[Value.str (Str.ofString "self") 606] }) ::
  (nat_lit 233, { cls := Value.type "tuple", data := Data.seq #[] }) ::
  (nat_lit 235, { cls := Value.type "code", data := Data.fields #[Value.str (Str.ofString "detach") 603, Value.str (Str.ofString "BytesIO.detach") 604, Value.str (Str.ofString "/claim/cut.py") 605, Value.int 103 0, Value.int 1 0, Value.int 0 0, Value.int 0 0, Value.int 3 0, Value.ref 230, Value.bool true, Value.int 318 0, Value.ref 231, Value.none, Value.ref 232, Value.ref 233, Value.ref 234, Value.int 607 0, Value.int 103 0, Value.str (Str.ofString "/claim/cut.py") 608] }) ::
  (nat_lit 236, { cls := Value.type "function", data := Data.func { name := Str.ofString "detach", qualname := Str.ofString "BytesIO.detach", params := p236, body := FuncBody.stmts b236, scope := s236, globals := 3, closure := [], defaults := Value.none, kwdefaults := Value.none, pyModule := Value.str (Str.ofString "io") 383, code := Value.ref 235 } }) ::
  (nat_lit 237, { cls := Value.type "tuple", data := Data.seq #[] }) ::
  (nat_lit 239, { cls := Value.type "tuple", data := Data.seq #[Value.str (Str.ofString "self") 613] }) ::
  (nat_lit 240, { cls := Value.type "tuple", data := Data.seq #[] }) ::
  (nat_lit 242, { cls := Value.type "code", data := Data.fields #[Value.str (Str.ofString "getvalue") 610, Value.str (Str.ofString "BytesIO.getvalue") 611, Value.str (Str.ofString "/claim/cut.py") 612, Value.int 106 0, Value.int 1 0, Value.int 0 0, Value.int 0 0, Value.int 3 0, Value.ref 237, Value.bool true, Value.int 318 0, Value.ref 238, Value.none, Value.ref 239, Value.ref 240, Value.ref 241, Value.int 614 0, Value.int 106 0, Value.str (Str.ofString "/claim/cut.py") 615] }) ::
  (nat_lit 243, { cls := Value.type "function", data := Data.func { name := Str.ofString "getvalue", qualname := Str.ofString "BytesIO.getvalue", params := p243, body := FuncBody.stmts b243, scope := s243, globals := 3, closure := [], defaults := Value.none, kwdefaults := Value.none, pyModule := Value.str (Str.ofString "io") 383, code := Value.ref 242 } }) ::
  (nat_lit 244, { cls := Value.type "tuple", data := Data.seq #[] }) ::
  (nat_lit 246, { cls := Value.type "tuple", data := Data.seq #[Value.str (Str.ofString "self") 620] }) ::
  (nat_lit 247, { cls := Value.type "tuple", data := Data.seq #[] }) ::
  (nat_lit 249, { cls := Value.type "code", data := Data.fields #[Value.str (Str.ofString "getbuffer") 617, Value.str (Str.ofString "BytesIO.getbuffer") 618, Value.str (Str.ofString "/claim/cut.py") 619, Value.int 109 0, Value.int 1 0, Value.int 0 0, Value.int 0 0, Value.int 3 0, Value.ref 244, Value.bool true, Value.int 318 0, Value.ref 245, Value.none, Value.ref 246, Value.ref 247, Value.ref 248, Value.int 621 0, Value.int 109 0, Value.str (Str.ofString "/claim/cut.py") 622] }) ::
  (nat_lit 250, { cls := Value.type "function", data := Data.func { name := Str.ofString "getbuffer", qualname := Str.ofString "BytesIO.getbuffer", params := p250, body := FuncBody.stmts b250, scope := s250, globals := 3, closure := [], defaults := Value.none, kwdefaults := Value.none, pyModule := Value.str (Str.ofString "io") 383, code := Value.ref 249 } }) ::
  (nat_lit 251, { cls := Value.type "tuple", data := Data.seq #[] }) ::
  (nat_lit 253, { cls := Value.type "tuple", data := Data.seq #[Value.str (Str.ofString "self") 627] }) ::
  (nat_lit 254, { cls := Value.type "tuple", data := Data.seq #[] }) ::
  (nat_lit 256, { cls := Value.type "code", data := Data.fields #[Value.str (Str.ofString "tell") 624, Value.str (Str.ofString "BytesIO.tell") 625, Value.str (Str.ofString "/claim/cut.py") 626, Value.int 112 0, Value.int 1 0, Value.int 0 0, Value.int 0 0, Value.int 3 0, Value.ref 251, Value.bool true, Value.int 318 0, Value.ref 252, Value.none, Value.ref 253, Value.ref 254, Value.ref 255, Value.int 628 0, Value.int 112 0, Value.str (Str.ofString "/claim/cut.py") 629] }) ::
  (nat_lit 257, { cls := Value.type "function", data := Data.func { name := Str.ofString "tell", qualname := Str.ofString "BytesIO.tell", params := p257, body := FuncBody.stmts b257, scope := s257, globals := 3, closure := [], defaults := Value.none, kwdefaults := Value.none, pyModule := Value.str (Str.ofString "io") 383, code := Value.ref 256 } }) ::
  (nat_lit 258, { cls := Value.type "tuple", data := Data.seq #[Value.int 0 631] }) ::
  (nat_lit 259, { cls := Value.type "tuple", data := Data.seq #[] }) ::
  (nat_lit 261, { cls := Value.type "tuple", data := Data.seq #[Value.str (Str.ofString "self") 635, Value.str (Str.ofString "pos") 636, Value.str (Str.ofString "whence") 637] }) ::
  (nat_lit 262, { cls := Value.type "tuple", data := Data.seq #[] }) ::
  (nat_lit 264, { cls := Value.type "code", data := Data.fields #[Value.str (Str.ofString "seek") 632, Value.str (Str.ofString "BytesIO.seek") 633, Value.str (Str.ofString "/claim/cut.py") 634, Value.int 116 0, Value.int 3 0, Value.int 3 0, Value.int 0 0, Value.int 3 0, Value.ref 259, Value.bool true, Value.int 318 0, Value.ref 260, Value.none, Value.ref 261, Value.ref 262, Value.ref 263, Value.int 638 0, Value.int 116 0, Value.str (Str.ofString "/claim/cut.py") 639] }) ::
  (nat_lit 265, { cls := Value.type "function", data := Data.func { name := Str.ofString "seek", qualname := Str.ofString "BytesIO.seek", params := p265, body := FuncBody.stmts b265, scope := s265, globals := 3, closure := [], defaults := Value.ref 258, kwdefaults := Value.none, pyModule := Value.str (Str.ofString "io") 383, code := Value.ref 264 } }) ::
  (nat_lit 266, { cls := Value.type "tuple", data := Data.seq #[Value.none] }) ::
  (nat_lit 267, { cls := Value.type "tuple", data := Data.seq #[] }) ::
  (nat_lit 269, { cls := Value.type "tuple", data := Data.seq #[Value.str (Str.ofString "self") 644, Value.str (Str.ofString "size") 645] }) ::
  (nat_lit 270, { cls := Value.type "tuple", data := Data.seq #[] }) ::
  (nat_lit 272, { cls := Value.type "code", data := Data.fields #[Value.str (Str.ofString "truncate") 641, Value.str (Str.ofString "BytesIO.truncate") 642, Value.str (Str.ofString "/claim/cut.py") 643, Value.int 133 0, Value.int 2 0, Value.int 2 0, Value.int 0 0, Value.int 3 0, Value.ref 267, Value.bool true, Value.int 318 0, Value.ref 268, Value.none, Value.ref 269, Value.ref 270, Value.ref 271, Value.int 646 0, Value.int 133 0, Value.str (Str.ofString "/claim/cut.py") 647] }) ::
  (nat_lit 273, { cls := Value.type "function", data := Data.func { name := Str.ofString "truncate", qualname := Str.ofString "BytesIO.truncate", params := p273, body := FuncBody.stmts b273, scope := s273, globals := 3, closure := [], defaults := Value.ref 266, kwdefaults := Value.none, pyModule := Value.str (Str.ofString "io") 383, code := Value.ref 272 } }) ::
  (nat_lit 274, { cls := Value.type "tuple", data := Data.seq #[Value.int (-1) 650] }) ::
  (nat_lit 275, { cls := Value.type "tuple", data := Data.seq #[] }) ::
  (nat_lit 277, { cls := Value.type "tuple", data := Data.seq #[Value.str (Str.ofString "self") 654, Value.str (Str.ofString "size") 655, Value.str (Str.ofString "start") 656, Value.str (Str.ofString "stop") 657] }) ::
  (nat_lit 278, { cls := Value.type "tuple", data := Data.seq #[] }) ::
  (nat_lit 280, { cls := Value.type "code", data := Data.fields #[Value.str (Str.ofString "read") 651, Value.str (Str.ofString "BytesIO.read") 652, Value.str (Str.ofString "/claim/cut.py") 653, Value.int 136 0, Value.int 2 0, Value.int 2 0, Value.int 0 0, Value.int 3 0, Value.ref 275, Value.bool true, Value.int 318 0, Value.ref 276, Value.none, Value.ref 277, Value.ref 278, Value.ref 279, Value.int 658 0, Value.int 136 0, Value.str (Str.ofString "/claim/cut.py") 659] }) ::
  (nat_lit 281, { cls := Value.type "function", data := Data.func { name := Str.ofString "read", qualname := Str.ofString "BytesIO.read", params := p281, body := FuncBody.stmts b281, scope := s281, globals := 3, closure := [], defaults := Value.ref 274, kwdefaults := Value.none, pyModule := Value.str (Str.ofString "io") 383, code := Value.ref 280 } }) ::
  (nat_lit 282, { cls := Value.type "tuple", data := Data.seq #[Value.int (-1) 662] }) ::
  (nat_lit 283, { cls := Value.type "tuple", data := Data.seq #[] }) ::
  (nat_lit 285, { cls := Value.type "tuple", data := Data.seq #[Value.str (Str.ofString "self") 666, Value.str (Str.ofString "size") 667] }) ::
  (nat_lit 286, { cls := Value.type "tuple", data := Data.seq #[] }) ::
  (nat_lit 288, { cls := Value.type "code", data := Data.fields #[Value.str (Str.ofString "read1") 663, Value.str (Str.ofString "BytesIO.read1") 664, Value.str (Str.ofString "/claim/cut.py") 665, Value.int 150 0, Value.int 2 0, Value.int 2 0, Value.int 0 0, Value.int 3 0, Value.ref 283, Value.bool true, Value.int 318 0, Value.ref 284, Value.none, Value.ref 285, Value.ref 286, Value.ref 287, Value.int 668 0, Value.int 150 0, Value.str (Str.ofString "/claim/cut.py") 669] }) ::
  (nat_lit 289, { cls := Value.type "function", data := Data.func { name := Str.ofString "read1", qualname := Str.ofString "BytesIO.read1", params := p289, body := FuncBody.stmts b289, scope := s289, globals := 3, closure := [], defaults := Value.ref 282, kwdefaults := Value.none, pyModule := Value.str (Str.ofString "io") 383, code := Value.ref 288 } }) ::
  (nat_lit 290, { cls := Value.type "tuple", data := Data.seq #[] }) ::
  (nat_lit 292, { cls := Value.type "tuple", data := Data.seq #[Value.str (Str.ofString "self") 674, Value.str (Str.ofString "buffer") 675, Value.str (Str.ofString "start") 676, Value.str (Str.ofString "n") 677] }) ::
  (nat_lit 293, { cls := Value.type "tuple", data := Data.seq #[] }) ::
  (nat_lit 295, { cls := Value.type "code", data := Data.fields #[Value.str (Str.ofString "readinto") 671, Value.str (Str.ofString "BytesIO.readinto") 672, Value.str (Str.ofString "/claim/cut.py") 673, Value.int 153 0, Value.int 2 0, Value.int 2 0, Value.int 0 0, Value.int 3 0, Value.ref 290, Value.bool true, Value.int 318 0, Value.ref 291, Value.none, Value.ref 292, Value.ref 293, Value.ref 294, Value.int 678 0, Value.int 153 0, Value.str (Str.ofString "/claim/cut.py") 679] }) ::
  (nat_lit 296, { cls := Value.type "function", data := Data.func { name := Str.ofString "readinto", qualname := Str.ofString "BytesIO.readinto", params := p296, body := FuncBody.stmts b296, scope := s296, globals := 3, closure := [], defaults := Value.none, kwdefaults := Value.none, pyModule := Value.str (Str.ofString "io") 383, code := Value.ref 295 } }) ::
  (nat_lit 297, { cls := Value.type "tuple", data := Data.seq #[] }) ::
  (nat_lit 299, { cls := Value.type "tuple", data := Data.seq #[Value.str (Str.ofString "self") 684, Value.str (Str.ofString "buffer") 685] }) ::
  (nat_lit 300, { cls := Value.type "tuple", data := Data.seq #[] }) ::
  (nat_lit 302, { cls := Value.type "code", data := Data.fields #[Value.str (Str.ofString "readinto1") 681, Value.str (Str.ofString "BytesIO.readinto1") 682, Value.str (Str.ofString "/claim/cut.py") 683, Value.int 167 0, Value.int 2 0, Value.int 2 0, Value.int 0 0, Value.int 3 0, Value.ref 297, Value.bool true, Value.int 318 0, Value.ref 298, Value.none, Value.ref 299, Value.ref 300, Value.ref 301, Value.int 686 0, Value.int 167 0, Value.str (Str.ofString "/claim/cut.py") 687] }) ::
  (nat_lit 303, { cls := Value.type "function", data := Data.func { name := Str.ofString "readinto1", qualname := Str.ofString "BytesIO.readinto1", params := p303, body := FuncBody.stmts b303, scope := s303, globals := 3, closure := [], defaults := Value.none, kwdefaults := Value.none, pyModule := Value.str (Str.ofString "io") 383, code := Value.ref 302 } }) ::
  (nat_lit 304, { cls := Value.type "tuple", data := Data.seq #[Value.int (-1) 690] }) ::
  (nat_lit 305, { cls := Value.type "tuple", data := Data.seq #[] }) ::
  (nat_lit 307, { cls := Value.type "tuple", data := Data.seq #[Value.str (Str.ofString "self") 694, Value.str (Str.ofString "size") 695] }) ::
  (nat_lit 308, { cls := Value.type "tuple", data := Data.seq #[] }) ::
  (nat_lit 310, { cls := Value.type "code", data := Data.fields #[Value.str (Str.ofString "readline") 691, Value.str (Str.ofString "BytesIO.readline") 692, Value.str (Str.ofString "/claim/cut.py") 693, Value.int 170 0, Value.int 2 0, Value.int 2 0, Value.int 0 0, Value.int 3 0, Value.ref 305, Value.bool true, Value.int 318 0, Value.ref 306, Value.none, Value.ref 307, Value.ref 308, Value.ref 309, Value.int 696 0, Value.int 170 0, Value.str (Str.ofString "/claim/cut.py") 697] }) ::
  (nat_lit 311, { cls := Value.type "function", data := Data.func { name := Str.ofString "readline", qualname := Str.ofString "BytesIO.readline", params := p311, body := FuncBody.stmts b311, scope := s311, globals := 3, closure := [], defaults := Value.ref 304, kwdefaults := Value.none, pyModule := Value.str (Str.ofString "io") 383, code := Value.ref 310 } }) ::
  (nat_lit 312, { cls := Value.type "tuple", data := Data.seq #[Value.none] }) ::
  (nat_lit 313, { cls := Value.type "tuple", data := Data.seq #[] }) ::
  (nat_lit 315, { cls := Value.type "tuple", data := Data.seq #[Value.str (Str.ofString "self") 702, Value.str (Str.ofString "size") 703] }) ::
  (nat_lit 316, { cls := Value.type "tuple", data := Data.seq #[] }) ::
  (nat_lit 318, { cls := Value.type "code", data := Data.fields #[Value.str (Str.ofString "readlines") 699, Value.str (Str.ofString "BytesIO.readlines") 700, Value.str (Str.ofString "/claim/cut.py") 701, Value.int 177 0, Value.int 2 0, Value.int 2 0, Value.int 0 0, Value.int 3 0, Value.ref 313, Value.bool true, Value.int 318 0, Value.ref 314, Value.none, Value.ref 315, Value.ref 316, Value.ref 317, Value.int 704 0, Value.int 177 0, Value.str (Str.ofString "/claim/cut.py") 705] }) ::
  (nat_lit 319, { cls := Value.type "function", data := Data.func { name := Str.ofString "readlines", qualname := Str.ofString "BytesIO.readlines", params := p319, body := FuncBody.stmts b319, scope := s319, globals := 3, closure := [], defaults := Value.ref 312, kwdefaults := Value.none, pyModule := Value.str (Str.ofString "io") 383, code := Value.ref 318 } }) ::
  (nat_lit 320, { cls := Value.type "tuple", data := Data.seq #[] }) ::
  (nat_lit 322, { cls := Value.type "tuple", data := Data.seq #[Value.str (Str.ofString "self") 710] }) ::
  (nat_lit 323, { cls := Value.type "tuple", data := Data.seq #[] }) ::
  (nat_lit 325, { cls := Value.type "code", data := Data.fields #[Value.str (Str.ofString "__iter__") 707, Value.str (Str.ofString "BytesIO.__iter__") 708, Value.str (Str.ofString "/claim/cut.py") 709, Value.int 180 0, Value.int 1 0, Value.int 0 0, Value.int 0 0, Value.int 3 0, Value.ref 320, Value.bool true, Value.int 318 0, Value.ref 321, Value.none, Value.ref 322, Value.ref 323, Value.ref 324, Value.int 711 0, Value.int 180 0, Value.str (Str.ofString "/claim/cut.py") 712] }) ::
  (nat_lit 326, { cls := Value.type "function", data := Data.func { name := Str.ofString "__iter__", qualname := Str.ofString "BytesIO.__iter__", params := p326, body := FuncBody.stmts b326, scope := s326, globals := 3, closure := [], defaults := Value.none, kwdefaults := Value.none, pyModule := Value.str (Str.ofString "io") 383, code := Value.ref 325 } }) ::
  (nat_lit 327, { cls := Value.type "tuple", data := Data.seq #[] }) ::
  (nat_lit 329, { cls := Value.type "tuple", data := Data.seq #[Value.str (Str.ofString "self") 717, Value.str (Str.ofString "line") 718] }) ::
  (nat_lit 330, { cls := Value.type "tuple", data := Data.seq #[] }) ::
  (nat_lit 332, { cls := Value.type "code", data := Data.fields #[Value.str (Str.ofString "__next__") 714, Value.str (Str.ofString "BytesIO.__next__") 715, Value.str (Str.ofString "/claim/cut.py") 716, Value.int 183 0, Value.int 1 0, Value.int 0 0, Value.int 0 0, Value.int 3 0, Value.ref 327, Value.bool true, Value.int 318 0, Value.ref 328, Value.none, Value.ref 329, Value.ref 330, Value.ref 331, Value.int 719 0, Value.int 183 0, Value.str (Str.ofString "/claim/cut.py") 720] }) ::
  (nat_lit 333, { cls := Value.type "function", data := Data.func { name := Str.ofString "__next__", qualname := Str.ofString "BytesIO.__next__", params := p333, body := FuncBody.stmts b333, scope := s333, globals := 3, closure := [], defaults := Value.none, kwdefaults := Value.none, pyModule := Value.str (Str.ofString "io") 383, code := Value.ref 332 } }) ::
  (nat_lit 334, { cls := Value.type "tuple", data := Data.seq #[] }) ::
  (nat_lit 336, { cls := Value.type "tuple", data := Data.seq #[Value.str (Str.ofString "self") 725, Value.str (Str.ofString "b") 726, Value.str (Str.ofString "n") 727, Value.str (Str.ofString "start") 728] }) ::
  (nat_lit 337, { cls := Value.type "tuple", data := Data.seq #[] }) ::
  (nat_lit 339, { cls := Value.type "code", data := Data.fields #[Value.str (Str.ofString "write") 722, Value.str (Str.ofString "BytesIO.write") 723, Value.str (Str.ofString "/claim/cut.py") 724, Value.int 190 0, Value.int 2 0, Value.int 2 0, Value.int 0 0, Value.int 3 0, Value.ref 334, Value.bool true, Value.int 318 0, Value.ref 335, Value.none, Value.ref 336, Value.ref 337, Value.ref 338, Value.int 729 0, Value.int 190 0, Value.str (Str.ofString "/claim/cut.py") 730] }) ::
  (nat_lit 340, { cls := Value.type "function", data := Data.func { name := Str.ofString "write", qualname := Str.ofString "BytesIO.write", params := p340, body := FuncBody.stmts b340, scope := s340, globals := 3, closure := [], defaults := Value.none, kwdefaults := Value.none, pyModule := Value.str (Str.ofString "io") 383, code := Value.ref 339 } }) ::
  (nat_lit 341, { cls := Value.type "tuple", data := Data.seq #[] }) ::
  (nat_lit 343, { cls := Value.type "tuple", data := Data.seq #[Value.str (Str.ofString "self") 735, Value.str (Str.ofString "lines") 736] }) ::
  (nat_lit 344, { cls := Value.type "tuple", data := Data.seq #[] }) ::
  (nat_lit 346, { cls := Value.type "code", data := Data.fields #[Value.str (Str.ofString "writelines") 732, Value.str (Str.ofString "BytesIO.writelines") 733, Value.str (Str.ofString "/claim/cut.py") 734, Value.int 206 0, Value.int 2 0, Value.int 2 0, Value.int 0 0, Value.int 3 0, Value.ref 341, Value.bool true, Value.int 318 0, Value.ref 342, Value.none, Value.ref 343, Value.ref 344, Value.ref 345, Value.int 737 0, Value.int 206 0, Value.str (Str.ofString "/claim/cut.py") 738] }) ::
  (nat_lit 347, { cls := Value.type "function", data := Data.func { name := Str.ofString "writelines", qualname := Str.ofString "BytesIO.writelines", params := p347, body := FuncBody.stmts b347, scope := s347, globals := 3, closure := [], defaults := Value.none, kwdefaults := Value.none, pyModule := Value.str (Str.ofString "io") 383, code := Value.ref 346 } }) ::
  (nat_lit 348, { cls := Value.type "tuple", data := Data.seq #[] }) ::
  (nat_lit 350, { cls := Value.type "tuple", data := Data.seq #[Value.str (Str.ofString "self") 743] }) ::
  (nat_lit 351, { cls := Value.type "tuple", data := Data.seq #[] }) ::
  (nat_lit 353, { cls := Value.type "code", data := Data.fields #[Value.str (Str.ofString "__repr__") 740, Value.str (Str.ofString "BytesIO.__repr__") 741, Value.str (Str.ofString "/claim/cut.py") 742, Value.int 209 0, Value.int 1 0, Value.int 0 0, Value.int 0 0, Value.int 3 0, Value.ref 348, Value.bool true, Value.int 318 0, Value.ref 349, Value.none, Value.ref 350, Value.ref 351, Value.ref 352, Value.int 744 0, Value.int 209 0, Value.str (Str.ofString "/claim/cut.py") 745] }) ::
  (nat_lit 354, { cls := Value.type "function", data := Data.func { name := Str.ofString "__repr__", qualname := Str.ofString "BytesIO.__repr__", params := p354, body := FuncBody.stmts b354, scope := s354, globals := 3, closure := [], defaults := Value.none, kwdefaults := Value.none, pyModule := Value.str (Str.ofString "io") 383, code := Value.ref 353 } }) ::
  (nat_lit 355, { cls := Value.type "tuple", data := Data.seq #[Value.str (Str.ofString "__buf") 747, Value.str (Str.ofString "__pos") 748] }) ::
  (nat_lit 356, { cls := Value.type "dict", data := Data.dict #[{ hash := PyData.keyHash P (Str.ofString "__module__"), key := Value.str (Str.ofString "__module__") 498, val := Value.str (Str.ofString "_io") 503 }, { hash := PyData.keyHash P (Str.ofString "__firstlineno__"), key := Value.str (Str.ofString "__firstlineno__") 502, val := Value.int 41 501 }, { hash := PyData.keyHash P (Str.ofString "__init__"), key := Value.str (Str.ofString "__init__") 512, val := Value.ref 144 }, { hash := PyData.keyHash P (Str.ofString "_BytesIO__check"), key := Value.str (Str.ofString "_BytesIO__check") 519, val := Value.ref 151 }, { hash := PyData.keyHash P (Str.ofString "_BytesIO__line"), key := Value.str (Str.ofString "_BytesIO__line") 530, val := Value.ref 158 }, { hash := PyData.keyHash P (Str.ofString "closed"), key := Value.str (Str.ofString "closed") 538, val := Value.ref 166 }, { hash := PyData.keyHash P (Str.ofString "close"), key := Value.str (Str.ofString "close") 545, val := Value.ref 173 }, { hash := PyData.keyHash P (Str.ofString "__enter__"), key := Value.str (Str.ofString "__enter__") 552, val := Value.ref 180 }, { hash := PyData.keyHash P (Str.ofString "__exit__"), key := Value.str (Str.ofString "__exit__") 560, val := Value.ref 187 }, { hash := PyData.keyHash P (Str.ofString "readable"), key := Value.str (Str.ofString "readable") 567, val := Value.ref 194 }, { hash := PyData.keyHash P (Str.ofString "writable"), key := Value.str (Str.ofString "writable") 574, val := Value.ref 201 }, { hash := PyData.keyHash P (Str.ofString "seekable"), key := Value.str (Str.ofString "seekable") 581, val := Value.ref 208 }, { hash := PyData.keyHash P (Str.ofString "isatty"), key := Value.str (Str.ofString "isatty") 588, val := Value.ref 215 }, { hash := PyData.keyHash P (Str.ofString "flush"), key := Value.str (Str.ofString "flush") 595, val := Value.ref 222 }, { hash := PyData.keyHash P (Str.ofString "fileno"), key := Value.str (Str.ofString "fileno") 602, val := Value.ref 229 }, { hash := PyData.keyHash P (Str.ofString "detach"), key := Value.str (Str.ofString "detach") 609, val := Value.ref 236 }, { hash := PyData.keyHash P (Str.ofString "getvalue"), key := Value.str (Str.ofString "getvalue") 616, val := Value.ref 243 }, { hash := PyData.keyHash P (Str.ofString "getbuffer"), key := Value.str (Str.ofString "getbuffer") 623, val := Value.ref 250 }, { hash := PyData.keyHash P (Str.ofString "tell"), key := Value.str (Str.ofString "tell") 630, val := Value.ref 257 }, { hash := PyData.keyHash P (Str.ofString "seek"), key := Value.str (Str.ofString "seek") 640, val := Value.ref 265 }, { hash := PyData.keyHash P (Str.ofString "truncate"), key := Value.str (Str.ofString "truncate") 648, val := Value.ref 273 }, { hash := PyData.keyHash P (Str.ofString "read"), key := Value.str (Str.ofString "read") 660, val := Value.ref 281 }, { hash := PyData.keyHash P (Str.ofString "read1"), key := Value.str (Str.ofString "read1") 670, val := Value.ref 289 }, { hash := PyData.keyHash P (Str.ofString "readinto"), key := Value.str (Str.ofString "readinto") 680, val := Value.ref 296 }, { hash := PyData.keyHash P (Str.ofString "readinto1"), key := Value.str (Str.ofString "readinto1") 688, val := Value.ref 303 }, { hash := PyData.keyHash P (Str.ofString "readline"), key := Value.str (Str.ofString "readline") 698, val := Value.ref 311 }, { hash := PyData.keyHash P (Str.ofString "readlines"), key := Value.str (Str.ofString "readlines") 706, val := Value.ref 319 }, { hash := PyData.keyHash P (Str.ofString "__iter__"), key := Value.str (Str.ofString "__iter__") 713, val := Value.ref 326 }, { hash := PyData.keyHash P (Str.ofString "__next__"), key := Value.str (Str.ofString "__next__") 721, val := Value.ref 333 }, { hash := PyData.keyHash P (Str.ofString "write"), key := Value.str (Str.ofString "write") 731, val := Value.ref 340 }, { hash := PyData.keyHash P (Str.ofString "writelines"), key := Value.str (Str.ofString "writelines") 739, val := Value.ref 347 }, { hash := PyData.keyHash P (Str.ofString "__repr__"), key := Value.str (Str.ofString "__repr__") 746, val := Value.ref 354 }, { hash := PyData.keyHash P (Str.ofString "__static_attributes__"), key := Value.str (Str.ofString "__static_attributes__") 749, val := Value.ref 355 }, { hash := PyData.keyHash P (Str.ofString "__doc__"), key := Value.str (Str.ofString "__doc__") 750, val := Value.none }] 2 }) ::
  (nat_lit 357, { cls := Value.type "type", data := Data.cls { name := Str.ofString "BytesIO", bases := [Value.ref 115], mro := [Value.ref 357, Value.ref 115, Value.ref 100, Value.type "object"], ns := 356, qualname := Str.ofString "BytesIO" }, slots := #[some (Value.ref 130), none, some (Value.str (Str.ofString "BytesIO") 491), some (Value.str (Str.ofString "BytesIO") 499), some Value.none, some (Value.bool true)] }) ::
  (nat_lit 360, { cls := Value.type "tuple", data := Data.seq #[Value.ref 127] }) ::
  (nat_lit 367, { cls := Value.type "tuple", data := Data.seq #[Value.str (Str.ofString "") 767, Value.str (Str.ofString "\n") 768] }) ::
  (nat_lit 368, { cls := Value.type "tuple", data := Data.seq #[] }) ::
  (nat_lit 370, { cls := Value.type "tuple", data := Data.seq #[Value.str (Str.ofString "self") 772, Value.str (Str.ofString "initial_value") 773, Value.str (Str.ofString "newline") 774] }) ::
  (nat_lit 371, { cls := Value.type "tuple", data := Data.seq #[] }) ::
  (nat_lit 373, { cls := Value.type "code", data := Data.fields #[Value.str (Str.ofString "__init__") 769, Value.str (Str.ofString "StringIO.__init__") 770, Value.str (Str.ofString "/claim/cut.py") 771, Value.int 214 0, Value.int 3 0, Value.int 0 0, Value.int 0 0, Value.int 3 0, Value.ref 368, Value.bool true, Value.int 318 0, Value.ref 369, Value.none, Value.ref 370, Value.ref 371, Value.ref 372, Value.int 775 0, Value.int 214 0, Value.str (Str.ofString "/claim/cut.py") 776] }) ::
  (nat_lit 374, { cls := Value.type "function", data := Data.func { name := Str.ofString "__init__", qualname := Str.ofString "StringIO.__init__", params := p374, body := FuncBody.stmts b374, scope := s374, globals := 3, closure := [], defaults := Value.ref 367, kwdefaults := Value.none, pyModule := Value.str (Str.ofString "io") 383, code := Value.ref 373 } }) ::
  (nat_lit 375, { cls := Value.type "tuple", data := Data.seq #[] }) ::
  (nat_lit 377, { cls := Value.type "tuple", data := Data.seq #[Value.str (Str.ofString "self") 781, Value.str (Str.ofString "s") 782, Value.str (Str.ofString "newline") 783] }) ::
  (nat_lit 378, { cls := Value.type "tuple", data := Data.seq #[] }) ::
  (nat_lit 380, { cls := Value.type "code", data := Data.fields #[Value.str (Str.ofString "__translated") 778, Value.str (Str.ofString "StringIO.__translated") 779, Value.str (Str.ofString "/claim/cut.py") 780, Value.int 227 0, Value.int 2 0, Value.int 0 0, Value.int 0 0, Value.int 3 0, Value.ref 375, Value.bool true, Value.int 318 0, Value.ref 376, Value.none, Value.ref 377, Value.ref 378, Value.ref 379, Value.int 784 0, Value.int 227 0, Value.str (Str.ofString "/claim/cut.py") 785] }) ::
  (nat_lit 381, { cls := Value.type "function", data := Data.func { name := Str.ofString "__translated", qualname := Str.ofString "StringIO.__translated", params := p381, body := FuncBody.stmts b381, scope := s381, globals := 3, closure := [], defaults := Value.none, kwdefaults := Value.none, pyModule := Value.str (Str.ofString "io") 383, code := Value.ref 380 } }) ::
  (nat_lit 382, { cls := Value.type "tuple", data := Data.seq #[] }) ::
  (nat_lit 384, { cls := Value.type "tuple", data := Data.seq #[Value.str (Str.ofString "self") 790] }) ::
  (nat_lit 385, { cls := Value.type "tuple", data := Data.seq #[] }) ::
  (nat_lit 387, { cls := Value.type "code", data := Data.fields #[Value.str (Str.ofString "__check") 787, Value.str (Str.ofString "StringIO.__check") 788, Value.str (Str.ofString "/claim/cut.py") 789, Value.int 235 0, Value.int 1 0, Value.int 0 0, Value.int 0 0, Value.int 3 0, Value.ref 382, Value.bool true, Value.int 318 0, Value.ref 383, Value.none, Value.ref 384, Value.ref 385, Value.ref 386, Value.int 791 0, Value.int 235 0, Value.str (Str.ofString "/claim/cut.py") 792] }) ::
  (nat_lit 388, { cls := Value.type "function", data := Data.func { name := Str.ofString "__check", qualname := Str.ofString "StringIO.__check", params := p388, body := FuncBody.stmts b388, scope := s388, globals := 3, closure := [], defaults := Value.none, kwdefaults := Value.none, pyModule := Value.str (Str.ofString "io") 383, code := Value.ref 387 } }) ::
  (nat_lit 389, { cls := Value.type "tuple", data := Data.seq #[] }) ::
  (nat_lit 391, { cls := Value.type "tuple", data := Data.seq #[Value.str (Str.ofString "self") 797] }) ::
  (nat_lit 392, { cls := Value.type "tuple", data := Data.seq #[] }) ::
  (nat_lit 394, { cls := Value.type "code", data := Data.fields #[Value.str (Str.ofString "__check_dot") 794, Value.str (Str.ofString "StringIO.__check_dot") 795, Value.str (Str.ofString "/claim/cut.py") 796, Value.int 239 0, Value.int 1 0, Value.int 0 0, Value.int 0 0, Value.int 3 0, Value.ref 389, Value.bool true, Value.int 318 0, Value.ref 390, Value.none, Value.ref 391, Value.ref 392, Value.ref 393, Value.int 798 0, Value.int 239 0, Value.str (Str.ofString "/claim/cut.py") 799] }) ::
  (nat_lit 395, { cls := Value.type "function", data := Data.func { name := Str.ofString "__check_dot", qualname := Str.ofString "StringIO.__check_dot", params := p395, body := FuncBody.stmts b395, scope := s395, globals := 3, closure := [], defaults := Value.none, kwdefaults := Value.none, pyModule := Value.str (Str.ofString "io") 383, code := Value.ref 394 } }) ::
  (nat_lit 396, { cls := Value.type "tuple", data := Data.seq #[] }) ::
  (nat_lit 398, { cls := Value.type "tuple", data := Data.seq #[Value.str (Str.ofString "self") 804, Value.str (Str.ofString "limit") 805, Value.str (Str.ofString "start") 806, Value.str (Str.ofString "stop") 807, Value.str (Str.ofString "cut") 808, Value.str (Str.ofString "newline") 809, Value.str (Str.ofString "i") 810, Value.str (Str.ofString "j") 811, Value.str (Str.ofString "end") 812] }) ::
  (nat_lit 399, { cls := Value.type "tuple", data := Data.seq #[] }) ::
  (nat_lit 401, { cls := Value.type "code", data := Data.fields #[Value.str (Str.ofString "__line") 801, Value.str (Str.ofString "StringIO.__line") 802, Value.str (Str.ofString "/claim/cut.py") 803, Value.int 243 0, Value.int 2 0, Value.int 0 0, Value.int 0 0, Value.int 3 0, Value.ref 396, Value.bool true, Value.int 318 0, Value.ref 397, Value.none, Value.ref 398, Value.ref 399, Value.ref 400, Value.int 813 0, Value.int 243 0, Value.str (Str.ofString "/claim/cut.py") 814] }) ::
  (nat_lit 402, { cls := Value.type "function", data := Data.func { name := Str.ofString "__line", qualname := Str.ofString "StringIO.__line", params := p402, body := FuncBody.stmts b402, scope := s402, globals := 3, closure := [], defaults := Value.none, kwdefaults := Value.none, pyModule := Value.str (Str.ofString "io") 383, code := Value.ref 401 } }) ::
  (nat_lit 403, { cls := Value.type "tuple", data := Data.seq #[] }) ::
  (nat_lit 405, { cls := Value.type "tuple", data := Data.seq #[Value.str (Str.ofString "self") 819] }) ::
  (nat_lit 406, { cls := Value.type "tuple", data := Data.seq #[] }) ::
  (nat_lit 408, { cls := Value.type "code", data := Data.fields #[Value.str (Str.ofString "closed") 816, Value.str (Str.ofString "StringIO.closed") 817, Value.str (Str.ofString "/claim/cut.py") 818, Value.int 275 0, Value.int 1 0, Value.int 0 0, Value.int 0 0, Value.int 3 0, Value.ref 403, Value.bool true, Value.int 318 0, Value.ref 404, Value.none, Value.ref 405, Value.ref 406, Value.ref 407, Value.int 820 0, Value.int 275 0, Value.str (Str.ofString "/claim/cut.py") 821] }) ::
  (nat_lit 409, { cls := Value.type "function", data := Data.func { name := Str.ofString "closed", qualname := Str.ofString "StringIO.closed", params := p409, body := FuncBody.stmts b409, scope := s409, globals := 3, closure := [], defaults := Value.none, kwdefaults := Value.none, pyModule := Value.str (Str.ofString "io") 383, code := Value.ref 408 } }) ::
  (nat_lit 410, { cls := Value.type "property", data := Data.fields #[Value.ref 409, Value.none, Value.none, Value.none, Value.str (Str.ofString "closed") 823, Value.bool false] }) ::
  (nat_lit 411, { cls := Value.type "tuple", data := Data.seq #[] }) ::
  (nat_lit 413, { cls := Value.type "tuple", data := Data.seq #[Value.str (Str.ofString "self") 827] }) ::
  (nat_lit 414, { cls := Value.type "tuple", data := Data.seq #[] }) ::
  (nat_lit 416, { cls := Value.type "code", data := Data.fields #[Value.str (Str.ofString "line_buffering") 824, Value.str (Str.ofString "StringIO.line_buffering") 825, Value.str (Str.ofString "/claim/cut.py") 826, Value.int 279 0, Value.int 1 0, Value.int 0 0, Value.int 0 0, Value.int 3 0, Value.ref 411, Value.bool true, Value.int 318 0, Value.ref 412, Value.none, Value.ref 413, Value.ref 414, Value.ref 415, Value.int 828 0, Value.int 279 0, Value.str (Str.ofString "/claim/cut.py") 829] }) ::
  (nat_lit 417, { cls := Value.type "function", data := Data.func { name := Str.ofString "line_buffering", qualname := Str.ofString "StringIO.line_buffering", params := p417, body := FuncBody.stmts b417, scope := s417, globals := 3, closure := [], defaults := Value.none, kwdefaults := Value.none, pyModule := Value.str (Str.ofString "io") 383, code := Value.ref 416 } }) ::
  (nat_lit 418, { cls := Value.type "property", data := Data.fields #[Value.ref 417, Value.none, Value.none, Value.none, Value.str (Str.ofString "line_buffering") 831, Value.bool false] }) ::
  (nat_lit 419, { cls := Value.type "tuple", data := Data.seq #[] }) ::
  (nat_lit 421, { cls := Value.type "tuple", data := Data.seq #[Value.str (Str.ofString "self") 835] }) ::
  (nat_lit 422, { cls := Value.type "tuple", data := Data.seq #[] }) ::
  (nat_lit 424, { cls := Value.type "code", data := Data.fields #[Value.str (Str.ofString "newlines") 832, Value.str (Str.ofString "StringIO.newlines") 833, Value.str (Str.ofString "/claim/cut.py") 834, Value.int 283 0, Value.int 1 0, Value.int 0 0, Value.int 0 0, Value.int 3 0, Value.ref 419, Value.bool true, Value.int 318 0, Value.ref 420, Value.none, Value.ref 421, Value.ref 422, Value.ref 423, Value.int 836 0, Value.int 283 0, Value.str (Str.ofString "/claim/cut.py") 837] }) ::
  (nat_lit 425, { cls := Value.type "function", data := Data.func { name := Str.ofString "newlines", qualname := Str.ofString "StringIO.newlines", params := p425, body := FuncBody.stmts b425, scope := s425, globals := 3, closure := [], defaults := Value.none, kwdefaults := Value.none, pyModule := Value.str (Str.ofString "io") 383, code := Value.ref 424 } }) ::
  (nat_lit 426, { cls := Value.type "property", data := Data.fields #[Value.ref 425, Value.none, Value.none, Value.none, Value.str (Str.ofString "newlines") 839, Value.bool false] }) ::
  (nat_lit 427, { cls := Value.type "tuple", data := Data.seq #[] }) ::
  (nat_lit 429, { cls := Value.type "tuple", data := Data.seq #[Value.str (Str.ofString "self") 843] }) ::
  (nat_lit 430, { cls := Value.type "tuple", data := Data.seq #[] }) ::
  (nat_lit 432, { cls := Value.type "code", data := Data.fields #[Value.str (Str.ofString "encoding") 840, Value.str (Str.ofString "StringIO.encoding") 841, Value.str (Str.ofString "/claim/cut.py") 842, Value.int 287 0, Value.int 1 0, Value.int 0 0, Value.int 0 0, Value.int 3 0, Value.ref 427, Value.bool true, Value.int 318 0, Value.ref 428, Value.none, Value.ref 429, Value.ref 430, Value.ref 431, Value.int 844 0, Value.int 287 0, Value.str (Str.ofString "/claim/cut.py") 845] }) ::
  (nat_lit 433, { cls := Value.type "function", data := Data.func { name := Str.ofString "encoding", qualname := Str.ofString "StringIO.encoding", params := p433, body := FuncBody.stmts b433, scope := s433, globals := 3, closure := [], defaults := Value.none, kwdefaults := Value.none, pyModule := Value.str (Str.ofString "io") 383, code := Value.ref 432 } }) ::
  (nat_lit 434, { cls := Value.type "property", data := Data.fields #[Value.ref 433, Value.none, Value.none, Value.none, Value.str (Str.ofString "encoding") 847, Value.bool false] }) ::
  (nat_lit 435, { cls := Value.type "tuple", data := Data.seq #[] }) ::
  (nat_lit 437, { cls := Value.type "tuple", data := Data.seq #[Value.str (Str.ofString "self") 851] }) ::
  (nat_lit 438, { cls := Value.type "tuple", data := Data.seq #[] }) ::
  (nat_lit 440, { cls := Value.type "code", data := Data.fields #[Value.str (Str.ofString "errors") 848, Value.str (Str.ofString "StringIO.errors") 849, Value.str (Str.ofString "/claim/cut.py") 850, Value.int 291 0, Value.int 1 0, Value.int 0 0, Value.int 0 0, Value.int 3 0, Value.ref 435, Value.bool true, Value.int 318 0, Value.ref 436, Value.none, Value.ref 437, Value.ref 438, Value.ref 439, Value.int 852 0, Value.int 291 0, Value.str (Str.ofString "/claim/cut.py") 853] }) ::
  (nat_lit 441, { cls := Value.type "function", data := Data.func { name := Str.ofString "errors", qualname := Str.ofString "StringIO.errors", params := p441, body := FuncBody.stmts b441, scope := s441, globals := 3, closure := [], defaults := Value.none, kwdefaults := Value.none, pyModule := Value.str (Str.ofString "io") 383, code := Value.ref 440 } }) ::
  (nat_lit 442, { cls := Value.type "property", data := Data.fields #[Value.ref 441, Value.none, Value.none, Value.none, Value.str (Str.ofString "errors") 855, Value.bool false] }) ::
  (nat_lit 443, { cls := Value.type "tuple", data := Data.seq #[] }) ::
  (nat_lit 445, { cls := Value.type "tuple", data := Data.seq #[Value.str (Str.ofString "self") 859] }) ::
  (nat_lit 446, { cls := Value.type "tuple", data := Data.seq #[] }) ::
  (nat_lit 448, { cls := Value.type "code", data := Data.fields #[Value.str (Str.ofString "close") 856, Value.str (Str.ofString "StringIO.close") 857, Value.str (Str.ofString "/claim/cut.py") 858, Value.int 295 0, Value.int 1 0, Value.int 0 0, Value.int 0 0, Value.int 3 0, Value.ref 443, Value.bool true, Value.int 318 0, Value.ref 444, Value.none, Value.ref 445, Value.ref 446, Value.ref 447, Value.int 860 0, Value.int 295 0, Value.str (Str.ofString "/claim/cut.py") 861] }) ::
  (nat_lit 449, { cls := Value.type "function", data := Data.func { name := Str.ofString "close", qualname := Str.ofString "StringIO.close", params := p449, body := FuncBody.stmts b449, scope := s449, globals := 3, closure := [], defaults := Value.none, kwdefaults := Value.none, pyModule := Value.str (Str.ofString "io") 383, code := Value.ref 448 } }) ::
  (nat_lit 450, { cls := Value.type "tuple", data := Data.seq #[] }) ::
  (nat_lit 452, { cls := Value.type "tuple", data := Data.seq #[Value.str (Str.ofString "self") 866] }) ::
  (nat_lit 453, { cls := Value.type "tuple", data := Data.seq #[] }) ::
  (nat_lit 455, { cls := Value.type "code", data := Data.fields #[Value.str (Str.ofString "__enter__") 863, Value.str (Str.ofString "StringIO.__enter__") 864, Value.str (Str.ofString "/claim/cut.py") 865, Value.int 298 0, Value.int 1 0, Value.int 0 0, Value.int 0 0, Value.int 3 0, Value.ref 450, Value.bool true, Value.int 318 0, Value.ref 451, Value.none, Value.ref 452, Value.ref 453, Value.ref 454, Value.int 867 0, Value.int 298 0, Value.str (Str.ofString "/claim/cut.py") 868] }) ::
  (nat_lit 456, { cls := Value.type "function", data := Data.func { name := Str.ofString "__enter__", qualname := Str.ofString "StringIO.__enter__", params := p456, body := FuncBody.stmts b456, scope := s456, globals := 3, closure := [], defaults := Value.none, kwdefaults := Value.none, pyModule := Value.str (Str.ofString "io") 383, code := Value.ref 455 } }) ::
  (nat_lit 457, { cls := Value.type "tuple", data := Data.seq #[] }) ::
  (nat_lit 459, { cls := Value.type "tuple", data := Data.seq #[Value.str (Str.ofString "self") 873, Value.str (Str.ofString "args") 874] }) ::
  (nat_lit 460, { cls := Value.type "tuple", data := Data.seq #[] }) ::
  (nat_lit 462, { cls := Value.type "code", data := Data.fields #[Value.str (Str.ofString "__exit__") 870, Value.str (Str.ofString "StringIO.__exit__") 871, Value.str (Str.ofString "/claim/cut.py") 872, Value.int 302 0, Value.int 1 0, Value.int 0 0, Value.int 0 0, Value.int 7 0, Value.ref 457, Value.bool true, Value.int 318 0, Value.ref 458, Value.none, Value.ref 459, Value.ref 460, Value.ref 461, Value.int 875 0, Value.int 302 0, Value.str (Str.ofString "/claim/cut.py") 876] }) ::
  (nat_lit 463, { cls := Value.type "function", data := Data.func { name := Str.ofString "__exit__", qualname := Str.ofString "StringIO.__exit__", params := p463, body := FuncBody.stmts b463, scope := s463, globals := 3, closure := [], defaults := Value.none, kwdefaults := Value.none, pyModule := Value.str (Str.ofString "io") 383, code := Value.ref 462 } }) ::
  (nat_lit 464, { cls := Value.type "tuple", data := Data.seq #[] }) ::
  (nat_lit 466, { cls := Value.type "tuple", data := Data.seq #[Value.str (Str.ofString "self") 881] }) ::
  (nat_lit 467, { cls := Value.type "tuple", data := Data.seq #[] }) ::
  (nat_lit 469, { cls := Value.type "code", data := Data.fields #[Value.str (Str.ofString "readable") 878, Value.str (Str.ofString "StringIO.readable") 879, Value.str (Str.ofString "/claim/cut.py") 880, Value.int 305 0, Value.int 1 0, Value.int 0 0, Value.int 0 0, Value.int 3 0, Value.ref 464, Value.bool true, Value.int 318 0, Value.ref 465, Value.none, Value.ref 466, Value.ref 467, Value.ref 468, Value.int 882 0, Value.int 305 0, Value.str (Str.ofString "/claim/cut.py") 883] }) ::
  (nat_lit 470, { cls := Value.type "function", data := Data.func { name := Str.ofString "readable", qualname := Str.ofString "StringIO.readable", params := p470, body := FuncBody.stmts b470, scope := s470, globals := 3, closure := [], defaults := Value.none, kwdefaults := Value.none, pyModule := Value.str (Str.ofString "io") 383, code := Value.ref 469 } }) ::
  (nat_lit 471, { cls := Value.type "tuple", data := Data.seq #[] }) ::
  (nat_lit 473, { cls := Value.type "tuple", data := Data.seq #[Value.str (Str.ofString "self") 888] }) ::
  (nat_lit 474, { cls := Value.type "tuple", data := Data.seq #[] }) ::
  (nat_lit 476, { cls := Value.type "code", data := Data.fields #[Value.str (Str.ofString "writable") 885, Value.str (Str.ofString "StringIO.writable") 886, Value.str (Str.ofString "/claim/cut.py") 887, Value.int 309 0, Value.int 1 0, Value.int 0 0, Value.int 0 0, Value.int 3 0, Value.ref 471, Value.bool true, Value.int 318 0, Value.ref 472, Value.none, Value.ref 473, Value.ref 474, Value.ref 475, Value.int 889 0, Value.int 309 0, Value.str (Str.ofString "/claim/cut.py") 890] }) ::
  (nat_lit 477, { cls := Value.type "function", data := Data.func { name := Str.ofString "writable", qualname := Str.ofString "StringIO.writable", params := p477, body := FuncBody.stmts b477, scope := s477, globals := 3, closure := [], defaults := Value.none, kwdefaults := Value.none, pyModule := Value.str (Str.ofString "io") 383, code := Value.ref 476 } }) ::
  (nat_lit 478, { cls := Value.type "tuple", data := Data.seq #[] }) ::
  (nat_lit 480, { cls := Value.type "tuple", data := Data.seq #[Value.str (Str.ofString "self") 895] }) ::
  (nat_lit 481, { cls := Value.type "tuple", data := Data.seq #[] }) ::
  (nat_lit 483, { cls := Value.type "code", data := Data.fields #[Value.str (Str.ofString "seekable") 892, Value.str (Str.ofString "StringIO.seekable") 893, Value.str (Str.ofString "/claim/cut.py") 894, Value.int 313 0, Value.int 1 0, Value.int 0 0, Value.int 0 0, Value.int 3 0, Value.ref 478, Value.bool true, Value.int 318 0, Value.ref 479, Value.none, Value.ref 480, Value.ref 481, Value.ref 482, Value.int 896 0, Value.int 313 0, Value.str (Str.ofString "/claim/cut.py") 897] }) ::
  (nat_lit 484, { cls := Value.type "function", data := Data.func { name := Str.ofString "seekable", qualname := Str.ofString "StringIO.seekable", params := p484, body := FuncBody.stmts b484, scope := s484, globals := 3, closure := [], defaults := Value.none, kwdefaults := Value.none, pyModule := Value.str (Str.ofString "io") 383, code := Value.ref 483 } }) ::
  (nat_lit 485, { cls := Value.type "tuple", data := Data.seq #[] }) ::
  (nat_lit 487, { cls := Value.type "tuple", data := Data.seq #[Value.str (Str.ofString "self") 902] }) ::
  (nat_lit 488, { cls := Value.type "tuple", data := Data.seq #[] }) ::
  (nat_lit 490, { cls := Value.type "code", data := Data.fields #[Value.str (Str.ofString "isatty") 899, Value.str (Str.ofString "StringIO.isatty") 900, Value.str (Str.ofString "/claim/cut.py") 901, Value.int 317 0, Value.int 1 0, Value.int 0 0, Value.int 0 0, Value.int 3 0, Value.ref 485, Value.bool true, Value.int 318 0, Value.ref 486, Value.none, Value.ref 487, Value.ref 488, Value.ref 489, Value.int 903 0, Value.int 317 0, Value.str (Str.ofString "/claim/cut.py") 904] }) ::
  (nat_lit 491, { cls := Value.type "function", data := Data.func { name := Str.ofString "isatty", qualname := Str.ofString "StringIO.isatty", params := p491, body := FuncBody.stmts b491, scope := s491, globals := 3, closure := [], defaults := Value.none, kwdefaults := Value.none, pyModule := Value.str (Str.ofString "io") 383, code := Value.ref 490 } }) ::
  (nat_lit 492, { cls := Value.type "tuple", data := Data.seq #[] }) ::
  (nat_lit 494, { cls := Value.type "tuple", data := Data.seq #[Value.str (Str.ofString "self") 909] }) ::
  (nat_lit 495, { cls := Value.type "tuple", data := Data.seq #[] }) ::
  (nat_lit 497, { cls := Value.type "code", data := Data.fields #[Value.str (Str.ofString "flush") 906, Value.str (Str.ofString "StringIO.flush") 907, Value.str (Str.ofString "/claim/cut.py") 908, Value.int 321 0, Value.int 1 0, Value.int 0 0, Value.int 0 0, Value.int 3 0, Value.ref 492, Value.bool true, Value.int 318 0, Value.ref 493, Value.none, Value.ref 494, Value.ref 495, Value.ref 496, Value.int 910 0, Value.int 321 0, Value.str (Str.ofString "/claim/cut.py") 911] }) ::
  (nat_lit 498, { cls := Value.type "function", data := Data.func { name := Str.ofString "flush", qualname := Str.ofString "StringIO.flush", params := p498, body := FuncBody.stmts b498, scope := s498, globals := 3, closure := [], defaults := Value.none, kwdefaults := Value.none, pyModule := Value.str (Str.ofString "io") 383, code := Value.ref 497 } }) ::
  (nat_lit 499, { cls := Value.type "tuple", data := Data.seq #[] }) ::
  (nat_lit 501, { cls := Value.type "tuple", data := Data.seq #[Value.str (Str.ofString "self") 916] }) ::
  (nat_lit 502, { cls := Value.type "tuple", data := Data.seq #[] }) ::
  (nat_lit 504, { cls := Value.type "code", data := Data.fields #[Value.str (Str.ofString "fileno") 913, Value.str (Str.ofString "StringIO.fileno") 914, Value.str (Str.ofString "/claim/cut.py") 915, Value.int 324 0, Value.int 1 0, Value.int 0 0, Value.int 0 0, Value.int 3 0, Value.ref 499, Value.bool true, Value.int 318 0, Value.ref 500, Value.none, Value.ref 501, Value.ref 502, Value.ref 503, Value.int 917 0, Value.int 324 0, Value.str (Str.ofString "/claim/cut.py") 918] }) ::
  (nat_lit 505, { cls := Value.type "function", data := Data.func { name := Str.ofString "fileno", qualname := Str.ofString "StringIO.fileno", params := p505, body := FuncBody.stmts b505, scope := s505, globals := 3, closure := [], defaults := Value.none, kwdefaults := Value.none, pyModule := Value.str (Str.ofString "io") 383, code := Value.ref 504 } }) ::
  (nat_lit 506, { cls := Value.type "tuple", data := Data.seq #[] }) ::
  (nat_lit 508, { cls := Value.type "tuple", data := Data.seq #[Value.str (Str.ofString "self") 923] }) ::
  (nat_lit 509, { cls := Value.type "tuple", data := Data.seq #[] }) ::
  (nat_lit 511, { cls := Value.type "code", data := Data.fields #[Value.str (Str.ofString "detach") 920, Value.str (Str.ofString "StringIO.detach") 921, Value.str (Str.ofString "/claim/cut.py") 922, Value.int 327 0, Value.int 1 0, Value.int 0 0, Value.int 0 0, Value.int 3 0, Value.ref 506, Value.bool true, Value.int 318 0, Value.ref 507, Value.none, Value.ref 508, Value.ref 509, Value.ref 510, Value.int 924 0, Value.int 327 0, Value.str (Str.ofString "/claim/cut.py") 925] }) ::
  (nat_lit 512, { cls := Value.type "function", data := Data.func { name := Str.ofString "detach", qualname := Str.ofString "StringIO.detach", params := p512, body := FuncBody.stmts b512, scope := s512, globals := 3, closure := [], defaults := Value.none, kwdefaults := Value.none, pyModule := Value.str (Str.ofString "io") 383, code := Value.ref 511 } }) ::
  (nat_lit 513, { cls := Value.type "tuple", data := Data.seq #[] }) ::
  (nat_lit 515, { cls := Value.type "tuple", data := Data.seq #[Value.str (Str.ofString "self") 930] }) ::
  (nat_lit 516, { cls := Value.type "tuple", data := Data.seq #[] }) ::
  (nat_lit 518, { cls := Value.type "code", data := Data.fields #[Value.str (Str.ofString "getvalue") 927, Value.str (Str.ofString "StringIO.getvalue") 928, Value.str (Str.ofString "/claim/cut.py") 929, Value.int 330 0, Value.int 1 0, Value.int 0 0, Value.int 0 0, Value.int 3 0, Value.ref 513, Value.bool true, Value.int 318 0, Value.ref 514, Value.none, Value.ref 515, Value.ref 516, Value.ref 517, Value.int 931 0, Value.int 330 0, Value.str (Str.ofString "/claim/cut.py") 932] }) ::
  (nat_lit 519, { cls := Value.type "function", data := Data.func { name := Str.ofString "getvalue", qualname := Str.ofString "StringIO.getvalue", params := p519, body := FuncBody.stmts b519, scope := s519, globals := 3, closure := [], defaults := Value.none, kwdefaults := Value.none, pyModule := Value.str (Str.ofString "io") 383, code := Value.ref 518 } }) ::
  (nat_lit 520, { cls := Value.type "tuple", data := Data.seq #[] }) ::
  (nat_lit 522, { cls := Value.type "tuple", data := Data.seq #[Value.str (Str.ofString "self") 937] }) ::
  (nat_lit 523, { cls := Value.type "tuple", data := Data.seq #[] }) ::
  (nat_lit 525, { cls := Value.type "code", data := Data.fields #[Value.str (Str.ofString "tell") 934, Value.str (Str.ofString "StringIO.tell") 935, Value.str (Str.ofString "/claim/cut.py") 936, Value.int 333 0, Value.int 1 0, Value.int 0 0, Value.int 0 0, Value.int 3 0, Value.ref 520, Value.bool true, Value.int 318 0, Value.ref 521, Value.none, Value.ref 522, Value.ref 523, Value.ref 524, Value.int 938 0, Value.int 333 0, Value.str (Str.ofString "/claim/cut.py") 939] }) ::
  (nat_lit 526, { cls := Value.type "function", data := Data.func { name := Str.ofString "tell", qualname := Str.ofString "StringIO.tell", params := p526, body := FuncBody.stmts b526, scope := s526, globals := 3, closure := [], defaults := Value.none, kwdefaults := Value.none, pyModule := Value.str (Str.ofString "io") 383, code := Value.ref 525 } }) ::
  (nat_lit 527, { cls := Value.type "tuple", data := Data.seq #[Value.int 0 941] }) ::
  (nat_lit 528, { cls := Value.type "tuple", data := Data.seq #[] }) ::
  (nat_lit 530, { cls := Value.type "tuple", data := Data.seq #[Value.str (Str.ofString "self") 945, Value.str (Str.ofString "pos") 946, Value.str (Str.ofString "whence") 947] }) ::
  (nat_lit 531, { cls := Value.type "tuple", data := Data.seq #[] }) ::
  (nat_lit 533, { cls := Value.type "code", data := Data.fields #[Value.str (Str.ofString "seek") 942, Value.str (Str.ofString "StringIO.seek") 943, Value.str (Str.ofString "/claim/cut.py") 944, Value.int 337 0, Value.int 3 0, Value.int 3 0, Value.int 0 0, Value.int 3 0, Value.ref 528, Value.bool true, Value.int 318 0, Value.ref 529, Value.none, Value.ref 530, Value.ref 531, Value.ref 532, Value.int 948 0, Value.int 337 0, Value.str (Str.ofString "/claim/cut.py") 949] }) ::
  (nat_lit 534, { cls := Value.type "function", data := Data.func { name := Str.ofString "seek", qualname := Str.ofString "StringIO.seek", params := p534, body := FuncBody.stmts b534, scope := s534, globals := 3, closure := [], defaults := Value.ref 527, kwdefaults := Value.none, pyModule := Value.str (Str.ofString "io") 383, code := Value.ref 533 } }) ::
  (nat_lit 535, { cls := Value.type "tuple", data := Data.seq #[Value.none] }) ::
  (nat_lit 536, { cls := Value.type "tuple", data := Data.seq #[] }) ::
  (nat_lit 538, { cls := Value.type "tuple", data := Data.seq #[Value.str (Str.ofString "self") 954, Value.str (Str.ofString "pos") 955] }) ::
  (nat_lit 539, { cls := Value.type "tuple", data := Data.seq #[] }) ::
  (nat_lit 541, { cls := Value.type "code", data := Data.fields #[Value.str (Str.ofString "truncate") 951, Value.str (Str.ofString "StringIO.truncate") 952, Value.str (Str.ofString "/claim/cut.py") 953, Value.int 354 0, Value.int 2 0, Value.int 2 0, Value.int 0 0, Value.int 3 0, Value.ref 536, Value.bool true, Value.int 318 0, Value.ref 537, Value.none, Value.ref 538, Value.ref 539, Value.ref 540, Value.int 956 0, Value.int 354 0, Value.str (Str.ofString "/claim/cut.py") 957] }) ::
  (nat_lit 542, { cls := Value.type "function", data := Data.func { name := Str.ofString "truncate", qualname := Str.ofString "StringIO.truncate", params := p542, body := FuncBody.stmts b542, scope := s542, globals := 3, closure := [], defaults := Value.ref 535, kwdefaults := Value.none, pyModule := Value.str (Str.ofString "io") 383, code := Value.ref 541 } }) ::
  (nat_lit 543, { cls := Value.type "tuple", data := Data.seq #[Value.int (-1) 960] }) ::
  (nat_lit 544, { cls := Value.type "tuple", data := Data.seq #[] }) ::
  (nat_lit 546, { cls := Value.type "tuple", data := Data.seq #[Value.str (Str.ofString "self") 964, Value.str (Str.ofString "size") 965, Value.str (Str.ofString "start") 966, Value.str (Str.ofString "stop") 967] }) ::
  (nat_lit 547, { cls := Value.type "tuple", data := Data.seq #[] }) ::
  (nat_lit 549, { cls := Value.type "code", data := Data.fields #[Value.str (Str.ofString "read") 961, Value.str (Str.ofString "StringIO.read") 962, Value.str (Str.ofString "/claim/cut.py") 963, Value.int 357 0, Value.int 2 0, Value.int 2 0, Value.int 0 0, Value.int 3 0, Value.ref 544, Value.bool true, Value.int 318 0, Value.ref 545, Value.none, Value.ref 546, Value.ref 547, Value.ref 548, Value.int 968 0, Value.int 357 0, Value.str (Str.ofString "/claim/cut.py") 969] }) ::
  (nat_lit 550, { cls := Value.type "function", data := Data.func { name := Str.ofString "read", qualname := Str.ofString "StringIO.read", params := p550, body := FuncBody.stmts b550, scope := s550, globals := 3, closure := [], defaults := Value.ref 543, kwdefaults := Value.none, pyModule := Value.str (Str.ofString "io") 383, code := Value.ref 549 } }) ::
  (nat_lit 551, { cls := Value.type "tuple", data := Data.seq #[Value.int (-1) 972] }) ::
  (nat_lit 552, { cls := Value.type "tuple", data := Data.seq #[] }) ::
  (nat_lit 554, { cls := Value.type "tuple", data := Data.seq #[Value.str (Str.ofString "self") 976, Value.str (Str.ofString "size") 977] }) ::
  (nat_lit 555, { cls := Value.type "tuple", data := Data.seq #[] }) ::
  (nat_lit 557, { cls := Value.type "code", data := Data.fields #[Value.str (Str.ofString "readline") 973, Value.str (Str.ofString "StringIO.readline") 974, Value.str (Str.ofString "/claim/cut.py") 975, Value.int 371 0, Value.int 2 0, Value.int 2 0, Value.int 0 0, Value.int 3 0, Value.ref 552, Value.bool true, Value.int 318 0, Value.ref 553, Value.none, Value.ref 554, Value.ref 555, Value.ref 556, Value.int 978 0, Value.int 371 0, Value.str (Str.ofString "/claim/cut.py") 979] }) ::
  (nat_lit 558, { cls := Value.type "function", data := Data.func { name := Str.ofString "readline", qualname := Str.ofString "StringIO.readline", params := p558, body := FuncBody.stmts b558, scope := s558, globals := 3, closure := [], defaults := Value.ref 551, kwdefaults := Value.none, pyModule := Value.str (Str.ofString "io") 383, code := Value.ref 557 } }) ::
  (nat_lit 559, { cls := Value.type "tuple", data := Data.seq #[Value.int (-1) 982] }) ::
  (nat_lit 560, { cls := Value.type "tuple", data := Data.seq #[] }) ::
  (nat_lit 562, { cls := Value.type "tuple", data := Data.seq #[Value.str (Str.ofString "self") 986, Value.str (Str.ofString "hint") 987] }) ::
  (nat_lit 563, { cls := Value.type "tuple", data := Data.seq #[] }) ::
  (nat_lit 565, { cls := Value.type "code", data := Data.fields #[Value.str (Str.ofString "readlines") 983, Value.str (Str.ofString "StringIO.readlines") 984, Value.str (Str.ofString "/claim/cut.py") 985, Value.int 378 0, Value.int 2 0, Value.int 2 0, Value.int 0 0, Value.int 3 0, Value.ref 560, Value.bool true, Value.int 318 0, Value.ref 561, Value.none, Value.ref 562, Value.ref 563, Value.ref 564, Value.int 988 0, Value.int 378 0, Value.str (Str.ofString "/claim/cut.py") 989] }) ::
  (nat_lit 566, { cls := Value.type "function", data := Data.func { name := Str.ofString "readlines", qualname := Str.ofString "StringIO.readlines", params := p566, body := FuncBody.stmts b566, scope := s566, globals := 3, closure := [], defaults := Value.ref 559, kwdefaults := Value.none, pyModule := Value.str (Str.ofString "io") 383, code := Value.ref 565 } }) ::
  (nat_lit 567, { cls := Value.type "tuple", data := Data.seq #[] }) ::
  (nat_lit 569, { cls := Value.type "tuple", data := Data.seq #[Value.str (Str.ofString "self") 994] }) ::
  (nat_lit 570, { cls := Value.type "tuple", data := Data.seq #[] }) ::
  (nat_lit 572, { cls := Value.type "code", data := Data.fields #[Value.str (Str.ofString "__iter__") 991, Value.str (Str.ofString "StringIO.__iter__") 992, Value.str (Str.ofString "/claim/cut.py") 993, Value.int 381 0, Value.int 1 0, Value.int 0 0, Value.int 0 0, Value.int 3 0, Value.ref 567, Value.bool true, Value.int 318 0, Value.ref 568, Value.none, Value.ref 569, Value.ref 570, Value.ref 571, Value.int 995 0, Value.int 381 0, Value.str (Str.ofString "/claim/cut.py") 996] }) ::
  (nat_lit 573, { cls := Value.type "function", data := Data.func { name := Str.ofString "__iter__", qualname := Str.ofString "StringIO.__iter__", params := p573, body := FuncBody.stmts b573, scope := s573, globals := 3, closure := [], defaults := Value.none, kwdefaults := Value.none, pyModule := Value.str (Str.ofString "io") 383, code := Value.ref 572 } }) ::
  (nat_lit 574, { cls := Value.type "tuple", data := Data.seq #[] }) ::
  (nat_lit 576, { cls := Value.type "tuple", data := Data.seq #[Value.str (Str.ofString "self") 1001, Value.str (Str.ofString "line") 1002] }) ::
  (nat_lit 577, { cls := Value.type "tuple", data := Data.seq #[] }) ::
  (nat_lit 579, { cls := Value.type "code", data := Data.fields #[Value.str (Str.ofString "__next__") 998, Value.str (Str.ofString "StringIO.__next__") 999, Value.str (Str.ofString "/claim/cut.py") 1000, Value.int 385 0, Value.int 1 0, Value.int 0 0, Value.int 0 0, Value.int 3 0, Value.ref 574, Value.bool true, Value.int 318 0, Value.ref 575, Value.none, Value.ref 576, Value.ref 577, Value.ref 578, Value.int 1003 0, Value.int 385 0, Value.str (Str.ofString "/claim/cut.py") 1004] }) ::
  (nat_lit 580, { cls := Value.type "function", data := Data.func { name := Str.ofString "__next__", qualname := Str.ofString "StringIO.__next__", params := p580, body := FuncBody.stmts b580, scope := s580, globals := 3, closure := [], defaults := Value.none, kwdefaults := Value.none, pyModule := Value.str (Str.ofString "io") 383, code := Value.ref 579 } }) ::
  (nat_lit 581, { cls := Value.type "tuple", data := Data.seq #[] }) ::
  (nat_lit 583, { cls := Value.type "tuple", data := Data.seq #[Value.str (Str.ofString "self") 1009, Value.str (Str.ofString "s") 1010, Value.str (Str.ofString "n") 1011, Value.str (Str.ofString "m") 1012, Value.str (Str.ofString "start") 1013, Value.str (Str.ofString "buf") 1014] }) ::
  (nat_lit 584, { cls := Value.type "tuple", data := Data.seq #[] }) ::
  (nat_lit 586, { cls := Value.type "code", data := Data.fields #[Value.str (Str.ofString "write") 1006, Value.str (Str.ofString "StringIO.write") 1007, Value.str (Str.ofString "/claim/cut.py") 1008, Value.int 392 0, Value.int 2 0, Value.int 2 0, Value.int 0 0, Value.int 3 0, Value.ref 581, Value.bool true, Value.int 318 0, Value.ref 582, Value.none, Value.ref 583, Value.ref 584, Value.ref 585, Value.int 1015 0, Value.int 392 0, Value.str (Str.ofString "/claim/cut.py") 1016] }) ::
  (nat_lit 587, { cls := Value.type "function", data := Data.func { name := Str.ofString "write", qualname := Str.ofString "StringIO.write", params := p587, body := FuncBody.stmts b587, scope := s587, globals := 3, closure := [], defaults := Value.none, kwdefaults := Value.none, pyModule := Value.str (Str.ofString "io") 383, code := Value.ref 586 } }) ::
  (nat_lit 588, { cls := Value.type "tuple", data := Data.seq #[] }) ::
  (nat_lit 590, { cls := Value.type "tuple", data := Data.seq #[Value.str (Str.ofString "self") 1021, Value.str (Str.ofString "lines") 1022] }) ::
  (nat_lit 591, { cls := Value.type "tuple", data := Data.seq #[] }) ::
  (nat_lit 593, { cls := Value.type "code", data := Data.fields #[Value.str (Str.ofString "writelines") 1018, Value.str (Str.ofString "StringIO.writelines") 1019, Value.str (Str.ofString "/claim/cut.py") 1020, Value.int 411 0, Value.int 2 0, Value.int 2 0, Value.int 0 0, Value.int 3 0, Value.ref 588, Value.bool true, Value.int 318 0, Value.ref 589, Value.none, Value.ref 590, Value.ref 591, Value.ref 592, Value.int 1023 0, Value.int 411 0, Value.str (Str.ofString "/claim/cut.py") 1024] }) ::
  (nat_lit 594, { cls := Value.type "function", data := Data.func { name := Str.ofString "writelines", qualname := Str.ofString "StringIO.writelines", params := p594, body := FuncBody.stmts b594, scope := s594, globals := 3, closure := [], defaults := Value.none, kwdefaults := Value.none, pyModule := Value.str (Str.ofString "io") 383, code := Value.ref 593 } }) ::
  (nat_lit 595, { cls := Value.type "tuple", data := Data.seq #[] }) ::
  (nat_lit 597, { cls := Value.type "tuple", data := Data.seq #[Value.str (Str.ofString "self") 1029] }) ::
  (nat_lit 598, { cls := Value.type "tuple", data := Data.seq #[] }) ::
  (nat_lit 600, { cls := Value.type "code", data := Data.fields #[Value.str (Str.ofString "__repr__") 1026, Value.str (Str.ofString "StringIO.__repr__") 1027, Value.str (Str.ofString "/claim/cut.py") 1028, Value.int 414 0, Value.int 1 0, Value.int 0 0, Value.int 0 0, Value.int 3 0, Value.ref 595, Value.bool true, Value.int 318 0, Value.ref 596, Value.none, Value.ref 597, Value.ref 598, Value.ref 599, Value.int 1030 0, Value.int 414 0, Value.str (Str.ofString "/claim/cut.py") 1031] }) ::
  (nat_lit 601, { cls := Value.type "function", data := Data.func { name := Str.ofString "__repr__", qualname := Str.ofString "StringIO.__repr__", params := p601, body := FuncBody.stmts b601, scope := s601, globals := 3, closure := [], defaults := Value.none, kwdefaults := Value.none, pyModule := Value.str (Str.ofString "io") 383, code := Value.ref 600 } }) ::
  (nat_lit 602, { cls := Value.type "tuple", data := Data.seq #[Value.str (Str.ofString "__buf") 1033, Value.str (Str.ofString "__newline") 1034, Value.str (Str.ofString "__pos") 1035] }) ::
  (nat_lit 603, { cls := Value.type "dict", data := Data.dict #[{ hash := PyData.keyHash P (Str.ofString "__module__"), key := Value.str (Str.ofString "__module__") 760, val := Value.str (Str.ofString "_io") 765 }, { hash := PyData.keyHash P (Str.ofString "__firstlineno__"), key := Value.str (Str.ofString "__firstlineno__") 764, val := Value.int 211 763 }, { hash := PyData.keyHash P (Str.ofString "__init__"), key := Value.str (Str.ofString "__init__") 777, val := Value.ref 374 }, { hash := PyData.keyHash P (Str.ofString "_StringIO__translated"), key := Value.str (Str.ofString "_StringIO__translated") 786, val := Value.ref 381 }, { hash := PyData.keyHash P (Str.ofString "_StringIO__check"), key := Value.str (Str.ofString "_StringIO__check") 793, val := Value.ref 388 }, { hash := PyData.keyHash P (Str.ofString "_StringIO__check_dot"), key := Value.str (Str.ofString "_StringIO__check_dot") 800, val := Value.ref 395 }, { hash := PyData.keyHash P (Str.ofString "_StringIO__line"), key := Value.str (Str.ofString "_StringIO__line") 815, val := Value.ref 402 }, { hash := PyData.keyHash P (Str.ofString "closed"), key := Value.str (Str.ofString "closed") 823, val := Value.ref 410 }, { hash := PyData.keyHash P (Str.ofString "line_buffering"), key := Value.str (Str.ofString "line_buffering") 831, val := Value.ref 418 }, { hash := PyData.keyHash P (Str.ofString "newlines"), key := Value.str (Str.ofString "newlines") 839, val := Value.ref 426 }, { hash := PyData.keyHash P (Str.ofString "encoding"), key := Value.str (Str.ofString "encoding") 847, val := Value.ref 434 }, { hash := PyData.keyHash P (Str.ofString "errors"), key := Value.str (Str.ofString "errors") 855, val := Value.ref 442 }, { hash := PyData.keyHash P (Str.ofString "close"), key := Value.str (Str.ofString "close") 862, val := Value.ref 449 }, { hash := PyData.keyHash P (Str.ofString "__enter__"), key := Value.str (Str.ofString "__enter__") 869, val := Value.ref 456 }, { hash := PyData.keyHash P (Str.ofString "__exit__"), key := Value.str (Str.ofString "__exit__") 877, val := Value.ref 463 }, { hash := PyData.keyHash P (Str.ofString "readable"), key := Value.str (Str.ofString "readable") 884, val := Value.ref 470 }, { hash := PyData.keyHash P (Str.ofString "writable"), key := Value.str (Str.ofString "writable") 891, val := Value.ref 477 }, { hash := PyData.keyHash P (Str.ofString "seekable"), key := Value.str (Str.ofString "seekable") 898, val := Value.ref 484 }, { hash := PyData.keyHash P (Str.ofString "isatty"), key := Value.str (Str.ofString "isatty") 905, val := Value.ref 491 }, { hash := PyData.keyHash P (Str.ofString "flush"), key := Value.str (Str.ofString "flush") 912, val := Value.ref 498 }, { hash := PyData.keyHash P (Str.ofString "fileno"), key := Value.str (Str.ofString "fileno") 919, val := Value.ref 505 }, { hash := PyData.keyHash P (Str.ofString "detach"), key := Value.str (Str.ofString "detach") 926, val := Value.ref 512 }, { hash := PyData.keyHash P (Str.ofString "getvalue"), key := Value.str (Str.ofString "getvalue") 933, val := Value.ref 519 }, { hash := PyData.keyHash P (Str.ofString "tell"), key := Value.str (Str.ofString "tell") 940, val := Value.ref 526 }, { hash := PyData.keyHash P (Str.ofString "seek"), key := Value.str (Str.ofString "seek") 950, val := Value.ref 534 }, { hash := PyData.keyHash P (Str.ofString "truncate"), key := Value.str (Str.ofString "truncate") 958, val := Value.ref 542 }, { hash := PyData.keyHash P (Str.ofString "read"), key := Value.str (Str.ofString "read") 970, val := Value.ref 550 }, { hash := PyData.keyHash P (Str.ofString "readline"), key := Value.str (Str.ofString "readline") 980, val := Value.ref 558 }, { hash := PyData.keyHash P (Str.ofString "readlines"), key := Value.str (Str.ofString "readlines") 990, val := Value.ref 566 }, { hash := PyData.keyHash P (Str.ofString "__iter__"), key := Value.str (Str.ofString "__iter__") 997, val := Value.ref 573 }, { hash := PyData.keyHash P (Str.ofString "__next__"), key := Value.str (Str.ofString "__next__") 1005, val := Value.ref 580 }, { hash := PyData.keyHash P (Str.ofString "write"), key := Value.str (Str.ofString "write") 1017, val := Value.ref 587 }, { hash := PyData.keyHash P (Str.ofString "writelines"), key := Value.str (Str.ofString "writelines") 1025, val := Value.ref 594 }, { hash := PyData.keyHash P (Str.ofString "__repr__"), key := Value.str (Str.ofString "__repr__") 1032, val := Value.ref 601 }, { hash := PyData.keyHash P (Str.ofString "__static_attributes__"), key := Value.str (Str.ofString "__static_attributes__") 1036, val := Value.ref 602 }, { hash := PyData.keyHash P (Str.ofString "__doc__"), key := Value.str (Str.ofString "__doc__") 1037, val := Value.none }] 2 }) ::
  (nat_lit 604, { cls := Value.type "type", data := Data.cls { name := Str.ofString "StringIO", bases := [Value.ref 127], mro := [Value.ref 604, Value.ref 127, Value.ref 100, Value.type "object"], ns := 603, qualname := Str.ofString "StringIO" }, slots := #[some (Value.ref 360), none, some (Value.str (Str.ofString "StringIO") 753), some (Value.str (Str.ofString "StringIO") 761), some Value.none, some (Value.bool true)] }) ::
  (nat_lit 607, { cls := Value.type "tuple", data := Data.seq #[] }) ::
  (nat_lit 609, { cls := Value.type "tuple", data := Data.seq #[Value.str (Str.ofString "name") 1045, Value.str (Str.ofString "x") 1046, Value.str (Str.ofString "t") 1047] }) ::
  (nat_lit 610, { cls := Value.type "tuple", data := Data.seq #[] }) ::
  (nat_lit 612, { cls := Value.type "code", data := Data.fields #[Value.str (Str.ofString "_kind") 1042, Value.str (Str.ofString "_kind") 1043, Value.str (Str.ofString "/claim/cut.py") 1044, Value.int 417 0, Value.int 2 0, Value.int 0 0, Value.int 0 0, Value.int 3 0, Value.ref 607, Value.bool true, Value.int 318 0, Value.ref 608, Value.none, Value.ref 609, Value.ref 610, Value.ref 611, Value.int 1048 0, Value.int 417 0, Value.str (Str.ofString "/claim/cut.py") 1049] }) ::
  (nat_lit 613, { cls := Value.type "function", data := Data.func { name := Str.ofString "_kind", qualname := Str.ofString "_kind", params := p613, body := FuncBody.stmts b613, scope := s613, globals := 3, closure := [], defaults := Value.none, kwdefaults := Value.none, pyModule := Value.str (Str.ofString "os.path") 1040, code := Value.ref 612 } }) ::
  (nat_lit 614, { cls := Value.type "tuple", data := Data.seq #[] }) ::
  (nat_lit 616, { cls := Value.type "tuple", data := Data.seq #[Value.str (Str.ofString "name") 1054, Value.str (Str.ofString "x") 1055, Value.str (Str.ofString "k") 1056] }) ::
  (nat_lit 617, { cls := Value.type "tuple", data := Data.seq #[] }) ::
  (nat_lit 619, { cls := Value.type "code", data := Data.fields #[Value.str (Str.ofString "_fspath") 1051, Value.str (Str.ofString "_fspath") 1052, Value.str (Str.ofString "/claim/cut.py") 1053, Value.int 438 0, Value.int 2 0, Value.int 0 0, Value.int 0 0, Value.int 3 0, Value.ref 614, Value.bool true, Value.int 318 0, Value.ref 615, Value.none, Value.ref 616, Value.ref 617, Value.ref 618, Value.int 1057 0, Value.int 438 0, Value.str (Str.ofString "/claim/cut.py") 1058] }) ::
  (nat_lit 620, { cls := Value.type "function", data := Data.func { name := Str.ofString "_fspath", qualname := Str.ofString "_fspath", params := p620, body := FuncBody.stmts b620, scope := s620, globals := 3, closure := [], defaults := Value.none, kwdefaults := Value.none, pyModule := Value.str (Str.ofString "os.path") 1040, code := Value.ref 619 } }) ::
  (nat_lit 621, { cls := Value.type "tuple", data := Data.seq #[] }) ::
  (nat_lit 623, { cls := Value.type "tuple", data := Data.seq #[Value.str (Str.ofString "funcname") 1063, Value.str (Str.ofString "args") 1064, Value.str (Str.ofString "s") 1065, Value.str (Str.ofString "k") 1066] }) ::
  (nat_lit 624, { cls := Value.type "tuple", data := Data.seq #[] }) ::
  (nat_lit 626, { cls := Value.type "code", data := Data.fields #[Value.str (Str.ofString "_check_arg_types") 1060, Value.str (Str.ofString "_check_arg_types") 1061, Value.str (Str.ofString "/claim/cut.py") 1062, Value.int 443 0, Value.int 1 0, Value.int 0 0, Value.int 0 0, Value.int 7 0, Value.ref 621, Value.bool true, Value.int 318 0, Value.ref 622, Value.none, Value.ref 623, Value.ref 624, Value.ref 625, Value.int 1067 0, Value.int 443 0, Value.str (Str.ofString "/claim/cut.py") 1068] }) ::
  (nat_lit 627, { cls := Value.type "function", data := Data.func { name := Str.ofString "_check_arg_types", qualname := Str.ofString "_check_arg_types", params := p627, body := FuncBody.stmts b627, scope := s627, globals := 3, closure := [], defaults := Value.none, kwdefaults := Value.none, pyModule := Value.str (Str.ofString "os.path") 1040, code := Value.ref 626 } }) ::
  (nat_lit 628, { cls := Value.type "tuple", data := Data.seq #[] }) ::
  (nat_lit 630, { cls := Value.type "tuple", data := Data.seq #[Value.str (Str.ofString "s") 1073] }) ::
  (nat_lit 631, { cls := Value.type "tuple", data := Data.seq #[] }) ::
  (nat_lit 633, { cls := Value.type "code", data := Data.fields #[Value.str (Str.ofString "isabs") 1070, Value.str (Str.ofString "isabs") 1071, Value.str (Str.ofString "/claim/cut.py") 1072, Value.int 448 0, Value.int 1 0, Value.int 0 0, Value.int 0 0, Value.int 3 0, Value.ref 628, Value.bool true, Value.int 318 0, Value.ref 629, Value.none, Value.ref 630, Value.ref 631, Value.ref 632, Value.int 1074 0, Value.int 448 0, Value.str (Str.ofString "/claim/cut.py") 1075] }) ::
  (nat_lit 634, { cls := Value.type "function", data := Data.func { name := Str.ofString "isabs", qualname := Str.ofString "isabs", params := p634, body := FuncBody.stmts b634, scope := s634, globals := 3, closure := [], defaults := Value.none, kwdefaults := Value.none, pyModule := Value.str (Str.ofString "os.path") 1040, code := Value.ref 633 } }) ::
  (nat_lit 635, { cls := Value.type "tuple", data := Data.seq #[] }) ::
  (nat_lit 637, { cls := Value.type "tuple", data := Data.seq #[Value.str (Str.ofString "a") 1080, Value.str (Str.ofString "p") 1081, Value.str (Str.ofString "b") 1082, Value.str (Str.ofString "sep") 1083, Value.str (Str.ofString "path") 1084] }) ::
  (nat_lit 638, { cls := Value.type "tuple", data := Data.seq #[] }) ::
  (nat_lit 640, { cls := Value.type "code", data := Data.fields #[Value.str (Str.ofString "join") 1077, Value.str (Str.ofString "join") 1078, Value.str (Str.ofString "/claim/cut.py") 1079, Value.int 451 0, Value.int 1 0, Value.int 0 0, Value.int 0 0, Value.int 7 0, Value.ref 635, Value.bool true, Value.int 318 0, Value.ref 636, Value.none, Value.ref 637, Value.ref 638, Value.ref 639, Value.int 1085 0, Value.int 451 0, Value.str (Str.ofString "/claim/cut.py") 1086] }) ::
  (nat_lit 641, { cls := Value.type "function", data := Data.func { name := Str.ofString "join", qualname := Str.ofString "join", params := p641, body := FuncBody.stmts b641, scope := s641, globals := 3, closure := [], defaults := Value.none, kwdefaults := Value.none, pyModule := Value.str (Str.ofString "os.path") 1040, code := Value.ref 640 } }) ::
  (nat_lit 642, { cls := Value.type "tuple", data := Data.seq #[] }) ::
  (nat_lit 644, { cls := Value.type "tuple", data := Data.seq #[Value.str (Str.ofString "p") 1092, Value.str (Str.ofString "sep") 1093, Value.str (Str.ofString "i") 1094, Value.str (Str.ofString "head") 1095] }) ::
  (nat_lit 645, { cls := Value.type "tuple", data := Data.seq #[] }) ::
  (nat_lit 647, { cls := Value.type "code", data := Data.fields #[Value.str (Str.ofString "dirname") 1089, Value.str (Str.ofString "dirname") 1090, Value.str (Str.ofString "/claim/cut.py") 1091, Value.int 472 0, Value.int 1 0, Value.int 0 0, Value.int 0 0, Value.int 3 0, Value.ref 642, Value.bool true, Value.int 318 0, Value.ref 643, Value.none, Value.ref 644, Value.ref 645, Value.ref 646, Value.int 1096 0, Value.int 472 0, Value.str (Str.ofString "/claim/cut.py") 1097] }) ::
  (nat_lit 648, { cls := Value.type "function", data := Data.func { name := Str.ofString "dirname", qualname := Str.ofString "dirname", params := p648, body := FuncBody.stmts b648, scope := s648, globals := 3, closure := [], defaults := Value.none, kwdefaults := Value.none, pyModule := Value.str (Str.ofString "os.path") 1040, code := Value.ref 647 } }) ::
  (nat_lit 656, { cls := Value.type "tuple", data := Data.seq #[Value.none, Value.none, Value.bool false, Value.bool false] }) ::
  (nat_lit 657, { cls := Value.type "tuple", data := Data.seq #[] }) ::
  (nat_lit 659, { cls := Value.type "tuple", data := Data.seq #[Value.str (Str.ofString "self") 1116, Value.str (Str.ofString "instream") 1117, Value.str (Str.ofString "infile") 1118, Value.str (Str.ofString "posix") 1119, Value.str (Str.ofString "punctuation_chars") 1120, Value.str (Str.ofString "t") 1121] }) ::
  (nat_lit 660, { cls := Value.type "tuple", data := Data.seq #[] }) ::
  (nat_lit 662, { cls := Value.type "code", data := Data.fields #[Value.str (Str.ofString "__init__") 1113, Value.str (Str.ofString "shlex.__init__") 1114, Value.str (Str.ofString "/claim/cut.py") 1115, Value.int 483 0, Value.int 5 0, Value.int 0 0, Value.int 0 0, Value.int 3 0, Value.ref 657, Value.bool true, Value.int 318 0, Value.ref 658, Value.none, Value.ref 659, Value.ref 660, Value.ref 661, Value.int 1122 0, Value.int 483 0, Value.str (Str.ofString "/claim/cut.py") 1123] }) ::
  (nat_lit 663, { cls := Value.type "function", data := Data.func { name := Str.ofString "__init__", qualname := Str.ofString "shlex.__init__", params := p663, body := FuncBody.stmts b663, scope := s663, globals := 3, closure := [], defaults := Value.ref 656, kwdefaults := Value.none, pyModule := Value.str (Str.ofString "cpy313.shlex") 1099, code := Value.ref 662 } }) ::
  (nat_lit 664, { cls := Value.type "tuple", data := Data.seq #[] }) ::
  (nat_lit 666, { cls := Value.type "tuple", data := Data.seq #[Value.str (Str.ofString "self") 1128] }) ::
  (nat_lit 667, { cls := Value.type "tuple", data := Data.seq #[] }) ::
  (nat_lit 669, { cls := Value.type "code", data := Data.fields #[Value.str (Str.ofString "punctuation_chars") 1125, Value.str (Str.ofString "shlex.punctuation_chars") 1126, Value.str (Str.ofString "/claim/cut.py") 1127, Value.int 524 0, Value.int 1 0, Value.int 0 0, Value.int 0 0, Value.int 3 0, Value.ref 664, Value.bool true, Value.int 318 0, Value.ref 665, Value.none, Value.ref 666, Value.ref 667, Value.ref 668, Value.int 1129 0, Value.int 524 0, Value.str (Str.ofString "/claim/cut.py") 1130] }) ::
  (nat_lit 670, { cls := Value.type "function", data := Data.func { name := Str.ofString "punctuation_chars", qualname := Str.ofString "shlex.punctuation_chars", params := p670, body := FuncBody.stmts b670, scope := s670, globals := 3, closure := [], defaults := Value.none, kwdefaults := Value.none, pyModule := Value.str (Str.ofString "cpy313.shlex") 1099, code := Value.ref 669 } }) ::
  (nat_lit 671, { cls := Value.type "property", data := Data.fields #[Value.ref 670, Value.none, Value.none, Value.none, Value.str (Str.ofString "punctuation_chars") 1132, Value.bool false] }) ::
  (nat_lit 672, { cls := Value.type "tuple", data := Data.seq #[] }) ::
  (nat_lit 674, { cls := Value.type "tuple", data := Data.seq #[Value.str (Str.ofString "self") 1136, Value.str (Str.ofString "tok") 1137] }) ::
  (nat_lit 675, { cls := Value.type "tuple", data := Data.seq #[] }) ::
  (nat_lit 677, { cls := Value.type "code", data := Data.fields #[Value.str (Str.ofString "push_token") 1133, Value.str (Str.ofString "shlex.push_token") 1134, Value.str (Str.ofString "/claim/cut.py") 1135, Value.int 528 0, Value.int 2 0, Value.int 0 0, Value.int 0 0, Value.int 3 0, Value.ref 672, Value.bool true, Value.int 318 0, Value.ref 673, Value.none, Value.ref 674, Value.ref 675, Value.ref 676, Value.int 1138 0, Value.int 528 0, Value.str (Str.ofString "/claim/cut.py") 1139] }) ::
  (nat_lit 678, { cls := Value.type "function", data := Data.func { name := Str.ofString "push_token", qualname := Str.ofString "shlex.push_token", params := p678, body := FuncBody.stmts b678, scope := s678, globals := 3, closure := [], defaults := Value.none, kwdefaults := Value.none, pyModule := Value.str (Str.ofString "cpy313.shlex") 1099, code := Value.ref 677 } }) ::
  (nat_lit 679, { cls := Value.type "tuple", data := Data.seq #[Value.none] }) ::
  (nat_lit 680, { cls := Value.type "tuple", data := Data.seq #[] }) ::
  (nat_lit 682, { cls := Value.type "tuple", data := Data.seq #[Value.str (Str.ofString "self") 1144, Value.str (Str.ofString "newstream") 1145, Value.str (Str.ofString "newfile") 1146] }) ::
  (nat_lit 683, { cls := Value.type "tuple", data := Data.seq #[] }) ::
  (nat_lit 685, { cls := Value.type "code", data := Data.fields #[Value.str (Str.ofString "push_source") 1141, Value.str (Str.ofString "shlex.push_source") 1142, Value.str (Str.ofString "/claim/cut.py") 1143, Value.int 531 0, Value.int 3 0, Value.int 0 0, Value.int 0 0, Value.int 3 0, Value.ref 680, Value.bool true, Value.int 318 0, Value.ref 681, Value.none, Value.ref 682, Value.ref 683, Value.ref 684, Value.int 1147 0, Value.int 531 0, Value.str (Str.ofString "/claim/cut.py") 1148] }) ::
  (nat_lit 686, { cls := Value.type "function", data := Data.func { name := Str.ofString "push_source", qualname := Str.ofString "shlex.push_source", params := p686, body := FuncBody.stmts b686, scope := s686, globals := 3, closure := [], defaults := Value.ref 679, kwdefaults := Value.none, pyModule := Value.str (Str.ofString "cpy313.shlex") 1099, code := Value.ref 685 } }) ::
  (nat_lit 687, { cls := Value.type "tuple", data := Data.seq #[] }) ::
  (nat_lit 689, { cls := Value.type "tuple", data := Data.seq #[Value.str (Str.ofString "self") 1153] }) ::
  (nat_lit 690, { cls := Value.type "tuple", data := Data.seq #[] }) ::
  (nat_lit 692, { cls := Value.type "code", data := Data.fields #[Value.str (Str.ofString "pop_source") 1150, Value.str (Str.ofString "shlex.pop_source") 1151, Value.str (Str.ofString "/claim/cut.py") 1152, Value.int 544 0, Value.int 1 0, Value.int 0 0, Value.int 0 0, Value.int 3 0, Value.ref 687, Value.bool true, Value.int 318 0, Value.ref 688, Value.none, Value.ref 689, Value.ref 690, Value.ref 691, Value.int 1154 0, Value.int 544 0, Value.str (Str.ofString "/claim/cut.py") 1155] }) ::
  (nat_lit 693, { cls := Value.type "function", data := Data.func { name := Str.ofString "pop_source", qualname := Str.ofString "shlex.pop_source", params := p693, body := FuncBody.stmts b693, scope := s693, globals := 3, closure := [], defaults := Value.none, kwdefaults := Value.none, pyModule := Value.str (Str.ofString "cpy313.shlex") 1099, code := Value.ref 692 } }) ::
  (nat_lit 694, { cls := Value.type "tuple", data := Data.seq #[] }) ::
  (nat_lit 696, { cls := Value.type "tuple", data := Data.seq #[Value.str (Str.ofString "self") 1160, Value.str (Str.ofString "tok") 1161, Value.str (Str.ofString "raw") 1162, Value.str (Str.ofString "spec") 1163, Value.str (Str.ofString "newfile") 1164, Value.str (Str.ofString "newstream") 1165] }) ::
  (nat_lit 697, { cls := Value.type "tuple", data := Data.seq #[] }) ::
  (nat_lit 699, { cls := Value.type "code", data := Data.fields #[Value.str (Str.ofString "get_token") 1157, Value.str (Str.ofString "shlex.get_token") 1158, Value.str (Str.ofString "/claim/cut.py") 1159, Value.int 551 0, Value.int 1 0, Value.int 0 0, Value.int 0 0, Value.int 3 0, Value.ref 694, Value.bool true, Value.int 318 0, Value.ref 695, Value.none, Value.ref 696, Value.ref 697, Value.ref 698, Value.int 1166 0, Value.int 551 0, Value.str (Str.ofString "/claim/cut.py") 1167] }) ::
  (nat_lit 700, { cls := Value.type "function", data := Data.func { name := Str.ofString "get_token", qualname := Str.ofString "shlex.get_token", params := p700, body := FuncBody.stmts b700, scope := s700, globals := 3, closure := [], defaults := Value.none, kwdefaults := Value.none, pyModule := Value.str (Str.ofString "cpy313.shlex") 1099, code := Value.ref 699 } }) ::
  (nat_lit 701, { cls := Value.type "tuple", data := Data.seq #[] }) ::
  (nat_lit 703, { cls := Value.type "tuple", data := Data.seq #[Value.str (Str.ofString "self") 1172, Value.str (Str.ofString "quoted") 1173, Value.str (Str.ofString "escapedstate") 1174, Value.str (Str.ofString "nextchar") 1175, Value.str (Str.ofString "result") 1176] }) ::
  (nat_lit 704, { cls := Value.type "tuple", data := Data.seq #[] }) ::
  (nat_lit 706, { cls := Value.type "code", data := Data.fields #[Value.str (Str.ofString "read_token") 1169, Value.str (Str.ofString "shlex.read_token") 1170, Value.str (Str.ofString "/claim/cut.py") 1171, Value.int 578 0, Value.int 1 0, Value.int 0 0, Value.int 0 0, Value.int 3 0, Value.ref 701, Value.bool true, Value.int 318 0, Value.ref 702, Value.none, Value.ref 703, Value.ref 704, Value.ref 705, Value.int 1177 0, Value.int 578 0, Value.str (Str.ofString "/claim/cut.py") 1178] }) ::
  (nat_lit 707, { cls := Value.type "function", data := Data.func { name := Str.ofString "read_token", qualname := Str.ofString "shlex.read_token", params := p707, body := FuncBody.stmts b707, scope := s707, globals := 3, closure := [], defaults := Value.none, kwdefaults := Value.none, pyModule := Value.str (Str.ofString "cpy313.shlex") 1099, code := Value.ref 706 } }) ::
  (nat_lit 708, { cls := Value.type "tuple", data := Data.seq #[] }) ::
  (nat_lit 710, { cls := Value.type "tuple", data := Data.seq #[Value.str (Str.ofString "self") 1183, Value.str (Str.ofString "newfile") 1184] }) ::
  (nat_lit 711, { cls := Value.type "tuple", data := Data.seq #[] }) ::
  (nat_lit 713, { cls := Value.type "code", data := Data.fields #[Value.str (Str.ofString "sourcehook") 1180, Value.str (Str.ofString "shlex.sourcehook") 1181, Value.str (Str.ofString "/claim/cut.py") 1182, Value.int 715 0, Value.int 2 0, Value.int 0 0, Value.int 0 0, Value.int 3 0, Value.ref 708, Value.bool true, Value.int 318 0, Value.ref 709, Value.none, Value.ref 710, Value.ref 711, Value.ref 712, Value.int 1185 0, Value.int 715 0, Value.str (Str.ofString "/claim/cut.py") 1186] }) ::
  (nat_lit 714, { cls := Value.type "function", data := Data.func { name := Str.ofString "sourcehook", qualname := Str.ofString "shlex.sourcehook", params := p714, body := FuncBody.stmts b714, scope := s714, globals := 3, closure := [], defaults := Value.none, kwdefaults := Value.none, pyModule := Value.str (Str.ofString "cpy313.shlex") 1099, code := Value.ref 713 } }) ::
  (nat_lit 715, { cls := Value.type "tuple", data := Data.seq #[Value.none, Value.none] }) ::
  (nat_lit 716, { cls := Value.type "tuple", data := Data.seq #[] }) ::
  (nat_lit 718, { cls := Value.type "tuple", data := Data.seq #[Value.str (Str.ofString "self") 1191, Value.str (Str.ofString "infile") 1192, Value.str (Str.ofString "lineno") 1193] }) ::
  (nat_lit 719, { cls := Value.type "tuple", data := Data.seq #[] }) ::
  (nat_lit 721, { cls := Value.type "code", data := Data.fields #[Value.str (Str.ofString "error_leader") 1188, Value.str (Str.ofString "shlex.error_leader") 1189, Value.str (Str.ofString "/claim/cut.py") 1190, Value.int 722 0, Value.int 3 0, Value.int 0 0, Value.int 0 0, Value.int 3 0, Value.ref 716, Value.bool true, Value.int 318 0, Value.ref 717, Value.none, Value.ref 718, Value.ref 719, Value.ref 720, Value.int 1194 0, Value.int 722 0, Value.str (Str.ofString "/claim/cut.py") 1195] }) ::
  (nat_lit 722, { cls := Value.type "function", data := Data.func { name := Str.ofString "error_leader", qualname := Str.ofString "shlex.error_leader", params := p722, body := FuncBody.stmts b722, scope := s722, globals := 3, closure := [], defaults := Value.ref 715, kwdefaults := Value.none, pyModule := Value.str (Str.ofString "cpy313.shlex") 1099, code := Value.ref 721 } }) ::
  (nat_lit 723, { cls := Value.type "tuple", data := Data.seq #[] }) ::
  (nat_lit 725, { cls := Value.type "tuple", data := Data.seq #[Value.str (Str.ofString "self") 1200] }) ::
  (nat_lit 726, { cls := Value.type "tuple", data := Data.seq #[] }) ::
  (nat_lit 728, { cls := Value.type "code", data := Data.fields #[Value.str (Str.ofString "__iter__") 1197, Value.str (Str.ofString "shlex.__iter__") 1198, Value.str (Str.ofString "/claim/cut.py") 1199, Value.int 725 0, Value.int 1 0, Value.int 0 0, Value.int 0 0, Value.int 3 0, Value.ref 723, Value.bool true, Value.int 318 0, Value.ref 724, Value.none, Value.ref 725, Value.ref 726, Value.ref 727, Value.int 1201 0, Value.int 725 0, Value.str (Str.ofString "/claim/cut.py") 1202] }) ::
  (nat_lit 729, { cls := Value.type "function", data := Data.func { name := Str.ofString "__iter__", qualname := Str.ofString "shlex.__iter__", params := p729, body := FuncBody.stmts b729, scope := s729, globals := 3, closure := [], defaults := Value.none, kwdefaults := Value.none, pyModule := Value.str (Str.ofString "cpy313.shlex") 1099, code := Value.ref 728 } }) ::
  (nat_lit 730, { cls := Value.type "tuple", data := Data.seq #[] }) ::
  (nat_lit 732, { cls := Value.type "tuple", data := Data.seq #[Value.str (Str.ofString "self") 1207, Value.str (Str.ofString "token") 1208] }) ::
  (nat_lit 733, { cls := Value.type "tuple", data := Data.seq #[] }) ::
  (nat_lit 735, { cls := Value.type "code", data := Data.fields #[Value.str (Str.ofString "__next__") 1204, Value.str (Str.ofString "shlex.__next__") 1205, Value.str (Str.ofString "/claim/cut.py") 1206, Value.int 728 0, Value.int 1 0, Value.int 0 0, Value.int 0 0, Value.int 3 0, Value.ref 730, Value.bool true, Value.int 318 0, Value.ref 731, Value.none, Value.ref 732, Value.ref 733, Value.ref 734, Value.int 1209 0, Value.int 728 0, Value.str (Str.ofString "/claim/cut.py") 1210] }) ::
  (nat_lit 736, { cls := Value.type "function", data := Data.func { name := Str.ofString "__next__", qualname := Str.ofString "shlex.__next__", params := p736, body := FuncBody.stmts b736, scope := s736, globals := 3, closure := [], defaults := Value.none, kwdefaults := Value.none, pyModule := Value.str (Str.ofString "cpy313.shlex") 1099, code := Value.ref 735 } }) ::
  (nat_lit 737, { cls := Value.type "tuple", data := Data.seq #[Value.str (Str.ofString "_punctuation_chars") 1212, Value.str (Str.ofString "_pushback_chars") 1213, Value.str (Str.ofString "commenters") 1214, Value.str (Str.ofString "debug") 1215, Value.str (Str.ofString "eof") 1216, Value.str (Str.ofString "escape") 1217, Value.str (Str.ofString "escapedquotes") 1218, Value.str (Str.ofString "filestack") 1219, Value.str (Str.ofString "infile") 1220, Value.str (Str.ofString "instream") 1221, Value.str (Str.ofString "lineno") 1222, Value.str (Str.ofString "posix") 1223, Value.str (Str.ofString "pushback") 1224, Value.str (Str.ofString "quotes") 1225, Value.str (Str.ofString "source") 1226, Value.str (Str.ofString "state") 1227, Value.str (Str.ofString "token") 1228, Value.str (Str.ofString "whitespace") 1229, Value.str (Str.ofString "whitespace_split") 1230, Value.str (Str.ofString "wordchars") 1231] }) ::
  (nat_lit 738, { cls := Value.type "dict", data := Data.dict #[{ hash := PyData.keyHash P (Str.ofString "__module__"), key := Value.str (Str.ofString "__module__") 1108, val := Value.str (Str.ofString "cpy313.shlex") 1099 }, { hash := PyData.keyHash P (Str.ofString "__firstlineno__"), key := Value.str (Str.ofString "__firstlineno__") 1112, val := Value.int 481 1111 }, { hash := PyData.keyHash P (Str.ofString "__init__"), key := Value.str (Str.ofString "__init__") 1124, val := Value.ref 663 }, { hash := PyData.keyHash P (Str.ofString "punctuation_chars"), key := Value.str (Str.ofString "punctuation_chars") 1132, val := Value.ref 671 }, { hash := PyData.keyHash P (Str.ofString "push_token"), key := Value.str (Str.ofString "push_token") 1140, val := Value.ref 678 }, { hash := PyData.keyHash P (Str.ofString "push_source"), key := Value.str (Str.ofString "push_source") 1149, val := Value.ref 686 }, { hash := PyData.keyHash P (Str.ofString "pop_source"), key := Value.str (Str.ofString "pop_source") 1156, val := Value.ref 693 }, { hash := PyData.keyHash P (Str.ofString "get_token"), key := Value.str (Str.ofString "get_token") 1168, val := Value.ref 700 }, { hash := PyData.keyHash P (Str.ofString "read_token"), key := Value.str (Str.ofString "read_token") 1179, val := Value.ref 707 }, { hash := PyData.keyHash P (Str.ofString "sourcehook"), key := Value.str (Str.ofString "sourcehook") 1187, val := Value.ref 714 }, { hash := PyData.keyHash P (Str.ofString "error_leader"), key := Value.str (Str.ofString "error_leader") 1196, val := Value.ref 722 }, { hash := PyData.keyHash P (Str.ofString "__iter__"), key := Value.str (Str.ofString "__iter__") 1203, val := Value.ref 729 }, { hash := PyData.keyHash P (Str.ofString "__next__"), key := Value.str (Str.ofString "__next__") 1211, val := Value.ref 736 }, { hash := PyData.keyHash P (Str.ofString "__static_attributes__"), key := Value.str (Str.ofString "__static_attributes__") 1232, val := Value.ref 737 }, { hash := PyData.keyHash P (Str.ofString "__dict__"), key := Value.str (Str.ofString "__dict__") 1234, val := Value.ref 740 }, { hash := PyData.keyHash P (Str.ofString "__weakref__"), key := Value.str (Str.ofString "__weakref__") 1236, val := Value.ref 741 }, { hash := PyData.keyHash P (Str.ofString "__doc__"), key := Value.str (Str.ofString "__doc__") 1237, val := Value.none }] 4 }) ::
  (nat_lit 739, { cls := Value.type "type", data := Data.cls { name := Str.ofString "shlex", bases := [Value.type "object"], mro := [Value.ref 739, Value.type "object"], ns := 738, qualname := Str.ofString "shlex" }, slots := #[none, none, some (Value.str (Str.ofString "shlex") 1101), some (Value.str (Str.ofString "shlex") 1109), some (Value.builtin "object.__new__"), some (Value.bool true)] }) ::
  (nat_lit 740, { cls := Value.type "getset_descriptor", data := Data.fields #[Value.str (Str.ofString "__dict__") 1233, Value.ref 739, Value.builtin "function.__dict__", Value.builtin "function.__dict__#set"] }) ::
  (nat_lit 741, { cls := Value.type "getset_descriptor", data := Data.fields #[Value.str (Str.ofString "__weakref__") 1235, Value.ref 739, Value.builtin "ExceptionGroup.__weakref__", Value.none] }) ::
  (nat_lit 744, { cls := Value.type "tuple", data := Data.seq #[Value.bool false, Value.bool true] }) ::
  (nat_lit 745, { cls := Value.type "tuple", data := Data.seq #[] }) ::
  (nat_lit 747, { cls := Value.type "tuple", data := Data.seq #[Value.str (Str.ofString "s") 1243, Value.str (Str.ofString "comments") 1244, Value.str (Str.ofString "posix") 1245, Value.str (Str.ofString "lex") 1246] }) ::
  (nat_lit 748, { cls := Value.type "tuple", data := Data.seq #[] }) ::
  (nat_lit 750, { cls := Value.type "code", data := Data.fields #[Value.str (Str.ofString "split") 1240, Value.str (Str.ofString "split") 1241, Value.str (Str.ofString "/claim/cut.py") 1242, Value.int 733 0, Value.int 3 0, Value.int 0 0, Value.int 0 0, Value.int 3 0, Value.ref 745, Value.bool true, Value.int 318 0, Value.ref 746, Value.none, Value.ref 747, Value.ref 748, Value.ref 749, Value.int 1247 0, Value.int 733 0, Value.str (Str.ofString "/claim/cut.py") 1248] }) ::
  (nat_lit 751, { cls := Value.type "function", data := Data.func { name := Str.ofString "split", qualname := Str.ofString "split", params := p751, body := FuncBody.stmts b751, scope := s751, globals := 3, closure := [], defaults := Value.ref 744, kwdefaults := Value.none, pyModule := Value.str (Str.ofString "cpy313.shlex") 1099, code := Value.ref 750 } }) ::
  (nat_lit 752, { cls := Value.type "tuple", data := Data.seq #[] }) ::
  (nat_lit 754, { cls := Value.type "tuple", data := Data.seq #[Value.str (Str.ofString "split_command") 1253] }) ::
  (nat_lit 755, { cls := Value.type "tuple", data := Data.seq #[] }) ::
  (nat_lit 757, { cls := Value.type "code", data := Data.fields #[Value.str (Str.ofString "join") 1250, Value.str (Str.ofString "join") 1251, Value.str (Str.ofString "/claim/cut.py") 1252, Value.int 741 0, Value.int 1 0, Value.int 0 0, Value.int 0 0, Value.int 3 0, Value.ref 752, Value.bool true, Value.int 318 0, Value.ref 753, Value.none, Value.ref 754, Value.ref 755, Value.ref 756, Value.int 1254 0, Value.int 741 0, Value.str (Str.ofString "/claim/cut.py") 1255] }) ::
  (nat_lit 758, { cls := Value.type "function", data := Data.func { name := Str.ofString "join", qualname := Str.ofString "join", params := p758, body := FuncBody.stmts b758, scope := s758, globals := 3, closure := [], defaults := Value.none, kwdefaults := Value.none, pyModule := Value.str (Str.ofString "cpy313.shlex") 1099, code := Value.ref 757 } }) ::
  (nat_lit 759, { cls := Value.type "builtin_function_or_method", data := Data.fields #[Value.builtin "re.Pattern.search", Value.ref 56] }) ::
  (nat_lit 760, { cls := Value.type "tuple", data := Data.seq #[] }) ::
  (nat_lit 762, { cls := Value.type "tuple", data := Data.seq #[Value.str (Str.ofString "s") 1263] }) ::
  (nat_lit 763, { cls := Value.type "tuple", data := Data.seq #[] }) ::
  (nat_lit 765, { cls := Value.type "code", data := Data.fields #[Value.str (Str.ofString "quote") 1260, Value.str (Str.ofString "quote") 1261, Value.str (Str.ofString "/claim/cut.py") 1262, Value.int 745 0, Value.int 1 0, Value.int 0 0, Value.int 0 0, Value.int 3 0, Value.ref 760, Value.bool true, Value.int 318 0, Value.ref 761, Value.none, Value.ref 762, Value.ref 763, Value.ref 764, Value.int 1264 0, Value.int 745 0, Value.str (Str.ofString "/claim/cut.py") 1265] }) ::
  (nat_lit 766, { cls := Value.type "function", data := Data.func { name := Str.ofString "quote", qualname := Str.ofString "quote", params := p766, body := FuncBody.stmts b766, scope := s766, globals := 3, closure := [], defaults := Value.none, kwdefaults := Value.none, pyModule := Value.str (Str.ofString "cpy313.shlex") 1099, code := Value.ref 765 } }) ::
  (nat_lit 767, { cls := Value.type "tuple", data := Data.seq #[] }) ::
  (nat_lit 769, { cls := Value.type "tuple", data := Data.seq #[Value.str (Str.ofString "x") 1272] }) ::
  (nat_lit 770, { cls := Value.type "tuple", data := Data.seq #[] }) ::
  (nat_lit 772, { cls := Value.type "code", data := Data.fields #[Value.str (Str.ofString "_law_class") 1269, Value.str (Str.ofString "_law_class") 1270, Value.str (Str.ofString "/claim/cut.py") 1271, Value.int 752 0, Value.int 1 0, Value.int 0 0, Value.int 0 0, Value.int 3 0, Value.ref 767, Value.bool true, Value.int 318 0, Value.ref 768, Value.none, Value.ref 769, Value.ref 770, Value.ref 771, Value.int 1273 0, Value.int 752 0, Value.str (Str.ofString "/claim/cut.py") 1274] }) ::
  (nat_lit 773, { cls := Value.type "function", data := Data.func { name := Str.ofString "_law_class", qualname := Str.ofString "_law_class", params := p773, body := FuncBody.stmts b773, scope := s773, globals := 3, closure := [], defaults := Value.none, kwdefaults := Value.none, pyModule := Value.str (Str.ofString "law_ij0133_01") 1267, code := Value.ref 772 } }) ::
  (nat_lit 774, { cls := Value.type "tuple", data := Data.seq #[] }) ::
  (nat_lit 776, { cls := Value.type "tuple", data := Data.seq #[Value.str (Str.ofString "x") 1279, Value.str (Str.ofString "opening") 1280, Value.str (Str.ofString "middle") 1281, Value.str (Str.ofString "ending") 1282] }) ::
  (nat_lit 777, { cls := Value.type "tuple", data := Data.seq #[] }) ::
  (nat_lit 779, { cls := Value.type "code", data := Data.fields #[Value.str (Str.ofString "_law_name") 1276, Value.str (Str.ofString "_law_name") 1277, Value.str (Str.ofString "/claim/cut.py") 1278, Value.int 754 0, Value.int 1 0, Value.int 0 0, Value.int 0 0, Value.int 3 0, Value.ref 774, Value.bool true, Value.int 318 0, Value.ref 775, Value.none, Value.ref 776, Value.ref 777, Value.ref 778, Value.int 1283 0, Value.int 754 0, Value.str (Str.ofString "/claim/cut.py") 1284] }) ::
  (nat_lit 780, { cls := Value.type "function", data := Data.func { name := Str.ofString "_law_name", qualname := Str.ofString "_law_name", params := p780, body := FuncBody.stmts b780, scope := s780, globals := 3, closure := [], defaults := Value.none, kwdefaults := Value.none, pyModule := Value.str (Str.ofString "law_ij0133_01") 1267, code := Value.ref 779 } }) ::
  (nat_lit 781, { cls := Value.type "tuple", data := Data.seq #[] }) ::
  (nat_lit 783, { cls := Value.type "tuple", data := Data.seq #[Value.str (Str.ofString "owner") 1289, Value.str (Str.ofString "written") 1290] }) ::
  (nat_lit 784, { cls := Value.type "tuple", data := Data.seq #[] }) ::
  (nat_lit 786, { cls := Value.type "code", data := Data.fields #[Value.str (Str.ofString "_law_hidden") 1286, Value.str (Str.ofString "_law_hidden") 1287, Value.str (Str.ofString "/claim/cut.py") 1288, Value.int 759 0, Value.int 2 0, Value.int 0 0, Value.int 0 0, Value.int 3 0, Value.ref 781, Value.bool true, Value.int 318 0, Value.ref 782, Value.none, Value.ref 783, Value.ref 784, Value.ref 785, Value.int 1291 0, Value.int 759 0, Value.str (Str.ofString "/claim/cut.py") 1292] }) ::
  (nat_lit 787, { cls := Value.type "function", data := Data.func { name := Str.ofString "_law_hidden", qualname := Str.ofString "_law_hidden", params := p787, body := FuncBody.stmts b787, scope := s787, globals := 3, closure := [], defaults := Value.none, kwdefaults := Value.none, pyModule := Value.str (Str.ofString "law_ij0133_01") 1267, code := Value.ref 786 } }) ::
  (nat_lit 788, { cls := Value.type "tuple", data := Data.seq #[] }) ::
  (nat_lit 790, { cls := Value.type "tuple", data := Data.seq #[Value.str (Str.ofString "owner") 1297, Value.str (Str.ofString "hidden") 1298, Value.str (Str.ofString "tails") 1299, Value.str (Str.ofString "k") 1300] }) ::
  (nat_lit 791, { cls := Value.type "tuple", data := Data.seq #[] }) ::
  (nat_lit 793, { cls := Value.type "code", data := Data.fields #[Value.str (Str.ofString "_law_tails") 1294, Value.str (Str.ofString "_law_tails") 1295, Value.str (Str.ofString "/claim/cut.py") 1296, Value.int 763 0, Value.int 2 0, Value.int 0 0, Value.int 0 0, Value.int 3 0, Value.ref 788, Value.bool true, Value.int 318 0, Value.ref 789, Value.none, Value.ref 790, Value.ref 791, Value.ref 792, Value.int 1301 0, Value.int 763 0, Value.str (Str.ofString "/claim/cut.py") 1302] }) ::
  (nat_lit 794, { cls := Value.type "function", data := Data.func { name := Str.ofString "_law_tails", qualname := Str.ofString "_law_tails", params := p794, body := FuncBody.stmts b794, scope := s794, globals := 3, closure := [], defaults := Value.none, kwdefaults := Value.none, pyModule := Value.str (Str.ofString "law_ij0133_01") 1267, code := Value.ref 793 } }) ::
  (nat_lit 795, { cls := Value.type "tuple", data := Data.seq #[] }) ::
  (nat_lit 797, { cls := Value.type "tuple", data := Data.seq #[Value.str (Str.ofString "lines") 1307, Value.str (Str.ofString "bodies") 1308, Value.str (Str.ofString "line") 1309, Value.str (Str.ofString "words") 1310, Value.str (Str.ofString "short") 1311, Value.str (Str.ofString "word") 1312] }) ::
  (nat_lit 798, { cls := Value.type "tuple", data := Data.seq #[] }) ::
  (nat_lit 800, { cls := Value.type "code", data := Data.fields #[Value.str (Str.ofString "_law_read") 1304, Value.str (Str.ofString "_law_read") 1305, Value.str (Str.ofString "/claim/cut.py") 1306, Value.int 769 0, Value.int 1 0, Value.int 0 0, Value.int 0 0, Value.int 3 0, Value.ref 795, Value.bool true, Value.int 318 0, Value.ref 796, Value.none, Value.ref 797, Value.ref 798, Value.ref 799, Value.int 1313 0, Value.int 769 0, Value.str (Str.ofString "/claim/cut.py") 1314] }) ::
  (nat_lit 801, { cls := Value.type "function", data := Data.func { name := Str.ofString "_law_read", qualname := Str.ofString "_law_read", params := p801, body := FuncBody.stmts b801, scope := s801, globals := 3, closure := [], defaults := Value.none, kwdefaults := Value.none, pyModule := Value.str (Str.ofString "law_ij0133_01") 1267, code := Value.ref 800 } }) ::
  (nat_lit 802, { cls := Value.type "tuple", data := Data.seq #[] }) ::
  (nat_lit 805, { cls := Value.type "code", data := Data.fields #[Value.str (Str.ofString "law") 1316, Value.str (Str.ofString "law") 1317, Value.str (Str.ofString "/claim/cut.py") 1318, Value.int 781 0, Value.int 1 0, Value.int 0 0, Value.int 0 0, Value.int 3 0, Value.ref 802, Value.bool true, Value.int 318 0, Value.ref 803, Value.none, Value.none, Value.none, Value.ref 804, Value.int 1319 0, Value.int 781 0, Value.str (Str.ofString "/claim/cut.py") 1320] }) ::
  (nat_lit 806, { cls := Value.type "function", data := Data.func { name := Str.ofString "law", qualname := Str.ofString "law", params := p806, body := FuncBody.stmts b806, scope := s806, globals := 3, closure := [], defaults := Value.none, kwdefaults := Value.none, pyModule := Value.str (Str.ofString "law_ij0133_01") 1267, code := Value.ref 805 } }) :: [])
 _ _ _ rfl _ _ _ rfl _ _ _ rfl _ _ _ rfl _ _ _ rfl _ _ _ rfl _ _ _ rfl _ _ _ rfl _ _ _ rfl _ _ _ rfl _ _ _ rfl _ _ _ rfl _ _ _ rfl _ _ _ rfl _ _ _ rfl _ _ _ rfl _ _ _ rfl _ _ _ rfl _ _ _ rfl _ _ _ rfl _ _ _ rfl _ _ _ rfl _ _ _ rfl _ _ _ rfl _ _ _ rfl _ _ _ rfl _ _ _ rfl _ _ _ rfl _ _ _ rfl _ _ _ rfl _ _ _ rfl _ _ _ rfl _ _ _ rfl _ _ _ rfl _ _ _ rfl _ _ _ rfl _ _ _ rfl _ _ _ rfl _ _ _ rfl _ _ _ rfl _ _ _ rfl _ _ _ rfl _ _ _ rfl _ _ _ rfl _ _ _ rfl _ _ _ rfl _ _ _ rfl _ _ _ rfl _ _ _ rfl _ _ _ rfl _ _ _ rfl _ _ _ rfl _ _ _ rfl _ _ _ rfl _ _ _ rfl _ _ _ rfl _ _ _ rfl _ _ _ rfl _ _ _ rfl _ _ _ rfl _ _ _ rfl _ _ _ rfl _ _ _ rfl _ _ _ rfl _ _ _ rfl _ _ _ rfl _ _ _ rfl _ _ _ rfl _ _ _ rfl _ _ _ rfl _ _ _ rfl _ _ _ rfl _ _ _ rfl _ _ _ rfl _ _ _ rfl _ _ _ rfl _ _ _ rfl _ _ _ rfl _ _ _ rfl _ _ _ rfl _ _ _ rfl _ _ _ rfl _ _ _ rfl _ _ _ rfl _ _ _ rfl _ _ _ rfl _ _ _ rfl _ _ _ rfl _ _ _ rfl _ _ _ rfl _ _ _ rfl _ _ _ rfl _ _ _ rfl

theorem warm (w : World) : Challenge.rw_ij0133_01 = Challenge.rw_ij0133_01 ∧ Mine.K w.params = Mine.K w.params := by
  k_fill
  exact ⟨rfl, rfl⟩

theorem gen_toks {α : Type} {M : Model} {A : Around} {t : Sem α} {Q : α → Shared → Prop} {E : Value → Shared → Prop} {h g d a b os} (H : ∀ tk, wpAny M A t Q E ⟨h, g, d, tk, os⟩) : wpAny M A t Q E ⟨h, g, d, a + b, os⟩ := H _

/-- a contract: the def at f, called with vs, hands back a value with P; what stood stands -/
noncomputable abbrev Ctr (w : World) (vw : Program) (loose : List Str) (mean : ExcName → Option Value) (mg mb : Str → Option Value) (f : Addr) (vs : List Value) (d u : Nat) (P : Heap → Value → Heap → Prop) : Prop :=
  ∀ (dp un : Nat) (gd : Option (List Code)) (cn : Str) (cs : Scope) (a : Addr) (ccd : Value) (cl : List (Str × Addr)) (outer : List Env) (A₀ : Around) (base h₀ : Heap) (L : Addr) (m : Str → Option Value) (s : Shared) (Q E : Value → Shared → Prop),
    Below A₀ base outer h₀ → Fr h₀ L s.heap m → (Mine.K w.params).In h₀ → Top vw loose mean mg mb h₀ → cs.kind = .function →
    dp + d < recursionLimit → un + u < cLine →
    (∀ (v : Value) (h' : Heap) (tk' : Nat), (∀ b o, s.heap.get? b = some o → h'.get? b = some o) → P s.heap v h' → Q v { s with heap := h', toks := tk' }) →
      wpAny (model Challenge.rw_ij0133_01.row.prog w) (ktrTop dp un gd cn cs L a ccd cl outer) (call (.ref f) vs) Q E s

/-- an end's plain part, out of the walk's sight -/
noncomputable def Hold (P : Prop) : Prop := P
theorem Hold.mk {P : Prop} (h : P) : Hold P := h
theorem Hold.out {P : Prop} (h : Hold P) : P := h
section
variable {M : Model} {A : Around} {E : Value → Shared → Prop} {s : Shared} {env : Env} {st : Stmt} {rest : List Stmt} {Q : Flow → Shared → Prop}
/-- what stands behind a statement: the rest of its block -/
noncomputable def consQ (M : Model) (A : Around) (env : Env) (E : Value → Shared → Prop) (rest : List Stmt) (Q : Flow → Shared → Prop) : Flow → Shared → Prop :=
  fun f s' => match f with | .next => wpAny M A (execs rest env) Q E s' | f => Q f s'
theorem execs_consQ (h : wpAny M A (exec st env) (consQ M A env E rest Q) E s) : wpAny M A (execs (st :: rest) env) Q E s := wpAny_execs_cons h
theorem execs_one (h : wpAny M A (exec st env) Q E s) : wpAny M A (execs [st] env) Q E s :=
  wpAny_execs_cons (wpAny_mono h (fun f s' hq => by cases f <;> first | exact wpAny_execs_nil hq | exact hq) fun _ _ h => h)
theorem consQ_next (h : wpAny M A (execs rest env) Q E s) : consQ M A env E rest Q .next s := h
theorem consQ_ret {v : Value} (h : Q (.ret v) s) : consQ M A env E rest Q (.ret v) s := h
theorem consQ_brk (h : Q .brk s) : consQ M A env E rest Q .brk s := h
theorem consQ_cont (h : Q .cont s) : consQ M A env E rest Q .cont s := h
end
theorem room_of {d c k R : Nat} (h : d + c < R) (e : k ≤ c) : d + k < R := Nat.lt_of_le_of_lt (Nat.add_le_add_left e d) h
theorem room_0 {d c R : Nat} (h : d + c < R) : d < R := Nat.lt_of_le_of_lt (Nat.le_add_right d c) h
theorem room_a {a b c R : Nat} (h : a + (b + c) < R) : a + b + c < R := by rw [Nat.add_assoc]; exact h
theorem andL {zzp zzq : Prop} (zzh : zzp ∧ zzq) : zzp := zzh.1
theorem andR {zzp zzq : Prop} (zzh : zzp ∧ zzq) : zzq := zzh.2
theorem ltT {zzn zzm zzk : Nat} (zzh : zzn < zzm) (zzi : zzm < zzk) : zzn < zzk := Nat.lt_trans zzh zzi
theorem andG {zza zzx zzb : Nat} {zzr : Prop} (_ : zzx < zzb ∧ zzr) (zzi : zza < zzb) : zza < zzb := zzi
local macro_rules | `(tactic| walk_at "rm") => `(tactic| first | exact room_0 (by with_reducible assumption) | ((repeat (with_reducible refine room_a ?_)); exact room_of (by with_reducible assumption) (by decide)) | omega)
local macro_rules | `(tactic| k_room) => `(tactic| ((try simp only [depth_under_make, depth_under_kw, depth_in1, depth_deeper, depth_caller]); (try dsimp only [ktrTop]); walk_at "rm"))
local macro_rules | `(tactic| k_units) => `(tactic| ((try simp only [units_in1, units_deeper, Around.mark_units, units_caller]); (try dsimp only [ktrTop]); walk_at "rm"))
local macro_rules | `(tactic| k_all) => `(tactic| assumption)
local macro_rules | `(tactic| walk_at "ltc") => `(tactic| ((fail_if_success (fail_if_success (refine' andG ?zzh ?zzi; (case zzh => with_reducible assumption)))); first | (refine' andL ?zzh; (case zzh => (iterate 18 (try (first | with_reducible assumption | apply andR))); done)) | (apply andR; (iterate 18 (try (first | with_reducible assumption | apply andR))); done)))
local macro_rules | `(tactic| walk_at "lts") => `(tactic| first | with_reducible assumption | walk_at "ltc" | walk_at "lt2")
local macro_rules | `(tactic| walk_at "lt2") => `(tactic| first | (refine' ltT ?zzh ?zzi; (case zzh => with_reducible assumption); walk_at "lts") | (refine' ltT ?zzh ?zzi; (case zzi => with_reducible assumption); walk_at "ltc"))
local macro_rules | `(tactic| k_ne) => `(tactic| (refine neN ?_; (try dsimp only); first | with_reducible assumption | (refine Ne.symm ?_; with_reducible assumption) | exact Nat.ne_of_lt (by with_reducible assumption) | exact Nat.ne_of_gt (by with_reducible assumption) | (refine Nat.ne_of_lt ?_; walk_at "ltc") | (refine Nat.ne_of_gt ?_; walk_at "ltc") | (refine Nat.ne_of_lt ?_; walk_at "lt2") | (refine Nat.ne_of_gt ?_; walk_at "lt2") | omega))
local macro_rules | `(tactic| cell_enter) => `(tactic| (refine' code_defG ?k1 ?k2 ?k3 ?k4 ?k5 ?kA ?kF ?kK ?k6 ?k7 ?k8 ?k9 ?kB ?_ ?c2 ?c3 ?c4 ?c5; (case kA | kF => exact rfl); (case kK => first | exact rfl | assumption); (case k1 | k2 | k3 | k4 | k5 => k_asm); (case k6 | k7 => k_is); (case k8 => k_room); (case k9 => first | exact BindsTo.of_eq rfl | exact binds_K (by k_in) rfl (by k_is) rfl rfl rfl); (case c5 => decide); (case kB => exact locs rfl); (case c2 | c3 | c4 => exact rfl); k_whole; intro g' L' h' FG' F' N' B' X' T' G'; (try dsimp only); (try k_lift B'); (try k_fold)))
section
variable {w : World}
open PySem.Builtin
theorem c604_made {h : Heap} (X : (Mine.K w.params).In h) : Looks (model Challenge.rw_ij0133_01.row.prog w) h (Bind.madeBy (.ref 604)) none := Looks.of_peek X (by kernel_rfl)
theorem c604_call {h : Heap} (X : (Mine.K w.params).In h) : Looks (model Challenge.rw_ij0133_01.row.prog w) h (specialOf (.ref 604) "__call__") (some (.builtin "type.__call__")) := Looks.of_peek X (by kernel_rfl)
theorem c604_typ {h : Heap} (X : (Mine.K w.params).In h) : Looks (model Challenge.rw_ij0133_01.row.prog w) h (isInstance (.ref 604) (.type "type")) true := Looks.of_peek X (by kernel_rfl)
theorem c604_self {h : Heap} (X : (Mine.K w.params).In h) : Looks (model Challenge.rw_ij0133_01.row.prog w) h (isSubtype (.ref 604) (.ref 604)) true := Looks.of_peek X (by kernel_rfl)
theorem c604_init {h : Heap} (X : (Mine.K w.params).In h) : Looks (model Challenge.rw_ij0133_01.row.prog w) h (typeLookup (.ref 604) "__init__") (some (.ref 374)) := Looks.of_peek X (by kernel_rfl)
theorem c604_is {h : Heap} (X : (Mine.K w.params).In h) : Looks (model Challenge.rw_ij0133_01.row.prog w) h (isType (.ref 604)) true := Looks.of_peek X (by kernel_rfl)
theorem c604_here {h : Heap} (X : (Mine.K w.params).In h) : Looks (model Challenge.rw_ij0133_01.row.prog w) h (Bind.madeHere "object.__new__" (.ref 604)) () := Looks.of_peek X (by kernel_rfl)
theorem c604_check {h : Heap} (X : (Mine.K w.params).In h) : Looks (model Challenge.rw_ij0133_01.row.prog w) h (checkBuiltinCall "object.__new__" ⟨[.ref 604], []⟩) () := Looks.of_peek X (by kernel_rfl)
noncomputable def clsOk (K : Frag) (C : Addr) : Bool := match K.lookup C with
  | some ⟨_, _, .cls cd, _⟩ => !cd.abstract && !cd.hasDel && !cd.mro.isEmpty
  | _ => false
theorem clsOk_of {K : Frag} {h : Heap} {C : Addr} (X : K.In h) (e : clsOk K C = true) : ∃ oc od cd sl, h.get? C = some ⟨oc, od, .cls cd, sl⟩ ∧ cd.abstract = false ∧ cd.hasDel = false ∧ cd.mro.isEmpty = false := by
  unfold clsOk at e
  split at e
  · rename_i oc od cd sl ho
    simp only [Bool.and_eq_true, Bool.not_eq_true'] at e
    exact ⟨oc, od, cd, sl, X _ _ ho, e.1.1, e.1.2, e.2⟩
  · cases e
theorem c604_ok : clsOk (Mine.K w.params) 604 = true := by kernel_rfl

theorem new604 {A : Around} {R : Result → Shared → Prop} {h : Heap} {g d t os} (X : (Mine.K w.params).In h)
    (hq : R (.ok (.ret (.ref (h.objs.size + 1)))) ⟨(h.push emptyDict).push (instObj 604 h.objs.size), g, d, t, os⟩) :
    codeAny (model Challenge.rw_ij0133_01.row.prog w) A (.call (.builtin "object.__new__") ⟨[.ref 604], []⟩) R ⟨h, g, d, t, os⟩ := by
  have F := PySem.F.objNew
  obtain ⟨oc, od, cd, sl, hC, e1, e2, e4⟩ := clsOk_of X c604_ok
  refine codeAny_call_builtin_code (Code.quiet_builtin _ F.quiet) ?_
  refine (c604_check X).at ?_
  refine codeAny_builtin F.entry ?_
  unfold Builtin.«object.__new__»
  have hi := c604_is X
  have hh := c604_here X
  repeat lk
  simp only [e1, Bool.false_eq_true, if_false]
  show wpAny _ _ ((alloc emptyDict >>= fun x => pure (some x)) >>= _) _ _ _
  refine wpAny_bind (wpAny_bind (wpAny_alloc (wpAny_pure (wpAny_bind ?_))))
  show wpAny _ _ (newObjAsIs _ _ _) _ _ _
  unfold newObjAsIs classHasDel
  refine wpAny_bind (wpAny_alloc (wpAny_bind (wpAny_bind (wpAny_load (Heap.get?_push_of_some _ (Heap.get?_push_of_some _ hC)) (wpAny_pure ?_)))))
  rw [e2]
  refine wpAny_pure (wpAny_pure ?_)
  show R _ _
  rw [Heap.size_push]
  exact hq

/-- what stands behind the own __new__: the object's class is looked at, its __init__ called -/
noncomputable def NewBack (M : Model) (A' : Around) (C fI : Addr) (rest : List Value) (kw : List (Str × Value)) (R : Result → Shared → Prop) (v : Value) (s' : Shared) : Prop :=
  ∃ x, v = .ref x ∧ Looks M s'.heap (typeOf (.ref x)) (.ref C) ∧ codeAny M A' (.call (.ref fI) ⟨.ref x :: rest, kw⟩) (InitBack x R) s'

theorem make604 {A : Around} {R : Result → Shared → Prop} {s : Shared} {rest : List Value} {kw : List (Str × Value)} (X : (Mine.K w.params).In s.heap)
    (hq : wpAny (model Challenge.rw_ij0133_01.row.prog w) (A.under (.builtin "type.__call__" ⟨.ref 604 :: rest, kw⟩)) (getAttr (.ref 604) "__new__") (fun new s₁ =>
        wpAny (model Challenge.rw_ij0133_01.row.prog w) (A.under (.builtin "type.__call__" ⟨.ref 604 :: rest, kw⟩)) (call new (.ref 604 :: rest) kw)
          (fun v s₂ => (Mine.K w.params).In s₂.heap ∧ NewBack (model Challenge.rw_ij0133_01.row.prog w) (A.under (.builtin "type.__call__" ⟨.ref 604 :: rest, kw⟩)) 604 374 rest kw R v s₂) (fun e s₂ => R (.error e) s₂) s₁) (fun e s₁ => R (.error e) s₁) s) :
    codeAny (model Challenge.rw_ij0133_01.row.prog w) A (.call (.ref 604) ⟨rest, kw⟩) R s := by
  obtain ⟨h, g, d, t, os⟩ := s
  obtain ⟨oc, od, cd, sl, hC, e1, e2, e4⟩ := clsOk_of X c604_ok
  refine codeAny_of_tree ?_
  show wpAny _ _ (callAny (.ref 604) _) _ _ _
  refine nd_load hC ?_
  show wpAny _ _ (callAny.viaDunder (.ref 604) _) _ _ _
  unfold callAny.viaDunder
  refine wpAny_bind ((c604_call X).at ?_)
  dsimp only
  rw [tc_bind]
  refine wpAny_bind (wpAny_pure (wpAny_bind (wpAny_pure ?_)))
  refine wpAny_pure (a := Fin.again (.call (.builtin "type.__call__") ⟨.ref 604 :: rest, kw⟩)) (And.intro rfl ?_)
  refine codeAny_call_builtin_at (Code.quiet_builtin _ (by decide +kernel)) entry_typeCall (check_slot tc_kind tc_split (c604_typ X) (tc_args _ _ _) ?_)
  unfold Builtin.«type.__call__»
  have hm : Looks (model Challenge.rw_ij0133_01.row.prog w) h (mroOf (.ref 604)) cd.mro := ((Looks.ld (part := none) hC).andThen .now).andThen .now
  have hmade := c604_made X
  repeat ((fail_if_success (with_reducible show wpAny _ _ (getAttr _ _ _) _ _ _)); first | simp only [e4, Bool.false_eq_true, if_false] | with_reducible refine wpAny_call ?_ | lk)
  refine wpAny_mono hq (fun new s₁ z => ?_) (fun _ _ z => z)
  refine wpAny_bind (wpAny_holding (wpAny_mono z (fun v s₂ y => ?_) (fun _ _ y => y)))
  obtain ⟨X₂, x, rfl, t1, hc⟩ := y
  obtain ⟨h, g, d, t, os⟩ := s₂
  have s1 := c604_self X₂
  have i1 := c604_init X₂
  have b1 : Looks (model Challenge.rw_ij0133_01.row.prog w) h (bindSpecial (.ref 374) (.ref x)) (.ref 374, [.ref x]) := bind_fn X₂ _ (by k_is)
  unfold isInstance callSpecial? specialOf
  repeat (first | with_reducible refine wpAny_call ?_ | lk)
  refine codeAny_mono hc fun r s' z => ?_
  rcases r with e | (v | _ | _ | _) <;> first | exact z | exact z.elim | skip
  obtain ⟨rfl, z⟩ := z
  exact wpAny_pure (wpAny_pure z)

theorem new604_walk {A : Around} {Q : Value → Shared → Prop} {E : Value → Shared → Prop} {s : Shared} {h₀ : Heap} {L : Addr} {m : Str → Option Value} {news : List (Addr × Obj)}
    (F : Fr h₀ L s.heap m) (N : News h₀ L s.heap news) (X₀ : (Mine.K w.params).In h₀)
    (hq : ∀ x dx h', Fr h₀ L h' m → News h₀ L h' ((x, instObj 604 dx) :: (dx, dictOf [] 0) :: news) → (∀ p ∈ news, p.1 < dx) → dx < x → Q (.ref x) { s with heap := h' }) :
    wpAny (model Challenge.rw_ij0133_01.row.prog w) A (call (.builtin "object.__new__") [.ref 604]) Q E s := by
  obtain ⟨hh, g, d, t, os⟩ := s
  refine wpAny_call (new604 (X₀.keeps F.keep) (hq _ hh.objs.size _ ((F.push _).push _) ?_ (fun p hp => Heap.lt_size (N p hp).1) (Nat.lt_succ_self _)))
  have := (N.push F emptyDict).push (F.push _) (instObj 604 hh.objs.size)
  rwa [Heap.size_push] at this
theorem newBack {M : Model} {A' : Around} {x dx fI : Addr} {rest : List Value} {kw : List (Str × Value)} {R : Result → Shared → Prop} {s : Shared} {h₀ : Heap} {L : Addr} {news : List (Addr × Obj)}
    (N : News h₀ L s.heap news) (hm : (x, instObj 604 dx) ∈ news) (h : codeAny M A' (.call (.ref fI) ⟨.ref x :: rest, kw⟩) (InitBack x R) s) : NewBack M A' 604 fI rest kw R (.ref x) s :=
  ⟨x, rfl, (Looks.ld (N _ hm).1).andThen .now, h⟩
end
section
open PySem.Builtin
noncomputable abbrev dqObj : Obj := { cls := .type "collections.deque", data := .fields #[.none, rawInt 0] }
theorem dq_mro : mroOf (.type "collections.deque") = pure [.type "collections.deque", .type "object"] := by rw [mroOf_type]; kernel_rfl
theorem dq_look_new : typeLookup (.type "collections.deque") "__new__" = pure (some (.builtin "collections.deque.__new__")) := by rw [typeLookup_type, builtinLookup_eq_fast]; kernel_rfl
theorem dq_init : Slot "collections.deque" "__init__" "collections.deque.__init__" :=
  Slot.of (owner := "collections.deque") (n := "__init__") (by rw [typeLookup_type, builtinLookup_eq_fast]; kernel_rfl) (by decide +kernel) (by decide +kernel) (by decide +kernel) (.inl (by decide +kernel)) (by rw [isSubtype_type]; kernel_rfl)
theorem dq_len : Slot "collections.deque" "__len__" "collections.deque.__len__" :=
  Slot.of (owner := "collections.deque") (n := "__len__") (by rw [typeLookup_type, builtinLookup_eq_fast]; kernel_rfl) (by decide +kernel) (by decide +kernel) (by decide +kernel) (.inl (by decide +kernel)) (by rw [isSubtype_type]; kernel_rfl)
theorem dq_sub : isSubtype (.type "collections.deque") (.type "collections.deque") = pure true := by rw [isSubtype_type]; kernel_rfl
theorem dq_called : TypeCalled "collections.deque" "collections.deque.__new__" "collections.deque.__init__" :=
  ⟨by decide +kernel, by decide +kernel, ⟨_, _, dq_mro⟩, madeBy_type dq_mro dq_look_new (by decide +kernel), by decide +kernel, dq_sub, dq_init⟩
theorem dq_typeCall : checkTypeCall "collections.deque" ⟨[], []⟩ = pure () := by kernel_rfl
theorem dq_newCall : checkBuiltinCall "collections.deque.__new__" ⟨[.type "collections.deque"], []⟩ = pure () := by kernel_rfl
theorem dq_entry_new : entryFor table "collections.deque.__new__" = some Builtin.«collections.deque.__new__» := entryFor_of_tree (by kernel_rfl)
theorem dq_entry_init : entryFor table "collections.deque.__init__" = some Builtin.«collections.deque.__init__» := entryFor_of_tree (by kernel_rfl)
theorem dq_entry_len : entryFor table "collections.deque.__len__" = some Builtin.«collections.deque.__len__» := entryFor_of_tree (by kernel_rfl)
theorem dq_args_init (a : Value) : argsOk "collections.deque.__init__" ⟨[a], []⟩ := by unfold argsOk; kernel_rfl
theorem dq_args_len (a : Value) : argsOk "collections.deque.__len__" ⟨[a], []⟩ := by unfold argsOk; kernel_rfl
theorem dq_noBool : typeLookup (.type "collections.deque") "__bool__" = pure none := by rw [typeLookup_type, builtinLookup_eq_fast]; kernel_rfl

theorem dq_meets_new : Meets (Builtin.«collections.deque.__new__» ⟨[.type "collections.deque"], []⟩) (fun _ R s => R (.ok (.ret (.ref s.heap.objs.size))) { s with heap := s.heap.push dqObj }) := by
  refine Meets.of_wp fun prog w A R s hs => ?_
  have e : Builtin.«collections.deque.__new__» ⟨[.type "collections.deque"], []⟩ = (isSubtype (.type "collections.deque") (.type "collections.deque") >>= fun b => (if (!b) = true then (do
      rule (toString Deque.ty ++ toString ".__new__.not-a-subtype")
      let a ← typeName (.type "collections.deque")
      let b ← typeName (.type "collections.deque")
      raiseErrorMade "TypeError" (toString Deque.ty ++ toString ".__new__(" ++ toString a ++ toString "): " ++ toString b ++ toString " is not a subtype of " ++ toString Deque.ty)
      pure (.type "collections.deque", [])) else pure (.type "collections.deque", ([] : List Value))) >>= fun x => Deque.new x.1 #[] none >>= fun v => ret v) := by kernel_rfl
  rw [e, dq_sub]
  refine wpAny_bind (wpAny_pure (wpAny_bind (wpAny_pure (wpAny_bind ?_))))
  show wpAny _ _ (newObj (.type "collections.deque") (.fields #[.none, rawInt 0]) none) _ _ _
  exact wpAny_bind (wpAny_alloc (wpAny_pure (wpAny_pure ⟨_, rfl, hs⟩)))
theorem dq_meets_init (a : Addr) : Meets (Builtin.«collections.deque.__init__» ⟨[.ref a], []⟩) (fun _ R s => s.heap.get? a = some dqObj ∧ R (.ok (.ret .none)) { s with heap := s.heap.update a (Obj.mapFields fun vs => vs.setIfInBounds 0 .none) }) := by
  refine Meets.of_wp fun prog w A R s hs => ?_
  obtain ⟨ha, hs⟩ := hs
  have e : Builtin.«collections.deque.__init__» ⟨[.ref a], []⟩ = (setField (.ref a) 0 .none >>= fun _ => Deque.clear (.ref a) >>= fun _ => ret .none) := by kernel_rfl
  have ha' : (s.heap.update a (Obj.mapFields fun vs => vs.setIfInBounds 0 .none)).get? a = some dqObj := Heap.get?_update_self _ ha rfl
  rw [e]
  show wpAny _ _ (updateField a 0 .none >>= _) _ _ _
  unfold updateField
  refine wpAny_bind (wpAny_bind (wpAny_load ha ?_))
  dsimp only
  refine wpAny_update ha ?_
  unfold Deque.clear Deque.items fieldsOf
  refine wpAny_bind (wpAny_bind (wpAny_bind (wpAny_bind (wpAny_load ha' ?_))))
  refine wpAny_pure (wpAny_pure (wpAny_pure ?_))
  exact wpAny_pure ⟨_, rfl, hs⟩
theorem dq_meets_len (a : Addr) : Meets (Builtin.«collections.deque.__len__» ⟨[.ref a], []⟩) (fun _ R s => s.heap.get? a = some dqObj ∧ R (.ok (.ret (.int 0 s.toks))) { s with toks := s.toks + 1 }) := by
  refine Meets.of_wp fun prog w A R s hs => ?_
  obtain ⟨ha, hs⟩ := hs
  have e : Builtin.«collections.deque.__len__» ⟨[.ref a], []⟩ = (Deque.size (.ref a) >>= fun n => retInt n) := by kernel_rfl
  rw [e]
  unfold Deque.size fieldsOf
  refine wpAny_bind (wpAny_bind (wpAny_bind (wpAny_load ha ?_)))
  refine wpAny_pure (wpAny_pure ?_)
  exact wpAny_bind (wpAny_mkInt (wpAny_pure ⟨_, rfl, hs⟩))
section
variable {prog : Program} {w : World} {A : Around} {E : Value → Shared → Prop} {s : Shared} {h₀ : Heap} {L : Addr} {m : Str → Option Value} {news : List (Addr × Obj)}
theorem dq_make {Q : Value → Shared → Prop} (F : Fr h₀ L s.heap m) (N : News h₀ L s.heap news)
    (h : ∀ x h', Fr h₀ L h' m → News h₀ L h' ((x, dqObj) :: news) → (∀ p ∈ news, p.1 < x) → Q (.ref x) { s with heap := h' }) :
    wpAny (model prog w) A (call (.type "collections.deque") []) Q E s := by
  refine callType_meets (Q₁ := fun v s₁ => v = .ref s.heap.objs.size ∧ s₁ = { s with heap := s.heap.push dqObj }) dq_called dq_typeCall dq_newCall dq_entry_new dq_entry_init dq_meets_new ⟨rfl, rfl⟩ fun obj s₁ hq => ?_
  obtain ⟨rfl, rfl⟩ := hq
  have hx : (s.heap.push dqObj).get? s.heap.objs.size = some dqObj := Heap.get?_push_size _ rfl
  refine ⟨⟨_, hx, rfl⟩, dq_args_init _, _, dq_meets_init _, hx, rfl, ?_⟩
  obtain ⟨U1, U2⟩ := news_upd (pre := []) (f := Obj.mapFields fun vs => vs.setIfInBounds 0 .none) (F.push dqObj) (N.push F dqObj) (fun _ h => nomatch h) (fun p hp => Nat.ne_of_lt (Heap.lt_size (N p hp).1)) (o' := dqObj) rfl rfl
  exact h _ _ U1 U2 (fun p hp => Heap.lt_size (N p hp).1)
theorem dq_truthy {x : Addr} {Q : Bool → Shared → Prop} (N : News h₀ L s.heap news) (hm : (x, dqObj) ∈ news) (h : Q false { s with toks := s.toks + 1 + 1 }) : wpAny (model prog w) A (truthy (.ref x)) Q E s := by
  have ht := (N _ hm).1
  have hT : s.TypeIs (.ref x) "collections.deque" := ⟨_, ht, rfl⟩
  have body : wpAny (model prog w) A.in1 (Builtin.«len» ⟨[.ref x], []⟩) (fun fin s' => ∃ r, fin = .done (.ret r) ∧ (r = .int 0 (s.toks + 1) ∧ Q false s')) E s := by
    unfold Builtin.«len»
    refine wpAny_bind (m := oneArg "len" _) (wpAny_pure ?_)
    refine wpAny_bind (m := callSpecial? (.ref x) (Str.ofString "__len__")) (wpAny_callSpecial?_slot (name := Str.ofString "__len__") hT dq_len
      (call_meets dq_len hT dq_entry_len (dq_args_len _) (dq_meets_len x) ⟨ht, ?_⟩))
    show wpAny _ _ _ _ _ { s with toks := s.toks + 1 }
    refine wpAny_bind (wpAny_holding (wpAny_pure ?_))
    refine wpAny_bind (wpAny_letGo ?_)
    show wpAny _ _ (if (0 : Int) < 0 then _ else _) _ _ _
    rw [if_neg (by omega)]
    show wpAny _ _ (if (0 : Int) ≥ 2 ^ 63 then _ else _) _ _ _
    rw [if_neg (by omega)]
    exact wpAny_bind (wpAny_mkInt (wpAny_pure ⟨_, rfl, rfl, h⟩))
  have key : wpAny (model prog w) A (runValue (.builtin "len" ⟨[.ref x], []⟩)) (fun r s' => r = .int 0 (s.toks + 1) ∧ Q false s') E s := by
    refine wpAny_runValue (codeAny_builtin entry_len ?_)
    rw [Around.under_plainId plain_len _]
    exact wpAny_mono body (fun fin s' h' => by obtain ⟨r, rfl, hq⟩ := h'; exact hq) fun _ _ e => e
  unfold truthy
  refine wpAny_bind (wpAny_callSpecial?_none (name := Str.ofString "__bool__") hT dq_noBool ?_)
  refine wpAny_bind (wpAny_specialOf (name := Str.ofString "__len__") hT dq_len.lookup ?_)
  exact wpAny_bind (wpAny_mono key (fun r s' h' => by obtain ⟨rfl, hq⟩ := h'; exact wpAny_pure hq) fun _ _ e => e)
end
end
noncomputable abbrev ioEs (w : World) (k0 k1 k2 n0 tb tp : Tok) (b : Str) (p : Int) : List DictEntry :=
  [{ hash := PyData.keyHash w.params (Str.ofString "_StringIO__newline"), key := .str (Str.ofString "_StringIO__newline") k0, val := .str (Str.ofString "\n") n0 },
   { hash := PyData.keyHash w.params (Str.ofString "_StringIO__buf"), key := .str (Str.ofString "_StringIO__buf") k1, val := .str b tb },
   { hash := PyData.keyHash w.params (Str.ofString "_StringIO__pos"), key := .str (Str.ofString "_StringIO__pos") k2, val := .int p tp }]
theorem io_end {h₀ h g h' : Heap} {L L' y dy : Addr} {m' : Str → Option Value} {oy od od' : Obj} (N : News h₀ L h [(y, oy), (dy, od)]) (G : GSub h g [y, dy]) (F : Fr g L' h' m') (N' : News g L' h' [(y, oy), (dy, od')]) :
    ∀ q o, h.get? q = some o → q ≠ dy → h'.get? q = some o := by
  intro q o e hne
  by_cases hy : q = y
  · subst hy
    have h1 := (N (q, oy) (by simp)).1
    have h2 := (N' (q, oy) (by simp)).1
    dsimp only at h1 h2
    rw [e] at h1; cases h1; exact h2
  · exact F.keep q o (G q o e (by simp [hy, hne]))
section
variable {w : World} {vw : Program} {loose : List Str} {mean : ExcName → Option Value} {mg mb : Str → Option Value}
theorem io_read_in (y dy : Addr) (k0 k1 k2 n0 tb tp t1 : Tok) (b : Str) (p : Int) (h0 : 0 ≤ p) (hp : p < b.length) (hb : b.length ≤ 10000)
    (dp un : Nat) (gd : Option (List Code)) (cn : Str) (cs : Scope) (a : Addr) (ccd : Value) (cl : List (Str × Addr)) (outer : List Env) (A₀ : Around) (base h₀ : Heap) (L : Addr) (m : Str → Option Value) (s : Shared) (Q E : Value → Shared → Prop)
    (B : Below A₀ base outer h₀) (F : Fr h₀ L s.heap m) (X : (Mine.K w.params).In h₀) (T : Top vw loose mean mg mb h₀) (hk : cs.kind = .function)
    (hd : dp + 5 < recursionLimit) (hu : un + 40 < cLine) (N : News h₀ L s.heap [(y, instObj 604 dy), (dy, dictOf (ioEs w k0 k1 k2 n0 tb tp b p) 3)])
    (hyd : @LT.lt Nat _ dy y)
    (hret : ∀ (c : Str) (p' : Int) (t tp' : Tok) (h' : Heap) (tk' : Nat), (∀ q o, s.heap.get? q = some o → q ≠ dy → h'.get? q = some o) → h'.get? dy = some (dictOf (ioEs w k0 k1 k2 n0 tb tp' b p') 3) →
      Hold (p' = p + 1 ∧ c = Txt.slice (Txt.slice b (some p) (some (p + 1)) ++ Str.ofString " ") none (some (-1))) → Q (.str c t) { s with heap := h', toks := tk' }) :
      wpAny (model Challenge.rw_ij0133_01.row.prog w) (ktrTop dp un gd cn cs L a ccd cl outer) (call (.ref 550) [.ref y, .int 1 t1]) Q E s := by
  cases cs; dsimp only at hk; subst hk
  refine wpAny_call ?_
  k_dflt cell_enter
  (repeat' (first | ((with_reducible show Q _ _); refine hret _ _ _ _ _ _ (io_end N (by assumption) (by assumption) (by assumption)) (News.get (by assumption) (List.Mem.tail _ (List.Mem.head _))) ?_) | ((with_reducible refine consQ_next ?_)) | ((with_reducible refine consQ_ret ?_)) | ((with_reducible refine consQ_brk ?_)) | ((with_reducible refine consQ_cont ?_)) | (with_reducible ((with_reducible show wpAny _ _ (execs (_ :: _) _) _ _ _); (k_here; (try dsimp only); (try (refine gen_toks ?_; intro tk)); first | refine execs_one ?_ | refine execs_consQ ?_))) | ((with_reducible refine wpAny_execs_nil ?_)) | (with_reducible ((with_reducible show wpAny _ _ (exec (PySem.Stmt.If _ _ _ _) _) _ _ _); (refine wpAny_If ?_))) | (((with_reducible show wpAny _ _ (subscriptTail (PySem.Expr.BinOp _ _ _ _) _ _ _) _ _ _); (k_here; (with_reducible show wpAny _ _ (subscriptTail _ (Expr.Slice _ _ _ _) (Value.str _ _) _) _ _ _); k_dflt (refine kba_turn (value' := PySem.Expr.Name (PySem.Str.ofString "_") ⟨0, 0, 0, 0⟩) (fun _ => rfl) ?_)))) | (((with_reducible show wpAny _ _ (subscriptTail (PySem.Expr.Attribute _ _ _) _ _ _) _ _ _); (k_here; (with_reducible show wpAny _ _ (subscriptTail _ (Expr.Slice _ _ _ _) (Value.str _ _) _) _ _ _); k_dflt (refine kba_turn (value' := PySem.Expr.Name (PySem.Str.ofString "_") ⟨0, 0, 0, 0⟩) (fun _ => rfl) ?_)))) | (k_unfold; (try dsimp only)) | walk1 | (dsimp only; walk1) | (leave1; walk_say "STEP leave1"; try dsimp only) | fail "no step"))
  · exact Hold.mk ⟨rfl, rfl⟩
  · have e : (b.length : Int) = p + 1 := by omega
    exact Hold.mk ⟨e, by rw [e]⟩

theorem io_eof_in (y dy : Addr) (k0 k1 k2 n0 tb tp t1 : Tok) (b : Str) (p : Int) (h0 : 0 ≤ p) (hp : (b.length : Int) ≤ p) (hb : b.length ≤ 10000)
    (dp un : Nat) (gd : Option (List Code)) (cn : Str) (cs : Scope) (a : Addr) (ccd : Value) (cl : List (Str × Addr)) (outer : List Env) (A₀ : Around) (base h₀ : Heap) (L : Addr) (m : Str → Option Value) (s : Shared) (Q E : Value → Shared → Prop)
    (B : Below A₀ base outer h₀) (F : Fr h₀ L s.heap m) (X : (Mine.K w.params).In h₀) (T : Top vw loose mean mg mb h₀) (hk : cs.kind = .function)
    (hd : dp + 5 < recursionLimit) (hu : un + 40 < cLine) (N : News h₀ L s.heap [(y, instObj 604 dy), (dy, dictOf (ioEs w k0 k1 k2 n0 tb tp b p) 3)])
    (hyd : @LT.lt Nat _ dy y)
    (hret : ∀ (c : Str) (p' : Int) (t tp' : Tok) (h' : Heap) (tk' : Nat), (∀ q o, s.heap.get? q = some o → q ≠ dy → h'.get? q = some o) → h'.get? dy = some (dictOf (ioEs w k0 k1 k2 n0 tb tp' b p') 3) →
      Hold (p' = p ∧ c = Str.ofString "") → Q (.str c t) { s with heap := h', toks := tk' }) :
      wpAny (model Challenge.rw_ij0133_01.row.prog w) (ktrTop dp un gd cn cs L a ccd cl outer) (call (.ref 550) [.ref y, .int 1 t1]) Q E s := by
  cases cs; dsimp only at hk; subst hk
  refine wpAny_call ?_
  k_dflt cell_enter
  (repeat' (first | ((with_reducible show Q _ _); refine hret _ _ _ _ _ _ (io_end N (by assumption) (by assumption) (by assumption)) (News.get (by assumption) (List.Mem.tail _ (List.Mem.head _))) ?_) | ((with_reducible refine consQ_next ?_)) | ((with_reducible refine consQ_ret ?_)) | ((with_reducible refine consQ_brk ?_)) | ((with_reducible refine consQ_cont ?_)) | (with_reducible ((with_reducible show wpAny _ _ (execs (_ :: _) _) _ _ _); (k_here; (try dsimp only); (try (refine gen_toks ?_; intro tk)); first | refine execs_one ?_ | refine execs_consQ ?_))) | ((with_reducible refine wpAny_execs_nil ?_)) | (with_reducible ((with_reducible show wpAny _ _ (exec (PySem.Stmt.If _ _ _ _) _) _ _ _); (refine wpAny_If ?_))) | (k_unfold; (try dsimp only)) | walk1 | (dsimp only; walk1) | (leave1; walk_say "STEP leave1"; try dsimp only) | fail "no step"))
  all_goals exact Hold.mk ⟨rfl, rfl⟩

/-- the ledger behind a step that changes the object at d alone -/
theorem news_step {h₀ h h' : Heap} {L d : Addr} {m : Str → Option Value} {o o' : Obj} {news : List (Addr × Obj)} {nf : Obj → List (Addr × Obj)} (F : Fr h₀ L h m) (N : News h₀ L h news) (U : UpdF d o news nf)
    (hk : ∀ q x, h.get? q = some x → q ≠ d → h'.get? q = some x) (hd : h'.get? d = some o') : Fr h₀ L h' m ∧ News h₀ L h' (nf o') := by
  obtain ⟨pre, post, rfl, hg, a, b⟩ := U.split
  rw [hg]
  have D := N (d, o) (by simp)
  obtain ⟨oL, es, ep, hL, r⟩ := F.ns
  refine ⟨⟨⟨oL, es, ep, hk _ _ hL (Ne.symm D.2.1), r⟩, fun q x e => hk _ _ (F.keep q x e) (fun z => by have := D.2.2; rw [← z, e] at this; cases this), F.above⟩, fun p hp => ?_⟩
  rcases List.mem_append.mp hp with q | q
  · have P := N p (List.mem_append_left _ q); exact ⟨hk _ _ P.1 (a p q), P.2⟩
  · rcases List.mem_cons.mp q with rfl | q
    · exact ⟨hd, D.2⟩
    · have P := N p (List.mem_append_right _ (.tail _ q)); exact ⟨hk _ _ P.1 (b p q), P.2⟩

theorem io_read_walk {y dy : Addr} {k0 k1 k2 n0 tb tp t1 : Tok} {b : Str} {p : Int}
    {dp un : Nat} {gd : Option (List Code)} {cn : Str} {cs : Scope} {a : Addr} {ccd : Value} {cl : List (Str × Addr)} {outer : List Env} {A₀ : Around} {base h₀ : Heap} {L : Addr} {m : Str → Option Value} {s : Shared} {Q E : Value → Shared → Prop}
    {news : List (Addr × Obj)} {nf : Obj → List (Addr × Obj)}
    (B : Below A₀ base outer h₀) (F : Fr h₀ L s.heap m) (X : (Mine.K w.params).In h₀) (N : News h₀ L s.heap news) (T : Top vw loose mean mg mb h₀) (hk : cs.kind = .function)
    (hd : dp + 5 < recursionLimit) (hu : un + 40 < cLine) (m1 : (y, instObj 604 dy) ∈ news) (m2 : (dy, dictOf (ioEs w k0 k1 k2 n0 tb tp b p) 3) ∈ news)
    (U : UpdF dy (dictOf (ioEs w k0 k1 k2 n0 tb tp b p) 3) news nf)
    (hyd : @LT.lt Nat _ dy y) (h0 : 0 ≤ p) (hp : p < b.length) (hb : b.length ≤ 10000)
    {c : Str} (hc : Txt.slice (Txt.slice b (some p) (some (p + 1)) ++ Str.ofString " ") none (some (-1)) = c)
    (hret : ∀ (t tp' : Tok) (h' : Heap) (tk' : Nat), Fr h₀ L h' m → News h₀ L h' (nf (dictOf (ioEs w k0 k1 k2 n0 tb tp' b (p + 1)) 3)) → Q (.str c t) { s with heap := h', toks := tk' }) :
      wpAny (model Challenge.rw_ij0133_01.row.prog w) (ktrTop dp un gd cn cs L a ccd cl outer) (call (.ref 550) [.ref y, .int 1 t1]) Q E s := by
  refine io_read_in y dy k0 k1 k2 n0 tb tp t1 b p h0 hp hb dp un gd cn cs a ccd cl outer A₀ base h₀ L m s Q E B F X T hk hd hu (fun q hq => ?_) hyd fun c' p' t tp' h' tk' hkeep hdy hh => ?_
  · simp only [List.mem_cons, List.not_mem_nil, or_false] at hq
    rcases hq with rfl | rfl
    · exact N _ m1
    · exact N _ m2
  · obtain ⟨e1, e2⟩ := hh.out
    subst e1 e2
    rw [hc]
    obtain ⟨U1, U2⟩ := news_step F N U hkeep hdy
    exact hret _ _ _ _ U1 U2
theorem io_eof_walk {y dy : Addr} {k0 k1 k2 n0 tb tp t1 : Tok} {b : Str} {p : Int}
    {dp un : Nat} {gd : Option (List Code)} {cn : Str} {cs : Scope} {a : Addr} {ccd : Value} {cl : List (Str × Addr)} {outer : List Env} {A₀ : Around} {base h₀ : Heap} {L : Addr} {m : Str → Option Value} {s : Shared} {Q E : Value → Shared → Prop}
    {news : List (Addr × Obj)} {nf : Obj → List (Addr × Obj)}
    (B : Below A₀ base outer h₀) (F : Fr h₀ L s.heap m) (X : (Mine.K w.params).In h₀) (N : News h₀ L s.heap news) (T : Top vw loose mean mg mb h₀) (hk : cs.kind = .function)
    (hd : dp + 5 < recursionLimit) (hu : un + 40 < cLine) (m1 : (y, instObj 604 dy) ∈ news) (m2 : (dy, dictOf (ioEs w k0 k1 k2 n0 tb tp b p) 3) ∈ news)
    (U : UpdF dy (dictOf (ioEs w k0 k1 k2 n0 tb tp b p) 3) news nf)
    (hyd : @LT.lt Nat _ dy y) (h0 : 0 ≤ p) (hp : (b.length : Int) ≤ p) (hb : b.length ≤ 10000)
    (hret : ∀ (t tp' : Tok) (h' : Heap) (tk' : Nat), Fr h₀ L h' m → News h₀ L h' (nf (dictOf (ioEs w k0 k1 k2 n0 tb tp' b p) 3)) → Q (.str (Str.ofString "") t) { s with heap := h', toks := tk' }) :
      wpAny (model Challenge.rw_ij0133_01.row.prog w) (ktrTop dp un gd cn cs L a ccd cl outer) (call (.ref 550) [.ref y, .int 1 t1]) Q E s := by
  refine io_eof_in y dy k0 k1 k2 n0 tb tp t1 b p h0 hp hb dp un gd cn cs a ccd cl outer A₀ base h₀ L m s Q E B F X T hk hd hu (fun q hq => ?_) hyd fun c' p' t tp' h' tk' hkeep hdy hh => ?_
  · simp only [List.mem_cons, List.not_mem_nil, or_false] at hq
    rcases hq with rfl | rfl
    · exact N _ m1
    · exact N _ m2
  · obtain ⟨e1, e2⟩ := hh.out
    subst e1 e2
    obtain ⟨U1, U2⟩ := news_step F N U hkeep hdy
    exact hret _ _ _ _ U1 U2
end
noncomputable abbrev wordChars : Str := Str.ofString "abcdfeghijklmnopqrstuvwxyzABCDEFGHIJKLMNOPQRSTUVWXYZ0123456789_ßàáâãäåæçèéêëìíîïðñòóôõöøùúûüýþÿÀÁÂÃÄÅÆÇÈÉÊËÌÍÎÏÐÑÒÓÔÕÖØÙÚÛÜÝÞ"
noncomputable abbrev ent (w : World) (n : String) (k : Tok) (v : Value) : DictEntry := { hash := PyData.keyHash w.params (Str.ofString n), key := .str (Str.ofString n) k, val := v }
/-- the lexer's attributes: k the keys' tokens, t the values' -/
noncomputable abbrev lexEs (w : World) (k t : Nat → Tok) (y pb fs : Addr) (st tok : Value) : List DictEntry :=
  [ent w "instream" (k 0) (.ref y), ent w "infile" (k 1) .none, ent w "posix" (k 2) (.bool true), ent w "eof" (k 3) .none, ent w "commenters" (k 4) (.str (Str.ofString "") (t 4)), ent w "wordchars" (k 5) (.str wordChars (t 5)),
   ent w "whitespace" (k 6) (.str (Str.ofString " \t\r\n") (t 6)), ent w "whitespace_split" (k 7) (.bool true), ent w "quotes" (k 8) (.str (Str.ofString "'\"") (t 8)), ent w "escape" (k 9) (.str (Str.ofString "\\") (t 9)),
   ent w "escapedquotes" (k 10) (.str (Str.ofString "\"") (t 10)), ent w "state" (k 11) st, ent w "pushback" (k 12) (.ref pb), ent w "lineno" (k 13) (.int 1 (t 13)), ent w "debug" (k 14) (.int 0 (t 14)), ent w "token" (k 15) tok,
   ent w "filestack" (k 16) (.ref fs), ent w "source" (k 17) .none, ent w "_punctuation_chars" (k 18) (.str (Str.ofString "") (t 18))]
noncomputable abbrev lexLed (w : World) (x dx y dy pb fs : Addr) (k t : Nat → Tok) (k0 k1 k2 n0 tb : Tok) (b : Str) (st tok : Value) (p : Int) (tp : Tok) : List (Addr × Obj) :=
  [(dx, dictOf (lexEs w k t y pb fs st tok) 19), (dy, dictOf (ioEs w k0 k1 k2 n0 tb tp b p) 3), (x, instObj 739 dx), (y, instObj 604 dy), (pb, dqObj), (fs, dqObj)]
noncomputable abbrev rtM (ν : Option Value) (q : Bool) (te : Tok) (x : Addr) : Str → Option Value := fun z =>
  if z = Str.ofString "nextchar" then ν else if z = Str.ofString "quoted" then some (.bool q) else if z = Str.ofString "escapedstate" then some (.str (Str.ofString " ") te) else if z = Str.ofString "self" then some (.ref x) else none
theorem rtM_next {ν v : Option Value} {q : Bool} {te : Tok} {x : Addr} : (fun z => if z = Str.ofString "nextchar" then v else rtM ν q te x z) = rtM v q te x := by
  funext z; dsimp only [rtM]; split <;> rfl
theorem rtM_quoted {ν : Option Value} {q q' : Bool} {te : Tok} {x : Addr} : (fun z => if z = Str.ofString "quoted" then some (.bool q') else rtM ν q te x z) = rtM ν q' te x := by
  funext z; dsimp only [rtM]
  by_cases h : z = Str.ofString "quoted"
  · have : ¬ z = Str.ofString "nextchar" := by rw [h]; decide
    subst h
    rw [if_pos rfl, if_neg this, if_pos rfl]
  · simp [h]
noncomputable def RtAt (w : World) (qual : Str) (scope : Scope) (cdv : Value) (test : PySem.Expr) (body : List Stmt) : Prop :=
  ∃ oc od name params st1 st2 orelse pos rest dV kV doc pm an ct osl, List.lookup 707 (Mine.K w.params) = some ⟨oc, od, .func (fnOf name qual params (st1 :: st2 :: .While test body orelse pos :: rest) scope dV kV doc pm an cdv ct), osl⟩
/-- c stands in lit -/
noncomputable def InS (c lit : Str) : Bool := Txt.contains lit c
section
variable {prog : Program} {w : World} {A : Around} {E : Value → Shared → Prop} {s : Shared}
theorem in_fact {c lit : Str} {u t : Tok} {r : Bool} {Q : Value → Shared → Prop} (e : InS c lit = r) (h : Q (.bool r) s) : wpAny (model prog w) A (compareOp .In (.str c u) (.str lit t)) Q E s :=
  P.in_str (by have e' : (!(Builtin.Str.occurrences lit c 0 lit.length 1).isEmpty) = r := e; rw [e']; exact h)
theorem eq_fact {c d : Str} {u t : Tok} {r : Bool} {Q : Value → Shared → Prop} (e : (c == d) = r) (h : Q (.bool r) s) : wpAny (model prog w) A (compareOp .Eq (.str c u) (.str d t)) Q E s :=
  eq_str (by rw [e]; exact h)
theorem tr_fact {c : Str} {t : Tok} {r : Bool} {Q : Bool → Shared → Prop} (e : ((c.length : Int) != 0) = r) (hl : c.length ≤ 10000) (h : ∀ k, Q r { s with toks := k }) : wpAny (model prog w) A (truthy (.str c t)) Q E s :=
  KXt.truthy e (Nat.le_trans hl (by decide)) h
end
theorem rt_elim {w : World} {P : Prop} {f : Addr} {o₁ o₂ : Obj} (h2 : List.lookup f (Mine.K w.params) = some o₂) (h1 : List.lookup f (Mine.K w.params) = some o₁) (k : o₁ = o₂ → P) : P := k (Option.some.inj (h1.symm.trans h2))
theorem fr_eq {h₀ h : Heap} {L : Addr} {m m' : Str → Option Value} (F : Fr h₀ L h m) (e : m = m') : Fr h₀ L h m' := e ▸ F
theorem news_tl {h₀ h : Heap} {L : Addr} {a : Addr × Obj} {l : List (Addr × Obj)} (N : News h₀ L h (a :: l)) : News h₀ L h l := fun p hp => N p (List.mem_cons_of_mem _ hp)
theorem rtM_q_next {ν v : Option Value} {q q' : Bool} {te : Tok} {x : Addr} : (fun z => if z = Str.ofString "quoted" then some (.bool q') else if z = Str.ofString "nextchar" then v else rtM ν q te x z) = rtM v q' te x :=
  (congrArg (fun (g : Str → Option Value) => fun z => if z = Str.ofString "quoted" then some (.bool q') else g z) rtM_next).trans rtM_quoted
/-- a text by its signs' numbers -/
noncomputable abbrev S (l : List Nat) : Str := ⟨l.toArray⟩
theorem S_append (a b : List Nat) : S a ++ S b = S (a ++ b) := by
  show Str.append _ _ = _
  unfold Str.append
  simp [S]
theorem S_length (a : List Nat) : (S a).length = a.length := by simp [S, Str.length]
theorem S_inj {a b : List Nat} (h : S a = S b) : a = b := by
  have := congrArg (fun s : Str => s.cps.toList) h
  simpa [S] using this
theorem S_toList (x : Str) : S x.cps.toList = x := by simp [S]
theorem S_beq (a b : List Nat) : (S a == S b) = decide (a = b) := by
  by_cases h : a = b
  · subst h; simp
  · have : S a ≠ S b := fun e => h (S_inj e)
    simp [h, this]
theorem range_get (a : Array Nat) (lo : Nat) : ∀ k, lo + k ≤ a.size → ((List.range k).map (lo + ·)).filterMap (a[·]?) = (a.toList.drop lo).take k := by
  intro k
  induction k with
  | zero => intro _; simp
  | succ k ih =>
    intro h
    rw [List.range_succ, List.map_append, List.filterMap_append, ih (by omega), List.take_add_one]
    have h1 : lo + k < a.size := by omega
    simp [h1]
open PySem.Builtin.Str in
theorem slice_is (x : Str) (l u : Option Int) (lo hi : Nat) (hle : lo ≤ hi) (hhi : hi ≤ x.length) (hr : strSliceIndices l u 1 x.length = (List.range (hi - lo)).map (lo + ·)) :
    Txt.slice x l u = S ((x.cps.toList.drop lo).take (hi - lo)) := by
  unfold Txt.slice
  rw [hr]
  have hx : x.length = x.cps.size := rfl
  split
  · rename_i h
    simp only [beq_self_eq_true, Bool.true_and, List.length_map, List.length_range, beq_iff_eq] at h
    have h0 : lo = 0 := by omega
    subst h0
    have h1 : hi = x.cps.toList.length := by simp; omega
    subst h1
    first
      | (rw [List.drop_zero, Nat.sub_zero, List.take_length])
      | (rw [List.drop_zero, Nat.sub_zero, List.take_length]; exact (S_toList x).symm)
  · rw [range_get _ _ _ (by omega)]
noncomputable def clipI (l : Option Int) (d : Int) (n : Nat) : Int := match l with
  | none => d
  | some i => max 0 (min (if i < 0 then i + (n : Int) else i) (n : Int))
open PySem.Builtin.Str in
theorem idx_is (l u : Option Int) (n lo hi : Nat) (hle : lo ≤ hi) (hl : clipI l 0 n = lo) (hu : clipI u n n = hi) :
    strSliceIndices l u 1 n = (List.range (hi - lo)).map (lo + ·) := by
  have key : PySem.sliceRange (lo : Int) (hi : Int) 1 = (List.range (hi - lo)).map (lo + ·) := by
    unfold PySem.sliceRange
    have hc : (if (1 : Int) > 0 then (if (lo : Int) < hi then ((hi : Int) - lo + 1 - 1) / 1 else 0) else (if (lo : Int) > hi then ((lo : Int) - hi - 1 - 1) / (-1) else 0)).toNat = hi - lo := by
      rw [if_pos (by decide)]
      split <;> omega
    simp only [hc]
    refine List.map_congr_left fun k _ => ?_
    omega
  rw [← key, ← hl, ← hu]
  unfold strSliceIndices clipI
  cases l <;> cases u <;> simp
theorem clip_nat (d : Int) (k n : Nat) (h : k ≤ n) : clipI (some (k : Int)) d n = (k : Int) := by
  unfold clipI
  dsimp only
  rw [if_neg (by omega), Int.min_eq_left (by omega), Int.max_eq_right (by omega)]
theorem clip_neg (d : Int) (k n : Nat) (hk : 0 < k) : clipI (some (-(k : Int))) d n = ((n - k : Nat) : Int) := by
  unfold clipI
  dsimp only
  omega
theorem clip_big (d : Int) (k n : Nat) : clipI (some (k : Int)) d n = ((min k n : Nat) : Int) := by
  unfold clipI
  dsimp only
  omega
theorem slice_drop (x : List Nat) (lo hi : Nat) (h : lo ≤ hi) (hh : hi ≤ x.length) : Txt.slice (S x) (some lo) (some hi) = S ((x.drop lo).take (hi - lo)) := by
  have hh' : hi ≤ (S x).length := by rw [S_length]; exact hh
  rw [slice_is (S x) _ _ lo hi h hh' (idx_is _ _ _ lo hi h (clip_nat _ _ _ (Nat.le_trans h hh')) (clip_nat _ _ _ hh'))]
theorem slice_from (x : List Nat) (lo : Nat) (hh : lo ≤ x.length) : Txt.slice (S x) (some lo) none = S (x.drop lo) := by
  have hh' : lo ≤ (S x).length := by rw [S_length]; exact hh
  rw [slice_is (S x) _ _ lo (S x).length hh' (Nat.le_refl _) (idx_is _ _ _ lo (S x).length hh' (clip_nat _ _ _ hh') rfl)]
  rw [S_length, List.take_of_length_le (by rw [List.length_drop]; exact Nat.le_refl _)]
theorem slice_init (x : List Nat) : Txt.slice (S x) none (some (-1)) = S (x.take (x.length - 1)) := by
  show Txt.slice (S x) none (some (-((1 : Nat) : Int))) = _
  rw [slice_is (S x) _ _ 0 ((S x).length - 1) (Nat.zero_le _) (Nat.sub_le _ _) (idx_is _ _ _ 0 ((S x).length - 1) (Nat.zero_le _) rfl (clip_neg _ 1 _ (by decide)))]
  rw [List.drop_zero, Nat.sub_zero, S_length]
theorem slice_take (x : List Nat) (k : Nat) : Txt.slice (S x) none (some k) = S (x.take k) := by
  rw [slice_is (S x) _ _ 0 (min k (S x).length) (Nat.zero_le _) (Nat.min_le_right _ _) (idx_is _ _ _ 0 (min k (S x).length) (Nat.zero_le _) rfl (clip_big _ _ _))]
  rw [List.drop_zero, Nat.sub_zero, S_length, ← List.take_eq_take_min]
theorem slice_last (x : List Nat) (k : Nat) (hk : 0 < k) : Txt.slice (S x) (some (-(k : Int))) none = S (x.drop (x.length - k)) := by
  rw [slice_is (S x) _ _ ((S x).length - k) (S x).length (Nat.sub_le _ _) (Nat.le_refl _) (idx_is _ _ _ ((S x).length - k) (S x).length (Nat.sub_le _ _) (clip_neg _ _ _ hk) rfl)]
  rw [S_length, List.take_of_length_le (by rw [List.length_drop]; exact Nat.le_refl _)]
theorem ofString_sp : Str.ofString " " = S [32] := by decide +kernel
theorem slice_char {b : Str} {p n : Nat} {r : List Nat} (h : b.cps.toList.drop p = n :: r) :
    Txt.slice (Txt.slice b (some (p : Int)) (some ((p : Int) + 1)) ++ Str.ofString " ") none (some (-1)) = S [n] := by
  have hlen : p + 1 ≤ b.cps.toList.length := by
    have := congrArg List.length h
    simp only [List.length_drop, List.length_cons] at this
    omega
  have e1 : Txt.slice b (some (p : Int)) (some ((p : Int) + 1)) = S [n] := by
    have := slice_drop b.cps.toList p (p + 1) (by omega) hlen
    rw [S_toList] at this
    rw [show ((p : Int) + 1) = ((p + 1 : Nat) : Int) from rfl, this, h]
    simp
  rw [e1, ofString_sp, S_append, slice_init]
  rfl
theorem rtAt_use {w : World} {qual : Str} {scope : Scope} {cdv : Value} {test : PySem.Expr} {body : List Stmt} {P : Str → Scope → Value → PySem.Expr → List Stmt → Prop}
    {oc od name params st1 st2 orelse pos rest dV kV doc pm an ct osl qual' scope' cdv' test' body'}
    (h : RtAt w qual scope cdv test body)
    (e : List.lookup 707 (Mine.K w.params) = some ⟨oc, od, .func (fnOf name qual' params (st1 :: st2 :: .While test' body' orelse pos :: rest) scope' dV kV doc pm an cdv' ct), osl⟩)
    (k : P qual' scope' cdv' test' body') : P qual scope cdv test body := by
  obtain ⟨oc, od, name, params, st1, st2, orelse, pos, rest, dV, kV, doc, pm, an, ct, osl, e'⟩ := h
  cases e.symm.trans e'
  exact k
section
variable {w : World} {vw : Program} {loose : List Str} {mean : ExcName → Option Value} {mg mb : Str → Option Value}
theorem rt_pre {qual : Str} {scope : Scope} {cdv : Value} {test : PySem.Expr} {body : List Stmt} (hbody : RtAt w qual scope cdv test body)
    {x dx y dy pb fs : Addr} {k t : Nat → Tok} {k0 k1 k2 n0 tb te tp : Tok} {b c : Str} {sv tv : Value} {p : Int} {ν : Option Value} {q : Bool}
    {dp un : Nat} {gd : Option (List Code)} {outer : List Env} {A₀ : Around} {base h₀ : Heap} {L : Addr} {s : Shared} {Q : Flow → Shared → Prop} {E : Value → Shared → Prop}
    (B : Below A₀ base outer h₀) (F : Fr h₀ L s.heap (rtM ν q te x)) (X : (Mine.K w.params).In h₀) (T : Top vw loose mean mg mb h₀) (hd : dp + 10 < recursionLimit) (hu : un + 60 < cLine)
    (hl1 : @LT.lt Nat _ dx x) (hl2 : @LT.lt Nat _ x dy) (hl3 : @LT.lt Nat _ dy y) (hl4 : @LT.lt Nat _ y pb) (hl5 : @LT.lt Nat _ pb fs)
    (N : News h₀ L s.heap (lexLed w x dx y dy pb fs k t k0 k1 k2 n0 tb b sv tv p tp))
    (h0 : 0 ≤ p) (hp : p < b.length) (hbl : b.length ≤ 10000)
    (hc : Txt.slice (Txt.slice b (some p) (some (p + 1)) ++ Str.ofString " ") none (some (-1)) = c)
    (hnl : (c == Str.ofString "\n") = false) (hc1 : c.length ≤ 10000)
    (hcon : ∀ (tn tp' : Tok) (h' : Heap) (tk' : Nat), Fr h₀ L h' (rtM (some (.str c tn)) q te x) → News h₀ L h' (lexLed w x dx y dy pb fs k t k0 k1 k2 n0 tb b sv tv (p + 1) tp') → wpAny (model Challenge.rw_ij0133_01.row.prog w) (ktrTop dp un gd qual scope L 707 cdv [] outer) (execs body.tail.tail.tail (envOf qual scope L 707 cdv)) Q E { s with heap := h', toks := tk' }) :
    wpAny (model Challenge.rw_ij0133_01.row.prog w) (ktrTop dp un gd qual scope L 707 cdv [] outer) (execs body (envOf qual scope L 707 cdv)) Q E s := by
  obtain ⟨oc, od, name, params, st1, st2, orelse, pos, rest, dV, kV, doc, pm, an, ct, osl, e⟩ := hbody
  refine' rt_elim e ?lit ?_
  (case lit => k_is)
  intro e2
  cases e2
  clear e
  dsimp only [List.tail] at hcon
  (repeat' (first | ((with_reducible show wpAny _ _ (execs (Stmt.If (PySem.Expr.Compare _ [CmpOp.Is] _ _) _ _ _ :: _) _) _ _ _); refine' hcon _ _ _ _ ?e2 ?e3; (case e3 => first | assumption | exact news_tl (by assumption)); (case e2 => exact fr_eq (by assumption) (by first | exact rtM_next | exact rtM_q_next))) | ((with_reducible refine consQ_next ?_)) | ((with_reducible refine consQ_ret ?_)) | ((with_reducible refine consQ_brk ?_)) | ((with_reducible refine consQ_cont ?_)) | (with_reducible ((with_reducible show wpAny _ _ (execs (_ :: _) _) _ _ _); (k_here; (try dsimp only); (try (refine gen_toks ?_; intro tk)); first | refine execs_one ?_ | refine execs_consQ ?_))) | ((with_reducible refine wpAny_execs_nil ?_)) | (with_reducible ((with_reducible show wpAny _ _ (exec (PySem.Stmt.If _ _ _ _) _) _ _ _); (refine wpAny_If ?_))) | (((k_here; (with_reducible show wpAny _ _ (call (Value.ref 550) _ _) _ _ _); k_dflt (refine' io_read_walk ?Bzq ?Fzq ?Xzq ?Nzq ?Tzq ?hkzq ?hdzq ?huzq ?m1zq ?m2zq ?Uzq ?hydzq ?h0zq ?hpzq ?hbzq ?hczq ?_; (case Bzq | Fzq | Xzq | Nzq | Tzq => k_asm); (case hkzq => first | exact rfl | assumption); (case m1zq | m2zq => k_mem); (case Uzq => k_updF); (case hydzq | h0zq | hpzq | hbzq | hczq => with_reducible assumption); (case hdzq => k_room); (case huzq => k_units); k_whole; intro t' tp' h' tk' F' N'; (try dsimp only at N'); (try k_sweep))))) | (with_reducible ((with_reducible show wpAny _ _ (compareOp CmpOp.Eq (Value.str _ _) (Value.str _ _)) _ _ _); (first | refine eq_fact (by with_reducible assumption) ?_ | refine eq_fact (r := true) (by decide +kernel) ?_ | refine eq_fact (r := false) (by decide +kernel) ?_))) | (k_unfold; (try dsimp only)) | walk1 | (dsimp only; walk1) | (leave1; walk_say "STEP leave1"; try dsimp only) | fail "no step"))
end
section
variable {w : World} {vw : Program} {loose : List Str} {mean : ExcName → Option Value} {mg mb : Str → Option Value}

theorem rt_a_word {qual : Str} {scope : Scope} {cdv : Value} {test : PySem.Expr} {body : List Stmt} (hbody : RtAt w qual scope cdv test body)
    {x dx y dy pb fs : Addr} {k t : Nat → Tok} {k0 k1 k2 n0 tb te tp ts tt : Tok} {b tok c : Str} {p : Int} {ν : Option Value} {q : Bool}
    {dp un : Nat} {gd : Option (List Code)} {outer : List Env} {A₀ : Around} {base h₀ : Heap} {L : Addr} {s : Shared} {Q : Flow → Shared → Prop} {E : Value → Shared → Prop}
    (B : Below A₀ base outer h₀) (F : Fr h₀ L s.heap (rtM ν q te x)) (X : (Mine.K w.params).In h₀) (T : Top vw loose mean mg mb h₀) (hd : dp + 10 < recursionLimit) (hu : un + 60 < cLine)
    (hl1 : @LT.lt Nat _ dx x) (hl2 : @LT.lt Nat _ x dy) (hl3 : @LT.lt Nat _ dy y) (hl4 : @LT.lt Nat _ y pb) (hl5 : @LT.lt Nat _ pb fs)
    (N : News h₀ L s.heap (lexLed w x dx y dy pb fs k t k0 k1 k2 n0 tb b (.str (Str.ofString "a") ts) (.str tok tt) p tp))
    (h0 : 0 ≤ p) (hp : p < b.length) (hbl : b.length ≤ 10000) (htok : tok.length ≤ 10000)
    (hc : Txt.slice (Txt.slice b (some p) (some (p + 1)) ++ Str.ofString " ") none (some (-1)) = c)
    (hnl : (c == Str.ofString "\n") = false) (hcl : ((c.length : Int) != 0) = true) (hc1 : c.length ≤ 10000) (hws : InS c (Str.ofString " \t\r\n") = false) (hem : InS c (Str.ofString "") = false) (hqu : InS c (Str.ofString "'\"") = false) (hes : InS c (Str.ofString "\\") = false) (hwc : InS c wordChars = true)
    (hret : ∀ (ν : Option Value) (tok' : Str) (ts tt tp : Tok) (h' : Heap) (tk' : Nat), Hold (tok' = tok ++ c) → Fr h₀ L h' (rtM ν q te x) → News h₀ L h' (lexLed w x dx y dy pb fs k t k0 k1 k2 n0 tb b (.str (Str.ofString "a") ts) (.str tok' tt) (p + 1) tp) → Q .next { s with heap := h', toks := tk' }) :
    wpAny (model Challenge.rw_ij0133_01.row.prog w) (ktrTop dp un gd qual scope L 707 cdv [] outer) (execs body (envOf qual scope L 707 cdv)) Q E s := by
  refine' rt_pre hbody B F X T hd hu hl1 hl2 hl3 hl4 hl5 N h0 hp hbl hc ?nl ?c1 fun tn9 tp9 h9 tk9 F9 N9 => ?_
  (case nl => first | with_reducible assumption | decide +kernel)
  (case c1 => first | with_reducible assumption | decide +kernel)
  clear F N
  refine' rtAt_use (qual := qual) (scope := scope) (cdv := cdv) (test := test) (body := body) (P := fun qual scope cdv test body => wpAny (model Challenge.rw_ij0133_01.row.prog w) (ktrTop dp un gd qual scope L 707 cdv [] outer) (execs body.tail.tail.tail (envOf qual scope L 707 cdv)) Q E _) hbody ?lit ?_
  (case lit => k_is)
  dsimp only [List.tail]
  (repeat' (first | ((with_reducible show Q _ _); refine' hret ?nu ?to ?ts ?tt ?tp _ _ ?e1 ?e2 ?e3; (case e3 => first | assumption | exact news_tl (by assumption) | exact news_tl (news_tl (by assumption))); (case e2 => exact fr_eq (by assumption) (by first | exact rfl | exact rtM_next | exact rtM_q_next | exact rtM_quoted)); (case e1 => exact Hold.mk rfl)) | ((with_reducible refine consQ_next ?_)) | ((with_reducible refine consQ_ret ?_)) | ((with_reducible refine consQ_brk ?_)) | ((with_reducible refine consQ_cont ?_)) | (with_reducible ((with_reducible show wpAny _ _ (execs (_ :: _) _) _ _ _); (k_here; (try dsimp only); (try (refine gen_toks ?_; intro tk)); first | refine execs_one ?_ | refine execs_consQ ?_))) | ((with_reducible refine wpAny_execs_nil ?_)) | (with_reducible ((with_reducible show wpAny _ _ (exec (PySem.Stmt.If _ _ _ _) _) _ _ _); (refine wpAny_If ?_))) | (with_reducible ((with_reducible show wpAny _ _ (truthy (Value.str _ _)) _ _ _); (refine tr_fact (by with_reducible assumption) (by with_reducible assumption) ?_; intro _))) | (with_reducible ((with_reducible show wpAny _ _ (compareOp CmpOp.Eq (Value.str _ _) (Value.str _ _)) _ _ _); (first | refine eq_fact (by with_reducible assumption) ?_ | refine eq_fact (r := true) (by decide +kernel) ?_ | refine eq_fact (r := false) (by decide +kernel) ?_))) | (with_reducible ((with_reducible show wpAny _ _ (compareOp CmpOp.In (Value.str _ _) (Value.str _ _)) _ _ _); (first | refine in_fact (by with_reducible assumption) ?_ | refine in_fact (r := true) (by decide +kernel) ?_ | refine in_fact (r := false) (by decide +kernel) ?_))) | (k_unfold; (try dsimp only)) | walk1 | (dsimp only; walk1) | (leave1; walk_say "STEP leave1"; try dsimp only) | fail "no step"))

theorem rt_a_sp {qual : Str} {scope : Scope} {cdv : Value} {test : PySem.Expr} {body : List Stmt} (hbody : RtAt w qual scope cdv test body)
    {x dx y dy pb fs : Addr} {k t : Nat → Tok} {k0 k1 k2 n0 tb te tp ts tt : Tok} {b tok : Str} {p : Int} {ν : Option Value} {q : Bool}
    {dp un : Nat} {gd : Option (List Code)} {outer : List Env} {A₀ : Around} {base h₀ : Heap} {L : Addr} {s : Shared} {Q : Flow → Shared → Prop} {E : Value → Shared → Prop}
    (B : Below A₀ base outer h₀) (F : Fr h₀ L s.heap (rtM ν q te x)) (X : (Mine.K w.params).In h₀) (T : Top vw loose mean mg mb h₀) (hd : dp + 10 < recursionLimit) (hu : un + 60 < cLine)
    (hl1 : @LT.lt Nat _ dx x) (hl2 : @LT.lt Nat _ x dy) (hl3 : @LT.lt Nat _ dy y) (hl4 : @LT.lt Nat _ y pb) (hl5 : @LT.lt Nat _ pb fs)
    (N : News h₀ L s.heap (lexLed w x dx y dy pb fs k t k0 k1 k2 n0 tb b (.str (Str.ofString "a") ts) (.str tok tt) p tp))
    (h0 : 0 ≤ p) (hp : p < b.length) (hbl : b.length ≤ 10000) (htok : tok.length ≤ 10000)
    (hc : Txt.slice (Txt.slice b (some p) (some (p + 1)) ++ Str.ofString " ") none (some (-1)) = (Str.ofString " "))
    (htl : ((tok.length : Int) != 0) = true)
    (hret : ∀ (ν : Option Value) (tok' : Str) (ts tt tp : Tok) (h' : Heap) (tk' : Nat), Hold (tok' = tok) → Fr h₀ L h' (rtM ν q te x) → News h₀ L h' (lexLed w x dx y dy pb fs k t k0 k1 k2 n0 tb b (.str (Str.ofString " ") ts) (.str tok' tt) (p + 1) tp) → Q .brk { s with heap := h', toks := tk' }) :
    wpAny (model Challenge.rw_ij0133_01.row.prog w) (ktrTop dp un gd qual scope L 707 cdv [] outer) (execs body (envOf qual scope L 707 cdv)) Q E s := by
  refine' rt_pre hbody B F X T hd hu hl1 hl2 hl3 hl4 hl5 N h0 hp hbl hc ?nl ?c1 fun tn9 tp9 h9 tk9 F9 N9 => ?_
  (case nl => first | with_reducible assumption | decide +kernel)
  (case c1 => first | with_reducible assumption | decide +kernel)
  clear F N
  refine' rtAt_use (qual := qual) (scope := scope) (cdv := cdv) (test := test) (body := body) (P := fun qual scope cdv test body => wpAny (model Challenge.rw_ij0133_01.row.prog w) (ktrTop dp un gd qual scope L 707 cdv [] outer) (execs body.tail.tail.tail (envOf qual scope L 707 cdv)) Q E _) hbody ?lit ?_
  (case lit => k_is)
  dsimp only [List.tail]
  (repeat' (first | ((with_reducible show Q _ _); refine' hret ?nu ?to ?ts ?tt ?tp _ _ ?e1 ?e2 ?e3; (case e3 => first | assumption | exact news_tl (by assumption) | exact news_tl (news_tl (by assumption))); (case e2 => exact fr_eq (by assumption) (by first | exact rfl | exact rtM_next | exact rtM_q_next | exact rtM_quoted)); (case e1 => exact Hold.mk rfl)) | ((with_reducible refine consQ_next ?_)) | ((with_reducible refine consQ_ret ?_)) | ((with_reducible refine consQ_brk ?_)) | ((with_reducible refine consQ_cont ?_)) | (with_reducible ((with_reducible show wpAny _ _ (execs (_ :: _) _) _ _ _); (k_here; (try dsimp only); (try (refine gen_toks ?_; intro tk)); first | refine execs_one ?_ | refine execs_consQ ?_))) | ((with_reducible refine wpAny_execs_nil ?_)) | (with_reducible ((with_reducible show wpAny _ _ (exec (PySem.Stmt.If _ _ _ _) _) _ _ _); (refine wpAny_If ?_))) | (with_reducible ((with_reducible show wpAny _ _ (truthy (Value.str _ _)) _ _ _); (refine tr_fact (by with_reducible assumption) (by with_reducible assumption) ?_; intro _))) | (with_reducible ((with_reducible show wpAny _ _ (compareOp CmpOp.Eq (Value.str _ _) (Value.str _ _)) _ _ _); (first | refine eq_fact (by with_reducible assumption) ?_ | refine eq_fact (r := true) (by decide +kernel) ?_ | refine eq_fact (r := false) (by decide +kernel) ?_))) | (with_reducible ((with_reducible show wpAny _ _ (compareOp CmpOp.In (Value.str _ _) (Value.str _ _)) _ _ _); (first | refine in_fact (by with_reducible assumption) ?_ | refine in_fact (r := true) (by decide +kernel) ?_ | refine in_fact (r := false) (by decide +kernel) ?_))) | (k_unfold; (try dsimp only)) | walk1 | (dsimp only; walk1) | (leave1; walk_say "STEP leave1"; try dsimp only) | fail "no step"))

theorem rt_a_sp0 {qual : Str} {scope : Scope} {cdv : Value} {test : PySem.Expr} {body : List Stmt} (hbody : RtAt w qual scope cdv test body)
    {x dx y dy pb fs : Addr} {k t : Nat → Tok} {k0 k1 k2 n0 tb te tp ts tt : Tok} {b tok : Str} {p : Int} {ν : Option Value}
    {dp un : Nat} {gd : Option (List Code)} {outer : List Env} {A₀ : Around} {base h₀ : Heap} {L : Addr} {s : Shared} {Q : Flow → Shared → Prop} {E : Value → Shared → Prop}
    (B : Below A₀ base outer h₀) (F : Fr h₀ L s.heap (rtM ν true te x)) (X : (Mine.K w.params).In h₀) (T : Top vw loose mean mg mb h₀) (hd : dp + 10 < recursionLimit) (hu : un + 60 < cLine)
    (hl1 : @LT.lt Nat _ dx x) (hl2 : @LT.lt Nat _ x dy) (hl3 : @LT.lt Nat _ dy y) (hl4 : @LT.lt Nat _ y pb) (hl5 : @LT.lt Nat _ pb fs)
    (N : News h₀ L s.heap (lexLed w x dx y dy pb fs k t k0 k1 k2 n0 tb b (.str (Str.ofString "a") ts) (.str tok tt) p tp))
    (h0 : 0 ≤ p) (hp : p < b.length) (hbl : b.length ≤ 10000) (htok : tok.length ≤ 10000)
    (hc : Txt.slice (Txt.slice b (some p) (some (p + 1)) ++ Str.ofString " ") none (some (-1)) = (Str.ofString " "))
    (htl : ((tok.length : Int) != 0) = false)
    (hret : ∀ (ν : Option Value) (tok' : Str) (ts tt tp : Tok) (h' : Heap) (tk' : Nat), Hold (tok' = tok) → Fr h₀ L h' (rtM ν true te x) → News h₀ L h' (lexLed w x dx y dy pb fs k t k0 k1 k2 n0 tb b (.str (Str.ofString " ") ts) (.str tok' tt) (p + 1) tp) → Q .brk { s with heap := h', toks := tk' }) :
    wpAny (model Challenge.rw_ij0133_01.row.prog w) (ktrTop dp un gd qual scope L 707 cdv [] outer) (execs body (envOf qual scope L 707 cdv)) Q E s := by
  refine' rt_pre hbody B F X T hd hu hl1 hl2 hl3 hl4 hl5 N h0 hp hbl hc ?nl ?c1 fun tn9 tp9 h9 tk9 F9 N9 => ?_
  (case nl => first | with_reducible assumption | decide +kernel)
  (case c1 => first | with_reducible assumption | decide +kernel)
  clear F N
  refine' rtAt_use (qual := qual) (scope := scope) (cdv := cdv) (test := test) (body := body) (P := fun qual scope cdv test body => wpAny (model Challenge.rw_ij0133_01.row.prog w) (ktrTop dp un gd qual scope L 707 cdv [] outer) (execs body.tail.tail.tail (envOf qual scope L 707 cdv)) Q E _) hbody ?lit ?_
  (case lit => k_is)
  dsimp only [List.tail]
  (repeat' (first | ((with_reducible show Q _ _); refine' hret ?nu ?to ?ts ?tt ?tp _ _ ?e1 ?e2 ?e3; (case e3 => first | assumption | exact news_tl (by assumption) | exact news_tl (news_tl (by assumption))); (case e2 => exact fr_eq (by assumption) (by first | exact rfl | exact rtM_next | exact rtM_q_next | exact rtM_quoted)); (case e1 => exact Hold.mk rfl)) | ((with_reducible refine consQ_next ?_)) | ((with_reducible refine consQ_ret ?_)) | ((with_reducible refine consQ_brk ?_)) | ((with_reducible refine consQ_cont ?_)) | (with_reducible ((with_reducible show wpAny _ _ (execs (_ :: _) _) _ _ _); (k_here; (try dsimp only); (try (refine gen_toks ?_; intro tk)); first | refine execs_one ?_ | refine execs_consQ ?_))) | ((with_reducible refine wpAny_execs_nil ?_)) | (with_reducible ((with_reducible show wpAny _ _ (exec (PySem.Stmt.If _ _ _ _) _) _ _ _); (refine wpAny_If ?_))) | (with_reducible ((with_reducible show wpAny _ _ (truthy (Value.str _ _)) _ _ _); (refine tr_fact (by with_reducible assumption) (by with_reducible assumption) ?_; intro _))) | (with_reducible ((with_reducible show wpAny _ _ (compareOp CmpOp.Eq (Value.str _ _) (Value.str _ _)) _ _ _); (first | refine eq_fact (by with_reducible assumption) ?_ | refine eq_fact (r := true) (by decide +kernel) ?_ | refine eq_fact (r := false) (by decide +kernel) ?_))) | (with_reducible ((with_reducible show wpAny _ _ (compareOp CmpOp.In (Value.str _ _) (Value.str _ _)) _ _ _); (first | refine in_fact (by with_reducible assumption) ?_ | refine in_fact (r := true) (by decide +kernel) ?_ | refine in_fact (r := false) (by decide +kernel) ?_))) | (k_unfold; (try dsimp only)) | walk1 | (dsimp only; walk1) | (leave1; walk_say "STEP leave1"; try dsimp only) | fail "no step"))

theorem rt_a_q {qual : Str} {scope : Scope} {cdv : Value} {test : PySem.Expr} {body : List Stmt} (hbody : RtAt w qual scope cdv test body)
    {x dx y dy pb fs : Addr} {k t : Nat → Tok} {k0 k1 k2 n0 tb te tp ts tt : Tok} {b tok : Str} {p : Int} {ν : Option Value} {q : Bool}
    {dp un : Nat} {gd : Option (List Code)} {outer : List Env} {A₀ : Around} {base h₀ : Heap} {L : Addr} {s : Shared} {Q : Flow → Shared → Prop} {E : Value → Shared → Prop}
    (B : Below A₀ base outer h₀) (F : Fr h₀ L s.heap (rtM ν q te x)) (X : (Mine.K w.params).In h₀) (T : Top vw loose mean mg mb h₀) (hd : dp + 10 < recursionLimit) (hu : un + 60 < cLine)
    (hl1 : @LT.lt Nat _ dx x) (hl2 : @LT.lt Nat _ x dy) (hl3 : @LT.lt Nat _ dy y) (hl4 : @LT.lt Nat _ y pb) (hl5 : @LT.lt Nat _ pb fs)
    (N : News h₀ L s.heap (lexLed w x dx y dy pb fs k t k0 k1 k2 n0 tb b (.str (Str.ofString "a") ts) (.str tok tt) p tp))
    (h0 : 0 ≤ p) (hp : p < b.length) (hbl : b.length ≤ 10000) (htok : tok.length ≤ 10000)
    (hc : Txt.slice (Txt.slice b (some p) (some (p + 1)) ++ Str.ofString " ") none (some (-1)) = (Str.ofString "'"))
    (hret : ∀ (ν : Option Value) (tok' : Str) (ts tt tp : Tok) (h' : Heap) (tk' : Nat), Hold (tok' = tok) → Fr h₀ L h' (rtM ν q te x) → News h₀ L h' (lexLed w x dx y dy pb fs k t k0 k1 k2 n0 tb b (.str (Str.ofString "'") ts) (.str tok' tt) (p + 1) tp) → Q .next { s with heap := h', toks := tk' }) :
    wpAny (model Challenge.rw_ij0133_01.row.prog w) (ktrTop dp un gd qual scope L 707 cdv [] outer) (execs body (envOf qual scope L 707 cdv)) Q E s := by
  refine' rt_pre hbody B F X T hd hu hl1 hl2 hl3 hl4 hl5 N h0 hp hbl hc ?nl ?c1 fun tn9 tp9 h9 tk9 F9 N9 => ?_
  (case nl => first | with_reducible assumption | decide +kernel)
  (case c1 => first | with_reducible assumption | decide +kernel)
  clear F N
  refine' rtAt_use (qual := qual) (scope := scope) (cdv := cdv) (test := test) (body := body) (P := fun qual scope cdv test body => wpAny (model Challenge.rw_ij0133_01.row.prog w) (ktrTop dp un gd qual scope L 707 cdv [] outer) (execs body.tail.tail.tail (envOf qual scope L 707 cdv)) Q E _) hbody ?lit ?_
  (case lit => k_is)
  dsimp only [List.tail]
  (repeat' (first | ((with_reducible show Q _ _); refine' hret ?nu ?to ?ts ?tt ?tp _ _ ?e1 ?e2 ?e3; (case e3 => first | assumption | exact news_tl (by assumption) | exact news_tl (news_tl (by assumption))); (case e2 => exact fr_eq (by assumption) (by first | exact rfl | exact rtM_next | exact rtM_q_next | exact rtM_quoted)); (case e1 => exact Hold.mk rfl)) | ((with_reducible refine consQ_next ?_)) | ((with_reducible refine consQ_ret ?_)) | ((with_reducible refine consQ_brk ?_)) | ((with_reducible refine consQ_cont ?_)) | (with_reducible ((with_reducible show wpAny _ _ (execs (_ :: _) _) _ _ _); (k_here; (try dsimp only); (try (refine gen_toks ?_; intro tk)); first | refine execs_one ?_ | refine execs_consQ ?_))) | ((with_reducible refine wpAny_execs_nil ?_)) | (with_reducible ((with_reducible show wpAny _ _ (exec (PySem.Stmt.If _ _ _ _) _) _ _ _); (refine wpAny_If ?_))) | (with_reducible ((with_reducible show wpAny _ _ (compareOp CmpOp.Eq (Value.str _ _) (Value.str _ _)) _ _ _); (first | refine eq_fact (by with_reducible assumption) ?_ | refine eq_fact (r := true) (by decide +kernel) ?_ | refine eq_fact (r := false) (by decide +kernel) ?_))) | (with_reducible ((with_reducible show wpAny _ _ (compareOp CmpOp.In (Value.str _ _) (Value.str _ _)) _ _ _); (first | refine in_fact (by with_reducible assumption) ?_ | refine in_fact (r := true) (by decide +kernel) ?_ | refine in_fact (r := false) (by decide +kernel) ?_))) | (k_unfold; (try dsimp only)) | walk1 | (dsimp only; walk1) | (leave1; walk_say "STEP leave1"; try dsimp only) | fail "no step"))

theorem rt_a_dq {qual : Str} {scope : Scope} {cdv : Value} {test : PySem.Expr} {body : List Stmt} (hbody : RtAt w qual scope cdv test body)
    {x dx y dy pb fs : Addr} {k t : Nat → Tok} {k0 k1 k2 n0 tb te tp ts tt : Tok} {b tok : Str} {p : Int} {ν : Option Value} {q : Bool}
    {dp un : Nat} {gd : Option (List Code)} {outer : List Env} {A₀ : Around} {base h₀ : Heap} {L : Addr} {s : Shared} {Q : Flow → Shared → Prop} {E : Value → Shared → Prop}
    (B : Below A₀ base outer h₀) (F : Fr h₀ L s.heap (rtM ν q te x)) (X : (Mine.K w.params).In h₀) (T : Top vw loose mean mg mb h₀) (hd : dp + 10 < recursionLimit) (hu : un + 60 < cLine)
    (hl1 : @LT.lt Nat _ dx x) (hl2 : @LT.lt Nat _ x dy) (hl3 : @LT.lt Nat _ dy y) (hl4 : @LT.lt Nat _ y pb) (hl5 : @LT.lt Nat _ pb fs)
    (N : News h₀ L s.heap (lexLed w x dx y dy pb fs k t k0 k1 k2 n0 tb b (.str (Str.ofString "a") ts) (.str tok tt) p tp))
    (h0 : 0 ≤ p) (hp : p < b.length) (hbl : b.length ≤ 10000) (htok : tok.length ≤ 10000)
    (hc : Txt.slice (Txt.slice b (some p) (some (p + 1)) ++ Str.ofString " ") none (some (-1)) = (Str.ofString "\""))
    (hret : ∀ (ν : Option Value) (tok' : Str) (ts tt tp : Tok) (h' : Heap) (tk' : Nat), Hold (tok' = tok) → Fr h₀ L h' (rtM ν q te x) → News h₀ L h' (lexLed w x dx y dy pb fs k t k0 k1 k2 n0 tb b (.str (Str.ofString "\"") ts) (.str tok' tt) (p + 1) tp) → Q .next { s with heap := h', toks := tk' }) :
    wpAny (model Challenge.rw_ij0133_01.row.prog w) (ktrTop dp un gd qual scope L 707 cdv [] outer) (execs body (envOf qual scope L 707 cdv)) Q E s := by
  refine' rt_pre hbody B F X T hd hu hl1 hl2 hl3 hl4 hl5 N h0 hp hbl hc ?nl ?c1 fun tn9 tp9 h9 tk9 F9 N9 => ?_
  (case nl => first | with_reducible assumption | decide +kernel)
  (case c1 => first | with_reducible assumption | decide +kernel)
  clear F N
  refine' rtAt_use (qual := qual) (scope := scope) (cdv := cdv) (test := test) (body := body) (P := fun qual scope cdv test body => wpAny (model Challenge.rw_ij0133_01.row.prog w) (ktrTop dp un gd qual scope L 707 cdv [] outer) (execs body.tail.tail.tail (envOf qual scope L 707 cdv)) Q E _) hbody ?lit ?_
  (case lit => k_is)
  dsimp only [List.tail]
  (repeat' (first | ((with_reducible show Q _ _); refine' hret ?nu ?to ?ts ?tt ?tp _ _ ?e1 ?e2 ?e3; (case e3 => first | assumption | exact news_tl (by assumption) | exact news_tl (news_tl (by assumption))); (case e2 => exact fr_eq (by assumption) (by first | exact rfl | exact rtM_next | exact rtM_q_next | exact rtM_quoted)); (case e1 => exact Hold.mk rfl)) | ((with_reducible refine consQ_next ?_)) | ((with_reducible refine consQ_ret ?_)) | ((with_reducible refine consQ_brk ?_)) | ((with_reducible refine consQ_cont ?_)) | (with_reducible ((with_reducible show wpAny _ _ (execs (_ :: _) _) _ _ _); (k_here; (try dsimp only); (try (refine gen_toks ?_; intro tk)); first | refine execs_one ?_ | refine execs_consQ ?_))) | ((with_reducible refine wpAny_execs_nil ?_)) | (with_reducible ((with_reducible show wpAny _ _ (exec (PySem.Stmt.If _ _ _ _) _) _ _ _); (refine wpAny_If ?_))) | (with_reducible ((with_reducible show wpAny _ _ (compareOp CmpOp.Eq (Value.str _ _) (Value.str _ _)) _ _ _); (first | refine eq_fact (by with_reducible assumption) ?_ | refine eq_fact (r := true) (by decide +kernel) ?_ | refine eq_fact (r := false) (by decide +kernel) ?_))) | (with_reducible ((with_reducible show wpAny _ _ (compareOp CmpOp.In (Value.str _ _) (Value.str _ _)) _ _ _); (first | refine in_fact (by with_reducible assumption) ?_ | refine in_fact (r := true) (by decide +kernel) ?_ | refine in_fact (r := false) (by decide +kernel) ?_))) | (k_unfold; (try dsimp only)) | walk1 | (dsimp only; walk1) | (leave1; walk_say "STEP leave1"; try dsimp only) | fail "no step"))

end
section
variable {w : World} {vw : Program} {loose : List Str} {mean : ExcName → Option Value} {mg mb : Str → Option Value}

theorem rt_a_eof {qual : Str} {scope : Scope} {cdv : Value} {test : PySem.Expr} {body : List Stmt} (hbody : RtAt w qual scope cdv test body)
    {x dx y dy pb fs : Addr} {k t : Nat → Tok} {k0 k1 k2 n0 tb te tp ts tt : Tok} {b tok : Str} {p : Int} {ν : Option Value} {q : Bool}
    {dp un : Nat} {gd : Option (List Code)} {outer : List Env} {A₀ : Around} {base h₀ : Heap} {L : Addr} {s : Shared} {Q : Flow → Shared → Prop} {E : Value → Shared → Prop}
    (B : Below A₀ base outer h₀) (F : Fr h₀ L s.heap (rtM ν q te x)) (X : (Mine.K w.params).In h₀) (T : Top vw loose mean mg mb h₀) (hd : dp + 10 < recursionLimit) (hu : un + 60 < cLine)
    (hl1 : @LT.lt Nat _ dx x) (hl2 : @LT.lt Nat _ x dy) (hl3 : @LT.lt Nat _ dy y) (hl4 : @LT.lt Nat _ y pb) (hl5 : @LT.lt Nat _ pb fs)
    (N : News h₀ L s.heap (lexLed w x dx y dy pb fs k t k0 k1 k2 n0 tb b (.str (Str.ofString "a") ts) (.str tok tt) p tp))
    (h0 : 0 ≤ p) (hp : (b.length : Int) ≤ p) (hbl : b.length ≤ 10000) (htok : tok.length ≤ 10000)
    (hret : ∀ (ν : Option Value) (tok' : Str) (ts tt tp : Tok) (h' : Heap) (tk' : Nat), Hold (tok' = tok) → Fr h₀ L h' (rtM ν q te x) → News h₀ L h' (lexLed w x dx y dy pb fs k t k0 k1 k2 n0 tb b .none (.str tok' tt) p tp) → Q .brk { s with heap := h', toks := tk' }) :
    wpAny (model Challenge.rw_ij0133_01.row.prog w) (ktrTop dp un gd qual scope L 707 cdv [] outer) (execs body (envOf qual scope L 707 cdv)) Q E s := by
  refine' rtAt_use (qual := qual) (scope := scope) (cdv := cdv) (test := test) (body := body) (P := fun qual scope cdv test body => wpAny (model Challenge.rw_ij0133_01.row.prog w) (ktrTop dp un gd qual scope L 707 cdv [] outer) (execs body (envOf qual scope L 707 cdv)) Q E _) hbody ?lit ?_
  (case lit => k_is)
  (repeat' (first | ((with_reducible show Q _ _); refine' hret ?nu ?to ?ts ?tt ?tp _ _ ?e1 ?e2 ?e3; (case e3 => first | assumption | exact news_tl (by assumption) | exact news_tl (news_tl (by assumption))); (case e2 => exact fr_eq (by assumption) (by first | exact rfl | exact rtM_next | exact rtM_q_next | exact rtM_quoted)); (case e1 => exact Hold.mk rfl); (try (case ts => exact (0 : Nat)))) | ((with_reducible refine consQ_next ?_)) | ((with_reducible refine consQ_ret ?_)) | ((with_reducible refine consQ_brk ?_)) | ((with_reducible refine consQ_cont ?_)) | (with_reducible ((with_reducible show wpAny _ _ (execs (_ :: _) _) _ _ _); (k_here; (try dsimp only); (try (refine gen_toks ?_; intro tk)); first | refine execs_one ?_ | refine execs_consQ ?_))) | ((with_reducible refine wpAny_execs_nil ?_)) | (with_reducible ((with_reducible show wpAny _ _ (exec (PySem.Stmt.If _ _ _ _) _) _ _ _); (refine wpAny_If ?_))) | (((k_here; (with_reducible show wpAny _ _ (call (Value.ref 550) _ _) _ _ _); k_dflt (refine' io_eof_walk ?Bzq ?Fzq ?Xzq ?Nzq ?Tzq ?hkzq ?hdzq ?huzq ?m1zq ?m2zq ?Uzq ?hydzq ?h0zq ?hpzq ?hbzq ?_; (case Bzq | Fzq | Xzq | Nzq | Tzq => k_asm); (case hkzq => first | exact rfl | assumption); (case m1zq | m2zq => k_mem); (case Uzq => k_updF); (case hydzq | h0zq | hpzq | hbzq => with_reducible assumption); (case hdzq => k_room); (case huzq => k_units); k_whole; intro t' tp' h' tk' F' N'; (try dsimp only at N'); (try k_sweep))))) | (with_reducible ((with_reducible show wpAny _ _ (compareOp CmpOp.Eq (Value.str _ _) (Value.str _ _)) _ _ _); (first | refine eq_fact (by with_reducible assumption) ?_ | refine eq_fact (r := true) (by decide +kernel) ?_ | refine eq_fact (r := false) (by decide +kernel) ?_))) | (with_reducible ((with_reducible show wpAny _ _ (compareOp CmpOp.In (Value.str _ _) (Value.str _ _)) _ _ _); (first | refine in_fact (by with_reducible assumption) ?_ | refine in_fact (r := true) (by decide +kernel) ?_ | refine in_fact (r := false) (by decide +kernel) ?_))) | (k_unfold; (try dsimp only)) | walk1 | (dsimp only; walk1) | (leave1; walk_say "STEP leave1"; try dsimp only) | fail "no step"))

theorem rt_sq_ch {qual : Str} {scope : Scope} {cdv : Value} {test : PySem.Expr} {body : List Stmt} (hbody : RtAt w qual scope cdv test body)
    {x dx y dy pb fs : Addr} {k t : Nat → Tok} {k0 k1 k2 n0 tb te tp ts tt : Tok} {b tok c : Str} {p : Int} {ν : Option Value} {q : Bool}
    {dp un : Nat} {gd : Option (List Code)} {outer : List Env} {A₀ : Around} {base h₀ : Heap} {L : Addr} {s : Shared} {Q : Flow → Shared → Prop} {E : Value → Shared → Prop}
    (B : Below A₀ base outer h₀) (F : Fr h₀ L s.heap (rtM ν q te x)) (X : (Mine.K w.params).In h₀) (T : Top vw loose mean mg mb h₀) (hd : dp + 10 < recursionLimit) (hu : un + 60 < cLine)
    (hl1 : @LT.lt Nat _ dx x) (hl2 : @LT.lt Nat _ x dy) (hl3 : @LT.lt Nat _ dy y) (hl4 : @LT.lt Nat _ y pb) (hl5 : @LT.lt Nat _ pb fs)
    (N : News h₀ L s.heap (lexLed w x dx y dy pb fs k t k0 k1 k2 n0 tb b (.str (Str.ofString "'") ts) (.str tok tt) p tp))
    (h0 : 0 ≤ p) (hp : p < b.length) (hbl : b.length ≤ 10000) (htok : tok.length ≤ 10000)
    (hc : Txt.slice (Txt.slice b (some p) (some (p + 1)) ++ Str.ofString " ") none (some (-1)) = c)
    (hnl : (c == Str.ofString "\n") = false) (hcl : ((c.length : Int) != 0) = true) (hc1 : c.length ≤ 10000) (hnq : (c == Str.ofString "'") = false) (hes : InS c (Str.ofString "\\") = false)
    (hret : ∀ (ν : Option Value) (tok' : Str) (ts tt tp : Tok) (h' : Heap) (tk' : Nat), Hold (tok' = tok ++ c) → Fr h₀ L h' (rtM ν true te x) → News h₀ L h' (lexLed w x dx y dy pb fs k t k0 k1 k2 n0 tb b (.str (Str.ofString "'") ts) (.str tok' tt) (p + 1) tp) → Q .next { s with heap := h', toks := tk' }) :
    wpAny (model Challenge.rw_ij0133_01.row.prog w) (ktrTop dp un gd qual scope L 707 cdv [] outer) (execs body (envOf qual scope L 707 cdv)) Q E s := by
  refine' rt_pre hbody B F X T hd hu hl1 hl2 hl3 hl4 hl5 N h0 hp hbl hc ?nl ?c1 fun tn9 tp9 h9 tk9 F9 N9 => ?_
  (case nl => first | with_reducible assumption | decide +kernel)
  (case c1 => first | with_reducible assumption | decide +kernel)
  clear F N
  refine' rtAt_use (qual := qual) (scope := scope) (cdv := cdv) (test := test) (body := body) (P := fun qual scope cdv test body => wpAny (model Challenge.rw_ij0133_01.row.prog w) (ktrTop dp un gd qual scope L 707 cdv [] outer) (execs body.tail.tail.tail (envOf qual scope L 707 cdv)) Q E _) hbody ?lit ?_
  (case lit => k_is)
  dsimp only [List.tail]
  (repeat' (first | ((with_reducible show Q _ _); refine' hret ?nu ?to ?ts ?tt ?tp _ _ ?e1 ?e2 ?e3; (case e3 => first | assumption | exact news_tl (by assumption) | exact news_tl (news_tl (by assumption))); (case e2 => exact fr_eq (by assumption) (by first | exact rfl | exact rtM_next | exact rtM_q_next | exact rtM_quoted)); (case e1 => exact Hold.mk rfl); (try (case ts => exact (0 : Nat)))) | ((with_reducible refine consQ_next ?_)) | ((with_reducible refine consQ_ret ?_)) | ((with_reducible refine consQ_brk ?_)) | ((with_reducible refine consQ_cont ?_)) | (with_reducible ((with_reducible show wpAny _ _ (execs (_ :: _) _) _ _ _); (k_here; (try dsimp only); (try (refine gen_toks ?_; intro tk)); first | refine execs_one ?_ | refine execs_consQ ?_))) | ((with_reducible refine wpAny_execs_nil ?_)) | (with_reducible ((with_reducible show wpAny _ _ (exec (PySem.Stmt.If _ _ _ _) _) _ _ _); (refine wpAny_If ?_))) | (with_reducible ((with_reducible show wpAny _ _ (truthy (Value.str _ _)) _ _ _); (refine tr_fact (by with_reducible assumption) (by with_reducible assumption) ?_; intro _))) | (with_reducible ((with_reducible show wpAny _ _ (compareOp CmpOp.Eq (Value.str _ _) (Value.str _ _)) _ _ _); (first | refine eq_fact (by with_reducible assumption) ?_ | refine eq_fact (r := true) (by decide +kernel) ?_ | refine eq_fact (r := false) (by decide +kernel) ?_))) | (with_reducible ((with_reducible show wpAny _ _ (compareOp CmpOp.In (Value.str _ _) (Value.str _ _)) _ _ _); (first | refine in_fact (by with_reducible assumption) ?_ | refine in_fact (r := true) (by decide +kernel) ?_ | refine in_fact (r := false) (by decide +kernel) ?_))) | (k_unfold; (try dsimp only)) | walk1 | (dsimp only; walk1) | (leave1; walk_say "STEP leave1"; try dsimp only) | fail "no step"))

theorem rt_sq_end {qual : Str} {scope : Scope} {cdv : Value} {test : PySem.Expr} {body : List Stmt} (hbody : RtAt w qual scope cdv test body)
    {x dx y dy pb fs : Addr} {k t : Nat → Tok} {k0 k1 k2 n0 tb te tp ts tt : Tok} {b tok : Str} {p : Int} {ν : Option Value} {q : Bool}
    {dp un : Nat} {gd : Option (List Code)} {outer : List Env} {A₀ : Around} {base h₀ : Heap} {L : Addr} {s : Shared} {Q : Flow → Shared → Prop} {E : Value → Shared → Prop}
    (B : Below A₀ base outer h₀) (F : Fr h₀ L s.heap (rtM ν q te x)) (X : (Mine.K w.params).In h₀) (T : Top vw loose mean mg mb h₀) (hd : dp + 10 < recursionLimit) (hu : un + 60 < cLine)
    (hl1 : @LT.lt Nat _ dx x) (hl2 : @LT.lt Nat _ x dy) (hl3 : @LT.lt Nat _ dy y) (hl4 : @LT.lt Nat _ y pb) (hl5 : @LT.lt Nat _ pb fs)
    (N : News h₀ L s.heap (lexLed w x dx y dy pb fs k t k0 k1 k2 n0 tb b (.str (Str.ofString "'") ts) (.str tok tt) p tp))
    (h0 : 0 ≤ p) (hp : p < b.length) (hbl : b.length ≤ 10000) (htok : tok.length ≤ 10000)
    (hc : Txt.slice (Txt.slice b (some p) (some (p + 1)) ++ Str.ofString " ") none (some (-1)) = (Str.ofString "'"))
    (hret : ∀ (ν : Option Value) (tok' : Str) (ts tt tp : Tok) (h' : Heap) (tk' : Nat), Hold (tok' = tok) → Fr h₀ L h' (rtM ν true te x) → News h₀ L h' (lexLed w x dx y dy pb fs k t k0 k1 k2 n0 tb b (.str (Str.ofString "a") ts) (.str tok' tt) (p + 1) tp) → Q .next { s with heap := h', toks := tk' }) :
    wpAny (model Challenge.rw_ij0133_01.row.prog w) (ktrTop dp un gd qual scope L 707 cdv [] outer) (execs body (envOf qual scope L 707 cdv)) Q E s := by
  refine' rt_pre hbody B F X T hd hu hl1 hl2 hl3 hl4 hl5 N h0 hp hbl hc ?nl ?c1 fun tn9 tp9 h9 tk9 F9 N9 => ?_
  (case nl => first | with_reducible assumption | decide +kernel)
  (case c1 => first | with_reducible assumption | decide +kernel)
  clear F N
  refine' rtAt_use (qual := qual) (scope := scope) (cdv := cdv) (test := test) (body := body) (P := fun qual scope cdv test body => wpAny (model Challenge.rw_ij0133_01.row.prog w) (ktrTop dp un gd qual scope L 707 cdv [] outer) (execs body.tail.tail.tail (envOf qual scope L 707 cdv)) Q E _) hbody ?lit ?_
  (case lit => k_is)
  dsimp only [List.tail]
  (repeat' (first | ((with_reducible show Q _ _); refine' hret ?nu ?to ?ts ?tt ?tp _ _ ?e1 ?e2 ?e3; (case e3 => first | assumption | exact news_tl (by assumption) | exact news_tl (news_tl (by assumption))); (case e2 => exact fr_eq (by assumption) (by first | exact rfl | exact rtM_next | exact rtM_q_next | exact rtM_quoted)); (case e1 => exact Hold.mk rfl); (try (case ts => exact (0 : Nat)))) | ((with_reducible refine consQ_next ?_)) | ((with_reducible refine consQ_ret ?_)) | ((with_reducible refine consQ_brk ?_)) | ((with_reducible refine consQ_cont ?_)) | (with_reducible ((with_reducible show wpAny _ _ (execs (_ :: _) _) _ _ _); (k_here; (try dsimp only); (try (refine gen_toks ?_; intro tk)); first | refine execs_one ?_ | refine execs_consQ ?_))) | ((with_reducible refine wpAny_execs_nil ?_)) | (with_reducible ((with_reducible show wpAny _ _ (exec (PySem.Stmt.If _ _ _ _) _) _ _ _); (refine wpAny_If ?_))) | (with_reducible ((with_reducible show wpAny _ _ (compareOp CmpOp.Eq (Value.str _ _) (Value.str _ _)) _ _ _); (first | refine eq_fact (by with_reducible assumption) ?_ | refine eq_fact (r := true) (by decide +kernel) ?_ | refine eq_fact (r := false) (by decide +kernel) ?_))) | (with_reducible ((with_reducible show wpAny _ _ (compareOp CmpOp.In (Value.str _ _) (Value.str _ _)) _ _ _); (first | refine in_fact (by with_reducible assumption) ?_ | refine in_fact (r := true) (by decide +kernel) ?_ | refine in_fact (r := false) (by decide +kernel) ?_))) | (k_unfold; (try dsimp only)) | walk1 | (dsimp only; walk1) | (leave1; walk_say "STEP leave1"; try dsimp only) | fail "no step"))

theorem rt_dq_ch {qual : Str} {scope : Scope} {cdv : Value} {test : PySem.Expr} {body : List Stmt} (hbody : RtAt w qual scope cdv test body)
    {x dx y dy pb fs : Addr} {k t : Nat → Tok} {k0 k1 k2 n0 tb te tp ts tt : Tok} {b tok : Str} {p : Int} {ν : Option Value} {q : Bool}
    {dp un : Nat} {gd : Option (List Code)} {outer : List Env} {A₀ : Around} {base h₀ : Heap} {L : Addr} {s : Shared} {Q : Flow → Shared → Prop} {E : Value → Shared → Prop}
    (B : Below A₀ base outer h₀) (F : Fr h₀ L s.heap (rtM ν q te x)) (X : (Mine.K w.params).In h₀) (T : Top vw loose mean mg mb h₀) (hd : dp + 10 < recursionLimit) (hu : un + 60 < cLine)
    (hl1 : @LT.lt Nat _ dx x) (hl2 : @LT.lt Nat _ x dy) (hl3 : @LT.lt Nat _ dy y) (hl4 : @LT.lt Nat _ y pb) (hl5 : @LT.lt Nat _ pb fs)
    (N : News h₀ L s.heap (lexLed w x dx y dy pb fs k t k0 k1 k2 n0 tb b (.str (Str.ofString "\"") ts) (.str tok tt) p tp))
    (h0 : 0 ≤ p) (hp : p < b.length) (hbl : b.length ≤ 10000) (htok : tok.length ≤ 10000)
    (hc : Txt.slice (Txt.slice b (some p) (some (p + 1)) ++ Str.ofString " ") none (some (-1)) = (Str.ofString "'"))
    (hret : ∀ (ν : Option Value) (tok' : Str) (ts tt tp : Tok) (h' : Heap) (tk' : Nat), Hold (tok' = tok ++ Str.ofString "'") → Fr h₀ L h' (rtM ν true te x) → News h₀ L h' (lexLed w x dx y dy pb fs k t k0 k1 k2 n0 tb b (.str (Str.ofString "\"") ts) (.str tok' tt) (p + 1) tp) → Q .next { s with heap := h', toks := tk' }) :
    wpAny (model Challenge.rw_ij0133_01.row.prog w) (ktrTop dp un gd qual scope L 707 cdv [] outer) (execs body (envOf qual scope L 707 cdv)) Q E s := by
  refine' rt_pre hbody B F X T hd hu hl1 hl2 hl3 hl4 hl5 N h0 hp hbl hc ?nl ?c1 fun tn9 tp9 h9 tk9 F9 N9 => ?_
  (case nl => first | with_reducible assumption | decide +kernel)
  (case c1 => first | with_reducible assumption | decide +kernel)
  clear F N
  refine' rtAt_use (qual := qual) (scope := scope) (cdv := cdv) (test := test) (body := body) (P := fun qual scope cdv test body => wpAny (model Challenge.rw_ij0133_01.row.prog w) (ktrTop dp un gd qual scope L 707 cdv [] outer) (execs body.tail.tail.tail (envOf qual scope L 707 cdv)) Q E _) hbody ?lit ?_
  (case lit => k_is)
  dsimp only [List.tail]
  (repeat' (first | ((with_reducible show Q _ _); refine' hret ?nu ?to ?ts ?tt ?tp _ _ ?e1 ?e2 ?e3; (case e3 => first | assumption | exact news_tl (by assumption) | exact news_tl (news_tl (by assumption))); (case e2 => exact fr_eq (by assumption) (by first | exact rfl | exact rtM_next | exact rtM_q_next | exact rtM_quoted)); (case e1 => exact Hold.mk rfl); (try (case ts => exact (0 : Nat)))) | ((with_reducible refine consQ_next ?_)) | ((with_reducible refine consQ_ret ?_)) | ((with_reducible refine consQ_brk ?_)) | ((with_reducible refine consQ_cont ?_)) | (with_reducible ((with_reducible show wpAny _ _ (execs (_ :: _) _) _ _ _); (k_here; (try dsimp only); (try (refine gen_toks ?_; intro tk)); first | refine execs_one ?_ | refine execs_consQ ?_))) | ((with_reducible refine wpAny_execs_nil ?_)) | (with_reducible ((with_reducible show wpAny _ _ (exec (PySem.Stmt.If _ _ _ _) _) _ _ _); (refine wpAny_If ?_))) | (with_reducible ((with_reducible show wpAny _ _ (compareOp CmpOp.Eq (Value.str _ _) (Value.str _ _)) _ _ _); (first | refine eq_fact (by with_reducible assumption) ?_ | refine eq_fact (r := true) (by decide +kernel) ?_ | refine eq_fact (r := false) (by decide +kernel) ?_))) | (with_reducible ((with_reducible show wpAny _ _ (compareOp CmpOp.In (Value.str _ _) (Value.str _ _)) _ _ _); (first | refine in_fact (by with_reducible assumption) ?_ | refine in_fact (r := true) (by decide +kernel) ?_ | refine in_fact (r := false) (by decide +kernel) ?_))) | (k_unfold; (try dsimp only)) | walk1 | (dsimp only; walk1) | (leave1; walk_say "STEP leave1"; try dsimp only) | fail "no step"))

end
section
variable {w : World} {vw : Program} {loose : List Str} {mean : ExcName → Option Value} {mg mb : Str → Option Value}

theorem rt_dq_end {qual : Str} {scope : Scope} {cdv : Value} {test : PySem.Expr} {body : List Stmt} (hbody : RtAt w qual scope cdv test body)
    {x dx y dy pb fs : Addr} {k t : Nat → Tok} {k0 k1 k2 n0 tb te tp ts tt : Tok} {b tok : Str} {p : Int} {ν : Option Value} {q : Bool}
    {dp un : Nat} {gd : Option (List Code)} {outer : List Env} {A₀ : Around} {base h₀ : Heap} {L : Addr} {s : Shared} {Q : Flow → Shared → Prop} {E : Value → Shared → Prop}
    (B : Below A₀ base outer h₀) (F : Fr h₀ L s.heap (rtM ν q te x)) (X : (Mine.K w.params).In h₀) (T : Top vw loose mean mg mb h₀) (hd : dp + 10 < recursionLimit) (hu : un + 60 < cLine)
    (hl1 : @LT.lt Nat _ dx x) (hl2 : @LT.lt Nat _ x dy) (hl3 : @LT.lt Nat _ dy y) (hl4 : @LT.lt Nat _ y pb) (hl5 : @LT.lt Nat _ pb fs)
    (N : News h₀ L s.heap (lexLed w x dx y dy pb fs k t k0 k1 k2 n0 tb b (.str (Str.ofString "\"") ts) (.str tok tt) p tp))
    (h0 : 0 ≤ p) (hp : p < b.length) (hbl : b.length ≤ 10000) (htok : tok.length ≤ 10000)
    (hc : Txt.slice (Txt.slice b (some p) (some (p + 1)) ++ Str.ofString " ") none (some (-1)) = (Str.ofString "\""))
    (hret : ∀ (ν : Option Value) (tok' : Str) (ts tt tp : Tok) (h' : Heap) (tk' : Nat), Hold (tok' = tok) → Fr h₀ L h' (rtM ν true te x) → News h₀ L h' (lexLed w x dx y dy pb fs k t k0 k1 k2 n0 tb b (.str (Str.ofString "a") ts) (.str tok' tt) (p + 1) tp) → Q .next { s with heap := h', toks := tk' }) :
    wpAny (model Challenge.rw_ij0133_01.row.prog w) (ktrTop dp un gd qual scope L 707 cdv [] outer) (execs body (envOf qual scope L 707 cdv)) Q E s := by
  refine' rt_pre hbody B F X T hd hu hl1 hl2 hl3 hl4 hl5 N h0 hp hbl hc ?nl ?c1 fun tn9 tp9 h9 tk9 F9 N9 => ?_
  (case nl => first | with_reducible assumption | decide +kernel)
  (case c1 => first | with_reducible assumption | decide +kernel)
  clear F N
  refine' rtAt_use (qual := qual) (scope := scope) (cdv := cdv) (test := test) (body := body) (P := fun qual scope cdv test body => wpAny (model Challenge.rw_ij0133_01.row.prog w) (ktrTop dp un gd qual scope L 707 cdv [] outer) (execs body.tail.tail.tail (envOf qual scope L 707 cdv)) Q E _) hbody ?lit ?_
  (case lit => k_is)
  dsimp only [List.tail]
  (repeat' (first | ((with_reducible show Q _ _); refine' hret ?nu ?to ?ts ?tt ?tp _ _ ?e1 ?e2 ?e3; (case e3 => first | assumption | exact news_tl (by assumption) | exact news_tl (news_tl (by assumption))); (case e2 => exact fr_eq (by assumption) (by first | exact rfl | exact rtM_next | exact rtM_q_next | exact rtM_quoted)); (case e1 => exact Hold.mk rfl); (try (case ts => exact (0 : Nat)))) | ((with_reducible refine consQ_next ?_)) | ((with_reducible refine consQ_ret ?_)) | ((with_reducible refine consQ_brk ?_)) | ((with_reducible refine consQ_cont ?_)) | (with_reducible ((with_reducible show wpAny _ _ (execs (_ :: _) _) _ _ _); (k_here; (try dsimp only); (try (refine gen_toks ?_; intro tk)); first | refine execs_one ?_ | refine execs_consQ ?_))) | ((with_reducible refine wpAny_execs_nil ?_)) | (with_reducible ((with_reducible show wpAny _ _ (exec (PySem.Stmt.If _ _ _ _) _) _ _ _); (refine wpAny_If ?_))) | (with_reducible ((with_reducible show wpAny _ _ (compareOp CmpOp.Eq (Value.str _ _) (Value.str _ _)) _ _ _); (first | refine eq_fact (by with_reducible assumption) ?_ | refine eq_fact (r := true) (by decide +kernel) ?_ | refine eq_fact (r := false) (by decide +kernel) ?_))) | (with_reducible ((with_reducible show wpAny _ _ (compareOp CmpOp.In (Value.str _ _) (Value.str _ _)) _ _ _); (first | refine in_fact (by with_reducible assumption) ?_ | refine in_fact (r := true) (by decide +kernel) ?_ | refine in_fact (r := false) (by decide +kernel) ?_))) | (k_unfold; (try dsimp only)) | walk1 | (dsimp only; walk1) | (leave1; walk_say "STEP leave1"; try dsimp only) | fail "no step"))

theorem rt_sp_word {qual : Str} {scope : Scope} {cdv : Value} {test : PySem.Expr} {body : List Stmt} (hbody : RtAt w qual scope cdv test body)
    {x dx y dy pb fs : Addr} {k t : Nat → Tok} {k0 k1 k2 n0 tb te tp ts tt : Tok} {b tok c : Str} {p : Int} {ν : Option Value} {q : Bool}
    {dp un : Nat} {gd : Option (List Code)} {outer : List Env} {A₀ : Around} {base h₀ : Heap} {L : Addr} {s : Shared} {Q : Flow → Shared → Prop} {E : Value → Shared → Prop}
    (B : Below A₀ base outer h₀) (F : Fr h₀ L s.heap (rtM ν q te x)) (X : (Mine.K w.params).In h₀) (T : Top vw loose mean mg mb h₀) (hd : dp + 10 < recursionLimit) (hu : un + 60 < cLine)
    (hl1 : @LT.lt Nat _ dx x) (hl2 : @LT.lt Nat _ x dy) (hl3 : @LT.lt Nat _ dy y) (hl4 : @LT.lt Nat _ y pb) (hl5 : @LT.lt Nat _ pb fs)
    (N : News h₀ L s.heap (lexLed w x dx y dy pb fs k t k0 k1 k2 n0 tb b (.str (Str.ofString " ") ts) (.str tok tt) p tp))
    (h0 : 0 ≤ p) (hp : p < b.length) (hbl : b.length ≤ 10000) (htok : tok.length ≤ 10000)
    (hc : Txt.slice (Txt.slice b (some p) (some (p + 1)) ++ Str.ofString " ") none (some (-1)) = c)
    (hnl : (c == Str.ofString "\n") = false) (hcl : ((c.length : Int) != 0) = true) (hc1 : c.length ≤ 10000) (hws : InS c (Str.ofString " \t\r\n") = false) (hem : InS c (Str.ofString "") = false) (hqu : InS c (Str.ofString "'\"") = false) (hes : InS c (Str.ofString "\\") = false) (hwc : InS c wordChars = true)
    (hret : ∀ (ν : Option Value) (tok' : Str) (ts tt tp : Tok) (h' : Heap) (tk' : Nat), Hold (tok' = c) → Fr h₀ L h' (rtM ν q te x) → News h₀ L h' (lexLed w x dx y dy pb fs k t k0 k1 k2 n0 tb b (.str (Str.ofString "a") ts) (.str tok' tt) (p + 1) tp) → Q .next { s with heap := h', toks := tk' }) :
    wpAny (model Challenge.rw_ij0133_01.row.prog w) (ktrTop dp un gd qual scope L 707 cdv [] outer) (execs body (envOf qual scope L 707 cdv)) Q E s := by
  refine' rt_pre hbody B F X T hd hu hl1 hl2 hl3 hl4 hl5 N h0 hp hbl hc ?nl ?c1 fun tn9 tp9 h9 tk9 F9 N9 => ?_
  (case nl => first | with_reducible assumption | decide +kernel)
  (case c1 => first | with_reducible assumption | decide +kernel)
  clear F N
  refine' rtAt_use (qual := qual) (scope := scope) (cdv := cdv) (test := test) (body := body) (P := fun qual scope cdv test body => wpAny (model Challenge.rw_ij0133_01.row.prog w) (ktrTop dp un gd qual scope L 707 cdv [] outer) (execs body.tail.tail.tail (envOf qual scope L 707 cdv)) Q E _) hbody ?lit ?_
  (case lit => k_is)
  dsimp only [List.tail]
  (repeat' (first | ((with_reducible show Q _ _); refine' hret ?nu ?to ?ts ?tt ?tp _ _ ?e1 ?e2 ?e3; (case e3 => first | assumption | exact news_tl (by assumption) | exact news_tl (news_tl (by assumption))); (case e2 => exact fr_eq (by assumption) (by first | exact rfl | exact rtM_next | exact rtM_q_next | exact rtM_quoted)); (case e1 => exact Hold.mk rfl); (try (case ts => exact (0 : Nat)))) | ((with_reducible refine consQ_next ?_)) | ((with_reducible refine consQ_ret ?_)) | ((with_reducible refine consQ_brk ?_)) | ((with_reducible refine consQ_cont ?_)) | (with_reducible ((with_reducible show wpAny _ _ (execs (_ :: _) _) _ _ _); (k_here; (try dsimp only); (try (refine gen_toks ?_; intro tk)); first | refine execs_one ?_ | refine execs_consQ ?_))) | ((with_reducible refine wpAny_execs_nil ?_)) | (with_reducible ((with_reducible show wpAny _ _ (exec (PySem.Stmt.If _ _ _ _) _) _ _ _); (refine wpAny_If ?_))) | (with_reducible ((with_reducible show wpAny _ _ (truthy (Value.str _ _)) _ _ _); (refine tr_fact (by with_reducible assumption) (by with_reducible assumption) ?_; intro _))) | (with_reducible ((with_reducible show wpAny _ _ (compareOp CmpOp.Eq (Value.str _ _) (Value.str _ _)) _ _ _); (first | refine eq_fact (by with_reducible assumption) ?_ | refine eq_fact (r := true) (by decide +kernel) ?_ | refine eq_fact (r := false) (by decide +kernel) ?_))) | (with_reducible ((with_reducible show wpAny _ _ (compareOp CmpOp.In (Value.str _ _) (Value.str _ _)) _ _ _); (first | refine in_fact (by with_reducible assumption) ?_ | refine in_fact (r := true) (by decide +kernel) ?_ | refine in_fact (r := false) (by decide +kernel) ?_))) | (k_unfold; (try dsimp only)) | walk1 | (dsimp only; walk1) | (leave1; walk_say "STEP leave1"; try dsimp only) | fail "no step"))

theorem rt_sp_q {qual : Str} {scope : Scope} {cdv : Value} {test : PySem.Expr} {body : List Stmt} (hbody : RtAt w qual scope cdv test body)
    {x dx y dy pb fs : Addr} {k t : Nat → Tok} {k0 k1 k2 n0 tb te tp ts tt : Tok} {b tok : Str} {p : Int} {ν : Option Value} {q : Bool}
    {dp un : Nat} {gd : Option (List Code)} {outer : List Env} {A₀ : Around} {base h₀ : Heap} {L : Addr} {s : Shared} {Q : Flow → Shared → Prop} {E : Value → Shared → Prop}
    (B : Below A₀ base outer h₀) (F : Fr h₀ L s.heap (rtM ν q te x)) (X : (Mine.K w.params).In h₀) (T : Top vw loose mean mg mb h₀) (hd : dp + 10 < recursionLimit) (hu : un + 60 < cLine)
    (hl1 : @LT.lt Nat _ dx x) (hl2 : @LT.lt Nat _ x dy) (hl3 : @LT.lt Nat _ dy y) (hl4 : @LT.lt Nat _ y pb) (hl5 : @LT.lt Nat _ pb fs)
    (N : News h₀ L s.heap (lexLed w x dx y dy pb fs k t k0 k1 k2 n0 tb b (.str (Str.ofString " ") ts) (.str tok tt) p tp))
    (h0 : 0 ≤ p) (hp : p < b.length) (hbl : b.length ≤ 10000) (htok : tok.length ≤ 10000)
    (hc : Txt.slice (Txt.slice b (some p) (some (p + 1)) ++ Str.ofString " ") none (some (-1)) = (Str.ofString "'"))
    (hret : ∀ (ν : Option Value) (tok' : Str) (ts tt tp : Tok) (h' : Heap) (tk' : Nat), Hold (tok' = tok) → Fr h₀ L h' (rtM ν q te x) → News h₀ L h' (lexLed w x dx y dy pb fs k t k0 k1 k2 n0 tb b (.str (Str.ofString "'") ts) (.str tok' tt) (p + 1) tp) → Q .next { s with heap := h', toks := tk' }) :
    wpAny (model Challenge.rw_ij0133_01.row.prog w) (ktrTop dp un gd qual scope L 707 cdv [] outer) (execs body (envOf qual scope L 707 cdv)) Q E s := by
  refine' rt_pre hbody B F X T hd hu hl1 hl2 hl3 hl4 hl5 N h0 hp hbl hc ?nl ?c1 fun tn9 tp9 h9 tk9 F9 N9 => ?_
  (case nl => first | with_reducible assumption | decide +kernel)
  (case c1 => first | with_reducible assumption | decide +kernel)
  clear F N
  refine' rtAt_use (qual := qual) (scope := scope) (cdv := cdv) (test := test) (body := body) (P := fun qual scope cdv test body => wpAny (model Challenge.rw_ij0133_01.row.prog w) (ktrTop dp un gd qual scope L 707 cdv [] outer) (execs body.tail.tail.tail (envOf qual scope L 707 cdv)) Q E _) hbody ?lit ?_
  (case lit => k_is)
  dsimp only [List.tail]
  (repeat' (first | ((with_reducible show Q _ _); refine' hret ?nu ?to ?ts ?tt ?tp _ _ ?e1 ?e2 ?e3; (case e3 => first | assumption | exact news_tl (by assumption) | exact news_tl (news_tl (by assumption))); (case e2 => exact fr_eq (by assumption) (by first | exact rfl | exact rtM_next | exact rtM_q_next | exact rtM_quoted)); (case e1 => exact Hold.mk rfl); (try (case ts => exact (0 : Nat)))) | ((with_reducible refine consQ_next ?_)) | ((with_reducible refine consQ_ret ?_)) | ((with_reducible refine consQ_brk ?_)) | ((with_reducible refine consQ_cont ?_)) | (with_reducible ((with_reducible show wpAny _ _ (execs (_ :: _) _) _ _ _); (k_here; (try dsimp only); (try (refine gen_toks ?_; intro tk)); first | refine execs_one ?_ | refine execs_consQ ?_))) | ((with_reducible refine wpAny_execs_nil ?_)) | (with_reducible ((with_reducible show wpAny _ _ (exec (PySem.Stmt.If _ _ _ _) _) _ _ _); (refine wpAny_If ?_))) | (with_reducible ((with_reducible show wpAny _ _ (compareOp CmpOp.Eq (Value.str _ _) (Value.str _ _)) _ _ _); (first | refine eq_fact (by with_reducible assumption) ?_ | refine eq_fact (r := true) (by decide +kernel) ?_ | refine eq_fact (r := false) (by decide +kernel) ?_))) | (with_reducible ((with_reducible show wpAny _ _ (compareOp CmpOp.In (Value.str _ _) (Value.str _ _)) _ _ _); (first | refine in_fact (by with_reducible assumption) ?_ | refine in_fact (r := true) (by decide +kernel) ?_ | refine in_fact (r := false) (by decide +kernel) ?_))) | (k_unfold; (try dsimp only)) | walk1 | (dsimp only; walk1) | (leave1; walk_say "STEP leave1"; try dsimp only) | fail "no step"))

theorem rt_no_eof {qual : Str} {scope : Scope} {cdv : Value} {test : PySem.Expr} {body : List Stmt} (hbody : RtAt w qual scope cdv test body)
    {x dx y dy pb fs : Addr} {k t : Nat → Tok} {k0 k1 k2 n0 tb te tp ts tt : Tok} {b tok : Str} {p : Int} {ν : Option Value} {q : Bool}
    {dp un : Nat} {gd : Option (List Code)} {outer : List Env} {A₀ : Around} {base h₀ : Heap} {L : Addr} {s : Shared} {Q : Flow → Shared → Prop} {E : Value → Shared → Prop}
    (B : Below A₀ base outer h₀) (F : Fr h₀ L s.heap (rtM ν q te x)) (X : (Mine.K w.params).In h₀) (T : Top vw loose mean mg mb h₀) (hd : dp + 10 < recursionLimit) (hu : un + 60 < cLine)
    (hl1 : @LT.lt Nat _ dx x) (hl2 : @LT.lt Nat _ x dy) (hl3 : @LT.lt Nat _ dy y) (hl4 : @LT.lt Nat _ y pb) (hl5 : @LT.lt Nat _ pb fs)
    (N : News h₀ L s.heap (lexLed w x dx y dy pb fs k t k0 k1 k2 n0 tb b .none (.str tok tt) p tp))
    (h0 : 0 ≤ p) (hp : (b.length : Int) ≤ p) (hbl : b.length ≤ 10000) (htok : tok.length ≤ 10000)
    (hret : ∀ (ν : Option Value) (tok' : Str) (ts tt tp : Tok) (h' : Heap) (tk' : Nat), Hold (tok' = Str.ofString "") → Fr h₀ L h' (rtM ν q te x) → News h₀ L h' (lexLed w x dx y dy pb fs k t k0 k1 k2 n0 tb b .none (.str tok' tt) p tp) → Q .brk { s with heap := h', toks := tk' }) :
    wpAny (model Challenge.rw_ij0133_01.row.prog w) (ktrTop dp un gd qual scope L 707 cdv [] outer) (execs body (envOf qual scope L 707 cdv)) Q E s := by
  refine' rtAt_use (qual := qual) (scope := scope) (cdv := cdv) (test := test) (body := body) (P := fun qual scope cdv test body => wpAny (model Challenge.rw_ij0133_01.row.prog w) (ktrTop dp un gd qual scope L 707 cdv [] outer) (execs body (envOf qual scope L 707 cdv)) Q E _) hbody ?lit ?_
  (case lit => k_is)
  (repeat' (first | ((with_reducible show Q _ _); refine' hret ?nu ?to ?ts ?tt ?tp _ _ ?e1 ?e2 ?e3; (case e3 => first | assumption | exact news_tl (by assumption) | exact news_tl (news_tl (by assumption))); (case e2 => exact fr_eq (by assumption) (by first | exact rfl | exact rtM_next | exact rtM_q_next | exact rtM_quoted)); (case e1 => exact Hold.mk rfl); (try (case ts => exact (0 : Nat)))) | ((with_reducible refine consQ_next ?_)) | ((with_reducible refine consQ_ret ?_)) | ((with_reducible refine consQ_brk ?_)) | ((with_reducible refine consQ_cont ?_)) | (with_reducible ((with_reducible show wpAny _ _ (execs (_ :: _) _) _ _ _); (k_here; (try dsimp only); (try (refine gen_toks ?_; intro tk)); first | refine execs_one ?_ | refine execs_consQ ?_))) | ((with_reducible refine wpAny_execs_nil ?_)) | (with_reducible ((with_reducible show wpAny _ _ (exec (PySem.Stmt.If _ _ _ _) _) _ _ _); (refine wpAny_If ?_))) | (((k_here; (with_reducible show wpAny _ _ (call (Value.ref 550) _ _) _ _ _); k_dflt (refine' io_eof_walk ?Bzq ?Fzq ?Xzq ?Nzq ?Tzq ?hkzq ?hdzq ?huzq ?m1zq ?m2zq ?Uzq ?hydzq ?h0zq ?hpzq ?hbzq ?_; (case Bzq | Fzq | Xzq | Nzq | Tzq => k_asm); (case hkzq => first | exact rfl | assumption); (case m1zq | m2zq => k_mem); (case Uzq => k_updF); (case hydzq | h0zq | hpzq | hbzq => with_reducible assumption); (case hdzq => k_room); (case huzq => k_units); k_whole; intro t' tp' h' tk' F' N'; (try dsimp only at N'); (try k_sweep))))) | (with_reducible ((with_reducible show wpAny _ _ (compareOp CmpOp.Eq (Value.str _ _) (Value.str _ _)) _ _ _); (first | refine eq_fact (by with_reducible assumption) ?_ | refine eq_fact (r := true) (by decide +kernel) ?_ | refine eq_fact (r := false) (by decide +kernel) ?_))) | (k_unfold; (try dsimp only)) | walk1 | (dsimp only; walk1) | (leave1; walk_say "STEP leave1"; try dsimp only) | fail "no step"))

end
inductive St where
  | bl | wd | sq | dq | en
noncomputable def stVal : St → Tok → Value
  | .bl, t => .str (Str.ofString " ") t
  | .wd, t => .str (Str.ofString "a") t
  | .sq, t => .str (Str.ofString "'") t
  | .dq, t => .str (Str.ofString "\"") t
  | .en, _ => .none
/-- a sign that a word may bear -/
noncomputable def okW (n : Nat) : Bool := !(S [n] == Str.ofString "\n") && !InS (S [n]) (Str.ofString " \t\r\n") && !InS (S [n]) (Str.ofString "") && !InS (S [n]) (Str.ofString "'\"") && !InS (S [n]) (Str.ofString "\\") && InS (S [n]) wordChars
/-- a sign that stands for itself between single quotes -/
noncomputable def okQ (n : Nat) : Bool := !(S [n] == Str.ofString "\n") && !(S [n] == Str.ofString "'") && !InS (S [n]) (Str.ofString "\\")
/-- read_token's way: from a state, a token, quoted or not, over signs -/
inductive Rd : St → List Nat → Bool → List Nat → List Nat → Bool → St → List Nat → Prop
  | a_word {n tok q r T Q Z R} : okW n = true → Rd .wd (tok ++ [n]) q r T Q Z R → Rd .wd tok q (n :: r) T Q Z R
  | a_sp {tok q r} : (tok ≠ [] ∨ q = true) → Rd .wd tok q (32 :: r) tok q .bl r
  | a_q {tok q r T Q Z R} : Rd .sq tok q r T Q Z R → Rd .wd tok q (39 :: r) T Q Z R
  | a_dq {tok q r T Q Z R} : Rd .dq tok q r T Q Z R → Rd .wd tok q (34 :: r) T Q Z R
  | a_eof {tok q} : Rd .wd tok q [] tok q .en []
  | sq_ch {n tok q r T Q Z R} : okQ n = true → Rd .sq (tok ++ [n]) true r T Q Z R → Rd .sq tok q (n :: r) T Q Z R
  | sq_end {tok q r T Q Z R} : Rd .wd tok true r T Q Z R → Rd .sq tok q (39 :: r) T Q Z R
  | dq_ch {tok q r T Q Z R} : Rd .dq (tok ++ [39]) true r T Q Z R → Rd .dq tok q (39 :: r) T Q Z R
  | dq_end {tok q r T Q Z R} : Rd .wd tok true r T Q Z R → Rd .dq tok q (34 :: r) T Q Z R
  | sp_word {n tok q r T Q Z R} : okW n = true → Rd .wd [n] q r T Q Z R → Rd .bl tok q (n :: r) T Q Z R
  | sp_q {tok q r T Q Z R} : Rd .sq tok q r T Q Z R → Rd .bl tok q (39 :: r) T Q Z R
  | no_eof {tok q} : Rd .en tok q [] [] q .en []
theorem s_len1 (n : Nat) : (((S [n]).length : Int) != 0) = true := by simp [S, Str.length]
theorem s_lenT {l : List Nat} (h : l ≠ []) : (((S l).length : Int) != 0) = true := by
  rw [S_length]
  cases l with
  | nil => exact absurd rfl h
  | cons a r => simp; omega
theorem ofString_sq : Str.ofString "'" = S [39] := by decide +kernel
theorem ofString_dq : Str.ofString "\"" = S [34] := by decide +kernel
theorem ofString_nil : Str.ofString "" = S [] := by decide +kernel
section
variable {w : World} {vw : Program} {loose : List Str} {mean : ExcName → Option Value} {mg mb : Str → Option Value}
theorem rt_test {qual : Str} {scope : Scope} {cdv : Value} {test : PySem.Expr} {body : List Stmt} (hbody : RtAt w qual scope cdv test body)
    {A : Around} {L : Addr} {s : Shared} {Q : Bool → Shared → Prop} {E : Value → Shared → Prop} {h₀ : Heap} {m : Str → Option Value} (F : Fr h₀ L s.heap m) (X : (Mine.K w.params).In h₀) (h : Q true s) :
    wpAny (model Challenge.rw_ij0133_01.row.prog w) A (isTrue test (envOf qual scope L 707 cdv) (eval test (envOf qual scope L 707 cdv))) Q E s := by
  obtain ⟨oc, od, name, params, st1, st2, orelse, pos, rest, dV, kV, doc, pm, an, ct, osl, e⟩ := hbody
  refine' rt_elim e ?lit ?_
  (case lit => k_is)
  intro e2
  cases e2
  clear e
  (repeat' (first | ((with_reducible show Q _ _); exact h) | ((with_reducible refine consQ_next ?_)) | ((with_reducible refine consQ_ret ?_)) | ((with_reducible refine consQ_brk ?_)) | ((with_reducible refine consQ_cont ?_)) | (with_reducible ((with_reducible show wpAny _ _ (execs (_ :: _) _) _ _ _); (k_here; (try dsimp only); (try (refine gen_toks ?_; intro tk)); first | refine execs_one ?_ | refine execs_consQ ?_))) | ((with_reducible refine wpAny_execs_nil ?_)) | (with_reducible ((with_reducible show wpAny _ _ (exec (PySem.Stmt.If _ _ _ _) _) _ _ _); (refine wpAny_If ?_))) | (k_unfold; (try dsimp only)) | walk1 | (dsimp only; walk1) | fail "no step"))

theorem rt_loop {qual : Str} {scope : Scope} {cdv : Value} {test : PySem.Expr} {body orelse : List Stmt} (hbody : RtAt w qual scope cdv test body)
    {x dx y dy pb fs : Addr} {k t : Nat → Tok} {k0 k1 k2 n0 tb te : Tok} {b : Str}
    {dp un : Nat} {gd : Option (List Code)} {outer : List Env} {A₀ : Around} {base h₀ : Heap} {L : Addr} {Qf : Flow → Shared → Prop} {E : Value → Shared → Prop}
    (B : Below A₀ base outer h₀) (X : (Mine.K w.params).In h₀) (T₀ : Top vw loose mean mg mb h₀) (hd : dp + 10 < recursionLimit) (hu : un + 60 < cLine)
    (hl1 : @LT.lt Nat _ dx x) (hl2 : @LT.lt Nat _ x dy) (hl3 : @LT.lt Nat _ dy y) (hl4 : @LT.lt Nat _ y pb) (hl5 : @LT.lt Nat _ pb fs) (hbl : b.length ≤ 10000)
    (hE : PassesOwn (model Challenge.rw_ij0133_01.row.prog w) (ktrTop dp un gd qual scope L 707 cdv [] outer) (envOf qual scope L 707 cdv) E)
    {st : St} {tok : List Nat} {q : Bool} {cs T : List Nat} {Qd : Bool} {Z : St} {R : List Nat} (D : Rd st tok q cs T Qd Z R) :
    ∀ (p : Nat) (ν : Option Value) (ts tt tp : Tok) (s : Shared), p ≤ b.length → b.cps.toList.drop p = cs → tok.length + cs.length ≤ 10000 → Fr h₀ L s.heap (rtM ν q te x) →
      News h₀ L s.heap (lexLed w x dx y dy pb fs k t k0 k1 k2 n0 tb b (stVal st ts) (.str (S tok) tt) p tp) →
      (∀ (ν : Option Value) (ts tt tp : Tok) (p' : Nat) (h' : Heap) (tk' : Nat), p' ≤ b.length → b.cps.toList.drop p' = R → Fr h₀ L h' (rtM ν Qd te x) →
        News h₀ L h' (lexLed w x dx y dy pb fs k t k0 k1 k2 n0 tb b (stVal Z ts) (.str (S T) tt) p' tp) → Qf .next { s with heap := h', toks := tk' }) →
      WhlRest Challenge.rw_ij0133_01.row.prog w (ktrTop dp un gd qual scope L 707 cdv [] outer) E (envOf qual scope L 707 cdv) test body orelse Qf 0 s := by
  induction D with
  | @a_word n tok q r T Q Z R hn D ih =>
    intro p ν ts tt tp s hp hcs hlen F N hfin
    have hp1 : p + 1 ≤ b.length := by
      have h1 := congrArg List.length hcs
      simp only [List.length_drop, List.length_cons] at h1
      have h2 : b.length = b.cps.toList.length := rfl
      omega
    have hdrop : b.cps.toList.drop (p + 1) = r := by rw [← List.drop_drop, hcs]; rfl
    have hc := slice_char hcs
    have hpi : (p : Int) < b.length := by omega
    have htl : (S tok).length ≤ 10000 := by rw [S_length]; omega
    simp only [List.length_cons] at hlen
    refine whl_turn (k := 0) hE (rt_test hbody F X (WhlIf.yes rfl ?_))
    simp only [okW, Bool.and_eq_true, Bool.not_eq_true'] at hn
    obtain ⟨⟨⟨⟨⟨f1, f2⟩, f3⟩, f4⟩, f5⟩, f6⟩ := hn
    refine rt_a_word hbody B F X T₀ hd hu hl1 hl2 hl3 hl4 hl5 N (Int.natCast_nonneg p) hpi hbl htl hc f1 (s_len1 n) (by rw [S_length]; simp) f2 f3 f4 f5 f6 (fun ν' tok' ts' tt' tp' h' tk' hh F' N' => ?_)
    have e := hh.out
    rw [S_append] at e
    subst e
    exact ih (p + 1) ν' ts' tt' tp' _ hp1 hdrop (by simp only [List.length_append, List.length_cons, List.length_nil]; omega) F' N' (fun ν2 ts2 tt2 tp2 p2 h2 tk2 a1 a2 a3 a4 => hfin ν2 ts2 tt2 tp2 p2 h2 tk2 a1 a2 a3 a4)
  | @a_sp tok q r hq =>
    intro p ν ts tt tp s hp hcs hlen F N hfin
    have hp1 : p + 1 ≤ b.length := by
      have h1 := congrArg List.length hcs
      simp only [List.length_drop, List.length_cons] at h1
      have h2 : b.length = b.cps.toList.length := rfl
      omega
    have hdrop : b.cps.toList.drop (p + 1) = r := by rw [← List.drop_drop, hcs]; rfl
    have hc := slice_char hcs
    have hpi : (p : Int) < b.length := by omega
    have htl : (S tok).length ≤ 10000 := by rw [S_length]; omega
    refine whl_turn (k := 0) hE (rt_test hbody F X (WhlIf.yes rfl ?_))
    by_cases ht : tok = []
    · have hq' : q = true := hq.resolve_left (fun h => h ht)
      subst ht hq'
      refine rt_a_sp0 hbody B F X T₀ hd hu hl1 hl2 hl3 hl4 hl5 N (Int.natCast_nonneg p) hpi hbl htl (hc.trans ofString_sp.symm) (by rw [S_length]; rfl) (fun ν' tok' ts' tt' tp' h' tk' hh F' N' => ?_)
      have e := hh.out
      subst e
      exact hfin ν' ts' tt' tp' (p + 1) h' tk' hp1 hdrop F' N'
    · refine rt_a_sp hbody B F X T₀ hd hu hl1 hl2 hl3 hl4 hl5 N (Int.natCast_nonneg p) hpi hbl htl (hc.trans ofString_sp.symm) (s_lenT ht) (fun ν' tok' ts' tt' tp' h' tk' hh F' N' => ?_)
      have e := hh.out
      subst e
      exact hfin ν' ts' tt' tp' (p + 1) h' tk' hp1 hdrop F' N'
  | @a_q tok q r T Q Z R D ih =>
    intro p ν ts tt tp s hp hcs hlen F N hfin
    have hp1 : p + 1 ≤ b.length := by
      have h1 := congrArg List.length hcs
      simp only [List.length_drop, List.length_cons] at h1
      have h2 : b.length = b.cps.toList.length := rfl
      omega
    have hdrop : b.cps.toList.drop (p + 1) = r := by rw [← List.drop_drop, hcs]; rfl
    have hc := slice_char hcs
    have hpi : (p : Int) < b.length := by omega
    have htl : (S tok).length ≤ 10000 := by rw [S_length]; omega
    simp only [List.length_cons] at hlen
    refine whl_turn (k := 0) hE (rt_test hbody F X (WhlIf.yes rfl ?_))
    refine rt_a_q hbody B F X T₀ hd hu hl1 hl2 hl3 hl4 hl5 N (Int.natCast_nonneg p) hpi hbl htl (hc.trans ofString_sq.symm) (fun ν' tok' ts' tt' tp' h' tk' hh F' N' => ?_)
    have e := hh.out
    skip
    subst e
    exact ih (p + 1) ν' ts' tt' tp' _ hp1 hdrop (by omega) F' N' (fun ν2 ts2 tt2 tp2 p2 h2 tk2 a1 a2 a3 a4 => hfin ν2 ts2 tt2 tp2 p2 h2 tk2 a1 a2 a3 a4)
  | @a_dq tok q r T Q Z R D ih =>
    intro p ν ts tt tp s hp hcs hlen F N hfin
    have hp1 : p + 1 ≤ b.length := by
      have h1 := congrArg List.length hcs
      simp only [List.length_drop, List.length_cons] at h1
      have h2 : b.length = b.cps.toList.length := rfl
      omega
    have hdrop : b.cps.toList.drop (p + 1) = r := by rw [← List.drop_drop, hcs]; rfl
    have hc := slice_char hcs
    have hpi : (p : Int) < b.length := by omega
    have htl : (S tok).length ≤ 10000 := by rw [S_length]; omega
    simp only [List.length_cons] at hlen
    refine whl_turn (k := 0) hE (rt_test hbody F X (WhlIf.yes rfl ?_))
    refine rt_a_dq hbody B F X T₀ hd hu hl1 hl2 hl3 hl4 hl5 N (Int.natCast_nonneg p) hpi hbl htl (hc.trans ofString_dq.symm) (fun ν' tok' ts' tt' tp' h' tk' hh F' N' => ?_)
    have e := hh.out
    skip
    subst e
    exact ih (p + 1) ν' ts' tt' tp' _ hp1 hdrop (by omega) F' N' (fun ν2 ts2 tt2 tp2 p2 h2 tk2 a1 a2 a3 a4 => hfin ν2 ts2 tt2 tp2 p2 h2 tk2 a1 a2 a3 a4)
  | @a_eof tok q =>
    intro p ν ts tt tp s hp hcs hlen F N hfin
    have hp1 : (b.length : Int) ≤ p := by
      have h1 := congrArg List.length hcs
      simp only [List.length_drop, List.length_nil] at h1
      have h2 : b.length = b.cps.toList.length := rfl
      omega
    have htl : (S tok).length ≤ 10000 := by rw [S_length]; omega
    refine whl_turn (k := 0) hE (rt_test hbody F X (WhlIf.yes rfl ?_))
    refine rt_a_eof hbody B F X T₀ hd hu hl1 hl2 hl3 hl4 hl5 N (Int.natCast_nonneg p) hp1 hbl htl (fun ν' tok' ts' tt' tp' h' tk' hh F' N' => ?_)
    have e := hh.out
    skip
    subst e
    exact hfin ν' ts' tt' tp' p h' tk' hp hcs F' N'
  | @sq_ch n tok q r T Q Z R hn D ih =>
    intro p ν ts tt tp s hp hcs hlen F N hfin
    have hp1 : p + 1 ≤ b.length := by
      have h1 := congrArg List.length hcs
      simp only [List.length_drop, List.length_cons] at h1
      have h2 : b.length = b.cps.toList.length := rfl
      omega
    have hdrop : b.cps.toList.drop (p + 1) = r := by rw [← List.drop_drop, hcs]; rfl
    have hc := slice_char hcs
    have hpi : (p : Int) < b.length := by omega
    have htl : (S tok).length ≤ 10000 := by rw [S_length]; omega
    simp only [List.length_cons] at hlen
    refine whl_turn (k := 0) hE (rt_test hbody F X (WhlIf.yes rfl ?_))
    simp only [okQ, Bool.and_eq_true, Bool.not_eq_true'] at hn
    obtain ⟨⟨f1, f2⟩, f3⟩ := hn
    refine rt_sq_ch hbody B F X T₀ hd hu hl1 hl2 hl3 hl4 hl5 N (Int.natCast_nonneg p) hpi hbl htl hc f1 (s_len1 n) (by rw [S_length]; simp) f2 f3 (fun ν' tok' ts' tt' tp' h' tk' hh F' N' => ?_)
    have e := hh.out
    rw [S_append] at e
    subst e
    exact ih (p + 1) ν' ts' tt' tp' _ hp1 hdrop (by simp only [List.length_append, List.length_cons, List.length_nil]; omega) F' N' (fun ν2 ts2 tt2 tp2 p2 h2 tk2 a1 a2 a3 a4 => hfin ν2 ts2 tt2 tp2 p2 h2 tk2 a1 a2 a3 a4)
  | @sq_end tok q r T Q Z R D ih =>
    intro p ν ts tt tp s hp hcs hlen F N hfin
    have hp1 : p + 1 ≤ b.length := by
      have h1 := congrArg List.length hcs
      simp only [List.length_drop, List.length_cons] at h1
      have h2 : b.length = b.cps.toList.length := rfl
      omega
    have hdrop : b.cps.toList.drop (p + 1) = r := by rw [← List.drop_drop, hcs]; rfl
    have hc := slice_char hcs
    have hpi : (p : Int) < b.length := by omega
    have htl : (S tok).length ≤ 10000 := by rw [S_length]; omega
    simp only [List.length_cons] at hlen
    refine whl_turn (k := 0) hE (rt_test hbody F X (WhlIf.yes rfl ?_))
    refine rt_sq_end hbody B F X T₀ hd hu hl1 hl2 hl3 hl4 hl5 N (Int.natCast_nonneg p) hpi hbl htl (hc.trans ofString_sq.symm) (fun ν' tok' ts' tt' tp' h' tk' hh F' N' => ?_)
    have e := hh.out
    skip
    subst e
    exact ih (p + 1) ν' ts' tt' tp' _ hp1 hdrop (by omega) F' N' (fun ν2 ts2 tt2 tp2 p2 h2 tk2 a1 a2 a3 a4 => hfin ν2 ts2 tt2 tp2 p2 h2 tk2 a1 a2 a3 a4)
  | @dq_ch tok q r T Q Z R D ih =>
    intro p ν ts tt tp s hp hcs hlen F N hfin
    have hp1 : p + 1 ≤ b.length := by
      have h1 := congrArg List.length hcs
      simp only [List.length_drop, List.length_cons] at h1
      have h2 : b.length = b.cps.toList.length := rfl
      omega
    have hdrop : b.cps.toList.drop (p + 1) = r := by rw [← List.drop_drop, hcs]; rfl
    have hc := slice_char hcs
    have hpi : (p : Int) < b.length := by omega
    have htl : (S tok).length ≤ 10000 := by rw [S_length]; omega
    simp only [List.length_cons] at hlen
    refine whl_turn (k := 0) hE (rt_test hbody F X (WhlIf.yes rfl ?_))
    refine rt_dq_ch hbody B F X T₀ hd hu hl1 hl2 hl3 hl4 hl5 N (Int.natCast_nonneg p) hpi hbl htl (hc.trans ofString_sq.symm) (fun ν' tok' ts' tt' tp' h' tk' hh F' N' => ?_)
    have e := hh.out
    rw [ofString_sq, S_append] at e
    subst e
    exact ih (p + 1) ν' ts' tt' tp' _ hp1 hdrop (by simp only [List.length_append, List.length_cons, List.length_nil]; omega) F' N' (fun ν2 ts2 tt2 tp2 p2 h2 tk2 a1 a2 a3 a4 => hfin ν2 ts2 tt2 tp2 p2 h2 tk2 a1 a2 a3 a4)
  | @dq_end tok q r T Q Z R D ih =>
    intro p ν ts tt tp s hp hcs hlen F N hfin
    have hp1 : p + 1 ≤ b.length := by
      have h1 := congrArg List.length hcs
      simp only [List.length_drop, List.length_cons] at h1
      have h2 : b.length = b.cps.toList.length := rfl
      omega
    have hdrop : b.cps.toList.drop (p + 1) = r := by rw [← List.drop_drop, hcs]; rfl
    have hc := slice_char hcs
    have hpi : (p : Int) < b.length := by omega
    have htl : (S tok).length ≤ 10000 := by rw [S_length]; omega
    simp only [List.length_cons] at hlen
    refine whl_turn (k := 0) hE (rt_test hbody F X (WhlIf.yes rfl ?_))
    refine rt_dq_end hbody B F X T₀ hd hu hl1 hl2 hl3 hl4 hl5 N (Int.natCast_nonneg p) hpi hbl htl (hc.trans ofString_dq.symm) (fun ν' tok' ts' tt' tp' h' tk' hh F' N' => ?_)
    have e := hh.out
    skip
    subst e
    exact ih (p + 1) ν' ts' tt' tp' _ hp1 hdrop (by omega) F' N' (fun ν2 ts2 tt2 tp2 p2 h2 tk2 a1 a2 a3 a4 => hfin ν2 ts2 tt2 tp2 p2 h2 tk2 a1 a2 a3 a4)
  | @sp_word n tok q r T Q Z R hn D ih =>
    intro p ν ts tt tp s hp hcs hlen F N hfin
    have hp1 : p + 1 ≤ b.length := by
      have h1 := congrArg List.length hcs
      simp only [List.length_drop, List.length_cons] at h1
      have h2 : b.length = b.cps.toList.length := rfl
      omega
    have hdrop : b.cps.toList.drop (p + 1) = r := by rw [← List.drop_drop, hcs]; rfl
    have hc := slice_char hcs
    have hpi : (p : Int) < b.length := by omega
    have htl : (S tok).length ≤ 10000 := by rw [S_length]; omega
    simp only [List.length_cons] at hlen
    refine whl_turn (k := 0) hE (rt_test hbody F X (WhlIf.yes rfl ?_))
    simp only [okW, Bool.and_eq_true, Bool.not_eq_true'] at hn
    obtain ⟨⟨⟨⟨⟨f1, f2⟩, f3⟩, f4⟩, f5⟩, f6⟩ := hn
    refine rt_sp_word hbody B F X T₀ hd hu hl1 hl2 hl3 hl4 hl5 N (Int.natCast_nonneg p) hpi hbl htl hc f1 (s_len1 n) (by rw [S_length]; simp) f2 f3 f4 f5 f6 (fun ν' tok' ts' tt' tp' h' tk' hh F' N' => ?_)
    have e := hh.out
    skip
    subst e
    exact ih (p + 1) ν' ts' tt' tp' _ hp1 hdrop (by simp only [List.length_cons, List.length_nil]; omega) F' N' (fun ν2 ts2 tt2 tp2 p2 h2 tk2 a1 a2 a3 a4 => hfin ν2 ts2 tt2 tp2 p2 h2 tk2 a1 a2 a3 a4)
  | @sp_q tok q r T Q Z R D ih =>
    intro p ν ts tt tp s hp hcs hlen F N hfin
    have hp1 : p + 1 ≤ b.length := by
      have h1 := congrArg List.length hcs
      simp only [List.length_drop, List.length_cons] at h1
      have h2 : b.length = b.cps.toList.length := rfl
      omega
    have hdrop : b.cps.toList.drop (p + 1) = r := by rw [← List.drop_drop, hcs]; rfl
    have hc := slice_char hcs
    have hpi : (p : Int) < b.length := by omega
    have htl : (S tok).length ≤ 10000 := by rw [S_length]; omega
    simp only [List.length_cons] at hlen
    refine whl_turn (k := 0) hE (rt_test hbody F X (WhlIf.yes rfl ?_))
    refine rt_sp_q hbody B F X T₀ hd hu hl1 hl2 hl3 hl4 hl5 N (Int.natCast_nonneg p) hpi hbl htl (hc.trans ofString_sq.symm) (fun ν' tok' ts' tt' tp' h' tk' hh F' N' => ?_)
    have e := hh.out
    skip
    subst e
    exact ih (p + 1) ν' ts' tt' tp' _ hp1 hdrop (by omega) F' N' (fun ν2 ts2 tt2 tp2 p2 h2 tk2 a1 a2 a3 a4 => hfin ν2 ts2 tt2 tp2 p2 h2 tk2 a1 a2 a3 a4)
  | @no_eof tok q =>
    intro p ν ts tt tp s hp hcs hlen F N hfin
    have hp1 : (b.length : Int) ≤ p := by
      have h1 := congrArg List.length hcs
      simp only [List.length_drop, List.length_nil] at h1
      have h2 : b.length = b.cps.toList.length := rfl
      omega
    have htl : (S tok).length ≤ 10000 := by rw [S_length]; omega
    refine whl_turn (k := 0) hE (rt_test hbody F X (WhlIf.yes rfl ?_))
    refine rt_no_eof (ts := 0) hbody B F X T₀ hd hu hl1 hl2 hl3 hl4 hl5 N (Int.natCast_nonneg p) hp1 hbl htl (fun ν' tok' ts' tt' tp' h' tk' hh F' N' => ?_)
    have e := hh.out
    rw [ofString_nil] at e
    subst e
    exact hfin ν' ts' tt' tp' p h' tk' hp hcs F' N'
end
theorem rtM_start {te : Tok} {x : Addr} : (fun z => if z = Str.ofString "escapedstate" then some (Value.str (Str.ofString " ") te) else if z = Str.ofString "quoted" then some (.bool false) else List.lookup z [(Str.ofString "self", Value.ref x)]) = rtM none false te x := by
  have e1 : Str.ofString "escapedstate" ≠ Str.ofString "nextchar" := by decide +kernel
  have e2 : Str.ofString "escapedstate" ≠ Str.ofString "quoted" := by decide +kernel
  have e3 : Str.ofString "quoted" ≠ Str.ofString "nextchar" := by decide +kernel
  have e4 : Str.ofString "self" ≠ Str.ofString "nextchar" := by decide +kernel
  funext z
  dsimp only [rtM]
  by_cases h1 : z = Str.ofString "escapedstate"
  · subst h1
    rw [if_pos rfl, if_neg e1, if_neg e2, if_pos rfl]
  · rw [if_neg h1]
    by_cases h2 : z = Str.ofString "quoted"
    · subst h2
      rw [if_pos rfl, if_neg e3, if_pos rfl]
    · rw [if_neg h2, if_neg h2, if_neg h1]
      by_cases h3 : z = Str.ofString "self"
      · subst h3
        rw [if_neg e4, if_pos rfl]
        simp [List.lookup]
      · rw [if_neg h3]
        have hb : (z == Str.ofString "self") = false := by simp [h3]
        simp only [List.lookup, hb]
        split <;> rfl
section
variable {w : World} {vw : Program} {loose : List Str} {mean : ExcName → Option Value} {mg mb : Str → Option Value}
theorem rt_start {qual : Str} {scope : Scope} {cdv : Value} {test : PySem.Expr} {body orelse : List Stmt} {pos : Pos}
    {x dx y dy pb fs : Addr} {k t : Nat → Tok} {k0 k1 k2 n0 tb te ts tt tp : Tok} {b : Str}
    {dp un : Nat} {gd : Option (List Code)} {outer : List Env} {A₀ : Around} {base h₀ : Heap} {L : Addr} {s : Shared} {Qf : Flow → Shared → Prop} {E : Value → Shared → Prop}
    {st : St} {cs T : List Nat} {Qd : Bool} {Z : St} {R : List Nat} {p : Nat} {m : Str → Option Value}
    (D : Rd st [] false cs T Qd Z R) (hbody : RtAt w qual scope cdv test body)
    (B : Below A₀ base outer h₀) (X : (Mine.K w.params).In h₀) (T₀ : Top vw loose mean mg mb h₀) (hd : dp + 10 < recursionLimit) (hu : un + 60 < cLine)
    (hl1 : @LT.lt Nat _ dx x) (hl2 : @LT.lt Nat _ x dy) (hl3 : @LT.lt Nat _ dy y) (hl4 : @LT.lt Nat _ y pb) (hl5 : @LT.lt Nat _ pb fs) (hbl : b.length ≤ 10000)
    (hp : p ≤ b.length) (hcs : b.cps.toList.drop p = cs) (F : Fr h₀ L s.heap m) (hm : m = rtM none false te x)
    (N : News h₀ L s.heap (lexLed w x dx y dy pb fs k t k0 k1 k2 n0 tb b (stVal st ts) (.str (Str.ofString "") tt) p tp))
    (hfin : ∀ (ν : Option Value) (ts tt tp : Tok) (p' : Nat) (h' : Heap) (tk' : Nat), p' ≤ b.length → b.cps.toList.drop p' = R → Fr h₀ L h' (rtM ν Qd te x) →
        News h₀ L h' (lexLed w x dx y dy pb fs k t k0 k1 k2 n0 tb b (stVal Z ts) (.str (S T) tt) p' tp) → Qf .next { s with heap := h', toks := tk' }) :
    wpAny (model Challenge.rw_ij0133_01.row.prog w) (ktrTop dp un gd qual scope L 707 cdv [] outer) (exec (.While test body orelse pos) (envOf qual scope L 707 cdv)) Qf E s := by
  subst hm
  refine wpAny_noRaise (whl_start 0 (rt_loop hbody B X T₀ hd hu hl1 hl2 hl3 hl4 hl5 hbl PassesOwn.never D p none ts tt tp s hp hcs ?_ F ?_ hfin))
  · have h1 := congrArg List.length hcs
    have h2 : b.length = b.cps.toList.length := rfl
    rw [List.length_drop] at h1
    simp only [List.length_nil]
    omega
  · exact Eq.mp (congrArg (fun v : Str => News h₀ L s.heap (lexLed w x dx y dy pb fs k t k0 k1 k2 n0 tb b (stVal st ts) (.str v tt) p tp)) ofString_nil) N
end
section
variable {w : World} {vw : Program} {loose : List Str} {mean : ExcName → Option Value} {mg mb : Str → Option Value}
theorem rtok_e1 {T : List Nat} {Qd : Bool} {t : Tok} (h : Qd = true) : Hold (((T ≠ [] ∨ Qd = true) → ∃ t9, Value.str (S T) t = .str (S T) t9) ∧ (T = [] ∧ Qd = false → Value.str (S T) t = .none)) :=
  Hold.mk ⟨fun _ => ⟨_, rfl⟩, fun h' => by rw [h] at h'; cases h'.2⟩
theorem rtok_e2 {T : List Nat} {Qd : Bool} (h : Qd = false) (h2 : (S T == Str.ofString "") = true) : Hold (((T ≠ [] ∨ Qd = true) → ∃ t9, Value.none = .str (S T) t9) ∧ (T = [] ∧ Qd = false → Value.none = .none)) :=
  Hold.mk ⟨(fun h' => by
    rw [ofString_nil, S_beq, decide_eq_true_eq] at h2
    rcases h' with h' | h'
    · exact absurd h2 h'
    · rw [h] at h'
      cases h'), fun _ => rfl⟩
theorem rtok_e3 {T : List Nat} {Qd : Bool} {t : Tok} (h2 : (S T == Str.ofString "") = false) : Hold (((T ≠ [] ∨ Qd = true) → ∃ t9, Value.str (S T) t = .str (S T) t9) ∧ (T = [] ∧ Qd = false → Value.str (S T) t = .none)) :=
  Hold.mk ⟨fun _ => ⟨_, rfl⟩, fun h' => by
    rw [ofString_nil, S_beq, decide_eq_false_iff_not] at h2
    exact absurd h'.1 h2⟩
theorem lex_end {h₀ h g h' : Heap} {L L' : Addr} {m' : Str → Option Value} {x dx y dy pb fs : Addr} {o1 o2 o1' o2' ox oy opb ofs : Obj}
    (N : News h₀ L h [(dx, o1), (dy, o2), (x, ox), (y, oy), (pb, opb), (fs, ofs)]) (G : GSub h g [dx, dy, x, y, pb, fs]) (F : Fr g L' h' m') (N' : News g L' h' [(dx, o1'), (dy, o2'), (x, ox), (y, oy), (pb, opb), (fs, ofs)]) :
    ∀ q o, h.get? q = some o → q ≠ dx → q ≠ dy → h'.get? q = some o := by
  intro q o e n1 n2
  by_cases hm : q ∈ [x, y, pb, fs]
  · have key : ∀ z oz, (z, oz) ∈ [(x, ox), (y, oy), (pb, opb), (fs, ofs)] → q = z → h'.get? q = some o := by
      intro z oz hz hq
      subst hq
      have a := (N (q, oz) (by simp only [List.mem_cons] at hz ⊢; exact .inr (.inr hz))).1
      have b := (N' (q, oz) (by simp only [List.mem_cons] at hz ⊢; exact .inr (.inr hz))).1
      dsimp only at a b
      rw [e] at a; cases a; exact b
    simp only [List.mem_cons, List.not_mem_nil, or_false] at hm
    rcases hm with h | h | h | h
    · exact key x ox (by simp) h
    · exact key y oy (by simp) h
    · exact key pb opb (by simp) h
    · exact key fs ofs (by simp) h
  · exact F.keep q o (G q o e (by simp only [List.mem_cons, List.not_mem_nil, or_false, not_or] at hm ⊢; exact ⟨n1, n2, hm⟩))
theorem rtok_in {x dx y dy pb fs : Addr} {k t : Nat → Tok} {k0 k1 k2 n0 tb ts tt tp : Tok} {b : Str}
    {st : St} {cs T : List Nat} {Qd : Bool} {Z : St} {R : List Nat} {p : Nat} (D : Rd st [] false cs T Qd Z R)
    (hl1 : @LT.lt Nat _ dx x) (hl2 : @LT.lt Nat _ x dy) (hl3 : @LT.lt Nat _ dy y) (hl4 : @LT.lt Nat _ y pb) (hl5 : @LT.lt Nat _ pb fs) (hbl : b.length ≤ 10000)
    (hp : p ≤ b.length) (hcs : b.cps.toList.drop p = cs)
    (dp un : Nat) (gd : Option (List Code)) (cn : Str) (cs' : Scope) (a : Addr) (ccd : Value) (cl : List (Str × Addr)) (outer : List Env) (A₀ : Around) (base h₀ : Heap) (L : Addr) (m : Str → Option Value) (s : Shared) (Q E : Value → Shared → Prop)
    (B : Below A₀ base outer h₀) (F : Fr h₀ L s.heap m) (X : (Mine.K w.params).In h₀) (T₀ : Top vw loose mean mg mb h₀) (hk : cs'.kind = .function)
    (hd : dp + 15 < recursionLimit) (hu : un + 80 < cLine)
    (N : News h₀ L s.heap (lexLed w x dx y dy pb fs k t k0 k1 k2 n0 tb b (stVal st ts) (.str (Str.ofString "") tt) p tp))
    (hret : ∀ (v : Value) (h' : Heap) (tk' : Nat), (∃ (ts tt tp : Tok) (p' : Nat), h'.get? dx = some (dictOf (lexEs w k t y pb fs (stVal Z ts) (.str (Str.ofString "") tt)) 19) ∧ h'.get? dy = some (dictOf (ioEs w k0 k1 k2 n0 tb tp b p') 3) ∧ p' ≤ b.length ∧ b.cps.toList.drop p' = R) →
      (∀ q o, s.heap.get? q = some o → q ≠ dx → q ≠ dy → h'.get? q = some o) → Hold (((T ≠ [] ∨ Qd = true) → ∃ t9, v = .str (S T) t9) ∧ (T = [] ∧ Qd = false → v = .none)) → Q v { s with heap := h', toks := tk' }) :
      wpAny (model Challenge.rw_ij0133_01.row.prog w) (ktrTop dp un gd cn cs' L a ccd cl outer) (call (.ref 707) [.ref x]) Q E s := by
  cases cs'; dsimp only at hk; subst hk
  refine wpAny_call ?_
  k_dflt cell_enter
  (repeat' (first | ((with_reducible show Q _ _); refine hret _ _ _ ⟨_, _, _, _, News.get (by assumption) (List.Mem.head _), News.get (by assumption) (List.Mem.tail _ (List.Mem.head _)), by assumption, by assumption⟩ (lex_end N (by assumption) (by assumption) (by assumption)) ?_) | ((with_reducible refine consQ_next ?_)) | ((with_reducible refine consQ_ret ?_)) | ((with_reducible refine consQ_brk ?_)) | ((with_reducible refine consQ_cont ?_)) | (with_reducible ((with_reducible show wpAny _ _ (execs (_ :: _) _) _ _ _); (k_here; (try dsimp only); (try (refine gen_toks ?_; intro tk)); first | refine execs_one ?_ | refine execs_consQ ?_))) | ((with_reducible refine wpAny_execs_nil ?_)) | (((with_reducible show wpAny _ _ (exec (PySem.Stmt.While _ _ _ _) _) _ _ _); (k_here; k_dflt (refine' rt_start ?Dzq ?hbzq ?Bzq ?Xzq ?Tzq ?hdzq ?huzq ?l1zq ?l2zq ?l3zq ?l4zq ?l5zq ?hblzq ?hpzq ?hcszq ?Fzq ?hmzq ?Nzq ?_; (case Dzq => assumption); (case Bzq | Xzq | Tzq | Fzq => k_asm); (case hmzq => exact rtM_start); (case Nzq => k_asm); (case hbzq => exact ⟨_, _, _, _, _, _, _, _, _, _, _, _, _, _, _, _, by k_is⟩); (case hdzq => k_room); (case huzq => k_units); (case l1zq | l2zq | l3zq | l4zq | l5zq | hblzq | hpzq | hcszq => with_reducible assumption); k_whole; intro nu' ts' tt' tp' p9 h' tk' hp9 hr9 F' N'; (try k_sweep))))) | (with_reducible ((with_reducible show wpAny _ _ (exec (PySem.Stmt.If _ _ _ _) _) _ _ _); (refine wpAny_If ?_))) | (k_unfold; (try dsimp only)) | walk1 | (dsimp only; walk1) | (leave1; walk_say "STEP leave1"; try dsimp only) | fail "no step"))
  all_goals first | exact rtok_e1 (by assumption) | exact rtok_e2 (by assumption) (by assumption) | exact rtok_e3 (by assumption)
theorem rtok_walk {x dx y dy pb fs : Addr} {k t : Nat → Tok} {k0 k1 k2 n0 tb ts tt tp : Tok} {b : Str}
    {st : St} {cs T : List Nat} {Qd : Bool} {Z : St} {R : List Nat} {p : Nat}
    {dp un : Nat} {gd : Option (List Code)} {cn : Str} {cs' : Scope} {a : Addr} {ccd : Value} {cl : List (Str × Addr)} {outer : List Env} {A₀ : Around} {base h₀ : Heap} {L : Addr} {m : Str → Option Value} {s : Shared} {Q E : Value → Shared → Prop} {rest : List (Addr × Obj)}
    (D : Rd st [] false cs T Qd Z R) (hl1 : @LT.lt Nat _ dx x) (hl2 : @LT.lt Nat _ x dy) (hl3 : @LT.lt Nat _ dy y) (hl4 : @LT.lt Nat _ y pb) (hl5 : @LT.lt Nat _ pb fs) (hbl : b.length ≤ 10000)
    (hp : p ≤ b.length) (hcs : b.cps.toList.drop p = cs) (hrest : ∀ q ∈ rest, @LT.lt Nat _ fs q.1)
    (B : Below A₀ base outer h₀) (F : Fr h₀ L s.heap m) (X : (Mine.K w.params).In h₀) (T₀ : Top vw loose mean mg mb h₀) (hk : cs'.kind = .function)
    (hd : dp + 15 < recursionLimit) (hu : un + 80 < cLine)
    (N : News h₀ L s.heap (lexLed w x dx y dy pb fs k t k0 k1 k2 n0 tb b (stVal st ts) (.str (Str.ofString "") tt) p tp ++ rest))
    (hret : ∀ (v : Value) (ts tt tp : Tok) (p' : Nat) (h' : Heap) (tk' : Nat), Hold (((T ≠ [] ∨ Qd = true) → ∃ t9, v = .str (S T) t9) ∧ (T = [] ∧ Qd = false → v = .none)) → p' ≤ b.length → b.cps.toList.drop p' = R →
      Fr h₀ L h' m → News h₀ L h' (lexLed w x dx y dy pb fs k t k0 k1 k2 n0 tb b (stVal Z ts) (.str (Str.ofString "") tt) p' tp ++ rest) → Q v { s with heap := h', toks := tk' }) :
      wpAny (model Challenge.rw_ij0133_01.row.prog w) (ktrTop dp un gd cn cs' L a ccd cl outer) (call (.ref 707) [.ref x]) Q E s := by
  have N1 : News h₀ L s.heap (lexLed w x dx y dy pb fs k t k0 k1 k2 n0 tb b (stVal st ts) (.str (Str.ofString "") tt) p tp) := fun q hq => N q (List.mem_append_left _ hq)
  refine rtok_in D hl1 hl2 hl3 hl4 hl5 hbl hp hcs dp un gd cn cs' a ccd cl outer A₀ base h₀ L m s Q E B F X T₀ hk hd hu N1 fun v h' tk' hex hkeep hh => ?_
  obtain ⟨ts', tt', tp', p', d1, d2, h1, h2⟩ := hex
  have a1 := N1 (dx, _) (.head _)
  have a2 := N1 (dy, _) (.tail _ (.head _))
  obtain ⟨oL, es, ep, hL, r⟩ := F.ns
  refine hret v ts' tt' tp' p' h' tk' hh h1 h2 ⟨⟨oL, es, ep, hkeep _ _ hL (Ne.symm a1.2.1) (Ne.symm a2.2.1), r⟩, fun q z e => hkeep _ _ (F.keep q z e) (fun c => ?_) (fun c => ?_), F.above⟩ fun q hq => ?_
  · have := a1.2.2; dsimp only at this; rw [← c, e] at this; cases this
  · have := a2.2.2; dsimp only at this; rw [← c, e] at this; cases this
  · rcases List.mem_append.mp hq with hq | hq
    · have old : ∀ z oz, (z, oz) ∈ [(x, instObj 739 dx), (y, instObj 604 dy), (pb, dqObj), (fs, dqObj)] → q = (z, oz) → h'.get? q.1 = some q.2 ∧ q.1 ≠ L ∧ h₀.get? q.1 = none := by
        intro z oz hz e
        subst e
        have c := N1 (z, oz) (.tail _ (.tail _ hz))
        refine ⟨hkeep _ _ c.1 ?_ ?_, c.2⟩
        all_goals
          simp only [List.mem_cons, Prod.mk.injEq, List.not_mem_nil, or_false] at hz
          rcases hz with ⟨rfl, _⟩ | ⟨rfl, _⟩ | ⟨rfl, _⟩ | ⟨rfl, _⟩ <;> (refine neN ?_; omega)
      simp only [List.mem_cons, List.not_mem_nil, or_false] at hq
      rcases hq with rfl | rfl | h | h | h | h
      · exact ⟨d1, a1.2⟩
      · exact ⟨d2, a2.2⟩
      · exact old x _ (by simp) h
      · exact old y _ (by simp) h
      · exact old pb _ (by simp) h
      · exact old fs _ (by simp) h
    · have c := N q (List.mem_append_right _ hq)
      have hlt := hrest q hq
      exact ⟨hkeep _ _ c.1 (by refine neN ?_; omega) (by refine neN ?_; omega), c.2⟩
theorem rtok_walk_some {x dx y dy pb fs : Addr} {k t : Nat → Tok} {k0 k1 k2 n0 tb ts tt tp : Tok} {b : Str}
    {st : St} {cs T : List Nat} {Qd : Bool} {Z : St} {R : List Nat} {p : Nat}
    {dp un : Nat} {gd : Option (List Code)} {cn : Str} {cs' : Scope} {a : Addr} {ccd : Value} {cl : List (Str × Addr)} {outer : List Env} {A₀ : Around} {base h₀ : Heap} {L : Addr} {m : Str → Option Value} {s : Shared} {Q E : Value → Shared → Prop} {rest : List (Addr × Obj)}
    (D : Rd st [] false cs T Qd Z R) (hT : T ≠ [] ∨ Qd = true) (hl1 : @LT.lt Nat _ dx x) (hl2 : @LT.lt Nat _ x dy) (hl3 : @LT.lt Nat _ dy y) (hl4 : @LT.lt Nat _ y pb) (hl5 : @LT.lt Nat _ pb fs) (hbl : b.length ≤ 10000)
    (hp : p ≤ b.length) (hcs : b.cps.toList.drop p = cs) (hrest : ∀ q ∈ rest, @LT.lt Nat _ fs q.1)
    (B : Below A₀ base outer h₀) (F : Fr h₀ L s.heap m) (X : (Mine.K w.params).In h₀) (N : News h₀ L s.heap (lexLed w x dx y dy pb fs k t k0 k1 k2 n0 tb b (stVal st ts) (.str (Str.ofString "") tt) p tp ++ rest)) (T₀ : Top vw loose mean mg mb h₀) (hk : cs'.kind = .function)
    (hd : dp + 15 < recursionLimit) (hu : un + 80 < cLine)
    (hret : ∀ (t9 : Tok) (ts tt tp : Tok) (p' : Nat) (h' : Heap) (tk' : Nat), p' ≤ b.length → b.cps.toList.drop p' = R →
      Fr h₀ L h' m → News h₀ L h' (lexLed w x dx y dy pb fs k t k0 k1 k2 n0 tb b (stVal Z ts) (.str (Str.ofString "") tt) p' tp ++ rest) → Q (.str (S T) t9) { s with heap := h', toks := tk' }) :
      wpAny (model Challenge.rw_ij0133_01.row.prog w) (ktrTop dp un gd cn cs' L a ccd cl outer) (call (.ref 707) [.ref x]) Q E s :=
  rtok_walk D hl1 hl2 hl3 hl4 hl5 hbl hp hcs hrest B F X T₀ hk hd hu N fun v ts' tt' tp' p' h' tk' hh h1 h2 F' N' => by
    obtain ⟨t9, e⟩ := hh.out.1 hT
    subst e
    exact hret t9 ts' tt' tp' p' h' tk' h1 h2 F' N'
theorem rtok_walk_none {x dx y dy pb fs : Addr} {k t : Nat → Tok} {k0 k1 k2 n0 tb ts tt tp : Tok} {b : Str}
    {st : St} {cs T : List Nat} {Qd : Bool} {Z : St} {R : List Nat} {p : Nat}
    {dp un : Nat} {gd : Option (List Code)} {cn : Str} {cs' : Scope} {a : Addr} {ccd : Value} {cl : List (Str × Addr)} {outer : List Env} {A₀ : Around} {base h₀ : Heap} {L : Addr} {m : Str → Option Value} {s : Shared} {Q E : Value → Shared → Prop} {rest : List (Addr × Obj)}
    (D : Rd st [] false cs T Qd Z R) (hT : T = [] ∧ Qd = false) (hl1 : @LT.lt Nat _ dx x) (hl2 : @LT.lt Nat _ x dy) (hl3 : @LT.lt Nat _ dy y) (hl4 : @LT.lt Nat _ y pb) (hl5 : @LT.lt Nat _ pb fs) (hbl : b.length ≤ 10000)
    (hp : p ≤ b.length) (hcs : b.cps.toList.drop p = cs) (hrest : ∀ q ∈ rest, @LT.lt Nat _ fs q.1)
    (B : Below A₀ base outer h₀) (F : Fr h₀ L s.heap m) (X : (Mine.K w.params).In h₀) (N : News h₀ L s.heap (lexLed w x dx y dy pb fs k t k0 k1 k2 n0 tb b (stVal st ts) (.str (Str.ofString "") tt) p tp ++ rest)) (T₀ : Top vw loose mean mg mb h₀) (hk : cs'.kind = .function)
    (hd : dp + 15 < recursionLimit) (hu : un + 80 < cLine)
    (hret : ∀ (ts tt tp : Tok) (p' : Nat) (h' : Heap) (tk' : Nat), p' ≤ b.length → b.cps.toList.drop p' = R →
      Fr h₀ L h' m → News h₀ L h' (lexLed w x dx y dy pb fs k t k0 k1 k2 n0 tb b (stVal Z ts) (.str (Str.ofString "") tt) p' tp ++ rest) → Q .none { s with heap := h', toks := tk' }) :
      wpAny (model Challenge.rw_ij0133_01.row.prog w) (ktrTop dp un gd cn cs' L a ccd cl outer) (call (.ref 707) [.ref x]) Q E s :=
  rtok_walk D hl1 hl2 hl3 hl4 hl5 hbl hp hcs hrest B F X T₀ hk hd hu N fun v ts' tt' tp' p' h' tk' hh h1 h2 F' N' => by
    have e := hh.out.2 hT
    subst e
    exact hret ts' tt' tp' p' h' tk' h1 h2 F' N'
end
section
variable {w : World} {vw : Program} {loose : List Str} {mean : ExcName → Option Value} {mg mb : Str → Option Value}
theorem lex_next_some {x dx y dy pb fs : Addr} {k t : Nat → Tok} {k0 k1 k2 n0 tb ts tt tp : Tok} {b : Str}
    {st : St} {cs T : List Nat} {Qd : Bool} {Z : St} {R : List Nat} {p : Nat}
    {dp un : Nat} {gd : Option (List Code)} {cn : Str} {cs' : Scope} {a : Addr} {ccd : Value} {cl : List (Str × Addr)} {outer : List Env} {A₀ : Around} {base h₀ : Heap} {L : Addr} {m : Str → Option Value} {s : Shared} {Q : Option Value → Shared → Prop} {E : Value → Shared → Prop} {rest : List (Addr × Obj)}
    (D : Rd st [] false cs T Qd Z R) (hT : T ≠ [] ∨ Qd = true) (hl1 : @LT.lt Nat _ dx x) (hl2 : @LT.lt Nat _ x dy) (hl3 : @LT.lt Nat _ dy y) (hl4 : @LT.lt Nat _ y pb) (hl5 : @LT.lt Nat _ pb fs) (hbl : b.length ≤ 10000)
    (hp : p ≤ b.length) (hcs : b.cps.toList.drop p = cs) (hrest : ∀ q ∈ rest, @LT.lt Nat _ fs q.1)
    (B : Below A₀ base outer h₀) (F : Fr h₀ L s.heap m) (X : (Mine.K w.params).In h₀) (N : News h₀ L s.heap (lexLed w x dx y dy pb fs k t k0 k1 k2 n0 tb b (stVal st ts) (.str (Str.ofString "") tt) p tp ++ rest)) (T₀ : Top vw loose mean mg mb h₀) (hk : cs'.kind = .function)
    (hd : dp + 20 < recursionLimit) (hu : un + 120 < cLine)
    (hret : ∀ (t9 ts tt tp : Tok) (p' : Nat) (h' : Heap) (tk' : Nat), p' ≤ b.length → b.cps.toList.drop p' = R → Fr h₀ L h' m → News h₀ L h' (lexLed w x dx y dy pb fs k t k0 k1 k2 n0 tb b (stVal Z ts) (.str (Str.ofString "") tt) p' tp ++ rest) → Q (some (.str (S T) t9)) { s with heap := h', toks := tk' }) :
      wpAny (model Challenge.rw_ij0133_01.row.prog w) (ktrTop dp un gd cn cs' L a ccd cl outer) (pyNext (.ref x)) Q E s := by
  cases cs'; dsimp only at hk; subst hk
  k_dflt (refine' owit_next (K := Mine.K w.params) (C := 739) F X ?I ?hs ?hf ?_; (case I => k_inst); (case hs => k_is); (case hf => k_is))
  (repeat' (first | ((with_reducible show Q _ _); refine hret _ _ _ _ _ _ _ (by assumption) (by assumption) (by assumption) (by assumption)) | ((with_reducible refine consQ_next ?_)) | ((with_reducible refine consQ_ret ?_)) | ((with_reducible refine consQ_brk ?_)) | ((with_reducible refine consQ_cont ?_)) | (with_reducible ((with_reducible show wpAny _ _ (execs (_ :: _) _) _ _ _); (k_here; (try dsimp only); (try (refine gen_toks ?_; intro tk)); first | refine execs_one ?_ | refine execs_consQ ?_))) | ((with_reducible refine wpAny_execs_nil ?_)) | (((k_here; (with_reducible show wpAny _ _ (call (Value.ref 707) _ _) _ _ _); k_dflt (refine' rtok_walk_some ?Dzq ?hTzq ?l1zq ?l2zq ?l3zq ?l4zq ?l5zq ?hblzq ?hpzq ?hcszq ?hrestzq ?Bzq ?Fzq ?Xzq ?Nzq ?Tzq ?hkzq ?hdzq ?huzq ?_; (case Dzq => assumption); (case hTzq => with_reducible assumption); (case Bzq | Fzq | Xzq | Nzq | Tzq => k_asm); (case hkzq => first | exact rfl | assumption); (case hdzq => k_room); (case huzq => k_units); (case l1zq | l2zq | l3zq | l4zq | l5zq | hblzq | hpzq | hcszq | hrestzq => with_reducible assumption); k_whole; intro t9 ts' tt' tp' p9 h' tk' hp9 hr9 F' N'; (try k_sweep))))) | (with_reducible ((with_reducible show wpAny _ _ (exec (PySem.Stmt.If _ _ _ _) _) _ _ _); (refine wpAny_If ?_))) | (((with_reducible show wpAny _ _ (truthy (Value.ref _)) _ _ _); (k_here; k_dflt (refine' dq_truthy ?k1zq ?k2zq ?_; (case k1zq => k_asm); (case k2zq => k_mem); k_whole)))) | (k_unfold; (try dsimp only)) | walk1 | (dsimp only; walk1) | (leave1; walk_say "STEP leave1"; try dsimp only) | fail "no step"))
end
section
variable {M : Model} {A A₀ : Around} {E : Value → Shared → Prop} {s : Shared} {base G h₀ : Heap} {outer : List Env} {L a e t : Addr} {m : Str → Option Value} {name : Str} {scope : Scope} {cd : Value} {cl : List (Str × Addr)} {vs : List Value} {news : List (Addr × Obj)} {X : String}
theorem owit_stopS {Q : Option Value → Shared → Prop} (R : RaisedS base G (envX name scope L a cd cl :: outer) e (.type X) t vs news s.heap) (hsm : G.UpToSlots s.heap) (F : Fr h₀ L G m) (K : Below A₀ base outer h₀) (hsub : isSubtype (.type X) (.type "StopIteration") = pure true)
    (k : ∀ g', KtsTurn (outer.filterMap (·.frame)) h₀ g' → Fr g' L s.heap m → News g' L s.heap news → Below A₀ base outer g' → Q none s) : OwitStop M A Q E (.ref e) s := by
  obtain ⟨⟨B, hB, hBG, hl, hfl, hnew⟩, htup⟩ := R
  have hL : B.get? L = none := by
    obtain ⟨_, ⟨L', _, hf, hn', _⟩, _⟩ := hfl.2.2.1
    obtain rfl : L = L' := Option.some.inj hf
    exact hn'
  obtain ⟨ob, hob, hobc⟩ := hfl.there
  have hT : s.TypeIs (.ref e) X := (show ∃ o, s.heap.get? e = some o ∧ o.cls = .type X from ⟨ob, hob, hobc⟩)
  unfold OwitStop
  refine wpAny_isInstance hT hsub ?_
  show (if true = true then Q none s else E (.ref e) s)
  rw [if_pos rfl]
  obtain ⟨g', T', F', K'⟩ := kts_ground (name := name) (scope := scope) (a := a) (cd := cd) K F hBG hfl.1 hsm
  exact k g' T' F' (fun q hq => ⟨hfl.1 _ _ (hl q hq).1, (fun z => by have := (hl q hq).1; rw [z, hL] at this; cases this), T'.none_ _ (kts_none F.keep (hl q hq).2.1)⟩) K'
end
section
variable {w : World} {vw : Program} {loose : List Str} {mean : ExcName → Option Value} {mg mb : Str → Option Value}
theorem lex_next_stop {x dx y dy pb fs : Addr} {k t : Nat → Tok} {k0 k1 k2 n0 tb ts tt tp : Tok} {b : Str}
    {st : St} {cs T : List Nat} {Qd : Bool} {Z : St} {R : List Nat} {p : Nat}
    {dp un : Nat} {gd : Option (List Code)} {cn : Str} {cs' : Scope} {a : Addr} {ccd : Value} {cl : List (Str × Addr)} {outer : List Env} {A₀ : Around} {base h₀ : Heap} {L : Addr} {m : Str → Option Value} {s : Shared} {Q : Option Value → Shared → Prop} {E : Value → Shared → Prop} {rest : List (Addr × Obj)}
    (D : Rd st [] false cs T Qd Z R) (hT : T = [] ∧ Qd = false) (hl1 : @LT.lt Nat _ dx x) (hl2 : @LT.lt Nat _ x dy) (hl3 : @LT.lt Nat _ dy y) (hl4 : @LT.lt Nat _ y pb) (hl5 : @LT.lt Nat _ pb fs) (hbl : b.length ≤ 10000)
    (hp : p ≤ b.length) (hcs : b.cps.toList.drop p = cs) (hrest : ∀ q ∈ rest, @LT.lt Nat _ fs q.1)
    (B : Below A₀ base outer h₀) (F : Fr h₀ L s.heap m) (X : (Mine.K w.params).In h₀) (N : News h₀ L s.heap (lexLed w x dx y dy pb fs k t k0 k1 k2 n0 tb b (stVal st ts) (.str (Str.ofString "") tt) p tp ++ rest)) (T₀ : Top vw loose mean mg mb h₀) (hk : cs'.kind = .function)
    (hd : dp + 20 < recursionLimit) (hu : un + 120 < cLine)
    (hret : ∀ (ts tt tp : Tok) (p' : Nat) (g' h' : Heap) (tk' : Nat), p' ≤ b.length → b.cps.toList.drop p' = R → KtsTurn (outer.filterMap (·.frame)) h₀ g' → Below A₀ base outer g' → Fr g' L h' m → News g' L h' (lexLed w x dx y dy pb fs k t k0 k1 k2 n0 tb b (stVal Z ts) (.str (Str.ofString "") tt) p' tp ++ rest) → Q none { s with heap := h', toks := tk' }) :
      wpAny (model Challenge.rw_ij0133_01.row.prog w) (ktrTop dp un gd cn cs' L a ccd cl outer) (pyNext (.ref x)) Q E s := by
  cases cs'; dsimp only at hk; subst hk
  k_dflt (refine' owit_next (K := Mine.K w.params) (C := 739) F X ?I ?hs ?hf ?_; (case I => k_inst); (case hs => k_is); (case hf => k_is))
  (repeat' (first | ((with_reducible show Q _ _); refine hret _ _ _ _ _ _ _ (by assumption) (by assumption) (by assumption) (by assumption) (by assumption) (by assumption)) | ((with_reducible refine consQ_next ?_)) | ((with_reducible refine consQ_ret ?_)) | ((with_reducible refine consQ_brk ?_)) | ((with_reducible refine consQ_cont ?_)) | (with_reducible ((with_reducible show wpAny _ _ (execs (_ :: _) _) _ _ _); (k_here; (try dsimp only); (try (refine gen_toks ?_; intro tk)); first | refine execs_one ?_ | refine execs_consQ ?_))) | ((with_reducible refine wpAny_execs_nil ?_)) | (((with_reducible show OwitStop _ _ _ _ _ _); (k_here; (rename RaisedS _ _ _ _ _ _ _ _ _ => rkX); refine owit_stopS rkX (by assumption) (by assumption) (by assumption) (by first | rfl | kernel_rfl | decide) ?_; intro g' T' F' N' K'; (try dsimp only at N')))) | (((with_reducible show wpAny _ _ (leaving _ (Value.ref _)) _ _ _); (k_here; (refine' leave_raiseS ?k1zq (Heap.MadeExc.of (by assumption)) ?k2zq ?k3zq ?_; (case k1zq | k2zq => assumption); (case k3zq => k_asm); k_whole; intro h' t' R' K' U'; (try dsimp only at R' U' ⊢))))) | (((k_here; (with_reducible show wpAny _ _ (call (Value.ref 707) _ _) _ _ _); k_dflt (refine' rtok_walk_none ?Dzq ?hTzq ?l1zq ?l2zq ?l3zq ?l4zq ?l5zq ?hblzq ?hpzq ?hcszq ?hrestzq ?Bzq ?Fzq ?Xzq ?Nzq ?Tzq ?hkzq ?hdzq ?huzq ?_; (case Dzq => assumption); (case hTzq => with_reducible assumption); (case Bzq | Fzq | Xzq | Nzq | Tzq => k_asm); (case hkzq => first | exact rfl | assumption); (case hdzq => k_room); (case huzq => k_units); (case l1zq | l2zq | l3zq | l4zq | l5zq | hblzq | hpzq | hcszq | hrestzq => with_reducible assumption); k_whole; intro ts' tt' tp' p9 h' tk' hp9 hr9 F' N'; (try k_sweep))))) | (with_reducible ((with_reducible show wpAny _ _ (exec (PySem.Stmt.If _ _ _ _) _) _ _ _); (refine wpAny_If ?_))) | (((with_reducible show wpAny _ _ (truthy (Value.ref _)) _ _ _); (k_here; k_dflt (refine' dq_truthy ?k1zq ?k2zq ?_; (case k1zq => k_asm); (case k2zq => k_mem); k_whole)))) | (k_unfold; (try dsimp only)) | walk1 | (dsimp only; walk1) | (leave1; walk_say "STEP leave1"; try dsimp only) | fail "no step"))
end
/-- the lexer's way over the whole text: the words -/
inductive Toks : St → List Nat → List (List Nat) → Prop
  | done {cs st Z R} : Rd st [] false cs [] false Z R → Toks st cs []
  | more {st cs T q Z R ts} : Rd st [] false cs T q Z R → (T ≠ [] ∨ q = true) → Toks Z R ts → Toks st cs (T :: ts)
/-- values that are these texts -/
inductive Strs : List Value → List (List Nat) → Prop
  | nil : Strs [] []
  | cons {t : List Nat} {k : Tok} {vs ts} : Strs vs ts → Strs (.str (S t) k :: vs) (t :: ts)
theorem Strs.snoc {vs : List Value} {ts : List (List Nat)} (h : Strs vs ts) (t : List Nat) (k : Tok) : Strs (vs ++ [.str (S t) k]) (ts ++ [t]) := by
  induction h with
  | nil => exact .cons .nil
  | cons _ ih => exact .cons ih
section
variable {w : World} {vw : Program} {loose : List Str} {mean : ExcName → Option Value} {mg mb : Str → Option Value}
theorem lex_iter {x dx : Addr}
    {dp un : Nat} {gd : Option (List Code)} {cn : Str} {cs' : Scope} {a : Addr} {ccd : Value} {cl : List (Str × Addr)} {outer : List Env} {A₀ : Around} {base h₀ : Heap} {L : Addr} {m : Str → Option Value} {s : Shared} {Q E : Value → Shared → Prop} {news : List (Addr × Obj)}
    {od : Obj} (hx : (x, instObj 739 dx) ∈ news) (hdx : (dx, od) ∈ news)
    (B : Below A₀ base outer h₀) (F : Fr h₀ L s.heap m) (X : (Mine.K w.params).In h₀) (N : News h₀ L s.heap news) (T₀ : Top vw loose mean mg mb h₀) (hk : cs'.kind = .function)
    (hd : dp + 20 < recursionLimit) (hu : un + 120 < cLine)
    (hret : ∀ (h' : Heap) (tk' : Nat), Fr h₀ L h' m → News h₀ L h' news → Q (.ref x) { s with heap := h', toks := tk' }) :
      wpAny (model Challenge.rw_ij0133_01.row.prog w) (ktrTop dp un gd cn cs' L a ccd cl outer) (pyIter (.ref x)) Q E s := by
  cases cs'; dsimp only at hk; subst hk
  have I : InstAt s.heap x (instObj 739 dx) 739 (some od) := ⟨N.get hx, rfl, rfl, N.get hdx⟩
  k_dflt (refine' owit_iter (K := Mine.K w.params) (C := 739) F X I ?hs ?hf ?_; (case hs => k_is); (case hf => k_is))
  (repeat' (first | ((with_reducible show Q _ _); refine hret _ _ (by assumption) (by assumption)) | ((with_reducible refine consQ_next ?_)) | ((with_reducible refine consQ_ret ?_)) | ((with_reducible refine consQ_brk ?_)) | ((with_reducible refine consQ_cont ?_)) | (with_reducible ((with_reducible show wpAny _ _ (execs (_ :: _) _) _ _ _); (k_here; (try dsimp only); (try (refine gen_toks ?_; intro tk)); first | refine execs_one ?_ | refine execs_consQ ?_))) | ((with_reducible refine wpAny_execs_nil ?_)) | (with_reducible ((with_reducible show wpAny _ _ (exec (PySem.Stmt.If _ _ _ _) _) _ _ _); (refine wpAny_If ?_))) | (k_unfold; (try dsimp only)) | walk1 | (dsimp only; walk1) | (leave1; walk_say "STEP leave1"; try dsimp only) | (refine owit_it (K := Mine.K w.params) (by assumption) X ⟨News.get (by assumption) hx, rfl, rfl, News.get (by assumption) hdx⟩ (by k_is) ?_) | fail "no step"))
open PySem.Builtin in
theorem lex_loop {x dx y dy pb fs D : Addr} {k t : Nat → Tok} {k0 k1 k2 n0 tb : Tok} {b : Str} {res : Value}
    {dp un : Nat} {gd : Option (List Code)} {cn : Str} {cs' : Scope} {a : Addr} {ccd : Value} {cl : List (Str × Addr)} {outer : List Env} {A₀ : Around} {base h₀ : Heap} {L : Addr} {m : Str → Option Value} {R : Result → Shared → Prop}
    (hl1 : @LT.lt Nat _ dx x) (hl2 : @LT.lt Nat _ x dy) (hl3 : @LT.lt Nat _ dy y) (hl4 : @LT.lt Nat _ y pb) (hl5 : @LT.lt Nat _ pb fs) (hl6 : @LT.lt Nat _ fs D) (hbl : b.length ≤ 10000)
    (B : Below A₀ base outer h₀) (X : (Mine.K w.params).In h₀) (T₀ : Top vw loose mean mg mb h₀) (hk : cs'.kind = .function)
    (hd : dp + 20 < recursionLimit) (hu : un + 1 + 120 < cLine)
    {st : St} {cs : List Nat} {ts : List (List Nat)} (TT : Toks st cs ts) :
    ∀ (p : Nat) (sk tk0 tp : Tok) (s : Shared) (acc : Array Value) (pre : List (List Nat)) (c : Nat), p ≤ b.length → b.cps.toList.drop p = cs → acc.size + ts.length ≤ 20000 → Strs acc.toList pre → Fr h₀ L s.heap m →
      News h₀ L s.heap (lexLed w x dx y dy pb fs k t k0 k1 k2 n0 tb b (stVal st sk) (.str (Str.ofString "") tk0) p tp ++ [(D, listOf acc c)]) →
      (∀ (acc' : Array Value) (c' : Nat) (g' h' : Heap) (tk' : Nat), Strs acc'.toList (pre ++ ts) → KtsTurn (outer.filterMap (·.frame)) h₀ g' → Below A₀ base outer g' → Fr g' L h' m → News g' L h' [(D, listOf acc' c')] → R (.ok (.ret res)) { s with heap := h', toks := tk' }) →
      codeAny (model Challenge.rw_ij0133_01.row.prog w) (ktrTop dp un gd cn cs' L a ccd cl outer) (.builtin "list.extend.loop" ⟨[.ref D, .ref x, res], []⟩) R s := by
  induction TT with
  | @done cs st Z Rr Dd =>
    intro p sk tk0 tp s acc pre c hp hcs hsz hS F N hret
    refine codeAny_builtin PySem.F.entry_extend_loop ?_
    rw [Around.under_plainId PySem.F.plain_extend_loop _]
    show wpAny _ _ (pyNext (.ref x) >>= _) _ _ s
    refine wpAny_bind ?_
    refine lex_next_stop (un := un + 1) Dd ⟨rfl, rfl⟩ hl1 hl2 hl3 hl4 hl5 hbl hp hcs (fun q hq => ?_) B F X N T₀ hk hd hu fun ts' tt' tp' p' g' h' tk' h1 h2 KT B' F' N' => ?_
    · simp only [List.mem_cons, List.not_mem_nil, or_false] at hq; subst hq; exact hl6
    · exact wpAny_pure (hret acc c g' h' tk' (by rw [List.append_nil]; exact hS) KT B' F' (fun q hq => N' q (List.mem_append_right _ hq)))
  | @more st cs T q Z Rr ts Dd hT _ ih =>
    intro p sk tk0 tp s acc pre c hp hcs hsz hS F N hret
    refine codeAny_builtin PySem.F.entry_extend_loop ?_
    rw [Around.under_plainId PySem.F.plain_extend_loop _]
    show wpAny _ _ (pyNext (.ref x) >>= _) _ _ s
    refine wpAny_bind ?_
    refine lex_next_some (un := un + 1) Dd hT hl1 hl2 hl3 hl4 hl5 hbl hp hcs (fun q hq => ?_) B F X N T₀ hk hd hu fun t9 ts' tt' tp' p' h' tk' h1 h2 F' N' => ?_
    · simp only [List.mem_cons, List.not_mem_nil, or_false] at hq; subst hq; exact hl6
    · have hD' := (N' (D, listOf acc c) (List.mem_append_right _ (.head _))).1
      show wpAny _ _ (updateSeq D (·.push (.str (S T) t9)) >>= _) _ _ _
      refine wpAny_bind ?_
      simp only [List.length_cons] at hsz
      have hne : ∀ q ∈ lexLed w x dx y dy pb fs k t k0 k1 k2 n0 tb b (stVal Z ts') (.str (Str.ofString "") tt') p' tp', q.1 ≠ D := fun q hq => by
        simp only [List.mem_cons, List.not_mem_nil, or_false] at hq
        rcases hq with rfl | rfl | rfl | rfl | rfl | rfl <;> (refine neN ?_; omega)
      refine wpAny_updateSeq hD' rfl (wpAny_pure ⟨plainId_quiet PySem.F.plain_extend_loop _, ?_⟩) (by show _ ≤ 2 ^ 24; omega) (by show (acc.push _).size ≤ 2 ^ 24 + 1; rw [Array.size_push]; omega)
      obtain ⟨U1, U2⟩ := news_upd (post := []) (f := Obj.mapSeq (·.push (.str (S T) t9))) (o' := listOf (acc.push (.str (S T) t9)) (if (acc.push (.str (S T) t9)).size == acc.size then c else c + 1)) F' N' hne (fun _ h => nomatch h) rfl rfl
      · refine ih p' ts' tt' tp' _ (acc.push (.str (S T) t9)) (pre ++ [T]) _ h1 h2 (by rw [Array.size_push]; omega) (by rw [Array.toList_push]; exact hS.snoc T t9) U1 U2 fun acc' c' g' h'' tk'' e1 e2 e3 e4 e5 => ?_
        exact hret acc' c' g' h'' tk'' (by rw [List.append_assoc] at e1; exact e1) e2 e3 e4 e5
open PySem.Builtin in
theorem lex_list {x dx y dy pb fs : Addr} {k t : Nat → Tok} {k0 k1 k2 n0 tb sk tk0 tp : Tok} {b : Str}
    {dp un : Nat} {gd : Option (List Code)} {cn : Str} {cs' : Scope} {a : Addr} {ccd : Value} {cl : List (Str × Addr)} {outer : List Env} {A₀ : Around} {base h₀ : Heap} {L : Addr} {m : Str → Option Value} {s : Shared} {Q E : Value → Shared → Prop}
    (hl1 : @LT.lt Nat _ dx x) (hl2 : @LT.lt Nat _ x dy) (hl3 : @LT.lt Nat _ dy y) (hl4 : @LT.lt Nat _ y pb) (hl5 : @LT.lt Nat _ pb fs) (hbl : b.length ≤ 10000)
    (B : Below A₀ base outer h₀) (F : Fr h₀ L s.heap m) (X : (Mine.K w.params).In h₀) (T₀ : Top vw loose mean mg mb h₀) (hk : cs'.kind = .function)
    (hd : dp + 20 < recursionLimit) (hu : un + 10 + 120 < cLine)
    {cs : List Nat} {ts : List (List Nat)} (TT : Toks .bl cs ts) (hcs : b.cps.toList = cs) (hsz : ts.length ≤ 20000)
    (N : News h₀ L s.heap (lexLed w x dx y dy pb fs k t k0 k1 k2 n0 tb b (stVal .bl sk) (.str (Str.ofString "") tk0) 0 tp))
    (hret : ∀ (D : Addr) (acc' : Array Value) (c' : Nat) (g' h' : Heap) (tk' : Nat), Strs acc'.toList ts → KtsTurn (outer.filterMap (·.frame)) h₀ g' → Below A₀ base outer g' → Fr g' L h' m → News g' L h' [(D, listOf acc' c')] → Q (.ref D) { s with heap := h', toks := tk' }) :
      wpAny (model Challenge.rw_ij0133_01.row.prog w) (ktrTop dp un gd cn cs' L a ccd cl outer) (call (.type "list") [.ref x]) Q E s := by
  refine callType_codes (Q₁ := fun obj s₁ => obj = .ref s.heap.objs.size ∧ s₁ = { s with heap := s.heap.push { cls := .type "list", data := .seq #[] } }) PySem.F.called_list (PySem.F.typeCall_list_1 _) PySem.F.entry_list_init
    (code_list_new _ ⟨rfl, rfl⟩) fun obj s₁ h₁ => ?_
  obtain ⟨rfl, rfl⟩ := h₁
  have hS : (s.heap.push { cls := .type "list", data := .seq #[] }).get? s.heap.objs.size = some { cls := .type "list", data := .seq #[] } := Heap.get?_push_size _ rfl
  refine ⟨⟨_, hS, rfl⟩, PySem.F.args_list_init_2 _ _, ?_⟩
  have F₁ := F.push (listOf #[] 0)
  have N₁ := N.push F (listOf #[] 0)
  have hlt : ∀ p ∈ (lexLed w x dx y dy pb fs k t k0 k1 k2 n0 tb b (stVal .bl sk) (.str (Str.ofString "") tk0) 0 tp), p.1 < s.heap.objs.size := fun p hp => Heap.lt_size (N p hp).1
  generalize hDe : s.heap.objs.size = D at *
  show wpAny _ _ (do let old ← Builtin.List.listItems (.ref D); Builtin.List.listUpdate (.ref D) (fun _ => #[]); letGo old.toList.reverse; Builtin.List.listExtendWith (.ref D) (.ref x) .none) _ _ _
  refine wpAny_bind ?_
  unfold Builtin.List.listItems
  refine wpAny_bind (wpAny_seqItems hS rfl (wpAny_pure ?_))
  show wpAny _ _ (updateSeq D (fun _ => #[]) >>= fun _ => letGo (#[] : Array Value).toList.reverse >>= fun _ => Builtin.List.listExtendWith (.ref D) (.ref x) .none) _ _ _
  refine wpAny_bind (wpAny_updateSeq hS rfl ?_)
  obtain ⟨F₂, N₂⟩ := news_upd (pre := []) (f := Obj.mapSeq (fun _ => (#[] : Array Value))) F₁ N₁ (fun _ h => nomatch h) (fun p hp => Nat.ne_of_lt (hlt p hp)) (o' := listOf #[] 0) rfl rfl
  refine wpAny_bind (wpAny_letGo ?_)
  have I := (⟨N₂.get (.tail _ (.tail _ (.tail _ (.head _)))), rfl, rfl, N₂.get (.tail _ (.head _))⟩ : InstAt _ x (instObj 739 dx) 739 (some (dictOf (lexEs w k t y pb fs (stVal .bl sk) (.str (Str.ofString "") tk0)) 19)))
  unfold Builtin.List.listExtendWith
  refine wpAny_bind (I.type.here ?_)
  have hDx : D ≠ x := Ne.symm (Nat.ne_of_lt (hlt (x, instObj 739 dx) (.tail _ (.tail _ (.head _)))))
  have h1 : Builtin.List.listSameRef (.ref D) (.ref x) = false := by simp [Builtin.List.listSameRef, hDx]
  have h2 : (Value.ref 739 == Value.type "list") = false := by decide
  have h3 : (Value.ref 739 == Value.type "tuple") = false := by decide
  simp only [h1, h2, h3, Bool.or_false, Bool.false_eq_true, if_false]
  refine wpAny_bind ?_
  refine lex_iter (un := un + 2) (m := m) (h₀ := h₀) (od := dictOf (lexEs w k t y pb fs (stVal .bl sk) (.str (Str.ofString "") tk0)) 19) (dx := dx) (.tail _ (.tail _ (.tail _ (.head _)))) (.tail _ (.head _)) B (by exact F₂) X (by exact N₂) T₀ hk hd (by omega) fun h₃ tk₃ F₃ N₃ => ?_
  refine wpAny_bind (wpAny_holding ?_)
  have I₃ := (⟨N₃.get (.tail _ (.tail _ (.tail _ (.head _)))), rfl, rfl, N₃.get (.tail _ (.head _))⟩ : InstAt _ x (instObj 739 dx) 739 (some (dictOf (lexEs w k t y pb fs (stVal .bl sk) (.str (Str.ofString "") tk0)) 19)))
  have noL : findIn (Mine.K w.params) (.ref 739) (Str.ofString "__len__") = some none := by k_is
  have noH : findIn (Mine.K w.params) (.ref 739) (Str.ofString "__length_hint__") = some none := by k_is
  unfold Builtin.List.listLengthHint
  refine wpAny_bind (wpAny_bind (I₃.type.here ((looks_findIn (X.keeps F₃.keep) noL).here ?_)))
  show wpAny _ _ (specialOf (Value.ref x) (Str.ofString "__length_hint__") >>= _) _ _ _
  refine wpAny_bind (wpAny_bind (I₃.type.here ((looks_findIn (X.keeps F₃.keep) noH).here ?_)))
  refine wpAny_pure ?_
  show wpAny _ _ (rule "list.extend.makes-room" >>= fun _ => Builtin.List.listTouch (.ref D) >>= fun _ =>
    again (.builtin "list.extend.loop" ⟨[.ref D, .ref x, .none], []⟩)) _ _ _
  refine wpAny_bind (wpAny_rule ?_)
  refine wpAny_bind ?_
  show wpAny _ _ (updateSeq D (·.push .none) >>= fun _ => updateSeq D (·.pop)) _ _ _
  have hS₃ := (N₃ (D, listOf #[] 0) (.head _)).1
  refine wpAny_bind (wpAny_updateSeq hS₃ rfl ?_)
  obtain ⟨F₄, N₄⟩ := news_upd (pre := []) (f := Obj.mapSeq (·.push Value.none)) F₃ N₃ (fun _ h => nomatch h) (fun p hp => Nat.ne_of_lt (hlt p hp)) (o' := listOf #[.none] 1) rfl rfl
  have hS₄ := (N₄ (D, listOf #[.none] 1) (.head _)).1
  refine wpAny_updateSeq (hz := by seq_fits) hS₄ rfl ?_
  obtain ⟨F₅, N₅⟩ := news_upd (pre := []) (f := Obj.mapSeq (·.pop)) F₄ N₄ (fun _ h => nomatch h) (fun p hp => Nat.ne_of_lt (hlt p hp)) (o' := listOf #[] 2) rfl rfl
  refine wpAny_pure ⟨plainId_quiet PySem.F.plain_extend_loop _, ?_⟩
  refine lex_loop (k := k) (t := t) (k0 := k0) (k1 := k1) (k2 := k2) (n0 := n0) (tb := tb) (un := un + 1) hl1 hl2 hl3 hl4 hl5 (hlt (fs, dqObj) (by simp)) hbl B X T₀ hk hd (by omega) TT 0 sk tk0 tp _ #[] [] 2 (Nat.zero_le _) hcs (by simpa using hsz) .nil F₅ (fun q hq => N₅ q ?_) fun acc' c' g' h' tk' e1 e2 e3 e4 e5 => ?_
  · rcases List.mem_append.mp hq with hq | hq
    · exact .tail _ hq
    · simp only [List.mem_cons, List.not_mem_nil, or_false] at hq
      subst hq
      exact .head _
  · exact ⟨rfl, hret D acc' c' g' h' tk' e1 e2 e3 e4 e5⟩
end
/-- what may change where an exception was raised under these frames: the frames' slots -/
structure UpS (fs : List Addr) (h h' : Heap) : Prop where
  keep : ∀ b o, h.get? b = some o → b ∉ fs → h'.get? b = some o
  up : ∀ b o, h.get? b = some o → ∃ sl, h'.get? b = some { o with slots := sl }
noncomputable def LeaveU (R : Result → Shared → Prop) (v : Value) (s' : Shared) : Prop := R (.ok (.ret v)) s'
section
variable {prog : Program} {w : World} {A₀ A : Around} {E : Value → Shared → Prop} {s : Shared} {base h₀ : Heap} {outer : List Env} {L : Addr} {m : Str → Option Value} {env : Env}
theorem reground {h h' : Heap} (B : Below A₀ base outer h₀) (F : Fr h₀ L h m) (U : UpS (L :: outer.filterMap (·.frame)) h h') :
    ∃ h₁, KtsTurn (outer.filterMap (·.frame)) h₀ h₁ ∧ Below A₀ base outer h₁ ∧ Fr h₁ L h' m ∧ ∀ news, News h₀ L h news → News h₁ L h' news := by
  have nL₀ : h₀.get? L = none := kts_self F
  obtain ⟨oL, es, ep, hL, hLd, hLk, hLf⟩ := F.ns
  obtain ⟨slL, hsL⟩ := U.up _ _ hL
  have hin : ∀ b ∈ outer.filterMap (·.frame), ∃ o, h₀.get? b = some o := fun b hb => by
    obtain ⟨_, o, ho', _⟩ := B.frames.mem hb
    exact ⟨o, ho'⟩
  obtain ⟨T₁, S₁⟩ := kts_turn_at (h := h') (fs := outer.filterMap (·.frame)) (g := h₀) hin
    (fun b o e nmem => U.keep b o (F.keep b o e) (fun q => by
      rcases List.mem_cons.mp q with z | z
      · rw [z, nL₀] at e
        cases e
      · exact nmem z))
    (fun b o e hm => U.up b o (F.keep b o e))
  have B₃ : Below A₀ base outer (ktsHeap h' (outer.filterMap (·.frame)) h₀) := ⟨B.stack, fun b o e => T₁.other b o (B.stays b o e) (fun hm => by
    rw [(B.frames.mem hm).1] at e
    cases e), B.frames.of_keeps fun b o e _ => by
    obtain ⟨sl', hs'⟩ := T₁.up e
    exact ⟨_, hs', rfl⟩⟩
  refine ⟨_, T₁, B₃, ⟨⟨_, es, ep, hsL, hLd, hLk, hLf⟩, S₁, by rw [T₁.size]; exact Nat.le_trans F.above (Nat.le_refl _)⟩, fun news N q hq => ?_⟩
  obtain ⟨a1, a2, a3⟩ := N q hq
  refine ⟨U.keep _ _ a1 (fun hm => ?_), a2, T₁.none_ _ a3⟩
  rcases List.mem_cons.mp hm with z | z
  · exact a2 z
  · obtain ⟨o, ho⟩ := hin _ z
    rw [a3] at ho
    cases ho
theorem turn_nil {h₀ h₁ h' : Heap} {A₀ : Around} {base : Heap} (T : KtsTurn [] h₀ h₁) (F : Fr h₁ L h' m) : Fr h₀ L h' m ∧ ∀ news, News h₁ L h' news → News h₀ L h' news := by
  refine ⟨⟨F.ns, fun b o e => F.keep b o (T.other b o e (by simp)), by have := F.above; rw [T.size] at this; exact this⟩, fun news N q hq => ⟨(N q hq).1, (N q hq).2.1, ?_⟩⟩
  cases e : h₀.get? q.1 with
  | none => rfl
  | some o => have := T.other _ _ e (by simp); rw [(N q hq).2.2] at this; cases this
theorem code_defU {K : Frag} {p : Program} {loose : List Str} {mean : ExcName → Option Value} {mg mb : Str → Option Value} {R : Result → Shared → Prop} {name qual : Str} {params : Arguments} {body : List Stmt} {scope : Scope} {dV kV doc pm cdv ct oc : Value} {an od : Option Addr} {osl : Array (Option Value)} {f : Addr} {args : Args} {binds : List (Str × Value)}
    (B : Below A₀ base outer h₀) (F : Fr h₀ L s.heap m) (X₀ : K.In h₀) (T : Top p loose mean mg mb h₀) (hA : A.frames = some (env :: outer)) (hf : env.frame = some L) (hke : env.scope.kind = .function)
    (ho : K.lookup f = some ⟨oc, od, .func (fnOf name qual params body scope dV kV doc pm an cdv ct), osl⟩) (hcd : codeIn K cdv qual = true) (hroom : A.depth < recursionLimit)
    (hbind : BindsTo s (fnOf name qual params body scope dV kV doc pm an cdv ct) args binds) (hloc : ∀ y ∈ binds, scope.names.lookup y.1 = some .local)
    (h : ∀ g L' h₁, Fr h₀ L g m → Fr g L' h₁ (fun y => binds.reverse.lookup y) → News g L' h₁ [] → Below A base (env :: outer) g → K.In g → Top p loose mean mg mb g → GSub s.heap g [] →
      wpAny (model prog w) (A.deeper (envOf qual scope L' f cdv)) (execs body (envOf qual scope L' f cdv))
        (fun fl s' => LeaveU R (match fl with | .ret v => v | _ => .none) s')
        (fun e s' => wpAny (model prog w) (A.deeper (envOf qual scope L' f cdv)) (leaving (envOf qual scope L' f cdv) e) (fun _ s'' => R (.error e) s'') (fun e' s'' => R (.error e') s'') s')
        { s with heap := h₁, toks := s.toks + binds.length })
    (hco : scope.isCoroutine = false) (hgen : scope.isGenerator = false) (hk : scope.kind = .function)
    (hcell : ∀ x ∈ scope.names, x.2 ≠ .cell) : codeAny (model prog w) A (.call (.ref f) args) R s := by
  have N : News h₀ L s.heap [] := News.nil
  obtain ⟨FG, BG, st, lv⟩ := groundX (R := R) B F N hA hf hke
  refine codeAny_call_def (fd := fnX name qual params body scope [] dV kV doc pm an cdv ct) (body := body) (binds := binds) hroom ((X₀.keeps F.keep) _ _ ho) rfl (T.nolimit.keeps F.keep) (codeRec_of (X₀.keeps F.keep) hcd) rfl hbind hcell hloc (fun h₁ hns hk₁ => ?_) hco hgen hk
  exact wpAny_mono (h _ s.heap.objs.size h₁ FG ⟨hns, fun b o e => hk₁ b o (of_hideAll _ e), Nat.le_of_eq (hideAll_size _ _)⟩
    (fun p hp => ⟨hk₁ _ _ (N p hp).1, Nat.ne_of_lt (Heap.lt_size (N p hp).1), hideAll_none _ (List.mem_map_of_mem hp)⟩) BG (X₀.keeps st) (T.keeps st) (fun b o e n => hideAll_get _ e n)) (fun fl s' hl => hl) fun _ _ y => y
theorem turn_up {fs : List Addr} {h g g' h' : Heap} {L' : Addr} {m' : Str → Option Value} (G : GSub h g []) (T : KtsTurn fs g g') (F : Fr g' L' h' m') : UpS fs h h' :=
  ⟨fun b o e n => F.keep b o (T.other b o (G b o e (by simp)) n), fun b o e => by
    obtain ⟨sl, hs⟩ := T.up (G b o e (by simp))
    exact ⟨sl, F.keep _ _ hs⟩⟩
end
theorem turn_fresh {fs : List Addr} {h g g' h' : Heap} {L' : Addr} {D : Addr} {o : Obj} (G : GSub h g []) (T : KtsTurn fs g g') (N : News g' L' h' [(D, o)]) : h.get? D = none := by
  cases e : h.get? D with
  | none => rfl
  | some o' =>
    obtain ⟨sl, hs⟩ := T.up (G D o' e (by simp))
    have := (N (D, o) (.head _)).2.2
    rw [hs] at this
    cases this
theorem lexLed_of {w : World} {h₀ h : Heap} {L x dx y dy pb fs : Addr} {a0 a1 a2 a3 a4 a5 a6 a7 a8 a9 a10 a11 a12 a13 a14 a15 a16 a17 a18 b4 b5 b6 b8 b9 b10 b13 b14 b18 k0 k1 k2 n0 tb : Tok} {b : Str} {st tok : Value} {p : Int} {tp : Tok} {news : List (Addr × Obj)} (N : News h₀ L h news)
    (m3 : (x, instObj 739 dx) ∈ news) (m1 : (dx, dictOf [ent w "instream" a0 (.ref y), ent w "infile" a1 .none, ent w "posix" a2 (.bool true), ent w "eof" a3 .none, ent w "commenters" a4 (.str (Str.ofString "") b4), ent w "wordchars" a5 (.str wordChars b5), ent w "whitespace" a6 (.str (Str.ofString " \t\r\n") b6), ent w "whitespace_split" a7 (.bool true), ent w "quotes" a8 (.str (Str.ofString "'\"") b8), ent w "escape" a9 (.str (Str.ofString "\\") b9), ent w "escapedquotes" a10 (.str (Str.ofString "\"") b10), ent w "state" a11 st, ent w "pushback" a12 (.ref pb), ent w "lineno" a13 (.int 1 b13), ent w "debug" a14 (.int 0 b14), ent w "token" a15 tok, ent w "filestack" a16 (.ref fs), ent w "source" a17 .none, ent w "_punctuation_chars" a18 (.str (Str.ofString "") b18)] 19) ∈ news) (m4 : (y, instObj 604 dy) ∈ news) (m2 : (dy, dictOf (ioEs w k0 k1 k2 n0 tb tp b p) 3) ∈ news) (m5 : (pb, dqObj) ∈ news) (m6 : (fs, dqObj) ∈ news) :
    News h₀ L h (lexLed w x dx y dy pb fs (fun i => [a0, a1, a2, a3, a4, a5, a6, a7, a8, a9, a10, a11, a12, a13, a14, a15, a16, a17, a18].getD i 0) (fun i => [0, 0, 0, 0, b4, b5, b6, 0, b8, b9, b10, 0, 0, b13, b14, 0, 0, 0, b18].getD i 0) k0 k1 k2 n0 tb b st tok p tp) := fun q hq => by
  simp only [List.mem_cons, List.not_mem_nil, or_false] at hq
  rcases hq with rfl | rfl | rfl | rfl | rfl | rfl
  · exact N _ m1
  · exact N _ m2
  · exact N _ m3
  · exact N _ m4
  · exact N _ m5
  · exact N _ m6
section
variable {w : World} {vw : Program} {loose : List Str} {mean : ExcName → Option Value} {mg mb : Str → Option Value}
theorem split_in {b : Str} {tb0 : Tok} {ts : List (List Nat)} (hbl : b.length ≤ 10000) (TT : Toks .bl b.cps.toList ts) (hsz : ts.length ≤ 20000)
    {dp un : Nat} {gd : Option (List Code)} {cn : Str} {cs' : Scope} {a : Addr} {ccd : Value} {cl : List (Str × Addr)} {outer : List Env} {A₀ : Around} {base h₀ : Heap} {L : Addr} {m : Str → Option Value} {s : Shared} {Q E : Value → Shared → Prop}
    (B : Below A₀ base outer h₀) (F : Fr h₀ L s.heap m) (X : (Mine.K w.params).In h₀) (T₀ : Top vw loose mean mg mb h₀) (hk : cs'.kind = .function)
    (hd : dp + 40 < recursionLimit) (hu : un + 400 < cLine)
    (hret : ∀ (D : Addr) (acc' : Array Value) (c' : Nat) (h' : Heap) (tk' : Nat), Strs acc'.toList ts → UpS (L :: outer.filterMap (·.frame)) s.heap h' → s.heap.get? D = none → h'.get? D = some (listOf acc' c') → Q (.ref D) { s with heap := h', toks := tk' }) :
      wpAny (model Challenge.rw_ij0133_01.row.prog w) (ktrTop dp un gd cn cs' L a ccd cl outer) (call (.ref 751) [.str b tb0]) Q E s := by
  cases cs'; dsimp only at hk; subst hk
  refine wpAny_call ?_
  k_dflt (refine' code_defU ?k1 ?k2 ?k3 ?k5 ?kA ?kF ?kK ?k6 ?k7 ?k8 ?k9 ?kB ?_ ?c2 ?c3 ?c4 ?c5; (case kA => exact rfl); (case kF => exact rfl); (case kK => first | exact rfl | assumption); (case k1 => k_asm); (case k2 => k_asm); (case k3 => k_asm); (case k5 => k_asm); (case k6 => k_is); (case k7 => k_is); (case k8 => k_room); (case k9 => first | exact BindsTo.of_eq rfl | exact binds_K (by k_in) rfl (by k_is) rfl rfl rfl); (case c5 => decide); (case kB => exact locs rfl); (case c2 => exact rfl); (case c3 => exact rfl); (case c4 => exact rfl); intro g' L' h' FG' F' N' B' X' T' G'; (try dsimp only); (try k_lift B'); (try k_fold))
  (repeat' (first | ((with_reducible refine consQ_next ?_)) | ((with_reducible refine consQ_ret ?_)) | ((with_reducible refine consQ_brk ?_)) | ((with_reducible refine consQ_cont ?_)) | (with_reducible ((with_reducible show wpAny _ _ (execs (_ :: _) _) _ _ _); (k_here; (try dsimp only); (try (refine gen_toks ?_; intro tk)); first | refine execs_one ?_ | refine execs_consQ ?_))) | ((with_reducible refine wpAny_execs_nil ?_)) | (((k_here; (with_reducible show wpAny _ _ (call (Value.type "list") [Value.ref _]) _ _ _); k_dflt (refine' lex_list ?l1zq ?l2zq ?l3zq ?l4zq ?l5zq ?blzq ?Bzq ?Fzq ?Xzq ?Tzq ?kzq ?dzq ?uzq ?TTzq ?cszq ?szzq (lexLed_of ?Nzq ?m3zq ?m1zq ?m4zq ?m2zq ?m5zq ?m6zq) ?_; (case Nzq => k_asm); (case m3zq | m1zq | m4zq | m2zq | m5zq | m6zq => k_mem); (case l1zq | l2zq | l3zq | l4zq | l5zq => first | (with_reducible assumption) | ((repeat (rename _ < _ ∧ _ => hA; obtain ⟨_, hA'⟩ := hA)); (with_reducible assumption))); (case blzq => assumption); (case Bzq | Fzq | Xzq | Tzq => k_asm); (case kzq => exact rfl); (case dzq => k_room); (case uzq => k_units); (case TTzq => assumption); (case cszq => exact rfl); (case szzq => assumption); k_whole; intro D' acc' c' g' h' tk' S' T' B' F' N'; (try k_sweep))))) | (with_reducible ((with_reducible show wpAny _ _ (exec (PySem.Stmt.If _ _ _ _) _) _ _ _); (refine wpAny_If ?_))) | (with_reducible ((with_reducible show wpAny _ _ (compareOp CmpOp.Eq (Value.str _ _) (Value.str _ _)) _ _ _); (first | refine eq_fact (by with_reducible assumption) ?_ | refine eq_fact (r := true) (by decide +kernel) ?_ | refine eq_fact (r := false) (by decide +kernel) ?_))) | (((with_reducible show wpAny _ _ (call (Value.type "collections.deque") _ _) _ _ _); (k_here; k_dflt (refine' dq_make ?k1zq ?k2zq ?_; (case k1zq | k2zq => k_asm); k_whole; intro x' h' F' N' l1; (try k_lt l1); (try k_sweep))))) | (((k_here; (with_reducible show wpAny _ _ (call (Value.ref 604) _ _) _ _ _); k_dflt (refine wpAny_call (make604 ?k1zq ?_); (case k1zq => k_in))))) | (((with_reducible show NewBack _ _ _ _ _ _ _ _ _); (k_here; k_dflt (refine' newBack ?k1zq ?k2zq ?_; (case k1zq => k_asm); (case k2zq => k_mem); k_whole; k_enter)))) | (((with_reducible show wpAny _ _ (call (Value.builtin "object.__new__") _ _) _ _ _); (k_here; k_dflt (refine' new604_walk ?k1zq ?k2zq ?k3zq ?_; (case k1zq | k2zq | k3zq => k_asm); k_whole; intro x' d' h' F' N' l1 l2; (try k_lt l1); (try k_lt2 l2); (try k_sweep))))) | (k_unfold; (try dsimp only)) | walk1 | (dsimp only; walk1) | (leave1; walk_say "STEP leave1"; try dsimp only) | fail "no step"))
  all_goals (show Q _ _; exact hret _ _ _ _ _ (by assumption) (turn_up (fs := L :: outer.filterMap (·.frame)) (by assumption) (by assumption) (by assumption)) (turn_fresh (fs := L :: outer.filterMap (·.frame)) (by assumption) (by assumption) (by assumption)) (News.get (by assumption) (.head _)))
end
section
open PySem.Builtin PySem.Builtin.Re
noncomputable abbrev reCode : Array Nat := #[14, 17, 4, 1, 1, 21, 9, 0, 604043296, 1, 0, 0, 0, 0, 0, 8, 4, 0, 13, 14, 21, 9, 0, 604043296, 1, 0, 0, 0, 0, 0, 8, 4, 0, 1]
/-- a sign that the pattern does not find -/
noncomputable def safeC (c : Nat) : Bool := (decide (c < 256) && (reCode.getD (6 + (1 + c / 32)) 0).testBit (c % 32)) || Sre.isWord c
theorem sr_look {w : World} {h : Heap} {M : Model} (X : (Mine.K w.params).In h) (b : Str) (t : Tok) :
    Looks M h (reTarget "re.Pattern.search" "search" ⟨[.ref 56, .str b t], []⟩) { pattern := .ref 56, string := .str b t, code := reCode, text := b.cps, kind := 0, groups := 0, pos := min (0 : Int).toNat b.cps.size, lim := min ((2 : Int) ^ 63 - 1).toNat b.cps.size } :=
  Looks.of_peek X (by kernel_rfl)
theorem sr_check {w : World} {h : Heap} {M : Model} (X : (Mine.K w.params).In h) (b : Str) (t : Tok) :
    Looks M h (checkBoundCall "re.Pattern.search" ⟨[.ref 56, .str b t], []⟩) () :=
  Looks.of_peek X (by kernel_rfl)
theorem sr_words : ∀ k < 8, reCode.getD (21 + (1 + k)) 0 = reCode.getD (6 + (1 + k)) 0 := by decide
theorem sr_st1 (c : Nat) (yes : Bool) (seen : Sre.Seen) : Sre.inSet reCode c 34 5 yes seen = Sre.inSet reCode c 33 6 (!yes) (seen.add 21) := rfl
theorem sr_st2 (c : Nat) (yes : Bool) (seen : Sre.Seen) : Sre.inSet reCode c 33 6 yes seen = if (decide (c < 256) && (reCode.getD (6 + (1 + c / 32)) 0).testBit (c % 32)) = true then .ok (yes, seen.add 9) else Sre.inSet reCode c 32 15 yes (seen.add 9) := rfl
theorem sr_st3 (c : Nat) (yes : Bool) (seen : Sre.Seen) : Sre.inSet reCode c 32 15 yes seen = if (Sre.isWord c != false) = true then .ok (yes, (seen.add 8).add 59) else Sre.inSet reCode c 31 17 yes ((seen.add 8).add 59) := rfl
theorem sr_st4 (c : Nat) (yes : Bool) (seen : Sre.Seen) : Sre.inSet reCode c 31 17 yes seen = .ok (!yes, seen.add 0) := rfl
theorem sr_u1 (c : Nat) (yes : Bool) (seen : Sre.Seen) : Sre.inSet reCode c 34 20 yes seen = Sre.inSet reCode c 33 21 (!yes) (seen.add 21) := rfl
theorem sr_u2 (c : Nat) (yes : Bool) (seen : Sre.Seen) : Sre.inSet reCode c 33 21 yes seen = if (decide (c < 256) && (reCode.getD (21 + (1 + c / 32)) 0).testBit (c % 32)) = true then .ok (yes, seen.add 9) else Sre.inSet reCode c 32 30 yes (seen.add 9) := rfl
theorem sr_u3 (c : Nat) (yes : Bool) (seen : Sre.Seen) : Sre.inSet reCode c 32 30 yes seen = if (Sre.isWord c != false) = true then .ok (yes, (seen.add 8).add 59) else Sre.inSet reCode c 31 32 yes ((seen.add 8).add 59) := rfl
theorem sr_u4 (c : Nat) (yes : Bool) (seen : Sre.Seen) : Sre.inSet reCode c 31 32 yes seen = .ok (!yes, seen.add 0) := rfl
theorem sr_set5 (c : Nat) (seen : Sre.Seen) : ∃ z, Sre.inSet reCode c 34 5 true seen = .ok (!safeC c, z) := by
  rw [sr_st1, sr_st2]
  unfold safeC
  cases h : (decide (c < 256) && (reCode.getD (6 + (1 + c / 32)) 0).testBit (c % 32)) with
  | true => exact ⟨_, rfl⟩
  | false =>
    rw [if_neg (by decide), sr_st3]
    cases h2 : Sre.isWord c with
    | true => exact ⟨_, rfl⟩
    | false => rw [if_neg (by decide), sr_st4]; exact ⟨_, rfl⟩
theorem sr_set20 (c : Nat) (seen : Sre.Seen) : ∃ z, Sre.inSet reCode c 34 20 true seen = .ok (!safeC c, z) := by
  rw [sr_u1, sr_u2]
  have e : (decide (c < 256) && (reCode.getD (21 + (1 + c / 32)) 0).testBit (c % 32)) = (decide (c < 256) && (reCode.getD (6 + (1 + c / 32)) 0).testBit (c % 32)) := by
    by_cases hc : c < 256
    · rw [sr_words (c / 32) (by omega)]
    · simp [hc]
  rw [e]
  unfold safeC
  cases h : (decide (c < 256) && (reCode.getD (6 + (1 + c / 32)) 0).testBit (c % 32)) with
  | true => exact ⟨_, rfl⟩
  | false =>
    rw [if_neg (by decide), sr_u3]
    cases h2 : Sre.isWord c with
    | true => exact ⟨_, rfl⟩
    | false => rw [if_neg (by decide), sr_u4]; exact ⟨_, rfl⟩
theorem sr_admitted (m : Sre.M) (hc : m.code = reCode) : ∀ (fuel s : Nat) (seen : Sre.Seen), m.lim < fuel + s →
    ∃ r z, Sre.M.admitted m fuel s seen = .ok (r, z) ∧ match r with
      | none => ∀ i, s ≤ i → i < m.lim → safeC (m.text.getD i 0) = true
      | some i => s ≤ i ∧ i < m.lim ∧ safeC (m.text.getD i 0) = false := by
  intro fuel
  induction fuel with
  | zero => intro s seen h; exact ⟨none, seen, rfl, fun i h1 h2 => by omega⟩
  | succ fuel ih =>
    intro s seen h
    unfold Sre.M.admitted
    by_cases hs : s ≥ m.lim
    · rw [if_pos hs]
      exact ⟨none, seen, rfl, fun i h1 h2 => by omega⟩
    · rw [if_neg hs, hc]
      show ∃ r z, (match Sre.inSet reCode (m.text.getD s 0) 34 5 true seen with
        | Except.ok (true, seen) => Except.ok (some s, seen)
        | Except.ok (false, seen) => Sre.M.admitted m fuel (s + 1) seen
        | Except.error why => Except.error why) = Except.ok (r, z) ∧ _
      obtain ⟨z, hz⟩ := sr_set5 (m.text.getD s 0) seen
      rw [hz]
      cases hq : safeC (m.text.getD s 0) with
      | false => exact ⟨some s, z, rfl, Nat.le_refl _, by omega, hq⟩
      | true =>
        obtain ⟨r, z', e1, e2⟩ := ih (s + 1) z (by omega)
        refine ⟨r, z', e1, ?_⟩
        cases r with
        | none =>
          intro i h1 h2
          by_cases hi : i = s
          · subst hi; exact hq
          · exact e2 i (by omega) h2
        | some i => exact ⟨by omega, e2.2⟩
noncomputable abbrev srM (text : Array Nat) (n : Nat) : Sre.M :=
  { code := reCode, text, lim := n, start := 0, lastStart := n, pc := 18, pos := 0, handed := 0, marks := #[], mustAdvance := false, seen := ({} : Sre.Seen).add 14 }
theorem sr_for (text : Array Nat) (n : Nat) (hn : 0 < n) : Sre.forSearch reCode text 0 0 n false = (srM text n).attemptFrom 0 true := by
  have e : Sre.forSearch reCode text 0 0 n false = if (decide (0 > n) || decide (n - 0 < 1)) = true then ({ srM text n with lastStart := 0 } : Sre.M).say false else (srM text n).attemptFrom 0 true := rfl
  rw [e, if_neg (by simp; omega)]
theorem sr_from (text : Array Nat) (n : Nat) : (srM text n).attemptFrom 0 true = match Sre.M.admitted (srM text n) (n + 1 - 0) 0 (srM text n).seen with
  | .ok (some s, seen) => ({ srM text n with mustAdvance := false, seen } : Sre.M).attemptAt s true
  | .ok (none, seen) => ({ srM text n with seen } : Sre.M).say false
  | .error why => (srM text n).stick why := rfl
theorem sr_none (text : Array Nat) (n : Nat) (z : Sre.Seen) : ((({ srM text n with seen := z } : Sre.M).say false).runFor 4).outcome = some .failed := rfl
noncomputable abbrev srA (text : Array Nat) (n i : Nat) (z : Sre.Seen) : Sre.M := ({ srM text n with mustAdvance := false, seen := z } : Sre.M).attemptAt i true
theorem sr_run4 (m : Sre.M) (h : m.outcome.isSome = false) : m.runFor 4 = m.step.runFor 3 := by
  show (if m.outcome.isSome then m else Sre.M.runFor 3 m.step) = _
  rw [h]; rfl
theorem sr_step1 (text : Array Nat) (n i : Nat) (z : Sre.Seen) : (srA text n i z).step = if i ≥ n then ({ srA text n i z with seen := z.add 13 } : Sre.M).say false else
    match Sre.accepts reCode 18 (text.getD i 0) (z.add 13) with
    | .error why => ({ srA text n i z with seen := z.add 13 } : Sre.M).stick why
    | .ok (false, seen) => ({ srA text n i z with seen } : Sre.M).say false
    | .ok (true, seen) => { srA text n i z with seen, pc := 33, pos := i + 1 } := rfl
theorem sr_acc (c : Nat) (z : Sre.Seen) : Sre.accepts reCode 18 c z = Sre.inSet reCode c 34 20 true z := rfl
theorem sr_rest (text : Array Nat) (n i : Nat) (z z' : Sre.Seen) : (({ srA text n i z with seen := z', pc := 33, pos := i + 1 } : Sre.M).runFor 3).outcome = some .matched := rfl
theorem sr_some (text : Array Nat) (n i : Nat) (z : Sre.Seen) (hi : i < n) (hs : safeC (text.getD i 0) = false) : ((srA text n i z).runFor 4).outcome = some .matched := by
  rw [sr_run4 _ rfl, sr_step1, if_neg (by omega), sr_acc]
  obtain ⟨z', hz⟩ := sr_set20 (text.getD i 0) (z.add 13)
  rw [hz, hs]
  exact sr_rest text n i z z'
/-- the search over a text that is not empty: found or not -/
theorem sr_search (text : Array Nat) (n : Nat) (hn : 0 < n) :
    (((Sre.forSearch reCode text 0 0 n false).runFor 4).outcome = some .failed ∧ ∀ i, i < n → safeC (text.getD i 0) = true) ∨
    (((Sre.forSearch reCode text 0 0 n false).runFor 4).outcome = some .matched ∧ ∃ i, i < n ∧ safeC (text.getD i 0) = false) := by
  rw [sr_for text n hn, sr_from]
  obtain ⟨r, z, e1, e2⟩ := sr_admitted (srM text n) rfl (n + 1 - 0) 0 (srM text n).seen (by show n < _; omega)
  rw [e1]
  cases r with
  | none => exact .inl ⟨sr_none text n z, fun i h => e2 i (Nat.zero_le _) h⟩
  | some i => exact .inr ⟨sr_some text n i z e2.2.1 e2.2.2, i, e2.2.1, e2.2.2⟩
section
variable {M : Model} {A : Around} {E : Value → Shared → Prop} {s : Shared}
theorem sr_toEnd {m : Sre.M} {Q : Option Sre.M → Shared → Prop} (h : ((m.runFor 4).outcome = some .failed ∧ Q none s) ∨ ((m.runFor 4).outcome = some .matched ∧ Q (some (m.runFor 4)) s)) : wpAny M A (reRunToEnd m) Q E s := by
  have h0 : (m.runFor 4).outcome.isSome = true := by rcases h with ⟨e, _⟩ | ⟨e, _⟩ <;> rw [e] <;> rfl
  have hd : ∀ k, reDrive (k + 1) m = pure (m.runFor 4) := fun k => by
    show (if (m.runFor reTurnSteps).outcome.isSome then pure (m.runFor reTurnSteps) else _) = _
    rw [if_pos (show (m.runFor reTurnSteps).outcome.isSome = true from h0)]
    rfl
  unfold reRunToEnd
  rw [show (2 : Nat) ^ 64 = 18446744073709551615 + 1 from rfl, hd]
  refine wpAny_bind (wpAny_pure ?_)
  refine wpAny_bind (wpAny_forIn_list _ (fun _ _ s' => s' = s) _ (fun x rest b s' hs => ?_) (fun b s' hs => ?_) _ _ rfl)
  · subst hs
    split
    · exact wpAny_bind (wpAny_rule (wpAny_pure rfl))
    · exact wpAny_pure rfl
  · subst hs
    rcases h with ⟨e, hq⟩ | ⟨e, hq⟩ <;> rw [e] <;> exact wpAny_pure hq
theorem sr_newMatch {p b : Value} {pos lim : Nat} {m : Sre.M} {Q : Value → Shared → Prop} (h : ∀ o1 o2 : Obj, o1.isFreed = false → o2.isFreed = false → Q (.ref (s.heap.push o1).objs.size) { s with heap := (s.heap.push o1).push o2 }) : wpAny M A (reNewMatch p b 0 pos lim m) Q E s := by
  show wpAny M A (newTuple [rawInt m.start, rawInt m.handed] >>= fun t => newFields "re.Match" [b, p, rawInt pos, rawInt lim, rawInt m.lastindex, t]) Q E s
  refine wpAny_bind (wpAny_newTuple ?_)
  exact wpAny_newObj_type (h _ _ rfl rfl)
end
section
variable {prog : Program} {w : World} {A : Around} {E : Value → Shared → Prop} {s : Shared} {h₀ : Heap} {L : Addr} {m : Str → Option Value} {news : List (Addr × Obj)}
theorem sr_size (b : Str) (hb : b.length ≤ 10000) : min ((2 : Int) ^ 63 - 1).toNat b.cps.size = b.cps.size := by
  have : b.cps.size ≤ 10000 := hb
  have e : ((2 : Int) ^ 63 - 1).toNat = 9223372036854775807 := rfl
  rw [e]; omega
noncomputable def AllSafe (b : Str) : Prop := ∀ c ∈ b.cps.toList, safeC c = true
theorem sr_tree {b : Str} {t : Tok} {Q : Fin → Shared → Prop} (X : (Mine.K w.params).In s.heap) (hb : b.length ≤ 10000) (h0 : 0 < b.length)
    (hn : AllSafe b → Q (.done (.ret .none)) s) (hm : ∀ o1 o2 : Obj, o1.isFreed = false → o2.isFreed = false → ¬ AllSafe b → Q (.done (.ret (.ref (s.heap.push o1).objs.size))) { s with heap := (s.heap.push o1).push o2 }) :
    wpAny (model prog w) A (Builtin.«re.Pattern.search» ⟨[.ref 56, .str b t], []⟩) Q E s := by
  unfold Builtin.«re.Pattern.search»
  refine wpAny_bind ((sr_look X b t).here ?_)
  dsimp only
  rw [sr_size b hb, show min (0 : Int).toNat b.cps.size = 0 from Nat.zero_min _]
  unfold reAnswer
  dsimp only
  refine wpAny_bind (sr_toEnd ?_)
  have key : ∀ i, i < b.cps.size → b.cps.getD i 0 ∈ b.cps.toList := fun i hi => by
    rw [Array.getD_eq_getD_getElem?, Array.getElem?_eq_getElem hi]
    exact Array.mem_toList_iff.mpr (Array.getElem_mem hi)
  rcases sr_search b.cps b.cps.size h0 with ⟨e, hs⟩ | ⟨e, i, hi, hs⟩
  · refine .inl ⟨e, wpAny_pure (hn fun c hc => ?_)⟩
    obtain ⟨i, hi, rfl⟩ := List.getElem_of_mem hc
    have hi' : i < b.cps.size := by simpa using hi
    have := hs i hi'
    rw [Array.getD_eq_getD_getElem?, Array.getElem?_eq_getElem hi'] at this
    simpa using this
  · refine .inr ⟨e, wpAny_bind (sr_newMatch fun o1 o2 f1 f2 => wpAny_pure (hm o1 o2 f1 f2 fun hall => ?_))⟩
    rw [hall _ (key i hi)] at hs
    cases hs
end
end
section
open PySem.Builtin
noncomputable abbrev bnd759 : Obj := { cls := .type "builtin_function_or_method", data := .fields #[.builtin "re.Pattern.search", .ref 56] }
theorem entry_sr : entryFor table "re.Pattern.search" = some Builtin.«re.Pattern.search» := entryFor_of_tree (by kernel_rfl)
theorem plain_sr : plainId "re.Pattern.search" = true := by decide +kernel
section
variable {prog : Program} {w : World} {A : Around} {E : Value → Shared → Prop} {s : Shared} {h₀ : Heap} {L : Addr} {m : Str → Option Value} {news : List (Addr × Obj)}
theorem at759 {h : Heap} (X : (Mine.K w.params).In h) : h.get? 759 = some bnd759 := X 759 bnd759 (by k_is)
theorem callWith_759f {pos : Pos} {args : List (Bool × Sem Value)} {Q : Value → Shared → Prop} (hplain : args.any (·.1) = false)
    (h : wpAny (model prog w) A (evalArgs (.ref 759) true args []) (fun x s₁ => (Mine.K w.params).In s₁.heap ∧ wpAny (model prog w) A (call (.ref 759) ([] ++ x.pos) x.kw) Q E s₁) E s) : wpAny (model prog w) A (callWith pos (.ref 759) [] args []) Q E s := by
  unfold callWith
  refine wpAny_bind (wpAny_holding (wpAny_mono h (fun x s₁ h₁ => wpAny_bind (wpAny_standAt ?_)) fun _ _ x => x))
  obtain ⟨X₁, hcall⟩ := h₁
  have ho := at759 X₁
  simp only [hplain, List.any_nil, Bool.or_false]
  refine wpAny_bind (m := keeperOf (.ref 759)) ?_
  unfold keeperOf
  refine wpAny_bind (wpAny_load ho ?_)
  simp only [bnd759, show (Value.type "builtin_function_or_method" != Value.type "method") = true by decide, show (Value.type "builtin_function_or_method" == Value.type "builtin_function_or_method" || Value.type "builtin_function_or_method" == Value.type "method-wrapper") = true by decide, if_true]
  refine wpAny_pure ?_
  exact wpAny_bind (wpAny_mono hcall (fun r s₂ hr => wpAny_bind (wpAny_holding (wpAny_point (wpAny_pure hr)))) fun _ _ x => x)
theorem callWith_759 {pos : Pos} {env : Env} {e : PySem.Expr} {rest : List PySem.Expr} {Q : Value → Shared → Prop} (_X : (Mine.K w.params).In h₀)
    (h : wpAny (model prog w) A (spliced (backTo pos (starEach (e :: rest) env))) (fun vs s₁ => (Mine.K w.params).In s₁.heap ∧ wpAny (model prog w) A (call (.ref 759) ([] ++ vs)) Q E s₁) E s)
    (he : starEach (e :: rest) env = (false, eval e env) :: starEach rest env := by rfl) (hplain : (backTo pos (starEach rest env)).any (·.1) = false := by rfl) :
    wpAny (model prog w) A (callWith pos (.ref 759) [] (backTo pos (starEach (e :: rest) env)) []) Q E s := by
  rw [he] at h ⊢
  refine callWith_759f (by show (false || (backTo pos (starEach rest env)).any (·.1)) = false; rw [hplain]; rfl) ?_
  exact evalArgs_plain h
theorem call_759 {b : Str} {t : Tok} {Q : Value → Shared → Prop} (X₀ : (Mine.K w.params).In h₀) (F : Fr h₀ L s.heap m) (N : News h₀ L s.heap news) (hb : b.length ≤ 10000) (h0 : 0 < b.length)
    (hn : AllSafe b → Q .none s) (hm : ∀ x h', ¬ AllSafe b → Fr h₀ L h' m → News h₀ L h' news → Q (.ref x) { s with heap := h' }) :
    wpAny (model prog w) A (call (.ref 759) [.str b t]) Q E s := by
  have X := X₀.keeps F.keep
  refine wpAny_call (codeAny_of_tree ?_)
  show wpAny _ A.in1 (callAny (.ref 759) ⟨[.str b t], []⟩) _ _ s
  simp only [callAny]
  refine wpAny_bind (wpAny_load (at759 X) ?_)
  simp only [show (Value.type "builtin_function_or_method" == Value.type "method" || Value.type "builtin_function_or_method" == Value.type "builtin_function_or_method" || Value.type "builtin_function_or_method" == Value.type "method-wrapper") = true by decide, if_true]
  refine KFB.if_so (by decide) ?_
  refine wpAny_bind ((sr_check X b t).here ?_)
  refine wpAny_bind (wpAny_pure (wpAny_pure ?_))
  refine ⟨plainId_quiet plain_sr _, codeAny_builtin entry_sr ?_⟩
  refine sr_tree X hb h0 (fun h => hn h) fun o1 o2 f1 f2 h => hm _ _ h ((F.push o1).push o2) fun q hq => ?_
  have z := (N.push F o1 f1).push (F.push o1) o2 f2
  exact z q (.tail _ (.tail _ hq))
end
end
theorem ctr_keep {h g h' : Heap} {L' : Addr} {m' : Str → Option Value} (G : GSub h g []) (F : Fr g L' h' m') : ∀ b o, h.get? b = some o → h'.get? b = some o := fun b o e => F.keep b o (G b o e (by simp))
/-- a text in single quotes, as quote writes it -/
noncomputable abbrev quoted (b : Str) : Str := Str.ofString "'" ++ Txt.replace b (Str.ofString "'") (Str.ofString "'\"'\"'") ++ Str.ofString "'"
section
variable {w : World} {vw : Program} {loose : List Str} {mean : ExcName → Option Value} {mg mb : Str → Option Value}
noncomputable def LeaveN (R : Result → Shared → Prop) (v : Value) (s' : Shared) : Prop := R (.ok (.ret v)) s'
theorem code_defN {prog : Program} {w : World} {A : Around} {s : Shared} {h₀ : Heap} {L : Addr} {m : Str → Option Value} {K : Frag} {p : Program} {loose : List Str} {mean : ExcName → Option Value} {mg mb : Str → Option Value} {R : Result → Shared → Prop} {name qual : Str} {params : Arguments} {body : List Stmt} {scope : Scope} {dV kV doc pm cdv ct oc : Value} {an od : Option Addr} {osl : Array (Option Value)} {f : Addr} {args : Args} {binds : List (Str × Value)}
    (F : Fr h₀ L s.heap m) (X₀ : K.In h₀) (T : Top p loose mean mg mb h₀)
    (ho : K.lookup f = some ⟨oc, od, .func (fnOf name qual params body scope dV kV doc pm an cdv ct), osl⟩) (hcd : codeIn K cdv qual = true) (hroom : A.depth < recursionLimit)
    (hbind : BindsTo s (fnOf name qual params body scope dV kV doc pm an cdv ct) args binds) (hloc : ∀ y ∈ binds, scope.names.lookup y.1 = some .local)
    (h : ∀ g L' h₁, Fr g L' h₁ (fun y => binds.reverse.lookup y) → News g L' h₁ [] → K.In g → Top p loose mean mg mb g → GSub s.heap g [] →
      wpAny (model prog w) (A.deeper (envOf qual scope L' f cdv)) (execs body (envOf qual scope L' f cdv))
        (fun fl s' => LeaveN R (match fl with | .ret v => v | _ => .none) s')
        (fun e s' => wpAny (model prog w) (A.deeper (envOf qual scope L' f cdv)) (leaving (envOf qual scope L' f cdv) e) (fun _ s'' => R (.error e) s'') (fun e' s'' => R (.error e') s'') s')
        { s with heap := h₁, toks := s.toks + binds.length })
    (hco : scope.isCoroutine = false) (hgen : scope.isGenerator = false) (hk : scope.kind = .function)
    (hcell : ∀ x ∈ scope.names, x.2 ≠ .cell) : codeAny (model prog w) A (.call (.ref f) args) R s := by
  refine codeAny_call_def (fd := fnX name qual params body scope [] dV kV doc pm an cdv ct) (body := body) (binds := binds) hroom ((X₀.keeps F.keep) _ _ ho) rfl (T.nolimit.keeps F.keep) (codeRec_of (X₀.keeps F.keep) hcd) rfl hbind hcell hloc (fun h₁ hns hk₁ => ?_) hco hgen hk
  exact wpAny_mono (h _ s.heap.objs.size h₁ ⟨hns, fun b o e => hk₁ b o e, Nat.le_refl _⟩ News.nil (X₀.keeps F.keep) (T.keeps F.keep) (fun b o e n => e)) (fun fl s' hl => hl) fun _ _ y => y
theorem quote_more {b : Str} {tb0 : Tok} (hbl : b.length ≤ 10000) (hrl : (Txt.replace b (Str.ofString "'") (Str.ofString "'\"'\"'")).length ≤ 50000) (h0 : 0 < b.length) (hne : (((b).length : Int) != 0) = true)
  (A : Around) (h₀ : Heap) (L : Addr) (m : Str → Option Value) (s : Shared) (Q E : Value → Shared → Prop) (F : Fr h₀ L s.heap m) (X : (Mine.K w.params).In h₀) (T : Top vw loose mean mg mb h₀) (hd : A.depth + 5 < recursionLimit)
  (hret : ∀ (v : Value) (h' : Heap) (tk' : Nat), (∀ b o, s.heap.get? b = some o → h'.get? b = some o) → Hold (∃ r t, v = .str r t ∧ ((AllSafe b ∧ r = b) ∨ (¬ AllSafe b ∧ r = quoted b))) → Q v { s with heap := h', toks := tk' }) :
      wpAny (model Challenge.rw_ij0133_01.row.prog w) A (call (.ref 766) [.str b tb0]) Q E s := by
  refine wpAny_call ?_
  k_dflt (refine' code_defN ?k2 ?k3 ?k5 ?k6 ?k7 ?k8 ?k9 ?kB ?_ ?c2 ?c3 ?c4 ?c5; (case k2 => k_asm); (case k3 => k_asm); (case k5 => k_asm); (case k6 => k_is); (case k7 => k_is); (case k8 => omega); (case k9 => first | exact BindsTo.of_eq rfl | exact binds_K (by k_in) rfl (by k_is) rfl rfl rfl); (case c5 => decide); (case kB => exact locs rfl); (case c2 => exact rfl); (case c3 => exact rfl); (case c4 => exact rfl); intro g' L' h' F' N' X' T' G'; (try dsimp only); (try k_fold))
  (repeat' (first | ((with_reducible show LeaveN _ _ _); show Q _ _; refine hret _ _ _ (ctr_keep (by assumption) (by assumption)) (Hold.mk ⟨_, _, rfl, ?_⟩)) | ((with_reducible refine consQ_next ?_)) | ((with_reducible refine consQ_ret ?_)) | ((with_reducible refine consQ_brk ?_)) | ((with_reducible refine consQ_cont ?_)) | (with_reducible ((with_reducible show wpAny _ _ (execs (_ :: _) _) _ _ _); (k_here; (try dsimp only); (try (refine gen_toks ?_; intro tk)); first | refine execs_one ?_ | refine execs_consQ ?_))) | ((with_reducible refine wpAny_execs_nil ?_)) | (((k_here; (with_reducible show wpAny _ _ (call (Value.ref 759) _ _) _ _ _); k_dflt (refine' call_759 ?kXzq ?kFzq ?kNzq ?kbzq ?k0zq (fun hA => ?_) (fun x' h' hA F' N' => ?_); (case kXzq | kFzq | kNzq => k_asm); (case kbzq | k0zq => with_reducible assumption); k_whole; all_goals (try k_sweep))))) | (((k_here; (with_reducible show wpAny _ _ (callWith _ (Value.ref 759) _ (backTo _ (starEach (_ :: _) _)) []) _ _ _); k_dflt (refine' callWith_759 ?kXzq ?_; (case kXzq => k_asm); k_whole)))) | (with_reducible ((with_reducible show wpAny _ _ (exec (PySem.Stmt.If _ _ _ _) _) _ _ _); (refine wpAny_If ?_))) | (with_reducible ((with_reducible show wpAny _ _ (truthy (Value.str _ _)) _ _ _); (refine tr_fact (by with_reducible assumption) (by with_reducible assumption) ?_; intro _))) | (k_unfold; (try dsimp only)) | walk1 | (dsimp only; walk1) | (leave1; walk_say "STEP leave1"; try dsimp only) | fail "no step"))
  all_goals first | exact .inl ⟨by assumption, rfl⟩ | exact .inr ⟨by assumption, rfl⟩
theorem quote_nil {tb0 : Tok}
  (A : Around) (h₀ : Heap) (L : Addr) (m : Str → Option Value) (s : Shared) (Q E : Value → Shared → Prop) (F : Fr h₀ L s.heap m) (X : (Mine.K w.params).In h₀) (T : Top vw loose mean mg mb h₀) (hd : A.depth + 5 < recursionLimit)
  (hret : ∀ (u : Tok) (h' : Heap) (tk' : Nat), (∀ b o, s.heap.get? b = some o → h'.get? b = some o) → Q (.str (Str.ofString "''") u) { s with heap := h', toks := tk' }) :
      wpAny (model Challenge.rw_ij0133_01.row.prog w) A (call (.ref 766) [.str (Str.ofString "") tb0]) Q E s := by
  have hl0 : (((Str.ofString "").length : Int) != 0) = false := by decide +kernel
  have hl1 : (Str.ofString "").length ≤ 10000 := by decide +kernel
  refine wpAny_call ?_
  k_dflt (refine' code_defN ?k2 ?k3 ?k5 ?k6 ?k7 ?k8 ?k9 ?kB ?_ ?c2 ?c3 ?c4 ?c5; (case k2 => k_asm); (case k3 => k_asm); (case k5 => k_asm); (case k6 => k_is); (case k7 => k_is); (case k8 => omega); (case k9 => first | exact BindsTo.of_eq rfl | exact binds_K (by k_in) rfl (by k_is) rfl rfl rfl); (case c5 => decide); (case kB => exact locs rfl); (case c2 => exact rfl); (case c3 => exact rfl); (case c4 => exact rfl); intro g' L' h' F' N' X' T' G'; (try dsimp only); (try k_fold))
  (repeat' (first | ((with_reducible show LeaveN _ _ _); show Q _ _; exact hret _ _ _ (ctr_keep (by assumption) (by assumption))) | ((with_reducible refine consQ_next ?_)) | ((with_reducible refine consQ_ret ?_)) | ((with_reducible refine consQ_brk ?_)) | ((with_reducible refine consQ_cont ?_)) | (with_reducible ((with_reducible show wpAny _ _ (execs (_ :: _) _) _ _ _); (k_here; (try dsimp only); (try (refine gen_toks ?_; intro tk)); first | refine execs_one ?_ | refine execs_consQ ?_))) | ((with_reducible refine wpAny_execs_nil ?_)) | (with_reducible ((with_reducible show wpAny _ _ (exec (PySem.Stmt.If _ _ _ _) _) _ _ _); (refine wpAny_If ?_))) | (with_reducible ((with_reducible show wpAny _ _ (truthy (Value.str _ _)) _ _ _); (refine tr_fact (by with_reducible assumption) (by with_reducible assumption) ?_; intro _))) | (k_unfold; (try dsimp only)) | walk1 | (dsimp only; walk1) | (leave1; walk_say "STEP leave1"; try dsimp only) | fail "no step"))
end
section
open Builtin Builtin.Str
/-- z in place of every c -/
noncomputable def sub1 (c : Nat) (z : List Nat) (l : List Nat) : List Nat := l.flatMap fun k => if k = c then z else [k]
theorem sub1_append (c : Nat) (z a b : List Nat) : sub1 c z (a ++ b) = sub1 c z a ++ sub1 c z b := by simp [sub1]
theorem sub1_free (c : Nat) (z : List Nat) : ∀ l : List Nat, c ∉ l → sub1 c z l = l
  | [], _ => rfl
  | k :: r, h => by
    have h1 : ¬ k = c := fun e => h (e ▸ List.mem_cons_self ..)
    have h2 : c ∉ r := fun m => h (List.mem_cons_of_mem _ m)
    have := sub1_free c z r h2
    unfold sub1 at this ⊢
    rw [List.flatMap_cons, if_neg h1, this]
    rfl
theorem sub1_join (c : Nat) (z : Str) : ∀ parts : List Str, (∀ p ∈ parts, c ∉ p.cps.toList) → sub1 c z.cps.toList (Str.join ⟨#[c]⟩ parts).cps.toList = (Str.join z parts).cps.toList
  | [], _ => rfl
  | [p], h => sub1_free c _ _ (h p (List.mem_singleton.mpr rfl))
  | p :: q :: r, h => by
    have ih := sub1_join c z (q :: r) fun a ha => h a (List.mem_cons_of_mem _ ha)
    show sub1 c z.cps.toList (p ++ ⟨#[c]⟩ ++ Str.join ⟨#[c]⟩ (q :: r)).cps.toList = (p ++ z ++ Str.join z (q :: r)).cps.toList
    simp only [Str.cps_append, Array.toList_append]
    rw [sub1_append, sub1_append, ih, sub1_free c _ _ (h p (List.mem_cons_self ..))]
    have e : sub1 c z.cps.toList [c] = z.cps.toList := by simp [sub1]
    show p.cps.toList ++ sub1 c z.cps.toList [c] ++ _ = _
    rw [e]
theorem replace_sub1 (x z : Str) (c : Nat) : (Txt.replace x ⟨#[c]⟩ z).cps.toList = sub1 c z.cps.toList x.cps.toList := by
  rw [StrLaws.replace_one, ← sub1_join c z _ (StrLaws.split_free x c), StrLaws.join_split]
theorem sub1_len (c : Nat) (z : List Nat) (hz : 1 ≤ z.length) : ∀ l : List Nat, (sub1 c z l).length ≤ z.length * l.length
  | [] => by simp [sub1]
  | k :: r => by
    have ih := sub1_len c z hz r
    unfold sub1 at ih ⊢
    rw [List.flatMap_cons, List.length_append, List.length_cons, Nat.mul_succ]
    by_cases h : k = c
    · rw [if_pos h]; omega
    · rw [if_neg h]; simp only [List.length_cons, List.length_nil]; omega
theorem replace_quote (l : List Nat) : Txt.replace (S l) (Str.ofString "'") (Str.ofString "'\"'\"'") = S (sub1 39 [39, 34, 39, 34, 39] l) := by
  have e : (Str.ofString "'\"'\"'") = S [39, 34, 39, 34, 39] := by decide +kernel
  rw [ofString_sq, e]
  have h := replace_sub1 (S l) (S [39, 34, 39, 34, 39]) 39
  have h2 : (Txt.replace (S l) ⟨#[39]⟩ (S [39, 34, 39, 34, 39])).cps.toList = sub1 39 [39, 34, 39, 34, 39] l := h
  have h3 := congrArg S h2
  rw [S_toList] at h3
  exact h3
theorem quoted_S (l : List Nat) : quoted (S l) = S (39 :: sub1 39 [39, 34, 39, 34, 39] l ++ [39]) := by
  unfold quoted
  rw [replace_quote, ofString_sq, S_append, S_append]
  rfl
end
/-- what quote makes of a text -/
noncomputable def qt (l : List Nat) : List Nat := if l = [] then [39, 39] else if l.all safeC then l else 39 :: sub1 39 [39, 34, 39, 34, 39] l ++ [39]
section
variable {w : World} {vw : Program} {loose : List Str} {mean : ExcName → Option Value} {mg mb : Str → Option Value}
theorem quote_S {l : List Nat} {tb0 : Tok} (hbl : l.length ≤ 10000)
  (A : Around) (h₀ : Heap) (L : Addr) (m : Str → Option Value) (s : Shared) (Q E : Value → Shared → Prop) (F : Fr h₀ L s.heap m) (X : (Mine.K w.params).In h₀) (T : Top vw loose mean mg mb h₀) (hd : A.depth + 5 < recursionLimit)
  (hret : ∀ (u : Tok) (h' : Heap) (tk' : Nat), (∀ b o, s.heap.get? b = some o → h'.get? b = some o) → Q (.str (S (qt l)) u) { s with heap := h', toks := tk' }) :
      wpAny (model Challenge.rw_ij0133_01.row.prog w) A (call (.ref 766) [.str (S l) tb0]) Q E s := by
  by_cases h : l = []
  · subst h
    have e : S [] = Str.ofString "" := ofString_nil.symm
    have e2 : Str.ofString "''" = S (qt []) := by decide +kernel
    rw [e]
    refine quote_nil A h₀ L m s Q E F X T hd fun u h' tk' k => ?_
    rw [e2]
    exact hret u h' tk' k
  · have hlen : (S l).length = l.length := S_length l
    have hpos : 0 < l.length := List.length_pos_iff.mpr h
    refine quote_more (by rw [hlen]; exact hbl) ?_ (by rw [hlen]; exact hpos) (s_lenT h) A h₀ L m s Q E F X T hd fun v h' tk' k hh => ?_
    · rw [replace_quote, S_length]
      have := sub1_len 39 [39, 34, 39, 34, 39] (by decide) l
      simp only [List.length_cons, List.length_nil] at this
      omega
    · obtain ⟨r, t, rfl, hr⟩ := hh.out
      have e : r = S (qt l) := by
        unfold qt
        rw [if_neg h]
        rcases hr with ⟨ha, rfl⟩ | ⟨ha, rfl⟩
        · rw [if_pos (List.all_eq_true.mpr ha)]
        · rw [if_neg (fun q => ha (List.all_eq_true.mp q)), quoted_S]
      rw [e]
      exact hret t h' tk' k
end
/-- the code's table of inner codes -/
noncomputable abbrev tabObj (ps : Array Value) : Obj := { cls := .none, data := .fields ps }
noncomputable def CodeTab (h : Heap) (c P : Addr) (ps : Array Value) : Prop := h.IsCode c P ps ∧ h.TableAt c P ps
theorem CodeTab.keeps {h h' : Heap} {c P : Addr} {ps : Array Value} (x : CodeTab h c P ps) (k : ∀ b o, h.get? b = some o → h'.get? b = some o) : CodeTab h' c P ps := ⟨x.1.keeps k, x.2.keeps k⟩
section
variable {M : Model} {A : Around} {E : Value → Shared → Prop} {s : Shared}
theorem code_found {env : Env} {c P : Addr} {ps : Array Value} {pos : Pos} {qualname : Str} {scope : Scope} {cv : Value} {Q : Value → Shared → Prop} (hc : env.code = .ref c) (hok : s.heap.IsCode c P ps) (hf : codeAmong pos ps.toList = some cv) (hQ : Q cv s) :
    wpAny M A (genexprCode env pos qualname scope) Q E s := by
  obtain ⟨o, vs, file, tf, flags, tg, inF, text, tt, op, ho, hd, h11, h2, h7, h9, h10, hop, hpd, htr, hne⟩ := id hok
  unfold genexprCode codeAt
  rw [hc, if_neg (show ¬ ((Value.ref c == Value.none) = true) from Bool.false_ne_true)]
  refine wpAny_bind (wpAny_fieldsOf ho hd ?_)
  rw [h11]
  refine wpAny_bind (wpAny_fieldsOf hop hpd ?_)
  rw [hf]
  exact wpAny_pure hQ
theorem code_any {env : Env} {c P : Addr} {ps : Array Value} {pos : Pos} {qualname : Str} {scope : Scope} {Q : Value → Shared → Prop} (hc : env.code = .ref c) (hok : CodeTab s.heap c P ps)
    (hQ : ∀ cv h' tk ps', Heap.ExtBut P s.heap h' → s.heap.objs.size ≤ h'.objs.size → CodeTab h' c P ps' → Q cv { s with heap := h', toks := tk }) :
    wpAny M A (genexprCode env pos qualname scope) Q E s := by
  cases hf : codeAmong pos ps.toList with
  | some cv => exact code_found hc hok.1 hf (hQ cv s.heap s.toks ps (fun _ _ _ e => e) (Nat.le_refl _) hok)
  | none => exact wpAny_genexprCodeX hc hok.1 hok.2 hf fun c' h' tk hx hge hlt hcode _ htab _ => hQ _ _ _ _ hx (Nat.le_trans hge (Nat.le_of_lt hlt)) ⟨hcode, htab⟩
end
section
variable {prog : Program} {w : World} {A : Around} {E : Value → Shared → Prop} {s : Shared} {c P : Addr}
noncomputable def JnAt (prog : Program) (w : World) (A : Around) (c P : Addr) (env : Env) (scope : Scope) (elt : PySem.Expr) (x : Str) (Q : Value → Shared → Prop) (xv : Value) (s₁ : Shared) : Prop :=
  ∃ (l : Addr) (items : Array Value) (F : Nat → Value → Prop) (ps : Array Value) (bm : Addr) (ob : Obj) (mg : Str → Option Value), xv = .ref l ∧ s₁.heap.IsList l items ∧ CodeTab s₁.heap c P ps ∧ BMod s₁.heap env.globals mg bm ob ∧ AllBare s₁.gens ∧ s₁.heap.NoLimit ∧
      (∀ (code : Value) (C : Addr) (A' : Around) E' i v (t : Shared) m₂, A'.handled = none → A'.depth ≤ A.depth + 1 → A'.units ≤ A.units + 8 → items[i]? = some v → t.heap.Ns C m₂ → m₂ x = some v → s₁.heap.objs.size ≤ C →
        (∀ b o, b ≠ P → s₁.heap.get? b = some o → t.heap.get? b = some o) → wpAny (model prog w) A' (eval elt (genEnv scope [] C code builtinsNs env)) (fun y s₃ => F i y ∧ Keeps t s₃) E' t) ∧
      (∀ a (s₅ : Shared) ps', AllBare s₅.gens → s₅.os = s₁.os → CodeTab s₅.heap c P ps' → (∀ b o, b ≠ P → s₁.heap.get? b = some o → s₅.heap.get? b = some o) → Gen prog w A (s₁.heap.objs.size - 1) a items.size F s₅ → Q (.ref a) s₅)
theorem pass_all (n : Nat) : passing (fun _ => true) n 0 = List.range n := by simp [passing]
theorem jn_make {env : Env} {elt iter : PySem.Expr} {x : Str} {px : Pos} {scope : Scope} {pos : Pos} {Q : Value → Shared → Prop}
    (hcode : env.code = .ref c) (hh : A.handled = none) (hco : scope.isCoroutine = false) (hclos : closureFor scope env = pure []) (hcell : ∀ y ∈ scope.names, y.2 ≠ .cell) (h0 : scope.names.lookup (".0" : Str) = some NameKind.local)
    (hx : scope.names.lookup x = some .local) (hkind : scope.kind = .function) (hroom : A.depth < recursionLimit)
    (h : wpAny (model prog w) A (eval iter env) (JnAt prog w A c P env scope elt x Q) E s)
    (hs : ∀ x, genFold iter env x = pure x) :
    wpAny (model prog w) A (eval (.GeneratorExp elt [⟨.Name x px, iter, [], 0⟩] scope pos) env) Q E s := by
  refine wpAny_GeneratorExp_walksQD hh hco hclos hcell h0 hx hkind hroom (wpAny_mono h (fun xv s₁ h₁' => ?_) fun _ _ e => e) hs
  obtain ⟨l, items, F, ps, bm, ob, mg, rfl, hl, CT, BM, AB, hlim, helt, hQ⟩ := h₁'
  have hlt : l < s₁.heap.objs.size := by obtain ⟨_, e, _⟩ := hl; exact Heap.lt_size e
  have hPlt : P < s₁.heap.objs.size := Heap.lt_size CT.2.2
  have hlP : l ≠ P := fun e => by
    obtain ⟨o, ho, hc, _⟩ := hl
    rw [e, CT.2.2] at ho; cases ho; exact absurd hc (by simp)
  have hcP : cStatics ≠ P := fun e => by
    obtain ⟨_, hns, _⟩ := hlim
    obtain ⟨o, es, ep, ho, hd, _⟩ := hns
    rw [e, CT.2.2] at ho; cases ho; cases hd
  have hclt : cStatics < s₁.heap.objs.size := let ⟨_, hn, _⟩ := hlim; hn.lt
  refine wpAny_pyIter_list hl ⟨hlim.push _, code_any hcode (CT.keeps fun _ _ e => Heap.get?_push_of_some _ e) fun cv h₃ tk₃ ps' hx₃ hsz CT₃ => ?_⟩
  have hsz₂ : (s₁.heap.push { cls := .type "list_iterator", data := .fields #[.ref l, .int 0 0] }).objs.size = s₁.heap.objs.size + 1 := Heap.size_push _ _
  have hsz' : s₁.heap.objs.size + 1 ≤ h₃.objs.size := by rw [← hsz₂]; exact hsz
  have M₃ : BMod h₃ env.globals mg bm ob := (BM.keeps fun _ _ e => Heap.get?_push_of_some _ e).extBut (CT.2.keeps fun _ _ e => Heap.get?_push_of_some _ e) hx₃
  have hl₃ : h₃.NoLimit := (hlim.push _).extBut hx₃ hcP
  refine wpAny_builtinsFor M₃.ns M₃.name M₃.ne M₃.obj M₃.cls M₃.dict M₃.data ?_
  have up : ∀ b o, b ≠ P → s₁.heap.get? b = some o → h₃.get? b = some o := fun b o hb e => hx₃ b o hb (Heap.get?_push_of_some _ e)
  refine ⟨s₁.heap.objs.size, [s₁.heap.objs.size, l], [s₁.heap.objs.size], items.size, _, _, fun _ => true, F, rfl, (fun A' hA => Walks.list hA _ _ (Nat.ne_of_lt hlt) items), ⟨⟨_, hx₃ _ _ (fun e => Nat.lt_irrefl _ (e ▸ hPlt)) (Heap.get?_push_size _ rfl), rfl, rfl⟩, ?_⟩, ?_, hl₃, ?_, (fun href hhref => ⟨?_, ?_⟩), fun a h₅ tk gs hgb hag hsz₅ hk₅ W hat => ?_⟩
  · obtain ⟨o, ho, r⟩ := hl
    exact ⟨o, up _ _ hlP ho, r⟩
  · intro b hb
    simp only [List.mem_cons, List.not_mem_nil, or_false] at hb
    show b < h₃.objs.size
    rcases hb with e | e
    · rw [e]; exact hsz'
    · rw [e]; exact Nat.lt_of_lt_of_le (Nat.lt_succ_of_lt hlt) hsz'
  · intro hm
    simp only [List.mem_cons, List.not_mem_nil, or_false] at hm
    exact Nat.lt_irrefl _ (hm ▸ hclt)
  · intro A' E' i v t m₂ hA hD hU hP hn hm hkp
    show wpAny _ _ (pure true) _ _ _
    exact wpAny_pure ⟨rfl, t.heap, t.toks, rfl, fun _ _ e => e⟩
  · intro A' E' i v t m₂ hA hD hU hP hp hn hm hkp
    refine helt cv _ A' E' i v t m₂ hA hD hU hP hn hm (by show _ ≤ h₃.objs.size; omega) fun b o hbP e => hkp b (List.mem_range.mpr (Heap.lt_size (up b o hbP e))) (fun hmem => ?_) o (hhref b o (up b o hbP e))
    simp only [List.mem_cons, List.not_mem_nil, or_false] at hmem
    exact Nat.lt_irrefl _ (hmem ▸ Heap.lt_size e)
  · refine hQ a _ ps' (AB.push hgb) rfl (CT₃.keeps hk₅) (fun b o hb e => hk₅ b o (up b o hb e)) ?_
    rw [pass_all] at W
    have hlen : (List.range items.size).length = items.size := List.length_range
    rw [hlen] at W
    have X : Gen prog w A (s₁.heap.objs.size - 1) a items.size (fun j y => ∃ i, (List.range items.size)[j]? = some i ∧ F i y) _ := ⟨_, _, _, _, W, hat, (fun i s' st => st.1.typeIs), List.mem_cons_self, ?_, ?_⟩
    · refine X.imp fun j y hy => ?_
      obtain ⟨i, hi, hF⟩ := hy
      have : i = j := by
        rw [List.getElem?_range] at hi
        · exact (Option.some.inj hi).symm
        · exact (List.getElem?_eq_some_iff.mp hi).1 |> fun h => by simpa using h
      exact this ▸ hF
    · intro b hb
      show b < h₅.objs.size
      rw [hsz₅]
      rcases List.mem_cons.mp hb with rfl | hb
      · exact Nat.lt_succ_self _
      · rcases List.mem_cons.mp hb with rfl | hb
        · exact Nat.lt_succ_of_lt hag
        · exact Nat.lt_succ_of_lt (Nat.lt_trans (List.mem_range.mp hb) hag)
    · intro b hb
      have hpos : 0 < s₁.heap.objs.size := Nat.lt_of_le_of_lt (Nat.zero_le _) hlt
      rcases List.mem_cons.mp hb with e | hb
      · rw [e]
        exact Nat.lt_of_le_of_lt (Nat.sub_le _ _) hsz'
      · simp only [List.mem_cons, List.not_mem_nil, or_false] at hb
        rw [hb]
        exact Nat.sub_lt hpos Nat.one_pos
end
/-- what _is_private tells -/
noncomputable def privT (o n : Str) : Bool := decide (((((Str.ofString "_").length + o.length + (Str.ofString "__").length : Nat)) : Int) < (n.length : Int)) && (Txt.startswith n (Str.ofString "_" ++ o ++ Str.ofString "__") && ((Txt.item n (-1) != Str.ofString "_") || (Txt.item n (-2) != Str.ofString "_")))
/-- what _law_hidden gives back -/
noncomputable def hidT (o n : Str) : Str := if ((Txt.slice n none (some 2) == Str.ofString "__") && (Txt.slice n (some (-2)) none != Str.ofString "__")) = true then Str.ofString "_" ++ o ++ n else n
section
variable {o n : Str} {t : Tok}
theorem pv1 (h1 : ((((Str.ofString "_").length + o.length + (Str.ofString "__").length : Nat)) : Int) < (n.length : Int)) (h2 : Txt.startswith n (Str.ofString "_" ++ o ++ Str.ofString "__") = true) (h3 : (Txt.item n (-1) != Str.ofString "_") = true) : Hold (Value.bool true = .bool (privT o n)) :=
  Hold.mk (by unfold privT; rw [decide_eq_true h1, h2, h3]; rfl)
theorem pv2 (h1 : ((((Str.ofString "_").length + o.length + (Str.ofString "__").length : Nat)) : Int) < (n.length : Int)) (h2 : Txt.startswith n (Str.ofString "_" ++ o ++ Str.ofString "__") = true) (h3 : (Txt.item n (-1) != Str.ofString "_") = false) (h4 : (Txt.item n (-2) != Str.ofString "_") = true) : Hold (Value.bool true = .bool (privT o n)) :=
  Hold.mk (by unfold privT; rw [decide_eq_true h1, h2, h3, h4]; rfl)
theorem pv3 (h1 : ((((Str.ofString "_").length + o.length + (Str.ofString "__").length : Nat)) : Int) < (n.length : Int)) (h2 : Txt.startswith n (Str.ofString "_" ++ o ++ Str.ofString "__") = true) (h3 : (Txt.item n (-1) != Str.ofString "_") = false) (h4 : (Txt.item n (-2) != Str.ofString "_") = false) : Hold (Value.bool false = .bool (privT o n)) :=
  Hold.mk (by unfold privT; rw [decide_eq_true h1, h2, h3, h4]; rfl)
theorem pv4 (h1 : ((((Str.ofString "_").length + o.length + (Str.ofString "__").length : Nat)) : Int) < (n.length : Int)) (h2 : Txt.startswith n (Str.ofString "_" ++ o ++ Str.ofString "__") = false) : Hold (Value.bool false = .bool (privT o n)) :=
  Hold.mk (by unfold privT; rw [decide_eq_true h1, h2]; rfl)
theorem pv5 (h1 : ¬ ((((Str.ofString "_").length + o.length + (Str.ofString "__").length : Nat)) : Int) < (n.length : Int)) : Hold (Value.bool false = .bool (privT o n)) :=
  Hold.mk (by unfold privT; rw [decide_eq_false h1]; rfl)
theorem hd1 (h1 : (Txt.slice n none (some 2) == Str.ofString "__") = true) (h2 : (Txt.slice n (some (-2)) none != Str.ofString "__") = true) : Hold (∃ u, Value.str (Str.ofString "_" ++ o ++ n) t = .str (hidT o n) u) :=
  Hold.mk ⟨t, by unfold hidT; rw [h1, h2]; rfl⟩
theorem hd2 (h1 : (Txt.slice n none (some 2) == Str.ofString "__") = true) (h2 : (Txt.slice n (some (-2)) none != Str.ofString "__") = false) : Hold (∃ u, Value.str n t = .str (hidT o n) u) :=
  Hold.mk ⟨t, by unfold hidT; rw [h1, h2]; rfl⟩
theorem hd3 (h1 : (Txt.slice n none (some 2) == Str.ofString "__") = false) : Hold (∃ u, Value.str n t = .str (hidT o n) u) :=
  Hold.mk ⟨t, by unfold hidT; rw [h1]; rfl⟩
end
/-- the classes' names -/
noncomputable def clsL : List (List Nat) := [[], [97], [95], [97, 32, 98], [97, 95, 95, 120], [105, 116, 39, 115], [95, 97], [36]]
noncomputable def opL : List (List Nat) := [[], [95], [95, 95], [95, 97], [95, 105, 116, 39, 115], [95, 95, 97], [98, 97]]
noncomputable def miL : List (List Nat) := [[], [95, 95], [120], [95, 95, 120], [97, 32, 98]]
noncomputable def enL : List (List Nat) := [[], [95], [95, 95]]
/-- the names that a body may bear -/
noncomputable def nameL : List (List Nat) := opL.flatMap fun o => miL.flatMap fun m => enL.map fun e => o ++ m ++ e
theorem tab_in {l : List Str} {M : List (List Nat)} (n : Nat) (hm : (n : Int) ≠ 0) (h : ∀ k < n, ∃ t ∈ M, l.getD k Str.empty = S t) (x : Int) : ∃ t ∈ M, l.getD (x.fmod n).toNat Str.empty = S t :=
  h _ (by have h1 := Int.fmod_nonneg_of_pos x (b := (n : Int)) (by omega); have h2 := Int.fmod_lt_of_pos x (b := (n : Int)) (by omega); omega)
theorem tab_dec {l : List Str} {M : List (List Nat)} (n : Nat) (h : (List.range n).all (fun k => M.any fun t => l.getD k Str.empty == S t) = true) : ∀ k < n, ∃ t ∈ M, l.getD k Str.empty = S t := fun k hk => by
  have h1 := List.all_eq_true.mp h k (List.mem_range.mpr hk)
  obtain ⟨t, ht, e⟩ := List.any_eq_true.mp h1
  exact ⟨t, ht, eq_of_beq e⟩
theorem cls_end {u : Tok} (x : Int) : Hold (∃ t ∈ clsL, ∃ u', Value.str ([Str.ofString "", Str.ofString "a", Str.ofString "_", Str.ofString "a b", Str.ofString "a__x", Str.ofString "it's", Str.ofString "_a", Str.ofString "$"].getD (x.fmod 8).toNat Str.empty) u = .str (S t) u') := by
  obtain ⟨t, ht, e⟩ := tab_in (l := [Str.ofString "", Str.ofString "a", Str.ofString "_", Str.ofString "a b", Str.ofString "a__x", Str.ofString "it's", Str.ofString "_a", Str.ofString "$"]) (M := clsL) 8 (by decide) (tab_dec 8 (by decide +kernel)) x
  exact Hold.mk ⟨t, ht, u, congrArg (fun z => Value.str z u) e⟩
theorem name_end {u : Tok} (x y z : Int) : Hold (∃ t ∈ nameL, ∃ u', Value.str ([Str.ofString "", Str.ofString "_", Str.ofString "__", Str.ofString "_a", Str.ofString "_it's", Str.ofString "__a", Str.ofString "ba"].getD (x.fmod 7).toNat Str.empty ++ [Str.ofString "", Str.ofString "__", Str.ofString "x", Str.ofString "__x", Str.ofString "a b"].getD (y.fmod 5).toNat Str.empty ++ [Str.ofString "", Str.ofString "_", Str.ofString "__"].getD (z.fmod 3).toNat Str.empty) u = .str (S t) u') := by
  obtain ⟨t1, h1, e1⟩ := tab_in (l := [Str.ofString "", Str.ofString "_", Str.ofString "__", Str.ofString "_a", Str.ofString "_it's", Str.ofString "__a", Str.ofString "ba"]) (M := opL) 7 (by decide) (tab_dec 7 (by decide +kernel)) x
  obtain ⟨t2, h2, e2⟩ := tab_in (l := [Str.ofString "", Str.ofString "__", Str.ofString "x", Str.ofString "__x", Str.ofString "a b"]) (M := miL) 5 (by decide) (tab_dec 5 (by decide +kernel)) y
  obtain ⟨t3, h3, e3⟩ := tab_in (l := [Str.ofString "", Str.ofString "_", Str.ofString "__"]) (M := enL) 3 (by decide) (tab_dec 3 (by decide +kernel)) z
  refine Hold.mk ⟨t1 ++ t2 ++ t3, ?_, u, congrArg (fun z => Value.str z u) ?_⟩
  · exact List.mem_flatMap.mpr ⟨t1, h1, List.mem_flatMap.mpr ⟨t2, h2, List.mem_map.mpr ⟨t3, h3, rfl⟩⟩⟩
  · have f1 : [Str.ofString "", Str.ofString "_", Str.ofString "__", Str.ofString "_a", Str.ofString "_it's", Str.ofString "__a", Str.ofString "ba"].getD (x.fmod 7).toNat Str.empty = S t1 := e1
    have f2 : [Str.ofString "", Str.ofString "__", Str.ofString "x", Str.ofString "__x", Str.ofString "a b"].getD (y.fmod 5).toNat Str.empty = S t2 := e2
    have f3 : [Str.ofString "", Str.ofString "_", Str.ofString "__"].getD (z.fmod 3).toNat Str.empty = S t3 := e3
    rw [f1, f2, f3, S_append, S_append]
section
variable {w : World} {vw : Program} {loose : List Str} {mean : ExcName → Option Value} {mg mb : Str → Option Value}
theorem is_private (o n : Str) (t1 t2 : Tok) (ho : o.length ≤ 100000) (hn : n.length ≤ 100000) : Ctr w vw loose mean mg mb 51 [.str o t1, .str n t2] 5 40 (fun _ v _ => Hold (v = .bool (privT o n))) := by
  intro dp un gd cn cs a ccd cl outer A₀ base h₀ L m s Q E B F X T hk hd hu hret
  have N : News h₀ L s.heap [] := News.nil
  cases cs; dsimp only at hk; subst hk
  refine wpAny_call ?_
  k_dflt cell_enter
  (repeat' (first | ((with_reducible show Q _ _); refine hret _ _ _ (ctr_keep (by assumption) (by assumption)) ?_) | ((with_reducible refine consQ_next ?_)) | ((with_reducible refine consQ_ret ?_)) | ((with_reducible refine consQ_brk ?_)) | ((with_reducible refine consQ_cont ?_)) | (with_reducible ((with_reducible show wpAny _ _ (execs (_ :: _) _) _ _ _); (k_here; (try dsimp only); (try (refine gen_toks ?_; intro tk)); first | refine execs_one ?_ | refine execs_consQ ?_))) | ((with_reducible refine wpAny_execs_nil ?_)) | (with_reducible ((with_reducible show wpAny _ _ (exec (PySem.Stmt.If _ _ _ _) _) _ _ _); (refine wpAny_If ?_))) | (k_unfold; (try dsimp only)) | walk1 | (dsimp only; walk1) | (leave1; walk_say "STEP leave1"; try dsimp only) | fail "no step"))
  all_goals (first | exact pv1 (by assumption) (by assumption) (by assumption) | exact pv2 (by assumption) (by assumption) (by assumption) (by assumption) | exact pv3 (by assumption) (by assumption) (by assumption) (by assumption) | exact pv4 (by assumption) (by assumption) | exact pv5 (by assumption))
theorem law_hidden (o n : Str) (t1 t2 : Tok) (ho : o.length ≤ 1000) (hn : n.length ≤ 1000) : Ctr w vw loose mean mg mb 787 [.str o t1, .str n t2] 5 40 (fun _ v _ => Hold (∃ t, v = .str (hidT o n) t)) := by
  intro dp un gd cn cs a ccd cl outer A₀ base h₀ L m s Q E B F X T hk hd hu hret
  have N : News h₀ L s.heap [] := News.nil
  cases cs; dsimp only at hk; subst hk
  refine wpAny_call ?_
  k_dflt cell_enter
  (repeat' (first | ((with_reducible show Q _ _); refine hret _ _ _ (ctr_keep (by assumption) (by assumption)) ?_) | ((with_reducible refine consQ_next ?_)) | ((with_reducible refine consQ_ret ?_)) | ((with_reducible refine consQ_brk ?_)) | ((with_reducible refine consQ_cont ?_)) | (with_reducible ((with_reducible show wpAny _ _ (execs (_ :: _) _) _ _ _); (k_here; (try dsimp only); (try (refine gen_toks ?_; intro tk)); first | refine execs_one ?_ | refine execs_consQ ?_))) | ((with_reducible refine wpAny_execs_nil ?_)) | (with_reducible ((with_reducible show wpAny _ _ (exec (PySem.Stmt.If _ _ _ _) _) _ _ _); (refine wpAny_If ?_))) | (k_unfold; (try dsimp only)) | walk1 | (dsimp only; walk1) | (leave1; walk_say "STEP leave1"; try dsimp only) | fail "no step"))
  all_goals (first | exact hd1 (by assumption) (by assumption) | exact hd2 (by assumption) (by assumption) | exact hd3 (by assumption))
theorem law_class (x : Int) (t1 : Tok) : Ctr w vw loose mean mg mb 773 [.int x t1] 5 40 (fun _ v _ => Hold (∃ t ∈ clsL, ∃ u, v = .str (S t) u)) := by
  intro dp un gd cn cs a ccd cl outer A₀ base h₀ L m s Q E B F X T hk hd hu hret
  have N : News h₀ L s.heap [] := News.nil
  cases cs; dsimp only at hk; subst hk
  refine wpAny_call ?_
  k_dflt cell_enter
  k_with "table" => skip
  (repeat' (first | ((with_reducible show Q _ _); refine hret _ _ _ (ctr_keep (by assumption) (by assumption)) (cls_end _)) | ((with_reducible refine consQ_next ?_)) | ((with_reducible refine consQ_ret ?_)) | ((with_reducible refine consQ_brk ?_)) | ((with_reducible refine consQ_cont ?_)) | (with_reducible ((with_reducible show wpAny _ _ (execs (_ :: _) _) _ _ _); (k_here; (try dsimp only); (try (refine gen_toks ?_; intro tk)); first | refine execs_one ?_ | refine execs_consQ ?_))) | ((with_reducible refine wpAny_execs_nil ?_)) | (with_reducible ((with_reducible show wpAny _ _ (exec (PySem.Stmt.If _ _ _ _) _) _ _ _); (refine wpAny_If ?_))) | (k_unfold; (try dsimp only)) | walk1 | (dsimp only; walk1) | (leave1; walk_say "STEP leave1"; try dsimp only) | fail "no step"))
theorem law_name (x : Int) (t1 : Tok) : Ctr w vw loose mean mg mb 780 [.int x t1] 5 40 (fun _ v _ => Hold (∃ t ∈ nameL, ∃ u, v = .str (S t) u)) := by
  intro dp un gd cn cs a ccd cl outer A₀ base h₀ L m s Q E B F X T hk hd hu hret
  have N : News h₀ L s.heap [] := News.nil
  cases cs; dsimp only at hk; subst hk
  refine wpAny_call ?_
  k_dflt cell_enter
  k_with "table" => skip
  (repeat' (first | ((with_reducible show Q _ _); refine hret _ _ _ (ctr_keep (by assumption) (by assumption)) (name_end _ _ _)) | ((with_reducible refine consQ_next ?_)) | ((with_reducible refine consQ_ret ?_)) | ((with_reducible refine consQ_brk ?_)) | ((with_reducible refine consQ_cont ?_)) | (with_reducible ((with_reducible show wpAny _ _ (execs (_ :: _) _) _ _ _); (k_here; (try dsimp only); (try (refine gen_toks ?_; intro tk)); first | refine execs_one ?_ | refine execs_consQ ?_))) | ((with_reducible refine wpAny_execs_nil ?_)) | (with_reducible ((with_reducible show wpAny _ _ (exec (PySem.Stmt.If _ _ _ _) _) _ _ _); (refine wpAny_If ?_))) | (k_unfold; (try dsimp only)) | walk1 | (dsimp only; walk1) | (leave1; walk_say "STEP leave1"; try dsimp only) | fail "no step"))
end
/-- texts with a blank between -/
noncomputable def joinL : List (List Nat) → List Nat
  | [] => []
  | [a] => a
  | a :: b :: r => a ++ 32 :: joinL (b :: r)
theorem joinL_S : ∀ l : List (List Nat), Txt.join (Str.ofString " ") (l.map S) = S (joinL l) := by
  have e : Str.ofString " " = S [32] := ofString_sp
  have key : ∀ l : List (List Nat), Str.join (S [32]) (l.map S) = S (joinL l) := by
    intro l
    induction l with
    | nil => rfl
    | cons a r ih =>
      cases r with
      | nil => rfl
      | cons b r =>
        show S a ++ S [32] ++ Str.join (S [32]) ((b :: r).map S) = _
        rw [ih, S_append, S_append]
        simp [joinL]
  intro l
  rw [e]
  have h : (Txt.join (S [32]) (l.map S) == Str.join (S [32]) (l.map S)) = true := join_closes rfl
  rw [eq_of_beq h, key]
theorem joinL_len : ∀ l : List (List Nat), (joinL l).length ≤ (l.map (fun t => t.length + 1)).sum
  | [] => by simp [joinL]
  | [a] => by simp [joinL]
  | a :: b :: r => by
    have ih := joinL_len (b :: r)
    simp only [joinL, List.length_append, List.length_cons, List.map_cons, List.sum_cons] at ih ⊢
    omega
theorem CodeTab.keep2 {h h' : Heap} {c P : Addr} {ps : Array Value} (x : CodeTab h c P ps) (k1 : ∀ o, h.get? c = some o → h'.get? c = some o) (k2 : ∀ o, h.get? P = some o → h'.get? P = some o) : CodeTab h' c P ps := by
  obtain ⟨⟨o, vs, file, tf, flags, tg, inF, text, tt, op, a1, r1, r2, r3, r4, r5, r6, b1, r⟩, ⟨o', vs', c1, c2⟩, d⟩ := x
  exact ⟨⟨o, vs, file, tf, flags, tg, inF, text, tt, op, k1 _ a1, r1, r2, r3, r4, r5, r6, k2 _ b1, r⟩, ⟨o', vs', k1 _ c1, c2⟩, k2 _ d⟩
theorem Strs.get : ∀ {vs : List Value} {ts : List (List Nat)}, Strs vs ts → ∀ (i : Nat) (v : Value), vs[i]? = some v → ∃ t k, ts[i]? = some t ∧ v = .str (S t) k
  | _, _, .nil, i, v, e => by simp at e
  | _, _, .cons (t := t) (k := k) h, 0, v, e => by simp at e; exact ⟨t, k, rfl, e.symm⟩
  | _, _, .cons h, i + 1, v, e => by simpa using h.get i v (by simpa using e)
theorem Strs.len {vs : List Value} {ts : List (List Nat)} (h : Strs vs ts) : vs.length = ts.length := by
  induction h with
  | nil => rfl
  | cons _ ih => simp [ih]
theorem jn_map (ts : List (List Nat)) : (List.range ts.length).map (fun j => S (qt (ts.getD j []))) = (ts.map qt).map S := by
  apply List.ext_getElem?
  intro j
  by_cases h : j < ts.length
  · simp [h]
  · simp [h]
theorem jn_len (ts : List (List Nat)) : ts.length ≤ (ts.map fun t => (qt t).length + 1).sum := by
  induction ts with
  | nil => simp
  | cons a r ih => simp only [List.length_cons, List.map_cons, List.sum_cons]; omega
theorem jn_fold (k : Nat) : ∀ (l : List Str) (n : Nat), l.foldl (fun a t => a + t.length + k) n = n + (l.map (fun t => t.length + k)).sum
  | [], n => by simp
  | a :: r, n => by
    simp only [List.foldl_cons, List.map_cons, List.sum_cons]
    rw [jn_fold k r]
    omega
theorem jn_ok {ts : List (List Nat)} (h : (ts.map fun t => (qt t).length + 1).sum ≤ 16000000) : JoinOk (Str.ofString " ") ((List.range ts.length).map (fun j => S (qt (ts.getD j [])))) = true := by
  have e1 : (Str.ofString " ").length = 1 := by decide +kernel
  have e : (((ts.map qt).map S).map (fun t : Str => t.length + 1)) = ts.map fun t => (qt t).length + 1 := by
    simp [S_length]
  rw [jn_map]
  unfold JoinOk
  rw [e1, List.foldl_toArray, jn_fold, e]
  have h3 : ¬ (0 + (ts.map fun t => (qt t).length + 1).sum > sizeLine) := by
    have : sizeLine = 16777216 := rfl
    omega
  have h4 : Builtin.Str.tooLong (0 + (ts.map fun t => (qt t).length + 1).sum) = false := decide_eq_false h3
  rw [h4]
  rfl
/-- join's words: the i-th -/
noncomputable def JnF (ts : List (List Nat)) (i : Nat) (y : Value) : Prop := ∃ t u, ts[i]? = some t ∧ y = .str (S (qt t)) u
theorem jn_at {prog : Program} {w : World} {A : Around} {env : Env} {scope : Scope} {elt : PySem.Expr} {x : Str} {Q : Value → Shared → Prop} {s : Shared} {vw : Program} {loose : List Str} {mean : ExcName → Option Value} {mg mb : Str → Option Value}
    {g h : Heap} {L : Addr} {m : Str → Option Value} {ps : Array Value} {l : Addr} {items : Array Value} {cc : Nat} {ts : List (List Nat)} {K : Frag} (SS : Strs items.toList ts)
    (F : Fr g L s.heap m) (X : K.In g) (T : Top vw loose mean mg mb g) (N : News g L s.heap [(753, tabObj ps)]) (G : GSub h g [753]) (CT : CodeTab h 757 753 ps) (hl : h.get? l = some (listOf items cc)) (AB : AllBare s.gens) (hg : env.globals = mainGlobals)
    (helt : ∀ (code : Value) (C : Addr) (A' : Around) E' i (tx : List Nat) (k : Tok) (t : Shared) (m₂ : Str → Option Value), A'.depth ≤ A.depth + 1 → A'.units ≤ A.units + 8 → ts[i]? = some tx → Fr g C t.heap (fun y => if y = x then some (.str (S tx) k) else m₂ y) →
       wpAny (model prog w) A' (eval elt (genEnv scope [] C code builtinsNs env)) (fun y s₃ => JnF ts i y ∧ Keeps t s₃) E' t)
    (hfin : ∀ a (s₅ : Shared) ps', AllBare s₅.gens → s₅.os = s.os → CodeTab s₅.heap 757 753 ps' → Fr g L s₅.heap m → News g L s₅.heap [(753, tabObj ps')] → (∀ b o, b ≠ 753 → h.get? b = some o → s₅.heap.get? b = some o ∧ b ≤ s.heap.objs.size - 1) → L ≤ s.heap.objs.size - 1 → 753 ≤ s.heap.objs.size - 1 → Gen prog w A (s.heap.objs.size - 1) a ts.length (JnF ts) s₅ → Q (.ref a) s₅) :
    JnAt prog w A 757 753 env scope elt x Q (.ref l) s := by
  obtain ⟨bm, ob, BM⟩ := bmod_of_top T
  have h753 := N (753, tabObj ps) (.head _)
  have keepg : ∀ b o, b ≠ 753 → h.get? b = some o → s.heap.get? b = some o := fun b o hb e => F.keep b o (G b o e (by simpa using hb))
  have hl753 : l ≠ 753 := fun e => by
    have := CT.2.2
    rw [← e, hl] at this; cases this
  have CT' : CodeTab s.heap 757 753 ps := CT.keep2 (fun o e => keepg _ _ (by decide) e) (fun o e => by rw [CT.2.2] at e; cases e; exact h753.1)
  have hlen : items.size = ts.length := by have := SS.len; simpa using this
  refine ⟨l, items, JnF ts, ps, bm, ob, mg, rfl, ⟨_, keepg _ _ hl753 hl, rfl, _, rfl⟩, CT', by rw [hg]; exact BM.keeps F.keep, AB, T.nolimit.keeps F.keep, ?_, ?_⟩
  · intro code C A' E' i v t m₂ hA hD hU hv hns hm hC hk
    obtain ⟨tx, k, e1, rfl⟩ := SS.get i v (by simpa using hv)
    refine helt code C A' E' i tx k t m₂ hD hU e1 ⟨?_, fun b o e => hk b o (fun z => ?_) (F.keep b o e), Nat.le_trans F.above (Nat.le_trans (Nat.le_of_lt F.ns.lt) hC)⟩
    · have e : (fun y => if y = x then some (.str (S tx) k) else m₂ y) = m₂ := by
        funext y
        by_cases hy : y = x
        · rw [if_pos hy, hy, hm]
        · rw [if_neg hy]
      rw [e]
      exact hns
    · rw [z, h753.2.2] at e; cases e
  · intro a s₅ ps' AB5 os5 CT5 keep5 gen5
    have hL : L ≠ 753 := fun e => h753.2.1 e.symm
    obtain ⟨oL, es, ep, hLg, r⟩ := F.ns
    refine hfin a s₅ ps' AB5 os5 CT5 ⟨⟨oL, es, ep, keep5 _ _ hL hLg, r⟩, fun b o e => keep5 b o (fun z => ?_) (F.keep b o e), F.above⟩ (fun q hq => ?_) (fun b o hb e => ⟨keep5 b o hb (keepg b o hb e), ?_⟩) ?_ ?_ (hlen ▸ gen5)
    · rw [z, h753.2.2] at e; cases e
    · simp only [List.mem_cons, List.not_mem_nil, or_false] at hq
      subst hq
      exact ⟨CT5.2.2, h753.2⟩
    · have := Heap.lt_size (keepg b o hb e); exact Nat.le_sub_one_of_lt this
    · exact Nat.le_sub_one_of_lt F.ns.lt
    · exact Nat.le_sub_one_of_lt (Heap.lt_size h753.1)
section
variable {w : World} {vw : Program} {loose : List Str} {mean : ExcName → Option Value} {mg mb : Str → Option Value}
theorem join_in {ps : Array Value} {l : Addr} {items : Array Value} {cc : Nat} {ts : List (List Nat)} (SS : Strs items.toList ts) (hts : ∀ t ∈ ts, t.length ≤ 10000) (htot : (ts.map fun t => (qt t).length + 1).sum ≤ 16000000)
    {dp un : Nat} {gd : Option (List Code)} {cn : Str} {cs' : Scope} {a : Addr} {ccd : Value} {cl : List (Str × Addr)} {outer : List Env} {A₀ : Around} {base h₀ : Heap} {L : Addr} {m : Str → Option Value} {s : Shared} {Q E : Value → Shared → Prop}
    (B : Below A₀ base outer h₀) (F : Fr h₀ L s.heap m) (X : (Mine.K w.params).In h₀) (T₀ : Top vw loose mean mg mb h₀) (hk : cs'.kind = .function)
    (hd : dp + 40 < recursionLimit) (hu : un + 400 < cLine)
    (hl : s.heap.get? l = some (listOf items cc)) (CT : CodeTab s.heap 757 753 ps) (N : News h₀ L s.heap [(753, tabObj ps)]) (AB : AllBare s.gens)
    (hret : ∀ (u : Tok) (s' : Shared) ps', AllBare s'.gens → s'.os = s.os → (∀ b o, b ≠ 753 → s.heap.get? b = some o → s'.heap.get? b = some o) → CodeTab s'.heap 757 753 ps' → Q (.str (S (joinL (ts.map qt))) u) s') :
      wpAny (model Challenge.rw_ij0133_01.row.prog w) (ktrTop dp un gd cn cs' L a ccd cl outer) (call (.ref 758) [.ref l]) Q E s := by
  cases cs'; dsimp only at hk; subst hk
  refine wpAny_call ?_
  k_dflt cell_enter
  (repeat' (first | ((with_reducible show JnAt _ _ _ _ _ _ _ _ _ _ _ _); fail "JnAt") | ((with_reducible refine consQ_next ?_)) | ((with_reducible refine consQ_ret ?_)) | ((with_reducible refine consQ_brk ?_)) | ((with_reducible refine consQ_cont ?_)) | (with_reducible ((with_reducible show wpAny _ _ (execs (_ :: _) _) _ _ _); (k_here; (try dsimp only); (try (refine gen_toks ?_; intro tk)); first | refine execs_one ?_ | refine execs_consQ ?_))) | ((with_reducible refine wpAny_execs_nil ?_)) | (((with_reducible show wpAny _ _ (eval (PySem.Expr.GeneratorExp _ _ _ _) _) _ _ _); (k_here; refine' jn_make (c := 757) (P := 753) ?hcodezq ?hhzq ?hcozq ?hcloszq ?hcellzq ?h0zq ?hxzq ?hkindzq ?hroomzq ?_ ?hszq; (case hcodezq | hhzq | hcozq | hcloszq => exact rfl); (case hcellzq => decide); (case h0zq | hxzq | hkindzq => exact rfl); (case hroomzq => k_room); (case hszq => intro _; exact rfl)))) | (((k_here; (with_reducible show wpAny _ _ (call (Value.ref 766) _ _) _ _ _); k_dflt (refine' quote_S ?qbzq _ _ _ _ _ _ _ ?qFzq ?qXzq ?qTzq ?qdzq ?_; (case qbzq => with_reducible assumption); (case qFzq | qXzq | qTzq => k_asm); (case qdzq => with_reducible assumption); k_whole; intro u' h' tk' kk'; (try k_sweep))))) | (with_reducible ((with_reducible show wpAny _ _ (exec (PySem.Stmt.If _ _ _ _) _) _ _ _); (refine wpAny_If ?_))) | (k_unfold; (try dsimp only)) | walk1 | (dsimp only; walk1) | (leave1; walk_say "STEP leave1"; try dsimp only) | fail "no step"))
  all_goals (refine jn_at SS (by assumption) (by assumption) (by assumption) (by assumption) (by assumption) CT hl AB rfl (fun code C A' E' i tx k t m₂ hA hU hi Fc => ?_) (fun a s₅ ps' AB5 os5 CT5 F5 N5 keep5 hLK hPK gen5 => ?_))
  · have hlen : tx.length ≤ 10000 := hts tx (List.mem_of_getElem? hi)
    have hA0 : A'.depth ≤ dp + 1 + 1 := hA
    have hA' : A'.depth + 5 < recursionLimit := by omega
    refine wpAny_Call_Name_kw ?_
    refine nameG_K (K := Mine.K w.params) Fc (by assumption) (topRead_of (by assumption)) (by k_is) ?_ rfl rfl rfl (by decide)
    refine callWith_K (h₀ := t.heap) (K := Mine.K w.params) (Frag.In.keeps (by assumption) Fc.keep) (by k_is) ?_
    refine spliced_more ?_
    refine ldVarG Fc (if_pos rfl) ?_
    refine spliced_none ⟨Frag.In.keeps (by assumption) Fc.keep, ?_⟩
    exact quote_S hlen _ _ _ _ _ _ _ Fc (by assumption) (by assumption) hA' fun u h' tk' kk => ⟨⟨tx, u, hi, rfl⟩, h', tk', rfl, kk⟩
  · (repeat' (first | ((with_reducible show wpAny _ _ (call (Value.builtin "str.join") _ _) _ _ _); refine join_rowsK F5 AB5 gen5 hLK (fun j => S (qt (ts.getD j []))) (fun j v hv => by obtain ⟨t, u, e1, rfl⟩ := hv; exact ⟨u, by simp [List.getD_eq_getElem?_getD, e1]⟩) (jn_ok htot) (fun s' t' F6 AB6 os6 keep6 => ?_) (by have := jn_len ts; show _ ≤ 2 ^ 24; omega)) | ((with_reducible refine consQ_next ?_)) | ((with_reducible refine consQ_ret ?_)) | ((with_reducible refine consQ_brk ?_)) | ((with_reducible refine consQ_cont ?_)) | (with_reducible ((with_reducible show wpAny _ _ (execs (_ :: _) _) _ _ _); (k_here; (try dsimp only); (try (refine gen_toks ?_; intro tk)); first | refine execs_one ?_ | refine execs_consQ ?_))) | ((with_reducible refine wpAny_execs_nil ?_)) | (((with_reducible show wpAny _ _ (eval (PySem.Expr.GeneratorExp _ _ _ _) _) _ _ _); (k_here; refine' jn_make (c := 757) (P := 753) ?hcodezq ?hhzq ?hcozq ?hcloszq ?hcellzq ?h0zq ?hxzq ?hkindzq ?hroomzq ?_ ?hszq; (case hcodezq | hhzq | hcozq | hcloszq => exact rfl); (case hcellzq => decide); (case h0zq | hxzq | hkindzq => exact rfl); (case hroomzq => k_room); (case hszq => intro _; exact rfl)))) | (((k_here; (with_reducible show wpAny _ _ (call (Value.ref 766) _ _) _ _ _); k_dflt (refine' quote_S ?qbzq _ _ _ _ _ _ _ ?qFzq ?qXzq ?qTzq ?qdzq ?_; (case qbzq => with_reducible assumption); (case qFzq | qXzq | qTzq => k_asm); (case qdzq => with_reducible assumption); k_whole; intro u' h' tk' kk'; (try k_sweep))))) | (with_reducible ((with_reducible show wpAny _ _ (exec (PySem.Stmt.If _ _ _ _) _) _ _ _); (refine wpAny_If ?_))) | (k_unfold; (try dsimp only)) | walk1 | (dsimp only; walk1) | (leave1; walk_say "STEP leave1"; try dsimp only) | fail "no step"))
    rw [jn_map, joinL_S]
    have N6 : News _ _ s'.heap [(753, tabObj ps')] := fun q hq => by
      have z := N5 q hq
      simp only [List.mem_cons, List.not_mem_nil, or_false] at hq
      subst hq
      exact ⟨keep6 _ _ hPK z.1, z.2⟩
    obtain ⟨o, vs, e757, r757⟩ := CT.2.1
    exact ⟨_, _, _, F6, N6, fun _ _ => hret t' s' ps' AB6 (os6.trans os5) (fun b o hb e => keep6 b o (keep5 b o hb e).2 (keep5 b o hb e).1) (CT5.keep2 (fun o e => keep6 _ _ (keep5 757 _ (by decide) e757).2 e) (fun o e => keep6 _ _ hPK e))⟩
end
section
variable {prog : Program} {w : World} {A : Around} {E : Value → Shared → Prop} {s : Shared} {env : Env}
/-- the invariant, nearer the end -/
noncomputable def LoopNext (n : Nat) (P : Nat → Shared → Prop) (s : Shared) : Prop := ∃ m, m < n ∧ P m s
/-- a for loop by an invariant: n runs down -/
theorem for_inv {v : Str} {px pos : Pos} {iter : PySem.Expr} {body : List Stmt} {Q : Flow → Shared → Prop} (Inv : Addr → Nat → Shared → Prop)
    (h : wpAny (model prog w) A (eval iter env) (fun xv s₁ => wpAny (model prog w) A (pyIter xv) (fun it s₂ => ∃ I n, it = .ref I ∧ Inv I n s₂) E s₁) E s)
    (turn : ∀ I n s', Inv I n s' → wpAny (model prog w) A (pyNext (.ref I)) (fun r s₁ => match r with
      | none => Q .next s₁
      | some y => wpAny (model prog w) A (storeName env v y) (fun _ s₂ => wpAny (model prog w) A (execs body env) (fun f s₃ => match f with
          | .next | .cont => LoopNext n (Inv I) s₃
          | .brk => Q .next s₃
          | .ret u => Q (.ret u) s₃) E s₂) E s₁) E s')
    (hs : ∀ x, foldedSetIterable iter env x = pure x := by intro _; rfl) (hE : PassesOwn (model prog w) A env E := by passes_own) :
    wpAny (model prog w) A (exec (.For (.Name v px) iter body [] pos) env) Q E s := by
  refine wpAny_For (wpAny_mono h (fun xv s₁ h₁ => wpAny_mono h₁ (fun it s₂ h₂ => ?_) fun _ _ z => z) fun _ _ z => z) hs
  obtain ⟨I, n, rfl, h₂⟩ := h₂
  refine codeAny_forLoop (R := fun r s' => match r with | .ok f => Q f s' | .error e => cameBackBy (model prog w) A env E e s') (fun k s' => Inv I k s') ?_ n h₂
  intro k s' hk
  refine wpAny_passesOwn hE (wpAny_mono (turn I k s' hk) (fun r s₁ hr => ?_) fun _ _ z => z)
  cases r with
  | none => exact wpAny_execs_nil hr
  | some y =>
    refine wpAny_passesOwn hE (wpAny_assign_Name (wpAny_mono hr (fun _ s₂ h₂ => ?_) fun _ _ z => z))
    refine wpAny_passesOwn hE (wpAny_mono h₂ (fun f s₃ h₃ => ?_) fun _ _ z => z)
    cases f with
    | next => exact h₃
    | cont => exact h₃
    | brk => exact h₃
    | ret _ => exact h₃
/-- a list's iterator, at i -/
noncomputable def IsIt (o : Obj) (l : Addr) (i : Nat) : Prop := o.cls = .type "list_iterator" ∧ o.data = .fields #[.ref l, .int i 0]
/-- a range's iterator -/
noncomputable abbrev rgObj (x left : Int) : Obj := { cls := .type "range_iterator", dict := none, data := .fields #[rawInt x, rawInt left, rawInt 1], slots := #[] }
section
variable {h₀ : Heap} {L : Addr} {m : Str → Option Value} {rest : List (Addr × Obj)} {I l : Addr} {o : Obj} {i : Nat} {items : Array Value}
theorem news_same {h h' : Heap} {news : List (Addr × Obj)} (N : News h₀ L h news) (k : Heap.SameBut I h h') (hne : ∀ p ∈ news, p.1 ≠ I) : News h₀ L h' news := fun p hp => ⟨(k.2 _ (hne p hp)).trans (N p hp).1, (N p hp).2⟩
theorem fr_same {h h' : Heap} (F : Fr h₀ L h m) (k : ∀ b o, b ≠ I → h.get? b = some o → h'.get? b = some o) (h1 : I ≠ L) (h2 : h₀.get? I = none) : Fr h₀ L h' m := by
  obtain ⟨oL, es, ep, hL, r⟩ := F.ns
  refine ⟨⟨oL, es, ep, k _ _ (Ne.symm h1) hL, r⟩, fun b o e => k b o (fun z => ?_) (F.keep b o e), F.above⟩
  rw [z, h2] at e; cases e
theorem it_next {x : Value} {Q : Option Value → Shared → Prop} (F : Fr h₀ L s.heap m) (N : News h₀ L s.heap ((I, o) :: rest)) (hne : ∀ p ∈ rest, p.1 ≠ I) (ho : IsIt o l i) (hl : s.heap.IsList l items) (hx : items[i]? = some x)
    (hQ : ∀ h' o', Fr h₀ L h' m → News h₀ L h' ((I, o') :: rest) → IsIt o' l (i + 1) → h'.IsList l items → Q (some x) { s with heap := h' }) : wpAny (model prog w) A (pyNext (.ref I)) Q E s := by
  have z := N (I, o) (.head _)
  have hlI : l ≠ I := fun e => by
    obtain ⟨o2, h2, hc, _⟩ := hl
    rw [e, z.1] at h2
    cases h2
    rw [ho.1] at hc
    exact absurd hc (by decide)
  refine wpAny_pyNext_list_item ⟨o, z.1, ho.1, ho.2⟩ hl hx fun h' hit hsb => ?_
  obtain ⟨o', ho', hc', hd'⟩ := hit
  have F' := fr_same F (fun b o hb e => (hsb.2 b hb).trans e) z.2.1 z.2.2
  refine hQ h' o' F' (fun p hp => ?_) ⟨hc', hd'⟩ ?_
  · rcases List.mem_cons.mp hp with rfl | hp
    · exact ⟨ho', z.2⟩
    · exact ⟨(hsb.2 _ (hne p hp)).trans (N p (.tail _ hp)).1, (N p (.tail _ hp)).2⟩
  · obtain ⟨o2, h2, r⟩ := hl
    exact ⟨o2, (hsb.2 _ hlI).trans h2, r⟩
theorem it_end {Q : Option Value → Shared → Prop} (hh : A.handled = none) (F : Fr h₀ L s.heap m) (N : News h₀ L s.heap ((I, o) :: rest)) (hne : ∀ p ∈ rest, p.1 ≠ I) (ho : IsIt o l i) (hl : s.heap.IsList l items) (hx : items[i]? = none)
    (hQ : ∀ h', Fr h₀ L h' m → News h₀ L h' rest → Q none { s with heap := h' }) : wpAny (model prog w) A (pyNext (.ref I)) Q E s := by
  have z := N (I, o) (.head _)
  refine wpAny_pyNext_list_end hh ⟨o, z.1, ho.1, ho.2⟩ hl hx fun h' hx' => ?_
  exact hQ h' (fr_same F (fun b o hb e => hx' b o hb e) z.2.1 z.2.2) fun p hp => ⟨hx' _ _ (hne p hp) (N p (.tail _ hp)).1, (N p (.tail _ hp)).2⟩
theorem it_start {Q : Value → Shared → Prop} (F : Fr h₀ L s.heap m) (N : News h₀ L s.heap rest) (hl : s.heap.IsList l items)
    (hQ : ∀ I o h', Fr h₀ L h' m → News h₀ L h' ((I, o) :: rest) → (∀ p ∈ rest, p.1 < I) → IsIt o l 0 → h'.IsList l items → Q (.ref I) { s with heap := h' }) : wpAny (model prog w) A (pyIter (.ref l)) Q E s :=
  wpAny_pyIter_list hl (hQ _ _ _ (F.push _) (N.push F _) (fun p hp => Heap.lt_size (N p hp).1) ⟨rfl, rfl⟩ (by obtain ⟨o2, h2, r⟩ := hl; exact ⟨o2, Heap.get?_push_of_some _ h2, r⟩))
theorem rg_next {x left : Int} {Q : Option Value → Shared → Prop} (F : Fr h₀ L s.heap m) (N : News h₀ L s.heap ((I, rgObj x left) :: rest)) (hne : ∀ p ∈ rest, p.1 ≠ I) (hleft : 0 < left)
    (hQ : ∀ h' t tk, Fr h₀ L h' m → News h₀ L h' ((I, rgObj (x + 1) (left - 1)) :: rest) → Q (some (.int x t)) { s with heap := h', toks := tk }) : wpAny (model prog w) A (pyNext (.ref I)) Q E s := by
  have z := N (I, rgObj x left) (.head _)
  refine wpAny_pyNext_range_item z.1 hleft fun h' hit hsb => ?_
  refine hQ h' _ _ (fr_same F (fun b o hb e => (hsb.2 b hb).trans e) z.2.1 z.2.2) fun p hp => ?_
  rcases List.mem_cons.mp hp with rfl | hp
  · exact ⟨hit, z.2⟩
  · exact ⟨(hsb.2 _ (hne p hp)).trans (N p (.tail _ hp)).1, (N p (.tail _ hp)).2⟩
theorem rg_end {x left : Int} {Q : Option Value → Shared → Prop} (hh : A.handled = none) (F : Fr h₀ L s.heap m) (N : News h₀ L s.heap ((I, rgObj x left) :: rest)) (hne : ∀ p ∈ rest, p.1 ≠ I) (hleft : left ≤ 0)
    (hQ : ∀ h', Fr h₀ L h' m → News h₀ L h' rest → Q none { s with heap := h' }) : wpAny (model prog w) A (pyNext (.ref I)) Q E s := by
  have z := N (I, rgObj x left) (.head _)
  refine wpAny_pyNext_range_end hh z.1 hleft fun h' hx' => ?_
  exact hQ h' (fr_same F (fun b o hb e => hx' b o hb e) z.2.1 z.2.2) fun p hp => ⟨hx' _ _ (hne p hp) (N p (.tail _ hp)).1, (N p (.tail _ hp)).2⟩
theorem rg_start {r : Addr} {a b : Int} {t u v : Tok} {Q : Value → Shared → Prop} (F : Fr h₀ L s.heap m) (N : News h₀ L s.heap rest) (hr : IsRange s.heap r a b 1 t u v) (hs : Builtin.Range.small a b 1 = true)
    (hQ : ∀ I h', Fr h₀ L h' m → News h₀ L h' ((I, rgObj a (Builtin.Range.rangeSize a b 1)) :: rest) → (∀ p ∈ rest, p.1 < I) → Q (.ref I) { s with heap := h' }) : wpAny (model prog w) A (pyIter (.ref r)) Q E s :=
  wpAny_pyIter_range hr hs (hQ _ _ (F.push _) (N.push F _) fun p hp => Heap.lt_size (N p hp).1)
end
end
section
variable {w : World} {vw : Program} {loose : List Str} {mean : ExcName → Option Value} {mg mb : Str → Option Value}
theorem ctr_use {f : Addr} {vs : List Value} {d u : Nat} {P : Heap → Value → Heap → Prop} (C : Ctr w vw loose mean mg mb f vs d u P)
    {dp un : Nat} {gd : Option (List Code)} {cn : Str} {cs : Scope} {a : Addr} {ccd : Value} {cl : List (Str × Addr)} {outer : List Env} {A₀ : Around} {base h₀ : Heap} {L : Addr} {m : Str → Option Value} {s : Shared} {Q E : Value → Shared → Prop} {news : List (Addr × Obj)}
    (B : Below A₀ base outer h₀) (F : Fr h₀ L s.heap m) (N : News h₀ L s.heap news) (X : (Mine.K w.params).In h₀) (T : Top vw loose mean mg mb h₀) (hk : cs.kind = .function) (hd : dp + d < recursionLimit) (hu : un + u < cLine)
    (h : ∀ v h' tk', Fr h₀ L h' m → News h₀ L h' news → P s.heap v h' → Q v { s with heap := h', toks := tk' }) :
      wpAny (model Challenge.rw_ij0133_01.row.prog w) (ktrTop dp un gd cn cs L a ccd cl outer) (call (.ref f) vs) Q E s :=
  C dp un gd cn cs a ccd cl outer A₀ base h₀ L m s Q E B F X T hk hd hu fun v h' tk' k p => h v h' tk' (F.keeps k) (fun q hq => ⟨k _ _ (N q hq).1, (N q hq).2⟩) p
/-- a frame's names, one of them in sight -/
theorem fr_put {h₀ h : Heap} {L : Addr} {m : Str → Option Value} {x : Str} {v : Value} (F : Fr h₀ L h m) (e : m x = some v) : Fr h₀ L h (fun y => if y = x then some v else m y) := by
  have : (fun y => if y = x then some v else m y) = m := by
    funext y
    by_cases hy : y = x
    · rw [if_pos hy, hy, e]
    · rw [if_neg hy]
  rw [this]
  exact F
theorem put_eq {m : Str → Option Value} {x : Str} {v : Value} (e : m x = some v) : (fun y => if y = x then some v else m y) = m := by
  funext y
  by_cases hy : y = x
  · rw [if_pos hy, hy, e]
  · rw [if_neg hy]
theorem fr_put3 {h₀ h : Heap} {L : Addr} {m : Str → Option Value} {x1 x2 x3 : Str} {v1 v2 v3 : Value} (F : Fr h₀ L h m) (e1 : m x1 = some v1) (e2 : m x2 = some v2) (e3 : m x3 = some v3) :
    Fr h₀ L h (fun y => if y = x1 then some v1 else if y = x2 then some v2 else if y = x3 then some v3 else m y) := by
  have h : (fun y => if y = x1 then some v1 else if y = x2 then some v2 else if y = x3 then some v3 else m y) = m := by
    funext y
    by_cases h1 : y = x1
    · rw [if_pos h1, h1, e1]
    · rw [if_neg h1]
      by_cases h2 : y = x2
      · rw [if_pos h2, h2, e2]
      · rw [if_neg h2]
        by_cases h3 : y = x3
        · rw [if_pos h3, h3, e3]
        · rw [if_neg h3]
  rw [h]
  exact F
end
/-- hidden, over signs -/
noncomputable def hid (o n : List Nat) : List Nat := if n.take 2 = [95, 95] ∧ n.drop (n.length - 2) ≠ [95, 95] then 95 :: o ++ n else n
theorem ofString_us : Str.ofString "_" = S [95] := by decide +kernel
theorem ofString_uu : Str.ofString "__" = S [95, 95] := by decide +kernel
theorem hidT_S (o n : List Nat) : hidT (S o) (S n) = S (hid o n) := by
  unfold hidT hid
  have e1 : Txt.slice (S n) none (some 2) = S (n.take 2) := slice_take n 2
  have e2 : Txt.slice (S n) (some (-2)) none = S (n.drop (n.length - 2)) := slice_last n 2 (by decide)
  rw [e1, e2, ofString_uu, S_beq, bne, S_beq, ofString_us, S_append, S_append]
  by_cases h1 : n.take 2 = [95, 95]
  · by_cases h2 : n.drop (n.length - 2) = [95, 95]
    · simp [h1, h2]
    · simp [h1, h2]
  · simp [h1]
theorem hid_len (o n : List Nat) : (hid o n).length ≤ 1 + o.length + n.length := by
  unfold hid
  split
  · simp; omega
  · omega
/-- the tails that, hidden, are the name: among the first c -/
noncomputable def tailsUp (o n : List Nat) : Nat → List (List Nat)
  | 0 => []
  | j + 1 => tailsUp o n j ++ (if hid o (n.drop (j + 1)) = n then [n.drop (j + 1)] else [])
theorem tailsUp_len (o n : List Nat) : ∀ c, (tailsUp o n c).length ≤ c
  | 0 => Nat.le_refl _
  | c + 1 => by
    have ih := tailsUp_len o n c
    unfold tailsUp
    rw [List.length_append]
    split <;> simp <;> omega
noncomputable def tails (o n : List Nat) : List (List Nat) := tailsUp o n (n.length - 1)
noncomputable def TlInv {g h : Heap} {L D : Addr} {m : Str → Option Value} {c0 : Nat} (_F : Fr g L h m) (_N : News g L h [(D, listOf #[] c0)]) (s : Shared) (o n : List Nat) (t1 t2 : Tok) : Addr → Nat → Shared → Prop := fun I left s' =>
  ∃ (c : Nat) (acc : Array Value) (cc : Nat) (m' : Str → Option Value) (h' : Heap) (tk' : Nat), s' = { s with heap := h', toks := tk' } ∧ c + left = n.length - 1 ∧ Strs acc.toList (tailsUp o n c) ∧ Fr g L h' m' ∧
    News g L h' [(I, rgObj ((c + 1 : Nat) : Int) (left : Nat)), (D, listOf acc cc)] ∧ @LT.lt Nat _ D I ∧ m' (Str.ofString "tails") = some (.ref D) ∧ m' (Str.ofString "owner") = some (.str (S o) t1) ∧ m' (Str.ofString "hidden") = some (.str (S n) t2)
theorem tl_size (n : Nat) (hn : n ≤ 1000) : Builtin.Range.rangeSize 1 (n : Int) 1 = ((n - 1 : Nat) : Int) := by
  unfold Builtin.Range.rangeSize
  simp only [show ((1 : Int) > 0) = True by simp, if_true]
  split <;> omega
theorem tl_endY {g h h' : Heap} {L D I : Addr} {m m' : Str → Option Value} {c0 cc' : Nat} {FF : Fr g L h m} {NN : News g L h [(D, listOf #[] c0)]} {s : Shared} {o n : List Nat} {t1 t2 t : Tok} {c left tk : Nat} {acc : Array Value}
    (e : (hidT (S o) (Txt.slice (S n) (some ((c + 1 : Nat) : Int)) none) == S n) = true) (hc : c + (left + 1) = n.length - 1) (SS : Strs acc.toList (tailsUp o n c)) (F : Fr g L h' m')
    (N : News g L h' [(I, rgObj (((c + 1 : Nat) : Int) + 1) (((left + 1 : Nat) : Int) - 1)), (D, listOf (acc.push (.str (Txt.slice (S n) (some ((c + 1 : Nat) : Int)) none) t)) cc')]) (hDI : @LT.lt Nat _ D I)
    (m1 : m' (Str.ofString "tails") = some (.ref D)) (m2 : m' (Str.ofString "owner") = some (.str (S o) t1)) (m3 : m' (Str.ofString "hidden") = some (.str (S n) t2)) :
    LoopNext (left + 1) (TlInv FF NN s o n t1 t2 I) { s with heap := h', toks := tk } := by
  have e1 : Txt.slice (S n) (some ((c + 1 : Nat) : Int)) none = S (n.drop (c + 1)) := slice_from n (c + 1) (by omega)
  rw [e1, hidT_S, S_beq, decide_eq_true_eq] at e
  rw [e1] at N
  refine ⟨left, Nat.lt_succ_self _, c + 1, acc.push (.str (S (n.drop (c + 1))) t), cc', m', h', tk, rfl, by omega, ?_, F, ?_, hDI, m1, m2, m3⟩
  · rw [Array.toList_push]
    unfold tailsUp
    rw [if_pos e]
    exact SS.snoc _ _
  · have e3 : (((left + 1 : Nat) : Int) - 1) = (left : Nat) := by omega
    rw [e3] at N
    exact N
theorem tl_endN {g h h' : Heap} {L D I : Addr} {m m' : Str → Option Value} {c0 cc : Nat} {FF : Fr g L h m} {NN : News g L h [(D, listOf #[] c0)]} {s : Shared} {o n : List Nat} {t1 t2 : Tok} {c left tk : Nat} {acc : Array Value}
    (e : (hidT (S o) (Txt.slice (S n) (some ((c + 1 : Nat) : Int)) none) == S n) = false) (hc : c + (left + 1) = n.length - 1) (SS : Strs acc.toList (tailsUp o n c)) (F : Fr g L h' m')
    (N : News g L h' [(I, rgObj (((c + 1 : Nat) : Int) + 1) (((left + 1 : Nat) : Int) - 1)), (D, listOf acc cc)]) (hDI : @LT.lt Nat _ D I)
    (m1 : m' (Str.ofString "tails") = some (.ref D)) (m2 : m' (Str.ofString "owner") = some (.str (S o) t1)) (m3 : m' (Str.ofString "hidden") = some (.str (S n) t2)) :
    LoopNext (left + 1) (TlInv FF NN s o n t1 t2 I) { s with heap := h', toks := tk } := by
  have e1 : Txt.slice (S n) (some ((c + 1 : Nat) : Int)) none = S (n.drop (c + 1)) := slice_from n (c + 1) (by omega)
  rw [e1, hidT_S, S_beq, decide_eq_false_iff_not] at e
  refine ⟨left, Nat.lt_succ_self _, c + 1, acc, cc, m', h', tk, rfl, by omega, ?_, F, ?_, hDI, m1, m2, m3⟩
  · unfold tailsUp
    rw [if_neg e, List.append_nil]
    exact SS
  · have e3 : (((left + 1 : Nat) : Int) - 1) = (left : Nat) := by omega
    rw [e3] at N
    exact N
theorem new_fresh {h g h' : Heap} {L' D : Addr} {o : Obj} (G : GSub h g []) (N : News g L' h' [(D, o)]) : h.get? D = none := by
  cases e : h.get? D with
  | none => rfl
  | some o' =>
    have := (N (D, o) (.head _)).2.2
    rw [G D o' e (by simp)] at this
    cases this
section
variable {w : World} {vw : Program} {loose : List Str} {mean : ExcName → Option Value} {mg mb : Str → Option Value}
theorem law_tails (o n : List Nat) (t1 t2 : Tok) (ho : (S o).length ≤ 1000) (hn : (S n).length ≤ 1000) : Ctr w vw loose mean mg mb 794 [.str (S o) t1, .str (S n) t2] 10 140 (fun h v h' => Hold (∃ D acc c, v = .ref D ∧ h.get? D = none ∧ h'.get? D = some (listOf acc c) ∧ Strs acc.toList (tails o n))) := by
  intro dp un gd cn cs a ccd cl outer A₀ base h₀ L m s Q E B F X T hk hd hu hret
  have N : News h₀ L s.heap [] := News.nil
  cases cs; dsimp only at hk; subst hk
  refine wpAny_call ?_
  k_dflt cell_enter
  (repeat' (first | ((with_reducible show wpAny _ _ (exec (Stmt.For _ _ _ _ _) _) _ _ _); (rename Fr _ _ _ _ => FF); (rename News _ _ _ _ => NN); refine for_inv (TlInv FF NN s o n t1 t2) ?_ ?_) | ((with_reducible show ∀ _ _ _, _); fail) | ((with_reducible show wpAny _ _ (pyIter _) _ _ _); fail) | ((with_reducible refine consQ_next ?_)) | ((with_reducible refine consQ_ret ?_)) | ((with_reducible refine consQ_brk ?_)) | ((with_reducible refine consQ_cont ?_)) | (with_reducible ((with_reducible show wpAny _ _ (execs (_ :: _) _) _ _ _); (k_here; (try dsimp only); (try (refine gen_toks ?_; intro tk)); first | refine execs_one ?_ | refine execs_consQ ?_))) | ((with_reducible refine wpAny_execs_nil ?_)) | (((k_here; (with_reducible show wpAny _ _ (call (Value.ref 787) _ _) _ _ _); k_dflt (refine' ctr_use (law_hidden _ _ _ _ ?lozq ?lnzq) ?Bzq ?Fzq ?Nzq ?Xzq ?Tzq ?hkzq ?hdzq ?huzq ?_; (case lozq | lnzq => with_reducible assumption); (case Bzq | Fzq | Nzq | Xzq | Tzq => k_asm); (case hkzq => first | exact rfl | assumption); (case hdzq => k_room); (case huzq => k_units); k_whole; intro v' h' tk' F' N' hh'; obtain ⟨t', e'⟩ := hh'.out; subst e'; (try k_sweep))))) | (((k_here; (with_reducible show wpAny _ _ (call (Value.builtin _) [Value.ref _, _]) _ _ _); k_dflt (refine' append_K ?k1zq ?k2zq ?k3zq ?_ ?zzq; (case k1zq | k2zq => k_asm); (case k3zq => k_upd); (case zzq => with_reducible assumption); k_whole); intro h' F' N'; (try k_sweep)))) | (with_reducible ((with_reducible show wpAny _ _ (exec (PySem.Stmt.If _ _ _ _) _) _ _ _); (refine wpAny_If ?_))) | (k_unfold; (try dsimp only)) | walk1 | (dsimp only; walk1) | (leave1; walk_say "STEP leave1"; try dsimp only) | fail "no step"))
  · (rename Fr _ _ _ _ => FR); (rename News _ _ _ _ => NR)
    have e : (S n).length = n.length := S_length n
    refine rg_start FR NR (by assumption) ?_ fun I h' F' N' l1 => ?_
    · rw [e]
      have h1 : n.length ≤ 1000 := by omega
      unfold Builtin.Range.small
      rw [tl_size _ h1]
      unfold Builtin.Range.rangeFitsLong
      simp only [Bool.and_eq_true, Bool.or_eq_true, decide_eq_true_eq]
      refine ⟨⟨⟨⟨by omega, by omega⟩, by omega⟩, by omega⟩, .inr ?_⟩
      rw [if_pos (by omega)]
      simp only [Bool.and_eq_true, decide_eq_true_eq]
      omega
    · rw [e, tl_size _ (by omega)] at N'
      exact ⟨I, n.length - 1, rfl, 0, #[], 0, _, h', _, rfl, by omega, .nil, F', N', l1 _ (.head _), rfl, rfl, rfl⟩
  · rename_i I left s' hI
    obtain ⟨c, acc, cc, m', h', tk', rfl, hc, SS, F', N', hDI, m1, m2, m3⟩ := hI
    have F' := fr_put3 F' m1 m2 m3
    cases left with
    | zero =>
      refine rg_end rfl F' N' (fun p hp => ?_) (Int.le_refl _) fun h2 F2 N2 => ?_
      · simp only [List.mem_cons, List.not_mem_nil, or_false] at hp
        subst hp
        exact neN (by omega)
      · dsimp only
        have hcl : c = n.length - 1 := by omega
        subst hcl
        (repeat' (first | ((with_reducible show Q _ _); refine hret _ _ _ (ctr_keep (by assumption) (by assumption)) (Hold.mk ⟨_, acc, cc, rfl, new_fresh (by assumption) N2, News.get (by assumption) (.head _), SS⟩)) | ((with_reducible refine consQ_next ?_)) | ((with_reducible refine consQ_ret ?_)) | ((with_reducible refine consQ_brk ?_)) | ((with_reducible refine consQ_cont ?_)) | (with_reducible ((with_reducible show wpAny _ _ (execs (_ :: _) _) _ _ _); (k_here; (try dsimp only); (try (refine gen_toks ?_; intro tk)); first | refine execs_one ?_ | refine execs_consQ ?_))) | ((with_reducible refine wpAny_execs_nil ?_)) | (((k_here; (with_reducible show wpAny _ _ (call (Value.ref 787) _ _) _ _ _); k_dflt (refine' ctr_use (law_hidden _ _ _ _ ?lozq ?lnzq) ?Bzq ?Fzq ?Nzq ?Xzq ?Tzq ?hkzq ?hdzq ?huzq ?_; (case lozq | lnzq => with_reducible assumption); (case Bzq | Fzq | Nzq | Xzq | Tzq => k_asm); (case hkzq => first | exact rfl | assumption); (case hdzq => k_room); (case huzq => k_units); k_whole; intro v' h' tk' F' N' hh'; obtain ⟨t', e'⟩ := hh'.out; subst e'; (try k_sweep))))) | (((k_here; (with_reducible show wpAny _ _ (call (Value.builtin _) [Value.ref _, _]) _ _ _); k_dflt (refine' append_K ?k1zq ?k2zq ?k3zq ?_ ?zzq; (case k1zq | k2zq => k_asm); (case k3zq => k_upd); (case zzq => with_reducible assumption); k_whole); intro h' F' N'; (try k_sweep)))) | (with_reducible ((with_reducible show wpAny _ _ (exec (PySem.Stmt.If _ _ _ _) _) _ _ _); (refine wpAny_If ?_))) | (k_unfold; (try dsimp only)) | walk1 | (dsimp only; walk1) | (leave1; walk_say "STEP leave1"; try dsimp only) | fail "no step"))
    | succ left =>
      have hsl : (Txt.slice (S n) (some ((c + 1 : Nat) : Int)) none).length ≤ 1000 := by
        have e : (S n).length = n.length := S_length n
        rw [slice_from n (c + 1) (by omega), S_length, List.length_drop]
        omega
      have hsz : acc.size ≤ sizeLine := by
        have h1 : acc.size = (tailsUp o n c).length := by have := SS.len; simpa using this
        have h2 := tailsUp_len o n c
        have e : (S n).length = n.length := S_length n
        have h3 : sizeLine = 16777216 := rfl
        omega
      refine rg_next F' N' (fun p hp => ?_) (by omega) fun h2 t tk2 F2 N2 => ?_
      · simp only [List.mem_cons, List.not_mem_nil, or_false] at hp
        subst hp
        exact neN (by omega)
      · dsimp only
        (repeat' (first | ((with_reducible refine consQ_next ?_)) | ((with_reducible refine consQ_ret ?_)) | ((with_reducible refine consQ_brk ?_)) | ((with_reducible refine consQ_cont ?_)) | (with_reducible ((with_reducible show wpAny _ _ (execs (_ :: _) _) _ _ _); (k_here; (try dsimp only); (try (refine gen_toks ?_; intro tk)); first | refine execs_one ?_ | refine execs_consQ ?_))) | ((with_reducible refine wpAny_execs_nil ?_)) | (((k_here; (with_reducible show wpAny _ _ (call (Value.ref 787) _ _) _ _ _); k_dflt (refine' ctr_use (law_hidden _ _ _ _ ?lozq ?lnzq) ?Bzq ?Fzq ?Nzq ?Xzq ?Tzq ?hkzq ?hdzq ?huzq ?_; (case lozq | lnzq => with_reducible assumption); (case Bzq | Fzq | Nzq | Xzq | Tzq => k_asm); (case hkzq => first | exact rfl | assumption); (case hdzq => k_room); (case huzq => k_units); k_whole; intro v' h' tk' F' N' hh'; obtain ⟨t', e'⟩ := hh'.out; subst e'; (try k_sweep))))) | (((k_here; (with_reducible show wpAny _ _ (call (Value.builtin _) [Value.ref _, _]) _ _ _); k_dflt (refine' append_K ?k1zq ?k2zq ?k3zq ?_ ?zzq; (case k1zq | k2zq => k_asm); (case k3zq => k_upd); (case zzq => with_reducible assumption); k_whole); intro h' F' N'; (try k_sweep)))) | (with_reducible ((with_reducible show wpAny _ _ (exec (PySem.Stmt.If _ _ _ _) _) _ _ _); (refine wpAny_If ?_))) | (k_unfold; (try dsimp only)) | walk1 | (dsimp only; walk1) | (leave1; walk_say "STEP leave1"; try dsimp only) | fail "no step"))
        all_goals first | exact tl_endN (by with_reducible assumption) hc SS (by assumption) (by assumption) hDI rfl rfl rfl | exact tl_endY (by with_reducible assumption) hc SS (by assumption) (by assumption) hDI rfl rfl rfl
end
/-- the signs of all the law's texts -/
noncomputable def sig : List Nat := [97, 98, 120, 121, 95, 105, 116, 115, 39, 32, 36, 34]
theorem sig_safe : ∀ c ∈ sig, safeC c = true → okW c = true := by decide +kernel
theorem sig_q : ∀ c ∈ sig, c ≠ 39 → okQ c = true := by decide +kernel
noncomputable def InSig (t : List Nat) : Prop := ∀ c ∈ t, c ∈ sig
theorem rd_word {T : List Nat} {Qd : Bool} {Z : St} {R : List Nat} : ∀ (t : List Nat) (tok : List Nat) (q : Bool) (r : List Nat), (∀ c ∈ t, okW c = true) → Rd .wd (tok ++ t) q r T Qd Z R → Rd .wd tok q (t ++ r) T Qd Z R
  | [], tok, q, r, _, h => by simpa using h
  | c :: t, tok, q, r, hc, h => by
    refine .a_word (hc c (List.mem_cons_self ..)) (rd_word t (tok ++ [c]) q r (fun d hd => hc d (List.mem_cons_of_mem _ hd)) ?_)
    simpa using h
theorem rd_sq {T : List Nat} {Qd : Bool} {Z : St} {R : List Nat} : ∀ (t : List Nat) (tok : List Nat) (q : Bool) (r : List Nat), InSig t → (∀ q', Rd .sq (tok ++ t) q' r T Qd Z R) → Rd .sq tok q (sub1 39 [39, 34, 39, 34, 39] t ++ r) T Qd Z R
  | [], tok, q, r, _, h => by simpa [sub1] using h q
  | c :: t, tok, q, r, hc, h => by
    have ih := fun q => rd_sq t (tok ++ [c]) q r (fun d hd => hc d (List.mem_cons_of_mem _ hd)) (fun q' => by simpa using h q')
    by_cases e : c = 39
    · subst e
      have : sub1 39 [39, 34, 39, 34, 39] (39 :: t) ++ r = 39 :: 34 :: 39 :: 34 :: 39 :: (sub1 39 [39, 34, 39, 34, 39] t ++ r) := by simp [sub1]
      rw [this]
      exact .sq_end (.a_dq (.dq_ch (.dq_end (.a_q (ih true)))))
    · have : sub1 39 [39, 34, 39, 34, 39] (c :: t) ++ r = c :: (sub1 39 [39, 34, 39, 34, 39] t ++ r) := by simp [sub1, e]
      rw [this]
      exact .sq_ch (sig_q c (hc c (List.mem_cons_self ..)) e) (ih true)
/-- what may stand behind a word -/
noncomputable def Aft (r : List Nat) (Z : St) (R : List Nat) : Prop := (r = [] ∧ Z = .en ∧ R = []) ∨ (r = 32 :: R ∧ Z = .bl)
theorem wd_aft {tok : List Nat} {q : Bool} {r R : List Nat} {Z : St} (h : tok ≠ [] ∨ q = true) (a : Aft r Z R) : Rd .wd tok q r tok q Z R := by
  rcases a with ⟨rfl, rfl, rfl⟩ | ⟨rfl, rfl⟩
  · exact .a_eof
  · exact .a_sp h
theorem one_word {t r R : List Nat} {Z : St} (ht : InSig t) (a : Aft r Z R) : ∃ Qd, Rd .bl [] false (qt t ++ r) t Qd Z R ∧ (t ≠ [] ∨ Qd = true) := by
  unfold qt
  by_cases h : t = []
  · subst h
    rw [if_pos rfl]
    exact ⟨true, .sp_q (.sq_end (wd_aft (.inr rfl) a)), .inr rfl⟩
  · rw [if_neg h]
    by_cases hs : t.all safeC = true
    · rw [if_pos hs]
      have hw : ∀ c ∈ t, okW c = true := fun c hc => sig_safe c (ht c hc) (List.all_eq_true.mp hs c hc)
      cases t with
      | nil => exact absurd rfl h
      | cons c t =>
        refine ⟨false, .sp_word (hw c (List.mem_cons_self ..)) (rd_word t [c] false r (fun d hd => hw d (List.mem_cons_of_mem _ hd)) ?_), .inl h⟩
        exact wd_aft (.inl (by simp)) a
    · rw [if_neg hs]
      refine ⟨true, ?_, .inr rfl⟩
      have e : 39 :: sub1 39 [39, 34, 39, 34, 39] t ++ [39] ++ r = 39 :: (sub1 39 [39, 34, 39, 34, 39] t ++ (39 :: r)) := by simp
      rw [e]
      exact .sp_q (rd_sq t [] false (39 :: r) ht fun q' => .sq_end (wd_aft (.inr rfl) a))
theorem toks_join : ∀ ts : List (List Nat), ts ≠ [] → (∀ t ∈ ts, InSig t) → Toks .bl (joinL (ts.map qt)) ts
  | [], h, _ => absurd rfl h
  | [t], _, hs => by
    obtain ⟨Qd, hr, hq⟩ := one_word (t := t) (r := []) (R := []) (Z := .en) (hs t (List.mem_cons_self ..)) (.inl ⟨rfl, rfl, rfl⟩)
    rw [List.append_nil] at hr
    exact .more hr hq (.done .no_eof)
  | t :: u :: ts, _, hs => by
    obtain ⟨Qd, hr, hq⟩ := one_word (t := t) (r := 32 :: joinL ((u :: ts).map qt)) (R := joinL ((u :: ts).map qt)) (Z := .bl) (hs t (List.mem_cons_self ..)) (.inr ⟨rfl, rfl⟩)
    exact .more hr hq (toks_join (u :: ts) (by simp) fun v hv => hs v (List.mem_cons_of_mem _ hv))
theorem qt_sig {t : List Nat} (h : InSig t) : InSig (qt t) := by
  unfold qt
  split
  · intro c hc
    have hz : ∀ d ∈ ([39, 39] : List Nat), d ∈ sig := by decide
    exact hz c hc
  · split
    · exact h
    · intro c hc
      simp only [List.cons_append, List.mem_cons, List.mem_append, List.not_mem_nil, or_false] at hc
      rcases hc with rfl | hc | rfl
      · decide
      · unfold sub1 at hc
        obtain ⟨d, hd, he⟩ := List.mem_flatMap.mp hc
        split at he
        · have hz : ∀ d ∈ ([39, 34, 39, 34, 39] : List Nat), d ∈ sig := by decide
          exact hz c he
        · simp only [List.mem_cons, List.not_mem_nil, or_false] at he
          subst he
          exact h _ hd
      · decide
theorem joinL_sig : ∀ ts : List (List Nat), (∀ t ∈ ts, InSig t) → InSig (joinL ts)
  | [], _ => fun c hc => by simp [joinL] at hc
  | [t], h => h t (List.mem_cons_self ..)
  | t :: u :: ts, h => fun c hc => by
    simp only [joinL, List.mem_append, List.mem_cons] at hc
    rcases hc with hc | rfl | hc
    · exact h t (List.mem_cons_self ..) c hc
    · decide
    · exact joinL_sig (u :: ts) (fun v hv => h v (List.mem_cons_of_mem _ hv)) c hc
theorem cls_sig : ∀ t ∈ clsL, InSig t := by unfold InSig; decide +kernel
theorem name_sig : ∀ t ∈ nameL, InSig t := by unfold InSig; decide +kernel
theorem hid_sig {o n : List Nat} (ho : InSig o) (hn : InSig n) : InSig (hid o n) := by
  unfold hid
  split
  · intro c hc
    simp only [List.cons_append, List.mem_cons, List.mem_append] at hc
    rcases hc with rfl | hc | hc
    · decide
    · exact ho c hc
    · exact hn c hc
  · exact hn
theorem cls_len : ∀ t ∈ clsL, t.length ≤ 4 := by decide +kernel
theorem name_len : ∀ t ∈ nameL, t.length ≤ 10 := by decide +kernel
theorem qt_len (t : List Nat) : (qt t).length ≤ 5 * t.length + 2 := by
  unfold qt
  split
  · simp
  · split
    · omega
    · have := sub1_len 39 [39, 34, 39, 34, 39] (by decide) t
      simp only [List.length_cons, List.length_nil, List.length_append, List.cons_append] at this ⊢
      omega
/-- _is_private, over signs -/
noncomputable def priv (o n : List Nat) : Bool := decide (o.length + 3 < n.length ∧ n.take (o.length + 3) = 95 :: o ++ [95, 95] ∧ n.drop (n.length - 2) ≠ [95, 95])
theorem starts_S (n p : List Nat) : Txt.startswith (S n) (S p) = decide (p.length ≤ n.length ∧ n.take p.length = p) := by
  unfold Txt.startswith
  rw [StrLaws.subAt_eq, S_length, S_length]
  have e : ((S n).cps.toList.drop 0).take p.length = n.take p.length := rfl
  rw [e]
  have e2 : (S p).cps.toList = p := rfl
  rw [e2]
  by_cases h1 : p.length ≤ n.length
  · by_cases h2 : n.take p.length = p
    · simp [h1, h2]
    · simp [h1, h2]
  · simp [h1]
theorem item_S (n : List Nat) (k : Nat) (h0 : 0 < k) (hk : k ≤ n.length) : Txt.item (S n) (-(k : Int)) = S [n.getD (n.length - k) 0] := by
  have e : (S n).length = n.length := S_length n
  unfold Txt.item Txt.charAt
  have e2 : seqIndex? (-(k : Int)) (S n).length = some (n.length - k) := by
    rw [e]
    unfold seqIndex?
    have h1 : (-(k : Int)) < 0 := by omega
    simp only [h1, if_true]
    have h2 : (decide (0 ≤ -(k : Int) + (n.length : Int)) && decide (-(k : Int) + (n.length : Int) < (n.length : Int))) = true := by
      rw [decide_eq_true (by omega), decide_eq_true (by omega)]
      rfl
    rw [if_pos h2]
    congr 1
    omega
  rw [e2]
  show S [((S n).cps[n.length - k]?).getD 0] = _
  have e3 : (S n).cps[n.length - k]? = n[n.length - k]? := by simp [S]
  rw [e3, List.getD_eq_getElem?_getD]
theorem drop_two {n : List Nat} (h : 2 ≤ n.length) : n.drop (n.length - 2) = [n.getD (n.length - 2) 0, n.getD (n.length - 1) 0] := by
  have h1 : n.length - 2 < n.length := by omega
  have h2 : n.length - 2 + 1 < n.length := by omega
  rw [List.drop_eq_getElem_cons h1, List.drop_eq_getElem_cons h2, List.drop_of_length_le (by omega)]
  have e : n.length - 2 + 1 = n.length - 1 := by omega
  simp only [List.getD_eq_getElem?_getD, List.getElem?_eq_getElem h1, List.getElem?_eq_getElem (show n.length - 1 < n.length by omega), Option.getD_some, e]
theorem privT_S (o n : List Nat) : privT (S o) (S n) = priv o n := by
  unfold privT priv
  have l1 : (Str.ofString "_").length = 1 := by decide +kernel
  have l2 : (Str.ofString "__").length = 2 := by decide +kernel
  rw [l1, l2, S_length, S_length, ofString_us, ofString_uu, S_append, S_append, starts_S]
  have hp : ([95] ++ o ++ [95, 95]).length = o.length + 3 := by simp only [List.length_append, List.length_cons, List.length_nil]; omega
  have hq : ([95] ++ o ++ [95, 95] : List Nat) = 95 :: o ++ [95, 95] := by simp
  rw [hp, hq]
  by_cases h1 : o.length + 3 < n.length
  · have i1 : Txt.item (S n) (-1) = S [n.getD (n.length - 1) 0] := item_S n 1 (by decide) (by omega)
    have i2 : Txt.item (S n) (-2) = S [n.getD (n.length - 2) 0] := item_S n 2 (by decide) (by omega)
    rw [i1, i2, bne, bne, S_beq, S_beq, drop_two (by omega)]
    have g1 : ((((1 + o.length + 2 : Nat) : Int) < (n.length : Int))) := by omega
    have g2 : o.length + 3 ≤ n.length := by omega
    rw [decide_eq_true g1, Bool.true_and]
    generalize n.getD (n.length - 1) 0 = a1
    generalize n.getD (n.length - 2) 0 = a2
    generalize n.take (o.length + 3) = tk
    rw [Bool.eq_iff_iff]
    simp only [Bool.and_eq_true, Bool.or_eq_true, decide_eq_true_eq, Bool.not_eq_true', decide_eq_false_iff_not, List.cons.injEq, and_true, ne_eq, h1, g2, true_and, not_and]
    constructor
    · rintro ⟨h2, h3⟩
      exact ⟨h2, fun x y => h3.elim (fun z => z y) fun z => z x⟩
    · rintro ⟨h2, h3⟩
      refine ⟨h2, ?_⟩
      by_cases x : a2 = 95
      · exact .inl (h3 x)
      · exact .inr x
  · have g1 : ¬ ((((1 + o.length + 2 : Nat) : Int) < (n.length : Int))) := by omega
    have g3 : ¬ (o.length + 3 < n.length ∧ n.take (o.length + 3) = 95 :: o ++ [95, 95] ∧ n.drop (n.length - 2) ≠ [95, 95]) := fun z => h1 z.1
    rw [decide_eq_false g1, decide_eq_false g3]
    rfl
theorem hid_eq {o n : List Nat} {k : Nat} (hk : 1 ≤ k) (hn : k < n.length) : hid o (n.drop k) = n ↔ (k = 1 + o.length ∧ priv o n = true) := by
  unfold hid priv
  rw [decide_eq_true_eq]
  have hl : (n.drop k).length = n.length - k := List.length_drop
  constructor
  · intro h
    split at h
    · rename_i hc
      have h2 := congrArg List.length h
      simp only [List.cons_append, List.length_cons, List.length_append, hl] at h2
      have hk2 : k = 1 + o.length := by omega
      obtain ⟨c1, c2⟩ := hc
      rw [hl] at c2
      have hlen2 : 2 ≤ (n.drop k).length := by
        have := congrArg List.length c1
        simp only [List.length_take, List.length_cons, List.length_nil] at this
        omega
      have hlen3 : 3 ≤ (n.drop k).length := by
        rcases Nat.lt_or_ge (n.drop k).length 3 with h3 | h3
        · exfalso
          have e2 : (n.drop k).length = 2 := by omega
          apply c2
          have : n.length - k - 2 = 0 := by omega
          rw [this, List.drop_zero]
          rw [← c1, List.take_of_length_le (by omega)]
        · exact h3
      rw [hl] at hlen3
      refine ⟨hk2, by omega, ?_, ?_⟩
      · have e3 : n.take (o.length + 3) = (95 :: o ++ n.drop k).take (o.length + 3) := by rw [h]
        rw [e3]
        have e4 : (95 :: o ++ n.drop k).take (o.length + 3) = 95 :: o ++ (n.drop k).take 2 := by
          rw [List.take_append]
          have : (95 :: o).length = o.length + 1 := rfl
          rw [List.take_of_length_le (by rw [this]; omega), this]
          congr 2
          omega
        rw [e4, c1]
      · intro hbad
        apply c2
        rw [List.drop_drop]
        have : k + (n.length - k - 2) = n.length - 2 := by omega
        rw [this]
        exact hbad
    · have h2 := congrArg List.length h
      rw [hl] at h2
      omega
  · rintro ⟨rfl, h1, h2, h3⟩
    have hd : (n.drop (1 + o.length)).take 2 = [95, 95] := by
      have e1 : (n.take (o.length + 3)).drop (1 + o.length) = (n.drop (1 + o.length)).take 2 := by
        rw [List.drop_take]
        congr 1
        omega
      rw [← e1, h2]
      have : (95 :: o ++ [95, 95]) = (95 :: o) ++ [95, 95] := rfl
      rw [this, List.drop_append]
      have hl2 : (95 :: o).length = 1 + o.length := by simp; omega
      rw [List.drop_of_length_le (by omega), hl2]
      simp
    have he : (n.drop (1 + o.length)).drop ((n.drop (1 + o.length)).length - 2) = n.drop (n.length - 2) := by
      rw [List.drop_drop, hl]
      congr 1
      omega
    rw [if_pos ⟨hd, by rw [he]; exact h3⟩]
    have ht : n.take (1 + o.length) = 95 :: o := by
      have e1 : (n.take (o.length + 3)).take (1 + o.length) = n.take (1 + o.length) := by
        rw [List.take_take]
        congr 1
        omega
      rw [← e1, h2]
      have hl2 : (95 :: o).length = 1 + o.length := by simp; omega
      rw [List.take_append, List.take_of_length_le (by omega), hl2]
      simp
    rw [← ht, List.take_append_drop]
theorem tailsUp_eq (o n : List Nat) : ∀ c, c < n.length ∨ c = 0 → tailsUp o n c = if priv o n = true ∧ 1 + o.length ≤ c then [n.drop (1 + o.length)] else []
  | 0, _ => by simp [tailsUp]
  | c + 1, h => by
    have hc : c + 1 < n.length := by omega
    unfold tailsUp
    rw [tailsUp_eq o n c (by omega)]
    by_cases hp : priv o n = true
    · by_cases h1 : 1 + o.length ≤ c
      · have : ¬ hid o (n.drop (c + 1)) = n := fun e => by have := (hid_eq (by omega) hc).mp e; omega
        rw [if_neg this, if_pos ⟨hp, h1⟩, if_pos ⟨hp, by omega⟩, List.append_nil]
      · rw [if_neg (fun z => h1 z.2), List.nil_append]
        by_cases h2 : c + 1 = 1 + o.length
        · rw [if_pos ((hid_eq (by omega) hc).mpr ⟨h2, hp⟩), if_pos ⟨hp, by omega⟩, h2]
        · have : ¬ hid o (n.drop (c + 1)) = n := fun e => h2 ((hid_eq (by omega) hc).mp e).1
          rw [if_neg this, if_neg (by omega)]
    · have : ¬ hid o (n.drop (c + 1)) = n := fun e => hp ((hid_eq (by omega) hc).mp e).2
      rw [if_neg this, if_neg (fun z => hp z.1), if_neg (fun z => hp z.1), List.nil_append]
/-- the tails of a name, and what _is_private tells, agree -/
theorem tails_eq (o n : List Nat) : tails o n = if priv o n = true then [n.drop (1 + o.length)] else [] := by
  unfold tails
  by_cases h0 : n.length - 1 = 0
  · rw [h0]
    have hp : ¬ priv o n = true := fun h => by
      unfold priv at h
      rw [decide_eq_true_eq] at h
      omega
    rw [if_neg hp]
    rfl
  · rw [tailsUp_eq o n _ (by omega)]
    by_cases hp : priv o n = true
    · have h1 : o.length + 3 < n.length := by
        unfold priv at hp
        rw [decide_eq_true_eq] at hp
        exact hp.1
      rw [if_pos ⟨hp, by omega⟩, if_pos hp]
    · rw [if_neg (fun z => hp z.1), if_neg hp]
section
variable {w : World} {vw : Program} {loose : List Str} {mean : ExcName → Option Value} {mg mb : Str → Option Value}
/-- split, in a frame with a ledger: the ground is laid anew -/
theorem split_use {b : Str} {tb0 : Tok} {ts : List (List Nat)} (hbl : b.length ≤ 10000) (TT : Toks .bl b.cps.toList ts) (hsz : ts.length ≤ 20000)
    {dp un : Nat} {gd : Option (List Code)} {cn : Str} {cs' : Scope} {a : Addr} {ccd : Value} {cl : List (Str × Addr)} {outer : List Env} {A₀ : Around} {base h₀ : Heap} {L : Addr} {m : Str → Option Value} {s : Shared} {Q E : Value → Shared → Prop} {news : List (Addr × Obj)}
    (B : Below A₀ base outer h₀) (F : Fr h₀ L s.heap m) (N : News h₀ L s.heap news) (X : (Mine.K w.params).In h₀) (T₀ : Top vw loose mean mg mb h₀) (XB : (Mine.K w.params).In base) (TB : Top vw loose mean mg mb base) (hk : cs'.kind = .function)
    (hd : dp + 40 < recursionLimit) (hu : un + 400 < cLine)
    (hret : ∀ (g' : Heap) (D : Addr) (acc' : Array Value) (c' : Nat) (h' : Heap) (tk' : Nat), Strs acc'.toList ts → KtsTurn (outer.filterMap (·.frame)) h₀ g' → Below A₀ base outer g' → (Mine.K w.params).In g' → Top vw loose mean mg mb g' →
      Fr g' L h' m → News g' L h' ((D, listOf acc' c') :: news) → (∀ q ∈ news, q.1 ≠ D) → Q (.ref D) { s with heap := h', toks := tk' }) :
      wpAny (model Challenge.rw_ij0133_01.row.prog w) (ktrTop dp un gd cn cs' L a ccd cl outer) (call (.ref 751) [.str b tb0]) Q E s := by
  refine split_in hbl TT hsz B F X T₀ hk hd hu fun D acc' c' h' tk' SS U hD hD' => ?_
  obtain ⟨g', KT, B', F', N'⟩ := reground B F U
  obtain ⟨oL, es, ep, hL, r⟩ := F.ns
  have hne : ∀ q ∈ news, q.1 ≠ D := fun q hq e => by
    have := (N q hq).1
    rw [e, hD] at this; cases this
  refine hret g' D acc' c' h' tk' SS KT B' (XB.keeps B'.stays) (TB.keeps B'.stays) F' (fun q hq => ?_) hne
  rcases List.mem_cons.mp hq with rfl | hq
  · refine ⟨hD', fun e => ?_, KT.none_ _ (kts_none F.keep hD)⟩
    have e' : D = L := e
    rw [e', hL] at hD
    cases hD
  · exact N' news N q hq
end
theorem fr_put2 {h₀ h : Heap} {L : Addr} {m : Str → Option Value} {x1 x2 : Str} {v1 v2 : Value} (F : Fr h₀ L h m) (e1 : m x1 = some v1) (e2 : m x2 = some v2) :
    Fr h₀ L h (fun y => if y = x1 then some v1 else if y = x2 then some v2 else m y) := by
  have h : (fun y => if y = x1 then some v1 else if y = x2 then some v2 else m y) = m := by
    funext y
    by_cases h1 : y = x1
    · rw [if_pos h1, h1, e1]
    · rw [if_neg h1]
      by_cases h2 : y = x2
      · rw [if_pos h2, h2, e2]
      · rw [if_neg h2]
  rw [h]
  exact F
/-- a word as _law_read keeps it -/
noncomputable def shortOf (o n : List Nat) : List Nat := if priv o n = true then n.drop (o.length + 1) else n
theorem allLt_mem {d : Nat} : ∀ {l : List (Addr × Obj)}, AllLt d l → ∀ p ∈ l, @LT.lt Nat _ p.1 d
  | [], _, _, hp => nomatch hp
  | _ :: _, h, p, hp => by
    rcases List.mem_cons.mp hp with rfl | hp
    · exact h.1
    · exact allLt_mem h.2 p hp
theorem Strs.tail {vs : List Value} {ts : List (List Nat)} {t : List Nat} (h : Strs vs (t :: ts)) : ∃ k r, vs = .str (S t) k :: r ∧ Strs r ts := by
  cases h with
  | cons h => exact ⟨_, _, rfl, h⟩
noncomputable def LrInv {g h : Heap} {L Sh W D : Addr} {m : Str → Option Value} {c0 : Nat} {ws its : Array Value} {c1 c2 : Nat} {tl : List (Addr × Obj)} (_F : Fr g L h m) (_N : News g L h ((Sh, listOf #[] c0) :: (W, listOf ws c1) :: (D, listOf its c2) :: tl))
    (s : Shared) (w0 : List Nat) (xs : List (List Nat)) (restv : List Value) : Addr → Nat → Shared → Prop := fun I left s' =>
  ∃ (j : Nat) (acc : Array Value) (cc : Nat) (o : Obj) (W2 : Addr) (m' : Str → Option Value) (h' : Heap) (tk' : Nat), s' = { s with heap := h', toks := tk' } ∧ j + left = xs.length ∧ Strs acc.toList ((xs.take j).map (shortOf w0)) ∧ Fr g L h' m' ∧
    News g L h' ((I, o) :: (W2, listOf restv.toArray 0) :: (Sh, listOf acc cc) :: (W, listOf ws c1) :: (D, listOf its c2) :: tl) ∧ IsIt o W2 j ∧ AllLt I ((W2, listOf restv.toArray 0) :: (Sh, listOf acc cc) :: (W, listOf ws c1) :: (D, listOf its c2) :: tl) ∧ AllLt W2 ((Sh, listOf acc cc) :: (W, listOf ws c1) :: (D, listOf its c2) :: tl) ∧ (∀ p ∈ (W, listOf ws c1) :: (D, listOf its c2) :: tl, p.1 ≠ Sh) ∧
    m' (Str.ofString "words") = some (.ref W) ∧ m' (Str.ofString "short") = some (.ref Sh) ∧ m' (Str.ofString "bodies") = some (.ref D)
theorem lr_vY {w0 x : List Nat} {t : Tok} (e : privT (S w0) (S x) = true) : ∃ t', Value.str (Txt.slice (S x) (some (((S w0).length : Int) + 1)) none) t = .str (S (shortOf w0 x)) t' := by
  rw [privT_S] at e
  have h1 : w0.length + 3 < x.length := by
    have e' := e
    unfold priv at e'
    rw [decide_eq_true_eq] at e'
    exact e'.1
  have e1 : Txt.slice (S x) (some (((S w0).length : Int) + 1)) none = S (x.drop (w0.length + 1)) := by
    rw [S_length]
    exact slice_from x (w0.length + 1) (by omega)
  refine ⟨t, ?_⟩
  rw [e1]
  unfold shortOf
  rw [if_pos e]
theorem lr_vN {w0 x : List Nat} {t : Tok} (e : privT (S w0) (S x) = false) : ∃ t', Value.str (S x) t = .str (S (shortOf w0 x)) t' := by
  rw [privT_S] at e
  refine ⟨t, ?_⟩
  unfold shortOf
  rw [if_neg (by rw [e]; decide)]
theorem lr_end {g h h' : Heap} {L Sh W W2 D I : Addr} {m m' : Str → Option Value} {c0 cc' : Nat} {ws its acc : Array Value} {c1 c2 : Nat} {tl : List (Addr × Obj)} {FF : Fr g L h m} {NN : News g L h ((Sh, listOf #[] c0) :: (W, listOf ws c1) :: (D, listOf its c2) :: tl)}
    {s : Shared} {w0 x : List Nat} {xs : List (List Nat)} {restv : List Value} {j left tk : Nat} {vv : Value} {o2 : Obj} (hv : ∃ t, vv = .str (S (shortOf w0 x)) t) (ex : xs[j]? = some x) (hc : j + (left + 1) = xs.length) (SS : Strs acc.toList ((xs.take j).map (shortOf w0)))
    (F : Fr g L h' m') (N : News g L h' ((I, o2) :: (W2, listOf restv.toArray 0) :: (Sh, listOf (acc.push vv) cc') :: (W, listOf ws c1) :: (D, listOf its c2) :: tl)) (hI : IsIt o2 W2 (j + 1))
    (hlt : AllLt I ((W2, listOf restv.toArray 0) :: (Sh, listOf (acc.push vv) cc') :: (W, listOf ws c1) :: (D, listOf its c2) :: tl)) (hlt2 : AllLt W2 ((Sh, listOf (acc.push vv) cc') :: (W, listOf ws c1) :: (D, listOf its c2) :: tl))
    (hSh : ∀ p ∈ (W, listOf ws c1) :: (D, listOf its c2) :: tl, p.1 ≠ Sh) (m1 : m' (Str.ofString "words") = some (.ref W)) (m2 : m' (Str.ofString "short") = some (.ref Sh)) (m3 : m' (Str.ofString "bodies") = some (.ref D)) :
    LoopNext (left + 1) (LrInv FF NN s w0 xs restv I) { s with heap := h', toks := tk } := by
  obtain ⟨t, rfl⟩ := hv
  refine ⟨left, Nat.lt_succ_self _, j + 1, acc.push (.str (S (shortOf w0 x)) t), cc', o2, W2, m', h', tk, rfl, by omega, ?_, F, N, hI, hlt, hlt2, hSh, m1, m2, m3⟩
  rw [Array.toList_push, List.take_add_one, ex, List.map_append]
  exact SS.snoc _ _
section
variable {w : World} {vw : Program} {loose : List Str} {mean : ExcName → Option Value} {mg mb : Str → Option Value}
theorem lr_turn {D W : Addr} {its : Array Value} {c1 c2 : Nat} {w0 : List Nat} {xs : List (List Nat)} {k0 : Tok} {restv : List Value} (SX : Strs restv xs)
    (hpick : kms_pick (Value.str (S w0) k0 :: restv).toArray.toList (some 1) none = restv) (hwsz : (Value.str (S w0) k0 :: restv).toArray.size ≤ sizeLine) (hxs : xs.length ≤ 20000) (hw0 : (S w0).length ≤ 100000) (hxl : ∀ x ∈ xs, (S x).length ≤ 100000) (hitz : its.size ≤ sizeLine) (hDW : W ≠ D) {tl : List (Addr × Obj)} (htl : ∀ p ∈ tl, p.1 ≠ D)
    {dp un : Nat} {gd : Option (List Code)} {qual : Str} {scope : Scope} {cdv : Value} {outer : List Env} {A₀ : Around} {base h₀ : Heap} {L : Addr} {m' : Str → Option Value} {s : Shared} {Qf : Flow → Shared → Prop} {E : Value → Shared → Prop} {iter : PySem.Expr} {body rest : List Stmt} {v : Str} {px pos : Pos} {st1 st3 : Stmt}
    (hb : ∃ oc od name params dV kV doc pm an ct osl, List.lookup 801 (Mine.K w.params) = some ⟨oc, od, .func (fnOf name qual params [st1, .For (.Name v px) iter body [] pos, st3] scope dV kV doc pm an cdv ct), osl⟩) (hrest : body.tail = rest)
    (B : Below A₀ base outer h₀) (X : (Mine.K w.params).In h₀) (T₀ : Top vw loose mean mg mb h₀) (hd : dp + 50 < recursionLimit) (hu : un + 600 < cLine)
    (F0 : Fr h₀ L s.heap m') (f1 : m' (Str.ofString "words") = some (.ref W)) (f2 : m' (Str.ofString "bodies") = some (.ref D)) (N : News h₀ L s.heap ((W, listOf (Value.str (S w0) k0 :: restv).toArray c1) :: (D, listOf its c2) :: tl))
    (hfin : ∀ (En Sh W2 : Addr) (acc : Array Value) (cc ce cd : Nat) (m2 : Str → Option Value) (h2 : Heap) (tk : Nat), Strs acc.toList (xs.map (shortOf w0)) → Fr h₀ L h2 m2 → m2 (Str.ofString "bodies") = some (.ref D) →
      News h₀ L h2 ((En, listOf #[.str (S w0) k0, .ref Sh] ce) :: (W2, listOf restv.toArray 0) :: (Sh, listOf acc cc) :: (W, listOf (Value.str (S w0) k0 :: restv).toArray c1) :: (D, listOf (its.push (.ref En)) cd) :: tl) →
      AllLt En ((W2, listOf restv.toArray 0) :: (Sh, listOf acc cc) :: (W, listOf (Value.str (S w0) k0 :: restv).toArray c1) :: (D, listOf its c2) :: tl) → Qf .next { s with heap := h2, toks := tk })
    (hE : PassesOwn (model Challenge.rw_ij0133_01.row.prog w) (ktrTop dp un gd qual scope L 801 cdv [] outer) (envOf qual scope L 801 cdv) E) :
    wpAny (model Challenge.rw_ij0133_01.row.prog w) (ktrTop dp un gd qual scope L 801 cdv [] outer) (execs rest (envOf qual scope L 801 cdv)) Qf E s := by
  subst hrest
  have F := fr_put2 F0 f1 f2
  clear F0
  obtain ⟨oc, od, name, params, dV, kV, doc, pm, an, ct, osl, e⟩ := hb
  refine' rt_elim e ?lit ?_
  (case lit => k_is)
  intro e2
  cases e2
  clear e
  dsimp only [List.tail]
  (repeat' (first | ((with_reducible show wpAny _ _ (exec (Stmt.For _ _ _ _ _) _) _ _ _); (rename Fr _ _ _ _ => FF); (rename News _ _ _ _ => NN); refine for_inv (LrInv FF NN s w0 xs restv) ?_ ?_) | ((with_reducible show wpAny _ _ (pyIter _) _ _ _); fail) | ((with_reducible refine consQ_next ?_)) | ((with_reducible refine consQ_ret ?_)) | ((with_reducible refine consQ_brk ?_)) | ((with_reducible refine consQ_cont ?_)) | (with_reducible ((with_reducible show wpAny _ _ (execs (_ :: _) _) _ _ _); (k_here; (try dsimp only); (try (refine gen_toks ?_; intro tk)); first | refine execs_one ?_ | refine execs_consQ ?_))) | ((with_reducible refine wpAny_execs_nil ?_)) | (((k_here; (with_reducible show wpAny _ _ (subscriptTail _ (PySem.Expr.Slice _ _ none _) (Value.ref _) (Value.ref _)) _ _ _); k_dflt (refine' kms_slice_lit ?Fzq ?Nzq ?lzq ?pzq ?qzq ?ezq ?_ ?szq ?tzq ?zzq; (case Fzq | Nzq => k_asm); (case lzq => kmk_list); (case pzq | qzq => kmk_part); (case ezq => with_reducible assumption); (case szq => with_unfolding_all rfl); (case tzq => kmk_pure); (case zzq => with_reducible assumption)); intro D' h' F' N' l1; (try k_lt l1); (try k_sweep)))) | (((k_here; (with_reducible show wpAny _ _ (call (Value.ref 51) _ _) _ _ _); k_dflt (refine' ctr_use (is_private _ _ _ _ ?lozq ?lnzq) ?Bzq ?Fzq ?Nzq ?Xzq ?Tzq ?hkzq ?hdzq ?huzq ?_; (case lozq | lnzq => with_reducible assumption); (case Bzq | Fzq | Nzq | Xzq | Tzq => k_asm); (case hkzq => first | exact rfl | assumption); (case hdzq => k_room); (case huzq => k_units); k_whole; intro v' h' tk' F' N' hh'; have e' := hh'.out; subst e'; (try k_sweep))))) | (((k_here; (with_reducible show wpAny _ _ (call (Value.builtin _) [Value.ref _, _]) _ _ _); k_dflt (refine' append_K ?k1zq ?k2zq ?k3zq ?_ ?zzq; (case k1zq | k2zq => k_asm); (case k3zq => k_upd); (case zzq => with_reducible assumption); k_whole); intro h' F' N'; (try k_sweep)))) | (with_reducible ((with_reducible show wpAny _ _ (exec (PySem.Stmt.If _ _ _ _) _) _ _ _); (refine wpAny_If ?_))) | (k_unfold; (try dsimp only)) | walk1 | (dsimp only; walk1) | (leave1; walk_say "STEP leave1"; try dsimp only) | fail "no step"))
  · (rename Fr _ _ _ _ => FR); (rename News _ _ _ _ => NR)
    have hl : Heap.IsList _ _ restv.toArray := ⟨_, NR.get (.head _), rfl, _, rfl⟩
    refine it_start FR NR hl fun I o h' F' N' l1 hI hl' => ?_
    exact ⟨I, xs.length, rfl, 0, #[], _, o, _, _, h', _, rfl, by omega, .nil, F', N', hI, allLt_of l1, by assumption, (fun p hp => neN (by have h1 := allLt_mem (l := (W, listOf (Value.str (S w0) k0 :: restv).toArray c1) :: (D, listOf its c2) :: tl) (by assumption) p hp; omega)), rfl, rfl, rfl⟩
  · rename_i I left s' hI
    obtain ⟨j, acc, cc, o, W2, m2, h', tk', rfl, hc, SS, F', N', hI, hlt, hlt2, hSh, m1, m2', m3⟩ := hI
    have F' := fr_put3 F' m1 m2' m3
    have hl : h'.IsList W2 restv.toArray := ⟨_, N'.get (.tail _ (.head _)), rfl, _, rfl⟩
    have hne : ∀ p ∈ (W2, listOf restv.toArray 0) :: (_, listOf acc cc) :: (W, listOf (Value.str (S w0) k0 :: restv).toArray c1) :: (D, listOf its c2) :: tl, p.1 ≠ I := fun p hp => neN (by have := allLt_mem hlt p hp; omega)
    simp only [AllLt] at hlt hlt2
    have hacc : acc.size ≤ sizeLine := by
      have h1 := SS.len
      rw [List.length_map, List.length_take, Array.length_toList] at h1
      have h3 : sizeLine = 16777216 := rfl
      omega
    cases left with
    | zero =>
      refine it_end rfl F' N' hne hI hl (by have := SX.len; simp; omega) fun h2 F2 N2 => ?_
      dsimp only
      (repeat' (first | ((with_reducible refine consQ_next ?_)) | ((with_reducible refine consQ_ret ?_)) | ((with_reducible refine consQ_brk ?_)) | ((with_reducible refine consQ_cont ?_)) | (with_reducible ((with_reducible show wpAny _ _ (execs (_ :: _) _) _ _ _); (k_here; (try dsimp only); (try (refine gen_toks ?_; intro tk)); first | refine execs_one ?_ | refine execs_consQ ?_))) | ((with_reducible refine wpAny_execs_nil ?_)) | (((k_here; (with_reducible show wpAny _ _ (subscriptTail _ (PySem.Expr.Slice _ _ none _) (Value.ref _) (Value.ref _)) _ _ _); k_dflt (refine' kms_slice_lit ?Fzq ?Nzq ?lzq ?pzq ?qzq ?ezq ?_ ?szq ?tzq ?zzq; (case Fzq | Nzq => k_asm); (case lzq => kmk_list); (case pzq | qzq => kmk_part); (case ezq => with_reducible assumption); (case szq => with_unfolding_all rfl); (case tzq => kmk_pure); (case zzq => with_reducible assumption)); intro D' h' F' N' l1; (try k_lt l1); (try k_sweep)))) | (((k_here; (with_reducible show wpAny _ _ (call (Value.ref 51) _ _) _ _ _); k_dflt (refine' ctr_use (is_private _ _ _ _ ?lozq ?lnzq) ?Bzq ?Fzq ?Nzq ?Xzq ?Tzq ?hkzq ?hdzq ?huzq ?_; (case lozq | lnzq => with_reducible assumption); (case Bzq | Fzq | Nzq | Xzq | Tzq => k_asm); (case hkzq => first | exact rfl | assumption); (case hdzq => k_room); (case huzq => k_units); k_whole; intro v' h' tk' F' N' hh'; have e' := hh'.out; subst e'; (try k_sweep))))) | (((k_here; (with_reducible show wpAny _ _ (call (Value.builtin _) [Value.ref _, _]) _ _ _); k_dflt (refine' append_K ?k1zq ?k2zq ?k3zq ?_ ?zzq; (case k1zq | k2zq => k_asm); (case k3zq => k_upd); (case zzq => with_reducible assumption); k_whole); intro h' F' N'; (try k_sweep)))) | (with_reducible ((with_reducible show wpAny _ _ (exec (PySem.Stmt.If _ _ _ _) _) _ _ _); (refine wpAny_If ?_))) | (k_unfold; (try dsimp only)) | walk1 | (dsimp only; walk1) | (leave1; walk_say "STEP leave1"; try dsimp only) | fail "no step"))
      have hjx : j = xs.length := by omega
      subst hjx
      rw [List.take_length] at SS
      all_goals exact hfin _ _ _ acc _ _ _ _ _ _ SS (by assumption) rfl (by assumption) (by assumption)
    | succ left =>
      have hj : j < xs.length := by omega
      obtain ⟨x, k, ex, ev⟩ := SX.get j _ (List.getElem?_eq_getElem (by have := SX.len; omega))
      have hxle : (S x).length ≤ 100000 := hxl x (List.mem_of_getElem? ex)
      have hgx : restv.toArray[j]? = some (.str (S x) k) := by
        rw [List.getElem?_toArray, List.getElem?_eq_getElem (by have := SX.len; omega), ev]
      refine it_next F' N' hne hI hl hgx fun h2 o2 F2 N2 hI2 hl2 => ?_
      dsimp only
      (repeat' (first | ((with_reducible refine consQ_next ?_)) | ((with_reducible refine consQ_ret ?_)) | ((with_reducible refine consQ_brk ?_)) | ((with_reducible refine consQ_cont ?_)) | (with_reducible ((with_reducible show wpAny _ _ (execs (_ :: _) _) _ _ _); (k_here; (try dsimp only); (try (refine gen_toks ?_; intro tk)); first | refine execs_one ?_ | refine execs_consQ ?_))) | ((with_reducible refine wpAny_execs_nil ?_)) | (((k_here; (with_reducible show wpAny _ _ (subscriptTail _ (PySem.Expr.Slice _ _ none _) (Value.ref _) (Value.ref _)) _ _ _); k_dflt (refine' kms_slice_lit ?Fzq ?Nzq ?lzq ?pzq ?qzq ?ezq ?_ ?szq ?tzq ?zzq; (case Fzq | Nzq => k_asm); (case lzq => kmk_list); (case pzq | qzq => kmk_part); (case ezq => with_reducible assumption); (case szq => with_unfolding_all rfl); (case tzq => kmk_pure); (case zzq => with_reducible assumption)); intro D' h' F' N' l1; (try k_lt l1); (try k_sweep)))) | (((k_here; (with_reducible show wpAny _ _ (call (Value.ref 51) _ _) _ _ _); k_dflt (refine' ctr_use (is_private _ _ _ _ ?lozq ?lnzq) ?Bzq ?Fzq ?Nzq ?Xzq ?Tzq ?hkzq ?hdzq ?huzq ?_; (case lozq | lnzq => with_reducible assumption); (case Bzq | Fzq | Nzq | Xzq | Tzq => k_asm); (case hkzq => first | exact rfl | assumption); (case hdzq => k_room); (case huzq => k_units); k_whole; intro v' h' tk' F' N' hh'; have e' := hh'.out; subst e'; (try k_sweep))))) | (((k_here; (with_reducible show wpAny _ _ (call (Value.builtin _) [Value.ref _, _]) _ _ _); k_dflt (refine' append_K ?k1zq ?k2zq ?k3zq ?_ ?zzq; (case k1zq | k2zq => k_asm); (case k3zq => k_upd); (case zzq => with_reducible assumption); k_whole); intro h' F' N'; (try k_sweep)))) | (with_reducible ((with_reducible show wpAny _ _ (exec (PySem.Stmt.If _ _ _ _) _) _ _ _); (refine wpAny_If ?_))) | (k_unfold; (try dsimp only)) | walk1 | (dsimp only; walk1) | (leave1; walk_say "STEP leave1"; try dsimp only) | fail "no step"))
      all_goals dsimp only
      · exact lr_end (lr_vY (by with_reducible assumption)) ex hc SS (by assumption) (by assumption) hI2 hlt hlt2 hSh rfl rfl rfl
      · exact lr_end (lr_vN (by with_reducible assumption)) ex hc SS (by assumption) (by assumption) hI2 hlt hlt2 hSh rfl rfl rfl
end
/-- _law_read's result: lists [class, [names]] in a ledger -/
inductive BodiesIn (news : List (Addr × Obj)) : List Value → List (List Nat × List (List Nat)) → Prop
  | nil : BodiesIn news [] []
  | cons {En Sh : Addr} {ce cc : Nat} {w0 : List Nat} {k0 : Tok} {acc : Array Value} {ss : List (List Nat)} {vs : List Value} {bs : List (List Nat × List (List Nat))} :
      (En, listOf #[.str (S w0) k0, .ref Sh] ce) ∈ news → (Sh, listOf acc cc) ∈ news → Strs acc.toList ss → BodiesIn news vs bs → BodiesIn news (.ref En :: vs) ((w0, ss) :: bs)
theorem BodiesIn.mono {n1 n2 : List (Addr × Obj)} (h : ∀ p ∈ n1, p ∈ n2) : ∀ {vs : List Value} {bs : List (List Nat × List (List Nat))}, BodiesIn n1 vs bs → BodiesIn n2 vs bs
  | _, _, .nil => .nil
  | _, _, .cons a b c r => .cons (h _ a) (h _ b) c (r.mono h)
theorem BodiesIn.snoc {news : List (Addr × Obj)} {En Sh : Addr} {ce cc : Nat} {w0 : List Nat} {k0 : Tok} {acc : Array Value} {ss : List (List Nat)} (a : (En, listOf #[.str (S w0) k0, .ref Sh] ce) ∈ news) (b : (Sh, listOf acc cc) ∈ news) (c : Strs acc.toList ss) :
    ∀ {vs : List Value} {bs : List (List Nat × List (List Nat))}, BodiesIn news vs bs → BodiesIn news (vs ++ [.ref En]) (bs ++ [(w0, ss)])
  | _, _, .nil => .cons a b c .nil
  | _, _, .cons a' b' c' r => .cons a' b' c' (r.snoc a b c)
/-- what a line is to be: its words -/
noncomputable def LineOk (line : List Nat) (b : List Nat × List (List Nat)) : Prop := Toks .bl line (b.1 :: b.2) ∧ line.length ≤ 10000 ∧ b.1.length ≤ 1000 ∧ b.2.length ≤ 1000 ∧ ∀ x ∈ b.2, x.length ≤ 1000
noncomputable def LoInv {g h : Heap} {L D : Addr} {m : Str → Option Value} {c0 : Nat} {A : Around} {base : Heap} {out : List Env} (w : World) (vw : Program) (loose : List Str) (mean : ExcName → Option Value) (mg mb : Str → Option Value)
    (_F : Fr g L h m) (_N : News g L h [(D, listOf #[] c0)]) (_B : Below A base out g) (s : Shared) (l : Addr) (ls : List (List Nat)) (bs : List (List Nat × List (List Nat))) : Addr → Nat → Shared → Prop := fun I left s' =>
  ∃ (j : Nat) (g' : Heap) (its : Array Value) (c : Nat) (o : Obj) (tl : List (Addr × Obj)) (m' : Str → Option Value) (h' : Heap) (tk' : Nat), s' = { s with heap := h', toks := tk' } ∧ j + left = ls.length ∧ KtsTurn (out.filterMap (·.frame)) g g' ∧ Below A base out g' ∧
    (Mine.K w.params).In g' ∧ Top vw loose mean mg mb g' ∧ Fr g' L h' m' ∧ News g' L h' ((D, listOf its c) :: (I, o) :: tl) ∧ IsIt o l j ∧ (∀ p ∈ (I, o) :: tl, p.1 ≠ D) ∧ (∀ p ∈ tl, p.1 ≠ I) ∧
    BodiesIn tl its.toList ((bs.take j).map fun b => (b.1, b.2.map (shortOf b.1))) ∧ its.size = j ∧ m' (Str.ofString "bodies") = some (.ref D)
theorem lo_ne {g h : Heap} {L D I : Addr} {o x : Obj} {tl : List (Addr × Obj)} (_N : News g L h ((I, o) :: (D, x) :: tl)) (hD : ∀ p ∈ (I, o) :: tl, p.1 ≠ D) (hIt : ∀ p ∈ tl, p.1 ≠ I) : ∀ p ∈ (D, x) :: tl, p.1 ≠ I := fun p hp => by
  rcases List.mem_cons.mp hp with rfl | hp
  · exact Ne.symm (hD _ (.head _))
  · exact hIt p hp
theorem turn_news {fs : List Addr} {h g g' h' : Heap} {L' : Addr} {news : List (Addr × Obj)} (G : GSub h g []) (T : KtsTurn fs g g') (N : News g' L' h' news) : ∀ p ∈ news, h'.get? p.1 = some p.2 ∧ h.get? p.1 = none := fun p hp => by
  refine ⟨(N p hp).1, ?_⟩
  cases e : h.get? p.1 with
  | none => rfl
  | some o' =>
    obtain ⟨sl, hs⟩ := T.up (G p.1 o' e (by simp))
    have := (N p hp).2.2
    rw [hs] at this
    cases this
theorem strs_noref {vs : List Value} {ts : List (List Nat)} (h : Strs vs ts) (a : Addr) : Value.ref a ∉ vs := by
  induction h with
  | nil => simp
  | cons _ ih => simp [ih]
theorem lo_neq {g h : Heap} {L a b : Addr} {x y : Obj} {news : List (Addr × Obj)} (N : News g L h news) (ha : (a, x) ∈ news) (hb : (b, y) ∈ news) (hxy : x ≠ y) : a ≠ b := fun e => by
  have h1 := (N _ ha).1
  have h2 := (N _ hb).1
  dsimp only at h1 h2
  rw [e, h2] at h1
  exact hxy (Option.some.inj h1).symm
theorem it_list {o : Obj} {l : Addr} {i : Nat} {acc : Array Value} {cc : Nat} (h : IsIt o l i) : listOf acc cc ≠ o := fun e => by
  have h1 := h.1
  rw [← e] at h1
  exact absurd h1 (by simp [PySem.W.listOf])
theorem lo_end {g h : Heap} {L D : Addr} {m m2 : Str → Option Value} {c0 : Nat} {A : Around} {base : Heap} {out : List Env} {w : World} {vw : Program} {loose : List Str} {mean : ExcName → Option Value} {mg mb : Str → Option Value} {FF : Fr g L h m} {NN : News g L h [(D, listOf #[] c0)]} {BB : Below A base out g}
    {s : Shared} {l : Addr} {ls : List (List Nat)} {bs : List (List Nat × List (List Nat))} {I En Sh W2 W : Addr} {j left cd c cc ce cw tk : Nat} {g2 g3 h5 : Heap} {its acc ws : Array Value} {o3 : Obj} {tl : List (Addr × Obj)} {k0 : Tok} {restv : List Value} {b : List Nat × List (List Nat)} {xs : List (List Nat)}
    (hc : j + (left + 1) = ls.length) (KT : KtsTurn (out.filterMap (·.frame)) g g2) (KT3 : KtsTurn (out.filterMap (·.frame)) g2 g3) (B3 : Below A base out g3) (X3 : (Mine.K w.params).In g3) (T3 : Top vw loose mean mg mb g3) (F5 : Fr g3 L h5 m2)
    (N5 : News g3 L h5 ((En, listOf #[.str (S b.1) k0, .ref Sh] ce) :: (W2, listOf restv.toArray 0) :: (Sh, listOf acc cc) :: (W, listOf ws cw) :: (D, listOf (its.push (.ref En)) cd) :: (I, o3) :: tl))
    (hI3 : IsIt o3 l (j + 1)) (hD : ∀ p ∈ (I, o3) :: tl, p.1 ≠ D) (hIt : ∀ p ∈ tl, p.1 ≠ I) (hWD : W ≠ D) (hEn : AllLt En ((W2, listOf restv.toArray 0) :: (Sh, listOf acc cc) :: (W, listOf ws cw) :: (D, listOf its c) :: (I, o3) :: tl))
    (SA : Strs acc.toList (b.2.map (shortOf b.1))) (SR : Strs restv xs) (BI : BodiesIn tl its.toList ((bs.take j).map fun b => (b.1, b.2.map (shortOf b.1)))) (hsz : its.size = j) (eb : bs[j]? = some b) (hm : m2 (Str.ofString "bodies") = some (.ref D)) :
    LoopNext (left + 1) (LoInv w vw loose mean mg mb FF NN BB s l ls bs I) { s with heap := h5, toks := tk } := by
  have mD : (D, listOf (its.push (.ref En)) cd) ∈ (En, listOf #[.str (S b.1) k0, .ref Sh] ce) :: (W2, listOf restv.toArray 0) :: (Sh, listOf acc cc) :: (W, listOf ws cw) :: (D, listOf (its.push (.ref En)) cd) :: (I, o3) :: tl := by simp
  have mI : (I, o3) ∈ (En, listOf #[.str (S b.1) k0, .ref Sh] ce) :: (W2, listOf restv.toArray 0) :: (Sh, listOf acc cc) :: (W, listOf ws cw) :: (D, listOf (its.push (.ref En)) cd) :: (I, o3) :: tl := by simp
  have mS : (Sh, listOf acc cc) ∈ (En, listOf #[.str (S b.1) k0, .ref Sh] ce) :: (W2, listOf restv.toArray 0) :: (Sh, listOf acc cc) :: (W, listOf ws cw) :: (D, listOf (its.push (.ref En)) cd) :: (I, o3) :: tl := by simp
  have mW2 : (W2, listOf restv.toArray 0) ∈ (En, listOf #[.str (S b.1) k0, .ref Sh] ce) :: (W2, listOf restv.toArray 0) :: (Sh, listOf acc cc) :: (W, listOf ws cw) :: (D, listOf (its.push (.ref En)) cd) :: (I, o3) :: tl := by simp
  have mW : (W, listOf ws cw) ∈ (En, listOf #[.str (S b.1) k0, .ref Sh] ce) :: (W2, listOf restv.toArray 0) :: (Sh, listOf acc cc) :: (W, listOf ws cw) :: (D, listOf (its.push (.ref En)) cd) :: (I, o3) :: tl := by simp
  have dS : Sh ≠ D := lo_neq N5 mS mD fun e => by
    have e1 : acc = its.push (.ref En) := by injection e with _ _ e; injection e
    exact strs_noref SA En (by rw [e1]; simp)
  have dW2 : W2 ≠ D := lo_neq N5 mW2 mD fun e => by
    have e1 : restv.toArray = its.push (.ref En) := by injection e with _ _ e; injection e
    exact strs_noref SR En (by
      have : restv = restv.toArray.toList := by simp
      rw [this, e1]; simp)
  have iS : Sh ≠ I := lo_neq N5 mS mI (it_list hI3)
  have iW2 : W2 ≠ I := lo_neq N5 mW2 mI (it_list hI3)
  have iW : W ≠ I := lo_neq N5 mW mI (it_list hI3)
  have ltD := allLt_mem hEn (D, listOf its c) (by simp)
  have ltI := allLt_mem hEn (I, o3) (by simp)
  dsimp only at ltD ltI
  have dE : En ≠ D := neN (by omega)
  have iE : En ≠ I := neN (by omega)
  refine ⟨left, Nat.lt_succ_self _, j + 1, g3, its.push (.ref En), cd, o3, (En, listOf #[.str (S b.1) k0, .ref Sh] ce) :: (W2, listOf restv.toArray 0) :: (Sh, listOf acc cc) :: (W, listOf ws cw) :: tl, m2, h5, tk, rfl, by omega, KT.trans KT3, B3, X3, T3, F5, ?_, hI3, ?_, ?_, ?_, by simp [hsz], hm⟩
  · intro q hq
    refine N5 q ?_
    simp only [List.mem_cons] at hq ⊢
    rcases hq with h | h | h | h | h | h | h
    · exact .inr (.inr (.inr (.inr (.inl h))))
    · exact .inr (.inr (.inr (.inr (.inr (.inl h)))))
    · exact .inl h
    · exact .inr (.inl h)
    · exact .inr (.inr (.inl h))
    · exact .inr (.inr (.inr (.inl h)))
    · exact .inr (.inr (.inr (.inr (.inr (.inr h)))))
  · intro p hp
    simp only [List.mem_cons] at hp
    rcases hp with rfl | rfl | rfl | rfl | rfl | hp
    · exact hD _ (.head _)
    · exact dE
    · exact dW2
    · exact dS
    · exact hWD
    · exact hD p (.tail _ hp)
  · intro p hp
    simp only [List.mem_cons] at hp
    rcases hp with rfl | rfl | rfl | rfl | hp
    · exact iE
    · exact iW2
    · exact iS
    · exact iW
    · exact hIt p hp
  · rw [Array.toList_push, List.take_add_one, eb, List.map_append]
    exact (BI.mono fun p hp => by simp [hp]).snoc (.head _) (.tail _ (.tail _ (.head _))) SA
theorem lo_reord {g h : Heap} {L D I W : Addr} {a b c : Obj} {tl : List (Addr × Obj)} (N : News g L h ((W, a) :: (I, b) :: (D, c) :: tl)) : News g L h ((W, a) :: (D, c) :: (I, b) :: tl) := fun q hq => N q (by
  simp only [List.mem_cons] at hq ⊢
  rcases hq with h | h | h | h
  · exact .inl h
  · exact .inr (.inr (.inl h))
  · exact .inr (.inl h)
  · exact .inr (.inr (.inr h)))
section
variable {w : World} {vw : Program} {loose : List Str} {mean : ExcName → Option Value} {mg mb : Str → Option Value}
theorem law_read0 {l : Addr} {items : Array Value} {cl0 : Nat} {ls : List (List Nat)} {bs : List (List Nat × List (List Nat))} (SL : Strs items.toList ls) (hlen : bs.length = ls.length) (HB : ∀ (i : Nat) line b, ls[i]? = some line → bs[i]? = some b → LineOk line b) (hls : ls.length ≤ 1000)
    {dp un : Nat} {gd : Option (List Code)} {cn : Str} {cs' : Scope} {a : Addr} {ccd : Value} {cl : List (Str × Addr)} {outer : List Env} {A₀ : Around} {base h₀ : Heap} {L : Addr} {m : Str → Option Value} {s : Shared} {Q E : Value → Shared → Prop}
    (B : Below A₀ base outer h₀) (F : Fr h₀ L s.heap m) (X : (Mine.K w.params).In h₀) (T₀ : Top vw loose mean mg mb h₀) (XB : (Mine.K w.params).In base) (TB : Top vw loose mean mg mb base) (hk : cs'.kind = .function)
    (hd : dp + 100 < recursionLimit) (hu : un + 1500 < cLine) (hl : s.heap.get? l = some (listOf items cl0))
    (hret : ∀ (D : Addr) (its : Array Value) (c : Nat) (tl : List (Addr × Obj)) (h' : Heap) (tk' : Nat), BodiesIn tl its.toList (bs.map fun b => (b.1, b.2.map (shortOf b.1))) → UpS (L :: outer.filterMap (·.frame)) s.heap h' →
      (∀ p ∈ (D, listOf its c) :: tl, h'.get? p.1 = some p.2 ∧ s.heap.get? p.1 = none) → Q (.ref D) { s with heap := h', toks := tk' }) :
      wpAny (model Challenge.rw_ij0133_01.row.prog w) (ktrTop dp un gd cn cs' L a ccd cl outer) (call (.ref 801) [.ref l]) Q E s := by
  cases cs'; dsimp only at hk; subst hk
  refine wpAny_call ?_
  k_dflt (refine' code_defU ?k1 ?k2 ?k3 ?k5 ?kA ?kF ?kK ?k6 ?k7 ?k8 ?k9 ?kB ?_ ?c2 ?c3 ?c4 ?c5; (case kA => exact rfl); (case kF => exact rfl); (case kK => first | exact rfl | assumption); (case k1 => k_asm); (case k2 => k_asm); (case k3 => k_asm); (case k5 => k_asm); (case k6 => k_is); (case k7 => k_is); (case k8 => k_room); (case k9 => first | exact BindsTo.of_eq rfl | exact binds_K (by k_in) rfl (by k_is) rfl rfl rfl); (case c5 => decide); (case kB => exact locs rfl); (case c2 => exact rfl); (case c3 => exact rfl); (case c4 => exact rfl); intro g' L' h' FG' F' N' B' X' T' G'; (try dsimp only); (try k_lift B'); (try k_fold))
  (repeat' (first | ((with_reducible show wpAny _ _ (exec (Stmt.For _ _ _ _ _) _) _ _ _); (rename Fr _ _ _ _ => FF); (rename News _ _ _ _ => NN); (rename Below _ _ _ _ => BB); refine for_inv (LoInv w vw loose mean mg mb FF NN BB s l ls bs) ?_ ?_) | ((with_reducible show wpAny _ _ (pyIter _) _ _ _); fail) | ((with_reducible refine consQ_next ?_)) | ((with_reducible refine consQ_ret ?_)) | ((with_reducible refine consQ_brk ?_)) | ((with_reducible refine consQ_cont ?_)) | (with_reducible ((with_reducible show wpAny _ _ (execs (_ :: _) _) _ _ _); (k_here; (try dsimp only); (try (refine gen_toks ?_; intro tk)); first | refine execs_one ?_ | refine execs_consQ ?_))) | ((with_reducible refine wpAny_execs_nil ?_)) | (with_reducible ((with_reducible show wpAny _ _ (exec (PySem.Stmt.If _ _ _ _) _) _ _ _); (refine wpAny_If ?_))) | (k_unfold; (try dsimp only)) | walk1 | (dsimp only; walk1) | (leave1; walk_say "STEP leave1"; try dsimp only) | fail "no step"))
  · (rename Fr _ _ _ _ => FR); (rename News _ _ _ _ => NR)
    have hg : g'.get? l = some (listOf items cl0) := G' l _ hl (by simp)
    have hl' : Heap.IsList _ l items := ⟨_, FR.keep _ _ hg, rfl, _, rfl⟩
    refine it_start FR NR hl' fun I o h2 F2 N2 l1 hI hl2 => ?_
    refine ⟨I, ls.length, rfl, 0, g', #[], _, o, [], _, h2, _, rfl, by omega, KtsTurn.refl, by assumption, by assumption, by assumption, F2, (fun q hq => N2 q (by simp only [List.mem_cons, List.not_mem_nil, or_false] at hq ⊢; exact hq.symm)), hI, ?_, (fun _ h => nomatch h), .nil, rfl, rfl⟩
    intro p hp
    simp only [List.mem_cons, List.not_mem_nil, or_false] at hp
    subst hp
    exact Ne.symm (Nat.ne_of_lt (l1 _ (.head _)))
  · rename_i I left s' hI
    obtain ⟨j, g2, its, c, o, tl, m2, h2, tk2, rfl, hc, KT, B2, X2, T2, F2, N2, hI, hD, hIt, BI, hsz, m1⟩ := hI
    have hg : g'.get? l = some (listOf items cl0) := G' l _ hl (by simp)
    obtain ⟨sl, hg2⟩ := KT.up hg
    have hl2 : h2.IsList l items := ⟨_, F2.keep _ _ hg2, rfl, _, rfl⟩
    have N3 : News g2 _ h2 ((I, o) :: (_, listOf its c) :: tl) := fun q hq => N2 q (by simp only [List.mem_cons] at hq ⊢; rcases hq with h | h | h; exact .inr (.inl h); exact .inl h; exact .inr (.inr h))
    have F2 := fr_put F2 m1
    have hne := lo_ne N3 hD hIt
    have hil : items.size = ls.length := by have := SL.len; simpa using this
    cases left with
    | zero =>
      refine it_end rfl F2 N3 hne hI hl2 (by rw [Array.getElem?_eq_none]; omega) fun h3 F3 N4 => ?_
      have hj : j = ls.length := by omega
      subst hj
      rw [List.take_of_length_le (by omega)] at BI
      dsimp only
      (repeat' (first | ((with_reducible refine consQ_next ?_)) | ((with_reducible refine consQ_ret ?_)) | ((with_reducible refine consQ_brk ?_)) | ((with_reducible refine consQ_cont ?_)) | (with_reducible ((with_reducible show wpAny _ _ (execs (_ :: _) _) _ _ _); (k_here; (try dsimp only); (try (refine gen_toks ?_; intro tk)); first | refine execs_one ?_ | refine execs_consQ ?_))) | ((with_reducible refine wpAny_execs_nil ?_)) | (with_reducible ((with_reducible show wpAny _ _ (exec (PySem.Stmt.If _ _ _ _) _) _ _ _); (refine wpAny_If ?_))) | (k_unfold; (try dsimp only)) | (dsimp only; k_unfold; (try dsimp only)) | walk1 | (dsimp only; walk1) | (leave1; walk_say "STEP leave1"; try dsimp only) | fail "no step"))
      all_goals (show Q _ _; exact hret _ its c tl _ _ BI (turn_up (fs := L :: outer.filterMap (fun e : Env => e.frame)) (by assumption) KT F3) (turn_news (fs := L :: outer.filterMap (fun e : Env => e.frame)) (by assumption) KT N4))
    | succ left =>
      have hj : j < ls.length := by omega
      obtain ⟨line, k, ex, ev⟩ := SL.get j _ (List.getElem?_eq_getElem (by have := SL.len; omega))
      obtain ⟨b, eb⟩ : ∃ b, bs[j]? = some b := ⟨_, List.getElem?_eq_getElem (by omega)⟩
      obtain ⟨TT, n1, n2, n3, n4⟩ := HB j line b ex eb
      have hgx : items[j]? = some (.str (S line) k) := by
        rw [← Array.getElem?_toList, List.getElem?_eq_getElem (by have := SL.len; omega), ev]
      have hbl : (S line).length ≤ 10000 := by rw [S_length]; exact n1
      have TT' : Toks .bl (S line).cps.toList (b.1 :: b.2) := TT
      have hts : (b.1 :: b.2).length ≤ 20000 := by rw [List.length_cons]; omega
      refine it_next F2 N3 hne hI hl2 hgx fun h3 o3 F3 N4 hI3 hl3 => ?_
      clear F2 N2 N3
      dsimp only
      (repeat' (first | ((with_reducible show wpAny _ _ (call (Value.ref 751) _ _) _ _ _); refine split_use hbl TT' hts (by assumption) (by assumption) (by assumption) X2 T2 XB TB rfl (by k_room) (by k_units) fun g3 W acc3 c3 h4 tk4 SS3 KT3 B3 X3 T3 F4 N5 hW => Hold.out ?_) | ((with_reducible refine consQ_next ?_)) | ((with_reducible refine consQ_ret ?_)) | ((with_reducible refine consQ_brk ?_)) | ((with_reducible refine consQ_cont ?_)) | (with_reducible ((with_reducible show wpAny _ _ (execs (_ :: _) _) _ _ _); (k_here; (try dsimp only); (try (refine gen_toks ?_; intro tk)); first | refine execs_one ?_ | refine execs_consQ ?_))) | ((with_reducible refine wpAny_execs_nil ?_)) | (with_reducible ((with_reducible show wpAny _ _ (exec (PySem.Stmt.If _ _ _ _) _) _ _ _); (refine wpAny_If ?_))) | (k_unfold; (try dsimp only)) | walk1 | (dsimp only; walk1) | (leave1; walk_say "STEP leave1"; try dsimp only) | fail "no step"))
      refine Hold.mk ?_
      obtain ⟨k0, restv, ea, SX⟩ := Strs.tail SS3
      have ea' : acc3 = (.str (S b.1) k0 :: restv).toArray := by rw [← ea]
      subst ea'
      dsimp only
      (repeat' (first | ((with_reducible show wpAny _ _ (execs _ _) _ _ _); refine Hold.out ?_) | ((with_reducible refine consQ_next ?_)) | ((with_reducible refine consQ_ret ?_)) | ((with_reducible refine consQ_brk ?_)) | ((with_reducible refine consQ_cont ?_)) | (with_reducible ((with_reducible show wpAny _ _ (execs (_ :: _) _) _ _ _); (k_here; (try dsimp only); (try (refine gen_toks ?_; intro tk)); first | refine execs_one ?_ | refine execs_consQ ?_))) | ((with_reducible refine wpAny_execs_nil ?_)) | (with_reducible ((with_reducible show wpAny _ _ (exec (PySem.Stmt.If _ _ _ _) _) _ _ _); (refine wpAny_If ?_))) | (k_unfold; (try dsimp only)) | walk1 | (dsimp only; walk1) | (leave1; walk_say "STEP leave1"; try dsimp only) | fail "no step"))
      refine Hold.mk ?_
      have hrl := SX.len
      refine' lr_turn SX ?pick ?wsz (by omega) ?hw0 ?hxl ?hitz ?hDW ?htl ?hb ?hrest (by assumption) (by assumption) (by assumption) ?hd ?hu (by assumption) rfl rfl (lo_reord (by assumption)) ?fin ?hE
      case hb => exact ⟨_, _, _, _, _, _, _, _, _, _, _, by k_is⟩
      case hrest => rfl
      case pick => simp [kms_pick, kms_lo, kms_hi]
      case wsz => (have h3 : sizeLine = 16777216 := rfl); simp; omega
      case hw0 => rw [S_length]; omega
      case hxl => intro x hx; rw [S_length]; have := n4 x hx; omega
      case hitz => have h3 : sizeLine = 16777216 := rfl; omega
      case hDW => exact Ne.symm (hW (_, listOf its c) (.tail _ (.head _)))
      case htl => intro p hp; rcases List.mem_cons.mp hp with rfl | hp; exact hD (I, o) (.head _); exact hD p (.tail _ hp)
      case hd => k_room
      case hu => k_units
      case hE => passes_own
      case fin =>
        intro En Sh W2 acc cc ce cd m5 h5 tk5 SA F5 mb5 N5 hEn
        dsimp only
        exact lo_end hc KT KT3 (by assumption) (by assumption) (by assumption) F5 N5 hI3 (fun p hp => by rcases List.mem_cons.mp hp with rfl | hp; exact hD (I, o) (.head _); exact hD p (.tail _ hp)) hIt (Ne.symm (hW (_, listOf its c) (.tail _ (.head _)))) hEn SA SX BI hsz eb mb5
end
noncomputable def NmOk (n : List Nat) : Prop := InSig n ∧ n.length ≤ 10
noncomputable def OwOk (o : List Nat) : Prop := InSig o ∧ o.length ≤ 4
/-- the rows: lists of names in a ledger -/
inductive RowsIn (news : List (Addr × Obj)) : List Value → List (List (List Nat)) → Prop
  | nil : RowsIn news [] []
  | cons {A : Addr} {acc : Array Value} {c : Nat} {r : List (List Nat)} {vs : List Value} {rs : List (List (List Nat))} : (A, listOf acc c) ∈ news → Strs acc.toList r → RowsIn news vs rs → RowsIn news (.ref A :: vs) (r :: rs)
theorem RowsIn.mono {n1 n2 : List (Addr × Obj)} (h : ∀ p ∈ n1, p ∈ n2) : ∀ {vs : List Value} {rs : List (List (List Nat))}, RowsIn n1 vs rs → RowsIn n2 vs rs
  | _, _, .nil => .nil
  | _, _, .cons a b r => .cons (h _ a) b (r.mono h)
theorem RowsIn.snoc {news : List (Addr × Obj)} {A : Addr} {acc : Array Value} {c : Nat} {r : List (List Nat)} (a : (A, listOf acc c) ∈ news) (b : Strs acc.toList r) : ∀ {vs : List Value} {rs : List (List (List Nat))}, RowsIn news vs rs → RowsIn news (vs ++ [.ref A]) (rs ++ [r])
  | _, _, .nil => .cons a b .nil
  | _, _, .cons a' b' t => .cons a' b' (t.snoc a b)
theorem RowsIn.len {news : List (Addr × Obj)} : ∀ {vs : List Value} {rs : List (List (List Nat))}, RowsIn news vs rs → vs.length = rs.length
  | _, _, .nil => rfl
  | _, _, .cons _ _ t => by simp [t.len]
/-- a ledger's addresses are apart -/
noncomputable def Apart (l : List (Addr × Obj)) : Prop := l.Pairwise (fun p q => @Ne Nat q.1 p.1)
theorem apart_fst {l l' : List (Addr × Obj)} (h : Apart l) (e : l.map (·.1) = l'.map (·.1)) : Apart l' := by
  have h1 : (l.map (·.1)).Pairwise (fun a b => @Ne Nat b a) := List.pairwise_map.mpr h
  rw [e] at h1
  exact List.pairwise_map.mp h1
theorem apart_perm {l l' : List (Addr × Obj)} (h : Apart l) (p : l.Perm l') : Apart l' := List.Perm.pairwise p h fun e z => e z.symm
theorem apart_new {l : List (Addr × Obj)} {D : Addr} {o : Obj} (h : Apart l) (k : AllLt D l) : Apart ((D, o) :: l) := List.Pairwise.cons (fun p hp => Nat.ne_of_lt (allLt_mem k p hp)) h
noncomputable def RowOk (r : List (List Nat)) : Prop := ∀ n ∈ r, NmOk n
noncomputable abbrev drLed (I LR RW OW cK cO DR : Addr) (o oK oO : Obj) (acc ov dv : Array Value) (rv : List Value) (cc cr co cd : Nat) (ps : Array Value) (tl : List (Addr × Obj)) : List (Addr × Obj) :=
  (I, o) :: (LR, listOf acc cc) :: (RW, listOf (rv ++ [Value.ref LR]).toArray cr) :: (OW, listOf ov co) :: (cK, oK) :: (cO, oO) :: (DR, listOf dv cd) :: (753, tabObj ps) :: tl
noncomputable def DrInv {g h : Heap} {L : Addr} {m : Str → Option Value} {news : List (Addr × Obj)} (_F : Fr g L h m) (_N : News g L h news) (s : Shared) (cK cO DR : Addr) (oK : Obj) (dv : Array Value) (cd : Nat) (ps : Array Value) : Addr → Nat → Shared → Prop := fun I left s' =>
  ∃ (j : Nat) (O : List (List Nat)) (R : List (List (List Nat))) (r : List (List Nat)) (ov : Array Value) (co : Nat) (rv : List Value) (cr : Nat) (acc : Array Value) (cc : Nat) (LR RW OW : Addr) (oO o : Obj) (tl : List (Addr × Obj)) (m' : Str → Option Value) (h' : Heap) (tk' : Nat),
   s' = { s with heap := h', toks := tk' } ∧ j + left = dv.size ∧ Strs ov.toList O ∧ RowsIn tl rv R ∧ Strs acc.toList r ∧ O.length = R.length + 1 ∧ O.length ≤ 4 ∧ (∀ o ∈ O, OwOk o) ∧ (∀ r' ∈ R, RowOk r') ∧ RowOk r ∧ (R.map List.length).sum + r.length ≤ 2 + j ∧
   oO.data = .cell (some (.ref OW)) ∧ Fr g L h' m' ∧ News g L h' (drLed I LR RW OW cK cO DR o oK oO acc ov dv rv cc cr co cd ps tl) ∧ IsIt o DR j ∧ Apart (drLed I LR RW OW cK cO DR o oK oO acc ov dv rv cc cr co cd ps tl) ∧ m' (Str.ofString "rows") = some (.ref RW)
theorem strs_size {acc : Array Value} {r : List (List Nat)} (h : Strs acc.toList r) : acc.size = r.length := by have := h.len; simpa using this
theorem nm_of {n : List Nat} (h : n ∈ nameL) : NmOk n := ⟨name_sig n h, name_len n h⟩
theorem ow_of {n : List Nat} (h : n ∈ clsL) : OwOk n := ⟨cls_sig n h, cls_len n h⟩
section
variable {g h : Heap} {L : Addr} {m : Str → Option Value} {news : List (Addr × Obj)} {FF : Fr g L h m} {NN : News g L h news} {s : Shared} {I LR RW OW cK cO DR : Addr} {o oK oO : Obj} {acc ov dv ps : Array Value} {rv : List Value} {cc cr co cd : Nat} {tl : List (Addr × Obj)} {j left : Nat} {O : List (List Nat)} {R : List (List (List Nat))} {r : List (List Nat)} {m' : Str → Option Value} {h' : Heap} {tk : Nat}
/-- nothing was added -/
theorem dr_end0 (hc : j + (left + 1) = dv.size) (SO : Strs ov.toList O) (SR : RowsIn tl rv R) (Sr : Strs acc.toList r) (hO : O.length = R.length + 1) (hO4 : O.length ≤ 4) (okO : ∀ o ∈ O, OwOk o) (okR : ∀ r' ∈ R, RowOk r') (okr : RowOk r) (hsum : (R.map List.length).sum + r.length ≤ 2 + j) (hoO : oO.data = .cell (some (.ref OW)))
    (F : Fr g L h' m') (N : News g L h' (drLed I LR RW OW cK cO DR o oK oO acc ov dv rv cc cr co cd ps tl)) (hI : IsIt o DR (j + 1)) (hA : Apart (drLed I LR RW OW cK cO DR o oK oO acc ov dv rv cc cr co cd ps tl)) (m1 : m' (Str.ofString "rows") = some (.ref RW)) :
    LoopNext (left + 1) (DrInv FF NN s cK cO DR oK dv cd ps I) { s with heap := h', toks := tk } :=
  ⟨left, Nat.lt_succ_self _, j + 1, O, R, r, ov, co, rv, cr, acc, cc, LR, RW, OW, oO, o, tl, m', h', tk, rfl, by omega, SO, SR, Sr, hO, hO4, okO, okR, okr, by omega, hoO, F, N, hI, hA, m1⟩
/-- a name was added -/
theorem dr_endN {nm : List Nat} {t : Tok} (hn : nm ∈ nameL) (hc : j + (left + 1) = dv.size) (SO : Strs ov.toList O) (SR : RowsIn tl rv R) (Sr : Strs acc.toList r) (hO : O.length = R.length + 1) (hO4 : O.length ≤ 4) (okO : ∀ o ∈ O, OwOk o) (okR : ∀ r' ∈ R, RowOk r') (okr : RowOk r) (hsum : (R.map List.length).sum + r.length ≤ 2 + j) (hoO : oO.data = .cell (some (.ref OW)))
    (F : Fr g L h' m') (N : News g L h' (drLed I LR RW OW cK cO DR o oK oO (acc.push (.str (S nm) t)) ov dv rv (cc + 1) cr co cd ps tl)) (hI : IsIt o DR (j + 1)) (hA : Apart (drLed I LR RW OW cK cO DR o oK oO acc ov dv rv cc cr co cd ps tl)) (m1 : m' (Str.ofString "rows") = some (.ref RW)) :
    LoopNext (left + 1) (DrInv FF NN s cK cO DR oK dv cd ps I) { s with heap := h', toks := tk } := by
  refine ⟨left, Nat.lt_succ_self _, j + 1, O, R, r ++ [nm], ov, co, rv, cr, acc.push (.str (S nm) t), cc + 1, LR, RW, OW, oO, o, tl, m', h', tk, rfl, by omega, SO, SR, ?_, hO, hO4, okO, okR, ?_, ?_, hoO, F, N, hI, ?_, m1⟩
  · rw [Array.toList_push]; exact Sr.snoc _ _
  · intro n hn'
    rcases List.mem_append.mp hn' with h1 | h1
    · exact okr n h1
    · rw [List.mem_singleton.mp h1]; exact nm_of hn
  · rw [List.length_append, List.length_singleton]; omega
  · exact apart_fst hA rfl
/-- a class was added -/
theorem dr_endC {ow : List Nat} {t : Tok} {D : Addr} {d : Nat} (hn : ow ∈ clsL) (h4 : (ov.size : Int) < 4) (hc : j + (left + 1) = dv.size) (SO : Strs ov.toList O) (SR : RowsIn tl rv R) (Sr : Strs acc.toList r) (hO : O.length = R.length + 1) (okO : ∀ o ∈ O, OwOk o) (okR : ∀ r' ∈ R, RowOk r') (okr : RowOk r) (hsum : (R.map List.length).sum + r.length ≤ 2 + j) (hoO : oO.data = .cell (some (.ref OW)))
    (F : Fr g L h' m') (N : News g L h' ((D, listOf #[] d) :: (I, o) :: (LR, listOf acc cc) :: (RW, listOf ((rv ++ [Value.ref LR]).toArray.push (.ref D)) (cr + 1)) :: (OW, listOf (ov.push (.str (S ow) t)) (co + 1)) :: (cK, oK) :: (cO, oO) :: (DR, listOf dv cd) :: (753, tabObj ps) :: tl)) (hI : IsIt o DR (j + 1)) (hA : Apart (drLed I LR RW OW cK cO DR o oK oO acc ov dv rv cc cr co cd ps tl)) (m1 : m' (Str.ofString "rows") = some (.ref RW))
    (hD : AllLt D (drLed I LR RW OW cK cO DR o oK oO acc ov dv rv cc cr co cd ps tl)) :
    LoopNext (left + 1) (DrInv FF NN s cK cO DR oK dv cd ps I) { s with heap := h', toks := tk } := by
  have hs := strs_size SO
  have e1 : (rv ++ [Value.ref LR]).toArray.push (.ref D) = ((rv ++ [Value.ref LR]) ++ [Value.ref D]).toArray := by simp
  rw [e1] at N
  refine ⟨left, Nat.lt_succ_self _, j + 1, O ++ [ow], R ++ [r], [], ov.push (.str (S ow) t), co + 1, rv ++ [Value.ref LR], cr + 1, #[], d, D, RW, OW, oO, o, (LR, listOf acc cc) :: tl, m', h', tk, rfl, by omega, ?_, ?_, .nil, ?_, ?_, ?_, ?_, ?_, ?_, hoO, F, ?_, hI, ?_, m1⟩
  · rw [Array.toList_push]; exact SO.snoc _ _
  · exact (SR.mono fun p hp => .tail _ hp).snoc (.head _) Sr
  · simp only [List.length_append, List.length_singleton]; omega
  · simp only [List.length_append, List.length_singleton]; omega
  · intro n hn'
    rcases List.mem_append.mp hn' with h1 | h1
    · exact okO n h1
    · rw [List.mem_singleton.mp h1]; exact ow_of hn
  · intro r' hr'
    rcases List.mem_append.mp hr' with h1 | h1
    · exact okR r' h1
    · rw [List.mem_singleton.mp h1]; exact okr
  · exact fun n hn' => by cases hn'
  · rw [List.map_append, List.sum_append]; simp; omega
  · intro q hq
    refine N q ?_
    simp only [List.mem_cons] at hq ⊢
    rcases hq with h | h | h | h | h | h | h | h | h | h <;> simp [h]
  · have h1 := apart_new (o := listOf #[] d) hA hD
    have h2 := apart_perm h1 ((List.Perm.swap _ _ _).trans (.cons _ (.cons _ (List.perm_middle (l₁ := [(RW, listOf (rv ++ [Value.ref LR]).toArray cr), (OW, listOf ov co), (cK, oK), (cO, oO), (DR, listOf dv cd), (753, tabObj ps)])).symm)))
    exact apart_fst h2 rfl
end
theorem apart_swap {I LR RW OW cK cO DR : Addr} {o o' oK oO : Obj} {acc ov dv ps : Array Value} {rv : List Value} {cc cr co cd : Nat} {tl : List (Addr × Obj)} (hA : Apart (drLed I LR RW OW cK cO DR o oK oO acc ov dv rv cc cr co cd ps tl)) : Apart (drLed I LR RW OW cK cO DR o' oK oO acc ov dv rv cc cr co cd ps tl) := apart_fst hA rfl
theorem len_sym {prog : Program} {w : World} {A : Around} {E : Value → Shared → Prop} {s : Shared} {g : Heap} {L l : Addr} {items : Array Value} {c : Nat} {news : List (Addr × Obj)} {Q : Value → Shared → Prop} (N : News g L s.heap news) (hm : (l, listOf items c) ∈ news) (hz : items.size ≤ sizeLine)
    (h : Q (.int (items.size : Nat) (s.toks + 1)) { s with toks := s.toks + 1 + 1 }) : wpAny (model prog w) A (call (.builtin "len") [.ref l]) Q E s :=
  KM.len_K N hm rfl (by have h3 : sizeLine = 16777216 := rfl; omega) h
theorem last_idx (n : Nat) : seqIndex? (-1) (n + 1) = some n := by
  unfold seqIndex?
  have h1 : (-1 : Int) < 0 := by omega
  simp only [h1, if_true]
  have h2 : (decide (0 ≤ (-1 : Int) + ((n + 1 : Nat) : Int)) && decide ((-1 : Int) + ((n + 1 : Nat) : Int) < ((n + 1 : Nat) : Int))) = true := by
    rw [decide_eq_true (by omega), decide_eq_true (by omega)]; rfl
  rw [if_pos h2]
  congr 1
  omega
theorem last_sub {prog : Program} {w : World} {A : Around} {E : Value → Shared → Prop} {s : Shared} {value slice : PySem.Expr} {g : Heap} {L l : Addr} {rv : List Value} {x : Value} {c : Nat} {u : Tok} {news : List (Addr × Obj)} {Q : Value → Shared → Prop} (N : News g L s.heap news) (hm : (l, listOf (rv ++ [x]).toArray c) ∈ news) (h : Q x s)
    (hs : subscripted slice false (.ref l) (.int (-1) u) = operate [.ref l, .int (-1) u] (getItem (.ref l) (.int (-1) u)) := by with_unfolding_all rfl) :
    wpAny (model prog w) A (subscriptTail value slice (.ref l) (.int (-1) u)) Q E s :=
  kde_neg (j := rv.length) ⟨_, N.get hm, rfl, _, rfl⟩ (by decide) (by decide) (by rw [List.length_append, List.length_singleton]; exact last_idx _) (by simp) h hs
local macro_rules | `(tactic| k_all) => `(tactic| first | exact List.forall_mem_nil _ | with_reducible assumption | (refine' List.forall_mem_cons.mpr ⟨?a, ?b⟩; (case a => k_ne); (case b => k_all)))
section
variable {w : World} {vw : Program} {loose : List Str} {mean : ExcName → Option Value} {mg mb : Str → Option Value}
theorem la_for {b1 b2 b3 b5 b6 b7 b8 b9 b10 b11 b12 : Stmt} {v1 : Str} {p1 q1 : Pos} {it1 : PySem.Expr} {bd1 : List Stmt} {qual : Str} {scope : Scope}
    (hb : ∃ oc od name params dV kV doc pm an cdv ct osl, List.lookup 806 (Mine.K w.params) = some ⟨oc, od, .func (fnOf name qual params [b1, b2, b3, .For (.Name v1 p1) it1 bd1 [] q1, b5, b6, b7, b8, b9, b10, b11, b12] scope dV kV doc pm an cdv ct), osl⟩)
    {dp un : Nat} {gd : Option (List Code)} {a : Addr} {ccd : Value} {cl : List (Str × Addr)} {A₀ : Around} {base h₀ : Heap} {L cK cO DR LR RW OW : Addr} {m' : Str → Option Value} {s : Shared} {Qf : Flow → Shared → Prop} {E : Value → Shared → Prop} {oK oO : Obj} {dv acc ov ps : Array Value} {cd cc cr co : Nat} {ns : List Int} {k1 k2 k3 : Tok}
    (hcl : cl = [(Str.ofString "k", cK), (Str.ofString "owners", cO)])
    (B : Below A₀ base [] h₀) (X : (Mine.K w.params).In h₀) (T₀ : Top vw loose mean mg mb h₀) (hd : dp + 100 < recursionLimit) (hu : un + 1500 < cLine)
    (F : Fr h₀ L s.heap m') (f1 : m' (Str.ofString "drawn") = some (.ref DR)) (f2 : m' (Str.ofString "rows") = some (.ref RW)) (hns : IntsAre dv.toList ns) (hdv : dv.size ≤ 8)
    (SO : Strs ov.toList [[97]]) (Sr : Strs acc.toList [[95, 95, 120], [95, 97, 95, 95, 121]]) (okr : RowOk [[95, 95, 120], [95, 97, 95, 95, 121]]) (hoO : oO.data = .cell (some (.ref OW)))
    (N : News h₀ L s.heap ((LR, listOf acc cc) :: (RW, listOf #[.ref LR] cr) :: (OW, listOf ov co) :: (cK, oK) :: (cO, oO) :: (DR, listOf dv cd) :: [(753, tabObj ps)])) (hA : Apart ((LR, listOf acc cc) :: (RW, listOf #[.ref LR] cr) :: (OW, listOf ov co) :: (cK, oK) :: (cO, oO) :: (DR, listOf dv cd) :: [(753, tabObj ps)]))
    (hfin : ∀ (O : List (List Nat)) (R : List (List (List Nat))) (ov : Array Value) (co cr : Nat) (rv : List Value) (RW OW : Addr) (oO : Obj) (tl : List (Addr × Obj)) (m2 : Str → Option Value) (h2 : Heap) (tk : Nat), Strs ov.toList O → RowsIn tl rv R → O.length = R.length → O.length ≤ 4 → 0 < O.length → (∀ o ∈ O, OwOk o) → (∀ r' ∈ R, RowOk r') → (R.map List.length).sum ≤ 10 →
      oO.data = .cell (some (.ref OW)) → Fr h₀ L h2 m2 → News h₀ L h2 ((RW, listOf rv.toArray cr) :: (OW, listOf ov co) :: (cK, oK) :: (cO, oO) :: (753, tabObj ps) :: tl) → Apart ((RW, listOf rv.toArray cr) :: (OW, listOf ov co) :: (cK, oK) :: (cO, oO) :: (753, tabObj ps) :: tl) → m2 (Str.ofString "rows") = some (.ref RW) → Qf .next { s with heap := h2, toks := tk })
    (hE : PassesOwn (model Challenge.rw_ij0133_01.row.prog w) (ktrTop dp un gd qual scope L a ccd cl []) (envX qual scope L a ccd cl) E) :
    wpAny (model Challenge.rw_ij0133_01.row.prog w) (ktrTop dp un gd qual scope L a ccd cl []) (exec (.For (.Name v1 p1) it1 bd1 [] q1) (envX qual scope L a ccd cl)) Qf E s := by
  have F0 := fr_put2 F f1 f2
  clear F
  obtain ⟨oc, od, name, params, dV, kV, doc, pm, an, cdv, ct, osl, e⟩ := hb
  refine' rt_elim e ?lit ?_
  (case lit => k_is)
  intro e2
  cases e2
  clear e
  subst hcl
  refine for_inv (DrInv F0 N s cK cO DR oK dv cd ps) ?_ ?_
  · (repeat' (first | ((with_reducible refine consQ_next ?_)) | ((with_reducible refine consQ_ret ?_)) | ((with_reducible refine consQ_brk ?_)) | ((with_reducible refine consQ_cont ?_)) | (with_reducible ((with_reducible show wpAny _ _ (execs (_ :: _) _) _ _ _); (k_here; (try dsimp only); (try (refine gen_toks ?_; intro tk)); first | refine execs_one ?_ | refine execs_consQ ?_))) | ((with_reducible refine wpAny_execs_nil ?_)) | (((k_here; (with_reducible show wpAny _ _ (subscriptTail _ _ (Value.ref _) (Value.int _ _)) _ _ _); k_dflt (refine' last_sub ?Nzq ?hmzq ?_ ?hszq; (case Nzq => k_asm); (case hmzq => k_mem); (case hszq => with_unfolding_all rfl))))) | (((k_here; (with_reducible show wpAny _ _ (call (Value.ref 773) _ _) _ _ _); k_dflt (refine' ctr_use (law_class _ _) ?Bzq ?Fzq ?Nzq ?Xzq ?Tzq ?hkzq ?hdzq ?huzq ?_; (case Bzq | Fzq | Nzq | Xzq | Tzq => k_asm); (case hkzq => first | exact rfl | assumption); (case hdzq => k_room); (case huzq => k_units); k_whole; intro v' h' tk' F' N' hh'; obtain ⟨nm', hn', t', e'⟩ := hh'.out; subst e'; (try k_sweep))))) | (((k_here; (with_reducible show wpAny _ _ (call (Value.ref 780) _ _) _ _ _); k_dflt (refine' ctr_use (law_name _ _) ?Bzq ?Fzq ?Nzq ?Xzq ?Tzq ?hkzq ?hdzq ?huzq ?_; (case Bzq | Fzq | Nzq | Xzq | Tzq => k_asm); (case hkzq => first | exact rfl | assumption); (case hdzq => k_room); (case huzq => k_units); k_whole; intro v' h' tk' F' N' hh'; obtain ⟨nm', hn', t', e'⟩ := hh'.out; subst e'; (try k_sweep))))) | (((k_here; (with_reducible show wpAny _ _ (call (Value.builtin _) [Value.ref _]) _ _ _); k_dflt (refine' len_sym ?Nzq ?hmzq ?hzzq ?_; (case Nzq => k_asm); (case hmzq => k_mem); (case hzzq => with_reducible assumption))))) | (((k_here; (with_reducible show wpAny _ _ (call (Value.builtin _) [Value.ref _, _]) _ _ _); k_dflt (refine' append_K ?k1zq ?k2zq ?k3zq ?_ ?zzq; (case k1zq | k2zq => k_asm); (case k3zq => k_upd); (case zzq => with_reducible assumption); k_whole); intro h' F' N'; (try k_sweep)))) | (with_reducible ((with_reducible show wpAny _ _ (exec (PySem.Stmt.If _ _ _ _) _) _ _ _); (refine wpAny_If ?_))) | (k_unfold; (try dsimp only)) | walk1 | (dsimp only; walk1) | (leave1; walk_say "STEP leave1"; try dsimp only) | fail "no step"))
    (rename Fr _ _ _ _ => FR); (rename News _ _ _ _ => NR)
    have hl : Heap.IsList _ DR dv := ⟨_, NR.get (show (DR, listOf dv cd) ∈ _ by k_mem), rfl, _, rfl⟩
    refine it_start FR NR hl fun I o h' F' N' l1 hI hl' => ?_
    refine ⟨I, dv.size, rfl, 0, [[97]], [], [[95, 95, 120], [95, 97, 95, 95, 121]], ov, co, [], cr, acc, cc, LR, RW, OW, oO, o, [], _, h', _, rfl, by omega, SO, .nil, Sr, rfl, by decide, ?_, (fun _ h => nomatch h), okr, by decide, hoO, F', N', hI, ?_, rfl⟩
    · intro o ho
      rw [List.mem_singleton.mp ho]
      exact ow_of (by decide)
    · exact List.Pairwise.cons (fun p hp => by have := l1 p hp; have h2 : @LT.lt Nat _ p.1 I := this; omega) hA
  · intro I left s' hI
    obtain ⟨j, O, R, r, ov2, co2, rv, cr2, acc2, cc2, LR2, RW2, OW2, oO2, o, tl, m2, h2, tk2, rfl, hc, SO2, SR2, Sr2, hO, hO4, okO, okR, okr2, hsum, hoO2, F2, N2, hI, hA2, m1⟩ := hI
    have F2 := fr_put F2 m1
    have hA3 := hA2
    simp only [Apart, drLed, List.pairwise_cons, List.mem_cons, forall_eq_or_imp] at hA3
    obtain ⟨⟨a1, a2, a3, a4, a5, a6, a7, a8⟩, ⟨b1, b2, b3, b4, b5, b6, b7⟩, ⟨c1, c2, c3, c4, c5, c6⟩, ⟨e1, e2, e3, e4, e5⟩, ⟨f1, f2, f3, f4⟩, ⟨g1, g2, g3⟩, ⟨k1, k2⟩, l1, l2⟩ := hA3
    have a7' : ∀ p ∈ tl, p.1 ≠ I := a8
    have b6' : ∀ p ∈ tl, p.1 ≠ LR2 := b7
    have c5' : ∀ p ∈ tl, p.1 ≠ RW2 := c6
    have e4' : ∀ p ∈ tl, p.1 ≠ OW2 := e5
    have hne : ∀ p ∈ (LR2, listOf acc2 cc2) :: (RW2, listOf (rv ++ [Value.ref LR2]).toArray cr2) :: (OW2, listOf ov2 co2) :: (cK, oK) :: (cO, oO2) :: (DR, listOf dv cd) :: (753, tabObj ps) :: tl, p.1 ≠ I := fun p hp => by
      have := (List.pairwise_cons.mp hA2).1 p hp
      exact this
    have hl : h2.IsList DR dv := ⟨_, N2.get (show (DR, listOf dv cd) ∈ _ by k_mem), rfl, _, rfl⟩
    cases left with
    | zero =>
      refine it_end rfl F2 N2 hne hI hl (by rw [Array.getElem?_eq_none]; omega) fun h3 F3 N3 => ?_
      dsimp only
      refine hfin O (R ++ [r]) ov2 co2 cr2 (rv ++ [Value.ref LR2]) RW2 OW2 oO2 ((DR, listOf dv cd) :: (LR2, listOf acc2 cc2) :: tl) _ h3 _ SO2 ?_ ?_ hO4 (by omega) okO ?_ ?_ hoO2 F3 ?_ ?_ rfl
      · exact (SR2.mono fun p hp => .tail _ (.tail _ hp)).snoc (.tail _ (.head _)) Sr2
      · rw [List.length_append, List.length_singleton]; exact hO
      · intro r' hr'
        rcases List.mem_append.mp hr' with h1 | h1
        · exact okR r' h1
        · rw [List.mem_singleton.mp h1]; exact okr2
      · rw [List.map_append, List.sum_append]; simp; omega
      · intro q hq
        refine N3 q ?_
        simp only [List.mem_cons] at hq ⊢
        rcases hq with h | h | h | h | h | h | h | h <;> simp [h]
      · have h1 := (List.pairwise_cons.mp hA2).2
        have h2 := apart_perm h1 ((List.perm_middle (l₁ := [(RW2, listOf (rv ++ [Value.ref LR2]).toArray cr2), (OW2, listOf ov2 co2), (cK, oK), (cO, oO2), (DR, listOf dv cd), (753, tabObj ps)])).symm)
        refine apart_perm h2 (.cons _ (.cons _ (.cons _ (.cons _ ?_))))
        exact List.Perm.swap _ _ _
    | succ left =>
      have hj : j < dv.size := by omega
      obtain ⟨n, en⟩ : ∃ n, ns[j]? = some n := ⟨_, List.getElem?_eq_getElem (by have := hns.sizeZ; simp at this; omega)⟩
      obtain ⟨t, et⟩ := hns.get j n en
      have hgx : dv[j]? = some (.int n t) := by rw [← Array.getElem?_toList]; exact et
      have hz1 : acc2.size ≤ sizeLine := by have := strs_size Sr2; have h3 : sizeLine = 16777216 := rfl; omega
      have hz2 : ov2.size ≤ sizeLine := by have := strs_size SO2; have h3 : sizeLine = 16777216 := rfl; omega
      have hz3 : (rv ++ [Value.ref LR2]).toArray.size ≤ sizeLine := by have := SR2.len; have h3 : sizeLine = 16777216 := rfl; simp; omega
      refine it_next F2 N2 hne hI hl hgx fun h3 o3 F3 N3 hI3 hl3 => ?_
      dsimp only
      (repeat' (first | ((with_reducible refine consQ_next ?_)) | ((with_reducible refine consQ_ret ?_)) | ((with_reducible refine consQ_brk ?_)) | ((with_reducible refine consQ_cont ?_)) | (with_reducible ((with_reducible show wpAny _ _ (execs (_ :: _) _) _ _ _); (k_here; (try dsimp only); (try (refine gen_toks ?_; intro tk)); first | refine execs_one ?_ | refine execs_consQ ?_))) | ((with_reducible refine wpAny_execs_nil ?_)) | (((k_here; (with_reducible show wpAny _ _ (subscriptTail _ _ (Value.ref _) (Value.int _ _)) _ _ _); k_dflt (refine' last_sub ?Nzq ?hmzq ?_ ?hszq; (case Nzq => k_asm); (case hmzq => k_mem); (case hszq => with_unfolding_all rfl))))) | (((k_here; (with_reducible show wpAny _ _ (call (Value.ref 773) _ _) _ _ _); k_dflt (refine' ctr_use (law_class _ _) ?Bzq ?Fzq ?Nzq ?Xzq ?Tzq ?hkzq ?hdzq ?huzq ?_; (case Bzq | Fzq | Nzq | Xzq | Tzq => k_asm); (case hkzq => first | exact rfl | assumption); (case hdzq => k_room); (case huzq => k_units); k_whole; intro v' h' tk' F' N' hh'; obtain ⟨nm', hn', t', e'⟩ := hh'.out; subst e'; (try k_sweep))))) | (((k_here; (with_reducible show wpAny _ _ (call (Value.ref 780) _ _) _ _ _); k_dflt (refine' ctr_use (law_name _ _) ?Bzq ?Fzq ?Nzq ?Xzq ?Tzq ?hkzq ?hdzq ?huzq ?_; (case Bzq | Fzq | Nzq | Xzq | Tzq => k_asm); (case hkzq => first | exact rfl | assumption); (case hdzq => k_room); (case huzq => k_units); k_whole; intro v' h' tk' F' N' hh'; obtain ⟨nm', hn', t', e'⟩ := hh'.out; subst e'; (try k_sweep))))) | (((k_here; (with_reducible show wpAny _ _ (call (Value.builtin _) [Value.ref _]) _ _ _); k_dflt (refine' len_sym ?Nzq ?hmzq ?hzzq ?_; (case Nzq => k_asm); (case hmzq => k_mem); (case hzzq => with_reducible assumption))))) | (((k_here; (with_reducible show wpAny _ _ (call (Value.builtin _) [Value.ref _, _]) _ _ _); k_dflt (refine' append_K ?k1zq ?k2zq ?k3zq ?_ ?zzq; (case k1zq | k2zq => k_asm); (case k3zq => k_upd); (case zzq => with_reducible assumption); k_whole); intro h' F' N'; (try k_sweep)))) | (with_reducible ((with_reducible show wpAny _ _ (exec (PySem.Stmt.If _ _ _ _) _) _ _ _); (refine wpAny_If ?_))) | (k_unfold; (try dsimp only)) | walk1 | (dsimp only; walk1) | (leave1; walk_say "STEP leave1"; try dsimp only) | fail "no step"))
      all_goals (have hA4 := apart_swap (o' := o3) hA2)
      all_goals first | exact dr_end0 hc SO2 SR2 Sr2 hO hO4 okO okR okr2 hsum hoO2 (by assumption) (by assumption) hI3 hA4 rfl | exact dr_endN (by with_reducible assumption) hc SO2 SR2 Sr2 hO hO4 okO okR okr2 hsum hoO2 (by assumption) (by assumption) hI3 hA4 rfl | exact dr_endC (by with_reducible assumption) (by assumption) hc SO2 SR2 Sr2 hO okO okR okr2 hsum hoO2 (by assumption) (by assumption) hI3 hA4 rfl (by assumption)
end
/-- the table of join_shlex's code, wherever the ground stands -/
noncomputable def TabOk (g : Heap) (ps : Array Value) : Prop := ∀ h : Heap, (∀ b o, g.get? b = some o → h.get? b = some o) → h.get? 753 = some (tabObj ps) → CodeTab h 757 753 ps
theorem tabOk_of {g h : Heap} {ps : Array Value} {oc : Obj} (CT : CodeTab h 757 753 ps) (k : ∀ b o, g.get? b = some o → h.get? b = some o) (h757 : g.get? 757 = some oc) : TabOk g ps := fun h' k' h753 => by
  have h1 := k _ _ h757
  have h2 := k' _ _ h757
  exact CT.keep2 (fun o e => by rw [h1] at e; cases e; exact h2) (fun o e => by rw [CT.2.2] at e; cases e; exact h753)
theorem at_sub {prog : Program} {w : World} {A : Around} {E : Value → Shared → Prop} {s : Shared} {value slice : PySem.Expr} {g : Heap} {L l : Addr} {items : Array Value} {x : Value} {c j : Nat} {u : Tok} {news : List (Addr × Obj)} {Q : Value → Shared → Prop} (N : News g L s.heap news) (hm : (l, listOf items c) ∈ news) (hx : items[j]? = some x) (hz : j < 2 ^ 62) (h : Q x s)
    (hs : subscripted slice false (.ref l) (.int (j : Nat) u) = operate [.ref l, .int (j : Nat) u] (getItem (.ref l) (.int (j : Nat) u)) := by with_unfolding_all rfl) :
    wpAny (model prog w) A (subscriptTail value slice (.ref l) (.int (j : Nat) u)) Q E s := by
  have hl : s.heap.IsList l items := ⟨_, N.get hm, rfl, _, rfl⟩
  exact tail_any hl.typeIs slot_list_getitem.lookup (wpAny_getItem_list hl (by omega) (by omega) (by simpa using hx) h) hs
theorem zero_sub {prog : Program} {w : World} {A : Around} {E : Value → Shared → Prop} {s : Shared} {value slice : PySem.Expr} {g : Heap} {L l : Addr} {items : Array Value} {x : Value} {c : Nat} {u : Tok} {news : List (Addr × Obj)} {Q : Value → Shared → Prop} (N : News g L s.heap news) (hm : (l, listOf items c) ∈ news) (hx : items[0]? = some x) (h : Q x s)
    (hs : subscripted slice false (.ref l) (.int 0 u) = operate [.ref l, .int 0 u] (getItem (.ref l) (.int 0 u)) := by with_unfolding_all rfl) :
    wpAny (model prog w) A (subscriptTail value slice (.ref l) (.int 0 u)) Q E s := at_sub (j := 0) N hm hx (by decide) h hs
theorem RowsIn.get {news : List (Addr × Obj)} : ∀ {vs : List Value} {rs : List (List (List Nat))} {j : Nat} {r : List (List Nat)}, RowsIn news vs rs → rs[j]? = some r → ∃ A acc c, vs[j]? = some (.ref A) ∧ (A, listOf acc c) ∈ news ∧ Strs acc.toList r
  | _, _, _, _, .nil, e => by simp at e
  | _, _, 0, _, .cons a b t, e => by simp at e; subst e; exact ⟨_, _, _, rfl, a, b⟩
  | _, _, j + 1, _, .cons a b t, e => by simpa using t.get (j := j) (by simpa using e)
theorem Strs.append {vs ws : List Value} {ts us : List (List Nat)} (h : Strs vs ts) (k : Strs ws us) : Strs (vs ++ ws) (ts ++ us) := by
  induction h with
  | nil => exact k
  | cons _ ih => exact .cons ih
/-- an element's end in a block -/
noncomputable def ElEnd (g : Heap) (L : Addr) (m : Str → Option Value) (s : Shared) (led : List (Addr × Obj)) (t : List Nat) (y : Value) (s₂ : Shared) : Prop := ∃ h' tk' u, s₂ = { s with heap := h', toks := tk' } ∧ y = Value.str (S t) u ∧ Fr g L h' m ∧ News g L h' led
theorem comp_rest {prog : Program} {w : World} {A : Around} {g : Heap} {L : Addr} {m : Str → Option Value} {env : Env} {elt : PySem.Expr} {x : Str} {scope : Scope} {cl : List (Str × Addr)} {s : Shared} {ax : Addr} {its : Array Value} {ts : List (List Nat)} {f : List Nat → List Nat} {Fin : List Value → List (Addr × Obj) → Prop} {news : List (Addr × Obj)} {c : Nat}
    (SS : Strs its.toList ts) (hax : (ax, listOf its c) ∈ news)
    (hel : ∀ (i : Nat) (t : List Nat) (k : Tok) (ys : List Value) (I : Addr) (oI : Obj) (C : Addr) (oC : Obj) (D : Addr) (m₂ : Str → Option Value) (h : Heap) (tk : Nat) (E' : Value → Shared → Prop), ts[i]? = some t → LCg.NsObj oC m₂ → m₂ x = some (Value.str (S t) k) → Fr g L h m → News g L h ((I, oI) :: (C, oC) :: (D, LCg.lst ys) :: news) →
      wpAny (model prog w) A (eval elt (compEnvC scope cl C env)) (ElEnd g L m { s with heap := h, toks := tk } ((I, oI) :: (C, oC) :: (D, LCg.lst ys) :: news) (f t)) E' { s with heap := h, toks := tk })
    (hfin : ∀ ys, Strs ys (ts.map f) → Fin ys news) : LCg.CompRest prog w A g L m env elt x scope cl s (LCg.SrcAt g ax its) (fun i v => its[i]? = some v) Fin its.size 0 [] news := by
  have hlen : its.size = ts.length := by have := SS.len; simpa using this
  have key : ∀ k i ys, i + k = ts.length → Strs ys ((ts.take i).map f) → LCg.CompRest prog w A g L m env elt x scope cl s (LCg.SrcAt g ax its) (fun i v => its[i]? = some v) Fin k i ys news := by
    intro k
    induction k with
    | zero =>
      intro i ys hi hs
      have : i = ts.length := by omega
      subst this
      rw [List.take_length] at hs
      exact LCg.CompRest.zero (hfin ys hs)
    | succ k ih =>
      intro i ys hi hs
      refine LCg.CompRest.succ fun v I oI C oC D m₂ h tk E' hv hC hx F N off ne => ?_
      obtain ⟨t, kk, e1, rfl⟩ := SS.get i v (by rw [Array.getElem?_toList]; exact hv)
      refine wpAny_mono (hel i t kk ys I oI C oC D m₂ h tk E' e1 hC hx F N) (fun y s₂ hy => ?_) fun _ _ z => z
      obtain ⟨h', tk', u, rfl, rfl, F', N'⟩ := hy
      refine LCg.CompEnd.intro F' N' news (fun p hp => hp) off (.inr ⟨_, hax, rfl, _, rfl⟩) (ih (i + 1) _ (by omega) ?_)
      rw [List.take_add_one, e1, List.map_append]
      exact hs.snoc _ _
  rw [hlen]
  exact key ts.length 0 [] (by omega) .nil
section
variable {w : World} {vw : Program} {loose : List Str} {mean : ExcName → Option Value} {mg mb : Str → Option Value}
theorem join_use {ps : Array Value} {l : Addr} {items : Array Value} {cc : Nat} {ts : List (List Nat)} (SS : Strs items.toList ts) (hts : ∀ t ∈ ts, t.length ≤ 10000) (htot : (ts.map fun t => (qt t).length + 1).sum ≤ 16000000)
    {dp un : Nat} {gd : Option (List Code)} {cn : Str} {cs' : Scope} {a : Addr} {ccd : Value} {cl : List (Str × Addr)} {outer : List Env} {A₀ : Around} {base h₀ : Heap} {L : Addr} {m : Str → Option Value} {s : Shared} {Q E : Value → Shared → Prop} {news : List (Addr × Obj)} {f : Obj → List (Addr × Obj)}
    (B : Below A₀ base outer h₀) (F : Fr h₀ L s.heap m) (N : News h₀ L s.heap news) (X : (Mine.K w.params).In h₀) (T₀ : Top vw loose mean mg mb h₀) (hk : cs'.kind = .function)
    (hd : dp + 40 < recursionLimit) (hu : un + 400 < cLine)
    (hl : (l, listOf items cc) ∈ news) (TK : TabOk h₀ ps) (U : UpdF 753 (tabObj ps) news f) (AB : AllBare s.gens)
    (hret : ∀ (u : Tok) h' gs' dr' tk' ps', AllBare gs' → TabOk h₀ ps' → Fr h₀ L h' m → News h₀ L h' (f (tabObj ps')) → Q (.str (S (joinL (ts.map qt))) u) ⟨h', gs', dr', tk', s.os⟩) :
      wpAny (model Challenge.rw_ij0133_01.row.prog w) (ktrTop dp un gd cn cs' L a ccd cl outer) (call (.ref 758) [.ref l]) Q E s := by
  obtain ⟨pre, post, e1, e2, d1, d2⟩ := U.split
  have m753 : (753, tabObj ps) ∈ news := by rw [e1]; exact List.mem_append_right _ (.head _)
  have N1 : News h₀ L s.heap [(753, tabObj ps)] := fun q hq => by rw [List.mem_singleton.mp hq]; exact N _ m753
  refine join_in SS hts htot B F X T₀ hk hd hu (N.get hl) (TK _ F.keep (N.get m753)) N1 AB fun u s' ps' AB' os' keep CT' => ?_
  obtain ⟨h', gs', dr', tk', o'⟩ := s'
  dsimp only at AB' os' keep CT'
  subst os'
  have n753 := (N1 _ (.head _)).2.2
  have kg : ∀ b o, h₀.get? b = some o → h'.get? b = some o := fun b o e => keep b o (fun z => by rw [z, n753] at e; cases e) (F.keep b o e)
  obtain ⟨oL, es, ep, hL, r⟩ := F.ns
  have hLne : L ≠ 753 := fun e => (N1 _ (.head _)).2.1 e.symm
  obtain ⟨o, vs, e757, r757⟩ := CT'.2.1
  have n757 : h₀.get? 757 = some o := by
    have x757 : ∃ oc, h₀.get? 757 = some oc := by
      have z : ∃ oc, List.lookup 757 (Mine.K w.params) = some oc := ⟨_, by k_is⟩
      obtain ⟨oc, z⟩ := z
      exact ⟨oc, X _ _ z⟩
    obtain ⟨oc, hoc⟩ := x757
    have := kg _ _ hoc
    rw [e757] at this
    rw [hoc, this]
  refine hret u h' gs' dr' tk' ps' AB' (tabOk_of CT' kg n757) ⟨⟨oL, es, ep, keep _ _ hLne hL, r⟩, kg, F.above⟩ fun q hq => ?_
  rw [e2] at hq
  rcases List.mem_append.mp hq with hq | hq
  · have z := N q (by rw [e1]; exact List.mem_append_left _ hq)
    exact ⟨keep _ _ (d1 q hq) z.1, z.2⟩
  · rcases List.mem_cons.mp hq with rfl | hq
    · exact ⟨CT'.2.2, (N1 _ (.head _)).2⟩
    · have z := N q (by rw [e1]; exact List.mem_append_right _ (.tail _ hq))
      exact ⟨keep _ _ (d2 q hq) z.1, z.2⟩
/-- _law_tails, its list in the ledger -/
theorem tails_use {o n : List Nat} {t1 t2 : Tok} (ho : (S o).length ≤ 1000) (hn : (S n).length ≤ 1000)
    {dp un : Nat} {gd : Option (List Code)} {cn : Str} {cs : Scope} {a : Addr} {ccd : Value} {cl : List (Str × Addr)} {outer : List Env} {A₀ : Around} {base h₀ : Heap} {L : Addr} {m : Str → Option Value} {s : Shared} {Q E : Value → Shared → Prop} {news : List (Addr × Obj)}
    (B : Below A₀ base outer h₀) (F : Fr h₀ L s.heap m) (N : News h₀ L s.heap news) (X : (Mine.K w.params).In h₀) (T : Top vw loose mean mg mb h₀) (hk : cs.kind = .function) (hd : dp + 10 < recursionLimit) (hu : un + 140 < cLine)
    (h : ∀ D acc c h' tk', Strs acc.toList (tails o n) → acc.size ≤ 10000 → Fr h₀ L h' m → News h₀ L h' ((D, listOf acc c) :: news) → (∀ p ∈ news, p.1 ≠ D) → Q (.ref D) { s with heap := h', toks := tk' }) :
      wpAny (model Challenge.rw_ij0133_01.row.prog w) (ktrTop dp un gd cn cs L a ccd cl outer) (call (.ref 794) [.str (S o) t1, .str (S n) t2]) Q E s := by
  refine ctr_use (law_tails o n t1 t2 ho hn) B F N X T hk hd hu fun v h' tk' F' N' hh => ?_
  obtain ⟨D, acc, c, rfl, hD, hD', SS⟩ := hh.out
  obtain ⟨oL, es, ep, hL, r⟩ := F.ns
  refine h D acc c h' tk' SS ?_ F' (fun q hq => ?_) fun p hp e => ?_
  · have h1 := SS.len
    rw [tails_eq] at h1
    have h2 : acc.size = acc.toList.length := by simp
    rw [h2, h1]
    split <;> simp
  · rcases List.mem_cons.mp hq with rfl | hq
    · refine ⟨hD', fun e => ?_, kts_none F.keep hD⟩
      have e' : D = L := e
      rw [e', hL] at hD
      cases hD
    · exact N' q hq
  · have := (N p hp).1
    rw [e, hD] at this
    cases this
/-- the first of tails and name -/
theorem head_sub {A : Around} {E : Value → Shared → Prop} {s : Shared} {value slice : PySem.Expr} {g : Heap} {L l : Addr} {acc zs : Array Value} {o n : List Nat} {k : Tok} {c : Nat} {u : Tok} {news : List (Addr × Obj)} {Q : Value → Shared → Prop} {prog : Program} (N : News g L s.heap news) (hm : (l, listOf zs c) ∈ news) (SS : Strs acc.toList (tails o n)) (e : zs.toList = acc.toList ++ [Value.str (S n) k]) (h : ∀ u, Q (.str (S (shortOf o n)) u) s)
    (hs : subscripted slice false (.ref l) (.int 0 u) = operate [.ref l, .int 0 u] (getItem (.ref l) (.int 0 u)) := by with_unfolding_all rfl) :
    wpAny (model prog w) A (subscriptTail value slice (.ref l) (.int 0 u)) Q E s := by
  have key : ∃ u', zs[0]? = some (.str (S (shortOf o n)) u') := by
    rw [← Array.getElem?_toList, e]
    rw [tails_eq] at SS
    unfold shortOf
    by_cases hp : priv o n = true
    · rw [if_pos hp] at SS ⊢
      obtain ⟨k', r, e1, _⟩ := Strs.tail SS
      rw [e1, Nat.add_comm]
      exact ⟨k', rfl⟩
    · rw [if_neg hp] at SS ⊢
      have h1 := SS.len
      have e1 : acc.toList = [] := List.eq_nil_of_length_eq_zero h1
      rw [e1]
      exact ⟨k, rfl⟩
  obtain ⟨u', hx⟩ := key
  exact zero_sub N hm hx (h u') hs
theorem add_any {A : Around} {E : Value → Shared → Prop} {s : Shared} {g : Heap} {L a b : Addr} {m : Str → Option Value} {its its2 : Array Value} {c c2 : Nat} {news : List (Addr × Obj)} {Q : Value → Shared → Prop} {prog : Program} (F : Fr g L s.heap m) (N : News g L s.heap news) (ha : (a, listOf its c) ∈ news) (hb : (b, listOf its2 c2) ∈ news) (z1 : its.size ≤ 10000) (z2 : its2.size ≤ 10000)
    (h : ∀ D h', Fr g L h' m → News g L h' ((D, listOf (its.toList ++ its2.toList).toArray 0) :: news) → (∀ p ∈ news, p.1 < D) → Q (.ref D) { s with heap := h' }) : wpAny (model prog w) A (binaryOp .Add (.ref a) (.ref b)) Q E s :=
  kmk_add_lit F N ⟨_, N.get ha, rfl, _, rfl⟩ ⟨_, N.get hb, rfl, _, rfl⟩ rfl h (by have h3 : sizeLine = 16777216 := rfl; simp; omega)
/-- split, in the law's frame -/
theorem split_law {b : Str} {tb0 : Tok} {ts : List (List Nat)} (hbl : b.length ≤ 10000) (TT : Toks .bl b.cps.toList ts) (hsz : ts.length ≤ 20000)
    {dp un : Nat} {gd : Option (List Code)} {cn : Str} {cs' : Scope} {a : Addr} {ccd : Value} {cl : List (Str × Addr)} {A₀ : Around} {base h₀ : Heap} {L : Addr} {m : Str → Option Value} {s : Shared} {Q E : Value → Shared → Prop} {news : List (Addr × Obj)}
    (B : Below A₀ base [] h₀) (F : Fr h₀ L s.heap m) (N : News h₀ L s.heap news) (X : (Mine.K w.params).In h₀) (T₀ : Top vw loose mean mg mb h₀) (XB : (Mine.K w.params).In base) (TB : Top vw loose mean mg mb base) (hk : cs'.kind = .function)
    (hd : dp + 40 < recursionLimit) (hu : un + 400 < cLine)
    (hret : ∀ (D : Addr) (acc' : Array Value) (c' : Nat) (h' : Heap) (tk' : Nat), Strs acc'.toList ts → Fr h₀ L h' m → News h₀ L h' ((D, listOf acc' c') :: news) → (∀ q ∈ news, q.1 ≠ D) → Q (.ref D) { s with heap := h', toks := tk' }) :
      wpAny (model Challenge.rw_ij0133_01.row.prog w) (ktrTop dp un gd cn cs' L a ccd cl []) (call (.ref 751) [.str b tb0]) Q E s := by
  refine split_use hbl TT hsz B F N X T₀ XB TB hk hd hu fun g' D acc' c' h' tk' SS KT B' X' T' F' N' hne => ?_
  obtain ⟨F2, N2⟩ := turn_nil (A₀ := A₀) (base := base) KT F'
  exact hret D acc' c' h' tk' SS F2 (N2 _ N') hne
/-- _law_read, in the law's frame -/
theorem read_law {l : Addr} {items : Array Value} {cl0 : Nat} {ls : List (List Nat)} {bs : List (List Nat × List (List Nat))} (SL : Strs items.toList ls) (hlen : bs.length = ls.length) (HB : ∀ (i : Nat) line b, ls[i]? = some line → bs[i]? = some b → LineOk line b) (hls : ls.length ≤ 1000)
    {dp un : Nat} {gd : Option (List Code)} {cn : Str} {cs' : Scope} {a : Addr} {ccd : Value} {cl : List (Str × Addr)} {A₀ : Around} {base h₀ : Heap} {L : Addr} {m : Str → Option Value} {s : Shared} {Q E : Value → Shared → Prop} {news : List (Addr × Obj)}
    (B : Below A₀ base [] h₀) (F : Fr h₀ L s.heap m) (N : News h₀ L s.heap news) (X : (Mine.K w.params).In h₀) (T₀ : Top vw loose mean mg mb h₀) (XB : (Mine.K w.params).In base) (TB : Top vw loose mean mg mb base) (hk : cs'.kind = .function)
    (hd : dp + 100 < recursionLimit) (hu : un + 1500 < cLine) (hl : (l, listOf items cl0) ∈ news)
    (hret : ∀ (D : Addr) (its : Array Value) (c : Nat) (tl : List (Addr × Obj)) (h' : Heap) (tk' : Nat), BodiesIn tl its.toList (bs.map fun b => (b.1, b.2.map (shortOf b.1))) → Fr h₀ L h' m → News h₀ L h' (((D, listOf its c) :: tl) ++ news) → Q (.ref D) { s with heap := h', toks := tk' }) :
      wpAny (model Challenge.rw_ij0133_01.row.prog w) (ktrTop dp un gd cn cs' L a ccd cl []) (call (.ref 801) [.ref l]) Q E s := by
  refine law_read0 SL hlen HB hls B F X T₀ XB TB hk hd hu (N.get hl) fun D its c tl h' tk' BI U hnew => ?_
  obtain ⟨g', KT, B', F', N'⟩ := reground B F U
  obtain ⟨F2, N2⟩ := turn_nil (A₀ := A₀) (base := base) KT F'
  obtain ⟨oL, es, ep, hL, r⟩ := F.ns
  refine hret D its c tl h' tk' BI F2 fun q hq => ?_
  rcases List.mem_append.mp hq with hq | hq
  · obtain ⟨z1, z2⟩ := hnew q hq
    refine ⟨z1, fun e => ?_, kts_none F.keep z2⟩
    have e' : q.1 = L := e
    rw [e', hL] at z2
    cases z2
  · exact N2 _ (N' _ N) q hq
end

noncomputable abbrev Pg := List Nat × List (List Nat)
noncomputable def hidR (p : Pg) : List (List Nat) := p.2.map (hid p.1)
noncomputable def lineOf (p : Pg) : List Nat := joinL ((p.1 :: hidR p).map qt)
noncomputable def dueOf (p : Pg) : Pg := (p.1, (hidR p).map (shortOf p.1))
noncomputable def Off5 (I LN DU cK p : Addr) : Prop := (@Ne Nat p I) ∧ (@Ne Nat p LN) ∧ (@Ne Nat p DU) ∧ (@Ne Nat p cK) ∧ (@Ne Nat p 753)
noncomputable def Dist5 (I LN DU cK : Addr) : Prop := (@Ne Nat I LN) ∧ (@Ne Nat I DU) ∧ (@Ne Nat I cK) ∧ (@Ne Nat I 753) ∧ (@Ne Nat LN DU) ∧ (@Ne Nat LN cK) ∧ (@Ne Nat LN 753) ∧ (@Ne Nat DU cK) ∧ (@Ne Nat DU 753) ∧ (@Ne Nat cK 753)
noncomputable abbrev kbLed (I SE DU LN RW OW cK cO : Addr) (oI oK oO : Obj) (sv dv lv ov : Array Value) (rv : List Value) (c1 c2 c3 cr co : Nat) (ps : Array Value) (tl : List (Addr × Obj)) : List (Addr × Obj) :=
  (I, oI) :: (SE, listOf sv c1) :: (DU, listOf dv c2) :: (LN, listOf lv c3) :: (RW, listOf rv.toArray cr) :: (OW, listOf ov co) :: (cK, oK) :: (cO, oO) :: (753, tabObj ps) :: tl
noncomputable def KbInv {g h : Heap} {L : Addr} {m : Str → Option Value} {news : List (Addr × Obj)} (_F : Fr g L h m) (_N : News g L h news) (s : Shared) (DU LN RW OW cK cO : Addr) (oO : Obj) (ov : Array Value) (rv : List Value) (cr co : Nat) (O : List (List Nat)) (R : List (List (List Nat))) : Addr → Nat → Shared → Prop := fun I left s' =>
  ∃ (j : Nat) (SE : Addr) (sv dv lv : Array Value) (c1 c2 c3 : Nat) (oK : Obj) (xk : Option Value) (ps : Array Value) (tl : List (Addr × Obj)) (m' : Str → Option Value) (h' : Heap) (gs : Array GenState) (dr : Drawn) (tk : Nat),
   s' = ⟨h', gs, dr, tk, s.os⟩ ∧ j + left = O.length ∧ AllBare gs ∧ TabOk g ps ∧ Strs sv.toList (((O.zip R).take j).flatMap hidR) ∧ Strs lv.toList (((O.zip R).take j).map lineOf) ∧ BodiesIn tl dv.toList (((O.zip R).take j).map dueOf) ∧ RowsIn tl rv R ∧ dv.size = j ∧
   oK.data = .cell xk ∧ Fr g L h' m' ∧ News g L h' (kbLed I SE DU LN RW OW cK cO (rgObj (j : Nat) (left : Nat)) oK oO sv dv lv ov rv c1 c2 c3 cr co ps tl) ∧
   Dist5 I LN DU cK ∧ Off5 I LN DU cK SE ∧ Off5 I LN DU cK RW ∧ Off5 I LN DU cK OW ∧ Off5 I LN DU cK cO ∧ (∀ p ∈ tl, Off5 I LN DU cK p.1) ∧
   m' (Str.ofString "rows") = some (.ref RW) ∧ m' (Str.ofString "lines") = some (.ref LN) ∧ m' (Str.ofString "due") = some (.ref DU) ∧ m' (Str.ofString "seen") = some (.ref SE)
theorem fr_put4 {h₀ h : Heap} {L : Addr} {m : Str → Option Value} {x1 x2 x3 x4 : Str} {v1 v2 v3 v4 : Value} (F : Fr h₀ L h m) (e1 : m x1 = some v1) (e2 : m x2 = some v2) (e3 : m x3 = some v3) (e4 : m x4 = some v4) :
    Fr h₀ L h (fun y => if y = x1 then some v1 else if y = x2 then some v2 else if y = x3 then some v3 else if y = x4 then some v4 else m y) := by
  have h : (fun y => if y = x1 then some v1 else if y = x2 then some v2 else if y = x3 then some v3 else if y = x4 then some v4 else m y) = m := by
    funext y
    by_cases h1 : y = x1
    · rw [if_pos h1, h1, e1]
    · rw [if_neg h1]
      by_cases h2 : y = x2
      · rw [if_pos h2, h2, e2]
      · rw [if_neg h2]
        by_cases h3 : y = x3
        · rw [if_pos h3, h3, e3]
        · rw [if_neg h3]
          by_cases h4 : y = x4
          · rw [if_pos h4, h4, e4]
          · rw [if_neg h4]
  rw [h]
  exact F
theorem sum_le {α : Type} (f : α → Nat) (c : Nat) : ∀ l : List α, (∀ x ∈ l, f x ≤ c) → (l.map f).sum ≤ l.length * c
  | [], _ => by simp
  | a :: r, h => by
    have ih := sum_le f c r fun x hx => h x (.tail _ hx)
    have h1 := h a (.head _)
    simp only [List.map_cons, List.sum_cons, List.length_cons, Nat.succ_mul]
    omega
theorem len_le_sum {R : List (List (List Nat))} {r : List (List Nat)} (h : r ∈ R) : r.length ≤ (R.map List.length).sum := by
  induction R with
  | nil => cases h
  | cons a R ih =>
    simp only [List.map_cons, List.sum_cons]
    rcases List.mem_cons.mp h with rfl | h
    · omega
    · have := ih h; omega
theorem hid_ok {o n : List Nat} (ho : OwOk o) (hn : NmOk n) : (hid o n).length ≤ 15 := by
  have h1 := hid_len o n
  have h2 := ho.2
  have h3 := hn.2
  omega
theorem words_ok {o : List Nat} {r : List (List Nat)} (ho : OwOk o) (hr : RowOk r) : ∀ t ∈ o :: hidR (o, r), t.length ≤ 15 ∧ InSig t := fun t ht => by
  rcases List.mem_cons.mp ht with rfl | ht
  · exact ⟨by have := ho.2; omega, ho.1⟩
  · obtain ⟨n, hn, rfl⟩ := List.mem_map.mp ht
    exact ⟨hid_ok ho (hr n hn), hid_sig ho.1 (hr n hn).1⟩
theorem words_sum {o : List Nat} {r : List (List Nat)} (ho : OwOk o) (hr : RowOk r) : ((o :: hidR (o, r)).map fun t => (qt t).length + 1).sum ≤ (r.length + 1) * 78 := by
  have h1 := sum_le (fun t => (qt t).length + 1) 78 (o :: hidR (o, r)) fun t ht => by
    have h2 := qt_len t
    have h3 := (words_ok ho hr t ht).1
    show (qt t).length + 1 ≤ 78
    omega
  have h4 : (o :: hidR (o, r)).length = r.length + 1 := by simp [hidR]
  rw [h4] at h1
  exact h1
theorem seen_len : ∀ (O : List (List Nat)) (R : List (List (List Nat))) (j : Nat), (((O.zip R).take j).flatMap hidR).length ≤ (R.map List.length).sum
  | [], R, j => by simp
  | o :: O, [], j => by simp
  | o :: O, r :: R, 0 => by simp
  | o :: O, r :: R, j + 1 => by
    have ih := seen_len O R j
    simp only [List.zip_cons_cons, List.take_succ_cons, List.flatMap_cons, List.length_append, List.map_cons, List.sum_cons]
    have h1 : (hidR (o, r)).length = r.length := by simp [hidR]
    omega
theorem kb_end {g h : Heap} {L : Addr} {m m' : Str → Option Value} {news : List (Addr × Obj)} {FF : Fr g L h m} {NN : News g L h news} {s : Shared} {I SE DU LN RW OW cK cO En Sh SE2 JL JL0 D5 Aj : Addr} {oO oK' oj oj0 o5 oA : Obj} {ov sv dv lv ps : Array Value} {rv ys ys2 : List Value} {cr co c1 c2 c3 ce n2 : Nat} {O : List (List Nat)} {R : List (List (List Nat))}
    {tl : List (Addr × Obj)} {j left : Nat} {o : List Nat} {r : List (List Nat)} {ko u t : Tok} {h' : Heap} {gs : Array GenState} {dr : Drawn} {tk : Nat} (hc : j + (left + 1) = O.length) (eo : O[j]? = some o) (er : R[j]? = some r) (AB : AllBare gs) (TK : TabOk g ps) (SS : Strs sv.toList (((O.zip R).take j).flatMap hidR)) (SL : Strs lv.toList (((O.zip R).take j).map lineOf)) (BI : BodiesIn tl dv.toList (((O.zip R).take j).map dueOf)) (SR : RowsIn tl rv R) (hdv : dv.size = j)
    (hys : Strs ys (r.map (hid o))) (hys2 : Strs ys2 ((r.map (hid o)).map (shortOf o))) (hoK : oK'.data = .cell (some (.int (j : Nat) t))) (F : Fr g L h' m')
    (N : News g L h' ((En, listOf #[.str (S o) ko, .ref Sh] ce) :: (Sh, listOf ys2.toArray n2) :: (SE2, listOf (sv.toList ++ ys.toArray.toList).toArray 0) :: (JL, oj) :: (JL0, oj0) :: (D5, o5) :: (I, rgObj ((j : Nat) + 1) (((left + 1 : Nat) : Int) - 1)) :: (Aj, oA) :: (SE, listOf sv c1) :: (DU, listOf (dv.push (.ref En)) c2) :: (LN, listOf (lv.push (.str (S (joinL ((o :: hidR (o, r)).map qt))) u)) c3) :: (RW, listOf rv.toArray cr) :: (OW, listOf ov co) :: (cK, oK') :: (cO, oO) :: (753, tabObj ps) :: tl))
    (d : Dist5 I LN DU cK) (q1 : Off5 I LN DU cK SE2) (q2 : Off5 I LN DU cK RW) (q3 : Off5 I LN DU cK OW) (q4 : Off5 I LN DU cK cO) (otl : ∀ p ∈ tl, Off5 I LN DU cK p.1) (qE : Off5 I LN DU cK En) (qS : Off5 I LN DU cK Sh)
    (m1 : m' (Str.ofString "rows") = some (.ref RW)) (m2 : m' (Str.ofString "lines") = some (.ref LN)) (m3 : m' (Str.ofString "due") = some (.ref DU)) (m4 : m' (Str.ofString "seen") = some (.ref SE2)) :
    LoopNext (left + 1) (KbInv FF NN s DU LN RW OW cK cO oO ov rv cr co O R I) ⟨h', gs, dr, tk, s.os⟩ := by
  have ez : (O.zip R)[j]? = some (o, r) := by rw [List.getElem?_zip_eq_some]; exact ⟨eo, er⟩
  refine ⟨left, Nat.lt_succ_self _, j + 1, SE2, (sv.toList ++ ys.toArray.toList).toArray, dv.push (.ref En), lv.push (.str (S (joinL ((o :: hidR (o, r)).map qt))) u), 0, c2, c3, oK', _, ps, (En, listOf #[.str (S o) ko, .ref Sh] ce) :: (Sh, listOf ys2.toArray n2) :: tl, m', h', gs, dr, tk, rfl, by omega, AB, TK, ?_, ?_, ?_, SR.mono fun p hp => .tail _ (.tail _ hp), by simp [hdv], hoK, F, ?_, d, q1, q2, q3, q4, ?_, m1, m2, m3, m4⟩
  · rw [List.take_add_one, ez, List.flatMap_append]
    have e1 : ((sv.toList ++ ys.toArray.toList).toArray).toList = sv.toList ++ ys := by simp
    have e2 : (some (o, r) : Option Pg).toList.flatMap hidR = hidR (o, r) := by simp
    rw [e1, e2]
    exact SS.append hys
  · rw [Array.toList_push, List.take_add_one, ez, List.map_append]
    exact SL.snoc _ _
  · rw [Array.toList_push, List.take_add_one, ez, List.map_append]
    exact (BI.mono fun p hp => .tail _ (.tail _ hp)).snoc (.head _) (.tail _ (.head _)) hys2
  · have e1 : ((j : Nat) : Int) + 1 = ((j + 1 : Nat) : Int) := by omega
    have e2 : (((left + 1 : Nat) : Int) - 1) = (left : Nat) := by omega
    rw [e1, e2] at N
    refine List.forall_mem_cons.mpr ⟨N _ (by k_mem), List.forall_mem_cons.mpr ⟨N _ (by k_mem), List.forall_mem_cons.mpr ⟨N _ (by k_mem), List.forall_mem_cons.mpr ⟨N _ (by k_mem), List.forall_mem_cons.mpr ⟨N _ (by k_mem), List.forall_mem_cons.mpr ⟨N _ (by k_mem), List.forall_mem_cons.mpr ⟨N _ (by k_mem), List.forall_mem_cons.mpr ⟨N _ (by k_mem), List.forall_mem_cons.mpr ⟨N _ (by k_mem), List.forall_mem_cons.mpr ⟨N _ (by k_mem), List.forall_mem_cons.mpr ⟨N _ (by k_mem), fun q hq => N q ?_⟩⟩⟩⟩⟩⟩⟩⟩⟩⟩⟩
    iterate 16 refine List.Mem.tail _ ?_
    exact hq
  · exact List.forall_mem_cons.mpr ⟨qE, List.forall_mem_cons.mpr ⟨qS, otl⟩⟩
theorem rg_zero (n : Nat) : Builtin.Range.rangeSize 0 (n : Int) 1 = (n : Int) := by
  unfold Builtin.Range.rangeSize
  simp only [show ((1 : Int) > 0) = True by simp, if_true]
  split <;> omega
theorem rg_small {n : Nat} (h : n ≤ 1000) : Builtin.Range.small 0 (n : Int) 1 = true := by
  unfold Builtin.Range.small
  rw [rg_zero]
  unfold Builtin.Range.rangeFitsLong
  simp only [Bool.and_eq_true, Bool.or_eq_true, decide_eq_true_eq]
  refine ⟨⟨⟨⟨by omega, by omega⟩, by omega⟩, by omega⟩, .inr ?_⟩
  rw [if_pos (by omega)]
  simp only [Bool.and_eq_true, decide_eq_true_eq]
  omega
section
variable {w : World} {vw : Program} {loose : List Str} {mean : ExcName → Option Value} {mg mb : Str → Option Value}
set_option maxHeartbeats 900000 in
theorem lb_for {b1 b2 b3 b4 b5 b6 b7 b9 b10 b11 b12 : Stmt} {v1 : Str} {p1 q1 : Pos} {it1 : PySem.Expr} {bd1 : List Stmt} {qual : Str} {scope : Scope}
    (hb : ∃ oc od name params dV kV doc pm an cdv ct osl, List.lookup 806 (Mine.K w.params) = some ⟨oc, od, .func (fnOf name qual params [b1, b2, b3, b4, b5, b6, b7, .For (.Name v1 p1) it1 bd1 [] q1, b9, b10, b11, b12] scope dV kV doc pm an cdv ct), osl⟩)
    {dp un : Nat} {gd : Option (List Code)} {a : Addr} {ccd : Value} {cl : List (Str × Addr)} {A₀ : Around} {base h₀ : Heap} {L cK cO RW OW LN DU SE : Addr} {m' : Str → Option Value} {s : Shared} {Qf : Flow → Shared → Prop} {E : Value → Shared → Prop} {oK oO : Obj} {xk : Option Value} {ov : Array Value} {rv : List Value} {cr co c1 c2 c3 : Nat} {O : List (List Nat)} {R : List (List (List Nat))} {tl : List (Addr × Obj)} {ps : Array Value}
    (hcl : cl = [(Str.ofString "k", cK), (Str.ofString "owners", cO)])
    (B : Below A₀ base [] h₀) (X : (Mine.K w.params).In h₀) (T₀ : Top vw loose mean mg mb h₀) (hd : dp + 100 < recursionLimit) (hu : un + 1500 < cLine)
    (F : Fr h₀ L s.heap m') (f1 : m' (Str.ofString "rows") = some (.ref RW)) (f2 : m' (Str.ofString "lines") = some (.ref LN)) (f3 : m' (Str.ofString "due") = some (.ref DU)) (f4 : m' (Str.ofString "seen") = some (.ref SE))
    (SO : Strs ov.toList O) (SR : RowsIn tl rv R) (hOR : O.length = R.length) (hO4 : O.length ≤ 4) (okO : ∀ o ∈ O, OwOk o) (okR : ∀ r' ∈ R, RowOk r') (hsum : (R.map List.length).sum ≤ 10) (hoO : oO.data = .cell (some (.ref OW))) (hoK : oK.data = .cell xk) (TK : TabOk h₀ ps) (AB : AllBare s.gens)
    (N : News h₀ L s.heap ((SE, listOf #[] c1) :: (DU, listOf #[] c2) :: (LN, listOf #[] c3) :: (RW, listOf rv.toArray cr) :: (OW, listOf ov co) :: (cK, oK) :: (cO, oO) :: (753, tabObj ps) :: tl))
    (hD : ∀ I : Addr, AllLt I ((SE, listOf #[] c1) :: (DU, listOf #[] c2) :: (LN, listOf #[] c3) :: (RW, listOf rv.toArray cr) :: (OW, listOf ov co) :: (cK, oK) :: (cO, oO) :: (753, tabObj ps) :: tl) → Dist5 I LN DU cK ∧ Off5 I LN DU cK SE ∧ Off5 I LN DU cK RW ∧ Off5 I LN DU cK OW ∧ Off5 I LN DU cK cO ∧ (∀ p ∈ tl, Off5 I LN DU cK p.1))
    (hfin : ∀ (SE : Addr) (sv dv lv : Array Value) (c1 c2 c3 : Nat) (oK : Obj) (ps : Array Value) (tl : List (Addr × Obj)) (m2 : Str → Option Value) (h2 : Heap) (gs : Array GenState) (dr : Drawn) (tk : Nat), AllBare gs → TabOk h₀ ps → Strs sv.toList ((O.zip R).flatMap hidR) → Strs lv.toList ((O.zip R).map lineOf) → BodiesIn tl dv.toList ((O.zip R).map dueOf) →
      Fr h₀ L h2 m2 → News h₀ L h2 ((SE, listOf sv c1) :: (DU, listOf dv c2) :: (LN, listOf lv c3) :: (OW, listOf ov co) :: (cO, oO) :: (753, tabObj ps) :: tl) → @Ne Nat SE 753 → @Ne Nat DU 753 → @Ne Nat LN 753 → @Ne Nat OW 753 → @Ne Nat cO 753 → (∀ p ∈ tl, p.1 ≠ 753) →
      m2 (Str.ofString "lines") = some (.ref LN) → m2 (Str.ofString "due") = some (.ref DU) → m2 (Str.ofString "seen") = some (.ref SE) → Qf .next ⟨h2, gs, dr, tk, s.os⟩)
    (hE : PassesOwn (model Challenge.rw_ij0133_01.row.prog w) (ktrTop dp un gd qual scope L a ccd cl []) (envX qual scope L a ccd cl) E) :
    wpAny (model Challenge.rw_ij0133_01.row.prog w) (ktrTop dp un gd qual scope L a ccd cl []) (exec (.For (.Name v1 p1) it1 bd1 [] q1) (envX qual scope L a ccd cl)) Qf E s := by
  obtain ⟨h0, gs0, dr0, tk0, os0⟩ := s
  dsimp only at F N AB hfin
  have F0 := fr_put4 F f1 f2 f3 f4
  clear F
  obtain ⟨oc, od, name, params, dV, kV, doc, pm, an, cdv, ct, osl, e⟩ := hb
  refine' rt_elim e ?lit ?_
  (case lit => k_is)
  intro e2
  cases e2
  clear e
  subst hcl
  have hso := strs_size SO
  have hsl : ov.size ≤ sizeLine := by have h3 : sizeLine = 16777216 := rfl; omega
  refine for_inv (KbInv F0 N ⟨h0, gs0, dr0, tk0, os0⟩ DU LN RW OW cK cO oO ov rv cr co O R) ?_ ?_
  · (repeat' (first | ((with_reducible refine consQ_next ?_)) | ((with_reducible refine consQ_ret ?_)) | ((with_reducible refine consQ_brk ?_)) | ((with_reducible refine consQ_cont ?_)) | (with_reducible ((with_reducible show wpAny _ _ (execs (_ :: _) _) _ _ _); (k_here; (try dsimp only); (try (refine gen_toks ?_; intro tk)); first | refine execs_one ?_ | refine execs_consQ ?_))) | ((with_reducible refine wpAny_execs_nil ?_)) | (((with_reducible show wpAny _ _ (exec (PySem.Stmt.Assign _ (PySem.Expr.ListComp _ _ _ _) _) _) _ _ _); (k_here; k_dflt (refine LCg.Assign_ListComp_U (F₀ := by k_asm) (by rfl) (by with_unfolding_all rfl) (by with_unfolding_all rfl) (by decide) (by rfl) (by decide) (by rfl) (by rfl) (by rfl) ?_)))) | (((with_reducible show wpAny _ _ (eval (PySem.Expr.ListComp _ _ _ _) _) _ _ _); (k_here; k_dflt (refine LCg.ListComp_U (F₀ := by k_asm) (by with_unfolding_all rfl) (by decide) (by rfl) (by decide) (by rfl) ?_)))) | (((with_reducible show LCg.CompSrc _ _ _ _ _ _ _ _ _ _ _ _ _ _); (refine Hold.out ?_))) | (((k_here; (with_reducible show wpAny _ _ (call (Value.builtin _) [Value.ref _]) _ _ _); k_dflt (refine' len_sym ?Nzq ?hmzq ?hzzq ?_; (case Nzq => k_asm); (case hmzq => k_mem); (case hzzq => with_reducible assumption))))) | (((k_here; (with_reducible show wpAny _ _ (binaryOp _ (Value.ref _) (Value.ref _)) _ _ _); k_dflt (refine' add_any ?Fzq ?Nzq ?hazq ?hbzq ?z1zq ?z2zq ?_; (case Fzq | Nzq => k_asm); (case hazq | hbzq => k_mem); (case z1zq | z2zq => first | with_reducible assumption | exact Nat.le_of_ble_eq_true rfl); k_whole); intro D' h' F' N' l1; (try k_lt l1); (try k_sweep)))) | (((k_here; (with_reducible show wpAny _ _ (subscriptTail _ _ (Value.ref _) (Value.int _ _)) _ _ _); k_dflt (refine' at_sub ?Nzq ?hmzq ?hxzq ?hzzq ?_ ?hszq; (case Nzq => k_asm); (case hmzq => k_mem); (case hxzq | hzzq => with_reducible assumption); (case hszq => with_unfolding_all rfl))))) | (((k_here; (with_reducible show wpAny _ _ (subscriptTail _ _ (Value.ref _) (Value.int _ _)) _ _ _); k_dflt (refine' at_sub ?Nzq ?hmzq ?hxzq ?hzzq ?_ ?hszq; (case Nzq => k_asm); (case hmzq => k_mem); (case hxzq | hzzq => with_reducible assumption); (case hszq => with_unfolding_all rfl))))) | (((k_here; (with_reducible show wpAny _ _ (subscriptTail _ _ (Value.ref _) (Value.int 0 _)) _ _ _); k_dflt (refine' head_sub ?Nzq ?hmzq ?SSzq ?ezq ?_ ?hszq; (case Nzq => k_asm); (case hmzq => k_mem); (case SSzq => with_reducible assumption); (case ezq => rfl); (case hszq => with_unfolding_all rfl); intro u')))) | (((k_here; (with_reducible show wpAny _ _ (call (Value.ref 794) _ _) _ _ _); k_dflt (refine' tails_use ?lozq ?lnzq ?Bzq ?Fzq ?Nzq ?Xzq ?Tzq ?hkzq ?hdzq ?huzq ?_; (case lozq | lnzq => with_reducible assumption); (case Bzq | Fzq | Nzq | Xzq | Tzq => k_asm); (case hkzq => first | exact rfl | assumption); (case hdzq => k_room); (case huzq => k_units); k_whole; intro D' acc' c' h' tk' SS' z' F' N' ne'; (try k_sweep))))) | (((k_here; (with_reducible show wpAny _ _ (call (Value.ref 787) _ _) _ _ _); k_dflt (refine' ctr_use (law_hidden _ _ _ _ ?lozq ?lnzq) ?Bzq ?Fzq ?Nzq ?Xzq ?Tzq ?hkzq ?hdzq ?huzq ?_; (case lozq | lnzq => with_reducible assumption); (case Bzq | Fzq | Nzq | Xzq | Tzq => k_asm); (case hkzq => first | exact rfl | assumption); (case hdzq => k_room); (case huzq => k_units); k_whole; intro v' h' tk' F' N' hh'; obtain ⟨t', e'⟩ := hh'.out; subst e'; (try k_sweep))))) | (((k_here; (with_reducible show wpAny _ _ (call (Value.builtin _) [Value.ref _, _]) _ _ _); k_dflt (refine' append_K ?k1zq ?k2zq ?k3zq ?_ ?zzq; (case k1zq | k2zq => k_asm); (case k3zq => k_upd); (case zzq => with_reducible assumption); k_whole); intro h' F' N'; (try k_sweep)))) | (with_reducible ((with_reducible show wpAny _ _ (exec (PySem.Stmt.If _ _ _ _) _) _ _ _); (refine wpAny_If ?_))) | (k_unfold; (try dsimp only)) | walk1 | (dsimp only; walk1) | (leave1; walk_say "STEP leave1"; try dsimp only) | fail "no step"))
    (rename Fr _ _ _ _ => FR); (rename News _ _ _ _ => NR); (rename IsRange _ _ _ _ _ _ _ _ => HR)
    refine rg_start FR NR HR (rg_small (by omega)) fun I h' F' N' l1 => ?_
    rw [rg_zero, hso] at N'
    obtain ⟨d1, d2, d3, d4, d5, d6⟩ := hD I (allLt_of fun p hp => l1 p (by first | exact hp | exact .tail _ hp))
    refine ⟨I, O.length, rfl, 0, SE, #[], #[], #[], c1, c2, c3, oK, xk, ps, tl, _, h', gs0, dr0, _, rfl, by omega, AB, TK, .nil, .nil, .nil, SR, rfl, hoK, F', ?_, d1, d2, d3, d4, d5, d6, rfl, rfl, rfl, rfl⟩
    intro q hq
    rcases List.mem_cons.mp hq with rfl | hq
    · exact N' _ (.head _)
    · exact N' q (.tail _ (by first | exact hq | exact .tail _ hq))
  · intro I left s' hI
    obtain ⟨j, SE, sv, dv, lv, c1, c2, c3, oK, xk, ps, tl, m2, h2, gs, dr, tk, rfl, hc, AB2, TK2, SS, SL, BI, SR2, hdv, hoK2, F2, N2, D5, oSE, oRW, oOW, ocO, otl, m1, m3, m4, m5⟩ := hI
    have F2 := fr_put4 F2 m1 m3 m4 m5
    obtain ⟨x1, x2, x3, x4, x5, x6, x7, x8, x9, x10⟩ := D5
    obtain ⟨y1, y2, y3, y4, y5⟩ := oSE
    obtain ⟨r1, r2, r3, r4, r5⟩ := oRW
    obtain ⟨w1, w2, w3, w4, w5⟩ := oOW
    obtain ⟨z1, z2, z3, z4, z5⟩ := ocO
    have t1 : ∀ p ∈ tl, p.1 ≠ I := fun p hp => (otl p hp).1
    have t2 : ∀ p ∈ tl, p.1 ≠ LN := fun p hp => (otl p hp).2.1
    have t3 : ∀ p ∈ tl, p.1 ≠ DU := fun p hp => (otl p hp).2.2.1
    have t4 : ∀ p ∈ tl, p.1 ≠ cK := fun p hp => (otl p hp).2.2.2.1
    have t5 : ∀ p ∈ tl, p.1 ≠ 753 := fun p hp => (otl p hp).2.2.2.2
    have hne : ∀ p ∈ (SE, listOf sv c1) :: (DU, listOf dv c2) :: (LN, listOf lv c3) :: (RW, listOf rv.toArray cr) :: (OW, listOf ov co) :: (cK, oK) :: (cO, oO) :: (753, tabObj ps) :: tl, p.1 ≠ I := by k_all
    cases left with
    | zero =>
      refine rg_end rfl F2 N2 hne (Int.le_refl _) fun h3 F3 N3 => ?_
      dsimp only
      have hj : j = (O.zip R).length := by rw [List.length_zip]; omega
      rw [hj, List.take_length] at SS SL BI
      refine hfin SE sv dv lv c1 c2 c3 oK ps tl _ h3 gs dr _ AB2 TK2 SS SL BI F3 (fun q hq => N3 q ?_) y5 x9 x7 w5 z5 t5 rfl rfl rfl
      simp only [List.mem_cons] at hq ⊢
      rcases hq with h | h | h | h | h | h | h <;> simp [h]
    | succ left =>
      have hj : j < O.length := by omega
      obtain ⟨o, eo⟩ : ∃ o, O[j]? = some o := ⟨_, List.getElem?_eq_getElem hj⟩
      obtain ⟨r, er⟩ : ∃ r, R[j]? = some r := ⟨_, List.getElem?_eq_getElem (by omega)⟩
      obtain ⟨Aj, accj, cj, eA, mA, SA⟩ := SR2.get er
      obtain ⟨ko, eov⟩ : ∃ k, ov[j]? = some (.str (S o) k) := by
        have hjl : j < ov.toList.length := by have := SO.len; omega
        obtain ⟨o', k, e1, e2⟩ := SO.get j _ (List.getElem?_eq_getElem hjl)
        rw [eo] at e1
        cases e1
        exact ⟨k, by rw [← Array.getElem?_toList, List.getElem?_eq_getElem hjl, e2]⟩
      have erv : rv.toArray[j]? = some (.ref Aj) := by rw [List.getElem?_toArray]; exact eA
      have hO := okO o (List.mem_of_getElem? eo)
      have hR := okR r (List.mem_of_getElem? er)
      have hrl : r.length ≤ 10 := Nat.le_trans (len_le_sum (List.mem_of_getElem? er)) hsum
      obtain ⟨u1, u2, u3, u4, u5⟩ := otl _ mA
      dsimp only at u1 u2 u3 u4 u5
      have hlo : (S o).length ≤ 1000 := by rw [S_length]; have := hO.2; omega
      have hj62 : j < 2 ^ 62 := by omega
      have N3 : News h₀ L h2 ((I, rgObj (j : Nat) ((left + 1 : Nat) : Nat)) :: (Aj, listOf accj cj) :: (SE, listOf sv c1) :: (DU, listOf dv c2) :: (LN, listOf lv c3) :: (RW, listOf rv.toArray cr) :: (OW, listOf ov co) :: (cK, oK) :: (cO, oO) :: (753, tabObj ps) :: tl) := fun q hq => by
        rcases List.mem_cons.mp hq with rfl | hq
        · exact N2 _ (.head _)
        · rcases List.mem_cons.mp hq with rfl | hq
          · exact N2 _ (by simp [mA])
          · exact N2 q (.tail _ hq)
      refine rg_next F2 N3 (List.forall_mem_cons.mpr ⟨u1, hne⟩) (by omega) fun h3 t tk3 F3 N4 => ?_
      clear F2 N2 N3
      dsimp only
      (repeat' (first | ((with_reducible refine consQ_next ?_)) | ((with_reducible refine consQ_ret ?_)) | ((with_reducible refine consQ_brk ?_)) | ((with_reducible refine consQ_cont ?_)) | (with_reducible ((with_reducible show wpAny _ _ (execs (_ :: _) _) _ _ _); (k_here; (try dsimp only); (try (refine gen_toks ?_; intro tk)); first | refine execs_one ?_ | refine execs_consQ ?_))) | ((with_reducible refine wpAny_execs_nil ?_)) | (((with_reducible show wpAny _ _ (exec (PySem.Stmt.Assign _ (PySem.Expr.ListComp _ _ _ _) _) _) _ _ _); (k_here; k_dflt (refine LCg.Assign_ListComp_U (F₀ := by k_asm) (by rfl) (by with_unfolding_all rfl) (by with_unfolding_all rfl) (by decide) (by rfl) (by decide) (by rfl) (by rfl) (by rfl) ?_)))) | (((with_reducible show wpAny _ _ (eval (PySem.Expr.ListComp _ _ _ _) _) _ _ _); (k_here; k_dflt (refine LCg.ListComp_U (F₀ := by k_asm) (by with_unfolding_all rfl) (by decide) (by rfl) (by decide) (by rfl) ?_)))) | (((with_reducible show LCg.CompSrc _ _ _ _ _ _ _ _ _ _ _ _ _ _); (refine Hold.out ?_))) | (((k_here; (with_reducible show wpAny _ _ (call (Value.builtin _) [Value.ref _]) _ _ _); k_dflt (refine' len_sym ?Nzq ?hmzq ?hzzq ?_; (case Nzq => k_asm); (case hmzq => k_mem); (case hzzq => with_reducible assumption))))) | (((k_here; (with_reducible show wpAny _ _ (binaryOp _ (Value.ref _) (Value.ref _)) _ _ _); k_dflt (refine' add_any ?Fzq ?Nzq ?hazq ?hbzq ?z1zq ?z2zq ?_; (case Fzq | Nzq => k_asm); (case hazq | hbzq => k_mem); (case z1zq | z2zq => first | with_reducible assumption | exact Nat.le_of_ble_eq_true rfl); k_whole); intro D' h' F' N' l1; (try k_lt l1); (try k_sweep)))) | (((k_here; (with_reducible show wpAny _ _ (subscriptTail _ _ (Value.ref _) (Value.int _ _)) _ _ _); k_dflt (refine' at_sub ?Nzq ?hmzq ?hxzq ?hzzq ?_ ?hszq; (case Nzq => k_asm); (case hmzq => k_mem); (case hxzq | hzzq => with_reducible assumption); (case hszq => with_unfolding_all rfl))))) | (((k_here; (with_reducible show wpAny _ _ (subscriptTail _ _ (Value.ref _) (Value.int _ _)) _ _ _); k_dflt (refine' at_sub ?Nzq ?hmzq ?hxzq ?hzzq ?_ ?hszq; (case Nzq => k_asm); (case hmzq => k_mem); (case hxzq | hzzq => with_reducible assumption); (case hszq => with_unfolding_all rfl))))) | (((k_here; (with_reducible show wpAny _ _ (subscriptTail _ _ (Value.ref _) (Value.int 0 _)) _ _ _); k_dflt (refine' head_sub ?Nzq ?hmzq ?SSzq ?ezq ?_ ?hszq; (case Nzq => k_asm); (case hmzq => k_mem); (case SSzq => with_reducible assumption); (case ezq => rfl); (case hszq => with_unfolding_all rfl); intro u')))) | (((k_here; (with_reducible show wpAny _ _ (call (Value.ref 794) _ _) _ _ _); k_dflt (refine' tails_use ?lozq ?lnzq ?Bzq ?Fzq ?Nzq ?Xzq ?Tzq ?hkzq ?hdzq ?huzq ?_; (case lozq | lnzq => with_reducible assumption); (case Bzq | Fzq | Nzq | Xzq | Tzq => k_asm); (case hkzq => first | exact rfl | assumption); (case hdzq => k_room); (case huzq => k_units); k_whole; intro D' acc' c' h' tk' SS' z' F' N' ne'; (try k_sweep))))) | (((k_here; (with_reducible show wpAny _ _ (call (Value.ref 787) _ _) _ _ _); k_dflt (refine' ctr_use (law_hidden _ _ _ _ ?lozq ?lnzq) ?Bzq ?Fzq ?Nzq ?Xzq ?Tzq ?hkzq ?hdzq ?huzq ?_; (case lozq | lnzq => with_reducible assumption); (case Bzq | Fzq | Nzq | Xzq | Tzq => k_asm); (case hkzq => first | exact rfl | assumption); (case hdzq => k_room); (case huzq => k_units); k_whole; intro v' h' tk' F' N' hh'; obtain ⟨t', e'⟩ := hh'.out; subst e'; (try k_sweep))))) | (((k_here; (with_reducible show wpAny _ _ (call (Value.builtin _) [Value.ref _, _]) _ _ _); k_dflt (refine' append_K ?k1zq ?k2zq ?k3zq ?_ ?zzq; (case k1zq | k2zq => k_asm); (case k3zq => k_upd); (case zzq => with_reducible assumption); k_whole); intro h' F' N'; (try k_sweep)))) | (with_reducible ((with_reducible show wpAny _ _ (exec (PySem.Stmt.If _ _ _ _) _) _ _ _); (refine wpAny_If ?_))) | (k_unfold; (try dsimp only)) | walk1 | (dsimp only; walk1) | (leave1; walk_say "STEP leave1"; try dsimp only) | fail "no step"))
      refine Hold.mk ?_
      refine LCg.CompSrc.ledger (its := accj) (k := cj) rfl (by assumption) (by assumption) (by k_mem) ?_ ?_
      · have h1 := strs_size SA; have h3 : sizeLine = 16777216 := rfl; omega
      intro g5
      refine comp_rest (f := hid o) SA (by k_mem) ?_ ?_
      · intro i t9 k9 ys I9 oI9 C9 oC9 D9 m9 h9 tk9 E9 e9 hC9 x9 F9 N9
        have ht9 : (S t9).length ≤ 1000 := by rw [S_length]; have := (hR t9 (List.mem_of_getElem? e9)).2; omega
        (repeat' (first | ((with_reducible show ElEnd _ _ _ _ _ _ _ _); exact ⟨_, _, _, rfl, by rw [hidT_S], by assumption, by assumption⟩) | ((with_reducible refine consQ_next ?_)) | ((with_reducible refine consQ_ret ?_)) | ((with_reducible refine consQ_brk ?_)) | ((with_reducible refine consQ_cont ?_)) | (with_reducible ((with_reducible show wpAny _ _ (execs (_ :: _) _) _ _ _); (k_here; (try dsimp only); (try (refine gen_toks ?_; intro tk)); first | refine execs_one ?_ | refine execs_consQ ?_))) | ((with_reducible refine wpAny_execs_nil ?_)) | (((with_reducible show wpAny _ _ (exec (PySem.Stmt.Assign _ (PySem.Expr.ListComp _ _ _ _) _) _) _ _ _); (k_here; k_dflt (refine LCg.Assign_ListComp_U (F₀ := by k_asm) (by rfl) (by with_unfolding_all rfl) (by with_unfolding_all rfl) (by decide) (by rfl) (by decide) (by rfl) (by rfl) (by rfl) ?_)))) | (((with_reducible show wpAny _ _ (eval (PySem.Expr.ListComp _ _ _ _) _) _ _ _); (k_here; k_dflt (refine LCg.ListComp_U (F₀ := by k_asm) (by with_unfolding_all rfl) (by decide) (by rfl) (by decide) (by rfl) ?_)))) | (((with_reducible show LCg.CompSrc _ _ _ _ _ _ _ _ _ _ _ _ _ _); (refine Hold.out ?_))) | (((k_here; (with_reducible show wpAny _ _ (call (Value.builtin _) [Value.ref _]) _ _ _); k_dflt (refine' len_sym ?Nzq ?hmzq ?hzzq ?_; (case Nzq => k_asm); (case hmzq => k_mem); (case hzzq => with_reducible assumption))))) | (((k_here; (with_reducible show wpAny _ _ (binaryOp _ (Value.ref _) (Value.ref _)) _ _ _); k_dflt (refine' add_any ?Fzq ?Nzq ?hazq ?hbzq ?z1zq ?z2zq ?_; (case Fzq | Nzq => k_asm); (case hazq | hbzq => k_mem); (case z1zq | z2zq => first | with_reducible assumption | exact Nat.le_of_ble_eq_true rfl); k_whole); intro D' h' F' N' l1; (try k_lt l1); (try k_sweep)))) | (((k_here; (with_reducible show wpAny _ _ (subscriptTail _ _ (Value.ref _) (Value.int _ _)) _ _ _); k_dflt (refine' at_sub ?Nzq ?hmzq ?hxzq ?hzzq ?_ ?hszq; (case Nzq => k_asm); (case hmzq => k_mem); (case hxzq | hzzq => with_reducible assumption); (case hszq => with_unfolding_all rfl))))) | (((k_here; (with_reducible show wpAny _ _ (subscriptTail _ _ (Value.ref _) (Value.int _ _)) _ _ _); k_dflt (refine' at_sub ?Nzq ?hmzq ?hxzq ?hzzq ?_ ?hszq; (case Nzq => k_asm); (case hmzq => k_mem); (case hxzq | hzzq => with_reducible assumption); (case hszq => with_unfolding_all rfl))))) | (((k_here; (with_reducible show wpAny _ _ (subscriptTail _ _ (Value.ref _) (Value.int 0 _)) _ _ _); k_dflt (refine' head_sub ?Nzq ?hmzq ?SSzq ?ezq ?_ ?hszq; (case Nzq => k_asm); (case hmzq => k_mem); (case SSzq => with_reducible assumption); (case ezq => rfl); (case hszq => with_unfolding_all rfl); intro u')))) | (((k_here; (with_reducible show wpAny _ _ (call (Value.ref 794) _ _) _ _ _); k_dflt (refine' tails_use ?lozq ?lnzq ?Bzq ?Fzq ?Nzq ?Xzq ?Tzq ?hkzq ?hdzq ?huzq ?_; (case lozq | lnzq => with_reducible assumption); (case Bzq | Fzq | Nzq | Xzq | Tzq => k_asm); (case hkzq => first | exact rfl | assumption); (case hdzq => k_room); (case huzq => k_units); k_whole; intro D' acc' c' h' tk' SS' z' F' N' ne'; (try k_sweep))))) | (((k_here; (with_reducible show wpAny _ _ (call (Value.ref 787) _ _) _ _ _); k_dflt (refine' ctr_use (law_hidden _ _ _ _ ?lozq ?lnzq) ?Bzq ?Fzq ?Nzq ?Xzq ?Tzq ?hkzq ?hdzq ?huzq ?_; (case lozq | lnzq => with_reducible assumption); (case Bzq | Fzq | Nzq | Xzq | Tzq => k_asm); (case hkzq => first | exact rfl | assumption); (case hdzq => k_room); (case huzq => k_units); k_whole; intro v' h' tk' F' N' hh'; obtain ⟨t', e'⟩ := hh'.out; subst e'; (try k_sweep))))) | (((k_here; (with_reducible show wpAny _ _ (call (Value.builtin _) [Value.ref _, _]) _ _ _); k_dflt (refine' append_K ?k1zq ?k2zq ?k3zq ?_ ?zzq; (case k1zq | k2zq => k_asm); (case k3zq => k_upd); (case zzq => with_reducible assumption); k_whole); intro h' F' N'; (try k_sweep)))) | (with_reducible ((with_reducible show wpAny _ _ (exec (PySem.Stmt.If _ _ _ _) _) _ _ _); (refine wpAny_If ?_))) | (k_unfold; (try dsimp only)) | walk1 | (dsimp only; walk1) | (leave1; walk_say "STEP leave1"; try dsimp only) | fail "no step"))
      · intro ys hys
        have hyl := hys.len
        rw [List.length_map] at hyl
        have hzy : ys.toArray.size ≤ 10000 := by simp; omega
        have hzs : sv.size ≤ 10000 := by have h1 := strs_size SS; have h2 := seen_len O R j; omega
        have hzl : lv.size ≤ sizeLine := by
          have h1 := strs_size SL
          have h3 : sizeLine = 16777216 := rfl
          rw [List.length_map, List.length_take, List.length_zip] at h1
          omega
        have hzd : dv.size ≤ sizeLine := by have h3 : sizeLine = 16777216 := rfl; omega
        unfold LCg.FinA
        intro D5 h5 tk5 F5 N5 o5
        simp only [LCg.Off1] at o5
        obtain ⟨g1, g2, g3, g4, g6, g7, g8, g9, g10, g11, g12⟩ := o5
        have N5 : News h₀ L h5 ((D5, listOf ys.toArray ys.length) :: _) := N5
        dsimp only
        (repeat' (first | ((with_reducible show wpAny _ _ (call (Value.ref 758) _ _) _ _ _); refine' join_use (ts := o :: hidR (o, r)) ?SS ?hts ?htot ?B ?F ?N ?X ?T ?hk ?hd ?hu ?hl ?TK ?U ?AB ?_; (case B => assumption); (case F => assumption); (case N => assumption); (case hl => k_mem); (case SS => (simp only [List.toList_toArray, List.cons_append, List.nil_append]; exact .cons hys)); (case hts => exact fun t ht => by have := (words_ok hO hR t ht).1; omega); (case htot => have := words_sum hO hR; omega); (case X => assumption); (case T => assumption); (case hk => rfl); (case hd => k_room); (case hu => k_units); (case TK => assumption); (case U => k_updF); (case AB => assumption); intro u8 h8 gs8 dr8 tk8 ps8 AB8 TK8 F8 N8; try dsimp only at N8) | ((with_reducible refine consQ_next ?_)) | ((with_reducible refine consQ_ret ?_)) | ((with_reducible refine consQ_brk ?_)) | ((with_reducible refine consQ_cont ?_)) | (with_reducible ((with_reducible show wpAny _ _ (execs (_ :: _) _) _ _ _); (k_here; (try dsimp only); (try (refine gen_toks ?_; intro tk)); first | refine execs_one ?_ | refine execs_consQ ?_))) | ((with_reducible refine wpAny_execs_nil ?_)) | (((with_reducible show wpAny _ _ (exec (PySem.Stmt.Assign _ (PySem.Expr.ListComp _ _ _ _) _) _) _ _ _); (k_here; k_dflt (refine LCg.Assign_ListComp_U (F₀ := by k_asm) (by rfl) (by with_unfolding_all rfl) (by with_unfolding_all rfl) (by decide) (by rfl) (by decide) (by rfl) (by rfl) (by rfl) ?_)))) | (((with_reducible show wpAny _ _ (eval (PySem.Expr.ListComp _ _ _ _) _) _ _ _); (k_here; k_dflt (refine LCg.ListComp_U (F₀ := by k_asm) (by with_unfolding_all rfl) (by decide) (by rfl) (by decide) (by rfl) ?_)))) | (((with_reducible show LCg.CompSrc _ _ _ _ _ _ _ _ _ _ _ _ _ _); (refine Hold.out ?_))) | (((k_here; (with_reducible show wpAny _ _ (call (Value.builtin _) [Value.ref _]) _ _ _); k_dflt (refine' len_sym ?Nzq ?hmzq ?hzzq ?_; (case Nzq => k_asm); (case hmzq => k_mem); (case hzzq => with_reducible assumption))))) | (((k_here; (with_reducible show wpAny _ _ (binaryOp _ (Value.ref _) (Value.ref _)) _ _ _); k_dflt (refine' add_any ?Fzq ?Nzq ?hazq ?hbzq ?z1zq ?z2zq ?_; (case Fzq | Nzq => k_asm); (case hazq | hbzq => k_mem); (case z1zq | z2zq => first | with_reducible assumption | exact Nat.le_of_ble_eq_true rfl); k_whole); intro D' h' F' N' l1; (try k_lt l1); (try k_sweep)))) | (((k_here; (with_reducible show wpAny _ _ (subscriptTail _ _ (Value.ref _) (Value.int _ _)) _ _ _); k_dflt (refine' at_sub ?Nzq ?hmzq ?hxzq ?hzzq ?_ ?hszq; (case Nzq => k_asm); (case hmzq => k_mem); (case hxzq | hzzq => with_reducible assumption); (case hszq => with_unfolding_all rfl))))) | (((k_here; (with_reducible show wpAny _ _ (subscriptTail _ _ (Value.ref _) (Value.int _ _)) _ _ _); k_dflt (refine' at_sub ?Nzq ?hmzq ?hxzq ?hzzq ?_ ?hszq; (case Nzq => k_asm); (case hmzq => k_mem); (case hxzq | hzzq => with_reducible assumption); (case hszq => with_unfolding_all rfl))))) | (((k_here; (with_reducible show wpAny _ _ (subscriptTail _ _ (Value.ref _) (Value.int 0 _)) _ _ _); k_dflt (refine' head_sub ?Nzq ?hmzq ?SSzq ?ezq ?_ ?hszq; (case Nzq => k_asm); (case hmzq => k_mem); (case SSzq => with_reducible assumption); (case ezq => rfl); (case hszq => with_unfolding_all rfl); intro u')))) | (((k_here; (with_reducible show wpAny _ _ (call (Value.ref 794) _ _) _ _ _); k_dflt (refine' tails_use ?lozq ?lnzq ?Bzq ?Fzq ?Nzq ?Xzq ?Tzq ?hkzq ?hdzq ?huzq ?_; (case lozq | lnzq => with_reducible assumption); (case Bzq | Fzq | Nzq | Xzq | Tzq => k_asm); (case hkzq => first | exact rfl | assumption); (case hdzq => k_room); (case huzq => k_units); k_whole; intro D' acc' c' h' tk' SS' z' F' N' ne'; (try k_sweep))))) | (((k_here; (with_reducible show wpAny _ _ (call (Value.ref 787) _ _) _ _ _); k_dflt (refine' ctr_use (law_hidden _ _ _ _ ?lozq ?lnzq) ?Bzq ?Fzq ?Nzq ?Xzq ?Tzq ?hkzq ?hdzq ?huzq ?_; (case lozq | lnzq => with_reducible assumption); (case Bzq | Fzq | Nzq | Xzq | Tzq => k_asm); (case hkzq => first | exact rfl | assumption); (case hdzq => k_room); (case huzq => k_units); k_whole; intro v' h' tk' F' N' hh'; obtain ⟨t', e'⟩ := hh'.out; subst e'; (try k_sweep))))) | (((k_here; (with_reducible show wpAny _ _ (call (Value.builtin _) [Value.ref _, _]) _ _ _); k_dflt (refine' append_K ?k1zq ?k2zq ?k3zq ?_ ?zzq; (case k1zq | k2zq => k_asm); (case k3zq => k_upd); (case zzq => with_reducible assumption); k_whole); intro h' F' N'; (try k_sweep)))) | (with_reducible ((with_reducible show wpAny _ _ (exec (PySem.Stmt.If _ _ _ _) _) _ _ _); (refine wpAny_If ?_))) | (k_unfold; (try dsimp only)) | walk1 | (dsimp only; walk1) | (leave1; walk_say "STEP leave1"; try dsimp only) | fail "no step"))
        refine Hold.mk ?_
        refine LCg.CompSrc.ledger (its := ys.toArray) (k := ys.length) rfl (by assumption) (by assumption) (by k_mem) ?_ ?_
        · have h3 : sizeLine = 16777216 := rfl; omega
        intro g5'
        have hys' : Strs ys.toArray.toList (r.map (hid o)) := hys
        refine comp_rest (f := shortOf o) hys' (by k_mem) ?_ ?_
        · intro i t9 k9 ys9 I9 oI9 C9 oC9 D9 m9 h9 tk9 E9 e9 hC9 x9' F9 N9
          have ht9 : (S t9).length ≤ 1000 := by
            rw [S_length]
            obtain ⟨n9, hn9, rfl⟩ := List.mem_map.mp (List.mem_of_getElem? e9)
            have := hid_ok hO (hR n9 hn9)
            omega
          (repeat' (first | ((with_reducible show ElEnd _ _ _ _ _ _ _ _); exact ⟨_, _, _, rfl, rfl, by assumption, fun q hq => (by assumption : News _ _ _ _) q (by repeat (first | exact hq | refine List.Mem.tail _ ?_))⟩) | ((with_reducible refine consQ_next ?_)) | ((with_reducible refine consQ_ret ?_)) | ((with_reducible refine consQ_brk ?_)) | ((with_reducible refine consQ_cont ?_)) | (with_reducible ((with_reducible show wpAny _ _ (execs (_ :: _) _) _ _ _); (k_here; (try dsimp only); (try (refine gen_toks ?_; intro tk)); first | refine execs_one ?_ | refine execs_consQ ?_))) | ((with_reducible refine wpAny_execs_nil ?_)) | (((with_reducible show wpAny _ _ (exec (PySem.Stmt.Assign _ (PySem.Expr.ListComp _ _ _ _) _) _) _ _ _); (k_here; k_dflt (refine LCg.Assign_ListComp_U (F₀ := by k_asm) (by rfl) (by with_unfolding_all rfl) (by with_unfolding_all rfl) (by decide) (by rfl) (by decide) (by rfl) (by rfl) (by rfl) ?_)))) | (((with_reducible show wpAny _ _ (eval (PySem.Expr.ListComp _ _ _ _) _) _ _ _); (k_here; k_dflt (refine LCg.ListComp_U (F₀ := by k_asm) (by with_unfolding_all rfl) (by decide) (by rfl) (by decide) (by rfl) ?_)))) | (((with_reducible show LCg.CompSrc _ _ _ _ _ _ _ _ _ _ _ _ _ _); (refine Hold.out ?_))) | (((k_here; (with_reducible show wpAny _ _ (call (Value.builtin _) [Value.ref _]) _ _ _); k_dflt (refine' len_sym ?Nzq ?hmzq ?hzzq ?_; (case Nzq => k_asm); (case hmzq => k_mem); (case hzzq => with_reducible assumption))))) | (((k_here; (with_reducible show wpAny _ _ (binaryOp _ (Value.ref _) (Value.ref _)) _ _ _); k_dflt (refine' add_any ?Fzq ?Nzq ?hazq ?hbzq ?z1zq ?z2zq ?_; (case Fzq | Nzq => k_asm); (case hazq | hbzq => k_mem); (case z1zq | z2zq => first | with_reducible assumption | exact Nat.le_of_ble_eq_true rfl); k_whole); intro D' h' F' N' l1; (try k_lt l1); (try k_sweep)))) | (((k_here; (with_reducible show wpAny _ _ (subscriptTail _ _ (Value.ref _) (Value.int _ _)) _ _ _); k_dflt (refine' at_sub ?Nzq ?hmzq ?hxzq ?hzzq ?_ ?hszq; (case Nzq => k_asm); (case hmzq => k_mem); (case hxzq | hzzq => with_reducible assumption); (case hszq => with_unfolding_all rfl))))) | (((k_here; (with_reducible show wpAny _ _ (subscriptTail _ _ (Value.ref _) (Value.int _ _)) _ _ _); k_dflt (refine' at_sub ?Nzq ?hmzq ?hxzq ?hzzq ?_ ?hszq; (case Nzq => k_asm); (case hmzq => k_mem); (case hxzq | hzzq => with_reducible assumption); (case hszq => with_unfolding_all rfl))))) | (((k_here; (with_reducible show wpAny _ _ (subscriptTail _ _ (Value.ref _) (Value.int 0 _)) _ _ _); k_dflt (refine' head_sub ?Nzq ?hmzq ?SSzq ?ezq ?_ ?hszq; (case Nzq => k_asm); (case hmzq => k_mem); (case SSzq => with_reducible assumption); (case ezq => rfl); (case hszq => with_unfolding_all rfl); intro u')))) | (((k_here; (with_reducible show wpAny _ _ (call (Value.ref 794) _ _) _ _ _); k_dflt (refine' tails_use ?lozq ?lnzq ?Bzq ?Fzq ?Nzq ?Xzq ?Tzq ?hkzq ?hdzq ?huzq ?_; (case lozq | lnzq => with_reducible assumption); (case Bzq | Fzq | Nzq | Xzq | Tzq => k_asm); (case hkzq => first | exact rfl | assumption); (case hdzq => k_room); (case huzq => k_units); k_whole; intro D' acc' c' h' tk' SS' z' F' N' ne'; (try k_sweep))))) | (((k_here; (with_reducible show wpAny _ _ (call (Value.ref 787) _ _) _ _ _); k_dflt (refine' ctr_use (law_hidden _ _ _ _ ?lozq ?lnzq) ?Bzq ?Fzq ?Nzq ?Xzq ?Tzq ?hkzq ?hdzq ?huzq ?_; (case lozq | lnzq => with_reducible assumption); (case Bzq | Fzq | Nzq | Xzq | Tzq => k_asm); (case hkzq => first | exact rfl | assumption); (case hdzq => k_room); (case huzq => k_units); k_whole; intro v' h' tk' F' N' hh'; obtain ⟨t', e'⟩ := hh'.out; subst e'; (try k_sweep))))) | (((k_here; (with_reducible show wpAny _ _ (call (Value.builtin _) [Value.ref _, _]) _ _ _); k_dflt (refine' append_K ?k1zq ?k2zq ?k3zq ?_ ?zzq; (case k1zq | k2zq => k_asm); (case k3zq => k_upd); (case zzq => with_reducible assumption); k_whole); intro h' F' N'; (try k_sweep)))) | (with_reducible ((with_reducible show wpAny _ _ (exec (PySem.Stmt.If _ _ _ _) _) _ _ _); (refine wpAny_If ?_))) | (k_unfold; (try dsimp only)) | walk1 | (dsimp only; walk1) | (leave1; walk_say "STEP leave1"; try dsimp only) | fail "no step"))
        · intro ys2 hys2
          unfold LCg.FinE
          intro D6 h6 tk6 F6 N6 o6
          simp only [LCg.Off1] at o6
          have N6 : News h₀ L h6 ((D6, listOf ys2.toArray ys2.length) :: _) := N6
          dsimp only
          (repeat' (first | ((with_reducible refine consQ_next ?_)) | ((with_reducible refine consQ_ret ?_)) | ((with_reducible refine consQ_brk ?_)) | ((with_reducible refine consQ_cont ?_)) | (with_reducible ((with_reducible show wpAny _ _ (execs (_ :: _) _) _ _ _); (k_here; (try dsimp only); (try (refine gen_toks ?_; intro tk)); first | refine execs_one ?_ | refine execs_consQ ?_))) | ((with_reducible refine wpAny_execs_nil ?_)) | (((with_reducible show wpAny _ _ (exec (PySem.Stmt.Assign _ (PySem.Expr.ListComp _ _ _ _) _) _) _ _ _); (k_here; k_dflt (refine LCg.Assign_ListComp_U (F₀ := by k_asm) (by rfl) (by with_unfolding_all rfl) (by with_unfolding_all rfl) (by decide) (by rfl) (by decide) (by rfl) (by rfl) (by rfl) ?_)))) | (((with_reducible show wpAny _ _ (eval (PySem.Expr.ListComp _ _ _ _) _) _ _ _); (k_here; k_dflt (refine LCg.ListComp_U (F₀ := by k_asm) (by with_unfolding_all rfl) (by decide) (by rfl) (by decide) (by rfl) ?_)))) | (((with_reducible show LCg.CompSrc _ _ _ _ _ _ _ _ _ _ _ _ _ _); (refine Hold.out ?_))) | (((k_here; (with_reducible show wpAny _ _ (call (Value.builtin _) [Value.ref _]) _ _ _); k_dflt (refine' len_sym ?Nzq ?hmzq ?hzzq ?_; (case Nzq => k_asm); (case hmzq => k_mem); (case hzzq => with_reducible assumption))))) | (((k_here; (with_reducible show wpAny _ _ (binaryOp _ (Value.ref _) (Value.ref _)) _ _ _); k_dflt (refine' add_any ?Fzq ?Nzq ?hazq ?hbzq ?z1zq ?z2zq ?_; (case Fzq | Nzq => k_asm); (case hazq | hbzq => k_mem); (case z1zq | z2zq => first | with_reducible assumption | exact Nat.le_of_ble_eq_true rfl); k_whole); intro D' h' F' N' l1; (try k_lt l1); (try k_sweep)))) | (((k_here; (with_reducible show wpAny _ _ (subscriptTail _ _ (Value.ref _) (Value.int _ _)) _ _ _); k_dflt (refine' at_sub ?Nzq ?hmzq ?hxzq ?hzzq ?_ ?hszq; (case Nzq => k_asm); (case hmzq => k_mem); (case hxzq | hzzq => with_reducible assumption); (case hszq => with_unfolding_all rfl))))) | (((k_here; (with_reducible show wpAny _ _ (subscriptTail _ _ (Value.ref _) (Value.int _ _)) _ _ _); k_dflt (refine' at_sub ?Nzq ?hmzq ?hxzq ?hzzq ?_ ?hszq; (case Nzq => k_asm); (case hmzq => k_mem); (case hxzq | hzzq => with_reducible assumption); (case hszq => with_unfolding_all rfl))))) | (((k_here; (with_reducible show wpAny _ _ (subscriptTail _ _ (Value.ref _) (Value.int 0 _)) _ _ _); k_dflt (refine' head_sub ?Nzq ?hmzq ?SSzq ?ezq ?_ ?hszq; (case Nzq => k_asm); (case hmzq => k_mem); (case SSzq => with_reducible assumption); (case ezq => rfl); (case hszq => with_unfolding_all rfl); intro u')))) | (((k_here; (with_reducible show wpAny _ _ (call (Value.ref 794) _ _) _ _ _); k_dflt (refine' tails_use ?lozq ?lnzq ?Bzq ?Fzq ?Nzq ?Xzq ?Tzq ?hkzq ?hdzq ?huzq ?_; (case lozq | lnzq => with_reducible assumption); (case Bzq | Fzq | Nzq | Xzq | Tzq => k_asm); (case hkzq => first | exact rfl | assumption); (case hdzq => k_room); (case huzq => k_units); k_whole; intro D' acc' c' h' tk' SS' z' F' N' ne'; (try k_sweep))))) | (((k_here; (with_reducible show wpAny _ _ (call (Value.ref 787) _ _) _ _ _); k_dflt (refine' ctr_use (law_hidden _ _ _ _ ?lozq ?lnzq) ?Bzq ?Fzq ?Nzq ?Xzq ?Tzq ?hkzq ?hdzq ?huzq ?_; (case lozq | lnzq => with_reducible assumption); (case Bzq | Fzq | Nzq | Xzq | Tzq => k_asm); (case hkzq => first | exact rfl | assumption); (case hdzq => k_room); (case huzq => k_units); k_whole; intro v' h' tk' F' N' hh'; obtain ⟨t', e'⟩ := hh'.out; subst e'; (try k_sweep))))) | (((k_here; (with_reducible show wpAny _ _ (call (Value.builtin _) [Value.ref _, _]) _ _ _); k_dflt (refine' append_K ?k1zq ?k2zq ?k3zq ?_ ?zzq; (case k1zq | k2zq => k_asm); (case k3zq => k_upd); (case zzq => with_reducible assumption); k_whole); intro h' F' N'; (try k_sweep)))) | (with_reducible ((with_reducible show wpAny _ _ (exec (PySem.Stmt.If _ _ _ _) _) _ _ _); (refine wpAny_If ?_))) | (k_unfold; (try dsimp only)) | walk1 | (dsimp only; walk1) | (leave1; walk_say "STEP leave1"; try dsimp only) | fail "no step"))
          all_goals dsimp only
          all_goals exact kb_end hc eo er AB8 TK8 SS SL BI SR2 hdv hys hys2 (by with_reducible assumption) (by assumption) (by assumption) ⟨x1, x2, x3, x4, x5, x6, x7, x8, x9, x10⟩ (by refine ⟨?_, ?_, ?_, ?_, ?_⟩ <;> k_ne) ⟨r1, r2, r3, r4, r5⟩ ⟨w1, w2, w3, w4, w5⟩ ⟨z1, z2, z3, z4, z5⟩ otl (by refine ⟨?_, ?_, ?_, ?_, ?_⟩ <;> k_ne) (by refine ⟨?_, ?_, ?_, ?_, ?_⟩ <;> k_ne) rfl rfl rfl rfl
end
noncomputable abbrev lcLed (SE OW cO : Addr) (sv ov ps : Array Value) (oO : Obj) (c1 co : Nat) : List (Addr × Obj) := (SE, listOf sv c1) :: (OW, listOf ov co) :: (cO, oO) :: [(753, tabObj ps)]
noncomputable def OwInv {g h : Heap} {L : Addr} {m : Str → Option Value} {news : List (Addr × Obj)} (_F : Fr g L h m) (_N : News g L h news) (s : Shared) (SE OW cO : Addr) (sv ov ps : Array Value) (oO : Obj) (c1 co : Nat) : Addr → Nat → Shared → Prop := fun I left s' =>
  ∃ (j : Nat) (o : Obj) (m' : Str → Option Value) (h' : Heap) (tk' : Nat), s' = { s with heap := h', toks := tk' } ∧ j + left = ov.size ∧ Fr g L h' m' ∧ News g L h' ((I, o) :: lcLed SE OW cO sv ov ps oO c1 co) ∧ IsIt o OW j ∧ (∀ p ∈ lcLed SE OW cO sv ov ps oO c1 co, p.1 ≠ I) ∧ m' (Str.ofString "seen") = some (.ref SE)
noncomputable def SnInv {g h : Heap} {L : Addr} {m : Str → Option Value} {news : List (Addr × Obj)} (_F : Fr g L h m) (_N : News g L h news) (s : Shared) (SE OW cO I1 : Addr) (sv ov ps : Array Value) (oO o1 : Obj) (c1 co : Nat) (vo : Value) : Addr → Nat → Shared → Prop := fun I left s' =>
  ∃ (j : Nat) (o : Obj) (m' : Str → Option Value) (h' : Heap) (tk' : Nat), s' = { s with heap := h', toks := tk' } ∧ j + left = sv.size ∧ Fr g L h' m' ∧ News g L h' ((I, o) :: (I1, o1) :: lcLed SE OW cO sv ov ps oO c1 co) ∧ IsIt o SE j ∧ (∀ p ∈ (I1, o1) :: lcLed SE OW cO sv ov ps oO c1 co, p.1 ≠ I) ∧ m' (Str.ofString "seen") = some (.ref SE) ∧ m' (Str.ofString "owner") = some vo
theorem dat_strs (news : List (Addr × Obj)) {vs : List Value} {ts : List (List Nat)} (h : Strs vs ts) : DatAll news vs (ts.map fun t => Dat.str (S t)) := by
  induction h with
  | nil => exact .nil
  | cons _ ih => exact .cons (.str _ _) ih
theorem strOk_S {t : List Nat} (h : ∀ c ∈ t, c < 0x110000) : PyData.strOk (S t) = true := by
  unfold PyData.strOk
  have e : (S t).cps = t.toArray := rfl
  rw [e]
  simp
  exact h
theorem sig_cp : ∀ c ∈ sig, c < 0x110000 := by decide
theorem ok_S {t : List Nat} (h : InSig t) (n : Nat) : kqdOk n (.str (S t)) = true := by
  have : PyData.strOk (S t) = true := strOk_S fun c hc => sig_cp c (h c hc)
  cases n <;> simp [kqdOk, this]
theorem cmp_tails {prog : Program} {w : World} {A : Around} {E : Value → Shared → Prop} {s : Shared} {g : Heap} {L a b : Addr} {news : List (Addr × Obj)} {acc : Array Value} {c c2 : Nat} {o n : List Nat} {Q : Value → Shared → Prop} (N : News g L s.heap news) (ma : (a, listOf acc c) ∈ news) (mb : (b, listOf #[] c2) ∈ news) (SS : Strs acc.toList (tails o n)) (hn : InSig n) (hu : A.units + 64 < cLine)
    (h : Q (.bool (priv o n)) s) : wpAny (model prog w) A (compareOp .NotEq (.ref a) (.ref b)) Q E s := by
  classical
  refine kqd_ne (n₁ := news) (n₂ := news) (xs := acc.toList) (ys := []) N ma rfl rfl (dat_strs news SS) (fun _ h => h) mb rfl rfl .nil (fun _ h => h) ?_ (fun _ h => nomatch h) hu ?_
  · intro d hd
    obtain ⟨t, ht, rfl⟩ := List.mem_map.mp hd
    refine ok_S (fun c hc => ?_) 8
    rw [tails_eq] at ht
    split at ht
    · rw [List.mem_singleton.mp ht] at hc
      exact hn c (List.mem_of_mem_drop hc)
    · cases ht
  · by_cases hp : priv o n = true
    · rw [decide_eq_false (by rw [tails_eq, if_pos hp]; simp)]
      rw [hp] at h
      exact h
    · rw [decide_eq_true (by rw [tails_eq, if_neg hp]; rfl)]
      rw [show priv o n = false by simpa using hp] at h
      exact h
theorem lc_no {P : Prop} {o n : List Nat} (h : (privT (S o) (S n) != priv o n) = true) : P := by
  rw [privT_S] at h
  simp at h
section
variable {w : World} {vw : Program} {loose : List Str} {mean : ExcName → Option Value} {mg mb : Str → Option Value}
theorem lc_for {b1 b2 b3 b4 b5 b6 b7 b8 b9 b10 b12 : Stmt} {v1 : Str} {p1 q1 : Pos} {it1 : PySem.Expr} {bd1 : List Stmt} {qual : Str} {scope : Scope}
    (hb : ∃ oc od name params dV kV doc pm an cdv ct osl, List.lookup 806 (Mine.K w.params) = some ⟨oc, od, .func (fnOf name qual params [b1, b2, b3, b4, b5, b6, b7, b8, b9, b10, .For (.Name v1 p1) it1 bd1 [] q1, b12] scope dV kV doc pm an cdv ct), osl⟩)
    {dp un : Nat} {gd : Option (List Code)} {a : Addr} {ccd : Value} {cl : List (Str × Addr)} {A₀ : Around} {base h₀ : Heap} {L cK cO OW SE : Addr} {m' : Str → Option Value} {s : Shared} {Qf : Flow → Shared → Prop} {E : Value → Shared → Prop} {oO : Obj} {ov sv ps : Array Value} {c1 co : Nat} {O Sn : List (List Nat)}
    (hcl : cl = [(Str.ofString "k", cK), (Str.ofString "owners", cO)])
    (B : Below A₀ base [] h₀) (X : (Mine.K w.params).In h₀) (T₀ : Top vw loose mean mg mb h₀) (hd : dp + 100 < recursionLimit) (hu : un + 1500 < cLine)
    (F : Fr h₀ L s.heap m') (f1 : m' (Str.ofString "seen") = some (.ref SE)) (SO : Strs ov.toList O) (SS : Strs sv.toList Sn) (okO : ∀ o ∈ O, OwOk o) (okS : ∀ n ∈ Sn, n.length ≤ 15 ∧ InSig n) (hoO : oO.data = .cell (some (.ref OW)))
    (N : News h₀ L s.heap (lcLed SE OW cO sv ov ps oO c1 co))
    (hfin : ∀ (m2 : Str → Option Value) (h2 : Heap) (tk : Nat), Fr h₀ L h2 m2 → News h₀ L h2 [(753, tabObj ps)] → Qf .next { s with heap := h2, toks := tk })
    (hE : PassesOwn (model Challenge.rw_ij0133_01.row.prog w) (ktrTop dp un gd qual scope L a ccd cl []) (envX qual scope L a ccd cl) E) :
    wpAny (model Challenge.rw_ij0133_01.row.prog w) (ktrTop dp un gd qual scope L a ccd cl []) (exec (.For (.Name v1 p1) it1 bd1 [] q1) (envX qual scope L a ccd cl)) Qf E s := by
  have F0 := fr_put F f1
  clear F
  obtain ⟨oc, od, name, params, dV, kV, doc, pm, an, cdv, ct, osl, e⟩ := hb
  refine' rt_elim e ?lit ?_
  (case lit => k_is)
  intro e2
  cases e2
  clear e
  subst hcl
  refine for_inv (OwInv F0 N s SE OW cO sv ov ps oO c1 co) ?_ ?_
  · (repeat' (first | ((with_reducible refine consQ_next ?_)) | ((with_reducible refine consQ_ret ?_)) | ((with_reducible refine consQ_brk ?_)) | ((with_reducible refine consQ_cont ?_)) | (with_reducible ((with_reducible show wpAny _ _ (execs (_ :: _) _) _ _ _); (k_here; (try dsimp only); (try (refine gen_toks ?_; intro tk)); first | refine execs_one ?_ | refine execs_consQ ?_))) | ((with_reducible refine wpAny_execs_nil ?_)) | (((k_here; (with_reducible show wpAny _ _ (compareOp CmpOp.NotEq (Value.ref _) (Value.ref _)) _ _ _); k_dflt (refine' cmp_tails ?Nzq ?mazq ?mbzq ?SSzq ?hnzq ?huzq ?_; (case Nzq => k_asm); (case mazq | mbzq => k_mem); (case SSzq | hnzq => with_reducible assumption); (case huzq => ke_room))))) | (((k_here; (with_reducible show wpAny _ _ (call (Value.ref 794) _ _) _ _ _); k_dflt (refine' tails_use ?lozq ?lnzq ?Bzq ?Fzq ?Nzq ?Xzq ?Tzq ?hkzq ?hdzq ?huzq ?_; (case lozq | lnzq => with_reducible assumption); (case Bzq | Fzq | Nzq | Xzq | Tzq => k_asm); (case hkzq => first | exact rfl | assumption); (case hdzq => k_room); (case huzq => k_units); k_whole; intro D' acc' c' h' tk' SS' z' F' N' ne'; (try k_sweep))))) | (((k_here; (with_reducible show wpAny _ _ (call (Value.ref 51) _ _) _ _ _); k_dflt (refine' ctr_use (is_private _ _ _ _ ?lozq ?lnzq) ?Bzq ?Fzq ?Nzq ?Xzq ?Tzq ?hkzq ?hdzq ?huzq ?_; (case lozq | lnzq => with_reducible assumption); (case Bzq | Fzq | Nzq | Xzq | Tzq => k_asm); (case hkzq => first | exact rfl | assumption); (case hdzq => k_room); (case huzq => k_units); k_whole; intro v' h' tk' F' N' hh'; have e' := hh'.out; subst e'; (try k_sweep))))) | (with_reducible ((with_reducible show wpAny _ _ (exec (PySem.Stmt.If _ _ _ _) _) _ _ _); (refine wpAny_If ?_))) | (k_unfold; (try dsimp only)) | walk1 | (dsimp only; walk1) | (leave1; walk_say "STEP leave1"; try dsimp only) | fail "no step"))
    (rename Fr _ _ _ _ => FR); (rename News _ _ _ _ => NR)
    have hl : Heap.IsList _ OW ov := ⟨_, NR.get (show (OW, listOf ov co) ∈ _ by k_mem), rfl, _, rfl⟩
    refine it_start FR NR hl fun I o h' F' N' l1 hI hl' => ?_
    exact ⟨I, ov.size, rfl, 0, o, _, h', _, rfl, by omega, F', N', hI, fun p hp => neN (by have := l1 p hp; have h2 : @LT.lt Nat _ p.1 I := this; omega), rfl⟩
  · intro I left s' hI
    obtain ⟨j, o, m2, h2, tk2, rfl, hc, F2, N2, hI, hne, m1⟩ := hI
    have F2 := fr_put F2 m1
    have hl : h2.IsList OW ov := ⟨_, N2.get (show (OW, listOf ov co) ∈ _ by k_mem), rfl, _, rfl⟩
    cases left with
    | zero =>
      refine it_end rfl F2 N2 hne hI hl (by rw [Array.getElem?_eq_none]; omega) fun h3 F3 N3 => ?_
      dsimp only
      exact hfin _ h3 _ F3 fun q hq => N3 q (.tail _ (.tail _ (.tail _ hq)))
    | succ left =>
      have hjl : j < ov.toList.length := by simp; omega
      obtain ⟨ow, k, eo, ev⟩ := SO.get j _ (List.getElem?_eq_getElem hjl)
      have hgx : ov[j]? = some (.str (S ow) k) := by rw [← Array.getElem?_toList, List.getElem?_eq_getElem hjl, ev]
      have hO := okO ow (List.mem_of_getElem? eo)
      have hlo : (S ow).length ≤ 1000 := by rw [S_length]; have := hO.2; omega
      have hlo2 : (S ow).length ≤ 100000 := by omega
      refine it_next F2 N2 hne hI hl hgx fun h3 o3 F3 N3 hI3 hl3 => ?_
      clear F2 N2
      dsimp only
      (repeat' (first | ((with_reducible show wpAny _ _ (exec (Stmt.For _ _ _ _ _) _) _ _ _); refine Hold.out ?_) | ((with_reducible refine consQ_next ?_)) | ((with_reducible refine consQ_ret ?_)) | ((with_reducible refine consQ_brk ?_)) | ((with_reducible refine consQ_cont ?_)) | (with_reducible ((with_reducible show wpAny _ _ (execs (_ :: _) _) _ _ _); (k_here; (try dsimp only); (try (refine gen_toks ?_; intro tk)); first | refine execs_one ?_ | refine execs_consQ ?_))) | ((with_reducible refine wpAny_execs_nil ?_)) | (((k_here; (with_reducible show wpAny _ _ (compareOp CmpOp.NotEq (Value.ref _) (Value.ref _)) _ _ _); k_dflt (refine' cmp_tails ?Nzq ?mazq ?mbzq ?SSzq ?hnzq ?huzq ?_; (case Nzq => k_asm); (case mazq | mbzq => k_mem); (case SSzq | hnzq => with_reducible assumption); (case huzq => ke_room))))) | (((k_here; (with_reducible show wpAny _ _ (call (Value.ref 794) _ _) _ _ _); k_dflt (refine' tails_use ?lozq ?lnzq ?Bzq ?Fzq ?Nzq ?Xzq ?Tzq ?hkzq ?hdzq ?huzq ?_; (case lozq | lnzq => with_reducible assumption); (case Bzq | Fzq | Nzq | Xzq | Tzq => k_asm); (case hkzq => first | exact rfl | assumption); (case hdzq => k_room); (case huzq => k_units); k_whole; intro D' acc' c' h' tk' SS' z' F' N' ne'; (try k_sweep))))) | (((k_here; (with_reducible show wpAny _ _ (call (Value.ref 51) _ _) _ _ _); k_dflt (refine' ctr_use (is_private _ _ _ _ ?lozq ?lnzq) ?Bzq ?Fzq ?Nzq ?Xzq ?Tzq ?hkzq ?hdzq ?huzq ?_; (case lozq | lnzq => with_reducible assumption); (case Bzq | Fzq | Nzq | Xzq | Tzq => k_asm); (case hkzq => first | exact rfl | assumption); (case hdzq => k_room); (case huzq => k_units); k_whole; intro v' h' tk' F' N' hh'; have e' := hh'.out; subst e'; (try k_sweep))))) | (with_reducible ((with_reducible show wpAny _ _ (exec (PySem.Stmt.If _ _ _ _) _) _ _ _); (refine wpAny_If ?_))) | (k_unfold; (try dsimp only)) | walk1 | (dsimp only; walk1) | (leave1; walk_say "STEP leave1"; try dsimp only) | fail "no step"))
      refine Hold.mk ?_
      (rename Fr _ _ _ _ => FQ); (rename News _ _ _ _ => NQ)
      refine for_inv (SnInv FQ NQ s SE OW cO I sv ov ps oO o3 c1 co (.str (S ow) k)) ?_ ?_
      · (repeat' (first | ((with_reducible refine consQ_next ?_)) | ((with_reducible refine consQ_ret ?_)) | ((with_reducible refine consQ_brk ?_)) | ((with_reducible refine consQ_cont ?_)) | (with_reducible ((with_reducible show wpAny _ _ (execs (_ :: _) _) _ _ _); (k_here; (try dsimp only); (try (refine gen_toks ?_; intro tk)); first | refine execs_one ?_ | refine execs_consQ ?_))) | ((with_reducible refine wpAny_execs_nil ?_)) | (((k_here; (with_reducible show wpAny _ _ (compareOp CmpOp.NotEq (Value.ref _) (Value.ref _)) _ _ _); k_dflt (refine' cmp_tails ?Nzq ?mazq ?mbzq ?SSzq ?hnzq ?huzq ?_; (case Nzq => k_asm); (case mazq | mbzq => k_mem); (case SSzq | hnzq => with_reducible assumption); (case huzq => ke_room))))) | (((k_here; (with_reducible show wpAny _ _ (call (Value.ref 794) _ _) _ _ _); k_dflt (refine' tails_use ?lozq ?lnzq ?Bzq ?Fzq ?Nzq ?Xzq ?Tzq ?hkzq ?hdzq ?huzq ?_; (case lozq | lnzq => with_reducible assumption); (case Bzq | Fzq | Nzq | Xzq | Tzq => k_asm); (case hkzq => first | exact rfl | assumption); (case hdzq => k_room); (case huzq => k_units); k_whole; intro D' acc' c' h' tk' SS' z' F' N' ne'; (try k_sweep))))) | (((k_here; (with_reducible show wpAny _ _ (call (Value.ref 51) _ _) _ _ _); k_dflt (refine' ctr_use (is_private _ _ _ _ ?lozq ?lnzq) ?Bzq ?Fzq ?Nzq ?Xzq ?Tzq ?hkzq ?hdzq ?huzq ?_; (case lozq | lnzq => with_reducible assumption); (case Bzq | Fzq | Nzq | Xzq | Tzq => k_asm); (case hkzq => first | exact rfl | assumption); (case hdzq => k_room); (case huzq => k_units); k_whole; intro v' h' tk' F' N' hh'; have e' := hh'.out; subst e'; (try k_sweep))))) | (with_reducible ((with_reducible show wpAny _ _ (exec (PySem.Stmt.If _ _ _ _) _) _ _ _); (refine wpAny_If ?_))) | (k_unfold; (try dsimp only)) | walk1 | (dsimp only; walk1) | (leave1; walk_say "STEP leave1"; try dsimp only) | fail "no step"))
        (rename Fr _ _ _ _ => FR); (rename News _ _ _ _ => NR)
        have hl : Heap.IsList _ SE sv := ⟨_, NR.get (show (SE, listOf sv c1) ∈ _ by k_mem), rfl, _, rfl⟩
        refine it_start FR NR hl fun I' o' h' F' N' l1 hI' hl' => ?_
        exact ⟨I', sv.size, rfl, 0, o', _, h', _, rfl, by omega, F', N', hI', fun p hp => neN (by have := l1 p hp; have h2 : @LT.lt Nat _ p.1 I' := this; omega), rfl, rfl⟩
      · intro I' left' s' hI'
        obtain ⟨j', o', m4, h4, tk4, rfl, hc', F4, N4, hI', hne', m5, m6⟩ := hI'
        have F4 := fr_put2 F4 m5 m6
        have hl : h4.IsList SE sv := ⟨_, N4.get (show (SE, listOf sv c1) ∈ _ by k_mem), rfl, _, rfl⟩
        cases left' with
        | zero =>
          refine it_end rfl F4 N4 hne' hI' hl (by rw [Array.getElem?_eq_none]; omega) fun h5 F5 N5 => ?_
          dsimp only
          (repeat' (first | ((with_reducible refine consQ_next ?_)) | ((with_reducible refine consQ_ret ?_)) | ((with_reducible refine consQ_brk ?_)) | ((with_reducible refine consQ_cont ?_)) | (with_reducible ((with_reducible show wpAny _ _ (execs (_ :: _) _) _ _ _); (k_here; (try dsimp only); (try (refine gen_toks ?_; intro tk)); first | refine execs_one ?_ | refine execs_consQ ?_))) | ((with_reducible refine wpAny_execs_nil ?_)) | (((k_here; (with_reducible show wpAny _ _ (compareOp CmpOp.NotEq (Value.ref _) (Value.ref _)) _ _ _); k_dflt (refine' cmp_tails ?Nzq ?mazq ?mbzq ?SSzq ?hnzq ?huzq ?_; (case Nzq => k_asm); (case mazq | mbzq => k_mem); (case SSzq | hnzq => with_reducible assumption); (case huzq => ke_room))))) | (((k_here; (with_reducible show wpAny _ _ (call (Value.ref 794) _ _) _ _ _); k_dflt (refine' tails_use ?lozq ?lnzq ?Bzq ?Fzq ?Nzq ?Xzq ?Tzq ?hkzq ?hdzq ?huzq ?_; (case lozq | lnzq => with_reducible assumption); (case Bzq | Fzq | Nzq | Xzq | Tzq => k_asm); (case hkzq => first | exact rfl | assumption); (case hdzq => k_room); (case huzq => k_units); k_whole; intro D' acc' c' h' tk' SS' z' F' N' ne'; (try k_sweep))))) | (((k_here; (with_reducible show wpAny _ _ (call (Value.ref 51) _ _) _ _ _); k_dflt (refine' ctr_use (is_private _ _ _ _ ?lozq ?lnzq) ?Bzq ?Fzq ?Nzq ?Xzq ?Tzq ?hkzq ?hdzq ?huzq ?_; (case lozq | lnzq => with_reducible assumption); (case Bzq | Fzq | Nzq | Xzq | Tzq => k_asm); (case hkzq => first | exact rfl | assumption); (case hdzq => k_room); (case huzq => k_units); k_whole; intro v' h' tk' F' N' hh'; have e' := hh'.out; subst e'; (try k_sweep))))) | (with_reducible ((with_reducible show wpAny _ _ (exec (PySem.Stmt.If _ _ _ _) _) _ _ _); (refine wpAny_If ?_))) | (k_unfold; (try dsimp only)) | walk1 | (dsimp only; walk1) | (leave1; walk_say "STEP leave1"; try dsimp only) | fail "no step"))
          all_goals try dsimp only
          all_goals exact ⟨left, Nat.lt_succ_self _, j + 1, o3, _, h5, _, rfl, by omega, F5, N5, hI3, hne, rfl⟩
        | succ left' =>
          have hjl' : j' < sv.toList.length := by simp; omega
          obtain ⟨nm, k', en, ev'⟩ := SS.get j' _ (List.getElem?_eq_getElem hjl')
          have hgx' : sv[j']? = some (.str (S nm) k') := by rw [← Array.getElem?_toList, List.getElem?_eq_getElem hjl', ev']
          obtain ⟨hn1, hn2⟩ := okS nm (List.mem_of_getElem? en)
          have hln : (S nm).length ≤ 1000 := by rw [S_length]; omega
          have hln2 : (S nm).length ≤ 100000 := by omega
          refine it_next F4 N4 hne' hI' hl hgx' fun h5 o5 F5 N5 hI5 hl5 => ?_
          clear F4 N4
          dsimp only
          (repeat' (first | ((with_reducible refine consQ_next ?_)) | ((with_reducible refine consQ_ret ?_)) | ((with_reducible refine consQ_brk ?_)) | ((with_reducible refine consQ_cont ?_)) | (with_reducible ((with_reducible show wpAny _ _ (execs (_ :: _) _) _ _ _); (k_here; (try dsimp only); (try (refine gen_toks ?_; intro tk)); first | refine execs_one ?_ | refine execs_consQ ?_))) | ((with_reducible refine wpAny_execs_nil ?_)) | (((k_here; (with_reducible show wpAny _ _ (compareOp CmpOp.NotEq (Value.ref _) (Value.ref _)) _ _ _); k_dflt (refine' cmp_tails ?Nzq ?mazq ?mbzq ?SSzq ?hnzq ?huzq ?_; (case Nzq => k_asm); (case mazq | mbzq => k_mem); (case SSzq | hnzq => with_reducible assumption); (case huzq => ke_room))))) | (((k_here; (with_reducible show wpAny _ _ (call (Value.ref 794) _ _) _ _ _); k_dflt (refine' tails_use ?lozq ?lnzq ?Bzq ?Fzq ?Nzq ?Xzq ?Tzq ?hkzq ?hdzq ?huzq ?_; (case lozq | lnzq => with_reducible assumption); (case Bzq | Fzq | Nzq | Xzq | Tzq => k_asm); (case hkzq => first | exact rfl | assumption); (case hdzq => k_room); (case huzq => k_units); k_whole; intro D' acc' c' h' tk' SS' z' F' N' ne'; (try k_sweep))))) | (((k_here; (with_reducible show wpAny _ _ (call (Value.ref 51) _ _) _ _ _); k_dflt (refine' ctr_use (is_private _ _ _ _ ?lozq ?lnzq) ?Bzq ?Fzq ?Nzq ?Xzq ?Tzq ?hkzq ?hdzq ?huzq ?_; (case lozq | lnzq => with_reducible assumption); (case Bzq | Fzq | Nzq | Xzq | Tzq => k_asm); (case hkzq => first | exact rfl | assumption); (case hdzq => k_room); (case huzq => k_units); k_whole; intro v' h' tk' F' N' hh'; have e' := hh'.out; subst e'; (try k_sweep))))) | (with_reducible ((with_reducible show wpAny _ _ (exec (PySem.Stmt.If _ _ _ _) _) _ _ _); (refine wpAny_If ?_))) | (k_unfold; (try dsimp only)) | walk1 | (dsimp only; walk1) | (leave1; walk_say "STEP leave1"; try dsimp only) | fail "no step"))
          all_goals first | exact lc_no (by with_reducible assumption) | (dsimp only; (rename Fr _ _ _ _ => FZ); (rename News _ _ _ _ => NZ); exact ⟨left', Nat.lt_succ_self _, j' + 1, o5, _, _, _, rfl, by omega, FZ, fun q hq => NZ q (.tail _ (.tail _ hq)), hI5, hne', rfl, rfl⟩)
end
/-- bodies as data -/
noncomputable def datB (b : Pg) : Dat := .list [.str (S b.1), .list (b.2.map fun t => Dat.str (S t))]
theorem BodiesIn.dat {news : List (Addr × Obj)} : ∀ {vs : List Value} {bs : List (List Nat × List (List Nat))}, BodiesIn news vs bs → DatAll news vs (bs.map datB)
  | _, _, .nil => .nil
  | _, _, .cons (acc := acc) a b c r => .cons (.list (vs := [_, _]) a (.cons (.str _ _) (.cons (.list (vs := acc.toList) (by simpa using b) (dat_strs _ c)) .nil))) r.dat
theorem datB_ok {b : Pg} (h1 : InSig b.1) (h2 : ∀ t ∈ b.2, InSig t) : kqdOk 8 (datB b) = true := by
  unfold datB
  have e : ∀ n, (b.2.map fun t => Dat.str (S t)).all (kqdOk n) = true := fun n => by
    rw [List.all_eq_true]
    intro d hd
    obtain ⟨t, ht, rfl⟩ := List.mem_map.mp hd
    exact ok_S (h2 t ht) n
  simp only [kqdOk, List.all_cons, List.all_nil, Bool.and_true, Bool.and_eq_true]
  exact ⟨ok_S h1 7, e 6⟩
theorem ne_same {prog : Program} {w : World} {A : Around} {E : Value → Shared → Prop} {s : Shared} {g : Heap} {L a b : Addr} {news n1 n2 : List (Addr × Obj)} {xs ys : Array Value} {c c2 : Nat} {ds : List Dat} {Q : Value → Shared → Prop} (N : News g L s.heap news) (ma : (a, listOf xs c) ∈ news) (Da : DatAll n1 xs.toList ds) (sa : ∀ p ∈ n1, p ∈ news) (mb : (b, listOf ys c2) ∈ news) (Db : DatAll n2 ys.toList ds) (sb : ∀ p ∈ n2, p ∈ news)
    (ok : ∀ d ∈ ds, kqdOk 8 d = true) (hu : A.units + 64 < cLine) (h : Q (.bool false) s) : wpAny (model prog w) A (compareOp .NotEq (.ref a) (.ref b)) Q E s := by
  classical
  refine kqd_ne (n₁ := n1) (n₂ := n2) (xs := xs.toList) (ys := ys.toList) N ma rfl rfl Da sa mb rfl rfl Db sb ok ok hu ?_
  rw [decide_eq_true rfl]
  exact h
/-- the pages' plain facts -/
theorem zip_mem {O : List (List Nat)} {R : List (List (List Nat))} {p : Pg} (h : p ∈ O.zip R) : p.1 ∈ O ∧ p.2 ∈ R := List.of_mem_zip (a := p.1) (b := p.2) h
theorem line_len {p : Pg} (ho : OwOk p.1) (hr : RowOk p.2) : (lineOf p).length ≤ (p.2.length + 1) * 78 := Nat.le_trans (by
  have := joinL_len ((p.1 :: hidR p).map qt)
  rw [List.map_map] at this
  exact this) (words_sum ho hr)
theorem line_sig {p : Pg} (ho : OwOk p.1) (hr : RowOk p.2) : InSig (lineOf p) := joinL_sig _ fun t ht => by
  obtain ⟨u, hu, rfl⟩ := List.mem_map.mp ht
  exact qt_sig (words_ok ho hr u hu).2
theorem line_toks {p : Pg} (ho : OwOk p.1) (hr : RowOk p.2) : Toks .bl (lineOf p) (p.1 :: hidR p) := toks_join _ (by simp) fun t ht => (words_ok ho hr t ht).2
theorem lines_sum : ∀ (O : List (List Nat)) (R : List (List (List Nat))), (∀ p ∈ O.zip R, (lineOf p).length ≤ (p.2.length + 1) * 78) → (((O.zip R).map lineOf).map fun t => (qt t).length + 1).sum ≤ 5 * (78 * ((R.map List.length).sum + O.length)) + 3 * O.length
  | [], R, _ => by simp
  | o :: O, [], _ => by simp
  | o :: O, r :: R, h => by
    have ih := lines_sum O R fun p hp => h p (.tail _ hp)
    have h1 := h (o, r) (.head _)
    have h2 := qt_len (lineOf (o, r))
    simp only [List.zip_cons_cons, List.map_cons, List.sum_cons, List.length_cons] at ih h1 h2 ⊢
    omega
theorem zip_len {O : List (List Nat)} {R : List (List (List Nat))} (h : O.length = R.length) : (O.zip R).length = O.length := by rw [List.length_zip]; omega
theorem lines_ok {O : List (List Nat)} {R : List (List (List Nat))} (okO : ∀ o ∈ O, OwOk o) (okR : ∀ r' ∈ R, RowOk r') : ∀ p ∈ O.zip R, OwOk p.1 ∧ RowOk p.2 := fun p hp => ⟨okO _ (zip_mem hp).1, okR _ (zip_mem hp).2⟩
theorem line_le {O : List (List Nat)} {R : List (List (List Nat))} (okO : ∀ o ∈ O, OwOk o) (okR : ∀ r' ∈ R, RowOk r') (hsum : (R.map List.length).sum ≤ 10) : ∀ t ∈ (O.zip R).map lineOf, t.length ≤ 858 := fun t ht => by
  obtain ⟨p, hp, rfl⟩ := List.mem_map.mp ht
  have h1 := lines_ok okO okR p hp
  have h2 := line_len h1.1 h1.2
  have h3 := len_le_sum (zip_mem hp).2
  omega
theorem page_sum {O : List (List Nat)} {R : List (List (List Nat))} (hO4 : O.length ≤ 4) (okO : ∀ o ∈ O, OwOk o) (okR : ∀ r' ∈ R, RowOk r') (hsum : (R.map List.length).sum ≤ 10) : (((O.zip R).map lineOf).map fun t => (qt t).length + 1).sum ≤ 5472 := by
  have h1 := lines_sum O R fun p hp => line_len (lines_ok okO okR p hp).1 (lines_ok okO okR p hp).2
  omega
theorem page_len {O : List (List Nat)} {R : List (List (List Nat))} (hO4 : O.length ≤ 4) (okO : ∀ o ∈ O, OwOk o) (okR : ∀ r' ∈ R, RowOk r') (hsum : (R.map List.length).sum ≤ 10) : (joinL (((O.zip R).map lineOf).map qt)).length ≤ 5472 := Nat.le_trans (by
  have h1 := joinL_len (((O.zip R).map lineOf).map qt)
  have e : (((O.zip R).map lineOf).map qt).map (fun t => t.length + 1) = ((O.zip R).map lineOf).map fun t => (qt t).length + 1 := by simp
  rw [e] at h1
  exact h1) (page_sum hO4 okO okR hsum)
theorem page_toks {O : List (List Nat)} {R : List (List (List Nat))} (h0 : 0 < O.length) (hOR : O.length = R.length) (okO : ∀ o ∈ O, OwOk o) (okR : ∀ r' ∈ R, RowOk r') : Toks .bl (joinL (((O.zip R).map lineOf).map qt)) ((O.zip R).map lineOf) := by
  refine toks_join _ (fun e => ?_) fun t ht => ?_
  · have h1 := congrArg List.length e
    rw [List.length_map, zip_len hOR] at h1
    simp at h1
    rw [h1] at h0
    exact absurd h0 (by simp)
  · obtain ⟨p, hp, rfl⟩ := List.mem_map.mp ht
    exact line_sig (lines_ok okO okR p hp).1 (lines_ok okO okR p hp).2
noncomputable abbrev bsOf (O : List (List Nat)) (R : List (List (List Nat))) : List Pg := (O.zip R).map fun p => (p.1, hidR p)
theorem bs_due (O : List (List Nat)) (R : List (List (List Nat))) : ((bsOf O R).map fun b => (b.1, b.2.map (shortOf b.1))) = (O.zip R).map dueOf := by
  rw [List.map_map]
  rfl
theorem bs_line {O : List (List Nat)} {R : List (List (List Nat))} (okO : ∀ o ∈ O, OwOk o) (okR : ∀ r' ∈ R, RowOk r') (hsum : (R.map List.length).sum ≤ 10) : ∀ (i : Nat) line b, ((O.zip R).map lineOf)[i]? = some line → (bsOf O R)[i]? = some b → LineOk line b := fun i line b e1 e2 => by
  rw [List.getElem?_map] at e1 e2
  cases hz : (O.zip R)[i]? with
  | none => rw [hz] at e1; cases e1
  | some p =>
    rw [hz] at e1 e2
    cases e1
    cases e2
    have hp := List.mem_of_getElem? hz
    obtain ⟨h1, h2⟩ := lines_ok okO okR p hp
    have h3 := line_len h1 h2
    have h4 := len_le_sum (zip_mem hp).2
    refine ⟨line_toks h1 h2, by omega, by have := h1.2; show p.1.length ≤ 1000; omega, by show (hidR p).length ≤ 1000; unfold hidR; rw [List.length_map]; omega, fun x hx => ?_⟩
    have := (words_ok h1 h2 x (.tail _ hx)).1
    omega
theorem due_ok {O : List (List Nat)} {R : List (List (List Nat))} (okO : ∀ o ∈ O, OwOk o) (okR : ∀ r' ∈ R, RowOk r') : ∀ d ∈ ((O.zip R).map dueOf).map datB, kqdOk 8 d = true := fun d hd => by
  obtain ⟨b, hb, rfl⟩ := List.mem_map.mp hd
  obtain ⟨p, hp, rfl⟩ := List.mem_map.mp hb
  obtain ⟨h1, h2⟩ := lines_ok okO okR p hp
  refine datB_ok h1.1 fun t ht => ?_
  obtain ⟨u, hu, rfl⟩ := List.mem_map.mp ht
  have h3 := (words_ok h1 h2 u (.tail _ hu)).2
  intro c hc
  unfold shortOf at hc
  split at hc
  · exact h3 c (List.mem_of_mem_drop hc)
  · exact h3 c hc
theorem lines_dat {O : List (List Nat)} {R : List (List (List Nat))} (okO : ∀ o ∈ O, OwOk o) (okR : ∀ r' ∈ R, RowOk r') : ∀ d ∈ ((O.zip R).map lineOf).map (fun t => Dat.str (S t)), kqdOk 8 d = true := fun d hd => by
  obtain ⟨b, hb, rfl⟩ := List.mem_map.mp hd
  obtain ⟨p, hp, rfl⟩ := List.mem_map.mp hb
  exact ok_S (line_sig (lines_ok okO okR p hp).1 (lines_ok okO okR p hp).2) 8
theorem seen_ok {O : List (List Nat)} {R : List (List (List Nat))} (okO : ∀ o ∈ O, OwOk o) (okR : ∀ r' ∈ R, RowOk r') : ∀ n ∈ (O.zip R).flatMap hidR, n.length ≤ 15 ∧ InSig n := fun n hn => by
  obtain ⟨p, hp, hn⟩ := List.mem_flatMap.mp hn
  obtain ⟨h1, h2⟩ := lines_ok okO okR p hp
  exact words_ok h1 h2 n (.tail _ hn)
theorem hD_of {SE DU LN RW OW cK cO : Addr} {o1 o2 o3 o4 o5 oK oO oP : Obj} {tl : List (Addr × Obj)} (hA : Apart ((RW, o4) :: (OW, o5) :: (cK, oK) :: (cO, oO) :: (753, oP) :: tl)) (l1 : AllLt LN ((RW, o4) :: (OW, o5) :: (cK, oK) :: (cO, oO) :: (753, oP) :: tl)) (l2 : AllLt DU ((LN, o3) :: (RW, o4) :: (OW, o5) :: (cK, oK) :: (cO, oO) :: (753, oP) :: tl))
    (l3 : AllLt SE ((DU, o2) :: (LN, o3) :: (RW, o4) :: (OW, o5) :: (cK, oK) :: (cO, oO) :: (753, oP) :: tl)) : ∀ I : Addr, AllLt I ((SE, o1) :: (DU, o2) :: (LN, o3) :: (RW, o4) :: (OW, o5) :: (cK, oK) :: (cO, oO) :: (753, oP) :: tl) → Dist5 I LN DU cK ∧ Off5 I LN DU cK SE ∧ Off5 I LN DU cK RW ∧ Off5 I LN DU cK OW ∧ Off5 I LN DU cK cO ∧ (∀ p ∈ tl, Off5 I LN DU cK p.1) := fun I l4 => by
  simp only [Apart, List.pairwise_cons, List.mem_cons, forall_eq_or_imp] at hA
  obtain ⟨⟨a1, a2, a3, a4, a5⟩, ⟨b1, b2, b3, b4⟩, ⟨c1, c2, c3⟩, ⟨d1, d2⟩, e1, e2⟩ := hA
  have k1 := allLt_mem l1
  have k2 := allLt_mem l2
  have k3 := allLt_mem l3
  have k4 := allLt_mem l4
  simp only [List.mem_cons, forall_eq_or_imp] at k1 k2 k3 k4
  obtain ⟨f1, f2, f3, f4, f5, f6⟩ := k1
  obtain ⟨g1, g2, g3, g4, g5, g6, g7⟩ := k2
  obtain ⟨h1, h2, h3, h4, h5, h6, h7, h8⟩ := k3
  obtain ⟨i1, i2, i3, i4, i5, i6, i7, i8, i9⟩ := k4
  refine ⟨⟨Nat.ne_of_gt i3, Nat.ne_of_gt i2, Nat.ne_of_gt i6, Nat.ne_of_gt i8, Nat.ne_of_lt g1, Nat.ne_of_gt f3, Nat.ne_of_gt f5, Nat.ne_of_gt g4, Nat.ne_of_gt g6, Ne.symm c2⟩,
    ⟨Nat.ne_of_lt i1, Nat.ne_of_gt h2, Nat.ne_of_gt h1, Nat.ne_of_gt h5, Nat.ne_of_gt h7⟩,
    ⟨Nat.ne_of_lt i4, Nat.ne_of_lt f1, Nat.ne_of_lt g2, Ne.symm a2, Ne.symm a4⟩,
    ⟨Nat.ne_of_lt i5, Nat.ne_of_lt f2, Nat.ne_of_lt g3, Ne.symm b1, Ne.symm b3⟩,
    ⟨Nat.ne_of_lt i7, Nat.ne_of_lt f4, Nat.ne_of_lt g5, c1, Ne.symm d1⟩,
    fun p hp => ⟨Nat.ne_of_lt (i9 p hp), Nat.ne_of_lt (f6 p hp), Nat.ne_of_lt (g7 p hp), c3 p hp, e1 p hp⟩⟩
theorem word_x : Str.ofString "__x" = S [95, 95, 120] := by decide +kernel
theorem word_y : Str.ofString "_a__y" = S [95, 97, 95, 95, 121] := by decide +kernel
theorem word_a : Str.ofString "a" = S [97] := by decide +kernel
section
variable {w : World} {vw : Program} {loose : List Str} {mean : ExcName → Option Value} {mg mb : Str → Option Value}
theorem la_go {b1 b2 b3 b5 b6 b7 b8 b9 b10 b11 b12 : Stmt} {v1 : Str} {p1 q1 : Pos} {it1 : PySem.Expr} {bd1 : List Stmt} {qual : Str} {scope : Scope}
    (hb : ∃ oc od name params dV kV doc pm an cdv ct osl, List.lookup 806 (Mine.K w.params) = some ⟨oc, od, .func (fnOf name qual params [b1, b2, b3, .For (.Name v1 p1) it1 bd1 [] q1, b5, b6, b7, b8, b9, b10, b11, b12] scope dV kV doc pm an cdv ct), osl⟩)
    {dp un : Nat} {gd : Option (List Code)} {a : Addr} {ccd : Value} {cl : List (Str × Addr)} {A₀ : Around} {base h₀ : Heap} {L cK cO DR LR RW OW : Addr} {m' : Str → Option Value} {s : Shared} {Qf : Flow → Shared → Prop} {E : Value → Shared → Prop} {oK oO : Obj} {dv ps : Array Value} {cd cc cr co : Nat} {ns : List Int} {u1 u2 u3 : Tok}
    (hcl : cl = [(Str.ofString "k", cK), (Str.ofString "owners", cO)])
    (B : Below A₀ base [] h₀) (X : (Mine.K w.params).In h₀) (T₀ : Top vw loose mean mg mb h₀) (hd : dp + 100 < recursionLimit) (hu : un + 1500 < cLine)
    (F : Fr h₀ L s.heap m') (f1 : m' (Str.ofString "drawn") = some (.ref DR)) (f2 : m' (Str.ofString "rows") = some (.ref RW)) (hns : IntsAre dv.toList ns) (hdv : dv.size ≤ 8) (hoO : oO.data = .cell (some (.ref OW)))
    (N : News h₀ L s.heap ((RW, listOf #[.ref LR] cr) :: (LR, listOf #[.str (Str.ofString "__x") u1, .str (Str.ofString "_a__y") u2] cc) :: (OW, listOf #[.str (Str.ofString "a") u3] co) :: (DR, listOf dv cd) :: (cK, oK) :: (cO, oO) :: [(753, tabObj ps)]))
    (hA : Apart ((LR, listOf #[.str (Str.ofString "__x") u1, .str (Str.ofString "_a__y") u2] cc) :: (RW, listOf #[.ref LR] cr) :: (OW, listOf #[.str (Str.ofString "a") u3] co) :: (cK, oK) :: (cO, oO) :: (DR, listOf dv cd) :: [(753, tabObj ps)]))
    (hfin : ∀ (O : List (List Nat)) (R : List (List (List Nat))) (ov : Array Value) (co cr : Nat) (rv : List Value) (RW OW : Addr) (oO : Obj) (tl : List (Addr × Obj)) (m2 : Str → Option Value) (h2 : Heap) (tk : Nat), Strs ov.toList O → RowsIn tl rv R → O.length = R.length → O.length ≤ 4 → 0 < O.length → (∀ o ∈ O, OwOk o) → (∀ r' ∈ R, RowOk r') → (R.map List.length).sum ≤ 10 →
      oO.data = .cell (some (.ref OW)) → Fr h₀ L h2 m2 → News h₀ L h2 ((RW, listOf rv.toArray cr) :: (OW, listOf ov co) :: (cK, oK) :: (cO, oO) :: (753, tabObj ps) :: tl) → Apart ((RW, listOf rv.toArray cr) :: (OW, listOf ov co) :: (cK, oK) :: (cO, oO) :: (753, tabObj ps) :: tl) → m2 (Str.ofString "rows") = some (.ref RW) → Qf .next { s with heap := h2, toks := tk })
    (hE : PassesOwn (model Challenge.rw_ij0133_01.row.prog w) (ktrTop dp un gd qual scope L a ccd cl []) (envX qual scope L a ccd cl) E) :
    wpAny (model Challenge.rw_ij0133_01.row.prog w) (ktrTop dp un gd qual scope L a ccd cl []) (exec (.For (.Name v1 p1) it1 bd1 [] q1) (envX qual scope L a ccd cl)) Qf E s := by
  have sO : Strs (#[Value.str (Str.ofString "a") u3] : Array Value).toList [[97]] := by rw [word_a]; exact .cons .nil
  have sR : Strs (#[Value.str (Str.ofString "__x") u1, Value.str (Str.ofString "_a__y") u2] : Array Value).toList [[95, 95, 120], [95, 97, 95, 95, 121]] := by rw [word_x, word_y]; exact .cons (.cons .nil)
  refine la_for (k1 := u1) (k2 := u2) (k3 := u3) hb hcl B X T₀ hd hu F f1 f2 hns hdv sO sR ?_ hoO (List.forall_mem_cons.mpr ⟨N _ (.tail _ (.head _)), List.forall_mem_cons.mpr ⟨N _ (.head _), List.forall_mem_cons.mpr ⟨N _ (.tail _ (.tail _ (.head _))), List.forall_mem_cons.mpr ⟨N _ (.tail _ (.tail _ (.tail _ (.tail _ (.head _))))), List.forall_mem_cons.mpr ⟨N _ (.tail _ (.tail _ (.tail _ (.tail _ (.tail _ (.head _)))))), List.forall_mem_cons.mpr ⟨N _ (.tail _ (.tail _ (.tail _ (.head _)))), fun q hq => N q (.tail _ (.tail _ (.tail _ (.tail _ (.tail _ (.tail _ hq))))))⟩⟩⟩⟩⟩⟩) hA hfin hE
  intro n hn
  simp only [List.mem_cons, List.not_mem_nil, or_false] at hn
  rcases hn with rfl | rfl
  · exact ⟨by unfold InSig; decide, by decide⟩
  · exact ⟨by unfold InSig; decide, by decide⟩
end
section
variable {w : World} {vw : Program} {loose : List Str} {mean : ExcName → Option Value} {mg mb : Str → Option Value}
theorem law_body {body : List Stmt} {qual : Str} {scope : Scope}
    (hb : ∃ oc od name params dV kV doc pm an cdv ct osl, List.lookup 806 (Mine.K w.params) = some ⟨oc, od, .func (fnOf name qual params body scope dV kV doc pm an cdv ct), osl⟩)
    {dp un : Nat} {gd : Option (List Code)} {a : Addr} {ccd : Value} {cl : List (Str × Addr)} {A₀ : Around} {base h₀ : Heap} {L cK cO SC : Addr} {m' : Str → Option Value} {s : Shared} {Qf : Flow → Shared → Prop} {E : Value → Shared → Prop} {oK oO : Obj} {xo : Option Value} {xk : Option Value} {vs : List Value} {ns : List Int} {ps : Array Value}
    (hcl : cl = [(Str.ofString "k", cK), (Str.ofString "owners", cO)])
    (B : Below A₀ base [] h₀) (X : (Mine.K w.params).In h₀) (T₀ : Top vw loose mean mg mb h₀) (XB : (Mine.K w.params).In base) (TB : Top vw loose mean mg mb base) (hd : dp + 150 < recursionLimit) (hu : un + 2000 < cLine)
    (F : Fr h₀ L s.heap m') (f1 : m' (Str.ofString "script") = some (.ref SC)) (hSC : h₀.IsList SC vs.toArray) (hns : IntsAre vs ns) (hvs : vs.length ≤ 63) (hoO : oO.data = .cell xo) (hoK : oK.data = .cell xk) (TK : TabOk h₀ ps) (AB : AllBare s.gens)
    (N : News h₀ L s.heap [(cK, oK), (cO, oO), (753, tabObj ps)]) (n1 : @Ne Nat cO cK) (n2 : @Ne Nat 753 cK) (n3 : @Ne Nat 753 cO)
    (hfin : ∀ (h2 : Heap) (gs : Array GenState) (dr : Drawn) (tk : Nat) (ps' : Array Value), AllBare gs → (∀ b o, h₀.get? b = some o → h2.get? b = some o) → h2.get? 753 = some (tabObj ps') → Qf (.ret (.bool true)) ⟨h2, gs, dr, tk, s.os⟩)
    (hE : PassesOwn (model Challenge.rw_ij0133_01.row.prog w) (ktrTop dp un gd qual scope L a ccd cl []) (envX qual scope L a ccd cl) E) :
    wpAny (model Challenge.rw_ij0133_01.row.prog w) (ktrTop dp un gd qual scope L a ccd cl []) (execs body (envX qual scope L a ccd cl)) Qf E s := by
  obtain ⟨h0, gs0, dr0, tk0, os0⟩ := s
  dsimp only at F N AB hfin
  have F0 := fr_put F f1
  clear F
  obtain ⟨oc, od, name, params, dV, kV, doc, pm, an, cdv, ct, osl, e⟩ := hb
  refine' rt_elim e ?lit ?_
  (case lit => k_is)
  intro e2
  cases e2
  clear e
  subst hcl
  have hpick : kms_pick vs.toArray.toList none (some 8) = vs.take 8 := by
    simp [kms_pick, kms_lo, kms_hi]
  have hvz : vs.toArray.size ≤ sizeLine := by have h3 : sizeLine = 16777216 := rfl; simp; omega
  (repeat' (first | ((with_reducible show wpAny _ _ (exec (Stmt.For _ _ _ _ _) _) _ _ _); refine Hold.out ?_) | ((with_reducible refine consQ_next ?_)) | ((with_reducible refine consQ_ret ?_)) | ((with_reducible refine consQ_brk ?_)) | ((with_reducible refine consQ_cont ?_)) | (with_reducible ((with_reducible show wpAny _ _ (execs (_ :: _) _) _ _ _); (k_here; (try dsimp only); (try (refine gen_toks ?_; intro tk)); first | refine execs_one ?_ | refine execs_consQ ?_))) | ((with_reducible refine wpAny_execs_nil ?_)) | (((k_here; (with_reducible show wpAny _ _ (subscriptTail _ (PySem.Expr.Slice _ _ none _) (Value.ref _) (Value.ref _)) _ _ _); k_dflt (refine' kms_slice_lit ?Fzq ?Nzq ?lzq ?pzq ?qzq ?ezq ?_ ?szq ?tzq ?zzq; (case Fzq | Nzq => k_asm); (case lzq => kmk_list); (case pzq | qzq => kmk_part); (case ezq => with_reducible assumption); (case szq => with_unfolding_all rfl); (case tzq => kmk_pure); (case zzq => with_reducible assumption)); intro D' h' F' N' l1; (try k_lt l1); (try k_sweep)))) | (with_reducible ((with_reducible show wpAny _ _ (exec (PySem.Stmt.If _ _ _ _) _) _ _ _); (refine wpAny_If ?_))) | (k_unfold; (try dsimp only)) | walk1 | (dsimp only; walk1) | (leave1; walk_say "STEP leave1"; try dsimp only) | fail "no step"))
  refine Hold.mk ?_
  refine' la_go ?hb rfl (by assumption) (by assumption) (by assumption) ?hd ?hu (by assumption) rfl rfl ?hns ?hdv (by with_reducible assumption) (by assumption) ?hA ?fin ?hE
  case hb => exact ⟨_, _, _, _, _, _, _, _, _, _, _, _, by k_is⟩
  case hns => exact hns.take 8
  case hdv => simp; omega
  case hd => k_room
  case hu => k_units
  case hE => passes_own
  case hA =>
    unfold Apart
    (repeat' (first | exact List.Pairwise.nil | refine List.Pairwise.cons ?_ ?_))
    all_goals k_all
  case fin =>
    intro O R ov co cr rv RW OW oO2 tl m2 h2 tk2 SO SR hOR hO4 hO0 okO okR hsum hoO2 F2 N2 hA2 g0
    have F2 := fr_put F2 g0
    dsimp only
    (repeat' (first | ((with_reducible show wpAny _ _ (exec (Stmt.For _ _ _ _ _) _) _ _ _); refine Hold.out ?_) | ((with_reducible refine consQ_next ?_)) | ((with_reducible refine consQ_ret ?_)) | ((with_reducible refine consQ_brk ?_)) | ((with_reducible refine consQ_cont ?_)) | (with_reducible ((with_reducible show wpAny _ _ (execs (_ :: _) _) _ _ _); (k_here; (try dsimp only); (try (refine gen_toks ?_; intro tk)); first | refine execs_one ?_ | refine execs_consQ ?_))) | ((with_reducible refine wpAny_execs_nil ?_)) | (((k_here; (with_reducible show wpAny _ _ (subscriptTail _ (PySem.Expr.Slice _ _ none _) (Value.ref _) (Value.ref _)) _ _ _); k_dflt (refine' kms_slice_lit ?Fzq ?Nzq ?lzq ?pzq ?qzq ?ezq ?_ ?szq ?tzq ?zzq; (case Fzq | Nzq => k_asm); (case lzq => kmk_list); (case pzq | qzq => kmk_part); (case ezq => with_reducible assumption); (case szq => with_unfolding_all rfl); (case tzq => kmk_pure); (case zzq => with_reducible assumption)); intro D' h' F' N' l1; (try k_lt l1); (try k_sweep)))) | (with_reducible ((with_reducible show wpAny _ _ (exec (PySem.Stmt.If _ _ _ _) _) _ _ _); (refine wpAny_If ?_))) | (k_unfold; (try dsimp only)) | walk1 | (dsimp only; walk1) | (leave1; walk_say "STEP leave1"; try dsimp only) | fail "no step"))
    refine Hold.mk ?_
    refine' lb_for ?hb rfl (by assumption) (by assumption) (by assumption) ?hd ?hu (by assumption) rfl rfl rfl rfl SO SR hOR hO4 okO okR hsum hoO2 hoK TK AB (by assumption) ?hD ?fin ?hE
    case hb => exact ⟨_, _, _, _, _, _, _, _, _, _, _, _, by k_is⟩
    case hd => k_room
    case hu => k_units
    case hE => passes_own
    case hD => exact hD_of hA2 (by assumption) (by assumption) (by assumption)
    case fin =>
      intro SE sv dv lv c1 c2 c3 oK3 ps3 tl3 m3 h3 gs3 dr3 tk3 AB3 TK3 SS SL BI F3 N3 e1 e2 e3 e4 e5 e6 g1 g2 g3
      have F3 := fr_put3 F3 g1 g2 g3
      dsimp only
      have hls : ∀ t ∈ (O.zip R).map lineOf, t.length ≤ 10000 := fun t ht => Nat.le_trans (line_le okO okR hsum t ht) (by decide)
      have hpt : (((O.zip R).map lineOf).map fun t => (qt t).length + 1).sum ≤ 16000000 := Nat.le_trans (page_sum hO4 okO okR hsum) (by decide)
      have hpl : (S (joinL (((O.zip R).map lineOf).map qt))).length ≤ 10000 := by rw [S_length]; exact Nat.le_trans (page_len hO4 okO okR hsum) (by decide)
      have hpg : Toks .bl (S (joinL (((O.zip R).map lineOf).map qt))).cps.toList ((O.zip R).map lineOf) := page_toks hO0 hOR okO okR
      have hzl : (O.zip R).length = O.length := zip_len hOR
      have hln : ((O.zip R).map lineOf).length ≤ 20000 := by rw [List.length_map]; omega
      (repeat' (first | ((with_reducible show wpAny _ _ (exec (Stmt.For _ _ _ _ _) _) _ _ _); refine Hold.out ?_) | ((with_reducible show wpAny _ _ (compareOp CmpOp.NotEq (Value.ref _) (Value.ref _)) _ _ _); refine Hold.out ?_) | ((with_reducible show wpAny _ _ (call (Value.ref 758) _ _) _ _ _); refine' join_use (ts := (O.zip R).map lineOf) ?SS ?hts ?htot ?B ?F ?N ?X ?T ?hk ?hd ?hu ?hl ?TK ?U ?AB ?_; (case B => assumption); (case F => assumption); (case N => assumption); (case hl => k_mem); (case SS => exact SL); (case hts => exact hls); (case htot => exact hpt); (case X => assumption); (case T => assumption); (case hk => rfl); (case hd => k_room); (case hu => k_units); (case TK => assumption); (case U => k_updF); (case AB => assumption); intro u8 h8 gs8 dr8 tk8 ps8 AB8 TK8 F8 N8; try dsimp only at N8) | ((with_reducible show wpAny _ _ (call (Value.ref 751) _ _) _ _ _); refine split_law hpl hpg hln (by assumption) (by assumption) (by assumption) X T₀ XB TB rfl (by k_room) (by k_units) fun D8 acc8 c8 h9 tk9 SS8 F9 N9 ne9 => ?_) | ((with_reducible refine consQ_next ?_)) | ((with_reducible refine consQ_ret ?_)) | ((with_reducible refine consQ_brk ?_)) | ((with_reducible refine consQ_cont ?_)) | (with_reducible ((with_reducible show wpAny _ _ (execs (_ :: _) _) _ _ _); (k_here; (try dsimp only); (try (refine gen_toks ?_; intro tk)); first | refine execs_one ?_ | refine execs_consQ ?_))) | ((with_reducible refine wpAny_execs_nil ?_)) | (((k_here; (with_reducible show wpAny _ _ (subscriptTail _ (PySem.Expr.Slice _ _ none _) (Value.ref _) (Value.ref _)) _ _ _); k_dflt (refine' kms_slice_lit ?Fzq ?Nzq ?lzq ?pzq ?qzq ?ezq ?_ ?szq ?tzq ?zzq; (case Fzq | Nzq => k_asm); (case lzq => kmk_list); (case pzq | qzq => kmk_part); (case ezq => with_reducible assumption); (case szq => with_unfolding_all rfl); (case tzq => kmk_pure); (case zzq => with_reducible assumption)); intro D' h' F' N' l1; (try k_lt l1); (try k_sweep)))) | (with_reducible ((with_reducible show wpAny _ _ (exec (PySem.Stmt.If _ _ _ _) _) _ _ _); (refine wpAny_If ?_))) | (k_unfold; (try dsimp only)) | walk1 | (dsimp only; walk1) | (leave1; walk_say "STEP leave1"; try dsimp only) | fail "no step"))
      refine Hold.mk ?_
      refine' ne_same (ds := ((O.zip R).map lineOf).map fun t => Dat.str (S t)) (n1 := []) (n2 := []) (by assumption) (by k_mem) (dat_strs [] SS8) (fun _ h => nomatch h) (by k_mem) (dat_strs [] SL) (fun _ h => nomatch h) (lines_dat okO okR) ?hu ?_
      case hu => ke_room
      (repeat' (first | ((with_reducible show wpAny _ _ (compareOp CmpOp.NotEq (Value.ref _) (Value.ref _)) _ _ _); refine Hold.out ?_) | ((with_reducible show wpAny _ _ (call (Value.ref 801) _ _) _ _ _); refine' read_law (bs := bsOf O R) SS8 ?hlen (bs_line okO okR hsum) ?hls (by assumption) (by assumption) (by assumption) X T₀ XB TB rfl ?hd ?hu (by k_mem) fun D9 its9 c9 tl9 h10 tk10 BI9 F10 N10 => ?_; (case hlen => (rw [List.length_map, List.length_map])); (case hls => (rw [List.length_map]; omega)); (case hd => k_room); (case hu => k_units)) | ((with_reducible refine consQ_next ?_)) | ((with_reducible refine consQ_ret ?_)) | ((with_reducible refine consQ_brk ?_)) | ((with_reducible refine consQ_cont ?_)) | (with_reducible ((with_reducible show wpAny _ _ (execs (_ :: _) _) _ _ _); (k_here; (try dsimp only); (try (refine gen_toks ?_; intro tk)); first | refine execs_one ?_ | refine execs_consQ ?_))) | ((with_reducible refine wpAny_execs_nil ?_)) | (((k_here; (with_reducible show wpAny _ _ (subscriptTail _ (PySem.Expr.Slice _ _ none _) (Value.ref _) (Value.ref _)) _ _ _); k_dflt (refine' kms_slice_lit ?Fzq ?Nzq ?lzq ?pzq ?qzq ?ezq ?_ ?szq ?tzq ?zzq; (case Fzq | Nzq => k_asm); (case lzq => kmk_list); (case pzq | qzq => kmk_part); (case ezq => with_reducible assumption); (case szq => with_unfolding_all rfl); (case tzq => kmk_pure); (case zzq => with_reducible assumption)); intro D' h' F' N' l1; (try k_lt l1); (try k_sweep)))) | (with_reducible ((with_reducible show wpAny _ _ (exec (PySem.Stmt.If _ _ _ _) _) _ _ _); (refine wpAny_If ?_))) | (k_unfold; (try dsimp only)) | walk1 | (dsimp only; walk1) | (leave1; walk_say "STEP leave1"; try dsimp only) | fail "no step"))
      refine Hold.mk ?_
      have dueD := BI.dat
      rw [bs_due] at BI9
      have readD := BI9.dat
      refine' ne_same (ds := ((O.zip R).map dueOf).map datB) (n1 := tl9) (n2 := tl3) N10 (.head _) readD (fun p hp => .tail _ (List.mem_append_left _ hp)) ?mb dueD ?sb (due_ok okO okR) ?hu ?_
      case mb => exact .tail _ (List.mem_append_right _ (by k_mem))
      case sb => exact fun p hp => .tail _ (List.mem_append_right _ (by repeat (first | exact hp | refine List.Mem.tail _ ?_)))
      case hu => ke_room
      (repeat' (first | ((with_reducible show wpAny _ _ (exec (Stmt.For _ _ _ _ _) _) _ _ _); refine Hold.out ?_) | ((with_reducible refine consQ_next ?_)) | ((with_reducible refine consQ_ret ?_)) | ((with_reducible refine consQ_brk ?_)) | ((with_reducible refine consQ_cont ?_)) | (with_reducible ((with_reducible show wpAny _ _ (execs (_ :: _) _) _ _ _); (k_here; (try dsimp only); (try (refine gen_toks ?_; intro tk)); first | refine execs_one ?_ | refine execs_consQ ?_))) | ((with_reducible refine wpAny_execs_nil ?_)) | (((k_here; (with_reducible show wpAny _ _ (subscriptTail _ (PySem.Expr.Slice _ _ none _) (Value.ref _) (Value.ref _)) _ _ _); k_dflt (refine' kms_slice_lit ?Fzq ?Nzq ?lzq ?pzq ?qzq ?ezq ?_ ?szq ?tzq ?zzq; (case Fzq | Nzq => k_asm); (case lzq => kmk_list); (case pzq | qzq => kmk_part); (case ezq => with_reducible assumption); (case szq => with_unfolding_all rfl); (case tzq => kmk_pure); (case zzq => with_reducible assumption)); intro D' h' F' N' l1; (try k_lt l1); (try k_sweep)))) | (with_reducible ((with_reducible show wpAny _ _ (exec (PySem.Stmt.If _ _ _ _) _) _ _ _); (refine wpAny_If ?_))) | (k_unfold; (try dsimp only)) | walk1 | (dsimp only; walk1) | (leave1; walk_say "STEP leave1"; try dsimp only) | fail "no step"))
      refine Hold.mk ?_
      refine' lc_for (ps := ps8) ?hb rfl (by assumption) (by assumption) (by assumption) ?hd ?hu (by assumption) rfl SO SS okO (seen_ok okO okR) hoO2 ?N ?fin ?hE
      case hb => exact ⟨_, _, _, _, _, _, _, _, _, _, _, _, by k_is⟩
      case hd => k_room
      case hu => k_units
      case hE => passes_own
      case N => exact List.forall_mem_cons.mpr ⟨N10 _ (.tail _ (List.mem_append_right _ (by k_mem))), List.forall_mem_cons.mpr ⟨N10 _ (.tail _ (List.mem_append_right _ (by k_mem))), List.forall_mem_cons.mpr ⟨N10 _ (.tail _ (List.mem_append_right _ (by k_mem))), List.forall_mem_cons.mpr ⟨N10 _ (.tail _ (List.mem_append_right _ (by k_mem))), List.forall_mem_nil _⟩⟩⟩⟩
      case fin =>
        intro m5 h5 tk5 F5 N5
        dsimp only
        (repeat' (first | ((with_reducible refine consQ_next ?_)) | ((with_reducible refine consQ_ret ?_)) | ((with_reducible refine consQ_brk ?_)) | ((with_reducible refine consQ_cont ?_)) | (with_reducible ((with_reducible show wpAny _ _ (execs (_ :: _) _) _ _ _); (k_here; (try dsimp only); (try (refine gen_toks ?_; intro tk)); first | refine execs_one ?_ | refine execs_consQ ?_))) | ((with_reducible refine wpAny_execs_nil ?_)) | (((k_here; (with_reducible show wpAny _ _ (subscriptTail _ (PySem.Expr.Slice _ _ none _) (Value.ref _) (Value.ref _)) _ _ _); k_dflt (refine' kms_slice_lit ?Fzq ?Nzq ?lzq ?pzq ?qzq ?ezq ?_ ?szq ?tzq ?zzq; (case Fzq | Nzq => k_asm); (case lzq => kmk_list); (case pzq | qzq => kmk_part); (case ezq => with_reducible assumption); (case szq => with_unfolding_all rfl); (case tzq => kmk_pure); (case zzq => with_reducible assumption)); intro D' h' F' N' l1; (try k_lt l1); (try k_sweep)))) | (with_reducible ((with_reducible show wpAny _ _ (exec (PySem.Stmt.If _ _ _ _) _) _ _ _); (refine wpAny_If ?_))) | (k_unfold; (try dsimp only)) | walk1 | (dsimp only; walk1) | (leave1; walk_say "STEP leave1"; try dsimp only) | fail "no step"))
        all_goals exact hfin _ _ _ _ ps8 AB8 F5.keep (N5.get (.head _))
end
/-- a view that claims of no def anything: what stands behind the names is K's word -/
noncomputable def vwE : Program := { PySem.Challenge.pw_ij0133_01 with main := { PySem.Challenge.pw_ij0133_01.main with body := [.Import [⟨Str.ofString "sys", none, ⟨1, 0, 1, 0⟩⟩] ⟨1, 0, 1, 0⟩] } }
theorem vwE_recs : recsOf vwE = [] := rfl
theorem vwE_lits : litsOf vwE = [] := rfl
theorem vwE_owns : ownsOf vwE = [] := rfl
theorem vwE_clss (l : List Str) : clssOf vwE l = [] := rfl
theorem vwE_val (x : Str) : valOf vwE x = none := rfl
theorem vwE_imp : importsNone vwE = false := by decide +kernel
noncomputable def looseE (q : Program) (loose : List Str) : List Str := loose ++ ((recsOf q).map (·.name) ++ ((litsOf q).map (·.1) ++ (clssOf q loose).map (·.name)))
theorem top_hide {q : Program} {loose : List Str} {mean : ExcName → Option Value} {mg mb : Str → Option Value} {h : Heap} {ps : Array Value} (T : Top q loose mean mg mb h) (hP : h.get? 753 = some (tabObj ps)) : Top vwE (looseE q loose) mean mg mb (hideAll h [753]) := by
  have hx : Heap.ExtBut 753 h (hideAll h [753]) := fun b o hb e => hideAll_get _ e (by simpa using hb)
  refine ⟨T.g.extBut hx (by decide), T.b.extBut hx (by decide), T.nolimit.extBut hx (by decide), ?_, ?_, ?_, ?_, ?_, T.builtins, ?_, ?_, ?_⟩
  · obtain ⟨mc, h1, h2⟩ := T.nodigits
    exact ⟨mc, h1.extBut hx (by decide), h2⟩
  · intro d hd; rw [vwE_recs] at hd; cases hd
  · intro d hd; rw [vwE_owns] at hd; cases hd
  · intro x d hd; rw [vwE_val] at hd; cases hd
  · intro x h1 h2 _ _ _
    refine T.free x h1 (fun z => h2 ?_) (fun z => h2 ?_) (fun z => h2 ?_) (fun z => h2 ?_)
    · exact List.mem_append_left _ z
    · exact List.mem_append_right _ (List.mem_append_left _ z)
    · exact List.mem_append_right _ (List.mem_append_right _ (List.mem_append_left _ z))
    · exact List.mem_append_right _ (List.mem_append_right _ (List.mem_append_right _ z))
  · intro d hd; rw [vwE_recs] at hd; cases hd
  · obtain ⟨bm, ob, a, b, c, d, e, f⟩ := T.bmain
    refine ⟨bm, ob, a, b, hx _ _ (fun z => ?_) c, d, e, f⟩
    rw [z, hP] at c
    cases c
    exact absurd d (by simp)
  · intro z; rw [vwE_imp] at z; cases z
theorem no753 (w : World) : List.lookup 753 (Mine.K w.params) = none := by kernel_rfl!
theorem in_hide {w : World} {h : Heap} (X : (Mine.K w.params).In h) : (Mine.K w.params).In (hideAll h [753]) := fun a o e => by
  refine hideAll_get _ (X a o e) (fun z => ?_)
  rw [List.mem_singleton.mp z, no753] at e
  cases e
theorem tab_start {w : World} {q : Program} (h1 : ∃ d, (recsOf q).find? (fun e => e.name == Str.ofString "join") = some d) {loose : List Str} {mean : ExcName → Option Value} {mg mb : Str → Option Value} {h : Heap} (T : Top q loose mean mg mb h) (X : (Mine.K w.params).In h) : CodeTab h 757 753 #[] := by
  obtain ⟨d, hd⟩ := h1
  have hn : d.name = Str.ofString "join" := by
    have := List.find?_some hd
    exact eq_of_beq this
  obtain ⟨a, o, fd, c, P, e1, e2, e3, e4, e5, e6⟩ := T.tab d (List.mem_of_find?_eq_some hd)
  have g1 : nsIn (Mine.K w.params) mainGlobals (Str.ofString "join") = some (some (.ref 758)) := by k_is
  rw [hn, mg_of X T.g g1] at e1
  cases e1
  have z : ∃ oc od name qual params body scope dV kV doc pm an ct osl, List.lookup 758 (Mine.K w.params) = some ⟨oc, od, .func (fnOf name qual params body scope dV kV doc pm an (.ref 757) ct), osl⟩ := ⟨_, _, _, _, _, _, _, _, _, _, _, _, _, _, by k_is⟩
  obtain ⟨oc, od, name, qual, params, body, scope, dV, kV, doc, pm, an, ct, osl, z⟩ := z
  have z1 := X _ _ z
  rw [e2] at z1
  cases z1
  cases e3
  cases e4
  have y : ∃ oc od vs osl, List.lookup 757 (Mine.K w.params) = some ⟨oc, od, .fields vs, osl⟩ ∧ vs[11]? = some (.ref 753) := ⟨_, _, _, _, by k_is, rfl⟩
  obtain ⟨oc', od', vs, osl', y, y2⟩ := y
  have y1 := X _ _ y
  obtain ⟨⟨o, vs', f1, f2, f3, f4⟩, f5⟩ := id e6
  rw [f1] at y1
  cases y1
  cases f3
  rw [y2] at f4
  cases f4
  exact ⟨e5, e6⟩
theorem old_end {h h2 : Heap} {ps' : Array Value} (CT : CodeTab h 757 753 #[]) (k : ∀ b o, (hideAll h [753]).get? b = some o → h2.get? b = some o) (h753 : h2.get? 753 = some (tabObj ps')) : OldK h h2 := by
  have kk : ∀ b o, b ≠ 753 → h.get? b = some o → h2.get? b = some o := fun b o hb e => k b o (hideAll_get _ e (by simpa using hb))
  refine ⟨fun b o e => ?_, fun b o e => ?_⟩
  · by_cases hb : b = 753
    · subst hb
      rw [CT.2.2] at e
      cases e
      exact .inr (.inl ⟨CT.2.isCodeTable, rfl, #[], ps', rfl, by rw [Array.empty_append]; exact h753⟩)
    · exact .inl (kk b o hb e)
  · by_cases hb : b = 753
    · subst hb
      exact ⟨_, h753⟩
    · exact ⟨o, kk b o hb e⟩
theorem good_end {c : ClaimW} {cl : Str → Option Addr} {mean : ExcName → Option Value} {args : List WData} {s₁ s' : Shared} (O : OldK s₁.heap s'.heap) (hr : ∀ cls, c.raises args cls = false) (hp : c.post args (.bool true) args = true) (hos : s'.os = s₁.os) (hb : AllBare s'.gens) : GoodWG c cl mean args s₁ (.ok (.ret (.bool true))) s' :=
  ⟨.inl ⟨_, _, [], rfl, hr, ReadsW.bool true, hp, fun _ => ⟨List.nodup_nil, fun _ hm => (nomatch hm)⟩⟩, O, hos, hb⟩
theorem fr_hide {h h₁ : Heap} {L : Addr} {m : Str → Option Value} (F : Fr h L h₁ m) : Fr (hideAll h [753]) L h₁ m := ⟨F.ns, fun b o e => F.keep b o (of_hideAll _ e), by rw [hideAll_size]; exact F.above⟩
theorem none_hide {h : Heap} {b : Addr} (e : h.get? b = none) : (hideAll h [753]).get? b = none := by
  cases q : (hideAll h [753]).get? b with
  | none => rfl
  | some o => rw [of_hideAll _ q] at e; cases e
set_option Elab.async true in
set_option maxRecDepth 100000 in
set_option maxHeartbeats 8000000 in
theorem top : PySem.Challenge.rw_ij0133_01.Holds := by
  w_on
  o_law
  o_head (kHook Mine.K [2, 3, 38, 40, 41, 43, 44, 45, 47, 48, 50, 51, 55, 56, 57, 59, 60, 62, 63, 64, 66, 67, 69, 70, 71, 78, 79, 80, 81, 91, 93, 94, 96, 97, 98, 99, 100, 101, 102, 103, 106, 113, 114, 115, 118, 125, 126, 127, 130, 137, 138, 140, 141, 143, 144, 145, 147, 148, 150, 151, 152, 154, 155, 157, 158, 159, 161, 162, 164, 165, 166, 167, 169, 170, 172, 173, 174, 176, 177, 179, 180, 181, 183, 184, 186, 187, 188, 190, 191, 193, 194, 195, 197, 198, 200, 201, 202, 204, 205, 207, 208, 209, 211, 212, 214, 215, 216, 218, 219, 221, 222, 223, 225, 226, 228, 229, 230, 232, 233, 235, 236, 237, 239, 240, 242, 243, 244, 246, 247, 249, 250, 251, 253, 254, 256, 257, 258, 259, 261, 262, 264, 265, 266, 267, 269, 270, 272, 273, 274, 275, 277, 278, 280, 281, 282, 283, 285, 286, 288, 289, 290, 292, 293, 295, 296, 297, 299, 300, 302, 303, 304, 305, 307, 308, 310, 311, 312, 313, 315, 316, 318, 319, 320, 322, 323, 325, 326, 327, 329, 330, 332, 333, 334, 336, 337, 339, 340, 341, 343, 344, 346, 347, 348, 350, 351, 353, 354, 355, 356, 357, 360, 367, 368, 370, 371, 373, 374, 375, 377, 378, 380, 381, 382, 384, 385, 387, 388, 389, 391, 392, 394, 395, 396, 398, 399, 401, 402, 403, 405, 406, 408, 409, 410, 411, 413, 414, 416, 417, 418, 419, 421, 422, 424, 425, 426, 427, 429, 430, 432, 433, 434, 435, 437, 438, 440, 441, 442, 443, 445, 446, 448, 449, 450, 452, 453, 455, 456, 457, 459, 460, 462, 463, 464, 466, 467, 469, 470, 471, 473, 474, 476, 477, 478, 480, 481, 483, 484, 485, 487, 488, 490, 491, 492, 494, 495, 497, 498, 499, 501, 502, 504, 505, 506, 508, 509, 511, 512, 513, 515, 516, 518, 519, 520, 522, 523, 525, 526, 527, 528, 530, 531, 533, 534, 535, 536, 538, 539, 541, 542, 543, 544, 546, 547, 549, 550, 551, 552, 554, 555, 557, 558, 559, 560, 562, 563, 565, 566, 567, 569, 570, 572, 573, 574, 576, 577, 579, 580, 581, 583, 584, 586, 587, 588, 590, 591, 593, 594, 595, 597, 598, 600, 601, 602, 603, 604, 607, 609, 610, 612, 613, 614, 616, 617, 619, 620, 621, 623, 624, 626, 627, 628, 630, 631, 633, 634, 635, 637, 638, 640, 641, 642, 644, 645, 647, 648, 656, 657, 659, 660, 662, 663, 664, 666, 667, 669, 670, 671, 672, 674, 675, 677, 678, 679, 680, 682, 683, 685, 686, 687, 689, 690, 692, 693, 694, 696, 697, 699, 700, 701, 703, 704, 706, 707, 708, 710, 711, 713, 714, 715, 716, 718, 719, 721, 722, 723, 725, 726, 728, 729, 730, 732, 733, 735, 736, 737, 738, 739, 740, 741, 744, 745, 747, 748, 750, 751, 752, 754, 755, 757, 758, 759, 760, 762, 763, 765, 766, 767, 769, 770, 772, 773, 774, 776, 777, 779, 780, 781, 783, 784, 786, 787, 788, 790, 791, 793, 794, 795, 797, 798, 800, 801, 802, 805, 806] (fun _ => by kernel_rfl))
  (case hw => w_witness2)
  k_fill
  intro w s₀ s₁ mg mb G Y fa o pm cd doc dV kV ho hd hcd hD hmg hg args vals as hpre hlay hrd hwl hlo
  have KX := kIn_of Y
  have X := (Ground.X G).1
  have V := (Ground.X G).2
  refine Ground.open G ?_
  intro T B D TE TW
  clear TE TW B V X
  wrow_args hpre hlay hrd hwl hlo
  all_goals (
    first | refine callC_kw (enter_call ?_) | refine enter_call ?_
    w_top on
    have K0 := below_caller (Top.heap T)
    w_call any ho hd hcd hD T F)
  clear hd hD hmg hcd ho
  rename_i hcond _ _ _ oK oO hoK hoO N0 _
  have CT := tab_start ⟨_, rfl⟩ T KX
  have T2 := top_hide T CT.2.2
  have X2 := in_hide KX
  have h753 : @LT.lt Nat _ 753 s₁.heap.objs.size := Heap.lt_size CT.2.2
  have TK : TabOk (hideAll s₁.heap [753]) #[] := fun h k e => CT.keep2 (fun o q => k _ _ (hideAll_get _ q (by decide))) (fun o q => by rw [CT.2.2] at q; cases q; exact e)
  have N1 : News (hideAll s₁.heap [753]) s₁.heap.objs.size _ [(s₁.heap.objs.size + 1 + 1, oK), (s₁.heap.objs.size + 1, oO), (753, tabObj #[])] := List.forall_mem_cons.mpr ⟨⟨(N0 _ (.head _)).1, (N0 _ (.head _)).2.1, none_hide (N0 _ (.head _)).2.2⟩, List.forall_mem_cons.mpr ⟨⟨(N0 _ (.tail _ (.head _))).1, (N0 _ (.tail _ (.head _))).2.1, none_hide (N0 _ (.tail _ (.head _))).2.2⟩, List.forall_mem_cons.mpr ⟨⟨F.keep _ _ CT.2.2, Nat.ne_of_lt h753, hideAll_none _ (.head _)⟩, List.forall_mem_nil _⟩⟩⟩
  have hb : ∃ oc od name qual params body scope dV kV doc pm an cdv ct osl, List.lookup 806 (Mine.K w.params) = some ⟨oc, od, .func (fnOf name qual params body scope dV kV doc pm an cdv ct), osl⟩ := ⟨_, _, _, _, _, _, _, _, _, _, _, _, _, _, _, by k_is⟩
  have F2 := fr_hide F
  rename_i ns _ _ _ _ _ _ SC vs _ hSC _ _ _ hIA _ hlen _ _ _
  have hSC2 : (hideAll s₁.heap [753]).IsList SC vs.toArray := by
    obtain ⟨o', e, c, d⟩ := hSC
    refine ⟨o', hideAll_get _ e (fun z => ?_), c, d⟩
    rw [List.mem_singleton.mp z, CT.2.2] at e
    cases e
    exact absurd c (by simp)
  refine' law_body (vw := vwE) ?hb ?hcl (below_caller _) X2 T2 X2 T2 ?hd ?hu F2 ?f1 hSC2 hIA ?hvs hoO hoK TK (.of_eq hg) N1 ?n1 ?n2 ?n3 ?fin ?hE
  case hb => exact ⟨_, _, _, _, _, _, _, _, _, _, _, _, by k_is⟩
  case hcl => rfl
  case hd => decide +kernel
  case hu => decide +kernel
  case f1 => rfl
  case hvs => have := hIA.length; omega
  case n1 => exact Nat.ne_of_lt (Nat.lt_succ_self _)
  case n2 => exact Nat.ne_of_lt (by omega)
  case n3 => exact Nat.ne_of_lt (by omega)
  case hE => passes_own
  case fin =>
    intro h2 gs dr tk ps' AB' keep h753'
    exact good_end (old_end CT keep h753') (fun _ => rfl) (by first | rfl | wrow_post) rfl AB'
end Mine
theorem PySem.Challenge.cw_ij0133_01_holds : PySem.Challenge.rw_ij0133_01.Holds := by
  exact Mine.top
